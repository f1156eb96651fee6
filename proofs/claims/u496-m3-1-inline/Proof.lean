import JvmDerived
import JvmDerived.Pilot.@@N@@Statement
import JvmDerived.Pilot.@@N@@Code
set_option linter.unusedVariables false
set_option linter.unusedSimpArgs false
/- laws to paste: Road.backV, Road.lenW, Road.chN, Road.eqW, Road.codOf (cut by pick.py; bodies as the Statement names them) -/
namespace Jvm.Pilot.@@N@@
namespace StrChars
open Jvm Sem ClassFile Op Lib Jvm.Stand Jvm.Free.XT Jvm.Free.ALB Jvm.Free.JM Jvm.Free
open Jvm.Lib.Cold (StaticIs)
/-- a char array whose places are chars -/
def Ch (a : Addr) (A : Cell) (U : State) : Prop := Arr .char a A U ∧ Typed .char A
theorem Ch.mv {a : Addr} {A : Cell} {U U' : State} (h : Ch a A U) (hal : U.vm.Alike U'.vm) (hh : U'.heap = U.heap) : Ch a A U' := ⟨h.1.mv hal hh, h.2⟩
theorem Ch.keep {a : Addr} {A : Cell} {U U' : State} (h : Ch a A U) (hal : U.vm.Alike U'.vm) (hk : U'.heap[a]? = some A) : Ch a A U' := ⟨h.1.keep hal hk, h.2⟩
/-- what place i of a char[]'s cell holds -/
def cv (A : Cell) (i : Nat) : Int32 := match A.slots[i]? with | some (.int x) => x | _ => 0
theorem Ch.get {a : Addr} {A : Cell} {U : State} (h : Ch a A U) {i : Nat} (hi : i < A.slots.size) : A.slots[i]? = some (.int (cv A i)) := by
  have e := Array.getElem?_eq_getElem hi
  have f := h.2 i _ e
  unfold cv; rw [e]
  generalize A.slots[i] = v at f
  cases v <;> simp [fits] at f ⊢
/-- the byte that i2b leaves of a char -/
def lo8 (x : Int32) : Int32 := x.toInt8.toInt32
theorem fits_lo8 (y : Int32) : fits .byte (.int (lo8 y)) = true := by
  have h1 := y.toInt8.le_toInt
  have h2 := y.toInt8.toInt_lt
  simp only [lo8, fits, Bool.and_eq_true, decide_eq_true_eq, Int32.le_iff_toInt_le, Int8.toInt_toInt32, show (-128 : Int32).toInt = -128 from by decide, show (127 : Int32).toInt = 127 from by decide]
  omega
/-- A' is A but that each place j of lo .. hi - 1 holds f j -/
def Laid (A A' : Cell) (lo hi : Nat) (f : Nat → Value) : Prop := A'.cls = A.cls ∧ A'.vm = A.vm ∧ A'.slots.size = A.slots.size ∧ ∀ i, A'.slots[i]? = if lo ≤ i ∧ i < hi then some (f i) else A.slots[i]?
theorem Laid.zero (A : Cell) (lo : Nat) (f : Nat → Value) : Laid A A lo (lo + 0) f := ⟨rfl, rfl, rfl, fun i => by rw [if_neg (by omega)]⟩
theorem Laid.step {A Ak : Cell} {lo k : Nat} {f : Nat → Value} {v : Value} (h : Laid A Ak lo k f) (hlo : lo ≤ k) (hk : k < Ak.slots.size) (hv : v = f k) : Laid A (Ak.setSlot k v) lo (k + 1) f := by
  refine ⟨h.1, h.2.1, by simpa [Cell.setSlot] using h.2.2.1, fun i => ?_⟩
  by_cases e : k = i
  · subst e; rw [Cell.slots_setSlot_self v hk, if_pos (by omega), hv]
  · rw [Cell.slots_setSlot_ne v e, h.2.2.2 i]
    by_cases q : lo ≤ i ∧ i < k
    · rw [if_pos q, if_pos (by omega)]
    · rw [if_neg q, if_neg (by omega)]
def U16 : String := "java/lang/StringUTF16"
namespace Cmp5
def yN : MethodName := ⟨"java/lang/StringUTF16", "compress", "([CI[BII)I"⟩
abbrev yB : ByteArray := jdk_52_method_21_code
theorem d0 : decode yB 0 = .ok (.iconst 0, 1) := by decide +kernel
theorem d1 : decode yB 1 = .ok (.istore 5, 2) := by decide +kernel
theorem d3 : decode yB 3 = .ok (.iload 5, 2) := by decide +kernel
theorem d5 : decode yB 5 = .ok (.iload 4, 2) := by decide +kernel
theorem d7 : decode yB 7 = .ok (.if_icmp (.ge) 37, 3) := by decide +kernel
theorem d10 : decode yB 10 = .ok (.aload_n 0, 1) := by decide +kernel
theorem d11 : decode yB 11 = .ok (.iload_n 1, 1) := by decide +kernel
theorem d12 : decode yB 12 = .ok (.caload, 1) := by decide +kernel
theorem d13 : decode yB 13 = .ok (.istore 6, 2) := by decide +kernel
theorem d15 : decode yB 15 = .ok (.iload 6, 2) := by decide +kernel
theorem d17 : decode yB 17 = .ok (.sipush 255, 3) := by decide +kernel
theorem d20 : decode yB 20 = .ok (.if_icmp (.le) 6, 3) := by decide +kernel
theorem d26 : decode yB 26 = .ok (.aload_n 2, 1) := by decide +kernel
theorem d27 : decode yB 27 = .ok (.iload_n 3, 1) := by decide +kernel
theorem d28 : decode yB 28 = .ok (.iload 6, 2) := by decide +kernel
theorem d30 : decode yB 30 = .ok (.i2b, 1) := by decide +kernel
theorem d31 : decode yB 31 = .ok (.bastore, 1) := by decide +kernel
theorem d32 : decode yB 32 = .ok (.iinc 1 1, 3) := by decide +kernel
theorem d35 : decode yB 35 = .ok (.iinc 3 1, 3) := by decide +kernel
theorem d38 : decode yB 38 = .ok (.iinc 5 1, 3) := by decide +kernel
theorem d41 : decode yB 41 = .ok (.goto (-38), 3) := by decide +kernel
theorem d44 : decode yB 44 = .ok (.iload 4, 2) := by decide +kernel
theorem d46 : decode yB 46 = .ok (.ireturn, 1) := by decide +kernel
def site : List Cond := []
def tab : Cond := tabOf yN yB 7 (some .int) site
def P (b : Addr) (A : Cell) (d : Addr) (B : Cell) (o q len : Nat) (args : Array Value) (s : State) : Prop := args = #[.ref b, .int (Int32.ofNat o), .ref d, .int (Int32.ofNat q), .int (Int32.ofNat len)] ∧ Ch b A s ∧ Arr .byte d B s ∧ b ≠ d ∧ o + len ≤ A.slots.size ∧ q + len ≤ B.slots.size ∧ ∀ i, i < len → ¬ 255 < cv A (o + i)
def E (b : Addr) (A : Cell) (d : Addr) (B : Cell) (o q len : Nat) (r : Option Value) (s u : State) : Prop := r = some (.int (Int32.ofNat len)) ∧ ∃ B', Put d B' s u ∧ Laid B B' q (q + len) (fun j => Value.int (lo8 (cv A (o + (j - q)))))
/-- no char of the range above 255: len; the places written hold each char's low byte -/
theorem law (l : Launch) (b : Addr) (A : Cell) (d : Addr) (B : Cell) (o q len : Nat) : Law l yN 5 5 0 0 yB 7 (some .int) site (P b A d B o q len) (E b A d B o q len) (copyLocs d q len) 0 0 := by
  refine Law.of_walk (plainFor_of_name (by decide +kernel)) (by decide +kernel) (by decide +kernel) (by decide) (fun _ _ h => by rw [h.1]; rfl) (fun _ U U' hal hh h => ⟨h.1, h.2.1.mv hal hh, h.2.2.1.mv hal hh, h.2.2.2⟩) (fun r U U' V V' h1 hal h2 h => ⟨h.1, h.2.elim fun B' q => ⟨B', q.1.mv h1 h2, q.2⟩⟩) ?_
  intro p e s m args below meth c s₁ X0 hexec hbytes hml hret hlk hnm hown hh0 W hP
  obtain ⟨rfl, hA, hB, hne, l1, l2, hp⟩ := hP
  have c1 : Steps p.tables e below (s₁.setTop (entryFrame m #[.ref b, .int (Int32.ofNat o), .ref d, .int (Int32.ofNat q), .int (Int32.ofNat len)] 7)) (s₁.setTop (mkF m 0 #[.val (.ref b), .val (.int (Int32.ofNat o)), .val (.ref d), .val (.int (Int32.ofNat q)), .val (.int (Int32.ofNat len)), .unset, .unset] [])) := entry rfl
  have hA0 := hA.1.mv X0.warmed.alike hh0
  have hB0 := hB.mv X0.warmed.alike hh0
  have a31 := hA.1.2.2.2
  have c2 : Steps p.tables e below (s₁.setTop (entryFrame m #[.ref b, .int (Int32.ofNat o), .ref d, .int (Int32.ofNat q), .int (Int32.ofNat len)] 7)) (s₁.setTop (mkF m 3 #[.val (.ref b), .val (.int (Int32.ofNat o)), .val (.ref d), .val (.int (Int32.ofNat q)), .val (.int (Int32.ofNat len)), .val (.int 0), .unset] [])) := c1.trans (by
    refine iconstV X0.here hexec rfl 0 (hb hbytes d0) (by decide) ?_
    refine XS.istore X0.here hexec rfl (hb hbytes d1) rfl rfl ?_
    exact Steps.refl _)
  have loop : ∀ (r i : Nat), i + r = len → ∀ (z : Slot), (z = .unset ∨ ∃ w, z = .val w ∧ w.category = 1) → ∀ (Tl : State) (Bk : Cell), Stand p l e { frames := 0, locals := 0, cells := 0, slots := 0 } s m #[.ref b, .int (Int32.ofNat o), .ref d, .int (Int32.ofNat q), .int (Int32.ofNat len)] below meth c Tl ([] ++ copyLocs d q i) 0 0 → Put d Bk s₁ Tl → Laid B Bk q (q + i) (fun j => Value.int (lo8 (cv A (o + (j - q))))) →
      Steps p.tables e below (s₁.setTop (entryFrame m #[.ref b, .int (Int32.ofNat o), .ref d, .int (Int32.ofNat q), .int (Int32.ofNat len)] 7)) (Tl.setTop (mkF m 3 #[.val (.ref b), .val (.int (Int32.ofNat (o + i))), .val (.ref d), .val (.int (Int32.ofNat (q + i))), .val (.int (Int32.ofNat len)), .val (.int (Int32.ofNat i)), z] [])) → ∃ (T' : State) (B' : Cell) (z' : Slot), Stand p l e { frames := 0, locals := 0, cells := 0, slots := 0 } s m #[.ref b, .int (Int32.ofNat o), .ref d, .int (Int32.ofNat q), .int (Int32.ofNat len)] below meth c T' ([] ++ copyLocs d q len) 0 0 ∧ Put d B' s₁ T' ∧ Laid B B' q (q + len) (fun j => Value.int (lo8 (cv A (o + (j - q))))) ∧
      Steps p.tables e below (s₁.setTop (entryFrame m #[.ref b, .int (Int32.ofNat o), .ref d, .int (Int32.ofNat q), .int (Int32.ofNat len)] 7)) (T'.setTop (mkF m 3 #[.val (.ref b), .val (.int (Int32.ofNat (o + len))), .val (.ref d), .val (.int (Int32.ofNat (q + len))), .val (.int (Int32.ofNat len)), .val (.int (Int32.ofNat len)), z'] [])) := by
    intro r
    induction r with
    | zero =>
      intro i hi z hz Tl Bk Xl pl fl cl
      have hil : i = len := by omega
      rw [hil] at Xl fl cl
      exact ⟨Tl, Bk, z, Xl, pl, fl, cl⟩
    | succ r ih =>
      intro i hi z hz Tl Bk Xl pl fl cl
      have all := X0.warmed.alike.symm.trans Xl.warmed.alike
      have hAl := hA0.keep all (pl.other hne hA0.1)
      have hBk := hB0.like all pl.1 fl.1 fl.2.1 fl.2.2.1
      have hlt : q + i < Bk.slots.size := by rw [fl.2.2.1]; omega
      have c3 : Steps p.tables e below (s₁.setTop (entryFrame m #[.ref b, .int (Int32.ofNat o), .ref d, .int (Int32.ofNat q), .int (Int32.ofNat len)] 7)) (Tl.setTop (mkF m 12 #[.val (.ref b), .val (.int (Int32.ofNat (o + i))), .val (.ref d), .val (.int (Int32.ofNat (q + i))), .val (.int (Int32.ofNat len)), .val (.int (Int32.ofNat i)), z] [.int (Int32.ofNat (o + i)), .ref b])) := cl.trans (by
        refine XS.iload Xl.here hexec rfl (hb hbytes d3) rfl ?_
        refine XS.iload Xl.here hexec rfl (hb hbytes d5) rfl ?_
        refine XS.icmpNo Xl.here hexec rfl (hb hbytes d7) rfl (ii_ge_f (lt32 (by omega) (by omega))) ?_
        refine XS.aloadN Xl.here hexec rfl (hb hbytes d10) rfl rfl ?_
        refine XS.iloadN Xl.here hexec rfl (hb hbytes d11) rfl ?_
        exact Steps.refl _)
      have c4 : Steps p.tables e below (s₁.setTop (entryFrame m #[.ref b, .int (Int32.ofNat o), .ref d, .int (Int32.ofNat q), .int (Int32.ofNat len)] 7)) (Tl.setTop (mkF m 13 #[.val (.ref b), .val (.int (Int32.ofNat (o + i))), .val (.ref d), .val (.int (Int32.ofNat (q + i))), .val (.int (Int32.ofNat len)), .val (.int (Int32.ofNat i)), z] [.int (cv A (o + i))])) := c3.trans (by
        refine Xl.aget hexec hAl rfl (hA.get (i := o + i) (by omega)) rfl rfl (hb hbytes d12) ?_
        exact Steps.refl _)
      have c5 : Steps p.tables e below (s₁.setTop (entryFrame m #[.ref b, .int (Int32.ofNat o), .ref d, .int (Int32.ofNat q), .int (Int32.ofNat len)] 7)) (Tl.setTop (mkF m 15 #[.val (.ref b), .val (.int (Int32.ofNat (o + i))), .val (.ref d), .val (.int (Int32.ofNat (q + i))), .val (.int (Int32.ofNat len)), .val (.int (Int32.ofNat i)), .val (.int (cv A (o + i)))] [])) := c4.trans (by
        refine XS.istoreS Xl.here hexec rfl (hb hbytes d13) rfl rfl hz ?_
        exact Steps.refl _)
      have c6 : Steps p.tables e below (s₁.setTop (entryFrame m #[.ref b, .int (Int32.ofNat o), .ref d, .int (Int32.ofNat q), .int (Int32.ofNat len)] 7)) (Tl.setTop (mkF m 31 #[.val (.ref b), .val (.int (Int32.ofNat (o + i))), .val (.ref d), .val (.int (Int32.ofNat (q + i))), .val (.int (Int32.ofNat len)), .val (.int (Int32.ofNat i)), .val (.int (cv A (o + i)))] [.int (lo8 (cv A (o + i))), .int (Int32.ofNat (q + i)), .ref d])) := c5.trans (by
        refine XS.iload Xl.here hexec rfl (hb hbytes d15) rfl ?_
        refine sipushV Xl.here hexec rfl 255 (hb hbytes d17) (by decide) ?_
        refine XS.icmpYes Xl.here hexec rfl (pc0 := 20) rfl (hb hbytes d20) rfl (ii_le_t (hp i (by omega))) (by decide) rfl ?_
        refine XS.aloadN Xl.here hexec rfl (hb hbytes d26) rfl rfl ?_
        refine XS.iloadN Xl.here hexec rfl (hb hbytes d27) rfl ?_
        refine XS.iload Xl.here hexec rfl (hb hbytes d28) rfl ?_
        refine i2b Xl.here hexec rfl (hb hbytes d30) rfl ?_
        exact Steps.refl _)
      obtain ⟨T7, X7, p7, st7⟩ := Xl.aput hexec hBk rfl hlt rfl (fits_lo8 (cv A (o + i))) (g := (mkF m 31 #[.val (.ref b), .val (.int (Int32.ofNat (o + i))), .val (.ref d), .val (.int (Int32.ofNat (q + i))), .val (.int (Int32.ofNat len)), .val (.int (Int32.ofNat i)), .val (.int (cv A (o + i)))] [.int (lo8 (cv A (o + i))), .int (Int32.ofNat (q + i)), .ref d])) rfl (rest := []) rfl (hb hbytes d31)
      have c8 : Steps p.tables e below (s₁.setTop (entryFrame m #[.ref b, .int (Int32.ofNat o), .ref d, .int (Int32.ofNat q), .int (Int32.ofNat len)] 7)) (T7.setTop (mkF m 32 #[.val (.ref b), .val (.int (Int32.ofNat (o + i))), .val (.ref d), .val (.int (Int32.ofNat (q + i))), .val (.int (Int32.ofNat len)), .val (.int (Int32.ofNat i)), .val (.int (cv A (o + i)))] [])) := c6.trans (st7 _ (Steps.refl _))
      have c9 : Steps p.tables e below (s₁.setTop (entryFrame m #[.ref b, .int (Int32.ofNat o), .ref d, .int (Int32.ofNat q), .int (Int32.ofNat len)] 7)) (T7.setTop (mkF m 3 #[.val (.ref b), .val (.int (Int32.ofNat (o + i) + 1)), .val (.ref d), .val (.int (Int32.ofNat (q + i) + 1)), .val (.int (Int32.ofNat len)), .val (.int (Int32.ofNat i + 1)), .val (.int (cv A (o + i)))] [])) := c8.trans (by
        refine iincV X7.here hexec rfl 1 (hb hbytes d32) (by decide) rfl rfl ?_
        refine iincV X7.here hexec rfl 1 (hb hbytes d35) (by decide) rfl rfl ?_
        refine iincV X7.here hexec rfl 1 (hb hbytes d38) (by decide) rfl rfl ?_
        refine XS.goto X7.here hexec rfl (pc0 := 41) rfl (hb hbytes d41) (by decide) rfl ?_
        exact Steps.refl _)
      have c10 : Steps p.tables e below (s₁.setTop (entryFrame m #[.ref b, .int (Int32.ofNat o), .ref d, .int (Int32.ofNat q), .int (Int32.ofNat len)] 7)) (T7.setTop (mkF m 3 #[.val (.ref b), .val (.int (Int32.ofNat (o + (i + 1)))), .val (.ref d), .val (.int (Int32.ofNat (q + (i + 1)))), .val (.int (Int32.ofNat len)), .val (.int (Int32.ofNat (i + 1))), .val (.int (cv A (o + i)))] [])) := by
        have := c9
        rw [succ32, succ32, succ32] at this
        exact this
      exact ih (i + 1) (by omega) _ (Or.inr ⟨_, rfl, rfl⟩) T7 _ (by rw [copyLocs_step, ← List.append_assoc]; exact X7) (pl.trans p7) (fl.step (by omega) hlt (by simp)) c10
  obtain ⟨T9, B9, z9, X9, p9, f9, g9⟩ := loop len 0 (by omega) .unset (Or.inl rfl) s₁ B (by simpa [copyLocs] using X0) ⟨hB0.1, fun _ _ => rfl, rfl⟩ (Laid.zero _ _ _) c2
  have c11 : Steps p.tables e below (s₁.setTop (entryFrame m #[.ref b, .int (Int32.ofNat o), .ref d, .int (Int32.ofNat q), .int (Int32.ofNat len)] 7)) (T9.setTop (mkF m 46 #[.val (.ref b), .val (.int (Int32.ofNat (o + len))), .val (.ref d), .val (.int (Int32.ofNat (q + len))), .val (.int (Int32.ofNat len)), .val (.int (Int32.ofNat len)), z9] [.int (Int32.ofNat len)])) := g9.trans (by
    refine XS.iload X9.here hexec rfl (hb hbytes d3) rfl ?_
    refine XS.iload X9.here hexec rfl (hb hbytes d5) rfl ?_
    refine XS.icmpYes X9.here hexec rfl (pc0 := 7) rfl (hb hbytes d7) rfl (ii_ge_t (nlt32 (by omega) (Nat.le_refl _))) (by decide) rfl ?_
    refine XS.iload X9.here hexec rfl (hb hbytes d44) rfl ?_
    exact Steps.refl _)
  exact ⟨T9, some (.int (Int32.ofNat len)), _, _, _, X9, by simp, rfl, rfl, (fun h => by cases h), ⟨rfl, B9, p9.from hh0, f9⟩, fun fs hl => c11.trans (X9.ireturnOut hexec hret rfl (Or.inl rfl) (hb hbytes d46) hl)⟩
end Cmp5
namespace Cmp3
def yN : MethodName := ⟨"java/lang/StringUTF16", "compress", "([CII)[B"⟩
abbrev yB : ByteArray := jdk_52_method_16_code
theorem d0 : decode yB 0 = .ok (.iload_n 2, 1) := by decide +kernel
theorem d1 : decode yB 1 = .ok (.newarray .byte, 2) := by decide +kernel
theorem d3 : decode yB 3 = .ok (.astore_n 3, 1) := by decide +kernel
theorem d4 : decode yB 4 = .ok (.aload_n 0, 1) := by decide +kernel
theorem d5 : decode yB 5 = .ok (.iload_n 1, 1) := by decide +kernel
theorem d6 : decode yB 6 = .ok (.aload_n 3, 1) := by decide +kernel
theorem d7 : decode yB 7 = .ok (.iconst 0, 1) := by decide +kernel
theorem d8 : decode yB 8 = .ok (.iload_n 2, 1) := by decide +kernel
theorem d9 : decode yB 9 = .ok (.invokestatic 115, 3) := by decide +kernel
theorem d12 : decode yB 12 = .ok (.istore 4, 2) := by decide +kernel
theorem d14 : decode yB 14 = .ok (.iload 4, 2) := by decide +kernel
theorem d16 : decode yB 16 = .ok (.iload_n 2, 1) := by decide +kernel
theorem d17 : decode yB 17 = .ok (.if_icmp (.eq) 40, 3) := by decide +kernel
theorem d57 : decode yB 57 = .ok (.aload_n 3, 1) := by decide +kernel
theorem d58 : decode yB 58 = .ok (.areturn, 1) := by decide +kernel
def site : List Cond := [.arrayClass .byte, Cmp5.tab] ++ staticW U16 115 Cmp5.yN
def tab : Cond := tabOf yN yB 6 (some (.array .byte)) site
def P (b : Addr) (A : Cell) (o len : Nat) (args : Array Value) (s : State) : Prop := args = #[.ref b, .int (Int32.ofNat o), .int (Int32.ofNat len)] ∧ Ch b A s ∧ o + len ≤ A.slots.size ∧ len ≤ 536870912 ∧ ∀ i, i < len → ¬ 255 < cv A (o + i)
def E (b : Addr) (A : Cell) (o len : Nat) (r : Option Value) (s u : State) : Prop := NewArr .byte "[B" len (fun j => .int (lo8 (cv A (o + j)))) r s u ∧ u.heap.size = s.heap.size + 1
/-- no char of the range above 255: a new byte[] of their low bytes -/
theorem law (l : Launch) (b : Addr) (A : Cell) (o len : Nat) : Law l yN 3 3 1 18 yB 6 (some (.array .byte)) site (P b A o len) (E b A o len) [] 1 len := by
  refine Law.of_walk (plainFor_of_name (by decide +kernel)) (by decide +kernel) (by decide +kernel) (by decide) (fun _ _ h => by rw [h.1]; rfl) (fun _ U U' hal hh h => ⟨h.1, h.2.1.mv hal hh, h.2.2⟩) (fun r U U' V V' h1 hal h2 h => ⟨NewArr.mv r U U' V V' h1 hal h2 h.1, by rw [h1, h2]; exact h.2⟩) ?_
  intro p e s m args below meth c s₁ X0 hexec hbytes hml hret hlk hnm hown hh0 W hP
  obtain ⟨rfl, hA, l1, l2, hp⟩ := hP
  have a31 := hA.1.2.2.2
  have c1 : Steps p.tables e below (s₁.setTop (entryFrame m #[.ref b, .int (Int32.ofNat o), .int (Int32.ofNat len)] 6)) (s₁.setTop (mkF m 0 #[.val (.ref b), .val (.int (Int32.ofNat o)), .val (.int (Int32.ofNat len)), .unset, .unset, .unset] [])) := entry rfl
  have c2 : Steps p.tables e below (s₁.setTop (entryFrame m #[.ref b, .int (Int32.ofNat o), .int (Int32.ofNat len)] 6)) (s₁.setTop (mkF m 1 #[.val (.ref b), .val (.int (Int32.ofNat o)), .val (.int (Int32.ofNat len)), .unset, .unset, .unset] [.int (Int32.ofNat len)])) := c1.trans (by
    refine XS.iloadN X0.here hexec rfl (hb hbytes d0) rfl ?_
    exact Steps.refl _)
  obtain ⟨T3, B3, X3, ba3, bs3, bv3, bh3, bf3, st3⟩ := X0.anew hexec (atype := .byte) (wk W (.arrayClass .byte)) rfl (by show len * 1 ≤ _; omega) (by omega) (g := (mkF m 1 #[.val (.ref b), .val (.int (Int32.ofNat o)), .val (.int (Int32.ofNat len)), .unset, .unset, .unset] [.int (Int32.ofNat len)])) rfl (hb hbytes d1) (rest := []) rfl (Nat.le_refl _) (by show 0 + len ≤ len; omega)
  rw [hh0] at ba3 st3
  have kp3 : XT.Kept s T3 := (XT.Kept.of_eq hh0).push bh3
  have hA3 := hA.keep X3.warmed.alike (kp3 _ _ hA.1.1)
  have hne : b ≠ s.heap.size := hA.1.ne
  have c4 : Steps p.tables e below (s₁.setTop (entryFrame m #[.ref b, .int (Int32.ofNat o), .int (Int32.ofNat len)] 6)) (T3.setTop (mkF m 3 #[.val (.ref b), .val (.int (Int32.ofNat o)), .val (.int (Int32.ofNat len)), .unset, .unset, .unset] [.ref s.heap.size])) := c2.trans (st3 _ (Steps.refl _))
  have c5 : Steps p.tables e below (s₁.setTop (entryFrame m #[.ref b, .int (Int32.ofNat o), .int (Int32.ofNat len)] 6)) (T3.setTop (mkF m 9 #[.val (.ref b), .val (.int (Int32.ofNat o)), .val (.int (Int32.ofNat len)), .val (.ref s.heap.size), .unset, .unset] [.int (Int32.ofNat len), .int 0, .ref s.heap.size, .int (Int32.ofNat o), .ref b])) := c4.trans (by
    refine XS.astoreN X3.here hexec rfl (hb hbytes d3) rfl rfl rfl ?_
    refine XS.aloadN X3.here hexec rfl (hb hbytes d4) rfl rfl ?_
    refine XS.iloadN X3.here hexec rfl (hb hbytes d5) rfl ?_
    refine XS.aloadN X3.here hexec rfl (hb hbytes d6) rfl rfl ?_
    refine iconstV X3.here hexec rfl 0 (hb hbytes d7) (by decide) ?_
    refine XS.iloadN X3.here hexec rfl (hb hbytes d8) rfl ?_
    exact Steps.refl _)
  obtain ⟨v6, T6, X6, E6, g6⟩ := X3.callS hexec (Cmp5.law l b A s.heap.size B3 o 0 len) hown (wks W (staticW U16 115 Cmp5.yN)) (wk W Cmp5.tab) (W := 0) (Nat.le_of_ble_eq_true rfl) (Nat.le_of_ble_eq_true rfl) (Nat.le_refl _) (by show 0 + len + 0 ≤ len; omega) (g := (mkF m 9 #[.val (.ref b), .val (.int (Int32.ofNat o)), .val (.int (Int32.ofNat len)), .val (.ref s.heap.size), .unset, .unset] [.int (Int32.ofNat len), .int (Int32.ofNat 0), .ref s.heap.size, .int (Int32.ofNat o), .ref b])) rfl (by rw [hml]; rfl) c5 (argsL := [.ref b, .int (Int32.ofNat o), .ref s.heap.size, .int (Int32.ofNat 0), .int (Int32.ofNat len)]) (rest := []) rfl rfl (by show 2 * 0 + 0 ≤ _; decide) (hb hbytes d9) (⟨rfl, hA3, ba3, hne, l1, by rw [bs3]; simp, hp⟩)
  obtain ⟨rfl, B6, p6, f6⟩ := E6
  have c7 : Steps p.tables e below (s₁.setTop (entryFrame m #[.ref b, .int (Int32.ofNat o), .int (Int32.ofNat len)] 6)) (T6.setTop (mkF m 12 #[.val (.ref b), .val (.int (Int32.ofNat o)), .val (.int (Int32.ofNat len)), .val (.ref s.heap.size), .unset, .unset] [.int (Int32.ofNat len)])) := g6
  have c8 : Steps p.tables e below (s₁.setTop (entryFrame m #[.ref b, .int (Int32.ofNat o), .int (Int32.ofNat len)] 6)) (T6.setTop (mkF m 58 #[.val (.ref b), .val (.int (Int32.ofNat o)), .val (.int (Int32.ofNat len)), .val (.ref s.heap.size), .val (.int (Int32.ofNat len)), .unset] [.ref s.heap.size])) := c7.trans (by
    refine XS.istore X6.here hexec rfl (hb hbytes d12) rfl rfl ?_
    refine XS.iload X6.here hexec rfl (hb hbytes d14) rfl ?_
    refine XS.iloadN X6.here hexec rfl (hb hbytes d16) rfl ?_
    refine XS.icmpYes X6.here hexec rfl (pc0 := 17) rfl (hb hbytes d17) rfl (ii_eq_t rfl) (by decide) rfl ?_
    refine XS.aloadN X6.here hexec rfl (hb hbytes d57) rfl rfl ?_
    exact Steps.refl _)
  have X8 := X6.wide (L' := []) (cells' := 1) (slots' := len) (fun x hx hlt => by
    simp only [List.nil_append, copyLocs, List.mem_map, List.mem_range] at hx
    obtain ⟨i, -, rfl⟩ := hx
    exact absurd hlt (Nat.lt_irrefl _)) (Nat.le_refl _) (by omega)
  exact ⟨T6, some (.ref s.heap.size), _, _, _, X8, rfl, rfl, rfl, (fun h => by cases h), ⟨⟨rfl, B6, ba3.like (X3.warmed.alike.symm.trans X6.warmed.alike) p6.1 f6.1 f6.2.1 f6.2.2.1, f6.2.1.trans bv3, by rw [X6.warmed.alike.findClass, f6.1]; exact bf3, by rw [f6.2.2.1, bs3]; simp, fun j hj => by rw [f6.2.2.2 j, if_pos (by omega)]; rfl, kp3.put p6 (Nat.le_refl _)⟩, by rw [p6.2.2, bh3, hh0]; simp⟩, fun fs hl => c8.trans (X8.areturnOut hexec rfl hret rfl (hb hbytes d58) hl)⟩
end Cmp3
namespace CodL
def yN : MethodName := ⟨"java/lang/StringUTF16", "coderFromArrayLen", "([BI)B"⟩
abbrev yB : ByteArray := jdk_52_method_15_code
theorem d0 : decode yB 0 = .ok (.iload_n 1, 1) := by decide +kernel
theorem d1 : decode yB 1 = .ok (.aload_n 0, 1) := by decide +kernel
theorem d2 : decode yB 2 = .ok (.arraylength, 1) := by decide +kernel
theorem d3 : decode yB 3 = .ok (.isub, 1) := by decide +kernel
theorem d4 : decode yB 4 = .ok (.bipush 31, 2) := by decide +kernel
theorem d6 : decode yB 6 = .ok (.iushr, 1) := by decide +kernel
theorem d7 : decode yB 7 = .ok (.i2b, 1) := by decide +kernel
theorem d8 : decode yB 8 = .ok (.ireturn, 1) := by decide +kernel
def site : List Cond := []
def tab : Cond := tabOf yN yB 2 (some .byte) site
def P (d : Addr) (B : Cell) (args : Array Value) (s : State) : Prop := args = #[.ref d, .int (Int32.ofNat B.slots.size)] ∧ Arr .byte d B s
def E (r : Option Value) (s u : State) : Prop := XT.PureE (some (.int 0)) r s u
/-- an array as long as the number of chars: LATIN1 -/
theorem law (l : Launch) (d : Addr) (B : Cell) : Law l yN 2 2 0 0 yB 2 (some .byte) site (P d B) E [] 0 0 := by
  refine Law.of_walk (plainFor_of_name (by decide +kernel)) (by decide +kernel) (by decide +kernel) (by decide) (fun _ _ h => by rw [h.1]; rfl) (fun _ U U' hal hh h => ⟨h.1, h.2.mv hal hh⟩) (fun r U U' V V' h1 hal h2 h => XT.PureE.mv r U U' V V' h1 hal h2 h) ?_
  intro p e s m args below meth c s₁ X0 hexec hbytes hml hret hlk hnm hown hh0 W hP
  obtain ⟨rfl, hB⟩ := hP
  have hB0 := hB.mv X0.warmed.alike hh0
  have c1 : Steps p.tables e below (s₁.setTop (entryFrame m #[.ref d, .int (Int32.ofNat B.slots.size)] 2)) (s₁.setTop (mkF m 0 #[.val (.ref d), .val (.int (Int32.ofNat B.slots.size))] [])) := entry rfl
  have c2 : Steps p.tables e below (s₁.setTop (entryFrame m #[.ref d, .int (Int32.ofNat B.slots.size)] 2)) (s₁.setTop (mkF m 2 #[.val (.ref d), .val (.int (Int32.ofNat B.slots.size))] [.ref d, .int (Int32.ofNat B.slots.size)])) := c1.trans (by
    refine XS.iloadN X0.here hexec rfl (hb hbytes d0) rfl ?_
    refine XS.aloadN X0.here hexec rfl (hb hbytes d1) rfl rfl ?_
    exact Steps.refl _)
  have c3 : Steps p.tables e below (s₁.setTop (entryFrame m #[.ref d, .int (Int32.ofNat B.slots.size)] 2)) (s₁.setTop (mkF m 8 #[.val (.ref d), .val (.int (Int32.ofNat B.slots.size))] [.int (lo8 (ushr (Int32.ofNat B.slots.size - Int32.ofNat B.slots.size) 31))])) := c2.trans (by
    refine X0.alen hexec hB0 rfl rfl (hb hbytes d2) ?_
    refine XS.isub X0.here hexec rfl (hb hbytes d3) rfl ?_
    refine bipushV X0.here hexec rfl 31 (hb hbytes d4) (by decide) ?_
    refine iushr X0.here hexec rfl (hb hbytes d6) rfl ?_
    refine i2b X0.here hexec rfl (hb hbytes d7) rfl ?_
    exact Steps.refl _)
  have e0 : lo8 (ushr (Int32.ofNat B.slots.size - Int32.ofNat B.slots.size) 31) = 0 := by rw [Int32.sub_self]; decide
  rw [e0] at c3
  exact ⟨s₁, some (.int 0), _, _, _, X0, rfl, rfl, rfl, (fun h => by cases h), ⟨rfl, hh0⟩, fun fs hl => c3.trans (X0.ireturnOut hexec hret rfl (Or.inr (Or.inr (Or.inl rfl))) (hb hbytes d8) hl)⟩
end CodL
/-- the String at a is Latin-1 over a new byte[] (the heap's one new cell): the low bytes of the len chars of A from o on; every cell but a is kept -/
def Got (a : Addr) (D : Cell) (fV fC : Field) (A : Cell) (o len : Nat) (r : Option Value) (s u : State) : Prop := r = none ∧ ∃ D' V : Cell, Blank "java/lang/String" a D' u ∧ Same D D' [fV.slot, fC.slot] ∧ D'.slots[fV.slot]? = some (.ref s.heap.size) ∧ D'.slots[fC.slot]? = some (.int 0) ∧ Arr .byte s.heap.size V u ∧ V.vm = .none ∧ u.vm.findClass "[B" = some V.cls ∧ V.slots.size = len ∧ (∀ j, j < len → V.slots[j]? = some (.int (lo8 (cv A (o + j))))) ∧ (∀ (y : Addr) (c : Cell), y ≠ a → s.heap[y]? = some c → u.heap[y]? = some c) ∧ u.heap.size = s.heap.size + 1
theorem Got.mv {a : Addr} {D A : Cell} {fV fC : Field} {o len : Nat} : ∀ r (U U' V V' : State), U'.heap = U.heap → V.vm.Alike V'.vm → V'.heap = V.heap → Got a D fV fC A o len r U V → Got a D fV fC A o len r U' V' :=
  fun r U U' V V' h1 hal h2 ⟨e0, D', X, a1, a2, a3, a4, a5, a6, a7, a8, a9, a10, a11⟩ => ⟨e0, D', X, a1.mv hal h2, a2, by rw [h1]; exact a3, a4, by rw [h1]; exact a5.mv hal h2, a6, by rw [hal.findClass]; exact a7, a8, a9, by rw [h1, h2]; exact a10, by rw [h1, h2]; exact a11⟩
namespace New4
def yN : MethodName := ⟨"java/lang/String", "<init>", "([CIILjava/lang/Void;)V"⟩
abbrev yB : ByteArray := jdk_42_method_149_code
theorem d0 : decode yB 0 = .ok (.aload_n 0, 1) := by decide +kernel
theorem d1 : decode yB 1 = .ok (.invokespecial 1, 3) := by decide +kernel
theorem d4 : decode yB 4 = .ok (.iload_n 3, 1) := by decide +kernel
theorem d5 : decode yB 5 = .ok (.ifCond (.ne) 22, 3) := by decide +kernel
theorem d27 : decode yB 27 = .ok (.getstatic 38, 3) := by decide +kernel
theorem d30 : decode yB 30 = .ok (.ifCond (.eq) 28, 3) := by decide +kernel
theorem d33 : decode yB 33 = .ok (.aload_n 1, 1) := by decide +kernel
theorem d34 : decode yB 34 = .ok (.iload_n 2, 1) := by decide +kernel
theorem d35 : decode yB 35 = .ok (.iload_n 3, 1) := by decide +kernel
theorem d36 : decode yB 36 = .ok (.invokestatic 177, 3) := by decide +kernel
theorem d39 : decode yB 39 = .ok (.astore 5, 2) := by decide +kernel
theorem d41 : decode yB 41 = .ok (.aload_n 0, 1) := by decide +kernel
theorem d42 : decode yB 42 = .ok (.aload 5, 2) := by decide +kernel
theorem d44 : decode yB 44 = .ok (.iload_n 3, 1) := by decide +kernel
theorem d45 : decode yB 45 = .ok (.invokestatic 47, 3) := by decide +kernel
theorem d48 : decode yB 48 = .ok (.putfield 15, 3) := by decide +kernel
theorem d51 : decode yB 51 = .ok (.aload_n 0, 1) := by decide +kernel
theorem d52 : decode yB 52 = .ok (.aload 5, 2) := by decide +kernel
theorem d54 : decode yB 54 = .ok (.putfield 9, 3) := by decide +kernel
theorem d57 : decode yB 57 = .ok (.return_, 1) := by decide +kernel
def site : List Cond := [.fieldLink "java/lang/String" 38 "java/lang/String" "COMPACT_STRINGS" "Z", Cmp3.tab, CodL.tab, .laysFinal "java/lang/String" "java/lang/String" "value" "[B", .fieldLink "java/lang/String" 9 "java/lang/String" "value" "[B", .laysFinal "java/lang/String" "java/lang/String" "coder" "B", .fieldLink "java/lang/String" 15 "java/lang/String" "coder" "B"] ++ objW "java/lang/String" 1 ++ staticW "java/lang/String" 177 Cmp3.yN ++ staticW "java/lang/String" 47 CodL.yN
def tab : Cond := tabOf yN yB 6 none site
def P (a : Addr) (D : Cell) (fV fC : Field) (b : Addr) (A : Cell) (z : Int32) (o len : Nat) (args : Array Value) (s : State) : Prop := args = #[.ref a, .ref b, .int (Int32.ofNat o), .int (Int32.ofNat len), .null] ∧ Blank "java/lang/String" a D s ∧ Found "java/lang/String" "value" "[B" fV s ∧ Found "java/lang/String" "coder" "B" fC s ∧ Ch b A s ∧ StaticIs s "java/lang/String" "COMPACT_STRINGS" "Z" (.int z) ∧ ¬ z = 0 ∧ 0 < len ∧ o + len ≤ A.slots.size ∧ len ≤ 536870912 ∧ ∀ i, i < len → ¬ 255 < cv A (o + i)
def E (a : Addr) (D : Cell) (fV fC : Field) (A : Cell) (o len : Nat) (r : Option Value) (s u : State) : Prop := Got a D fV fC A o len r s u
/-- len > 0, no char of the range above 255: a Latin-1 String of their low bytes -/
theorem law (l : Launch) (a : Addr) (D : Cell) (fV fC : Field) (b : Addr) (A : Cell) (z : Int32) (o len : Nat) : Law l yN 5 4 2 35 yB 6 none site (P a D fV fC b A z o len) (E a D fV fC A o len) [⟨a, fC.slot⟩, ⟨a, fV.slot⟩] 1 len := by
  refine Law.of_walk (plainFor_of_name (by decide +kernel)) (by decide +kernel) (by decide +kernel) (by decide) (fun _ _ h => by rw [h.1]; rfl) (fun _ U U' hal hh h => ⟨h.1, h.2.1.mv hal hh, h.2.2.1.al hal, h.2.2.2.1.al hal, h.2.2.2.2.1.mv hal hh, h.2.2.2.2.2.1.there hal hh, h.2.2.2.2.2.2⟩) (fun r U U' V V' h1 hal h2 h => Got.mv r U U' V V' h1 hal h2 h) ?_
  intro p e s m args below meth c s₁ X0 hexec hbytes hml hret hlk hnm hown hh0 W hP
  obtain ⟨rfl, hB, f1, f2, hA, s1, hz, l0, l1, l2, hp⟩ := hP
  have a31 := hA.1.2.2.2
  have c1 : Steps p.tables e below (s₁.setTop (entryFrame m #[.ref a, .ref b, .int (Int32.ofNat o), .int (Int32.ofNat len), .null] 6)) (s₁.setTop (mkF m 0 #[.val (.ref a), .val (.ref b), .val (.int (Int32.ofNat o)), .val (.int (Int32.ofNat len)), .val .null, .unset] [])) := entry rfl
  have c2 : Steps p.tables e below (s₁.setTop (entryFrame m #[.ref a, .ref b, .int (Int32.ofNat o), .int (Int32.ofNat len), .null] 6)) (s₁.setTop (mkF m 1 #[.val (.ref a), .val (.ref b), .val (.int (Int32.ofNat o)), .val (.int (Int32.ofNat len)), .val .null, .unset] [.ref a])) := c1.trans (by
    refine XS.aloadN X0.here hexec rfl (hb hbytes d0) rfl rfl ?_
    exact Steps.refl _)
  obtain ⟨T3, X3, q3, st3⟩ := X0.oinit hexec hown (wks W (objW "java/lang/String" 1)) (g := (mkF m 1 #[.val (.ref a), .val (.ref b), .val (.int (Int32.ofNat o)), .val (.int (Int32.ofNat len)), .val .null, .unset] [.ref a])) rfl (by rw [hml]; rfl) (rest := []) rfl (hb hbytes d1) (W := 0) (by show 2 * 0 + 0 ≤ _; decide) (Nat.le_of_ble_eq_true rfl) (Nat.le_of_ble_eq_true rfl)
  have hh3 := q3.trans hh0
  have c4 : Steps p.tables e below (s₁.setTop (entryFrame m #[.ref a, .ref b, .int (Int32.ofNat o), .int (Int32.ofNat len), .null] 6)) (T3.setTop (mkF m 27 #[.val (.ref a), .val (.ref b), .val (.int (Int32.ofNat o)), .val (.int (Int32.ofNat len)), .val .null, .unset] [])) := (c2.trans (st3 _ (Steps.refl _))).trans (by
    refine XS.iloadN X3.here hexec rfl (hb hbytes d4) rfl ?_
    refine XS.ifYes X3.here hexec rfl (pc0 := 5) rfl (hb hbytes d5) rfl (i0_ne_t (nz32 (by omega) l0)) (by decide) rfl ?_
    exact Steps.refl _)
  obtain ⟨T5, X5, q5, st5⟩ := X3.sget hexec hown (wk W (.fieldLink "java/lang/String" 38 "java/lang/String" "COMPACT_STRINGS" "Z")) s1 (fun _ _ h => by rw [hh3]; exact h) (g := (mkF m 27 #[.val (.ref a), .val (.ref b), .val (.int (Int32.ofNat o)), .val (.int (Int32.ofNat len)), .val .null, .unset] [])) rfl (hb hbytes d27)
  have hh5 := q5.trans hh3
  have c6 : Steps p.tables e below (s₁.setTop (entryFrame m #[.ref a, .ref b, .int (Int32.ofNat o), .int (Int32.ofNat len), .null] 6)) (T5.setTop (mkF m 30 #[.val (.ref a), .val (.ref b), .val (.int (Int32.ofNat o)), .val (.int (Int32.ofNat len)), .val .null, .unset] [.int z])) := c4.trans (st5 _ (Steps.refl _))
  have c7 : Steps p.tables e below (s₁.setTop (entryFrame m #[.ref a, .ref b, .int (Int32.ofNat o), .int (Int32.ofNat len), .null] 6)) (T5.setTop (mkF m 36 #[.val (.ref a), .val (.ref b), .val (.int (Int32.ofNat o)), .val (.int (Int32.ofNat len)), .val .null, .unset] [.int (Int32.ofNat len), .int (Int32.ofNat o), .ref b])) := c6.trans (by
    refine XS.ifNo X5.here hexec rfl (hb hbytes d30) rfl (i0_eq_f hz) ?_
    refine XS.aloadN X5.here hexec rfl (hb hbytes d33) rfl rfl ?_
    refine XS.iloadN X5.here hexec rfl (hb hbytes d34) rfl ?_
    refine XS.iloadN X5.here hexec rfl (hb hbytes d35) rfl ?_
    exact Steps.refl _)
  obtain ⟨v8, T8, X8, E8, g8⟩ := X5.callS hexec (Cmp3.law l b A o len) hown (wks W (staticW "java/lang/String" 177 Cmp3.yN)) (wk W Cmp3.tab) (W := 0) (Nat.le_of_ble_eq_true rfl) (Nat.le_of_ble_eq_true rfl) (Nat.le_refl _) (by show 0 + len ≤ len; omega) (g := (mkF m 36 #[.val (.ref a), .val (.ref b), .val (.int (Int32.ofNat o)), .val (.int (Int32.ofNat len)), .val .null, .unset] [.int (Int32.ofNat len), .int (Int32.ofNat o), .ref b])) rfl (by rw [hml]; rfl) c7 (argsL := [.ref b, .int (Int32.ofNat o), .int (Int32.ofNat len)]) (rest := []) rfl rfl (by show 2 * 0 + 0 ≤ _; decide) (hb hbytes d36) (⟨rfl, hA.mv X5.warmed.alike hh5, l1, l2, hp⟩)
  obtain ⟨e8, z8⟩ := E8
  obtain ⟨rfl, N, n1, n2, n3, n4, n5, n6⟩ := NewArr.mv _ T5 s _ _ hh5.symm (Vm.Alike.refl _) rfl e8
  rw [hh5] at z8
  have hB1 := hB.keep X8.warmed.alike (n6 _ _ hB.1)
  have hne : s.heap.size ≠ a := (Nat.ne_of_lt (Array.getElem?_eq_some_iff.mp hB.1).1).symm
  have c9 : Steps p.tables e below (s₁.setTop (entryFrame m #[.ref a, .ref b, .int (Int32.ofNat o), .int (Int32.ofNat len), .null] 6)) (T8.setTop (mkF m 39 #[.val (.ref a), .val (.ref b), .val (.int (Int32.ofNat o)), .val (.int (Int32.ofNat len)), .val .null, .unset] [.ref s.heap.size])) := g8
  have c10 : Steps p.tables e below (s₁.setTop (entryFrame m #[.ref a, .ref b, .int (Int32.ofNat o), .int (Int32.ofNat len), .null] 6)) (T8.setTop (mkF m 45 #[.val (.ref a), .val (.ref b), .val (.int (Int32.ofNat o)), .val (.int (Int32.ofNat len)), .val .null, .val (.ref s.heap.size)] [.int (Int32.ofNat N.slots.size), .ref s.heap.size, .ref a])) := by
    have hc : Steps p.tables e below (s₁.setTop (entryFrame m #[.ref a, .ref b, .int (Int32.ofNat o), .int (Int32.ofNat len), .null] 6)) (T8.setTop (mkF m 45 #[.val (.ref a), .val (.ref b), .val (.int (Int32.ofNat o)), .val (.int (Int32.ofNat len)), .val .null, .val (.ref s.heap.size)] [.int (Int32.ofNat len), .ref s.heap.size, .ref a])) := c9.trans (by
      refine XS.astore X8.here hexec rfl (hb hbytes d39) rfl rfl rfl ?_
      refine XS.aloadN X8.here hexec rfl (hb hbytes d41) rfl rfl ?_
      refine XS.aload X8.here hexec rfl (hb hbytes d42) rfl rfl ?_
      refine XS.iloadN X8.here hexec rfl (hb hbytes d44) rfl ?_
      exact Steps.refl _)
    rw [n4]; exact hc
  obtain ⟨v11, T11, X11, E11, g11⟩ := X8.callS hexec (CodL.law l s.heap.size N) hown (wks W (staticW "java/lang/String" 47 CodL.yN)) (wk W CodL.tab) (W := 1) (Nat.le_of_ble_eq_true rfl) (Nat.le_of_ble_eq_true rfl) (Nat.le_refl _) (by show 0 + len + 0 ≤ len; omega) (g := (mkF m 45 #[.val (.ref a), .val (.ref b), .val (.int (Int32.ofNat o)), .val (.int (Int32.ofNat len)), .val .null, .val (.ref s.heap.size)] [.int (Int32.ofNat N.slots.size), .ref s.heap.size, .ref a])) rfl (by rw [hml]; rfl) c10 (argsL := [.ref s.heap.size, .int (Int32.ofNat N.slots.size)]) (rest := [.ref a]) rfl rfl (by show 2 * 0 + (1 + 0) ≤ _; decide) (hb hbytes d45) (⟨rfl, n1⟩)
  obtain ⟨rfl, q11⟩ := E11
  have hB11 := hB1.mv (X8.warmed.alike.symm.trans X11.warmed.alike) q11
  have c12 : Steps p.tables e below (s₁.setTop (entryFrame m #[.ref a, .ref b, .int (Int32.ofNat o), .int (Int32.ofNat len), .null] 6)) (T11.setTop (mkF m 48 #[.val (.ref a), .val (.ref b), .val (.int (Int32.ofNat o)), .val (.int (Int32.ofNat len)), .val .null, .val (.ref s.heap.size)] [.int 0, .ref a])) := g11
  obtain ⟨T13, X13, p13, bl13, sl13, st13⟩ := X11.finit hexec hown (wk W (.fieldLink "java/lang/String" 15 "java/lang/String" "coder" "B")) (Or.inr ⟨_, (wk W (.laysFinal "java/lang/String" "java/lang/String" "coder" "B"))⟩) (Or.inl ⟨rfl, hnm⟩) f2 (Or.inl rfl) hB11 (t := .byte) (by decide +kernel) rfl (g := (mkF m 48 #[.val (.ref a), .val (.ref b), .val (.int (Int32.ofNat o)), .val (.int (Int32.ofNat len)), .val .null, .val (.ref s.heap.size)] [.int 0, .ref a])) rfl (rest := []) rfl (hb hbytes d48)
  have c14 : Steps p.tables e below (s₁.setTop (entryFrame m #[.ref a, .ref b, .int (Int32.ofNat o), .int (Int32.ofNat len), .null] 6)) (T13.setTop (mkF m 54 #[.val (.ref a), .val (.ref b), .val (.int (Int32.ofNat o)), .val (.int (Int32.ofNat len)), .val .null, .val (.ref s.heap.size)] [.ref s.heap.size, .ref a])) := (c12.trans (st13 _ (Steps.refl _))).trans (by
    refine XS.aloadN X13.here hexec rfl (hb hbytes d51) rfl rfl ?_
    refine XS.aload X13.here hexec rfl (hb hbytes d52) rfl rfl ?_
    exact Steps.refl _)
  obtain ⟨T15, X15, p15, bl15, sl15, st15⟩ := X13.finit hexec hown (wk W (.fieldLink "java/lang/String" 9 "java/lang/String" "value" "[B")) (Or.inr ⟨_, (wk W (.laysFinal "java/lang/String" "java/lang/String" "value" "[B"))⟩) (Or.inl ⟨rfl, hnm⟩) f1 (Or.inl rfl) bl13 (t := (.array .byte)) (by decide +kernel) rfl (g := (mkF m 54 #[.val (.ref a), .val (.ref b), .val (.int (Int32.ofNat o)), .val (.int (Int32.ofNat len)), .val .null, .val (.ref s.heap.size)] [.ref s.heap.size, .ref a])) rfl (rest := []) rfl (hb hbytes d54)
  have c16 : Steps p.tables e below (s₁.setTop (entryFrame m #[.ref a, .ref b, .int (Int32.ofNat o), .int (Int32.ofNat len), .null] 6)) (T15.setTop (mkF m 57 #[.val (.ref a), .val (.ref b), .val (.int (Int32.ofNat o)), .val (.int (Int32.ofNat len)), .val .null, .val (.ref s.heap.size)] [])) := c14.trans (st15 _ (Steps.refl _))
  have ap := apart (Or.inr ⟨_, (wk W (.laysFinal "java/lang/String" "java/lang/String" "value" "[B"))⟩) (Or.inr ⟨_, (wk W (.laysFinal "java/lang/String" "java/lang/String" "coder" "B"))⟩) f1 f2 (t₁ := .array .byte) (t₂ := .byte) (by decide +kernel) (by decide +kernel) (by decide)
  have al := X8.warmed.alike.symm.trans X15.warmed.alike
  have n7 : T11.heap[s.heap.size]? = some N := by rw [q11]; exact n1.1
  exact ⟨T15, none, _, _, _, X15, by simp, rfl, by omega, (fun _ => rfl), ⟨rfl, _, N, bl15, ((Same.refl D _).set _ (by simp)).set _ (by simp), sl15, (Cell.slots_setSlot_ne _ ap).trans sl13, n1.keep al (p15.other hne (p13.other hne n7)), n2, by rw [al.findClass]; exact n3, n4, n5, fun y c h1 h2 => p15.other h1 (p13.other h1 (by rw [q11]; exact n6 y c h2)), by rw [p15.2.2, p13.2.2, q11]; exact z8⟩, fun fs hl => c16.trans (X15.returnOut hexec hret (hb hbytes d57) hl)⟩
end New4
namespace New1
def yN : MethodName := ⟨"java/lang/String", "<init>", "([C)V"⟩
abbrev yB : ByteArray := jdk_42_method_3_code
theorem d0 : decode yB 0 = .ok (.aload_n 0, 1) := by decide +kernel
theorem d1 : decode yB 1 = .ok (.aload_n 1, 1) := by decide +kernel
theorem d2 : decode yB 2 = .ok (.iconst 0, 1) := by decide +kernel
theorem d3 : decode yB 3 = .ok (.aload_n 1, 1) := by decide +kernel
theorem d4 : decode yB 4 = .ok (.arraylength, 1) := by decide +kernel
theorem d5 : decode yB 5 = .ok (.aconst_null, 1) := by decide +kernel
theorem d6 : decode yB 6 = .ok (.invokespecial 27, 3) := by decide +kernel
theorem d9 : decode yB 9 = .ok (.return_, 1) := by decide +kernel
def site : List Cond := [New4.tab] ++ initW "java/lang/String" 27 New4.yN
def tab : Cond := tabOf yN yB 2 none site
def P (a : Addr) (D : Cell) (fV fC : Field) (b : Addr) (A : Cell) (z : Int32) (args : Array Value) (s : State) : Prop := args = #[.ref a, .ref b] ∧ Blank "java/lang/String" a D s ∧ Found "java/lang/String" "value" "[B" fV s ∧ Found "java/lang/String" "coder" "B" fC s ∧ Ch b A s ∧ StaticIs s "java/lang/String" "COMPACT_STRINGS" "Z" (.int z) ∧ ¬ z = 0 ∧ 0 < A.slots.size ∧ A.slots.size ≤ 536870912 ∧ ∀ i, i < A.slots.size → ¬ 255 < cv A i
def E (a : Addr) (D : Cell) (fV fC : Field) (A : Cell) (r : Option Value) (s u : State) : Prop := Got a D fV fC A 0 A.slots.size r s u
/-- new String(chars), not empty, no char above 255: a Latin-1 String of their low bytes -/
theorem law (l : Launch) (a : Addr) (D : Cell) (fV fC : Field) (b : Addr) (A : Cell) (z : Int32) : Law l yN 2 1 3 52 yB 2 none site (P a D fV fC b A z) (E a D fV fC A) [⟨a, fC.slot⟩, ⟨a, fV.slot⟩] 1 A.slots.size := by
  refine Law.of_walk (plainFor_of_name (by decide +kernel)) (by decide +kernel) (by decide +kernel) (by decide) (fun _ _ h => by rw [h.1]; rfl) (fun _ U U' hal hh h => ⟨h.1, h.2.1.mv hal hh, h.2.2.1.al hal, h.2.2.2.1.al hal, h.2.2.2.2.1.mv hal hh, h.2.2.2.2.2.1.there hal hh, h.2.2.2.2.2.2⟩) (fun r U U' V V' h1 hal h2 h => Got.mv r U U' V V' h1 hal h2 h) ?_
  intro p e s m args below meth c s₁ X0 hexec hbytes hml hret hlk hnm hown hh0 W hP
  obtain ⟨rfl, hB, f1, f2, hA, s1, hz, l0, l2, hp⟩ := hP
  have c1 : Steps p.tables e below (s₁.setTop (entryFrame m #[.ref a, .ref b] 2)) (s₁.setTop (mkF m 0 #[.val (.ref a), .val (.ref b)] [])) := entry rfl
  have c2 : Steps p.tables e below (s₁.setTop (entryFrame m #[.ref a, .ref b] 2)) (s₁.setTop (mkF m 6 #[.val (.ref a), .val (.ref b)] [.null, .int (Int32.ofNat A.slots.size), .int 0, .ref b, .ref a])) := c1.trans (by
    refine XS.aloadN X0.here hexec rfl (hb hbytes d0) rfl rfl ?_
    refine XS.aloadN X0.here hexec rfl (hb hbytes d1) rfl rfl ?_
    refine iconstV X0.here hexec rfl 0 (hb hbytes d2) (by decide) ?_
    refine XS.aloadN X0.here hexec rfl (hb hbytes d3) rfl rfl ?_
    refine X0.alen hexec (hA.1.mv X0.warmed.alike hh0) rfl rfl (hb hbytes d4) ?_
    refine XS.aconstNull X0.here hexec rfl (hb hbytes d5) ?_
    exact Steps.refl _)
  obtain ⟨v3, T3, X3, E3, g3⟩ := X0.callN hexec (New4.law l a D fV fC b A z 0 A.slots.size) rfl hown (wks W (initW "java/lang/String" 27 New4.yN)) (W New4.tab (by simp only [site, List.mem_cons, List.mem_append, true_or, or_true])) (W := 0) (Nat.le_of_ble_eq_true rfl) (Nat.le_of_ble_eq_true rfl) (Nat.le_refl _) (by show 0 + A.slots.size ≤ A.slots.size; omega) (g := (mkF m 6 #[.val (.ref a), .val (.ref b)] [.null, .int (Int32.ofNat A.slots.size), .int (Int32.ofNat 0), .ref b, .ref a])) rfl (by rw [hml]; rfl) c2 (argsL := [.ref b, .int (Int32.ofNat 0), .int (Int32.ofNat A.slots.size), .null]) (rest := []) rfl rfl (by show 2 * 0 + 0 ≤ _; decide) (hb hbytes d6) (⟨rfl, hB.mv X0.warmed.alike hh0, f1.al X0.warmed.alike, f2.al X0.warmed.alike, hA.mv X0.warmed.alike hh0, s1.there X0.warmed.alike hh0, hz, l0, by omega, l2, fun i hi => by rw [Nat.zero_add]; exact hp i hi⟩)
  have e0 := Got.mv _ s₁ s _ _ hh0.symm (Vm.Alike.refl _) rfl E3
  obtain rfl := e0.1
  have c4 : Steps p.tables e below (s₁.setTop (entryFrame m #[.ref a, .ref b] 2)) (T3.setTop (mkF m 9 #[.val (.ref a), .val (.ref b)] [])) := g3
  exact ⟨T3, none, _, _, _, X3, by simp, rfl, by omega, (fun _ => rfl), e0, fun fs hl => c4.trans (X3.returnOut hexec hret (hb hbytes d9) hl)⟩
theorem pays {l : Launch} {R : Room} {p : Program} {e : Env} {below : List Frame} {s : State} {sargs : Array Value} {len W : Nat} (a : Addr) (D : Cell) (fV fC : Field) (b : Addr) (A : Cell) (z : Int32) (htab : tab.before sargs s = true) (hfr : 4 ≤ R.frames) (hlo : W + 65 ≤ R.locals) :
    Back l R p e below s sargs yN len W (fun A₁ a₁ => A₁.cells + 1 ≤ R.cells ∧ A₁.slots + A.slots.size ≤ R.slots ∧ P a D fV fC b A z a₁ A₁.U) (fun A₁ _ v₁ B₁ => E a D fV fC A v₁ A₁.U B₁.U ∧ B₁.locs = A₁.locs ++ [⟨a, fC.slot⟩, ⟨a, fV.slot⟩] ∧ B₁.cells = A₁.cells + 1 ∧ B₁.slots = A₁.slots + A.slots.size) :=
  (law l a D fV fC b A z).pays htab hfr (by omega)
end New1
/-- the byte, read back as charAt reads it, is the char -/
theorem lo8_mask {x : Int32} (h0 : ¬ x < 0) (h1 : ¬ 255 < x) : lo8 x &&& 255 = x := by
  have t : ∀ k : Fin 256, lo8 (Int32.ofNat k.val) &&& 255 = Int32.ofNat k.val := by decide +kernel
  rw [Int32.lt_iff_toInt_lt] at h0 h1
  have e0 : (0 : Int32).toInt = 0 := rfl
  have e1 : (255 : Int32).toInt = 255 := rfl
  obtain ⟨k, hk⟩ : ∃ k : Nat, x.toInt = k := ⟨x.toInt.toNat, by omega⟩
  have hx : x = Int32.ofNat k := Int32.toInt_inj.mp (by rw [hk, Int32.toInt_ofNat_small (by omega)])
  rw [hx]
  exact t ⟨k, by omega⟩
end StrChars
namespace StrChars.Road
open Jvm Sem ClassFile Op Lib Jvm.Stand Jvm.Free Jvm.Free.XT
open Jvm.Lib.Cold (StaticIs)
abbrev ST : String := "java/lang/String"
/-- every table word that New1's law asks, flat -/
abbrev words : List Jvm.Cond := [.code New1.yN New1.yB 2 none, .initialized ST, .methodLink ST 27 New4.yN, .instanceMethod New4.yN,
  .code New4.yN New4.yB 6 none, .fieldLink ST 38 ST "COMPACT_STRINGS" "Z", .laysFinal ST ST "value" "[B", .fieldLink ST 9 ST "value" "[B", .laysFinal ST ST "coder" "B", .fieldLink ST 15 ST "coder" "B",
  .methodLink ST 1 Lib.objectInit, .instanceMethod Lib.objectInit, .code Lib.objectInit ⟨#[0xb1]⟩ 1 none, .methodLink ST 177 Cmp3.yN, .static Cmp3.yN, .methodLink ST 47 CodL.yN, .static CodL.yN,
  .code Cmp3.yN Cmp3.yB 6 (some (.array .byte)), .initialized U16, .arrayClass .byte, .methodLink U16 115 Cmp5.yN, .static Cmp5.yN, .code Cmp5.yN Cmp5.yB 7 (some .int), .code CodL.yN CodL.yB 2 (some .byte)]
theorem tab_of {a : Array Value} {s : State} (h : ∀ w ∈ words, w.before a s = true) : New1.tab.before a s = true := by
  have h5 : Cmp5.tab.before a s = true := unparts (wk h (.code Cmp5.yN Cmp5.yB 7 (some .int))) (wks h (.initialized Cmp5.yN.cls :: Cmp5.site))
  have hc : CodL.tab.before a s = true := unparts (wk h (.code CodL.yN CodL.yB 2 (some .byte))) (wks h (.initialized CodL.yN.cls :: CodL.site))
  have q5 : ∀ w ∈ Cmp5.tab :: words, w.before a s = true := fun w hw => (List.mem_cons.mp hw).elim (fun e => e ▸ h5) (h w)
  have h3 : Cmp3.tab.before a s = true := unparts (wk q5 (.code Cmp3.yN Cmp3.yB 6 (some (.array .byte)))) (wks q5 (.initialized Cmp3.yN.cls :: Cmp3.site))
  have q3 : ∀ w ∈ Cmp3.tab :: CodL.tab :: words, w.before a s = true := fun w hw => (List.mem_cons.mp hw).elim (fun e => e ▸ h3) fun hw => (List.mem_cons.mp hw).elim (fun e => e ▸ hc) (h w)
  have h4 : New4.tab.before a s = true := unparts (wk q3 (.code New4.yN New4.yB 6 none)) (wks q3 (.initialized New4.yN.cls :: New4.site))
  have q4 : ∀ w ∈ New4.tab :: words, w.before a s = true := fun w hw => (List.mem_cons.mp hw).elim (fun e => e ▸ h4) (h w)
  exact unparts (wk q4 (.code New1.yN New1.yB 2 none)) (wks q4 (.initialized New1.yN.cls :: New1.site))
/-- the words ride from the start Z to the walk's own state -/
theorem moved {Z s : State} {a0 args : Array Value} (hZ : Z.Warmed39 s.vm) (hw : ∀ d ∈ words, d.before a0 Z = true) : ∀ d ∈ words, d.before args s = true := fun d hd => by
  have q := hw d hd
  have t : ∀ d ∈ words, d = .arrayClass .byte ∨ (d.onTables && d.keepsFace) = true := by decide +kernel
  rcases t d hd with rfl | t
  · exact RoadKit.mvA hZ q
  · exact RoadKit.mv hZ q t
/-- WHAT COMES BACK, over the tables of the start Z: h the heap at the call, h' behind it -/
def Q (Z : State) (x : Addr) (A : Cell) (h : Heap) (v : Option Value) (h' : Heap) (L : List Loc) : Prop := v = none ∧ (∀ y ∈ L, y.base = x) ∧ RoadKit.Keep h h' [x] ∧ h'.size = h.size + 1 ∧ RoadKit.Exa Z h' x ST ∧ RoadKit.Fld Z h' x ST "value" "[B" (.ref h.size) ∧ RoadKit.Fld Z h' x ST "coder" "B" (.int 0) ∧
  (∃ V : Cell, RoadKit.Arr Z h' h.size V .byte ∧ V.vm = .none ∧ Z.vm.findClass "[B" = some V.cls ∧ V.slots.size = A.slots.size ∧ ∀ j, j < A.slots.size → V.slots[j]? = some (.int (lo8 (cv A j)))) ∧
  ∀ (O n d : String) (w : Value), RoadKit.Fld Z h x O n d w → RoadKit.slotOf Z O n d ≠ RoadKit.slotOf Z ST "value" "[B" → RoadKit.slotOf Z O n d ≠ RoadKit.slotOf Z ST "coder" "B" → RoadKit.Fld Z h' x O n d w
/-- **new String(chars) AT A CALL, IN THE ROAD'S FORM**: for specialBack behind newO: x the fresh String, b the char[] with the cell A -/
theorem back {p : Program} {l : Launch} {e : Env} {R : Room} {s : State} {args : Array Value} {below : List Frame} {len W : Nat} {Z : State} {a0 : Array Value} {h : Heap} (hZ : Z.Warmed39 s.vm) (hw : ∀ d ∈ words, d.before a0 Z = true) {kI : Nat} (wi : (Jvm.Cond.instantiable ST kI).before a0 Z = true)
    {x b : Addr} {A : Cell} {z : Int32} {v0 c0 : Value} (E : RoadKit.Exa Z h x ST) (V : RoadKit.Fld Z h x ST "value" "[B" v0) (C : RoadKit.Fld Z h x ST "coder" "B" c0) (K : RoadKit.Arr Z h b A .char) (hty : Typed .char A) (S : RoadKit.Sta Z h ST "COMPACT_STRINGS" "Z" (.int z)) (hz : ¬ z = 0)
    (l0 : 0 < A.slots.size) (l2 : A.slots.size ≤ 536870912) (hp : ∀ i, i < A.slots.size → ¬ 255 < cv A i) (hfr : 4 ≤ R.frames) (hlo : W + 65 ≤ R.locals) :
    Back l R p e below s args New1.yN len W (fun P a => a = #[.ref x, .ref b] ∧ P.U.heap = h ∧ P.cells + 1 ≤ R.cells ∧ P.slots + A.slots.size ≤ R.slots)
      (fun P _ v B => ∃ L, Q Z x A h v B.U.heap L ∧ B.locs = P.locs ++ L ∧ B.cells = P.cells + 1 ∧ B.slots = P.slots + A.slots.size) := by
  intro m meth c P g ig mk a X hg hsize hdg hW hn hp'
  obtain ⟨rfl, rfl, r1, r2⟩ := hp'
  have al : Z.vm.Alike P.U.vm := hZ.alike.trans X.warmed.alike
  obtain ⟨D, cfV, kV, iV, fV, hD, gV, stV, knV, obV, asV, slV⟩ := id V
  obtain ⟨D', cfC, kC, iC, fC, hD', gC, stC, -, -, asC, slC⟩ := id C
  cases hD.symm.trans hD'
  obtain ⟨D2, kD, e1, e2, e3, e4, e5⟩ := id E
  cases hD.symm.trans e1
  obtain ⟨c2, k2, i1, i2, i3, -⟩ := Cond.instantiable_spec wi
  cases e2.symm.trans i1
  cases e3.symm.trans i2
  obtain ⟨kU, u1, u2⟩ := al.2.2 _ _ e3
  have hB : Blank ST x D P.U := ⟨hD, ⟨knV, fun q hq => by rw [hq] at obV; cases obV⟩, by rw [al.findClass]; exact e2, kU, u1, by rw [u2]; exact i3, by rw [u2]; exact e5 i3⟩
  have F1 : Found ST "value" "[B" fV P.U := ⟨SBG.found_only al ⟨cfV, kV, iV, gV⟩, stV⟩
  have F2 : Found ST "coder" "B" fC P.U := ⟨SBG.found_only al ⟨cfC, kC, iC, gC⟩, stC⟩
  have hA : Ch b A P.U := ⟨⟨K.1, State.isArrayOf_alike al K.2.1, K.2.2, by omega⟩, hty⟩
  have hS : StaticIs P.U ST "COMPACT_STRINGS" "Z" (.int z) := by
    obtain ⟨cfS, iS, kS, fS, st, cS, t1, t2, t3, t4, t5, t6, t7⟩ := S
    exact StaticIs.there (s := { Z with heap := P.U.heap }) ⟨cfS, iS, kS, fS, st, cS, t1, t2, t3, t4, t5, (fun q => by rw [q] at t6; cases t6), t7⟩ al rfl
  obtain ⟨v, B, X', ⟨⟨hv, E', V', q1, q2, q3, q4, q5, q6, q7, q8, q9, q10, q11⟩, hl, hc, hs⟩, st⟩ := New1.pays x D fV fC b A z (tab_of (moved hZ hw)) hfr hlo m meth c P g ig mk _ X hg hsize hdg hW hn ⟨r1, r2, rfl, hB, F1, F2, hA, hS, hz, l0, l2, hp⟩
  have al' : Z.vm.Alike B.U.vm := hZ.alike.trans X'.warmed.alike
  have hsz : E'.slots.size = D.slots.size := by
    obtain ⟨-, -, -, kB, w1, w2, w3⟩ := q1
    obtain ⟨kB', y1, y2⟩ := al'.2.2 _ _ e3
    rw [q2.2.1] at w1
    cases w1.symm.trans y1
    rw [w3, e5 i3, y2]
  refine ⟨v, B, X', ⟨_, ⟨hv, ?_, ⟨by omega, fun y cy hy hn' => q10 y cy (by simpa using hn') hy, fun y cy hy => ?_⟩, q11, ⟨E', _, q1.1, by rw [q2.2.1]; exact e2, by rw [q2.2.1]; exact e3, by rw [q2.1]; exact obV, fun _ => by rw [hsz]; exact e5 i3⟩,
    ⟨E', cfV, kV, iV, fV, q1.1, gV, stV, by rw [q2.1]; exact knV, by rw [q2.1]; exact obV, by rw [q2.2.1]; exact asV, q3⟩, ⟨E', cfC, kC, iC, fC, q1.1, gC, stC, by rw [q2.1]; exact knV, by rw [q2.1]; exact obV, by rw [q2.2.1]; exact asC, q4⟩,
    ⟨V', ⟨q5.1, State.isArrayOf_alike al'.symm q5.2.1, q5.2.2.1⟩, q6, by rw [← al'.findClass]; exact q7, q8, fun j hj => by have := q9 j hj; rwa [Nat.zero_add] at this⟩, fun O n d w F n1 n2 => ?_⟩, hl, hc, hs⟩, st⟩
  · intro y hy
    simp only [List.mem_cons, List.not_mem_nil, or_false] at hy
    rcases hy with rfl | rfl <;> rfl
  · by_cases q : y = x
    · subst q
      cases hD.symm.trans hy
      exact ⟨E', q1.1, q2.2.1, q2.1, hsz⟩
    · exact ⟨cy, q10 y cy q hy, rfl, rfl, rfl⟩
  · obtain ⟨D3, cf, k, i, f, g1, g2, g3, g4, g5, g6, g7⟩ := F
    cases hD.symm.trans g1
    simp only [RoadKit.slotOf, g2, gV, gC, Option.map_some, Option.getD_some] at n1 n2
    exact ⟨E', cf, k, i, f, q1.1, g2, g3, by rw [q2.1]; exact g4, by rw [q2.1]; exact g5, by rw [q2.2.1]; exact g6, by rw [q2.2.2 f.slot (by simp [n1, n2])]; exact g7⟩
end StrChars.Road
namespace StrChars.Road
open Jvm Sem ClassFile Op Lib Jvm.Stand Jvm.Free Jvm.Free.XT
/-- WHAT COMES BACK, the byte[] as a list of values -/
def QA (Z : State) (x : Addr) (zn : Int32) (cs : List Int32) (h : Heap) (v : Option Value) (h' : Heap) (L : List Loc) : Prop := v = none ∧ (∀ y ∈ L, y.base = x) ∧ RoadKit.Keep h h' [x] ∧ h'.size = h.size + 1 ∧ RoadKit.Exa Z h' x ST ∧ RoadKit.Fld Z h' x ST "value" "[B" (.ref h.size) ∧ RoadKit.Fld Z h' x ST "coder" "B" (.int 0) ∧
  (∃ kb, Z.vm.findClass "[B" = some kb ∧ RoadKit.Arv Z h' h.size kb .byte zn (cs.map fun c => .int (lo8 c)) (.int 0)) ∧
  ∀ (O n d : String) (w : Value), RoadKit.Fld Z h x O n d w → RoadKit.slotOf Z O n d ≠ RoadKit.slotOf Z ST "value" "[B" → RoadKit.slotOf Z O n d ≠ RoadKit.slotOf Z ST "coder" "B" → RoadKit.Fld Z h' x O n d w
/-- **new String(chars) AT A CALL, THE ARRAYS AS LISTS**: the char[] at b holds cs, not empty, no char above 255 -/
theorem backArv {p : Program} {l : Launch} {e : Env} {R : Room} {s : State} {args : Array Value} {below : List Frame} {len W : Nat} {Z : State} {a0 : Array Value} {h : Heap} (hZ : Z.Warmed39 s.vm) (hw : ∀ d ∈ words, d.before a0 Z = true) {kI : Nat} (wi : (Jvm.Cond.instantiable ST kI).before a0 Z = true)
    {x b : Addr} {k : ClassId} {zn z : Int32} {cs : List Int32} {dv v0 c0 : Value} (E : RoadKit.Exa Z h x ST) (V : RoadKit.Fld Z h x ST "value" "[B" v0) (C : RoadKit.Fld Z h x ST "coder" "B" c0) (K : RoadKit.Arv Z h b k .char zn (cs.map Value.int) dv) (S : RoadKit.Sta Z h ST "COMPACT_STRINGS" "Z" (.int z)) (hz : ¬ z = 0)
    (hlen : zn.toNatClampNeg = cs.length) (h0 : 0 < cs.length) (hbig : cs.length ≤ 536870912) (hall : ∀ c ∈ cs, ¬ 255 < c) (hfr : 4 ≤ R.frames) (hlo : W + 65 ≤ R.locals) :
    Back l R p e below s args New1.yN len W (fun P a => a = #[.ref x, .ref b] ∧ P.U.heap = h ∧ P.cells + 1 ≤ R.cells ∧ P.slots + cs.length ≤ R.slots)
      (fun P _ v B => ∃ L, QA Z x zn cs h v B.U.heap L ∧ B.locs = P.locs ++ L ∧ B.cells = P.cells + 1 ∧ B.slots = P.slots + cs.length) := by
  obtain ⟨A, K1, K2, K3, K4, K5, K6⟩ := K
  have e : A.slots.size = cs.length := K3.trans hlen
  have hat : ∀ (i : Nat) (hi : i < cs.length), A.slots[i]? = some (.int cs[i]) := fun i hi => by rw [K5 i (by omega)]; simp [List.getD_eq_getElem?_getD, hi]
  have hcv : ∀ (i : Nat) (hi : i < cs.length), cv A i = cs[i] := fun i hi => by unfold cv; rw [hat i hi]
  have hty : Typed .char A := fun i v hv => by
    have hi : i < A.slots.size := (Array.getElem?_eq_some_iff.mp hv).1
    have q := K5 i hi
    rw [hv] at q
    rw [Option.some.inj q]
    exact K6 i hi
  refine Back.mono (back hZ hw wi E V C K1 hty S hz (by omega) (by omega) (fun i hi => by rw [hcv i (by omega)]; exact hall _ (List.getElem_mem _)) hfr hlo) (fun P a hp => ⟨hp.1, hp.2.1, hp.2.2.1, by rw [e]; exact hp.2.2.2⟩) (fun P a v B hp hq => ?_)
  obtain ⟨L, ⟨q1, q2, q3, q4, q5, q6, q7, ⟨V', v1, v2, v3, v4, v5⟩, q9⟩, hl, hc, hs⟩ := hq
  refine ⟨L, ⟨q1, q2, q3, q4, q5, q6, q7, ⟨V'.cls, v3, V', v1, rfl, by rw [v4, e, hlen], K4, fun i hi => ?_, fun i hi => ?_⟩, q9⟩, hl, hc, by rw [hs, e]⟩
  · have hi' : i < cs.length := by omega
    rw [v5 i (by omega), hcv i hi']; simp [List.getD_eq_getElem?_getD, hi']
  · have hi' : i < cs.length := by omega
    simp only [List.getD_eq_getElem?_getD, List.getElem?_map, List.getElem?_eq_getElem hi', Option.map_some, Option.getD_some]
    exact fits_lo8 _
end StrChars.Road
namespace StrChars.Road
open Jvm Sem ClassFile Op Lib Jvm.Stand Jvm.Free Jvm.Free.XT
/-- WHAT COMES BACK, in the writer's own shape -/
def QV (Z : State) (x : Addr) (N : Int32) (bs : List Int32) (h : Heap) (n0 : Nat) (v : Option Value) (h' : Heap) (L : List Loc) : Prop := v = none ∧ RoadKit.Fr n0 L ∧ RoadKit.Keep h h' [x] ∧ RoadKit.Exa Z h' x ST ∧ RoadKit.Fld Z h' x ST "coder" "B" (.int 0) ∧
  ∃ (t : Addr) (kb : ClassId), n0 ≤ t ∧ h.size ≤ t ∧ ¬ t = x ∧ RoadKit.Fld Z h' x ST "value" "[B" (.ref t) ∧ RoadKit.Arv Z h' t kb .byte N (bs.map Value.int) (.int 0)
/-- **new String(chars) AT A CALL, FOR THE WRITER**: a char[] of n known ints, each 0 to 255 -/
theorem backV {p : Program} {l : Launch} {e : Env} {R : Room} {s : State} {args : Array Value} {below : List Frame} {len W : Nat} {Z : State} {a0 : Array Value} {h : Heap} (hZ : Z.Warmed39 s.vm) (hw : ∀ d ∈ words, d.before a0 Z = true) {kI : Nat} (wi : (Jvm.Cond.instantiable ST kI).before a0 Z = true)
    {x b : Addr} {kC : ClassId} {cs bs : List Int32} {d v0 c0 : Value} {z N : Int32} {n n0 : Nat} (hx0 : n0 ≤ x) (hh0 : n0 ≤ h.size) (E : RoadKit.Exa Z h x ST) (V : RoadKit.Fld Z h x ST "value" "[B" v0) (C : RoadKit.Fld Z h x ST "coder" "B" c0) (K : RoadKit.Arv Z h b kC .char N (cs.map Value.int) d) (S : RoadKit.Sta Z h ST "COMPACT_STRINGS" "Z" (.int z)) (hz : ¬ z = 0)
    (hn : cs.length = n) (hN : N = Int32.ofNat n) (l0 : 0 < n) (l2 : n ≤ 4000) (hp : ∀ c ∈ cs, ¬ c < 0 ∧ ¬ (255 : Int32) < c) (hb : bs = cs.map (fun c => c.toInt8.toInt32)) (hfr : 4 ≤ R.frames) (hlo : W + 65 ≤ R.locals) :
    Back l R p e below s args (⟨"java/lang/String", "<init>", "([C)V"⟩ : MethodName) len W (fun P a => a = #[.ref x, .ref b] ∧ P.U.heap = h ∧ P.cells + 1 ≤ R.cells ∧ P.slots + n ≤ R.slots)
      (fun P _ v B => ∃ L, QV Z x N bs h n0 v B.U.heap L ∧ B.locs = P.locs ++ L ∧ B.cells = P.cells + 1 ∧ B.slots = P.slots + n) := by
  subst hn hN hb
  refine Back.mono (backArv hZ hw wi E V C K S hz (n32 (by omega)) l0 (by omega) (fun c hc => (hp c hc).2) hfr hlo) (fun P a hp => hp) (fun P a v B hp hq => ?_)
  obtain ⟨L, ⟨q1, q2, q3, q4, q5, q6, q7, ⟨kb, v1, v2⟩, q9⟩, hl, hc, hs⟩ := hq
  exact ⟨L, ⟨q1, fun y hy => by rw [q2 y hy]; exact hx0, q3, q5, q7, h.size, kb, hh0, Nat.le_refl _, Nat.ne_of_gt E.lt, q6, by rw [List.map_map]; exact v2⟩, hl, hc, hs⟩
end StrChars.Road
namespace StrChars
open Jvm Sem ClassFile Op Lib Jvm.Stand Jvm.Free.XT Jvm.Free.ALB Jvm.Free.JM Jvm.Free
open Jvm.Lib.Cold (StaticIs)
def hi8 (x : Int32) : Int32 := lo8 (x >>> ((8 : Int32) &&& 31))
/-- what StringUTF16.getChar makes of two bytes -/
def pairCh (u v : Int32) : Int32 := (((u &&& 255) <<< ((0 : Int32) &&& 31)) ||| ((v &&& 255) <<< ((8 : Int32) &&& 31))).toUInt32.toUInt16.toUInt32.toInt32
theorem shr0 (c : Int32) : c >>> ((0 : Int32) &&& 31) = c := by
  have e : ((0 : Int32) &&& 31) = 0 := by decide
  rw [e]
  apply Int32.toBitVec_inj.mp
  rw [Int32.toBitVec_shiftRight]
  have e1 : ((0 : Int32).toBitVec.smod 32) = 0#32 := by decide
  rw [e1, BitVec.sshiftRight_eq']
  exact BitVec.sshiftRight_zero
theorem lo8_and (x : Int32) : (lo8 x &&& 255).toBitVec.toNat = x.toBitVec.toNat % 256 := by
  have h : (lo8 x).toBitVec = (x.toBitVec.signExtend 8).signExtend 32 := by rw [lo8, Int8.toBitVec_toInt32, Int32.toBitVec_toInt8]
  rw [Int32.toBitVec_and, BitVec.toNat_and, h]
  have e : ((x.toBitVec.signExtend 8).signExtend 32).toNat % 256 = x.toBitVec.toNat % 256 := by
    rw [BitVec.toNat_signExtend]
    have hlt := x.toBitVec.isLt
    simp only [BitVec.toNat_setWidth, BitVec.toNat_signExtend]
    split <;> split <;> omega
  rw [← e]
  exact Nat.and_two_pow_sub_one_eq_mod _ 8
theorem pair_says {c : Int32} (h0 : ¬ c < 0) (h1 : ¬ 65535 < c) : pairCh (lo8 c) (hi8 c) = c := by
  rw [Int32.lt_iff_toInt_lt] at h0 h1
  have e0 : (0 : Int32).toInt = 0 := rfl
  have e1 : (65535 : Int32).toInt = 65535 := rfl
  have hc : c.toInt = c.toBitVec.toNat := by
    have := c.toBitVec.isLt
    have e : c.toInt = c.toBitVec.toInt := rfl
    rw [e] at h0 h1
    rw [e]
    rw [BitVec.toInt_eq_toNat_cond] at h0 h1 ⊢
    split at h0 <;> split <;> omega
  have hn : c.toBitVec.toNat < 65536 := by omega
  have a1 := lo8_and c
  have a2 : (hi8 c &&& 255).toBitVec.toNat = c.toBitVec.toNat / 256 := by
    rw [hi8, lo8_and]
    have e : ((8 : Int32) &&& 31) = 8 := by decide
    rw [e, Int32.toBitVec_shiftRight]
    have e2 : ((8 : Int32).toBitVec.smod 32) = 8#32 := by decide
    rw [e2, BitVec.sshiftRight_eq', BitVec.toNat_sshiftRight_of_msb_false (by rw [BitVec.msb_eq_false_iff_two_mul_lt]; omega)]
    show c.toBitVec.toNat >>> 8 % 256 = _
    rw [Nat.shiftRight_eq_div_pow]
    omega
  unfold pairCh
  apply Int32.toBitVec_inj.mp
  apply BitVec.eq_of_toNat_eq
  have f0 : ((0 : Int32) &&& 31) = 0 := by decide
  have f8 : ((8 : Int32) &&& 31) = 8 := by decide
  rw [f0, f8]
  have g : (((lo8 c &&& 255) <<< (0 : Int32)) ||| ((hi8 c &&& 255) <<< (8 : Int32))).toBitVec.toNat = c.toBitVec.toNat := by
    rw [Int32.toBitVec_or, Int32.toBitVec_shiftLeft, Int32.toBitVec_shiftLeft]
    have s0 : ((0 : Int32).toBitVec.smod 32) = 0#32 := by decide
    have s8 : ((8 : Int32).toBitVec.smod 32) = 8#32 := by decide
    rw [s0, s8, BitVec.toNat_or]
    simp only [BitVec.shiftLeft_eq', BitVec.toNat_shiftLeft, a1, a2]
    show (c.toBitVec.toNat % 256) <<< 0 % 2 ^ 32 ||| (c.toBitVec.toNat / 256) <<< 8 % 2 ^ 32 = _
    rw [Nat.shiftLeft_zero, Nat.mod_eq_of_lt (show c.toBitVec.toNat % 256 < 2 ^ 32 by omega), Nat.mod_eq_of_lt (show (c.toBitVec.toNat / 256) <<< 8 < 2 ^ 32 by rw [Nat.shiftLeft_eq]; omega), Nat.or_comm, ← Nat.shiftLeft_add_eq_or_of_lt (by omega), Nat.shiftLeft_eq]
    omega
  show BitVec.toNat (((((lo8 c &&& 255) <<< (0 : Int32)) ||| ((hi8 c &&& 255) <<< (8 : Int32))).toBitVec.setWidth 16).setWidth 32) = _
  rw [BitVec.toNat_setWidth, BitVec.toNat_setWidth, g]
  omega
end StrChars
namespace StrChars
open Jvm Sem ClassFile Op Lib Jvm.Stand Jvm.Free.XT Jvm.Free.ALB Jvm.Free.JM Jvm.Free
open Jvm.Lib.Cold (StaticIs)
theorem shr1 {n : Nat} (h : 2 * n < 2 ^ 31) : Int32.ofNat (2 * n) >>> ((1 : Int32) &&& 31) = Int32.ofNat n := by
  have e : ((1 : Int32) &&& 31) = 1 := by decide
  rw [e]
  apply Int32.toBitVec_inj.mp
  rw [Int32.toBitVec_shiftRight]
  have e1 : ((1 : Int32).toBitVec.smod 32) = 1#32 := by decide
  have hm : (BitVec.ofNat 32 (2 * n)).toNat = 2 * n := by rw [BitVec.toNat_ofNat, Nat.mod_eq_of_lt (by omega)]
  rw [e1, BitVec.sshiftRight_eq']
  apply BitVec.eq_of_toNat_eq
  show ((BitVec.ofNat 32 (2 * n)).sshiftRight 1).toNat = (BitVec.ofNat 32 n).toNat
  rw [BitVec.toNat_sshiftRight_of_msb_false (by rw [BitVec.msb_eq_false_iff_two_mul_lt, hm]; omega), hm, BitVec.toNat_ofNat, Nat.shiftRight_eq_div_pow]
  omega
/-- charAt's cast of a byte read back -/
def chr8 (u : Int32) : Int32 := (u &&& 255).toUInt32.toUInt16.toUInt32.toInt32
theorem chr8_lo8 {c : Int32} (h0 : ¬ c < 0) (h1 : ¬ 255 < c) : chr8 (lo8 c) = c := by
  have t : ∀ k : Fin 256, (Int32.ofNat k.val).toUInt32.toUInt16.toUInt32.toInt32 = Int32.ofNat k.val := by decide +kernel
  unfold chr8
  rw [lo8_mask h0 h1]
  rw [Int32.lt_iff_toInt_lt] at h0 h1
  have e0 : (0 : Int32).toInt = 0 := rfl
  have e1 : (255 : Int32).toInt = 255 := rfl
  obtain ⟨k, hk⟩ : ∃ k : Nat, c.toInt = k := ⟨c.toInt.toNat, by omega⟩
  have hx : c = Int32.ofNat k := Int32.toInt_inj.mp (by rw [hk, Int32.toInt_ofNat_small (by omega)])
  rw [hx]
  exact t ⟨k, by omega⟩
theorem narrow_ch {c : Int32} (h0 : ¬ c < 0) (h1 : ¬ 65535 < c) : narrow .char (.int c) = .int c := by
  have q : narrow .char (.int (pairCh (lo8 c) (hi8 c))) = .int (pairCh (lo8 c) (hi8 c)) := narrow_c _
  rwa [pair_says h0 h1] at q
/-- the array's cell V codes the n chars f 0 .. f (n - 1) by the coder cd, as the JDK does: coder 1 just where some char is above 255 -/
def Cod (cd : Int32) (n : Nat) (f : Nat → Int32) (V : Cell) : Prop := (cd = 0 ∧ V.slots.size = n ∧ ∀ j, j < n → V.slots[j]? = some (.int (lo8 (f j))) ∧ ¬ 255 < f j) ∨ (cd = 1 ∧ V.slots.size = 2 * n ∧ (∀ j, j < n → V.slots[2 * j]? = some (.int (lo8 (f j))) ∧ V.slots[2 * j + 1]? = some (.int (hi8 (f j)))) ∧ ∃ j, j < n ∧ 255 < f j)
theorem Cod.cd {cd : Int32} {n : Nat} {f : Nat → Int32} {V : Cell} (h : Cod cd n f V) : cd = 0 ∨ cd = 1 := h.imp (fun q => q.1) fun q => q.1
theorem Cod.len {cd : Int32} {n : Nat} {f : Nat → Int32} {V : Cell} (h : Cod cd n f V) (hs : V.slots.size < 2 ^ 31) : Int32.ofNat V.slots.size >>> (cd &&& 31) = Int32.ofNat n := by
  rcases h with ⟨rfl, h, -⟩ | ⟨rfl, h, -⟩
  · rw [shr0, h]
  · rw [h, shr1 (by omega)]
/-- **x is a String of the n chars f 0 .. f (n - 1)**, Latin-1 or UTF-16; its array at t has the cell V -/
def Txt (x t : Addr) (V : Cell) (cd : Int32) (n : Nat) (f : Nat → Int32) (U : State) : Prop := Exact "java/lang/String" x U ∧ Has x "java/lang/String" "value" "[B" (.ref t) U ∧ Has x "java/lang/String" "coder" "B" (.int cd) U ∧ XT.Arr .byte t V U ∧ Cod cd n f V ∧ ∀ j, j < n → ¬ f j < 0 ∧ ¬ 65535 < f j
theorem Txt.mv {x t : Addr} {V : Cell} {cd : Int32} {n : Nat} {f : Nat → Int32} {U U' : State} (h : Txt x t V cd n f U) (hal : U.vm.Alike U'.vm) (hh : U'.heap = U.heap) : Txt x t V cd n f U' := ⟨h.1.mv hal hh, h.2.1.mv hal hh, h.2.2.1.mv hal hh, h.2.2.2.1.mv hal hh, h.2.2.2.2⟩
namespace Cdr
def yN : MethodName := ⟨"java/lang/String", "coder", "()B"⟩
abbrev yB : ByteArray := jdk_42_method_152_code
theorem d0 : decode yB 0 = .ok (.getstatic 38, 3) := by decide +kernel
theorem d3 : decode yB 3 = .ok (.ifCond (.eq) 10, 3) := by decide +kernel
theorem d6 : decode yB 6 = .ok (.aload_n 0, 1) := by decide +kernel
theorem d7 : decode yB 7 = .ok (.getfield 15, 3) := by decide +kernel
theorem d10 : decode yB 10 = .ok (.goto 4, 3) := by decide +kernel
theorem d14 : decode yB 14 = .ok (.ireturn, 1) := by decide +kernel
def site : List Cond := [.fieldLink "java/lang/String" 38 "java/lang/String" "COMPACT_STRINGS" "Z", .fieldLink "java/lang/String" 15 "java/lang/String" "coder" "B"]
def tab : Cond := tabOf yN yB 1 (some .byte) site
def P (x : Addr) (cd z : Int32) (args : Array Value) (s : State) : Prop := args = #[.ref x] ∧ Has x "java/lang/String" "coder" "B" (.int cd) s ∧ (cd = 0 ∨ cd = 1) ∧ StaticIs s "java/lang/String" "COMPACT_STRINGS" "Z" (.int z) ∧ ¬ z = 0
def E (cd : Int32) (r : Option Value) (s u : State) : Prop := XT.PureE (some (.int cd)) r s u
theorem law (l : Launch) (x : Addr) (cd z : Int32) : Law l yN 1 0 0 0 yB 1 (some .byte) site (P x cd z) (E cd) [] 0 0 := by
  refine Law.of_walk (plainFor_of_name (by decide +kernel)) (by decide +kernel) (by decide +kernel) (by decide) (fun _ _ h => by rw [h.1]; rfl) (fun _ U U' hal hh h => ⟨h.1, h.2.1.mv hal hh, h.2.2.1, h.2.2.2.1.there hal hh, h.2.2.2.2⟩) (fun r U U' V V' h1 hal h2 h => XT.PureE.mv r U U' V V' h1 hal h2 h) ?_
  intro p e s m args below meth c s₁ X0 hexec hbytes hml hret hlk hnm hown hh0 W hP
  obtain ⟨rfl, hx, hc, s1, hz⟩ := hP
  have c1 : Steps p.tables e below (s₁.setTop (entryFrame m #[.ref x] 1)) (s₁.setTop (mkF m 0 #[.val (.ref x)] [])) := entry rfl
  obtain ⟨T2, X2, q2, st2⟩ := X0.sget hexec hown (wk W (.fieldLink "java/lang/String" 38 "java/lang/String" "COMPACT_STRINGS" "Z")) s1 (fun _ _ h => by rw [hh0]; exact h) (g := (mkF m 0 #[.val (.ref x)] [])) rfl (hb hbytes d0)
  have hh2 := q2.trans hh0
  have c3 : Steps p.tables e below (s₁.setTop (entryFrame m #[.ref x] 1)) (T2.setTop (mkF m 7 #[.val (.ref x)] [.ref x])) := (c1.trans (st2 _ (Steps.refl _))).trans (by
    refine XS.ifNo X2.here hexec rfl (hb hbytes d3) rfl (i0_eq_f hz) ?_
    refine XS.aloadN X2.here hexec rfl (hb hbytes d6) rfl rfl ?_
    exact Steps.refl _)
  obtain ⟨T4, X4, q4, st4⟩ := X2.hget hexec hown (wk W (.fieldLink "java/lang/String" 15 "java/lang/String" "coder" "B")) (hx.mv X2.warmed.alike hh2) (g := (mkF m 7 #[.val (.ref x)] [.ref x])) rfl (rest := []) rfl (hb hbytes d7)
  have c5 : Steps p.tables e below (s₁.setTop (entryFrame m #[.ref x] 1)) (T4.setTop (mkF m 14 #[.val (.ref x)] [.int cd])) := (c3.trans (st4 _ (Steps.refl _))).trans (by
    refine XS.goto X4.here hexec rfl (pc0 := 10) rfl (hb hbytes d10) (by decide) rfl ?_
    exact Steps.refl _)
  exact ⟨T4, some (.int cd), _, _, _, X4, rfl, rfl, rfl, (fun h => by cases h), ⟨rfl, q4.trans hh2⟩, fun fs hl => c5.trans (X4.ireturnOut hexec hret (by rcases hc with rfl | rfl <;> rfl) (Or.inr (Or.inr (Or.inl rfl))) (hb hbytes d14) hl)⟩
end Cdr
namespace Len
def yN : MethodName := ⟨"java/lang/String", "length", "()I"⟩
abbrev yB : ByteArray := jdk_42_method_54_code
theorem d0 : decode yB 0 = .ok (.aload_n 0, 1) := by decide +kernel
theorem d1 : decode yB 1 = .ok (.getfield 9, 3) := by decide +kernel
theorem d4 : decode yB 4 = .ok (.arraylength, 1) := by decide +kernel
theorem d5 : decode yB 5 = .ok (.aload_n 0, 1) := by decide +kernel
theorem d6 : decode yB 6 = .ok (.invokevirtual 335, 3) := by decide +kernel
theorem d9 : decode yB 9 = .ok (.ishr, 1) := by decide +kernel
theorem d10 : decode yB 10 = .ok (.ireturn, 1) := by decide +kernel
def site : List Cond := [.fieldLink "java/lang/String" 9 "java/lang/String" "value" "[B", Cdr.tab] ++ virtW "java/lang/String" 335 "java/lang/String" Cdr.yN Cdr.yN
def tab : Cond := tabOf yN yB 1 (some .int) site
def P (x t : Addr) (V : Cell) (cd : Int32) (n : Nat) (f : Nat → Int32) (z : Int32) (args : Array Value) (s : State) : Prop := args = #[.ref x] ∧ Txt x t V cd n f s ∧ StaticIs s "java/lang/String" "COMPACT_STRINGS" "Z" (.int z) ∧ ¬ z = 0
def E (n : Nat) (r : Option Value) (s u : State) : Prop := XT.PureE (some (.int (Int32.ofNat n))) r s u
/-- length() of a String of n chars, in either coding -/
theorem law (l : Launch) (x t : Addr) (V : Cell) (cd : Int32) (n : Nat) (f : Nat → Int32) (z : Int32) : Law l yN 1 0 1 13 yB 1 (some .int) site (P x t V cd n f z) (E n) [] 0 0 := by
  refine Law.of_walk (plainFor_of_name (by decide +kernel)) (by decide +kernel) (by decide +kernel) (by decide) (fun _ _ h => by rw [h.1]; rfl) (fun _ U U' hal hh h => ⟨h.1, h.2.1.mv hal hh, h.2.2.1.there hal hh, h.2.2.2⟩) (fun r U U' V V' h1 hal h2 h => XT.PureE.mv r U U' V V' h1 hal h2 h) ?_
  intro p e s m args below meth c s₁ X0 hexec hbytes hml hret hlk hnm hown hh0 W hP
  obtain ⟨rfl, hx, s1, hz⟩ := hP
  have v31 := hx.2.2.2.1.2.2.2
  have c1 : Steps p.tables e below (s₁.setTop (entryFrame m #[.ref x] 1)) (s₁.setTop (mkF m 1 #[.val (.ref x)] [.ref x])) := Steps.trans (entry rfl) (by
    show Steps p.tables e below (s₁.setTop (mkF m 0 #[.val (.ref x)] [])) _
    refine XS.aloadN X0.here hexec rfl (hb hbytes d0) rfl rfl ?_
    exact Steps.refl _)
  obtain ⟨T2, X2, q2, st2⟩ := X0.hget hexec hown (wk W (.fieldLink "java/lang/String" 9 "java/lang/String" "value" "[B")) (hx.mv X0.warmed.alike hh0).2.1 (g := (mkF m 1 #[.val (.ref x)] [.ref x])) rfl (rest := []) rfl (hb hbytes d1)
  have hh2 := q2.trans hh0
  have hx2 := hx.mv X2.warmed.alike hh2
  have c3 : Steps p.tables e below (s₁.setTop (entryFrame m #[.ref x] 1)) (T2.setTop (mkF m 6 #[.val (.ref x)] [.ref x, .int (Int32.ofNat V.slots.size)])) := (c1.trans (st2 _ (Steps.refl _))).trans (by
    refine X2.alen hexec hx2.2.2.2.1 rfl rfl (hb hbytes d4) ?_
    refine XS.aloadN X2.here hexec rfl (hb hbytes d5) rfl rfl ?_
    exact Steps.refl _)
  obtain ⟨v4, T4, X4, E4, g4⟩ := X2.callV hexec (Cdr.law l x cd z) hown (wks W (virtW "java/lang/String" 335 "java/lang/String" Cdr.yN Cdr.yN)) rfl (by decide) (wk W Cdr.tab) (W := 1) (Nat.le_of_ble_eq_true rfl) (Nat.le_of_ble_eq_true rfl) (Nat.le_refl _) (Nat.le_refl _) (hx2.1.fc X2.warmed.alike) hx2.1.is (g := (mkF m 6 #[.val (.ref x)] [.ref x, .int (Int32.ofNat V.slots.size)])) rfl (by rw [hml]; rfl) c3 (argsL := []) (rest := [.int (Int32.ofNat V.slots.size)]) rfl rfl (by show 2 * 0 + (1 + 0) ≤ _; decide) (hb hbytes d6) (⟨rfl, hx2.2.2.1, hx.2.2.2.2.1.cd, s1.there X2.warmed.alike hh2, hz⟩)
  obtain ⟨rfl, q4⟩ := E4
  have c5 : Steps p.tables e below (s₁.setTop (entryFrame m #[.ref x] 1)) (T4.setTop (mkF m 10 #[.val (.ref x)] [.int (Int32.ofNat V.slots.size >>> (cd &&& 31))])) := Steps.trans g4 (by
    refine ishr X4.here hexec rfl (hb hbytes d9) rfl ?_
    exact Steps.refl _)
  rw [hx.2.2.2.2.1.len v31] at c5
  exact ⟨T4, some (.int (Int32.ofNat n)), _, _, _, X4, rfl, rfl, rfl, (fun h => by cases h), ⟨rfl, q4.trans hh2⟩, fun fs hl => c5.trans (X4.ireturnOut hexec hret rfl (Or.inl rfl) (hb hbytes d10) hl)⟩
theorem pays {l : Launch} {R : Room} {p : Program} {e : Env} {below : List Frame} {s : State} {sargs : Array Value} {len W : Nat} (x t : Addr) (V : Cell) (cd : Int32) (n : Nat) (f : Nat → Int32) (z : Int32) (htab : tab.before sargs s = true) (hfr : 2 ≤ R.frames) (hlo : W + 25 ≤ R.locals) :
    Back l R p e below s sargs yN len W (fun A₁ a₁ => A₁.cells + 0 ≤ R.cells ∧ A₁.slots + 0 ≤ R.slots ∧ P x t V cd n f z a₁ A₁.U) (fun A₁ _ v₁ B₁ => E n v₁ A₁.U B₁.U ∧ B₁.locs = A₁.locs ++ [] ∧ B₁.cells = A₁.cells + 0 ∧ B₁.slots = A₁.slots + 0) :=
  (law l x t V cd n f z).pays htab hfr (by omega)
end Len
namespace IsL
def yN : MethodName := ⟨"java/lang/String", "isLatin1", "()Z"⟩
abbrev yB : ByteArray := jdk_42_method_154_code
theorem d0 : decode yB 0 = .ok (.getstatic 38, 3) := by decide +kernel
theorem d3 : decode yB 3 = .ok (.ifCond (.eq) 14, 3) := by decide +kernel
theorem d6 : decode yB 6 = .ok (.aload_n 0, 1) := by decide +kernel
theorem d7 : decode yB 7 = .ok (.getfield 15, 3) := by decide +kernel
theorem d10 : decode yB 10 = .ok (.ifCond (.ne) 7, 3) := by decide +kernel
theorem d13 : decode yB 13 = .ok (.iconst 1, 1) := by decide +kernel
theorem d14 : decode yB 14 = .ok (.goto 4, 3) := by decide +kernel
theorem d17 : decode yB 17 = .ok (.iconst 0, 1) := by decide +kernel
theorem d18 : decode yB 18 = .ok (.ireturn, 1) := by decide +kernel
def site : List Cond := [.fieldLink "java/lang/String" 38 "java/lang/String" "COMPACT_STRINGS" "Z", .fieldLink "java/lang/String" 15 "java/lang/String" "coder" "B"]
def tab : Cond := tabOf yN yB 1 (some .boolean) site
def P (x : Addr) (cd z : Int32) (args : Array Value) (s : State) : Prop := args = #[.ref x] ∧ Has x "java/lang/String" "coder" "B" (.int cd) s ∧ (cd = 0 ∨ cd = 1) ∧ StaticIs s "java/lang/String" "COMPACT_STRINGS" "Z" (.int z) ∧ ¬ z = 0
def E (cd : Int32) (r : Option Value) (s u : State) : Prop := XT.PureE (some (.int (1 - cd))) r s u
theorem law (l : Launch) (x : Addr) (cd z : Int32) : Law l yN 1 0 0 0 yB 1 (some .boolean) site (P x cd z) (E cd) [] 0 0 := by
  refine Law.of_walk (plainFor_of_name (by decide +kernel)) (by decide +kernel) (by decide +kernel) (by decide) (fun _ _ h => by rw [h.1]; rfl) (fun _ U U' hal hh h => ⟨h.1, h.2.1.mv hal hh, h.2.2.1, h.2.2.2.1.there hal hh, h.2.2.2.2⟩) (fun r U U' V V' h1 hal h2 h => XT.PureE.mv r U U' V V' h1 hal h2 h) ?_
  intro p e s m args below meth c s₁ X0 hexec hbytes hml hret hlk hnm hown hh0 W hP
  obtain ⟨rfl, hx, hc, s1, hz⟩ := hP
  have c1 : Steps p.tables e below (s₁.setTop (entryFrame m #[.ref x] 1)) (s₁.setTop (mkF m 0 #[.val (.ref x)] [])) := entry rfl
  obtain ⟨T2, X2, q2, st2⟩ := X0.sget hexec hown (wk W (.fieldLink "java/lang/String" 38 "java/lang/String" "COMPACT_STRINGS" "Z")) s1 (fun _ _ h => by rw [hh0]; exact h) (g := (mkF m 0 #[.val (.ref x)] [])) rfl (hb hbytes d0)
  have hh2 := q2.trans hh0
  have c3 : Steps p.tables e below (s₁.setTop (entryFrame m #[.ref x] 1)) (T2.setTop (mkF m 7 #[.val (.ref x)] [.ref x])) := (c1.trans (st2 _ (Steps.refl _))).trans (by
    refine XS.ifNo X2.here hexec rfl (hb hbytes d3) rfl (i0_eq_f hz) ?_
    refine XS.aloadN X2.here hexec rfl (hb hbytes d6) rfl rfl ?_
    exact Steps.refl _)
  obtain ⟨T4, X4, q4, st4⟩ := X2.hget hexec hown (wk W (.fieldLink "java/lang/String" 15 "java/lang/String" "coder" "B")) (hx.mv X2.warmed.alike hh2) (g := (mkF m 7 #[.val (.ref x)] [.ref x])) rfl (rest := []) rfl (hb hbytes d7)
  have c5 : Steps p.tables e below (s₁.setTop (entryFrame m #[.ref x] 1)) (T4.setTop (mkF m 10 #[.val (.ref x)] [.int cd])) := c3.trans (st4 _ (Steps.refl _))
  have c6 : Steps p.tables e below (s₁.setTop (entryFrame m #[.ref x] 1)) (T4.setTop (mkF m 18 #[.val (.ref x)] [.int (1 - cd)])) := by
    rcases hc with rfl | rfl
    · exact c5.trans (by
        refine XS.ifNo X4.here hexec rfl (hb hbytes d10) rfl (i0_ne_f rfl) ?_
        refine iconstV X4.here hexec rfl 1 (hb hbytes d13) (by decide) ?_
        refine XS.goto X4.here hexec rfl (pc0 := 14) rfl (hb hbytes d14) (by decide) rfl ?_
        exact Steps.refl _)
    · exact c5.trans (by
        refine XS.ifYes X4.here hexec rfl (pc0 := 10) rfl (hb hbytes d10) rfl (i0_ne_t (by decide)) (by decide) rfl ?_
        refine iconstV X4.here hexec rfl 0 (hb hbytes d17) (by decide) ?_
        exact Steps.refl _)
  exact ⟨T4, some (.int (1 - cd)), _, _, _, X4, rfl, rfl, rfl, (fun h => by cases h), ⟨rfl, q4.trans hh2⟩, fun fs hl => c6.trans (X4.ireturnOut hexec hret (by rcases hc with rfl | rfl <;> rfl) (Or.inr (Or.inl rfl)) (hb hbytes d18) hl)⟩
end IsL
namespace LChA
def yN : MethodName := ⟨"java/lang/StringLatin1", "charAt", "([BI)C"⟩
abbrev yB : ByteArray := jdk_43_method_2_code
theorem d0 : decode yB 0 = .ok (.iload_n 1, 1) := by decide +kernel
theorem d1 : decode yB 1 = .ok (.aload_n 0, 1) := by decide +kernel
theorem d2 : decode yB 2 = .ok (.arraylength, 1) := by decide +kernel
theorem d3 : decode yB 3 = .ok (.invokestatic 9, 3) := by decide +kernel
theorem d6 : decode yB 6 = .ok (.aload_n 0, 1) := by decide +kernel
theorem d7 : decode yB 7 = .ok (.iload_n 1, 1) := by decide +kernel
theorem d8 : decode yB 8 = .ok (.baload, 1) := by decide +kernel
theorem d9 : decode yB 9 = .ok (.sipush 255, 3) := by decide +kernel
theorem d12 : decode yB 12 = .ok (.iand, 1) := by decide +kernel
theorem d13 : decode yB 13 = .ok (.i2c, 1) := by decide +kernel
theorem d14 : decode yB 14 = .ok (.ireturn, 1) := by decide +kernel
def site : List Cond := [JO.Str_checkIndex.tab] ++ staticW "java/lang/StringLatin1" 9 JO.Str_checkIndex.yN
def tab : Cond := tabOf yN yB 2 (some .char) site
def P (t : Addr) (V : Cell) (i : Nat) (u : Int32) (fm : Value) (args : Array Value) (s : State) : Prop := args = #[.ref t, .int (Int32.ofNat i)] ∧ XT.Arr .byte t V s ∧ V.slots[i]? = some (.int u) ∧ (StaticIs s "jdk/internal/util/Preconditions" "SIOOBE_FORMATTER" "Ljava/util/function/BiFunction;" fm ∧ fm.isRef = true)
def E (u : Int32) (r : Option Value) (s w : State) : Prop := XT.PureE (some (.int (chr8 u))) r s w
theorem law (l : Launch) (t : Addr) (V : Cell) (i : Nat) (u : Int32) (fm : Value) : Law l yN 2 2 2 27 yB 2 (some .char) site (P t V i u fm) (E u) [] 0 0 := by
  refine Law.of_walk (plainFor_of_name (by decide +kernel)) (by decide +kernel) (by decide +kernel) (by decide) (fun _ _ h => by rw [h.1]; rfl) (fun _ U U' hal hh h => ⟨h.1, h.2.1.mv hal hh, h.2.2.1, h.2.2.2.1.there hal hh, h.2.2.2.2⟩) (fun r U U' V V' h1 hal h2 h => XT.PureE.mv r U U' V V' h1 hal h2 h) ?_
  intro p e s m args below meth c s₁ X0 hexec hbytes hml hret hlk hnm hown hh0 W hP
  obtain ⟨rfl, hV, hu, s1, rf⟩ := hP
  have v31 := hV.2.2.2
  have hi : i < V.slots.size := (Array.getElem?_eq_some_iff.mp hu).1
  have c1 : Steps p.tables e below (s₁.setTop (entryFrame m #[.ref t, .int (Int32.ofNat i)] 2)) (s₁.setTop (mkF m 0 #[.val (.ref t), .val (.int (Int32.ofNat i))] [])) := entry rfl
  have c2 : Steps p.tables e below (s₁.setTop (entryFrame m #[.ref t, .int (Int32.ofNat i)] 2)) (s₁.setTop (mkF m 3 #[.val (.ref t), .val (.int (Int32.ofNat i))] [.int (Int32.ofNat V.slots.size), .int (Int32.ofNat i)])) := c1.trans (by
    refine XS.iloadN X0.here hexec rfl (hb hbytes d0) rfl ?_
    refine XS.aloadN X0.here hexec rfl (hb hbytes d1) rfl rfl ?_
    refine X0.alen hexec (hV.mv X0.warmed.alike hh0) rfl rfl (hb hbytes d2) ?_
    exact Steps.refl _)
  obtain ⟨v3, T3, X3, E3, g3⟩ := X0.callS hexec (JO.Str_checkIndex.law l (Int32.ofNat i) (Int32.ofNat V.slots.size) fm) hown (wks W (staticW "java/lang/StringLatin1" 9 JO.Str_checkIndex.yN)) (wk W JO.Str_checkIndex.tab) (W := 0) (Nat.le_of_ble_eq_true rfl) (Nat.le_of_ble_eq_true rfl) (Nat.le_refl _) (Nat.le_refl _) (g := (mkF m 3 #[.val (.ref t), .val (.int (Int32.ofNat i))] [.int (Int32.ofNat V.slots.size), .int (Int32.ofNat i)])) rfl (by rw [hml]; rfl) c2 (argsL := [.int (Int32.ofNat i), .int (Int32.ofNat V.slots.size)]) (rest := []) rfl rfl (by show 2 * 0 + 0 ≤ _; decide) (hb hbytes d3) (⟨rfl, rf, s1.there X0.warmed.alike hh0, Int32.ofNat_not_neg (by omega), lt32 v31 hi⟩)
  obtain ⟨rfl, q3⟩ := E3
  have hh3 := q3.trans hh0
  have c4 : Steps p.tables e below (s₁.setTop (entryFrame m #[.ref t, .int (Int32.ofNat i)] 2)) (T3.setTop (mkF m 14 #[.val (.ref t), .val (.int (Int32.ofNat i))] [.int (chr8 u)])) := Steps.trans g3 (by
    refine XS.aloadN X3.here hexec rfl (hb hbytes d6) rfl rfl ?_
    refine XS.iloadN X3.here hexec rfl (hb hbytes d7) rfl ?_
    refine X3.aget hexec (hV.mv X3.warmed.alike hh3) rfl hu rfl rfl (hb hbytes d8) ?_
    refine sipushV X3.here hexec rfl 255 (hb hbytes d9) (by decide) ?_
    refine XS.iand X3.here hexec rfl (hb hbytes d12) rfl ?_
    refine i2c X3.here hexec rfl (hb hbytes d13) rfl ?_
    exact Steps.refl _)
  exact ⟨T3, some (.int (chr8 u)), _, _, _, X3, rfl, rfl, rfl, (fun h => by cases h), ⟨rfl, hh3⟩, fun fs hl => c4.trans (X3.ireturnOut hexec hret (narrow_c _) (Or.inr (Or.inr (Or.inr (Or.inl rfl)))) (hb hbytes d14) hl)⟩
end LChA
end StrChars
namespace StrChars.Road
open Jvm Sem ClassFile Op Lib Jvm.Stand Jvm.Free Jvm.Free.XT
open Jvm.Lib.Cold (StaticIs)
theorem consq {a : Array Value} {s : State} {c : Jvm.Cond} {L : List Jvm.Cond} (h0 : c.before a s = true) (h : ∀ w ∈ L, w.before a s = true) : ∀ w ∈ c :: L, w.before a s = true := fun w hw => (List.mem_cons.mp hw).elim (fun e => e ▸ h0) (h w)
/-- the words of String.length(), either coding -/
abbrev wordsLen : List Jvm.Cond := [.code Len.yN Len.yB 1 (some .int), .initialized ST, .fieldLink ST 9 ST "value" "[B", .fieldLink ST 38 ST "COMPACT_STRINGS" "Z", .fieldLink ST 15 ST "coder" "B", .code Cdr.yN Cdr.yB 1 (some .byte), .methodLink ST 335 Cdr.yN, .declares Cdr.yN, .selects ST Cdr.yN Cdr.yN, .instanceMethod Cdr.yN]
theorem tabLen_of {a : Array Value} {s : State} (h : ∀ w ∈ wordsLen, w.before a s = true) : Len.tab.before a s = true := by
  have hc : Cdr.tab.before a s = true := unparts (wk h (.code Cdr.yN Cdr.yB 1 (some .byte))) (wks h (.initialized Cdr.yN.cls :: Cdr.site))
  have q := consq hc h
  exact unparts (wk q (.code Len.yN Len.yB 1 (some .int))) (wks q (.initialized Len.yN.cls :: Len.site))
theorem movedLen {Z s : State} {a0 args : Array Value} (hZ : Z.Warmed39 s.vm) (hw : ∀ d ∈ wordsLen, d.before a0 Z = true) : ∀ d ∈ wordsLen, d.before args s = true := fun d hd => by
  have q := hw d hd
  have t : ∀ d ∈ wordsLen, d = .arrayClass .byte ∨ (d.onTables && d.keepsFace) = true := by decide +kernel
  rcases t d hd with rfl | t
  · exact RoadKit.mvA hZ q
  · exact RoadKit.mv hZ q t
/-- the bytes of the chars cs, low before high -/
def wideBytes : List Int32 → List Value
  | [] => []
  | c :: cs => .int (lo8 c) :: .int (hi8 c) :: wideBytes cs
theorem wide_lo (d : Value) : ∀ (cs : List Int32) (j : Nat), j < cs.length → (wideBytes cs).getD (2 * j) d = .int (lo8 (cs.getD j 0))
  | [], j, h => absurd h (Nat.not_lt_zero j)
  | c :: cs, 0, _ => rfl
  | c :: cs, j + 1, h => by
    have q := wide_lo d cs j (by simpa using h)
    rw [show 2 * (j + 1) = 2 * j + 1 + 1 from by omega]
    simpa [wideBytes] using q
theorem wide_hi (d : Value) : ∀ (cs : List Int32) (j : Nat), j < cs.length → (wideBytes cs).getD (2 * j + 1) d = .int (hi8 (cs.getD j 0))
  | [], j, h => absurd h (Nat.not_lt_zero j)
  | c :: cs, 0, _ => rfl
  | c :: cs, j + 1, h => by
    have q := wide_hi d cs j (by simpa using h)
    rw [show 2 * (j + 1) + 1 = 2 * j + 1 + 1 + 1 from by omega]
    simpa [wideBytes] using q
theorem low_at (d : Value) (cs : List Int32) (j : Nat) (h : j < cs.length) : (cs.map fun c => Value.int (lo8 c)).getD j d = .int (lo8 (cs.getD j 0)) := by
  simp [List.getD_eq_getElem?_getD, h]
/-- an array of N2 bytes vs codes the chars cs by the coder cd -/
def CodA (cs : List Int32) (cd N2 : Int32) (vs : List Value) : Prop := (cd = 0 ∧ N2 = Int32.ofNat cs.length ∧ vs = (cs.map fun c => Value.int (lo8 c)) ∧ ∀ c ∈ cs, ¬ 255 < c) ∨ (cd = 1 ∧ N2 = Int32.ofNat (2 * cs.length) ∧ vs = wideBytes cs ∧ ∃ c ∈ cs, 255 < c)
theorem CodA.cod {cs : List Int32} {cd N2 : Int32} {vs : List Value} {V : Cell} (h : CodA cs cd N2 vs) (hn : 2 * cs.length < 2 ^ 31) (hs : V.slots.size = N2.toNatClampNeg) (hv : RoadKit.Has V vs (.int 0)) : Cod cd cs.length (fun j => cs.getD j 0) V := by
  rcases h with ⟨rfl, rfl, rfl, h⟩ | ⟨rfl, rfl, rfl, c, hc, hw⟩
  · rw [n32 (by omega)] at hs
    exact Or.inl ⟨rfl, hs, fun j hj => ⟨by rw [hv j (by omega), low_at _ _ _ hj], by
      have e : cs.getD j 0 = cs[j] := by simp [List.getD_eq_getElem?_getD, hj]
      show ¬ 255 < cs.getD j 0
      rw [e]; exact h _ (List.getElem_mem _)⟩⟩
  · rw [n32 (by omega)] at hs
    obtain ⟨j, hj, rfl⟩ := List.getElem_of_mem hc
    exact Or.inr ⟨rfl, hs, fun j hj => ⟨by rw [hv _ (by omega), wide_lo _ _ _ hj], by rw [hv _ (by omega), wide_hi _ _ _ hj]⟩, j, hj, by
      have e : cs.getD j 0 = cs[j] := by simp [List.getD_eq_getElem?_getD, hj]
      show 255 < cs.getD j 0
      rw [e]; exact hw⟩
/-- an object of exactly java/lang/String, its two fields found: as the laws ask it -/
theorem strObj {Z U : State} {a0 : Array Value} {kI : Nat} (wi : (Jvm.Cond.instantiable ST kI).before a0 Z = true) (al : Z.vm.Alike U.vm) {x : Addr} {v0 c0 : Value} (E : RoadKit.Exa Z U.heap x ST) (V : RoadKit.Fld Z U.heap x ST "value" "[B" v0) (C : RoadKit.Fld Z U.heap x ST "coder" "B" c0) :
    ∃ (D : Cell) (fV fC : Field), Blank ST x D U ∧ Found ST "value" "[B" fV U ∧ Found ST "coder" "B" fC U ∧ D.slots[fV.slot]? = some v0 ∧ D.slots[fC.slot]? = some c0 ∧ RoadKit.slotOf Z ST "value" "[B" = fV.slot ∧ RoadKit.slotOf Z ST "coder" "B" = fC.slot := by
  obtain ⟨D, cfV, kV, iV, fV, hD, gV, stV, knV, obV, asV, slV⟩ := V
  obtain ⟨D', cfC, kC, iC, fC, hD', gC, stC, -, -, asC, slC⟩ := C
  cases hD.symm.trans hD'
  obtain ⟨D2, kD, e1, e2, e3, e4, e5⟩ := E
  cases hD.symm.trans e1
  obtain ⟨c2, k2, i1, i2, i3, -⟩ := Cond.instantiable_spec wi
  cases e2.symm.trans i1
  cases e3.symm.trans i2
  obtain ⟨kU, u1, u2⟩ := al.2.2 _ _ e3
  exact ⟨D, fV, fC, ⟨hD, ⟨knV, fun q hq => by rw [hq] at obV; cases obV⟩, by rw [al.findClass]; exact e2, kU, u1, by rw [u2]; exact i3, by rw [u2]; exact e5 i3⟩, ⟨SBG.found_only al ⟨cfV, kV, iV, gV⟩, stV⟩, ⟨SBG.found_only al ⟨cfC, kC, iC, gC⟩, stC⟩, slV, slC, by simp [RoadKit.slotOf, gV], by simp [RoadKit.slotOf, gC]⟩
theorem sta_is {Z U : State} (al : Z.vm.Alike U.vm) {C n d : String} {v : Value} (S : RoadKit.Sta Z U.heap C n d v) : StaticIs U C n d v := by
  obtain ⟨cfS, iS, kS, fS, st, cS, t1, t2, t3, t4, t5, t6, t7⟩ := S
  exact StaticIs.there (s := { Z with heap := U.heap }) ⟨cfS, iS, kS, fS, st, cS, t1, t2, t3, t4, t5, (fun q => by rw [q] at t6; cases t6), t7⟩ al rfl
/-- **length() OF SUCH A STRING** -/
theorem lenW {p : Program} {l : Launch} {e : Env} {R : Room} {s : State} {args : Array Value} {below : List Frame} {len W : Nat} {Z : State} {a0 : Array Value} {h : Heap} (hZ : Z.Warmed39 s.vm) (hw : ∀ d ∈ wordsLen, d.before a0 Z = true) {kI : Nat} (wi : (Jvm.Cond.instantiable ST kI).before a0 Z = true)
    {x t : Addr} {kb : ClassId} {cs : List Int32} {cd N2 z : Int32} {vs : List Value} (E : RoadKit.Exa Z h x ST) (V : RoadKit.Fld Z h x ST "value" "[B" (.ref t)) (C : RoadKit.Fld Z h x ST "coder" "B" (.int cd)) (K : RoadKit.Arv Z h t kb .byte N2 vs (.int 0)) (hc : CodA cs cd N2 vs) (hb : ∀ c ∈ cs, ¬ c < 0 ∧ ¬ (65535 : Int32) < c)
    (S : RoadKit.Sta Z h ST "COMPACT_STRINGS" "Z" (.int z)) (hz : ¬ z = 0) (l2 : cs.length ≤ 4000) (hfr : 2 ≤ R.frames) (hlo : W + 25 ≤ R.locals) :
    Back l R p e below s args (⟨"java/lang/String", "length", "()I"⟩ : MethodName) len W (fun P a => a = #[.ref x] ∧ P.U.heap = h ∧ P.cells + 0 ≤ R.cells ∧ P.slots + 0 ≤ R.slots)
      (fun P _ v B => ∃ L, (v = some (.int (Int32.ofNat cs.length)) ∧ L = [] ∧ B.U.heap = h) ∧ B.locs = P.locs ++ L ∧ B.cells = P.cells + 0 ∧ B.slots = P.slots + 0) := by
  obtain ⟨A, K1, K2, K3, K4, K5, K6⟩ := K
  have hcod := hc.cod (by omega) K3 K5
  intro m meth c P g ig mk a X hg hsize hdg hW hn hp'
  obtain ⟨rfl, rfl, r1, r2⟩ := hp'
  have al : Z.vm.Alike P.U.vm := hZ.alike.trans X.warmed.alike
  obtain ⟨D, fV, fC, hB, F1, F2, g1, g2, -, -⟩ := strObj wi al E V C
  have hx : Txt x t A cd cs.length (fun j => cs.getD j 0) P.U := ⟨⟨_, hB.2.2.1, D, hB.1, rfl, by cases q : D.vm <;> first | rfl | exact absurd q (hB.2.1.2 _)⟩, Has.of hB F1 g1, Has.of hB F2 g2, ⟨K1.1, State.isArrayOf_alike al K1.2.1, K1.2.2, by rcases hcod with ⟨-, q, -⟩ | ⟨-, q, -⟩ <;> omega⟩, hcod, fun j hj => by
    have e : cs.getD j 0 = cs[j] := by simp [List.getD_eq_getElem?_getD, hj]
    show ¬ cs.getD j 0 < 0 ∧ ¬ 65535 < cs.getD j 0
    rw [e]; exact hb _ (List.getElem_mem _)⟩
  obtain ⟨v, B, X', ⟨⟨hv, hh⟩, hl, hk, hs⟩, st⟩ := Len.pays x t A cd cs.length (fun j => cs.getD j 0) z (tabLen_of (movedLen hZ hw)) hfr hlo m meth c P g ig mk _ X hg hsize hdg hW hn ⟨r1, r2, rfl, hx, sta_is al S, hz⟩
  exact ⟨v, B, X', ⟨[], ⟨hv, rfl, hh⟩, hl, hk, hs⟩, st⟩
end StrChars.Road
namespace StrChars
open Jvm Sem ClassFile Op Lib Jvm.Stand Jvm.Free.XT Jvm.Free.ALB Jvm.Free.JM Jvm.Free
open Jvm.Lib.Cold (StaticIs)
/-- what place i of a byte[]'s cell holds -/
def yv (A : Cell) (i : Nat) : Int32 := match A.slots[i]? with | some (.int x) => x | _ => 0
theorem yv_get {a : Addr} {A : Cell} {U : State} (h : XT.Arr .byte a A U) (ht : Typed .byte A) {i : Nat} (hi : i < A.slots.size) : A.slots[i]? = some (.int (yv A i)) := by
  have e := Array.getElem?_eq_getElem hi
  have f := ht i _ e
  unfold yv; rw [e]
  generalize A.slots[i] = v at f
  cases v <;> simp [fits] at f ⊢
/-- the two arrays are equal, place for place -/
def EqC (A B : Cell) : Prop := A.slots.size = B.slots.size ∧ ∀ i, i < A.slots.size → yv A i = yv B i
/-- a boolean that says whether p -/
def Says01 (q : Prop) (r : Option Value) (s u : State) : Prop := ∃ v : Int32, r = some (.int v) ∧ u.heap = s.heap ∧ ((v = 1 ∧ q) ∨ (v = 0 ∧ ¬ q))
theorem Says01.mv {q : Prop} : ∀ r (U U' V V' : State), U'.heap = U.heap → V.vm.Alike V'.vm → V'.heap = V.heap → Says01 q r U V → Says01 q r U' V' :=
  fun r U U' V V' h1 _ h2 ⟨v, a, b, c⟩ => ⟨v, a, by rw [h1, h2]; exact b, c⟩
namespace LEq
def yN : MethodName := ⟨"java/lang/StringLatin1", "equals", "([B[B)Z"⟩
abbrev yB : ByteArray := jdk_43_method_13_code
theorem d0 : decode yB 0 = .ok (.aload_n 0, 1) := by decide +kernel
theorem d1 : decode yB 1 = .ok (.arraylength, 1) := by decide +kernel
theorem d2 : decode yB 2 = .ok (.aload_n 1, 1) := by decide +kernel
theorem d3 : decode yB 3 = .ok (.arraylength, 1) := by decide +kernel
theorem d4 : decode yB 4 = .ok (.if_icmp (.ne) 30, 3) := by decide +kernel
theorem d7 : decode yB 7 = .ok (.iconst 0, 1) := by decide +kernel
theorem d8 : decode yB 8 = .ok (.istore_n 2, 1) := by decide +kernel
theorem d9 : decode yB 9 = .ok (.iload_n 2, 1) := by decide +kernel
theorem d10 : decode yB 10 = .ok (.aload_n 0, 1) := by decide +kernel
theorem d11 : decode yB 11 = .ok (.arraylength, 1) := by decide +kernel
theorem d12 : decode yB 12 = .ok (.if_icmp (.ge) 20, 3) := by decide +kernel
theorem d15 : decode yB 15 = .ok (.aload_n 0, 1) := by decide +kernel
theorem d16 : decode yB 16 = .ok (.iload_n 2, 1) := by decide +kernel
theorem d17 : decode yB 17 = .ok (.baload, 1) := by decide +kernel
theorem d18 : decode yB 18 = .ok (.aload_n 1, 1) := by decide +kernel
theorem d19 : decode yB 19 = .ok (.iload_n 2, 1) := by decide +kernel
theorem d20 : decode yB 20 = .ok (.baload, 1) := by decide +kernel
theorem d21 : decode yB 21 = .ok (.if_icmp (.eq) 5, 3) := by decide +kernel
theorem d24 : decode yB 24 = .ok (.iconst 0, 1) := by decide +kernel
theorem d25 : decode yB 25 = .ok (.ireturn, 1) := by decide +kernel
theorem d26 : decode yB 26 = .ok (.iinc 2 1, 3) := by decide +kernel
theorem d29 : decode yB 29 = .ok (.goto (-20), 3) := by decide +kernel
theorem d32 : decode yB 32 = .ok (.iconst 1, 1) := by decide +kernel
theorem d33 : decode yB 33 = .ok (.ireturn, 1) := by decide +kernel
theorem d34 : decode yB 34 = .ok (.iconst 0, 1) := by decide +kernel
theorem d35 : decode yB 35 = .ok (.ireturn, 1) := by decide +kernel
def site : List Cond := []
def tab : Cond := tabOf yN yB 3 (some .boolean) site
def P (a : Addr) (A : Cell) (b : Addr) (B : Cell) (args : Array Value) (s : State) : Prop := args = #[.ref a, .ref b] ∧ XT.Arr .byte a A s ∧ Typed .byte A ∧ XT.Arr .byte b B s ∧ Typed .byte B
/-- whether two byte[] are equal, place for place -/
theorem law (l : Launch) (a : Addr) (A : Cell) (b : Addr) (B : Cell) : Law l yN 2 2 0 0 yB 3 (some .boolean) site (P a A b B) (Says01 (EqC A B)) [] 0 0 := by
  refine Law.of_walk (plainFor_of_name (by decide +kernel)) (by decide +kernel) (by decide +kernel) (by decide) (fun _ _ h => by rw [h.1]; rfl) (fun _ U U' hal hh h => ⟨h.1, h.2.1.mv hal hh, h.2.2.1, h.2.2.2.1.mv hal hh, h.2.2.2.2⟩) (fun r U U' V V' h1 hal h2 h => Says01.mv r U U' V V' h1 hal h2 h) ?_
  intro p e s m args below meth c s₁ X0 hexec hbytes hml hret hlk hnm hown hh0 W hP
  obtain ⟨rfl, hA, tA, hB, tB⟩ := hP
  have a31 := hA.2.2.2
  have b31 := hB.2.2.2
  have hA0 := hA.mv X0.warmed.alike hh0
  have hB0 := hB.mv X0.warmed.alike hh0
  have c1 : Steps p.tables e below (s₁.setTop (entryFrame m #[.ref a, .ref b] 3)) (s₁.setTop (mkF m 0 #[.val (.ref a), .val (.ref b), .unset] [])) := entry rfl
  have c2 : Steps p.tables e below (s₁.setTop (entryFrame m #[.ref a, .ref b] 3)) (s₁.setTop (mkF m 4 #[.val (.ref a), .val (.ref b), .unset] [.int (Int32.ofNat B.slots.size), .int (Int32.ofNat A.slots.size)])) := c1.trans (by
    refine XS.aloadN X0.here hexec rfl (hb hbytes d0) rfl rfl ?_
    refine X0.alen hexec hA0 rfl rfl (hb hbytes d1) ?_
    refine XS.aloadN X0.here hexec rfl (hb hbytes d2) rfl rfl ?_
    refine X0.alen hexec hB0 rfl rfl (hb hbytes d3) ?_
    exact Steps.refl _)
  by_cases hs : A.slots.size = B.slots.size
  · have c3 : Steps p.tables e below (s₁.setTop (entryFrame m #[.ref a, .ref b] 3)) (s₁.setTop (mkF m 9 #[.val (.ref a), .val (.ref b), .val (.int 0)] [])) := c2.trans (by
      refine XS.icmpNo X0.here hexec rfl (hb hbytes d4) rfl (ii_ne_f (by rw [hs])) ?_
      refine iconstV X0.here hexec rfl 0 (hb hbytes d7) (by decide) ?_
      refine XS.istoreN X0.here hexec rfl (hb hbytes d8) rfl rfl ?_
      exact Steps.refl _)
    have loop : ∀ (r i : Nat), i + r = A.slots.size → (∀ j, j < i → yv A j = yv B j) → Steps p.tables e below (s₁.setTop (entryFrame m #[.ref a, .ref b] 3)) (s₁.setTop (mkF m 9 #[.val (.ref a), .val (.ref b), .val (.int (Int32.ofNat i))] [])) → ∃ (pc : Nat) (Ls : Array Slot) (v : Int32), (pc = 25 ∨ pc = 33) ∧ ((v = 1 ∧ EqC A B) ∨ (v = 0 ∧ ¬ EqC A B)) ∧ Steps p.tables e below (s₁.setTop (entryFrame m #[.ref a, .ref b] 3)) (s₁.setTop (mkF m pc Ls [.int v])) := by
      intro r
      induction r with
      | zero =>
        intro i hi he cl
        exact ⟨33, _, 1, Or.inr rfl, Or.inl ⟨rfl, hs, fun j hj => he j (by omega)⟩, cl.trans (by
          refine XS.iloadN X0.here hexec rfl (hb hbytes d9) rfl ?_
          refine XS.aloadN X0.here hexec rfl (hb hbytes d10) rfl rfl ?_
          refine X0.alen hexec hA0 rfl rfl (hb hbytes d11) ?_
          refine XS.icmpYes X0.here hexec rfl (pc0 := 12) rfl (hb hbytes d12) rfl (ii_ge_t (nlt32 (by omega) (by omega))) (by decide) rfl ?_
          refine iconstV X0.here hexec rfl 1 (hb hbytes d32) (by decide) ?_
          exact Steps.refl _)⟩
      | succ r ih =>
        intro i hi he cl
        have c4 : Steps p.tables e below (s₁.setTop (entryFrame m #[.ref a, .ref b] 3)) (s₁.setTop (mkF m 21 #[.val (.ref a), .val (.ref b), .val (.int (Int32.ofNat i))] [.int (yv B i), .int (yv A i)])) := cl.trans (by
          refine XS.iloadN X0.here hexec rfl (hb hbytes d9) rfl ?_
          refine XS.aloadN X0.here hexec rfl (hb hbytes d10) rfl rfl ?_
          refine X0.alen hexec hA0 rfl rfl (hb hbytes d11) ?_
          refine XS.icmpNo X0.here hexec rfl (hb hbytes d12) rfl (ii_ge_f (lt32 (by omega) (by omega))) ?_
          refine XS.aloadN X0.here hexec rfl (hb hbytes d15) rfl rfl ?_
          refine XS.iloadN X0.here hexec rfl (hb hbytes d16) rfl ?_
          refine X0.aget hexec hA0 rfl (yv_get hA tA (i := i) (by omega)) rfl rfl (hb hbytes d17) ?_
          refine XS.aloadN X0.here hexec rfl (hb hbytes d18) rfl rfl ?_
          refine XS.iloadN X0.here hexec rfl (hb hbytes d19) rfl ?_
          refine X0.aget hexec hB0 rfl (yv_get hB tB (i := i) (by omega)) rfl rfl (hb hbytes d20) ?_
          exact Steps.refl _)
        by_cases hv : yv A i = yv B i
        · have c5 : Steps p.tables e below (s₁.setTop (entryFrame m #[.ref a, .ref b] 3)) (s₁.setTop (mkF m 9 #[.val (.ref a), .val (.ref b), .val (.int (Int32.ofNat i + 1))] [])) := c4.trans (by
            refine XS.icmpYes X0.here hexec rfl (pc0 := 21) rfl (hb hbytes d21) rfl (ii_eq_t hv) (by decide) rfl ?_
            refine iincV X0.here hexec rfl 1 (hb hbytes d26) (by decide) rfl rfl ?_
            refine XS.goto X0.here hexec rfl (pc0 := 29) rfl (hb hbytes d29) (by decide) rfl ?_
            exact Steps.refl _)
          rw [succ32] at c5
          exact ih (i + 1) (by omega) (fun j hj => by
            by_cases e : j = i
            · rw [e]; exact hv
            · exact he j (by omega)) c5
        · exact ⟨25, _, 0, Or.inl rfl, Or.inr ⟨rfl, fun q => hv (q.2 i (by omega))⟩, c4.trans (by
            refine XS.icmpNo X0.here hexec rfl (hb hbytes d21) rfl (ii_eq_f hv) ?_
            refine iconstV X0.here hexec rfl 0 (hb hbytes d24) (by decide) ?_
            exact Steps.refl _)⟩
    obtain ⟨pc, Ls, v, hpc, hv, cz⟩ := loop A.slots.size 0 (by omega) (fun j hj => absurd hj (Nat.not_lt_zero j)) c3
    have nv : narrow .boolean (.int v) = .int v := by rcases hv with ⟨rfl, -⟩ | ⟨rfl, -⟩ <;> rfl
    rcases hpc with rfl | rfl
    · exact ⟨s₁, some (.int v), _, _, _, X0, rfl, rfl, rfl, (fun h => by cases h), ⟨v, rfl, hh0, hv⟩, fun fs hl => cz.trans (X0.ireturnOut hexec hret nv (Or.inr (Or.inl rfl)) (hb hbytes d25) hl)⟩
    · exact ⟨s₁, some (.int v), _, _, _, X0, rfl, rfl, rfl, (fun h => by cases h), ⟨v, rfl, hh0, hv⟩, fun fs hl => cz.trans (X0.ireturnOut hexec hret nv (Or.inr (Or.inl rfl)) (hb hbytes d33) hl)⟩
  · have c3 : Steps p.tables e below (s₁.setTop (entryFrame m #[.ref a, .ref b] 3)) (s₁.setTop (mkF m 35 #[.val (.ref a), .val (.ref b), .unset] [.int 0])) := c2.trans (by
      refine XS.icmpYes X0.here hexec rfl (pc0 := 4) rfl (hb hbytes d4) rfl (ii_ne_t (ne32 a31 b31 hs)) (by decide) rfl ?_
      refine iconstV X0.here hexec rfl 0 (hb hbytes d34) (by decide) ?_
      exact Steps.refl _)
    exact ⟨s₁, some (.int 0), _, _, _, X0, rfl, rfl, rfl, (fun h => by cases h), ⟨0, rfl, hh0, Or.inr ⟨rfl, fun q => hs q.1⟩⟩, fun fs hl => c3.trans (X0.ireturnOut hexec hret rfl (Or.inr (Or.inl rfl)) (hb hbytes d35) hl)⟩
end LEq
theorem Cod.ty {cd : Int32} {n : Nat} {f : Nat → Int32} {V : Cell} (h : Cod cd n f V) : Typed .byte V := fun i v hv => by
  have hi : i < V.slots.size := (Array.getElem?_eq_some_iff.mp hv).1
  rcases h with ⟨-, k1, k2⟩ | ⟨-, k1, k2, -⟩
  · rw [(k2 i (by omega)).1] at hv; cases hv; exact fits_lo8 _
  · rcases Nat.mod_two_eq_zero_or_one i with e | e
    · obtain ⟨j, rfl⟩ : ∃ j, i = 2 * j := ⟨i / 2, by omega⟩
      rw [(k2 j (by omega)).1] at hv; cases hv; exact fits_lo8 _
    · obtain ⟨j, rfl⟩ : ∃ j, i = 2 * j + 1 := ⟨i / 2, by omega⟩
      rw [(k2 j (by omega)).2] at hv; cases hv; exact fits_lo8 _
/-- the same text -/
def SameT (n : Nat) (f : Nat → Int32) (k : Nat) (g : Nat → Int32) : Prop := n = k ∧ ∀ j, j < n → f j = g j
theorem lo8_inj {x y : Int32} (h0 : ¬ x < 0) (h1 : ¬ 255 < x) (k0 : ¬ y < 0) (k1 : ¬ 255 < y) (h : lo8 x = lo8 y) : x = y := by
  rw [← lo8_mask h0 h1, ← lo8_mask k0 k1, h]
/-- arrays coded by one coder are equal just where the texts are -/
theorem Cod.eqv {cd : Int32} {n k : Nat} {f g : Nat → Int32} {V V' : Cell} (h : Cod cd n f V) (h' : Cod cd k g V') (hf : ∀ j, j < n → ¬ f j < 0 ∧ ¬ 65535 < f j) (hg : ∀ j, j < k → ¬ g j < 0 ∧ ¬ 65535 < g j) : EqC V V' ↔ SameT n f k g := by
  have yvv : ∀ {W : Cell} {i : Nat} {x : Int32}, W.slots[i]? = some (.int x) → yv W i = x := fun q => by unfold yv; rw [q]
  rcases h with ⟨rfl, k1, k2⟩ | ⟨rfl, k1, k2, -⟩
  · rcases h' with ⟨-, m1, m2⟩ | ⟨e, -⟩
    · constructor
      · rintro ⟨e1, e2⟩
        refine ⟨by omega, fun j hj => ?_⟩
        have q := e2 j (by omega)
        rw [yvv (k2 j hj).1, yvv (m2 j (by omega)).1] at q
        exact lo8_inj (hf j hj).1 (k2 j hj).2 (hg j (by omega)).1 (m2 j (by omega)).2 q
      · rintro ⟨rfl, e2⟩
        refine ⟨by omega, fun j hj => ?_⟩
        rw [yvv (k2 j (by omega)).1, yvv (m2 j (by omega)).1, e2 j (by omega)]
    · exact absurd e (by decide)
  · rcases h' with ⟨e, -⟩ | ⟨-, m1, m2, -⟩
    · exact absurd e (by decide)
    · constructor
      · rintro ⟨e1, e2⟩
        refine ⟨by omega, fun j hj => ?_⟩
        have q1 := e2 (2 * j) (by omega)
        have q2 := e2 (2 * j + 1) (by omega)
        rw [yvv (k2 j hj).1, yvv (m2 j (by omega)).1] at q1
        rw [yvv (k2 j hj).2, yvv (m2 j (by omega)).2] at q2
        rw [← pair_says (hf j hj).1 (hf j hj).2, ← pair_says (hg j (by omega)).1 (hg j (by omega)).2, q1, q2]
      · rintro ⟨rfl, e2⟩
        refine ⟨by omega, fun i hi => ?_⟩
        rcases Nat.mod_two_eq_zero_or_one i with e | e
        · obtain ⟨j, rfl⟩ : ∃ j, i = 2 * j := ⟨i / 2, by omega⟩
          rw [yvv (k2 j (by omega)).1, yvv (m2 j (by omega)).1, e2 j (by omega)]
        · obtain ⟨j, rfl⟩ : ∃ j, i = 2 * j + 1 := ⟨i / 2, by omega⟩
          rw [yvv (k2 j (by omega)).2, yvv (m2 j (by omega)).2, e2 j (by omega)]
/-- two codings differ: so do the texts -/
theorem Cod.dif {cd cd' : Int32} {n k : Nat} {f g : Nat → Int32} {V V' : Cell} (h : Cod cd n f V) (h' : Cod cd' k g V') (hne : ¬ cd = cd') : ¬ SameT n f k g := by
  rintro ⟨rfl, e⟩
  rcases h with ⟨rfl, -, k2⟩ | ⟨rfl, -, -, j, hj, hw⟩
  · rcases h' with ⟨rfl, -⟩ | ⟨-, -, -, j, hj, hw⟩
    · exact hne rfl
    · exact (k2 j hj).2 (by rw [e j hj]; exact hw)
  · rcases h' with ⟨-, -, m2⟩ | ⟨rfl, -⟩
    · exact (m2 j hj).2 (by rw [← e j hj]; exact hw)
    · exact hne rfl
/-- an object of exactly C is an instance of C -/
theorem cinst {p : Program} {l : Launch} {e : Env} {R : Room} {s : State} {m : MethodId} {args : Array Value} {below : List Frame} {meth : Method} {c : Code} {T : State} {locs : List Loc} {cells slots : Nat} (X : Stand p l e R s m args below meth c T locs cells slots) (hexec : p.tables.exec = Jvm.exec) {own C : String} {index : Nat} (hown : s.vm.findClass own = some m.cls) (hlink : (Cond.classLink own index C).before args s = true) {a : Addr} (hE : Exact C a T)
    {g : JFrame} (hg : g.method = m) {rest : List Value} (hstack : g.stack = .ref a :: rest) (hdg : decode c.code g.pc = .ok (.instanceof index, 3)) :
    ∃ T', Stand p l e R s m args below meth c T' locs cells slots ∧ T'.heap = T.heap ∧ ∀ target, Steps p.tables e below (T'.setTop { g with pc := g.pc + 3, stack := .int 1 :: rest }) target → Steps p.tables e below (T.setTop g) target := by
  obtain ⟨cB, h1, D, h2, h3, h4⟩ := hE
  have h1' : s.vm.findClass C = some cB := by rw [← X.warmed.alike.findClass]; exact h1
  obtain ⟨vm', X', st⟩ := X.instanceofYes hexec hown hlink h2 h4 h1' (by rw [h3]; exact Jvm.Free.SB.assignable_self _ _) hg hstack hdg
  exact ⟨_, X', rfl, st⟩
theorem cself {p : Program} {l : Launch} {e : Env} {R : Room} {s : State} {m : MethodId} {args : Array Value} {below : List Frame} {meth : Method} {c : Code} {T : State} {locs : List Loc} {cells slots : Nat} (X : Stand p l e R s m args below meth c T locs cells slots) (hexec : p.tables.exec = Jvm.exec) {own C : String} {index : Nat} (hown : s.vm.findClass own = some m.cls) (hlink : (Cond.classLink own index C).before args s = true) {a : Addr} (hE : Exact C a T)
    {g : JFrame} (hg : g.method = m) {rest : List Value} (hstack : g.stack = .ref a :: rest) (hdg : decode c.code g.pc = .ok (.checkcast index, 3)) :
    ∃ T', Stand p l e R s m args below meth c T' locs cells slots ∧ T'.heap = T.heap ∧ ∀ target, Steps p.tables e below (T'.setTop { g with pc := g.pc + 3, stack := .ref a :: rest }) target → Steps p.tables e below (T.setTop g) target := by
  obtain ⟨cB, h1, D, h2, h3, h4⟩ := hE
  have h1' : s.vm.findClass C = some cB := by rw [← X.warmed.alike.findClass]; exact h1
  obtain ⟨vm', X', st⟩ := X.checkcastYes hexec hown hlink h2 h4 h1' (by rw [h3]; exact Jvm.Free.SB.assignable_self _ _) hg hstack hdg
  exact ⟨_, X', rfl, fun t h => st t (by rw [← hstack] at h; exact h)⟩
namespace SEq
def yN : MethodName := ⟨"java/lang/String", "equals", "(Ljava/lang/Object;)Z"⟩
abbrev yB : ByteArray := jdk_42_method_66_code
theorem d0 : decode yB 0 = .ok (.aload_n 0, 1) := by decide +kernel
theorem d1 : decode yB 1 = .ok (.aload_n 1, 1) := by decide +kernel
theorem d2 : decode yB 2 = .ok (.if_acmp (.ne) 5, 3) := by decide +kernel
theorem d5 : decode yB 5 = .ok (.iconst 1, 1) := by decide +kernel
theorem d6 : decode yB 6 = .ok (.ireturn, 1) := by decide +kernel
theorem d7 : decode yB 7 = .ok (.aload_n 1, 1) := by decide +kernel
theorem d8 : decode yB 8 = .ok (.instanceof 10, 3) := by decide +kernel
theorem d11 : decode yB 11 = .ok (.ifCond (.eq) 43, 3) := by decide +kernel
theorem d14 : decode yB 14 = .ok (.aload_n 1, 1) := by decide +kernel
theorem d15 : decode yB 15 = .ok (.checkcast 10, 3) := by decide +kernel
theorem d18 : decode yB 18 = .ok (.astore_n 2, 1) := by decide +kernel
theorem d19 : decode yB 19 = .ok (.getstatic 38, 3) := by decide +kernel
theorem d22 : decode yB 22 = .ok (.ifCond (.eq) 14, 3) := by decide +kernel
theorem d25 : decode yB 25 = .ok (.aload_n 0, 1) := by decide +kernel
theorem d26 : decode yB 26 = .ok (.getfield 15, 3) := by decide +kernel
theorem d29 : decode yB 29 = .ok (.aload_n 2, 1) := by decide +kernel
theorem d30 : decode yB 30 = .ok (.getfield 15, 3) := by decide +kernel
theorem d33 : decode yB 33 = .ok (.if_icmp (.ne) 21, 3) := by decide +kernel
theorem d36 : decode yB 36 = .ok (.aload_n 0, 1) := by decide +kernel
theorem d37 : decode yB 37 = .ok (.getfield 9, 3) := by decide +kernel
theorem d40 : decode yB 40 = .ok (.aload_n 2, 1) := by decide +kernel
theorem d41 : decode yB 41 = .ok (.getfield 9, 3) := by decide +kernel
theorem d44 : decode yB 44 = .ok (.invokestatic 541, 3) := by decide +kernel
theorem d47 : decode yB 47 = .ok (.ifCond (.eq) 7, 3) := by decide +kernel
theorem d50 : decode yB 50 = .ok (.iconst 1, 1) := by decide +kernel
theorem d51 : decode yB 51 = .ok (.goto 4, 3) := by decide +kernel
theorem d54 : decode yB 54 = .ok (.iconst 0, 1) := by decide +kernel
theorem d55 : decode yB 55 = .ok (.ireturn, 1) := by decide +kernel
def site : List Cond := [.classLink "java/lang/String" 10 "java/lang/String", .fieldLink "java/lang/String" 38 "java/lang/String" "COMPACT_STRINGS" "Z", .fieldLink "java/lang/String" 15 "java/lang/String" "coder" "B", .fieldLink "java/lang/String" 9 "java/lang/String" "value" "[B", LEq.tab] ++ staticW "java/lang/String" 541 LEq.yN
def tab : Cond := tabOf yN yB 3 (some .boolean) site
def P (x t : Addr) (V : Cell) (cd : Int32) (n : Nat) (f : Nat → Int32) (y t' : Addr) (V' : Cell) (cd' : Int32) (k : Nat) (g : Nat → Int32) (z : Int32) (args : Array Value) (s : State) : Prop := args = #[.ref x, .ref y] ∧ Txt x t V cd n f s ∧ Txt y t' V' cd' k g s ∧ StaticIs s "java/lang/String" "COMPACT_STRINGS" "Z" (.int z) ∧ ¬ z = 0
/-- equals(Object) of two Strings: whether the texts are the same -/
theorem law (l : Launch) (x t : Addr) (V : Cell) (cd : Int32) (n : Nat) (f : Nat → Int32) (y t' : Addr) (V' : Cell) (cd' : Int32) (k : Nat) (g : Nat → Int32) (z : Int32) : Law l yN 2 1 1 14 yB 3 (some .boolean) site (P x t V cd n f y t' V' cd' k g z) (Says01 (SameT n f k g)) [] 0 0 := by
  refine Law.of_walk (plainFor_of_name (by decide +kernel)) (by decide +kernel) (by decide +kernel) (by decide) (fun _ _ h => by rw [h.1]; rfl) (fun _ U U' hal hh h => ⟨h.1, h.2.1.mv hal hh, h.2.2.1.mv hal hh, h.2.2.2.1.there hal hh, h.2.2.2.2⟩) (fun r U U' V V' h1 hal h2 h => Says01.mv r U U' V V' h1 hal h2 h) ?_
  intro p e s m args below meth c s₁ X0 hexec hbytes hml hret hlk hnm hown hh0 W hP
  obtain ⟨rfl, hx, hy, s1, hz⟩ := hP
  have c1 : Steps p.tables e below (s₁.setTop (entryFrame m #[.ref x, .ref y] 3)) (s₁.setTop (mkF m 2 #[.val (.ref x), .val (.ref y), .unset] [.ref y, .ref x])) := Steps.trans (entry rfl) (by
    show Steps p.tables e below (s₁.setTop (mkF m 0 #[.val (.ref x), .val (.ref y), .unset] [])) _
    refine XS.aloadN X0.here hexec rfl (hb hbytes d0) rfl rfl ?_
    refine XS.aloadN X0.here hexec rfl (hb hbytes d1) rfl rfl ?_
    exact Steps.refl _)
  by_cases hxy : x = y
  · have c2 : Steps p.tables e below (s₁.setTop (entryFrame m #[.ref x, .ref y] 3)) (s₁.setTop (mkF m 6 #[.val (.ref x), .val (.ref y), .unset] [.int 1])) := c1.trans (by
      refine acmpNo X0.here hexec rfl (hb hbytes d2) rfl rfl rfl (by simp [acmp, hxy]) ?_
      refine iconstV X0.here hexec rfl 1 (hb hbytes d5) (by decide) ?_
      exact Steps.refl _)
    subst hxy
    have ec : cd = cd' := by
      obtain ⟨D, fd, a1, a2, a3⟩ := hx.2.2.1
      obtain ⟨D', fd', b1, b2, b3⟩ := hy.2.2.1
      cases a1.symm.trans b1
      obtain ⟨q1, q2, q3, q4⟩ := a2.1
      obtain ⟨r1, r2, r3, r4⟩ := b2.1
      cases q4.symm.trans r4
      cases a3.symm.trans b3; rfl
    have et : t = t' := by
      obtain ⟨D, fd, a1, a2, a3⟩ := hx.2.1
      obtain ⟨D', fd', b1, b2, b3⟩ := hy.2.1
      cases a1.symm.trans b1
      obtain ⟨q1, q2, q3, q4⟩ := a2.1
      obtain ⟨r1, r2, r3, r4⟩ := b2.1
      cases q4.symm.trans r4
      cases a3.symm.trans b3; rfl
    subst ec et
    have ev : V = V' := by cases hx.2.2.2.1.1.symm.trans hy.2.2.2.1.1; rfl
    subst ev
    have hs : SameT n f k g := (Cod.eqv hx.2.2.2.2.1 hy.2.2.2.2.1 hx.2.2.2.2.2 hy.2.2.2.2.2).mp ⟨rfl, fun _ _ => rfl⟩
    exact ⟨s₁, some (.int 1), _, _, _, X0, rfl, rfl, rfl, (fun h => by cases h), ⟨1, rfl, hh0, Or.inl ⟨rfl, hs⟩⟩, fun fs hl => c2.trans (X0.ireturnOut hexec hret rfl (Or.inr (Or.inl rfl)) (hb hbytes d6) hl)⟩
  · have c2 : Steps p.tables e below (s₁.setTop (entryFrame m #[.ref x, .ref y] 3)) (s₁.setTop (mkF m 8 #[.val (.ref x), .val (.ref y), .unset] [.ref y])) := c1.trans (by
      refine acmpYes X0.here hexec rfl (pc0 := 2) rfl (hb hbytes d2) rfl rfl rfl (by simp [acmp, hxy]) (by decide) rfl ?_
      refine XS.aloadN X0.here hexec rfl (hb hbytes d7) rfl rfl ?_
      exact Steps.refl _)
    obtain ⟨T3, X3, q3, st3⟩ := cinst X0 hexec hown (wk W (.classLink "java/lang/String" 10 "java/lang/String")) (hy.mv X0.warmed.alike hh0).1 (g := (mkF m 8 #[.val (.ref x), .val (.ref y), .unset] [.ref y])) rfl (rest := []) rfl (hb hbytes d8)
    have hh3 := q3.trans hh0
    have c4 : Steps p.tables e below (s₁.setTop (entryFrame m #[.ref x, .ref y] 3)) (T3.setTop (mkF m 15 #[.val (.ref x), .val (.ref y), .unset] [.ref y])) := (c2.trans (st3 _ (Steps.refl _))).trans (by
      refine XS.ifNo X3.here hexec rfl (hb hbytes d11) rfl (i0_eq_f (by decide)) ?_
      refine XS.aloadN X3.here hexec rfl (hb hbytes d14) rfl rfl ?_
      exact Steps.refl _)
    obtain ⟨T5, X5, q5, st5⟩ := cself X3 hexec hown (wk W (.classLink "java/lang/String" 10 "java/lang/String")) (hy.mv X3.warmed.alike hh3).1 (g := (mkF m 15 #[.val (.ref x), .val (.ref y), .unset] [.ref y])) rfl (rest := []) rfl (hb hbytes d15)
    have hh5 := q5.trans hh3
    have c6 : Steps p.tables e below (s₁.setTop (entryFrame m #[.ref x, .ref y] 3)) (T5.setTop (mkF m 19 #[.val (.ref x), .val (.ref y), .val (.ref y)] [])) := (c4.trans (st5 _ (Steps.refl _))).trans (by
      refine XS.astoreN X5.here hexec rfl (hb hbytes d18) rfl rfl rfl ?_
      exact Steps.refl _)
    obtain ⟨T7, X7, q7, st7⟩ := X5.sget hexec hown (wk W (.fieldLink "java/lang/String" 38 "java/lang/String" "COMPACT_STRINGS" "Z")) s1 (fun _ _ h => by rw [hh5]; exact h) (g := (mkF m 19 #[.val (.ref x), .val (.ref y), .val (.ref y)] [])) rfl (hb hbytes d19)
    have hh7 := q7.trans hh5
    have c8 : Steps p.tables e below (s₁.setTop (entryFrame m #[.ref x, .ref y] 3)) (T7.setTop (mkF m 26 #[.val (.ref x), .val (.ref y), .val (.ref y)] [.ref x])) := (c6.trans (st7 _ (Steps.refl _))).trans (by
      refine XS.ifNo X7.here hexec rfl (hb hbytes d22) rfl (i0_eq_f hz) ?_
      refine XS.aloadN X7.here hexec rfl (hb hbytes d25) rfl rfl ?_
      exact Steps.refl _)
    obtain ⟨T9, X9, q9, st9⟩ := X7.hget hexec hown (wk W (.fieldLink "java/lang/String" 15 "java/lang/String" "coder" "B")) (hx.mv X7.warmed.alike hh7).2.2.1 (g := (mkF m 26 #[.val (.ref x), .val (.ref y), .val (.ref y)] [.ref x])) rfl (rest := []) rfl (hb hbytes d26)
    have hh9 := q9.trans hh7
    have c10 : Steps p.tables e below (s₁.setTop (entryFrame m #[.ref x, .ref y] 3)) (T9.setTop (mkF m 30 #[.val (.ref x), .val (.ref y), .val (.ref y)] [.ref y, .int cd])) := (c8.trans (st9 _ (Steps.refl _))).trans (by
      refine XS.aloadN X9.here hexec rfl (hb hbytes d29) rfl rfl ?_
      exact Steps.refl _)
    obtain ⟨T11, X11, q11, st11⟩ := X9.hget hexec hown (wk W (.fieldLink "java/lang/String" 15 "java/lang/String" "coder" "B")) (hy.mv X9.warmed.alike hh9).2.2.1 (g := (mkF m 30 #[.val (.ref x), .val (.ref y), .val (.ref y)] [.ref y, .int cd])) rfl (rest := [.int cd]) rfl (hb hbytes d30)
    have hh11 := q11.trans hh9
    have c12 : Steps p.tables e below (s₁.setTop (entryFrame m #[.ref x, .ref y] 3)) (T11.setTop (mkF m 33 #[.val (.ref x), .val (.ref y), .val (.ref y)] [.int cd', .int cd])) := c10.trans (st11 _ (Steps.refl _))
    by_cases hcd : cd = cd'
    · subst hcd
      have c13 : Steps p.tables e below (s₁.setTop (entryFrame m #[.ref x, .ref y] 3)) (T11.setTop (mkF m 37 #[.val (.ref x), .val (.ref y), .val (.ref y)] [.ref x])) := c12.trans (by
        refine XS.icmpNo X11.here hexec rfl (hb hbytes d33) rfl (ii_ne_f rfl) ?_
        refine XS.aloadN X11.here hexec rfl (hb hbytes d36) rfl rfl ?_
        exact Steps.refl _)
      obtain ⟨T14, X14, q14, st14⟩ := X11.hget hexec hown (wk W (.fieldLink "java/lang/String" 9 "java/lang/String" "value" "[B")) (hx.mv X11.warmed.alike hh11).2.1 (g := (mkF m 37 #[.val (.ref x), .val (.ref y), .val (.ref y)] [.ref x])) rfl (rest := []) rfl (hb hbytes d37)
      have hh14 := q14.trans hh11
      have c15 : Steps p.tables e below (s₁.setTop (entryFrame m #[.ref x, .ref y] 3)) (T14.setTop (mkF m 41 #[.val (.ref x), .val (.ref y), .val (.ref y)] [.ref y, .ref t])) := (c13.trans (st14 _ (Steps.refl _))).trans (by
        refine XS.aloadN X14.here hexec rfl (hb hbytes d40) rfl rfl ?_
        exact Steps.refl _)
      obtain ⟨T16, X16, q16, st16⟩ := X14.hget hexec hown (wk W (.fieldLink "java/lang/String" 9 "java/lang/String" "value" "[B")) (hy.mv X14.warmed.alike hh14).2.1 (g := (mkF m 41 #[.val (.ref x), .val (.ref y), .val (.ref y)] [.ref y, .ref t])) rfl (rest := [.ref t]) rfl (hb hbytes d41)
      have hh16 := q16.trans hh14
      have c17 : Steps p.tables e below (s₁.setTop (entryFrame m #[.ref x, .ref y] 3)) (T16.setTop (mkF m 44 #[.val (.ref x), .val (.ref y), .val (.ref y)] [.ref t', .ref t])) := c15.trans (st16 _ (Steps.refl _))
      obtain ⟨v18, T18, X18, E18, g18⟩ := X16.callS hexec (LEq.law l t V t' V') hown (wks W (staticW "java/lang/String" 541 LEq.yN)) (wk W LEq.tab) (W := 0) (Nat.le_of_ble_eq_true rfl) (Nat.le_of_ble_eq_true rfl) (Nat.le_refl _) (Nat.le_refl _) (g := (mkF m 44 #[.val (.ref x), .val (.ref y), .val (.ref y)] [.ref t', .ref t])) rfl (by rw [hml]; rfl) c17 (argsL := [.ref t, .ref t']) (rest := []) rfl rfl (by show 2 * 0 + 0 ≤ _; decide) (hb hbytes d44) (⟨rfl, hx.2.2.2.1.mv X16.warmed.alike hh16, hx.2.2.2.2.1.ty, hy.2.2.2.1.mv X16.warmed.alike hh16, hy.2.2.2.2.1.ty⟩)
      obtain ⟨v, rfl, q18, hv⟩ := E18
      have iff := Cod.eqv hx.2.2.2.2.1 hy.2.2.2.2.1 hx.2.2.2.2.2 hy.2.2.2.2.2
      rcases hv with ⟨rfl, he⟩ | ⟨rfl, he⟩
      · have c19 : Steps p.tables e below (s₁.setTop (entryFrame m #[.ref x, .ref y] 3)) (T18.setTop (mkF m 55 #[.val (.ref x), .val (.ref y), .val (.ref y)] [.int 1])) := Steps.trans g18 (by
          refine XS.ifNo X18.here hexec rfl (hb hbytes d47) rfl (i0_eq_f (by decide)) ?_
          refine iconstV X18.here hexec rfl 1 (hb hbytes d50) (by decide) ?_
          refine XS.goto X18.here hexec rfl (pc0 := 51) rfl (hb hbytes d51) (by decide) rfl ?_
          exact Steps.refl _)
        exact ⟨T18, some (.int 1), _, _, _, X18, rfl, rfl, rfl, (fun h => by cases h), ⟨1, rfl, q18.trans hh16, Or.inl ⟨rfl, iff.mp he⟩⟩, fun fs hl => c19.trans (X18.ireturnOut hexec hret rfl (Or.inr (Or.inl rfl)) (hb hbytes d55) hl)⟩
      · have c19 : Steps p.tables e below (s₁.setTop (entryFrame m #[.ref x, .ref y] 3)) (T18.setTop (mkF m 55 #[.val (.ref x), .val (.ref y), .val (.ref y)] [.int 0])) := Steps.trans g18 (by
          refine XS.ifYes X18.here hexec rfl (pc0 := 47) rfl (hb hbytes d47) rfl (i0_eq_t rfl) (by decide) rfl ?_
          refine iconstV X18.here hexec rfl 0 (hb hbytes d54) (by decide) ?_
          exact Steps.refl _)
        exact ⟨T18, some (.int 0), _, _, _, X18, rfl, rfl, rfl, (fun h => by cases h), ⟨0, rfl, q18.trans hh16, Or.inr ⟨rfl, fun q => he (iff.mpr q)⟩⟩, fun fs hl => c19.trans (X18.ireturnOut hexec hret rfl (Or.inr (Or.inl rfl)) (hb hbytes d55) hl)⟩
    · have c13 : Steps p.tables e below (s₁.setTop (entryFrame m #[.ref x, .ref y] 3)) (T11.setTop (mkF m 55 #[.val (.ref x), .val (.ref y), .val (.ref y)] [.int 0])) := c12.trans (by
        refine XS.icmpYes X11.here hexec rfl (pc0 := 33) rfl (hb hbytes d33) rfl (ii_ne_t hcd) (by decide) rfl ?_
        refine iconstV X11.here hexec rfl 0 (hb hbytes d54) (by decide) ?_
        exact Steps.refl _)
      exact ⟨T11, some (.int 0), _, _, _, X11, rfl, rfl, rfl, (fun h => by cases h), ⟨0, rfl, hh11, Or.inr ⟨rfl, Cod.dif hx.2.2.2.2.1 hy.2.2.2.2.1 hcd⟩⟩, fun fs hl => c13.trans (X11.ireturnOut hexec hret rfl (Or.inr (Or.inl rfl)) (hb hbytes d55) hl)⟩
theorem pays {l : Launch} {R : Room} {p : Program} {e : Env} {below : List Frame} {s : State} {sargs : Array Value} {len W : Nat} (x t : Addr) (V : Cell) (cd : Int32) (n : Nat) (f : Nat → Int32) (y t' : Addr) (V' : Cell) (cd' : Int32) (k : Nat) (g : Nat → Int32) (z : Int32) (htab : tab.before sargs s = true) (hfr : 2 ≤ R.frames) (hlo : W + 28 ≤ R.locals) :
    Back l R p e below s sargs yN len W (fun A₁ a₁ => A₁.cells + 0 ≤ R.cells ∧ A₁.slots + 0 ≤ R.slots ∧ P x t V cd n f y t' V' cd' k g z a₁ A₁.U) (fun A₁ _ v₁ B₁ => Says01 (SameT n f k g) v₁ A₁.U B₁.U ∧ B₁.locs = A₁.locs ++ [] ∧ B₁.cells = A₁.cells + 0 ∧ B₁.slots = A₁.slots + 0) :=
  (law l x t V cd n f y t' V' cd' k g z).pays htab hfr (by omega)
end SEq
end StrChars
namespace StrChars.Road
open Jvm Sem ClassFile Op Lib Jvm.Stand Jvm.Free Jvm.Free.XT
open Jvm.Lib.Cold (StaticIs)
/-- the words of String.equals(Object) -/
abbrev wordsEq : List Jvm.Cond := [.code SEq.yN SEq.yB 3 (some .boolean), .initialized ST, .classLink ST 10 ST, .fieldLink ST 38 ST "COMPACT_STRINGS" "Z", .fieldLink ST 15 ST "coder" "B", .fieldLink ST 9 ST "value" "[B", .methodLink ST 541 LEq.yN, .static LEq.yN, .code LEq.yN LEq.yB 3 (some .boolean), .initialized "java/lang/StringLatin1"]
theorem tabEq_of {a : Array Value} {s : State} (h : ∀ w ∈ wordsEq, w.before a s = true) : SEq.tab.before a s = true := by
  have hl : LEq.tab.before a s = true := unparts (wk h (.code LEq.yN LEq.yB 3 (some .boolean))) (wks h (.initialized LEq.yN.cls :: LEq.site))
  have q := consq hl h
  exact unparts (wk q (.code SEq.yN SEq.yB 3 (some .boolean))) (wks q (.initialized SEq.yN.cls :: SEq.site))
theorem movedEq {Z s : State} {a0 args : Array Value} (hZ : Z.Warmed39 s.vm) (hw : ∀ d ∈ wordsEq, d.before a0 Z = true) : ∀ d ∈ wordsEq, d.before args s = true := fun d hd => by
  have t : ∀ d ∈ wordsEq, (d.onTables && d.keepsFace) = true := by decide +kernel
  exact RoadKit.mv hZ (hw d hd) (t d hd)
/-- the road's facts of a String, as the laws ask it -/
theorem txt_of {Z U : State} {a0 : Array Value} {kI : Nat} (wi : (Jvm.Cond.instantiable ST kI).before a0 Z = true) (al : Z.vm.Alike U.vm) {x t : Addr} {kb : ClassId} {cs : List Int32} {cd N2 : Int32} {vs : List Value} (E : RoadKit.Exa Z U.heap x ST) (V : RoadKit.Fld Z U.heap x ST "value" "[B" (.ref t)) (C : RoadKit.Fld Z U.heap x ST "coder" "B" (.int cd)) (K : RoadKit.Arv Z U.heap t kb .byte N2 vs (.int 0)) (hc : CodA cs cd N2 vs) (hb : ∀ c ∈ cs, ¬ c < 0 ∧ ¬ (65535 : Int32) < c) (l2 : cs.length ≤ 4000) :
    ∃ A, Txt x t A cd cs.length (fun j => cs.getD j 0) U := by
  obtain ⟨A, K1, K2, K3, K4, K5, K6⟩ := K
  have hcod := hc.cod (by omega) K3 K5
  obtain ⟨D, fV, fC, hB, F1, F2, g1, g2, -, -⟩ := strObj wi al E V C
  exact ⟨A, ⟨_, hB.2.2.1, D, hB.1, rfl, by cases q : D.vm <;> first | rfl | exact absurd q (hB.2.1.2 _)⟩, Has.of hB F1 g1, Has.of hB F2 g2, ⟨K1.1, State.isArrayOf_alike al K1.2.1, K1.2.2, by rcases hcod with ⟨-, q, -⟩ | ⟨-, q, -⟩ <;> omega⟩, hcod, fun j hj => by
    have e : cs.getD j 0 = cs[j] := by simp [List.getD_eq_getElem?_getD, hj]
    show ¬ cs.getD j 0 < 0 ∧ ¬ 65535 < cs.getD j 0
    rw [e]; exact hb _ (List.getElem_mem _)⟩
theorem same_list (cs ds : List Int32) : SameT cs.length (fun j => cs.getD j 0) ds.length (fun j => ds.getD j 0) ↔ cs = ds := by
  constructor
  · rintro ⟨e, q⟩
    refine List.ext_getElem e fun j h1 h2 => ?_
    have := q j h1
    simpa [List.getD_eq_getElem?_getD, h1, h2] using this
  · rintro rfl
    exact ⟨rfl, fun _ _ => rfl⟩
/-- **equals(Object) OF TWO SUCH STRINGS**: 1 just where the chars are the same -/
theorem eqW {p : Program} {l : Launch} {e : Env} {R : Room} {s : State} {args : Array Value} {below : List Frame} {len W : Nat} {Z : State} {a0 : Array Value} {h : Heap} (hZ : Z.Warmed39 s.vm) (hw : ∀ d ∈ wordsEq, d.before a0 Z = true) {kI : Nat} (wi : (Jvm.Cond.instantiable ST kI).before a0 Z = true)
    {x t : Addr} {kb : ClassId} {cs : List Int32} {cd N2 : Int32} {vs : List Value} (E : RoadKit.Exa Z h x ST) (V : RoadKit.Fld Z h x ST "value" "[B" (.ref t)) (C : RoadKit.Fld Z h x ST "coder" "B" (.int cd)) (K : RoadKit.Arv Z h t kb .byte N2 vs (.int 0)) (hc : CodA cs cd N2 vs) (hb : ∀ c ∈ cs, ¬ c < 0 ∧ ¬ (65535 : Int32) < c) (l2 : cs.length ≤ 4000)
    {y t' : Addr} {kb' : ClassId} {ds : List Int32} {cd' N2' : Int32} {vs' : List Value} (E' : RoadKit.Exa Z h y ST) (V' : RoadKit.Fld Z h y ST "value" "[B" (.ref t')) (C' : RoadKit.Fld Z h y ST "coder" "B" (.int cd')) (K' : RoadKit.Arv Z h t' kb' .byte N2' vs' (.int 0)) (hc' : CodA ds cd' N2' vs') (hb' : ∀ c ∈ ds, ¬ c < 0 ∧ ¬ (65535 : Int32) < c) (l2' : ds.length ≤ 4000)
    {z : Int32} (S : RoadKit.Sta Z h ST "COMPACT_STRINGS" "Z" (.int z)) (hz : ¬ z = 0) (hfr : 2 ≤ R.frames) (hlo : W + 28 ≤ R.locals) :
    Back l R p e below s args (⟨"java/lang/String", "equals", "(Ljava/lang/Object;)Z"⟩ : MethodName) len W (fun P a => a = #[.ref x, .ref y] ∧ P.U.heap = h ∧ P.cells + 0 ≤ R.cells ∧ P.slots + 0 ≤ R.slots)
      (fun P _ v B => ∃ L, (((v = some (.int 1) ∧ cs = ds) ∨ (v = some (.int 0) ∧ ¬ cs = ds)) ∧ L = [] ∧ B.U.heap = h) ∧ B.locs = P.locs ++ L ∧ B.cells = P.cells + 0 ∧ B.slots = P.slots + 0) := by
  intro m meth c P g ig mk a X hg hsize hdg hW hn hp'
  obtain ⟨rfl, rfl, r1, r2⟩ := hp'
  have al : Z.vm.Alike P.U.vm := hZ.alike.trans X.warmed.alike
  obtain ⟨A, hx⟩ := txt_of wi al E V C K hc hb l2
  obtain ⟨A', hy⟩ := txt_of wi al E' V' C' K' hc' hb' l2'
  obtain ⟨v, B, X', ⟨⟨w, hv, hh, hq⟩, hl, hk, hs⟩, st⟩ := SEq.pays x t A cd cs.length (fun j => cs.getD j 0) y t' A' cd' ds.length (fun j => ds.getD j 0) z (tabEq_of (movedEq hZ hw)) hfr hlo m meth c P g ig mk _ X hg hsize hdg hW hn ⟨r1, r2, rfl, hx, hy, sta_is al S, hz⟩
  refine ⟨v, B, X', ⟨[], ⟨?_, rfl, hh⟩, hl, hk, hs⟩, st⟩
  rcases hq with ⟨rfl, q⟩ | ⟨rfl, q⟩
  · exact Or.inl ⟨hv, (same_list cs ds).mp q⟩
  · exact Or.inr ⟨hv, fun e => q ((same_list cs ds).mpr e)⟩
end StrChars.Road
namespace StrChars
open Jvm Sem ClassFile Op Lib Jvm.Stand Jvm.Free.XT Jvm.Free.ALB Jvm.Free.JM Jvm.Free
open Jvm.Lib.Cold (StaticIs)
namespace ChN
def yN : MethodName := ⟨"java/lang/String", "charAt", "(I)C"⟩
abbrev yB : ByteArray := jdk_42_method_56_code
theorem d0 : decode yB 0 = .ok (.aload_n 0, 1) := by decide +kernel
theorem d1 : decode yB 1 = .ok (.invokevirtual 492, 3) := by decide +kernel
theorem d4 : decode yB 4 = .ok (.ifCond (.eq) 12, 3) := by decide +kernel
theorem d7 : decode yB 7 = .ok (.aload_n 0, 1) := by decide +kernel
theorem d8 : decode yB 8 = .ok (.getfield 9, 3) := by decide +kernel
theorem d11 : decode yB 11 = .ok (.iload_n 1, 1) := by decide +kernel
theorem d12 : decode yB 12 = .ok (.invokestatic 495, 3) := by decide +kernel
theorem d15 : decode yB 15 = .ok (.ireturn, 1) := by decide +kernel
def site : List Cond := [.fieldLink "java/lang/String" 9 "java/lang/String" "value" "[B", IsL.tab, LChA.tab] ++ virtW "java/lang/String" 492 "java/lang/String" IsL.yN IsL.yN ++ staticW "java/lang/String" 495 LChA.yN
def tab : Cond := tabOf yN yB 2 (some .char) site
def P (x t : Addr) (V : Cell) (n : Nat) (f : Nat → Int32) (z : Int32) (fm : Value) (i : Nat) (args : Array Value) (s : State) : Prop := args = #[.ref x, .int (Int32.ofNat i)] ∧ Txt x t V 0 n f s ∧ i < n ∧ StaticIs s "java/lang/String" "COMPACT_STRINGS" "Z" (.int z) ∧ ¬ z = 0 ∧ StaticIs s "jdk/internal/util/Preconditions" "SIOOBE_FORMATTER" "Ljava/util/function/BiFunction;" fm ∧ fm.isRef = true
def E (f : Nat → Int32) (i : Nat) (r : Option Value) (s u : State) : Prop := XT.PureE (some (.int (f i))) r s u
/-- charAt(i) of a Latin-1 String of n chars, i < n: f i -/
theorem law (l : Launch) (x t : Addr) (V : Cell) (n : Nat) (f : Nat → Int32) (z : Int32) (fm : Value) (i : Nat) : Law l yN 2 1 3 40 yB 2 (some .char) site (P x t V n f z fm i) (E f i) [] 0 0 := by
  refine Law.of_walk (plainFor_of_name (by decide +kernel)) (by decide +kernel) (by decide +kernel) (by decide) (fun _ _ h => by rw [h.1]; rfl) (fun _ U U' hal hh h => ⟨h.1, h.2.1.mv hal hh, h.2.2.1, h.2.2.2.1.there hal hh, h.2.2.2.2.1, h.2.2.2.2.2.1.there hal hh, h.2.2.2.2.2.2⟩) (fun r U U' V V' h1 hal h2 h => XT.PureE.mv r U U' V V' h1 hal h2 h) ?_
  intro p e s m args below meth c s₁ X0 hexec hbytes hml hret hlk hnm hown hh0 W hP
  obtain ⟨rfl, hx, hi, s1, hz, s3, rf⟩ := hP
  have v31 := hx.2.2.2.1.2.2.2
  have hr := hx.2.2.2.2.2 i hi
  have hx0 := hx.mv X0.warmed.alike hh0
  have c1 : Steps p.tables e below (s₁.setTop (entryFrame m #[.ref x, .int (Int32.ofNat i)] 2)) (s₁.setTop (mkF m 1 #[.val (.ref x), .val (.int (Int32.ofNat i))] [.ref x])) := Steps.trans (entry rfl) (by
    show Steps p.tables e below (s₁.setTop (mkF m 0 #[.val (.ref x), .val (.int (Int32.ofNat i))] [])) _
    refine XS.aloadN X0.here hexec rfl (hb hbytes d0) rfl rfl ?_
    exact Steps.refl _)
  obtain ⟨v2, T2, X2, E2, g2⟩ := X0.callV hexec (IsL.law l x 0 z) hown (wks W (virtW "java/lang/String" 492 "java/lang/String" IsL.yN IsL.yN)) rfl (by decide) (wk W IsL.tab) (W := 0) (Nat.le_of_ble_eq_true rfl) (Nat.le_of_ble_eq_true rfl) (Nat.le_refl _) (Nat.le_refl _) (hx0.1.fc X0.warmed.alike) hx0.1.is (g := (mkF m 1 #[.val (.ref x), .val (.int (Int32.ofNat i))] [.ref x])) rfl (by rw [hml]; rfl) c1 (argsL := []) (rest := []) rfl rfl (by show 2 * 0 + 0 ≤ _; decide) (hb hbytes d1) (⟨rfl, hx0.2.2.1, hx.2.2.2.2.1.cd, s1.there X0.warmed.alike hh0, hz⟩)
  obtain ⟨rfl, q2⟩ := E2
  have hh2 := q2.trans hh0
  have hx2 := hx.mv X2.warmed.alike hh2
  obtain ⟨-, k1, k2⟩ | ⟨k0, -⟩ := hx.2.2.2.2.1
  · have c3 : Steps p.tables e below (s₁.setTop (entryFrame m #[.ref x, .int (Int32.ofNat i)] 2)) (T2.setTop (mkF m 8 #[.val (.ref x), .val (.int (Int32.ofNat i))] [.ref x])) := Steps.trans g2 (by
      refine XS.ifNo X2.here hexec rfl (hb hbytes d4) rfl (i0_eq_f (by decide)) ?_
      refine XS.aloadN X2.here hexec rfl (hb hbytes d7) rfl rfl ?_
      exact Steps.refl _)
    obtain ⟨T4, X4, q4, st4⟩ := X2.hget hexec hown (wk W (.fieldLink "java/lang/String" 9 "java/lang/String" "value" "[B")) hx2.2.1 (g := (mkF m 8 #[.val (.ref x), .val (.int (Int32.ofNat i))] [.ref x])) rfl (rest := []) rfl (hb hbytes d8)
    have hh4 := q4.trans hh2
    have c5 : Steps p.tables e below (s₁.setTop (entryFrame m #[.ref x, .int (Int32.ofNat i)] 2)) (T4.setTop (mkF m 12 #[.val (.ref x), .val (.int (Int32.ofNat i))] [.int (Int32.ofNat i), .ref t])) := (c3.trans (st4 _ (Steps.refl _))).trans (by
      refine XS.iloadN X4.here hexec rfl (hb hbytes d11) rfl ?_
      exact Steps.refl _)
    obtain ⟨v6, T6, X6, E6, g6⟩ := X4.callS hexec (LChA.law l t V i (lo8 (f i)) fm) hown (wks W (staticW "java/lang/String" 495 LChA.yN)) (wk W LChA.tab) (W := 0) (Nat.le_of_ble_eq_true rfl) (Nat.le_of_ble_eq_true rfl) (Nat.le_refl _) (Nat.le_refl _) (g := (mkF m 12 #[.val (.ref x), .val (.int (Int32.ofNat i))] [.int (Int32.ofNat i), .ref t])) rfl (by rw [hml]; rfl) c5 (argsL := [.ref t, .int (Int32.ofNat i)]) (rest := []) rfl rfl (by show 2 * 0 + 0 ≤ _; decide) (hb hbytes d12) (⟨rfl, hx.2.2.2.1.mv X4.warmed.alike hh4, (k2 i hi).1, s3.there X4.warmed.alike hh4, rf⟩)
    obtain ⟨rfl, q6⟩ := E6
    rw [chr8_lo8 hr.1 (k2 i hi).2] at g6
    exact ⟨T6, some (.int (f i)), _, _, _, X6, rfl, rfl, rfl, (fun h => by cases h), ⟨rfl, q6.trans hh4⟩, fun fs hl => Steps.trans g6 (X6.ireturnOut hexec hret (narrow_ch hr.1 hr.2) (Or.inr (Or.inr (Or.inr (Or.inl rfl)))) (hb hbytes d15) hl)⟩
  · exact absurd k0 (by decide)
theorem pays {l : Launch} {R : Room} {p : Program} {e : Env} {below : List Frame} {s : State} {sargs : Array Value} {len W : Nat} (x t : Addr) (V : Cell) (n : Nat) (f : Nat → Int32) (z : Int32) (fm : Value) (i : Nat) (htab : tab.before sargs s = true) (hfr : 4 ≤ R.frames) (hlo : W + 53 ≤ R.locals) :
    Back l R p e below s sargs yN len W (fun A₁ a₁ => A₁.cells + 0 ≤ R.cells ∧ A₁.slots + 0 ≤ R.slots ∧ P x t V n f z fm i a₁ A₁.U) (fun A₁ _ v₁ B₁ => E f i v₁ A₁.U B₁.U ∧ B₁.locs = A₁.locs ++ [] ∧ B₁.cells = A₁.cells + 0 ∧ B₁.slots = A₁.slots + 0) :=
  (law l x t V n f z fm i).pays htab hfr (by omega)
end ChN
end StrChars
namespace StrChars.Road
open Jvm Sem ClassFile Op Lib Jvm.Stand Jvm.Free Jvm.Free.XT
open Jvm.Lib.Cold (StaticIs)
/-- the words of String.charAt(int), the Latin-1 road alone -/
abbrev wordsChN : List Jvm.Cond := [.code ChN.yN ChN.yB 2 (some .char), .initialized ST, .fieldLink ST 9 ST "value" "[B", .fieldLink ST 38 ST "COMPACT_STRINGS" "Z", .fieldLink ST 15 ST "coder" "B", .code IsL.yN IsL.yB 1 (some .boolean), .methodLink ST 492 IsL.yN, .declares IsL.yN, .selects ST IsL.yN IsL.yN, .instanceMethod IsL.yN,
  .methodLink ST 495 LChA.yN, .static LChA.yN, .code LChA.yN LChA.yB 2 (some .char), .initialized "java/lang/StringLatin1", .methodLink "java/lang/StringLatin1" 9 JO.Str_checkIndex.yN, .static JO.Str_checkIndex.yN, .code JO.Str_checkIndex.yN JO.Str_checkIndex.yB 2 none,
  .fieldLink ST 1053 "jdk/internal/util/Preconditions" "SIOOBE_FORMATTER" "Ljava/util/function/BiFunction;", .methodLink ST 1059 JC.PreCheck.yN, .static JC.PreCheck.yN, .code JC.PreCheck.yN JC.PreCheck.yB 3 (some .int), .initialized "jdk/internal/util/Preconditions"]
theorem tabChN_of {a : Array Value} {s : State} (h : ∀ w ∈ wordsChN, w.before a s = true) : ChN.tab.before a s = true := by
  have hp : JC.PreCheck.tab.before a s = true := unparts (wk h (.code JC.PreCheck.yN JC.PreCheck.yB 3 (some .int))) (wks h (.initialized JC.PreCheck.yN.cls :: JC.PreCheck.site))
  have qk := consq hp h
  have hk : JO.Str_checkIndex.tab.before a s = true := unparts (wk qk (.code JO.Str_checkIndex.yN JO.Str_checkIndex.yB 2 none)) (wks qk (.initialized JO.Str_checkIndex.yN.cls :: JO.Str_checkIndex.site))
  have ql := consq hk h
  have hl : LChA.tab.before a s = true := unparts (wk ql (.code LChA.yN LChA.yB 2 (some .char))) (wks ql (.initialized LChA.yN.cls :: LChA.site))
  have hi : IsL.tab.before a s = true := unparts (wk h (.code IsL.yN IsL.yB 1 (some .boolean))) (wks h (.initialized IsL.yN.cls :: IsL.site))
  have q := consq hi (consq hl h)
  exact unparts (wk q (.code ChN.yN ChN.yB 2 (some .char))) (wks q (.initialized ChN.yN.cls :: ChN.site))
theorem movedChN {Z s : State} {a0 args : Array Value} (hZ : Z.Warmed39 s.vm) (hw : ∀ d ∈ wordsChN, d.before a0 Z = true) : ∀ d ∈ wordsChN, d.before args s = true := fun d hd => by
  have t : ∀ d ∈ wordsChN, (d.onTables && d.keepsFace) = true := by decide +kernel
  exact RoadKit.mv hZ (hw d hd) (t d hd)
/-- **charAt(i) OF A LATIN-1 STRING**, i < n: the char -/
theorem chN {p : Program} {l : Launch} {e : Env} {R : Room} {s : State} {args : Array Value} {below : List Frame} {len W : Nat} {Z : State} {a0 : Array Value} {h : Heap} (hZ : Z.Warmed39 s.vm) (hw : ∀ d ∈ wordsChN, d.before a0 Z = true) {kI : Nat} (wi : (Jvm.Cond.instantiable ST kI).before a0 Z = true)
    {x t : Addr} {kb : ClassId} {cs : List Int32} {N2 z : Int32} {vs : List Value} {fm : Value} {i : Nat} {j : Int32} (E : RoadKit.Exa Z h x ST) (V : RoadKit.Fld Z h x ST "value" "[B" (.ref t)) (C : RoadKit.Fld Z h x ST "coder" "B" (.int 0)) (K : RoadKit.Arv Z h t kb .byte N2 vs (.int 0)) (hc : CodA cs 0 N2 vs) (hb : ∀ c ∈ cs, ¬ c < 0 ∧ ¬ (65535 : Int32) < c)
    (S : RoadKit.Sta Z h ST "COMPACT_STRINGS" "Z" (.int z)) (hz : ¬ z = 0) (F : RoadKit.Sta Z h "jdk/internal/util/Preconditions" "SIOOBE_FORMATTER" "Ljava/util/function/BiFunction;" fm) (rf : fm.isRef = true) (l2 : cs.length ≤ 4000) (hi : i < cs.length) (hj : j = Int32.ofNat i) (hfr : 4 ≤ R.frames) (hlo : W + 53 ≤ R.locals) :
    Back l R p e below s args (⟨"java/lang/String", "charAt", "(I)C"⟩ : MethodName) len W (fun P a => a = #[.ref x, .int j] ∧ P.U.heap = h ∧ P.cells + 0 ≤ R.cells ∧ P.slots + 0 ≤ R.slots)
      (fun P _ v B => ∃ L, (v = some (.int (cs.getD i 0)) ∧ L = [] ∧ B.U.heap = h) ∧ B.locs = P.locs ++ L ∧ B.cells = P.cells + 0 ∧ B.slots = P.slots + 0) := by
  subst hj
  intro m meth c P g ig mk a X hg hsize hdg hW hn hp'
  obtain ⟨rfl, rfl, r1, r2⟩ := hp'
  have al : Z.vm.Alike P.U.vm := hZ.alike.trans X.warmed.alike
  obtain ⟨A, hx⟩ := txt_of wi al E V C K hc hb l2
  obtain ⟨v, B, X', ⟨⟨hv, hh⟩, hl, hk, hs⟩, st⟩ := ChN.pays x t A cs.length (fun j => cs.getD j 0) z fm i (tabChN_of (movedChN hZ hw)) hfr hlo m meth c P g ig mk _ X hg hsize hdg hW hn ⟨r1, r2, rfl, hx, hi, sta_is al S, hz, sta_is al F, rf⟩
  exact ⟨v, B, X', ⟨[], ⟨hv, rfl, hh⟩, hl, hk, hs⟩, st⟩
/-- what backV says of its String, as the contracts of this text ask it: cs's low bytes, coder 0 -/
theorem codOf {cs : List Int32} {n : Nat} (hn : cs.length = n) (hb : ∀ c ∈ cs, ¬ 255 < c) : CodA cs 0 (Int32.ofNat n) ((cs.map lo8).map Value.int) := Or.inl ⟨rfl, by rw [hn], by simp [List.map_map, Function.comp_def], hb⟩
end StrChars.Road
end Jvm.Pilot.@@N@@

namespace Jvm.Pilot.@@N@@
open Jvm Jvm.ClassFile Sem Op Lib Jvm.Free Jvm.Stand Jvm.LawKit Jvm.RoadKit Bundle Jvm.Pilot.@@N@@.Jvm.D
/-- the walk's goal, seen from a state: it comes to an end of which P holds -/
def OwnFin (tb : Tables) (e : Env) (below : List Frame) (P : State → Outcome → Prop) (S : State) : Prop := ∃ t o, Steps tb e below S t ∧ P t o
theorem OwnFin.adv {tb : Tables} {e : Env} {below : List Frame} {P : State → Outcome → Prop} {A B : State} (h : ∀ t, Steps tb e below B t → Steps tb e below A t) (k : OwnFin tb e below P B) : OwnFin tb e below P A := by
  obtain ⟨t, o, h1, h2⟩ := k
  exact ⟨t, o, h t h1, h2⟩
theorem OwnFin.entry {tb : Tables} {e : Env} {below : List Frame} {P : State → Outcome → Prop} {T : State} {g g' : JFrame} (q : g = g') (k : ∀ P', P' = P → OwnFin tb e below P' (T.setTop g')) : ∃ t o, Steps tb e below (T.setTop g) t ∧ P t o := by
  subst q; exact k P rfl
theorem OwnFin.leaf {tb : Tables} {e : Env} {below : List Frame} {P P' : State → Outcome → Prop} {S : State} (q : P' = P) (k : ∃ t o, Steps tb e below S t ∧ P t o) : OwnFin tb e below P' S := by
  subst q; exact k
theorem own_lt {a b : Nat} (h : a < b) : a < b := h
theorem own_nee {a b : Nat} (h : a ≠ b) : a ≠ b := h
theorem own_ne {a b : Nat} (h : a < b ∨ b < a) : a ≠ b := by omega
theorem own_monoW {s t : State} {o : Outcome} {L : List Loc} {k n k' n' : Nat} (h : ReturnedEndW s o t L k n) (hk : k ≤ k') (hn : n ≤ n') : ReturnedEndW s o t L k' n' := ⟨h.1, h.2.1, h.2.2.1, h.2.2.2.mono hk hn⟩
theorem own_chend {Z : State} {EL : List (String × Nat)} {vm1 vm2 : Vm} {U0 U1 : State} {h0 h1 : Heap} (A : CHr Z EL U0.vm h0 vm1 h1) (B : CHr Z EL vm1 h1 vm2 h1) (e0 : U0.heap = h0) (e1 : U1.heap = h1) : CHr Z EL U0.vm U0.heap vm2 U1.heap := by
  rw [e0, e1]; exact A.trans B
theorem own_staK {Z : State} {n0 : Nat} {h : Heap} {C n d : String} {v : Value} (S : Sta Z Z.heap C n d v) (O : Old Z n0 h) : Sta Z h C n d v := S.ext O.2
section OwnRet
variable {p : Program} {l : Launch} {e : Env} {R : Room} {s : State} {m : MethodId} {args : Array Value} {below : List Frame} {meth : Method} {c : Code} {T : State} {locs : List Loc} {cells slots : Nat}
theorem own_retI (X : Stand p l e R s m args below meth c T locs cells slots) (hx : p.tables.exec = Jvm.exec) {pc : Nat} {Ls : Array Slot} {z : Int32} {rest : List Value} (hret : meth.sig.returnType = some .int) (hd : decode c.code pc = .ok (.ireturn, 1)) {fs : List Frame}
    (hl : ∀ (f : JFrame) (acts : List Action), f.method = m → f.locked = none → f.entered = [] → (doReturn e (T.setTop f) acts (some (.int z))).1 = T.setFrames fs) : Steps p.tables e below (T.setTop (mkF m pc Ls (.int z :: rest))) (T.setFrames fs) :=
  retOut X hx hret rfl (Or.inl ⟨rfl, Or.inl rfl, z, rfl⟩) hd hl
theorem own_retL (X : Stand p l e R s m args below meth c T locs cells slots) (hx : p.tables.exec = Jvm.exec) {pc : Nat} {Ls : Array Slot} {z : Int64} {rest : List Value} (hret : meth.sig.returnType = some .long) (hd : decode c.code pc = .ok (.lreturn, 1)) {fs : List Frame}
    (hl : ∀ (f : JFrame) (acts : List Action), f.method = m → f.locked = none → f.entered = [] → (doReturn e (T.setTop f) acts (some (.long z))).1 = T.setFrames fs) : Steps p.tables e below (T.setTop (mkF m pc Ls (.long z :: rest))) (T.setFrames fs) :=
  retOut X hx hret rfl (Or.inr (Or.inl ⟨rfl, rfl, z, rfl⟩)) hd hl
theorem own_retR (X : Stand p l e R s m args below meth c T locs cells slots) (hx : p.tables.exec = Jvm.exec) {pc : Nat} {Ls : Array Slot} {w : Value} {t : FieldType} {rest : List Value} (hret : meth.sig.returnType = some t) (ht : t.isReference = true) (hn : narrow t w = w) (hw : w.isRef = true) (hd : decode c.code pc = .ok (.areturn, 1)) {fs : List Frame}
    (hl : ∀ (f : JFrame) (acts : List Action), f.method = m → f.locked = none → f.entered = [] → (doReturn e (T.setTop f) acts (some w)).1 = T.setFrames fs) : Steps p.tables e below (T.setTop (mkF m pc Ls (w :: rest))) (T.setFrames fs) :=
  retOut X hx hret hn (Or.inr (Or.inr (Or.inr (Or.inr ⟨rfl, ht, hw⟩)))) hd hl
end OwnRet
theorem own_eqI {args : Array Value} {first s : State} {o : Option Outcome} {idx : List Nat} {t : Term} {k : Int32} (h : (Cond.eq t (Term.int k)).value args first o s idx = some true) : t.eval args first o idx s = some (.int k) := by
  simp only [Cond.value, Term.eval] at h
  cases ht : t.eval args first o idx s with
  | none => simp [ht] at h
  | some x => cases x <;> simp [ht] at h ⊢; exact h
theorem own_fldI {Z : State} {args : Array Value} {t : Term} {a : Addr} {C n d : String} {k : Int32} (ht : t.eval args Z none [] Z = some (.ref a)) (h : (Cond.eq (Term.field t C n d) (Term.int k)).value args Z none Z [] = some true) : Fld Z Z.heap a C n d (.int k) :=
  Fld.start ((fld_at ht).symm.trans (own_eqI h))
theorem own_and255 (x : Int32) : ¬ (x &&& (255 : Int32)) < 0 ∧ ¬ (255 : Int32) < (x &&& (255 : Int32)) := by
  have h := c_mask x 255 8 (by decide) (by decide)
  have e : (255 : Int32).toInt = 255 := by decide
  have e0 : (0 : Int32).toInt = 0 := by decide
  rw [Int32.lt_iff_toInt_lt, Int32.lt_iff_toInt_lt, e, e0, h]
  omega
/-- x is a Latin-1 String of the chars cs, its two cells below lim -/
def OwnS (Z : State) (h : Heap) (lim : Nat) (x : Addr) (cs : List Int32) : Prop := ∃ (t : Addr) (kb : ClassId), Exa Z h x "java/lang/String" ∧ Fld Z h x "java/lang/String" "value" "[B" (.ref t) ∧ Fld Z h x "java/lang/String" "coder" "B" (.int (0 : Int32)) ∧ Arv Z h t kb .byte (Int32.ofNat cs.length) ((cs.map fun c => c.toInt8.toInt32).map Value.int) (.int (0 : Int32)) ∧ x < lim ∧ t < lim ∧ (∀ c ∈ cs, ¬ c < 0 ∧ ¬ (255 : Int32) < c) ∧ cs.length ≤ 4000
theorem OwnS.ext {Z : State} {h h' : Heap} {lim : Nat} {x : Addr} {cs : List Int32} (F : OwnS Z h lim x cs) (E : Ext h h') : OwnS Z h' lim x cs := by
  obtain ⟨t, kb, f1, f2, f3, f4, r⟩ := F; exact ⟨t, kb, f1.ext E, f2.ext E, f3.ext E, f4.ext E, r⟩
theorem OwnS.wr {Z : State} {h h' : Heap} {lim : Nat} {x a : Addr} {cs : List Int32} {sl : Nat} {v : Value} (F : OwnS Z h lim x cs) (W : Wr h h' a sl v) (q : lim ≤ a) : OwnS Z h' lim x cs := by
  obtain ⟨t, kb, f1, f2, f3, f4, r1, r2, r⟩ := F
  have n1 : x ≠ a := Nat.ne_of_lt (Nat.lt_of_lt_of_le r1 q)
  have n2 : t ≠ a := Nat.ne_of_lt (Nat.lt_of_lt_of_le r2 q)
  exact ⟨t, kb, f1.wr W, f2.other W (Or.inl n1), f3.other W (Or.inl n1), f4.other W n2, r1, r2, r⟩
theorem OwnS.keep {Z : State} {h h' : Heap} {lim : Nat} {x : Addr} {cs : List Int32} {ws : List Addr} (F : OwnS Z h lim x cs) (K : Keep h h' ws) (q : ∀ w ∈ ws, lim ≤ w) : OwnS Z h' lim x cs := by
  obtain ⟨t, kb, f1, f2, f3, f4, r1, r2, r⟩ := F
  have n1 : x ∉ ws := fun z => absurd r1 (Nat.not_lt.mpr (q x z))
  have n2 : t ∉ ws := fun z => absurd r2 (Nat.not_lt.mpr (q t z))
  exact ⟨t, kb, f1.keep K, f2.keep K n1, f3.keep K n1, f4.keep K n2, r1, r2, r⟩
theorem OwnS.lim {Z : State} {h : Heap} {lim lim' : Nat} {x : Addr} {cs : List Int32} (F : OwnS Z h lim x cs) (q : lim ≤ lim') : OwnS Z h lim' x cs := by
  obtain ⟨t, kb, f1, f2, f3, f4, r1, r2, r⟩ := F; exact ⟨t, kb, f1, f2, f3, f4, Nat.lt_of_lt_of_le r1 q, Nat.lt_of_lt_of_le r2 q, r⟩
theorem own_up {cs : List Int32} (h : ∀ c ∈ cs, ¬ c < 0 ∧ ¬ (255 : Int32) < c) : ∀ c ∈ cs, ¬ c < 0 ∧ ¬ (65535 : Int32) < c := fun c hc => ⟨(h c hc).1, fun q => (h c hc).2 (by
  have e : (255 : Int32).toInt = 255 := by decide
  have e' : (65535 : Int32).toInt = 65535 := by decide
  rw [Int32.lt_iff_toInt_lt] at q ⊢; rw [e'] at q; rw [e]; omega)⟩
theorem own_toInt {k : Nat} (h : k ≤ 100000) : (Int32.ofNat k).toInt = k := Int32.toInt_ofNat_of_lt (by omega)
theorem own_cl {k : Nat} (h : k ≤ 100000) : (Int32.ofNat k).toNatClampNeg = k := by simp only [Int32.toNatClampNeg, own_toInt h]; omega
theorem own_nn {k : Nat} (h : k ≤ 100000) : ¬ Int32.ofNat k < 0 := by
  have e : (0 : Int32).toInt = 0 := by decide
  rw [Int32.lt_iff_toInt_lt, own_toInt h, e]; omega
theorem own_add (a b : Nat) : Int32.ofNat a + Int32.ofNat b = Int32.ofNat (a + b) := (Int32.ofNat_add a b).symm
theorem own_le0 {a b : Nat} (hb : b ≤ 100000) (h : a ≤ b) : ¬ (0 : Int32) < Int32.ofNat a - Int32.ofNat b := by
  have e : (0 : Int32).toInt = 0 := by decide
  have q := c_isub (Int32.ofNat a) (Int32.ofNat b)
  have r := rng32 (Int32.ofNat a - Int32.ofNat b)
  rw [own_toInt (by omega), own_toInt hb] at q
  rw [Int32.lt_iff_toInt_lt, e]; omega
theorem own_sub {a b : Nat} (h : b ≤ a) : Int32.ofNat a - Int32.ofNat b = Int32.ofNat (a - b) := by
  have e := own_add (a - b) b
  rw [Nat.sub_add_cancel h] at e
  rw [← e, Int32.add_sub_cancel]
theorem own_ltn {a b : Nat} (ha : a ≤ 100000) (hb : b ≤ 100000) : Int32.ofNat a < Int32.ofNat b ↔ a < b := by rw [Int32.lt_iff_toInt_lt, own_toInt ha, own_toInt hb]; omega
theorem own_eqn {a b : Nat} (ha : a ≤ 100000) (hb : b ≤ 100000) : Int32.ofNat a = Int32.ofNat b ↔ a = b := by
  constructor
  · intro q; have := congrArg Int32.toInt q; rw [own_toInt ha, own_toInt hb] at this; omega
  · rintro rfl; rfl
theorem own_shr0 (x : Int32) : x >>> ((0 : Int32) &&& 31) = x := by
  apply Int32.toInt_inj.mp; rw [c_ishr x 0 0 (by decide)]; simp
theorem own_shl0 (x : Int32) : x <<< ((0 : Int32) &&& 31) = x := by
  have q := c_ishl x 0 0 (by decide)
  have r := rng32 x
  have r' := rng32 (x <<< ((0 : Int32) &&& 31))
  apply Int32.toInt_inj.mp; omega
theorem own_whole (vs : List Value) (d : Value) (n : Nat) (h : vs.length = n) : vs = (List.range n).map fun i => vs.getD (0 + i) d := by
  subst h
  apply List.ext_getElem
  · simp
  · intro i h1 h2; simp [List.getD_eq_getElem?_getD, h1]
theorem own_first (vs : List Value) (d : Value) (n : Nat) (h : n ≤ vs.length) : vs.take n = (List.range n).map fun i => vs.getD (0 + i) d := by
  apply List.ext_getElem
  · simp; omega
  · intro i h1 h2
    have : i < vs.length := by simp at h1; omega
    simp [List.getD_eq_getElem?_getD, this]
theorem own_same {Z : State} {a0 : Array Value} {y z : MethodName} (w : (Cond.declares y).before a0 Z = true) (wz : (Cond.declares z).before a0 Z = true) (nf : NotFace Z z) (hc : y.cls = z.cls) (hy : y.cls ≠ "java/lang/invoke/MethodHandle" ∧ y.cls ≠ "java/lang/invoke/VarHandle") : (Cond.sameMethod y.cls y.cls y.name y.desc).before a0 Z = true := by
  obtain ⟨m, meth, h1, h2, -, -⟩ := Cond.declares_spec w
  obtain ⟨m', meth', g1, -⟩ := Cond.declares_spec wz
  obtain ⟨k, hk, hni⟩ := nf m' g1
  have f1 := findClass_of_methodNamed h1
  have f2 := findClass_of_methodNamed g1
  rw [← hc] at f2
  have e : m.cls = m'.cls := Option.some.inj (f1.symm.trans f2)
  have hf := State.methodFound?_of_named h1 hy
  simp [Cond.before, Cond.holds, Cond.value, f1, hf, h1, e, hk, hni]
theorem own_nf {Z : State} {a0 : Array Value} {y z : MethodName} (wz : (Cond.declares z).before a0 Z = true) (nf : NotFace Z z) (hc : y.cls = z.cls) : NotFace Z y := fun r0 h => by
  obtain ⟨m', meth', g1, -⟩ := Cond.declares_spec wz
  obtain ⟨k, hk, hni⟩ := nf m' g1
  have f1 := findClass_of_methodNamed h
  have f2 := findClass_of_methodNamed g1
  rw [hc] at f1
  have e : r0.cls = m'.cls := Option.some.inj (f1.symm.trans f2)
  exact ⟨k, by rw [e]; exact hk, hni⟩
theorem own_decl {Z : State} {a0 : Array Value} {y : MethodName} {bytes : ByteArray} {ml : Nat} {rt : Option FieldType} (wi : (Cond.instanceMethod y).before a0 Z = true) (wc : (Cond.code y bytes ml rt).before a0 Z = true) : (Cond.declares y).before a0 Z = true := by
  obtain ⟨mk, methM, hnamed, hmethM, hstM, habM⟩ := Cond.instanceMethod_spec wi
  obtain ⟨m2, cM, q1, -, -, -, -, -, -, hsig⟩ := Cond.code_spec hnamed wc
  cases hmethM.symm.trans q1
  simp [Cond.before, Cond.holds, Cond.value, hnamed, hmethM, hstM, hsig]
theorem own_app {vd : List Value} {cs ct : List Int32} {cap : Nat} (hv : vd.length = cap) (ht : vd.take ct.length = (ct.map fun c => c.toInt8.toInt32).map Value.int) (hf : ct.length + cs.length ≤ cap) :
    (vd.take ct.length ++ ((cs.map fun c => c.toInt8.toInt32).map Value.int) ++ vd.drop (ct.length + cs.length)).length = cap ∧ (vd.take ct.length ++ ((cs.map fun c => c.toInt8.toInt32).map Value.int) ++ vd.drop (ct.length + cs.length)).take (ct ++ cs).length = ((ct ++ cs).map fun c => c.toInt8.toInt32).map Value.int := by
  constructor
  · simp; omega
  · rw [ht, List.map_append, List.map_append]
    apply List.take_left'
    simp
theorem own_eqv {v : Option Value} {cs ds : List Int32} (h : (v = some (.int 1) ∧ cs = ds) ∨ (v = some (.int 0) ∧ ¬ cs = ds)) : v = some (.int (if cs = ds then (1 : Int32) else 0)) := by
  rcases h with ⟨rfl, h⟩ | ⟨rfl, h⟩
  · rw [if_pos h]
  · rw [if_neg h]
theorem own_safeStr {Z : State} {EL : List (String × Nat)} {vm : Vm} {h : Heap} {x : Addr} (hal : Z.vm.Alike vm) (E : Exa Z h x "java/lang/String") (F : Fld Z h x "java/lang/String" "value" "[B" .null) : Safe Z EL vm h x := fun B => by
  obtain ⟨p, hp, u, a, hb, q, hq, ⟨cS, ⟨⟨s1, s2, s3, ⟨c1, k1, i1, f1, f1'⟩, s5, s6, s7, s8, s9, s10, -⟩, -⟩, -, hB, -⟩, hy⟩ := B
  rcases hy with hy | hy
  · subst hy
    obtain ⟨cell, cf, k, i, f, h1, h2, h3, h4, h5, h6, h7⟩ := F
    have e1 : q.sC = cell := Option.some.inj ((show h[q.sa]? = some q.sC from s1).symm.trans h1)
    obtain ⟨k3, e3, -⟩ := State.fieldFound?_setVm (s := Z) hal h2
    have e4 := (show (Wst Z vm h).fieldFound? _ _ _ = _ from e3).symm.trans f1
    simp only [Option.some.injEq, Prod.mk.injEq] at e4
    rw [e1, ← e4.2.2.2, h7] at s8
    cases s8
  · subst hy
    obtain ⟨cell, k, g1, g2, g3, -⟩ := E
    have e1 : q.SA = cell := Option.some.inj ((show h[q.sd]? = some q.SA from s10).symm.trans g1)
    have hB' : Z.vm.findClass "[B" = some q.SA.cls := (hal.findClass _ _).symm.trans hB
    exact ids_ne g2 hB' (by decide) (by rw [e1])

def own_EL : List (String × Nat) := [("com/example/raccordo/raccordo/sql/SqlToken", 61), ("com/example/raccordo/raccordo/sql/SqlToken", 67), ("java/lang/String", 7)]
theorem own_EW {Z : State} {a0 : Array Value} (hw : ∀ d ∈ tables_1, d.before a0 Z = true) : EW Z a0 own_EL := (EW.cons (hw _ (List.mem_of_getElem? (i := 111) rfl)) (by decide +kernel) (EW.cons (hw _ (List.mem_of_getElem? (i := 159) rfl)) (by decide +kernel) (EW.cons (hw _ (List.mem_of_getElem? (i := 34) rfl)) (by decide +kernel) EW.nil)))
theorem own_d17_0 : decode jdk_68_method_2_code 0 = .ok (.aload_n 0, 1) := by decide +kernel
theorem own_d17_1 : decode jdk_68_method_2_code 1 = .ok (.invokespecial 3, 3) := by decide +kernel
theorem own_d17_4 : decode jdk_68_method_2_code 4 = .ok (.getstatic 18, 3) := by decide +kernel
theorem own_d17_7 : decode jdk_68_method_2_code 7 = .ok (.ifCond .eq 18, 3) := by decide +kernel
theorem own_d17_10 : decode jdk_68_method_2_code 10 = .ok (.aload_n 0, 1) := by decide +kernel
theorem own_d17_11 : decode jdk_68_method_2_code 11 = .ok (.iload_n 1, 1) := by decide +kernel
theorem own_d17_12 : decode jdk_68_method_2_code 12 = .ok (.newarray .byte, 2) := by decide +kernel
theorem own_d17_14 : decode jdk_68_method_2_code 14 = .ok (.putfield 15, 3) := by decide +kernel
theorem own_d17_17 : decode jdk_68_method_2_code 17 = .ok (.aload_n 0, 1) := by decide +kernel
theorem own_d17_18 : decode jdk_68_method_2_code 18 = .ok (.iconst 0, 1) := by decide +kernel
theorem own_d17_19 : decode jdk_68_method_2_code 19 = .ok (.putfield 22, 3) := by decide +kernel
theorem own_d17_22 : decode jdk_68_method_2_code 22 = .ok (.goto 16, 3) := by decide +kernel
theorem own_d17_38 : decode jdk_68_method_2_code 38 = .ok (.return_, 1) := by decide +kernel
theorem own_ef_asbInit (m : MethodId) (x0 : Addr) (x1 : Int32) : entryFrame m #[(.ref x0), (.int x1)] 2 = mkF m 0 #[.val (.ref x0), .val (.int x1)] [] := by first | (simp [entryFrame, mkF, argsToLocals, Value.category]; done) | rfl
theorem own_pn_java_lang_AbstractStringBuilder : plainName "java/lang/AbstractStringBuilder" = true := by first | (simp [plainName, overriddenIn]; done) | decide +kernel
def own_Q_asbInit (Z : State) (ob : Addr) (zc : Int32) (u0 u1 : Value) (h0 : Heap) (n0 : Nat) (v : Option Value) (h : Heap) (L : List Loc) : Prop := v = none ∧ Fr n0 L ∧ Keep h0 h [ob] ∧ ∃ (da : Addr) (kd : ClassId), Fld Z h ob "java/lang/AbstractStringBuilder" "value" "[B" (.ref da) ∧ Fld Z h ob "java/lang/AbstractStringBuilder" "coder" "B" (.int (0 : Int32)) ∧ Fld Z h ob "java/lang/AbstractStringBuilder" "count" "I" (.int (0 : Int32)) ∧ Arv Z h da kd .byte (Int32.ofNat 16) (List.replicate 16 (.int (0 : Int32))) (.int (0 : Int32)) ∧ h0.size ≤ da
set_option maxRecDepth 65536 in
set_option maxHeartbeats 40000000 in
theorem own_asbInit (l : Launch) (Z : State) (a0 : Array Value) (hw : ∀ d ∈ tables_1, d.before a0 Z = true) (ws : List Jvm.Cond) (ob : Addr) (zc : Int32) (u0 u1 : Value) (h0 : Heap) (n0 : Nat) (Z0 : n0 ≤ h0.size) (O0 : Old Z n0 h0) (SCS : Sta Z Z.heap "java/lang/String" "COMPACT_STRINGS" "Z" (.int zc)) (hzc : ¬ zc = 0) (E : Exa Z h0 ob "java/lang/StringBuilder") (Fv : Fld Z h0 ob "java/lang/AbstractStringBuilder" "value" "[B" u0) (Fc : Fld Z h0 ob "java/lang/AbstractStringBuilder" "coder" "B" u1) (Fn : Fld Z h0 ob "java/lang/AbstractStringBuilder" "count" "I" (.int (0 : Int32))) (g_ob : n0 ≤ ob) :
    MetFree l (⟨"java/lang/AbstractStringBuilder", "<init>", "(I)V"⟩ : MethodName) (head1 (Jvm.Cond.code (⟨"java/lang/AbstractStringBuilder", "<init>", "(I)V"⟩ : MethodName) jdk_68_method_2_code 2 none :: ws) ({ frames := 1, cells := 1, slots := 16, locals := 12 } : Room)) (fun A0 U0 => A0 = #[(.ref ob), (.int (16 : Int32))] ∧ Z.Warmed39 U0.vm ∧ U0.heap = h0) (fun _ _ _ _ _ => True) (fun _ U0 o0 U1 => ∃ v0 L0, o0 = .returned v0 ∧ own_Q_asbInit Z ob zc u0 u1 h0 n0 v0 U1.heap L0 ∧ FrameEnd U0 o0 U1 L0 ({ frames := 1, cells := 1, slots := 16, locals := 12 } : Room).cells ({ frames := 1, cells := 1, slots := 16, locals := 12 } : Room).slots) := by
  refine MetFree.of_bodySF (plainFor_of_name own_pn_java_lang_AbstractStringBuilder) hisR ?_
  intro p e s m args below meth c s₁ Bd hml0 hP hK
  obtain ⟨rfl, hZ, hh⟩ := hP
  have hZs := hZ
  have hx := Bd.exec
  have hby := Bd.bytes
  have hml : c.maxLocals = 2 := hml0
  have hown : s.vm.findClass "java/lang/AbstractStringBuilder" = some m.cls := findClass_of_methodNamed Bd.named
  have hnm := (name_of_methodNamed Bd.named Bd.method).1
  have X0 : Stand p l e ({ frames := 1, cells := 1, slots := 16, locals := 12 } : Room) s m #[(.ref ob), (.int (16 : Int32))] below meth c s₁ [] 0 0 := Stand.of_body Bd
  have e0 : s₁.heap = h0 := by rw [← hh, Bd.state]; rfl
  have N0 := Fr.nil n0
  refine OwnFin.entry (own_ef_asbInit m ob (16 : Int32)) (fun P' hP' => ?_)
  have lt_ob := own_lt E.lt
  refine OwnFin.adv (B := s₁.setTop (mkF m 1 #[.val (.ref ob), .val (.int (16 : Int32))] [(.ref ob)])) (fun _ k => XS.aloadN X0.here hx rfl (hb hby own_d17_0) rfl rfl k) ?_
  obtain ⟨T1, X1, e1, st1⟩ := initO X0 hx hZ hown (hw _ (List.mem_of_getElem? (i := 105) rfl)) (hw _ (List.mem_of_getElem? (i := 16) rfl)) (hw _ (List.mem_of_getElem? (i := 17) rfl)) e0 (g := (mkF m 1 #[.val (.ref ob), .val (.int (16 : Int32))] [(.ref ob)])) rfl (by rw [hml]; rfl) rfl (hb hby own_d17_1) (by decide) (W := 0) (by show 2 * 0 + _ ≤ _; exact Nat.le_of_eq rfl) (by decide)
  refine OwnFin.adv (B := T1.setTop (mkF m 4 #[.val (.ref ob), .val (.int (16 : Int32))] [])) (fun _ k => st1 _ k) ?_
  obtain ⟨T2, X2, e2, st2⟩ := getS2 X1 hx hZ hown (host := "") (Or.inl (hw _ (List.mem_of_getElem? (i := 106) rfl))) Via.refl e1 (own_staK SCS O0) (g := (mkF m 4 #[.val (.ref ob), .val (.int (16 : Int32))] [])) rfl (hb hby own_d17_4)
  refine OwnFin.adv (B := T2.setTop (mkF m 7 #[.val (.ref ob), .val (.int (16 : Int32))] [(.int zc)])) (fun _ k => st2 _ k) ?_
  have hc7_4 : ¬ (zc = (0 : Int32)) := hzc
  refine OwnFin.adv (B := T2.setTop (mkF m 10 #[.val (.ref ob), .val (.int (16 : Int32))] [])) (fun _ k => XS.ifNo X2.here hx rfl (hb hby own_d17_7) rfl ((if0 _ _).trans (feq hc7_4).1) k) ?_
  refine OwnFin.adv (B := T2.setTop (mkF m 11 #[.val (.ref ob), .val (.int (16 : Int32))] [(.ref ob)])) (fun _ k => XS.aloadN X2.here hx rfl (hb hby own_d17_10) rfl rfl k) ?_
  refine OwnFin.adv (B := T2.setTop (mkF m 12 #[.val (.ref ob), .val (.int (16 : Int32))] [(.int (16 : Int32)), (.ref ob)])) (fun _ k => XS.iloadN X2.here hx rfl (hb hby own_d17_11) rfl k) ?_
  obtain ⟨T3, h3, k3, X3, e3, E3, A3, st3⟩ := newP X2 hx hZ (hw _ (List.mem_of_getElem? (i := 23) rfl)) e2 (g := (mkF m 12 #[.val (.ref ob), .val (.int (16 : Int32))] [(.int (16 : Int32)), (.ref ob)])) rfl (hb hby own_d17_12) rfl (by decide) (cap := 16) (by decide) (by decide) (by decide) (by decide)
  obtain ⟨b3, g3⟩ : ∃ z, z = h0.size := ⟨_, rfl⟩
  rw [← g3] at A3 st3
  have sz4 : h0.size ≤ h3.size := E3.1
  have lt_b3 := own_lt A3.lt
  have V3 : Arv Z h3 b3 k3 .byte (16 : Int32) [(.int (0 : Int32)), (.int (0 : Int32)), (.int (0 : Int32)), (.int (0 : Int32)), (.int (0 : Int32)), (.int (0 : Int32)), (.int (0 : Int32)), (.int (0 : Int32)), (.int (0 : Int32)), (.int (0 : Int32)), (.int (0 : Int32)), (.int (0 : Int32)), (.int (0 : Int32)), (.int (0 : Int32)), (.int (0 : Int32)), (.int (0 : Int32))] (.int (0 : Int32)) := (Arv.new A3 (by decide)).pad (pad_rep [] (.int (0 : Int32)) 16)
  refine OwnFin.adv (B := T3.setTop (mkF m 14 #[.val (.ref ob), .val (.int (16 : Int32))] [(.ref b3), (.ref ob)])) (fun _ k => st3 _ k) ?_
  have Fv5_1 : Exa Z h3 ob "java/lang/StringBuilder" := (E.ext E3)
  have Fv6_1 : Fld Z h3 ob "java/lang/AbstractStringBuilder" "value" "[B" u0 := (Fv.ext E3)
  obtain ⟨T7, h7, X7, e7, W7, st7⟩ := putF X3 hx hZ hown (host := "") (Or.inl (hw _ (List.mem_of_getElem? (i := 107) rfl))) Via.refl e3 Fv6_1 Fv5_1 (Or.inl (hw _ (List.mem_of_getElem? (i := 108) rfl))) (hw _ (List.mem_of_getElem? (i := 94) rfl)) (ty := (.array .byte)) (by decide) rfl rfl (g := (mkF m 14 #[.val (.ref ob), .val (.int (16 : Int32))] [(.ref b3), (.ref ob)])) rfl rfl (hb hby own_d17_14)
  have Fw7 : Fld Z h7 ob "java/lang/AbstractStringBuilder" "value" "[B" (.ref b3) := Fv6_1.same W7
  have sz8 : h3.size ≤ h7.size := Nat.le_of_eq W7.size.symm
  have N7 := Fr.snoc X7 N0 (by omega : n0 ≤ ob)
  refine OwnFin.adv (B := T7.setTop (mkF m 17 #[.val (.ref ob), .val (.int (16 : Int32))] [])) (fun _ k => st7 _ k) ?_
  refine OwnFin.adv (B := T7.setTop (mkF m 18 #[.val (.ref ob), .val (.int (16 : Int32))] [(.ref ob)])) (fun _ k => XS.aloadN X7.here hx rfl (hb hby own_d17_17) rfl rfl k) ?_
  refine OwnFin.adv (B := T7.setTop (mkF m 19 #[.val (.ref ob), .val (.int (16 : Int32))] [(.int (0 : Int32)), (.ref ob)])) (fun _ k => XS.iconst X7.here hx rfl (hb hby own_d17_18) k) ?_
  have Fv9_2 : Exa Z h7 ob "java/lang/StringBuilder" := (Fv5_1.wr W7)
  have Fv10_2 : Fld Z h7 ob "java/lang/AbstractStringBuilder" "coder" "B" u1 := ((Fc.ext E3).other W7 (Or.inr (slot_ne (Or.inl (hw _ (List.mem_of_getElem? (i := 110) rfl))) (Or.inl (hw _ (List.mem_of_getElem? (i := 108) rfl))) (by decide) (t := .byte) (t' := (.array .byte)) (by decide) (by decide))))
  obtain ⟨T11, h11, X11, e11, W11, st11⟩ := putFN X7 hx hZ hown (hw _ (List.mem_of_getElem? (i := 109) rfl)) Via.refl e7 Fv10_2 Fv9_2 (Or.inl (hw _ (List.mem_of_getElem? (i := 110) rfl))) (hw _ (List.mem_of_getElem? (i := 94) rfl)) (ty := .byte) (v' := .int (nar .byte (0 : Int32))) (by decide) rfl (fits_nar_byte _) (g := (mkF m 19 #[.val (.ref ob), .val (.int (16 : Int32))] [(.int (0 : Int32)), (.ref ob)])) rfl rfl (hb hby own_d17_19)
  have Fw11 : Fld Z h11 ob "java/lang/AbstractStringBuilder" "coder" "B" (.int (0 : Int32)) := Fv10_2.same W11
  have sz12 : h7.size ≤ h11.size := Nat.le_of_eq W11.size.symm
  have N11 := Fr.snoc X11 N7 (by omega : n0 ≤ ob)
  refine OwnFin.adv (B := T11.setTop (mkF m 22 #[.val (.ref ob), .val (.int (16 : Int32))] [])) (fun _ k => st11 _ k) ?_
  refine OwnFin.adv (B := T11.setTop (mkF m 38 #[.val (.ref ob), .val (.int (16 : Int32))] [])) (fun _ k => XS.goto X11.here hx rfl (pc0 := 22) (pc' := 38) rfl (hb hby own_d17_22) (by decide) (by decide) k) ?_
  obtain ⟨fs, hr, hrun, hended, hW, hsame⟩ := X11.leave (v := none) (fun _ => rfl)
  refine OwnFin.leaf hP' ⟨_, _, X11.returnOut hx Bd.returns (hb hby own_d17_38) hr, hrun, hended, _, _, rfl, ?_, ⟨_, rfl⟩, hW, hsame.mono (by decide) (by decide)⟩
  have Fv13_3 : Fld Z h11 ob "java/lang/AbstractStringBuilder" "value" "[B" (.ref b3) := (Fw7.other W11 (Or.inr (slot_ne (Or.inl (hw _ (List.mem_of_getElem? (i := 108) rfl))) (Or.inl (hw _ (List.mem_of_getElem? (i := 110) rfl))) (by decide) (t := (.array .byte)) (t' := .byte) (by decide) (by decide))))
  have Fv14_3 : Fld Z h11 ob "java/lang/AbstractStringBuilder" "count" "I" (.int (0 : Int32)) := (((Fn.ext E3).other W7 (Or.inr (slot_ne (Or.inl (hw _ (List.mem_of_getElem? (i := 133) rfl))) (Or.inl (hw _ (List.mem_of_getElem? (i := 108) rfl))) (by decide) (t := .int) (t' := (.array .byte)) (by decide) (by decide)))).other W11 (Or.inr (slot_ne (Or.inl (hw _ (List.mem_of_getElem? (i := 133) rfl))) (Or.inl (hw _ (List.mem_of_getElem? (i := 110) rfl))) (by decide) (t := .int) (t' := .byte) (by decide) (by decide))))
  have Fv15_3 : Arv Z h11 b3 k3 .byte (16 : Int32) [(.int (0 : Int32)), (.int (0 : Int32)), (.int (0 : Int32)), (.int (0 : Int32)), (.int (0 : Int32)), (.int (0 : Int32)), (.int (0 : Int32)), (.int (0 : Int32)), (.int (0 : Int32)), (.int (0 : Int32)), (.int (0 : Int32)), (.int (0 : Int32)), (.int (0 : Int32)), (.int (0 : Int32)), (.int (0 : Int32)), (.int (0 : Int32))] (.int (0 : Int32)) := ((V3.other W7 (own_ne (by omega))).other W11 (own_ne (by omega)))
  rw [show (T11.setFrames fs).heap = h11 from e11]
  exact ⟨rfl, N11, ((((Keep.refl h0 [ob]).ext E3).wr W7 (Or.inl (List.mem_of_getElem? (i := 0) rfl))).wr W11 (Or.inl (List.mem_of_getElem? (i := 0) rfl))), _, _, Fv13_3, Fw11, Fv14_3, Fv15_3, by omega⟩
theorem own_d16_0 : decode jdk_67_method_1_code 0 = .ok (.aload_n 0, 1) := by decide +kernel
theorem own_d16_1 : decode jdk_67_method_1_code 1 = .ok (.bipush 16, 2) := by decide +kernel
theorem own_pd_x28Ix29V : parseMethodDescriptor "(I)V" = some ⟨[.int], none⟩ := by decide +kernel
theorem own_d16_3 : decode jdk_67_method_1_code 3 = .ok (.invokespecial 1, 3) := by decide +kernel
theorem own_d16_6 : decode jdk_67_method_1_code 6 = .ok (.return_, 1) := by decide +kernel
theorem own_ef_sbInit (m : MethodId) (x0 : Addr) : entryFrame m #[(.ref x0)] 1 = mkF m 0 #[.val (.ref x0)] [] := by first | (simp [entryFrame, mkF, argsToLocals, Value.category]; done) | rfl
theorem own_pn_java_lang_StringBuilder : plainName "java/lang/StringBuilder" = true := by first | (simp [plainName, overriddenIn]; done) | decide +kernel
def own_Q_sbInit (Z : State) (ob : Addr) (zc : Int32) (u0 u1 : Value) (h0 : Heap) (n0 : Nat) (v : Option Value) (h : Heap) (L : List Loc) : Prop := v = none ∧ Fr n0 L ∧ Keep h0 h [ob] ∧ ∃ (da : Addr) (kd : ClassId), Fld Z h ob "java/lang/AbstractStringBuilder" "value" "[B" (.ref da) ∧ Fld Z h ob "java/lang/AbstractStringBuilder" "coder" "B" (.int (0 : Int32)) ∧ Fld Z h ob "java/lang/AbstractStringBuilder" "count" "I" (.int (0 : Int32)) ∧ Arv Z h da kd .byte (Int32.ofNat 16) (List.replicate 16 (.int (0 : Int32))) (.int (0 : Int32)) ∧ h0.size ≤ da
set_option maxRecDepth 65536 in
set_option maxHeartbeats 40000000 in
theorem own_sbInit (l : Launch) (Z : State) (a0 : Array Value) (hw : ∀ d ∈ tables_1, d.before a0 Z = true) (ws : List Jvm.Cond) (ob : Addr) (zc : Int32) (u0 u1 : Value) (h0 : Heap) (n0 : Nat) (Z0 : n0 ≤ h0.size) (O0 : Old Z n0 h0) (SCS : Sta Z Z.heap "java/lang/String" "COMPACT_STRINGS" "Z" (.int zc)) (hzc : ¬ zc = 0) (E : Exa Z h0 ob "java/lang/StringBuilder") (Fv : Fld Z h0 ob "java/lang/AbstractStringBuilder" "value" "[B" u0) (Fc : Fld Z h0 ob "java/lang/AbstractStringBuilder" "coder" "B" u1) (Fn : Fld Z h0 ob "java/lang/AbstractStringBuilder" "count" "I" (.int (0 : Int32))) (g_ob : n0 ≤ ob) :
    MetFree l (⟨"java/lang/StringBuilder", "<init>", "()V"⟩ : MethodName) (head1 (Jvm.Cond.code (⟨"java/lang/StringBuilder", "<init>", "()V"⟩ : MethodName) jdk_67_method_1_code 1 none :: ws) ({ frames := 2, cells := 1, slots := 16, locals := 25 } : Room)) (fun A0 U0 => A0 = #[(.ref ob)] ∧ Z.Warmed39 U0.vm ∧ U0.heap = h0) (fun _ _ _ _ _ => True) (fun _ U0 o0 U1 => ∃ v0 L0, o0 = .returned v0 ∧ own_Q_sbInit Z ob zc u0 u1 h0 n0 v0 U1.heap L0 ∧ FrameEnd U0 o0 U1 L0 ({ frames := 2, cells := 1, slots := 16, locals := 25 } : Room).cells ({ frames := 2, cells := 1, slots := 16, locals := 25 } : Room).slots) := by
  refine MetFree.of_bodySF (plainFor_of_name own_pn_java_lang_StringBuilder) hisR ?_
  intro p e s m args below meth c s₁ Bd hml0 hP hK
  obtain ⟨rfl, hZ, hh⟩ := hP
  have hZs := hZ
  have hx := Bd.exec
  have hby := Bd.bytes
  have hml : c.maxLocals = 1 := hml0
  have hown : s.vm.findClass "java/lang/StringBuilder" = some m.cls := findClass_of_methodNamed Bd.named
  have hnm := (name_of_methodNamed Bd.named Bd.method).1
  have X0 : Stand p l e ({ frames := 2, cells := 1, slots := 16, locals := 25 } : Room) s m #[(.ref ob)] below meth c s₁ [] 0 0 := Stand.of_body Bd
  have e0 : s₁.heap = h0 := by rw [← hh, Bd.state]; rfl
  have N0 := Fr.nil n0
  refine OwnFin.entry (own_ef_sbInit m ob) (fun P' hP' => ?_)
  have lt_ob := own_lt E.lt
  refine OwnFin.adv (B := s₁.setTop (mkF m 1 #[.val (.ref ob)] [(.ref ob)])) (fun _ k => XS.aloadN X0.here hx rfl (hb hby own_d16_0) rfl rfl k) ?_
  refine OwnFin.adv (B := s₁.setTop (mkF m 3 #[.val (.ref ob)] [(.int (16 : Int32)), (.ref ob)])) (fun _ k => XS.bipush X0.here hx rfl (hb hby own_d16_1) k) ?_
  obtain ⟨_, _, ⟨T1, L1, k1, n1⟩, -, X1, ⟨Lc1, hQ1, l1, y1, z1⟩, st1⟩ := X0.specialBack hx (y := (⟨"java/lang/AbstractStringBuilder", "<init>", "(I)V"⟩ : MethodName)) rfl hown (mvT hZ (hw _ (List.mem_of_getElem? (i := 99) rfl))) (mvT hZ (hw _ (List.mem_of_getElem? (i := 100) rfl))) (mvT hZ (hw _ (List.mem_of_getElem? (i := 104) rfl))) (by decide) (backOf (W := 0) (own_asbInit l Z a0 hw [] ob zc _ _ h0 n0 (by omega) O0 SCS hzc E Fv Fc Fn (by omega)) hZ (hw _ (List.mem_of_getElem? (i := 104) rfl)) (hw _ (List.mem_of_getElem? (i := 103) rfl)) (by decide) (by decide)) (g := (mkF m 3 #[.val (.ref ob)] [(.int (16 : Int32)), (.ref ob)])) rfl (by rw [hml]; rfl) (Steps.refl _) (a := ob) (argsL := [(.int (16 : Int32))]) (rest := []) (lenOf own_pd_x28Ix29V rfl) rfl (by show 2 * 0 + _ ≤ _; exact Nat.le_of_eq rfl) (hb hby own_d16_3) (fun _ _ => ⟨rfl, e0, (by decide : 0 + 1 ≤ _), (by decide : 0 + 16 ≤ _)⟩)
  dsimp only [Pt.U, Pt.locs, Pt.cells, Pt.slots] at X1 l1 y1 z1 st1 hQ1
  subst l1 y1 z1
  obtain ⟨rfl, N1q, K1, da1, kd1, Fv1, Fc1, Fn1, Va1, ge1⟩ := hQ1
  have N1 := Fr.app N0 N1q
  have sz2 : h0.size ≤ T1.heap.size := K1.1
  have lt_da1 := own_lt Va1.lt
  refine OwnFin.adv (B := T1.setTop (mkF m 6 #[.val (.ref ob)] [])) (fun _ k => st1.trans k) ?_
  obtain ⟨fs, hr, hrun, hended, hW, hsame⟩ := X1.leave (v := none) (fun _ => rfl)
  refine OwnFin.leaf hP' ⟨_, _, X1.returnOut hx Bd.returns (hb hby own_d16_6) hr, hrun, hended, _, _, rfl, ?_, ⟨_, rfl⟩, hW, hsame.mono (by decide) (by decide)⟩
  rw [show (T1.setFrames fs).heap = T1.heap from rfl]
  exact ⟨rfl, N1, ((Keep.refl h0 [ob]).trans K1 (allS (Or.inl (List.mem_of_getElem? (i := 0) rfl)) all0)), _, _, Fv1, Fc1, Fn1, Va1, by omega⟩
theorem own_d22_0 : decode jdk_68_method_9_code 0 = .ok (.aload_n 0, 1) := by decide +kernel
theorem own_d22_1 : decode jdk_68_method_9_code 1 = .ok (.getfield 15, 3) := by decide +kernel
theorem own_d22_4 : decode jdk_68_method_9_code 4 = .ok (.arraylength, 1) := by decide +kernel
theorem own_d22_5 : decode jdk_68_method_9_code 5 = .ok (.aload_n 0, 1) := by decide +kernel
theorem own_d22_6 : decode jdk_68_method_9_code 6 = .ok (.getfield 22, 3) := by decide +kernel
theorem own_d22_9 : decode jdk_68_method_9_code 9 = .ok (.ishr, 1) := by decide +kernel
theorem own_d22_10 : decode jdk_68_method_9_code 10 = .ok (.istore_n 2, 1) := by decide +kernel
theorem own_d22_11 : decode jdk_68_method_9_code 11 = .ok (.iload_n 1, 1) := by decide +kernel
theorem own_d22_12 : decode jdk_68_method_9_code 12 = .ok (.iload_n 2, 1) := by decide +kernel
theorem own_d22_13 : decode jdk_68_method_9_code 13 = .ok (.isub, 1) := by decide +kernel
theorem own_d22_14 : decode jdk_68_method_9_code 14 = .ok (.ifCond .le 24, 3) := by decide +kernel
theorem own_d22_38 : decode jdk_68_method_9_code 38 = .ok (.return_, 1) := by decide +kernel
theorem own_ef_ensure (m : MethodId) (x0 : Addr) (x1 : Int32) : entryFrame m #[(.ref x0), (.int x1)] 3 = mkF m 0 #[.val (.ref x0), .val (.int x1), .unset] [] := by first | (simp [entryFrame, mkF, argsToLocals, Value.category]; done) | rfl
def own_Q_ensure (Z : State) (ob da : Addr) (kd : ClassId) (vd : List Value) (mn cap : Nat) (h0 : Heap) (n0 : Nat) (v : Option Value) (h : Heap) (L : List Loc) : Prop := v = none ∧ Fr n0 L ∧ h = h0
set_option maxRecDepth 65536 in
set_option maxHeartbeats 40000000 in
theorem own_ensure (l : Launch) (Z : State) (a0 : Array Value) (hw : ∀ d ∈ tables_1, d.before a0 Z = true) (ws : List Jvm.Cond) (ob da : Addr) (kd : ClassId) (vd : List Value) (mn cap : Nat) (h0 : Heap) (n0 : Nat) (Z0 : n0 ≤ h0.size) (Fv : Fld Z h0 ob "java/lang/AbstractStringBuilder" "value" "[B" (.ref da)) (Fc : Fld Z h0 ob "java/lang/AbstractStringBuilder" "coder" "B" (.int (0 : Int32))) (Va : Arv Z h0 da kd .byte (Int32.ofNat cap) vd (.int (0 : Int32))) (hcap : cap ≤ 4000) (hvd : vd.length = cap) (hmn : mn ≤ cap) :
    MetFree l (⟨"java/lang/AbstractStringBuilder", "ensureCapacityInternal", "(I)V"⟩ : MethodName) (head1 (Jvm.Cond.code (⟨"java/lang/AbstractStringBuilder", "ensureCapacityInternal", "(I)V"⟩ : MethodName) jdk_68_method_9_code 3 none :: ws) ({ frames := 0, cells := 0, slots := 0, locals := 0 } : Room)) (fun A0 U0 => A0 = #[(.ref ob), (.int (Int32.ofNat mn))] ∧ Z.Warmed39 U0.vm ∧ U0.heap = h0) (fun _ _ _ _ _ => True) (fun _ U0 o0 U1 => ∃ v0 L0, o0 = .returned v0 ∧ own_Q_ensure Z ob da kd vd mn cap h0 n0 v0 U1.heap L0 ∧ FrameEnd U0 o0 U1 L0 ({ frames := 0, cells := 0, slots := 0, locals := 0 } : Room).cells ({ frames := 0, cells := 0, slots := 0, locals := 0 } : Room).slots) := by
  refine MetFree.of_bodySF (plainFor_of_name own_pn_java_lang_AbstractStringBuilder) hisR ?_
  intro p e s m args below meth c s₁ Bd hml0 hP hK
  obtain ⟨rfl, hZ, hh⟩ := hP
  have hZs := hZ
  have hx := Bd.exec
  have hby := Bd.bytes
  have hml : c.maxLocals = 3 := hml0
  have hown : s.vm.findClass "java/lang/AbstractStringBuilder" = some m.cls := findClass_of_methodNamed Bd.named
  have hnm := (name_of_methodNamed Bd.named Bd.method).1
  have X0 : Stand p l e ({ frames := 0, cells := 0, slots := 0, locals := 0 } : Room) s m #[(.ref ob), (.int (Int32.ofNat mn))] below meth c s₁ [] 0 0 := Stand.of_body Bd
  have e0 : s₁.heap = h0 := by rw [← hh, Bd.state]; rfl
  have N0 := Fr.nil n0
  refine OwnFin.entry (own_ef_ensure m ob (Int32.ofNat mn)) (fun P' hP' => ?_)
  have lt_da := own_lt Va.lt
  refine OwnFin.adv (B := s₁.setTop (mkF m 1 #[.val (.ref ob), .val (.int (Int32.ofNat mn)), .unset] [(.ref ob)])) (fun _ k => XS.aloadN X0.here hx rfl (hb hby own_d22_0) rfl rfl k) ?_
  obtain ⟨T1, X1, e1, st1⟩ := getF X0 hx hZ hown (host := "") (Or.inl (hw _ (List.mem_of_getElem? (i := 107) rfl))) Via.refl e0 Fv (g := (mkF m 1 #[.val (.ref ob), .val (.int (Int32.ofNat mn)), .unset] [(.ref ob)])) rfl rfl (hb hby own_d22_1)
  refine OwnFin.adv (B := T1.setTop (mkF m 4 #[.val (.ref ob), .val (.int (Int32.ofNat mn)), .unset] [(.ref da)])) (fun _ k => st1 _ k) ?_
  obtain ⟨cl2, Ar2, ck2, S2, M2, H2, G2⟩ := id Va
  refine OwnFin.adv (B := T1.setTop (mkF m 5 #[.val (.ref ob), .val (.int (Int32.ofNat mn)), .unset] [(.int (Int32.ofNat cap))])) (fun _ k => X1.arraylength hx (by rw [e1]; exact Ar2.1) (State.isArrayOf_alike hZ.alike Ar2.2.1) (g := (mkF m 4 #[.val (.ref ob), .val (.int (Int32.ofNat mn)), .unset] [(.ref da)])) rfl rfl (hb hby own_d22_4) _ (by rw [len_of S2 M2]; exact k)) ?_
  refine OwnFin.adv (B := T1.setTop (mkF m 6 #[.val (.ref ob), .val (.int (Int32.ofNat mn)), .unset] [(.ref ob), (.int (Int32.ofNat cap))])) (fun _ k => XS.aloadN X1.here hx rfl (hb hby own_d22_5) rfl rfl k) ?_
  obtain ⟨T3, X3, e3, st3⟩ := getF X1 hx hZ hown (host := "") (Or.inl (hw _ (List.mem_of_getElem? (i := 109) rfl))) Via.refl e1 Fc (g := (mkF m 6 #[.val (.ref ob), .val (.int (Int32.ofNat mn)), .unset] [(.ref ob), (.int (Int32.ofNat cap))])) rfl rfl (hb hby own_d22_6)
  refine OwnFin.adv (B := T3.setTop (mkF m 9 #[.val (.ref ob), .val (.int (Int32.ofNat mn)), .unset] [(.int (0 : Int32)), (.int (Int32.ofNat cap))])) (fun _ k => st3 _ k) ?_
  refine OwnFin.adv (B := T3.setTop (mkF m 10 #[.val (.ref ob), .val (.int (Int32.ofNat mn)), .unset] [(.int ((Int32.ofNat cap) >>> ((0 : Int32) &&& 31)))])) (fun _ k => XS.ishr X3.here hx rfl (hb hby own_d22_9) rfl k) ?_
  rw [show (((Int32.ofNat cap) >>> ((0 : Int32) &&& 31)) : Int32) = (Int32.ofNat cap) from own_shr0 _]
  refine OwnFin.adv (B := T3.setTop (mkF m 11 #[.val (.ref ob), .val (.int (Int32.ofNat mn)), .val (.int (Int32.ofNat cap))] [])) (fun _ k => XS.istoreN X3.here hx rfl (hb hby own_d22_10) rfl (l' := #[.val (.ref ob), .val (.int (Int32.ofNat mn)), .val (.int (Int32.ofNat cap))]) rfl k) ?_
  refine OwnFin.adv (B := T3.setTop (mkF m 12 #[.val (.ref ob), .val (.int (Int32.ofNat mn)), .val (.int (Int32.ofNat cap))] [(.int (Int32.ofNat mn))])) (fun _ k => XS.iloadN X3.here hx rfl (hb hby own_d22_11) rfl k) ?_
  refine OwnFin.adv (B := T3.setTop (mkF m 13 #[.val (.ref ob), .val (.int (Int32.ofNat mn)), .val (.int (Int32.ofNat cap))] [(.int (Int32.ofNat cap)), (.int (Int32.ofNat mn))])) (fun _ k => XS.iloadN X3.here hx rfl (hb hby own_d22_12) rfl k) ?_
  refine OwnFin.adv (B := T3.setTop (mkF m 14 #[.val (.ref ob), .val (.int (Int32.ofNat mn)), .val (.int (Int32.ofNat cap))] [(.int ((Int32.ofNat mn) - (Int32.ofNat cap)))])) (fun _ k => XS.isub X3.here hx rfl (hb hby own_d22_13) rfl k) ?_
  have hc14_11 : ¬ ((0 : Int32) < ((Int32.ofNat mn) - (Int32.ofNat cap))) := own_le0 (by omega) hmn
  refine OwnFin.adv (B := T3.setTop (mkF m 38 #[.val (.ref ob), .val (.int (Int32.ofNat mn)), .val (.int (Int32.ofNat cap))] [])) (fun _ k => XS.ifYes X3.here hx rfl (pc0 := 14) (pc' := 38) rfl (hb hby own_d22_14) rfl ((if0 _ _).trans (flt hc14_11).2.2.2) (by decide) (by decide) k) ?_
  obtain ⟨fs, hr, hrun, hended, hW, hsame⟩ := X3.leave (v := none) (fun _ => rfl)
  refine OwnFin.leaf hP' ⟨_, _, X3.returnOut hx Bd.returns (hb hby own_d22_38) hr, hrun, hended, _, _, rfl, ?_, ⟨_, rfl⟩, hW, hsame.mono (by decide) (by decide)⟩
  exact ⟨rfl, N0, e3⟩
theorem own_d21_0 : decode jdk_42_method_152_code 0 = .ok (.getstatic 38, 3) := by decide +kernel
theorem own_d21_3 : decode jdk_42_method_152_code 3 = .ok (.ifCond .eq 10, 3) := by decide +kernel
theorem own_d21_6 : decode jdk_42_method_152_code 6 = .ok (.aload_n 0, 1) := by decide +kernel
theorem own_d21_7 : decode jdk_42_method_152_code 7 = .ok (.getfield 15, 3) := by decide +kernel
theorem own_d21_10 : decode jdk_42_method_152_code 10 = .ok (.goto 4, 3) := by decide +kernel
theorem own_d21_14 : decode jdk_42_method_152_code 14 = .ok (.ireturn, 1) := by decide +kernel
theorem own_ef_coder (m : MethodId) (x0 : Addr) : entryFrame m #[(.ref x0)] 1 = mkF m 0 #[.val (.ref x0)] [] := by first | (simp [entryFrame, mkF, argsToLocals, Value.category]; done) | rfl
theorem own_pn_java_lang_String : plainName "java/lang/String" = true := by first | (simp [plainName, overriddenIn]; done) | decide +kernel
def own_Q_coder (Z : State) (so : Addr) (zc : Int32) (h0 : Heap) (n0 : Nat) (v : Option Value) (h : Heap) (L : List Loc) : Prop := v = some (.int (0 : Int32)) ∧ Fr n0 L ∧ h = h0
set_option maxRecDepth 65536 in
set_option maxHeartbeats 40000000 in
theorem own_coder (l : Launch) (Z : State) (a0 : Array Value) (hw : ∀ d ∈ tables_1, d.before a0 Z = true) (ws : List Jvm.Cond) (so : Addr) (zc : Int32) (h0 : Heap) (n0 : Nat) (Z0 : n0 ≤ h0.size) (O0 : Old Z n0 h0) (SCS : Sta Z Z.heap "java/lang/String" "COMPACT_STRINGS" "Z" (.int zc)) (hzc : ¬ zc = 0) (C : Fld Z h0 so "java/lang/String" "coder" "B" (.int (0 : Int32))) :
    MetFree l (⟨"java/lang/String", "coder", "()B"⟩ : MethodName) (head1 (Jvm.Cond.code (⟨"java/lang/String", "coder", "()B"⟩ : MethodName) jdk_42_method_152_code 1 (some .byte) :: ws) ({ frames := 0, cells := 0, slots := 0, locals := 0 } : Room)) (fun A0 U0 => A0 = #[(.ref so)] ∧ Z.Warmed39 U0.vm ∧ U0.heap = h0) (fun _ _ _ _ _ => True) (fun _ U0 o0 U1 => ∃ v0 L0, o0 = .returned v0 ∧ own_Q_coder Z so zc h0 n0 v0 U1.heap L0 ∧ FrameEnd U0 o0 U1 L0 ({ frames := 0, cells := 0, slots := 0, locals := 0 } : Room).cells ({ frames := 0, cells := 0, slots := 0, locals := 0 } : Room).slots) := by
  refine MetFree.of_bodySF (plainFor_of_name own_pn_java_lang_String) hisR ?_
  intro p e s m args below meth c s₁ Bd hml0 hP hK
  obtain ⟨rfl, hZ, hh⟩ := hP
  have hZs := hZ
  have hx := Bd.exec
  have hby := Bd.bytes
  have hml : c.maxLocals = 1 := hml0
  have hown : s.vm.findClass "java/lang/String" = some m.cls := findClass_of_methodNamed Bd.named
  have hnm := (name_of_methodNamed Bd.named Bd.method).1
  have X0 : Stand p l e ({ frames := 0, cells := 0, slots := 0, locals := 0 } : Room) s m #[(.ref so)] below meth c s₁ [] 0 0 := Stand.of_body Bd
  have e0 : s₁.heap = h0 := by rw [← hh, Bd.state]; rfl
  have N0 := Fr.nil n0
  refine OwnFin.entry (own_ef_coder m so) (fun P' hP' => ?_)
  obtain ⟨T1, X1, e1, st1⟩ := getS2 X0 hx hZ hown (host := "") (Or.inl (hw _ (List.mem_of_getElem? (i := 18) rfl))) Via.refl e0 (own_staK SCS O0) (g := (mkF m 0 #[.val (.ref so)] [])) rfl (hb hby own_d21_0)
  refine OwnFin.adv (B := T1.setTop (mkF m 3 #[.val (.ref so)] [(.int zc)])) (fun _ k => st1 _ k) ?_
  have hc3_2 : ¬ (zc = (0 : Int32)) := hzc
  refine OwnFin.adv (B := T1.setTop (mkF m 6 #[.val (.ref so)] [])) (fun _ k => XS.ifNo X1.here hx rfl (hb hby own_d21_3) rfl ((if0 _ _).trans (feq hc3_2).1) k) ?_
  refine OwnFin.adv (B := T1.setTop (mkF m 7 #[.val (.ref so)] [(.ref so)])) (fun _ k => XS.aloadN X1.here hx rfl (hb hby own_d21_6) rfl rfl k) ?_
  obtain ⟨T2, X2, e2, st2⟩ := getF X1 hx hZ hown (host := "") (Or.inl (hw _ (List.mem_of_getElem? (i := 30) rfl))) Via.refl e1 C (g := (mkF m 7 #[.val (.ref so)] [(.ref so)])) rfl rfl (hb hby own_d21_7)
  refine OwnFin.adv (B := T2.setTop (mkF m 10 #[.val (.ref so)] [(.int (0 : Int32))])) (fun _ k => st2 _ k) ?_
  refine OwnFin.adv (B := T2.setTop (mkF m 14 #[.val (.ref so)] [(.int (0 : Int32))])) (fun _ k => XS.goto X2.here hx rfl (pc0 := 10) (pc' := 14) rfl (hb hby own_d21_10) (by decide) (by decide) k) ?_
  obtain ⟨fs, hr, hrun, hended, hW, hsame⟩ := X2.leave (v := some (.int (0 : Int32))) (fun h => by rw [Bd.returns] at h; cases h)
  refine OwnFin.leaf hP' ⟨_, _, retN X2 hx (t := .byte) Bd.returns (by simp) (hb hby own_d21_14) hr, hrun, hended, _, _, rfl, ?_, ⟨_, rfl⟩, hW, hsame.mono (by decide) (by decide)⟩
  exact ⟨rfl, N0, e2⟩
theorem own_d24_0 : decode jdk_68_method_71_code 0 = .ok (.getstatic 18, 3) := by decide +kernel
theorem own_d24_3 : decode jdk_68_method_71_code 3 = .ok (.ifCond .eq 18, 3) := by decide +kernel
theorem own_d24_6 : decode jdk_68_method_71_code 6 = .ok (.aload_n 0, 1) := by decide +kernel
theorem own_d24_7 : decode jdk_68_method_71_code 7 = .ok (.getfield 22, 3) := by decide +kernel
theorem own_d24_10 : decode jdk_68_method_71_code 10 = .ok (.aload_n 1, 1) := by decide +kernel
theorem own_pd_x28x29B : parseMethodDescriptor "()B" = some ⟨[], some .byte⟩ := by decide +kernel
theorem own_d24_11 : decode jdk_68_method_71_code 11 = .ok (.invokevirtual 40, 3) := by decide +kernel
theorem own_d24_14 : decode jdk_68_method_71_code 14 = .ok (.if_icmp .eq 7, 3) := by decide +kernel
theorem own_d24_21 : decode jdk_68_method_71_code 21 = .ok (.return_, 1) := by decide +kernel
theorem own_ef_inflate (m : MethodId) (x0 : Addr) (x1 : Addr) : entryFrame m #[(.ref x0), (.ref x1)] 2 = mkF m 0 #[.val (.ref x0), .val (.ref x1)] [] := by first | (simp [entryFrame, mkF, argsToLocals, Value.category]; done) | rfl
def own_Q_inflate (Z : State) (ob so : Addr) (zc : Int32) (lim : Nat) (cs : List Int32) (h0 : Heap) (n0 : Nat) (v : Option Value) (h : Heap) (L : List Loc) : Prop := v = none ∧ Fr n0 L ∧ h = h0
set_option maxRecDepth 65536 in
set_option maxHeartbeats 40000000 in
theorem own_inflate (l : Launch) (Z : State) (a0 : Array Value) (hw : ∀ d ∈ tables_1, d.before a0 Z = true) (ws : List Jvm.Cond) (ob so : Addr) (zc : Int32) (lim : Nat) (cs : List Int32) (h0 : Heap) (n0 : Nat) (Z0 : n0 ≤ h0.size) (O0 : Old Z n0 h0) (SCS : Sta Z Z.heap "java/lang/String" "COMPACT_STRINGS" "Z" (.int zc)) (hzc : ¬ zc = 0) (Fc : Fld Z h0 ob "java/lang/AbstractStringBuilder" "coder" "B" (.int (0 : Int32))) (Fs : OwnS Z h0 lim so cs) :
    MetFree l (⟨"java/lang/AbstractStringBuilder", "inflateIfNeededFor", "(Ljava/lang/String;)V"⟩ : MethodName) (head1 (Jvm.Cond.code (⟨"java/lang/AbstractStringBuilder", "inflateIfNeededFor", "(Ljava/lang/String;)V"⟩ : MethodName) jdk_68_method_71_code 2 none :: ws) ({ frames := 1, cells := 0, slots := 0, locals := 13 } : Room)) (fun A0 U0 => A0 = #[(.ref ob), (.ref so)] ∧ Z.Warmed39 U0.vm ∧ U0.heap = h0) (fun _ _ _ _ _ => True) (fun _ U0 o0 U1 => ∃ v0 L0, o0 = .returned v0 ∧ own_Q_inflate Z ob so zc lim cs h0 n0 v0 U1.heap L0 ∧ FrameEnd U0 o0 U1 L0 ({ frames := 1, cells := 0, slots := 0, locals := 13 } : Room).cells ({ frames := 1, cells := 0, slots := 0, locals := 13 } : Room).slots) := by
  refine MetFree.of_bodySF (plainFor_of_name own_pn_java_lang_AbstractStringBuilder) hisR ?_
  intro p e s m args below meth c s₁ Bd hml0 hP hK
  obtain ⟨rfl, hZ, hh⟩ := hP
  have hZs := hZ
  have hx := Bd.exec
  have hby := Bd.bytes
  have hml : c.maxLocals = 2 := hml0
  have hown : s.vm.findClass "java/lang/AbstractStringBuilder" = some m.cls := findClass_of_methodNamed Bd.named
  have hnm := (name_of_methodNamed Bd.named Bd.method).1
  have X0 : Stand p l e ({ frames := 1, cells := 0, slots := 0, locals := 13 } : Room) s m #[(.ref ob), (.ref so)] below meth c s₁ [] 0 0 := Stand.of_body Bd
  have e0 : s₁.heap = h0 := by rw [← hh, Bd.state]; rfl
  have N0 := Fr.nil n0
  refine OwnFin.entry (own_ef_inflate m ob so) (fun P' hP' => ?_)
  obtain ⟨ts1, ks1, Es1, Vs1, Cs1, As1, lx1, lt1, hp1, l21⟩ := id Fs
  have lx1 := own_lt lx1
  have lt1 := own_lt lt1
  have ltx1 := own_lt Es1.lt
  have ltt1 := own_lt As1.lt
  obtain ⟨T2, X2, e2, st2⟩ := getS2 X0 hx hZ hown (host := "") (Or.inl (hw _ (List.mem_of_getElem? (i := 106) rfl))) Via.refl e0 (own_staK SCS O0) (g := (mkF m 0 #[.val (.ref ob), .val (.ref so)] [])) rfl (hb hby own_d24_0)
  refine OwnFin.adv (B := T2.setTop (mkF m 3 #[.val (.ref ob), .val (.ref so)] [(.int zc)])) (fun _ k => st2 _ k) ?_
  have hc3_2 : ¬ (zc = (0 : Int32)) := hzc
  refine OwnFin.adv (B := T2.setTop (mkF m 6 #[.val (.ref ob), .val (.ref so)] [])) (fun _ k => XS.ifNo X2.here hx rfl (hb hby own_d24_3) rfl ((if0 _ _).trans (feq hc3_2).1) k) ?_
  refine OwnFin.adv (B := T2.setTop (mkF m 7 #[.val (.ref ob), .val (.ref so)] [(.ref ob)])) (fun _ k => XS.aloadN X2.here hx rfl (hb hby own_d24_6) rfl rfl k) ?_
  obtain ⟨T3, X3, e3, st3⟩ := getF X2 hx hZ hown (host := "") (Or.inl (hw _ (List.mem_of_getElem? (i := 109) rfl))) Via.refl e2 Fc (g := (mkF m 7 #[.val (.ref ob), .val (.ref so)] [(.ref ob)])) rfl rfl (hb hby own_d24_7)
  refine OwnFin.adv (B := T3.setTop (mkF m 10 #[.val (.ref ob), .val (.ref so)] [(.int (0 : Int32))])) (fun _ k => st3 _ k) ?_
  refine OwnFin.adv (B := T3.setTop (mkF m 11 #[.val (.ref ob), .val (.ref so)] [(.ref so), (.int (0 : Int32))])) (fun _ k => XS.aloadN X3.here hx rfl (hb hby own_d24_10) rfl rfl k) ?_
  obtain ⟨cq4, kq4, q4a, q4b, q4c⟩ := isOf hZ e3 Es1
  obtain ⟨_, _, ⟨T4, L4, k4, n4⟩, -, X4, ⟨Lc4, hQ4, l4, y4, z4⟩, st4⟩ := X3.virtualBack hx (y := (⟨"java/lang/String", "coder", "()B"⟩ : MethodName)) (z := (⟨"java/lang/String", "coder", "()B"⟩ : MethodName)) hown (mvT hZ (hw _ (List.mem_of_getElem? (i := 149) rfl))) (mvT hZ (hw _ (List.mem_of_getElem? (i := 128) rfl))) (notFace_of_selects (args := #[]) (mvT hZ (hw _ (List.mem_of_getElem? (i := 130) rfl)))) (mvT hZ (hw _ (List.mem_of_getElem? (i := 130) rfl))) (mvT hZ (hw _ (List.mem_of_getElem? (i := 129) rfl))) (by decide) (backOf (W := 1) (own_coder l Z a0 hw [] so zc h0 n0 (by omega) O0 SCS hzc Cs1) hZ (hw _ (List.mem_of_getElem? (i := 131) rfl)) (hw _ (List.mem_of_getElem? (i := 7) rfl)) (by decide) (by decide)) q4a q4c (g := (mkF m 11 #[.val (.ref ob), .val (.ref so)] [(.ref so), (.int (0 : Int32))])) rfl (by rw [hml]; rfl) (Steps.refl _) (argsL := []) (rest := [(.int (0 : Int32))]) (lenOf own_pd_x28x29B rfl) rfl (by show 2 * 0 + _ ≤ _; exact Nat.le_of_eq rfl) (hb hby own_d24_11) (fun _ _ => ⟨rfl, e3, (by decide : 0 + 0 ≤ _), (by decide : 0 + 0 ≤ _)⟩)
  dsimp only [Pt.U, Pt.locs, Pt.cells, Pt.slots] at X4 l4 y4 z4 st4 hQ4
  subst l4 y4 z4
  obtain ⟨rfl, N4q, eh4⟩ := hQ4
  have N4 := Fr.app N0 N4q
  refine OwnFin.adv (B := T4.setTop (mkF m 14 #[.val (.ref ob), .val (.ref so)] [(.int (0 : Int32)), (.int (0 : Int32))])) (fun _ k => st4.trans k) ?_
  have hc14_7 : (0 : Int32) = (0 : Int32) := rfl
  refine OwnFin.adv (B := T4.setTop (mkF m 21 #[.val (.ref ob), .val (.ref so)] [])) (fun _ k => XS.icmpYes X4.here hx rfl (pc0 := 14) (pc' := 21) rfl (hb hby own_d24_14) rfl (teq hc14_7).1 (by decide) (by decide) k) ?_
  obtain ⟨fs, hr, hrun, hended, hW, hsame⟩ := X4.leave (v := none) (fun _ => rfl)
  refine OwnFin.leaf hP' ⟨_, _, X4.returnOut hx Bd.returns (hb hby own_d24_21) hr, hrun, hended, _, _, rfl, ?_, ⟨_, rfl⟩, hW, hsame.mono (by decide) (by decide)⟩
  exact ⟨rfl, N4, eh4⟩
theorem own_d25_0 : decode jdk_42_method_147_code 0 = .ok (.aload_n 0, 1) := by decide +kernel
theorem own_d25_1 : decode jdk_42_method_147_code 1 = .ok (.invokevirtual 335, 3) := by decide +kernel
theorem own_d25_4 : decode jdk_42_method_147_code 4 = .ok (.iload_n 3, 1) := by decide +kernel
theorem own_d25_5 : decode jdk_42_method_147_code 5 = .ok (.if_icmp .ne 23, 3) := by decide +kernel
theorem own_d25_8 : decode jdk_42_method_147_code 8 = .ok (.aload_n 0, 1) := by decide +kernel
theorem own_d25_9 : decode jdk_42_method_147_code 9 = .ok (.getfield 9, 3) := by decide +kernel
theorem own_d25_12 : decode jdk_42_method_147_code 12 = .ok (.iconst 0, 1) := by decide +kernel
theorem own_d25_13 : decode jdk_42_method_147_code 13 = .ok (.aload_n 1, 1) := by decide +kernel
theorem own_d25_14 : decode jdk_42_method_147_code 14 = .ok (.iload_n 2, 1) := by decide +kernel
theorem own_d25_15 : decode jdk_42_method_147_code 15 = .ok (.iload_n 3, 1) := by decide +kernel
theorem own_d25_16 : decode jdk_42_method_147_code 16 = .ok (.ishl, 1) := by decide +kernel
theorem own_d25_17 : decode jdk_42_method_147_code 17 = .ok (.aload_n 0, 1) := by decide +kernel
theorem own_d25_18 : decode jdk_42_method_147_code 18 = .ok (.getfield 9, 3) := by decide +kernel
theorem own_d25_21 : decode jdk_42_method_147_code 21 = .ok (.arraylength, 1) := by decide +kernel
theorem own_d25_22 : decode jdk_42_method_147_code 22 = .ok (.invokestatic 212, 3) := by decide +kernel
theorem own_d25_25 : decode jdk_42_method_147_code 25 = .ok (.goto 18, 3) := by decide +kernel
theorem own_d25_43 : decode jdk_42_method_147_code 43 = .ok (.return_, 1) := by decide +kernel
theorem own_ef_getB (m : MethodId) (x0 : Addr) (x1 : Addr) (x2 : Int32) (x3 : Int32) : entryFrame m #[(.ref x0), (.ref x1), (.int x2), (.int x3)] 4 = mkF m 0 #[.val (.ref x0), .val (.ref x1), .val (.int x2), .val (.int x3)] [] := by first | (simp [entryFrame, mkF, argsToLocals, Value.category]; done) | rfl
def own_Q_getB (Z : State) (so da : Addr) (kd : ClassId) (vd : List Value) (zc : Int32) (cap k0 lim : Nat) (cs : List Int32) (h0 : Heap) (n0 : Nat) (v : Option Value) (h : Heap) (L : List Loc) : Prop := v = none ∧ Fr n0 L ∧ Keep h0 h [da] ∧ Arv Z h da kd .byte (Int32.ofNat cap) (vd.take k0 ++ ((cs.map fun c => c.toInt8.toInt32).map Value.int) ++ vd.drop (k0 + cs.length)) (.int (0 : Int32))
set_option maxRecDepth 65536 in
set_option maxHeartbeats 40000000 in
theorem own_getB (l : Launch) (Z : State) (a0 : Array Value) (hw : ∀ d ∈ tables_1, d.before a0 Z = true) (ws : List Jvm.Cond) (so da : Addr) (kd : ClassId) (vd : List Value) (zc : Int32) (cap k0 lim : Nat) (cs : List Int32) (h0 : Heap) (n0 : Nat) (Z0 : n0 ≤ h0.size) (O0 : Old Z n0 h0) (SCS : Sta Z Z.heap "java/lang/String" "COMPACT_STRINGS" "Z" (.int zc)) (hzc : ¬ zc = 0) (Fs : OwnS Z h0 lim so cs) (Va : Arv Z h0 da kd .byte (Int32.ofNat cap) vd (.int (0 : Int32))) (hcap : cap ≤ 4000) (hvd : vd.length = cap) (hfit : k0 + cs.length ≤ cap) (g_da : n0 ≤ da) :
    MetFree l (⟨"java/lang/String", "getBytes", "([BIB)V"⟩ : MethodName) (head1 (Jvm.Cond.code (⟨"java/lang/String", "getBytes", "([BIB)V"⟩ : MethodName) jdk_42_method_147_code 4 none :: ws) ({ frames := 1, cells := 0, slots := 0, locals := 18 } : Room)) (fun A0 U0 => A0 = #[(.ref so), (.ref da), (.int (Int32.ofNat k0)), (.int (0 : Int32))] ∧ Z.Warmed39 U0.vm ∧ U0.heap = h0) (fun _ _ _ _ _ => True) (fun _ U0 o0 U1 => ∃ v0 L0, o0 = .returned v0 ∧ own_Q_getB Z so da kd vd zc cap k0 lim cs h0 n0 v0 U1.heap L0 ∧ FrameEnd U0 o0 U1 L0 ({ frames := 1, cells := 0, slots := 0, locals := 18 } : Room).cells ({ frames := 1, cells := 0, slots := 0, locals := 18 } : Room).slots) := by
  refine MetFree.of_bodySF (plainFor_of_name own_pn_java_lang_String) hisR ?_
  intro p e s m args below meth c s₁ Bd hml0 hP hK
  obtain ⟨rfl, hZ, hh⟩ := hP
  have hZs := hZ
  have hx := Bd.exec
  have hby := Bd.bytes
  have hml : c.maxLocals = 4 := hml0
  have hown : s.vm.findClass "java/lang/String" = some m.cls := findClass_of_methodNamed Bd.named
  have hnm := (name_of_methodNamed Bd.named Bd.method).1
  have X0 : Stand p l e ({ frames := 1, cells := 0, slots := 0, locals := 18 } : Room) s m #[(.ref so), (.ref da), (.int (Int32.ofNat k0)), (.int (0 : Int32))] below meth c s₁ [] 0 0 := Stand.of_body Bd
  have e0 : s₁.heap = h0 := by rw [← hh, Bd.state]; rfl
  have N0 := Fr.nil n0
  refine OwnFin.entry (own_ef_getB m so da (Int32.ofNat k0) (0 : Int32)) (fun P' hP' => ?_)
  have l4 : cs.length ≤ 4000 := by obtain ⟨_, _, _, _, _, _, _, _, _, q⟩ := Fs; exact q
  obtain ⟨ts1, ks1, Es1, Vs1, Cs1, As1, lx1, lt1, hp1, l21⟩ := id Fs
  have lx1 := own_lt lx1
  have lt1 := own_lt lt1
  have ltx1 := own_lt Es1.lt
  have ltt1 := own_lt As1.lt
  have lt_da := own_lt Va.lt
  refine OwnFin.adv (B := s₁.setTop (mkF m 1 #[.val (.ref so), .val (.ref da), .val (.int (Int32.ofNat k0)), .val (.int (0 : Int32))] [(.ref so)])) (fun _ k => XS.aloadN X0.here hx rfl (hb hby own_d25_0) rfl rfl k) ?_
  obtain ⟨cq2, kq2, q2a, q2b, q2c⟩ := isOf hZ e0 Es1
  obtain ⟨_, _, ⟨T2, L2, k2, n2⟩, -, X2, ⟨Lc2, hQ2, l2, y2, z2⟩, st2⟩ := X0.virtualBack hx (y := (⟨"java/lang/String", "coder", "()B"⟩ : MethodName)) (z := (⟨"java/lang/String", "coder", "()B"⟩ : MethodName)) hown (mvT hZ (hw _ (List.mem_of_getElem? (i := 127) rfl))) (mvT hZ (hw _ (List.mem_of_getElem? (i := 128) rfl))) (notFace_of_selects (args := #[]) (mvT hZ (hw _ (List.mem_of_getElem? (i := 130) rfl)))) (mvT hZ (hw _ (List.mem_of_getElem? (i := 130) rfl))) (mvT hZ (hw _ (List.mem_of_getElem? (i := 129) rfl))) (by decide) (backOf (W := 0) (own_coder l Z a0 hw [] so zc h0 n0 (by omega) O0 SCS hzc Cs1) hZ (hw _ (List.mem_of_getElem? (i := 131) rfl)) (hw _ (List.mem_of_getElem? (i := 7) rfl)) (by decide) (by decide)) q2a q2c (g := (mkF m 1 #[.val (.ref so), .val (.ref da), .val (.int (Int32.ofNat k0)), .val (.int (0 : Int32))] [(.ref so)])) rfl (by rw [hml]; rfl) (Steps.refl _) (argsL := []) (rest := []) (lenOf own_pd_x28x29B rfl) rfl (by show 2 * 0 + _ ≤ _; exact Nat.le_of_eq rfl) (hb hby own_d25_1) (fun _ _ => ⟨rfl, e0, (by decide : 0 + 0 ≤ _), (by decide : 0 + 0 ≤ _)⟩)
  dsimp only [Pt.U, Pt.locs, Pt.cells, Pt.slots] at X2 l2 y2 z2 st2 hQ2
  subst l2 y2 z2
  obtain ⟨rfl, N2q, eh2⟩ := hQ2
  have N2 := Fr.app N0 N2q
  refine OwnFin.adv (B := T2.setTop (mkF m 4 #[.val (.ref so), .val (.ref da), .val (.int (Int32.ofNat k0)), .val (.int (0 : Int32))] [(.int (0 : Int32))])) (fun _ k => st2.trans k) ?_
  refine OwnFin.adv (B := T2.setTop (mkF m 5 #[.val (.ref so), .val (.ref da), .val (.int (Int32.ofNat k0)), .val (.int (0 : Int32))] [(.int (0 : Int32)), (.int (0 : Int32))])) (fun _ k => XS.iloadN X2.here hx rfl (hb hby own_d25_4) rfl k) ?_
  have hc5_4 : (0 : Int32) = (0 : Int32) := rfl
  refine OwnFin.adv (B := T2.setTop (mkF m 8 #[.val (.ref so), .val (.ref da), .val (.int (Int32.ofNat k0)), .val (.int (0 : Int32))] [])) (fun _ k => XS.icmpNo X2.here hx rfl (hb hby own_d25_5) rfl (teq hc5_4).2 k) ?_
  refine OwnFin.adv (B := T2.setTop (mkF m 9 #[.val (.ref so), .val (.ref da), .val (.int (Int32.ofNat k0)), .val (.int (0 : Int32))] [(.ref so)])) (fun _ k => XS.aloadN X2.here hx rfl (hb hby own_d25_8) rfl rfl k) ?_
  obtain ⟨T3, X3, e3, st3⟩ := getF X2 hx hZ hown (host := "") (Or.inl (hw _ (List.mem_of_getElem? (i := 32) rfl))) Via.refl eh2 Vs1 (g := (mkF m 9 #[.val (.ref so), .val (.ref da), .val (.int (Int32.ofNat k0)), .val (.int (0 : Int32))] [(.ref so)])) rfl rfl (hb hby own_d25_9)
  refine OwnFin.adv (B := T3.setTop (mkF m 12 #[.val (.ref so), .val (.ref da), .val (.int (Int32.ofNat k0)), .val (.int (0 : Int32))] [(.ref ts1)])) (fun _ k => st3 _ k) ?_
  refine OwnFin.adv (B := T3.setTop (mkF m 13 #[.val (.ref so), .val (.ref da), .val (.int (Int32.ofNat k0)), .val (.int (0 : Int32))] [(.int (0 : Int32)), (.ref ts1)])) (fun _ k => XS.iconst X3.here hx rfl (hb hby own_d25_12) k) ?_
  refine OwnFin.adv (B := T3.setTop (mkF m 14 #[.val (.ref so), .val (.ref da), .val (.int (Int32.ofNat k0)), .val (.int (0 : Int32))] [(.ref da), (.int (0 : Int32)), (.ref ts1)])) (fun _ k => XS.aloadN X3.here hx rfl (hb hby own_d25_13) rfl rfl k) ?_
  refine OwnFin.adv (B := T3.setTop (mkF m 15 #[.val (.ref so), .val (.ref da), .val (.int (Int32.ofNat k0)), .val (.int (0 : Int32))] [(.int (Int32.ofNat k0)), (.ref da), (.int (0 : Int32)), (.ref ts1)])) (fun _ k => XS.iloadN X3.here hx rfl (hb hby own_d25_14) rfl k) ?_
  refine OwnFin.adv (B := T3.setTop (mkF m 16 #[.val (.ref so), .val (.ref da), .val (.int (Int32.ofNat k0)), .val (.int (0 : Int32))] [(.int (0 : Int32)), (.int (Int32.ofNat k0)), (.ref da), (.int (0 : Int32)), (.ref ts1)])) (fun _ k => XS.iloadN X3.here hx rfl (hb hby own_d25_15) rfl k) ?_
  refine OwnFin.adv (B := T3.setTop (mkF m 17 #[.val (.ref so), .val (.ref da), .val (.int (Int32.ofNat k0)), .val (.int (0 : Int32))] [(.int ((Int32.ofNat k0) <<< ((0 : Int32) &&& 31))), (.ref da), (.int (0 : Int32)), (.ref ts1)])) (fun _ k => XS.ishl X3.here hx rfl (hb hby own_d25_16) rfl k) ?_
  rw [show (((Int32.ofNat k0) <<< ((0 : Int32) &&& 31)) : Int32) = (Int32.ofNat k0) from own_shl0 _]
  refine OwnFin.adv (B := T3.setTop (mkF m 18 #[.val (.ref so), .val (.ref da), .val (.int (Int32.ofNat k0)), .val (.int (0 : Int32))] [(.ref so), (.int (Int32.ofNat k0)), (.ref da), (.int (0 : Int32)), (.ref ts1)])) (fun _ k => XS.aloadN X3.here hx rfl (hb hby own_d25_17) rfl rfl k) ?_
  obtain ⟨T4, X4, e4, st4⟩ := getF X3 hx hZ hown (host := "") (Or.inl (hw _ (List.mem_of_getElem? (i := 32) rfl))) Via.refl e3 Vs1 (g := (mkF m 18 #[.val (.ref so), .val (.ref da), .val (.int (Int32.ofNat k0)), .val (.int (0 : Int32))] [(.ref so), (.int (Int32.ofNat k0)), (.ref da), (.int (0 : Int32)), (.ref ts1)])) rfl rfl (hb hby own_d25_18)
  refine OwnFin.adv (B := T4.setTop (mkF m 21 #[.val (.ref so), .val (.ref da), .val (.int (Int32.ofNat k0)), .val (.int (0 : Int32))] [(.ref ts1), (.int (Int32.ofNat k0)), (.ref da), (.int (0 : Int32)), (.ref ts1)])) (fun _ k => st4 _ k) ?_
  obtain ⟨cl5, Ar5, ck5, S5, M5, H5, G5⟩ := id As1
  refine OwnFin.adv (B := T4.setTop (mkF m 22 #[.val (.ref so), .val (.ref da), .val (.int (Int32.ofNat k0)), .val (.int (0 : Int32))] [(.int (Int32.ofNat (cs).length)), (.int (Int32.ofNat k0)), (.ref da), (.int (0 : Int32)), (.ref ts1)])) (fun _ k => X4.arraylength hx (by rw [e4]; exact Ar5.1) (State.isArrayOf_alike hZ.alike Ar5.2.1) (g := (mkF m 21 #[.val (.ref so), .val (.ref da), .val (.int (Int32.ofNat k0)), .val (.int (0 : Int32))] [(.ref ts1), (.int (Int32.ofNat k0)), (.ref da), (.int (0 : Int32)), (.ref ts1)])) rfl rfl (hb hby own_d25_21) _ (by rw [len_of S5 M5]; exact k)) ?_
  obtain ⟨T6, h6, L6, X6, e6, N6, K6, V6, st6⟩ := cpA X4 hx hZ hown (hw _ (List.mem_of_getElem? (i := 155) rfl)) (hw _ (List.mem_of_getElem? (i := 158) rfl)) (hw _ (List.mem_of_getElem? (i := 156) rfl)) (hw _ (List.mem_of_getElem? (i := 157) rfl)) e4 As1 Va (Or.inl ⟨rfl, rfl⟩) (by decide) (own_nn (by omega)) (own_nn (by omega)) (by rw [own_cl (by omega)]; exact Nat.le_of_eq (Nat.zero_add _)) (by rw [own_cl (by omega), own_cl (by omega), own_cl (by omega)]; omega) (us := ((cs.map fun c => c.toInt8.toInt32).map Value.int)) (by rw [own_cl (by omega)]; exact own_whole _ _ _ (by simp)) (by rw [own_cl (by omega), own_cl (by omega)]; omega) N2 (by omega) (g := (mkF m 22 #[.val (.ref so), .val (.ref da), .val (.int (Int32.ofNat k0)), .val (.int (0 : Int32))] [(.int (Int32.ofNat (cs).length)), (.int (Int32.ofNat k0)), (.ref da), (.int (0 : Int32)), (.ref ts1)])) rfl (by rw [hml]; rfl) rfl (hb hby own_d25_22) (by decide) (W := 0) (by show 2 * 0 + _ ≤ _; exact Nat.le_of_eq rfl) (by decide)
  have sz7 : h0.size ≤ h6.size := K6.1
  have V6n : Arv Z h6 da kd .byte (Int32.ofNat cap) (vd.take k0 ++ ((cs.map fun c => c.toInt8.toInt32).map Value.int) ++ vd.drop (k0 + cs.length)) (.int (0 : Int32)) := by
    have q := V6
    rw [show _ ++ _ ++ _ = (vd.take k0 ++ ((cs.map fun c => c.toInt8.toInt32).map Value.int) ++ vd.drop (k0 + cs.length)) from by rw [own_cl (by omega), own_cl (by omega)]] at q
    exact q
  refine OwnFin.adv (B := T6.setTop (mkF m 25 #[.val (.ref so), .val (.ref da), .val (.int (Int32.ofNat k0)), .val (.int (0 : Int32))] [])) (fun _ k => st6 _ k) ?_
  refine OwnFin.adv (B := T6.setTop (mkF m 43 #[.val (.ref so), .val (.ref da), .val (.int (Int32.ofNat k0)), .val (.int (0 : Int32))] [])) (fun _ k => XS.goto X6.here hx rfl (pc0 := 25) (pc' := 43) rfl (hb hby own_d25_25) (by decide) (by decide) k) ?_
  obtain ⟨fs, hr, hrun, hended, hW, hsame⟩ := X6.leave (v := none) (fun _ => rfl)
  refine OwnFin.leaf hP' ⟨_, _, X6.returnOut hx Bd.returns (hb hby own_d25_43) hr, hrun, hended, _, _, rfl, ?_, ⟨_, rfl⟩, hW, hsame.mono (by decide) (by decide)⟩
  rw [show (T6.setFrames fs).heap = h6 from e6]
  exact ⟨rfl, N6, ((Keep.refl h0 [da]).trans K6 (allS (Or.inl (List.mem_of_getElem? (i := 0) rfl)) all0)), V6n⟩
theorem own_d23_0 : decode jdk_68_method_73_code 0 = .ok (.aload_n 0, 1) := by decide +kernel
theorem own_d23_1 : decode jdk_68_method_73_code 1 = .ok (.aload_n 2, 1) := by decide +kernel
theorem own_pd_x28Ljavax2flangx2fStringx3bx29V : parseMethodDescriptor "(Ljava/lang/String;)V" = some ⟨[(.object "java/lang/String")], none⟩ := by decide +kernel
theorem own_d23_2 : decode jdk_68_method_73_code 2 = .ok (.invokevirtual 397, 3) := by decide +kernel
theorem own_d23_5 : decode jdk_68_method_73_code 5 = .ok (.aload_n 2, 1) := by decide +kernel
theorem own_d23_6 : decode jdk_68_method_73_code 6 = .ok (.aload_n 0, 1) := by decide +kernel
theorem own_d23_7 : decode jdk_68_method_73_code 7 = .ok (.getfield 15, 3) := by decide +kernel
theorem own_d23_10 : decode jdk_68_method_73_code 10 = .ok (.iload_n 1, 1) := by decide +kernel
theorem own_d23_11 : decode jdk_68_method_73_code 11 = .ok (.aload_n 0, 1) := by decide +kernel
theorem own_d23_12 : decode jdk_68_method_73_code 12 = .ok (.getfield 22, 3) := by decide +kernel
theorem own_pd_x28x5bBIBx29V : parseMethodDescriptor "([BIB)V" = some ⟨[(.array .byte), .int, .byte], none⟩ := by decide +kernel
theorem own_d23_15 : decode jdk_68_method_73_code 15 = .ok (.invokevirtual 399, 3) := by decide +kernel
theorem own_d23_18 : decode jdk_68_method_73_code 18 = .ok (.return_, 1) := by decide +kernel
theorem own_ef_putS (m : MethodId) (x0 : Addr) (x1 : Int32) (x2 : Addr) : entryFrame m #[(.ref x0), (.int x1), (.ref x2)] 3 = mkF m 0 #[.val (.ref x0), .val (.int x1), .val (.ref x2)] [] := by first | (simp [entryFrame, mkF, argsToLocals, Value.category]; done) | rfl
def own_Q_putS (Z : State) (ob : Addr) (so da : Addr) (kd : ClassId) (vd : List Value) (zc : Int32) (cap k0 lim : Nat) (cs : List Int32) (h0 : Heap) (n0 : Nat) (v : Option Value) (h : Heap) (L : List Loc) : Prop := v = none ∧ Fr n0 L ∧ Keep h0 h [da] ∧ Arv Z h da kd .byte (Int32.ofNat cap) (vd.take k0 ++ ((cs.map fun c => c.toInt8.toInt32).map Value.int) ++ vd.drop (k0 + cs.length)) (.int (0 : Int32))
set_option maxRecDepth 65536 in
set_option maxHeartbeats 40000000 in
theorem own_putS (l : Launch) (Z : State) (a0 : Array Value) (hw : ∀ d ∈ tables_1, d.before a0 Z = true) (ws : List Jvm.Cond) (ob : Addr) (so da : Addr) (kd : ClassId) (vd : List Value) (zc : Int32) (cap k0 lim : Nat) (cs : List Int32) (h0 : Heap) (n0 : Nat) (Z0 : n0 ≤ h0.size) (O0 : Old Z n0 h0) (SCS : Sta Z Z.heap "java/lang/String" "COMPACT_STRINGS" "Z" (.int zc)) (hzc : ¬ zc = 0) (E : Exa Z h0 ob "java/lang/StringBuilder") (Fv : Fld Z h0 ob "java/lang/AbstractStringBuilder" "value" "[B" (.ref da)) (Fc : Fld Z h0 ob "java/lang/AbstractStringBuilder" "coder" "B" (.int (0 : Int32))) (Fs : OwnS Z h0 lim so cs) (Va : Arv Z h0 da kd .byte (Int32.ofNat cap) vd (.int (0 : Int32))) (hcap : cap ≤ 4000) (hvd : vd.length = cap) (hfit : k0 + cs.length ≤ cap) (g_da : n0 ≤ da) :
    MetFree l (⟨"java/lang/AbstractStringBuilder", "putStringAt", "(ILjava/lang/String;)V"⟩ : MethodName) (head1 (Jvm.Cond.code (⟨"java/lang/AbstractStringBuilder", "putStringAt", "(ILjava/lang/String;)V"⟩ : MethodName) jdk_68_method_73_code 3 none :: ws) ({ frames := 2, cells := 0, slots := 0, locals := 33 } : Room)) (fun A0 U0 => A0 = #[(.ref ob), (.int (Int32.ofNat k0)), (.ref so)] ∧ Z.Warmed39 U0.vm ∧ U0.heap = h0) (fun _ _ _ _ _ => True) (fun _ U0 o0 U1 => ∃ v0 L0, o0 = .returned v0 ∧ own_Q_putS Z ob so da kd vd zc cap k0 lim cs h0 n0 v0 U1.heap L0 ∧ FrameEnd U0 o0 U1 L0 ({ frames := 2, cells := 0, slots := 0, locals := 33 } : Room).cells ({ frames := 2, cells := 0, slots := 0, locals := 33 } : Room).slots) := by
  refine MetFree.of_bodySF (plainFor_of_name own_pn_java_lang_AbstractStringBuilder) hisR ?_
  intro p e s m args below meth c s₁ Bd hml0 hP hK
  obtain ⟨rfl, hZ, hh⟩ := hP
  have hZs := hZ
  have hx := Bd.exec
  have hby := Bd.bytes
  have hml : c.maxLocals = 3 := hml0
  have hown : s.vm.findClass "java/lang/AbstractStringBuilder" = some m.cls := findClass_of_methodNamed Bd.named
  have hnm := (name_of_methodNamed Bd.named Bd.method).1
  have X0 : Stand p l e ({ frames := 2, cells := 0, slots := 0, locals := 33 } : Room) s m #[(.ref ob), (.int (Int32.ofNat k0)), (.ref so)] below meth c s₁ [] 0 0 := Stand.of_body Bd
  have e0 : s₁.heap = h0 := by rw [← hh, Bd.state]; rfl
  have N0 := Fr.nil n0
  refine OwnFin.entry (own_ef_putS m ob (Int32.ofNat k0) so) (fun P' hP' => ?_)
  have l4 : cs.length ≤ 4000 := by obtain ⟨_, _, _, _, _, _, _, _, _, q⟩ := Fs; exact q
  obtain ⟨ts1, ks1, Es1, Vs1, Cs1, As1, lx1, lt1, hp1, l21⟩ := id Fs
  have lx1 := own_lt lx1
  have lt1 := own_lt lt1
  have ltx1 := own_lt Es1.lt
  have ltt1 := own_lt As1.lt
  have lt_da := own_lt Va.lt
  refine OwnFin.adv (B := s₁.setTop (mkF m 1 #[.val (.ref ob), .val (.int (Int32.ofNat k0)), .val (.ref so)] [(.ref ob)])) (fun _ k => XS.aloadN X0.here hx rfl (hb hby own_d23_0) rfl rfl k) ?_
  refine OwnFin.adv (B := s₁.setTop (mkF m 2 #[.val (.ref ob), .val (.int (Int32.ofNat k0)), .val (.ref so)] [(.ref so), (.ref ob)])) (fun _ k => XS.aloadN X0.here hx rfl (hb hby own_d23_1) rfl rfl k) ?_
  obtain ⟨cq2, kq2, q2a, q2b, q2c⟩ := isOf hZ e0 E
  obtain ⟨_, _, ⟨T2, L2, k2, n2⟩, -, X2, ⟨Lc2, hQ2, l2, y2, z2⟩, st2⟩ := X0.virtualBack hx (y := (⟨"java/lang/AbstractStringBuilder", "inflateIfNeededFor", "(Ljava/lang/String;)V"⟩ : MethodName)) (z := (⟨"java/lang/AbstractStringBuilder", "inflateIfNeededFor", "(Ljava/lang/String;)V"⟩ : MethodName)) hown (mvT hZ (hw _ (List.mem_of_getElem? (i := 144) rfl))) (mvT hZ (own_decl (hw _ (List.mem_of_getElem? (i := 145) rfl)) (hw _ (List.mem_of_getElem? (i := 148) rfl)))) (notFace_of_selects (args := #[]) (mvT hZ (hw _ (List.mem_of_getElem? (i := 147) rfl)))) (mvT hZ (hw _ (List.mem_of_getElem? (i := 147) rfl))) (mvT hZ (hw _ (List.mem_of_getElem? (i := 145) rfl))) (by decide) (backOf (W := 0) (own_inflate l Z a0 hw [] ob so zc lim cs h0 n0 (by omega) O0 SCS hzc Fc Fs) hZ (hw _ (List.mem_of_getElem? (i := 148) rfl)) (hw _ (List.mem_of_getElem? (i := 103) rfl)) (by decide) (by decide)) q2a q2c (g := (mkF m 2 #[.val (.ref ob), .val (.int (Int32.ofNat k0)), .val (.ref so)] [(.ref so), (.ref ob)])) rfl (by rw [hml]; rfl) (Steps.refl _) (argsL := [(.ref so)]) (rest := []) (lenOf own_pd_x28Ljavax2flangx2fStringx3bx29V rfl) rfl (by show 2 * 0 + _ ≤ _; exact Nat.le_of_eq rfl) (hb hby own_d23_2) (fun _ _ => ⟨rfl, e0, (by decide : 0 + 0 ≤ _), (by decide : 0 + 0 ≤ _)⟩)
  dsimp only [Pt.U, Pt.locs, Pt.cells, Pt.slots] at X2 l2 y2 z2 st2 hQ2
  subst l2 y2 z2
  obtain ⟨rfl, N2q, eh2⟩ := hQ2
  have N2 := Fr.app N0 N2q
  refine OwnFin.adv (B := T2.setTop (mkF m 5 #[.val (.ref ob), .val (.int (Int32.ofNat k0)), .val (.ref so)] [])) (fun _ k => st2.trans k) ?_
  refine OwnFin.adv (B := T2.setTop (mkF m 6 #[.val (.ref ob), .val (.int (Int32.ofNat k0)), .val (.ref so)] [(.ref so)])) (fun _ k => XS.aloadN X2.here hx rfl (hb hby own_d23_5) rfl rfl k) ?_
  refine OwnFin.adv (B := T2.setTop (mkF m 7 #[.val (.ref ob), .val (.int (Int32.ofNat k0)), .val (.ref so)] [(.ref ob), (.ref so)])) (fun _ k => XS.aloadN X2.here hx rfl (hb hby own_d23_6) rfl rfl k) ?_
  obtain ⟨T3, X3, e3, st3⟩ := getF X2 hx hZ hown (host := "") (Or.inl (hw _ (List.mem_of_getElem? (i := 107) rfl))) Via.refl eh2 Fv (g := (mkF m 7 #[.val (.ref ob), .val (.int (Int32.ofNat k0)), .val (.ref so)] [(.ref ob), (.ref so)])) rfl rfl (hb hby own_d23_7)
  refine OwnFin.adv (B := T3.setTop (mkF m 10 #[.val (.ref ob), .val (.int (Int32.ofNat k0)), .val (.ref so)] [(.ref da), (.ref so)])) (fun _ k => st3 _ k) ?_
  refine OwnFin.adv (B := T3.setTop (mkF m 11 #[.val (.ref ob), .val (.int (Int32.ofNat k0)), .val (.ref so)] [(.int (Int32.ofNat k0)), (.ref da), (.ref so)])) (fun _ k => XS.iloadN X3.here hx rfl (hb hby own_d23_10) rfl k) ?_
  refine OwnFin.adv (B := T3.setTop (mkF m 12 #[.val (.ref ob), .val (.int (Int32.ofNat k0)), .val (.ref so)] [(.ref ob), (.int (Int32.ofNat k0)), (.ref da), (.ref so)])) (fun _ k => XS.aloadN X3.here hx rfl (hb hby own_d23_11) rfl rfl k) ?_
  obtain ⟨T4, X4, e4, st4⟩ := getF X3 hx hZ hown (host := "") (Or.inl (hw _ (List.mem_of_getElem? (i := 109) rfl))) Via.refl e3 Fc (g := (mkF m 12 #[.val (.ref ob), .val (.int (Int32.ofNat k0)), .val (.ref so)] [(.ref ob), (.int (Int32.ofNat k0)), (.ref da), (.ref so)])) rfl rfl (hb hby own_d23_12)
  refine OwnFin.adv (B := T4.setTop (mkF m 15 #[.val (.ref ob), .val (.int (Int32.ofNat k0)), .val (.ref so)] [(.int (0 : Int32)), (.int (Int32.ofNat k0)), (.ref da), (.ref so)])) (fun _ k => st4 _ k) ?_
  obtain ⟨cq5, kq5, q5a, q5b, q5c⟩ := isOf hZ e4 Es1
  obtain ⟨_, _, ⟨T5, L5, k5, n5⟩, -, X5, ⟨Lc5, hQ5, l5, y5, z5⟩, st5⟩ := X4.virtualBack hx (y := (⟨"java/lang/String", "getBytes", "([BIB)V"⟩ : MethodName)) (z := (⟨"java/lang/String", "getBytes", "([BIB)V"⟩ : MethodName)) hown (mvT hZ (hw _ (List.mem_of_getElem? (i := 150) rfl))) (mvT hZ (hw _ (List.mem_of_getElem? (i := 151) rfl))) (notFace_of_selects (args := #[]) (mvT hZ (hw _ (List.mem_of_getElem? (i := 153) rfl)))) (mvT hZ (hw _ (List.mem_of_getElem? (i := 153) rfl))) (mvT hZ (hw _ (List.mem_of_getElem? (i := 152) rfl))) (by decide) (backOf (W := 0) (own_getB l Z a0 hw [] so da kd vd zc cap k0 lim cs h0 n0 (by omega) O0 SCS hzc Fs Va hcap hvd hfit g_da) hZ (hw _ (List.mem_of_getElem? (i := 154) rfl)) (hw _ (List.mem_of_getElem? (i := 7) rfl)) (by decide) (by decide)) q5a q5c (g := (mkF m 15 #[.val (.ref ob), .val (.int (Int32.ofNat k0)), .val (.ref so)] [(.int (0 : Int32)), (.int (Int32.ofNat k0)), (.ref da), (.ref so)])) rfl (by rw [hml]; rfl) (Steps.refl _) (argsL := [(.ref da), (.int (Int32.ofNat k0)), (.int (0 : Int32))]) (rest := []) (lenOf own_pd_x28x5bBIBx29V rfl) rfl (by show 2 * 0 + _ ≤ _; exact Nat.le_of_eq rfl) (hb hby own_d23_15) (fun _ _ => ⟨rfl, e4, (by decide : 0 + 0 ≤ _), (by decide : 0 + 0 ≤ _)⟩)
  dsimp only [Pt.U, Pt.locs, Pt.cells, Pt.slots] at X5 l5 y5 z5 st5 hQ5
  subst l5 y5 z5
  obtain ⟨rfl, N5q, K5, Va5⟩ := hQ5
  have N5 := Fr.app N2 N5q
  have sz6 : h0.size ≤ T5.heap.size := K5.1
  refine OwnFin.adv (B := T5.setTop (mkF m 18 #[.val (.ref ob), .val (.int (Int32.ofNat k0)), .val (.ref so)] [])) (fun _ k => st5.trans k) ?_
  obtain ⟨fs, hr, hrun, hended, hW, hsame⟩ := X5.leave (v := none) (fun _ => rfl)
  refine OwnFin.leaf hP' ⟨_, _, X5.returnOut hx Bd.returns (hb hby own_d23_18) hr, hrun, hended, _, _, rfl, ?_, ⟨_, rfl⟩, hW, hsame.mono (by decide) (by decide)⟩
  rw [show (T5.setFrames fs).heap = T5.heap from rfl]
  exact ⟨rfl, N5, ((Keep.refl h0 [da]).trans K5 (allS (Or.inl (List.mem_of_getElem? (i := 0) rfl)) all0)), Va5⟩
theorem own_d19_0 : decode jdk_68_method_22_code 0 = .ok (.aload_n 1, 1) := by decide +kernel
theorem own_d19_1 : decode jdk_68_method_22_code 1 = .ok (.ifnonnull 8, 3) := by decide +kernel
theorem own_d19_9 : decode jdk_68_method_22_code 9 = .ok (.aload_n 1, 1) := by decide +kernel
theorem own_pd_x28x29I : parseMethodDescriptor "()I" = some ⟨[], some .int⟩ := by decide +kernel
theorem own_d19_10 : decode jdk_68_method_22_code 10 = .ok (.invokevirtual 32, 3) := by decide +kernel
theorem own_d19_13 : decode jdk_68_method_22_code 13 = .ok (.istore_n 2, 1) := by decide +kernel
theorem own_d19_14 : decode jdk_68_method_22_code 14 = .ok (.aload_n 0, 1) := by decide +kernel
theorem own_d19_15 : decode jdk_68_method_22_code 15 = .ok (.aload_n 0, 1) := by decide +kernel
theorem own_d19_16 : decode jdk_68_method_22_code 16 = .ok (.getfield 79, 3) := by decide +kernel
theorem own_d19_19 : decode jdk_68_method_22_code 19 = .ok (.iload_n 2, 1) := by decide +kernel
theorem own_d19_20 : decode jdk_68_method_22_code 20 = .ok (.iadd, 1) := by decide +kernel
theorem own_d19_21 : decode jdk_68_method_22_code 21 = .ok (.invokevirtual 100, 3) := by decide +kernel
theorem own_d19_24 : decode jdk_68_method_22_code 24 = .ok (.aload_n 0, 1) := by decide +kernel
theorem own_d19_25 : decode jdk_68_method_22_code 25 = .ok (.aload_n 0, 1) := by decide +kernel
theorem own_d19_26 : decode jdk_68_method_22_code 26 = .ok (.getfield 79, 3) := by decide +kernel
theorem own_d19_29 : decode jdk_68_method_22_code 29 = .ok (.aload_n 1, 1) := by decide +kernel
theorem own_pd_x28ILjavax2flangx2fStringx3bx29V : parseMethodDescriptor "(ILjava/lang/String;)V" = some ⟨[.int, (.object "java/lang/String")], none⟩ := by decide +kernel
theorem own_d19_30 : decode jdk_68_method_22_code 30 = .ok (.invokevirtual 208, 3) := by decide +kernel
theorem own_d19_33 : decode jdk_68_method_22_code 33 = .ok (.aload_n 0, 1) := by decide +kernel
theorem own_d19_34 : decode jdk_68_method_22_code 34 = .ok (.dup, 1) := by decide +kernel
theorem own_d19_35 : decode jdk_68_method_22_code 35 = .ok (.getfield 79, 3) := by decide +kernel
theorem own_d19_38 : decode jdk_68_method_22_code 38 = .ok (.iload_n 2, 1) := by decide +kernel
theorem own_d19_39 : decode jdk_68_method_22_code 39 = .ok (.iadd, 1) := by decide +kernel
theorem own_d19_40 : decode jdk_68_method_22_code 40 = .ok (.putfield 79, 3) := by decide +kernel
theorem own_d19_43 : decode jdk_68_method_22_code 43 = .ok (.aload_n 0, 1) := by decide +kernel
theorem own_d19_44 : decode jdk_68_method_22_code 44 = .ok (.areturn, 1) := by decide +kernel
theorem own_ef_asbApp (m : MethodId) (x0 : Addr) (x1 : Addr) : entryFrame m #[(.ref x0), (.ref x1)] 3 = mkF m 0 #[.val (.ref x0), .val (.ref x1), .unset] [] := by first | (simp [entryFrame, mkF, argsToLocals, Value.category]; done) | rfl
def own_Q_asbApp (Z : State) (ob : Addr) (so da : Addr) (kd : ClassId) (vd : List Value) (zc : Int32) (cap k0 lim : Nat) (cs : List Int32) (h0 : Heap) (n0 : Nat) (v : Option Value) (h : Heap) (L : List Loc) : Prop := v = some (.ref ob) ∧ Fr n0 L ∧ Keep h0 h [ob, da] ∧ Fld Z h ob "java/lang/AbstractStringBuilder" "value" "[B" (.ref da) ∧ Fld Z h ob "java/lang/AbstractStringBuilder" "coder" "B" (.int (0 : Int32)) ∧ Fld Z h ob "java/lang/AbstractStringBuilder" "count" "I" (.int (Int32.ofNat (k0 + cs.length))) ∧ Arv Z h da kd .byte (Int32.ofNat cap) (vd.take k0 ++ ((cs.map fun c => c.toInt8.toInt32).map Value.int) ++ vd.drop (k0 + cs.length)) (.int (0 : Int32))
set_option maxRecDepth 65536 in
set_option maxHeartbeats 40000000 in
theorem own_asbApp (l : Launch) (Z : State) (a0 : Array Value) (hw : ∀ d ∈ tables_1, d.before a0 Z = true) (ws : List Jvm.Cond) (ob : Addr) (so da : Addr) (kd : ClassId) (vd : List Value) (zc : Int32) (cap k0 lim : Nat) (cs : List Int32) (h0 : Heap) (n0 : Nat) (Z0 : n0 ≤ h0.size) (O0 : Old Z n0 h0) (SCS : Sta Z Z.heap "java/lang/String" "COMPACT_STRINGS" "Z" (.int zc)) (hzc : ¬ zc = 0) (E : Exa Z h0 ob "java/lang/StringBuilder") (Fv : Fld Z h0 ob "java/lang/AbstractStringBuilder" "value" "[B" (.ref da)) (Fc : Fld Z h0 ob "java/lang/AbstractStringBuilder" "coder" "B" (.int (0 : Int32))) (Fn : Fld Z h0 ob "java/lang/AbstractStringBuilder" "count" "I" (.int (Int32.ofNat k0))) (Fs : OwnS Z h0 lim so cs) (Va : Arv Z h0 da kd .byte (Int32.ofNat cap) vd (.int (0 : Int32))) (hcap : cap ≤ 4000) (hvd : vd.length = cap) (hfit : k0 + cs.length ≤ cap) (g_da : n0 ≤ da) (g_ob : n0 ≤ ob) (ne_od : ob < da) :
    MetFree l (⟨"java/lang/AbstractStringBuilder", "append", "(Ljava/lang/String;)Ljava/lang/AbstractStringBuilder;"⟩ : MethodName) (head1 (Jvm.Cond.code (⟨"java/lang/AbstractStringBuilder", "append", "(Ljava/lang/String;)Ljava/lang/AbstractStringBuilder;"⟩ : MethodName) jdk_68_method_22_code 3 (some (.object "java/lang/AbstractStringBuilder")) :: ws) ({ frames := 3, cells := 0, slots := 0, locals := 47 } : Room)) (fun A0 U0 => A0 = #[(.ref ob), (.ref so)] ∧ Z.Warmed39 U0.vm ∧ U0.heap = h0) (fun _ _ _ _ _ => True) (fun _ U0 o0 U1 => ∃ v0 L0, o0 = .returned v0 ∧ own_Q_asbApp Z ob so da kd vd zc cap k0 lim cs h0 n0 v0 U1.heap L0 ∧ FrameEnd U0 o0 U1 L0 ({ frames := 3, cells := 0, slots := 0, locals := 47 } : Room).cells ({ frames := 3, cells := 0, slots := 0, locals := 47 } : Room).slots) := by
  refine MetFree.of_bodySF (plainFor_of_name own_pn_java_lang_AbstractStringBuilder) hisR ?_
  intro p e s m args below meth c s₁ Bd hml0 hP hK
  obtain ⟨rfl, hZ, hh⟩ := hP
  have hZs := hZ
  have hx := Bd.exec
  have hby := Bd.bytes
  have hml : c.maxLocals = 3 := hml0
  have hown : s.vm.findClass "java/lang/AbstractStringBuilder" = some m.cls := findClass_of_methodNamed Bd.named
  have hnm := (name_of_methodNamed Bd.named Bd.method).1
  have X0 : Stand p l e ({ frames := 3, cells := 0, slots := 0, locals := 47 } : Room) s m #[(.ref ob), (.ref so)] below meth c s₁ [] 0 0 := Stand.of_body Bd
  have e0 : s₁.heap = h0 := by rw [← hh, Bd.state]; rfl
  have N0 := Fr.nil n0
  refine OwnFin.entry (own_ef_asbApp m ob so) (fun P' hP' => ?_)
  have l4 : cs.length ≤ 4000 := by obtain ⟨_, _, _, _, _, _, _, _, _, q⟩ := Fs; exact q
  have ne_od := own_lt ne_od
  have lt_ob := own_lt E.lt
  have lt_da := own_lt Va.lt
  refine OwnFin.adv (B := s₁.setTop (mkF m 1 #[.val (.ref ob), .val (.ref so), .unset] [(.ref so)])) (fun _ k => XS.aloadN X0.here hx rfl (hb hby own_d19_0) rfl rfl k) ?_
  refine OwnFin.adv (B := s₁.setTop (mkF m 9 #[.val (.ref ob), .val (.ref so), .unset] [])) (fun _ k => XS.ifnonnullYes X0.here hx rfl (pc0 := 1) (pc' := 9) rfl (hb hby own_d19_1) rfl (by decide) (by decide) k) ?_
  refine OwnFin.adv (B := s₁.setTop (mkF m 10 #[.val (.ref ob), .val (.ref so), .unset] [(.ref so)])) (fun _ k => XS.aloadN X0.here hx rfl (hb hby own_d19_9) rfl rfl k) ?_
  have hws2 : ∀ d ∈ StrChars.Road.wordsLen, d.before a0 Z = true := fun d hd => hw d ((by decide +kernel : ∀ d ∈ StrChars.Road.wordsLen, d ∈ tables_1) d hd)
  obtain ⟨ts3, ks3, Es3, Vs3, Cs3, As3, lx3, lt3, hp3, l23⟩ := id Fs
  have lx3 := own_lt lx3
  have lt3 := own_lt lt3
  have ltx3 := own_lt Es3.lt
  have ltt3 := own_lt As3.lt
  obtain ⟨cq1, kq1, q1a, q1b, q1c⟩ := isOf hZ e0 Es3
  obtain ⟨_, _, ⟨T1, L1, k1, n1⟩, -, X1, ⟨Lc1, hQ1, l1, y1, z1⟩, st1⟩ := X0.virtualBack hx (y := (⟨"java/lang/String", "length", "()I"⟩ : MethodName)) (z := (⟨"java/lang/String", "length", "()I"⟩ : MethodName)) hown (mvT hZ (hw _ (List.mem_of_getElem? (i := 122) rfl))) (mvT hZ (hw _ (List.mem_of_getElem? (i := 123) rfl))) (notFace_of_selects (args := #[]) (mvT hZ (hw _ (List.mem_of_getElem? (i := 125) rfl)))) (mvT hZ (hw _ (List.mem_of_getElem? (i := 125) rfl))) (mvT hZ (hw _ (List.mem_of_getElem? (i := 124) rfl))) (by decide) (StrChars.Road.lenW (W := 0) hZ hws2 (kI := 4) (hw _ (List.mem_of_getElem? (i := 6) rfl)) Es3 Vs3 Cs3 As3 (StrChars.Road.codOf rfl (fun c hc => (hp3 c hc).2)) (own_up hp3) (own_staK SCS O0) hzc l23 (by decide) (by decide)) q1a q1c (g := (mkF m 10 #[.val (.ref ob), .val (.ref so), .unset] [(.ref so)])) rfl (by rw [hml]; rfl) (Steps.refl _) (argsL := []) (rest := []) (lenOf own_pd_x28x29I rfl) rfl (by show 2 * 0 + _ ≤ _; exact Nat.le_of_eq rfl) (hb hby own_d19_10) (fun _ _ => ⟨rfl, e0, (by decide : 0 + 0 ≤ _), (by decide : 0 + 0 ≤ _)⟩)
  dsimp only [Pt.U, Pt.locs, Pt.cells, Pt.slots] at X1 l1 y1 z1 st1 hQ1
  subst l1 y1 z1
  obtain ⟨rfl, rfl, eh1⟩ := hQ1
  have N1 := Fr.app N0 (Fr.nil n0)
  refine OwnFin.adv (B := T1.setTop (mkF m 13 #[.val (.ref ob), .val (.ref so), .unset] [(.int (Int32.ofNat (cs).length))])) (fun _ k => st1.trans k) ?_
  refine OwnFin.adv (B := T1.setTop (mkF m 14 #[.val (.ref ob), .val (.ref so), .val (.int (Int32.ofNat (cs).length))] [])) (fun _ k => XS.istoreN X1.here hx rfl (hb hby own_d19_13) rfl (l' := #[.val (.ref ob), .val (.ref so), .val (.int (Int32.ofNat (cs).length))]) rfl k) ?_
  refine OwnFin.adv (B := T1.setTop (mkF m 15 #[.val (.ref ob), .val (.ref so), .val (.int (Int32.ofNat (cs).length))] [(.ref ob)])) (fun _ k => XS.aloadN X1.here hx rfl (hb hby own_d19_14) rfl rfl k) ?_
  refine OwnFin.adv (B := T1.setTop (mkF m 16 #[.val (.ref ob), .val (.ref so), .val (.int (Int32.ofNat (cs).length))] [(.ref ob), (.ref ob)])) (fun _ k => XS.aloadN X1.here hx rfl (hb hby own_d19_15) rfl rfl k) ?_
  obtain ⟨T4, X4, e4, st4⟩ := getF X1 hx hZ hown (host := "") (Or.inl (hw _ (List.mem_of_getElem? (i := 132) rfl))) Via.refl eh1 Fn (g := (mkF m 16 #[.val (.ref ob), .val (.ref so), .val (.int (Int32.ofNat (cs).length))] [(.ref ob), (.ref ob)])) rfl rfl (hb hby own_d19_16)
  refine OwnFin.adv (B := T4.setTop (mkF m 19 #[.val (.ref ob), .val (.ref so), .val (.int (Int32.ofNat (cs).length))] [(.int (Int32.ofNat k0)), (.ref ob)])) (fun _ k => st4 _ k) ?_
  refine OwnFin.adv (B := T4.setTop (mkF m 20 #[.val (.ref ob), .val (.ref so), .val (.int (Int32.ofNat (cs).length))] [(.int (Int32.ofNat (cs).length)), (.int (Int32.ofNat k0)), (.ref ob)])) (fun _ k => XS.iloadN X4.here hx rfl (hb hby own_d19_19) rfl k) ?_
  refine OwnFin.adv (B := T4.setTop (mkF m 21 #[.val (.ref ob), .val (.ref so), .val (.int (Int32.ofNat (cs).length))] [(.int ((Int32.ofNat k0) + (Int32.ofNat (cs).length))), (.ref ob)])) (fun _ k => XS.iadd X4.here hx rfl (hb hby own_d19_20) rfl k) ?_
  rw [show (((Int32.ofNat k0) + (Int32.ofNat (cs).length)) : Int32) = (Int32.ofNat (k0 + cs.length)) from own_add _ _]
  obtain ⟨cq5, kq5, q5a, q5b, q5c⟩ := isOf hZ e4 E
  obtain ⟨_, _, ⟨T5, L5, k5, n5⟩, -, X5, ⟨Lc5, hQ5, l5, y5, z5⟩, st5⟩ := X4.virtualBack hx (y := (⟨"java/lang/AbstractStringBuilder", "ensureCapacityInternal", "(I)V"⟩ : MethodName)) (z := (⟨"java/lang/AbstractStringBuilder", "ensureCapacityInternal", "(I)V"⟩ : MethodName)) hown (mvT hZ (hw _ (List.mem_of_getElem? (i := 134) rfl))) (mvT hZ (own_decl (hw _ (List.mem_of_getElem? (i := 135) rfl)) (hw _ (List.mem_of_getElem? (i := 138) rfl)))) (notFace_of_selects (args := #[]) (mvT hZ (hw _ (List.mem_of_getElem? (i := 137) rfl)))) (mvT hZ (hw _ (List.mem_of_getElem? (i := 137) rfl))) (mvT hZ (hw _ (List.mem_of_getElem? (i := 135) rfl))) (by decide) (backOf (W := 0) (own_ensure l Z a0 hw [] ob da kd vd (k0 + cs.length) cap h0 n0 (by omega) Fv Fc Va hcap hvd hfit) hZ (hw _ (List.mem_of_getElem? (i := 138) rfl)) (hw _ (List.mem_of_getElem? (i := 103) rfl)) (by decide) (by decide)) q5a q5c (g := (mkF m 21 #[.val (.ref ob), .val (.ref so), .val (.int (Int32.ofNat (cs).length))] [(.int (Int32.ofNat (k0 + cs.length))), (.ref ob)])) rfl (by rw [hml]; rfl) (Steps.refl _) (argsL := [(.int (Int32.ofNat (k0 + cs.length)))]) (rest := []) (lenOf own_pd_x28Ix29V rfl) rfl (by show 2 * 0 + _ ≤ _; exact Nat.le_of_eq rfl) (hb hby own_d19_21) (fun _ _ => ⟨rfl, e4, (by decide : 0 + 0 ≤ _), (by decide : 0 + 0 ≤ _)⟩)
  dsimp only [Pt.U, Pt.locs, Pt.cells, Pt.slots] at X5 l5 y5 z5 st5 hQ5
  subst l5 y5 z5
  obtain ⟨rfl, N5q, eh5⟩ := hQ5
  have N5 := Fr.app N1 N5q
  refine OwnFin.adv (B := T5.setTop (mkF m 24 #[.val (.ref ob), .val (.ref so), .val (.int (Int32.ofNat (cs).length))] [])) (fun _ k => st5.trans k) ?_
  refine OwnFin.adv (B := T5.setTop (mkF m 25 #[.val (.ref ob), .val (.ref so), .val (.int (Int32.ofNat (cs).length))] [(.ref ob)])) (fun _ k => XS.aloadN X5.here hx rfl (hb hby own_d19_24) rfl rfl k) ?_
  refine OwnFin.adv (B := T5.setTop (mkF m 26 #[.val (.ref ob), .val (.ref so), .val (.int (Int32.ofNat (cs).length))] [(.ref ob), (.ref ob)])) (fun _ k => XS.aloadN X5.here hx rfl (hb hby own_d19_25) rfl rfl k) ?_
  obtain ⟨T6, X6, e6, st6⟩ := getF X5 hx hZ hown (host := "") (Or.inl (hw _ (List.mem_of_getElem? (i := 132) rfl))) Via.refl eh5 Fn (g := (mkF m 26 #[.val (.ref ob), .val (.ref so), .val (.int (Int32.ofNat (cs).length))] [(.ref ob), (.ref ob)])) rfl rfl (hb hby own_d19_26)
  refine OwnFin.adv (B := T6.setTop (mkF m 29 #[.val (.ref ob), .val (.ref so), .val (.int (Int32.ofNat (cs).length))] [(.int (Int32.ofNat k0)), (.ref ob)])) (fun _ k => st6 _ k) ?_
  refine OwnFin.adv (B := T6.setTop (mkF m 30 #[.val (.ref ob), .val (.ref so), .val (.int (Int32.ofNat (cs).length))] [(.ref so), (.int (Int32.ofNat k0)), (.ref ob)])) (fun _ k => XS.aloadN X6.here hx rfl (hb hby own_d19_29) rfl rfl k) ?_
  obtain ⟨cq7, kq7, q7a, q7b, q7c⟩ := isOf hZ e6 E
  obtain ⟨_, _, ⟨T7, L7, k7, n7⟩, -, X7, ⟨Lc7, hQ7, l7, y7, z7⟩, st7⟩ := X6.virtualBack hx (y := (⟨"java/lang/AbstractStringBuilder", "putStringAt", "(ILjava/lang/String;)V"⟩ : MethodName)) (z := (⟨"java/lang/AbstractStringBuilder", "putStringAt", "(ILjava/lang/String;)V"⟩ : MethodName)) hown (mvT hZ (hw _ (List.mem_of_getElem? (i := 139) rfl))) (mvT hZ (own_decl (hw _ (List.mem_of_getElem? (i := 140) rfl)) (hw _ (List.mem_of_getElem? (i := 143) rfl)))) (notFace_of_selects (args := #[]) (mvT hZ (hw _ (List.mem_of_getElem? (i := 142) rfl)))) (mvT hZ (hw _ (List.mem_of_getElem? (i := 142) rfl))) (mvT hZ (hw _ (List.mem_of_getElem? (i := 140) rfl))) (by decide) (backOf (W := 0) (own_putS l Z a0 hw [] ob so da kd vd zc cap k0 lim cs h0 n0 (by omega) O0 SCS hzc E Fv Fc Fs Va hcap hvd hfit g_da) hZ (hw _ (List.mem_of_getElem? (i := 143) rfl)) (hw _ (List.mem_of_getElem? (i := 103) rfl)) (by decide) (by decide)) q7a q7c (g := (mkF m 30 #[.val (.ref ob), .val (.ref so), .val (.int (Int32.ofNat (cs).length))] [(.ref so), (.int (Int32.ofNat k0)), (.ref ob)])) rfl (by rw [hml]; rfl) (Steps.refl _) (argsL := [(.int (Int32.ofNat k0)), (.ref so)]) (rest := []) (lenOf own_pd_x28ILjavax2flangx2fStringx3bx29V rfl) rfl (by show 2 * 0 + _ ≤ _; exact Nat.le_of_eq rfl) (hb hby own_d19_30) (fun _ _ => ⟨rfl, e6, (by decide : 0 + 0 ≤ _), (by decide : 0 + 0 ≤ _)⟩)
  dsimp only [Pt.U, Pt.locs, Pt.cells, Pt.slots] at X7 l7 y7 z7 st7 hQ7
  subst l7 y7 z7
  obtain ⟨rfl, N7q, K7, Va7⟩ := hQ7
  have N7 := Fr.app N5 N7q
  have sz8 : h0.size ≤ T7.heap.size := K7.1
  refine OwnFin.adv (B := T7.setTop (mkF m 33 #[.val (.ref ob), .val (.ref so), .val (.int (Int32.ofNat (cs).length))] [])) (fun _ k => st7.trans k) ?_
  refine OwnFin.adv (B := T7.setTop (mkF m 34 #[.val (.ref ob), .val (.ref so), .val (.int (Int32.ofNat (cs).length))] [(.ref ob)])) (fun _ k => XS.aloadN X7.here hx rfl (hb hby own_d19_33) rfl rfl k) ?_
  refine OwnFin.adv (B := T7.setTop (mkF m 35 #[.val (.ref ob), .val (.ref so), .val (.int (Int32.ofNat (cs).length))] [(.ref ob), (.ref ob)])) (fun _ k => XS.dup X7.here hx rfl (hb hby own_d19_34) rfl rfl k) ?_
  have Fv9_1 : Fld Z T7.heap ob "java/lang/AbstractStringBuilder" "count" "I" (.int (Int32.ofNat k0)) := (Fn.keep K7 (ninS (own_ne (by omega)) nin0))
  obtain ⟨T10, X10, e10, st10⟩ := getF X7 hx hZ hown (host := "") (Or.inl (hw _ (List.mem_of_getElem? (i := 132) rfl))) Via.refl rfl Fv9_1 (g := (mkF m 35 #[.val (.ref ob), .val (.ref so), .val (.int (Int32.ofNat (cs).length))] [(.ref ob), (.ref ob)])) rfl rfl (hb hby own_d19_35)
  refine OwnFin.adv (B := T10.setTop (mkF m 38 #[.val (.ref ob), .val (.ref so), .val (.int (Int32.ofNat (cs).length))] [(.int (Int32.ofNat k0)), (.ref ob)])) (fun _ k => st10 _ k) ?_
  refine OwnFin.adv (B := T10.setTop (mkF m 39 #[.val (.ref ob), .val (.ref so), .val (.int (Int32.ofNat (cs).length))] [(.int (Int32.ofNat (cs).length)), (.int (Int32.ofNat k0)), (.ref ob)])) (fun _ k => XS.iloadN X10.here hx rfl (hb hby own_d19_38) rfl k) ?_
  refine OwnFin.adv (B := T10.setTop (mkF m 40 #[.val (.ref ob), .val (.ref so), .val (.int (Int32.ofNat (cs).length))] [(.int ((Int32.ofNat k0) + (Int32.ofNat (cs).length))), (.ref ob)])) (fun _ k => XS.iadd X10.here hx rfl (hb hby own_d19_39) rfl k) ?_
  rw [show (((Int32.ofNat k0) + (Int32.ofNat (cs).length)) : Int32) = (Int32.ofNat (k0 + cs.length)) from own_add _ _]
  have Fv11_1 : Exa Z T7.heap ob "java/lang/StringBuilder" := (E.keep K7)
  obtain ⟨T12, h12, X12, e12, W12, st12⟩ := putF X10 hx hZ hown (host := "") (Or.inl (hw _ (List.mem_of_getElem? (i := 132) rfl))) Via.refl e10 Fv9_1 Fv11_1 (Or.inl (hw _ (List.mem_of_getElem? (i := 133) rfl))) (hw _ (List.mem_of_getElem? (i := 94) rfl)) (ty := .int) (by decide) rfl rfl (g := (mkF m 40 #[.val (.ref ob), .val (.ref so), .val (.int (Int32.ofNat (cs).length))] [(.int (Int32.ofNat (k0 + cs.length))), (.ref ob)])) rfl rfl (hb hby own_d19_40)
  have Fw12 : Fld Z h12 ob "java/lang/AbstractStringBuilder" "count" "I" (.int (Int32.ofNat (k0 + cs.length))) := Fv9_1.same W12
  have sz13 : T7.heap.size ≤ h12.size := Nat.le_of_eq W12.size.symm
  have N12 := Fr.snoc X12 N7 (by omega : n0 ≤ ob)
  refine OwnFin.adv (B := T12.setTop (mkF m 43 #[.val (.ref ob), .val (.ref so), .val (.int (Int32.ofNat (cs).length))] [])) (fun _ k => st12 _ k) ?_
  refine OwnFin.adv (B := T12.setTop (mkF m 44 #[.val (.ref ob), .val (.ref so), .val (.int (Int32.ofNat (cs).length))] [(.ref ob)])) (fun _ k => XS.aloadN X12.here hx rfl (hb hby own_d19_43) rfl rfl k) ?_
  obtain ⟨fs, hr, hrun, hended, hW, hsame⟩ := X12.leave (v := some (.ref ob)) (fun h => by rw [Bd.returns] at h; cases h)
  refine OwnFin.leaf hP' ⟨_, _, own_retR X12 hx Bd.returns rfl rfl rfl (hb hby own_d19_44) hr, hrun, hended, _, _, rfl, ?_, ⟨_, rfl⟩, hW, hsame.mono (by decide) (by decide)⟩
  have Fv14_2 : Fld Z h12 ob "java/lang/AbstractStringBuilder" "value" "[B" (.ref da) := ((Fv.keep K7 (ninS (own_ne (by omega)) nin0)).other W12 (Or.inr (slot_ne (Or.inl (hw _ (List.mem_of_getElem? (i := 108) rfl))) (Or.inl (hw _ (List.mem_of_getElem? (i := 133) rfl))) (by decide) (t := (.array .byte)) (t' := .int) (by decide) (by decide))))
  have Fv15_2 : Fld Z h12 ob "java/lang/AbstractStringBuilder" "coder" "B" (.int (0 : Int32)) := ((Fc.keep K7 (ninS (own_ne (by omega)) nin0)).other W12 (Or.inr (slot_ne (Or.inl (hw _ (List.mem_of_getElem? (i := 110) rfl))) (Or.inl (hw _ (List.mem_of_getElem? (i := 133) rfl))) (by decide) (t := .byte) (t' := .int) (by decide) (by decide))))
  have Fv16_2 : Arv Z h12 da kd .byte (Int32.ofNat cap) (vd.take k0 ++ ((cs.map fun c => c.toInt8.toInt32).map Value.int) ++ vd.drop (k0 + cs.length)) (.int (0 : Int32)) := (Va7.other W12 (own_ne (by omega)))
  rw [show (T12.setFrames fs).heap = h12 from e12]
  exact ⟨rfl, N12, (((Keep.refl h0 [ob, da]).trans K7 (allS (Or.inl (List.mem_of_getElem? (i := 1) rfl)) all0)).wr W12 (Or.inl (List.mem_of_getElem? (i := 0) rfl))), Fv14_2, Fv15_2, Fw12, Fv16_2⟩
theorem own_d18_0 : decode jdk_67_method_7_code 0 = .ok (.aload_n 0, 1) := by decide +kernel
theorem own_d18_1 : decode jdk_67_method_7_code 1 = .ok (.aload_n 1, 1) := by decide +kernel
theorem own_pd_x28Ljavax2flangx2fStringx3bx29Ljavax2flangx2fAbstractStringBuilderx3b : parseMethodDescriptor "(Ljava/lang/String;)Ljava/lang/AbstractStringBuilder;" = some ⟨[(.object "java/lang/String")], some (.object "java/lang/AbstractStringBuilder")⟩ := by decide +kernel
theorem own_d18_2 : decode jdk_67_method_7_code 2 = .ok (.invokespecial 29, 3) := by decide +kernel
theorem own_d18_5 : decode jdk_67_method_7_code 5 = .ok (.pop, 1) := by decide +kernel
theorem own_d18_6 : decode jdk_67_method_7_code 6 = .ok (.aload_n 0, 1) := by decide +kernel
theorem own_d18_7 : decode jdk_67_method_7_code 7 = .ok (.areturn, 1) := by decide +kernel
theorem own_ef_sbApp (m : MethodId) (x0 : Addr) (x1 : Addr) : entryFrame m #[(.ref x0), (.ref x1)] 2 = mkF m 0 #[.val (.ref x0), .val (.ref x1)] [] := by first | (simp [entryFrame, mkF, argsToLocals, Value.category]; done) | rfl
def own_Q_sbApp (Z : State) (ob : Addr) (so da : Addr) (kd : ClassId) (vd : List Value) (zc : Int32) (cap k0 lim : Nat) (cs : List Int32) (h0 : Heap) (n0 : Nat) (v : Option Value) (h : Heap) (L : List Loc) : Prop := v = some (.ref ob) ∧ Fr n0 L ∧ Keep h0 h [ob, da] ∧ Fld Z h ob "java/lang/AbstractStringBuilder" "value" "[B" (.ref da) ∧ Fld Z h ob "java/lang/AbstractStringBuilder" "coder" "B" (.int (0 : Int32)) ∧ Fld Z h ob "java/lang/AbstractStringBuilder" "count" "I" (.int (Int32.ofNat (k0 + cs.length))) ∧ Arv Z h da kd .byte (Int32.ofNat cap) (vd.take k0 ++ ((cs.map fun c => c.toInt8.toInt32).map Value.int) ++ vd.drop (k0 + cs.length)) (.int (0 : Int32))
set_option maxRecDepth 65536 in
set_option maxHeartbeats 40000000 in
theorem own_sbApp (l : Launch) (Z : State) (a0 : Array Value) (hw : ∀ d ∈ tables_1, d.before a0 Z = true) (ws : List Jvm.Cond) (ob : Addr) (so da : Addr) (kd : ClassId) (vd : List Value) (zc : Int32) (cap k0 lim : Nat) (cs : List Int32) (h0 : Heap) (n0 : Nat) (Z0 : n0 ≤ h0.size) (O0 : Old Z n0 h0) (SCS : Sta Z Z.heap "java/lang/String" "COMPACT_STRINGS" "Z" (.int zc)) (hzc : ¬ zc = 0) (E : Exa Z h0 ob "java/lang/StringBuilder") (Fv : Fld Z h0 ob "java/lang/AbstractStringBuilder" "value" "[B" (.ref da)) (Fc : Fld Z h0 ob "java/lang/AbstractStringBuilder" "coder" "B" (.int (0 : Int32))) (Fn : Fld Z h0 ob "java/lang/AbstractStringBuilder" "count" "I" (.int (Int32.ofNat k0))) (Fs : OwnS Z h0 lim so cs) (Va : Arv Z h0 da kd .byte (Int32.ofNat cap) vd (.int (0 : Int32))) (hcap : cap ≤ 4000) (hvd : vd.length = cap) (hfit : k0 + cs.length ≤ cap) (g_da : n0 ≤ da) (g_ob : n0 ≤ ob) (ne_od : ob < da) :
    MetFree l (⟨"java/lang/StringBuilder", "append", "(Ljava/lang/String;)Ljava/lang/StringBuilder;"⟩ : MethodName) (head1 (Jvm.Cond.code (⟨"java/lang/StringBuilder", "append", "(Ljava/lang/String;)Ljava/lang/StringBuilder;"⟩ : MethodName) jdk_67_method_7_code 2 (some (.object "java/lang/StringBuilder")) :: ws) ({ frames := 4, cells := 0, slots := 0, locals := 61 } : Room)) (fun A0 U0 => A0 = #[(.ref ob), (.ref so)] ∧ Z.Warmed39 U0.vm ∧ U0.heap = h0) (fun _ _ _ _ _ => True) (fun _ U0 o0 U1 => ∃ v0 L0, o0 = .returned v0 ∧ own_Q_sbApp Z ob so da kd vd zc cap k0 lim cs h0 n0 v0 U1.heap L0 ∧ FrameEnd U0 o0 U1 L0 ({ frames := 4, cells := 0, slots := 0, locals := 61 } : Room).cells ({ frames := 4, cells := 0, slots := 0, locals := 61 } : Room).slots) := by
  refine MetFree.of_bodySF (plainFor_of_name own_pn_java_lang_StringBuilder) hisR ?_
  intro p e s m args below meth c s₁ Bd hml0 hP hK
  obtain ⟨rfl, hZ, hh⟩ := hP
  have hZs := hZ
  have hx := Bd.exec
  have hby := Bd.bytes
  have hml : c.maxLocals = 2 := hml0
  have hown : s.vm.findClass "java/lang/StringBuilder" = some m.cls := findClass_of_methodNamed Bd.named
  have hnm := (name_of_methodNamed Bd.named Bd.method).1
  have X0 : Stand p l e ({ frames := 4, cells := 0, slots := 0, locals := 61 } : Room) s m #[(.ref ob), (.ref so)] below meth c s₁ [] 0 0 := Stand.of_body Bd
  have e0 : s₁.heap = h0 := by rw [← hh, Bd.state]; rfl
  have N0 := Fr.nil n0
  refine OwnFin.entry (own_ef_sbApp m ob so) (fun P' hP' => ?_)
  have l4 : cs.length ≤ 4000 := by obtain ⟨_, _, _, _, _, _, _, _, _, q⟩ := Fs; exact q
  have ne_od := own_lt ne_od
  have lt_ob := own_lt E.lt
  have lt_da := own_lt Va.lt
  refine OwnFin.adv (B := s₁.setTop (mkF m 1 #[.val (.ref ob), .val (.ref so)] [(.ref ob)])) (fun _ k => XS.aloadN X0.here hx rfl (hb hby own_d18_0) rfl rfl k) ?_
  refine OwnFin.adv (B := s₁.setTop (mkF m 2 #[.val (.ref ob), .val (.ref so)] [(.ref so), (.ref ob)])) (fun _ k => XS.aloadN X0.here hx rfl (hb hby own_d18_1) rfl rfl k) ?_
  obtain ⟨_, _, ⟨T1, L1, k1, n1⟩, -, X1, ⟨Lc1, hQ1, l1, y1, z1⟩, st1⟩ := superBack X0 hx hZ (y := (⟨"java/lang/AbstractStringBuilder", "append", "(Ljava/lang/String;)Ljava/lang/AbstractStringBuilder;"⟩ : MethodName)) hown (hw _ (List.mem_of_getElem? (i := 117) rfl)) (own_same (y := (⟨"java/lang/AbstractStringBuilder", "append", "(Ljava/lang/String;)Ljava/lang/AbstractStringBuilder;"⟩ : MethodName)) (z := (⟨"java/lang/AbstractStringBuilder", "ensureCapacityInternal", "(I)V"⟩ : MethodName)) (hw _ (List.mem_of_getElem? (i := 120) rfl)) (own_decl (hw _ (List.mem_of_getElem? (i := 135) rfl)) (hw _ (List.mem_of_getElem? (i := 138) rfl))) (notFace_of_selects (args := a0) (hw _ (List.mem_of_getElem? (i := 137) rfl))) rfl (by decide)) (hw _ (List.mem_of_getElem? (i := 118) rfl)) (hw _ (List.mem_of_getElem? (i := 119) rfl)) (by decide) (backOf (W := 0) (own_asbApp l Z a0 hw [] ob so da kd vd zc cap k0 lim cs h0 n0 (by omega) O0 SCS hzc E Fv Fc Fn Fs Va hcap hvd hfit g_da g_ob ne_od) hZ (hw _ (List.mem_of_getElem? (i := 121) rfl)) (hw _ (List.mem_of_getElem? (i := 103) rfl)) (by decide) (by decide)) e0 (Ins.self E) (g := (mkF m 2 #[.val (.ref ob), .val (.ref so)] [(.ref so), (.ref ob)])) rfl (by rw [hml]; rfl) (hw _ (List.mem_of_getElem? (i := 121) rfl)) (argsL := [(.ref so)]) (rest := []) (lenOf own_pd_x28Ljavax2flangx2fStringx3bx29Ljavax2flangx2fAbstractStringBuilderx3b rfl) rfl (by show 2 * 0 + _ ≤ _; exact Nat.le_of_eq rfl) (hb hby own_d18_2) (fun _ _ => ⟨rfl, e0, (by decide : 0 + 0 ≤ _), (by decide : 0 + 0 ≤ _)⟩)
  dsimp only [Pt.U, Pt.locs, Pt.cells, Pt.slots] at X1 l1 y1 z1 st1 hQ1
  subst l1 y1 z1
  obtain ⟨rfl, N1q, K1, Fv1, Fc1, Fn1, Va1⟩ := hQ1
  have N1 := Fr.app N0 N1q
  have sz2 : h0.size ≤ T1.heap.size := K1.1
  refine OwnFin.adv (B := T1.setTop (mkF m 5 #[.val (.ref ob), .val (.ref so)] [(.ref ob)])) (fun _ k => st1.trans k) ?_
  refine OwnFin.adv (B := T1.setTop (mkF m 6 #[.val (.ref ob), .val (.ref so)] [])) (fun _ k => XS.pop X1.here hx rfl (hb hby own_d18_5) rfl rfl k) ?_
  refine OwnFin.adv (B := T1.setTop (mkF m 7 #[.val (.ref ob), .val (.ref so)] [(.ref ob)])) (fun _ k => XS.aloadN X1.here hx rfl (hb hby own_d18_6) rfl rfl k) ?_
  obtain ⟨fs, hr, hrun, hended, hW, hsame⟩ := X1.leave (v := some (.ref ob)) (fun h => by rw [Bd.returns] at h; cases h)
  refine OwnFin.leaf hP' ⟨_, _, own_retR X1 hx Bd.returns rfl rfl rfl (hb hby own_d18_7) hr, hrun, hended, _, _, rfl, ?_, ⟨_, rfl⟩, hW, hsame.mono (by decide) (by decide)⟩
  rw [show (T1.setFrames fs).heap = T1.heap from rfl]
  exact ⟨rfl, N1, ((Keep.refl h0 [ob, da]).trans K1 (allS (Or.inl (List.mem_of_getElem? (i := 0) rfl)) (allS (Or.inl (List.mem_of_getElem? (i := 1) rfl)) all0))), Fv1, Fc1, Fn1, Va1⟩
theorem own_sub0 (x : Int32) : x - (0 : Int32) = x := Int32.sub_zero x

theorem own_d36_0 : decode jdk_29_method_69_code 0 = .ok (.iload_n 0, 1) := by decide +kernel
theorem own_d36_1 : decode jdk_29_method_69_code 1 = .ok (.iload_n 1, 1) := by decide +kernel
theorem own_d36_2 : decode jdk_29_method_69_code 2 = .ok (.if_icmp .gt 7, 3) := by decide +kernel
theorem own_d36_9 : decode jdk_29_method_69_code 9 = .ok (.iload_n 1, 1) := by decide +kernel
theorem own_d36_10 : decode jdk_29_method_69_code 10 = .ok (.ireturn, 1) := by decide +kernel
theorem own_ef_min (m : MethodId) (x0 : Int32) (x1 : Int32) : entryFrame m #[(.int x0), (.int x1)] 2 = mkF m 0 #[.val (.int x0), .val (.int x1)] [] := by first | (simp [entryFrame, mkF, argsToLocals, Value.category]; done) | rfl
def own_Q_min (Z : State) (mx my : Int32) (h0 : Heap) (n0 : Nat) (v : Option Value) (h : Heap) (L : List Loc) : Prop := v = some (.int my) ∧ Fr n0 L ∧ h = h0
set_option maxRecDepth 65536 in
set_option maxHeartbeats 40000000 in
theorem own_min (l : Launch) (Z : State) (a0 : Array Value) (hw : ∀ d ∈ tables_1, d.before a0 Z = true) (ws : List Jvm.Cond) (mx my : Int32) (h0 : Heap) (n0 : Nat) (Z0 : n0 ≤ h0.size) (hlt : my < mx) :
    MetFree l (⟨"java/lang/Math", "min", "(II)I"⟩ : MethodName) (head1 (Jvm.Cond.code (⟨"java/lang/Math", "min", "(II)I"⟩ : MethodName) jdk_29_method_69_code 2 (some .int) :: ws) ({ frames := 0, cells := 0, slots := 0, locals := 0 } : Room)) (fun A0 U0 => A0 = #[(.int mx), (.int my)] ∧ Z.Warmed39 U0.vm ∧ U0.heap = h0) (fun _ _ _ _ _ => True) (fun _ U0 o0 U1 => ∃ v0 L0, o0 = .returned v0 ∧ own_Q_min Z mx my h0 n0 v0 U1.heap L0 ∧ FrameEnd U0 o0 U1 L0 ({ frames := 0, cells := 0, slots := 0, locals := 0 } : Room).cells ({ frames := 0, cells := 0, slots := 0, locals := 0 } : Room).slots) := by
  refine MetFree.of_bodySF (Jvm.Free.JP.mathPlain rfl (by decide +kernel)) hisR ?_
  intro p e s m args below meth c s₁ Bd hml0 hP hK
  obtain ⟨rfl, hZ, hh⟩ := hP
  have hZs := hZ
  have hx := Bd.exec
  have hby := Bd.bytes
  have hml : c.maxLocals = 2 := hml0
  have hown : s.vm.findClass "java/lang/Math" = some m.cls := findClass_of_methodNamed Bd.named
  have hnm := (name_of_methodNamed Bd.named Bd.method).1
  have X0 : Stand p l e ({ frames := 0, cells := 0, slots := 0, locals := 0 } : Room) s m #[(.int mx), (.int my)] below meth c s₁ [] 0 0 := Stand.of_body Bd
  have e0 : s₁.heap = h0 := by rw [← hh, Bd.state]; rfl
  have N0 := Fr.nil n0
  refine OwnFin.entry (own_ef_min m mx my) (fun P' hP' => ?_)
  refine OwnFin.adv (B := s₁.setTop (mkF m 1 #[.val (.int mx), .val (.int my)] [(.int mx)])) (fun _ k => XS.iloadN X0.here hx rfl (hb hby own_d36_0) rfl k) ?_
  refine OwnFin.adv (B := s₁.setTop (mkF m 2 #[.val (.int mx), .val (.int my)] [(.int my), (.int mx)])) (fun _ k => XS.iloadN X0.here hx rfl (hb hby own_d36_1) rfl k) ?_
  have hc2_3 : my < mx := hlt
  refine OwnFin.adv (B := s₁.setTop (mkF m 9 #[.val (.int mx), .val (.int my)] [])) (fun _ k => XS.icmpYes X0.here hx rfl (pc0 := 2) (pc' := 9) rfl (hb hby own_d36_2) rfl (tlt hc2_3).2.2.1 (by decide) (by decide) k) ?_
  refine OwnFin.adv (B := s₁.setTop (mkF m 10 #[.val (.int mx), .val (.int my)] [(.int my)])) (fun _ k => XS.iloadN X0.here hx rfl (hb hby own_d36_9) rfl k) ?_
  obtain ⟨fs, hr, hrun, hended, hW, hsame⟩ := X0.leave (v := some (.int my)) (fun h => by rw [Bd.returns] at h; cases h)
  refine OwnFin.leaf hP' ⟨_, _, own_retI X0 hx Bd.returns (hb hby own_d36_10) hr, hrun, hended, _, _, rfl, ?_, ⟨_, rfl⟩, hW, hsame.mono (by decide) (by decide)⟩
  exact ⟨rfl, N0, e0⟩
theorem own_d35_0 : decode jdk_65_method_131_code 0 = .ok (.iload_n 1, 1) := by decide +kernel
theorem own_d35_1 : decode jdk_65_method_131_code 1 = .ok (.iload_n 0, 1) := by decide +kernel
theorem own_d35_2 : decode jdk_65_method_131_code 2 = .ok (.if_icmp .ge 35, 3) := by decide +kernel
theorem own_d35_37 : decode jdk_65_method_131_code 37 = .ok (.return_, 1) := by decide +kernel
theorem own_ef_chkLen (m : MethodId) (x0 : Int32) (x1 : Int32) : entryFrame m #[(.int x0), (.int x1)] 2 = mkF m 0 #[.val (.int x0), .val (.int x1)] [] := by first | (simp [entryFrame, mkF, argsToLocals, Value.category]; done) | rfl
theorem own_pn_java_util_Arrays : plainName "java/util/Arrays" = true := by first | (simp [plainName, overriddenIn]; done) | decide +kernel
def own_Q_chkLen (Z : State) (my : Int32) (h0 : Heap) (n0 : Nat) (v : Option Value) (h : Heap) (L : List Loc) : Prop := v = none ∧ Fr n0 L ∧ h = h0
set_option maxRecDepth 65536 in
set_option maxHeartbeats 40000000 in
theorem own_chkLen (l : Launch) (Z : State) (a0 : Array Value) (hw : ∀ d ∈ tables_1, d.before a0 Z = true) (ws : List Jvm.Cond) (my : Int32) (h0 : Heap) (n0 : Nat) (Z0 : n0 ≤ h0.size) (hge : ¬ my < 0) :
    MetFree l (⟨"java/util/Arrays", "checkLength", "(II)V"⟩ : MethodName) (head1 (Jvm.Cond.code (⟨"java/util/Arrays", "checkLength", "(II)V"⟩ : MethodName) jdk_65_method_131_code 2 none :: ws) ({ frames := 0, cells := 0, slots := 0, locals := 0 } : Room)) (fun A0 U0 => A0 = #[(.int (0 : Int32)), (.int my)] ∧ Z.Warmed39 U0.vm ∧ U0.heap = h0) (fun _ _ _ _ _ => True) (fun _ U0 o0 U1 => ∃ v0 L0, o0 = .returned v0 ∧ own_Q_chkLen Z my h0 n0 v0 U1.heap L0 ∧ FrameEnd U0 o0 U1 L0 ({ frames := 0, cells := 0, slots := 0, locals := 0 } : Room).cells ({ frames := 0, cells := 0, slots := 0, locals := 0 } : Room).slots) := by
  refine MetFree.of_bodySF (plainFor_of_name own_pn_java_util_Arrays) hisR ?_
  intro p e s m args below meth c s₁ Bd hml0 hP hK
  obtain ⟨rfl, hZ, hh⟩ := hP
  have hZs := hZ
  have hx := Bd.exec
  have hby := Bd.bytes
  have hml : c.maxLocals = 2 := hml0
  have hown : s.vm.findClass "java/util/Arrays" = some m.cls := findClass_of_methodNamed Bd.named
  have hnm := (name_of_methodNamed Bd.named Bd.method).1
  have X0 : Stand p l e ({ frames := 0, cells := 0, slots := 0, locals := 0 } : Room) s m #[(.int (0 : Int32)), (.int my)] below meth c s₁ [] 0 0 := Stand.of_body Bd
  have e0 : s₁.heap = h0 := by rw [← hh, Bd.state]; rfl
  have N0 := Fr.nil n0
  refine OwnFin.entry (own_ef_chkLen m (0 : Int32) my) (fun P' hP' => ?_)
  refine OwnFin.adv (B := s₁.setTop (mkF m 1 #[.val (.int (0 : Int32)), .val (.int my)] [(.int my)])) (fun _ k => XS.iloadN X0.here hx rfl (hb hby own_d35_0) rfl k) ?_
  refine OwnFin.adv (B := s₁.setTop (mkF m 2 #[.val (.int (0 : Int32)), .val (.int my)] [(.int (0 : Int32)), (.int my)])) (fun _ k => XS.iloadN X0.here hx rfl (hb hby own_d35_1) rfl k) ?_
  have hc2_3 : ¬ (my < (0 : Int32)) := hge
  refine OwnFin.adv (B := s₁.setTop (mkF m 37 #[.val (.int (0 : Int32)), .val (.int my)] [])) (fun _ k => XS.icmpYes X0.here hx rfl (pc0 := 2) (pc' := 37) rfl (hb hby own_d35_2) rfl (flt hc2_3).2.1 (by decide) (by decide) k) ?_
  obtain ⟨fs, hr, hrun, hended, hW, hsame⟩ := X0.leave (v := none) (fun _ => rfl)
  refine OwnFin.leaf hP' ⟨_, _, X0.returnOut hx Bd.returns (hb hby own_d35_37) hr, hrun, hended, _, _, rfl, ?_, ⟨_, rfl⟩, hW, hsame.mono (by decide) (by decide)⟩
  exact ⟨rfl, N0, e0⟩
theorem own_d34_0 : decode jdk_65_method_133_code 0 = .ok (.iload_n 1, 1) := by decide +kernel
theorem own_d34_1 : decode jdk_65_method_133_code 1 = .ok (.iload_n 2, 1) := by decide +kernel
theorem own_pd_x28IIx29V : parseMethodDescriptor "(II)V" = some ⟨[.int, .int], none⟩ := by decide +kernel
theorem own_d34_2 : decode jdk_65_method_133_code 2 = .ok (.invokestatic 343, 3) := by decide +kernel
theorem own_d34_5 : decode jdk_65_method_133_code 5 = .ok (.iload_n 2, 1) := by decide +kernel
theorem own_d34_6 : decode jdk_65_method_133_code 6 = .ok (.iload_n 1, 1) := by decide +kernel
theorem own_d34_7 : decode jdk_65_method_133_code 7 = .ok (.isub, 1) := by decide +kernel
theorem own_d34_8 : decode jdk_65_method_133_code 8 = .ok (.istore_n 3, 1) := by decide +kernel
theorem own_d34_9 : decode jdk_65_method_133_code 9 = .ok (.iload_n 3, 1) := by decide +kernel
theorem own_d34_10 : decode jdk_65_method_133_code 10 = .ok (.newarray .byte, 2) := by decide +kernel
theorem own_d34_12 : decode jdk_65_method_133_code 12 = .ok (.astore 4, 2) := by decide +kernel
theorem own_d34_14 : decode jdk_65_method_133_code 14 = .ok (.aload_n 0, 1) := by decide +kernel
theorem own_d34_15 : decode jdk_65_method_133_code 15 = .ok (.iload_n 1, 1) := by decide +kernel
theorem own_d34_16 : decode jdk_65_method_133_code 16 = .ok (.aload 4, 2) := by decide +kernel
theorem own_d34_18 : decode jdk_65_method_133_code 18 = .ok (.iconst 0, 1) := by decide +kernel
theorem own_d34_19 : decode jdk_65_method_133_code 19 = .ok (.aload_n 0, 1) := by decide +kernel
theorem own_d34_20 : decode jdk_65_method_133_code 20 = .ok (.arraylength, 1) := by decide +kernel
theorem own_d34_21 : decode jdk_65_method_133_code 21 = .ok (.iload_n 1, 1) := by decide +kernel
theorem own_d34_22 : decode jdk_65_method_133_code 22 = .ok (.isub, 1) := by decide +kernel
theorem own_d34_23 : decode jdk_65_method_133_code 23 = .ok (.iload_n 3, 1) := by decide +kernel
theorem own_pd_x28IIx29I : parseMethodDescriptor "(II)I" = some ⟨[.int, .int], some .int⟩ := by decide +kernel
theorem own_d34_24 : decode jdk_65_method_133_code 24 = .ok (.invokestatic 304, 3) := by decide +kernel
theorem own_d34_27 : decode jdk_65_method_133_code 27 = .ok (.invokestatic 150, 3) := by decide +kernel
theorem own_d34_30 : decode jdk_65_method_133_code 30 = .ok (.aload 4, 2) := by decide +kernel
theorem own_d34_32 : decode jdk_65_method_133_code 32 = .ok (.areturn, 1) := by decide +kernel
theorem own_ef_corb (m : MethodId) (x0 : Addr) (x1 : Int32) (x2 : Int32) : entryFrame m #[(.ref x0), (.int x1), (.int x2)] 5 = mkF m 0 #[.val (.ref x0), .val (.int x1), .val (.int x2), .unset, .unset] [] := by first | (simp [entryFrame, mkF, argsToLocals, Value.category]; done) | rfl
def own_Q_corb (Z : State) (da : Addr) (kd : ClassId) (vd : List Value) (cap k0 : Nat) (h0 : Heap) (n0 : Nat) (v : Option Value) (h : Heap) (L : List Loc) : Prop := ∃ (t : Addr) (kt : ClassId), v = some (.ref t) ∧ Fr n0 L ∧ Keep h0 h [] ∧ h0.size ≤ t ∧ Arv Z h t kt .byte (Int32.ofNat k0) (vd.take k0) (.int (0 : Int32))
set_option maxRecDepth 65536 in
set_option maxHeartbeats 40000000 in
theorem own_corb (l : Launch) (Z : State) (a0 : Array Value) (hw : ∀ d ∈ tables_1, d.before a0 Z = true) (ws : List Jvm.Cond) (da : Addr) (kd : ClassId) (vd : List Value) (cap k0 : Nat) (h0 : Heap) (n0 : Nat) (Z0 : n0 ≤ h0.size) (Va : Arv Z h0 da kd .byte (Int32.ofNat cap) vd (.int (0 : Int32))) (hcap : cap ≤ 4000) (hvd : vd.length = cap) (hk : k0 < cap) (hk64 : k0 ≤ 64) :
    MetFree l (⟨"java/util/Arrays", "copyOfRangeByte", "([BII)[B"⟩ : MethodName) (head1 (Jvm.Cond.code (⟨"java/util/Arrays", "copyOfRangeByte", "([BII)[B"⟩ : MethodName) jdk_65_method_133_code 5 (some (.array .byte)) :: ws) ({ frames := 1, cells := 1, slots := 64, locals := 18 } : Room)) (fun A0 U0 => A0 = #[(.ref da), (.int (0 : Int32)), (.int (Int32.ofNat k0))] ∧ Z.Warmed39 U0.vm ∧ U0.heap = h0) (fun _ _ _ _ _ => True) (fun _ U0 o0 U1 => ∃ v0 L0, o0 = .returned v0 ∧ own_Q_corb Z da kd vd cap k0 h0 n0 v0 U1.heap L0 ∧ FrameEnd U0 o0 U1 L0 ({ frames := 1, cells := 1, slots := 64, locals := 18 } : Room).cells ({ frames := 1, cells := 1, slots := 64, locals := 18 } : Room).slots) := by
  refine MetFree.of_bodySF (plainFor_of_name own_pn_java_util_Arrays) hisR ?_
  intro p e s m args below meth c s₁ Bd hml0 hP hK
  obtain ⟨rfl, hZ, hh⟩ := hP
  have hZs := hZ
  have hx := Bd.exec
  have hby := Bd.bytes
  have hml : c.maxLocals = 5 := hml0
  have hown : s.vm.findClass "java/util/Arrays" = some m.cls := findClass_of_methodNamed Bd.named
  have hnm := (name_of_methodNamed Bd.named Bd.method).1
  have X0 : Stand p l e ({ frames := 1, cells := 1, slots := 64, locals := 18 } : Room) s m #[(.ref da), (.int (0 : Int32)), (.int (Int32.ofNat k0))] below meth c s₁ [] 0 0 := Stand.of_body Bd
  have e0 : s₁.heap = h0 := by rw [← hh, Bd.state]; rfl
  have N0 := Fr.nil n0
  refine OwnFin.entry (own_ef_corb m da (0 : Int32) (Int32.ofNat k0)) (fun P' hP' => ?_)
  have lt_da := own_lt Va.lt
  refine OwnFin.adv (B := s₁.setTop (mkF m 1 #[.val (.ref da), .val (.int (0 : Int32)), .val (.int (Int32.ofNat k0)), .unset, .unset] [(.int (0 : Int32))])) (fun _ k => XS.iloadN X0.here hx rfl (hb hby own_d34_0) rfl k) ?_
  refine OwnFin.adv (B := s₁.setTop (mkF m 2 #[.val (.ref da), .val (.int (0 : Int32)), .val (.int (Int32.ofNat k0)), .unset, .unset] [(.int (Int32.ofNat k0)), (.int (0 : Int32))])) (fun _ k => XS.iloadN X0.here hx rfl (hb hby own_d34_1) rfl k) ?_
  obtain ⟨_, _, ⟨T1, L1, k1, n1⟩, -, X1, ⟨Lc1, hQ1, l1, y1, z1⟩, st1⟩ := Jvm.LawKit.callS X0 hx (y := (⟨"java/util/Arrays", "checkLength", "(II)V"⟩ : MethodName)) hown (mvT hZ (hw _ (List.mem_of_getElem? (i := 197) rfl))) (mvT hZ (hw _ (List.mem_of_getElem? (i := 198) rfl))) (mvT hZ (hw _ (List.mem_of_getElem? (i := 192) rfl))) (mvT hZ (hw _ (List.mem_of_getElem? (i := 199) rfl))) (by decide) (backOf (W := 0) (own_chkLen l Z a0 hw [] (Int32.ofNat k0) h0 n0 (by omega) (own_nn (by omega))) hZ (hw _ (List.mem_of_getElem? (i := 199) rfl)) (hw _ (List.mem_of_getElem? (i := 192) rfl)) (by decide) (by decide)) (g := (mkF m 2 #[.val (.ref da), .val (.int (0 : Int32)), .val (.int (Int32.ofNat k0)), .unset, .unset] [(.int (Int32.ofNat k0)), (.int (0 : Int32))])) rfl (by rw [hml]; rfl) (argsL := [(.int (0 : Int32)), (.int (Int32.ofNat k0))]) (rest := []) (lenOf own_pd_x28IIx29V rfl) rfl (by show 2 * 0 + _ ≤ _; exact Nat.le_of_eq rfl) (hb hby own_d34_2) (fun _ _ => ⟨rfl, e0, (by decide : 0 + 0 ≤ _), (by decide : 0 + 0 ≤ _)⟩)
  dsimp only [Pt.U, Pt.locs, Pt.cells, Pt.slots] at X1 l1 y1 z1 st1 hQ1
  subst l1 y1 z1
  obtain ⟨rfl, N1q, eh1⟩ := hQ1
  have N1 := Fr.app N0 N1q
  refine OwnFin.adv (B := T1.setTop (mkF m 5 #[.val (.ref da), .val (.int (0 : Int32)), .val (.int (Int32.ofNat k0)), .unset, .unset] [])) (fun _ k => st1 _ k) ?_
  refine OwnFin.adv (B := T1.setTop (mkF m 6 #[.val (.ref da), .val (.int (0 : Int32)), .val (.int (Int32.ofNat k0)), .unset, .unset] [(.int (Int32.ofNat k0))])) (fun _ k => XS.iloadN X1.here hx rfl (hb hby own_d34_5) rfl k) ?_
  refine OwnFin.adv (B := T1.setTop (mkF m 7 #[.val (.ref da), .val (.int (0 : Int32)), .val (.int (Int32.ofNat k0)), .unset, .unset] [(.int (0 : Int32)), (.int (Int32.ofNat k0))])) (fun _ k => XS.iloadN X1.here hx rfl (hb hby own_d34_6) rfl k) ?_
  refine OwnFin.adv (B := T1.setTop (mkF m 8 #[.val (.ref da), .val (.int (0 : Int32)), .val (.int (Int32.ofNat k0)), .unset, .unset] [(.int ((Int32.ofNat k0) - (0 : Int32)))])) (fun _ k => XS.isub X1.here hx rfl (hb hby own_d34_7) rfl k) ?_
  rw [show (((Int32.ofNat k0) - (0 : Int32)) : Int32) = (Int32.ofNat k0) from own_sub0 _]
  refine OwnFin.adv (B := T1.setTop (mkF m 9 #[.val (.ref da), .val (.int (0 : Int32)), .val (.int (Int32.ofNat k0)), .val (.int (Int32.ofNat k0)), .unset] [])) (fun _ k => XS.istoreN X1.here hx rfl (hb hby own_d34_8) rfl (l' := #[.val (.ref da), .val (.int (0 : Int32)), .val (.int (Int32.ofNat k0)), .val (.int (Int32.ofNat k0)), .unset]) rfl k) ?_
  refine OwnFin.adv (B := T1.setTop (mkF m 10 #[.val (.ref da), .val (.int (0 : Int32)), .val (.int (Int32.ofNat k0)), .val (.int (Int32.ofNat k0)), .unset] [(.int (Int32.ofNat k0))])) (fun _ k => XS.iloadN X1.here hx rfl (hb hby own_d34_9) rfl k) ?_
  obtain ⟨T2, h2, k2, X2, e2, E2, A2, st2⟩ := newP X1 hx hZ (hw _ (List.mem_of_getElem? (i := 23) rfl)) eh1 (g := (mkF m 10 #[.val (.ref da), .val (.int (0 : Int32)), .val (.int (Int32.ofNat k0)), .val (.int (Int32.ofNat k0)), .unset] [(.int (Int32.ofNat k0))])) rfl (hb hby own_d34_10) rfl (own_nn (by omega)) (cap := 64) (by rw [own_cl (by omega)]; omega) (by decide) (by decide) (by decide)
  obtain ⟨b2, g2⟩ : ∃ z, z = h0.size := ⟨_, rfl⟩
  rw [← g2] at A2 st2
  have sz3 : h0.size ≤ h2.size := E2.1
  have lt_b2 := own_lt A2.lt
  have V2 : Arv Z h2 b2 k2 .byte (Int32.ofNat k0) (List.replicate k0 (.int (0 : Int32))) (.int (0 : Int32)) := (Arv.new A2 (own_nn (by omega))).pad (pad_rep [] (.int (0 : Int32)) _)
  refine OwnFin.adv (B := T2.setTop (mkF m 12 #[.val (.ref da), .val (.int (0 : Int32)), .val (.int (Int32.ofNat k0)), .val (.int (Int32.ofNat k0)), .unset] [(.ref b2)])) (fun _ k => st2 _ k) ?_
  refine OwnFin.adv (B := T2.setTop (mkF m 14 #[.val (.ref da), .val (.int (0 : Int32)), .val (.int (Int32.ofNat k0)), .val (.int (Int32.ofNat k0)), .val (.ref b2)] [])) (fun _ k => XS.astore X2.here hx rfl (hb hby own_d34_12) rfl rfl (l' := #[.val (.ref da), .val (.int (0 : Int32)), .val (.int (Int32.ofNat k0)), .val (.int (Int32.ofNat k0)), .val (.ref b2)]) rfl k) ?_
  refine OwnFin.adv (B := T2.setTop (mkF m 15 #[.val (.ref da), .val (.int (0 : Int32)), .val (.int (Int32.ofNat k0)), .val (.int (Int32.ofNat k0)), .val (.ref b2)] [(.ref da)])) (fun _ k => XS.aloadN X2.here hx rfl (hb hby own_d34_14) rfl rfl k) ?_
  refine OwnFin.adv (B := T2.setTop (mkF m 16 #[.val (.ref da), .val (.int (0 : Int32)), .val (.int (Int32.ofNat k0)), .val (.int (Int32.ofNat k0)), .val (.ref b2)] [(.int (0 : Int32)), (.ref da)])) (fun _ k => XS.iloadN X2.here hx rfl (hb hby own_d34_15) rfl k) ?_
  refine OwnFin.adv (B := T2.setTop (mkF m 18 #[.val (.ref da), .val (.int (0 : Int32)), .val (.int (Int32.ofNat k0)), .val (.int (Int32.ofNat k0)), .val (.ref b2)] [(.ref b2), (.int (0 : Int32)), (.ref da)])) (fun _ k => XS.aload X2.here hx rfl (hb hby own_d34_16) rfl rfl k) ?_
  refine OwnFin.adv (B := T2.setTop (mkF m 19 #[.val (.ref da), .val (.int (0 : Int32)), .val (.int (Int32.ofNat k0)), .val (.int (Int32.ofNat k0)), .val (.ref b2)] [(.int (0 : Int32)), (.ref b2), (.int (0 : Int32)), (.ref da)])) (fun _ k => XS.iconst X2.here hx rfl (hb hby own_d34_18) k) ?_
  refine OwnFin.adv (B := T2.setTop (mkF m 20 #[.val (.ref da), .val (.int (0 : Int32)), .val (.int (Int32.ofNat k0)), .val (.int (Int32.ofNat k0)), .val (.ref b2)] [(.ref da), (.int (0 : Int32)), (.ref b2), (.int (0 : Int32)), (.ref da)])) (fun _ k => XS.aloadN X2.here hx rfl (hb hby own_d34_19) rfl rfl k) ?_
  have Fv5_1 : Arv Z h2 da kd .byte (Int32.ofNat cap) vd (.int (0 : Int32)) := (Va.ext E2)
  obtain ⟨cl4, Ar4, ck4, S4, M4, H4, G4⟩ := id Fv5_1
  refine OwnFin.adv (B := T2.setTop (mkF m 21 #[.val (.ref da), .val (.int (0 : Int32)), .val (.int (Int32.ofNat k0)), .val (.int (Int32.ofNat k0)), .val (.ref b2)] [(.int (Int32.ofNat cap)), (.int (0 : Int32)), (.ref b2), (.int (0 : Int32)), (.ref da)])) (fun _ k => X2.arraylength hx (by rw [e2]; exact Ar4.1) (State.isArrayOf_alike hZ.alike Ar4.2.1) (g := (mkF m 20 #[.val (.ref da), .val (.int (0 : Int32)), .val (.int (Int32.ofNat k0)), .val (.int (Int32.ofNat k0)), .val (.ref b2)] [(.ref da), (.int (0 : Int32)), (.ref b2), (.int (0 : Int32)), (.ref da)])) rfl rfl (hb hby own_d34_20) _ (by rw [len_of S4 M4]; exact k)) ?_
  refine OwnFin.adv (B := T2.setTop (mkF m 22 #[.val (.ref da), .val (.int (0 : Int32)), .val (.int (Int32.ofNat k0)), .val (.int (Int32.ofNat k0)), .val (.ref b2)] [(.int (0 : Int32)), (.int (Int32.ofNat cap)), (.int (0 : Int32)), (.ref b2), (.int (0 : Int32)), (.ref da)])) (fun _ k => XS.iloadN X2.here hx rfl (hb hby own_d34_21) rfl k) ?_
  refine OwnFin.adv (B := T2.setTop (mkF m 23 #[.val (.ref da), .val (.int (0 : Int32)), .val (.int (Int32.ofNat k0)), .val (.int (Int32.ofNat k0)), .val (.ref b2)] [(.int ((Int32.ofNat cap) - (0 : Int32))), (.int (0 : Int32)), (.ref b2), (.int (0 : Int32)), (.ref da)])) (fun _ k => XS.isub X2.here hx rfl (hb hby own_d34_22) rfl k) ?_
  refine OwnFin.adv (B := T2.setTop (mkF m 24 #[.val (.ref da), .val (.int (0 : Int32)), .val (.int (Int32.ofNat k0)), .val (.int (Int32.ofNat k0)), .val (.ref b2)] [(.int (Int32.ofNat k0)), (.int ((Int32.ofNat cap) - (0 : Int32))), (.int (0 : Int32)), (.ref b2), (.int (0 : Int32)), (.ref da)])) (fun _ k => XS.iloadN X2.here hx rfl (hb hby own_d34_23) rfl k) ?_
  rw [show (((Int32.ofNat cap) - (0 : Int32)) : Int32) = (Int32.ofNat cap) from own_sub0 _]
  obtain ⟨_, _, ⟨T6, L6, k6, n6⟩, -, X6, ⟨Lc6, hQ6, l6, y6, z6⟩, st6⟩ := Jvm.LawKit.callS X2 hx (y := (⟨"java/lang/Math", "min", "(II)I"⟩ : MethodName)) hown (mvT hZ (hw _ (List.mem_of_getElem? (i := 200) rfl))) (mvT hZ (hw _ (List.mem_of_getElem? (i := 201) rfl))) (mvT hZ (hw _ (List.mem_of_getElem? (i := 202) rfl))) (mvT hZ (hw _ (List.mem_of_getElem? (i := 203) rfl))) (by decide) (backOf (W := 4) (own_min l Z a0 hw [] (Int32.ofNat cap) (Int32.ofNat k0) h2 n0 (by omega) ((own_ltn (by omega) (by omega)).mpr hk)) hZ (hw _ (List.mem_of_getElem? (i := 203) rfl)) (hw _ (List.mem_of_getElem? (i := 202) rfl)) (by decide) (by decide)) (g := (mkF m 24 #[.val (.ref da), .val (.int (0 : Int32)), .val (.int (Int32.ofNat k0)), .val (.int (Int32.ofNat k0)), .val (.ref b2)] [(.int (Int32.ofNat k0)), (.int (Int32.ofNat cap)), (.int (0 : Int32)), (.ref b2), (.int (0 : Int32)), (.ref da)])) rfl (by rw [hml]; rfl) (argsL := [(.int (Int32.ofNat cap)), (.int (Int32.ofNat k0))]) (rest := [(.int (0 : Int32)), (.ref b2), (.int (0 : Int32)), (.ref da)]) (lenOf own_pd_x28IIx29I rfl) rfl (by show 2 * 0 + _ ≤ _; exact Nat.le_of_eq rfl) (hb hby own_d34_24) (fun _ _ => ⟨rfl, e2, (by decide : 1 + 0 ≤ _), (by decide : 64 + 0 ≤ _)⟩)
  dsimp only [Pt.U, Pt.locs, Pt.cells, Pt.slots] at X6 l6 y6 z6 st6 hQ6
  subst l6 y6 z6
  obtain ⟨rfl, N6q, eh6⟩ := hQ6
  have N6 := Fr.app N1 N6q
  refine OwnFin.adv (B := T6.setTop (mkF m 27 #[.val (.ref da), .val (.int (0 : Int32)), .val (.int (Int32.ofNat k0)), .val (.int (Int32.ofNat k0)), .val (.ref b2)] [(.int (Int32.ofNat k0)), (.int (0 : Int32)), (.ref b2), (.int (0 : Int32)), (.ref da)])) (fun _ k => st6 _ k) ?_
  obtain ⟨T7, h7, L7, X7, e7, N7, K7, V7, st7⟩ := cpA X6 hx hZ hown (hw _ (List.mem_of_getElem? (i := 204) rfl)) (hw _ (List.mem_of_getElem? (i := 158) rfl)) (hw _ (List.mem_of_getElem? (i := 156) rfl)) (hw _ (List.mem_of_getElem? (i := 157) rfl)) eh6 Fv5_1 V2 (Or.inl ⟨rfl, rfl⟩) (by decide) (by decide) (own_nn (by omega)) (by rw [own_cl (by omega), own_cl (by omega)]; show 0 + k0 ≤ cap; omega) (by rw [own_cl (by omega)]; exact Nat.le_of_eq (Nat.zero_add _)) (us := (vd.take k0)) (by rw [own_cl (by omega)]; exact own_first _ _ _ (by omega)) (by rw [own_cl (by omega), List.length_replicate]; exact Nat.le_of_eq (Nat.zero_add _)) N6 (by omega) (g := (mkF m 27 #[.val (.ref da), .val (.int (0 : Int32)), .val (.int (Int32.ofNat k0)), .val (.int (Int32.ofNat k0)), .val (.ref b2)] [(.int (Int32.ofNat k0)), (.int (0 : Int32)), (.ref b2), (.int (0 : Int32)), (.ref da)])) rfl (by rw [hml]; rfl) rfl (hb hby own_d34_27) (by decide) (W := 0) (by show 2 * 0 + _ ≤ _; exact Nat.le_of_eq rfl) (by decide)
  have sz8 : h2.size ≤ h7.size := K7.1
  have V7n : Arv Z h7 b2 k2 .byte (Int32.ofNat k0) (vd.take k0) (.int (0 : Int32)) := by
    have q := V7
    rw [show _ ++ _ ++ _ = (vd.take k0) from by rw [show (0 : Int32).toNatClampNeg = 0 from rfl, own_cl (by omega)]; simp] at q
    exact q
  refine OwnFin.adv (B := T7.setTop (mkF m 30 #[.val (.ref da), .val (.int (0 : Int32)), .val (.int (Int32.ofNat k0)), .val (.int (Int32.ofNat k0)), .val (.ref b2)] [])) (fun _ k => st7 _ k) ?_
  refine OwnFin.adv (B := T7.setTop (mkF m 32 #[.val (.ref da), .val (.int (0 : Int32)), .val (.int (Int32.ofNat k0)), .val (.int (Int32.ofNat k0)), .val (.ref b2)] [(.ref b2)])) (fun _ k => XS.aload X7.here hx rfl (hb hby own_d34_30) rfl rfl k) ?_
  obtain ⟨fs, hr, hrun, hended, hW, hsame⟩ := X7.leave (v := some (.ref b2)) (fun h => by rw [Bd.returns] at h; cases h)
  refine OwnFin.leaf hP' ⟨_, _, own_retR X7 hx Bd.returns rfl rfl rfl (hb hby own_d34_32) hr, hrun, hended, _, _, rfl, ?_, ⟨_, rfl⟩, hW, hsame.mono (by decide) (by decide)⟩
  rw [show (T7.setFrames fs).heap = h7 from e7]
  exact ⟨_, _, rfl, N7, (((Keep.refl h0 []).ext E2).trans K7 (allS (Or.inr (by omega)) all0)), by omega, V7n⟩
theorem own_d33_0 : decode jdk_65_method_132_code 0 = .ok (.iload_n 1, 1) := by decide +kernel
theorem own_d33_1 : decode jdk_65_method_132_code 1 = .ok (.ifCond .ne 9, 3) := by decide +kernel
theorem own_d33_4 : decode jdk_65_method_132_code 4 = .ok (.iload_n 2, 1) := by decide +kernel
theorem own_d33_5 : decode jdk_65_method_132_code 5 = .ok (.aload_n 0, 1) := by decide +kernel
theorem own_d33_6 : decode jdk_65_method_132_code 6 = .ok (.arraylength, 1) := by decide +kernel
theorem own_d33_7 : decode jdk_65_method_132_code 7 = .ok (.if_icmp .eq 10, 3) := by decide +kernel
theorem own_d33_10 : decode jdk_65_method_132_code 10 = .ok (.aload_n 0, 1) := by decide +kernel
theorem own_d33_11 : decode jdk_65_method_132_code 11 = .ok (.iload_n 1, 1) := by decide +kernel
theorem own_d33_12 : decode jdk_65_method_132_code 12 = .ok (.iload_n 2, 1) := by decide +kernel
theorem own_pd_x28x5bBIIx29x5bB : parseMethodDescriptor "([BII)[B" = some ⟨[(.array .byte), .int, .int], some (.array .byte)⟩ := by decide +kernel
theorem own_d33_13 : decode jdk_65_method_132_code 13 = .ok (.invokestatic 339, 3) := by decide +kernel
theorem own_d33_16 : decode jdk_65_method_132_code 16 = .ok (.areturn, 1) := by decide +kernel
theorem own_ef_cor (m : MethodId) (x0 : Addr) (x1 : Int32) (x2 : Int32) : entryFrame m #[(.ref x0), (.int x1), (.int x2)] 3 = mkF m 0 #[.val (.ref x0), .val (.int x1), .val (.int x2)] [] := by first | (simp [entryFrame, mkF, argsToLocals, Value.category]; done) | rfl
def own_Q_cor (Z : State) (da : Addr) (kd : ClassId) (vd : List Value) (cap k0 : Nat) (h0 : Heap) (n0 : Nat) (v : Option Value) (h : Heap) (L : List Loc) : Prop := ∃ (t : Addr) (kt : ClassId), v = some (.ref t) ∧ Fr n0 L ∧ Keep h0 h [] ∧ h0.size ≤ t ∧ Arv Z h t kt .byte (Int32.ofNat k0) (vd.take k0) (.int (0 : Int32))
set_option maxRecDepth 65536 in
set_option maxHeartbeats 40000000 in
theorem own_cor (l : Launch) (Z : State) (a0 : Array Value) (hw : ∀ d ∈ tables_1, d.before a0 Z = true) (ws : List Jvm.Cond) (da : Addr) (kd : ClassId) (vd : List Value) (cap k0 : Nat) (h0 : Heap) (n0 : Nat) (Z0 : n0 ≤ h0.size) (Va : Arv Z h0 da kd .byte (Int32.ofNat cap) vd (.int (0 : Int32))) (hcap : cap ≤ 4000) (hvd : vd.length = cap) (hk : k0 < cap) (hk64 : k0 ≤ 64) :
    MetFree l (⟨"java/util/Arrays", "copyOfRange", "([BII)[B"⟩ : MethodName) (head1 (Jvm.Cond.code (⟨"java/util/Arrays", "copyOfRange", "([BII)[B"⟩ : MethodName) jdk_65_method_132_code 3 (some (.array .byte)) :: ws) ({ frames := 2, cells := 1, slots := 64, locals := 34 } : Room)) (fun A0 U0 => A0 = #[(.ref da), (.int (0 : Int32)), (.int (Int32.ofNat k0))] ∧ Z.Warmed39 U0.vm ∧ U0.heap = h0) (fun _ _ _ _ _ => True) (fun _ U0 o0 U1 => ∃ v0 L0, o0 = .returned v0 ∧ own_Q_cor Z da kd vd cap k0 h0 n0 v0 U1.heap L0 ∧ FrameEnd U0 o0 U1 L0 ({ frames := 2, cells := 1, slots := 64, locals := 34 } : Room).cells ({ frames := 2, cells := 1, slots := 64, locals := 34 } : Room).slots) := by
  refine MetFree.of_bodySF (plainFor_of_name own_pn_java_util_Arrays) hisR ?_
  intro p e s m args below meth c s₁ Bd hml0 hP hK
  obtain ⟨rfl, hZ, hh⟩ := hP
  have hZs := hZ
  have hx := Bd.exec
  have hby := Bd.bytes
  have hml : c.maxLocals = 3 := hml0
  have hown : s.vm.findClass "java/util/Arrays" = some m.cls := findClass_of_methodNamed Bd.named
  have hnm := (name_of_methodNamed Bd.named Bd.method).1
  have X0 : Stand p l e ({ frames := 2, cells := 1, slots := 64, locals := 34 } : Room) s m #[(.ref da), (.int (0 : Int32)), (.int (Int32.ofNat k0))] below meth c s₁ [] 0 0 := Stand.of_body Bd
  have e0 : s₁.heap = h0 := by rw [← hh, Bd.state]; rfl
  have N0 := Fr.nil n0
  refine OwnFin.entry (own_ef_cor m da (0 : Int32) (Int32.ofNat k0)) (fun P' hP' => ?_)
  have lt_da := own_lt Va.lt
  refine OwnFin.adv (B := s₁.setTop (mkF m 1 #[.val (.ref da), .val (.int (0 : Int32)), .val (.int (Int32.ofNat k0))] [(.int (0 : Int32))])) (fun _ k => XS.iloadN X0.here hx rfl (hb hby own_d33_0) rfl k) ?_
  have hc1_2 : (0 : Int32) = (0 : Int32) := rfl
  refine OwnFin.adv (B := s₁.setTop (mkF m 4 #[.val (.ref da), .val (.int (0 : Int32)), .val (.int (Int32.ofNat k0))] [])) (fun _ k => XS.ifNo X0.here hx rfl (hb hby own_d33_1) rfl ((if0 _ _).trans (teq hc1_2).2) k) ?_
  refine OwnFin.adv (B := s₁.setTop (mkF m 5 #[.val (.ref da), .val (.int (0 : Int32)), .val (.int (Int32.ofNat k0))] [(.int (Int32.ofNat k0))])) (fun _ k => XS.iloadN X0.here hx rfl (hb hby own_d33_4) rfl k) ?_
  refine OwnFin.adv (B := s₁.setTop (mkF m 6 #[.val (.ref da), .val (.int (0 : Int32)), .val (.int (Int32.ofNat k0))] [(.ref da), (.int (Int32.ofNat k0))])) (fun _ k => XS.aloadN X0.here hx rfl (hb hby own_d33_5) rfl rfl k) ?_
  obtain ⟨cl1, Ar1, ck1, S1, M1, H1, G1⟩ := id Va
  refine OwnFin.adv (B := s₁.setTop (mkF m 7 #[.val (.ref da), .val (.int (0 : Int32)), .val (.int (Int32.ofNat k0))] [(.int (Int32.ofNat cap)), (.int (Int32.ofNat k0))])) (fun _ k => X0.arraylength hx (by rw [e0]; exact Ar1.1) (State.isArrayOf_alike hZ.alike Ar1.2.1) (g := (mkF m 6 #[.val (.ref da), .val (.int (0 : Int32)), .val (.int (Int32.ofNat k0))] [(.ref da), (.int (Int32.ofNat k0))])) rfl rfl (hb hby own_d33_6) _ (by rw [len_of S1 M1]; exact k)) ?_
  have hc7_6 : ¬ ((Int32.ofNat k0) = (Int32.ofNat cap)) := fun q => absurd ((own_eqn (by omega) (by omega)).mp q) (by omega)
  refine OwnFin.adv (B := s₁.setTop (mkF m 10 #[.val (.ref da), .val (.int (0 : Int32)), .val (.int (Int32.ofNat k0))] [])) (fun _ k => XS.icmpNo X0.here hx rfl (hb hby own_d33_7) rfl (feq hc7_6).1 k) ?_
  refine OwnFin.adv (B := s₁.setTop (mkF m 11 #[.val (.ref da), .val (.int (0 : Int32)), .val (.int (Int32.ofNat k0))] [(.ref da)])) (fun _ k => XS.aloadN X0.here hx rfl (hb hby own_d33_10) rfl rfl k) ?_
  refine OwnFin.adv (B := s₁.setTop (mkF m 12 #[.val (.ref da), .val (.int (0 : Int32)), .val (.int (Int32.ofNat k0))] [(.int (0 : Int32)), (.ref da)])) (fun _ k => XS.iloadN X0.here hx rfl (hb hby own_d33_11) rfl k) ?_
  refine OwnFin.adv (B := s₁.setTop (mkF m 13 #[.val (.ref da), .val (.int (0 : Int32)), .val (.int (Int32.ofNat k0))] [(.int (Int32.ofNat k0)), (.int (0 : Int32)), (.ref da)])) (fun _ k => XS.iloadN X0.here hx rfl (hb hby own_d33_12) rfl k) ?_
  obtain ⟨_, _, ⟨T2, L2, k2, n2⟩, -, X2, ⟨Lc2, hQ2, l2, y2, z2⟩, st2⟩ := Jvm.LawKit.callS X0 hx (y := (⟨"java/util/Arrays", "copyOfRangeByte", "([BII)[B"⟩ : MethodName)) hown (mvT hZ (hw _ (List.mem_of_getElem? (i := 194) rfl))) (mvT hZ (hw _ (List.mem_of_getElem? (i := 195) rfl))) (mvT hZ (hw _ (List.mem_of_getElem? (i := 192) rfl))) (mvT hZ (hw _ (List.mem_of_getElem? (i := 196) rfl))) (by decide) (backOf (W := 0) (own_corb l Z a0 hw [] da kd vd cap k0 h0 n0 (by omega) Va hcap hvd hk hk64) hZ (hw _ (List.mem_of_getElem? (i := 196) rfl)) (hw _ (List.mem_of_getElem? (i := 192) rfl)) (by decide) (by decide)) (g := (mkF m 13 #[.val (.ref da), .val (.int (0 : Int32)), .val (.int (Int32.ofNat k0))] [(.int (Int32.ofNat k0)), (.int (0 : Int32)), (.ref da)])) rfl (by rw [hml]; rfl) (argsL := [(.ref da), (.int (0 : Int32)), (.int (Int32.ofNat k0))]) (rest := []) (lenOf own_pd_x28x5bBIIx29x5bB rfl) rfl (by show 2 * 0 + _ ≤ _; exact Nat.le_of_eq rfl) (hb hby own_d33_13) (fun _ _ => ⟨rfl, e0, (by decide : 0 + 1 ≤ _), (by decide : 0 + 64 ≤ _)⟩)
  dsimp only [Pt.U, Pt.locs, Pt.cells, Pt.slots] at X2 l2 y2 z2 st2 hQ2
  subst l2 y2 z2
  obtain ⟨t2, kt2, rfl, N2q, K2, ge2, Vt2⟩ := hQ2
  have N2 := Fr.app N0 N2q
  have sz3 : h0.size ≤ T2.heap.size := K2.1
  have lt_t2 := own_lt Vt2.lt
  refine OwnFin.adv (B := T2.setTop (mkF m 16 #[.val (.ref da), .val (.int (0 : Int32)), .val (.int (Int32.ofNat k0))] [(.ref t2)])) (fun _ k => st2 _ k) ?_
  obtain ⟨fs, hr, hrun, hended, hW, hsame⟩ := X2.leave (v := some (.ref t2)) (fun h => by rw [Bd.returns] at h; cases h)
  refine OwnFin.leaf hP' ⟨_, _, own_retR X2 hx Bd.returns rfl rfl rfl (hb hby own_d33_16) hr, hrun, hended, _, _, rfl, ?_, ⟨_, rfl⟩, hW, hsame.mono (by decide) (by decide)⟩
  rw [show (T2.setFrames fs).heap = T2.heap from rfl]
  exact ⟨_, _, rfl, N2, ((Keep.refl h0 []).trans K2 all0), by omega, Vt2⟩
theorem own_d29_0 : decode jdk_68_method_64_code 0 = .ok (.aload_n 0, 1) := by decide +kernel
theorem own_d29_1 : decode jdk_68_method_64_code 1 = .ok (.getfield 15, 3) := by decide +kernel
theorem own_d29_4 : decode jdk_68_method_64_code 4 = .ok (.areturn, 1) := by decide +kernel
theorem own_ef_getV (m : MethodId) (x0 : Addr) : entryFrame m #[(.ref x0)] 1 = mkF m 0 #[.val (.ref x0)] [] := by first | (simp [entryFrame, mkF, argsToLocals, Value.category]; done) | rfl
def own_Q_getV (Z : State) (ob da : Addr) (h0 : Heap) (n0 : Nat) (v : Option Value) (h : Heap) (L : List Loc) : Prop := v = some (.ref da) ∧ Fr n0 L ∧ h = h0
set_option maxRecDepth 65536 in
set_option maxHeartbeats 40000000 in
theorem own_getV (l : Launch) (Z : State) (a0 : Array Value) (hw : ∀ d ∈ tables_1, d.before a0 Z = true) (ws : List Jvm.Cond) (ob da : Addr) (h0 : Heap) (n0 : Nat) (Z0 : n0 ≤ h0.size) (Fv : Fld Z h0 ob "java/lang/AbstractStringBuilder" "value" "[B" (.ref da)) :
    MetFree l (⟨"java/lang/AbstractStringBuilder", "getValue", "()[B"⟩ : MethodName) (head1 (Jvm.Cond.code (⟨"java/lang/AbstractStringBuilder", "getValue", "()[B"⟩ : MethodName) jdk_68_method_64_code 1 (some (.array .byte)) :: ws) ({ frames := 0, cells := 0, slots := 0, locals := 0 } : Room)) (fun A0 U0 => A0 = #[(.ref ob)] ∧ Z.Warmed39 U0.vm ∧ U0.heap = h0) (fun _ _ _ _ _ => True) (fun _ U0 o0 U1 => ∃ v0 L0, o0 = .returned v0 ∧ own_Q_getV Z ob da h0 n0 v0 U1.heap L0 ∧ FrameEnd U0 o0 U1 L0 ({ frames := 0, cells := 0, slots := 0, locals := 0 } : Room).cells ({ frames := 0, cells := 0, slots := 0, locals := 0 } : Room).slots) := by
  refine MetFree.of_bodySF (plainFor_of_name own_pn_java_lang_AbstractStringBuilder) hisR ?_
  intro p e s m args below meth c s₁ Bd hml0 hP hK
  obtain ⟨rfl, hZ, hh⟩ := hP
  have hZs := hZ
  have hx := Bd.exec
  have hby := Bd.bytes
  have hml : c.maxLocals = 1 := hml0
  have hown : s.vm.findClass "java/lang/AbstractStringBuilder" = some m.cls := findClass_of_methodNamed Bd.named
  have hnm := (name_of_methodNamed Bd.named Bd.method).1
  have X0 : Stand p l e ({ frames := 0, cells := 0, slots := 0, locals := 0 } : Room) s m #[(.ref ob)] below meth c s₁ [] 0 0 := Stand.of_body Bd
  have e0 : s₁.heap = h0 := by rw [← hh, Bd.state]; rfl
  have N0 := Fr.nil n0
  refine OwnFin.entry (own_ef_getV m ob) (fun P' hP' => ?_)
  refine OwnFin.adv (B := s₁.setTop (mkF m 1 #[.val (.ref ob)] [(.ref ob)])) (fun _ k => XS.aloadN X0.here hx rfl (hb hby own_d29_0) rfl rfl k) ?_
  obtain ⟨T1, X1, e1, st1⟩ := getF X0 hx hZ hown (host := "") (Or.inl (hw _ (List.mem_of_getElem? (i := 107) rfl))) Via.refl e0 Fv (g := (mkF m 1 #[.val (.ref ob)] [(.ref ob)])) rfl rfl (hb hby own_d29_1)
  refine OwnFin.adv (B := T1.setTop (mkF m 4 #[.val (.ref ob)] [(.ref da)])) (fun _ k => st1 _ k) ?_
  obtain ⟨fs, hr, hrun, hended, hW, hsame⟩ := X1.leave (v := some (.ref da)) (fun h => by rw [Bd.returns] at h; cases h)
  refine OwnFin.leaf hP' ⟨_, _, own_retR X1 hx Bd.returns rfl rfl rfl (hb hby own_d29_4) hr, hrun, hended, _, _, rfl, ?_, ⟨_, rfl⟩, hW, hsame.mono (by decide) (by decide)⟩
  exact ⟨rfl, N0, e1⟩
theorem own_d31_0 : decode jdk_68_method_6_code 0 = .ok (.aload_n 0, 1) := by decide +kernel
theorem own_d31_1 : decode jdk_68_method_6_code 1 = .ok (.getfield 79, 3) := by decide +kernel
theorem own_d31_4 : decode jdk_68_method_6_code 4 = .ok (.ireturn, 1) := by decide +kernel
theorem own_ef_asbLen (m : MethodId) (x0 : Addr) : entryFrame m #[(.ref x0)] 1 = mkF m 0 #[.val (.ref x0)] [] := by first | (simp [entryFrame, mkF, argsToLocals, Value.category]; done) | rfl
def own_Q_asbLen (Z : State) (ob : Addr) (k0 : Nat) (h0 : Heap) (n0 : Nat) (v : Option Value) (h : Heap) (L : List Loc) : Prop := v = some (.int (Int32.ofNat k0)) ∧ Fr n0 L ∧ h = h0
set_option maxRecDepth 65536 in
set_option maxHeartbeats 40000000 in
theorem own_asbLen (l : Launch) (Z : State) (a0 : Array Value) (hw : ∀ d ∈ tables_1, d.before a0 Z = true) (ws : List Jvm.Cond) (ob : Addr) (k0 : Nat) (h0 : Heap) (n0 : Nat) (Z0 : n0 ≤ h0.size) (Fn : Fld Z h0 ob "java/lang/AbstractStringBuilder" "count" "I" (.int (Int32.ofNat k0))) :
    MetFree l (⟨"java/lang/AbstractStringBuilder", "length", "()I"⟩ : MethodName) (head1 (Jvm.Cond.code (⟨"java/lang/AbstractStringBuilder", "length", "()I"⟩ : MethodName) jdk_68_method_6_code 1 (some .int) :: ws) ({ frames := 0, cells := 0, slots := 0, locals := 0 } : Room)) (fun A0 U0 => A0 = #[(.ref ob)] ∧ Z.Warmed39 U0.vm ∧ U0.heap = h0) (fun _ _ _ _ _ => True) (fun _ U0 o0 U1 => ∃ v0 L0, o0 = .returned v0 ∧ own_Q_asbLen Z ob k0 h0 n0 v0 U1.heap L0 ∧ FrameEnd U0 o0 U1 L0 ({ frames := 0, cells := 0, slots := 0, locals := 0 } : Room).cells ({ frames := 0, cells := 0, slots := 0, locals := 0 } : Room).slots) := by
  refine MetFree.of_bodySF (plainFor_of_name own_pn_java_lang_AbstractStringBuilder) hisR ?_
  intro p e s m args below meth c s₁ Bd hml0 hP hK
  obtain ⟨rfl, hZ, hh⟩ := hP
  have hZs := hZ
  have hx := Bd.exec
  have hby := Bd.bytes
  have hml : c.maxLocals = 1 := hml0
  have hown : s.vm.findClass "java/lang/AbstractStringBuilder" = some m.cls := findClass_of_methodNamed Bd.named
  have hnm := (name_of_methodNamed Bd.named Bd.method).1
  have X0 : Stand p l e ({ frames := 0, cells := 0, slots := 0, locals := 0 } : Room) s m #[(.ref ob)] below meth c s₁ [] 0 0 := Stand.of_body Bd
  have e0 : s₁.heap = h0 := by rw [← hh, Bd.state]; rfl
  have N0 := Fr.nil n0
  refine OwnFin.entry (own_ef_asbLen m ob) (fun P' hP' => ?_)
  refine OwnFin.adv (B := s₁.setTop (mkF m 1 #[.val (.ref ob)] [(.ref ob)])) (fun _ k => XS.aloadN X0.here hx rfl (hb hby own_d31_0) rfl rfl k) ?_
  obtain ⟨T1, X1, e1, st1⟩ := getF X0 hx hZ hown (host := "") (Or.inl (hw _ (List.mem_of_getElem? (i := 132) rfl))) Via.refl e0 Fn (g := (mkF m 1 #[.val (.ref ob)] [(.ref ob)])) rfl rfl (hb hby own_d31_1)
  refine OwnFin.adv (B := T1.setTop (mkF m 4 #[.val (.ref ob)] [(.int (Int32.ofNat k0))])) (fun _ k => st1 _ k) ?_
  obtain ⟨fs, hr, hrun, hended, hW, hsame⟩ := X1.leave (v := some (.int (Int32.ofNat k0))) (fun h => by rw [Bd.returns] at h; cases h)
  refine OwnFin.leaf hP' ⟨_, _, own_retI X1 hx Bd.returns (hb hby own_d31_4) hr, hrun, hended, _, _, rfl, ?_, ⟨_, rfl⟩, hW, hsame.mono (by decide) (by decide)⟩
  exact ⟨rfl, N0, e1⟩
theorem own_d30_0 : decode jdk_67_method_93_code 0 = .ok (.aload_n 0, 1) := by decide +kernel
theorem own_d30_1 : decode jdk_67_method_93_code 1 = .ok (.invokespecial 343, 3) := by decide +kernel
theorem own_d30_4 : decode jdk_67_method_93_code 4 = .ok (.ireturn, 1) := by decide +kernel
theorem own_ef_sbLen (m : MethodId) (x0 : Addr) : entryFrame m #[(.ref x0)] 1 = mkF m 0 #[.val (.ref x0)] [] := by first | (simp [entryFrame, mkF, argsToLocals, Value.category]; done) | rfl
def own_Q_sbLen (Z : State) (ob : Addr) (k0 : Nat) (h0 : Heap) (n0 : Nat) (v : Option Value) (h : Heap) (L : List Loc) : Prop := v = some (.int (Int32.ofNat k0)) ∧ Fr n0 L ∧ h = h0
set_option maxRecDepth 65536 in
set_option maxHeartbeats 40000000 in
theorem own_sbLen (l : Launch) (Z : State) (a0 : Array Value) (hw : ∀ d ∈ tables_1, d.before a0 Z = true) (ws : List Jvm.Cond) (ob : Addr) (k0 : Nat) (h0 : Heap) (n0 : Nat) (Z0 : n0 ≤ h0.size) (E : Exa Z h0 ob "java/lang/StringBuilder") (Fn : Fld Z h0 ob "java/lang/AbstractStringBuilder" "count" "I" (.int (Int32.ofNat k0))) :
    MetFree l (⟨"java/lang/StringBuilder", "length", "()I"⟩ : MethodName) (head1 (Jvm.Cond.code (⟨"java/lang/StringBuilder", "length", "()I"⟩ : MethodName) jdk_67_method_93_code 1 (some .int) :: ws) ({ frames := 1, cells := 0, slots := 0, locals := 12 } : Room)) (fun A0 U0 => A0 = #[(.ref ob)] ∧ Z.Warmed39 U0.vm ∧ U0.heap = h0) (fun _ _ _ _ _ => True) (fun _ U0 o0 U1 => ∃ v0 L0, o0 = .returned v0 ∧ own_Q_sbLen Z ob k0 h0 n0 v0 U1.heap L0 ∧ FrameEnd U0 o0 U1 L0 ({ frames := 1, cells := 0, slots := 0, locals := 12 } : Room).cells ({ frames := 1, cells := 0, slots := 0, locals := 12 } : Room).slots) := by
  refine MetFree.of_bodySF (plainFor_of_name own_pn_java_lang_StringBuilder) hisR ?_
  intro p e s m args below meth c s₁ Bd hml0 hP hK
  obtain ⟨rfl, hZ, hh⟩ := hP
  have hZs := hZ
  have hx := Bd.exec
  have hby := Bd.bytes
  have hml : c.maxLocals = 1 := hml0
  have hown : s.vm.findClass "java/lang/StringBuilder" = some m.cls := findClass_of_methodNamed Bd.named
  have hnm := (name_of_methodNamed Bd.named Bd.method).1
  have X0 : Stand p l e ({ frames := 1, cells := 0, slots := 0, locals := 12 } : Room) s m #[(.ref ob)] below meth c s₁ [] 0 0 := Stand.of_body Bd
  have e0 : s₁.heap = h0 := by rw [← hh, Bd.state]; rfl
  have N0 := Fr.nil n0
  refine OwnFin.entry (own_ef_sbLen m ob) (fun P' hP' => ?_)
  refine OwnFin.adv (B := s₁.setTop (mkF m 1 #[.val (.ref ob)] [(.ref ob)])) (fun _ k => XS.aloadN X0.here hx rfl (hb hby own_d30_0) rfl rfl k) ?_
  obtain ⟨_, _, ⟨T1, L1, k1, n1⟩, -, X1, ⟨Lc1, hQ1, l1, y1, z1⟩, st1⟩ := superBack X0 hx hZ (y := (⟨"java/lang/AbstractStringBuilder", "length", "()I"⟩ : MethodName)) hown (hw _ (List.mem_of_getElem? (i := 183) rfl)) (own_same (y := (⟨"java/lang/AbstractStringBuilder", "length", "()I"⟩ : MethodName)) (z := (⟨"java/lang/AbstractStringBuilder", "ensureCapacityInternal", "(I)V"⟩ : MethodName)) (hw _ (List.mem_of_getElem? (i := 178) rfl)) (own_decl (hw _ (List.mem_of_getElem? (i := 135) rfl)) (hw _ (List.mem_of_getElem? (i := 138) rfl))) (notFace_of_selects (args := a0) (hw _ (List.mem_of_getElem? (i := 137) rfl))) rfl (by decide)) (hw _ (List.mem_of_getElem? (i := 179) rfl)) (hw _ (List.mem_of_getElem? (i := 119) rfl)) (by decide) (backOf (W := 0) (own_asbLen l Z a0 hw [] ob k0 h0 n0 (by omega) Fn) hZ (hw _ (List.mem_of_getElem? (i := 184) rfl)) (hw _ (List.mem_of_getElem? (i := 103) rfl)) (by decide) (by decide)) e0 (Ins.self E) (g := (mkF m 1 #[.val (.ref ob)] [(.ref ob)])) rfl (by rw [hml]; rfl) (hw _ (List.mem_of_getElem? (i := 184) rfl)) (argsL := []) (rest := []) (lenOf own_pd_x28x29I rfl) rfl (by show 2 * 0 + _ ≤ _; exact Nat.le_of_eq rfl) (hb hby own_d30_1) (fun _ _ => ⟨rfl, e0, (by decide : 0 + 0 ≤ _), (by decide : 0 + 0 ≤ _)⟩)
  dsimp only [Pt.U, Pt.locs, Pt.cells, Pt.slots] at X1 l1 y1 z1 st1 hQ1
  subst l1 y1 z1
  obtain ⟨rfl, N1q, eh1⟩ := hQ1
  have N1 := Fr.app N0 N1q
  refine OwnFin.adv (B := T1.setTop (mkF m 4 #[.val (.ref ob)] [(.int (Int32.ofNat k0))])) (fun _ k => st1.trans k) ?_
  obtain ⟨fs, hr, hrun, hended, hW, hsame⟩ := X1.leave (v := some (.int (Int32.ofNat k0))) (fun h => by rw [Bd.returns] at h; cases h)
  refine OwnFin.leaf hP' ⟨_, _, own_retI X1 hx Bd.returns (hb hby own_d30_4) hr, hrun, hended, _, _, rfl, ?_, ⟨_, rfl⟩, hW, hsame.mono (by decide) (by decide)⟩
  exact ⟨rfl, N1, eh1⟩
theorem own_d32_0 : decode jdk_68_method_68_code 0 = .ok (.getstatic 18, 3) := by decide +kernel
theorem own_d32_3 : decode jdk_68_method_68_code 3 = .ok (.ifCond .eq 14, 3) := by decide +kernel
theorem own_d32_6 : decode jdk_68_method_68_code 6 = .ok (.aload_n 0, 1) := by decide +kernel
theorem own_d32_7 : decode jdk_68_method_68_code 7 = .ok (.getfield 22, 3) := by decide +kernel
theorem own_d32_10 : decode jdk_68_method_68_code 10 = .ok (.ifCond .ne 7, 3) := by decide +kernel
theorem own_d32_13 : decode jdk_68_method_68_code 13 = .ok (.iconst 1, 1) := by decide +kernel
theorem own_d32_14 : decode jdk_68_method_68_code 14 = .ok (.goto 4, 3) := by decide +kernel
theorem own_d32_18 : decode jdk_68_method_68_code 18 = .ok (.ireturn, 1) := by decide +kernel
theorem own_ef_isL1 (m : MethodId) (x0 : Addr) : entryFrame m #[(.ref x0)] 1 = mkF m 0 #[.val (.ref x0)] [] := by first | (simp [entryFrame, mkF, argsToLocals, Value.category]; done) | rfl
def own_Q_isL1 (Z : State) (ob : Addr) (zc : Int32) (h0 : Heap) (n0 : Nat) (v : Option Value) (h : Heap) (L : List Loc) : Prop := v = some (.int (1 : Int32)) ∧ Fr n0 L ∧ h = h0
set_option maxRecDepth 65536 in
set_option maxHeartbeats 40000000 in
theorem own_isL1 (l : Launch) (Z : State) (a0 : Array Value) (hw : ∀ d ∈ tables_1, d.before a0 Z = true) (ws : List Jvm.Cond) (ob : Addr) (zc : Int32) (h0 : Heap) (n0 : Nat) (Z0 : n0 ≤ h0.size) (O0 : Old Z n0 h0) (SCS : Sta Z Z.heap "java/lang/String" "COMPACT_STRINGS" "Z" (.int zc)) (hzc : ¬ zc = 0) (Fc : Fld Z h0 ob "java/lang/AbstractStringBuilder" "coder" "B" (.int (0 : Int32))) :
    MetFree l (⟨"java/lang/AbstractStringBuilder", "isLatin1", "()Z"⟩ : MethodName) (head1 (Jvm.Cond.code (⟨"java/lang/AbstractStringBuilder", "isLatin1", "()Z"⟩ : MethodName) jdk_68_method_68_code 1 (some .boolean) :: ws) ({ frames := 0, cells := 0, slots := 0, locals := 0 } : Room)) (fun A0 U0 => A0 = #[(.ref ob)] ∧ Z.Warmed39 U0.vm ∧ U0.heap = h0) (fun _ _ _ _ _ => True) (fun _ U0 o0 U1 => ∃ v0 L0, o0 = .returned v0 ∧ own_Q_isL1 Z ob zc h0 n0 v0 U1.heap L0 ∧ FrameEnd U0 o0 U1 L0 ({ frames := 0, cells := 0, slots := 0, locals := 0 } : Room).cells ({ frames := 0, cells := 0, slots := 0, locals := 0 } : Room).slots) := by
  refine MetFree.of_bodySF (plainFor_of_name own_pn_java_lang_AbstractStringBuilder) hisR ?_
  intro p e s m args below meth c s₁ Bd hml0 hP hK
  obtain ⟨rfl, hZ, hh⟩ := hP
  have hZs := hZ
  have hx := Bd.exec
  have hby := Bd.bytes
  have hml : c.maxLocals = 1 := hml0
  have hown : s.vm.findClass "java/lang/AbstractStringBuilder" = some m.cls := findClass_of_methodNamed Bd.named
  have hnm := (name_of_methodNamed Bd.named Bd.method).1
  have X0 : Stand p l e ({ frames := 0, cells := 0, slots := 0, locals := 0 } : Room) s m #[(.ref ob)] below meth c s₁ [] 0 0 := Stand.of_body Bd
  have e0 : s₁.heap = h0 := by rw [← hh, Bd.state]; rfl
  have N0 := Fr.nil n0
  refine OwnFin.entry (own_ef_isL1 m ob) (fun P' hP' => ?_)
  obtain ⟨T1, X1, e1, st1⟩ := getS2 X0 hx hZ hown (host := "") (Or.inl (hw _ (List.mem_of_getElem? (i := 106) rfl))) Via.refl e0 (own_staK SCS O0) (g := (mkF m 0 #[.val (.ref ob)] [])) rfl (hb hby own_d32_0)
  refine OwnFin.adv (B := T1.setTop (mkF m 3 #[.val (.ref ob)] [(.int zc)])) (fun _ k => st1 _ k) ?_
  have hc3_2 : ¬ (zc = (0 : Int32)) := hzc
  refine OwnFin.adv (B := T1.setTop (mkF m 6 #[.val (.ref ob)] [])) (fun _ k => XS.ifNo X1.here hx rfl (hb hby own_d32_3) rfl ((if0 _ _).trans (feq hc3_2).1) k) ?_
  refine OwnFin.adv (B := T1.setTop (mkF m 7 #[.val (.ref ob)] [(.ref ob)])) (fun _ k => XS.aloadN X1.here hx rfl (hb hby own_d32_6) rfl rfl k) ?_
  obtain ⟨T2, X2, e2, st2⟩ := getF X1 hx hZ hown (host := "") (Or.inl (hw _ (List.mem_of_getElem? (i := 109) rfl))) Via.refl e1 Fc (g := (mkF m 7 #[.val (.ref ob)] [(.ref ob)])) rfl rfl (hb hby own_d32_7)
  refine OwnFin.adv (B := T2.setTop (mkF m 10 #[.val (.ref ob)] [(.int (0 : Int32))])) (fun _ k => st2 _ k) ?_
  have hc10_5 : (0 : Int32) = (0 : Int32) := rfl
  refine OwnFin.adv (B := T2.setTop (mkF m 13 #[.val (.ref ob)] [])) (fun _ k => XS.ifNo X2.here hx rfl (hb hby own_d32_10) rfl ((if0 _ _).trans (teq hc10_5).2) k) ?_
  refine OwnFin.adv (B := T2.setTop (mkF m 14 #[.val (.ref ob)] [(.int (1 : Int32))])) (fun _ k => XS.iconst X2.here hx rfl (hb hby own_d32_13) k) ?_
  refine OwnFin.adv (B := T2.setTop (mkF m 18 #[.val (.ref ob)] [(.int (1 : Int32))])) (fun _ k => XS.goto X2.here hx rfl (pc0 := 14) (pc' := 18) rfl (hb hby own_d32_14) (by decide) (by decide) k) ?_
  obtain ⟨fs, hr, hrun, hended, hW, hsame⟩ := X2.leave (v := some (.int (1 : Int32))) (fun h => by rw [Bd.returns] at h; cases h)
  refine OwnFin.leaf hP' ⟨_, _, retN X2 hx (t := .boolean) Bd.returns (by simp) (hb hby own_d32_18) hr, hrun, hended, _, _, rfl, ?_, ⟨_, rfl⟩, hW, hsame.mono (by decide) (by decide)⟩
  exact ⟨rfl, N0, e2⟩
theorem own_d28_0 : decode jdk_42_method_150_code 0 = .ok (.aload_n 0, 1) := by decide +kernel
theorem own_d28_1 : decode jdk_42_method_150_code 1 = .ok (.invokespecial 1, 3) := by decide +kernel
theorem own_d28_4 : decode jdk_42_method_150_code 4 = .ok (.aload_n 1, 1) := by decide +kernel
theorem own_pd_x28x29x5bB : parseMethodDescriptor "()[B" = some ⟨[], some (.array .byte)⟩ := by decide +kernel
theorem own_d28_5 : decode jdk_42_method_150_code 5 = .ok (.invokevirtual 552, 3) := by decide +kernel
theorem own_d28_8 : decode jdk_42_method_150_code 8 = .ok (.astore_n 3, 1) := by decide +kernel
theorem own_d28_9 : decode jdk_42_method_150_code 9 = .ok (.aload_n 1, 1) := by decide +kernel
theorem own_d28_10 : decode jdk_42_method_150_code 10 = .ok (.invokevirtual 549, 3) := by decide +kernel
theorem own_d28_13 : decode jdk_42_method_150_code 13 = .ok (.istore 4, 2) := by decide +kernel
theorem own_d28_15 : decode jdk_42_method_150_code 15 = .ok (.aload_n 1, 1) := by decide +kernel
theorem own_pd_x28x29Z : parseMethodDescriptor "()Z" = some ⟨[], some .boolean⟩ := by decide +kernel
theorem own_d28_16 : decode jdk_42_method_150_code 16 = .ok (.invokevirtual 1047, 3) := by decide +kernel
theorem own_d28_19 : decode jdk_42_method_150_code 19 = .ok (.ifCond .eq 22, 3) := by decide +kernel
theorem own_d28_22 : decode jdk_42_method_150_code 22 = .ok (.aload_n 0, 1) := by decide +kernel
theorem own_d28_23 : decode jdk_42_method_150_code 23 = .ok (.iconst 0, 1) := by decide +kernel
theorem own_d28_24 : decode jdk_42_method_150_code 24 = .ok (.putfield 15, 3) := by decide +kernel
theorem own_d28_27 : decode jdk_42_method_150_code 27 = .ok (.aload_n 0, 1) := by decide +kernel
theorem own_d28_28 : decode jdk_42_method_150_code 28 = .ok (.aload_n 3, 1) := by decide +kernel
theorem own_d28_29 : decode jdk_42_method_150_code 29 = .ok (.iconst 0, 1) := by decide +kernel
theorem own_d28_30 : decode jdk_42_method_150_code 30 = .ok (.iload 4, 2) := by decide +kernel
theorem own_d28_32 : decode jdk_42_method_150_code 32 = .ok (.invokestatic 54, 3) := by decide +kernel
theorem own_d28_35 : decode jdk_42_method_150_code 35 = .ok (.putfield 9, 3) := by decide +kernel
theorem own_d28_38 : decode jdk_42_method_150_code 38 = .ok (.goto 59, 3) := by decide +kernel
theorem own_d28_97 : decode jdk_42_method_150_code 97 = .ok (.return_, 1) := by decide +kernel
theorem own_ef_strASB (m : MethodId) (x0 : Addr) (x1 : Addr) : entryFrame m #[(.ref x0), (.ref x1), .null] 5 = mkF m 0 #[.val (.ref x0), .val (.ref x1), .val .null, .unset, .unset] [] := by first | (simp [entryFrame, mkF, argsToLocals, Value.category]; done) | rfl
def own_Q_strASB (Z : State) (xo ob : Addr) (da : Addr) (kd : ClassId) (vd : List Value) (cap k0 : Nat) (zc : Int32) (u0 u1 : Value) (h0 : Heap) (n0 : Nat) (v : Option Value) (h : Heap) (L : List Loc) : Prop := v = none ∧ Fr n0 L ∧ Keep h0 h [xo] ∧ ∃ (t : Addr) (kt : ClassId), Fld Z h xo "java/lang/String" "value" "[B" (.ref t) ∧ Fld Z h xo "java/lang/String" "coder" "B" (.int (0 : Int32)) ∧ Arv Z h t kt .byte (Int32.ofNat k0) (vd.take k0) (.int (0 : Int32)) ∧ h0.size ≤ t
set_option maxRecDepth 65536 in
set_option maxHeartbeats 40000000 in
theorem own_strASB (l : Launch) (Z : State) (a0 : Array Value) (hw : ∀ d ∈ tables_1, d.before a0 Z = true) (ws : List Jvm.Cond) (xo ob : Addr) (da : Addr) (kd : ClassId) (vd : List Value) (cap k0 : Nat) (zc : Int32) (u0 u1 : Value) (h0 : Heap) (n0 : Nat) (Z0 : n0 ≤ h0.size) (O0 : Old Z n0 h0) (SCS : Sta Z Z.heap "java/lang/String" "COMPACT_STRINGS" "Z" (.int zc)) (hzc : ¬ zc = 0) (Ex : Exa Z h0 xo "java/lang/String") (Fx : Fld Z h0 xo "java/lang/String" "value" "[B" u0) (Fy : Fld Z h0 xo "java/lang/String" "coder" "B" u1) (g_xo : n0 ≤ xo) (E : Exa Z h0 ob "java/lang/StringBuilder") (Fv : Fld Z h0 ob "java/lang/AbstractStringBuilder" "value" "[B" (.ref da)) (Fc : Fld Z h0 ob "java/lang/AbstractStringBuilder" "coder" "B" (.int (0 : Int32))) (Fn : Fld Z h0 ob "java/lang/AbstractStringBuilder" "count" "I" (.int (Int32.ofNat k0))) (Va : Arv Z h0 da kd .byte (Int32.ofNat cap) vd (.int (0 : Int32))) (hcap : cap ≤ 4000) (hvd : vd.length = cap) (hk : k0 < cap) (hk64 : k0 ≤ 64) :
    MetFree l (⟨"java/lang/String", "<init>", "(Ljava/lang/AbstractStringBuilder;Ljava/lang/Void;)V"⟩ : MethodName) (head1 (Jvm.Cond.code (⟨"java/lang/String", "<init>", "(Ljava/lang/AbstractStringBuilder;Ljava/lang/Void;)V"⟩ : MethodName) jdk_42_method_150_code 5 none :: ws) ({ frames := 3, cells := 1, slots := 64, locals := 49 } : Room)) (fun A0 U0 => A0 = #[(.ref xo), (.ref ob), .null] ∧ Z.Warmed39 U0.vm ∧ U0.heap = h0) (fun _ _ _ _ _ => True) (fun _ U0 o0 U1 => ∃ v0 L0, o0 = .returned v0 ∧ own_Q_strASB Z xo ob da kd vd cap k0 zc u0 u1 h0 n0 v0 U1.heap L0 ∧ FrameEnd U0 o0 U1 L0 ({ frames := 3, cells := 1, slots := 64, locals := 49 } : Room).cells ({ frames := 3, cells := 1, slots := 64, locals := 49 } : Room).slots) := by
  refine MetFree.of_bodySF (plainFor_of_name own_pn_java_lang_String) hisR ?_
  intro p e s m args below meth c s₁ Bd hml0 hP hK
  obtain ⟨rfl, hZ, hh⟩ := hP
  have hZs := hZ
  have hx := Bd.exec
  have hby := Bd.bytes
  have hml : c.maxLocals = 5 := hml0
  have hown : s.vm.findClass "java/lang/String" = some m.cls := findClass_of_methodNamed Bd.named
  have hnm := (name_of_methodNamed Bd.named Bd.method).1
  have X0 : Stand p l e ({ frames := 3, cells := 1, slots := 64, locals := 49 } : Room) s m #[(.ref xo), (.ref ob), .null] below meth c s₁ [] 0 0 := Stand.of_body Bd
  have e0 : s₁.heap = h0 := by rw [← hh, Bd.state]; rfl
  have N0 := Fr.nil n0
  refine OwnFin.entry (own_ef_strASB m xo ob) (fun P' hP' => ?_)
  have lt_ob := own_lt E.lt
  have lt_xo := own_lt Ex.lt
  have ne_xo := own_nee (ne_exa Ex E (by decide))
  have ne_xd := own_nee (Exa.neArv Ex Va (hw _ (List.mem_of_getElem? (i := 6) rfl)))
  have lt_da := own_lt Va.lt
  refine OwnFin.adv (B := s₁.setTop (mkF m 1 #[.val (.ref xo), .val (.ref ob), .val .null, .unset, .unset] [(.ref xo)])) (fun _ k => XS.aloadN X0.here hx rfl (hb hby own_d28_0) rfl rfl k) ?_
  obtain ⟨T1, X1, e1, st1⟩ := initO X0 hx hZ hown (hw _ (List.mem_of_getElem? (i := 15) rfl)) (hw _ (List.mem_of_getElem? (i := 16) rfl)) (hw _ (List.mem_of_getElem? (i := 17) rfl)) e0 (g := (mkF m 1 #[.val (.ref xo), .val (.ref ob), .val .null, .unset, .unset] [(.ref xo)])) rfl (by rw [hml]; rfl) rfl (hb hby own_d28_1) (by decide) (W := 0) (by show 2 * 0 + _ ≤ _; exact Nat.le_of_eq rfl) (by decide)
  refine OwnFin.adv (B := T1.setTop (mkF m 4 #[.val (.ref xo), .val (.ref ob), .val .null, .unset, .unset] [])) (fun _ k => st1 _ k) ?_
  refine OwnFin.adv (B := T1.setTop (mkF m 5 #[.val (.ref xo), .val (.ref ob), .val .null, .unset, .unset] [(.ref ob)])) (fun _ k => XS.aloadN X1.here hx rfl (hb hby own_d28_4) rfl rfl k) ?_
  obtain ⟨cq2, kq2, q2a, q2b, q2c⟩ := isOf hZ e1 E
  obtain ⟨_, _, ⟨T2, L2, k2, n2⟩, -, X2, ⟨Lc2, hQ2, l2, y2, z2⟩, st2⟩ := X1.virtualBack hx (y := (⟨"java/lang/AbstractStringBuilder", "getValue", "()[B"⟩ : MethodName)) (z := (⟨"java/lang/AbstractStringBuilder", "getValue", "()[B"⟩ : MethodName)) hown (mvT hZ (hw _ (List.mem_of_getElem? (i := 172) rfl))) (mvT hZ (hw _ (List.mem_of_getElem? (i := 173) rfl))) (notFace_of_selects (args := #[]) (mvT hZ (hw _ (List.mem_of_getElem? (i := 175) rfl)))) (mvT hZ (hw _ (List.mem_of_getElem? (i := 175) rfl))) (mvT hZ (hw _ (List.mem_of_getElem? (i := 174) rfl))) (by decide) (backOf (W := 0) (own_getV l Z a0 hw [] ob da h0 n0 (by omega) Fv) hZ (hw _ (List.mem_of_getElem? (i := 176) rfl)) (hw _ (List.mem_of_getElem? (i := 103) rfl)) (by decide) (by decide)) q2a q2c (g := (mkF m 5 #[.val (.ref xo), .val (.ref ob), .val .null, .unset, .unset] [(.ref ob)])) rfl (by rw [hml]; rfl) (Steps.refl _) (argsL := []) (rest := []) (lenOf own_pd_x28x29x5bB rfl) rfl (by show 2 * 0 + _ ≤ _; exact Nat.le_of_eq rfl) (hb hby own_d28_5) (fun _ _ => ⟨rfl, e1, (by decide : 0 + 0 ≤ _), (by decide : 0 + 0 ≤ _)⟩)
  dsimp only [Pt.U, Pt.locs, Pt.cells, Pt.slots] at X2 l2 y2 z2 st2 hQ2
  subst l2 y2 z2
  obtain ⟨rfl, N2q, eh2⟩ := hQ2
  have N2 := Fr.app N0 N2q
  refine OwnFin.adv (B := T2.setTop (mkF m 8 #[.val (.ref xo), .val (.ref ob), .val .null, .unset, .unset] [(.ref da)])) (fun _ k => st2.trans k) ?_
  refine OwnFin.adv (B := T2.setTop (mkF m 9 #[.val (.ref xo), .val (.ref ob), .val .null, .val (.ref da), .unset] [])) (fun _ k => XS.astoreN X2.here hx rfl (hb hby own_d28_8) rfl rfl (l' := #[.val (.ref xo), .val (.ref ob), .val .null, .val (.ref da), .unset]) rfl k) ?_
  refine OwnFin.adv (B := T2.setTop (mkF m 10 #[.val (.ref xo), .val (.ref ob), .val .null, .val (.ref da), .unset] [(.ref ob)])) (fun _ k => XS.aloadN X2.here hx rfl (hb hby own_d28_9) rfl rfl k) ?_
  obtain ⟨cq3, kq3, q3a, q3b, q3c⟩ := isOf hZ eh2 E
  obtain ⟨_, _, ⟨T3, L3, k3, n3⟩, -, X3, ⟨Lc3, hQ3, l3, y3, z3⟩, st3⟩ := X2.virtualBack hx (y := (⟨"java/lang/AbstractStringBuilder", "length", "()I"⟩ : MethodName)) (z := (⟨"java/lang/StringBuilder", "length", "()I"⟩ : MethodName)) hown (mvT hZ (hw _ (List.mem_of_getElem? (i := 177) rfl))) (mvT hZ (hw _ (List.mem_of_getElem? (i := 178) rfl))) (own_nf (a0 := #[]) (z := (⟨"java/lang/AbstractStringBuilder", "ensureCapacityInternal", "(I)V"⟩ : MethodName)) (mvT hZ (own_decl (hw _ (List.mem_of_getElem? (i := 135) rfl)) (hw _ (List.mem_of_getElem? (i := 138) rfl)))) (notFace_of_selects (args := #[]) (mvT hZ (hw _ (List.mem_of_getElem? (i := 137) rfl)))) rfl) (mvT hZ (hw _ (List.mem_of_getElem? (i := 180) rfl))) (mvT hZ (hw _ (List.mem_of_getElem? (i := 181) rfl))) (by decide) (backOf (W := 0) (own_sbLen l Z a0 hw [] ob k0 h0 n0 (by omega) E Fn) hZ (hw _ (List.mem_of_getElem? (i := 182) rfl)) (hw _ (List.mem_of_getElem? (i := 95) rfl)) (by decide) (by decide)) q3a q3c (g := (mkF m 10 #[.val (.ref xo), .val (.ref ob), .val .null, .val (.ref da), .unset] [(.ref ob)])) rfl (by rw [hml]; rfl) (Steps.refl _) (argsL := []) (rest := []) (lenOf own_pd_x28x29I rfl) rfl (by show 2 * 0 + _ ≤ _; exact Nat.le_of_eq rfl) (hb hby own_d28_10) (fun _ _ => ⟨rfl, eh2, (by decide : 0 + 0 ≤ _), (by decide : 0 + 0 ≤ _)⟩)
  dsimp only [Pt.U, Pt.locs, Pt.cells, Pt.slots] at X3 l3 y3 z3 st3 hQ3
  subst l3 y3 z3
  obtain ⟨rfl, N3q, eh3⟩ := hQ3
  have N3 := Fr.app N2 N3q
  refine OwnFin.adv (B := T3.setTop (mkF m 13 #[.val (.ref xo), .val (.ref ob), .val .null, .val (.ref da), .unset] [(.int (Int32.ofNat k0))])) (fun _ k => st3.trans k) ?_
  refine OwnFin.adv (B := T3.setTop (mkF m 15 #[.val (.ref xo), .val (.ref ob), .val .null, .val (.ref da), .val (.int (Int32.ofNat k0))] [])) (fun _ k => XS.istore X3.here hx rfl (hb hby own_d28_13) rfl (l' := #[.val (.ref xo), .val (.ref ob), .val .null, .val (.ref da), .val (.int (Int32.ofNat k0))]) rfl k) ?_
  refine OwnFin.adv (B := T3.setTop (mkF m 16 #[.val (.ref xo), .val (.ref ob), .val .null, .val (.ref da), .val (.int (Int32.ofNat k0))] [(.ref ob)])) (fun _ k => XS.aloadN X3.here hx rfl (hb hby own_d28_15) rfl rfl k) ?_
  obtain ⟨cq4, kq4, q4a, q4b, q4c⟩ := isOf hZ eh3 E
  obtain ⟨_, _, ⟨T4, L4, k4, n4⟩, -, X4, ⟨Lc4, hQ4, l4, y4, z4⟩, st4⟩ := X3.virtualBack hx (y := (⟨"java/lang/AbstractStringBuilder", "isLatin1", "()Z"⟩ : MethodName)) (z := (⟨"java/lang/AbstractStringBuilder", "isLatin1", "()Z"⟩ : MethodName)) hown (mvT hZ (hw _ (List.mem_of_getElem? (i := 185) rfl))) (mvT hZ (hw _ (List.mem_of_getElem? (i := 186) rfl))) (notFace_of_selects (args := #[]) (mvT hZ (hw _ (List.mem_of_getElem? (i := 188) rfl)))) (mvT hZ (hw _ (List.mem_of_getElem? (i := 188) rfl))) (mvT hZ (hw _ (List.mem_of_getElem? (i := 187) rfl))) (by decide) (backOf (W := 0) (own_isL1 l Z a0 hw [] ob zc h0 n0 (by omega) O0 SCS hzc Fc) hZ (hw _ (List.mem_of_getElem? (i := 189) rfl)) (hw _ (List.mem_of_getElem? (i := 103) rfl)) (by decide) (by decide)) q4a q4c (g := (mkF m 16 #[.val (.ref xo), .val (.ref ob), .val .null, .val (.ref da), .val (.int (Int32.ofNat k0))] [(.ref ob)])) rfl (by rw [hml]; rfl) (Steps.refl _) (argsL := []) (rest := []) (lenOf own_pd_x28x29Z rfl) rfl (by show 2 * 0 + _ ≤ _; exact Nat.le_of_eq rfl) (hb hby own_d28_16) (fun _ _ => ⟨rfl, eh3, (by decide : 0 + 0 ≤ _), (by decide : 0 + 0 ≤ _)⟩)
  dsimp only [Pt.U, Pt.locs, Pt.cells, Pt.slots] at X4 l4 y4 z4 st4 hQ4
  subst l4 y4 z4
  obtain ⟨rfl, N4q, eh4⟩ := hQ4
  have N4 := Fr.app N3 N4q
  refine OwnFin.adv (B := T4.setTop (mkF m 19 #[.val (.ref xo), .val (.ref ob), .val .null, .val (.ref da), .val (.int (Int32.ofNat k0))] [(.int (1 : Int32))])) (fun _ k => st4.trans k) ?_
  have hc19_11 : ¬ ((1 : Int32) = (0 : Int32)) := by decide
  refine OwnFin.adv (B := T4.setTop (mkF m 22 #[.val (.ref xo), .val (.ref ob), .val .null, .val (.ref da), .val (.int (Int32.ofNat k0))] [])) (fun _ k => XS.ifNo X4.here hx rfl (hb hby own_d28_19) rfl ((if0 _ _).trans (feq hc19_11).1) k) ?_
  refine OwnFin.adv (B := T4.setTop (mkF m 23 #[.val (.ref xo), .val (.ref ob), .val .null, .val (.ref da), .val (.int (Int32.ofNat k0))] [(.ref xo)])) (fun _ k => XS.aloadN X4.here hx rfl (hb hby own_d28_22) rfl rfl k) ?_
  refine OwnFin.adv (B := T4.setTop (mkF m 24 #[.val (.ref xo), .val (.ref ob), .val .null, .val (.ref da), .val (.int (Int32.ofNat k0))] [(.int (0 : Int32)), (.ref xo)])) (fun _ k => XS.iconst X4.here hx rfl (hb hby own_d28_23) k) ?_
  obtain ⟨T5, h5, X5, e5, W5, st5⟩ := putFN X4 hx hZ hown (hw _ (List.mem_of_getElem? (i := 30) rfl)) Via.refl eh4 Fy Ex (Or.inr ⟨(hw _ (List.mem_of_getElem? (i := 31) rfl)), rfl, hnm⟩) (hw _ (List.mem_of_getElem? (i := 6) rfl)) (ty := .byte) (v' := .int (nar .byte (0 : Int32))) (by decide) rfl (fits_nar_byte _) (g := (mkF m 24 #[.val (.ref xo), .val (.ref ob), .val .null, .val (.ref da), .val (.int (Int32.ofNat k0))] [(.int (0 : Int32)), (.ref xo)])) rfl rfl (hb hby own_d28_24)
  have Fw5 : Fld Z h5 xo "java/lang/String" "coder" "B" (.int (0 : Int32)) := Fy.same W5
  have sz6 : h0.size ≤ h5.size := Nat.le_of_eq W5.size.symm
  have N5 := Fr.snoc X5 N4 (by omega : n0 ≤ xo)
  refine OwnFin.adv (B := T5.setTop (mkF m 27 #[.val (.ref xo), .val (.ref ob), .val .null, .val (.ref da), .val (.int (Int32.ofNat k0))] [])) (fun _ k => st5 _ k) ?_
  refine OwnFin.adv (B := T5.setTop (mkF m 28 #[.val (.ref xo), .val (.ref ob), .val .null, .val (.ref da), .val (.int (Int32.ofNat k0))] [(.ref xo)])) (fun _ k => XS.aloadN X5.here hx rfl (hb hby own_d28_27) rfl rfl k) ?_
  refine OwnFin.adv (B := T5.setTop (mkF m 29 #[.val (.ref xo), .val (.ref ob), .val .null, .val (.ref da), .val (.int (Int32.ofNat k0))] [(.ref da), (.ref xo)])) (fun _ k => XS.aloadN X5.here hx rfl (hb hby own_d28_28) rfl rfl k) ?_
  refine OwnFin.adv (B := T5.setTop (mkF m 30 #[.val (.ref xo), .val (.ref ob), .val .null, .val (.ref da), .val (.int (Int32.ofNat k0))] [(.int (0 : Int32)), (.ref da), (.ref xo)])) (fun _ k => XS.iconst X5.here hx rfl (hb hby own_d28_29) k) ?_
  refine OwnFin.adv (B := T5.setTop (mkF m 32 #[.val (.ref xo), .val (.ref ob), .val .null, .val (.ref da), .val (.int (Int32.ofNat k0))] [(.int (Int32.ofNat k0)), (.int (0 : Int32)), (.ref da), (.ref xo)])) (fun _ k => XS.iload X5.here hx rfl (hb hby own_d28_30) rfl k) ?_
  have Fv8_1 : Arv Z h5 da kd .byte (Int32.ofNat cap) vd (.int (0 : Int32)) := (Va.other W5 (own_ne (by omega)))
  obtain ⟨_, _, ⟨T7, L7, k7, n7⟩, -, X7, ⟨Lc7, hQ7, l7, y7, z7⟩, st7⟩ := Jvm.LawKit.callS X5 hx (y := (⟨"java/util/Arrays", "copyOfRange", "([BII)[B"⟩ : MethodName)) hown (mvT hZ (hw _ (List.mem_of_getElem? (i := 190) rfl))) (mvT hZ (hw _ (List.mem_of_getElem? (i := 191) rfl))) (mvT hZ (hw _ (List.mem_of_getElem? (i := 192) rfl))) (mvT hZ (hw _ (List.mem_of_getElem? (i := 193) rfl))) (by decide) (backOf (W := 1) (own_cor l Z a0 hw [] da kd vd cap k0 h5 n0 (by omega) Fv8_1 hcap hvd hk hk64) hZ (hw _ (List.mem_of_getElem? (i := 193) rfl)) (hw _ (List.mem_of_getElem? (i := 192) rfl)) (by decide) (by decide)) (g := (mkF m 32 #[.val (.ref xo), .val (.ref ob), .val .null, .val (.ref da), .val (.int (Int32.ofNat k0))] [(.int (Int32.ofNat k0)), (.int (0 : Int32)), (.ref da), (.ref xo)])) rfl (by rw [hml]; rfl) (argsL := [(.ref da), (.int (0 : Int32)), (.int (Int32.ofNat k0))]) (rest := [(.ref xo)]) (lenOf own_pd_x28x5bBIIx29x5bB rfl) rfl (by show 2 * 0 + _ ≤ _; exact Nat.le_of_eq rfl) (hb hby own_d28_32) (fun _ _ => ⟨rfl, e5, (by decide : 0 + 1 ≤ _), (by decide : 0 + 64 ≤ _)⟩)
  dsimp only [Pt.U, Pt.locs, Pt.cells, Pt.slots] at X7 l7 y7 z7 st7 hQ7
  subst l7 y7 z7
  obtain ⟨t7, kt7, rfl, N7q, K7, ge7, Vt7⟩ := hQ7
  have N7 := Fr.app N5 N7q
  have sz9 : h5.size ≤ T7.heap.size := K7.1
  have lt_t7 := own_lt Vt7.lt
  refine OwnFin.adv (B := T7.setTop (mkF m 35 #[.val (.ref xo), .val (.ref ob), .val .null, .val (.ref da), .val (.int (Int32.ofNat k0))] [(.ref t7), (.ref xo)])) (fun _ k => st7 _ k) ?_
  have Fv10_2 : Exa Z T7.heap xo "java/lang/String" := ((Ex.wr W5).keep K7)
  have Fv11_2 : Fld Z T7.heap xo "java/lang/String" "value" "[B" u0 := ((Fx.other W5 (Or.inr (slot_ne (Or.inr (hw _ (List.mem_of_getElem? (i := 33) rfl))) (Or.inr (hw _ (List.mem_of_getElem? (i := 31) rfl))) (by decide) (t := (.array .byte)) (t' := .byte) (by decide) (by decide)))).keep K7 nin0)
  obtain ⟨T12, h12, X12, e12, W12, st12⟩ := putF X7 hx hZ hown (host := "") (Or.inl (hw _ (List.mem_of_getElem? (i := 32) rfl))) Via.refl rfl Fv11_2 Fv10_2 (Or.inr ⟨(hw _ (List.mem_of_getElem? (i := 33) rfl)), rfl, hnm⟩) (hw _ (List.mem_of_getElem? (i := 6) rfl)) (ty := (.array .byte)) (by decide) rfl rfl (g := (mkF m 35 #[.val (.ref xo), .val (.ref ob), .val .null, .val (.ref da), .val (.int (Int32.ofNat k0))] [(.ref t7), (.ref xo)])) rfl rfl (hb hby own_d28_35)
  have Fw12 : Fld Z h12 xo "java/lang/String" "value" "[B" (.ref t7) := Fv11_2.same W12
  have sz13 : T7.heap.size ≤ h12.size := Nat.le_of_eq W12.size.symm
  have N12 := Fr.snoc X12 N7 (by omega : n0 ≤ xo)
  refine OwnFin.adv (B := T12.setTop (mkF m 38 #[.val (.ref xo), .val (.ref ob), .val .null, .val (.ref da), .val (.int (Int32.ofNat k0))] [])) (fun _ k => st12 _ k) ?_
  refine OwnFin.adv (B := T12.setTop (mkF m 97 #[.val (.ref xo), .val (.ref ob), .val .null, .val (.ref da), .val (.int (Int32.ofNat k0))] [])) (fun _ k => XS.goto X12.here hx rfl (pc0 := 38) (pc' := 97) rfl (hb hby own_d28_38) (by decide) (by decide) k) ?_
  obtain ⟨fs, hr, hrun, hended, hW, hsame⟩ := X12.leave (v := none) (fun _ => rfl)
  refine OwnFin.leaf hP' ⟨_, _, X12.returnOut hx Bd.returns (hb hby own_d28_97) hr, hrun, hended, _, _, rfl, ?_, ⟨_, rfl⟩, hW, hsame.mono (by decide) (by decide)⟩
  have Fv14_3 : Fld Z h12 xo "java/lang/String" "coder" "B" (.int (0 : Int32)) := ((Fw5.keep K7 nin0).other W12 (Or.inr (slot_ne (Or.inr (hw _ (List.mem_of_getElem? (i := 31) rfl))) (Or.inr (hw _ (List.mem_of_getElem? (i := 33) rfl))) (by decide) (t := .byte) (t' := (.array .byte)) (by decide) (by decide))))
  have Fv15_3 : Arv Z h12 t7 kt7 .byte (Int32.ofNat k0) (vd.take k0) (.int (0 : Int32)) := (Vt7.other W12 (own_ne (by omega)))
  rw [show (T12.setFrames fs).heap = h12 from e12]
  exact ⟨rfl, N12, ((((Keep.refl h0 [xo]).wr W5 (Or.inl (List.mem_of_getElem? (i := 0) rfl))).trans K7 all0).wr W12 (Or.inl (List.mem_of_getElem? (i := 0) rfl))), _, _, Fw12, Fv14_3, Fv15_3, by omega⟩
theorem own_d27_0 : decode jdk_42_method_53_code 0 = .ok (.aload_n 0, 1) := by decide +kernel
theorem own_d27_1 : decode jdk_42_method_53_code 1 = .ok (.aload_n 1, 1) := by decide +kernel
theorem own_d27_2 : decode jdk_42_method_53_code 2 = .ok (.aconst_null, 1) := by decide +kernel
theorem own_pd_x28Ljavax2flangx2fAbstractStringBuilderx3bLjavax2flangx2fVoidx3bx29V : parseMethodDescriptor "(Ljava/lang/AbstractStringBuilder;Ljava/lang/Void;)V" = some ⟨[(.object "java/lang/AbstractStringBuilder"), (.object "java/lang/Void")], none⟩ := by decide +kernel
theorem own_d27_3 : decode jdk_42_method_53_code 3 = .ok (.invokespecial 489, 3) := by decide +kernel
theorem own_d27_6 : decode jdk_42_method_53_code 6 = .ok (.return_, 1) := by decide +kernel
theorem own_ef_strSB (m : MethodId) (x0 : Addr) (x1 : Addr) : entryFrame m #[(.ref x0), (.ref x1)] 2 = mkF m 0 #[.val (.ref x0), .val (.ref x1)] [] := by first | (simp [entryFrame, mkF, argsToLocals, Value.category]; done) | rfl
def own_Q_strSB (Z : State) (xo ob : Addr) (da : Addr) (kd : ClassId) (vd : List Value) (cap k0 : Nat) (zc : Int32) (u0 u1 : Value) (h0 : Heap) (n0 : Nat) (v : Option Value) (h : Heap) (L : List Loc) : Prop := v = none ∧ Fr n0 L ∧ Keep h0 h [xo] ∧ ∃ (t : Addr) (kt : ClassId), Fld Z h xo "java/lang/String" "value" "[B" (.ref t) ∧ Fld Z h xo "java/lang/String" "coder" "B" (.int (0 : Int32)) ∧ Arv Z h t kt .byte (Int32.ofNat k0) (vd.take k0) (.int (0 : Int32)) ∧ h0.size ≤ t
set_option maxRecDepth 65536 in
set_option maxHeartbeats 40000000 in
theorem own_strSB (l : Launch) (Z : State) (a0 : Array Value) (hw : ∀ d ∈ tables_1, d.before a0 Z = true) (ws : List Jvm.Cond) (xo ob : Addr) (da : Addr) (kd : ClassId) (vd : List Value) (cap k0 : Nat) (zc : Int32) (u0 u1 : Value) (h0 : Heap) (n0 : Nat) (Z0 : n0 ≤ h0.size) (O0 : Old Z n0 h0) (SCS : Sta Z Z.heap "java/lang/String" "COMPACT_STRINGS" "Z" (.int zc)) (hzc : ¬ zc = 0) (Ex : Exa Z h0 xo "java/lang/String") (Fx : Fld Z h0 xo "java/lang/String" "value" "[B" u0) (Fy : Fld Z h0 xo "java/lang/String" "coder" "B" u1) (g_xo : n0 ≤ xo) (E : Exa Z h0 ob "java/lang/StringBuilder") (Fv : Fld Z h0 ob "java/lang/AbstractStringBuilder" "value" "[B" (.ref da)) (Fc : Fld Z h0 ob "java/lang/AbstractStringBuilder" "coder" "B" (.int (0 : Int32))) (Fn : Fld Z h0 ob "java/lang/AbstractStringBuilder" "count" "I" (.int (Int32.ofNat k0))) (Va : Arv Z h0 da kd .byte (Int32.ofNat cap) vd (.int (0 : Int32))) (hcap : cap ≤ 4000) (hvd : vd.length = cap) (hk : k0 < cap) (hk64 : k0 ≤ 64) :
    MetFree l (⟨"java/lang/String", "<init>", "(Ljava/lang/StringBuilder;)V"⟩ : MethodName) (head1 (Jvm.Cond.code (⟨"java/lang/String", "<init>", "(Ljava/lang/StringBuilder;)V"⟩ : MethodName) jdk_42_method_53_code 2 none :: ws) ({ frames := 4, cells := 1, slots := 64, locals := 65 } : Room)) (fun A0 U0 => A0 = #[(.ref xo), (.ref ob)] ∧ Z.Warmed39 U0.vm ∧ U0.heap = h0) (fun _ _ _ _ _ => True) (fun _ U0 o0 U1 => ∃ v0 L0, o0 = .returned v0 ∧ own_Q_strSB Z xo ob da kd vd cap k0 zc u0 u1 h0 n0 v0 U1.heap L0 ∧ FrameEnd U0 o0 U1 L0 ({ frames := 4, cells := 1, slots := 64, locals := 65 } : Room).cells ({ frames := 4, cells := 1, slots := 64, locals := 65 } : Room).slots) := by
  refine MetFree.of_bodySF (plainFor_of_name own_pn_java_lang_String) hisR ?_
  intro p e s m args below meth c s₁ Bd hml0 hP hK
  obtain ⟨rfl, hZ, hh⟩ := hP
  have hZs := hZ
  have hx := Bd.exec
  have hby := Bd.bytes
  have hml : c.maxLocals = 2 := hml0
  have hown : s.vm.findClass "java/lang/String" = some m.cls := findClass_of_methodNamed Bd.named
  have hnm := (name_of_methodNamed Bd.named Bd.method).1
  have X0 : Stand p l e ({ frames := 4, cells := 1, slots := 64, locals := 65 } : Room) s m #[(.ref xo), (.ref ob)] below meth c s₁ [] 0 0 := Stand.of_body Bd
  have e0 : s₁.heap = h0 := by rw [← hh, Bd.state]; rfl
  have N0 := Fr.nil n0
  refine OwnFin.entry (own_ef_strSB m xo ob) (fun P' hP' => ?_)
  have lt_ob := own_lt E.lt
  have lt_xo := own_lt Ex.lt
  have ne_xo := own_nee (ne_exa Ex E (by decide))
  have ne_xd := own_nee (Exa.neArv Ex Va (hw _ (List.mem_of_getElem? (i := 6) rfl)))
  have lt_da := own_lt Va.lt
  refine OwnFin.adv (B := s₁.setTop (mkF m 1 #[.val (.ref xo), .val (.ref ob)] [(.ref xo)])) (fun _ k => XS.aloadN X0.here hx rfl (hb hby own_d27_0) rfl rfl k) ?_
  refine OwnFin.adv (B := s₁.setTop (mkF m 2 #[.val (.ref xo), .val (.ref ob)] [(.ref ob), (.ref xo)])) (fun _ k => XS.aloadN X0.here hx rfl (hb hby own_d27_1) rfl rfl k) ?_
  refine OwnFin.adv (B := s₁.setTop (mkF m 3 #[.val (.ref xo), .val (.ref ob)] [.null, (.ref ob), (.ref xo)])) (fun _ k => XS.aconstNull X0.here hx rfl (hb hby own_d27_2) k) ?_
  obtain ⟨_, _, ⟨T1, L1, k1, n1⟩, -, X1, ⟨Lc1, hQ1, l1, y1, z1⟩, st1⟩ := X0.specialBack hx (y := (⟨"java/lang/String", "<init>", "(Ljava/lang/AbstractStringBuilder;Ljava/lang/Void;)V"⟩ : MethodName)) rfl hown (mvT hZ (hw _ (List.mem_of_getElem? (i := 169) rfl))) (mvT hZ (hw _ (List.mem_of_getElem? (i := 170) rfl))) (mvT hZ (hw _ (List.mem_of_getElem? (i := 171) rfl))) (by decide) (backOf (W := 0) (own_strASB l Z a0 hw [] xo ob da kd vd cap k0 zc _ _ h0 n0 (by omega) O0 SCS hzc Ex Fx Fy (by omega) E Fv Fc Fn Va hcap hvd hk hk64) hZ (hw _ (List.mem_of_getElem? (i := 171) rfl)) (hw _ (List.mem_of_getElem? (i := 7) rfl)) (by decide) (by decide)) (g := (mkF m 3 #[.val (.ref xo), .val (.ref ob)] [.null, (.ref ob), (.ref xo)])) rfl (by rw [hml]; rfl) (Steps.refl _) (a := xo) (argsL := [(.ref ob), .null]) (rest := []) (lenOf own_pd_x28Ljavax2flangx2fAbstractStringBuilderx3bLjavax2flangx2fVoidx3bx29V rfl) rfl (by show 2 * 0 + _ ≤ _; exact Nat.le_of_eq rfl) (hb hby own_d27_3) (fun _ _ => ⟨rfl, e0, (by decide : 0 + 1 ≤ _), (by decide : 0 + 64 ≤ _)⟩)
  dsimp only [Pt.U, Pt.locs, Pt.cells, Pt.slots] at X1 l1 y1 z1 st1 hQ1
  subst l1 y1 z1
  obtain ⟨rfl, N1q, K1, t1, kt1, Fx1, Fy1, Vt1, ge1⟩ := hQ1
  have N1 := Fr.app N0 N1q
  have sz2 : h0.size ≤ T1.heap.size := K1.1
  have lt_t1 := own_lt Vt1.lt
  refine OwnFin.adv (B := T1.setTop (mkF m 6 #[.val (.ref xo), .val (.ref ob)] [])) (fun _ k => st1.trans k) ?_
  obtain ⟨fs, hr, hrun, hended, hW, hsame⟩ := X1.leave (v := none) (fun _ => rfl)
  refine OwnFin.leaf hP' ⟨_, _, X1.returnOut hx Bd.returns (hb hby own_d27_6) hr, hrun, hended, _, _, rfl, ?_, ⟨_, rfl⟩, hW, hsame.mono (by decide) (by decide)⟩
  rw [show (T1.setFrames fs).heap = T1.heap from rfl]
  exact ⟨rfl, N1, ((Keep.refl h0 [xo]).trans K1 (allS (Or.inl (List.mem_of_getElem? (i := 0) rfl)) all0)), _, _, Fx1, Fy1, Vt1, by omega⟩
theorem own_d26_0 : decode jdk_67_method_42_code 0 = .ok (.new 18, 3) := by decide +kernel
theorem own_d26_3 : decode jdk_67_method_42_code 3 = .ok (.dup, 1) := by decide +kernel
theorem own_d26_4 : decode jdk_67_method_42_code 4 = .ok (.aload_n 0, 1) := by decide +kernel
theorem own_pd_x28Ljavax2flangx2fStringBuilderx3bx29V : parseMethodDescriptor "(Ljava/lang/StringBuilder;)V" = some ⟨[(.object "java/lang/StringBuilder")], none⟩ := by decide +kernel
theorem own_d26_5 : decode jdk_67_method_42_code 5 = .ok (.invokespecial 137, 3) := by decide +kernel
theorem own_d26_8 : decode jdk_67_method_42_code 8 = .ok (.areturn, 1) := by decide +kernel
theorem own_ef_sbToStr (m : MethodId) (x0 : Addr) : entryFrame m #[(.ref x0)] 1 = mkF m 0 #[.val (.ref x0)] [] := by first | (simp [entryFrame, mkF, argsToLocals, Value.category]; done) | rfl
def own_Q_sbToStr (Z : State) (ob : Addr) (da : Addr) (kd : ClassId) (vd : List Value) (cap k0 : Nat) (zc : Int32) (cs : List Int32) (h0 : Heap) (n0 : Nat) (v : Option Value) (h : Heap) (L : List Loc) : Prop := ∃ r : Addr, v = some (.ref r) ∧ Fr n0 L ∧ Keep h0 h [] ∧ h0.size ≤ r ∧ OwnS Z h h.size r cs
set_option maxRecDepth 65536 in
set_option maxHeartbeats 40000000 in
theorem own_sbToStr (l : Launch) (Z : State) (a0 : Array Value) (hw : ∀ d ∈ tables_1, d.before a0 Z = true) (ws : List Jvm.Cond) (ob : Addr) (da : Addr) (kd : ClassId) (vd : List Value) (cap k0 : Nat) (zc : Int32) (cs : List Int32) (h0 : Heap) (n0 : Nat) (Z0 : n0 ≤ h0.size) (O0 : Old Z n0 h0) (SCS : Sta Z Z.heap "java/lang/String" "COMPACT_STRINGS" "Z" (.int zc)) (hzc : ¬ zc = 0) (E : Exa Z h0 ob "java/lang/StringBuilder") (Fv : Fld Z h0 ob "java/lang/AbstractStringBuilder" "value" "[B" (.ref da)) (Fc : Fld Z h0 ob "java/lang/AbstractStringBuilder" "coder" "B" (.int (0 : Int32))) (Fn : Fld Z h0 ob "java/lang/AbstractStringBuilder" "count" "I" (.int (Int32.ofNat k0))) (Va : Arv Z h0 da kd .byte (Int32.ofNat cap) vd (.int (0 : Int32))) (hcap : cap ≤ 4000) (hvd : vd.length = cap) (hk : k0 < cap) (hk64 : k0 ≤ 64) (hlen : cs.length = k0) (hct : vd.take k0 = (cs.map fun c => c.toInt8.toInt32).map Value.int) (hp : ∀ c ∈ cs, ¬ c < 0 ∧ ¬ (255 : Int32) < c) :
    MetFree l (⟨"java/lang/StringBuilder", "toString", "()Ljava/lang/String;"⟩ : MethodName) (head1 (Jvm.Cond.code (⟨"java/lang/StringBuilder", "toString", "()Ljava/lang/String;"⟩ : MethodName) jdk_67_method_42_code 1 (some (.object "java/lang/String")) :: ws) ({ frames := 5, cells := 2, slots := 68, locals := 79 } : Room)) (fun A0 U0 => A0 = #[(.ref ob)] ∧ Z.Warmed39 U0.vm ∧ U0.heap = h0) (fun _ _ _ _ _ => True) (fun _ U0 o0 U1 => ∃ v0 L0, o0 = .returned v0 ∧ own_Q_sbToStr Z ob da kd vd cap k0 zc cs h0 n0 v0 U1.heap L0 ∧ FrameEnd U0 o0 U1 L0 ({ frames := 5, cells := 2, slots := 68, locals := 79 } : Room).cells ({ frames := 5, cells := 2, slots := 68, locals := 79 } : Room).slots) := by
  refine MetFree.of_bodySF (plainFor_of_name own_pn_java_lang_StringBuilder) hisR ?_
  intro p e s m args below meth c s₁ Bd hml0 hP hK
  obtain ⟨rfl, hZ, hh⟩ := hP
  have hZs := hZ
  have hx := Bd.exec
  have hby := Bd.bytes
  have hml : c.maxLocals = 1 := hml0
  have hown : s.vm.findClass "java/lang/StringBuilder" = some m.cls := findClass_of_methodNamed Bd.named
  have hnm := (name_of_methodNamed Bd.named Bd.method).1
  have X0 : Stand p l e ({ frames := 5, cells := 2, slots := 68, locals := 79 } : Room) s m #[(.ref ob)] below meth c s₁ [] 0 0 := Stand.of_body Bd
  have e0 : s₁.heap = h0 := by rw [← hh, Bd.state]; rfl
  have N0 := Fr.nil n0
  refine OwnFin.entry (own_ef_sbToStr m ob) (fun P' hP' => ?_)
  have lt_ob := own_lt E.lt
  have lt_da := own_lt Va.lt
  obtain ⟨T1, h1, X1, e1, E1, A1, D1, -, st1⟩ := newO X0 hx hZ hown (hw _ (List.mem_of_getElem? (i := 165) rfl)) (hw _ (List.mem_of_getElem? (i := 6) rfl)) (hw _ (List.mem_of_getElem? (i := 7) rfl)) e0 (g := (mkF m 0 #[.val (.ref ob)] [])) rfl (hb hby own_d26_0) (by decide) (by decide)
  obtain ⟨b1, g1⟩ : ∃ z, z = h0.size := ⟨_, rfl⟩
  rw [← g1] at A1 D1 st1
  have sz2 : h0.size ≤ h1.size := E1.1
  have lt_b1 := own_lt A1.lt
  have F1_coder : Fld Z h1 b1 "java/lang/String" "coder" "B" (.int (0 : Int32)) := D1 (Or.inr (hw _ (List.mem_of_getElem? (i := 31) rfl))) (ty := .byte) (by decide)
  have F1_value : Fld Z h1 b1 "java/lang/String" "value" "[B" .null := D1 (Or.inr (hw _ (List.mem_of_getElem? (i := 33) rfl))) (ty := (.array .byte)) (by decide)
  refine OwnFin.adv (B := T1.setTop (mkF m 3 #[.val (.ref ob)] [(.ref b1)])) (fun _ k => st1 _ k) ?_
  refine OwnFin.adv (B := T1.setTop (mkF m 4 #[.val (.ref ob)] [(.ref b1), (.ref b1)])) (fun _ k => XS.dup X1.here hx rfl (hb hby own_d26_3) rfl rfl k) ?_
  refine OwnFin.adv (B := T1.setTop (mkF m 5 #[.val (.ref ob)] [(.ref ob), (.ref b1), (.ref b1)])) (fun _ k => XS.aloadN X1.here hx rfl (hb hby own_d26_4) rfl rfl k) ?_
  have Old4 : Old Z n0 h1 := (O0.ext E1)
  have Fv5_1 : Exa Z h1 ob "java/lang/StringBuilder" := (E.ext E1)
  have Fv6_1 : Fld Z h1 ob "java/lang/AbstractStringBuilder" "value" "[B" (.ref da) := (Fv.ext E1)
  have Fv7_1 : Fld Z h1 ob "java/lang/AbstractStringBuilder" "coder" "B" (.int (0 : Int32)) := (Fc.ext E1)
  have Fv8_1 : Fld Z h1 ob "java/lang/AbstractStringBuilder" "count" "I" (.int (Int32.ofNat k0)) := (Fn.ext E1)
  have Fv9_1 : Arv Z h1 da kd .byte (Int32.ofNat cap) vd (.int (0 : Int32)) := (Va.ext E1)
  obtain ⟨_, _, ⟨T3, L3, k3, n3⟩, -, X3, ⟨Lc3, hQ3, l3, y3, z3⟩, st3⟩ := X1.specialBack hx (y := (⟨"java/lang/String", "<init>", "(Ljava/lang/StringBuilder;)V"⟩ : MethodName)) rfl hown (mvT hZ (hw _ (List.mem_of_getElem? (i := 166) rfl))) (mvT hZ (hw _ (List.mem_of_getElem? (i := 167) rfl))) (mvT hZ (hw _ (List.mem_of_getElem? (i := 168) rfl))) (by decide) (backOf (W := 1) (own_strSB l Z a0 hw [] b1 ob da kd vd cap k0 zc _ _ h1 n0 (by omega) Old4 SCS hzc A1 F1_value F1_coder (by omega) Fv5_1 Fv6_1 Fv7_1 Fv8_1 Fv9_1 hcap hvd hk hk64) hZ (hw _ (List.mem_of_getElem? (i := 168) rfl)) (hw _ (List.mem_of_getElem? (i := 7) rfl)) (by decide) (by decide)) (g := (mkF m 5 #[.val (.ref ob)] [(.ref ob), (.ref b1), (.ref b1)])) rfl (by rw [hml]; rfl) (Steps.refl _) (a := b1) (argsL := [(.ref ob)]) (rest := [(.ref b1)]) (lenOf own_pd_x28Ljavax2flangx2fStringBuilderx3bx29V rfl) rfl (by show 2 * 0 + _ ≤ _; exact Nat.le_of_eq rfl) (hb hby own_d26_5) (fun _ _ => ⟨rfl, e1, (by decide : 1 + 1 ≤ _), (by decide : 4 + 64 ≤ _)⟩)
  dsimp only [Pt.U, Pt.locs, Pt.cells, Pt.slots] at X3 l3 y3 z3 st3 hQ3
  subst l3 y3 z3
  obtain ⟨rfl, N3q, K3, t3, kt3, Fx3, Fy3, Vt3, ge3⟩ := hQ3
  have N3 := Fr.app N0 N3q
  have sz10 : h1.size ≤ T3.heap.size := K3.1
  have lt_t3 := own_lt Vt3.lt
  refine OwnFin.adv (B := T3.setTop (mkF m 8 #[.val (.ref ob)] [(.ref b1)])) (fun _ k => st3.trans k) ?_
  obtain ⟨fs, hr, hrun, hended, hW, hsame⟩ := X3.leave (v := some (.ref b1)) (fun h => by rw [Bd.returns] at h; cases h)
  refine OwnFin.leaf hP' ⟨_, _, own_retR X3 hx Bd.returns rfl rfl rfl (hb hby own_d26_8) hr, hrun, hended, _, _, rfl, ?_, ⟨_, rfl⟩, hW, hsame.mono (by decide) (by decide)⟩
  have Fv11_2 : Exa Z T3.heap b1 "java/lang/String" := (A1.keep K3)
  rw [show (T3.setFrames fs).heap = T3.heap from rfl]
  refine ⟨b1, rfl, N3, (((Keep.refl h0 []).ext E1).trans K3 (allS (Or.inr (by omega)) all0)), by omega, t3, kt3, Fv11_2, Fx3, Fy3, ?_, own_lt (a := b1) (b := T3.heap.size) (by omega), own_lt (a := t3) (b := T3.heap.size) (by omega), hp, by omega⟩
  have q := Vt3
  rw [hct] at q
  rw [hlen]
  exact q
theorem own_d3_0 : decode jdk_42_method_149_code 0 = .ok (.aload_n 0, 1) := by decide +kernel
theorem own_d3_1 : decode jdk_42_method_149_code 1 = .ok (.invokespecial 1, 3) := by decide +kernel
theorem own_d3_4 : decode jdk_42_method_149_code 4 = .ok (.iload_n 3, 1) := by decide +kernel
theorem own_d3_5 : decode jdk_42_method_149_code 5 = .ok (.ifCond .ne 22, 3) := by decide +kernel
theorem own_d3_8 : decode jdk_42_method_149_code 8 = .ok (.aload_n 0, 1) := by decide +kernel
theorem own_d3_9 : decode jdk_42_method_149_code 9 = .ok (.ldc 7, 2) := by decide +kernel
theorem own_d3_11 : decode jdk_42_method_149_code 11 = .ok (.getfield 9, 3) := by decide +kernel
theorem own_d3_14 : decode jdk_42_method_149_code 14 = .ok (.putfield 9, 3) := by decide +kernel
theorem own_d3_17 : decode jdk_42_method_149_code 17 = .ok (.aload_n 0, 1) := by decide +kernel
theorem own_d3_18 : decode jdk_42_method_149_code 18 = .ok (.ldc 7, 2) := by decide +kernel
theorem own_d3_20 : decode jdk_42_method_149_code 20 = .ok (.getfield 15, 3) := by decide +kernel
theorem own_d3_23 : decode jdk_42_method_149_code 23 = .ok (.putfield 15, 3) := by decide +kernel
theorem own_d3_26 : decode jdk_42_method_149_code 26 = .ok (.return_, 1) := by decide +kernel
theorem own_ef_strE5 (m : MethodId) (x0 : Addr) (x1 : Addr) (x2 : Int32) (x3 : Int32) : entryFrame m #[(.ref x0), (.ref x1), (.int x2), (.int x3), .null] 6 = mkF m 0 #[.val (.ref x0), .val (.ref x1), .val (.int x2), .val (.int x3), .val .null, .unset] [] := by first | (simp [entryFrame, mkF, argsToLocals, Value.category]; done) | rfl
def own_Q_strE5 (Z : State) (ob ar : Addr) (u1 : Value) (h0 : Heap) (n0 : Nat) (v : Option Value) (h : Heap) (L : List Loc) : Prop := v = none ∧ Fr n0 L ∧ Keep h0 h [ob] ∧ OwnS Z h h.size ob []
set_option maxRecDepth 65536 in
set_option maxHeartbeats 40000000 in
theorem own_strE5 (l : Launch) (Z : State) (a0 : Array Value) (hw : ∀ d ∈ tables_1, d.before a0 Z = true) (ws : List Jvm.Cond) (ob ar : Addr) (u1 : Value) (h0 : Heap) (n0 : Nat) (Z0 : n0 ≤ h0.size) (E : Exa Z h0 ob "java/lang/String") (Fv : Fld Z h0 ob "java/lang/String" "value" "[B" .null) (Fc : Fld Z h0 ob "java/lang/String" "coder" "B" u1) (g_ob : n0 ≤ ob) :
    MetFree l (⟨"java/lang/String", "<init>", "([CIILjava/lang/Void;)V"⟩ : MethodName) (head1 (Jvm.Cond.code (⟨"java/lang/String", "<init>", "([CIILjava/lang/Void;)V"⟩ : MethodName) jdk_42_method_149_code 6 none :: ws) ({ frames := 1, cells := 4, slots := 8, locals := 12 } : Room)) (fun A0 U0 => A0 = #[(.ref ob), (.ref ar), (.int (0 : Int32)), (.int (0 : Int32)), .null] ∧ Z.Warmed39 U0.vm ∧ U0.heap = h0 ∧ CHv Z own_EL U0.vm h0) (fun _ _ _ _ _ => True) (fun _ U0 o0 U1 => ∃ v0 L0, o0 = .returned v0 ∧ own_Q_strE5 Z ob ar u1 h0 n0 v0 U1.heap L0 ∧ CHr Z own_EL U0.vm U0.heap U1.vm U1.heap ∧ ReturnedEndW U0 o0 U1 L0 ({ frames := 1, cells := 4, slots := 8, locals := 12 } : Room).cells ({ frames := 1, cells := 4, slots := 8, locals := 12 } : Room).slots) := by
  refine MetFree.of_bodySF (plainFor_of_name own_pn_java_lang_String) hisR ?_
  intro p e s m args below meth c s₁ Bd hml0 hP hK
  obtain ⟨rfl, hZ, hh, H0⟩ := hP
  have hZs := hZ
  have hx := Bd.exec
  have hby := Bd.bytes
  have hml : c.maxLocals = 6 := hml0
  have hown : s.vm.findClass "java/lang/String" = some m.cls := findClass_of_methodNamed Bd.named
  have hnm := (name_of_methodNamed Bd.named Bd.method).1
  have X0 : Stand p l e ({ frames := 1, cells := 4, slots := 8, locals := 12 } : Room) s m #[(.ref ob), (.ref ar), (.int (0 : Int32)), (.int (0 : Int32)), .null] below meth c s₁ [] 0 0 := Stand.of_body Bd
  have e0 : s₁.heap = h0 := by rw [← hh, Bd.state]; rfl
  have N0 := Fr.nil n0
  refine OwnFin.entry (own_ef_strE5 m ob ar (0 : Int32) (0 : Int32)) (fun P' hP' => ?_)
  have lt_ob := own_lt E.lt
  have Sf_ob : Safe Z own_EL s.vm h0 ob := own_safeStr hZ.alike E Fv
  refine OwnFin.adv (B := s₁.setTop (mkF m 1 #[.val (.ref ob), .val (.ref ar), .val (.int (0 : Int32)), .val (.int (0 : Int32)), .val .null, .unset] [(.ref ob)])) (fun _ k => XS.aloadN X0.here hx rfl (hb hby own_d3_0) rfl rfl k) ?_
  obtain ⟨T1, X1, e1, st1⟩ := initO X0 hx hZ hown (hw _ (List.mem_of_getElem? (i := 15) rfl)) (hw _ (List.mem_of_getElem? (i := 16) rfl)) (hw _ (List.mem_of_getElem? (i := 17) rfl)) e0 (g := (mkF m 1 #[.val (.ref ob), .val (.ref ar), .val (.int (0 : Int32)), .val (.int (0 : Int32)), .val .null, .unset] [(.ref ob)])) rfl (by rw [hml]; rfl) rfl (hb hby own_d3_1) (by decide) (W := 0) (by show 2 * 0 + _ ≤ _; exact Nat.le_of_eq rfl) (by decide)
  refine OwnFin.adv (B := T1.setTop (mkF m 4 #[.val (.ref ob), .val (.ref ar), .val (.int (0 : Int32)), .val (.int (0 : Int32)), .val .null, .unset] [])) (fun _ k => st1 _ k) ?_
  refine OwnFin.adv (B := T1.setTop (mkF m 5 #[.val (.ref ob), .val (.ref ar), .val (.int (0 : Int32)), .val (.int (0 : Int32)), .val .null, .unset] [(.int (0 : Int32))])) (fun _ k => XS.iloadN X1.here hx rfl (hb hby own_d3_4) rfl k) ?_
  have hc5_4 : (0 : Int32) = (0 : Int32) := rfl
  refine OwnFin.adv (B := T1.setTop (mkF m 8 #[.val (.ref ob), .val (.ref ar), .val (.int (0 : Int32)), .val (.int (0 : Int32)), .val .null, .unset] [])) (fun _ k => XS.ifNo X1.here hx rfl (hb hby own_d3_5) rfl ((if0 _ _).trans (teq hc5_4).2) k) ?_
  refine OwnFin.adv (B := T1.setTop (mkF m 9 #[.val (.ref ob), .val (.ref ar), .val (.int (0 : Int32)), .val (.int (0 : Int32)), .val .null, .unset] [(.ref ob)])) (fun _ k => XS.aloadN X1.here hx rfl (hb hby own_d3_8) rfl rfl k) ?_
  obtain ⟨a2, T2, h2, kk2, bb2, kb2, X2, e2, E2, hS2, hk2, hZ, hown, Ea2, Fc2, Fv2, Vb2, lta2, ltb2, C2, Lt2, sf2, st2⟩ := ldcCH (s := s) (vm0 := s.vm) X1 hx hZ hown (hw _ (List.mem_of_getElem? (i := 34) rfl)) (fun d hd => hw d ((by decide +kernel : ∀ d ∈ Bundle.stringAtoms, d ∈ tables_1) d hd)) e1 (State.WarmedH.since (State.WarmedH.refl s) 0) (Nat.zero_le _) (own_EW hw) (by decide) ((CHr.refl H0)).1 (vs := []) (z := (0 : Int32)) ⟨by decide +kernel, by decide +kernel⟩ (by decide) (by decide) (g := (mkF m 9 #[.val (.ref ob), .val (.ref ar), .val (.int (0 : Int32)), .val (.int (0 : Int32)), .val .null, .unset] [(.ref ob)])) rfl (hb hby own_d3_9) (n := 0) (by decide) (by decide) (by decide) (by decide)
  have hZ2 := hZ
  have sz3 : h0.size ≤ h2.size := E2.1
  have chA2 : CHr Z own_EL s.vm h0 T2.vm h2 := ((CHr.refl H0)).trans C2
  have Sf4 : Safe Z own_EL T2.vm h2 ob := (C2.safe (own_lt (by omega)) Sf_ob)
  have nea2_ob := own_nee (sf2 ob Sf4).1
  have neb2_ob := own_nee (sf2 ob Sf4).2
  refine OwnFin.adv (B := T2.setTop (mkF m 11 #[.val (.ref ob), .val (.ref ar), .val (.int (0 : Int32)), .val (.int (0 : Int32)), .val .null, .unset] [(.ref a2), (.ref ob)])) (fun _ k => st2 _ k) ?_
  obtain ⟨T5, X5, e5, st5⟩ := getF X2 hx hZ hown (host := "") (Or.inl (hw _ (List.mem_of_getElem? (i := 32) rfl))) Via.refl e2 Fv2 (g := (mkF m 11 #[.val (.ref ob), .val (.ref ar), .val (.int (0 : Int32)), .val (.int (0 : Int32)), .val .null, .unset] [(.ref a2), (.ref ob)])) rfl rfl (hb hby own_d3_11)
  refine OwnFin.adv (B := T5.setTop (mkF m 14 #[.val (.ref ob), .val (.ref ar), .val (.int (0 : Int32)), .val (.int (0 : Int32)), .val .null, .unset] [(.ref bb2), (.ref ob)])) (fun _ k => st5 _ k) ?_
  have Fv6_1 : Exa Z h2 ob "java/lang/String" := (E.ext E2)
  have Fv7_1 : Fld Z h2 ob "java/lang/String" "value" "[B" .null := (Fv.ext E2)
  obtain ⟨T8, h8, X8, e8, W8, st8⟩ := putF X5 hx hZ hown (host := "") (Or.inl (hw _ (List.mem_of_getElem? (i := 32) rfl))) Via.refl e5 Fv7_1 Fv6_1 (Or.inr ⟨(hw _ (List.mem_of_getElem? (i := 33) rfl)), rfl, hnm⟩) (hw _ (List.mem_of_getElem? (i := 6) rfl)) (ty := (.array .byte)) (by decide) rfl rfl (g := (mkF m 14 #[.val (.ref ob), .val (.ref ar), .val (.int (0 : Int32)), .val (.int (0 : Int32)), .val .null, .unset] [(.ref bb2), (.ref ob)])) rfl rfl (hb hby own_d3_14)
  have Fw8 : Fld Z h8 ob "java/lang/String" "value" "[B" (.ref bb2) := Fv7_1.same W8
  have sz9 : h2.size ≤ h8.size := Nat.le_of_eq W8.size.symm
  have chA9 : CHr Z own_EL s.vm h0 T2.vm h8 := (chA2).trans (CHr.wr W8 Sf4 (chA2).1)
  have N8 := Fr.snoc X8 N0 (by omega : n0 ≤ ob)
  refine OwnFin.adv (B := T8.setTop (mkF m 17 #[.val (.ref ob), .val (.ref ar), .val (.int (0 : Int32)), .val (.int (0 : Int32)), .val .null, .unset] [])) (fun _ k => st8 _ k) ?_
  refine OwnFin.adv (B := T8.setTop (mkF m 18 #[.val (.ref ob), .val (.ref ar), .val (.int (0 : Int32)), .val (.int (0 : Int32)), .val .null, .unset] [(.ref ob)])) (fun _ k => XS.aloadN X8.here hx rfl (hb hby own_d3_17) rfl rfl k) ?_
  obtain ⟨a10, T10, h10, kk10, bb10, kb10, X10, e10, E10, hS10, hk10, hZ, hown, Ea10, Fc10, Fv10, Vb10, lta10, ltb10, C10, Lt10, sf10, st10⟩ := ldcCH (s := s) (vm0 := T2.vm) X8 hx hZ hown (hw _ (List.mem_of_getElem? (i := 34) rfl)) (fun d hd => hw d ((by decide +kernel : ∀ d ∈ Bundle.stringAtoms, d ∈ tables_1) d hd)) e8 hS2 (by omega) (own_EW hw) (by decide) (chA9).1 (vs := []) (z := (0 : Int32)) ⟨by decide +kernel, by decide +kernel⟩ (by decide) (by decide) (g := (mkF m 18 #[.val (.ref ob), .val (.ref ar), .val (.int (0 : Int32)), .val (.int (0 : Int32)), .val .null, .unset] [(.ref ob)])) rfl (hb hby own_d3_18) (n := 0) (by decide) (by decide) (by decide) (by decide)
  have hZ10 := hZ
  have sz11 : h8.size ≤ h10.size := E10.1
  have chA10 : CHr Z own_EL s.vm h0 T10.vm h10 := (chA9).trans C10
  have Sf12 : Safe Z own_EL T10.vm h10 ob := (C10.safe (own_lt (by omega)) (Safe.wr W8 Sf4 (chA2).1 Sf4))
  have nea10_ob := own_nee (sf10 ob Sf12).1
  have neb10_ob := own_nee (sf10 ob Sf12).2
  refine OwnFin.adv (B := T10.setTop (mkF m 20 #[.val (.ref ob), .val (.ref ar), .val (.int (0 : Int32)), .val (.int (0 : Int32)), .val .null, .unset] [(.ref a10), (.ref ob)])) (fun _ k => st10 _ k) ?_
  obtain ⟨T13, X13, e13, st13⟩ := getF X10 hx hZ hown (host := "") (Or.inl (hw _ (List.mem_of_getElem? (i := 30) rfl))) Via.refl e10 Fc10 (g := (mkF m 20 #[.val (.ref ob), .val (.ref ar), .val (.int (0 : Int32)), .val (.int (0 : Int32)), .val .null, .unset] [(.ref a10), (.ref ob)])) rfl rfl (hb hby own_d3_20)
  refine OwnFin.adv (B := T13.setTop (mkF m 23 #[.val (.ref ob), .val (.ref ar), .val (.int (0 : Int32)), .val (.int (0 : Int32)), .val .null, .unset] [(.int (0 : Int32)), (.ref ob)])) (fun _ k => st13 _ k) ?_
  have Fv14_3 : Exa Z h10 ob "java/lang/String" := ((Fv6_1.wr W8).ext E10)
  have Fv15_3 : Fld Z h10 ob "java/lang/String" "coder" "B" u1 := (((Fc.ext E2).other W8 (Or.inr (slot_ne (Or.inr (hw _ (List.mem_of_getElem? (i := 31) rfl))) (Or.inr (hw _ (List.mem_of_getElem? (i := 33) rfl))) (by decide) (t := .byte) (t' := (.array .byte)) (by decide) (by decide)))).ext E10)
  obtain ⟨T16, h16, X16, e16, W16, st16⟩ := putFN X13 hx hZ hown (hw _ (List.mem_of_getElem? (i := 30) rfl)) Via.refl e13 Fv15_3 Fv14_3 (Or.inr ⟨(hw _ (List.mem_of_getElem? (i := 31) rfl)), rfl, hnm⟩) (hw _ (List.mem_of_getElem? (i := 6) rfl)) (ty := .byte) (v' := .int (nar .byte (0 : Int32))) (by decide) rfl (fits_nar_byte _) (g := (mkF m 23 #[.val (.ref ob), .val (.ref ar), .val (.int (0 : Int32)), .val (.int (0 : Int32)), .val .null, .unset] [(.int (0 : Int32)), (.ref ob)])) rfl rfl (hb hby own_d3_23)
  have Fw16 : Fld Z h16 ob "java/lang/String" "coder" "B" (.int (0 : Int32)) := Fv15_3.same W16
  have sz17 : h10.size ≤ h16.size := Nat.le_of_eq W16.size.symm
  have chA17 : CHr Z own_EL s.vm h0 T10.vm h16 := (chA10).trans (CHr.wr W16 Sf12 (chA10).1)
  have N16 := Fr.snoc X16 N8 (by omega : n0 ≤ ob)
  refine OwnFin.adv (B := T16.setTop (mkF m 26 #[.val (.ref ob), .val (.ref ar), .val (.int (0 : Int32)), .val (.int (0 : Int32)), .val .null, .unset] [])) (fun _ k => st16 _ k) ?_
  obtain ⟨fs, hr, hrun, hended, hE⟩ := X16.leaveW hS10 (by rw [e16]; omega) (v := none) (fun _ => rfl)
  refine OwnFin.leaf hP' ⟨_, _, X16.returnOut hx Bd.returns (hb hby own_d3_26) hr, hrun, hended, _, _, rfl, ?_, own_chend (chA17) (CHv.at (s := s) (vm0 := T10.vm) (T := T16) X16 hZ (own_EW hw) (chA17).1) hh e16, own_monoW hE (by decide) (by decide)⟩
  have Fv18_4 : Exa Z h16 ob "java/lang/String" := (Fv14_3.wr W16)
  have Fv19_4 : Fld Z h16 ob "java/lang/String" "value" "[B" (.ref bb2) := ((Fw8.ext E10).other W16 (Or.inr (slot_ne (Or.inr (hw _ (List.mem_of_getElem? (i := 33) rfl))) (Or.inr (hw _ (List.mem_of_getElem? (i := 31) rfl))) (by decide) (t := (.array .byte)) (t' := .byte) (by decide) (by decide))))
  have Fv20_4 : Arv Z h16 bb2 kb2 .byte (0 : Int32) [] (.int 0) := (((Vb2.other W8 (own_ne (by omega))).ext E10).other W16 (own_ne (by omega)))
  rw [show (T16.setFrames fs).heap = h16 from e16]
  exact ⟨rfl, N16, (((((Keep.refl h0 [ob]).ext E2).wr W8 (Or.inl (List.mem_of_getElem? (i := 0) rfl))).ext E10).wr W16 (Or.inl (List.mem_of_getElem? (i := 0) rfl))), bb2, kb2, Fv18_4, Fv19_4, Fw16, Fv20_4, own_lt (a := ob) (b := h16.size) (by omega), own_lt Fv20_4.lt, (fun c hc => by cases hc), Nat.zero_le _⟩
theorem own_d2_0 : decode jdk_42_method_3_code 0 = .ok (.aload_n 0, 1) := by decide +kernel
theorem own_d2_1 : decode jdk_42_method_3_code 1 = .ok (.aload_n 1, 1) := by decide +kernel
theorem own_d2_2 : decode jdk_42_method_3_code 2 = .ok (.iconst 0, 1) := by decide +kernel
theorem own_d2_3 : decode jdk_42_method_3_code 3 = .ok (.aload_n 1, 1) := by decide +kernel
theorem own_d2_4 : decode jdk_42_method_3_code 4 = .ok (.arraylength, 1) := by decide +kernel
theorem own_d2_5 : decode jdk_42_method_3_code 5 = .ok (.aconst_null, 1) := by decide +kernel
theorem own_pd_x28x5bCIILjavax2flangx2fVoidx3bx29V : parseMethodDescriptor "([CIILjava/lang/Void;)V" = some ⟨[(.array .char), .int, .int, (.object "java/lang/Void")], none⟩ := by decide +kernel
theorem own_d2_6 : decode jdk_42_method_3_code 6 = .ok (.invokespecial 27, 3) := by decide +kernel
theorem own_d2_9 : decode jdk_42_method_3_code 9 = .ok (.return_, 1) := by decide +kernel
theorem own_ef_strE2 (m : MethodId) (x0 : Addr) (x1 : Addr) : entryFrame m #[(.ref x0), (.ref x1)] 2 = mkF m 0 #[.val (.ref x0), .val (.ref x1)] [] := by first | (simp [entryFrame, mkF, argsToLocals, Value.category]; done) | rfl
def own_Q_strE2 (Z : State) (ob ar : Addr) (u1 : Value) (kc : ClassId) (dc : Value) (h0 : Heap) (n0 : Nat) (v : Option Value) (h : Heap) (L : List Loc) : Prop := v = none ∧ Fr n0 L ∧ Keep h0 h [ob] ∧ OwnS Z h h.size ob []
set_option maxRecDepth 65536 in
set_option maxHeartbeats 40000000 in
theorem own_strE2 (l : Launch) (Z : State) (a0 : Array Value) (hw : ∀ d ∈ tables_1, d.before a0 Z = true) (ws : List Jvm.Cond) (ob ar : Addr) (u1 : Value) (kc : ClassId) (dc : Value) (h0 : Heap) (n0 : Nat) (Z0 : n0 ≤ h0.size) (E : Exa Z h0 ob "java/lang/String") (Fv : Fld Z h0 ob "java/lang/String" "value" "[B" .null) (Fc : Fld Z h0 ob "java/lang/String" "coder" "B" u1) (g_ob : n0 ≤ ob) (Va : Arv Z h0 ar kc .char (0 : Int32) [] dc) :
    MetFree l (⟨"java/lang/String", "<init>", "([C)V"⟩ : MethodName) (head1 (Jvm.Cond.code (⟨"java/lang/String", "<init>", "([C)V"⟩ : MethodName) jdk_42_method_3_code 2 none :: ws) ({ frames := 2, cells := 4, slots := 8, locals := 29 } : Room)) (fun A0 U0 => A0 = #[(.ref ob), (.ref ar)] ∧ Z.Warmed39 U0.vm ∧ U0.heap = h0 ∧ CHv Z own_EL U0.vm h0) (fun _ _ _ _ _ => True) (fun _ U0 o0 U1 => ∃ v0 L0, o0 = .returned v0 ∧ own_Q_strE2 Z ob ar u1 kc dc h0 n0 v0 U1.heap L0 ∧ CHr Z own_EL U0.vm U0.heap U1.vm U1.heap ∧ ReturnedEndW U0 o0 U1 L0 ({ frames := 2, cells := 4, slots := 8, locals := 29 } : Room).cells ({ frames := 2, cells := 4, slots := 8, locals := 29 } : Room).slots) := by
  refine MetFree.of_bodySF (plainFor_of_name own_pn_java_lang_String) hisR ?_
  intro p e s m args below meth c s₁ Bd hml0 hP hK
  obtain ⟨rfl, hZ, hh, H0⟩ := hP
  have hZs := hZ
  have hx := Bd.exec
  have hby := Bd.bytes
  have hml : c.maxLocals = 2 := hml0
  have hown : s.vm.findClass "java/lang/String" = some m.cls := findClass_of_methodNamed Bd.named
  have hnm := (name_of_methodNamed Bd.named Bd.method).1
  have X0 : Stand p l e ({ frames := 2, cells := 4, slots := 8, locals := 29 } : Room) s m #[(.ref ob), (.ref ar)] below meth c s₁ [] 0 0 := Stand.of_body Bd
  have e0 : s₁.heap = h0 := by rw [← hh, Bd.state]; rfl
  have N0 := Fr.nil n0
  refine OwnFin.entry (own_ef_strE2 m ob ar) (fun P' hP' => ?_)
  have lt_ob := own_lt E.lt
  have Sf_ob : Safe Z own_EL s.vm h0 ob := own_safeStr hZ.alike E Fv
  refine OwnFin.adv (B := s₁.setTop (mkF m 1 #[.val (.ref ob), .val (.ref ar)] [(.ref ob)])) (fun _ k => XS.aloadN X0.here hx rfl (hb hby own_d2_0) rfl rfl k) ?_
  refine OwnFin.adv (B := s₁.setTop (mkF m 2 #[.val (.ref ob), .val (.ref ar)] [(.ref ar), (.ref ob)])) (fun _ k => XS.aloadN X0.here hx rfl (hb hby own_d2_1) rfl rfl k) ?_
  refine OwnFin.adv (B := s₁.setTop (mkF m 3 #[.val (.ref ob), .val (.ref ar)] [(.int (0 : Int32)), (.ref ar), (.ref ob)])) (fun _ k => XS.iconst X0.here hx rfl (hb hby own_d2_2) k) ?_
  refine OwnFin.adv (B := s₁.setTop (mkF m 4 #[.val (.ref ob), .val (.ref ar)] [(.ref ar), (.int (0 : Int32)), (.ref ar), (.ref ob)])) (fun _ k => XS.aloadN X0.here hx rfl (hb hby own_d2_3) rfl rfl k) ?_
  obtain ⟨cl1, Ar1, ck1, S1, M1, H1, G1⟩ := id Va
  refine OwnFin.adv (B := s₁.setTop (mkF m 5 #[.val (.ref ob), .val (.ref ar)] [(.int (0 : Int32)), (.int (0 : Int32)), (.ref ar), (.ref ob)])) (fun _ k => X0.arraylength hx (by rw [e0]; exact Ar1.1) (State.isArrayOf_alike hZ.alike Ar1.2.1) (g := (mkF m 4 #[.val (.ref ob), .val (.ref ar)] [(.ref ar), (.int (0 : Int32)), (.ref ar), (.ref ob)])) rfl rfl (hb hby own_d2_4) _ (by rw [len_of S1 M1]; exact k)) ?_
  refine OwnFin.adv (B := s₁.setTop (mkF m 6 #[.val (.ref ob), .val (.ref ar)] [.null, (.int (0 : Int32)), (.int (0 : Int32)), (.ref ar), (.ref ob)])) (fun _ k => XS.aconstNull X0.here hx rfl (hb hby own_d2_5) k) ?_
  obtain ⟨_, _, ⟨T2, L2, k2, n2⟩, -, X2, hSb2, hgr2, ⟨Lc2, hQ2, l2, y2, z2, C2⟩, st2⟩ := Stand.specialBackS (s := (s.setVm s.vm)) X0 hx (y := (⟨"java/lang/String", "<init>", "([CIILjava/lang/Void;)V"⟩ : MethodName)) rfl hown (mvT hZ (hw _ (List.mem_of_getElem? (i := 11) rfl))) (mvT hZ (hw _ (List.mem_of_getElem? (i := 12) rfl))) (mvT hZ (hw _ (List.mem_of_getElem? (i := 14) rfl))) (by decide) (backOfSH (s := s) (vm0 := s.vm) (W := 0) (own_strE5 l Z a0 hw [] ob ar _ h0 n0 (by omega) E Fv Fc (by omega)) hZ (hw _ (List.mem_of_getElem? (i := 14) rfl)) (hw _ (List.mem_of_getElem? (i := 7) rfl)) (by decide) (by decide) (own_EW hw) ((CHr.refl H0)).1) (g := (mkF m 6 #[.val (.ref ob), .val (.ref ar)] [.null, (.int (0 : Int32)), (.int (0 : Int32)), (.ref ar), (.ref ob)])) rfl (by rw [hml]; rfl) (Steps.refl _) (a := ob) (argsL := [(.ref ar), (.int (0 : Int32)), (.int (0 : Int32)), .null]) (rest := []) (lenOf own_pd_x28x5bCIILjavax2flangx2fVoidx3bx29V rfl) rfl (by show 2 * 0 + _ ≤ _; exact Nat.le_of_eq rfl) (hb hby own_d2_6) (fun _ _ => ⟨rfl, e0, (by decide : 0 + 4 ≤ _), (by decide : 0 + 8 ≤ _)⟩)
  dsimp only [Pt.U, Pt.locs, Pt.cells, Pt.slots] at X2 l2 y2 z2 st2 hQ2 hSb2 hgr2 C2
  subst l2 y2 z2
  obtain ⟨Xr2, hS2, hZ, hown⟩ := rebS (s := s) (vm0 := s.vm) (State.WarmedH.since (State.WarmedH.refl s) 0) (Nat.zero_le _) X2 hSb2 hgr2 hZ hown
  have hkk2 : T2.heap.size ≤ T2.heap.size := Nat.le_refl _
  have hZ2 := hZ
  obtain ⟨rfl, N2q, K2, Fe2⟩ := hQ2
  have N2 := Fr.app N0 N2q
  have sz3 : h0.size ≤ T2.heap.size := K2.1
  have chA3 : CHr Z own_EL s.vm h0 T2.vm T2.heap := ((CHr.refl H0)).trans C2
  refine OwnFin.adv (B := T2.setTop (mkF m 9 #[.val (.ref ob), .val (.ref ar)] [])) (fun _ k => st2.trans k) ?_
  obtain ⟨fs, hr, hrun, hended, hE⟩ := Xr2.leaveW hS2 (by omega) (v := none) (fun _ => rfl)
  refine OwnFin.leaf hP' ⟨_, _, Xr2.returnOut hx Bd.returns (hb hby own_d2_9) hr, hrun, hended, _, _, rfl, ?_, own_chend (chA3) (CHv.at (s := s) (vm0 := T2.vm) (T := T2) Xr2 hZ (own_EW hw) (chA3).1) hh rfl, own_monoW hE (by decide) (by decide)⟩
  rw [show (T2.setFrames fs).heap = T2.heap from rfl]
  exact ⟨rfl, N2, ((Keep.refl h0 [ob]).trans K2 (allS (Or.inl (List.mem_of_getElem? (i := 0) rfl)) all0)), Fe2⟩
def own_cs (nn av bv cv : Int32) : List Int32 := if nn = 0 then [] else if nn = 1 then [av &&& (255 : Int32)] else if nn = 2 then [av &&& (255 : Int32), bv &&& (255 : Int32)] else [av &&& (255 : Int32), bv &&& (255 : Int32), cv &&& (255 : Int32)]
theorem own_cs3 (nn av bv cv : Int32) : (own_cs nn av bv cv).length ≤ 3 := by
  unfold own_cs
  by_cases h0 : nn = 0
  · rw [if_pos h0]; simp
  · rw [if_neg h0]
    by_cases h1 : nn = 1
    · rw [if_pos h1]; simp
    · rw [if_neg h1]
      by_cases h2 : nn = 2
      · rw [if_pos h2]; simp
      · rw [if_neg h2]; simp
theorem own_narm (x : Int32) : nar .char (x &&& (255 : Int32)) = x &&& 255 := by simp only [nar, i2c_mask]
theorem own_d1_0 : decode method_2_code 0 = .ok (.iload_n 1, 1) := by decide +kernel
theorem own_d1_1 : decode method_2_code 1 = .ok (.sipush 255, 3) := by decide +kernel
theorem own_d1_4 : decode method_2_code 4 = .ok (.iand, 1) := by decide +kernel
theorem own_d1_5 : decode method_2_code 5 = .ok (.i2c, 1) := by decide +kernel
theorem own_d1_6 : decode method_2_code 6 = .ok (.istore 4, 2) := by decide +kernel
theorem own_d1_8 : decode method_2_code 8 = .ok (.iload_n 2, 1) := by decide +kernel
theorem own_d1_9 : decode method_2_code 9 = .ok (.sipush 255, 3) := by decide +kernel
theorem own_d1_12 : decode method_2_code 12 = .ok (.iand, 1) := by decide +kernel
theorem own_d1_13 : decode method_2_code 13 = .ok (.i2c, 1) := by decide +kernel
theorem own_d1_14 : decode method_2_code 14 = .ok (.istore 5, 2) := by decide +kernel
theorem own_d1_16 : decode method_2_code 16 = .ok (.iload_n 3, 1) := by decide +kernel
theorem own_d1_17 : decode method_2_code 17 = .ok (.sipush 255, 3) := by decide +kernel
theorem own_d1_20 : decode method_2_code 20 = .ok (.iand, 1) := by decide +kernel
theorem own_d1_21 : decode method_2_code 21 = .ok (.i2c, 1) := by decide +kernel
theorem own_d1_22 : decode method_2_code 22 = .ok (.istore 6, 2) := by decide +kernel
theorem own_d1_24 : decode method_2_code 24 = .ok (.iload_n 0, 1) := by decide +kernel
theorem own_d1_25 : decode method_2_code 25 = .ok (.ifCond .ne 14, 3) := by decide +kernel
theorem own_d1_28 : decode method_2_code 28 = .ok (.new 7, 3) := by decide +kernel
theorem own_d1_31 : decode method_2_code 31 = .ok (.dup, 1) := by decide +kernel
theorem own_d1_32 : decode method_2_code 32 = .ok (.iconst 0, 1) := by decide +kernel
theorem own_d1_33 : decode method_2_code 33 = .ok (.newarray .char, 2) := by decide +kernel
theorem own_pd_x28x5bCx29V : parseMethodDescriptor "([C)V" = some ⟨[(.array .char)], none⟩ := by decide +kernel
theorem own_d1_35 : decode method_2_code 35 = .ok (.invokespecial 9, 3) := by decide +kernel
theorem own_d1_38 : decode method_2_code 38 = .ok (.areturn, 1) := by decide +kernel
theorem own_d1_39 : decode method_2_code 39 = .ok (.iload_n 0, 1) := by decide +kernel
theorem own_d1_40 : decode method_2_code 40 = .ok (.iconst 1, 1) := by decide +kernel
theorem own_d1_41 : decode method_2_code 41 = .ok (.if_icmp .ne 24, 3) := by decide +kernel
theorem own_d1_44 : decode method_2_code 44 = .ok (.iconst 1, 1) := by decide +kernel
theorem own_d1_45 : decode method_2_code 45 = .ok (.newarray .char, 2) := by decide +kernel
theorem own_d1_47 : decode method_2_code 47 = .ok (.astore 7, 2) := by decide +kernel
theorem own_d1_49 : decode method_2_code 49 = .ok (.aload 7, 2) := by decide +kernel
theorem own_d1_51 : decode method_2_code 51 = .ok (.iconst 0, 1) := by decide +kernel
theorem own_d1_52 : decode method_2_code 52 = .ok (.iload 4, 2) := by decide +kernel
theorem own_d1_54 : decode method_2_code 54 = .ok (.castore, 1) := by decide +kernel
theorem own_d1_55 : decode method_2_code 55 = .ok (.new 7, 3) := by decide +kernel
theorem own_d1_58 : decode method_2_code 58 = .ok (.dup, 1) := by decide +kernel
theorem own_d1_59 : decode method_2_code 59 = .ok (.aload 7, 2) := by decide +kernel
theorem own_d1_61 : decode method_2_code 61 = .ok (.invokespecial 9, 3) := by decide +kernel
theorem own_d1_64 : decode method_2_code 64 = .ok (.areturn, 1) := by decide +kernel
theorem own_d1_65 : decode method_2_code 65 = .ok (.iload_n 0, 1) := by decide +kernel
theorem own_d1_66 : decode method_2_code 66 = .ok (.iconst 2, 1) := by decide +kernel
theorem own_d1_67 : decode method_2_code 67 = .ok (.if_icmp .ne 30, 3) := by decide +kernel
theorem own_d1_70 : decode method_2_code 70 = .ok (.iconst 2, 1) := by decide +kernel
theorem own_d1_71 : decode method_2_code 71 = .ok (.newarray .char, 2) := by decide +kernel
theorem own_d1_73 : decode method_2_code 73 = .ok (.astore 7, 2) := by decide +kernel
theorem own_d1_75 : decode method_2_code 75 = .ok (.aload 7, 2) := by decide +kernel
theorem own_d1_77 : decode method_2_code 77 = .ok (.iconst 0, 1) := by decide +kernel
theorem own_d1_78 : decode method_2_code 78 = .ok (.iload 4, 2) := by decide +kernel
theorem own_d1_80 : decode method_2_code 80 = .ok (.castore, 1) := by decide +kernel
theorem own_d1_81 : decode method_2_code 81 = .ok (.aload 7, 2) := by decide +kernel
theorem own_d1_83 : decode method_2_code 83 = .ok (.iconst 1, 1) := by decide +kernel
theorem own_d1_84 : decode method_2_code 84 = .ok (.iload 5, 2) := by decide +kernel
theorem own_d1_86 : decode method_2_code 86 = .ok (.castore, 1) := by decide +kernel
theorem own_d1_87 : decode method_2_code 87 = .ok (.new 7, 3) := by decide +kernel
theorem own_d1_90 : decode method_2_code 90 = .ok (.dup, 1) := by decide +kernel
theorem own_d1_91 : decode method_2_code 91 = .ok (.aload 7, 2) := by decide +kernel
theorem own_d1_93 : decode method_2_code 93 = .ok (.invokespecial 9, 3) := by decide +kernel
theorem own_d1_96 : decode method_2_code 96 = .ok (.areturn, 1) := by decide +kernel
theorem own_d1_97 : decode method_2_code 97 = .ok (.iconst 3, 1) := by decide +kernel
theorem own_d1_98 : decode method_2_code 98 = .ok (.newarray .char, 2) := by decide +kernel
theorem own_d1_100 : decode method_2_code 100 = .ok (.astore 7, 2) := by decide +kernel
theorem own_d1_102 : decode method_2_code 102 = .ok (.aload 7, 2) := by decide +kernel
theorem own_d1_104 : decode method_2_code 104 = .ok (.iconst 0, 1) := by decide +kernel
theorem own_d1_105 : decode method_2_code 105 = .ok (.iload 4, 2) := by decide +kernel
theorem own_d1_107 : decode method_2_code 107 = .ok (.castore, 1) := by decide +kernel
theorem own_d1_108 : decode method_2_code 108 = .ok (.aload 7, 2) := by decide +kernel
theorem own_d1_110 : decode method_2_code 110 = .ok (.iconst 1, 1) := by decide +kernel
theorem own_d1_111 : decode method_2_code 111 = .ok (.iload 5, 2) := by decide +kernel
theorem own_d1_113 : decode method_2_code 113 = .ok (.castore, 1) := by decide +kernel
theorem own_d1_114 : decode method_2_code 114 = .ok (.aload 7, 2) := by decide +kernel
theorem own_d1_116 : decode method_2_code 116 = .ok (.iconst 2, 1) := by decide +kernel
theorem own_d1_117 : decode method_2_code 117 = .ok (.iload 6, 2) := by decide +kernel
theorem own_d1_119 : decode method_2_code 119 = .ok (.castore, 1) := by decide +kernel
theorem own_d1_120 : decode method_2_code 120 = .ok (.new 7, 3) := by decide +kernel
theorem own_d1_123 : decode method_2_code 123 = .ok (.dup, 1) := by decide +kernel
theorem own_d1_124 : decode method_2_code 124 = .ok (.aload 7, 2) := by decide +kernel
theorem own_d1_126 : decode method_2_code 126 = .ok (.invokespecial 9, 3) := by decide +kernel
theorem own_d1_129 : decode method_2_code 129 = .ok (.areturn, 1) := by decide +kernel
theorem own_ef_mk (m : MethodId) (x0 : Int32) (x1 : Int32) (x2 : Int32) (x3 : Int32) : entryFrame m #[(.int x0), (.int x1), (.int x2), (.int x3)] 8 = mkF m 0 #[.val (.int x0), .val (.int x1), .val (.int x2), .val (.int x3), .unset, .unset, .unset, .unset] [] := by first | (simp [entryFrame, mkF, argsToLocals, Value.category]; done) | rfl
theorem own_pn_com_example_raccordo_raccordo_sql_SqlTokenParameterPinLaw : plainName "com/example/raccordo/raccordo/sql/SqlTokenParameterPinLaw" = true := by first | (simp [plainName, overriddenIn]; done) | decide +kernel
def own_Q_mk (Z : State) (nn av bv cv zc : Int32) (h0 : Heap) (n0 : Nat) (v : Option Value) (h : Heap) (L : List Loc) : Prop := ∃ r : Addr, v = some (.ref r) ∧ Fr n0 L ∧ Keep h0 h [] ∧ h0.size ≤ r ∧ OwnS Z h h.size r (own_cs nn av bv cv)
set_option maxRecDepth 65536 in
set_option maxHeartbeats 40000000 in
theorem own_mk (l : Launch) (Z : State) (a0 : Array Value) (hw : ∀ d ∈ tables_1, d.before a0 Z = true) (ws : List Jvm.Cond) (nn av bv cv zc : Int32) (h0 : Heap) (n0 : Nat) (Z0 : n0 ≤ h0.size) (O0 : Old Z n0 h0) (SCS : Sta Z Z.heap "java/lang/String" "COMPACT_STRINGS" "Z" (.int zc)) (hzc : ¬ zc = 0) :
    MetFree l (⟨"com/example/raccordo/raccordo/sql/SqlTokenParameterPinLaw", "mk", "(IIII)Ljava/lang/String;"⟩ : MethodName) (head1 (Jvm.Cond.code (⟨"com/example/raccordo/raccordo/sql/SqlTokenParameterPinLaw", "mk", "(IIII)Ljava/lang/String;"⟩ : MethodName) method_2_code 8 (some (.object "java/lang/String")) :: ws) ({ frames := 4, cells := 6, slots := 12, locals := 66 } : Room)) (fun A0 U0 => A0 = #[(.int nn), (.int av), (.int bv), (.int cv)] ∧ Z.Warmed39 U0.vm ∧ U0.heap = h0 ∧ CHv Z own_EL U0.vm h0) (fun _ _ _ _ _ => True) (fun _ U0 o0 U1 => ∃ v0 L0, o0 = .returned v0 ∧ own_Q_mk Z nn av bv cv zc h0 n0 v0 U1.heap L0 ∧ CHr Z own_EL U0.vm U0.heap U1.vm U1.heap ∧ ReturnedEndW U0 o0 U1 L0 ({ frames := 4, cells := 6, slots := 12, locals := 66 } : Room).cells ({ frames := 4, cells := 6, slots := 12, locals := 66 } : Room).slots) := by
  refine MetFree.of_bodySF (plainFor_of_name own_pn_com_example_raccordo_raccordo_sql_SqlTokenParameterPinLaw) hisR ?_
  intro p e s m args below meth c s₁ Bd hml0 hP hK
  obtain ⟨rfl, hZ, hh, H0⟩ := hP
  have hZs := hZ
  have hx := Bd.exec
  have hby := Bd.bytes
  have hml : c.maxLocals = 8 := hml0
  have hown : s.vm.findClass "com/example/raccordo/raccordo/sql/SqlTokenParameterPinLaw" = some m.cls := findClass_of_methodNamed Bd.named
  have hnm := (name_of_methodNamed Bd.named Bd.method).1
  have X0 : Stand p l e ({ frames := 4, cells := 6, slots := 12, locals := 66 } : Room) s m #[(.int nn), (.int av), (.int bv), (.int cv)] below meth c s₁ [] 0 0 := Stand.of_body Bd
  have e0 : s₁.heap = h0 := by rw [← hh, Bd.state]; rfl
  have N0 := Fr.nil n0
  refine OwnFin.entry (own_ef_mk m nn av bv cv) (fun P' hP' => ?_)
  refine OwnFin.adv (B := s₁.setTop (mkF m 1 #[.val (.int nn), .val (.int av), .val (.int bv), .val (.int cv), .unset, .unset, .unset, .unset] [(.int av)])) (fun _ k => XS.iloadN X0.here hx rfl (hb hby own_d1_0) rfl k) ?_
  refine OwnFin.adv (B := s₁.setTop (mkF m 4 #[.val (.int nn), .val (.int av), .val (.int bv), .val (.int cv), .unset, .unset, .unset, .unset] [(.int (255 : Int32)), (.int av)])) (fun _ k => XS.sipush X0.here hx rfl (hb hby own_d1_1) k) ?_
  refine OwnFin.adv (B := s₁.setTop (mkF m 5 #[.val (.int nn), .val (.int av), .val (.int bv), .val (.int cv), .unset, .unset, .unset, .unset] [(.int (av &&& (255 : Int32)))])) (fun _ k => XS.iand X0.here hx rfl (hb hby own_d1_4) rfl k) ?_
  refine OwnFin.adv (B := s₁.setTop (mkF m 6 #[.val (.int nn), .val (.int av), .val (.int bv), .val (.int cv), .unset, .unset, .unset, .unset] [(.int ((av &&& (255 : Int32)).toUInt32.toUInt16.toUInt32.toInt32))])) (fun _ k => XS.i2c X0.here hx rfl (hb hby own_d1_5) rfl k) ?_
  rw [show (((av &&& (255 : Int32)).toUInt32.toUInt16.toUInt32.toInt32) : Int32) = (av &&& (255 : Int32)) from i2c_mask _]
  refine OwnFin.adv (B := s₁.setTop (mkF m 8 #[.val (.int nn), .val (.int av), .val (.int bv), .val (.int cv), .val (.int (av &&& (255 : Int32))), .unset, .unset, .unset] [])) (fun _ k => XS.istore X0.here hx rfl (hb hby own_d1_6) rfl (l' := #[.val (.int nn), .val (.int av), .val (.int bv), .val (.int cv), .val (.int (av &&& (255 : Int32))), .unset, .unset, .unset]) rfl k) ?_
  refine OwnFin.adv (B := s₁.setTop (mkF m 9 #[.val (.int nn), .val (.int av), .val (.int bv), .val (.int cv), .val (.int (av &&& (255 : Int32))), .unset, .unset, .unset] [(.int bv)])) (fun _ k => XS.iloadN X0.here hx rfl (hb hby own_d1_8) rfl k) ?_
  refine OwnFin.adv (B := s₁.setTop (mkF m 12 #[.val (.int nn), .val (.int av), .val (.int bv), .val (.int cv), .val (.int (av &&& (255 : Int32))), .unset, .unset, .unset] [(.int (255 : Int32)), (.int bv)])) (fun _ k => XS.sipush X0.here hx rfl (hb hby own_d1_9) k) ?_
  refine OwnFin.adv (B := s₁.setTop (mkF m 13 #[.val (.int nn), .val (.int av), .val (.int bv), .val (.int cv), .val (.int (av &&& (255 : Int32))), .unset, .unset, .unset] [(.int (bv &&& (255 : Int32)))])) (fun _ k => XS.iand X0.here hx rfl (hb hby own_d1_12) rfl k) ?_
  refine OwnFin.adv (B := s₁.setTop (mkF m 14 #[.val (.int nn), .val (.int av), .val (.int bv), .val (.int cv), .val (.int (av &&& (255 : Int32))), .unset, .unset, .unset] [(.int ((bv &&& (255 : Int32)).toUInt32.toUInt16.toUInt32.toInt32))])) (fun _ k => XS.i2c X0.here hx rfl (hb hby own_d1_13) rfl k) ?_
  rw [show (((bv &&& (255 : Int32)).toUInt32.toUInt16.toUInt32.toInt32) : Int32) = (bv &&& (255 : Int32)) from i2c_mask _]
  refine OwnFin.adv (B := s₁.setTop (mkF m 16 #[.val (.int nn), .val (.int av), .val (.int bv), .val (.int cv), .val (.int (av &&& (255 : Int32))), .val (.int (bv &&& (255 : Int32))), .unset, .unset] [])) (fun _ k => XS.istore X0.here hx rfl (hb hby own_d1_14) rfl (l' := #[.val (.int nn), .val (.int av), .val (.int bv), .val (.int cv), .val (.int (av &&& (255 : Int32))), .val (.int (bv &&& (255 : Int32))), .unset, .unset]) rfl k) ?_
  refine OwnFin.adv (B := s₁.setTop (mkF m 17 #[.val (.int nn), .val (.int av), .val (.int bv), .val (.int cv), .val (.int (av &&& (255 : Int32))), .val (.int (bv &&& (255 : Int32))), .unset, .unset] [(.int cv)])) (fun _ k => XS.iloadN X0.here hx rfl (hb hby own_d1_16) rfl k) ?_
  refine OwnFin.adv (B := s₁.setTop (mkF m 20 #[.val (.int nn), .val (.int av), .val (.int bv), .val (.int cv), .val (.int (av &&& (255 : Int32))), .val (.int (bv &&& (255 : Int32))), .unset, .unset] [(.int (255 : Int32)), (.int cv)])) (fun _ k => XS.sipush X0.here hx rfl (hb hby own_d1_17) k) ?_
  refine OwnFin.adv (B := s₁.setTop (mkF m 21 #[.val (.int nn), .val (.int av), .val (.int bv), .val (.int cv), .val (.int (av &&& (255 : Int32))), .val (.int (bv &&& (255 : Int32))), .unset, .unset] [(.int (cv &&& (255 : Int32)))])) (fun _ k => XS.iand X0.here hx rfl (hb hby own_d1_20) rfl k) ?_
  refine OwnFin.adv (B := s₁.setTop (mkF m 22 #[.val (.int nn), .val (.int av), .val (.int bv), .val (.int cv), .val (.int (av &&& (255 : Int32))), .val (.int (bv &&& (255 : Int32))), .unset, .unset] [(.int ((cv &&& (255 : Int32)).toUInt32.toUInt16.toUInt32.toInt32))])) (fun _ k => XS.i2c X0.here hx rfl (hb hby own_d1_21) rfl k) ?_
  rw [show (((cv &&& (255 : Int32)).toUInt32.toUInt16.toUInt32.toInt32) : Int32) = (cv &&& (255 : Int32)) from i2c_mask _]
  refine OwnFin.adv (B := s₁.setTop (mkF m 24 #[.val (.int nn), .val (.int av), .val (.int bv), .val (.int cv), .val (.int (av &&& (255 : Int32))), .val (.int (bv &&& (255 : Int32))), .val (.int (cv &&& (255 : Int32))), .unset] [])) (fun _ k => XS.istore X0.here hx rfl (hb hby own_d1_22) rfl (l' := #[.val (.int nn), .val (.int av), .val (.int bv), .val (.int cv), .val (.int (av &&& (255 : Int32))), .val (.int (bv &&& (255 : Int32))), .val (.int (cv &&& (255 : Int32))), .unset]) rfl k) ?_
  refine OwnFin.adv (B := s₁.setTop (mkF m 25 #[.val (.int nn), .val (.int av), .val (.int bv), .val (.int cv), .val (.int (av &&& (255 : Int32))), .val (.int (bv &&& (255 : Int32))), .val (.int (cv &&& (255 : Int32))), .unset] [(.int nn)])) (fun _ k => XS.iloadN X0.here hx rfl (hb hby own_d1_24) rfl k) ?_
  by_cases hc25 : nn = (0 : Int32)
  ·
    refine OwnFin.adv (B := s₁.setTop (mkF m 28 #[.val (.int nn), .val (.int av), .val (.int bv), .val (.int cv), .val (.int (av &&& (255 : Int32))), .val (.int (bv &&& (255 : Int32))), .val (.int (cv &&& (255 : Int32))), .unset] [])) (fun _ k => XS.ifNo X0.here hx rfl (hb hby own_d1_25) rfl ((if0 _ _).trans (teq hc25).2) k) ?_
    obtain ⟨T1, h1, X1, e1, E1, A1, D1, -, st1⟩ := newO X0 hx hZ hown (hw _ (List.mem_of_getElem? (i := 5) rfl)) (hw _ (List.mem_of_getElem? (i := 6) rfl)) (hw _ (List.mem_of_getElem? (i := 7) rfl)) e0 (g := (mkF m 28 #[.val (.int nn), .val (.int av), .val (.int bv), .val (.int cv), .val (.int (av &&& (255 : Int32))), .val (.int (bv &&& (255 : Int32))), .val (.int (cv &&& (255 : Int32))), .unset] [])) rfl (hb hby own_d1_28) (by decide) (by decide)
    obtain ⟨b1, g1⟩ : ∃ z, z = h0.size := ⟨_, rfl⟩
    rw [← g1] at A1 D1 st1
    have sz2 : h0.size ≤ h1.size := E1.1
    have chA2 : CHr Z own_EL s.vm h0 s.vm h1 := ((CHr.refl H0)).trans (CHr.ext E1 ((CHr.refl H0)).1)
    have lt_b1 := own_lt A1.lt
    have Sf1 : Safe Z own_EL s.vm h1 b1 := Safe.ext E1 ((CHr.refl H0)).1 (Safe.new (Nat.le_of_eq g1.symm))
    have F1_coder : Fld Z h1 b1 "java/lang/String" "coder" "B" (.int (0 : Int32)) := D1 (Or.inr (hw _ (List.mem_of_getElem? (i := 31) rfl))) (ty := .byte) (by decide)
    have F1_value : Fld Z h1 b1 "java/lang/String" "value" "[B" .null := D1 (Or.inr (hw _ (List.mem_of_getElem? (i := 33) rfl))) (ty := (.array .byte)) (by decide)
    refine OwnFin.adv (B := T1.setTop (mkF m 31 #[.val (.int nn), .val (.int av), .val (.int bv), .val (.int cv), .val (.int (av &&& (255 : Int32))), .val (.int (bv &&& (255 : Int32))), .val (.int (cv &&& (255 : Int32))), .unset] [(.ref b1)])) (fun _ k => st1 _ k) ?_
    refine OwnFin.adv (B := T1.setTop (mkF m 32 #[.val (.int nn), .val (.int av), .val (.int bv), .val (.int cv), .val (.int (av &&& (255 : Int32))), .val (.int (bv &&& (255 : Int32))), .val (.int (cv &&& (255 : Int32))), .unset] [(.ref b1), (.ref b1)])) (fun _ k => XS.dup X1.here hx rfl (hb hby own_d1_31) rfl rfl k) ?_
    refine OwnFin.adv (B := T1.setTop (mkF m 33 #[.val (.int nn), .val (.int av), .val (.int bv), .val (.int cv), .val (.int (av &&& (255 : Int32))), .val (.int (bv &&& (255 : Int32))), .val (.int (cv &&& (255 : Int32))), .unset] [(.int (0 : Int32)), (.ref b1), (.ref b1)])) (fun _ k => XS.iconst X1.here hx rfl (hb hby own_d1_32) k) ?_
    obtain ⟨T3, h3, k3, X3, e3, E3, A3, st3⟩ := newP X1 hx hZ (hw _ (List.mem_of_getElem? (i := 4) rfl)) e1 (g := (mkF m 33 #[.val (.int nn), .val (.int av), .val (.int bv), .val (.int cv), .val (.int (av &&& (255 : Int32))), .val (.int (bv &&& (255 : Int32))), .val (.int (cv &&& (255 : Int32))), .unset] [(.int (0 : Int32)), (.ref b1), (.ref b1)])) rfl (hb hby own_d1_33) rfl (by decide) (cap := 0) (by decide) (by decide) (by decide) (by decide)
    obtain ⟨b3, g3⟩ : ∃ z, z = h1.size := ⟨_, rfl⟩
    rw [← g3] at A3 st3
    have sz4 : h1.size ≤ h3.size := E3.1
    have chA4 : CHr Z own_EL s.vm h0 s.vm h3 := (chA2).trans (CHr.ext E3 (chA2).1)
    have lt_b3 := own_lt A3.lt
    have V3 : Arv Z h3 b3 k3 .char (0 : Int32) [] (.int (0 : Int32)) := (Arv.new A3 (by decide)).pad (pad_rep [] (.int (0 : Int32)) 0)
    refine OwnFin.adv (B := T3.setTop (mkF m 35 #[.val (.int nn), .val (.int av), .val (.int bv), .val (.int cv), .val (.int (av &&& (255 : Int32))), .val (.int (bv &&& (255 : Int32))), .val (.int (cv &&& (255 : Int32))), .unset] [(.ref b3), (.ref b1), (.ref b1)])) (fun _ k => st3 _ k) ?_
    have Fv6_2 : Exa Z h3 b1 "java/lang/String" := (A1.ext E3)
    have Fv7_2 : Fld Z h3 b1 "java/lang/String" "value" "[B" .null := (F1_value.ext E3)
    have Fv8_2 : Fld Z h3 b1 "java/lang/String" "coder" "B" (.int (0 : Int32)) := (F1_coder.ext E3)
    obtain ⟨_, _, ⟨T5, L5, k5, n5⟩, -, X5, hSb5, hgr5, ⟨Lc5, hQ5, l5, y5, z5, C5⟩, st5⟩ := Stand.specialBackS (s := (s.setVm s.vm)) X3 hx (y := (⟨"java/lang/String", "<init>", "([C)V"⟩ : MethodName)) rfl hown (mvT hZ (hw _ (List.mem_of_getElem? (i := 8) rfl))) (mvT hZ (hw _ (List.mem_of_getElem? (i := 9) rfl))) (mvT hZ (hw _ (List.mem_of_getElem? (i := 10) rfl))) (by decide) (backOfSH (s := s) (vm0 := s.vm) (W := 1) (own_strE2 l Z a0 hw [] b1 b3 _ _ _ h3 n0 (by omega) Fv6_2 Fv7_2 Fv8_2 (by omega) V3) hZ (hw _ (List.mem_of_getElem? (i := 10) rfl)) (hw _ (List.mem_of_getElem? (i := 7) rfl)) (by decide) (by decide) (own_EW hw) (chA4).1) (g := (mkF m 35 #[.val (.int nn), .val (.int av), .val (.int bv), .val (.int cv), .val (.int (av &&& (255 : Int32))), .val (.int (bv &&& (255 : Int32))), .val (.int (cv &&& (255 : Int32))), .unset] [(.ref b3), (.ref b1), (.ref b1)])) rfl (by rw [hml]; rfl) (Steps.refl _) (a := b1) (argsL := [(.ref b3)]) (rest := [(.ref b1)]) (lenOf own_pd_x28x5bCx29V rfl) rfl (by show 2 * 0 + _ ≤ _; exact Nat.le_of_eq rfl) (hb hby own_d1_35) (fun _ _ => ⟨rfl, e3, (by decide : 2 + 4 ≤ _), (by decide : 4 + 8 ≤ _)⟩)
    dsimp only [Pt.U, Pt.locs, Pt.cells, Pt.slots] at X5 l5 y5 z5 st5 hQ5 hSb5 hgr5 C5
    subst l5 y5 z5
    obtain ⟨Xr5, hS5, hZ, hown⟩ := rebS (s := s) (vm0 := s.vm) (State.WarmedH.since (State.WarmedH.refl s) 0) (Nat.zero_le _) X5 hSb5 hgr5 hZ hown
    have hkk5 : T5.heap.size ≤ T5.heap.size := Nat.le_refl _
    have hZ5 := hZ
    obtain ⟨rfl, N5q, K5, Fe5⟩ := hQ5
    have N5 := Fr.app N0 N5q
    have sz9 : h3.size ≤ T5.heap.size := K5.1
    have chA9 : CHr Z own_EL s.vm h0 T5.vm T5.heap := (chA4).trans C5
    refine OwnFin.adv (B := T5.setTop (mkF m 38 #[.val (.int nn), .val (.int av), .val (.int bv), .val (.int cv), .val (.int (av &&& (255 : Int32))), .val (.int (bv &&& (255 : Int32))), .val (.int (cv &&& (255 : Int32))), .unset] [(.ref b1)])) (fun _ k => st5.trans k) ?_
    obtain ⟨fs, hr, hrun, hended, hE⟩ := Xr5.leaveW hS5 (by omega) (v := some (.ref b1)) (fun h => by rw [Bd.returns] at h; cases h)
    refine OwnFin.leaf hP' ⟨_, _, own_retR Xr5 hx Bd.returns rfl rfl rfl (hb hby own_d1_38) hr, hrun, hended, _, _, rfl, ?_, own_chend (chA9) (CHv.at (s := s) (vm0 := T5.vm) (T := T5) Xr5 hZ (own_EW hw) (chA9).1) hh rfl, own_monoW hE (by decide) (by decide)⟩
    rw [show (T5.setFrames fs).heap = T5.heap from rfl]
    have hcs : own_cs nn av bv cv = [] := by simp [own_cs, hc25]
    refine ⟨b1, rfl, N5, ((((Keep.refl h0 []).ext E1).ext E3).trans K5 (allS (Or.inr (by omega)) all0)), by omega, ?_⟩
    rw [hcs]
    exact Fe5
  ·
    refine OwnFin.adv (B := s₁.setTop (mkF m 39 #[.val (.int nn), .val (.int av), .val (.int bv), .val (.int cv), .val (.int (av &&& (255 : Int32))), .val (.int (bv &&& (255 : Int32))), .val (.int (cv &&& (255 : Int32))), .unset] [])) (fun _ k => XS.ifYes X0.here hx rfl (pc0 := 25) (pc' := 39) rfl (hb hby own_d1_25) rfl ((if0 _ _).trans (feq hc25).2) (by decide) (by decide) k) ?_
    refine OwnFin.adv (B := s₁.setTop (mkF m 40 #[.val (.int nn), .val (.int av), .val (.int bv), .val (.int cv), .val (.int (av &&& (255 : Int32))), .val (.int (bv &&& (255 : Int32))), .val (.int (cv &&& (255 : Int32))), .unset] [(.int nn)])) (fun _ k => XS.iloadN X0.here hx rfl (hb hby own_d1_39) rfl k) ?_
    refine OwnFin.adv (B := s₁.setTop (mkF m 41 #[.val (.int nn), .val (.int av), .val (.int bv), .val (.int cv), .val (.int (av &&& (255 : Int32))), .val (.int (bv &&& (255 : Int32))), .val (.int (cv &&& (255 : Int32))), .unset] [(.int (1 : Int32)), (.int nn)])) (fun _ k => XS.iconst X0.here hx rfl (hb hby own_d1_40) k) ?_
    by_cases hc41 : nn = (1 : Int32)
    ·
      refine OwnFin.adv (B := s₁.setTop (mkF m 44 #[.val (.int nn), .val (.int av), .val (.int bv), .val (.int cv), .val (.int (av &&& (255 : Int32))), .val (.int (bv &&& (255 : Int32))), .val (.int (cv &&& (255 : Int32))), .unset] [])) (fun _ k => XS.icmpNo X0.here hx rfl (hb hby own_d1_41) rfl (teq hc41).2 k) ?_
      refine OwnFin.adv (B := s₁.setTop (mkF m 45 #[.val (.int nn), .val (.int av), .val (.int bv), .val (.int cv), .val (.int (av &&& (255 : Int32))), .val (.int (bv &&& (255 : Int32))), .val (.int (cv &&& (255 : Int32))), .unset] [(.int (1 : Int32))])) (fun _ k => XS.iconst X0.here hx rfl (hb hby own_d1_44) k) ?_
      obtain ⟨T10, h10, k10, X10, e10, E10, A10, st10⟩ := newP X0 hx hZ (hw _ (List.mem_of_getElem? (i := 4) rfl)) e0 (g := (mkF m 45 #[.val (.int nn), .val (.int av), .val (.int bv), .val (.int cv), .val (.int (av &&& (255 : Int32))), .val (.int (bv &&& (255 : Int32))), .val (.int (cv &&& (255 : Int32))), .unset] [(.int (1 : Int32))])) rfl (hb hby own_d1_45) rfl (by decide) (cap := 1) (by decide) (by decide) (by decide) (by decide)
      obtain ⟨b10, g10⟩ : ∃ z, z = h0.size := ⟨_, rfl⟩
      rw [← g10] at A10 st10
      have sz11 : h0.size ≤ h10.size := E10.1
      have chA11 : CHr Z own_EL s.vm h0 s.vm h10 := ((CHr.refl H0)).trans (CHr.ext E10 ((CHr.refl H0)).1)
      have lt_b10 := own_lt A10.lt
      have V10 : Arv Z h10 b10 k10 .char (1 : Int32) [(.int (0 : Int32))] (.int (0 : Int32)) := (Arv.new A10 (by decide)).pad (pad_rep [] (.int (0 : Int32)) 1)
      refine OwnFin.adv (B := T10.setTop (mkF m 47 #[.val (.int nn), .val (.int av), .val (.int bv), .val (.int cv), .val (.int (av &&& (255 : Int32))), .val (.int (bv &&& (255 : Int32))), .val (.int (cv &&& (255 : Int32))), .unset] [(.ref b10)])) (fun _ k => st10 _ k) ?_
      refine OwnFin.adv (B := T10.setTop (mkF m 49 #[.val (.int nn), .val (.int av), .val (.int bv), .val (.int cv), .val (.int (av &&& (255 : Int32))), .val (.int (bv &&& (255 : Int32))), .val (.int (cv &&& (255 : Int32))), .val (.ref b10)] [])) (fun _ k => XS.astore X10.here hx rfl (hb hby own_d1_47) rfl rfl (l' := #[.val (.int nn), .val (.int av), .val (.int bv), .val (.int cv), .val (.int (av &&& (255 : Int32))), .val (.int (bv &&& (255 : Int32))), .val (.int (cv &&& (255 : Int32))), .val (.ref b10)]) rfl k) ?_
      refine OwnFin.adv (B := T10.setTop (mkF m 51 #[.val (.int nn), .val (.int av), .val (.int bv), .val (.int cv), .val (.int (av &&& (255 : Int32))), .val (.int (bv &&& (255 : Int32))), .val (.int (cv &&& (255 : Int32))), .val (.ref b10)] [(.ref b10)])) (fun _ k => XS.aload X10.here hx rfl (hb hby own_d1_49) rfl rfl k) ?_
      refine OwnFin.adv (B := T10.setTop (mkF m 52 #[.val (.int nn), .val (.int av), .val (.int bv), .val (.int cv), .val (.int (av &&& (255 : Int32))), .val (.int (bv &&& (255 : Int32))), .val (.int (cv &&& (255 : Int32))), .val (.ref b10)] [(.int (0 : Int32)), (.ref b10)])) (fun _ k => XS.iconst X10.here hx rfl (hb hby own_d1_51) k) ?_
      refine OwnFin.adv (B := T10.setTop (mkF m 54 #[.val (.int nn), .val (.int av), .val (.int bv), .val (.int cv), .val (.int (av &&& (255 : Int32))), .val (.int (bv &&& (255 : Int32))), .val (.int (cv &&& (255 : Int32))), .val (.ref b10)] [(.int (av &&& (255 : Int32))), (.int (0 : Int32)), (.ref b10)])) (fun _ k => XS.iload X10.here hx rfl (hb hby own_d1_52) rfl k) ?_
      obtain ⟨cl12, Ar12, ck12, S12, M12, H12, G12⟩ := id V10
      have hin12 : ¬ ((0 : Int32) < 0 ∨ cl12.slots.size ≤ ((0 : Int32)).toNatClampNeg) := inb_of S12 ⟨by decide, by decide⟩
      obtain ⟨T12, h12, X12, e12, W12, st12⟩ := stC X10 hx hZ e10 Ar12 (j := (0 : Int32)) hin12 (g := (mkF m 54 #[.val (.int nn), .val (.int av), .val (.int bv), .val (.int cv), .val (.int (av &&& (255 : Int32))), .val (.int (bv &&& (255 : Int32))), .val (.int (cv &&& (255 : Int32))), .val (.ref b10)] [(.int (av &&& (255 : Int32))), (.int (0 : Int32)), (.ref b10)])) rfl rfl (hb hby own_d1_54)
      have V12 : Arv Z h12 b10 k10 .char (1 : Int32) [(.int (nar .char (av &&& (255 : Int32))))] (.int (0 : Int32)) := Arv.set Ar12 ck12 S12 M12 H12 G12 (fits_nar_char _) W12 0 rfl (Nat.le_of_ble_eq_true rfl)
      have V12s : Arv Z h12 b10 k10 .char (1 : Int32) [(.int (av &&& (255 : Int32)))] (.int (0 : Int32)) := by
        have q := V12
        rw [show ((.int (nar .char (av &&& (255 : Int32)))) : Value) = (.int (av &&& (255 : Int32))) from congrArg Value.int (own_narm _)] at q
        exact q
      have sz13 : h10.size ≤ h12.size := Nat.le_of_eq W12.size.symm
      have chA13 : CHr Z own_EL s.vm h0 s.vm h12 := (chA11).trans (CHr.wr W12 (Safe.arv hZs.alike V10 (by decide)) (chA11).1)
      have N12 := Fr.snoc X12 N0 (by omega : n0 ≤ b10)
      refine OwnFin.adv (B := T12.setTop (mkF m 55 #[.val (.int nn), .val (.int av), .val (.int bv), .val (.int cv), .val (.int (av &&& (255 : Int32))), .val (.int (bv &&& (255 : Int32))), .val (.int (cv &&& (255 : Int32))), .val (.ref b10)] [])) (fun _ k => st12 _ k) ?_
      obtain ⟨T14, h14, X14, e14, E14, A14, D14, -, st14⟩ := newO X12 hx hZ hown (hw _ (List.mem_of_getElem? (i := 5) rfl)) (hw _ (List.mem_of_getElem? (i := 6) rfl)) (hw _ (List.mem_of_getElem? (i := 7) rfl)) e12 (g := (mkF m 55 #[.val (.int nn), .val (.int av), .val (.int bv), .val (.int cv), .val (.int (av &&& (255 : Int32))), .val (.int (bv &&& (255 : Int32))), .val (.int (cv &&& (255 : Int32))), .val (.ref b10)] [])) rfl (hb hby own_d1_55) (by decide) (by decide)
      obtain ⟨b14, g14⟩ : ∃ z, z = h12.size := ⟨_, rfl⟩
      rw [← g14] at A14 D14 st14
      have sz15 : h12.size ≤ h14.size := E14.1
      have chA15 : CHr Z own_EL s.vm h0 s.vm h14 := (chA13).trans (CHr.ext E14 (chA13).1)
      have lt_b14 := own_lt A14.lt
      have Sf14 : Safe Z own_EL s.vm h14 b14 := Safe.ext E14 (chA13).1 (Safe.new (Nat.le_of_eq g14.symm))
      have F14_coder : Fld Z h14 b14 "java/lang/String" "coder" "B" (.int (0 : Int32)) := D14 (Or.inr (hw _ (List.mem_of_getElem? (i := 31) rfl))) (ty := .byte) (by decide)
      have F14_value : Fld Z h14 b14 "java/lang/String" "value" "[B" .null := D14 (Or.inr (hw _ (List.mem_of_getElem? (i := 33) rfl))) (ty := (.array .byte)) (by decide)
      refine OwnFin.adv (B := T14.setTop (mkF m 58 #[.val (.int nn), .val (.int av), .val (.int bv), .val (.int cv), .val (.int (av &&& (255 : Int32))), .val (.int (bv &&& (255 : Int32))), .val (.int (cv &&& (255 : Int32))), .val (.ref b10)] [(.ref b14)])) (fun _ k => st14 _ k) ?_
      refine OwnFin.adv (B := T14.setTop (mkF m 59 #[.val (.int nn), .val (.int av), .val (.int bv), .val (.int cv), .val (.int (av &&& (255 : Int32))), .val (.int (bv &&& (255 : Int32))), .val (.int (cv &&& (255 : Int32))), .val (.ref b10)] [(.ref b14), (.ref b14)])) (fun _ k => XS.dup X14.here hx rfl (hb hby own_d1_58) rfl rfl k) ?_
      refine OwnFin.adv (B := T14.setTop (mkF m 61 #[.val (.int nn), .val (.int av), .val (.int bv), .val (.int cv), .val (.int (av &&& (255 : Int32))), .val (.int (bv &&& (255 : Int32))), .val (.int (cv &&& (255 : Int32))), .val (.ref b10)] [(.ref b10), (.ref b14), (.ref b14)])) (fun _ k => XS.aload X14.here hx rfl (hb hby own_d1_59) rfl rfl k) ?_
      have hws17 : ∀ d ∈ StrChars.Road.words, d.before a0 Z = true := fun d hd => hw d ((by decide +kernel : ∀ d ∈ StrChars.Road.words, d ∈ tables_1) d hd)
      have hlat17 : ∀ c ∈ ([(av &&& (255 : Int32))] : List Int32), ¬ c < 0 ∧ ¬ (255 : Int32) < c := by
        intro c hc
        simp only [List.mem_cons, List.not_mem_nil, or_false] at hc
        rcases hc with rfl <;> exact own_and255 _
      have Fv18_3 : Arv Z h14 b10 k10 .char (1 : Int32) [(.int (av &&& (255 : Int32)))] (.int (0 : Int32)) := (V12s.ext E14)
      have Old19 : Old Z n0 h14 := (((O0.ext E10).wr W12 (by omega)).ext E14)
      obtain ⟨_, _, ⟨T16, L16, k16, n16⟩, -, X16, ⟨Lc16, hQ16, l16, y16, z16⟩, st16⟩ := X14.specialBack hx (y := (⟨"java/lang/String", "<init>", "([C)V"⟩ : MethodName)) rfl hown (mvT hZ (hw _ (List.mem_of_getElem? (i := 8) rfl))) (mvT hZ (hw _ (List.mem_of_getElem? (i := 9) rfl))) (mvT hZ (hw _ (List.mem_of_getElem? (i := 10) rfl))) (by decide) (StrChars.Road.backV (W := 1) hZ hws17 (kI := 4) (hw _ (List.mem_of_getElem? (i := 6) rfl)) (cs := [(av &&& (255 : Int32))]) (bs := [((av &&& (255 : Int32))).toInt8.toInt32]) (n := 1) (n0 := n0) (by omega) (by omega) A14 F14_value F14_coder Fv18_3 (own_staK SCS Old19) hzc rfl rfl (by decide) (by decide) hlat17 rfl (by decide) (by decide)) (g := (mkF m 61 #[.val (.int nn), .val (.int av), .val (.int bv), .val (.int cv), .val (.int (av &&& (255 : Int32))), .val (.int (bv &&& (255 : Int32))), .val (.int (cv &&& (255 : Int32))), .val (.ref b10)] [(.ref b10), (.ref b14), (.ref b14)])) rfl (by rw [hml]; rfl) (Steps.refl _) (a := b14) (argsL := [(.ref b10)]) (rest := [(.ref b14)]) (lenOf own_pd_x28x5bCx29V rfl) rfl (by show 2 * 0 + _ ≤ _; exact Nat.le_of_eq rfl) (hb hby own_d1_61) (fun _ _ => ⟨rfl, e14, (by decide : 2 + 1 ≤ _), (by decide : 5 + 1 ≤ _)⟩)
      dsimp only [Pt.U, Pt.locs, Pt.cells, Pt.slots] at X16 l16 y16 z16 st16 hQ16
      subst l16 y16 z16
      obtain ⟨rfl, N16q, K16, E16s, C16s, t16, kb16, u16a, u16b, u16c, F16v, V16b⟩ := hQ16
      have N16 := Fr.app N12 N16q
      have sz20 : h14.size ≤ T16.heap.size := K16.1
      have chA20 : CHr Z own_EL s.vm h0 s.vm T16.heap := (chA15).trans (CHr.keep K16 (sfS Sf14 sf0) (chA15).1)
      have lt_t16 := own_lt V16b.lt
      refine OwnFin.adv (B := T16.setTop (mkF m 64 #[.val (.int nn), .val (.int av), .val (.int bv), .val (.int cv), .val (.int (av &&& (255 : Int32))), .val (.int (bv &&& (255 : Int32))), .val (.int (cv &&& (255 : Int32))), .val (.ref b10)] [(.ref b14)])) (fun _ k => st16.trans k) ?_
      obtain ⟨fs, hr, hrun, hended, hW, hsame⟩ := X16.leave (v := some (.ref b14)) (fun h => by rw [Bd.returns] at h; cases h)
      refine OwnFin.leaf hP' ⟨_, _, own_retR X16 hx Bd.returns rfl rfl rfl (hb hby own_d1_64) hr, hrun, hended, _, _, rfl, ?_, own_chend (chA20) (CHv.at (s := s) (vm0 := s.vm) (T := T16) X16 hZ (own_EW hw) (chA20).1) hh rfl, ReturnedEndW.of_narrow ⟨_, rfl⟩ hW (hsame.mono (by decide) (by decide))⟩
      have Fo21 : OwnS Z T16.heap T16.heap.size b14 [(av &&& (255 : Int32))] := ⟨t16, kb16, E16s, F16v, C16s, V16b, own_lt (a := b14) (b := T16.heap.size) (by omega), own_lt (a := t16) (b := T16.heap.size) (by omega), by
            intro c hc
            simp only [List.mem_cons, List.not_mem_nil, or_false] at hc
            rcases hc with rfl <;> exact own_and255 _, by simp⟩
      rw [show (T16.setFrames fs).heap = T16.heap from rfl]
      have hcs : own_cs nn av bv cv = [(av &&& (255 : Int32))] := by simp [own_cs, hc25, hc41]
      refine ⟨b14, rfl, N16, (((((Keep.refl h0 []).ext E10).wr W12 (Or.inr (by omega))).ext E14).trans K16 (allS (Or.inr (by omega)) all0)), by omega, ?_⟩
      rw [hcs]
      exact Fo21
    ·
      refine OwnFin.adv (B := s₁.setTop (mkF m 65 #[.val (.int nn), .val (.int av), .val (.int bv), .val (.int cv), .val (.int (av &&& (255 : Int32))), .val (.int (bv &&& (255 : Int32))), .val (.int (cv &&& (255 : Int32))), .unset] [])) (fun _ k => XS.icmpYes X0.here hx rfl (pc0 := 41) (pc' := 65) rfl (hb hby own_d1_41) rfl (feq hc41).2 (by decide) (by decide) k) ?_
      refine OwnFin.adv (B := s₁.setTop (mkF m 66 #[.val (.int nn), .val (.int av), .val (.int bv), .val (.int cv), .val (.int (av &&& (255 : Int32))), .val (.int (bv &&& (255 : Int32))), .val (.int (cv &&& (255 : Int32))), .unset] [(.int nn)])) (fun _ k => XS.iloadN X0.here hx rfl (hb hby own_d1_65) rfl k) ?_
      refine OwnFin.adv (B := s₁.setTop (mkF m 67 #[.val (.int nn), .val (.int av), .val (.int bv), .val (.int cv), .val (.int (av &&& (255 : Int32))), .val (.int (bv &&& (255 : Int32))), .val (.int (cv &&& (255 : Int32))), .unset] [(.int (2 : Int32)), (.int nn)])) (fun _ k => XS.iconst X0.here hx rfl (hb hby own_d1_66) k) ?_
      by_cases hc67 : nn = (2 : Int32)
      ·
        refine OwnFin.adv (B := s₁.setTop (mkF m 70 #[.val (.int nn), .val (.int av), .val (.int bv), .val (.int cv), .val (.int (av &&& (255 : Int32))), .val (.int (bv &&& (255 : Int32))), .val (.int (cv &&& (255 : Int32))), .unset] [])) (fun _ k => XS.icmpNo X0.here hx rfl (hb hby own_d1_67) rfl (teq hc67).2 k) ?_
        refine OwnFin.adv (B := s₁.setTop (mkF m 71 #[.val (.int nn), .val (.int av), .val (.int bv), .val (.int cv), .val (.int (av &&& (255 : Int32))), .val (.int (bv &&& (255 : Int32))), .val (.int (cv &&& (255 : Int32))), .unset] [(.int (2 : Int32))])) (fun _ k => XS.iconst X0.here hx rfl (hb hby own_d1_70) k) ?_
        obtain ⟨T22, h22, k22, X22, e22, E22, A22, st22⟩ := newP X0 hx hZ (hw _ (List.mem_of_getElem? (i := 4) rfl)) e0 (g := (mkF m 71 #[.val (.int nn), .val (.int av), .val (.int bv), .val (.int cv), .val (.int (av &&& (255 : Int32))), .val (.int (bv &&& (255 : Int32))), .val (.int (cv &&& (255 : Int32))), .unset] [(.int (2 : Int32))])) rfl (hb hby own_d1_71) rfl (by decide) (cap := 2) (by decide) (by decide) (by decide) (by decide)
        obtain ⟨b22, g22⟩ : ∃ z, z = h0.size := ⟨_, rfl⟩
        rw [← g22] at A22 st22
        have sz23 : h0.size ≤ h22.size := E22.1
        have chA23 : CHr Z own_EL s.vm h0 s.vm h22 := ((CHr.refl H0)).trans (CHr.ext E22 ((CHr.refl H0)).1)
        have lt_b22 := own_lt A22.lt
        have V22 : Arv Z h22 b22 k22 .char (2 : Int32) [(.int (0 : Int32)), (.int (0 : Int32))] (.int (0 : Int32)) := (Arv.new A22 (by decide)).pad (pad_rep [] (.int (0 : Int32)) 2)
        refine OwnFin.adv (B := T22.setTop (mkF m 73 #[.val (.int nn), .val (.int av), .val (.int bv), .val (.int cv), .val (.int (av &&& (255 : Int32))), .val (.int (bv &&& (255 : Int32))), .val (.int (cv &&& (255 : Int32))), .unset] [(.ref b22)])) (fun _ k => st22 _ k) ?_
        refine OwnFin.adv (B := T22.setTop (mkF m 75 #[.val (.int nn), .val (.int av), .val (.int bv), .val (.int cv), .val (.int (av &&& (255 : Int32))), .val (.int (bv &&& (255 : Int32))), .val (.int (cv &&& (255 : Int32))), .val (.ref b22)] [])) (fun _ k => XS.astore X22.here hx rfl (hb hby own_d1_73) rfl rfl (l' := #[.val (.int nn), .val (.int av), .val (.int bv), .val (.int cv), .val (.int (av &&& (255 : Int32))), .val (.int (bv &&& (255 : Int32))), .val (.int (cv &&& (255 : Int32))), .val (.ref b22)]) rfl k) ?_
        refine OwnFin.adv (B := T22.setTop (mkF m 77 #[.val (.int nn), .val (.int av), .val (.int bv), .val (.int cv), .val (.int (av &&& (255 : Int32))), .val (.int (bv &&& (255 : Int32))), .val (.int (cv &&& (255 : Int32))), .val (.ref b22)] [(.ref b22)])) (fun _ k => XS.aload X22.here hx rfl (hb hby own_d1_75) rfl rfl k) ?_
        refine OwnFin.adv (B := T22.setTop (mkF m 78 #[.val (.int nn), .val (.int av), .val (.int bv), .val (.int cv), .val (.int (av &&& (255 : Int32))), .val (.int (bv &&& (255 : Int32))), .val (.int (cv &&& (255 : Int32))), .val (.ref b22)] [(.int (0 : Int32)), (.ref b22)])) (fun _ k => XS.iconst X22.here hx rfl (hb hby own_d1_77) k) ?_
        refine OwnFin.adv (B := T22.setTop (mkF m 80 #[.val (.int nn), .val (.int av), .val (.int bv), .val (.int cv), .val (.int (av &&& (255 : Int32))), .val (.int (bv &&& (255 : Int32))), .val (.int (cv &&& (255 : Int32))), .val (.ref b22)] [(.int (av &&& (255 : Int32))), (.int (0 : Int32)), (.ref b22)])) (fun _ k => XS.iload X22.here hx rfl (hb hby own_d1_78) rfl k) ?_
        obtain ⟨cl24, Ar24, ck24, S24, M24, H24, G24⟩ := id V22
        have hin24 : ¬ ((0 : Int32) < 0 ∨ cl24.slots.size ≤ ((0 : Int32)).toNatClampNeg) := inb_of S24 ⟨by decide, by decide⟩
        obtain ⟨T24, h24, X24, e24, W24, st24⟩ := stC X22 hx hZ e22 Ar24 (j := (0 : Int32)) hin24 (g := (mkF m 80 #[.val (.int nn), .val (.int av), .val (.int bv), .val (.int cv), .val (.int (av &&& (255 : Int32))), .val (.int (bv &&& (255 : Int32))), .val (.int (cv &&& (255 : Int32))), .val (.ref b22)] [(.int (av &&& (255 : Int32))), (.int (0 : Int32)), (.ref b22)])) rfl rfl (hb hby own_d1_80)
        have V24 : Arv Z h24 b22 k22 .char (2 : Int32) [(.int (nar .char (av &&& (255 : Int32)))), (.int (0 : Int32))] (.int (0 : Int32)) := Arv.set Ar24 ck24 S24 M24 H24 G24 (fits_nar_char _) W24 0 rfl (Nat.le_of_ble_eq_true rfl)
        have V24s : Arv Z h24 b22 k22 .char (2 : Int32) [(.int (av &&& (255 : Int32))), (.int (0 : Int32))] (.int (0 : Int32)) := by
          have q := V24
          rw [show ((.int (nar .char (av &&& (255 : Int32)))) : Value) = (.int (av &&& (255 : Int32))) from congrArg Value.int (own_narm _)] at q
          exact q
        have sz25 : h22.size ≤ h24.size := Nat.le_of_eq W24.size.symm
        have chA25 : CHr Z own_EL s.vm h0 s.vm h24 := (chA23).trans (CHr.wr W24 (Safe.arv hZs.alike V22 (by decide)) (chA23).1)
        have N24 := Fr.snoc X24 N0 (by omega : n0 ≤ b22)
        refine OwnFin.adv (B := T24.setTop (mkF m 81 #[.val (.int nn), .val (.int av), .val (.int bv), .val (.int cv), .val (.int (av &&& (255 : Int32))), .val (.int (bv &&& (255 : Int32))), .val (.int (cv &&& (255 : Int32))), .val (.ref b22)] [])) (fun _ k => st24 _ k) ?_
        refine OwnFin.adv (B := T24.setTop (mkF m 83 #[.val (.int nn), .val (.int av), .val (.int bv), .val (.int cv), .val (.int (av &&& (255 : Int32))), .val (.int (bv &&& (255 : Int32))), .val (.int (cv &&& (255 : Int32))), .val (.ref b22)] [(.ref b22)])) (fun _ k => XS.aload X24.here hx rfl (hb hby own_d1_81) rfl rfl k) ?_
        refine OwnFin.adv (B := T24.setTop (mkF m 84 #[.val (.int nn), .val (.int av), .val (.int bv), .val (.int cv), .val (.int (av &&& (255 : Int32))), .val (.int (bv &&& (255 : Int32))), .val (.int (cv &&& (255 : Int32))), .val (.ref b22)] [(.int (1 : Int32)), (.ref b22)])) (fun _ k => XS.iconst X24.here hx rfl (hb hby own_d1_83) k) ?_
        refine OwnFin.adv (B := T24.setTop (mkF m 86 #[.val (.int nn), .val (.int av), .val (.int bv), .val (.int cv), .val (.int (av &&& (255 : Int32))), .val (.int (bv &&& (255 : Int32))), .val (.int (cv &&& (255 : Int32))), .val (.ref b22)] [(.int (bv &&& (255 : Int32))), (.int (1 : Int32)), (.ref b22)])) (fun _ k => XS.iload X24.here hx rfl (hb hby own_d1_84) rfl k) ?_
        obtain ⟨cl26, Ar26, ck26, S26, M26, H26, G26⟩ := id V24s
        have hin26 : ¬ ((1 : Int32) < 0 ∨ cl26.slots.size ≤ ((1 : Int32)).toNatClampNeg) := inb_of S26 ⟨by decide, by decide⟩
        obtain ⟨T26, h26, X26, e26, W26, st26⟩ := stC X24 hx hZ e24 Ar26 (j := (1 : Int32)) hin26 (g := (mkF m 86 #[.val (.int nn), .val (.int av), .val (.int bv), .val (.int cv), .val (.int (av &&& (255 : Int32))), .val (.int (bv &&& (255 : Int32))), .val (.int (cv &&& (255 : Int32))), .val (.ref b22)] [(.int (bv &&& (255 : Int32))), (.int (1 : Int32)), (.ref b22)])) rfl rfl (hb hby own_d1_86)
        have V26 : Arv Z h26 b22 k22 .char (2 : Int32) [(.int (av &&& (255 : Int32))), (.int (nar .char (bv &&& (255 : Int32))))] (.int (0 : Int32)) := Arv.set Ar26 ck26 S26 M26 H26 G26 (fits_nar_char _) W26 1 rfl (Nat.le_of_ble_eq_true rfl)
        have V26s : Arv Z h26 b22 k22 .char (2 : Int32) [(.int (av &&& (255 : Int32))), (.int (bv &&& (255 : Int32)))] (.int (0 : Int32)) := by
          have q := V26
          rw [show ((.int (nar .char (bv &&& (255 : Int32)))) : Value) = (.int (bv &&& (255 : Int32))) from congrArg Value.int (own_narm _)] at q
          exact q
        have sz27 : h24.size ≤ h26.size := Nat.le_of_eq W26.size.symm
        have chA27 : CHr Z own_EL s.vm h0 s.vm h26 := (chA25).trans (CHr.wr W26 (Safe.arv hZs.alike V24s (by decide)) (chA25).1)
        have N26 := Fr.snoc X26 N24 (by omega : n0 ≤ b22)
        refine OwnFin.adv (B := T26.setTop (mkF m 87 #[.val (.int nn), .val (.int av), .val (.int bv), .val (.int cv), .val (.int (av &&& (255 : Int32))), .val (.int (bv &&& (255 : Int32))), .val (.int (cv &&& (255 : Int32))), .val (.ref b22)] [])) (fun _ k => st26 _ k) ?_
        obtain ⟨T28, h28, X28, e28, E28, A28, D28, -, st28⟩ := newO X26 hx hZ hown (hw _ (List.mem_of_getElem? (i := 5) rfl)) (hw _ (List.mem_of_getElem? (i := 6) rfl)) (hw _ (List.mem_of_getElem? (i := 7) rfl)) e26 (g := (mkF m 87 #[.val (.int nn), .val (.int av), .val (.int bv), .val (.int cv), .val (.int (av &&& (255 : Int32))), .val (.int (bv &&& (255 : Int32))), .val (.int (cv &&& (255 : Int32))), .val (.ref b22)] [])) rfl (hb hby own_d1_87) (by decide) (by decide)
        obtain ⟨b28, g28⟩ : ∃ z, z = h26.size := ⟨_, rfl⟩
        rw [← g28] at A28 D28 st28
        have sz29 : h26.size ≤ h28.size := E28.1
        have chA29 : CHr Z own_EL s.vm h0 s.vm h28 := (chA27).trans (CHr.ext E28 (chA27).1)
        have lt_b28 := own_lt A28.lt
        have Sf28 : Safe Z own_EL s.vm h28 b28 := Safe.ext E28 (chA27).1 (Safe.new (Nat.le_of_eq g28.symm))
        have F28_coder : Fld Z h28 b28 "java/lang/String" "coder" "B" (.int (0 : Int32)) := D28 (Or.inr (hw _ (List.mem_of_getElem? (i := 31) rfl))) (ty := .byte) (by decide)
        have F28_value : Fld Z h28 b28 "java/lang/String" "value" "[B" .null := D28 (Or.inr (hw _ (List.mem_of_getElem? (i := 33) rfl))) (ty := (.array .byte)) (by decide)
        refine OwnFin.adv (B := T28.setTop (mkF m 90 #[.val (.int nn), .val (.int av), .val (.int bv), .val (.int cv), .val (.int (av &&& (255 : Int32))), .val (.int (bv &&& (255 : Int32))), .val (.int (cv &&& (255 : Int32))), .val (.ref b22)] [(.ref b28)])) (fun _ k => st28 _ k) ?_
        refine OwnFin.adv (B := T28.setTop (mkF m 91 #[.val (.int nn), .val (.int av), .val (.int bv), .val (.int cv), .val (.int (av &&& (255 : Int32))), .val (.int (bv &&& (255 : Int32))), .val (.int (cv &&& (255 : Int32))), .val (.ref b22)] [(.ref b28), (.ref b28)])) (fun _ k => XS.dup X28.here hx rfl (hb hby own_d1_90) rfl rfl k) ?_
        refine OwnFin.adv (B := T28.setTop (mkF m 93 #[.val (.int nn), .val (.int av), .val (.int bv), .val (.int cv), .val (.int (av &&& (255 : Int32))), .val (.int (bv &&& (255 : Int32))), .val (.int (cv &&& (255 : Int32))), .val (.ref b22)] [(.ref b22), (.ref b28), (.ref b28)])) (fun _ k => XS.aload X28.here hx rfl (hb hby own_d1_91) rfl rfl k) ?_
        have hws31 : ∀ d ∈ StrChars.Road.words, d.before a0 Z = true := fun d hd => hw d ((by decide +kernel : ∀ d ∈ StrChars.Road.words, d ∈ tables_1) d hd)
        have hlat31 : ∀ c ∈ ([(av &&& (255 : Int32)), (bv &&& (255 : Int32))] : List Int32), ¬ c < 0 ∧ ¬ (255 : Int32) < c := by
          intro c hc
          simp only [List.mem_cons, List.not_mem_nil, or_false] at hc
          rcases hc with rfl | rfl <;> exact own_and255 _
        have Fv32_4 : Arv Z h28 b22 k22 .char (2 : Int32) [(.int (av &&& (255 : Int32))), (.int (bv &&& (255 : Int32)))] (.int (0 : Int32)) := (V26s.ext E28)
        have Old33 : Old Z n0 h28 := ((((O0.ext E22).wr W24 (by omega)).wr W26 (by omega)).ext E28)
        obtain ⟨_, _, ⟨T30, L30, k30, n30⟩, -, X30, ⟨Lc30, hQ30, l30, y30, z30⟩, st30⟩ := X28.specialBack hx (y := (⟨"java/lang/String", "<init>", "([C)V"⟩ : MethodName)) rfl hown (mvT hZ (hw _ (List.mem_of_getElem? (i := 8) rfl))) (mvT hZ (hw _ (List.mem_of_getElem? (i := 9) rfl))) (mvT hZ (hw _ (List.mem_of_getElem? (i := 10) rfl))) (by decide) (StrChars.Road.backV (W := 1) hZ hws31 (kI := 4) (hw _ (List.mem_of_getElem? (i := 6) rfl)) (cs := [(av &&& (255 : Int32)), (bv &&& (255 : Int32))]) (bs := [((av &&& (255 : Int32))).toInt8.toInt32, ((bv &&& (255 : Int32))).toInt8.toInt32]) (n := 2) (n0 := n0) (by omega) (by omega) A28 F28_value F28_coder Fv32_4 (own_staK SCS Old33) hzc rfl rfl (by decide) (by decide) hlat31 rfl (by decide) (by decide)) (g := (mkF m 93 #[.val (.int nn), .val (.int av), .val (.int bv), .val (.int cv), .val (.int (av &&& (255 : Int32))), .val (.int (bv &&& (255 : Int32))), .val (.int (cv &&& (255 : Int32))), .val (.ref b22)] [(.ref b22), (.ref b28), (.ref b28)])) rfl (by rw [hml]; rfl) (Steps.refl _) (a := b28) (argsL := [(.ref b22)]) (rest := [(.ref b28)]) (lenOf own_pd_x28x5bCx29V rfl) rfl (by show 2 * 0 + _ ≤ _; exact Nat.le_of_eq rfl) (hb hby own_d1_93) (fun _ _ => ⟨rfl, e28, (by decide : 2 + 1 ≤ _), (by decide : 6 + 2 ≤ _)⟩)
        dsimp only [Pt.U, Pt.locs, Pt.cells, Pt.slots] at X30 l30 y30 z30 st30 hQ30
        subst l30 y30 z30
        obtain ⟨rfl, N30q, K30, E30s, C30s, t30, kb30, u30a, u30b, u30c, F30v, V30b⟩ := hQ30
        have N30 := Fr.app N26 N30q
        have sz34 : h28.size ≤ T30.heap.size := K30.1
        have chA34 : CHr Z own_EL s.vm h0 s.vm T30.heap := (chA29).trans (CHr.keep K30 (sfS Sf28 sf0) (chA29).1)
        have lt_t30 := own_lt V30b.lt
        refine OwnFin.adv (B := T30.setTop (mkF m 96 #[.val (.int nn), .val (.int av), .val (.int bv), .val (.int cv), .val (.int (av &&& (255 : Int32))), .val (.int (bv &&& (255 : Int32))), .val (.int (cv &&& (255 : Int32))), .val (.ref b22)] [(.ref b28)])) (fun _ k => st30.trans k) ?_
        obtain ⟨fs, hr, hrun, hended, hW, hsame⟩ := X30.leave (v := some (.ref b28)) (fun h => by rw [Bd.returns] at h; cases h)
        refine OwnFin.leaf hP' ⟨_, _, own_retR X30 hx Bd.returns rfl rfl rfl (hb hby own_d1_96) hr, hrun, hended, _, _, rfl, ?_, own_chend (chA34) (CHv.at (s := s) (vm0 := s.vm) (T := T30) X30 hZ (own_EW hw) (chA34).1) hh rfl, ReturnedEndW.of_narrow ⟨_, rfl⟩ hW (hsame.mono (by decide) (by decide))⟩
        have Fo35 : OwnS Z T30.heap T30.heap.size b28 [(av &&& (255 : Int32)), (bv &&& (255 : Int32))] := ⟨t30, kb30, E30s, F30v, C30s, V30b, own_lt (a := b28) (b := T30.heap.size) (by omega), own_lt (a := t30) (b := T30.heap.size) (by omega), by
              intro c hc
              simp only [List.mem_cons, List.not_mem_nil, or_false] at hc
              rcases hc with rfl | rfl <;> exact own_and255 _, by simp⟩
        rw [show (T30.setFrames fs).heap = T30.heap from rfl]
        have hcs : own_cs nn av bv cv = [(av &&& (255 : Int32)), (bv &&& (255 : Int32))] := by simp [own_cs, hc25, hc41, hc67]
        refine ⟨b28, rfl, N30, ((((((Keep.refl h0 []).ext E22).wr W24 (Or.inr (by omega))).wr W26 (Or.inr (by omega))).ext E28).trans K30 (allS (Or.inr (by omega)) all0)), by omega, ?_⟩
        rw [hcs]
        exact Fo35
      ·
        refine OwnFin.adv (B := s₁.setTop (mkF m 97 #[.val (.int nn), .val (.int av), .val (.int bv), .val (.int cv), .val (.int (av &&& (255 : Int32))), .val (.int (bv &&& (255 : Int32))), .val (.int (cv &&& (255 : Int32))), .unset] [])) (fun _ k => XS.icmpYes X0.here hx rfl (pc0 := 67) (pc' := 97) rfl (hb hby own_d1_67) rfl (feq hc67).2 (by decide) (by decide) k) ?_
        refine OwnFin.adv (B := s₁.setTop (mkF m 98 #[.val (.int nn), .val (.int av), .val (.int bv), .val (.int cv), .val (.int (av &&& (255 : Int32))), .val (.int (bv &&& (255 : Int32))), .val (.int (cv &&& (255 : Int32))), .unset] [(.int (3 : Int32))])) (fun _ k => XS.iconst X0.here hx rfl (hb hby own_d1_97) k) ?_
        obtain ⟨T36, h36, k36, X36, e36, E36, A36, st36⟩ := newP X0 hx hZ (hw _ (List.mem_of_getElem? (i := 4) rfl)) e0 (g := (mkF m 98 #[.val (.int nn), .val (.int av), .val (.int bv), .val (.int cv), .val (.int (av &&& (255 : Int32))), .val (.int (bv &&& (255 : Int32))), .val (.int (cv &&& (255 : Int32))), .unset] [(.int (3 : Int32))])) rfl (hb hby own_d1_98) rfl (by decide) (cap := 3) (by decide) (by decide) (by decide) (by decide)
        obtain ⟨b36, g36⟩ : ∃ z, z = h0.size := ⟨_, rfl⟩
        rw [← g36] at A36 st36
        have sz37 : h0.size ≤ h36.size := E36.1
        have chA37 : CHr Z own_EL s.vm h0 s.vm h36 := ((CHr.refl H0)).trans (CHr.ext E36 ((CHr.refl H0)).1)
        have lt_b36 := own_lt A36.lt
        have V36 : Arv Z h36 b36 k36 .char (3 : Int32) [(.int (0 : Int32)), (.int (0 : Int32)), (.int (0 : Int32))] (.int (0 : Int32)) := (Arv.new A36 (by decide)).pad (pad_rep [] (.int (0 : Int32)) 3)
        refine OwnFin.adv (B := T36.setTop (mkF m 100 #[.val (.int nn), .val (.int av), .val (.int bv), .val (.int cv), .val (.int (av &&& (255 : Int32))), .val (.int (bv &&& (255 : Int32))), .val (.int (cv &&& (255 : Int32))), .unset] [(.ref b36)])) (fun _ k => st36 _ k) ?_
        refine OwnFin.adv (B := T36.setTop (mkF m 102 #[.val (.int nn), .val (.int av), .val (.int bv), .val (.int cv), .val (.int (av &&& (255 : Int32))), .val (.int (bv &&& (255 : Int32))), .val (.int (cv &&& (255 : Int32))), .val (.ref b36)] [])) (fun _ k => XS.astore X36.here hx rfl (hb hby own_d1_100) rfl rfl (l' := #[.val (.int nn), .val (.int av), .val (.int bv), .val (.int cv), .val (.int (av &&& (255 : Int32))), .val (.int (bv &&& (255 : Int32))), .val (.int (cv &&& (255 : Int32))), .val (.ref b36)]) rfl k) ?_
        refine OwnFin.adv (B := T36.setTop (mkF m 104 #[.val (.int nn), .val (.int av), .val (.int bv), .val (.int cv), .val (.int (av &&& (255 : Int32))), .val (.int (bv &&& (255 : Int32))), .val (.int (cv &&& (255 : Int32))), .val (.ref b36)] [(.ref b36)])) (fun _ k => XS.aload X36.here hx rfl (hb hby own_d1_102) rfl rfl k) ?_
        refine OwnFin.adv (B := T36.setTop (mkF m 105 #[.val (.int nn), .val (.int av), .val (.int bv), .val (.int cv), .val (.int (av &&& (255 : Int32))), .val (.int (bv &&& (255 : Int32))), .val (.int (cv &&& (255 : Int32))), .val (.ref b36)] [(.int (0 : Int32)), (.ref b36)])) (fun _ k => XS.iconst X36.here hx rfl (hb hby own_d1_104) k) ?_
        refine OwnFin.adv (B := T36.setTop (mkF m 107 #[.val (.int nn), .val (.int av), .val (.int bv), .val (.int cv), .val (.int (av &&& (255 : Int32))), .val (.int (bv &&& (255 : Int32))), .val (.int (cv &&& (255 : Int32))), .val (.ref b36)] [(.int (av &&& (255 : Int32))), (.int (0 : Int32)), (.ref b36)])) (fun _ k => XS.iload X36.here hx rfl (hb hby own_d1_105) rfl k) ?_
        obtain ⟨cl38, Ar38, ck38, S38, M38, H38, G38⟩ := id V36
        have hin38 : ¬ ((0 : Int32) < 0 ∨ cl38.slots.size ≤ ((0 : Int32)).toNatClampNeg) := inb_of S38 ⟨by decide, by decide⟩
        obtain ⟨T38, h38, X38, e38, W38, st38⟩ := stC X36 hx hZ e36 Ar38 (j := (0 : Int32)) hin38 (g := (mkF m 107 #[.val (.int nn), .val (.int av), .val (.int bv), .val (.int cv), .val (.int (av &&& (255 : Int32))), .val (.int (bv &&& (255 : Int32))), .val (.int (cv &&& (255 : Int32))), .val (.ref b36)] [(.int (av &&& (255 : Int32))), (.int (0 : Int32)), (.ref b36)])) rfl rfl (hb hby own_d1_107)
        have V38 : Arv Z h38 b36 k36 .char (3 : Int32) [(.int (nar .char (av &&& (255 : Int32)))), (.int (0 : Int32)), (.int (0 : Int32))] (.int (0 : Int32)) := Arv.set Ar38 ck38 S38 M38 H38 G38 (fits_nar_char _) W38 0 rfl (Nat.le_of_ble_eq_true rfl)
        have V38s : Arv Z h38 b36 k36 .char (3 : Int32) [(.int (av &&& (255 : Int32))), (.int (0 : Int32)), (.int (0 : Int32))] (.int (0 : Int32)) := by
          have q := V38
          rw [show ((.int (nar .char (av &&& (255 : Int32)))) : Value) = (.int (av &&& (255 : Int32))) from congrArg Value.int (own_narm _)] at q
          exact q
        have sz39 : h36.size ≤ h38.size := Nat.le_of_eq W38.size.symm
        have chA39 : CHr Z own_EL s.vm h0 s.vm h38 := (chA37).trans (CHr.wr W38 (Safe.arv hZs.alike V36 (by decide)) (chA37).1)
        have N38 := Fr.snoc X38 N0 (by omega : n0 ≤ b36)
        refine OwnFin.adv (B := T38.setTop (mkF m 108 #[.val (.int nn), .val (.int av), .val (.int bv), .val (.int cv), .val (.int (av &&& (255 : Int32))), .val (.int (bv &&& (255 : Int32))), .val (.int (cv &&& (255 : Int32))), .val (.ref b36)] [])) (fun _ k => st38 _ k) ?_
        refine OwnFin.adv (B := T38.setTop (mkF m 110 #[.val (.int nn), .val (.int av), .val (.int bv), .val (.int cv), .val (.int (av &&& (255 : Int32))), .val (.int (bv &&& (255 : Int32))), .val (.int (cv &&& (255 : Int32))), .val (.ref b36)] [(.ref b36)])) (fun _ k => XS.aload X38.here hx rfl (hb hby own_d1_108) rfl rfl k) ?_
        refine OwnFin.adv (B := T38.setTop (mkF m 111 #[.val (.int nn), .val (.int av), .val (.int bv), .val (.int cv), .val (.int (av &&& (255 : Int32))), .val (.int (bv &&& (255 : Int32))), .val (.int (cv &&& (255 : Int32))), .val (.ref b36)] [(.int (1 : Int32)), (.ref b36)])) (fun _ k => XS.iconst X38.here hx rfl (hb hby own_d1_110) k) ?_
        refine OwnFin.adv (B := T38.setTop (mkF m 113 #[.val (.int nn), .val (.int av), .val (.int bv), .val (.int cv), .val (.int (av &&& (255 : Int32))), .val (.int (bv &&& (255 : Int32))), .val (.int (cv &&& (255 : Int32))), .val (.ref b36)] [(.int (bv &&& (255 : Int32))), (.int (1 : Int32)), (.ref b36)])) (fun _ k => XS.iload X38.here hx rfl (hb hby own_d1_111) rfl k) ?_
        obtain ⟨cl40, Ar40, ck40, S40, M40, H40, G40⟩ := id V38s
        have hin40 : ¬ ((1 : Int32) < 0 ∨ cl40.slots.size ≤ ((1 : Int32)).toNatClampNeg) := inb_of S40 ⟨by decide, by decide⟩
        obtain ⟨T40, h40, X40, e40, W40, st40⟩ := stC X38 hx hZ e38 Ar40 (j := (1 : Int32)) hin40 (g := (mkF m 113 #[.val (.int nn), .val (.int av), .val (.int bv), .val (.int cv), .val (.int (av &&& (255 : Int32))), .val (.int (bv &&& (255 : Int32))), .val (.int (cv &&& (255 : Int32))), .val (.ref b36)] [(.int (bv &&& (255 : Int32))), (.int (1 : Int32)), (.ref b36)])) rfl rfl (hb hby own_d1_113)
        have V40 : Arv Z h40 b36 k36 .char (3 : Int32) [(.int (av &&& (255 : Int32))), (.int (nar .char (bv &&& (255 : Int32)))), (.int (0 : Int32))] (.int (0 : Int32)) := Arv.set Ar40 ck40 S40 M40 H40 G40 (fits_nar_char _) W40 1 rfl (Nat.le_of_ble_eq_true rfl)
        have V40s : Arv Z h40 b36 k36 .char (3 : Int32) [(.int (av &&& (255 : Int32))), (.int (bv &&& (255 : Int32))), (.int (0 : Int32))] (.int (0 : Int32)) := by
          have q := V40
          rw [show ((.int (nar .char (bv &&& (255 : Int32)))) : Value) = (.int (bv &&& (255 : Int32))) from congrArg Value.int (own_narm _)] at q
          exact q
        have sz41 : h38.size ≤ h40.size := Nat.le_of_eq W40.size.symm
        have chA41 : CHr Z own_EL s.vm h0 s.vm h40 := (chA39).trans (CHr.wr W40 (Safe.arv hZs.alike V38s (by decide)) (chA39).1)
        have N40 := Fr.snoc X40 N38 (by omega : n0 ≤ b36)
        refine OwnFin.adv (B := T40.setTop (mkF m 114 #[.val (.int nn), .val (.int av), .val (.int bv), .val (.int cv), .val (.int (av &&& (255 : Int32))), .val (.int (bv &&& (255 : Int32))), .val (.int (cv &&& (255 : Int32))), .val (.ref b36)] [])) (fun _ k => st40 _ k) ?_
        refine OwnFin.adv (B := T40.setTop (mkF m 116 #[.val (.int nn), .val (.int av), .val (.int bv), .val (.int cv), .val (.int (av &&& (255 : Int32))), .val (.int (bv &&& (255 : Int32))), .val (.int (cv &&& (255 : Int32))), .val (.ref b36)] [(.ref b36)])) (fun _ k => XS.aload X40.here hx rfl (hb hby own_d1_114) rfl rfl k) ?_
        refine OwnFin.adv (B := T40.setTop (mkF m 117 #[.val (.int nn), .val (.int av), .val (.int bv), .val (.int cv), .val (.int (av &&& (255 : Int32))), .val (.int (bv &&& (255 : Int32))), .val (.int (cv &&& (255 : Int32))), .val (.ref b36)] [(.int (2 : Int32)), (.ref b36)])) (fun _ k => XS.iconst X40.here hx rfl (hb hby own_d1_116) k) ?_
        refine OwnFin.adv (B := T40.setTop (mkF m 119 #[.val (.int nn), .val (.int av), .val (.int bv), .val (.int cv), .val (.int (av &&& (255 : Int32))), .val (.int (bv &&& (255 : Int32))), .val (.int (cv &&& (255 : Int32))), .val (.ref b36)] [(.int (cv &&& (255 : Int32))), (.int (2 : Int32)), (.ref b36)])) (fun _ k => XS.iload X40.here hx rfl (hb hby own_d1_117) rfl k) ?_
        obtain ⟨cl42, Ar42, ck42, S42, M42, H42, G42⟩ := id V40s
        have hin42 : ¬ ((2 : Int32) < 0 ∨ cl42.slots.size ≤ ((2 : Int32)).toNatClampNeg) := inb_of S42 ⟨by decide, by decide⟩
        obtain ⟨T42, h42, X42, e42, W42, st42⟩ := stC X40 hx hZ e40 Ar42 (j := (2 : Int32)) hin42 (g := (mkF m 119 #[.val (.int nn), .val (.int av), .val (.int bv), .val (.int cv), .val (.int (av &&& (255 : Int32))), .val (.int (bv &&& (255 : Int32))), .val (.int (cv &&& (255 : Int32))), .val (.ref b36)] [(.int (cv &&& (255 : Int32))), (.int (2 : Int32)), (.ref b36)])) rfl rfl (hb hby own_d1_119)
        have V42 : Arv Z h42 b36 k36 .char (3 : Int32) [(.int (av &&& (255 : Int32))), (.int (bv &&& (255 : Int32))), (.int (nar .char (cv &&& (255 : Int32))))] (.int (0 : Int32)) := Arv.set Ar42 ck42 S42 M42 H42 G42 (fits_nar_char _) W42 2 rfl (Nat.le_of_ble_eq_true rfl)
        have V42s : Arv Z h42 b36 k36 .char (3 : Int32) [(.int (av &&& (255 : Int32))), (.int (bv &&& (255 : Int32))), (.int (cv &&& (255 : Int32)))] (.int (0 : Int32)) := by
          have q := V42
          rw [show ((.int (nar .char (cv &&& (255 : Int32)))) : Value) = (.int (cv &&& (255 : Int32))) from congrArg Value.int (own_narm _)] at q
          exact q
        have sz43 : h40.size ≤ h42.size := Nat.le_of_eq W42.size.symm
        have chA43 : CHr Z own_EL s.vm h0 s.vm h42 := (chA41).trans (CHr.wr W42 (Safe.arv hZs.alike V40s (by decide)) (chA41).1)
        have N42 := Fr.snoc X42 N40 (by omega : n0 ≤ b36)
        refine OwnFin.adv (B := T42.setTop (mkF m 120 #[.val (.int nn), .val (.int av), .val (.int bv), .val (.int cv), .val (.int (av &&& (255 : Int32))), .val (.int (bv &&& (255 : Int32))), .val (.int (cv &&& (255 : Int32))), .val (.ref b36)] [])) (fun _ k => st42 _ k) ?_
        obtain ⟨T44, h44, X44, e44, E44, A44, D44, -, st44⟩ := newO X42 hx hZ hown (hw _ (List.mem_of_getElem? (i := 5) rfl)) (hw _ (List.mem_of_getElem? (i := 6) rfl)) (hw _ (List.mem_of_getElem? (i := 7) rfl)) e42 (g := (mkF m 120 #[.val (.int nn), .val (.int av), .val (.int bv), .val (.int cv), .val (.int (av &&& (255 : Int32))), .val (.int (bv &&& (255 : Int32))), .val (.int (cv &&& (255 : Int32))), .val (.ref b36)] [])) rfl (hb hby own_d1_120) (by decide) (by decide)
        obtain ⟨b44, g44⟩ : ∃ z, z = h42.size := ⟨_, rfl⟩
        rw [← g44] at A44 D44 st44
        have sz45 : h42.size ≤ h44.size := E44.1
        have chA45 : CHr Z own_EL s.vm h0 s.vm h44 := (chA43).trans (CHr.ext E44 (chA43).1)
        have lt_b44 := own_lt A44.lt
        have Sf44 : Safe Z own_EL s.vm h44 b44 := Safe.ext E44 (chA43).1 (Safe.new (Nat.le_of_eq g44.symm))
        have F44_coder : Fld Z h44 b44 "java/lang/String" "coder" "B" (.int (0 : Int32)) := D44 (Or.inr (hw _ (List.mem_of_getElem? (i := 31) rfl))) (ty := .byte) (by decide)
        have F44_value : Fld Z h44 b44 "java/lang/String" "value" "[B" .null := D44 (Or.inr (hw _ (List.mem_of_getElem? (i := 33) rfl))) (ty := (.array .byte)) (by decide)
        refine OwnFin.adv (B := T44.setTop (mkF m 123 #[.val (.int nn), .val (.int av), .val (.int bv), .val (.int cv), .val (.int (av &&& (255 : Int32))), .val (.int (bv &&& (255 : Int32))), .val (.int (cv &&& (255 : Int32))), .val (.ref b36)] [(.ref b44)])) (fun _ k => st44 _ k) ?_
        refine OwnFin.adv (B := T44.setTop (mkF m 124 #[.val (.int nn), .val (.int av), .val (.int bv), .val (.int cv), .val (.int (av &&& (255 : Int32))), .val (.int (bv &&& (255 : Int32))), .val (.int (cv &&& (255 : Int32))), .val (.ref b36)] [(.ref b44), (.ref b44)])) (fun _ k => XS.dup X44.here hx rfl (hb hby own_d1_123) rfl rfl k) ?_
        refine OwnFin.adv (B := T44.setTop (mkF m 126 #[.val (.int nn), .val (.int av), .val (.int bv), .val (.int cv), .val (.int (av &&& (255 : Int32))), .val (.int (bv &&& (255 : Int32))), .val (.int (cv &&& (255 : Int32))), .val (.ref b36)] [(.ref b36), (.ref b44), (.ref b44)])) (fun _ k => XS.aload X44.here hx rfl (hb hby own_d1_124) rfl rfl k) ?_
        have hws47 : ∀ d ∈ StrChars.Road.words, d.before a0 Z = true := fun d hd => hw d ((by decide +kernel : ∀ d ∈ StrChars.Road.words, d ∈ tables_1) d hd)
        have hlat47 : ∀ c ∈ ([(av &&& (255 : Int32)), (bv &&& (255 : Int32)), (cv &&& (255 : Int32))] : List Int32), ¬ c < 0 ∧ ¬ (255 : Int32) < c := by
          intro c hc
          simp only [List.mem_cons, List.not_mem_nil, or_false] at hc
          rcases hc with rfl | rfl | rfl <;> exact own_and255 _
        have Fv48_5 : Arv Z h44 b36 k36 .char (3 : Int32) [(.int (av &&& (255 : Int32))), (.int (bv &&& (255 : Int32))), (.int (cv &&& (255 : Int32)))] (.int (0 : Int32)) := (V42s.ext E44)
        have Old49 : Old Z n0 h44 := (((((O0.ext E36).wr W38 (by omega)).wr W40 (by omega)).wr W42 (by omega)).ext E44)
        obtain ⟨_, _, ⟨T46, L46, k46, n46⟩, -, X46, ⟨Lc46, hQ46, l46, y46, z46⟩, st46⟩ := X44.specialBack hx (y := (⟨"java/lang/String", "<init>", "([C)V"⟩ : MethodName)) rfl hown (mvT hZ (hw _ (List.mem_of_getElem? (i := 8) rfl))) (mvT hZ (hw _ (List.mem_of_getElem? (i := 9) rfl))) (mvT hZ (hw _ (List.mem_of_getElem? (i := 10) rfl))) (by decide) (StrChars.Road.backV (W := 1) hZ hws47 (kI := 4) (hw _ (List.mem_of_getElem? (i := 6) rfl)) (cs := [(av &&& (255 : Int32)), (bv &&& (255 : Int32)), (cv &&& (255 : Int32))]) (bs := [((av &&& (255 : Int32))).toInt8.toInt32, ((bv &&& (255 : Int32))).toInt8.toInt32, ((cv &&& (255 : Int32))).toInt8.toInt32]) (n := 3) (n0 := n0) (by omega) (by omega) A44 F44_value F44_coder Fv48_5 (own_staK SCS Old49) hzc rfl rfl (by decide) (by decide) hlat47 rfl (by decide) (by decide)) (g := (mkF m 126 #[.val (.int nn), .val (.int av), .val (.int bv), .val (.int cv), .val (.int (av &&& (255 : Int32))), .val (.int (bv &&& (255 : Int32))), .val (.int (cv &&& (255 : Int32))), .val (.ref b36)] [(.ref b36), (.ref b44), (.ref b44)])) rfl (by rw [hml]; rfl) (Steps.refl _) (a := b44) (argsL := [(.ref b36)]) (rest := [(.ref b44)]) (lenOf own_pd_x28x5bCx29V rfl) rfl (by show 2 * 0 + _ ≤ _; exact Nat.le_of_eq rfl) (hb hby own_d1_126) (fun _ _ => ⟨rfl, e44, (by decide : 2 + 1 ≤ _), (by decide : 7 + 3 ≤ _)⟩)
        dsimp only [Pt.U, Pt.locs, Pt.cells, Pt.slots] at X46 l46 y46 z46 st46 hQ46
        subst l46 y46 z46
        obtain ⟨rfl, N46q, K46, E46s, C46s, t46, kb46, u46a, u46b, u46c, F46v, V46b⟩ := hQ46
        have N46 := Fr.app N42 N46q
        have sz50 : h44.size ≤ T46.heap.size := K46.1
        have chA50 : CHr Z own_EL s.vm h0 s.vm T46.heap := (chA45).trans (CHr.keep K46 (sfS Sf44 sf0) (chA45).1)
        have lt_t46 := own_lt V46b.lt
        refine OwnFin.adv (B := T46.setTop (mkF m 129 #[.val (.int nn), .val (.int av), .val (.int bv), .val (.int cv), .val (.int (av &&& (255 : Int32))), .val (.int (bv &&& (255 : Int32))), .val (.int (cv &&& (255 : Int32))), .val (.ref b36)] [(.ref b44)])) (fun _ k => st46.trans k) ?_
        obtain ⟨fs, hr, hrun, hended, hW, hsame⟩ := X46.leave (v := some (.ref b44)) (fun h => by rw [Bd.returns] at h; cases h)
        refine OwnFin.leaf hP' ⟨_, _, own_retR X46 hx Bd.returns rfl rfl rfl (hb hby own_d1_129) hr, hrun, hended, _, _, rfl, ?_, own_chend (chA50) (CHv.at (s := s) (vm0 := s.vm) (T := T46) X46 hZ (own_EW hw) (chA50).1) hh rfl, ReturnedEndW.of_narrow ⟨_, rfl⟩ hW (hsame.mono (by decide) (by decide))⟩
        have Fo51 : OwnS Z T46.heap T46.heap.size b44 [(av &&& (255 : Int32)), (bv &&& (255 : Int32)), (cv &&& (255 : Int32))] := ⟨t46, kb46, E46s, F46v, C46s, V46b, own_lt (a := b44) (b := T46.heap.size) (by omega), own_lt (a := t46) (b := T46.heap.size) (by omega), by
              intro c hc
              simp only [List.mem_cons, List.not_mem_nil, or_false] at hc
              rcases hc with rfl | rfl | rfl <;> exact own_and255 _, by simp⟩
        rw [show (T46.setFrames fs).heap = T46.heap from rfl]
        have hcs : own_cs nn av bv cv = [(av &&& (255 : Int32)), (bv &&& (255 : Int32)), (cv &&& (255 : Int32))] := by simp [own_cs, hc25, hc41, hc67]
        refine ⟨b44, rfl, N46, (((((((Keep.refl h0 []).ext E36).wr W38 (Or.inr (by omega))).wr W40 (Or.inr (by omega))).wr W42 (Or.inr (by omega))).ext E44).trans K46 (allS (Or.inr (by omega)) all0)), by omega, ?_⟩
        rw [hcs]
        exact Fo51
theorem own_d10_0 : decode jdk_31_method_11_code 0 = .ok (.aload_n 0, 1) := by decide +kernel
theorem own_d10_1 : decode jdk_31_method_11_code 1 = .ok (.ifnonnull 12, 3) := by decide +kernel
theorem own_d10_13 : decode jdk_31_method_11_code 13 = .ok (.aload_n 0, 1) := by decide +kernel
theorem own_d10_14 : decode jdk_31_method_11_code 14 = .ok (.areturn, 1) := by decide +kernel
theorem own_ef_rnn (m : MethodId) (x0 : Addr) (x1 : Addr) : entryFrame m #[(.ref x0), (.ref x1)] 2 = mkF m 0 #[.val (.ref x0), .val (.ref x1)] [] := by first | (simp [entryFrame, mkF, argsToLocals, Value.category]; done) | rfl
theorem own_pn_java_util_Objects : plainName "java/util/Objects" = true := by first | (simp [plainName, overriddenIn]; done) | decide +kernel
def own_Q_rnn (Z : State) (oa om : Addr) (h0 : Heap) (n0 : Nat) (v : Option Value) (h : Heap) (L : List Loc) : Prop := v = some (.ref oa) ∧ Fr n0 L ∧ h = h0
set_option maxRecDepth 65536 in
set_option maxHeartbeats 40000000 in
theorem own_rnn (l : Launch) (Z : State) (a0 : Array Value) (hw : ∀ d ∈ tables_1, d.before a0 Z = true) (ws : List Jvm.Cond) (oa om : Addr) (h0 : Heap) (n0 : Nat) (Z0 : n0 ≤ h0.size) :
    MetFree l (⟨"java/util/Objects", "requireNonNull", "(Ljava/lang/Object;Ljava/lang/String;)Ljava/lang/Object;"⟩ : MethodName) (head1 (Jvm.Cond.code (⟨"java/util/Objects", "requireNonNull", "(Ljava/lang/Object;Ljava/lang/String;)Ljava/lang/Object;"⟩ : MethodName) jdk_31_method_11_code 2 (some (.object "java/lang/Object")) :: ws) ({ frames := 0, cells := 0, slots := 0, locals := 0 } : Room)) (fun A0 U0 => A0 = #[(.ref oa), (.ref om)] ∧ Z.Warmed39 U0.vm ∧ U0.heap = h0) (fun _ _ _ _ _ => True) (fun _ U0 o0 U1 => ∃ v0 L0, o0 = .returned v0 ∧ own_Q_rnn Z oa om h0 n0 v0 U1.heap L0 ∧ FrameEnd U0 o0 U1 L0 ({ frames := 0, cells := 0, slots := 0, locals := 0 } : Room).cells ({ frames := 0, cells := 0, slots := 0, locals := 0 } : Room).slots) := by
  refine MetFree.of_bodySF (plainFor_of_name own_pn_java_util_Objects) hisR ?_
  intro p e s m args below meth c s₁ Bd hml0 hP hK
  obtain ⟨rfl, hZ, hh⟩ := hP
  have hZs := hZ
  have hx := Bd.exec
  have hby := Bd.bytes
  have hml : c.maxLocals = 2 := hml0
  have hown : s.vm.findClass "java/util/Objects" = some m.cls := findClass_of_methodNamed Bd.named
  have hnm := (name_of_methodNamed Bd.named Bd.method).1
  have X0 : Stand p l e ({ frames := 0, cells := 0, slots := 0, locals := 0 } : Room) s m #[(.ref oa), (.ref om)] below meth c s₁ [] 0 0 := Stand.of_body Bd
  have e0 : s₁.heap = h0 := by rw [← hh, Bd.state]; rfl
  have N0 := Fr.nil n0
  refine OwnFin.entry (own_ef_rnn m oa om) (fun P' hP' => ?_)
  refine OwnFin.adv (B := s₁.setTop (mkF m 1 #[.val (.ref oa), .val (.ref om)] [(.ref oa)])) (fun _ k => XS.aloadN X0.here hx rfl (hb hby own_d10_0) rfl rfl k) ?_
  refine OwnFin.adv (B := s₁.setTop (mkF m 13 #[.val (.ref oa), .val (.ref om)] [])) (fun _ k => XS.ifnonnullYes X0.here hx rfl (pc0 := 1) (pc' := 13) rfl (hb hby own_d10_1) rfl (by decide) (by decide) k) ?_
  refine OwnFin.adv (B := s₁.setTop (mkF m 14 #[.val (.ref oa), .val (.ref om)] [(.ref oa)])) (fun _ k => XS.aloadN X0.here hx rfl (hb hby own_d10_13) rfl rfl k) ?_
  obtain ⟨fs, hr, hrun, hended, hW, hsame⟩ := X0.leave (v := some (.ref oa)) (fun h => by rw [Bd.returns] at h; cases h)
  refine OwnFin.leaf hP' ⟨_, _, own_retR X0 hx Bd.returns rfl rfl rfl (hb hby own_d10_14) hr, hrun, hended, _, _, rfl, ?_, ⟨_, rfl⟩, hW, hsame.mono (by decide) (by decide)⟩
  exact ⟨rfl, N0, e0⟩
theorem own_d9_0 : decode prog_77_method_1_code 0 = .ok (.aload_n 0, 1) := by decide +kernel
theorem own_d9_1 : decode prog_77_method_1_code 1 = .ok (.invokespecial 1, 3) := by decide +kernel
theorem own_d9_4 : decode prog_77_method_1_code 4 = .ok (.aload_n 0, 1) := by decide +kernel
theorem own_d9_5 : decode prog_77_method_1_code 5 = .ok (.aload_n 1, 1) := by decide +kernel
theorem own_d9_6 : decode prog_77_method_1_code 6 = .ok (.ldc 7, 2) := by decide +kernel
theorem own_pd_x28Ljavax2flangx2fObjectx3bLjavax2flangx2fStringx3bx29Ljavax2flangx2fObjectx3b : parseMethodDescriptor "(Ljava/lang/Object;Ljava/lang/String;)Ljava/lang/Object;" = some ⟨[(.object "java/lang/Object"), (.object "java/lang/String")], some (.object "java/lang/Object")⟩ := by decide +kernel
theorem own_d9_8 : decode prog_77_method_1_code 8 = .ok (.invokestatic 9, 3) := by decide +kernel
theorem own_d9_11 : decode prog_77_method_1_code 11 = .ok (.checkcast 15, 3) := by decide +kernel
theorem own_d9_14 : decode prog_77_method_1_code 14 = .ok (.putfield 17, 3) := by decide +kernel
theorem own_d9_17 : decode prog_77_method_1_code 17 = .ok (.aload_n 0, 1) := by decide +kernel
theorem own_d9_18 : decode prog_77_method_1_code 18 = .ok (.aload_n 2, 1) := by decide +kernel
theorem own_d9_19 : decode prog_77_method_1_code 19 = .ok (.ldc 22, 2) := by decide +kernel
theorem own_d9_21 : decode prog_77_method_1_code 21 = .ok (.invokestatic 9, 3) := by decide +kernel
theorem own_d9_24 : decode prog_77_method_1_code 24 = .ok (.checkcast 24, 3) := by decide +kernel
theorem own_d9_27 : decode prog_77_method_1_code 27 = .ok (.putfield 26, 3) := by decide +kernel
theorem own_d9_30 : decode prog_77_method_1_code 30 = .ok (.return_, 1) := by decide +kernel
theorem own_ef_tkInit (m : MethodId) (x0 : Addr) (x1 : Addr) (x2 : Addr) : entryFrame m #[(.ref x0), (.ref x1), (.ref x2)] 3 = mkF m 0 #[.val (.ref x0), .val (.ref x1), .val (.ref x2)] [] := by first | (simp [entryFrame, mkF, argsToLocals, Value.category]; done) | rfl
theorem own_pn_com_example_raccordo_raccordo_sql_SqlToken : plainName "com/example/raccordo/raccordo/sql/SqlToken" = true := by first | (simp [plainName, overriddenIn]; done) | decide +kernel
def own_Q_tkInit (Z : State) (ob kd ct : Addr) (u0 u1 : Value) (h0 : Heap) (n0 : Nat) (v : Option Value) (h : Heap) (L : List Loc) : Prop := v = none ∧ Fr n0 L ∧ Keep h0 h [ob] ∧ Fld Z h ob "com/example/raccordo/raccordo/sql/SqlToken" "kind" "Lcom/example/raccordo/raccordo/sql/SqlToken$Kind;" (.ref kd) ∧ Fld Z h ob "com/example/raccordo/raccordo/sql/SqlToken" "content" "Ljava/lang/String;" (.ref ct)
set_option maxRecDepth 65536 in
set_option maxHeartbeats 40000000 in
theorem own_tkInit (l : Launch) (Z : State) (a0 : Array Value) (hw : ∀ d ∈ tables_1, d.before a0 Z = true) (ws : List Jvm.Cond) (ob kd ct : Addr) (u0 u1 : Value) (h0 : Heap) (n0 : Nat) (Z0 : n0 ≤ h0.size) (E : Exa Z h0 ob "com/example/raccordo/raccordo/sql/SqlToken") (Ek : Exa Z h0 kd "com/example/raccordo/raccordo/sql/SqlToken$Kind") (Ec : Exa Z h0 ct "java/lang/String") (F0 : Fld Z h0 ob "com/example/raccordo/raccordo/sql/SqlToken" "kind" "Lcom/example/raccordo/raccordo/sql/SqlToken$Kind;" u0) (F1 : Fld Z h0 ob "com/example/raccordo/raccordo/sql/SqlToken" "content" "Ljava/lang/String;" u1) (g_ob : n0 ≤ ob) :
    MetFree l (⟨"com/example/raccordo/raccordo/sql/SqlToken", "<init>", "(Lcom/example/raccordo/raccordo/sql/SqlToken$Kind;Ljava/lang/String;)V"⟩ : MethodName) (head1 (Jvm.Cond.code (⟨"com/example/raccordo/raccordo/sql/SqlToken", "<init>", "(Lcom/example/raccordo/raccordo/sql/SqlToken$Kind;Ljava/lang/String;)V"⟩ : MethodName) prog_77_method_1_code 3 none :: ws) ({ frames := 1, cells := 4, slots := 52, locals := 14 } : Room)) (fun A0 U0 => A0 = #[(.ref ob), (.ref kd), (.ref ct)] ∧ Z.Warmed39 U0.vm ∧ U0.heap = h0 ∧ CHv Z own_EL U0.vm h0) (fun _ _ _ _ _ => True) (fun _ U0 o0 U1 => ∃ v0 L0, o0 = .returned v0 ∧ own_Q_tkInit Z ob kd ct u0 u1 h0 n0 v0 U1.heap L0 ∧ CHr Z own_EL U0.vm U0.heap U1.vm U1.heap ∧ ReturnedEndW U0 o0 U1 L0 ({ frames := 1, cells := 4, slots := 52, locals := 14 } : Room).cells ({ frames := 1, cells := 4, slots := 52, locals := 14 } : Room).slots) := by
  refine MetFree.of_bodySF (plainFor_of_name own_pn_com_example_raccordo_raccordo_sql_SqlToken) hisR ?_
  intro p e s m args below meth c s₁ Bd hml0 hP hK
  obtain ⟨rfl, hZ, hh, H0⟩ := hP
  have hZs := hZ
  have hx := Bd.exec
  have hby := Bd.bytes
  have hml : c.maxLocals = 3 := hml0
  have hown : s.vm.findClass "com/example/raccordo/raccordo/sql/SqlToken" = some m.cls := findClass_of_methodNamed Bd.named
  have hnm := (name_of_methodNamed Bd.named Bd.method).1
  have X0 : Stand p l e ({ frames := 1, cells := 4, slots := 52, locals := 14 } : Room) s m #[(.ref ob), (.ref kd), (.ref ct)] below meth c s₁ [] 0 0 := Stand.of_body Bd
  have e0 : s₁.heap = h0 := by rw [← hh, Bd.state]; rfl
  have N0 := Fr.nil n0
  refine OwnFin.entry (own_ef_tkInit m ob kd ct) (fun P' hP' => ?_)
  have lt_ob := own_lt E.lt
  refine OwnFin.adv (B := s₁.setTop (mkF m 1 #[.val (.ref ob), .val (.ref kd), .val (.ref ct)] [(.ref ob)])) (fun _ k => XS.aloadN X0.here hx rfl (hb hby own_d9_0) rfl rfl k) ?_
  obtain ⟨T1, X1, e1, st1⟩ := initO X0 hx hZ hown (hw _ (List.mem_of_getElem? (i := 49) rfl)) (hw _ (List.mem_of_getElem? (i := 16) rfl)) (hw _ (List.mem_of_getElem? (i := 17) rfl)) e0 (g := (mkF m 1 #[.val (.ref ob), .val (.ref kd), .val (.ref ct)] [(.ref ob)])) rfl (by rw [hml]; rfl) rfl (hb hby own_d9_1) (by decide) (W := 0) (by show 2 * 0 + _ ≤ _; exact Nat.le_of_eq rfl) (by decide)
  refine OwnFin.adv (B := T1.setTop (mkF m 4 #[.val (.ref ob), .val (.ref kd), .val (.ref ct)] [])) (fun _ k => st1 _ k) ?_
  refine OwnFin.adv (B := T1.setTop (mkF m 5 #[.val (.ref ob), .val (.ref kd), .val (.ref ct)] [(.ref ob)])) (fun _ k => XS.aloadN X1.here hx rfl (hb hby own_d9_4) rfl rfl k) ?_
  refine OwnFin.adv (B := T1.setTop (mkF m 6 #[.val (.ref ob), .val (.ref kd), .val (.ref ct)] [(.ref kd), (.ref ob)])) (fun _ k => XS.aloadN X1.here hx rfl (hb hby own_d9_5) rfl rfl k) ?_
  obtain ⟨a2, T2, h2, kk2, X2, e2, E2, hS2, hk2, hZ, hown, C2, Lt2, st2⟩ := ldcOH (s := s) (vm0 := s.vm) X1 hx hZ hown (hw _ (List.mem_of_getElem? (i := 50) rfl)) (fun d hd => hw d ((by decide +kernel : ∀ d ∈ Bundle.stringAtoms, d ∈ tables_1) d hd)) e1 (State.WarmedH.since (State.WarmedH.refl s) 0) (Nat.zero_le _) (own_EW hw) ((CHr.refl H0)).1 (g := (mkF m 6 #[.val (.ref ob), .val (.ref kd), .val (.ref ct)] [(.ref kd), (.ref ob)])) rfl (hb hby own_d9_6) (n := 16) (by decide) (by decide) (by decide) (by decide)
  have hZ2 := hZ
  have sz3 : h0.size ≤ h2.size := E2.1
  have chA2 : CHr Z own_EL s.vm h0 T2.vm h2 := ((CHr.refl H0)).trans C2
  refine OwnFin.adv (B := T2.setTop (mkF m 8 #[.val (.ref ob), .val (.ref kd), .val (.ref ct)] [(.ref a2), (.ref kd), (.ref ob)])) (fun _ k => st2 _ k) ?_
  obtain ⟨_, _, ⟨T4, L4, k4, n4⟩, -, X4, ⟨Lc4, hQ4, l4, y4, z4⟩, st4⟩ := Jvm.LawKit.callS X2 hx (y := (⟨"java/util/Objects", "requireNonNull", "(Ljava/lang/Object;Ljava/lang/String;)Ljava/lang/Object;"⟩ : MethodName)) hown (mvT hZ (hw _ (List.mem_of_getElem? (i := 51) rfl))) (mvT hZ (hw _ (List.mem_of_getElem? (i := 52) rfl))) (mvT hZ (hw _ (List.mem_of_getElem? (i := 53) rfl))) (mvT hZ (hw _ (List.mem_of_getElem? (i := 54) rfl))) (by decide) (backOf (W := 1) (own_rnn l Z a0 hw [] kd a2 h2 n0 (by omega)) hZ (hw _ (List.mem_of_getElem? (i := 54) rfl)) (hw _ (List.mem_of_getElem? (i := 53) rfl)) (by decide) (by decide)) (g := (mkF m 8 #[.val (.ref ob), .val (.ref kd), .val (.ref ct)] [(.ref a2), (.ref kd), (.ref ob)])) rfl (by rw [hml]; rfl) (argsL := [(.ref kd), (.ref a2)]) (rest := [(.ref ob)]) (lenOf own_pd_x28Ljavax2flangx2fObjectx3bLjavax2flangx2fStringx3bx29Ljavax2flangx2fObjectx3b rfl) rfl (by show 2 * 0 + _ ≤ _; exact Nat.le_of_eq rfl) (hb hby own_d9_8) (fun _ _ => ⟨rfl, e2, (by decide : 2 + 0 ≤ _), (by decide : 20 + 0 ≤ _)⟩)
  dsimp only [Pt.U, Pt.locs, Pt.cells, Pt.slots] at X4 l4 y4 z4 st4 hQ4
  subst l4 y4 z4
  obtain ⟨rfl, N4q, eh4⟩ := hQ4
  have N4 := Fr.app N0 N4q
  refine OwnFin.adv (B := T4.setTop (mkF m 11 #[.val (.ref ob), .val (.ref kd), .val (.ref ct)] [(.ref kd), (.ref ob)])) (fun _ k => st4 _ k) ?_
  have Fv5_1 : Exa Z h2 kd "com/example/raccordo/raccordo/sql/SqlToken$Kind" := (Ek.ext E2)
  obtain ⟨T6, X6, e6, st6⟩ := castY X4 hx hZ hown (hw _ (List.mem_of_getElem? (i := 55) rfl)) eh4 (Ins.self Fv5_1) (g := (mkF m 11 #[.val (.ref ob), .val (.ref kd), .val (.ref ct)] [(.ref kd), (.ref ob)])) rfl rfl (hb hby own_d9_11)
  refine OwnFin.adv (B := T6.setTop (mkF m 14 #[.val (.ref ob), .val (.ref kd), .val (.ref ct)] [(.ref kd), (.ref ob)])) (fun _ k => st6 _ k) ?_
  have Fv7_1 : Exa Z h2 ob "com/example/raccordo/raccordo/sql/SqlToken" := (E.ext E2)
  have Fv8_1 : Fld Z h2 ob "com/example/raccordo/raccordo/sql/SqlToken" "kind" "Lcom/example/raccordo/raccordo/sql/SqlToken$Kind;" u0 := (F0.ext E2)
  obtain ⟨T9, h9, X9, e9, W9, st9⟩ := putF X6 hx hZ hown (host := "") (Or.inl (hw _ (List.mem_of_getElem? (i := 57) rfl))) Via.refl e6 Fv8_1 Fv7_1 (Or.inr ⟨(hw _ (List.mem_of_getElem? (i := 58) rfl)), rfl, hnm⟩) (hw _ (List.mem_of_getElem? (i := 42) rfl)) (ty := (.object "com/example/raccordo/raccordo/sql/SqlToken$Kind")) (by decide) rfl rfl (g := (mkF m 14 #[.val (.ref ob), .val (.ref kd), .val (.ref ct)] [(.ref kd), (.ref ob)])) rfl rfl (hb hby own_d9_14)
  have Fw9 : Fld Z h9 ob "com/example/raccordo/raccordo/sql/SqlToken" "kind" "Lcom/example/raccordo/raccordo/sql/SqlToken$Kind;" (.ref kd) := Fv8_1.same W9
  have sz10 : h2.size ≤ h9.size := Nat.le_of_eq W9.size.symm
  have chA10 : CHr Z own_EL s.vm h0 T2.vm h9 := (chA2).trans (CHr.wr W9 (Safe.exa hZ2.alike Fv7_1 (by decide) (by decide)) (chA2).1)
  have N9 := Fr.snoc X9 N4 (by omega : n0 ≤ ob)
  refine OwnFin.adv (B := T9.setTop (mkF m 17 #[.val (.ref ob), .val (.ref kd), .val (.ref ct)] [])) (fun _ k => st9 _ k) ?_
  refine OwnFin.adv (B := T9.setTop (mkF m 18 #[.val (.ref ob), .val (.ref kd), .val (.ref ct)] [(.ref ob)])) (fun _ k => XS.aloadN X9.here hx rfl (hb hby own_d9_17) rfl rfl k) ?_
  refine OwnFin.adv (B := T9.setTop (mkF m 19 #[.val (.ref ob), .val (.ref kd), .val (.ref ct)] [(.ref ct), (.ref ob)])) (fun _ k => XS.aloadN X9.here hx rfl (hb hby own_d9_18) rfl rfl k) ?_
  obtain ⟨a11, T11, h11, kk11, X11, e11, E11, hS11, hk11, hZ, hown, C11, Lt11, st11⟩ := ldcOH (s := s) (vm0 := T2.vm) X9 hx hZ hown (hw _ (List.mem_of_getElem? (i := 59) rfl)) (fun d hd => hw d ((by decide +kernel : ∀ d ∈ Bundle.stringAtoms, d ∈ tables_1) d hd)) e9 hS2 (by omega) (own_EW hw) (chA10).1 (g := (mkF m 19 #[.val (.ref ob), .val (.ref kd), .val (.ref ct)] [(.ref ct), (.ref ob)])) rfl (hb hby own_d9_19) (n := 28) (by decide) (by decide) (by decide) (by decide)
  have hZ11 := hZ
  have sz12 : h9.size ≤ h11.size := E11.1
  have chA11 : CHr Z own_EL s.vm h0 T11.vm h11 := (chA10).trans C11
  refine OwnFin.adv (B := T11.setTop (mkF m 21 #[.val (.ref ob), .val (.ref kd), .val (.ref ct)] [(.ref a11), (.ref ct), (.ref ob)])) (fun _ k => st11 _ k) ?_
  obtain ⟨_, _, ⟨T13, L13, k13, n13⟩, -, X13, ⟨Lc13, hQ13, l13, y13, z13⟩, st13⟩ := Jvm.LawKit.callS X11 hx (y := (⟨"java/util/Objects", "requireNonNull", "(Ljava/lang/Object;Ljava/lang/String;)Ljava/lang/Object;"⟩ : MethodName)) hown (mvT hZ (hw _ (List.mem_of_getElem? (i := 51) rfl))) (mvT hZ (hw _ (List.mem_of_getElem? (i := 52) rfl))) (mvT hZ (hw _ (List.mem_of_getElem? (i := 53) rfl))) (mvT hZ (hw _ (List.mem_of_getElem? (i := 54) rfl))) (by decide) (backOf (W := 1) (own_rnn l Z a0 hw [] ct a11 h11 n0 (by omega)) hZ (hw _ (List.mem_of_getElem? (i := 54) rfl)) (hw _ (List.mem_of_getElem? (i := 53) rfl)) (by decide) (by decide)) (g := (mkF m 21 #[.val (.ref ob), .val (.ref kd), .val (.ref ct)] [(.ref a11), (.ref ct), (.ref ob)])) rfl (by rw [hml]; rfl) (argsL := [(.ref ct), (.ref a11)]) (rest := [(.ref ob)]) (lenOf own_pd_x28Ljavax2flangx2fObjectx3bLjavax2flangx2fStringx3bx29Ljavax2flangx2fObjectx3b rfl) rfl (by show 2 * 0 + _ ≤ _; exact Nat.le_of_eq rfl) (hb hby own_d9_21) (fun _ _ => ⟨rfl, e11, (by decide : 4 + 0 ≤ _), (by decide : 52 + 0 ≤ _)⟩)
  dsimp only [Pt.U, Pt.locs, Pt.cells, Pt.slots] at X13 l13 y13 z13 st13 hQ13
  subst l13 y13 z13
  obtain ⟨rfl, N13q, eh13⟩ := hQ13
  have N13 := Fr.app N9 N13q
  refine OwnFin.adv (B := T13.setTop (mkF m 24 #[.val (.ref ob), .val (.ref kd), .val (.ref ct)] [(.ref ct), (.ref ob)])) (fun _ k => st13 _ k) ?_
  have Fv14_3 : Exa Z h11 ct "java/lang/String" := (((Ec.ext E2).wr W9).ext E11)
  obtain ⟨T15, X15, e15, st15⟩ := castY X13 hx hZ hown (hw _ (List.mem_of_getElem? (i := 60) rfl)) eh13 (Ins.self Fv14_3) (g := (mkF m 24 #[.val (.ref ob), .val (.ref kd), .val (.ref ct)] [(.ref ct), (.ref ob)])) rfl rfl (hb hby own_d9_24)
  refine OwnFin.adv (B := T15.setTop (mkF m 27 #[.val (.ref ob), .val (.ref kd), .val (.ref ct)] [(.ref ct), (.ref ob)])) (fun _ k => st15 _ k) ?_
  have Fv16_3 : Exa Z h11 ob "com/example/raccordo/raccordo/sql/SqlToken" := ((Fv7_1.wr W9).ext E11)
  have Fv17_3 : Fld Z h11 ob "com/example/raccordo/raccordo/sql/SqlToken" "content" "Ljava/lang/String;" u1 := (((F1.ext E2).other W9 (Or.inr (slot_ne (Or.inr (hw _ (List.mem_of_getElem? (i := 62) rfl))) (Or.inr (hw _ (List.mem_of_getElem? (i := 58) rfl))) (by decide) (t := (.object "java/lang/String")) (t' := (.object "com/example/raccordo/raccordo/sql/SqlToken$Kind")) (by decide) (by decide)))).ext E11)
  obtain ⟨T18, h18, X18, e18, W18, st18⟩ := putF X15 hx hZ hown (host := "") (Or.inl (hw _ (List.mem_of_getElem? (i := 61) rfl))) Via.refl e15 Fv17_3 Fv16_3 (Or.inr ⟨(hw _ (List.mem_of_getElem? (i := 62) rfl)), rfl, hnm⟩) (hw _ (List.mem_of_getElem? (i := 42) rfl)) (ty := (.object "java/lang/String")) (by decide) rfl rfl (g := (mkF m 27 #[.val (.ref ob), .val (.ref kd), .val (.ref ct)] [(.ref ct), (.ref ob)])) rfl rfl (hb hby own_d9_27)
  have Fw18 : Fld Z h18 ob "com/example/raccordo/raccordo/sql/SqlToken" "content" "Ljava/lang/String;" (.ref ct) := Fv17_3.same W18
  have sz19 : h11.size ≤ h18.size := Nat.le_of_eq W18.size.symm
  have chA19 : CHr Z own_EL s.vm h0 T11.vm h18 := (chA11).trans (CHr.wr W18 (Safe.exa hZ11.alike Fv16_3 (by decide) (by decide)) (chA11).1)
  have N18 := Fr.snoc X18 N13 (by omega : n0 ≤ ob)
  refine OwnFin.adv (B := T18.setTop (mkF m 30 #[.val (.ref ob), .val (.ref kd), .val (.ref ct)] [])) (fun _ k => st18 _ k) ?_
  obtain ⟨fs, hr, hrun, hended, hE⟩ := X18.leaveW hS11 (by rw [e18]; omega) (v := none) (fun _ => rfl)
  refine OwnFin.leaf hP' ⟨_, _, X18.returnOut hx Bd.returns (hb hby own_d9_30) hr, hrun, hended, _, _, rfl, ?_, own_chend (chA19) (CHv.at (s := s) (vm0 := T11.vm) (T := T18) X18 hZ (own_EW hw) (chA19).1) hh e18, own_monoW hE (by decide) (by decide)⟩
  have Fv20_4 : Fld Z h18 ob "com/example/raccordo/raccordo/sql/SqlToken" "kind" "Lcom/example/raccordo/raccordo/sql/SqlToken$Kind;" (.ref kd) := ((Fw9.ext E11).other W18 (Or.inr (slot_ne (Or.inr (hw _ (List.mem_of_getElem? (i := 58) rfl))) (Or.inr (hw _ (List.mem_of_getElem? (i := 62) rfl))) (by decide) (t := (.object "com/example/raccordo/raccordo/sql/SqlToken$Kind")) (t' := (.object "java/lang/String")) (by decide) (by decide))))
  rw [show (T18.setFrames fs).heap = h18 from e18]
  exact ⟨rfl, N18, (((((Keep.refl h0 [ob]).ext E2).wr W9 (Or.inl (List.mem_of_getElem? (i := 0) rfl))).ext E11).wr W18 (Or.inl (List.mem_of_getElem? (i := 0) rfl))), Fv20_4, Fw18⟩
theorem own_d8_0 : decode prog_77_method_3_code 0 = .ok (.new 18, 3) := by decide +kernel
theorem own_d8_3 : decode prog_77_method_3_code 3 = .ok (.dup, 1) := by decide +kernel
theorem own_d8_4 : decode prog_77_method_3_code 4 = .ok (.getstatic 35, 3) := by decide +kernel
theorem own_d8_7 : decode prog_77_method_3_code 7 = .ok (.aload_n 0, 1) := by decide +kernel
theorem own_pd_x28Lcomx2fexamplex2fraccordox2fraccordox2fsqlx2fSqlTokenx24Kindx3bLjavax2flangx2fStringx3bx29V : parseMethodDescriptor "(Lcom/example/raccordo/raccordo/sql/SqlToken$Kind;Ljava/lang/String;)V" = some ⟨[(.object "com/example/raccordo/raccordo/sql/SqlToken$Kind"), (.object "java/lang/String")], none⟩ := by decide +kernel
theorem own_d8_8 : decode prog_77_method_3_code 8 = .ok (.invokespecial 32, 3) := by decide +kernel
theorem own_d8_11 : decode prog_77_method_3_code 11 = .ok (.areturn, 1) := by decide +kernel
theorem own_ef_parameter (m : MethodId) (x0 : Addr) : entryFrame m #[(.ref x0)] 1 = mkF m 0 #[.val (.ref x0)] [] := by first | (simp [entryFrame, mkF, argsToLocals, Value.category]; done) | rfl
def own_Q_parameter (Z : State) (ct kd : Addr) (h0 : Heap) (n0 : Nat) (v : Option Value) (h : Heap) (L : List Loc) : Prop := ∃ r : Addr, v = some (.ref r) ∧ Fr n0 L ∧ Keep h0 h [] ∧ h0.size ≤ r ∧ Exa Z h r "com/example/raccordo/raccordo/sql/SqlToken" ∧ Fld Z h r "com/example/raccordo/raccordo/sql/SqlToken" "kind" "Lcom/example/raccordo/raccordo/sql/SqlToken$Kind;" (.ref kd) ∧ Fld Z h r "com/example/raccordo/raccordo/sql/SqlToken" "content" "Ljava/lang/String;" (.ref ct)
set_option maxRecDepth 65536 in
set_option maxHeartbeats 40000000 in
theorem own_parameter (l : Launch) (Z : State) (a0 : Array Value) (hw : ∀ d ∈ tables_1, d.before a0 Z = true) (ws : List Jvm.Cond) (ct kd : Addr) (h0 : Heap) (n0 : Nat) (Z0 : n0 ≤ h0.size) (O0 : Old Z n0 h0) (Ec : Exa Z h0 ct "java/lang/String") (Sk : Sta Z Z.heap "com/example/raccordo/raccordo/sql/SqlToken$Kind" "PARAMETER" "Lcom/example/raccordo/raccordo/sql/SqlToken$Kind;" (.ref kd)) (Ek : Exa Z Z.heap kd "com/example/raccordo/raccordo/sql/SqlToken$Kind") :
    MetFree l (⟨"com/example/raccordo/raccordo/sql/SqlToken", "parameter", "(Ljava/lang/String;)Lcom/example/raccordo/raccordo/sql/SqlToken;"⟩ : MethodName) (head1 (Jvm.Cond.code (⟨"com/example/raccordo/raccordo/sql/SqlToken", "parameter", "(Ljava/lang/String;)Lcom/example/raccordo/raccordo/sql/SqlToken;"⟩ : MethodName) prog_77_method_3_code 1 (some (.object "com/example/raccordo/raccordo/sql/SqlToken")) :: ws) ({ frames := 2, cells := 5, slots := 54, locals := 29 } : Room)) (fun A0 U0 => A0 = #[(.ref ct)] ∧ Z.Warmed39 U0.vm ∧ U0.heap = h0 ∧ CHv Z own_EL U0.vm h0) (fun _ _ _ _ _ => True) (fun _ U0 o0 U1 => ∃ v0 L0, o0 = .returned v0 ∧ own_Q_parameter Z ct kd h0 n0 v0 U1.heap L0 ∧ CHr Z own_EL U0.vm U0.heap U1.vm U1.heap ∧ ReturnedEndW U0 o0 U1 L0 ({ frames := 2, cells := 5, slots := 54, locals := 29 } : Room).cells ({ frames := 2, cells := 5, slots := 54, locals := 29 } : Room).slots) := by
  refine MetFree.of_bodySF (plainFor_of_name own_pn_com_example_raccordo_raccordo_sql_SqlToken) hisR ?_
  intro p e s m args below meth c s₁ Bd hml0 hP hK
  obtain ⟨rfl, hZ, hh, H0⟩ := hP
  have hZs := hZ
  have hx := Bd.exec
  have hby := Bd.bytes
  have hml : c.maxLocals = 1 := hml0
  have hown : s.vm.findClass "com/example/raccordo/raccordo/sql/SqlToken" = some m.cls := findClass_of_methodNamed Bd.named
  have hnm := (name_of_methodNamed Bd.named Bd.method).1
  have X0 : Stand p l e ({ frames := 2, cells := 5, slots := 54, locals := 29 } : Room) s m #[(.ref ct)] below meth c s₁ [] 0 0 := Stand.of_body Bd
  have e0 : s₁.heap = h0 := by rw [← hh, Bd.state]; rfl
  have N0 := Fr.nil n0
  refine OwnFin.entry (own_ef_parameter m ct) (fun P' hP' => ?_)
  obtain ⟨T1, h1, X1, e1, E1, A1, D1, -, st1⟩ := newO X0 hx hZ hown (hw _ (List.mem_of_getElem? (i := 41) rfl)) (hw _ (List.mem_of_getElem? (i := 42) rfl)) (hw _ (List.mem_of_getElem? (i := 39) rfl)) e0 (g := (mkF m 0 #[.val (.ref ct)] [])) rfl (hb hby own_d8_0) (by decide) (by decide)
  obtain ⟨b1, g1⟩ : ∃ z, z = h0.size := ⟨_, rfl⟩
  rw [← g1] at A1 D1 st1
  have sz2 : h0.size ≤ h1.size := E1.1
  have chA2 : CHr Z own_EL s.vm h0 s.vm h1 := ((CHr.refl H0)).trans (CHr.ext E1 ((CHr.refl H0)).1)
  have lt_b1 := own_lt A1.lt
  have F1_kind : Fld Z h1 b1 "com/example/raccordo/raccordo/sql/SqlToken" "kind" "Lcom/example/raccordo/raccordo/sql/SqlToken$Kind;" .null := D1 (Or.inr (hw _ (List.mem_of_getElem? (i := 58) rfl))) (ty := (.object "com/example/raccordo/raccordo/sql/SqlToken$Kind")) (by decide)
  have F1_content : Fld Z h1 b1 "com/example/raccordo/raccordo/sql/SqlToken" "content" "Ljava/lang/String;" .null := D1 (Or.inr (hw _ (List.mem_of_getElem? (i := 62) rfl))) (ty := (.object "java/lang/String")) (by decide)
  refine OwnFin.adv (B := T1.setTop (mkF m 3 #[.val (.ref ct)] [(.ref b1)])) (fun _ k => st1 _ k) ?_
  refine OwnFin.adv (B := T1.setTop (mkF m 4 #[.val (.ref ct)] [(.ref b1), (.ref b1)])) (fun _ k => XS.dup X1.here hx rfl (hb hby own_d8_3) rfl rfl k) ?_
  have Old4 : Old Z n0 h1 := (O0.ext E1)
  obtain ⟨T3, X3, e3, st3⟩ := getS2 X1 hx hZ hown (host := "") (Or.inl (hw _ (List.mem_of_getElem? (i := 43) rfl))) Via.refl e1 (own_staK Sk Old4) (g := (mkF m 4 #[.val (.ref ct)] [(.ref b1), (.ref b1)])) rfl (hb hby own_d8_4)
  refine OwnFin.adv (B := T3.setTop (mkF m 7 #[.val (.ref ct)] [(.ref kd), (.ref b1), (.ref b1)])) (fun _ k => st3 _ k) ?_
  refine OwnFin.adv (B := T3.setTop (mkF m 8 #[.val (.ref ct)] [(.ref ct), (.ref kd), (.ref b1), (.ref b1)])) (fun _ k => XS.aloadN X3.here hx rfl (hb hby own_d8_7) rfl rfl k) ?_
  have Fv6_1 : Exa Z h1 ct "java/lang/String" := (Ec.ext E1)
  obtain ⟨_, _, ⟨T5, L5, k5, n5⟩, -, X5, hSb5, hgr5, ⟨Lc5, hQ5, l5, y5, z5, C5⟩, st5⟩ := Stand.specialBackS (s := (s.setVm s.vm)) X3 hx (y := (⟨"com/example/raccordo/raccordo/sql/SqlToken", "<init>", "(Lcom/example/raccordo/raccordo/sql/SqlToken$Kind;Ljava/lang/String;)V"⟩ : MethodName)) rfl hown (mvT hZ (hw _ (List.mem_of_getElem? (i := 46) rfl))) (mvT hZ (hw _ (List.mem_of_getElem? (i := 47) rfl))) (mvT hZ (hw _ (List.mem_of_getElem? (i := 48) rfl))) (by decide) (backOfSH (s := s) (vm0 := s.vm) (W := 1) (own_tkInit l Z a0 hw [] b1 kd ct _ _ h1 n0 (by omega) A1 (Ek.ext Old4.2) Fv6_1 F1_kind F1_content (by omega)) hZ (hw _ (List.mem_of_getElem? (i := 48) rfl)) (hw _ (List.mem_of_getElem? (i := 39) rfl)) (by decide) (by decide) (own_EW hw) (chA2).1) (g := (mkF m 8 #[.val (.ref ct)] [(.ref ct), (.ref kd), (.ref b1), (.ref b1)])) rfl (by rw [hml]; rfl) (Steps.refl _) (a := b1) (argsL := [(.ref kd), (.ref ct)]) (rest := [(.ref b1)]) (lenOf own_pd_x28Lcomx2fexamplex2fraccordox2fraccordox2fsqlx2fSqlTokenx24Kindx3bLjavax2flangx2fStringx3bx29V rfl) rfl (by show 2 * 0 + _ ≤ _; exact Nat.le_of_eq rfl) (hb hby own_d8_8) (fun _ _ => ⟨rfl, e3, (by decide : 1 + 4 ≤ _), (by decide : 2 + 52 ≤ _)⟩)
  dsimp only [Pt.U, Pt.locs, Pt.cells, Pt.slots] at X5 l5 y5 z5 st5 hQ5 hSb5 hgr5 C5
  subst l5 y5 z5
  obtain ⟨Xr5, hS5, hZ, hown⟩ := rebS (s := s) (vm0 := s.vm) (State.WarmedH.since (State.WarmedH.refl s) 0) (Nat.zero_le _) X5 hSb5 hgr5 hZ hown
  have hkk5 : T5.heap.size ≤ T5.heap.size := Nat.le_refl _
  have hZ5 := hZ
  obtain ⟨rfl, N5q, K5, Fa5, Fb5⟩ := hQ5
  have N5 := Fr.app N0 N5q
  have sz7 : h1.size ≤ T5.heap.size := K5.1
  have chA7 : CHr Z own_EL s.vm h0 T5.vm T5.heap := (chA2).trans C5
  refine OwnFin.adv (B := T5.setTop (mkF m 11 #[.val (.ref ct)] [(.ref b1)])) (fun _ k => st5.trans k) ?_
  obtain ⟨fs, hr, hrun, hended, hE⟩ := Xr5.leaveW hS5 (by omega) (v := some (.ref b1)) (fun h => by rw [Bd.returns] at h; cases h)
  refine OwnFin.leaf hP' ⟨_, _, own_retR Xr5 hx Bd.returns rfl rfl rfl (hb hby own_d8_11) hr, hrun, hended, _, _, rfl, ?_, own_chend (chA7) (CHv.at (s := s) (vm0 := T5.vm) (T := T5) Xr5 hZ (own_EW hw) (chA7).1) hh rfl, own_monoW hE (by decide) (by decide)⟩
  have Fv8_2 : Exa Z T5.heap b1 "com/example/raccordo/raccordo/sql/SqlToken" := (A1.keep K5)
  rw [show (T5.setFrames fs).heap = T5.heap from rfl]
  exact ⟨b1, rfl, N5, (((Keep.refl h0 []).ext E1).trans K5 (allS (Or.inr (by omega)) all0)), by omega, Fv8_2, Fa5, Fb5⟩
theorem own_d45_0 : decode prog_77_method_2_code 0 = .ok (.new 18, 3) := by decide +kernel
theorem own_d45_3 : decode prog_77_method_2_code 3 = .ok (.dup, 1) := by decide +kernel
theorem own_d45_4 : decode prog_77_method_2_code 4 = .ok (.getstatic 29, 3) := by decide +kernel
theorem own_d45_7 : decode prog_77_method_2_code 7 = .ok (.aload_n 0, 1) := by decide +kernel
theorem own_d45_8 : decode prog_77_method_2_code 8 = .ok (.invokespecial 32, 3) := by decide +kernel
theorem own_d45_11 : decode prog_77_method_2_code 11 = .ok (.areturn, 1) := by decide +kernel
theorem own_ef_text (m : MethodId) (x0 : Addr) : entryFrame m #[(.ref x0)] 1 = mkF m 0 #[.val (.ref x0)] [] := by first | (simp [entryFrame, mkF, argsToLocals, Value.category]; done) | rfl
def own_Q_text (Z : State) (ct kd : Addr) (h0 : Heap) (n0 : Nat) (v : Option Value) (h : Heap) (L : List Loc) : Prop := ∃ r : Addr, v = some (.ref r) ∧ Fr n0 L ∧ Keep h0 h [] ∧ h0.size ≤ r ∧ Exa Z h r "com/example/raccordo/raccordo/sql/SqlToken" ∧ Fld Z h r "com/example/raccordo/raccordo/sql/SqlToken" "kind" "Lcom/example/raccordo/raccordo/sql/SqlToken$Kind;" (.ref kd) ∧ Fld Z h r "com/example/raccordo/raccordo/sql/SqlToken" "content" "Ljava/lang/String;" (.ref ct)
set_option maxRecDepth 65536 in
set_option maxHeartbeats 40000000 in
theorem own_text (l : Launch) (Z : State) (a0 : Array Value) (hw : ∀ d ∈ tables_1, d.before a0 Z = true) (ws : List Jvm.Cond) (ct kd : Addr) (h0 : Heap) (n0 : Nat) (Z0 : n0 ≤ h0.size) (O0 : Old Z n0 h0) (Ec : Exa Z h0 ct "java/lang/String") (Sk : Sta Z Z.heap "com/example/raccordo/raccordo/sql/SqlToken$Kind" "TEXT" "Lcom/example/raccordo/raccordo/sql/SqlToken$Kind;" (.ref kd)) (Ek : Exa Z Z.heap kd "com/example/raccordo/raccordo/sql/SqlToken$Kind") :
    MetFree l (⟨"com/example/raccordo/raccordo/sql/SqlToken", "text", "(Ljava/lang/String;)Lcom/example/raccordo/raccordo/sql/SqlToken;"⟩ : MethodName) (head1 (Jvm.Cond.code (⟨"com/example/raccordo/raccordo/sql/SqlToken", "text", "(Ljava/lang/String;)Lcom/example/raccordo/raccordo/sql/SqlToken;"⟩ : MethodName) prog_77_method_2_code 1 (some (.object "com/example/raccordo/raccordo/sql/SqlToken")) :: ws) ({ frames := 2, cells := 5, slots := 54, locals := 29 } : Room)) (fun A0 U0 => A0 = #[(.ref ct)] ∧ Z.Warmed39 U0.vm ∧ U0.heap = h0 ∧ CHv Z own_EL U0.vm h0) (fun _ _ _ _ _ => True) (fun _ U0 o0 U1 => ∃ v0 L0, o0 = .returned v0 ∧ own_Q_text Z ct kd h0 n0 v0 U1.heap L0 ∧ CHr Z own_EL U0.vm U0.heap U1.vm U1.heap ∧ ReturnedEndW U0 o0 U1 L0 ({ frames := 2, cells := 5, slots := 54, locals := 29 } : Room).cells ({ frames := 2, cells := 5, slots := 54, locals := 29 } : Room).slots) := by
  refine MetFree.of_bodySF (plainFor_of_name own_pn_com_example_raccordo_raccordo_sql_SqlToken) hisR ?_
  intro p e s m args below meth c s₁ Bd hml0 hP hK
  obtain ⟨rfl, hZ, hh, H0⟩ := hP
  have hZs := hZ
  have hx := Bd.exec
  have hby := Bd.bytes
  have hml : c.maxLocals = 1 := hml0
  have hown : s.vm.findClass "com/example/raccordo/raccordo/sql/SqlToken" = some m.cls := findClass_of_methodNamed Bd.named
  have hnm := (name_of_methodNamed Bd.named Bd.method).1
  have X0 : Stand p l e ({ frames := 2, cells := 5, slots := 54, locals := 29 } : Room) s m #[(.ref ct)] below meth c s₁ [] 0 0 := Stand.of_body Bd
  have e0 : s₁.heap = h0 := by rw [← hh, Bd.state]; rfl
  have N0 := Fr.nil n0
  refine OwnFin.entry (own_ef_text m ct) (fun P' hP' => ?_)
  obtain ⟨T1, h1, X1, e1, E1, A1, D1, -, st1⟩ := newO X0 hx hZ hown (hw _ (List.mem_of_getElem? (i := 41) rfl)) (hw _ (List.mem_of_getElem? (i := 42) rfl)) (hw _ (List.mem_of_getElem? (i := 39) rfl)) e0 (g := (mkF m 0 #[.val (.ref ct)] [])) rfl (hb hby own_d45_0) (by decide) (by decide)
  obtain ⟨b1, g1⟩ : ∃ z, z = h0.size := ⟨_, rfl⟩
  rw [← g1] at A1 D1 st1
  have sz2 : h0.size ≤ h1.size := E1.1
  have chA2 : CHr Z own_EL s.vm h0 s.vm h1 := ((CHr.refl H0)).trans (CHr.ext E1 ((CHr.refl H0)).1)
  have lt_b1 := own_lt A1.lt
  have F1_kind : Fld Z h1 b1 "com/example/raccordo/raccordo/sql/SqlToken" "kind" "Lcom/example/raccordo/raccordo/sql/SqlToken$Kind;" .null := D1 (Or.inr (hw _ (List.mem_of_getElem? (i := 58) rfl))) (ty := (.object "com/example/raccordo/raccordo/sql/SqlToken$Kind")) (by decide)
  have F1_content : Fld Z h1 b1 "com/example/raccordo/raccordo/sql/SqlToken" "content" "Ljava/lang/String;" .null := D1 (Or.inr (hw _ (List.mem_of_getElem? (i := 62) rfl))) (ty := (.object "java/lang/String")) (by decide)
  refine OwnFin.adv (B := T1.setTop (mkF m 3 #[.val (.ref ct)] [(.ref b1)])) (fun _ k => st1 _ k) ?_
  refine OwnFin.adv (B := T1.setTop (mkF m 4 #[.val (.ref ct)] [(.ref b1), (.ref b1)])) (fun _ k => XS.dup X1.here hx rfl (hb hby own_d45_3) rfl rfl k) ?_
  have Old4 : Old Z n0 h1 := (O0.ext E1)
  obtain ⟨T3, X3, e3, st3⟩ := getS2 X1 hx hZ hown (host := "") (Or.inl (hw _ (List.mem_of_getElem? (i := 245) rfl))) Via.refl e1 (own_staK Sk Old4) (g := (mkF m 4 #[.val (.ref ct)] [(.ref b1), (.ref b1)])) rfl (hb hby own_d45_4)
  refine OwnFin.adv (B := T3.setTop (mkF m 7 #[.val (.ref ct)] [(.ref kd), (.ref b1), (.ref b1)])) (fun _ k => st3 _ k) ?_
  refine OwnFin.adv (B := T3.setTop (mkF m 8 #[.val (.ref ct)] [(.ref ct), (.ref kd), (.ref b1), (.ref b1)])) (fun _ k => XS.aloadN X3.here hx rfl (hb hby own_d45_7) rfl rfl k) ?_
  have Fv6_1 : Exa Z h1 ct "java/lang/String" := (Ec.ext E1)
  obtain ⟨_, _, ⟨T5, L5, k5, n5⟩, -, X5, hSb5, hgr5, ⟨Lc5, hQ5, l5, y5, z5, C5⟩, st5⟩ := Stand.specialBackS (s := (s.setVm s.vm)) X3 hx (y := (⟨"com/example/raccordo/raccordo/sql/SqlToken", "<init>", "(Lcom/example/raccordo/raccordo/sql/SqlToken$Kind;Ljava/lang/String;)V"⟩ : MethodName)) rfl hown (mvT hZ (hw _ (List.mem_of_getElem? (i := 46) rfl))) (mvT hZ (hw _ (List.mem_of_getElem? (i := 47) rfl))) (mvT hZ (hw _ (List.mem_of_getElem? (i := 48) rfl))) (by decide) (backOfSH (s := s) (vm0 := s.vm) (W := 1) (own_tkInit l Z a0 hw [] b1 kd ct _ _ h1 n0 (by omega) A1 (Ek.ext Old4.2) Fv6_1 F1_kind F1_content (by omega)) hZ (hw _ (List.mem_of_getElem? (i := 48) rfl)) (hw _ (List.mem_of_getElem? (i := 39) rfl)) (by decide) (by decide) (own_EW hw) (chA2).1) (g := (mkF m 8 #[.val (.ref ct)] [(.ref ct), (.ref kd), (.ref b1), (.ref b1)])) rfl (by rw [hml]; rfl) (Steps.refl _) (a := b1) (argsL := [(.ref kd), (.ref ct)]) (rest := [(.ref b1)]) (lenOf own_pd_x28Lcomx2fexamplex2fraccordox2fraccordox2fsqlx2fSqlTokenx24Kindx3bLjavax2flangx2fStringx3bx29V rfl) rfl (by show 2 * 0 + _ ≤ _; exact Nat.le_of_eq rfl) (hb hby own_d45_8) (fun _ _ => ⟨rfl, e3, (by decide : 1 + 4 ≤ _), (by decide : 2 + 52 ≤ _)⟩)
  dsimp only [Pt.U, Pt.locs, Pt.cells, Pt.slots] at X5 l5 y5 z5 st5 hQ5 hSb5 hgr5 C5
  subst l5 y5 z5
  obtain ⟨Xr5, hS5, hZ, hown⟩ := rebS (s := s) (vm0 := s.vm) (State.WarmedH.since (State.WarmedH.refl s) 0) (Nat.zero_le _) X5 hSb5 hgr5 hZ hown
  have hkk5 : T5.heap.size ≤ T5.heap.size := Nat.le_refl _
  have hZ5 := hZ
  obtain ⟨rfl, N5q, K5, Fa5, Fb5⟩ := hQ5
  have N5 := Fr.app N0 N5q
  have sz7 : h1.size ≤ T5.heap.size := K5.1
  have chA7 : CHr Z own_EL s.vm h0 T5.vm T5.heap := (chA2).trans C5
  refine OwnFin.adv (B := T5.setTop (mkF m 11 #[.val (.ref ct)] [(.ref b1)])) (fun _ k => st5.trans k) ?_
  obtain ⟨fs, hr, hrun, hended, hE⟩ := Xr5.leaveW hS5 (by omega) (v := some (.ref b1)) (fun h => by rw [Bd.returns] at h; cases h)
  refine OwnFin.leaf hP' ⟨_, _, own_retR Xr5 hx Bd.returns rfl rfl rfl (hb hby own_d45_11) hr, hrun, hended, _, _, rfl, ?_, own_chend (chA7) (CHv.at (s := s) (vm0 := T5.vm) (T := T5) Xr5 hZ (own_EW hw) (chA7).1) hh rfl, own_monoW hE (by decide) (by decide)⟩
  have Fv8_2 : Exa Z T5.heap b1 "com/example/raccordo/raccordo/sql/SqlToken" := (A1.keep K5)
  rw [show (T5.setFrames fs).heap = T5.heap from rfl]
  exact ⟨b1, rfl, N5, (((Keep.refl h0 []).ext E1).trans K5 (allS (Or.inr (by omega)) all0)), by omega, Fv8_2, Fa5, Fb5⟩
theorem own_d46_0 : decode prog_77_method_4_code 0 = .ok (.new 18, 3) := by decide +kernel
theorem own_d46_3 : decode prog_77_method_4_code 3 = .ok (.dup, 1) := by decide +kernel
theorem own_d46_4 : decode prog_77_method_4_code 4 = .ok (.getstatic 38, 3) := by decide +kernel
theorem own_d46_7 : decode prog_77_method_4_code 7 = .ok (.aload_n 0, 1) := by decide +kernel
theorem own_d46_8 : decode prog_77_method_4_code 8 = .ok (.invokespecial 32, 3) := by decide +kernel
theorem own_d46_11 : decode prog_77_method_4_code 11 = .ok (.areturn, 1) := by decide +kernel
theorem own_ef_substitution (m : MethodId) (x0 : Addr) : entryFrame m #[(.ref x0)] 1 = mkF m 0 #[.val (.ref x0)] [] := by first | (simp [entryFrame, mkF, argsToLocals, Value.category]; done) | rfl
def own_Q_substitution (Z : State) (ct kd : Addr) (h0 : Heap) (n0 : Nat) (v : Option Value) (h : Heap) (L : List Loc) : Prop := ∃ r : Addr, v = some (.ref r) ∧ Fr n0 L ∧ Keep h0 h [] ∧ h0.size ≤ r ∧ Exa Z h r "com/example/raccordo/raccordo/sql/SqlToken" ∧ Fld Z h r "com/example/raccordo/raccordo/sql/SqlToken" "kind" "Lcom/example/raccordo/raccordo/sql/SqlToken$Kind;" (.ref kd) ∧ Fld Z h r "com/example/raccordo/raccordo/sql/SqlToken" "content" "Ljava/lang/String;" (.ref ct)
set_option maxRecDepth 65536 in
set_option maxHeartbeats 40000000 in
theorem own_substitution (l : Launch) (Z : State) (a0 : Array Value) (hw : ∀ d ∈ tables_1, d.before a0 Z = true) (ws : List Jvm.Cond) (ct kd : Addr) (h0 : Heap) (n0 : Nat) (Z0 : n0 ≤ h0.size) (O0 : Old Z n0 h0) (Ec : Exa Z h0 ct "java/lang/String") (Sk : Sta Z Z.heap "com/example/raccordo/raccordo/sql/SqlToken$Kind" "SUBSTITUTION" "Lcom/example/raccordo/raccordo/sql/SqlToken$Kind;" (.ref kd)) (Ek : Exa Z Z.heap kd "com/example/raccordo/raccordo/sql/SqlToken$Kind") :
    MetFree l (⟨"com/example/raccordo/raccordo/sql/SqlToken", "substitution", "(Ljava/lang/String;)Lcom/example/raccordo/raccordo/sql/SqlToken;"⟩ : MethodName) (head1 (Jvm.Cond.code (⟨"com/example/raccordo/raccordo/sql/SqlToken", "substitution", "(Ljava/lang/String;)Lcom/example/raccordo/raccordo/sql/SqlToken;"⟩ : MethodName) prog_77_method_4_code 1 (some (.object "com/example/raccordo/raccordo/sql/SqlToken")) :: ws) ({ frames := 2, cells := 5, slots := 54, locals := 29 } : Room)) (fun A0 U0 => A0 = #[(.ref ct)] ∧ Z.Warmed39 U0.vm ∧ U0.heap = h0 ∧ CHv Z own_EL U0.vm h0) (fun _ _ _ _ _ => True) (fun _ U0 o0 U1 => ∃ v0 L0, o0 = .returned v0 ∧ own_Q_substitution Z ct kd h0 n0 v0 U1.heap L0 ∧ CHr Z own_EL U0.vm U0.heap U1.vm U1.heap ∧ ReturnedEndW U0 o0 U1 L0 ({ frames := 2, cells := 5, slots := 54, locals := 29 } : Room).cells ({ frames := 2, cells := 5, slots := 54, locals := 29 } : Room).slots) := by
  refine MetFree.of_bodySF (plainFor_of_name own_pn_com_example_raccordo_raccordo_sql_SqlToken) hisR ?_
  intro p e s m args below meth c s₁ Bd hml0 hP hK
  obtain ⟨rfl, hZ, hh, H0⟩ := hP
  have hZs := hZ
  have hx := Bd.exec
  have hby := Bd.bytes
  have hml : c.maxLocals = 1 := hml0
  have hown : s.vm.findClass "com/example/raccordo/raccordo/sql/SqlToken" = some m.cls := findClass_of_methodNamed Bd.named
  have hnm := (name_of_methodNamed Bd.named Bd.method).1
  have X0 : Stand p l e ({ frames := 2, cells := 5, slots := 54, locals := 29 } : Room) s m #[(.ref ct)] below meth c s₁ [] 0 0 := Stand.of_body Bd
  have e0 : s₁.heap = h0 := by rw [← hh, Bd.state]; rfl
  have N0 := Fr.nil n0
  refine OwnFin.entry (own_ef_substitution m ct) (fun P' hP' => ?_)
  obtain ⟨T1, h1, X1, e1, E1, A1, D1, -, st1⟩ := newO X0 hx hZ hown (hw _ (List.mem_of_getElem? (i := 41) rfl)) (hw _ (List.mem_of_getElem? (i := 42) rfl)) (hw _ (List.mem_of_getElem? (i := 39) rfl)) e0 (g := (mkF m 0 #[.val (.ref ct)] [])) rfl (hb hby own_d46_0) (by decide) (by decide)
  obtain ⟨b1, g1⟩ : ∃ z, z = h0.size := ⟨_, rfl⟩
  rw [← g1] at A1 D1 st1
  have sz2 : h0.size ≤ h1.size := E1.1
  have chA2 : CHr Z own_EL s.vm h0 s.vm h1 := ((CHr.refl H0)).trans (CHr.ext E1 ((CHr.refl H0)).1)
  have lt_b1 := own_lt A1.lt
  have F1_kind : Fld Z h1 b1 "com/example/raccordo/raccordo/sql/SqlToken" "kind" "Lcom/example/raccordo/raccordo/sql/SqlToken$Kind;" .null := D1 (Or.inr (hw _ (List.mem_of_getElem? (i := 58) rfl))) (ty := (.object "com/example/raccordo/raccordo/sql/SqlToken$Kind")) (by decide)
  have F1_content : Fld Z h1 b1 "com/example/raccordo/raccordo/sql/SqlToken" "content" "Ljava/lang/String;" .null := D1 (Or.inr (hw _ (List.mem_of_getElem? (i := 62) rfl))) (ty := (.object "java/lang/String")) (by decide)
  refine OwnFin.adv (B := T1.setTop (mkF m 3 #[.val (.ref ct)] [(.ref b1)])) (fun _ k => st1 _ k) ?_
  refine OwnFin.adv (B := T1.setTop (mkF m 4 #[.val (.ref ct)] [(.ref b1), (.ref b1)])) (fun _ k => XS.dup X1.here hx rfl (hb hby own_d46_3) rfl rfl k) ?_
  have Old4 : Old Z n0 h1 := (O0.ext E1)
  obtain ⟨T3, X3, e3, st3⟩ := getS2 X1 hx hZ hown (host := "") (Or.inl (hw _ (List.mem_of_getElem? (i := 250) rfl))) Via.refl e1 (own_staK Sk Old4) (g := (mkF m 4 #[.val (.ref ct)] [(.ref b1), (.ref b1)])) rfl (hb hby own_d46_4)
  refine OwnFin.adv (B := T3.setTop (mkF m 7 #[.val (.ref ct)] [(.ref kd), (.ref b1), (.ref b1)])) (fun _ k => st3 _ k) ?_
  refine OwnFin.adv (B := T3.setTop (mkF m 8 #[.val (.ref ct)] [(.ref ct), (.ref kd), (.ref b1), (.ref b1)])) (fun _ k => XS.aloadN X3.here hx rfl (hb hby own_d46_7) rfl rfl k) ?_
  have Fv6_1 : Exa Z h1 ct "java/lang/String" := (Ec.ext E1)
  obtain ⟨_, _, ⟨T5, L5, k5, n5⟩, -, X5, hSb5, hgr5, ⟨Lc5, hQ5, l5, y5, z5, C5⟩, st5⟩ := Stand.specialBackS (s := (s.setVm s.vm)) X3 hx (y := (⟨"com/example/raccordo/raccordo/sql/SqlToken", "<init>", "(Lcom/example/raccordo/raccordo/sql/SqlToken$Kind;Ljava/lang/String;)V"⟩ : MethodName)) rfl hown (mvT hZ (hw _ (List.mem_of_getElem? (i := 46) rfl))) (mvT hZ (hw _ (List.mem_of_getElem? (i := 47) rfl))) (mvT hZ (hw _ (List.mem_of_getElem? (i := 48) rfl))) (by decide) (backOfSH (s := s) (vm0 := s.vm) (W := 1) (own_tkInit l Z a0 hw [] b1 kd ct _ _ h1 n0 (by omega) A1 (Ek.ext Old4.2) Fv6_1 F1_kind F1_content (by omega)) hZ (hw _ (List.mem_of_getElem? (i := 48) rfl)) (hw _ (List.mem_of_getElem? (i := 39) rfl)) (by decide) (by decide) (own_EW hw) (chA2).1) (g := (mkF m 8 #[.val (.ref ct)] [(.ref ct), (.ref kd), (.ref b1), (.ref b1)])) rfl (by rw [hml]; rfl) (Steps.refl _) (a := b1) (argsL := [(.ref kd), (.ref ct)]) (rest := [(.ref b1)]) (lenOf own_pd_x28Lcomx2fexamplex2fraccordox2fraccordox2fsqlx2fSqlTokenx24Kindx3bLjavax2flangx2fStringx3bx29V rfl) rfl (by show 2 * 0 + _ ≤ _; exact Nat.le_of_eq rfl) (hb hby own_d46_8) (fun _ _ => ⟨rfl, e3, (by decide : 1 + 4 ≤ _), (by decide : 2 + 52 ≤ _)⟩)
  dsimp only [Pt.U, Pt.locs, Pt.cells, Pt.slots] at X5 l5 y5 z5 st5 hQ5 hSb5 hgr5 C5
  subst l5 y5 z5
  obtain ⟨Xr5, hS5, hZ, hown⟩ := rebS (s := s) (vm0 := s.vm) (State.WarmedH.since (State.WarmedH.refl s) 0) (Nat.zero_le _) X5 hSb5 hgr5 hZ hown
  have hkk5 : T5.heap.size ≤ T5.heap.size := Nat.le_refl _
  have hZ5 := hZ
  obtain ⟨rfl, N5q, K5, Fa5, Fb5⟩ := hQ5
  have N5 := Fr.app N0 N5q
  have sz7 : h1.size ≤ T5.heap.size := K5.1
  have chA7 : CHr Z own_EL s.vm h0 T5.vm T5.heap := (chA2).trans C5
  refine OwnFin.adv (B := T5.setTop (mkF m 11 #[.val (.ref ct)] [(.ref b1)])) (fun _ k => st5.trans k) ?_
  obtain ⟨fs, hr, hrun, hended, hE⟩ := Xr5.leaveW hS5 (by omega) (v := some (.ref b1)) (fun h => by rw [Bd.returns] at h; cases h)
  refine OwnFin.leaf hP' ⟨_, _, own_retR Xr5 hx Bd.returns rfl rfl rfl (hb hby own_d46_11) hr, hrun, hended, _, _, rfl, ?_, own_chend (chA7) (CHv.at (s := s) (vm0 := T5.vm) (T := T5) Xr5 hZ (own_EW hw) (chA7).1) hh rfl, own_monoW hE (by decide) (by decide)⟩
  have Fv8_2 : Exa Z T5.heap b1 "com/example/raccordo/raccordo/sql/SqlToken" := (A1.keep K5)
  rw [show (T5.setFrames fs).heap = T5.heap from rfl]
  exact ⟨b1, rfl, N5, (((Keep.refl h0 []).ext E1).trans K5 (allS (Or.inr (by omega)) all0)), by omega, Fv8_2, Fa5, Fb5⟩
theorem own_d11_0 : decode prog_77_method_5_code 0 = .ok (.aload_n 0, 1) := by decide +kernel
theorem own_d11_1 : decode prog_77_method_5_code 1 = .ok (.getfield 17, 3) := by decide +kernel
theorem own_d11_4 : decode prog_77_method_5_code 4 = .ok (.areturn, 1) := by decide +kernel
theorem own_ef_get_kind (m : MethodId) (x0 : Addr) : entryFrame m #[(.ref x0)] 1 = mkF m 0 #[.val (.ref x0)] [] := by first | (simp [entryFrame, mkF, argsToLocals, Value.category]; done) | rfl
def own_Q_get_kind (Z : State) (ob rf : Addr) (h0 : Heap) (n0 : Nat) (v : Option Value) (h : Heap) (L : List Loc) : Prop := v = some (.ref rf) ∧ Fr n0 L ∧ h = h0
set_option maxRecDepth 65536 in
set_option maxHeartbeats 40000000 in
theorem own_get_kind (l : Launch) (Z : State) (a0 : Array Value) (hw : ∀ d ∈ tables_1, d.before a0 Z = true) (ws : List Jvm.Cond) (ob rf : Addr) (h0 : Heap) (n0 : Nat) (Z0 : n0 ≤ h0.size) (F : Fld Z h0 ob "com/example/raccordo/raccordo/sql/SqlToken" "kind" "Lcom/example/raccordo/raccordo/sql/SqlToken$Kind;" (.ref rf)) :
    MetFree l (⟨"com/example/raccordo/raccordo/sql/SqlToken", "kind", "()Lcom/example/raccordo/raccordo/sql/SqlToken$Kind;"⟩ : MethodName) (head1 (Jvm.Cond.code (⟨"com/example/raccordo/raccordo/sql/SqlToken", "kind", "()Lcom/example/raccordo/raccordo/sql/SqlToken$Kind;"⟩ : MethodName) prog_77_method_5_code 1 (some (.object "com/example/raccordo/raccordo/sql/SqlToken$Kind")) :: ws) ({ frames := 0, cells := 0, slots := 0, locals := 0 } : Room)) (fun A0 U0 => A0 = #[(.ref ob)] ∧ Z.Warmed39 U0.vm ∧ U0.heap = h0) (fun _ _ _ _ _ => True) (fun _ U0 o0 U1 => ∃ v0 L0, o0 = .returned v0 ∧ own_Q_get_kind Z ob rf h0 n0 v0 U1.heap L0 ∧ FrameEnd U0 o0 U1 L0 ({ frames := 0, cells := 0, slots := 0, locals := 0 } : Room).cells ({ frames := 0, cells := 0, slots := 0, locals := 0 } : Room).slots) := by
  refine MetFree.of_bodySF (plainFor_of_name own_pn_com_example_raccordo_raccordo_sql_SqlToken) hisR ?_
  intro p e s m args below meth c s₁ Bd hml0 hP hK
  obtain ⟨rfl, hZ, hh⟩ := hP
  have hZs := hZ
  have hx := Bd.exec
  have hby := Bd.bytes
  have hml : c.maxLocals = 1 := hml0
  have hown : s.vm.findClass "com/example/raccordo/raccordo/sql/SqlToken" = some m.cls := findClass_of_methodNamed Bd.named
  have hnm := (name_of_methodNamed Bd.named Bd.method).1
  have X0 : Stand p l e ({ frames := 0, cells := 0, slots := 0, locals := 0 } : Room) s m #[(.ref ob)] below meth c s₁ [] 0 0 := Stand.of_body Bd
  have e0 : s₁.heap = h0 := by rw [← hh, Bd.state]; rfl
  have N0 := Fr.nil n0
  refine OwnFin.entry (own_ef_get_kind m ob) (fun P' hP' => ?_)
  refine OwnFin.adv (B := s₁.setTop (mkF m 1 #[.val (.ref ob)] [(.ref ob)])) (fun _ k => XS.aloadN X0.here hx rfl (hb hby own_d11_0) rfl rfl k) ?_
  obtain ⟨T1, X1, e1, st1⟩ := getF X0 hx hZ hown (host := "") (Or.inl (hw _ (List.mem_of_getElem? (i := 57) rfl))) Via.refl e0 F (g := (mkF m 1 #[.val (.ref ob)] [(.ref ob)])) rfl rfl (hb hby own_d11_1)
  refine OwnFin.adv (B := T1.setTop (mkF m 4 #[.val (.ref ob)] [(.ref rf)])) (fun _ k => st1 _ k) ?_
  obtain ⟨fs, hr, hrun, hended, hW, hsame⟩ := X1.leave (v := some (.ref rf)) (fun h => by rw [Bd.returns] at h; cases h)
  refine OwnFin.leaf hP' ⟨_, _, own_retR X1 hx Bd.returns rfl rfl rfl (hb hby own_d11_4) hr, hrun, hended, _, _, rfl, ?_, ⟨_, rfl⟩, hW, hsame.mono (by decide) (by decide)⟩
  exact ⟨rfl, N0, e1⟩
theorem own_d12_0 : decode prog_77_method_6_code 0 = .ok (.aload_n 0, 1) := by decide +kernel
theorem own_d12_1 : decode prog_77_method_6_code 1 = .ok (.getfield 26, 3) := by decide +kernel
theorem own_d12_4 : decode prog_77_method_6_code 4 = .ok (.areturn, 1) := by decide +kernel
theorem own_ef_get_content (m : MethodId) (x0 : Addr) : entryFrame m #[(.ref x0)] 1 = mkF m 0 #[.val (.ref x0)] [] := by first | (simp [entryFrame, mkF, argsToLocals, Value.category]; done) | rfl
def own_Q_get_content (Z : State) (ob rf : Addr) (h0 : Heap) (n0 : Nat) (v : Option Value) (h : Heap) (L : List Loc) : Prop := v = some (.ref rf) ∧ Fr n0 L ∧ h = h0
set_option maxRecDepth 65536 in
set_option maxHeartbeats 40000000 in
theorem own_get_content (l : Launch) (Z : State) (a0 : Array Value) (hw : ∀ d ∈ tables_1, d.before a0 Z = true) (ws : List Jvm.Cond) (ob rf : Addr) (h0 : Heap) (n0 : Nat) (Z0 : n0 ≤ h0.size) (F : Fld Z h0 ob "com/example/raccordo/raccordo/sql/SqlToken" "content" "Ljava/lang/String;" (.ref rf)) :
    MetFree l (⟨"com/example/raccordo/raccordo/sql/SqlToken", "content", "()Ljava/lang/String;"⟩ : MethodName) (head1 (Jvm.Cond.code (⟨"com/example/raccordo/raccordo/sql/SqlToken", "content", "()Ljava/lang/String;"⟩ : MethodName) prog_77_method_6_code 1 (some (.object "java/lang/String")) :: ws) ({ frames := 0, cells := 0, slots := 0, locals := 0 } : Room)) (fun A0 U0 => A0 = #[(.ref ob)] ∧ Z.Warmed39 U0.vm ∧ U0.heap = h0) (fun _ _ _ _ _ => True) (fun _ U0 o0 U1 => ∃ v0 L0, o0 = .returned v0 ∧ own_Q_get_content Z ob rf h0 n0 v0 U1.heap L0 ∧ FrameEnd U0 o0 U1 L0 ({ frames := 0, cells := 0, slots := 0, locals := 0 } : Room).cells ({ frames := 0, cells := 0, slots := 0, locals := 0 } : Room).slots) := by
  refine MetFree.of_bodySF (plainFor_of_name own_pn_com_example_raccordo_raccordo_sql_SqlToken) hisR ?_
  intro p e s m args below meth c s₁ Bd hml0 hP hK
  obtain ⟨rfl, hZ, hh⟩ := hP
  have hZs := hZ
  have hx := Bd.exec
  have hby := Bd.bytes
  have hml : c.maxLocals = 1 := hml0
  have hown : s.vm.findClass "com/example/raccordo/raccordo/sql/SqlToken" = some m.cls := findClass_of_methodNamed Bd.named
  have hnm := (name_of_methodNamed Bd.named Bd.method).1
  have X0 : Stand p l e ({ frames := 0, cells := 0, slots := 0, locals := 0 } : Room) s m #[(.ref ob)] below meth c s₁ [] 0 0 := Stand.of_body Bd
  have e0 : s₁.heap = h0 := by rw [← hh, Bd.state]; rfl
  have N0 := Fr.nil n0
  refine OwnFin.entry (own_ef_get_content m ob) (fun P' hP' => ?_)
  refine OwnFin.adv (B := s₁.setTop (mkF m 1 #[.val (.ref ob)] [(.ref ob)])) (fun _ k => XS.aloadN X0.here hx rfl (hb hby own_d12_0) rfl rfl k) ?_
  obtain ⟨T1, X1, e1, st1⟩ := getF X0 hx hZ hown (host := "") (Or.inl (hw _ (List.mem_of_getElem? (i := 61) rfl))) Via.refl e0 F (g := (mkF m 1 #[.val (.ref ob)] [(.ref ob)])) rfl rfl (hb hby own_d12_1)
  refine OwnFin.adv (B := T1.setTop (mkF m 4 #[.val (.ref ob)] [(.ref rf)])) (fun _ k => st1 _ k) ?_
  obtain ⟨fs, hr, hrun, hended, hW, hsame⟩ := X1.leave (v := some (.ref rf)) (fun h => by rw [Bd.returns] at h; cases h)
  refine OwnFin.leaf hP' ⟨_, _, own_retR X1 hx Bd.returns rfl rfl rfl (hb hby own_d12_4) hr, hrun, hended, _, _, rfl, ?_, ⟨_, rfl⟩, hW, hsame.mono (by decide) (by decide)⟩
  exact ⟨rfl, N0, e1⟩
theorem own_d15_0 : decode jdk_37_method_2_code 0 = .ok (.aload_n 0, 1) := by decide +kernel
theorem own_d15_1 : decode jdk_37_method_2_code 1 = .ok (.getfield 7, 3) := by decide +kernel
theorem own_d15_4 : decode jdk_37_method_2_code 4 = .ok (.ireturn, 1) := by decide +kernel
theorem own_ef_ord (m : MethodId) (x0 : Addr) : entryFrame m #[(.ref x0)] 1 = mkF m 0 #[.val (.ref x0)] [] := by first | (simp [entryFrame, mkF, argsToLocals, Value.category]; done) | rfl
theorem own_pn_java_lang_Enum : plainName "java/lang/Enum" = true := by first | (simp [plainName, overriddenIn]; done) | decide +kernel
def own_Q_ord (Z : State) (ob : Addr) (h0 : Heap) (n0 : Nat) (v : Option Value) (h : Heap) (L : List Loc) : Prop := v = some (.int (1 : Int32)) ∧ Fr n0 L ∧ h = h0
set_option maxRecDepth 65536 in
set_option maxHeartbeats 40000000 in
theorem own_ord (l : Launch) (Z : State) (a0 : Array Value) (hw : ∀ d ∈ tables_1, d.before a0 Z = true) (ws : List Jvm.Cond) (ob : Addr) (h0 : Heap) (n0 : Nat) (Z0 : n0 ≤ h0.size) (F : Fld Z h0 ob "java/lang/Enum" "ordinal" "I" (.int (1 : Int32))) :
    MetFree l (⟨"java/lang/Enum", "ordinal", "()I"⟩ : MethodName) (head1 (Jvm.Cond.code (⟨"java/lang/Enum", "ordinal", "()I"⟩ : MethodName) jdk_37_method_2_code 1 (some .int) :: ws) ({ frames := 0, cells := 0, slots := 0, locals := 0 } : Room)) (fun A0 U0 => A0 = #[(.ref ob)] ∧ Z.Warmed39 U0.vm ∧ U0.heap = h0) (fun _ _ _ _ _ => True) (fun _ U0 o0 U1 => ∃ v0 L0, o0 = .returned v0 ∧ own_Q_ord Z ob h0 n0 v0 U1.heap L0 ∧ FrameEnd U0 o0 U1 L0 ({ frames := 0, cells := 0, slots := 0, locals := 0 } : Room).cells ({ frames := 0, cells := 0, slots := 0, locals := 0 } : Room).slots) := by
  refine MetFree.of_bodySF (plainFor_of_name own_pn_java_lang_Enum) hisR ?_
  intro p e s m args below meth c s₁ Bd hml0 hP hK
  obtain ⟨rfl, hZ, hh⟩ := hP
  have hZs := hZ
  have hx := Bd.exec
  have hby := Bd.bytes
  have hml : c.maxLocals = 1 := hml0
  have hown : s.vm.findClass "java/lang/Enum" = some m.cls := findClass_of_methodNamed Bd.named
  have hnm := (name_of_methodNamed Bd.named Bd.method).1
  have X0 : Stand p l e ({ frames := 0, cells := 0, slots := 0, locals := 0 } : Room) s m #[(.ref ob)] below meth c s₁ [] 0 0 := Stand.of_body Bd
  have e0 : s₁.heap = h0 := by rw [← hh, Bd.state]; rfl
  have N0 := Fr.nil n0
  refine OwnFin.entry (own_ef_ord m ob) (fun P' hP' => ?_)
  refine OwnFin.adv (B := s₁.setTop (mkF m 1 #[.val (.ref ob)] [(.ref ob)])) (fun _ k => XS.aloadN X0.here hx rfl (hb hby own_d15_0) rfl rfl k) ?_
  obtain ⟨T1, X1, e1, st1⟩ := getF X0 hx hZ hown (host := "") (Or.inl (hw _ (List.mem_of_getElem? (i := 91) rfl))) Via.refl e0 F (g := (mkF m 1 #[.val (.ref ob)] [(.ref ob)])) rfl rfl (hb hby own_d15_1)
  refine OwnFin.adv (B := T1.setTop (mkF m 4 #[.val (.ref ob)] [(.int (1 : Int32))])) (fun _ k => st1 _ k) ?_
  obtain ⟨fs, hr, hrun, hended, hW, hsame⟩ := X1.leave (v := some (.int (1 : Int32))) (fun h => by rw [Bd.returns] at h; cases h)
  refine OwnFin.leaf hP' ⟨_, _, own_retI X1 hx Bd.returns (hb hby own_d15_4) hr, hrun, hended, _, _, rfl, ?_, ⟨_, rfl⟩, hW, hsame.mono (by decide) (by decide)⟩
  exact ⟨rfl, N0, e1⟩
theorem own_d14_0 : decode prog_77_method_9_code 0 = .ok (.aload_n 0, 1) := by decide +kernel
theorem own_d14_1 : decode prog_77_method_9_code 1 = .ok (.getfield 17, 3) := by decide +kernel
theorem own_d14_4 : decode prog_77_method_9_code 4 = .ok (.invokevirtual 49, 3) := by decide +kernel
theorem own_d14_7 : decode prog_77_method_9_code 7 = .ok (.tableswitch 25 0 2 #[35, 42, 72], 25) := by decide +kernel
theorem own_d14_49 : decode prog_77_method_9_code 49 = .ok (.new 58, 3) := by decide +kernel
theorem own_d14_52 : decode prog_77_method_9_code 52 = .ok (.dup, 1) := by decide +kernel
theorem own_pd_x28x29V : parseMethodDescriptor "()V" = some ⟨[], none⟩ := by decide +kernel
theorem own_d14_53 : decode prog_77_method_9_code 53 = .ok (.invokespecial 60, 3) := by decide +kernel
theorem own_d14_56 : decode prog_77_method_9_code 56 = .ok (.ldc 61, 2) := by decide +kernel
theorem own_pd_x28Ljavax2flangx2fStringx3bx29Ljavax2flangx2fStringBuilderx3b : parseMethodDescriptor "(Ljava/lang/String;)Ljava/lang/StringBuilder;" = some ⟨[(.object "java/lang/String")], some (.object "java/lang/StringBuilder")⟩ := by decide +kernel
theorem own_d14_58 : decode prog_77_method_9_code 58 = .ok (.invokevirtual 63, 3) := by decide +kernel
theorem own_d14_61 : decode prog_77_method_9_code 61 = .ok (.aload_n 0, 1) := by decide +kernel
theorem own_d14_62 : decode prog_77_method_9_code 62 = .ok (.getfield 26, 3) := by decide +kernel
theorem own_d14_65 : decode prog_77_method_9_code 65 = .ok (.invokevirtual 63, 3) := by decide +kernel
theorem own_d14_68 : decode prog_77_method_9_code 68 = .ok (.ldc 67, 2) := by decide +kernel
theorem own_d14_70 : decode prog_77_method_9_code 70 = .ok (.invokevirtual 63, 3) := by decide +kernel
theorem own_pd_x28x29Ljavax2flangx2fStringx3b : parseMethodDescriptor "()Ljava/lang/String;" = some ⟨[], some (.object "java/lang/String")⟩ := by decide +kernel
theorem own_d14_73 : decode prog_77_method_9_code 73 = .ok (.invokevirtual 69, 3) := by decide +kernel
theorem own_d14_76 : decode prog_77_method_9_code 76 = .ok (.goto 30, 3) := by decide +kernel
theorem own_d14_106 : decode prog_77_method_9_code 106 = .ok (.areturn, 1) := by decide +kernel
theorem own_ef_toStr (m : MethodId) (x0 : Addr) : entryFrame m #[(.ref x0)] 1 = mkF m 0 #[.val (.ref x0)] [] := by first | (simp [entryFrame, mkF, argsToLocals, Value.category]; done) | rfl
def own_Q_toStr (Z : State) (ob so kp : Addr) (zc : Int32) (lim : Nat) (cs : List Int32) (h0 : Heap) (n0 : Nat) (v : Option Value) (h : Heap) (L : List Loc) : Prop := ∃ r : Addr, v = some (.ref r) ∧ Fr n0 L ∧ Keep h0 h [] ∧ h0.size ≤ r ∧ OwnS Z h h.size r (((([] : List Int32) ++ [(35 : Int32), (123 : Int32)]) ++ cs) ++ [(125 : Int32)])
set_option maxRecDepth 65536 in
set_option maxHeartbeats 40000000 in
theorem own_toStr (l : Launch) (Z : State) (a0 : Array Value) (hw : ∀ d ∈ tables_1, d.before a0 Z = true) (ws : List Jvm.Cond) (ob so kp : Addr) (zc : Int32) (lim : Nat) (cs : List Int32) (h0 : Heap) (n0 : Nat) (Z0 : n0 ≤ h0.size) (O0 : Old Z n0 h0) (SCS : Sta Z Z.heap "java/lang/String" "COMPACT_STRINGS" "Z" (.int zc)) (hzc : ¬ zc = 0) (E : Exa Z h0 ob "com/example/raccordo/raccordo/sql/SqlToken") (Ek : Exa Z Z.heap kp "com/example/raccordo/raccordo/sql/SqlToken$Kind") (Fo : Fld Z Z.heap kp "java/lang/Enum" "ordinal" "I" (.int (1 : Int32))) (F0 : Fld Z h0 ob "com/example/raccordo/raccordo/sql/SqlToken" "kind" "Lcom/example/raccordo/raccordo/sql/SqlToken$Kind;" (.ref kp)) (F1 : Fld Z h0 ob "com/example/raccordo/raccordo/sql/SqlToken" "content" "Ljava/lang/String;" (.ref so)) (Fs : OwnS Z h0 lim so cs) (hlim : lim ≤ h0.size) (hc3 : cs.length ≤ 3) :
    MetFree l (⟨"com/example/raccordo/raccordo/sql/SqlToken", "toString", "()Ljava/lang/String;"⟩ : MethodName) (head1 (Jvm.Cond.code (⟨"com/example/raccordo/raccordo/sql/SqlToken", "toString", "()Ljava/lang/String;"⟩ : MethodName) prog_77_method_9_code 1 (some (.object "java/lang/String")) :: ws) ({ frames := 6, cells := 8, slots := 108, locals := 91 } : Room)) (fun A0 U0 => A0 = #[(.ref ob)] ∧ Z.Warmed39 U0.vm ∧ U0.heap = h0 ∧ CHv Z own_EL U0.vm h0) (fun _ _ _ _ _ => True) (fun _ U0 o0 U1 => ∃ v0 L0, o0 = .returned v0 ∧ own_Q_toStr Z ob so kp zc lim cs h0 n0 v0 U1.heap L0 ∧ CHr Z own_EL U0.vm U0.heap U1.vm U1.heap ∧ ReturnedEndW U0 o0 U1 L0 ({ frames := 6, cells := 8, slots := 108, locals := 91 } : Room).cells ({ frames := 6, cells := 8, slots := 108, locals := 91 } : Room).slots) := by
  refine MetFree.of_bodySF (plainFor_of_name own_pn_com_example_raccordo_raccordo_sql_SqlToken) hisR ?_
  intro p e s m args below meth c s₁ Bd hml0 hP hK
  obtain ⟨rfl, hZ, hh, H0⟩ := hP
  have hZs := hZ
  have hx := Bd.exec
  have hby := Bd.bytes
  have hml : c.maxLocals = 1 := hml0
  have hown : s.vm.findClass "com/example/raccordo/raccordo/sql/SqlToken" = some m.cls := findClass_of_methodNamed Bd.named
  have hnm := (name_of_methodNamed Bd.named Bd.method).1
  have X0 : Stand p l e ({ frames := 6, cells := 8, slots := 108, locals := 91 } : Room) s m #[(.ref ob)] below meth c s₁ [] 0 0 := Stand.of_body Bd
  have e0 : s₁.heap = h0 := by rw [← hh, Bd.state]; rfl
  have N0 := Fr.nil n0
  refine OwnFin.entry (own_ef_toStr m ob) (fun P' hP' => ?_)
  have lt_ob := own_lt E.lt
  refine OwnFin.adv (B := s₁.setTop (mkF m 1 #[.val (.ref ob)] [(.ref ob)])) (fun _ k => XS.aloadN X0.here hx rfl (hb hby own_d14_0) rfl rfl k) ?_
  obtain ⟨T1, X1, e1, st1⟩ := getF X0 hx hZ hown (host := "") (Or.inl (hw _ (List.mem_of_getElem? (i := 57) rfl))) Via.refl e0 F0 (g := (mkF m 1 #[.val (.ref ob)] [(.ref ob)])) rfl rfl (hb hby own_d14_1)
  refine OwnFin.adv (B := T1.setTop (mkF m 4 #[.val (.ref ob)] [(.ref kp)])) (fun _ k => st1 _ k) ?_
  obtain ⟨cq2, kq2, q2a, q2b, q2c⟩ := isOf hZ e1 (Ek.ext O0.2)
  obtain ⟨_, _, ⟨T2, L2, k2, n2⟩, -, X2, ⟨Lc2, hQ2, l2, y2, z2⟩, st2⟩ := X1.virtualBackUp hx (owner := "java/lang/Enum") (x := (⟨"com/example/raccordo/raccordo/sql/SqlToken$Kind", "ordinal", "()I"⟩ : MethodName)) (y := (⟨"java/lang/Enum", "ordinal", "()I"⟩ : MethodName)) hown (mvT hZ (hw _ (List.mem_of_getElem? (i := 84) rfl))) (mvT hZ (hw _ (List.mem_of_getElem? (i := 85) rfl))) (mvT hZ (hw _ (List.mem_of_getElem? (i := 86) rfl))) (by decide) (mvT hZ (hw _ (List.mem_of_getElem? (i := 88) rfl))) (mvT hZ (hw _ (List.mem_of_getElem? (i := 87) rfl))) (backOf (W := 0) (own_ord l Z a0 hw [] kp h0 n0 (by omega) (Fo.ext O0.2)) hZ (hw _ (List.mem_of_getElem? (i := 90) rfl)) (hw _ (List.mem_of_getElem? (i := 89) rfl)) (by decide) (by decide)) q2a q2c (g := (mkF m 4 #[.val (.ref ob)] [(.ref kp)])) rfl (by rw [hml]; rfl) (Steps.refl _) (argsL := []) (rest := []) (lenOf own_pd_x28x29I rfl) rfl (by show 2 * 0 + _ ≤ _; exact Nat.le_of_eq rfl) (hb hby own_d14_4) (fun _ _ => ⟨rfl, e1, (by decide : 0 + 0 ≤ _), (by decide : 0 + 0 ≤ _)⟩)
  dsimp only [Pt.U, Pt.locs, Pt.cells, Pt.slots] at X2 l2 y2 z2 st2 hQ2
  subst l2 y2 z2
  obtain ⟨rfl, N2q, eh2⟩ := hQ2
  have N2 := Fr.app N0 N2q
  refine OwnFin.adv (B := T2.setTop (mkF m 7 #[.val (.ref ob)] [(.int (1 : Int32))])) (fun _ k => st2.trans k) ?_
  refine OwnFin.adv (B := T2.setTop (mkF m 49 #[.val (.ref ob)] [])) (fun _ k => XS.tswIn X2.here hx rfl (pc0 := 7) (pc' := 49) rfl (hb hby own_d14_7) rfl (by decide) rfl (by decide) (by decide) k) ?_
  obtain ⟨T3, h3, X3, e3, E3, A3, D3, -, st3⟩ := newO X2 hx hZ hown (hw _ (List.mem_of_getElem? (i := 93) rfl)) (hw _ (List.mem_of_getElem? (i := 94) rfl)) (hw _ (List.mem_of_getElem? (i := 95) rfl)) eh2 (g := (mkF m 49 #[.val (.ref ob)] [])) rfl (hb hby own_d14_49) (by decide) (by decide)
  obtain ⟨b3, g3⟩ : ∃ z, z = h0.size := ⟨_, rfl⟩
  rw [← g3] at A3 D3 st3
  have sz4 : h0.size ≤ h3.size := E3.1
  have chA4 : CHr Z own_EL s.vm h0 s.vm h3 := ((CHr.refl H0)).trans (CHr.ext E3 ((CHr.refl H0)).1)
  have lt_b3 := own_lt A3.lt
  have F3_value : Fld Z h3 b3 "java/lang/AbstractStringBuilder" "value" "[B" .null := D3 (Or.inl (hw _ (List.mem_of_getElem? (i := 108) rfl))) (ty := (.array .byte)) (by decide)
  have F3_coder : Fld Z h3 b3 "java/lang/AbstractStringBuilder" "coder" "B" (.int (0 : Int32)) := D3 (Or.inl (hw _ (List.mem_of_getElem? (i := 110) rfl))) (ty := .byte) (by decide)
  have F3_count : Fld Z h3 b3 "java/lang/AbstractStringBuilder" "count" "I" (.int (0 : Int32)) := D3 (Or.inl (hw _ (List.mem_of_getElem? (i := 133) rfl))) (ty := .int) (by decide)
  refine OwnFin.adv (B := T3.setTop (mkF m 52 #[.val (.ref ob)] [(.ref b3)])) (fun _ k => st3 _ k) ?_
  refine OwnFin.adv (B := T3.setTop (mkF m 53 #[.val (.ref ob)] [(.ref b3), (.ref b3)])) (fun _ k => XS.dup X3.here hx rfl (hb hby own_d14_52) rfl rfl k) ?_
  have Old6 : Old Z n0 h3 := (O0.ext E3)
  obtain ⟨_, _, ⟨T5, L5, k5, n5⟩, -, X5, ⟨Lc5, hQ5, l5, y5, z5⟩, st5⟩ := X3.specialBack hx (y := (⟨"java/lang/StringBuilder", "<init>", "()V"⟩ : MethodName)) rfl hown (mvT hZ (hw _ (List.mem_of_getElem? (i := 96) rfl))) (mvT hZ (hw _ (List.mem_of_getElem? (i := 97) rfl))) (mvT hZ (hw _ (List.mem_of_getElem? (i := 98) rfl))) (by decide) (backOf (W := 1) (own_sbInit l Z a0 hw [] b3 zc _ _ h3 n0 (by omega) Old6 SCS hzc A3 F3_value F3_coder F3_count (by omega)) hZ (hw _ (List.mem_of_getElem? (i := 98) rfl)) (hw _ (List.mem_of_getElem? (i := 95) rfl)) (by decide) (by decide)) (g := (mkF m 53 #[.val (.ref ob)] [(.ref b3), (.ref b3)])) rfl (by rw [hml]; rfl) (Steps.refl _) (a := b3) (argsL := []) (rest := [(.ref b3)]) (lenOf own_pd_x28x29V rfl) rfl (by show 2 * 0 + _ ≤ _; exact Nat.le_of_eq rfl) (hb hby own_d14_53) (fun _ _ => ⟨rfl, e3, (by decide : 1 + 1 ≤ _), (by decide : 4 + 16 ≤ _)⟩)
  dsimp only [Pt.U, Pt.locs, Pt.cells, Pt.slots] at X5 l5 y5 z5 st5 hQ5
  subst l5 y5 z5
  obtain ⟨rfl, N5q, K5, da5, kd5, Fv5, Fc5, Fn5, Va5, ge5⟩ := hQ5
  have N5 := Fr.app N2 N5q
  have Sda5 : Safe Z own_EL s.vm h3 da5 := Safe.new ge5
  have sz7 : h3.size ≤ T5.heap.size := K5.1
  have chA7 : CHr Z own_EL s.vm h0 s.vm T5.heap := (chA4).trans (CHr.keep K5 (sfS (Safe.exa hZs.alike A3 (by decide) (by decide)) sf0) (chA4).1)
  have lt_da5 := own_lt Va5.lt
  refine OwnFin.adv (B := T5.setTop (mkF m 56 #[.val (.ref ob)] [(.ref b3)])) (fun _ k => st5.trans k) ?_
  have hv8 : (List.replicate 16 (Value.int (0 : Int32))).length = 16 := by simp
  have ht8 : (List.replicate 16 (Value.int (0 : Int32))).take ([] : List Int32).length = (([] : List Int32).map fun c => c.toInt8.toInt32).map Value.int := rfl
  have Fn8 : Fld Z T5.heap b3 "java/lang/AbstractStringBuilder" "count" "I" (.int (Int32.ofNat ([] : List Int32).length)) := Fn5
  obtain ⟨a9, T9, h9, kk9, bb9, kb9, X9, e9, E9, hS9, hk9, hZ, hown, Ea9, Fc9, Fv9, Vb9, lta9, ltb9, C9, Lt9, sf9, st9⟩ := ldcCH (s := s) (vm0 := s.vm) X5 hx hZ hown (hw _ (List.mem_of_getElem? (i := 111) rfl)) (fun d hd => hw d ((by decide +kernel : ∀ d ∈ Bundle.stringAtoms, d ∈ tables_1) d hd)) rfl (State.WarmedH.since (State.WarmedH.refl s) 0) (Nat.zero_le _) (own_EW hw) (by decide) (chA7).1 (vs := [(.int (35 : Int32)), (.int (123 : Int32))]) (z := (2 : Int32)) ⟨by decide +kernel, by decide +kernel⟩ (by decide) (by decide) (g := (mkF m 56 #[.val (.ref ob)] [(.ref b3)])) rfl (hb hby own_d14_56) (n := 8) (by decide) (by decide) (by decide) (by decide)
  have hZ9 := hZ
  have sz10 : T5.heap.size ≤ h9.size := E9.1
  have chA9 : CHr Z own_EL s.vm h0 T9.vm h9 := (chA7).trans C9
  have Sf11 : Safe Z own_EL T9.vm h9 da5 := (C9.safe (own_lt (by omega)) (Safe.keep K5 (sfS (Safe.exa hZs.alike A3 (by decide) (by decide)) sf0) (chA4).1 Sda5))
  have nea9_da5 := own_nee (sf9 da5 Sf11).1
  have neb9_da5 := own_nee (sf9 da5 Sf11).2
  refine OwnFin.adv (B := T9.setTop (mkF m 58 #[.val (.ref ob)] [(.ref a9), (.ref b3)])) (fun _ k => st9 _ k) ?_
  have Fl9 : OwnS Z h9 h9.size a9 [(35 : Int32), (123 : Int32)] := ⟨bb9, kb9, Ea9, Fv9, Fc9, Vb9, lta9, ltb9, by decide, by decide⟩
  have hfit13 : (([] : List Int32)).length + ([(35 : Int32), (123 : Int32)]).length ≤ 16 := by decide
  have Old14 : Old Z n0 h9 := ((Old6.keep K5 (allS (by omega) all0)).ext E9)
  have Fv15_3 : Exa Z h9 b3 "java/lang/StringBuilder" := ((A3.keep K5).ext E9)
  have Fv16_3 : Fld Z h9 b3 "java/lang/AbstractStringBuilder" "value" "[B" (.ref da5) := (Fv5.ext E9)
  have Fv17_3 : Fld Z h9 b3 "java/lang/AbstractStringBuilder" "coder" "B" (.int (0 : Int32)) := (Fc5.ext E9)
  have Fv18_3 : Fld Z h9 b3 "java/lang/AbstractStringBuilder" "count" "I" (.int (Int32.ofNat ([] : List Int32).length)) := (Fn8.ext E9)
  have Fv19_3 : Arv Z h9 da5 kd5 .byte (Int32.ofNat 16) (List.replicate 16 (.int (0 : Int32))) (.int (0 : Int32)) := (Va5.ext E9)
  obtain ⟨cq12, kq12, q12a, q12b, q12c⟩ := isOf hZ e9 Fv15_3
  obtain ⟨_, _, ⟨T12, L12, k12, n12⟩, -, X12, ⟨Lc12, hQ12, l12, y12, z12⟩, st12⟩ := X9.virtualBack hx (y := (⟨"java/lang/StringBuilder", "append", "(Ljava/lang/String;)Ljava/lang/StringBuilder;"⟩ : MethodName)) (z := (⟨"java/lang/StringBuilder", "append", "(Ljava/lang/String;)Ljava/lang/StringBuilder;"⟩ : MethodName)) hown (mvT hZ (hw _ (List.mem_of_getElem? (i := 112) rfl))) (mvT hZ (hw _ (List.mem_of_getElem? (i := 113) rfl))) (notFace_of_selects (args := #[]) (mvT hZ (hw _ (List.mem_of_getElem? (i := 115) rfl)))) (mvT hZ (hw _ (List.mem_of_getElem? (i := 115) rfl))) (mvT hZ (hw _ (List.mem_of_getElem? (i := 114) rfl))) (by decide) (backOf (W := 0) (own_sbApp l Z a0 hw [] b3 a9 da5 kd5 (List.replicate 16 (.int (0 : Int32))) zc 16 (([] : List Int32)).length (h9.size) [(35 : Int32), (123 : Int32)] h9 n0 (by omega) Old14 SCS hzc Fv15_3 Fv16_3 Fv17_3 Fv18_3 Fl9 Fv19_3 (by decide) hv8 hfit13 (by omega) (by omega) (own_lt (by omega))) hZ (hw _ (List.mem_of_getElem? (i := 116) rfl)) (hw _ (List.mem_of_getElem? (i := 95) rfl)) (by decide) (by decide)) q12a q12c (g := (mkF m 58 #[.val (.ref ob)] [(.ref a9), (.ref b3)])) rfl (by rw [hml]; rfl) (Steps.refl _) (argsL := [(.ref a9)]) (rest := []) (lenOf own_pd_x28Ljavax2flangx2fStringx3bx29Ljavax2flangx2fStringBuilderx3b rfl) rfl (by show 2 * 0 + _ ≤ _; exact Nat.le_of_eq rfl) (hb hby own_d14_58) (fun _ _ => ⟨rfl, e9, (by decide : 4 + 0 ≤ _), (by decide : 32 + 0 ≤ _)⟩)
  dsimp only [Pt.U, Pt.locs, Pt.cells, Pt.slots] at X12 l12 y12 z12 st12 hQ12
  subst l12 y12 z12
  obtain ⟨rfl, N12q, K12, Fv12, Fc12, Fn12, Va12⟩ := hQ12
  have N12 := Fr.app N5 N12q
  have sz20 : h9.size ≤ T12.heap.size := K12.1
  have chA20 : CHr Z own_EL s.vm h0 T9.vm T12.heap := (chA9).trans (CHr.keep K12 (sfS (Safe.exa hZ9.alike Fv15_3 (by decide) (by decide)) (sfS Sf11 sf0)) (chA9).1)
  obtain ⟨hv12, ht12⟩ := own_app (cs := [(35 : Int32), (123 : Int32)]) hv8 ht8 hfit13
  obtain ⟨vd12, ew12⟩ : ∃ w, w = ((List.replicate 16 (.int (0 : Int32)))).take (([] : List Int32)).length ++ ((([(35 : Int32), (123 : Int32)]).map fun c => c.toInt8.toInt32).map Value.int) ++ ((List.replicate 16 (.int (0 : Int32)))).drop ((([] : List Int32)).length + ([(35 : Int32), (123 : Int32)]).length) := ⟨_, rfl⟩
  rw [← ew12] at hv12 ht12 Va12
  rw [← List.length_append] at Fn12
  refine OwnFin.adv (B := T12.setTop (mkF m 61 #[.val (.ref ob)] [(.ref b3)])) (fun _ k => st12.trans k) ?_
  refine OwnFin.adv (B := T12.setTop (mkF m 62 #[.val (.ref ob)] [(.ref ob), (.ref b3)])) (fun _ k => XS.aloadN X12.here hx rfl (hb hby own_d14_61) rfl rfl k) ?_
  have Fv21_4 : Fld Z T12.heap ob "com/example/raccordo/raccordo/sql/SqlToken" "content" "Ljava/lang/String;" (.ref so) := ((((F1.ext E3).keep K5 (ninS (own_ne (by omega)) nin0)).ext E9).keep K12 (ninS (own_ne (by omega)) (ninS (own_ne (by omega)) nin0)))
  obtain ⟨T22, X22, e22, st22⟩ := getF X12 hx hZ hown (host := "") (Or.inl (hw _ (List.mem_of_getElem? (i := 61) rfl))) Via.refl rfl Fv21_4 (g := (mkF m 62 #[.val (.ref ob)] [(.ref ob), (.ref b3)])) rfl rfl (hb hby own_d14_62)
  refine OwnFin.adv (B := T22.setTop (mkF m 65 #[.val (.ref ob)] [(.ref so), (.ref b3)])) (fun _ k => st22 _ k) ?_
  have hfit24 : ((([] : List Int32) ++ [(35 : Int32), (123 : Int32)])).length + (cs).length ≤ 16 := by simp; omega
  have Old25 : Old Z n0 T12.heap := (Old14.keep K12 (allS (by omega) (allS (by omega) all0)))
  have Fv26_4 : Exa Z T12.heap b3 "java/lang/StringBuilder" := (Fv15_3.keep K12)
  have Fv27_4 : OwnS Z T12.heap (lim) so cs := ((((Fs.ext E3).keep K5 (allS (by omega) all0)).ext E9).keep K12 (allS (by omega) (allS (by omega) all0)))
  obtain ⟨cq23, kq23, q23a, q23b, q23c⟩ := isOf hZ e22 Fv26_4
  obtain ⟨_, _, ⟨T23, L23, k23, n23⟩, -, X23, ⟨Lc23, hQ23, l23, y23, z23⟩, st23⟩ := X22.virtualBack hx (y := (⟨"java/lang/StringBuilder", "append", "(Ljava/lang/String;)Ljava/lang/StringBuilder;"⟩ : MethodName)) (z := (⟨"java/lang/StringBuilder", "append", "(Ljava/lang/String;)Ljava/lang/StringBuilder;"⟩ : MethodName)) hown (mvT hZ (hw _ (List.mem_of_getElem? (i := 112) rfl))) (mvT hZ (hw _ (List.mem_of_getElem? (i := 113) rfl))) (notFace_of_selects (args := #[]) (mvT hZ (hw _ (List.mem_of_getElem? (i := 115) rfl)))) (mvT hZ (hw _ (List.mem_of_getElem? (i := 115) rfl))) (mvT hZ (hw _ (List.mem_of_getElem? (i := 114) rfl))) (by decide) (backOf (W := 0) (own_sbApp l Z a0 hw [] b3 so da5 kd5 vd12 zc 16 ((([] : List Int32) ++ [(35 : Int32), (123 : Int32)])).length (lim) cs T12.heap n0 (by omega) Old25 SCS hzc Fv26_4 Fv12 Fc12 Fn12 Fv27_4 Va12 (by decide) hv12 hfit24 (by omega) (by omega) (own_lt (by omega))) hZ (hw _ (List.mem_of_getElem? (i := 116) rfl)) (hw _ (List.mem_of_getElem? (i := 95) rfl)) (by decide) (by decide)) q23a q23c (g := (mkF m 65 #[.val (.ref ob)] [(.ref so), (.ref b3)])) rfl (by rw [hml]; rfl) (Steps.refl _) (argsL := [(.ref so)]) (rest := []) (lenOf own_pd_x28Ljavax2flangx2fStringx3bx29Ljavax2flangx2fStringBuilderx3b rfl) rfl (by show 2 * 0 + _ ≤ _; exact Nat.le_of_eq rfl) (hb hby own_d14_65) (fun _ _ => ⟨rfl, e22, (by decide : 4 + 0 ≤ _), (by decide : 32 + 0 ≤ _)⟩)
  dsimp only [Pt.U, Pt.locs, Pt.cells, Pt.slots] at X23 l23 y23 z23 st23 hQ23
  subst l23 y23 z23
  obtain ⟨rfl, N23q, K23, Fv23, Fc23, Fn23, Va23⟩ := hQ23
  have N23 := Fr.app N12 N23q
  have sz28 : T12.heap.size ≤ T23.heap.size := K23.1
  have Sf29 : Safe Z own_EL T9.vm T12.heap da5 := (Safe.keep K12 (sfS (Safe.exa hZ9.alike Fv15_3 (by decide) (by decide)) (sfS Sf11 sf0)) (chA9).1 Sf11)
  have chA28 : CHr Z own_EL s.vm h0 T9.vm T23.heap := (chA20).trans (CHr.keep K23 (sfS (Safe.exa hZ9.alike Fv26_4 (by decide) (by decide)) (sfS Sf29 sf0)) (chA20).1)
  obtain ⟨hv23, ht23⟩ := own_app (cs := cs) hv12 ht12 hfit24
  obtain ⟨vd23, ew23⟩ : ∃ w, w = (vd12).take ((([] : List Int32) ++ [(35 : Int32), (123 : Int32)])).length ++ (((cs).map fun c => c.toInt8.toInt32).map Value.int) ++ (vd12).drop (((([] : List Int32) ++ [(35 : Int32), (123 : Int32)])).length + (cs).length) := ⟨_, rfl⟩
  rw [← ew23] at hv23 ht23 Va23
  rw [← List.length_append] at Fn23
  refine OwnFin.adv (B := T23.setTop (mkF m 68 #[.val (.ref ob)] [(.ref b3)])) (fun _ k => st23.trans k) ?_
  obtain ⟨a30, T30, h30, kk30, bb30, kb30, X30, e30, E30, hS30, hk30, hZ, hown, Ea30, Fc30, Fv30, Vb30, lta30, ltb30, C30, Lt30, sf30, st30⟩ := ldcCH (s := s) (vm0 := T9.vm) X23 hx hZ hown (hw _ (List.mem_of_getElem? (i := 159) rfl)) (fun d hd => hw d ((by decide +kernel : ∀ d ∈ Bundle.stringAtoms, d ∈ tables_1) d hd)) rfl hS9 (by omega) (own_EW hw) (by decide) (chA28).1 (vs := [(.int (125 : Int32))]) (z := (1 : Int32)) ⟨by decide +kernel, by decide +kernel⟩ (by decide) (by decide) (g := (mkF m 68 #[.val (.ref ob)] [(.ref b3)])) rfl (hb hby own_d14_68) (n := 4) (by decide) (by decide) (by decide) (by decide)
  have hZ30 := hZ
  have sz31 : T23.heap.size ≤ h30.size := E30.1
  have chA30 : CHr Z own_EL s.vm h0 T30.vm h30 := (chA28).trans C30
  have Sf32 : Safe Z own_EL T30.vm h30 da5 := (C30.safe (own_lt (by omega)) (Safe.keep K23 (sfS (Safe.exa hZ9.alike Fv26_4 (by decide) (by decide)) (sfS Sf29 sf0)) (chA20).1 Sf29))
  have nea30_da5 := own_nee (sf30 da5 Sf32).1
  have neb30_da5 := own_nee (sf30 da5 Sf32).2
  refine OwnFin.adv (B := T30.setTop (mkF m 70 #[.val (.ref ob)] [(.ref a30), (.ref b3)])) (fun _ k => st30 _ k) ?_
  have Fl30 : OwnS Z h30 h30.size a30 [(125 : Int32)] := ⟨bb30, kb30, Ea30, Fv30, Fc30, Vb30, lta30, ltb30, by decide, by decide⟩
  have hfit34 : (((([] : List Int32) ++ [(35 : Int32), (123 : Int32)]) ++ cs)).length + ([(125 : Int32)]).length ≤ 16 := by simp; omega
  have Old35 : Old Z n0 h30 := ((Old25.keep K23 (allS (by omega) (allS (by omega) all0))).ext E30)
  have Fv36_6 : Exa Z h30 b3 "java/lang/StringBuilder" := ((Fv26_4.keep K23).ext E30)
  have Fv37_6 : Fld Z h30 b3 "java/lang/AbstractStringBuilder" "value" "[B" (.ref da5) := (Fv23.ext E30)
  have Fv38_6 : Fld Z h30 b3 "java/lang/AbstractStringBuilder" "coder" "B" (.int (0 : Int32)) := (Fc23.ext E30)
  have Fv39_6 : Fld Z h30 b3 "java/lang/AbstractStringBuilder" "count" "I" (.int (Int32.ofNat ((([] : List Int32) ++ [(35 : Int32), (123 : Int32)]) ++ cs).length)) := (Fn23.ext E30)
  have Fv40_6 : Arv Z h30 da5 kd5 .byte (Int32.ofNat 16) vd23 (.int (0 : Int32)) := (Va23.ext E30)
  obtain ⟨cq33, kq33, q33a, q33b, q33c⟩ := isOf hZ e30 Fv36_6
  obtain ⟨_, _, ⟨T33, L33, k33, n33⟩, -, X33, ⟨Lc33, hQ33, l33, y33, z33⟩, st33⟩ := X30.virtualBack hx (y := (⟨"java/lang/StringBuilder", "append", "(Ljava/lang/String;)Ljava/lang/StringBuilder;"⟩ : MethodName)) (z := (⟨"java/lang/StringBuilder", "append", "(Ljava/lang/String;)Ljava/lang/StringBuilder;"⟩ : MethodName)) hown (mvT hZ (hw _ (List.mem_of_getElem? (i := 112) rfl))) (mvT hZ (hw _ (List.mem_of_getElem? (i := 113) rfl))) (notFace_of_selects (args := #[]) (mvT hZ (hw _ (List.mem_of_getElem? (i := 115) rfl)))) (mvT hZ (hw _ (List.mem_of_getElem? (i := 115) rfl))) (mvT hZ (hw _ (List.mem_of_getElem? (i := 114) rfl))) (by decide) (backOf (W := 0) (own_sbApp l Z a0 hw [] b3 a30 da5 kd5 vd23 zc 16 (((([] : List Int32) ++ [(35 : Int32), (123 : Int32)]) ++ cs)).length (h30.size) [(125 : Int32)] h30 n0 (by omega) Old35 SCS hzc Fv36_6 Fv37_6 Fv38_6 Fv39_6 Fl30 Fv40_6 (by decide) hv23 hfit34 (by omega) (by omega) (own_lt (by omega))) hZ (hw _ (List.mem_of_getElem? (i := 116) rfl)) (hw _ (List.mem_of_getElem? (i := 95) rfl)) (by decide) (by decide)) q33a q33c (g := (mkF m 70 #[.val (.ref ob)] [(.ref a30), (.ref b3)])) rfl (by rw [hml]; rfl) (Steps.refl _) (argsL := [(.ref a30)]) (rest := []) (lenOf own_pd_x28Ljavax2flangx2fStringx3bx29Ljavax2flangx2fStringBuilderx3b rfl) rfl (by show 2 * 0 + _ ≤ _; exact Nat.le_of_eq rfl) (hb hby own_d14_70) (fun _ _ => ⟨rfl, e30, (by decide : 6 + 0 ≤ _), (by decide : 40 + 0 ≤ _)⟩)
  dsimp only [Pt.U, Pt.locs, Pt.cells, Pt.slots] at X33 l33 y33 z33 st33 hQ33
  subst l33 y33 z33
  obtain ⟨rfl, N33q, K33, Fv33, Fc33, Fn33, Va33⟩ := hQ33
  have N33 := Fr.app N23 N33q
  have sz41 : h30.size ≤ T33.heap.size := K33.1
  have chA41 : CHr Z own_EL s.vm h0 T30.vm T33.heap := (chA30).trans (CHr.keep K33 (sfS (Safe.exa hZ30.alike Fv36_6 (by decide) (by decide)) (sfS Sf32 sf0)) (chA30).1)
  obtain ⟨hv33, ht33⟩ := own_app (cs := [(125 : Int32)]) hv23 ht23 hfit34
  obtain ⟨vd33, ew33⟩ : ∃ w, w = (vd23).take (((([] : List Int32) ++ [(35 : Int32), (123 : Int32)]) ++ cs)).length ++ ((([(125 : Int32)]).map fun c => c.toInt8.toInt32).map Value.int) ++ (vd23).drop ((((([] : List Int32) ++ [(35 : Int32), (123 : Int32)]) ++ cs)).length + ([(125 : Int32)]).length) := ⟨_, rfl⟩
  rw [← ew33] at hv33 ht33 Va33
  rw [← List.length_append] at Fn33
  refine OwnFin.adv (B := T33.setTop (mkF m 73 #[.val (.ref ob)] [(.ref b3)])) (fun _ k => st33.trans k) ?_
  have hsm43 : (((([] : List Int32) ++ [(35 : Int32), (123 : Int32)]) ++ cs) ++ [(125 : Int32)]).length < 16 := by simp; omega
  have hpp43 : ∀ c ∈ (((([] : List Int32) ++ [(35 : Int32), (123 : Int32)]) ++ cs) ++ [(125 : Int32)]), ¬ c < 0 ∧ ¬ (255 : Int32) < c := by
    obtain ⟨_, _, _, _, _, _, _, _, hpc, _⟩ := Fs
    intro c hc
    simp only [List.nil_append, List.mem_append, List.mem_cons, List.not_mem_nil, or_false] at hc
    rcases hc with ((rfl | rfl) | hc) | rfl
    · decide
    · decide
    · exact hpc c hc
    · decide
  have Old44 : Old Z n0 T33.heap := (Old35.keep K33 (allS (by omega) (allS (by omega) all0)))
  have Fv45_7 : Exa Z T33.heap b3 "java/lang/StringBuilder" := (Fv36_6.keep K33)
  obtain ⟨cq42, kq42, q42a, q42b, q42c⟩ := isOf hZ rfl Fv45_7
  obtain ⟨_, _, ⟨T42, L42, k42, n42⟩, -, X42, ⟨Lc42, hQ42, l42, y42, z42⟩, st42⟩ := X33.virtualBack hx (y := (⟨"java/lang/StringBuilder", "toString", "()Ljava/lang/String;"⟩ : MethodName)) (z := (⟨"java/lang/StringBuilder", "toString", "()Ljava/lang/String;"⟩ : MethodName)) hown (mvT hZ (hw _ (List.mem_of_getElem? (i := 160) rfl))) (mvT hZ (hw _ (List.mem_of_getElem? (i := 161) rfl))) (notFace_of_selects (args := #[]) (mvT hZ (hw _ (List.mem_of_getElem? (i := 163) rfl)))) (mvT hZ (hw _ (List.mem_of_getElem? (i := 163) rfl))) (mvT hZ (hw _ (List.mem_of_getElem? (i := 162) rfl))) (by decide) (backOf (W := 0) (own_sbToStr l Z a0 hw [] b3 da5 kd5 vd33 16 (((([] : List Int32) ++ [(35 : Int32), (123 : Int32)]) ++ cs) ++ [(125 : Int32)]).length zc (((([] : List Int32) ++ [(35 : Int32), (123 : Int32)]) ++ cs) ++ [(125 : Int32)]) T33.heap n0 (by omega) Old44 SCS hzc Fv45_7 Fv33 Fc33 Fn33 Va33 (by decide) hv33 hsm43 (by omega) rfl ht33 hpp43) hZ (hw _ (List.mem_of_getElem? (i := 164) rfl)) (hw _ (List.mem_of_getElem? (i := 95) rfl)) (by decide) (by decide)) q42a q42c (g := (mkF m 73 #[.val (.ref ob)] [(.ref b3)])) rfl (by rw [hml]; rfl) (Steps.refl _) (argsL := []) (rest := []) (lenOf own_pd_x28x29Ljavax2flangx2fStringx3b rfl) rfl (by show 2 * 0 + _ ≤ _; exact Nat.le_of_eq rfl) (hb hby own_d14_73) (fun _ _ => ⟨rfl, rfl, (by decide : 6 + 2 ≤ _), (by decide : 40 + 68 ≤ _)⟩)
  dsimp only [Pt.U, Pt.locs, Pt.cells, Pt.slots] at X42 l42 y42 z42 st42 hQ42
  subst l42 y42 z42
  obtain ⟨r42, rfl, N42q, K42, ge42, Fs42⟩ := hQ42
  have N42 := Fr.app N33 N42q
  have sz46 : T33.heap.size ≤ T42.heap.size := K42.1
  have chA46 : CHr Z own_EL s.vm h0 T30.vm T42.heap := (chA41).trans (CHr.keep K42 sf0 (chA41).1)
  refine OwnFin.adv (B := T42.setTop (mkF m 76 #[.val (.ref ob)] [(.ref r42)])) (fun _ k => st42.trans k) ?_
  refine OwnFin.adv (B := T42.setTop (mkF m 106 #[.val (.ref ob)] [(.ref r42)])) (fun _ k => XS.goto X42.here hx rfl (pc0 := 76) (pc' := 106) rfl (hb hby own_d14_76) (by decide) (by decide) k) ?_
  obtain ⟨fs, hr, hrun, hended, hE⟩ := X42.leaveW hS30 (by omega) (v := some (.ref r42)) (fun h => by rw [Bd.returns] at h; cases h)
  refine OwnFin.leaf hP' ⟨_, _, own_retR X42 hx Bd.returns rfl rfl rfl (hb hby own_d14_106) hr, hrun, hended, _, _, rfl, ?_, own_chend (chA46) (CHv.at (s := s) (vm0 := T30.vm) (T := T42) X42 hZ (own_EW hw) (chA46).1) hh rfl, own_monoW hE (by decide) (by decide)⟩
  rw [show (T42.setFrames fs).heap = T42.heap from rfl]
  exact ⟨r42, rfl, N42, (((((((((Keep.refl h0 []).ext E3).trans K5 (allS (Or.inr (by omega)) all0)).ext E9).trans K12 (allS (Or.inr (by omega)) (allS (Or.inr (by omega)) all0))).trans K23 (allS (Or.inr (by omega)) (allS (Or.inr (by omega)) all0))).ext E30).trans K33 (allS (Or.inr (by omega)) (allS (Or.inr (by omega)) all0))).trans K42 all0), by omega, Fs42⟩
theorem own_d37_0 : decode method_3_code 0 = .ok (.aload_n 1, 1) := by decide +kernel
theorem own_d37_1 : decode method_3_code 1 = .ok (.invokevirtual 12, 3) := by decide +kernel
theorem own_d37_4 : decode method_3_code 4 = .ok (.istore_n 2, 1) := by decide +kernel
theorem own_d37_5 : decode method_3_code 5 = .ok (.aload_n 0, 1) := by decide +kernel
theorem own_d37_6 : decode method_3_code 6 = .ok (.invokevirtual 12, 3) := by decide +kernel
theorem own_d37_9 : decode method_3_code 9 = .ok (.iload_n 2, 1) := by decide +kernel
theorem own_d37_10 : decode method_3_code 10 = .ok (.iconst 3, 1) := by decide +kernel
theorem own_d37_11 : decode method_3_code 11 = .ok (.iadd, 1) := by decide +kernel
theorem own_d37_12 : decode method_3_code 12 = .ok (.if_icmp .eq 5, 3) := by decide +kernel
theorem own_d37_17 : decode method_3_code 17 = .ok (.aload_n 0, 1) := by decide +kernel
theorem own_d37_18 : decode method_3_code 18 = .ok (.iconst 0, 1) := by decide +kernel
theorem own_pd_x28Ix29C : parseMethodDescriptor "(I)C" = some ⟨[.int], some .char⟩ := by decide +kernel
theorem own_d37_19 : decode method_3_code 19 = .ok (.invokevirtual 16, 3) := by decide +kernel
theorem own_d37_22 : decode method_3_code 22 = .ok (.bipush 35, 2) := by decide +kernel
theorem own_d37_24 : decode method_3_code 24 = .ok (.if_icmp .ne 25, 3) := by decide +kernel
theorem own_d37_27 : decode method_3_code 27 = .ok (.aload_n 0, 1) := by decide +kernel
theorem own_d37_28 : decode method_3_code 28 = .ok (.iconst 1, 1) := by decide +kernel
theorem own_d37_29 : decode method_3_code 29 = .ok (.invokevirtual 16, 3) := by decide +kernel
theorem own_d37_32 : decode method_3_code 32 = .ok (.bipush 123, 2) := by decide +kernel
theorem own_d37_34 : decode method_3_code 34 = .ok (.if_icmp .ne 15, 3) := by decide +kernel
theorem own_d37_37 : decode method_3_code 37 = .ok (.aload_n 0, 1) := by decide +kernel
theorem own_d37_38 : decode method_3_code 38 = .ok (.iload_n 2, 1) := by decide +kernel
theorem own_d37_39 : decode method_3_code 39 = .ok (.iconst 2, 1) := by decide +kernel
theorem own_d37_40 : decode method_3_code 40 = .ok (.iadd, 1) := by decide +kernel
theorem own_d37_41 : decode method_3_code 41 = .ok (.invokevirtual 16, 3) := by decide +kernel
theorem own_d37_44 : decode method_3_code 44 = .ok (.bipush 125, 2) := by decide +kernel
theorem own_d37_46 : decode method_3_code 46 = .ok (.if_icmp .eq 5, 3) := by decide +kernel
theorem own_d37_51 : decode method_3_code 51 = .ok (.iload_n 2, 1) := by decide +kernel
theorem own_d37_52 : decode method_3_code 52 = .ok (.ifCond .le 18, 3) := by decide +kernel
theorem own_d37_70 : decode method_3_code 70 = .ok (.iload_n 2, 1) := by decide +kernel
theorem own_d37_71 : decode method_3_code 71 = .ok (.iconst 1, 1) := by decide +kernel
theorem own_d37_72 : decode method_3_code 72 = .ok (.if_icmp .le 18, 3) := by decide +kernel
theorem own_d37_90 : decode method_3_code 90 = .ok (.iload_n 2, 1) := by decide +kernel
theorem own_d37_91 : decode method_3_code 91 = .ok (.iconst 2, 1) := by decide +kernel
theorem own_d37_92 : decode method_3_code 92 = .ok (.if_icmp .le 18, 3) := by decide +kernel
theorem own_d37_110 : decode method_3_code 110 = .ok (.iconst 1, 1) := by decide +kernel
theorem own_d37_111 : decode method_3_code 111 = .ok (.ireturn, 1) := by decide +kernel
theorem own_ef_shape0 (m : MethodId) (x0 : Addr) (x1 : Addr) : entryFrame m #[(.ref x0), (.ref x1)] 3 = mkF m 0 #[.val (.ref x0), .val (.ref x1), .unset] [] := by first | (simp [entryFrame, mkF, argsToLocals, Value.category]; done) | rfl
def own_Q_shape0 (Z : State) (rr ss : Addr) (zc : Int32) (fm : Value) (lr ls : Nat) (h0 : Heap) (n0 : Nat) (v : Option Value) (h : Heap) (L : List Loc) : Prop := v = some (.int (1 : Int32)) ∧ Fr n0 L ∧ h = h0
set_option maxRecDepth 65536 in
set_option maxHeartbeats 40000000 in
theorem own_shape0 (l : Launch) (Z : State) (a0 : Array Value) (hw : ∀ d ∈ tables_1, d.before a0 Z = true) (ws : List Jvm.Cond) (rr ss : Addr) (zc : Int32) (fm : Value) (lr ls : Nat) (h0 : Heap) (n0 : Nat) (Z0 : n0 ≤ h0.size) (O0 : Old Z n0 h0) (SCS : Sta Z Z.heap "java/lang/String" "COMPACT_STRINGS" "Z" (.int zc)) (hzc : ¬ zc = 0) (SFM : Sta Z Z.heap "jdk/internal/util/Preconditions" "SIOOBE_FORMATTER" "Ljava/util/function/BiFunction;" fm) (rfm : fm.isRef = true) (Fr1 : OwnS Z h0 lr rr [(35 : Int32), (123 : Int32), (125 : Int32)]) (Fs1 : OwnS Z h0 ls ss ([] : List Int32)) :
    MetFree l (⟨"com/example/raccordo/raccordo/sql/SqlTokenParameterPinLaw", "shape", "(Ljava/lang/String;Ljava/lang/String;)Z"⟩ : MethodName) (head1 (Jvm.Cond.code (⟨"com/example/raccordo/raccordo/sql/SqlTokenParameterPinLaw", "shape", "(Ljava/lang/String;Ljava/lang/String;)Z"⟩ : MethodName) method_3_code 3 (some .boolean) :: ws) ({ frames := 5, cells := 0, slots := 0, locals := 80 } : Room)) (fun A0 U0 => A0 = #[(.ref rr), (.ref ss)] ∧ Z.Warmed39 U0.vm ∧ U0.heap = h0) (fun _ _ _ _ _ => True) (fun _ U0 o0 U1 => ∃ v0 L0, o0 = .returned v0 ∧ own_Q_shape0 Z rr ss zc fm lr ls h0 n0 v0 U1.heap L0 ∧ FrameEnd U0 o0 U1 L0 ({ frames := 5, cells := 0, slots := 0, locals := 80 } : Room).cells ({ frames := 5, cells := 0, slots := 0, locals := 80 } : Room).slots) := by
  refine MetFree.of_bodySF (plainFor_of_name own_pn_com_example_raccordo_raccordo_sql_SqlTokenParameterPinLaw) hisR ?_
  intro p e s m args below meth c s₁ Bd hml0 hP hK
  obtain ⟨rfl, hZ, hh⟩ := hP
  have hZs := hZ
  have hx := Bd.exec
  have hby := Bd.bytes
  have hml : c.maxLocals = 3 := hml0
  have hown : s.vm.findClass "com/example/raccordo/raccordo/sql/SqlTokenParameterPinLaw" = some m.cls := findClass_of_methodNamed Bd.named
  have hnm := (name_of_methodNamed Bd.named Bd.method).1
  have X0 : Stand p l e ({ frames := 5, cells := 0, slots := 0, locals := 80 } : Room) s m #[(.ref rr), (.ref ss)] below meth c s₁ [] 0 0 := Stand.of_body Bd
  have e0 : s₁.heap = h0 := by rw [← hh, Bd.state]; rfl
  have N0 := Fr.nil n0
  refine OwnFin.entry (own_ef_shape0 m rr ss) (fun P' hP' => ?_)
  refine OwnFin.adv (B := s₁.setTop (mkF m 1 #[.val (.ref rr), .val (.ref ss), .unset] [(.ref ss)])) (fun _ k => XS.aloadN X0.here hx rfl (hb hby own_d37_0) rfl rfl k) ?_
  have hws2 : ∀ d ∈ StrChars.Road.wordsLen, d.before a0 Z = true := fun d hd => hw d ((by decide +kernel : ∀ d ∈ StrChars.Road.wordsLen, d ∈ tables_1) d hd)
  obtain ⟨ts3, ks3, Es3, Vs3, Cs3, As3, lx3, lt3, hp3, l23⟩ := id Fs1
  have lx3 := own_lt lx3
  have lt3 := own_lt lt3
  have ltx3 := own_lt Es3.lt
  have ltt3 := own_lt As3.lt
  obtain ⟨cq1, kq1, q1a, q1b, q1c⟩ := isOf hZ e0 Es3
  obtain ⟨_, _, ⟨T1, L1, k1, n1⟩, -, X1, ⟨Lc1, hQ1, l1, y1, z1⟩, st1⟩ := X0.virtualBack hx (y := (⟨"java/lang/String", "length", "()I"⟩ : MethodName)) (z := (⟨"java/lang/String", "length", "()I"⟩ : MethodName)) hown (mvT hZ (hw _ (List.mem_of_getElem? (i := 208) rfl))) (mvT hZ (hw _ (List.mem_of_getElem? (i := 123) rfl))) (notFace_of_selects (args := #[]) (mvT hZ (hw _ (List.mem_of_getElem? (i := 125) rfl)))) (mvT hZ (hw _ (List.mem_of_getElem? (i := 125) rfl))) (mvT hZ (hw _ (List.mem_of_getElem? (i := 124) rfl))) (by decide) (StrChars.Road.lenW (W := 0) hZ hws2 (kI := 4) (hw _ (List.mem_of_getElem? (i := 6) rfl)) Es3 Vs3 Cs3 As3 (StrChars.Road.codOf rfl (fun c hc => (hp3 c hc).2)) (own_up hp3) (own_staK SCS O0) hzc l23 (by decide) (by decide)) q1a q1c (g := (mkF m 1 #[.val (.ref rr), .val (.ref ss), .unset] [(.ref ss)])) rfl (by rw [hml]; rfl) (Steps.refl _) (argsL := []) (rest := []) (lenOf own_pd_x28x29I rfl) rfl (by show 2 * 0 + _ ≤ _; exact Nat.le_of_eq rfl) (hb hby own_d37_1) (fun _ _ => ⟨rfl, e0, (by decide : 0 + 0 ≤ _), (by decide : 0 + 0 ≤ _)⟩)
  dsimp only [Pt.U, Pt.locs, Pt.cells, Pt.slots] at X1 l1 y1 z1 st1 hQ1
  subst l1 y1 z1
  obtain ⟨rfl, rfl, eh1⟩ := hQ1
  have N1 := Fr.app N0 (Fr.nil n0)
  refine OwnFin.adv (B := T1.setTop (mkF m 4 #[.val (.ref rr), .val (.ref ss), .unset] [(.int (Int32.ofNat (([] : List Int32)).length))])) (fun _ k => st1.trans k) ?_
  rw [show ((Int32.ofNat (([] : List Int32)).length) : Int32) = (0 : Int32) from rfl]
  refine OwnFin.adv (B := T1.setTop (mkF m 5 #[.val (.ref rr), .val (.ref ss), .val (.int (0 : Int32))] [])) (fun _ k => XS.istoreN X1.here hx rfl (hb hby own_d37_4) rfl (l' := #[.val (.ref rr), .val (.ref ss), .val (.int (0 : Int32))]) rfl k) ?_
  refine OwnFin.adv (B := T1.setTop (mkF m 6 #[.val (.ref rr), .val (.ref ss), .val (.int (0 : Int32))] [(.ref rr)])) (fun _ k => XS.aloadN X1.here hx rfl (hb hby own_d37_5) rfl rfl k) ?_
  have hws5 : ∀ d ∈ StrChars.Road.wordsLen, d.before a0 Z = true := fun d hd => hw d ((by decide +kernel : ∀ d ∈ StrChars.Road.wordsLen, d ∈ tables_1) d hd)
  obtain ⟨ts6, ks6, Es6, Vs6, Cs6, As6, lx6, lt6, hp6, l26⟩ := id Fr1
  have lx6 := own_lt lx6
  have lt6 := own_lt lt6
  have ltx6 := own_lt Es6.lt
  have ltt6 := own_lt As6.lt
  obtain ⟨cq4, kq4, q4a, q4b, q4c⟩ := isOf hZ eh1 Es6
  obtain ⟨_, _, ⟨T4, L4, k4, n4⟩, -, X4, ⟨Lc4, hQ4, l4, y4, z4⟩, st4⟩ := X1.virtualBack hx (y := (⟨"java/lang/String", "length", "()I"⟩ : MethodName)) (z := (⟨"java/lang/String", "length", "()I"⟩ : MethodName)) hown (mvT hZ (hw _ (List.mem_of_getElem? (i := 208) rfl))) (mvT hZ (hw _ (List.mem_of_getElem? (i := 123) rfl))) (notFace_of_selects (args := #[]) (mvT hZ (hw _ (List.mem_of_getElem? (i := 125) rfl)))) (mvT hZ (hw _ (List.mem_of_getElem? (i := 125) rfl))) (mvT hZ (hw _ (List.mem_of_getElem? (i := 124) rfl))) (by decide) (StrChars.Road.lenW (W := 0) hZ hws5 (kI := 4) (hw _ (List.mem_of_getElem? (i := 6) rfl)) Es6 Vs6 Cs6 As6 (StrChars.Road.codOf rfl (fun c hc => (hp6 c hc).2)) (own_up hp6) (own_staK SCS O0) hzc l26 (by decide) (by decide)) q4a q4c (g := (mkF m 6 #[.val (.ref rr), .val (.ref ss), .val (.int (0 : Int32))] [(.ref rr)])) rfl (by rw [hml]; rfl) (Steps.refl _) (argsL := []) (rest := []) (lenOf own_pd_x28x29I rfl) rfl (by show 2 * 0 + _ ≤ _; exact Nat.le_of_eq rfl) (hb hby own_d37_6) (fun _ _ => ⟨rfl, eh1, (by decide : 0 + 0 ≤ _), (by decide : 0 + 0 ≤ _)⟩)
  dsimp only [Pt.U, Pt.locs, Pt.cells, Pt.slots] at X4 l4 y4 z4 st4 hQ4
  subst l4 y4 z4
  obtain ⟨rfl, rfl, eh4⟩ := hQ4
  have N4 := Fr.app N1 (Fr.nil n0)
  refine OwnFin.adv (B := T4.setTop (mkF m 9 #[.val (.ref rr), .val (.ref ss), .val (.int (0 : Int32))] [(.int (Int32.ofNat ([(35 : Int32), (123 : Int32), (125 : Int32)]).length))])) (fun _ k => st4.trans k) ?_
  rw [show ((Int32.ofNat ([(35 : Int32), (123 : Int32), (125 : Int32)]).length) : Int32) = (3 : Int32) from rfl]
  refine OwnFin.adv (B := T4.setTop (mkF m 10 #[.val (.ref rr), .val (.ref ss), .val (.int (0 : Int32))] [(.int (0 : Int32)), (.int (3 : Int32))])) (fun _ k => XS.iloadN X4.here hx rfl (hb hby own_d37_9) rfl k) ?_
  refine OwnFin.adv (B := T4.setTop (mkF m 11 #[.val (.ref rr), .val (.ref ss), .val (.int (0 : Int32))] [(.int (3 : Int32)), (.int (0 : Int32)), (.int (3 : Int32))])) (fun _ k => XS.iconst X4.here hx rfl (hb hby own_d37_10) k) ?_
  refine OwnFin.adv (B := T4.setTop (mkF m 12 #[.val (.ref rr), .val (.ref ss), .val (.int (0 : Int32))] [(.int ((0 : Int32) + (3 : Int32))), (.int (3 : Int32))])) (fun _ k => XS.iadd X4.here hx rfl (hb hby own_d37_11) rfl k) ?_
  have hc12_9 : (3 : Int32) = ((0 : Int32) + (3 : Int32)) := by decide
  refine OwnFin.adv (B := T4.setTop (mkF m 17 #[.val (.ref rr), .val (.ref ss), .val (.int (0 : Int32))] [])) (fun _ k => XS.icmpYes X4.here hx rfl (pc0 := 12) (pc' := 17) rfl (hb hby own_d37_12) rfl (teq hc12_9).1 (by decide) (by decide) k) ?_
  refine OwnFin.adv (B := T4.setTop (mkF m 18 #[.val (.ref rr), .val (.ref ss), .val (.int (0 : Int32))] [(.ref rr)])) (fun _ k => XS.aloadN X4.here hx rfl (hb hby own_d37_17) rfl rfl k) ?_
  refine OwnFin.adv (B := T4.setTop (mkF m 19 #[.val (.ref rr), .val (.ref ss), .val (.int (0 : Int32))] [(.int (0 : Int32)), (.ref rr)])) (fun _ k => XS.iconst X4.here hx rfl (hb hby own_d37_18) k) ?_
  have hws8 : ∀ d ∈ StrChars.Road.wordsChN, d.before a0 Z = true := fun d hd => hw d ((by decide +kernel : ∀ d ∈ StrChars.Road.wordsChN, d ∈ tables_1) d hd)
  obtain ⟨ts9, ks9, Es9, Vs9, Cs9, As9, lx9, lt9, hp9, l29⟩ := id Fr1
  have lx9 := own_lt lx9
  have lt9 := own_lt lt9
  have ltx9 := own_lt Es9.lt
  have ltt9 := own_lt As9.lt
  obtain ⟨cq7, kq7, q7a, q7b, q7c⟩ := isOf hZ eh4 Es9
  obtain ⟨_, _, ⟨T7, L7, k7, n7⟩, -, X7, ⟨Lc7, hQ7, l7, y7, z7⟩, st7⟩ := X4.virtualBack hx (y := (⟨"java/lang/String", "charAt", "(I)C"⟩ : MethodName)) (z := (⟨"java/lang/String", "charAt", "(I)C"⟩ : MethodName)) hown (mvT hZ (hw _ (List.mem_of_getElem? (i := 209) rfl))) (mvT hZ (hw _ (List.mem_of_getElem? (i := 210) rfl))) (notFace_of_selects (args := #[]) (mvT hZ (hw _ (List.mem_of_getElem? (i := 212) rfl)))) (mvT hZ (hw _ (List.mem_of_getElem? (i := 212) rfl))) (mvT hZ (hw _ (List.mem_of_getElem? (i := 211) rfl))) (by decide) (StrChars.Road.chN (W := 0) hZ hws8 (kI := 4) (hw _ (List.mem_of_getElem? (i := 6) rfl)) (i := 0) (j := (0 : Int32)) Es9 Vs9 Cs9 As9 (StrChars.Road.codOf rfl (fun c hc => (hp9 c hc).2)) (own_up hp9) (own_staK SCS O0) hzc (own_staK SFM O0) rfm l29 (by show _ < 3; decide) (by decide) (by decide) (by decide)) q7a q7c (g := (mkF m 19 #[.val (.ref rr), .val (.ref ss), .val (.int (0 : Int32))] [(.int (0 : Int32)), (.ref rr)])) rfl (by rw [hml]; rfl) (Steps.refl _) (argsL := [(.int (0 : Int32))]) (rest := []) (lenOf own_pd_x28Ix29C rfl) rfl (by show 2 * 0 + _ ≤ _; exact Nat.le_of_eq rfl) (hb hby own_d37_19) (fun _ _ => ⟨rfl, eh4, (by decide : 0 + 0 ≤ _), (by decide : 0 + 0 ≤ _)⟩)
  dsimp only [Pt.U, Pt.locs, Pt.cells, Pt.slots] at X7 l7 y7 z7 st7 hQ7
  subst l7 y7 z7
  obtain ⟨rfl, rfl, eh7⟩ := hQ7
  have N7 := Fr.app N4 (Fr.nil n0)
  refine OwnFin.adv (B := T7.setTop (mkF m 22 #[.val (.ref rr), .val (.ref ss), .val (.int (0 : Int32))] [(.int (([(35 : Int32), (123 : Int32), (125 : Int32)]).getD (0) 0))])) (fun _ k => st7.trans k) ?_
  refine OwnFin.adv (B := T7.setTop (mkF m 24 #[.val (.ref rr), .val (.ref ss), .val (.int (0 : Int32))] [(.int (35 : Int32)), (.int (([(35 : Int32), (123 : Int32), (125 : Int32)]).getD (0) 0))])) (fun _ k => XS.bipush X7.here hx rfl (hb hby own_d37_22) k) ?_
  have hc24_14 : (([(35 : Int32), (123 : Int32), (125 : Int32)]).getD (0) 0) = (35 : Int32) := rfl
  refine OwnFin.adv (B := T7.setTop (mkF m 27 #[.val (.ref rr), .val (.ref ss), .val (.int (0 : Int32))] [])) (fun _ k => XS.icmpNo X7.here hx rfl (hb hby own_d37_24) rfl (teq hc24_14).2 k) ?_
  refine OwnFin.adv (B := T7.setTop (mkF m 28 #[.val (.ref rr), .val (.ref ss), .val (.int (0 : Int32))] [(.ref rr)])) (fun _ k => XS.aloadN X7.here hx rfl (hb hby own_d37_27) rfl rfl k) ?_
  refine OwnFin.adv (B := T7.setTop (mkF m 29 #[.val (.ref rr), .val (.ref ss), .val (.int (0 : Int32))] [(.int (1 : Int32)), (.ref rr)])) (fun _ k => XS.iconst X7.here hx rfl (hb hby own_d37_28) k) ?_
  have hws11 : ∀ d ∈ StrChars.Road.wordsChN, d.before a0 Z = true := fun d hd => hw d ((by decide +kernel : ∀ d ∈ StrChars.Road.wordsChN, d ∈ tables_1) d hd)
  obtain ⟨ts12, ks12, Es12, Vs12, Cs12, As12, lx12, lt12, hp12, l212⟩ := id Fr1
  have lx12 := own_lt lx12
  have lt12 := own_lt lt12
  have ltx12 := own_lt Es12.lt
  have ltt12 := own_lt As12.lt
  obtain ⟨cq10, kq10, q10a, q10b, q10c⟩ := isOf hZ eh7 Es12
  obtain ⟨_, _, ⟨T10, L10, k10, n10⟩, -, X10, ⟨Lc10, hQ10, l10, y10, z10⟩, st10⟩ := X7.virtualBack hx (y := (⟨"java/lang/String", "charAt", "(I)C"⟩ : MethodName)) (z := (⟨"java/lang/String", "charAt", "(I)C"⟩ : MethodName)) hown (mvT hZ (hw _ (List.mem_of_getElem? (i := 209) rfl))) (mvT hZ (hw _ (List.mem_of_getElem? (i := 210) rfl))) (notFace_of_selects (args := #[]) (mvT hZ (hw _ (List.mem_of_getElem? (i := 212) rfl)))) (mvT hZ (hw _ (List.mem_of_getElem? (i := 212) rfl))) (mvT hZ (hw _ (List.mem_of_getElem? (i := 211) rfl))) (by decide) (StrChars.Road.chN (W := 0) hZ hws11 (kI := 4) (hw _ (List.mem_of_getElem? (i := 6) rfl)) (i := 1) (j := (1 : Int32)) Es12 Vs12 Cs12 As12 (StrChars.Road.codOf rfl (fun c hc => (hp12 c hc).2)) (own_up hp12) (own_staK SCS O0) hzc (own_staK SFM O0) rfm l212 (by show _ < 3; decide) (by decide) (by decide) (by decide)) q10a q10c (g := (mkF m 29 #[.val (.ref rr), .val (.ref ss), .val (.int (0 : Int32))] [(.int (1 : Int32)), (.ref rr)])) rfl (by rw [hml]; rfl) (Steps.refl _) (argsL := [(.int (1 : Int32))]) (rest := []) (lenOf own_pd_x28Ix29C rfl) rfl (by show 2 * 0 + _ ≤ _; exact Nat.le_of_eq rfl) (hb hby own_d37_29) (fun _ _ => ⟨rfl, eh7, (by decide : 0 + 0 ≤ _), (by decide : 0 + 0 ≤ _)⟩)
  dsimp only [Pt.U, Pt.locs, Pt.cells, Pt.slots] at X10 l10 y10 z10 st10 hQ10
  subst l10 y10 z10
  obtain ⟨rfl, rfl, eh10⟩ := hQ10
  have N10 := Fr.app N7 (Fr.nil n0)
  refine OwnFin.adv (B := T10.setTop (mkF m 32 #[.val (.ref rr), .val (.ref ss), .val (.int (0 : Int32))] [(.int (([(35 : Int32), (123 : Int32), (125 : Int32)]).getD (1) 0))])) (fun _ k => st10.trans k) ?_
  refine OwnFin.adv (B := T10.setTop (mkF m 34 #[.val (.ref rr), .val (.ref ss), .val (.int (0 : Int32))] [(.int (123 : Int32)), (.int (([(35 : Int32), (123 : Int32), (125 : Int32)]).getD (1) 0))])) (fun _ k => XS.bipush X10.here hx rfl (hb hby own_d37_32) k) ?_
  have hc34_19 : (([(35 : Int32), (123 : Int32), (125 : Int32)]).getD (1) 0) = (123 : Int32) := rfl
  refine OwnFin.adv (B := T10.setTop (mkF m 37 #[.val (.ref rr), .val (.ref ss), .val (.int (0 : Int32))] [])) (fun _ k => XS.icmpNo X10.here hx rfl (hb hby own_d37_34) rfl (teq hc34_19).2 k) ?_
  refine OwnFin.adv (B := T10.setTop (mkF m 38 #[.val (.ref rr), .val (.ref ss), .val (.int (0 : Int32))] [(.ref rr)])) (fun _ k => XS.aloadN X10.here hx rfl (hb hby own_d37_37) rfl rfl k) ?_
  refine OwnFin.adv (B := T10.setTop (mkF m 39 #[.val (.ref rr), .val (.ref ss), .val (.int (0 : Int32))] [(.int (0 : Int32)), (.ref rr)])) (fun _ k => XS.iloadN X10.here hx rfl (hb hby own_d37_38) rfl k) ?_
  refine OwnFin.adv (B := T10.setTop (mkF m 40 #[.val (.ref rr), .val (.ref ss), .val (.int (0 : Int32))] [(.int (2 : Int32)), (.int (0 : Int32)), (.ref rr)])) (fun _ k => XS.iconst X10.here hx rfl (hb hby own_d37_39) k) ?_
  refine OwnFin.adv (B := T10.setTop (mkF m 41 #[.val (.ref rr), .val (.ref ss), .val (.int (0 : Int32))] [(.int ((0 : Int32) + (2 : Int32))), (.ref rr)])) (fun _ k => XS.iadd X10.here hx rfl (hb hby own_d37_40) rfl k) ?_
  have hws14 : ∀ d ∈ StrChars.Road.wordsChN, d.before a0 Z = true := fun d hd => hw d ((by decide +kernel : ∀ d ∈ StrChars.Road.wordsChN, d ∈ tables_1) d hd)
  obtain ⟨ts15, ks15, Es15, Vs15, Cs15, As15, lx15, lt15, hp15, l215⟩ := id Fr1
  have lx15 := own_lt lx15
  have lt15 := own_lt lt15
  have ltx15 := own_lt Es15.lt
  have ltt15 := own_lt As15.lt
  obtain ⟨cq13, kq13, q13a, q13b, q13c⟩ := isOf hZ eh10 Es15
  obtain ⟨_, _, ⟨T13, L13, k13, n13⟩, -, X13, ⟨Lc13, hQ13, l13, y13, z13⟩, st13⟩ := X10.virtualBack hx (y := (⟨"java/lang/String", "charAt", "(I)C"⟩ : MethodName)) (z := (⟨"java/lang/String", "charAt", "(I)C"⟩ : MethodName)) hown (mvT hZ (hw _ (List.mem_of_getElem? (i := 209) rfl))) (mvT hZ (hw _ (List.mem_of_getElem? (i := 210) rfl))) (notFace_of_selects (args := #[]) (mvT hZ (hw _ (List.mem_of_getElem? (i := 212) rfl)))) (mvT hZ (hw _ (List.mem_of_getElem? (i := 212) rfl))) (mvT hZ (hw _ (List.mem_of_getElem? (i := 211) rfl))) (by decide) (StrChars.Road.chN (W := 0) hZ hws14 (kI := 4) (hw _ (List.mem_of_getElem? (i := 6) rfl)) (i := 2) (j := ((0 : Int32) + (2 : Int32))) Es15 Vs15 Cs15 As15 (StrChars.Road.codOf rfl (fun c hc => (hp15 c hc).2)) (own_up hp15) (own_staK SCS O0) hzc (own_staK SFM O0) rfm l215 (by show _ < 3; decide) (by decide) (by decide) (by decide)) q13a q13c (g := (mkF m 41 #[.val (.ref rr), .val (.ref ss), .val (.int (0 : Int32))] [(.int ((0 : Int32) + (2 : Int32))), (.ref rr)])) rfl (by rw [hml]; rfl) (Steps.refl _) (argsL := [(.int ((0 : Int32) + (2 : Int32)))]) (rest := []) (lenOf own_pd_x28Ix29C rfl) rfl (by show 2 * 0 + _ ≤ _; exact Nat.le_of_eq rfl) (hb hby own_d37_41) (fun _ _ => ⟨rfl, eh10, (by decide : 0 + 0 ≤ _), (by decide : 0 + 0 ≤ _)⟩)
  dsimp only [Pt.U, Pt.locs, Pt.cells, Pt.slots] at X13 l13 y13 z13 st13 hQ13
  subst l13 y13 z13
  obtain ⟨rfl, rfl, eh13⟩ := hQ13
  have N13 := Fr.app N10 (Fr.nil n0)
  refine OwnFin.adv (B := T13.setTop (mkF m 44 #[.val (.ref rr), .val (.ref ss), .val (.int (0 : Int32))] [(.int (([(35 : Int32), (123 : Int32), (125 : Int32)]).getD (2) 0))])) (fun _ k => st13.trans k) ?_
  refine OwnFin.adv (B := T13.setTop (mkF m 46 #[.val (.ref rr), .val (.ref ss), .val (.int (0 : Int32))] [(.int (125 : Int32)), (.int (([(35 : Int32), (123 : Int32), (125 : Int32)]).getD (2) 0))])) (fun _ k => XS.bipush X13.here hx rfl (hb hby own_d37_44) k) ?_
  have hc46_26 : (([(35 : Int32), (123 : Int32), (125 : Int32)]).getD (2) 0) = (125 : Int32) := rfl
  refine OwnFin.adv (B := T13.setTop (mkF m 51 #[.val (.ref rr), .val (.ref ss), .val (.int (0 : Int32))] [])) (fun _ k => XS.icmpYes X13.here hx rfl (pc0 := 46) (pc' := 51) rfl (hb hby own_d37_46) rfl (teq hc46_26).1 (by decide) (by decide) k) ?_
  refine OwnFin.adv (B := T13.setTop (mkF m 52 #[.val (.ref rr), .val (.ref ss), .val (.int (0 : Int32))] [(.int (0 : Int32))])) (fun _ k => XS.iloadN X13.here hx rfl (hb hby own_d37_51) rfl k) ?_
  have hc52_28 : ¬ ((0 : Int32) < (0 : Int32)) := by decide
  refine OwnFin.adv (B := T13.setTop (mkF m 70 #[.val (.ref rr), .val (.ref ss), .val (.int (0 : Int32))] [])) (fun _ k => XS.ifYes X13.here hx rfl (pc0 := 52) (pc' := 70) rfl (hb hby own_d37_52) rfl ((if0 _ _).trans (flt hc52_28).2.2.2) (by decide) (by decide) k) ?_
  refine OwnFin.adv (B := T13.setTop (mkF m 71 #[.val (.ref rr), .val (.ref ss), .val (.int (0 : Int32))] [(.int (0 : Int32))])) (fun _ k => XS.iloadN X13.here hx rfl (hb hby own_d37_70) rfl k) ?_
  refine OwnFin.adv (B := T13.setTop (mkF m 72 #[.val (.ref rr), .val (.ref ss), .val (.int (0 : Int32))] [(.int (1 : Int32)), (.int (0 : Int32))])) (fun _ k => XS.iconst X13.here hx rfl (hb hby own_d37_71) k) ?_
  have hc72_31 : ¬ ((1 : Int32) < (0 : Int32)) := by decide
  refine OwnFin.adv (B := T13.setTop (mkF m 90 #[.val (.ref rr), .val (.ref ss), .val (.int (0 : Int32))] [])) (fun _ k => XS.icmpYes X13.here hx rfl (pc0 := 72) (pc' := 90) rfl (hb hby own_d37_72) rfl (flt hc72_31).2.2.2 (by decide) (by decide) k) ?_
  refine OwnFin.adv (B := T13.setTop (mkF m 91 #[.val (.ref rr), .val (.ref ss), .val (.int (0 : Int32))] [(.int (0 : Int32))])) (fun _ k => XS.iloadN X13.here hx rfl (hb hby own_d37_90) rfl k) ?_
  refine OwnFin.adv (B := T13.setTop (mkF m 92 #[.val (.ref rr), .val (.ref ss), .val (.int (0 : Int32))] [(.int (2 : Int32)), (.int (0 : Int32))])) (fun _ k => XS.iconst X13.here hx rfl (hb hby own_d37_91) k) ?_
  have hc92_34 : ¬ ((2 : Int32) < (0 : Int32)) := by decide
  refine OwnFin.adv (B := T13.setTop (mkF m 110 #[.val (.ref rr), .val (.ref ss), .val (.int (0 : Int32))] [])) (fun _ k => XS.icmpYes X13.here hx rfl (pc0 := 92) (pc' := 110) rfl (hb hby own_d37_92) rfl (flt hc92_34).2.2.2 (by decide) (by decide) k) ?_
  refine OwnFin.adv (B := T13.setTop (mkF m 111 #[.val (.ref rr), .val (.ref ss), .val (.int (0 : Int32))] [(.int (1 : Int32))])) (fun _ k => XS.iconst X13.here hx rfl (hb hby own_d37_110) k) ?_
  obtain ⟨fs, hr, hrun, hended, hW, hsame⟩ := X13.leave (v := some (.int (1 : Int32))) (fun h => by rw [Bd.returns] at h; cases h)
  refine OwnFin.leaf hP' ⟨_, _, retN X13 hx (t := .boolean) Bd.returns (by simp) (hb hby own_d37_111) hr, hrun, hended, _, _, rfl, ?_, ⟨_, rfl⟩, hW, hsame.mono (by decide) (by decide)⟩
  exact ⟨rfl, N13, eh13⟩
theorem own_d37_55 : decode method_3_code 55 = .ok (.aload_n 0, 1) := by decide +kernel
theorem own_d37_56 : decode method_3_code 56 = .ok (.iconst 2, 1) := by decide +kernel
theorem own_d37_57 : decode method_3_code 57 = .ok (.invokevirtual 16, 3) := by decide +kernel
theorem own_d37_60 : decode method_3_code 60 = .ok (.aload_n 1, 1) := by decide +kernel
theorem own_d37_61 : decode method_3_code 61 = .ok (.iconst 0, 1) := by decide +kernel
theorem own_d37_62 : decode method_3_code 62 = .ok (.invokevirtual 16, 3) := by decide +kernel
theorem own_d37_65 : decode method_3_code 65 = .ok (.if_icmp .eq 5, 3) := by decide +kernel
theorem own_ef_shape1 (m : MethodId) (x0 : Addr) (x1 : Addr) : entryFrame m #[(.ref x0), (.ref x1)] 3 = mkF m 0 #[.val (.ref x0), .val (.ref x1), .unset] [] := by first | (simp [entryFrame, mkF, argsToLocals, Value.category]; done) | rfl
def own_Q_shape1 (Z : State) (rr ss : Addr) (zc : Int32) (fm : Value) (lr ls : Nat) (d0 : Int32) (h0 : Heap) (n0 : Nat) (v : Option Value) (h : Heap) (L : List Loc) : Prop := v = some (.int (1 : Int32)) ∧ Fr n0 L ∧ h = h0
set_option maxRecDepth 65536 in
set_option maxHeartbeats 40000000 in
theorem own_shape1 (l : Launch) (Z : State) (a0 : Array Value) (hw : ∀ d ∈ tables_1, d.before a0 Z = true) (ws : List Jvm.Cond) (rr ss : Addr) (zc : Int32) (fm : Value) (lr ls : Nat) (d0 : Int32) (h0 : Heap) (n0 : Nat) (Z0 : n0 ≤ h0.size) (O0 : Old Z n0 h0) (SCS : Sta Z Z.heap "java/lang/String" "COMPACT_STRINGS" "Z" (.int zc)) (hzc : ¬ zc = 0) (SFM : Sta Z Z.heap "jdk/internal/util/Preconditions" "SIOOBE_FORMATTER" "Ljava/util/function/BiFunction;" fm) (rfm : fm.isRef = true) (Fr1 : OwnS Z h0 lr rr [(35 : Int32), (123 : Int32), d0, (125 : Int32)]) (Fs1 : OwnS Z h0 ls ss [d0]) :
    MetFree l (⟨"com/example/raccordo/raccordo/sql/SqlTokenParameterPinLaw", "shape", "(Ljava/lang/String;Ljava/lang/String;)Z"⟩ : MethodName) (head1 (Jvm.Cond.code (⟨"com/example/raccordo/raccordo/sql/SqlTokenParameterPinLaw", "shape", "(Ljava/lang/String;Ljava/lang/String;)Z"⟩ : MethodName) method_3_code 3 (some .boolean) :: ws) ({ frames := 5, cells := 0, slots := 0, locals := 80 } : Room)) (fun A0 U0 => A0 = #[(.ref rr), (.ref ss)] ∧ Z.Warmed39 U0.vm ∧ U0.heap = h0) (fun _ _ _ _ _ => True) (fun _ U0 o0 U1 => ∃ v0 L0, o0 = .returned v0 ∧ own_Q_shape1 Z rr ss zc fm lr ls d0 h0 n0 v0 U1.heap L0 ∧ FrameEnd U0 o0 U1 L0 ({ frames := 5, cells := 0, slots := 0, locals := 80 } : Room).cells ({ frames := 5, cells := 0, slots := 0, locals := 80 } : Room).slots) := by
  refine MetFree.of_bodySF (plainFor_of_name own_pn_com_example_raccordo_raccordo_sql_SqlTokenParameterPinLaw) hisR ?_
  intro p e s m args below meth c s₁ Bd hml0 hP hK
  obtain ⟨rfl, hZ, hh⟩ := hP
  have hZs := hZ
  have hx := Bd.exec
  have hby := Bd.bytes
  have hml : c.maxLocals = 3 := hml0
  have hown : s.vm.findClass "com/example/raccordo/raccordo/sql/SqlTokenParameterPinLaw" = some m.cls := findClass_of_methodNamed Bd.named
  have hnm := (name_of_methodNamed Bd.named Bd.method).1
  have X0 : Stand p l e ({ frames := 5, cells := 0, slots := 0, locals := 80 } : Room) s m #[(.ref rr), (.ref ss)] below meth c s₁ [] 0 0 := Stand.of_body Bd
  have e0 : s₁.heap = h0 := by rw [← hh, Bd.state]; rfl
  have N0 := Fr.nil n0
  refine OwnFin.entry (own_ef_shape1 m rr ss) (fun P' hP' => ?_)
  refine OwnFin.adv (B := s₁.setTop (mkF m 1 #[.val (.ref rr), .val (.ref ss), .unset] [(.ref ss)])) (fun _ k => XS.aloadN X0.here hx rfl (hb hby own_d37_0) rfl rfl k) ?_
  have hws2 : ∀ d ∈ StrChars.Road.wordsLen, d.before a0 Z = true := fun d hd => hw d ((by decide +kernel : ∀ d ∈ StrChars.Road.wordsLen, d ∈ tables_1) d hd)
  obtain ⟨ts3, ks3, Es3, Vs3, Cs3, As3, lx3, lt3, hp3, l23⟩ := id Fs1
  have lx3 := own_lt lx3
  have lt3 := own_lt lt3
  have ltx3 := own_lt Es3.lt
  have ltt3 := own_lt As3.lt
  obtain ⟨cq1, kq1, q1a, q1b, q1c⟩ := isOf hZ e0 Es3
  obtain ⟨_, _, ⟨T1, L1, k1, n1⟩, -, X1, ⟨Lc1, hQ1, l1, y1, z1⟩, st1⟩ := X0.virtualBack hx (y := (⟨"java/lang/String", "length", "()I"⟩ : MethodName)) (z := (⟨"java/lang/String", "length", "()I"⟩ : MethodName)) hown (mvT hZ (hw _ (List.mem_of_getElem? (i := 208) rfl))) (mvT hZ (hw _ (List.mem_of_getElem? (i := 123) rfl))) (notFace_of_selects (args := #[]) (mvT hZ (hw _ (List.mem_of_getElem? (i := 125) rfl)))) (mvT hZ (hw _ (List.mem_of_getElem? (i := 125) rfl))) (mvT hZ (hw _ (List.mem_of_getElem? (i := 124) rfl))) (by decide) (StrChars.Road.lenW (W := 0) hZ hws2 (kI := 4) (hw _ (List.mem_of_getElem? (i := 6) rfl)) Es3 Vs3 Cs3 As3 (StrChars.Road.codOf rfl (fun c hc => (hp3 c hc).2)) (own_up hp3) (own_staK SCS O0) hzc l23 (by decide) (by decide)) q1a q1c (g := (mkF m 1 #[.val (.ref rr), .val (.ref ss), .unset] [(.ref ss)])) rfl (by rw [hml]; rfl) (Steps.refl _) (argsL := []) (rest := []) (lenOf own_pd_x28x29I rfl) rfl (by show 2 * 0 + _ ≤ _; exact Nat.le_of_eq rfl) (hb hby own_d37_1) (fun _ _ => ⟨rfl, e0, (by decide : 0 + 0 ≤ _), (by decide : 0 + 0 ≤ _)⟩)
  dsimp only [Pt.U, Pt.locs, Pt.cells, Pt.slots] at X1 l1 y1 z1 st1 hQ1
  subst l1 y1 z1
  obtain ⟨rfl, rfl, eh1⟩ := hQ1
  have N1 := Fr.app N0 (Fr.nil n0)
  refine OwnFin.adv (B := T1.setTop (mkF m 4 #[.val (.ref rr), .val (.ref ss), .unset] [(.int (Int32.ofNat ([d0]).length))])) (fun _ k => st1.trans k) ?_
  rw [show ((Int32.ofNat ([d0]).length) : Int32) = (1 : Int32) from rfl]
  refine OwnFin.adv (B := T1.setTop (mkF m 5 #[.val (.ref rr), .val (.ref ss), .val (.int (1 : Int32))] [])) (fun _ k => XS.istoreN X1.here hx rfl (hb hby own_d37_4) rfl (l' := #[.val (.ref rr), .val (.ref ss), .val (.int (1 : Int32))]) rfl k) ?_
  refine OwnFin.adv (B := T1.setTop (mkF m 6 #[.val (.ref rr), .val (.ref ss), .val (.int (1 : Int32))] [(.ref rr)])) (fun _ k => XS.aloadN X1.here hx rfl (hb hby own_d37_5) rfl rfl k) ?_
  have hws5 : ∀ d ∈ StrChars.Road.wordsLen, d.before a0 Z = true := fun d hd => hw d ((by decide +kernel : ∀ d ∈ StrChars.Road.wordsLen, d ∈ tables_1) d hd)
  obtain ⟨ts6, ks6, Es6, Vs6, Cs6, As6, lx6, lt6, hp6, l26⟩ := id Fr1
  have lx6 := own_lt lx6
  have lt6 := own_lt lt6
  have ltx6 := own_lt Es6.lt
  have ltt6 := own_lt As6.lt
  obtain ⟨cq4, kq4, q4a, q4b, q4c⟩ := isOf hZ eh1 Es6
  obtain ⟨_, _, ⟨T4, L4, k4, n4⟩, -, X4, ⟨Lc4, hQ4, l4, y4, z4⟩, st4⟩ := X1.virtualBack hx (y := (⟨"java/lang/String", "length", "()I"⟩ : MethodName)) (z := (⟨"java/lang/String", "length", "()I"⟩ : MethodName)) hown (mvT hZ (hw _ (List.mem_of_getElem? (i := 208) rfl))) (mvT hZ (hw _ (List.mem_of_getElem? (i := 123) rfl))) (notFace_of_selects (args := #[]) (mvT hZ (hw _ (List.mem_of_getElem? (i := 125) rfl)))) (mvT hZ (hw _ (List.mem_of_getElem? (i := 125) rfl))) (mvT hZ (hw _ (List.mem_of_getElem? (i := 124) rfl))) (by decide) (StrChars.Road.lenW (W := 0) hZ hws5 (kI := 4) (hw _ (List.mem_of_getElem? (i := 6) rfl)) Es6 Vs6 Cs6 As6 (StrChars.Road.codOf rfl (fun c hc => (hp6 c hc).2)) (own_up hp6) (own_staK SCS O0) hzc l26 (by decide) (by decide)) q4a q4c (g := (mkF m 6 #[.val (.ref rr), .val (.ref ss), .val (.int (1 : Int32))] [(.ref rr)])) rfl (by rw [hml]; rfl) (Steps.refl _) (argsL := []) (rest := []) (lenOf own_pd_x28x29I rfl) rfl (by show 2 * 0 + _ ≤ _; exact Nat.le_of_eq rfl) (hb hby own_d37_6) (fun _ _ => ⟨rfl, eh1, (by decide : 0 + 0 ≤ _), (by decide : 0 + 0 ≤ _)⟩)
  dsimp only [Pt.U, Pt.locs, Pt.cells, Pt.slots] at X4 l4 y4 z4 st4 hQ4
  subst l4 y4 z4
  obtain ⟨rfl, rfl, eh4⟩ := hQ4
  have N4 := Fr.app N1 (Fr.nil n0)
  refine OwnFin.adv (B := T4.setTop (mkF m 9 #[.val (.ref rr), .val (.ref ss), .val (.int (1 : Int32))] [(.int (Int32.ofNat ([(35 : Int32), (123 : Int32), d0, (125 : Int32)]).length))])) (fun _ k => st4.trans k) ?_
  rw [show ((Int32.ofNat ([(35 : Int32), (123 : Int32), d0, (125 : Int32)]).length) : Int32) = (4 : Int32) from rfl]
  refine OwnFin.adv (B := T4.setTop (mkF m 10 #[.val (.ref rr), .val (.ref ss), .val (.int (1 : Int32))] [(.int (1 : Int32)), (.int (4 : Int32))])) (fun _ k => XS.iloadN X4.here hx rfl (hb hby own_d37_9) rfl k) ?_
  refine OwnFin.adv (B := T4.setTop (mkF m 11 #[.val (.ref rr), .val (.ref ss), .val (.int (1 : Int32))] [(.int (3 : Int32)), (.int (1 : Int32)), (.int (4 : Int32))])) (fun _ k => XS.iconst X4.here hx rfl (hb hby own_d37_10) k) ?_
  refine OwnFin.adv (B := T4.setTop (mkF m 12 #[.val (.ref rr), .val (.ref ss), .val (.int (1 : Int32))] [(.int ((1 : Int32) + (3 : Int32))), (.int (4 : Int32))])) (fun _ k => XS.iadd X4.here hx rfl (hb hby own_d37_11) rfl k) ?_
  have hc12_9 : (4 : Int32) = ((1 : Int32) + (3 : Int32)) := by decide
  refine OwnFin.adv (B := T4.setTop (mkF m 17 #[.val (.ref rr), .val (.ref ss), .val (.int (1 : Int32))] [])) (fun _ k => XS.icmpYes X4.here hx rfl (pc0 := 12) (pc' := 17) rfl (hb hby own_d37_12) rfl (teq hc12_9).1 (by decide) (by decide) k) ?_
  refine OwnFin.adv (B := T4.setTop (mkF m 18 #[.val (.ref rr), .val (.ref ss), .val (.int (1 : Int32))] [(.ref rr)])) (fun _ k => XS.aloadN X4.here hx rfl (hb hby own_d37_17) rfl rfl k) ?_
  refine OwnFin.adv (B := T4.setTop (mkF m 19 #[.val (.ref rr), .val (.ref ss), .val (.int (1 : Int32))] [(.int (0 : Int32)), (.ref rr)])) (fun _ k => XS.iconst X4.here hx rfl (hb hby own_d37_18) k) ?_
  have hws8 : ∀ d ∈ StrChars.Road.wordsChN, d.before a0 Z = true := fun d hd => hw d ((by decide +kernel : ∀ d ∈ StrChars.Road.wordsChN, d ∈ tables_1) d hd)
  obtain ⟨ts9, ks9, Es9, Vs9, Cs9, As9, lx9, lt9, hp9, l29⟩ := id Fr1
  have lx9 := own_lt lx9
  have lt9 := own_lt lt9
  have ltx9 := own_lt Es9.lt
  have ltt9 := own_lt As9.lt
  obtain ⟨cq7, kq7, q7a, q7b, q7c⟩ := isOf hZ eh4 Es9
  obtain ⟨_, _, ⟨T7, L7, k7, n7⟩, -, X7, ⟨Lc7, hQ7, l7, y7, z7⟩, st7⟩ := X4.virtualBack hx (y := (⟨"java/lang/String", "charAt", "(I)C"⟩ : MethodName)) (z := (⟨"java/lang/String", "charAt", "(I)C"⟩ : MethodName)) hown (mvT hZ (hw _ (List.mem_of_getElem? (i := 209) rfl))) (mvT hZ (hw _ (List.mem_of_getElem? (i := 210) rfl))) (notFace_of_selects (args := #[]) (mvT hZ (hw _ (List.mem_of_getElem? (i := 212) rfl)))) (mvT hZ (hw _ (List.mem_of_getElem? (i := 212) rfl))) (mvT hZ (hw _ (List.mem_of_getElem? (i := 211) rfl))) (by decide) (StrChars.Road.chN (W := 0) hZ hws8 (kI := 4) (hw _ (List.mem_of_getElem? (i := 6) rfl)) (i := 0) (j := (0 : Int32)) Es9 Vs9 Cs9 As9 (StrChars.Road.codOf rfl (fun c hc => (hp9 c hc).2)) (own_up hp9) (own_staK SCS O0) hzc (own_staK SFM O0) rfm l29 (by show _ < 4; decide) (by decide) (by decide) (by decide)) q7a q7c (g := (mkF m 19 #[.val (.ref rr), .val (.ref ss), .val (.int (1 : Int32))] [(.int (0 : Int32)), (.ref rr)])) rfl (by rw [hml]; rfl) (Steps.refl _) (argsL := [(.int (0 : Int32))]) (rest := []) (lenOf own_pd_x28Ix29C rfl) rfl (by show 2 * 0 + _ ≤ _; exact Nat.le_of_eq rfl) (hb hby own_d37_19) (fun _ _ => ⟨rfl, eh4, (by decide : 0 + 0 ≤ _), (by decide : 0 + 0 ≤ _)⟩)
  dsimp only [Pt.U, Pt.locs, Pt.cells, Pt.slots] at X7 l7 y7 z7 st7 hQ7
  subst l7 y7 z7
  obtain ⟨rfl, rfl, eh7⟩ := hQ7
  have N7 := Fr.app N4 (Fr.nil n0)
  refine OwnFin.adv (B := T7.setTop (mkF m 22 #[.val (.ref rr), .val (.ref ss), .val (.int (1 : Int32))] [(.int (([(35 : Int32), (123 : Int32), d0, (125 : Int32)]).getD (0) 0))])) (fun _ k => st7.trans k) ?_
  refine OwnFin.adv (B := T7.setTop (mkF m 24 #[.val (.ref rr), .val (.ref ss), .val (.int (1 : Int32))] [(.int (35 : Int32)), (.int (([(35 : Int32), (123 : Int32), d0, (125 : Int32)]).getD (0) 0))])) (fun _ k => XS.bipush X7.here hx rfl (hb hby own_d37_22) k) ?_
  have hc24_14 : (([(35 : Int32), (123 : Int32), d0, (125 : Int32)]).getD (0) 0) = (35 : Int32) := rfl
  refine OwnFin.adv (B := T7.setTop (mkF m 27 #[.val (.ref rr), .val (.ref ss), .val (.int (1 : Int32))] [])) (fun _ k => XS.icmpNo X7.here hx rfl (hb hby own_d37_24) rfl (teq hc24_14).2 k) ?_
  refine OwnFin.adv (B := T7.setTop (mkF m 28 #[.val (.ref rr), .val (.ref ss), .val (.int (1 : Int32))] [(.ref rr)])) (fun _ k => XS.aloadN X7.here hx rfl (hb hby own_d37_27) rfl rfl k) ?_
  refine OwnFin.adv (B := T7.setTop (mkF m 29 #[.val (.ref rr), .val (.ref ss), .val (.int (1 : Int32))] [(.int (1 : Int32)), (.ref rr)])) (fun _ k => XS.iconst X7.here hx rfl (hb hby own_d37_28) k) ?_
  have hws11 : ∀ d ∈ StrChars.Road.wordsChN, d.before a0 Z = true := fun d hd => hw d ((by decide +kernel : ∀ d ∈ StrChars.Road.wordsChN, d ∈ tables_1) d hd)
  obtain ⟨ts12, ks12, Es12, Vs12, Cs12, As12, lx12, lt12, hp12, l212⟩ := id Fr1
  have lx12 := own_lt lx12
  have lt12 := own_lt lt12
  have ltx12 := own_lt Es12.lt
  have ltt12 := own_lt As12.lt
  obtain ⟨cq10, kq10, q10a, q10b, q10c⟩ := isOf hZ eh7 Es12
  obtain ⟨_, _, ⟨T10, L10, k10, n10⟩, -, X10, ⟨Lc10, hQ10, l10, y10, z10⟩, st10⟩ := X7.virtualBack hx (y := (⟨"java/lang/String", "charAt", "(I)C"⟩ : MethodName)) (z := (⟨"java/lang/String", "charAt", "(I)C"⟩ : MethodName)) hown (mvT hZ (hw _ (List.mem_of_getElem? (i := 209) rfl))) (mvT hZ (hw _ (List.mem_of_getElem? (i := 210) rfl))) (notFace_of_selects (args := #[]) (mvT hZ (hw _ (List.mem_of_getElem? (i := 212) rfl)))) (mvT hZ (hw _ (List.mem_of_getElem? (i := 212) rfl))) (mvT hZ (hw _ (List.mem_of_getElem? (i := 211) rfl))) (by decide) (StrChars.Road.chN (W := 0) hZ hws11 (kI := 4) (hw _ (List.mem_of_getElem? (i := 6) rfl)) (i := 1) (j := (1 : Int32)) Es12 Vs12 Cs12 As12 (StrChars.Road.codOf rfl (fun c hc => (hp12 c hc).2)) (own_up hp12) (own_staK SCS O0) hzc (own_staK SFM O0) rfm l212 (by show _ < 4; decide) (by decide) (by decide) (by decide)) q10a q10c (g := (mkF m 29 #[.val (.ref rr), .val (.ref ss), .val (.int (1 : Int32))] [(.int (1 : Int32)), (.ref rr)])) rfl (by rw [hml]; rfl) (Steps.refl _) (argsL := [(.int (1 : Int32))]) (rest := []) (lenOf own_pd_x28Ix29C rfl) rfl (by show 2 * 0 + _ ≤ _; exact Nat.le_of_eq rfl) (hb hby own_d37_29) (fun _ _ => ⟨rfl, eh7, (by decide : 0 + 0 ≤ _), (by decide : 0 + 0 ≤ _)⟩)
  dsimp only [Pt.U, Pt.locs, Pt.cells, Pt.slots] at X10 l10 y10 z10 st10 hQ10
  subst l10 y10 z10
  obtain ⟨rfl, rfl, eh10⟩ := hQ10
  have N10 := Fr.app N7 (Fr.nil n0)
  refine OwnFin.adv (B := T10.setTop (mkF m 32 #[.val (.ref rr), .val (.ref ss), .val (.int (1 : Int32))] [(.int (([(35 : Int32), (123 : Int32), d0, (125 : Int32)]).getD (1) 0))])) (fun _ k => st10.trans k) ?_
  refine OwnFin.adv (B := T10.setTop (mkF m 34 #[.val (.ref rr), .val (.ref ss), .val (.int (1 : Int32))] [(.int (123 : Int32)), (.int (([(35 : Int32), (123 : Int32), d0, (125 : Int32)]).getD (1) 0))])) (fun _ k => XS.bipush X10.here hx rfl (hb hby own_d37_32) k) ?_
  have hc34_19 : (([(35 : Int32), (123 : Int32), d0, (125 : Int32)]).getD (1) 0) = (123 : Int32) := rfl
  refine OwnFin.adv (B := T10.setTop (mkF m 37 #[.val (.ref rr), .val (.ref ss), .val (.int (1 : Int32))] [])) (fun _ k => XS.icmpNo X10.here hx rfl (hb hby own_d37_34) rfl (teq hc34_19).2 k) ?_
  refine OwnFin.adv (B := T10.setTop (mkF m 38 #[.val (.ref rr), .val (.ref ss), .val (.int (1 : Int32))] [(.ref rr)])) (fun _ k => XS.aloadN X10.here hx rfl (hb hby own_d37_37) rfl rfl k) ?_
  refine OwnFin.adv (B := T10.setTop (mkF m 39 #[.val (.ref rr), .val (.ref ss), .val (.int (1 : Int32))] [(.int (1 : Int32)), (.ref rr)])) (fun _ k => XS.iloadN X10.here hx rfl (hb hby own_d37_38) rfl k) ?_
  refine OwnFin.adv (B := T10.setTop (mkF m 40 #[.val (.ref rr), .val (.ref ss), .val (.int (1 : Int32))] [(.int (2 : Int32)), (.int (1 : Int32)), (.ref rr)])) (fun _ k => XS.iconst X10.here hx rfl (hb hby own_d37_39) k) ?_
  refine OwnFin.adv (B := T10.setTop (mkF m 41 #[.val (.ref rr), .val (.ref ss), .val (.int (1 : Int32))] [(.int ((1 : Int32) + (2 : Int32))), (.ref rr)])) (fun _ k => XS.iadd X10.here hx rfl (hb hby own_d37_40) rfl k) ?_
  have hws14 : ∀ d ∈ StrChars.Road.wordsChN, d.before a0 Z = true := fun d hd => hw d ((by decide +kernel : ∀ d ∈ StrChars.Road.wordsChN, d ∈ tables_1) d hd)
  obtain ⟨ts15, ks15, Es15, Vs15, Cs15, As15, lx15, lt15, hp15, l215⟩ := id Fr1
  have lx15 := own_lt lx15
  have lt15 := own_lt lt15
  have ltx15 := own_lt Es15.lt
  have ltt15 := own_lt As15.lt
  obtain ⟨cq13, kq13, q13a, q13b, q13c⟩ := isOf hZ eh10 Es15
  obtain ⟨_, _, ⟨T13, L13, k13, n13⟩, -, X13, ⟨Lc13, hQ13, l13, y13, z13⟩, st13⟩ := X10.virtualBack hx (y := (⟨"java/lang/String", "charAt", "(I)C"⟩ : MethodName)) (z := (⟨"java/lang/String", "charAt", "(I)C"⟩ : MethodName)) hown (mvT hZ (hw _ (List.mem_of_getElem? (i := 209) rfl))) (mvT hZ (hw _ (List.mem_of_getElem? (i := 210) rfl))) (notFace_of_selects (args := #[]) (mvT hZ (hw _ (List.mem_of_getElem? (i := 212) rfl)))) (mvT hZ (hw _ (List.mem_of_getElem? (i := 212) rfl))) (mvT hZ (hw _ (List.mem_of_getElem? (i := 211) rfl))) (by decide) (StrChars.Road.chN (W := 0) hZ hws14 (kI := 4) (hw _ (List.mem_of_getElem? (i := 6) rfl)) (i := 3) (j := ((1 : Int32) + (2 : Int32))) Es15 Vs15 Cs15 As15 (StrChars.Road.codOf rfl (fun c hc => (hp15 c hc).2)) (own_up hp15) (own_staK SCS O0) hzc (own_staK SFM O0) rfm l215 (by show _ < 4; decide) (by decide) (by decide) (by decide)) q13a q13c (g := (mkF m 41 #[.val (.ref rr), .val (.ref ss), .val (.int (1 : Int32))] [(.int ((1 : Int32) + (2 : Int32))), (.ref rr)])) rfl (by rw [hml]; rfl) (Steps.refl _) (argsL := [(.int ((1 : Int32) + (2 : Int32)))]) (rest := []) (lenOf own_pd_x28Ix29C rfl) rfl (by show 2 * 0 + _ ≤ _; exact Nat.le_of_eq rfl) (hb hby own_d37_41) (fun _ _ => ⟨rfl, eh10, (by decide : 0 + 0 ≤ _), (by decide : 0 + 0 ≤ _)⟩)
  dsimp only [Pt.U, Pt.locs, Pt.cells, Pt.slots] at X13 l13 y13 z13 st13 hQ13
  subst l13 y13 z13
  obtain ⟨rfl, rfl, eh13⟩ := hQ13
  have N13 := Fr.app N10 (Fr.nil n0)
  refine OwnFin.adv (B := T13.setTop (mkF m 44 #[.val (.ref rr), .val (.ref ss), .val (.int (1 : Int32))] [(.int (([(35 : Int32), (123 : Int32), d0, (125 : Int32)]).getD (3) 0))])) (fun _ k => st13.trans k) ?_
  refine OwnFin.adv (B := T13.setTop (mkF m 46 #[.val (.ref rr), .val (.ref ss), .val (.int (1 : Int32))] [(.int (125 : Int32)), (.int (([(35 : Int32), (123 : Int32), d0, (125 : Int32)]).getD (3) 0))])) (fun _ k => XS.bipush X13.here hx rfl (hb hby own_d37_44) k) ?_
  have hc46_26 : (([(35 : Int32), (123 : Int32), d0, (125 : Int32)]).getD (3) 0) = (125 : Int32) := rfl
  refine OwnFin.adv (B := T13.setTop (mkF m 51 #[.val (.ref rr), .val (.ref ss), .val (.int (1 : Int32))] [])) (fun _ k => XS.icmpYes X13.here hx rfl (pc0 := 46) (pc' := 51) rfl (hb hby own_d37_46) rfl (teq hc46_26).1 (by decide) (by decide) k) ?_
  refine OwnFin.adv (B := T13.setTop (mkF m 52 #[.val (.ref rr), .val (.ref ss), .val (.int (1 : Int32))] [(.int (1 : Int32))])) (fun _ k => XS.iloadN X13.here hx rfl (hb hby own_d37_51) rfl k) ?_
  have hc52_28 : (0 : Int32) < (1 : Int32) := by decide
  refine OwnFin.adv (B := T13.setTop (mkF m 55 #[.val (.ref rr), .val (.ref ss), .val (.int (1 : Int32))] [])) (fun _ k => XS.ifNo X13.here hx rfl (hb hby own_d37_52) rfl ((if0 _ _).trans (tlt hc52_28).2.2.2) k) ?_
  refine OwnFin.adv (B := T13.setTop (mkF m 56 #[.val (.ref rr), .val (.ref ss), .val (.int (1 : Int32))] [(.ref rr)])) (fun _ k => XS.aloadN X13.here hx rfl (hb hby own_d37_55) rfl rfl k) ?_
  refine OwnFin.adv (B := T13.setTop (mkF m 57 #[.val (.ref rr), .val (.ref ss), .val (.int (1 : Int32))] [(.int (2 : Int32)), (.ref rr)])) (fun _ k => XS.iconst X13.here hx rfl (hb hby own_d37_56) k) ?_
  have hws17 : ∀ d ∈ StrChars.Road.wordsChN, d.before a0 Z = true := fun d hd => hw d ((by decide +kernel : ∀ d ∈ StrChars.Road.wordsChN, d ∈ tables_1) d hd)
  obtain ⟨ts18, ks18, Es18, Vs18, Cs18, As18, lx18, lt18, hp18, l218⟩ := id Fr1
  have lx18 := own_lt lx18
  have lt18 := own_lt lt18
  have ltx18 := own_lt Es18.lt
  have ltt18 := own_lt As18.lt
  obtain ⟨cq16, kq16, q16a, q16b, q16c⟩ := isOf hZ eh13 Es18
  obtain ⟨_, _, ⟨T16, L16, k16, n16⟩, -, X16, ⟨Lc16, hQ16, l16, y16, z16⟩, st16⟩ := X13.virtualBack hx (y := (⟨"java/lang/String", "charAt", "(I)C"⟩ : MethodName)) (z := (⟨"java/lang/String", "charAt", "(I)C"⟩ : MethodName)) hown (mvT hZ (hw _ (List.mem_of_getElem? (i := 209) rfl))) (mvT hZ (hw _ (List.mem_of_getElem? (i := 210) rfl))) (notFace_of_selects (args := #[]) (mvT hZ (hw _ (List.mem_of_getElem? (i := 212) rfl)))) (mvT hZ (hw _ (List.mem_of_getElem? (i := 212) rfl))) (mvT hZ (hw _ (List.mem_of_getElem? (i := 211) rfl))) (by decide) (StrChars.Road.chN (W := 0) hZ hws17 (kI := 4) (hw _ (List.mem_of_getElem? (i := 6) rfl)) (i := 2) (j := (2 : Int32)) Es18 Vs18 Cs18 As18 (StrChars.Road.codOf rfl (fun c hc => (hp18 c hc).2)) (own_up hp18) (own_staK SCS O0) hzc (own_staK SFM O0) rfm l218 (by show _ < 4; decide) (by decide) (by decide) (by decide)) q16a q16c (g := (mkF m 57 #[.val (.ref rr), .val (.ref ss), .val (.int (1 : Int32))] [(.int (2 : Int32)), (.ref rr)])) rfl (by rw [hml]; rfl) (Steps.refl _) (argsL := [(.int (2 : Int32))]) (rest := []) (lenOf own_pd_x28Ix29C rfl) rfl (by show 2 * 0 + _ ≤ _; exact Nat.le_of_eq rfl) (hb hby own_d37_57) (fun _ _ => ⟨rfl, eh13, (by decide : 0 + 0 ≤ _), (by decide : 0 + 0 ≤ _)⟩)
  dsimp only [Pt.U, Pt.locs, Pt.cells, Pt.slots] at X16 l16 y16 z16 st16 hQ16
  subst l16 y16 z16
  obtain ⟨rfl, rfl, eh16⟩ := hQ16
  have N16 := Fr.app N13 (Fr.nil n0)
  refine OwnFin.adv (B := T16.setTop (mkF m 60 #[.val (.ref rr), .val (.ref ss), .val (.int (1 : Int32))] [(.int (([(35 : Int32), (123 : Int32), d0, (125 : Int32)]).getD (2) 0))])) (fun _ k => st16.trans k) ?_
  refine OwnFin.adv (B := T16.setTop (mkF m 61 #[.val (.ref rr), .val (.ref ss), .val (.int (1 : Int32))] [(.ref ss), (.int (([(35 : Int32), (123 : Int32), d0, (125 : Int32)]).getD (2) 0))])) (fun _ k => XS.aloadN X16.here hx rfl (hb hby own_d37_60) rfl rfl k) ?_
  refine OwnFin.adv (B := T16.setTop (mkF m 62 #[.val (.ref rr), .val (.ref ss), .val (.int (1 : Int32))] [(.int (0 : Int32)), (.ref ss), (.int (([(35 : Int32), (123 : Int32), d0, (125 : Int32)]).getD (2) 0))])) (fun _ k => XS.iconst X16.here hx rfl (hb hby own_d37_61) k) ?_
  have hws20 : ∀ d ∈ StrChars.Road.wordsChN, d.before a0 Z = true := fun d hd => hw d ((by decide +kernel : ∀ d ∈ StrChars.Road.wordsChN, d ∈ tables_1) d hd)
  obtain ⟨ts21, ks21, Es21, Vs21, Cs21, As21, lx21, lt21, hp21, l221⟩ := id Fs1
  have lx21 := own_lt lx21
  have lt21 := own_lt lt21
  have ltx21 := own_lt Es21.lt
  have ltt21 := own_lt As21.lt
  obtain ⟨cq19, kq19, q19a, q19b, q19c⟩ := isOf hZ eh16 Es21
  obtain ⟨_, _, ⟨T19, L19, k19, n19⟩, -, X19, ⟨Lc19, hQ19, l19, y19, z19⟩, st19⟩ := X16.virtualBack hx (y := (⟨"java/lang/String", "charAt", "(I)C"⟩ : MethodName)) (z := (⟨"java/lang/String", "charAt", "(I)C"⟩ : MethodName)) hown (mvT hZ (hw _ (List.mem_of_getElem? (i := 209) rfl))) (mvT hZ (hw _ (List.mem_of_getElem? (i := 210) rfl))) (notFace_of_selects (args := #[]) (mvT hZ (hw _ (List.mem_of_getElem? (i := 212) rfl)))) (mvT hZ (hw _ (List.mem_of_getElem? (i := 212) rfl))) (mvT hZ (hw _ (List.mem_of_getElem? (i := 211) rfl))) (by decide) (StrChars.Road.chN (W := 1) hZ hws20 (kI := 4) (hw _ (List.mem_of_getElem? (i := 6) rfl)) (i := 0) (j := (0 : Int32)) Es21 Vs21 Cs21 As21 (StrChars.Road.codOf rfl (fun c hc => (hp21 c hc).2)) (own_up hp21) (own_staK SCS O0) hzc (own_staK SFM O0) rfm l221 (by show _ < 1; decide) (by decide) (by decide) (by decide)) q19a q19c (g := (mkF m 62 #[.val (.ref rr), .val (.ref ss), .val (.int (1 : Int32))] [(.int (0 : Int32)), (.ref ss), (.int (([(35 : Int32), (123 : Int32), d0, (125 : Int32)]).getD (2) 0))])) rfl (by rw [hml]; rfl) (Steps.refl _) (argsL := [(.int (0 : Int32))]) (rest := [(.int (([(35 : Int32), (123 : Int32), d0, (125 : Int32)]).getD (2) 0))]) (lenOf own_pd_x28Ix29C rfl) rfl (by show 2 * 0 + _ ≤ _; exact Nat.le_of_eq rfl) (hb hby own_d37_62) (fun _ _ => ⟨rfl, eh16, (by decide : 0 + 0 ≤ _), (by decide : 0 + 0 ≤ _)⟩)
  dsimp only [Pt.U, Pt.locs, Pt.cells, Pt.slots] at X19 l19 y19 z19 st19 hQ19
  subst l19 y19 z19
  obtain ⟨rfl, rfl, eh19⟩ := hQ19
  have N19 := Fr.app N16 (Fr.nil n0)
  refine OwnFin.adv (B := T19.setTop (mkF m 65 #[.val (.ref rr), .val (.ref ss), .val (.int (1 : Int32))] [(.int (([d0]).getD (0) 0)), (.int (([(35 : Int32), (123 : Int32), d0, (125 : Int32)]).getD (2) 0))])) (fun _ k => st19.trans k) ?_
  have hc65_35 : (([(35 : Int32), (123 : Int32), d0, (125 : Int32)]).getD (2) 0) = (([d0]).getD (0) 0) := rfl
  refine OwnFin.adv (B := T19.setTop (mkF m 70 #[.val (.ref rr), .val (.ref ss), .val (.int (1 : Int32))] [])) (fun _ k => XS.icmpYes X19.here hx rfl (pc0 := 65) (pc' := 70) rfl (hb hby own_d37_65) rfl (teq hc65_35).1 (by decide) (by decide) k) ?_
  refine OwnFin.adv (B := T19.setTop (mkF m 71 #[.val (.ref rr), .val (.ref ss), .val (.int (1 : Int32))] [(.int (1 : Int32))])) (fun _ k => XS.iloadN X19.here hx rfl (hb hby own_d37_70) rfl k) ?_
  refine OwnFin.adv (B := T19.setTop (mkF m 72 #[.val (.ref rr), .val (.ref ss), .val (.int (1 : Int32))] [(.int (1 : Int32)), (.int (1 : Int32))])) (fun _ k => XS.iconst X19.here hx rfl (hb hby own_d37_71) k) ?_
  have hc72_38 : ¬ ((1 : Int32) < (1 : Int32)) := by decide
  refine OwnFin.adv (B := T19.setTop (mkF m 90 #[.val (.ref rr), .val (.ref ss), .val (.int (1 : Int32))] [])) (fun _ k => XS.icmpYes X19.here hx rfl (pc0 := 72) (pc' := 90) rfl (hb hby own_d37_72) rfl (flt hc72_38).2.2.2 (by decide) (by decide) k) ?_
  refine OwnFin.adv (B := T19.setTop (mkF m 91 #[.val (.ref rr), .val (.ref ss), .val (.int (1 : Int32))] [(.int (1 : Int32))])) (fun _ k => XS.iloadN X19.here hx rfl (hb hby own_d37_90) rfl k) ?_
  refine OwnFin.adv (B := T19.setTop (mkF m 92 #[.val (.ref rr), .val (.ref ss), .val (.int (1 : Int32))] [(.int (2 : Int32)), (.int (1 : Int32))])) (fun _ k => XS.iconst X19.here hx rfl (hb hby own_d37_91) k) ?_
  have hc92_41 : ¬ ((2 : Int32) < (1 : Int32)) := by decide
  refine OwnFin.adv (B := T19.setTop (mkF m 110 #[.val (.ref rr), .val (.ref ss), .val (.int (1 : Int32))] [])) (fun _ k => XS.icmpYes X19.here hx rfl (pc0 := 92) (pc' := 110) rfl (hb hby own_d37_92) rfl (flt hc92_41).2.2.2 (by decide) (by decide) k) ?_
  refine OwnFin.adv (B := T19.setTop (mkF m 111 #[.val (.ref rr), .val (.ref ss), .val (.int (1 : Int32))] [(.int (1 : Int32))])) (fun _ k => XS.iconst X19.here hx rfl (hb hby own_d37_110) k) ?_
  obtain ⟨fs, hr, hrun, hended, hW, hsame⟩ := X19.leave (v := some (.int (1 : Int32))) (fun h => by rw [Bd.returns] at h; cases h)
  refine OwnFin.leaf hP' ⟨_, _, retN X19 hx (t := .boolean) Bd.returns (by simp) (hb hby own_d37_111) hr, hrun, hended, _, _, rfl, ?_, ⟨_, rfl⟩, hW, hsame.mono (by decide) (by decide)⟩
  exact ⟨rfl, N19, eh19⟩
theorem own_d37_75 : decode method_3_code 75 = .ok (.aload_n 0, 1) := by decide +kernel
theorem own_d37_76 : decode method_3_code 76 = .ok (.iconst 3, 1) := by decide +kernel
theorem own_d37_77 : decode method_3_code 77 = .ok (.invokevirtual 16, 3) := by decide +kernel
theorem own_d37_80 : decode method_3_code 80 = .ok (.aload_n 1, 1) := by decide +kernel
theorem own_d37_81 : decode method_3_code 81 = .ok (.iconst 1, 1) := by decide +kernel
theorem own_d37_82 : decode method_3_code 82 = .ok (.invokevirtual 16, 3) := by decide +kernel
theorem own_d37_85 : decode method_3_code 85 = .ok (.if_icmp .eq 5, 3) := by decide +kernel
theorem own_ef_shape2 (m : MethodId) (x0 : Addr) (x1 : Addr) : entryFrame m #[(.ref x0), (.ref x1)] 3 = mkF m 0 #[.val (.ref x0), .val (.ref x1), .unset] [] := by first | (simp [entryFrame, mkF, argsToLocals, Value.category]; done) | rfl
def own_Q_shape2 (Z : State) (rr ss : Addr) (zc : Int32) (fm : Value) (lr ls : Nat) (d0 d1 : Int32) (h0 : Heap) (n0 : Nat) (v : Option Value) (h : Heap) (L : List Loc) : Prop := v = some (.int (1 : Int32)) ∧ Fr n0 L ∧ h = h0
set_option maxRecDepth 65536 in
set_option maxHeartbeats 40000000 in
theorem own_shape2 (l : Launch) (Z : State) (a0 : Array Value) (hw : ∀ d ∈ tables_1, d.before a0 Z = true) (ws : List Jvm.Cond) (rr ss : Addr) (zc : Int32) (fm : Value) (lr ls : Nat) (d0 d1 : Int32) (h0 : Heap) (n0 : Nat) (Z0 : n0 ≤ h0.size) (O0 : Old Z n0 h0) (SCS : Sta Z Z.heap "java/lang/String" "COMPACT_STRINGS" "Z" (.int zc)) (hzc : ¬ zc = 0) (SFM : Sta Z Z.heap "jdk/internal/util/Preconditions" "SIOOBE_FORMATTER" "Ljava/util/function/BiFunction;" fm) (rfm : fm.isRef = true) (Fr1 : OwnS Z h0 lr rr [(35 : Int32), (123 : Int32), d0, d1, (125 : Int32)]) (Fs1 : OwnS Z h0 ls ss [d0, d1]) :
    MetFree l (⟨"com/example/raccordo/raccordo/sql/SqlTokenParameterPinLaw", "shape", "(Ljava/lang/String;Ljava/lang/String;)Z"⟩ : MethodName) (head1 (Jvm.Cond.code (⟨"com/example/raccordo/raccordo/sql/SqlTokenParameterPinLaw", "shape", "(Ljava/lang/String;Ljava/lang/String;)Z"⟩ : MethodName) method_3_code 3 (some .boolean) :: ws) ({ frames := 5, cells := 0, slots := 0, locals := 80 } : Room)) (fun A0 U0 => A0 = #[(.ref rr), (.ref ss)] ∧ Z.Warmed39 U0.vm ∧ U0.heap = h0) (fun _ _ _ _ _ => True) (fun _ U0 o0 U1 => ∃ v0 L0, o0 = .returned v0 ∧ own_Q_shape2 Z rr ss zc fm lr ls d0 d1 h0 n0 v0 U1.heap L0 ∧ FrameEnd U0 o0 U1 L0 ({ frames := 5, cells := 0, slots := 0, locals := 80 } : Room).cells ({ frames := 5, cells := 0, slots := 0, locals := 80 } : Room).slots) := by
  refine MetFree.of_bodySF (plainFor_of_name own_pn_com_example_raccordo_raccordo_sql_SqlTokenParameterPinLaw) hisR ?_
  intro p e s m args below meth c s₁ Bd hml0 hP hK
  obtain ⟨rfl, hZ, hh⟩ := hP
  have hZs := hZ
  have hx := Bd.exec
  have hby := Bd.bytes
  have hml : c.maxLocals = 3 := hml0
  have hown : s.vm.findClass "com/example/raccordo/raccordo/sql/SqlTokenParameterPinLaw" = some m.cls := findClass_of_methodNamed Bd.named
  have hnm := (name_of_methodNamed Bd.named Bd.method).1
  have X0 : Stand p l e ({ frames := 5, cells := 0, slots := 0, locals := 80 } : Room) s m #[(.ref rr), (.ref ss)] below meth c s₁ [] 0 0 := Stand.of_body Bd
  have e0 : s₁.heap = h0 := by rw [← hh, Bd.state]; rfl
  have N0 := Fr.nil n0
  refine OwnFin.entry (own_ef_shape2 m rr ss) (fun P' hP' => ?_)
  refine OwnFin.adv (B := s₁.setTop (mkF m 1 #[.val (.ref rr), .val (.ref ss), .unset] [(.ref ss)])) (fun _ k => XS.aloadN X0.here hx rfl (hb hby own_d37_0) rfl rfl k) ?_
  have hws2 : ∀ d ∈ StrChars.Road.wordsLen, d.before a0 Z = true := fun d hd => hw d ((by decide +kernel : ∀ d ∈ StrChars.Road.wordsLen, d ∈ tables_1) d hd)
  obtain ⟨ts3, ks3, Es3, Vs3, Cs3, As3, lx3, lt3, hp3, l23⟩ := id Fs1
  have lx3 := own_lt lx3
  have lt3 := own_lt lt3
  have ltx3 := own_lt Es3.lt
  have ltt3 := own_lt As3.lt
  obtain ⟨cq1, kq1, q1a, q1b, q1c⟩ := isOf hZ e0 Es3
  obtain ⟨_, _, ⟨T1, L1, k1, n1⟩, -, X1, ⟨Lc1, hQ1, l1, y1, z1⟩, st1⟩ := X0.virtualBack hx (y := (⟨"java/lang/String", "length", "()I"⟩ : MethodName)) (z := (⟨"java/lang/String", "length", "()I"⟩ : MethodName)) hown (mvT hZ (hw _ (List.mem_of_getElem? (i := 208) rfl))) (mvT hZ (hw _ (List.mem_of_getElem? (i := 123) rfl))) (notFace_of_selects (args := #[]) (mvT hZ (hw _ (List.mem_of_getElem? (i := 125) rfl)))) (mvT hZ (hw _ (List.mem_of_getElem? (i := 125) rfl))) (mvT hZ (hw _ (List.mem_of_getElem? (i := 124) rfl))) (by decide) (StrChars.Road.lenW (W := 0) hZ hws2 (kI := 4) (hw _ (List.mem_of_getElem? (i := 6) rfl)) Es3 Vs3 Cs3 As3 (StrChars.Road.codOf rfl (fun c hc => (hp3 c hc).2)) (own_up hp3) (own_staK SCS O0) hzc l23 (by decide) (by decide)) q1a q1c (g := (mkF m 1 #[.val (.ref rr), .val (.ref ss), .unset] [(.ref ss)])) rfl (by rw [hml]; rfl) (Steps.refl _) (argsL := []) (rest := []) (lenOf own_pd_x28x29I rfl) rfl (by show 2 * 0 + _ ≤ _; exact Nat.le_of_eq rfl) (hb hby own_d37_1) (fun _ _ => ⟨rfl, e0, (by decide : 0 + 0 ≤ _), (by decide : 0 + 0 ≤ _)⟩)
  dsimp only [Pt.U, Pt.locs, Pt.cells, Pt.slots] at X1 l1 y1 z1 st1 hQ1
  subst l1 y1 z1
  obtain ⟨rfl, rfl, eh1⟩ := hQ1
  have N1 := Fr.app N0 (Fr.nil n0)
  refine OwnFin.adv (B := T1.setTop (mkF m 4 #[.val (.ref rr), .val (.ref ss), .unset] [(.int (Int32.ofNat ([d0, d1]).length))])) (fun _ k => st1.trans k) ?_
  rw [show ((Int32.ofNat ([d0, d1]).length) : Int32) = (2 : Int32) from rfl]
  refine OwnFin.adv (B := T1.setTop (mkF m 5 #[.val (.ref rr), .val (.ref ss), .val (.int (2 : Int32))] [])) (fun _ k => XS.istoreN X1.here hx rfl (hb hby own_d37_4) rfl (l' := #[.val (.ref rr), .val (.ref ss), .val (.int (2 : Int32))]) rfl k) ?_
  refine OwnFin.adv (B := T1.setTop (mkF m 6 #[.val (.ref rr), .val (.ref ss), .val (.int (2 : Int32))] [(.ref rr)])) (fun _ k => XS.aloadN X1.here hx rfl (hb hby own_d37_5) rfl rfl k) ?_
  have hws5 : ∀ d ∈ StrChars.Road.wordsLen, d.before a0 Z = true := fun d hd => hw d ((by decide +kernel : ∀ d ∈ StrChars.Road.wordsLen, d ∈ tables_1) d hd)
  obtain ⟨ts6, ks6, Es6, Vs6, Cs6, As6, lx6, lt6, hp6, l26⟩ := id Fr1
  have lx6 := own_lt lx6
  have lt6 := own_lt lt6
  have ltx6 := own_lt Es6.lt
  have ltt6 := own_lt As6.lt
  obtain ⟨cq4, kq4, q4a, q4b, q4c⟩ := isOf hZ eh1 Es6
  obtain ⟨_, _, ⟨T4, L4, k4, n4⟩, -, X4, ⟨Lc4, hQ4, l4, y4, z4⟩, st4⟩ := X1.virtualBack hx (y := (⟨"java/lang/String", "length", "()I"⟩ : MethodName)) (z := (⟨"java/lang/String", "length", "()I"⟩ : MethodName)) hown (mvT hZ (hw _ (List.mem_of_getElem? (i := 208) rfl))) (mvT hZ (hw _ (List.mem_of_getElem? (i := 123) rfl))) (notFace_of_selects (args := #[]) (mvT hZ (hw _ (List.mem_of_getElem? (i := 125) rfl)))) (mvT hZ (hw _ (List.mem_of_getElem? (i := 125) rfl))) (mvT hZ (hw _ (List.mem_of_getElem? (i := 124) rfl))) (by decide) (StrChars.Road.lenW (W := 0) hZ hws5 (kI := 4) (hw _ (List.mem_of_getElem? (i := 6) rfl)) Es6 Vs6 Cs6 As6 (StrChars.Road.codOf rfl (fun c hc => (hp6 c hc).2)) (own_up hp6) (own_staK SCS O0) hzc l26 (by decide) (by decide)) q4a q4c (g := (mkF m 6 #[.val (.ref rr), .val (.ref ss), .val (.int (2 : Int32))] [(.ref rr)])) rfl (by rw [hml]; rfl) (Steps.refl _) (argsL := []) (rest := []) (lenOf own_pd_x28x29I rfl) rfl (by show 2 * 0 + _ ≤ _; exact Nat.le_of_eq rfl) (hb hby own_d37_6) (fun _ _ => ⟨rfl, eh1, (by decide : 0 + 0 ≤ _), (by decide : 0 + 0 ≤ _)⟩)
  dsimp only [Pt.U, Pt.locs, Pt.cells, Pt.slots] at X4 l4 y4 z4 st4 hQ4
  subst l4 y4 z4
  obtain ⟨rfl, rfl, eh4⟩ := hQ4
  have N4 := Fr.app N1 (Fr.nil n0)
  refine OwnFin.adv (B := T4.setTop (mkF m 9 #[.val (.ref rr), .val (.ref ss), .val (.int (2 : Int32))] [(.int (Int32.ofNat ([(35 : Int32), (123 : Int32), d0, d1, (125 : Int32)]).length))])) (fun _ k => st4.trans k) ?_
  rw [show ((Int32.ofNat ([(35 : Int32), (123 : Int32), d0, d1, (125 : Int32)]).length) : Int32) = (5 : Int32) from rfl]
  refine OwnFin.adv (B := T4.setTop (mkF m 10 #[.val (.ref rr), .val (.ref ss), .val (.int (2 : Int32))] [(.int (2 : Int32)), (.int (5 : Int32))])) (fun _ k => XS.iloadN X4.here hx rfl (hb hby own_d37_9) rfl k) ?_
  refine OwnFin.adv (B := T4.setTop (mkF m 11 #[.val (.ref rr), .val (.ref ss), .val (.int (2 : Int32))] [(.int (3 : Int32)), (.int (2 : Int32)), (.int (5 : Int32))])) (fun _ k => XS.iconst X4.here hx rfl (hb hby own_d37_10) k) ?_
  refine OwnFin.adv (B := T4.setTop (mkF m 12 #[.val (.ref rr), .val (.ref ss), .val (.int (2 : Int32))] [(.int ((2 : Int32) + (3 : Int32))), (.int (5 : Int32))])) (fun _ k => XS.iadd X4.here hx rfl (hb hby own_d37_11) rfl k) ?_
  have hc12_9 : (5 : Int32) = ((2 : Int32) + (3 : Int32)) := by decide
  refine OwnFin.adv (B := T4.setTop (mkF m 17 #[.val (.ref rr), .val (.ref ss), .val (.int (2 : Int32))] [])) (fun _ k => XS.icmpYes X4.here hx rfl (pc0 := 12) (pc' := 17) rfl (hb hby own_d37_12) rfl (teq hc12_9).1 (by decide) (by decide) k) ?_
  refine OwnFin.adv (B := T4.setTop (mkF m 18 #[.val (.ref rr), .val (.ref ss), .val (.int (2 : Int32))] [(.ref rr)])) (fun _ k => XS.aloadN X4.here hx rfl (hb hby own_d37_17) rfl rfl k) ?_
  refine OwnFin.adv (B := T4.setTop (mkF m 19 #[.val (.ref rr), .val (.ref ss), .val (.int (2 : Int32))] [(.int (0 : Int32)), (.ref rr)])) (fun _ k => XS.iconst X4.here hx rfl (hb hby own_d37_18) k) ?_
  have hws8 : ∀ d ∈ StrChars.Road.wordsChN, d.before a0 Z = true := fun d hd => hw d ((by decide +kernel : ∀ d ∈ StrChars.Road.wordsChN, d ∈ tables_1) d hd)
  obtain ⟨ts9, ks9, Es9, Vs9, Cs9, As9, lx9, lt9, hp9, l29⟩ := id Fr1
  have lx9 := own_lt lx9
  have lt9 := own_lt lt9
  have ltx9 := own_lt Es9.lt
  have ltt9 := own_lt As9.lt
  obtain ⟨cq7, kq7, q7a, q7b, q7c⟩ := isOf hZ eh4 Es9
  obtain ⟨_, _, ⟨T7, L7, k7, n7⟩, -, X7, ⟨Lc7, hQ7, l7, y7, z7⟩, st7⟩ := X4.virtualBack hx (y := (⟨"java/lang/String", "charAt", "(I)C"⟩ : MethodName)) (z := (⟨"java/lang/String", "charAt", "(I)C"⟩ : MethodName)) hown (mvT hZ (hw _ (List.mem_of_getElem? (i := 209) rfl))) (mvT hZ (hw _ (List.mem_of_getElem? (i := 210) rfl))) (notFace_of_selects (args := #[]) (mvT hZ (hw _ (List.mem_of_getElem? (i := 212) rfl)))) (mvT hZ (hw _ (List.mem_of_getElem? (i := 212) rfl))) (mvT hZ (hw _ (List.mem_of_getElem? (i := 211) rfl))) (by decide) (StrChars.Road.chN (W := 0) hZ hws8 (kI := 4) (hw _ (List.mem_of_getElem? (i := 6) rfl)) (i := 0) (j := (0 : Int32)) Es9 Vs9 Cs9 As9 (StrChars.Road.codOf rfl (fun c hc => (hp9 c hc).2)) (own_up hp9) (own_staK SCS O0) hzc (own_staK SFM O0) rfm l29 (by show _ < 5; decide) (by decide) (by decide) (by decide)) q7a q7c (g := (mkF m 19 #[.val (.ref rr), .val (.ref ss), .val (.int (2 : Int32))] [(.int (0 : Int32)), (.ref rr)])) rfl (by rw [hml]; rfl) (Steps.refl _) (argsL := [(.int (0 : Int32))]) (rest := []) (lenOf own_pd_x28Ix29C rfl) rfl (by show 2 * 0 + _ ≤ _; exact Nat.le_of_eq rfl) (hb hby own_d37_19) (fun _ _ => ⟨rfl, eh4, (by decide : 0 + 0 ≤ _), (by decide : 0 + 0 ≤ _)⟩)
  dsimp only [Pt.U, Pt.locs, Pt.cells, Pt.slots] at X7 l7 y7 z7 st7 hQ7
  subst l7 y7 z7
  obtain ⟨rfl, rfl, eh7⟩ := hQ7
  have N7 := Fr.app N4 (Fr.nil n0)
  refine OwnFin.adv (B := T7.setTop (mkF m 22 #[.val (.ref rr), .val (.ref ss), .val (.int (2 : Int32))] [(.int (([(35 : Int32), (123 : Int32), d0, d1, (125 : Int32)]).getD (0) 0))])) (fun _ k => st7.trans k) ?_
  refine OwnFin.adv (B := T7.setTop (mkF m 24 #[.val (.ref rr), .val (.ref ss), .val (.int (2 : Int32))] [(.int (35 : Int32)), (.int (([(35 : Int32), (123 : Int32), d0, d1, (125 : Int32)]).getD (0) 0))])) (fun _ k => XS.bipush X7.here hx rfl (hb hby own_d37_22) k) ?_
  have hc24_14 : (([(35 : Int32), (123 : Int32), d0, d1, (125 : Int32)]).getD (0) 0) = (35 : Int32) := rfl
  refine OwnFin.adv (B := T7.setTop (mkF m 27 #[.val (.ref rr), .val (.ref ss), .val (.int (2 : Int32))] [])) (fun _ k => XS.icmpNo X7.here hx rfl (hb hby own_d37_24) rfl (teq hc24_14).2 k) ?_
  refine OwnFin.adv (B := T7.setTop (mkF m 28 #[.val (.ref rr), .val (.ref ss), .val (.int (2 : Int32))] [(.ref rr)])) (fun _ k => XS.aloadN X7.here hx rfl (hb hby own_d37_27) rfl rfl k) ?_
  refine OwnFin.adv (B := T7.setTop (mkF m 29 #[.val (.ref rr), .val (.ref ss), .val (.int (2 : Int32))] [(.int (1 : Int32)), (.ref rr)])) (fun _ k => XS.iconst X7.here hx rfl (hb hby own_d37_28) k) ?_
  have hws11 : ∀ d ∈ StrChars.Road.wordsChN, d.before a0 Z = true := fun d hd => hw d ((by decide +kernel : ∀ d ∈ StrChars.Road.wordsChN, d ∈ tables_1) d hd)
  obtain ⟨ts12, ks12, Es12, Vs12, Cs12, As12, lx12, lt12, hp12, l212⟩ := id Fr1
  have lx12 := own_lt lx12
  have lt12 := own_lt lt12
  have ltx12 := own_lt Es12.lt
  have ltt12 := own_lt As12.lt
  obtain ⟨cq10, kq10, q10a, q10b, q10c⟩ := isOf hZ eh7 Es12
  obtain ⟨_, _, ⟨T10, L10, k10, n10⟩, -, X10, ⟨Lc10, hQ10, l10, y10, z10⟩, st10⟩ := X7.virtualBack hx (y := (⟨"java/lang/String", "charAt", "(I)C"⟩ : MethodName)) (z := (⟨"java/lang/String", "charAt", "(I)C"⟩ : MethodName)) hown (mvT hZ (hw _ (List.mem_of_getElem? (i := 209) rfl))) (mvT hZ (hw _ (List.mem_of_getElem? (i := 210) rfl))) (notFace_of_selects (args := #[]) (mvT hZ (hw _ (List.mem_of_getElem? (i := 212) rfl)))) (mvT hZ (hw _ (List.mem_of_getElem? (i := 212) rfl))) (mvT hZ (hw _ (List.mem_of_getElem? (i := 211) rfl))) (by decide) (StrChars.Road.chN (W := 0) hZ hws11 (kI := 4) (hw _ (List.mem_of_getElem? (i := 6) rfl)) (i := 1) (j := (1 : Int32)) Es12 Vs12 Cs12 As12 (StrChars.Road.codOf rfl (fun c hc => (hp12 c hc).2)) (own_up hp12) (own_staK SCS O0) hzc (own_staK SFM O0) rfm l212 (by show _ < 5; decide) (by decide) (by decide) (by decide)) q10a q10c (g := (mkF m 29 #[.val (.ref rr), .val (.ref ss), .val (.int (2 : Int32))] [(.int (1 : Int32)), (.ref rr)])) rfl (by rw [hml]; rfl) (Steps.refl _) (argsL := [(.int (1 : Int32))]) (rest := []) (lenOf own_pd_x28Ix29C rfl) rfl (by show 2 * 0 + _ ≤ _; exact Nat.le_of_eq rfl) (hb hby own_d37_29) (fun _ _ => ⟨rfl, eh7, (by decide : 0 + 0 ≤ _), (by decide : 0 + 0 ≤ _)⟩)
  dsimp only [Pt.U, Pt.locs, Pt.cells, Pt.slots] at X10 l10 y10 z10 st10 hQ10
  subst l10 y10 z10
  obtain ⟨rfl, rfl, eh10⟩ := hQ10
  have N10 := Fr.app N7 (Fr.nil n0)
  refine OwnFin.adv (B := T10.setTop (mkF m 32 #[.val (.ref rr), .val (.ref ss), .val (.int (2 : Int32))] [(.int (([(35 : Int32), (123 : Int32), d0, d1, (125 : Int32)]).getD (1) 0))])) (fun _ k => st10.trans k) ?_
  refine OwnFin.adv (B := T10.setTop (mkF m 34 #[.val (.ref rr), .val (.ref ss), .val (.int (2 : Int32))] [(.int (123 : Int32)), (.int (([(35 : Int32), (123 : Int32), d0, d1, (125 : Int32)]).getD (1) 0))])) (fun _ k => XS.bipush X10.here hx rfl (hb hby own_d37_32) k) ?_
  have hc34_19 : (([(35 : Int32), (123 : Int32), d0, d1, (125 : Int32)]).getD (1) 0) = (123 : Int32) := rfl
  refine OwnFin.adv (B := T10.setTop (mkF m 37 #[.val (.ref rr), .val (.ref ss), .val (.int (2 : Int32))] [])) (fun _ k => XS.icmpNo X10.here hx rfl (hb hby own_d37_34) rfl (teq hc34_19).2 k) ?_
  refine OwnFin.adv (B := T10.setTop (mkF m 38 #[.val (.ref rr), .val (.ref ss), .val (.int (2 : Int32))] [(.ref rr)])) (fun _ k => XS.aloadN X10.here hx rfl (hb hby own_d37_37) rfl rfl k) ?_
  refine OwnFin.adv (B := T10.setTop (mkF m 39 #[.val (.ref rr), .val (.ref ss), .val (.int (2 : Int32))] [(.int (2 : Int32)), (.ref rr)])) (fun _ k => XS.iloadN X10.here hx rfl (hb hby own_d37_38) rfl k) ?_
  refine OwnFin.adv (B := T10.setTop (mkF m 40 #[.val (.ref rr), .val (.ref ss), .val (.int (2 : Int32))] [(.int (2 : Int32)), (.int (2 : Int32)), (.ref rr)])) (fun _ k => XS.iconst X10.here hx rfl (hb hby own_d37_39) k) ?_
  refine OwnFin.adv (B := T10.setTop (mkF m 41 #[.val (.ref rr), .val (.ref ss), .val (.int (2 : Int32))] [(.int ((2 : Int32) + (2 : Int32))), (.ref rr)])) (fun _ k => XS.iadd X10.here hx rfl (hb hby own_d37_40) rfl k) ?_
  have hws14 : ∀ d ∈ StrChars.Road.wordsChN, d.before a0 Z = true := fun d hd => hw d ((by decide +kernel : ∀ d ∈ StrChars.Road.wordsChN, d ∈ tables_1) d hd)
  obtain ⟨ts15, ks15, Es15, Vs15, Cs15, As15, lx15, lt15, hp15, l215⟩ := id Fr1
  have lx15 := own_lt lx15
  have lt15 := own_lt lt15
  have ltx15 := own_lt Es15.lt
  have ltt15 := own_lt As15.lt
  obtain ⟨cq13, kq13, q13a, q13b, q13c⟩ := isOf hZ eh10 Es15
  obtain ⟨_, _, ⟨T13, L13, k13, n13⟩, -, X13, ⟨Lc13, hQ13, l13, y13, z13⟩, st13⟩ := X10.virtualBack hx (y := (⟨"java/lang/String", "charAt", "(I)C"⟩ : MethodName)) (z := (⟨"java/lang/String", "charAt", "(I)C"⟩ : MethodName)) hown (mvT hZ (hw _ (List.mem_of_getElem? (i := 209) rfl))) (mvT hZ (hw _ (List.mem_of_getElem? (i := 210) rfl))) (notFace_of_selects (args := #[]) (mvT hZ (hw _ (List.mem_of_getElem? (i := 212) rfl)))) (mvT hZ (hw _ (List.mem_of_getElem? (i := 212) rfl))) (mvT hZ (hw _ (List.mem_of_getElem? (i := 211) rfl))) (by decide) (StrChars.Road.chN (W := 0) hZ hws14 (kI := 4) (hw _ (List.mem_of_getElem? (i := 6) rfl)) (i := 4) (j := ((2 : Int32) + (2 : Int32))) Es15 Vs15 Cs15 As15 (StrChars.Road.codOf rfl (fun c hc => (hp15 c hc).2)) (own_up hp15) (own_staK SCS O0) hzc (own_staK SFM O0) rfm l215 (by show _ < 5; decide) (by decide) (by decide) (by decide)) q13a q13c (g := (mkF m 41 #[.val (.ref rr), .val (.ref ss), .val (.int (2 : Int32))] [(.int ((2 : Int32) + (2 : Int32))), (.ref rr)])) rfl (by rw [hml]; rfl) (Steps.refl _) (argsL := [(.int ((2 : Int32) + (2 : Int32)))]) (rest := []) (lenOf own_pd_x28Ix29C rfl) rfl (by show 2 * 0 + _ ≤ _; exact Nat.le_of_eq rfl) (hb hby own_d37_41) (fun _ _ => ⟨rfl, eh10, (by decide : 0 + 0 ≤ _), (by decide : 0 + 0 ≤ _)⟩)
  dsimp only [Pt.U, Pt.locs, Pt.cells, Pt.slots] at X13 l13 y13 z13 st13 hQ13
  subst l13 y13 z13
  obtain ⟨rfl, rfl, eh13⟩ := hQ13
  have N13 := Fr.app N10 (Fr.nil n0)
  refine OwnFin.adv (B := T13.setTop (mkF m 44 #[.val (.ref rr), .val (.ref ss), .val (.int (2 : Int32))] [(.int (([(35 : Int32), (123 : Int32), d0, d1, (125 : Int32)]).getD (4) 0))])) (fun _ k => st13.trans k) ?_
  refine OwnFin.adv (B := T13.setTop (mkF m 46 #[.val (.ref rr), .val (.ref ss), .val (.int (2 : Int32))] [(.int (125 : Int32)), (.int (([(35 : Int32), (123 : Int32), d0, d1, (125 : Int32)]).getD (4) 0))])) (fun _ k => XS.bipush X13.here hx rfl (hb hby own_d37_44) k) ?_
  have hc46_26 : (([(35 : Int32), (123 : Int32), d0, d1, (125 : Int32)]).getD (4) 0) = (125 : Int32) := rfl
  refine OwnFin.adv (B := T13.setTop (mkF m 51 #[.val (.ref rr), .val (.ref ss), .val (.int (2 : Int32))] [])) (fun _ k => XS.icmpYes X13.here hx rfl (pc0 := 46) (pc' := 51) rfl (hb hby own_d37_46) rfl (teq hc46_26).1 (by decide) (by decide) k) ?_
  refine OwnFin.adv (B := T13.setTop (mkF m 52 #[.val (.ref rr), .val (.ref ss), .val (.int (2 : Int32))] [(.int (2 : Int32))])) (fun _ k => XS.iloadN X13.here hx rfl (hb hby own_d37_51) rfl k) ?_
  have hc52_28 : (0 : Int32) < (2 : Int32) := by decide
  refine OwnFin.adv (B := T13.setTop (mkF m 55 #[.val (.ref rr), .val (.ref ss), .val (.int (2 : Int32))] [])) (fun _ k => XS.ifNo X13.here hx rfl (hb hby own_d37_52) rfl ((if0 _ _).trans (tlt hc52_28).2.2.2) k) ?_
  refine OwnFin.adv (B := T13.setTop (mkF m 56 #[.val (.ref rr), .val (.ref ss), .val (.int (2 : Int32))] [(.ref rr)])) (fun _ k => XS.aloadN X13.here hx rfl (hb hby own_d37_55) rfl rfl k) ?_
  refine OwnFin.adv (B := T13.setTop (mkF m 57 #[.val (.ref rr), .val (.ref ss), .val (.int (2 : Int32))] [(.int (2 : Int32)), (.ref rr)])) (fun _ k => XS.iconst X13.here hx rfl (hb hby own_d37_56) k) ?_
  have hws17 : ∀ d ∈ StrChars.Road.wordsChN, d.before a0 Z = true := fun d hd => hw d ((by decide +kernel : ∀ d ∈ StrChars.Road.wordsChN, d ∈ tables_1) d hd)
  obtain ⟨ts18, ks18, Es18, Vs18, Cs18, As18, lx18, lt18, hp18, l218⟩ := id Fr1
  have lx18 := own_lt lx18
  have lt18 := own_lt lt18
  have ltx18 := own_lt Es18.lt
  have ltt18 := own_lt As18.lt
  obtain ⟨cq16, kq16, q16a, q16b, q16c⟩ := isOf hZ eh13 Es18
  obtain ⟨_, _, ⟨T16, L16, k16, n16⟩, -, X16, ⟨Lc16, hQ16, l16, y16, z16⟩, st16⟩ := X13.virtualBack hx (y := (⟨"java/lang/String", "charAt", "(I)C"⟩ : MethodName)) (z := (⟨"java/lang/String", "charAt", "(I)C"⟩ : MethodName)) hown (mvT hZ (hw _ (List.mem_of_getElem? (i := 209) rfl))) (mvT hZ (hw _ (List.mem_of_getElem? (i := 210) rfl))) (notFace_of_selects (args := #[]) (mvT hZ (hw _ (List.mem_of_getElem? (i := 212) rfl)))) (mvT hZ (hw _ (List.mem_of_getElem? (i := 212) rfl))) (mvT hZ (hw _ (List.mem_of_getElem? (i := 211) rfl))) (by decide) (StrChars.Road.chN (W := 0) hZ hws17 (kI := 4) (hw _ (List.mem_of_getElem? (i := 6) rfl)) (i := 2) (j := (2 : Int32)) Es18 Vs18 Cs18 As18 (StrChars.Road.codOf rfl (fun c hc => (hp18 c hc).2)) (own_up hp18) (own_staK SCS O0) hzc (own_staK SFM O0) rfm l218 (by show _ < 5; decide) (by decide) (by decide) (by decide)) q16a q16c (g := (mkF m 57 #[.val (.ref rr), .val (.ref ss), .val (.int (2 : Int32))] [(.int (2 : Int32)), (.ref rr)])) rfl (by rw [hml]; rfl) (Steps.refl _) (argsL := [(.int (2 : Int32))]) (rest := []) (lenOf own_pd_x28Ix29C rfl) rfl (by show 2 * 0 + _ ≤ _; exact Nat.le_of_eq rfl) (hb hby own_d37_57) (fun _ _ => ⟨rfl, eh13, (by decide : 0 + 0 ≤ _), (by decide : 0 + 0 ≤ _)⟩)
  dsimp only [Pt.U, Pt.locs, Pt.cells, Pt.slots] at X16 l16 y16 z16 st16 hQ16
  subst l16 y16 z16
  obtain ⟨rfl, rfl, eh16⟩ := hQ16
  have N16 := Fr.app N13 (Fr.nil n0)
  refine OwnFin.adv (B := T16.setTop (mkF m 60 #[.val (.ref rr), .val (.ref ss), .val (.int (2 : Int32))] [(.int (([(35 : Int32), (123 : Int32), d0, d1, (125 : Int32)]).getD (2) 0))])) (fun _ k => st16.trans k) ?_
  refine OwnFin.adv (B := T16.setTop (mkF m 61 #[.val (.ref rr), .val (.ref ss), .val (.int (2 : Int32))] [(.ref ss), (.int (([(35 : Int32), (123 : Int32), d0, d1, (125 : Int32)]).getD (2) 0))])) (fun _ k => XS.aloadN X16.here hx rfl (hb hby own_d37_60) rfl rfl k) ?_
  refine OwnFin.adv (B := T16.setTop (mkF m 62 #[.val (.ref rr), .val (.ref ss), .val (.int (2 : Int32))] [(.int (0 : Int32)), (.ref ss), (.int (([(35 : Int32), (123 : Int32), d0, d1, (125 : Int32)]).getD (2) 0))])) (fun _ k => XS.iconst X16.here hx rfl (hb hby own_d37_61) k) ?_
  have hws20 : ∀ d ∈ StrChars.Road.wordsChN, d.before a0 Z = true := fun d hd => hw d ((by decide +kernel : ∀ d ∈ StrChars.Road.wordsChN, d ∈ tables_1) d hd)
  obtain ⟨ts21, ks21, Es21, Vs21, Cs21, As21, lx21, lt21, hp21, l221⟩ := id Fs1
  have lx21 := own_lt lx21
  have lt21 := own_lt lt21
  have ltx21 := own_lt Es21.lt
  have ltt21 := own_lt As21.lt
  obtain ⟨cq19, kq19, q19a, q19b, q19c⟩ := isOf hZ eh16 Es21
  obtain ⟨_, _, ⟨T19, L19, k19, n19⟩, -, X19, ⟨Lc19, hQ19, l19, y19, z19⟩, st19⟩ := X16.virtualBack hx (y := (⟨"java/lang/String", "charAt", "(I)C"⟩ : MethodName)) (z := (⟨"java/lang/String", "charAt", "(I)C"⟩ : MethodName)) hown (mvT hZ (hw _ (List.mem_of_getElem? (i := 209) rfl))) (mvT hZ (hw _ (List.mem_of_getElem? (i := 210) rfl))) (notFace_of_selects (args := #[]) (mvT hZ (hw _ (List.mem_of_getElem? (i := 212) rfl)))) (mvT hZ (hw _ (List.mem_of_getElem? (i := 212) rfl))) (mvT hZ (hw _ (List.mem_of_getElem? (i := 211) rfl))) (by decide) (StrChars.Road.chN (W := 1) hZ hws20 (kI := 4) (hw _ (List.mem_of_getElem? (i := 6) rfl)) (i := 0) (j := (0 : Int32)) Es21 Vs21 Cs21 As21 (StrChars.Road.codOf rfl (fun c hc => (hp21 c hc).2)) (own_up hp21) (own_staK SCS O0) hzc (own_staK SFM O0) rfm l221 (by show _ < 2; decide) (by decide) (by decide) (by decide)) q19a q19c (g := (mkF m 62 #[.val (.ref rr), .val (.ref ss), .val (.int (2 : Int32))] [(.int (0 : Int32)), (.ref ss), (.int (([(35 : Int32), (123 : Int32), d0, d1, (125 : Int32)]).getD (2) 0))])) rfl (by rw [hml]; rfl) (Steps.refl _) (argsL := [(.int (0 : Int32))]) (rest := [(.int (([(35 : Int32), (123 : Int32), d0, d1, (125 : Int32)]).getD (2) 0))]) (lenOf own_pd_x28Ix29C rfl) rfl (by show 2 * 0 + _ ≤ _; exact Nat.le_of_eq rfl) (hb hby own_d37_62) (fun _ _ => ⟨rfl, eh16, (by decide : 0 + 0 ≤ _), (by decide : 0 + 0 ≤ _)⟩)
  dsimp only [Pt.U, Pt.locs, Pt.cells, Pt.slots] at X19 l19 y19 z19 st19 hQ19
  subst l19 y19 z19
  obtain ⟨rfl, rfl, eh19⟩ := hQ19
  have N19 := Fr.app N16 (Fr.nil n0)
  refine OwnFin.adv (B := T19.setTop (mkF m 65 #[.val (.ref rr), .val (.ref ss), .val (.int (2 : Int32))] [(.int (([d0, d1]).getD (0) 0)), (.int (([(35 : Int32), (123 : Int32), d0, d1, (125 : Int32)]).getD (2) 0))])) (fun _ k => st19.trans k) ?_
  have hc65_35 : (([(35 : Int32), (123 : Int32), d0, d1, (125 : Int32)]).getD (2) 0) = (([d0, d1]).getD (0) 0) := rfl
  refine OwnFin.adv (B := T19.setTop (mkF m 70 #[.val (.ref rr), .val (.ref ss), .val (.int (2 : Int32))] [])) (fun _ k => XS.icmpYes X19.here hx rfl (pc0 := 65) (pc' := 70) rfl (hb hby own_d37_65) rfl (teq hc65_35).1 (by decide) (by decide) k) ?_
  refine OwnFin.adv (B := T19.setTop (mkF m 71 #[.val (.ref rr), .val (.ref ss), .val (.int (2 : Int32))] [(.int (2 : Int32))])) (fun _ k => XS.iloadN X19.here hx rfl (hb hby own_d37_70) rfl k) ?_
  refine OwnFin.adv (B := T19.setTop (mkF m 72 #[.val (.ref rr), .val (.ref ss), .val (.int (2 : Int32))] [(.int (1 : Int32)), (.int (2 : Int32))])) (fun _ k => XS.iconst X19.here hx rfl (hb hby own_d37_71) k) ?_
  have hc72_38 : (1 : Int32) < (2 : Int32) := by decide
  refine OwnFin.adv (B := T19.setTop (mkF m 75 #[.val (.ref rr), .val (.ref ss), .val (.int (2 : Int32))] [])) (fun _ k => XS.icmpNo X19.here hx rfl (hb hby own_d37_72) rfl (tlt hc72_38).2.2.2 k) ?_
  refine OwnFin.adv (B := T19.setTop (mkF m 76 #[.val (.ref rr), .val (.ref ss), .val (.int (2 : Int32))] [(.ref rr)])) (fun _ k => XS.aloadN X19.here hx rfl (hb hby own_d37_75) rfl rfl k) ?_
  refine OwnFin.adv (B := T19.setTop (mkF m 77 #[.val (.ref rr), .val (.ref ss), .val (.int (2 : Int32))] [(.int (3 : Int32)), (.ref rr)])) (fun _ k => XS.iconst X19.here hx rfl (hb hby own_d37_76) k) ?_
  have hws23 : ∀ d ∈ StrChars.Road.wordsChN, d.before a0 Z = true := fun d hd => hw d ((by decide +kernel : ∀ d ∈ StrChars.Road.wordsChN, d ∈ tables_1) d hd)
  obtain ⟨ts24, ks24, Es24, Vs24, Cs24, As24, lx24, lt24, hp24, l224⟩ := id Fr1
  have lx24 := own_lt lx24
  have lt24 := own_lt lt24
  have ltx24 := own_lt Es24.lt
  have ltt24 := own_lt As24.lt
  obtain ⟨cq22, kq22, q22a, q22b, q22c⟩ := isOf hZ eh19 Es24
  obtain ⟨_, _, ⟨T22, L22, k22, n22⟩, -, X22, ⟨Lc22, hQ22, l22, y22, z22⟩, st22⟩ := X19.virtualBack hx (y := (⟨"java/lang/String", "charAt", "(I)C"⟩ : MethodName)) (z := (⟨"java/lang/String", "charAt", "(I)C"⟩ : MethodName)) hown (mvT hZ (hw _ (List.mem_of_getElem? (i := 209) rfl))) (mvT hZ (hw _ (List.mem_of_getElem? (i := 210) rfl))) (notFace_of_selects (args := #[]) (mvT hZ (hw _ (List.mem_of_getElem? (i := 212) rfl)))) (mvT hZ (hw _ (List.mem_of_getElem? (i := 212) rfl))) (mvT hZ (hw _ (List.mem_of_getElem? (i := 211) rfl))) (by decide) (StrChars.Road.chN (W := 0) hZ hws23 (kI := 4) (hw _ (List.mem_of_getElem? (i := 6) rfl)) (i := 3) (j := (3 : Int32)) Es24 Vs24 Cs24 As24 (StrChars.Road.codOf rfl (fun c hc => (hp24 c hc).2)) (own_up hp24) (own_staK SCS O0) hzc (own_staK SFM O0) rfm l224 (by show _ < 5; decide) (by decide) (by decide) (by decide)) q22a q22c (g := (mkF m 77 #[.val (.ref rr), .val (.ref ss), .val (.int (2 : Int32))] [(.int (3 : Int32)), (.ref rr)])) rfl (by rw [hml]; rfl) (Steps.refl _) (argsL := [(.int (3 : Int32))]) (rest := []) (lenOf own_pd_x28Ix29C rfl) rfl (by show 2 * 0 + _ ≤ _; exact Nat.le_of_eq rfl) (hb hby own_d37_77) (fun _ _ => ⟨rfl, eh19, (by decide : 0 + 0 ≤ _), (by decide : 0 + 0 ≤ _)⟩)
  dsimp only [Pt.U, Pt.locs, Pt.cells, Pt.slots] at X22 l22 y22 z22 st22 hQ22
  subst l22 y22 z22
  obtain ⟨rfl, rfl, eh22⟩ := hQ22
  have N22 := Fr.app N19 (Fr.nil n0)
  refine OwnFin.adv (B := T22.setTop (mkF m 80 #[.val (.ref rr), .val (.ref ss), .val (.int (2 : Int32))] [(.int (([(35 : Int32), (123 : Int32), d0, d1, (125 : Int32)]).getD (3) 0))])) (fun _ k => st22.trans k) ?_
  refine OwnFin.adv (B := T22.setTop (mkF m 81 #[.val (.ref rr), .val (.ref ss), .val (.int (2 : Int32))] [(.ref ss), (.int (([(35 : Int32), (123 : Int32), d0, d1, (125 : Int32)]).getD (3) 0))])) (fun _ k => XS.aloadN X22.here hx rfl (hb hby own_d37_80) rfl rfl k) ?_
  refine OwnFin.adv (B := T22.setTop (mkF m 82 #[.val (.ref rr), .val (.ref ss), .val (.int (2 : Int32))] [(.int (1 : Int32)), (.ref ss), (.int (([(35 : Int32), (123 : Int32), d0, d1, (125 : Int32)]).getD (3) 0))])) (fun _ k => XS.iconst X22.here hx rfl (hb hby own_d37_81) k) ?_
  have hws26 : ∀ d ∈ StrChars.Road.wordsChN, d.before a0 Z = true := fun d hd => hw d ((by decide +kernel : ∀ d ∈ StrChars.Road.wordsChN, d ∈ tables_1) d hd)
  obtain ⟨ts27, ks27, Es27, Vs27, Cs27, As27, lx27, lt27, hp27, l227⟩ := id Fs1
  have lx27 := own_lt lx27
  have lt27 := own_lt lt27
  have ltx27 := own_lt Es27.lt
  have ltt27 := own_lt As27.lt
  obtain ⟨cq25, kq25, q25a, q25b, q25c⟩ := isOf hZ eh22 Es27
  obtain ⟨_, _, ⟨T25, L25, k25, n25⟩, -, X25, ⟨Lc25, hQ25, l25, y25, z25⟩, st25⟩ := X22.virtualBack hx (y := (⟨"java/lang/String", "charAt", "(I)C"⟩ : MethodName)) (z := (⟨"java/lang/String", "charAt", "(I)C"⟩ : MethodName)) hown (mvT hZ (hw _ (List.mem_of_getElem? (i := 209) rfl))) (mvT hZ (hw _ (List.mem_of_getElem? (i := 210) rfl))) (notFace_of_selects (args := #[]) (mvT hZ (hw _ (List.mem_of_getElem? (i := 212) rfl)))) (mvT hZ (hw _ (List.mem_of_getElem? (i := 212) rfl))) (mvT hZ (hw _ (List.mem_of_getElem? (i := 211) rfl))) (by decide) (StrChars.Road.chN (W := 1) hZ hws26 (kI := 4) (hw _ (List.mem_of_getElem? (i := 6) rfl)) (i := 1) (j := (1 : Int32)) Es27 Vs27 Cs27 As27 (StrChars.Road.codOf rfl (fun c hc => (hp27 c hc).2)) (own_up hp27) (own_staK SCS O0) hzc (own_staK SFM O0) rfm l227 (by show _ < 2; decide) (by decide) (by decide) (by decide)) q25a q25c (g := (mkF m 82 #[.val (.ref rr), .val (.ref ss), .val (.int (2 : Int32))] [(.int (1 : Int32)), (.ref ss), (.int (([(35 : Int32), (123 : Int32), d0, d1, (125 : Int32)]).getD (3) 0))])) rfl (by rw [hml]; rfl) (Steps.refl _) (argsL := [(.int (1 : Int32))]) (rest := [(.int (([(35 : Int32), (123 : Int32), d0, d1, (125 : Int32)]).getD (3) 0))]) (lenOf own_pd_x28Ix29C rfl) rfl (by show 2 * 0 + _ ≤ _; exact Nat.le_of_eq rfl) (hb hby own_d37_82) (fun _ _ => ⟨rfl, eh22, (by decide : 0 + 0 ≤ _), (by decide : 0 + 0 ≤ _)⟩)
  dsimp only [Pt.U, Pt.locs, Pt.cells, Pt.slots] at X25 l25 y25 z25 st25 hQ25
  subst l25 y25 z25
  obtain ⟨rfl, rfl, eh25⟩ := hQ25
  have N25 := Fr.app N22 (Fr.nil n0)
  refine OwnFin.adv (B := T25.setTop (mkF m 85 #[.val (.ref rr), .val (.ref ss), .val (.int (2 : Int32))] [(.int (([d0, d1]).getD (1) 0)), (.int (([(35 : Int32), (123 : Int32), d0, d1, (125 : Int32)]).getD (3) 0))])) (fun _ k => st25.trans k) ?_
  have hc85_45 : (([(35 : Int32), (123 : Int32), d0, d1, (125 : Int32)]).getD (3) 0) = (([d0, d1]).getD (1) 0) := rfl
  refine OwnFin.adv (B := T25.setTop (mkF m 90 #[.val (.ref rr), .val (.ref ss), .val (.int (2 : Int32))] [])) (fun _ k => XS.icmpYes X25.here hx rfl (pc0 := 85) (pc' := 90) rfl (hb hby own_d37_85) rfl (teq hc85_45).1 (by decide) (by decide) k) ?_
  refine OwnFin.adv (B := T25.setTop (mkF m 91 #[.val (.ref rr), .val (.ref ss), .val (.int (2 : Int32))] [(.int (2 : Int32))])) (fun _ k => XS.iloadN X25.here hx rfl (hb hby own_d37_90) rfl k) ?_
  refine OwnFin.adv (B := T25.setTop (mkF m 92 #[.val (.ref rr), .val (.ref ss), .val (.int (2 : Int32))] [(.int (2 : Int32)), (.int (2 : Int32))])) (fun _ k => XS.iconst X25.here hx rfl (hb hby own_d37_91) k) ?_
  have hc92_48 : ¬ ((2 : Int32) < (2 : Int32)) := by decide
  refine OwnFin.adv (B := T25.setTop (mkF m 110 #[.val (.ref rr), .val (.ref ss), .val (.int (2 : Int32))] [])) (fun _ k => XS.icmpYes X25.here hx rfl (pc0 := 92) (pc' := 110) rfl (hb hby own_d37_92) rfl (flt hc92_48).2.2.2 (by decide) (by decide) k) ?_
  refine OwnFin.adv (B := T25.setTop (mkF m 111 #[.val (.ref rr), .val (.ref ss), .val (.int (2 : Int32))] [(.int (1 : Int32))])) (fun _ k => XS.iconst X25.here hx rfl (hb hby own_d37_110) k) ?_
  obtain ⟨fs, hr, hrun, hended, hW, hsame⟩ := X25.leave (v := some (.int (1 : Int32))) (fun h => by rw [Bd.returns] at h; cases h)
  refine OwnFin.leaf hP' ⟨_, _, retN X25 hx (t := .boolean) Bd.returns (by simp) (hb hby own_d37_111) hr, hrun, hended, _, _, rfl, ?_, ⟨_, rfl⟩, hW, hsame.mono (by decide) (by decide)⟩
  exact ⟨rfl, N25, eh25⟩
theorem own_d37_95 : decode method_3_code 95 = .ok (.aload_n 0, 1) := by decide +kernel
theorem own_d37_96 : decode method_3_code 96 = .ok (.iconst 4, 1) := by decide +kernel
theorem own_d37_97 : decode method_3_code 97 = .ok (.invokevirtual 16, 3) := by decide +kernel
theorem own_d37_100 : decode method_3_code 100 = .ok (.aload_n 1, 1) := by decide +kernel
theorem own_d37_101 : decode method_3_code 101 = .ok (.iconst 2, 1) := by decide +kernel
theorem own_d37_102 : decode method_3_code 102 = .ok (.invokevirtual 16, 3) := by decide +kernel
theorem own_d37_105 : decode method_3_code 105 = .ok (.if_icmp .eq 5, 3) := by decide +kernel
theorem own_ef_shape3 (m : MethodId) (x0 : Addr) (x1 : Addr) : entryFrame m #[(.ref x0), (.ref x1)] 3 = mkF m 0 #[.val (.ref x0), .val (.ref x1), .unset] [] := by first | (simp [entryFrame, mkF, argsToLocals, Value.category]; done) | rfl
def own_Q_shape3 (Z : State) (rr ss : Addr) (zc : Int32) (fm : Value) (lr ls : Nat) (d0 d1 d2 : Int32) (h0 : Heap) (n0 : Nat) (v : Option Value) (h : Heap) (L : List Loc) : Prop := v = some (.int (1 : Int32)) ∧ Fr n0 L ∧ h = h0
set_option maxRecDepth 65536 in
set_option maxHeartbeats 40000000 in
theorem own_shape3 (l : Launch) (Z : State) (a0 : Array Value) (hw : ∀ d ∈ tables_1, d.before a0 Z = true) (ws : List Jvm.Cond) (rr ss : Addr) (zc : Int32) (fm : Value) (lr ls : Nat) (d0 d1 d2 : Int32) (h0 : Heap) (n0 : Nat) (Z0 : n0 ≤ h0.size) (O0 : Old Z n0 h0) (SCS : Sta Z Z.heap "java/lang/String" "COMPACT_STRINGS" "Z" (.int zc)) (hzc : ¬ zc = 0) (SFM : Sta Z Z.heap "jdk/internal/util/Preconditions" "SIOOBE_FORMATTER" "Ljava/util/function/BiFunction;" fm) (rfm : fm.isRef = true) (Fr1 : OwnS Z h0 lr rr [(35 : Int32), (123 : Int32), d0, d1, d2, (125 : Int32)]) (Fs1 : OwnS Z h0 ls ss [d0, d1, d2]) :
    MetFree l (⟨"com/example/raccordo/raccordo/sql/SqlTokenParameterPinLaw", "shape", "(Ljava/lang/String;Ljava/lang/String;)Z"⟩ : MethodName) (head1 (Jvm.Cond.code (⟨"com/example/raccordo/raccordo/sql/SqlTokenParameterPinLaw", "shape", "(Ljava/lang/String;Ljava/lang/String;)Z"⟩ : MethodName) method_3_code 3 (some .boolean) :: ws) ({ frames := 5, cells := 0, slots := 0, locals := 80 } : Room)) (fun A0 U0 => A0 = #[(.ref rr), (.ref ss)] ∧ Z.Warmed39 U0.vm ∧ U0.heap = h0) (fun _ _ _ _ _ => True) (fun _ U0 o0 U1 => ∃ v0 L0, o0 = .returned v0 ∧ own_Q_shape3 Z rr ss zc fm lr ls d0 d1 d2 h0 n0 v0 U1.heap L0 ∧ FrameEnd U0 o0 U1 L0 ({ frames := 5, cells := 0, slots := 0, locals := 80 } : Room).cells ({ frames := 5, cells := 0, slots := 0, locals := 80 } : Room).slots) := by
  refine MetFree.of_bodySF (plainFor_of_name own_pn_com_example_raccordo_raccordo_sql_SqlTokenParameterPinLaw) hisR ?_
  intro p e s m args below meth c s₁ Bd hml0 hP hK
  obtain ⟨rfl, hZ, hh⟩ := hP
  have hZs := hZ
  have hx := Bd.exec
  have hby := Bd.bytes
  have hml : c.maxLocals = 3 := hml0
  have hown : s.vm.findClass "com/example/raccordo/raccordo/sql/SqlTokenParameterPinLaw" = some m.cls := findClass_of_methodNamed Bd.named
  have hnm := (name_of_methodNamed Bd.named Bd.method).1
  have X0 : Stand p l e ({ frames := 5, cells := 0, slots := 0, locals := 80 } : Room) s m #[(.ref rr), (.ref ss)] below meth c s₁ [] 0 0 := Stand.of_body Bd
  have e0 : s₁.heap = h0 := by rw [← hh, Bd.state]; rfl
  have N0 := Fr.nil n0
  refine OwnFin.entry (own_ef_shape3 m rr ss) (fun P' hP' => ?_)
  refine OwnFin.adv (B := s₁.setTop (mkF m 1 #[.val (.ref rr), .val (.ref ss), .unset] [(.ref ss)])) (fun _ k => XS.aloadN X0.here hx rfl (hb hby own_d37_0) rfl rfl k) ?_
  have hws2 : ∀ d ∈ StrChars.Road.wordsLen, d.before a0 Z = true := fun d hd => hw d ((by decide +kernel : ∀ d ∈ StrChars.Road.wordsLen, d ∈ tables_1) d hd)
  obtain ⟨ts3, ks3, Es3, Vs3, Cs3, As3, lx3, lt3, hp3, l23⟩ := id Fs1
  have lx3 := own_lt lx3
  have lt3 := own_lt lt3
  have ltx3 := own_lt Es3.lt
  have ltt3 := own_lt As3.lt
  obtain ⟨cq1, kq1, q1a, q1b, q1c⟩ := isOf hZ e0 Es3
  obtain ⟨_, _, ⟨T1, L1, k1, n1⟩, -, X1, ⟨Lc1, hQ1, l1, y1, z1⟩, st1⟩ := X0.virtualBack hx (y := (⟨"java/lang/String", "length", "()I"⟩ : MethodName)) (z := (⟨"java/lang/String", "length", "()I"⟩ : MethodName)) hown (mvT hZ (hw _ (List.mem_of_getElem? (i := 208) rfl))) (mvT hZ (hw _ (List.mem_of_getElem? (i := 123) rfl))) (notFace_of_selects (args := #[]) (mvT hZ (hw _ (List.mem_of_getElem? (i := 125) rfl)))) (mvT hZ (hw _ (List.mem_of_getElem? (i := 125) rfl))) (mvT hZ (hw _ (List.mem_of_getElem? (i := 124) rfl))) (by decide) (StrChars.Road.lenW (W := 0) hZ hws2 (kI := 4) (hw _ (List.mem_of_getElem? (i := 6) rfl)) Es3 Vs3 Cs3 As3 (StrChars.Road.codOf rfl (fun c hc => (hp3 c hc).2)) (own_up hp3) (own_staK SCS O0) hzc l23 (by decide) (by decide)) q1a q1c (g := (mkF m 1 #[.val (.ref rr), .val (.ref ss), .unset] [(.ref ss)])) rfl (by rw [hml]; rfl) (Steps.refl _) (argsL := []) (rest := []) (lenOf own_pd_x28x29I rfl) rfl (by show 2 * 0 + _ ≤ _; exact Nat.le_of_eq rfl) (hb hby own_d37_1) (fun _ _ => ⟨rfl, e0, (by decide : 0 + 0 ≤ _), (by decide : 0 + 0 ≤ _)⟩)
  dsimp only [Pt.U, Pt.locs, Pt.cells, Pt.slots] at X1 l1 y1 z1 st1 hQ1
  subst l1 y1 z1
  obtain ⟨rfl, rfl, eh1⟩ := hQ1
  have N1 := Fr.app N0 (Fr.nil n0)
  refine OwnFin.adv (B := T1.setTop (mkF m 4 #[.val (.ref rr), .val (.ref ss), .unset] [(.int (Int32.ofNat ([d0, d1, d2]).length))])) (fun _ k => st1.trans k) ?_
  rw [show ((Int32.ofNat ([d0, d1, d2]).length) : Int32) = (3 : Int32) from rfl]
  refine OwnFin.adv (B := T1.setTop (mkF m 5 #[.val (.ref rr), .val (.ref ss), .val (.int (3 : Int32))] [])) (fun _ k => XS.istoreN X1.here hx rfl (hb hby own_d37_4) rfl (l' := #[.val (.ref rr), .val (.ref ss), .val (.int (3 : Int32))]) rfl k) ?_
  refine OwnFin.adv (B := T1.setTop (mkF m 6 #[.val (.ref rr), .val (.ref ss), .val (.int (3 : Int32))] [(.ref rr)])) (fun _ k => XS.aloadN X1.here hx rfl (hb hby own_d37_5) rfl rfl k) ?_
  have hws5 : ∀ d ∈ StrChars.Road.wordsLen, d.before a0 Z = true := fun d hd => hw d ((by decide +kernel : ∀ d ∈ StrChars.Road.wordsLen, d ∈ tables_1) d hd)
  obtain ⟨ts6, ks6, Es6, Vs6, Cs6, As6, lx6, lt6, hp6, l26⟩ := id Fr1
  have lx6 := own_lt lx6
  have lt6 := own_lt lt6
  have ltx6 := own_lt Es6.lt
  have ltt6 := own_lt As6.lt
  obtain ⟨cq4, kq4, q4a, q4b, q4c⟩ := isOf hZ eh1 Es6
  obtain ⟨_, _, ⟨T4, L4, k4, n4⟩, -, X4, ⟨Lc4, hQ4, l4, y4, z4⟩, st4⟩ := X1.virtualBack hx (y := (⟨"java/lang/String", "length", "()I"⟩ : MethodName)) (z := (⟨"java/lang/String", "length", "()I"⟩ : MethodName)) hown (mvT hZ (hw _ (List.mem_of_getElem? (i := 208) rfl))) (mvT hZ (hw _ (List.mem_of_getElem? (i := 123) rfl))) (notFace_of_selects (args := #[]) (mvT hZ (hw _ (List.mem_of_getElem? (i := 125) rfl)))) (mvT hZ (hw _ (List.mem_of_getElem? (i := 125) rfl))) (mvT hZ (hw _ (List.mem_of_getElem? (i := 124) rfl))) (by decide) (StrChars.Road.lenW (W := 0) hZ hws5 (kI := 4) (hw _ (List.mem_of_getElem? (i := 6) rfl)) Es6 Vs6 Cs6 As6 (StrChars.Road.codOf rfl (fun c hc => (hp6 c hc).2)) (own_up hp6) (own_staK SCS O0) hzc l26 (by decide) (by decide)) q4a q4c (g := (mkF m 6 #[.val (.ref rr), .val (.ref ss), .val (.int (3 : Int32))] [(.ref rr)])) rfl (by rw [hml]; rfl) (Steps.refl _) (argsL := []) (rest := []) (lenOf own_pd_x28x29I rfl) rfl (by show 2 * 0 + _ ≤ _; exact Nat.le_of_eq rfl) (hb hby own_d37_6) (fun _ _ => ⟨rfl, eh1, (by decide : 0 + 0 ≤ _), (by decide : 0 + 0 ≤ _)⟩)
  dsimp only [Pt.U, Pt.locs, Pt.cells, Pt.slots] at X4 l4 y4 z4 st4 hQ4
  subst l4 y4 z4
  obtain ⟨rfl, rfl, eh4⟩ := hQ4
  have N4 := Fr.app N1 (Fr.nil n0)
  refine OwnFin.adv (B := T4.setTop (mkF m 9 #[.val (.ref rr), .val (.ref ss), .val (.int (3 : Int32))] [(.int (Int32.ofNat ([(35 : Int32), (123 : Int32), d0, d1, d2, (125 : Int32)]).length))])) (fun _ k => st4.trans k) ?_
  rw [show ((Int32.ofNat ([(35 : Int32), (123 : Int32), d0, d1, d2, (125 : Int32)]).length) : Int32) = (6 : Int32) from rfl]
  refine OwnFin.adv (B := T4.setTop (mkF m 10 #[.val (.ref rr), .val (.ref ss), .val (.int (3 : Int32))] [(.int (3 : Int32)), (.int (6 : Int32))])) (fun _ k => XS.iloadN X4.here hx rfl (hb hby own_d37_9) rfl k) ?_
  refine OwnFin.adv (B := T4.setTop (mkF m 11 #[.val (.ref rr), .val (.ref ss), .val (.int (3 : Int32))] [(.int (3 : Int32)), (.int (3 : Int32)), (.int (6 : Int32))])) (fun _ k => XS.iconst X4.here hx rfl (hb hby own_d37_10) k) ?_
  refine OwnFin.adv (B := T4.setTop (mkF m 12 #[.val (.ref rr), .val (.ref ss), .val (.int (3 : Int32))] [(.int ((3 : Int32) + (3 : Int32))), (.int (6 : Int32))])) (fun _ k => XS.iadd X4.here hx rfl (hb hby own_d37_11) rfl k) ?_
  have hc12_9 : (6 : Int32) = ((3 : Int32) + (3 : Int32)) := by decide
  refine OwnFin.adv (B := T4.setTop (mkF m 17 #[.val (.ref rr), .val (.ref ss), .val (.int (3 : Int32))] [])) (fun _ k => XS.icmpYes X4.here hx rfl (pc0 := 12) (pc' := 17) rfl (hb hby own_d37_12) rfl (teq hc12_9).1 (by decide) (by decide) k) ?_
  refine OwnFin.adv (B := T4.setTop (mkF m 18 #[.val (.ref rr), .val (.ref ss), .val (.int (3 : Int32))] [(.ref rr)])) (fun _ k => XS.aloadN X4.here hx rfl (hb hby own_d37_17) rfl rfl k) ?_
  refine OwnFin.adv (B := T4.setTop (mkF m 19 #[.val (.ref rr), .val (.ref ss), .val (.int (3 : Int32))] [(.int (0 : Int32)), (.ref rr)])) (fun _ k => XS.iconst X4.here hx rfl (hb hby own_d37_18) k) ?_
  have hws8 : ∀ d ∈ StrChars.Road.wordsChN, d.before a0 Z = true := fun d hd => hw d ((by decide +kernel : ∀ d ∈ StrChars.Road.wordsChN, d ∈ tables_1) d hd)
  obtain ⟨ts9, ks9, Es9, Vs9, Cs9, As9, lx9, lt9, hp9, l29⟩ := id Fr1
  have lx9 := own_lt lx9
  have lt9 := own_lt lt9
  have ltx9 := own_lt Es9.lt
  have ltt9 := own_lt As9.lt
  obtain ⟨cq7, kq7, q7a, q7b, q7c⟩ := isOf hZ eh4 Es9
  obtain ⟨_, _, ⟨T7, L7, k7, n7⟩, -, X7, ⟨Lc7, hQ7, l7, y7, z7⟩, st7⟩ := X4.virtualBack hx (y := (⟨"java/lang/String", "charAt", "(I)C"⟩ : MethodName)) (z := (⟨"java/lang/String", "charAt", "(I)C"⟩ : MethodName)) hown (mvT hZ (hw _ (List.mem_of_getElem? (i := 209) rfl))) (mvT hZ (hw _ (List.mem_of_getElem? (i := 210) rfl))) (notFace_of_selects (args := #[]) (mvT hZ (hw _ (List.mem_of_getElem? (i := 212) rfl)))) (mvT hZ (hw _ (List.mem_of_getElem? (i := 212) rfl))) (mvT hZ (hw _ (List.mem_of_getElem? (i := 211) rfl))) (by decide) (StrChars.Road.chN (W := 0) hZ hws8 (kI := 4) (hw _ (List.mem_of_getElem? (i := 6) rfl)) (i := 0) (j := (0 : Int32)) Es9 Vs9 Cs9 As9 (StrChars.Road.codOf rfl (fun c hc => (hp9 c hc).2)) (own_up hp9) (own_staK SCS O0) hzc (own_staK SFM O0) rfm l29 (by show _ < 6; decide) (by decide) (by decide) (by decide)) q7a q7c (g := (mkF m 19 #[.val (.ref rr), .val (.ref ss), .val (.int (3 : Int32))] [(.int (0 : Int32)), (.ref rr)])) rfl (by rw [hml]; rfl) (Steps.refl _) (argsL := [(.int (0 : Int32))]) (rest := []) (lenOf own_pd_x28Ix29C rfl) rfl (by show 2 * 0 + _ ≤ _; exact Nat.le_of_eq rfl) (hb hby own_d37_19) (fun _ _ => ⟨rfl, eh4, (by decide : 0 + 0 ≤ _), (by decide : 0 + 0 ≤ _)⟩)
  dsimp only [Pt.U, Pt.locs, Pt.cells, Pt.slots] at X7 l7 y7 z7 st7 hQ7
  subst l7 y7 z7
  obtain ⟨rfl, rfl, eh7⟩ := hQ7
  have N7 := Fr.app N4 (Fr.nil n0)
  refine OwnFin.adv (B := T7.setTop (mkF m 22 #[.val (.ref rr), .val (.ref ss), .val (.int (3 : Int32))] [(.int (([(35 : Int32), (123 : Int32), d0, d1, d2, (125 : Int32)]).getD (0) 0))])) (fun _ k => st7.trans k) ?_
  refine OwnFin.adv (B := T7.setTop (mkF m 24 #[.val (.ref rr), .val (.ref ss), .val (.int (3 : Int32))] [(.int (35 : Int32)), (.int (([(35 : Int32), (123 : Int32), d0, d1, d2, (125 : Int32)]).getD (0) 0))])) (fun _ k => XS.bipush X7.here hx rfl (hb hby own_d37_22) k) ?_
  have hc24_14 : (([(35 : Int32), (123 : Int32), d0, d1, d2, (125 : Int32)]).getD (0) 0) = (35 : Int32) := rfl
  refine OwnFin.adv (B := T7.setTop (mkF m 27 #[.val (.ref rr), .val (.ref ss), .val (.int (3 : Int32))] [])) (fun _ k => XS.icmpNo X7.here hx rfl (hb hby own_d37_24) rfl (teq hc24_14).2 k) ?_
  refine OwnFin.adv (B := T7.setTop (mkF m 28 #[.val (.ref rr), .val (.ref ss), .val (.int (3 : Int32))] [(.ref rr)])) (fun _ k => XS.aloadN X7.here hx rfl (hb hby own_d37_27) rfl rfl k) ?_
  refine OwnFin.adv (B := T7.setTop (mkF m 29 #[.val (.ref rr), .val (.ref ss), .val (.int (3 : Int32))] [(.int (1 : Int32)), (.ref rr)])) (fun _ k => XS.iconst X7.here hx rfl (hb hby own_d37_28) k) ?_
  have hws11 : ∀ d ∈ StrChars.Road.wordsChN, d.before a0 Z = true := fun d hd => hw d ((by decide +kernel : ∀ d ∈ StrChars.Road.wordsChN, d ∈ tables_1) d hd)
  obtain ⟨ts12, ks12, Es12, Vs12, Cs12, As12, lx12, lt12, hp12, l212⟩ := id Fr1
  have lx12 := own_lt lx12
  have lt12 := own_lt lt12
  have ltx12 := own_lt Es12.lt
  have ltt12 := own_lt As12.lt
  obtain ⟨cq10, kq10, q10a, q10b, q10c⟩ := isOf hZ eh7 Es12
  obtain ⟨_, _, ⟨T10, L10, k10, n10⟩, -, X10, ⟨Lc10, hQ10, l10, y10, z10⟩, st10⟩ := X7.virtualBack hx (y := (⟨"java/lang/String", "charAt", "(I)C"⟩ : MethodName)) (z := (⟨"java/lang/String", "charAt", "(I)C"⟩ : MethodName)) hown (mvT hZ (hw _ (List.mem_of_getElem? (i := 209) rfl))) (mvT hZ (hw _ (List.mem_of_getElem? (i := 210) rfl))) (notFace_of_selects (args := #[]) (mvT hZ (hw _ (List.mem_of_getElem? (i := 212) rfl)))) (mvT hZ (hw _ (List.mem_of_getElem? (i := 212) rfl))) (mvT hZ (hw _ (List.mem_of_getElem? (i := 211) rfl))) (by decide) (StrChars.Road.chN (W := 0) hZ hws11 (kI := 4) (hw _ (List.mem_of_getElem? (i := 6) rfl)) (i := 1) (j := (1 : Int32)) Es12 Vs12 Cs12 As12 (StrChars.Road.codOf rfl (fun c hc => (hp12 c hc).2)) (own_up hp12) (own_staK SCS O0) hzc (own_staK SFM O0) rfm l212 (by show _ < 6; decide) (by decide) (by decide) (by decide)) q10a q10c (g := (mkF m 29 #[.val (.ref rr), .val (.ref ss), .val (.int (3 : Int32))] [(.int (1 : Int32)), (.ref rr)])) rfl (by rw [hml]; rfl) (Steps.refl _) (argsL := [(.int (1 : Int32))]) (rest := []) (lenOf own_pd_x28Ix29C rfl) rfl (by show 2 * 0 + _ ≤ _; exact Nat.le_of_eq rfl) (hb hby own_d37_29) (fun _ _ => ⟨rfl, eh7, (by decide : 0 + 0 ≤ _), (by decide : 0 + 0 ≤ _)⟩)
  dsimp only [Pt.U, Pt.locs, Pt.cells, Pt.slots] at X10 l10 y10 z10 st10 hQ10
  subst l10 y10 z10
  obtain ⟨rfl, rfl, eh10⟩ := hQ10
  have N10 := Fr.app N7 (Fr.nil n0)
  refine OwnFin.adv (B := T10.setTop (mkF m 32 #[.val (.ref rr), .val (.ref ss), .val (.int (3 : Int32))] [(.int (([(35 : Int32), (123 : Int32), d0, d1, d2, (125 : Int32)]).getD (1) 0))])) (fun _ k => st10.trans k) ?_
  refine OwnFin.adv (B := T10.setTop (mkF m 34 #[.val (.ref rr), .val (.ref ss), .val (.int (3 : Int32))] [(.int (123 : Int32)), (.int (([(35 : Int32), (123 : Int32), d0, d1, d2, (125 : Int32)]).getD (1) 0))])) (fun _ k => XS.bipush X10.here hx rfl (hb hby own_d37_32) k) ?_
  have hc34_19 : (([(35 : Int32), (123 : Int32), d0, d1, d2, (125 : Int32)]).getD (1) 0) = (123 : Int32) := rfl
  refine OwnFin.adv (B := T10.setTop (mkF m 37 #[.val (.ref rr), .val (.ref ss), .val (.int (3 : Int32))] [])) (fun _ k => XS.icmpNo X10.here hx rfl (hb hby own_d37_34) rfl (teq hc34_19).2 k) ?_
  refine OwnFin.adv (B := T10.setTop (mkF m 38 #[.val (.ref rr), .val (.ref ss), .val (.int (3 : Int32))] [(.ref rr)])) (fun _ k => XS.aloadN X10.here hx rfl (hb hby own_d37_37) rfl rfl k) ?_
  refine OwnFin.adv (B := T10.setTop (mkF m 39 #[.val (.ref rr), .val (.ref ss), .val (.int (3 : Int32))] [(.int (3 : Int32)), (.ref rr)])) (fun _ k => XS.iloadN X10.here hx rfl (hb hby own_d37_38) rfl k) ?_
  refine OwnFin.adv (B := T10.setTop (mkF m 40 #[.val (.ref rr), .val (.ref ss), .val (.int (3 : Int32))] [(.int (2 : Int32)), (.int (3 : Int32)), (.ref rr)])) (fun _ k => XS.iconst X10.here hx rfl (hb hby own_d37_39) k) ?_
  refine OwnFin.adv (B := T10.setTop (mkF m 41 #[.val (.ref rr), .val (.ref ss), .val (.int (3 : Int32))] [(.int ((3 : Int32) + (2 : Int32))), (.ref rr)])) (fun _ k => XS.iadd X10.here hx rfl (hb hby own_d37_40) rfl k) ?_
  have hws14 : ∀ d ∈ StrChars.Road.wordsChN, d.before a0 Z = true := fun d hd => hw d ((by decide +kernel : ∀ d ∈ StrChars.Road.wordsChN, d ∈ tables_1) d hd)
  obtain ⟨ts15, ks15, Es15, Vs15, Cs15, As15, lx15, lt15, hp15, l215⟩ := id Fr1
  have lx15 := own_lt lx15
  have lt15 := own_lt lt15
  have ltx15 := own_lt Es15.lt
  have ltt15 := own_lt As15.lt
  obtain ⟨cq13, kq13, q13a, q13b, q13c⟩ := isOf hZ eh10 Es15
  obtain ⟨_, _, ⟨T13, L13, k13, n13⟩, -, X13, ⟨Lc13, hQ13, l13, y13, z13⟩, st13⟩ := X10.virtualBack hx (y := (⟨"java/lang/String", "charAt", "(I)C"⟩ : MethodName)) (z := (⟨"java/lang/String", "charAt", "(I)C"⟩ : MethodName)) hown (mvT hZ (hw _ (List.mem_of_getElem? (i := 209) rfl))) (mvT hZ (hw _ (List.mem_of_getElem? (i := 210) rfl))) (notFace_of_selects (args := #[]) (mvT hZ (hw _ (List.mem_of_getElem? (i := 212) rfl)))) (mvT hZ (hw _ (List.mem_of_getElem? (i := 212) rfl))) (mvT hZ (hw _ (List.mem_of_getElem? (i := 211) rfl))) (by decide) (StrChars.Road.chN (W := 0) hZ hws14 (kI := 4) (hw _ (List.mem_of_getElem? (i := 6) rfl)) (i := 5) (j := ((3 : Int32) + (2 : Int32))) Es15 Vs15 Cs15 As15 (StrChars.Road.codOf rfl (fun c hc => (hp15 c hc).2)) (own_up hp15) (own_staK SCS O0) hzc (own_staK SFM O0) rfm l215 (by show _ < 6; decide) (by decide) (by decide) (by decide)) q13a q13c (g := (mkF m 41 #[.val (.ref rr), .val (.ref ss), .val (.int (3 : Int32))] [(.int ((3 : Int32) + (2 : Int32))), (.ref rr)])) rfl (by rw [hml]; rfl) (Steps.refl _) (argsL := [(.int ((3 : Int32) + (2 : Int32)))]) (rest := []) (lenOf own_pd_x28Ix29C rfl) rfl (by show 2 * 0 + _ ≤ _; exact Nat.le_of_eq rfl) (hb hby own_d37_41) (fun _ _ => ⟨rfl, eh10, (by decide : 0 + 0 ≤ _), (by decide : 0 + 0 ≤ _)⟩)
  dsimp only [Pt.U, Pt.locs, Pt.cells, Pt.slots] at X13 l13 y13 z13 st13 hQ13
  subst l13 y13 z13
  obtain ⟨rfl, rfl, eh13⟩ := hQ13
  have N13 := Fr.app N10 (Fr.nil n0)
  refine OwnFin.adv (B := T13.setTop (mkF m 44 #[.val (.ref rr), .val (.ref ss), .val (.int (3 : Int32))] [(.int (([(35 : Int32), (123 : Int32), d0, d1, d2, (125 : Int32)]).getD (5) 0))])) (fun _ k => st13.trans k) ?_
  refine OwnFin.adv (B := T13.setTop (mkF m 46 #[.val (.ref rr), .val (.ref ss), .val (.int (3 : Int32))] [(.int (125 : Int32)), (.int (([(35 : Int32), (123 : Int32), d0, d1, d2, (125 : Int32)]).getD (5) 0))])) (fun _ k => XS.bipush X13.here hx rfl (hb hby own_d37_44) k) ?_
  have hc46_26 : (([(35 : Int32), (123 : Int32), d0, d1, d2, (125 : Int32)]).getD (5) 0) = (125 : Int32) := rfl
  refine OwnFin.adv (B := T13.setTop (mkF m 51 #[.val (.ref rr), .val (.ref ss), .val (.int (3 : Int32))] [])) (fun _ k => XS.icmpYes X13.here hx rfl (pc0 := 46) (pc' := 51) rfl (hb hby own_d37_46) rfl (teq hc46_26).1 (by decide) (by decide) k) ?_
  refine OwnFin.adv (B := T13.setTop (mkF m 52 #[.val (.ref rr), .val (.ref ss), .val (.int (3 : Int32))] [(.int (3 : Int32))])) (fun _ k => XS.iloadN X13.here hx rfl (hb hby own_d37_51) rfl k) ?_
  have hc52_28 : (0 : Int32) < (3 : Int32) := by decide
  refine OwnFin.adv (B := T13.setTop (mkF m 55 #[.val (.ref rr), .val (.ref ss), .val (.int (3 : Int32))] [])) (fun _ k => XS.ifNo X13.here hx rfl (hb hby own_d37_52) rfl ((if0 _ _).trans (tlt hc52_28).2.2.2) k) ?_
  refine OwnFin.adv (B := T13.setTop (mkF m 56 #[.val (.ref rr), .val (.ref ss), .val (.int (3 : Int32))] [(.ref rr)])) (fun _ k => XS.aloadN X13.here hx rfl (hb hby own_d37_55) rfl rfl k) ?_
  refine OwnFin.adv (B := T13.setTop (mkF m 57 #[.val (.ref rr), .val (.ref ss), .val (.int (3 : Int32))] [(.int (2 : Int32)), (.ref rr)])) (fun _ k => XS.iconst X13.here hx rfl (hb hby own_d37_56) k) ?_
  have hws17 : ∀ d ∈ StrChars.Road.wordsChN, d.before a0 Z = true := fun d hd => hw d ((by decide +kernel : ∀ d ∈ StrChars.Road.wordsChN, d ∈ tables_1) d hd)
  obtain ⟨ts18, ks18, Es18, Vs18, Cs18, As18, lx18, lt18, hp18, l218⟩ := id Fr1
  have lx18 := own_lt lx18
  have lt18 := own_lt lt18
  have ltx18 := own_lt Es18.lt
  have ltt18 := own_lt As18.lt
  obtain ⟨cq16, kq16, q16a, q16b, q16c⟩ := isOf hZ eh13 Es18
  obtain ⟨_, _, ⟨T16, L16, k16, n16⟩, -, X16, ⟨Lc16, hQ16, l16, y16, z16⟩, st16⟩ := X13.virtualBack hx (y := (⟨"java/lang/String", "charAt", "(I)C"⟩ : MethodName)) (z := (⟨"java/lang/String", "charAt", "(I)C"⟩ : MethodName)) hown (mvT hZ (hw _ (List.mem_of_getElem? (i := 209) rfl))) (mvT hZ (hw _ (List.mem_of_getElem? (i := 210) rfl))) (notFace_of_selects (args := #[]) (mvT hZ (hw _ (List.mem_of_getElem? (i := 212) rfl)))) (mvT hZ (hw _ (List.mem_of_getElem? (i := 212) rfl))) (mvT hZ (hw _ (List.mem_of_getElem? (i := 211) rfl))) (by decide) (StrChars.Road.chN (W := 0) hZ hws17 (kI := 4) (hw _ (List.mem_of_getElem? (i := 6) rfl)) (i := 2) (j := (2 : Int32)) Es18 Vs18 Cs18 As18 (StrChars.Road.codOf rfl (fun c hc => (hp18 c hc).2)) (own_up hp18) (own_staK SCS O0) hzc (own_staK SFM O0) rfm l218 (by show _ < 6; decide) (by decide) (by decide) (by decide)) q16a q16c (g := (mkF m 57 #[.val (.ref rr), .val (.ref ss), .val (.int (3 : Int32))] [(.int (2 : Int32)), (.ref rr)])) rfl (by rw [hml]; rfl) (Steps.refl _) (argsL := [(.int (2 : Int32))]) (rest := []) (lenOf own_pd_x28Ix29C rfl) rfl (by show 2 * 0 + _ ≤ _; exact Nat.le_of_eq rfl) (hb hby own_d37_57) (fun _ _ => ⟨rfl, eh13, (by decide : 0 + 0 ≤ _), (by decide : 0 + 0 ≤ _)⟩)
  dsimp only [Pt.U, Pt.locs, Pt.cells, Pt.slots] at X16 l16 y16 z16 st16 hQ16
  subst l16 y16 z16
  obtain ⟨rfl, rfl, eh16⟩ := hQ16
  have N16 := Fr.app N13 (Fr.nil n0)
  refine OwnFin.adv (B := T16.setTop (mkF m 60 #[.val (.ref rr), .val (.ref ss), .val (.int (3 : Int32))] [(.int (([(35 : Int32), (123 : Int32), d0, d1, d2, (125 : Int32)]).getD (2) 0))])) (fun _ k => st16.trans k) ?_
  refine OwnFin.adv (B := T16.setTop (mkF m 61 #[.val (.ref rr), .val (.ref ss), .val (.int (3 : Int32))] [(.ref ss), (.int (([(35 : Int32), (123 : Int32), d0, d1, d2, (125 : Int32)]).getD (2) 0))])) (fun _ k => XS.aloadN X16.here hx rfl (hb hby own_d37_60) rfl rfl k) ?_
  refine OwnFin.adv (B := T16.setTop (mkF m 62 #[.val (.ref rr), .val (.ref ss), .val (.int (3 : Int32))] [(.int (0 : Int32)), (.ref ss), (.int (([(35 : Int32), (123 : Int32), d0, d1, d2, (125 : Int32)]).getD (2) 0))])) (fun _ k => XS.iconst X16.here hx rfl (hb hby own_d37_61) k) ?_
  have hws20 : ∀ d ∈ StrChars.Road.wordsChN, d.before a0 Z = true := fun d hd => hw d ((by decide +kernel : ∀ d ∈ StrChars.Road.wordsChN, d ∈ tables_1) d hd)
  obtain ⟨ts21, ks21, Es21, Vs21, Cs21, As21, lx21, lt21, hp21, l221⟩ := id Fs1
  have lx21 := own_lt lx21
  have lt21 := own_lt lt21
  have ltx21 := own_lt Es21.lt
  have ltt21 := own_lt As21.lt
  obtain ⟨cq19, kq19, q19a, q19b, q19c⟩ := isOf hZ eh16 Es21
  obtain ⟨_, _, ⟨T19, L19, k19, n19⟩, -, X19, ⟨Lc19, hQ19, l19, y19, z19⟩, st19⟩ := X16.virtualBack hx (y := (⟨"java/lang/String", "charAt", "(I)C"⟩ : MethodName)) (z := (⟨"java/lang/String", "charAt", "(I)C"⟩ : MethodName)) hown (mvT hZ (hw _ (List.mem_of_getElem? (i := 209) rfl))) (mvT hZ (hw _ (List.mem_of_getElem? (i := 210) rfl))) (notFace_of_selects (args := #[]) (mvT hZ (hw _ (List.mem_of_getElem? (i := 212) rfl)))) (mvT hZ (hw _ (List.mem_of_getElem? (i := 212) rfl))) (mvT hZ (hw _ (List.mem_of_getElem? (i := 211) rfl))) (by decide) (StrChars.Road.chN (W := 1) hZ hws20 (kI := 4) (hw _ (List.mem_of_getElem? (i := 6) rfl)) (i := 0) (j := (0 : Int32)) Es21 Vs21 Cs21 As21 (StrChars.Road.codOf rfl (fun c hc => (hp21 c hc).2)) (own_up hp21) (own_staK SCS O0) hzc (own_staK SFM O0) rfm l221 (by show _ < 3; decide) (by decide) (by decide) (by decide)) q19a q19c (g := (mkF m 62 #[.val (.ref rr), .val (.ref ss), .val (.int (3 : Int32))] [(.int (0 : Int32)), (.ref ss), (.int (([(35 : Int32), (123 : Int32), d0, d1, d2, (125 : Int32)]).getD (2) 0))])) rfl (by rw [hml]; rfl) (Steps.refl _) (argsL := [(.int (0 : Int32))]) (rest := [(.int (([(35 : Int32), (123 : Int32), d0, d1, d2, (125 : Int32)]).getD (2) 0))]) (lenOf own_pd_x28Ix29C rfl) rfl (by show 2 * 0 + _ ≤ _; exact Nat.le_of_eq rfl) (hb hby own_d37_62) (fun _ _ => ⟨rfl, eh16, (by decide : 0 + 0 ≤ _), (by decide : 0 + 0 ≤ _)⟩)
  dsimp only [Pt.U, Pt.locs, Pt.cells, Pt.slots] at X19 l19 y19 z19 st19 hQ19
  subst l19 y19 z19
  obtain ⟨rfl, rfl, eh19⟩ := hQ19
  have N19 := Fr.app N16 (Fr.nil n0)
  refine OwnFin.adv (B := T19.setTop (mkF m 65 #[.val (.ref rr), .val (.ref ss), .val (.int (3 : Int32))] [(.int (([d0, d1, d2]).getD (0) 0)), (.int (([(35 : Int32), (123 : Int32), d0, d1, d2, (125 : Int32)]).getD (2) 0))])) (fun _ k => st19.trans k) ?_
  have hc65_35 : (([(35 : Int32), (123 : Int32), d0, d1, d2, (125 : Int32)]).getD (2) 0) = (([d0, d1, d2]).getD (0) 0) := rfl
  refine OwnFin.adv (B := T19.setTop (mkF m 70 #[.val (.ref rr), .val (.ref ss), .val (.int (3 : Int32))] [])) (fun _ k => XS.icmpYes X19.here hx rfl (pc0 := 65) (pc' := 70) rfl (hb hby own_d37_65) rfl (teq hc65_35).1 (by decide) (by decide) k) ?_
  refine OwnFin.adv (B := T19.setTop (mkF m 71 #[.val (.ref rr), .val (.ref ss), .val (.int (3 : Int32))] [(.int (3 : Int32))])) (fun _ k => XS.iloadN X19.here hx rfl (hb hby own_d37_70) rfl k) ?_
  refine OwnFin.adv (B := T19.setTop (mkF m 72 #[.val (.ref rr), .val (.ref ss), .val (.int (3 : Int32))] [(.int (1 : Int32)), (.int (3 : Int32))])) (fun _ k => XS.iconst X19.here hx rfl (hb hby own_d37_71) k) ?_
  have hc72_38 : (1 : Int32) < (3 : Int32) := by decide
  refine OwnFin.adv (B := T19.setTop (mkF m 75 #[.val (.ref rr), .val (.ref ss), .val (.int (3 : Int32))] [])) (fun _ k => XS.icmpNo X19.here hx rfl (hb hby own_d37_72) rfl (tlt hc72_38).2.2.2 k) ?_
  refine OwnFin.adv (B := T19.setTop (mkF m 76 #[.val (.ref rr), .val (.ref ss), .val (.int (3 : Int32))] [(.ref rr)])) (fun _ k => XS.aloadN X19.here hx rfl (hb hby own_d37_75) rfl rfl k) ?_
  refine OwnFin.adv (B := T19.setTop (mkF m 77 #[.val (.ref rr), .val (.ref ss), .val (.int (3 : Int32))] [(.int (3 : Int32)), (.ref rr)])) (fun _ k => XS.iconst X19.here hx rfl (hb hby own_d37_76) k) ?_
  have hws23 : ∀ d ∈ StrChars.Road.wordsChN, d.before a0 Z = true := fun d hd => hw d ((by decide +kernel : ∀ d ∈ StrChars.Road.wordsChN, d ∈ tables_1) d hd)
  obtain ⟨ts24, ks24, Es24, Vs24, Cs24, As24, lx24, lt24, hp24, l224⟩ := id Fr1
  have lx24 := own_lt lx24
  have lt24 := own_lt lt24
  have ltx24 := own_lt Es24.lt
  have ltt24 := own_lt As24.lt
  obtain ⟨cq22, kq22, q22a, q22b, q22c⟩ := isOf hZ eh19 Es24
  obtain ⟨_, _, ⟨T22, L22, k22, n22⟩, -, X22, ⟨Lc22, hQ22, l22, y22, z22⟩, st22⟩ := X19.virtualBack hx (y := (⟨"java/lang/String", "charAt", "(I)C"⟩ : MethodName)) (z := (⟨"java/lang/String", "charAt", "(I)C"⟩ : MethodName)) hown (mvT hZ (hw _ (List.mem_of_getElem? (i := 209) rfl))) (mvT hZ (hw _ (List.mem_of_getElem? (i := 210) rfl))) (notFace_of_selects (args := #[]) (mvT hZ (hw _ (List.mem_of_getElem? (i := 212) rfl)))) (mvT hZ (hw _ (List.mem_of_getElem? (i := 212) rfl))) (mvT hZ (hw _ (List.mem_of_getElem? (i := 211) rfl))) (by decide) (StrChars.Road.chN (W := 0) hZ hws23 (kI := 4) (hw _ (List.mem_of_getElem? (i := 6) rfl)) (i := 3) (j := (3 : Int32)) Es24 Vs24 Cs24 As24 (StrChars.Road.codOf rfl (fun c hc => (hp24 c hc).2)) (own_up hp24) (own_staK SCS O0) hzc (own_staK SFM O0) rfm l224 (by show _ < 6; decide) (by decide) (by decide) (by decide)) q22a q22c (g := (mkF m 77 #[.val (.ref rr), .val (.ref ss), .val (.int (3 : Int32))] [(.int (3 : Int32)), (.ref rr)])) rfl (by rw [hml]; rfl) (Steps.refl _) (argsL := [(.int (3 : Int32))]) (rest := []) (lenOf own_pd_x28Ix29C rfl) rfl (by show 2 * 0 + _ ≤ _; exact Nat.le_of_eq rfl) (hb hby own_d37_77) (fun _ _ => ⟨rfl, eh19, (by decide : 0 + 0 ≤ _), (by decide : 0 + 0 ≤ _)⟩)
  dsimp only [Pt.U, Pt.locs, Pt.cells, Pt.slots] at X22 l22 y22 z22 st22 hQ22
  subst l22 y22 z22
  obtain ⟨rfl, rfl, eh22⟩ := hQ22
  have N22 := Fr.app N19 (Fr.nil n0)
  refine OwnFin.adv (B := T22.setTop (mkF m 80 #[.val (.ref rr), .val (.ref ss), .val (.int (3 : Int32))] [(.int (([(35 : Int32), (123 : Int32), d0, d1, d2, (125 : Int32)]).getD (3) 0))])) (fun _ k => st22.trans k) ?_
  refine OwnFin.adv (B := T22.setTop (mkF m 81 #[.val (.ref rr), .val (.ref ss), .val (.int (3 : Int32))] [(.ref ss), (.int (([(35 : Int32), (123 : Int32), d0, d1, d2, (125 : Int32)]).getD (3) 0))])) (fun _ k => XS.aloadN X22.here hx rfl (hb hby own_d37_80) rfl rfl k) ?_
  refine OwnFin.adv (B := T22.setTop (mkF m 82 #[.val (.ref rr), .val (.ref ss), .val (.int (3 : Int32))] [(.int (1 : Int32)), (.ref ss), (.int (([(35 : Int32), (123 : Int32), d0, d1, d2, (125 : Int32)]).getD (3) 0))])) (fun _ k => XS.iconst X22.here hx rfl (hb hby own_d37_81) k) ?_
  have hws26 : ∀ d ∈ StrChars.Road.wordsChN, d.before a0 Z = true := fun d hd => hw d ((by decide +kernel : ∀ d ∈ StrChars.Road.wordsChN, d ∈ tables_1) d hd)
  obtain ⟨ts27, ks27, Es27, Vs27, Cs27, As27, lx27, lt27, hp27, l227⟩ := id Fs1
  have lx27 := own_lt lx27
  have lt27 := own_lt lt27
  have ltx27 := own_lt Es27.lt
  have ltt27 := own_lt As27.lt
  obtain ⟨cq25, kq25, q25a, q25b, q25c⟩ := isOf hZ eh22 Es27
  obtain ⟨_, _, ⟨T25, L25, k25, n25⟩, -, X25, ⟨Lc25, hQ25, l25, y25, z25⟩, st25⟩ := X22.virtualBack hx (y := (⟨"java/lang/String", "charAt", "(I)C"⟩ : MethodName)) (z := (⟨"java/lang/String", "charAt", "(I)C"⟩ : MethodName)) hown (mvT hZ (hw _ (List.mem_of_getElem? (i := 209) rfl))) (mvT hZ (hw _ (List.mem_of_getElem? (i := 210) rfl))) (notFace_of_selects (args := #[]) (mvT hZ (hw _ (List.mem_of_getElem? (i := 212) rfl)))) (mvT hZ (hw _ (List.mem_of_getElem? (i := 212) rfl))) (mvT hZ (hw _ (List.mem_of_getElem? (i := 211) rfl))) (by decide) (StrChars.Road.chN (W := 1) hZ hws26 (kI := 4) (hw _ (List.mem_of_getElem? (i := 6) rfl)) (i := 1) (j := (1 : Int32)) Es27 Vs27 Cs27 As27 (StrChars.Road.codOf rfl (fun c hc => (hp27 c hc).2)) (own_up hp27) (own_staK SCS O0) hzc (own_staK SFM O0) rfm l227 (by show _ < 3; decide) (by decide) (by decide) (by decide)) q25a q25c (g := (mkF m 82 #[.val (.ref rr), .val (.ref ss), .val (.int (3 : Int32))] [(.int (1 : Int32)), (.ref ss), (.int (([(35 : Int32), (123 : Int32), d0, d1, d2, (125 : Int32)]).getD (3) 0))])) rfl (by rw [hml]; rfl) (Steps.refl _) (argsL := [(.int (1 : Int32))]) (rest := [(.int (([(35 : Int32), (123 : Int32), d0, d1, d2, (125 : Int32)]).getD (3) 0))]) (lenOf own_pd_x28Ix29C rfl) rfl (by show 2 * 0 + _ ≤ _; exact Nat.le_of_eq rfl) (hb hby own_d37_82) (fun _ _ => ⟨rfl, eh22, (by decide : 0 + 0 ≤ _), (by decide : 0 + 0 ≤ _)⟩)
  dsimp only [Pt.U, Pt.locs, Pt.cells, Pt.slots] at X25 l25 y25 z25 st25 hQ25
  subst l25 y25 z25
  obtain ⟨rfl, rfl, eh25⟩ := hQ25
  have N25 := Fr.app N22 (Fr.nil n0)
  refine OwnFin.adv (B := T25.setTop (mkF m 85 #[.val (.ref rr), .val (.ref ss), .val (.int (3 : Int32))] [(.int (([d0, d1, d2]).getD (1) 0)), (.int (([(35 : Int32), (123 : Int32), d0, d1, d2, (125 : Int32)]).getD (3) 0))])) (fun _ k => st25.trans k) ?_
  have hc85_45 : (([(35 : Int32), (123 : Int32), d0, d1, d2, (125 : Int32)]).getD (3) 0) = (([d0, d1, d2]).getD (1) 0) := rfl
  refine OwnFin.adv (B := T25.setTop (mkF m 90 #[.val (.ref rr), .val (.ref ss), .val (.int (3 : Int32))] [])) (fun _ k => XS.icmpYes X25.here hx rfl (pc0 := 85) (pc' := 90) rfl (hb hby own_d37_85) rfl (teq hc85_45).1 (by decide) (by decide) k) ?_
  refine OwnFin.adv (B := T25.setTop (mkF m 91 #[.val (.ref rr), .val (.ref ss), .val (.int (3 : Int32))] [(.int (3 : Int32))])) (fun _ k => XS.iloadN X25.here hx rfl (hb hby own_d37_90) rfl k) ?_
  refine OwnFin.adv (B := T25.setTop (mkF m 92 #[.val (.ref rr), .val (.ref ss), .val (.int (3 : Int32))] [(.int (2 : Int32)), (.int (3 : Int32))])) (fun _ k => XS.iconst X25.here hx rfl (hb hby own_d37_91) k) ?_
  have hc92_48 : (2 : Int32) < (3 : Int32) := by decide
  refine OwnFin.adv (B := T25.setTop (mkF m 95 #[.val (.ref rr), .val (.ref ss), .val (.int (3 : Int32))] [])) (fun _ k => XS.icmpNo X25.here hx rfl (hb hby own_d37_92) rfl (tlt hc92_48).2.2.2 k) ?_
  refine OwnFin.adv (B := T25.setTop (mkF m 96 #[.val (.ref rr), .val (.ref ss), .val (.int (3 : Int32))] [(.ref rr)])) (fun _ k => XS.aloadN X25.here hx rfl (hb hby own_d37_95) rfl rfl k) ?_
  refine OwnFin.adv (B := T25.setTop (mkF m 97 #[.val (.ref rr), .val (.ref ss), .val (.int (3 : Int32))] [(.int (4 : Int32)), (.ref rr)])) (fun _ k => XS.iconst X25.here hx rfl (hb hby own_d37_96) k) ?_
  have hws29 : ∀ d ∈ StrChars.Road.wordsChN, d.before a0 Z = true := fun d hd => hw d ((by decide +kernel : ∀ d ∈ StrChars.Road.wordsChN, d ∈ tables_1) d hd)
  obtain ⟨ts30, ks30, Es30, Vs30, Cs30, As30, lx30, lt30, hp30, l230⟩ := id Fr1
  have lx30 := own_lt lx30
  have lt30 := own_lt lt30
  have ltx30 := own_lt Es30.lt
  have ltt30 := own_lt As30.lt
  obtain ⟨cq28, kq28, q28a, q28b, q28c⟩ := isOf hZ eh25 Es30
  obtain ⟨_, _, ⟨T28, L28, k28, n28⟩, -, X28, ⟨Lc28, hQ28, l28, y28, z28⟩, st28⟩ := X25.virtualBack hx (y := (⟨"java/lang/String", "charAt", "(I)C"⟩ : MethodName)) (z := (⟨"java/lang/String", "charAt", "(I)C"⟩ : MethodName)) hown (mvT hZ (hw _ (List.mem_of_getElem? (i := 209) rfl))) (mvT hZ (hw _ (List.mem_of_getElem? (i := 210) rfl))) (notFace_of_selects (args := #[]) (mvT hZ (hw _ (List.mem_of_getElem? (i := 212) rfl)))) (mvT hZ (hw _ (List.mem_of_getElem? (i := 212) rfl))) (mvT hZ (hw _ (List.mem_of_getElem? (i := 211) rfl))) (by decide) (StrChars.Road.chN (W := 0) hZ hws29 (kI := 4) (hw _ (List.mem_of_getElem? (i := 6) rfl)) (i := 4) (j := (4 : Int32)) Es30 Vs30 Cs30 As30 (StrChars.Road.codOf rfl (fun c hc => (hp30 c hc).2)) (own_up hp30) (own_staK SCS O0) hzc (own_staK SFM O0) rfm l230 (by show _ < 6; decide) (by decide) (by decide) (by decide)) q28a q28c (g := (mkF m 97 #[.val (.ref rr), .val (.ref ss), .val (.int (3 : Int32))] [(.int (4 : Int32)), (.ref rr)])) rfl (by rw [hml]; rfl) (Steps.refl _) (argsL := [(.int (4 : Int32))]) (rest := []) (lenOf own_pd_x28Ix29C rfl) rfl (by show 2 * 0 + _ ≤ _; exact Nat.le_of_eq rfl) (hb hby own_d37_97) (fun _ _ => ⟨rfl, eh25, (by decide : 0 + 0 ≤ _), (by decide : 0 + 0 ≤ _)⟩)
  dsimp only [Pt.U, Pt.locs, Pt.cells, Pt.slots] at X28 l28 y28 z28 st28 hQ28
  subst l28 y28 z28
  obtain ⟨rfl, rfl, eh28⟩ := hQ28
  have N28 := Fr.app N25 (Fr.nil n0)
  refine OwnFin.adv (B := T28.setTop (mkF m 100 #[.val (.ref rr), .val (.ref ss), .val (.int (3 : Int32))] [(.int (([(35 : Int32), (123 : Int32), d0, d1, d2, (125 : Int32)]).getD (4) 0))])) (fun _ k => st28.trans k) ?_
  refine OwnFin.adv (B := T28.setTop (mkF m 101 #[.val (.ref rr), .val (.ref ss), .val (.int (3 : Int32))] [(.ref ss), (.int (([(35 : Int32), (123 : Int32), d0, d1, d2, (125 : Int32)]).getD (4) 0))])) (fun _ k => XS.aloadN X28.here hx rfl (hb hby own_d37_100) rfl rfl k) ?_
  refine OwnFin.adv (B := T28.setTop (mkF m 102 #[.val (.ref rr), .val (.ref ss), .val (.int (3 : Int32))] [(.int (2 : Int32)), (.ref ss), (.int (([(35 : Int32), (123 : Int32), d0, d1, d2, (125 : Int32)]).getD (4) 0))])) (fun _ k => XS.iconst X28.here hx rfl (hb hby own_d37_101) k) ?_
  have hws32 : ∀ d ∈ StrChars.Road.wordsChN, d.before a0 Z = true := fun d hd => hw d ((by decide +kernel : ∀ d ∈ StrChars.Road.wordsChN, d ∈ tables_1) d hd)
  obtain ⟨ts33, ks33, Es33, Vs33, Cs33, As33, lx33, lt33, hp33, l233⟩ := id Fs1
  have lx33 := own_lt lx33
  have lt33 := own_lt lt33
  have ltx33 := own_lt Es33.lt
  have ltt33 := own_lt As33.lt
  obtain ⟨cq31, kq31, q31a, q31b, q31c⟩ := isOf hZ eh28 Es33
  obtain ⟨_, _, ⟨T31, L31, k31, n31⟩, -, X31, ⟨Lc31, hQ31, l31, y31, z31⟩, st31⟩ := X28.virtualBack hx (y := (⟨"java/lang/String", "charAt", "(I)C"⟩ : MethodName)) (z := (⟨"java/lang/String", "charAt", "(I)C"⟩ : MethodName)) hown (mvT hZ (hw _ (List.mem_of_getElem? (i := 209) rfl))) (mvT hZ (hw _ (List.mem_of_getElem? (i := 210) rfl))) (notFace_of_selects (args := #[]) (mvT hZ (hw _ (List.mem_of_getElem? (i := 212) rfl)))) (mvT hZ (hw _ (List.mem_of_getElem? (i := 212) rfl))) (mvT hZ (hw _ (List.mem_of_getElem? (i := 211) rfl))) (by decide) (StrChars.Road.chN (W := 1) hZ hws32 (kI := 4) (hw _ (List.mem_of_getElem? (i := 6) rfl)) (i := 2) (j := (2 : Int32)) Es33 Vs33 Cs33 As33 (StrChars.Road.codOf rfl (fun c hc => (hp33 c hc).2)) (own_up hp33) (own_staK SCS O0) hzc (own_staK SFM O0) rfm l233 (by show _ < 3; decide) (by decide) (by decide) (by decide)) q31a q31c (g := (mkF m 102 #[.val (.ref rr), .val (.ref ss), .val (.int (3 : Int32))] [(.int (2 : Int32)), (.ref ss), (.int (([(35 : Int32), (123 : Int32), d0, d1, d2, (125 : Int32)]).getD (4) 0))])) rfl (by rw [hml]; rfl) (Steps.refl _) (argsL := [(.int (2 : Int32))]) (rest := [(.int (([(35 : Int32), (123 : Int32), d0, d1, d2, (125 : Int32)]).getD (4) 0))]) (lenOf own_pd_x28Ix29C rfl) rfl (by show 2 * 0 + _ ≤ _; exact Nat.le_of_eq rfl) (hb hby own_d37_102) (fun _ _ => ⟨rfl, eh28, (by decide : 0 + 0 ≤ _), (by decide : 0 + 0 ≤ _)⟩)
  dsimp only [Pt.U, Pt.locs, Pt.cells, Pt.slots] at X31 l31 y31 z31 st31 hQ31
  subst l31 y31 z31
  obtain ⟨rfl, rfl, eh31⟩ := hQ31
  have N31 := Fr.app N28 (Fr.nil n0)
  refine OwnFin.adv (B := T31.setTop (mkF m 105 #[.val (.ref rr), .val (.ref ss), .val (.int (3 : Int32))] [(.int (([d0, d1, d2]).getD (2) 0)), (.int (([(35 : Int32), (123 : Int32), d0, d1, d2, (125 : Int32)]).getD (4) 0))])) (fun _ k => st31.trans k) ?_
  have hc105_55 : (([(35 : Int32), (123 : Int32), d0, d1, d2, (125 : Int32)]).getD (4) 0) = (([d0, d1, d2]).getD (2) 0) := rfl
  refine OwnFin.adv (B := T31.setTop (mkF m 110 #[.val (.ref rr), .val (.ref ss), .val (.int (3 : Int32))] [])) (fun _ k => XS.icmpYes X31.here hx rfl (pc0 := 105) (pc' := 110) rfl (hb hby own_d37_105) rfl (teq hc105_55).1 (by decide) (by decide) k) ?_
  refine OwnFin.adv (B := T31.setTop (mkF m 111 #[.val (.ref rr), .val (.ref ss), .val (.int (3 : Int32))] [(.int (1 : Int32))])) (fun _ k => XS.iconst X31.here hx rfl (hb hby own_d37_110) k) ?_
  obtain ⟨fs, hr, hrun, hended, hW, hsame⟩ := X31.leave (v := some (.int (1 : Int32))) (fun h => by rw [Bd.returns] at h; cases h)
  refine OwnFin.leaf hP' ⟨_, _, retN X31 hx (t := .boolean) Bd.returns (by simp) (hb hby own_d37_111) hr, hrun, hended, _, _, rfl, ?_, ⟨_, rfl⟩, hW, hsame.mono (by decide) (by decide)⟩
  exact ⟨rfl, N31, eh31⟩
def own_Q_shape (n0 : Nat) (h0 : Heap) (v : Option Value) (h : Heap) (L : List Loc) : Prop := v = some (.int (1 : Int32)) ∧ Fr n0 L ∧ h = h0
theorem own_shape (l : Launch) (Z : State) (a0 : Array Value) (hw : ∀ d ∈ tables_1, d.before a0 Z = true) (ws : List Jvm.Cond) (rr ss : Addr) (zc : Int32) (fm : Value) (lr ls : Nat) (cs : List Int32) (h0 : Heap) (n0 : Nat) (Z0 : n0 ≤ h0.size) (O0 : Old Z n0 h0) (SCS : Sta Z Z.heap "java/lang/String" "COMPACT_STRINGS" "Z" (.int zc)) (hzc : ¬ zc = 0) (SFM : Sta Z Z.heap "jdk/internal/util/Preconditions" "SIOOBE_FORMATTER" "Ljava/util/function/BiFunction;" fm) (rfm : fm.isRef = true) (Fr1 : OwnS Z h0 lr rr (((([] : List Int32) ++ [(35 : Int32), (123 : Int32)]) ++ cs) ++ [(125 : Int32)])) (Fs1 : OwnS Z h0 ls ss cs) (h3 : cs.length ≤ 3) :
    MetFree l (⟨"com/example/raccordo/raccordo/sql/SqlTokenParameterPinLaw", "shape", "(Ljava/lang/String;Ljava/lang/String;)Z"⟩ : MethodName) (head1 (Jvm.Cond.code (⟨"com/example/raccordo/raccordo/sql/SqlTokenParameterPinLaw", "shape", "(Ljava/lang/String;Ljava/lang/String;)Z"⟩ : MethodName) method_3_code 3 (some .boolean) :: ws) ({ frames := 5, cells := 0, slots := 0, locals := 80 } : Room)) (fun A0 U0 => A0 = #[(.ref rr), (.ref ss)] ∧ Z.Warmed39 U0.vm ∧ U0.heap = h0) (fun _ _ _ _ _ => True) (fun _ U0 o0 U1 => ∃ v0 L0, o0 = .returned v0 ∧ own_Q_shape n0 h0 v0 U1.heap L0 ∧ FrameEnd U0 o0 U1 L0 0 0) := by
  rcases cs with _ | ⟨d0, _ | ⟨d1, _ | ⟨d2, _ | ⟨d3, dr⟩⟩⟩⟩
  · exact own_shape0 l Z a0 hw ws rr ss zc fm lr ls h0 n0 Z0 O0 SCS hzc SFM rfm Fr1 Fs1
  · exact own_shape1 l Z a0 hw ws rr ss zc fm lr ls d0 h0 n0 Z0 O0 SCS hzc SFM rfm Fr1 Fs1
  · exact own_shape2 l Z a0 hw ws rr ss zc fm lr ls d0 d1 h0 n0 Z0 O0 SCS hzc SFM rfm Fr1 Fs1
  · exact own_shape3 l Z a0 hw ws rr ss zc fm lr ls d0 d1 d2 h0 n0 Z0 O0 SCS hzc SFM rfm Fr1 Fs1
  · exact absurd h3 (by simp only [List.length_cons]; omega)
theorem own_d43_0 : decode prog_77_method_7_code 0 = .ok (.aload_n 1, 1) := by decide +kernel
theorem own_d43_1 : decode prog_77_method_7_code 1 = .ok (.instanceof 18, 3) := by decide +kernel
theorem own_d43_4 : decode prog_77_method_7_code 4 = .ok (.ifCond .eq 37, 3) := by decide +kernel
theorem own_d43_7 : decode prog_77_method_7_code 7 = .ok (.aload_n 1, 1) := by decide +kernel
theorem own_d43_8 : decode prog_77_method_7_code 8 = .ok (.checkcast 18, 3) := by decide +kernel
theorem own_d43_11 : decode prog_77_method_7_code 11 = .ok (.astore_n 2, 1) := by decide +kernel
theorem own_d43_12 : decode prog_77_method_7_code 12 = .ok (.aload_n 0, 1) := by decide +kernel
theorem own_d43_13 : decode prog_77_method_7_code 13 = .ok (.getfield 17, 3) := by decide +kernel
theorem own_d43_16 : decode prog_77_method_7_code 16 = .ok (.aload_n 2, 1) := by decide +kernel
theorem own_d43_17 : decode prog_77_method_7_code 17 = .ok (.getfield 17, 3) := by decide +kernel
theorem own_d43_20 : decode prog_77_method_7_code 20 = .ok (.if_acmp .ne 21, 3) := by decide +kernel
theorem own_d43_23 : decode prog_77_method_7_code 23 = .ok (.aload_n 0, 1) := by decide +kernel
theorem own_d43_24 : decode prog_77_method_7_code 24 = .ok (.getfield 26, 3) := by decide +kernel
theorem own_d43_27 : decode prog_77_method_7_code 27 = .ok (.aload_n 2, 1) := by decide +kernel
theorem own_d43_28 : decode prog_77_method_7_code 28 = .ok (.getfield 26, 3) := by decide +kernel
theorem own_pd_x28Ljavax2flangx2fObjectx3bx29Z : parseMethodDescriptor "(Ljava/lang/Object;)Z" = some ⟨[(.object "java/lang/Object")], some .boolean⟩ := by decide +kernel
theorem own_d43_31 : decode prog_77_method_7_code 31 = .ok (.invokevirtual 41, 3) := by decide +kernel
theorem own_d43_34 : decode prog_77_method_7_code 34 = .ok (.ifCond .eq 7, 3) := by decide +kernel
theorem own_d43_41 : decode prog_77_method_7_code 41 = .ok (.iconst 0, 1) := by decide +kernel
theorem own_d43_42 : decode prog_77_method_7_code 42 = .ok (.ireturn, 1) := by decide +kernel
theorem own_d43_37 : decode prog_77_method_7_code 37 = .ok (.iconst 1, 1) := by decide +kernel
theorem own_d43_38 : decode prog_77_method_7_code 38 = .ok (.goto 4, 3) := by decide +kernel
theorem own_ef_tkEq (m : MethodId) (x0 : Addr) (x1 : Addr) : entryFrame m #[(.ref x0), (.ref x1)] 3 = mkF m 0 #[.val (.ref x0), .val (.ref x1), .unset] [] := by first | (simp [entryFrame, mkF, argsToLocals, Value.category]; done) | rfl
def own_Q_tkEq (Z : State) (oa oc k1 k2 xa xb : Addr) (zc : Int32) (la lb : Nat) (ca cb : List Int32) (h0 : Heap) (n0 : Nat) (v : Option Value) (h : Heap) (L : List Loc) : Prop := v = some (.int (if k1 = k2 ∧ ca = cb then (1 : Int32) else 0)) ∧ Fr n0 L ∧ h = h0
set_option maxRecDepth 65536 in
set_option maxHeartbeats 40000000 in
theorem own_tkEq (l : Launch) (Z : State) (a0 : Array Value) (hw : ∀ d ∈ tables_1, d.before a0 Z = true) (ws : List Jvm.Cond) (oa oc k1 k2 xa xb : Addr) (zc : Int32) (la lb : Nat) (ca cb : List Int32) (h0 : Heap) (n0 : Nat) (Z0 : n0 ≤ h0.size) (O0 : Old Z n0 h0) (SCS : Sta Z Z.heap "java/lang/String" "COMPACT_STRINGS" "Z" (.int zc)) (hzc : ¬ zc = 0) (E2 : Exa Z h0 oc "com/example/raccordo/raccordo/sql/SqlToken") (FAk : Fld Z h0 oa "com/example/raccordo/raccordo/sql/SqlToken" "kind" "Lcom/example/raccordo/raccordo/sql/SqlToken$Kind;" (.ref k1)) (FBk : Fld Z h0 oc "com/example/raccordo/raccordo/sql/SqlToken" "kind" "Lcom/example/raccordo/raccordo/sql/SqlToken$Kind;" (.ref k2)) (FAc : Fld Z h0 oa "com/example/raccordo/raccordo/sql/SqlToken" "content" "Ljava/lang/String;" (.ref xa)) (FBc : Fld Z h0 oc "com/example/raccordo/raccordo/sql/SqlToken" "content" "Ljava/lang/String;" (.ref xb)) (Sa : OwnS Z h0 la xa ca) (Sb : OwnS Z h0 lb xb cb) :
    MetFree l (⟨"com/example/raccordo/raccordo/sql/SqlToken", "equals", "(Ljava/lang/Object;)Z"⟩ : MethodName) (head1 (Jvm.Cond.code (⟨"com/example/raccordo/raccordo/sql/SqlToken", "equals", "(Ljava/lang/Object;)Z"⟩ : MethodName) prog_77_method_7_code 3 (some .boolean) :: ws) ({ frames := 2, cells := 0, slots := 0, locals := 28 } : Room)) (fun A0 U0 => A0 = #[(.ref oa), (.ref oc)] ∧ Z.Warmed39 U0.vm ∧ U0.heap = h0) (fun _ _ _ _ _ => True) (fun _ U0 o0 U1 => ∃ v0 L0, o0 = .returned v0 ∧ own_Q_tkEq Z oa oc k1 k2 xa xb zc la lb ca cb h0 n0 v0 U1.heap L0 ∧ FrameEnd U0 o0 U1 L0 ({ frames := 2, cells := 0, slots := 0, locals := 28 } : Room).cells ({ frames := 2, cells := 0, slots := 0, locals := 28 } : Room).slots) := by
  refine MetFree.of_bodySF (plainFor_of_name own_pn_com_example_raccordo_raccordo_sql_SqlToken) hisR ?_
  intro p e s m args below meth c s₁ Bd hml0 hP hK
  obtain ⟨rfl, hZ, hh⟩ := hP
  have hZs := hZ
  have hx := Bd.exec
  have hby := Bd.bytes
  have hml : c.maxLocals = 3 := hml0
  have hown : s.vm.findClass "com/example/raccordo/raccordo/sql/SqlToken" = some m.cls := findClass_of_methodNamed Bd.named
  have hnm := (name_of_methodNamed Bd.named Bd.method).1
  have X0 : Stand p l e ({ frames := 2, cells := 0, slots := 0, locals := 28 } : Room) s m #[(.ref oa), (.ref oc)] below meth c s₁ [] 0 0 := Stand.of_body Bd
  have e0 : s₁.heap = h0 := by rw [← hh, Bd.state]; rfl
  have N0 := Fr.nil n0
  refine OwnFin.entry (own_ef_tkEq m oa oc) (fun P' hP' => ?_)
  refine OwnFin.adv (B := s₁.setTop (mkF m 1 #[.val (.ref oa), .val (.ref oc), .unset] [(.ref oc)])) (fun _ k => XS.aloadN X0.here hx rfl (hb hby own_d43_0) rfl rfl k) ?_
  obtain ⟨T1, X1, e1, st1⟩ := instY X0 hx hZ hown (hw _ (List.mem_of_getElem? (i := 41) rfl)) e0 (Ins.self E2) (g := (mkF m 1 #[.val (.ref oa), .val (.ref oc), .unset] [(.ref oc)])) rfl rfl (hb hby own_d43_1)
  refine OwnFin.adv (B := T1.setTop (mkF m 4 #[.val (.ref oa), .val (.ref oc), .unset] [(.int (1 : Int32))])) (fun _ k => st1 _ k) ?_
  have hc4_3 : ¬ ((1 : Int32) = (0 : Int32)) := by decide
  refine OwnFin.adv (B := T1.setTop (mkF m 7 #[.val (.ref oa), .val (.ref oc), .unset] [])) (fun _ k => XS.ifNo X1.here hx rfl (hb hby own_d43_4) rfl ((if0 _ _).trans (feq hc4_3).1) k) ?_
  refine OwnFin.adv (B := T1.setTop (mkF m 8 #[.val (.ref oa), .val (.ref oc), .unset] [(.ref oc)])) (fun _ k => XS.aloadN X1.here hx rfl (hb hby own_d43_7) rfl rfl k) ?_
  obtain ⟨T2, X2, e2, st2⟩ := castY X1 hx hZ hown (hw _ (List.mem_of_getElem? (i := 41) rfl)) e1 (Ins.self E2) (g := (mkF m 8 #[.val (.ref oa), .val (.ref oc), .unset] [(.ref oc)])) rfl rfl (hb hby own_d43_8)
  refine OwnFin.adv (B := T2.setTop (mkF m 11 #[.val (.ref oa), .val (.ref oc), .unset] [(.ref oc)])) (fun _ k => st2 _ k) ?_
  refine OwnFin.adv (B := T2.setTop (mkF m 12 #[.val (.ref oa), .val (.ref oc), .val (.ref oc)] [])) (fun _ k => XS.astoreN X2.here hx rfl (hb hby own_d43_11) rfl rfl (l' := #[.val (.ref oa), .val (.ref oc), .val (.ref oc)]) rfl k) ?_
  refine OwnFin.adv (B := T2.setTop (mkF m 13 #[.val (.ref oa), .val (.ref oc), .val (.ref oc)] [(.ref oa)])) (fun _ k => XS.aloadN X2.here hx rfl (hb hby own_d43_12) rfl rfl k) ?_
  obtain ⟨T3, X3, e3, st3⟩ := getF X2 hx hZ hown (host := "") (Or.inl (hw _ (List.mem_of_getElem? (i := 57) rfl))) Via.refl e2 FAk (g := (mkF m 13 #[.val (.ref oa), .val (.ref oc), .val (.ref oc)] [(.ref oa)])) rfl rfl (hb hby own_d43_13)
  refine OwnFin.adv (B := T3.setTop (mkF m 16 #[.val (.ref oa), .val (.ref oc), .val (.ref oc)] [(.ref k1)])) (fun _ k => st3 _ k) ?_
  refine OwnFin.adv (B := T3.setTop (mkF m 17 #[.val (.ref oa), .val (.ref oc), .val (.ref oc)] [(.ref oc), (.ref k1)])) (fun _ k => XS.aloadN X3.here hx rfl (hb hby own_d43_16) rfl rfl k) ?_
  obtain ⟨T4, X4, e4, st4⟩ := getF X3 hx hZ hown (host := "") (Or.inl (hw _ (List.mem_of_getElem? (i := 57) rfl))) Via.refl e3 FBk (g := (mkF m 17 #[.val (.ref oa), .val (.ref oc), .val (.ref oc)] [(.ref oc), (.ref k1)])) rfl rfl (hb hby own_d43_17)
  refine OwnFin.adv (B := T4.setTop (mkF m 20 #[.val (.ref oa), .val (.ref oc), .val (.ref oc)] [(.ref k2), (.ref k1)])) (fun _ k => st4 _ k) ?_
  by_cases hc20 : k1 = k2
  ·
    refine OwnFin.adv (B := T4.setTop (mkF m 23 #[.val (.ref oa), .val (.ref oc), .val (.ref oc)] [])) (fun _ k => Jvm.RoadKit.acmp (g := (mkF m 20 #[.val (.ref oa), .val (.ref oc), .val (.ref oc)] [(.ref k2), (.ref k1)])) X4 hx rfl rfl rfl (pc0 := 20) (pc' := 23) (same := true) rfl (hb hby own_d43_20) rfl (decide_eq_true (congrArg Value.ref hc20)) (by decide) (by decide) k) ?_
    refine OwnFin.adv (B := T4.setTop (mkF m 24 #[.val (.ref oa), .val (.ref oc), .val (.ref oc)] [(.ref oa)])) (fun _ k => XS.aloadN X4.here hx rfl (hb hby own_d43_23) rfl rfl k) ?_
    obtain ⟨T5, X5, e5, st5⟩ := getF X4 hx hZ hown (host := "") (Or.inl (hw _ (List.mem_of_getElem? (i := 61) rfl))) Via.refl e4 FAc (g := (mkF m 24 #[.val (.ref oa), .val (.ref oc), .val (.ref oc)] [(.ref oa)])) rfl rfl (hb hby own_d43_24)
    refine OwnFin.adv (B := T5.setTop (mkF m 27 #[.val (.ref oa), .val (.ref oc), .val (.ref oc)] [(.ref xa)])) (fun _ k => st5 _ k) ?_
    refine OwnFin.adv (B := T5.setTop (mkF m 28 #[.val (.ref oa), .val (.ref oc), .val (.ref oc)] [(.ref oc), (.ref xa)])) (fun _ k => XS.aloadN X5.here hx rfl (hb hby own_d43_27) rfl rfl k) ?_
    obtain ⟨T6, X6, e6, st6⟩ := getF X5 hx hZ hown (host := "") (Or.inl (hw _ (List.mem_of_getElem? (i := 61) rfl))) Via.refl e5 FBc (g := (mkF m 28 #[.val (.ref oa), .val (.ref oc), .val (.ref oc)] [(.ref oc), (.ref xa)])) rfl rfl (hb hby own_d43_28)
    refine OwnFin.adv (B := T6.setTop (mkF m 31 #[.val (.ref oa), .val (.ref oc), .val (.ref oc)] [(.ref xb), (.ref xa)])) (fun _ k => st6 _ k) ?_
    have hws8 : ∀ d ∈ StrChars.Road.wordsEq, d.before a0 Z = true := fun d hd => hw d ((by decide +kernel : ∀ d ∈ StrChars.Road.wordsEq, d ∈ tables_1) d hd)
    obtain ⟨ts9, ks9, Es9, Vs9, Cs9, As9, lx9, lt9, hp9, l29⟩ := id Sa
    have lx9 := own_lt lx9
    have lt9 := own_lt lt9
    have ltx9 := own_lt Es9.lt
    have ltt9 := own_lt As9.lt
    obtain ⟨ts10, ks10, Es10, Vs10, Cs10, As10, lx10, lt10, hp10, l210⟩ := id Sb
    have lx10 := own_lt lx10
    have lt10 := own_lt lt10
    have ltx10 := own_lt Es10.lt
    have ltt10 := own_lt As10.lt
    obtain ⟨cq7, kq7, q7a, q7b, q7c⟩ := isOf hZ e6 Es9
    obtain ⟨_, _, ⟨T7, L7, k7, n7⟩, -, X7, ⟨Lc7, hQ7, l7, y7, z7⟩, st7⟩ := X6.virtualBack hx (y := (⟨"java/lang/String", "equals", "(Ljava/lang/Object;)Z"⟩ : MethodName)) (z := (⟨"java/lang/String", "equals", "(Ljava/lang/Object;)Z"⟩ : MethodName)) hown (mvT hZ (hw _ (List.mem_of_getElem? (i := 237) rfl))) (mvT hZ (hw _ (List.mem_of_getElem? (i := 75) rfl))) (notFace_of_selects (args := #[]) (mvT hZ (hw _ (List.mem_of_getElem? (i := 77) rfl)))) (mvT hZ (hw _ (List.mem_of_getElem? (i := 77) rfl))) (mvT hZ (hw _ (List.mem_of_getElem? (i := 76) rfl))) (by decide) (StrChars.Road.eqW (W := 0) hZ hws8 (kI := 4) (hw _ (List.mem_of_getElem? (i := 6) rfl)) Es9 Vs9 Cs9 As9 (StrChars.Road.codOf rfl (fun c hc => (hp9 c hc).2)) (own_up hp9) l29 Es10 Vs10 Cs10 As10 (StrChars.Road.codOf rfl (fun c hc => (hp10 c hc).2)) (own_up hp10) l210 (own_staK SCS O0) hzc (by decide) (by decide)) q7a q7c (g := (mkF m 31 #[.val (.ref oa), .val (.ref oc), .val (.ref oc)] [(.ref xb), (.ref xa)])) rfl (by rw [hml]; rfl) (Steps.refl _) (argsL := [(.ref xb)]) (rest := []) (lenOf own_pd_x28Ljavax2flangx2fObjectx3bx29Z rfl) rfl (by show 2 * 0 + _ ≤ _; exact Nat.le_of_eq rfl) (hb hby own_d43_31) (fun _ _ => ⟨rfl, e6, (by decide : 0 + 0 ≤ _), (by decide : 0 + 0 ≤ _)⟩)
    dsimp only [Pt.U, Pt.locs, Pt.cells, Pt.slots] at X7 l7 y7 z7 st7 hQ7
    subst l7 y7 z7
    obtain ⟨hq7, rfl, eh7⟩ := hQ7
    obtain rfl := own_eqv hq7
    have N7 := Fr.app N0 (Fr.nil n0)
    refine OwnFin.adv (B := T7.setTop (mkF m 34 #[.val (.ref oa), .val (.ref oc), .val (.ref oc)] [(.int (if ca = cb then (1 : Int32) else 0))])) (fun _ k => st7.trans k) ?_
    by_cases hc34 : (if ca = cb then (1 : Int32) else 0) = (0 : Int32)
    ·
      refine OwnFin.adv (B := T7.setTop (mkF m 41 #[.val (.ref oa), .val (.ref oc), .val (.ref oc)] [])) (fun _ k => XS.ifYes X7.here hx rfl (pc0 := 34) (pc' := 41) rfl (hb hby own_d43_34) rfl ((if0 _ _).trans (teq hc34).1) (by decide) (by decide) k) ?_
      refine OwnFin.adv (B := T7.setTop (mkF m 42 #[.val (.ref oa), .val (.ref oc), .val (.ref oc)] [(.int (0 : Int32))])) (fun _ k => XS.iconst X7.here hx rfl (hb hby own_d43_41) k) ?_
      obtain ⟨fs, hr, hrun, hended, hW, hsame⟩ := X7.leave (v := some (.int (0 : Int32))) (fun h => by rw [Bd.returns] at h; cases h)
      refine OwnFin.leaf hP' ⟨_, _, retN X7 hx (t := .boolean) Bd.returns (by simp) (hb hby own_d43_42) hr, hrun, hended, _, _, rfl, ?_, ⟨_, rfl⟩, hW, hsame.mono (by decide) (by decide)⟩
      exact ⟨by first | (simp [*]; done) | (have hq : ca = cb := Classical.byContradiction (fun hn => hc34 (if_neg hn)); simp [*]), N7, eh7⟩
    ·
      refine OwnFin.adv (B := T7.setTop (mkF m 37 #[.val (.ref oa), .val (.ref oc), .val (.ref oc)] [])) (fun _ k => XS.ifNo X7.here hx rfl (hb hby own_d43_34) rfl ((if0 _ _).trans (feq hc34).1) k) ?_
      refine OwnFin.adv (B := T7.setTop (mkF m 38 #[.val (.ref oa), .val (.ref oc), .val (.ref oc)] [(.int (1 : Int32))])) (fun _ k => XS.iconst X7.here hx rfl (hb hby own_d43_37) k) ?_
      refine OwnFin.adv (B := T7.setTop (mkF m 42 #[.val (.ref oa), .val (.ref oc), .val (.ref oc)] [(.int (1 : Int32))])) (fun _ k => XS.goto X7.here hx rfl (pc0 := 38) (pc' := 42) rfl (hb hby own_d43_38) (by decide) (by decide) k) ?_
      obtain ⟨fs, hr, hrun, hended, hW, hsame⟩ := X7.leave (v := some (.int (1 : Int32))) (fun h => by rw [Bd.returns] at h; cases h)
      refine OwnFin.leaf hP' ⟨_, _, retN X7 hx (t := .boolean) Bd.returns (by simp) (hb hby own_d43_42) hr, hrun, hended, _, _, rfl, ?_, ⟨_, rfl⟩, hW, hsame.mono (by decide) (by decide)⟩
      exact ⟨by first | (simp [*]; done) | (have hq : ca = cb := Classical.byContradiction (fun hn => hc34 (if_neg hn)); simp [*]), N7, eh7⟩
  ·
    refine OwnFin.adv (B := T4.setTop (mkF m 41 #[.val (.ref oa), .val (.ref oc), .val (.ref oc)] [])) (fun _ k => Jvm.RoadKit.acmp (g := (mkF m 20 #[.val (.ref oa), .val (.ref oc), .val (.ref oc)] [(.ref k2), (.ref k1)])) X4 hx rfl rfl rfl (pc0 := 20) (pc' := 41) (same := false) rfl (hb hby own_d43_20) rfl (decide_eq_false fun q => hc20 (Value.ref.inj q)) (by decide) (by decide) k) ?_
    refine OwnFin.adv (B := T4.setTop (mkF m 42 #[.val (.ref oa), .val (.ref oc), .val (.ref oc)] [(.int (0 : Int32))])) (fun _ k => XS.iconst X4.here hx rfl (hb hby own_d43_41) k) ?_
    obtain ⟨fs, hr, hrun, hended, hW, hsame⟩ := X4.leave (v := some (.int (0 : Int32))) (fun h => by rw [Bd.returns] at h; cases h)
    refine OwnFin.leaf hP' ⟨_, _, retN X4 hx (t := .boolean) Bd.returns (by simp) (hb hby own_d43_42) hr, hrun, hended, _, _, rfl, ?_, ⟨_, rfl⟩, hW, hsame.mono (by decide) (by decide)⟩
    exact ⟨by first | (simp [*]; done) | (have hq : ca = cb := Classical.byContradiction (fun hn => hc34 (if_neg hn)); simp [*]), N0, e4⟩
theorem own_pd_x28IIIIx29Ljavax2flangx2fStringx3b : parseMethodDescriptor "(IIII)Ljava/lang/String;" = some ⟨[.int, .int, .int, .int], some (.object "java/lang/String")⟩ := by decide +kernel
theorem own_pd_x28Ljavax2flangx2fStringx3bx29Lcomx2fexamplex2fraccordox2fraccordox2fsqlx2fSqlTokenx3b : parseMethodDescriptor "(Ljava/lang/String;)Lcom/example/raccordo/raccordo/sql/SqlToken;" = some ⟨[(.object "java/lang/String")], some (.object "com/example/raccordo/raccordo/sql/SqlToken")⟩ := by decide +kernel
theorem own_pd_x28x29Lcomx2fexamplex2fraccordox2fraccordox2fsqlx2fSqlTokenx24Kindx3b : parseMethodDescriptor "()Lcom/example/raccordo/raccordo/sql/SqlToken$Kind;" = some ⟨[], some (.object "com/example/raccordo/raccordo/sql/SqlToken$Kind")⟩ := by decide +kernel
theorem own_pd_x28Ljavax2flangx2fStringx3bLjavax2flangx2fStringx3bx29Z : parseMethodDescriptor "(Ljava/lang/String;Ljava/lang/String;)Z" = some ⟨[(.object "java/lang/String"), (.object "java/lang/String")], some .boolean⟩ := by decide +kernel
theorem own_ef_rm0 (m : MethodId) (x0 : Int32) (x1 : Int32) (x2 : Int32) (x3 : Int32) (x4 : Int32) : entryFrame m #[(.int x0), (.int x1), (.int x2), (.int x3), (.int x4)] maxLocals = mkF m 0 #[.val (.int x0), .val (.int x1), .val (.int x2), .val (.int x3), .val (.int x4), .unset, .unset, .unset, .unset, .unset, .unset, .unset] [] := by first | (simp [entryFrame, mkF, argsToLocals, Value.category, maxLocals]; done) | rfl
def own_Q_rm0 (Z : State) (va vb vc vn vd zc : Int32) (fm : Value) (kp kt ks : Addr) (h0 : Heap) (n0 : Nat) (v : Option Value) (h : Heap) (L : List Loc) : Prop := v = some (.int (1 : Int32)) ∧ Fr n0 L
set_option maxRecDepth 65536 in
set_option maxHeartbeats 40000000 in
theorem own_rm0 (l : Launch) (Z : State) (a0 : Array Value) (hw : ∀ d ∈ tables_1, d.before a0 Z = true) (ws : List Jvm.Cond) (va vb vc vn vd zc : Int32) (fm : Value) (kp kt ks : Addr) (h0 : Heap) (n0 : Nat) (Z0 : n0 ≤ h0.size) (O0 : Old Z n0 h0) (SCS : Sta Z Z.heap "java/lang/String" "COMPACT_STRINGS" "Z" (.int zc)) (hzc : ¬ zc = 0) (SFM : Sta Z Z.heap "jdk/internal/util/Preconditions" "SIOOBE_FORMATTER" "Ljava/util/function/BiFunction;" fm) (rfm : fm.isRef = true) (S_kp : Sta Z Z.heap "com/example/raccordo/raccordo/sql/SqlToken$Kind" "PARAMETER" "Lcom/example/raccordo/raccordo/sql/SqlToken$Kind;" (.ref kp)) (S_kt : Sta Z Z.heap "com/example/raccordo/raccordo/sql/SqlToken$Kind" "TEXT" "Lcom/example/raccordo/raccordo/sql/SqlToken$Kind;" (.ref kt)) (S_ks : Sta Z Z.heap "com/example/raccordo/raccordo/sql/SqlToken$Kind" "SUBSTITUTION" "Lcom/example/raccordo/raccordo/sql/SqlToken$Kind;" (.ref ks)) (E_kp : Exa Z Z.heap kp "com/example/raccordo/raccordo/sql/SqlToken$Kind") (E_kt : Exa Z Z.heap kt "com/example/raccordo/raccordo/sql/SqlToken$Kind") (E_ks : Exa Z Z.heap ks "com/example/raccordo/raccordo/sql/SqlToken$Kind") (Fo : Fld Z Z.heap kp "java/lang/Enum" "ordinal" "I" (.int (1 : Int32))) (ne_t : ¬ (kp = kt)) (ne_s : ¬ (kp = ks)) :
    MetFree l x (head1 (Jvm.Cond.code x code maxLocals ret :: ws) room_1) (fun A0 U0 => A0 = #[(.int va), (.int vb), (.int vc), (.int vn), (.int vd)] ∧ Z.Warmed39 U0.vm ∧ U0.heap = h0 ∧ CHv Z own_EL U0.vm h0) (fun _ _ _ _ _ => True) (fun _ U0 o0 U1 => ∃ v0 L0, o0 = .returned v0 ∧ own_Q_rm0 Z va vb vc vn vd zc fm kp kt ks h0 n0 v0 U1.heap L0 ∧ ReturnedEndW U0 o0 U1 L0 room_1.cells room_1.slots) := by
  refine MetFree.of_bodySF (plainFor_of_name own_pn_com_example_raccordo_raccordo_sql_SqlTokenParameterPinLaw) hisR ?_
  intro p e s m args below meth c s₁ Bd hml0 hP hK
  obtain ⟨rfl, hZ, hh, H0⟩ := hP
  have hZs := hZ
  have hx := Bd.exec
  have hby := Bd.bytes
  have hml : c.maxLocals = 12 := hml0
  have hown : s.vm.findClass "com/example/raccordo/raccordo/sql/SqlTokenParameterPinLaw" = some m.cls := findClass_of_methodNamed Bd.named
  have hnm := (name_of_methodNamed Bd.named Bd.method).1
  have X0 : Stand p l e room_1 s m #[(.int va), (.int vb), (.int vc), (.int vn), (.int vd)] below meth c s₁ [] 0 0 := Stand.of_body Bd
  have e0 : s₁.heap = h0 := by rw [← hh, Bd.state]; rfl
  have N0 := Fr.nil n0
  refine OwnFin.entry (own_ef_rm0 m va vb vc vn vd) (fun P' hP' => ?_)
  refine OwnFin.adv (B := s₁.setTop (mkF m 1 #[.val (.int va), .val (.int vb), .val (.int vc), .val (.int vn), .val (.int vd), .unset, .unset, .unset, .unset, .unset, .unset, .unset] [(.int vn)])) (fun _ k => XS.iloadN X0.here hx rfl (hb hby at_0) rfl k) ?_
  refine OwnFin.adv (B := s₁.setTop (mkF m 2 #[.val (.int va), .val (.int vb), .val (.int vc), .val (.int vn), .val (.int vd), .unset, .unset, .unset, .unset, .unset, .unset, .unset] [(.int (3 : Int32)), (.int vn)])) (fun _ k => XS.iconst X0.here hx rfl (hb hby at_1) k) ?_
  refine OwnFin.adv (B := s₁.setTop (mkF m 3 #[.val (.int va), .val (.int vb), .val (.int vc), .val (.int vn), .val (.int vd), .unset, .unset, .unset, .unset, .unset, .unset, .unset] [(.int (vn &&& (3 : Int32)))])) (fun _ k => XS.iand X0.here hx rfl (hb hby at_2) rfl k) ?_
  refine OwnFin.adv (B := s₁.setTop (mkF m 5 #[.val (.int va), .val (.int vb), .val (.int vc), .val (.int vn), .val (.int vd), .val (.int (vn &&& (3 : Int32))), .unset, .unset, .unset, .unset, .unset, .unset] [])) (fun _ k => XS.istore X0.here hx rfl (hb hby at_3) rfl (l' := #[.val (.int va), .val (.int vb), .val (.int vc), .val (.int vn), .val (.int vd), .val (.int (vn &&& (3 : Int32))), .unset, .unset, .unset, .unset, .unset, .unset]) rfl k) ?_
  refine OwnFin.adv (B := s₁.setTop (mkF m 7 #[.val (.int va), .val (.int vb), .val (.int vc), .val (.int vn), .val (.int vd), .val (.int (vn &&& (3 : Int32))), .unset, .unset, .unset, .unset, .unset, .unset] [(.int (vn &&& (3 : Int32)))])) (fun _ k => XS.iload X0.here hx rfl (hb hby at_5) rfl k) ?_
  refine OwnFin.adv (B := s₁.setTop (mkF m 8 #[.val (.int va), .val (.int vb), .val (.int vc), .val (.int vn), .val (.int vd), .val (.int (vn &&& (3 : Int32))), .unset, .unset, .unset, .unset, .unset, .unset] [(.int va), (.int (vn &&& (3 : Int32)))])) (fun _ k => XS.iloadN X0.here hx rfl (hb hby at_7) rfl k) ?_
  refine OwnFin.adv (B := s₁.setTop (mkF m 9 #[.val (.int va), .val (.int vb), .val (.int vc), .val (.int vn), .val (.int vd), .val (.int (vn &&& (3 : Int32))), .unset, .unset, .unset, .unset, .unset, .unset] [(.int vb), (.int va), (.int (vn &&& (3 : Int32)))])) (fun _ k => XS.iloadN X0.here hx rfl (hb hby at_8) rfl k) ?_
  refine OwnFin.adv (B := s₁.setTop (mkF m 10 #[.val (.int va), .val (.int vb), .val (.int vc), .val (.int vn), .val (.int vd), .val (.int (vn &&& (3 : Int32))), .unset, .unset, .unset, .unset, .unset, .unset] [(.int vc), (.int vb), (.int va), (.int (vn &&& (3 : Int32)))])) (fun _ k => XS.iloadN X0.here hx rfl (hb hby at_9) rfl k) ?_
  obtain ⟨_, _, ⟨T1, L1, k1, n1⟩, -, X1, hSb1, hgr1, ⟨Lc1, hQ1, l1, y1, z1, C1⟩, st1⟩ := callSS (s := (s.setVm s.vm)) X0 hx (y := (⟨"com/example/raccordo/raccordo/sql/SqlTokenParameterPinLaw", "mk", "(IIII)Ljava/lang/String;"⟩ : MethodName)) hown (mvT hZ (hw _ (List.mem_of_getElem? (i := 0) rfl))) (mvT hZ (hw _ (List.mem_of_getElem? (i := 1) rfl))) (mvT hZ (hw _ (List.mem_of_getElem? (i := 2) rfl))) (mvT hZ (hw _ (List.mem_of_getElem? (i := 3) rfl))) (by decide) (backOfSH (s := s) (vm0 := s.vm) (W := 0) (own_mk l Z a0 hw [] (vn &&& (3 : Int32)) va vb vc zc h0 n0 (by omega) O0 SCS hzc) hZ (hw _ (List.mem_of_getElem? (i := 3) rfl)) (hw _ (List.mem_of_getElem? (i := 2) rfl)) (by decide) (by decide) (own_EW hw) ((CHr.refl H0)).1) (g := (mkF m 10 #[.val (.int va), .val (.int vb), .val (.int vc), .val (.int vn), .val (.int vd), .val (.int (vn &&& (3 : Int32))), .unset, .unset, .unset, .unset, .unset, .unset] [(.int vc), (.int vb), (.int va), (.int (vn &&& (3 : Int32)))])) rfl (by rw [hml]; rfl) (argsL := [(.int (vn &&& (3 : Int32))), (.int va), (.int vb), (.int vc)]) (rest := []) (lenOf own_pd_x28IIIIx29Ljavax2flangx2fStringx3b rfl) rfl (by show 2 * 0 + _ ≤ _; exact Nat.le_of_eq rfl) (hb hby at_10) (fun _ _ => ⟨rfl, e0, (by decide : 0 + 6 ≤ _), (by decide : 0 + 12 ≤ _)⟩)
  dsimp only [Pt.U, Pt.locs, Pt.cells, Pt.slots] at X1 l1 y1 z1 st1 hQ1 hSb1 hgr1 C1
  subst l1 y1 z1
  obtain ⟨Xr1, hS1, hZ, hown⟩ := rebS (s := s) (vm0 := s.vm) (State.WarmedH.since (State.WarmedH.refl s) 0) (Nat.zero_le _) X1 hSb1 hgr1 hZ hown
  have hkk1 : T1.heap.size ≤ T1.heap.size := Nat.le_refl _
  have hZ1 := hZ
  obtain ⟨r1, rfl, N1q, K1, ge1, Fs1⟩ := hQ1
  have N1 := Fr.app N0 N1q
  have sz2 : h0.size ≤ T1.heap.size := K1.1
  have chA2 : CHr Z own_EL s.vm h0 T1.vm T1.heap := ((CHr.refl H0)).trans C1
  have hl3a := own_cs3 (vn &&& (3 : Int32)) va vb vc
  obtain ⟨csa, ecsa⟩ : ∃ z, z = own_cs (vn &&& (3 : Int32)) va vb vc := ⟨_, rfl⟩
  rw [← ecsa] at Fs1 hl3a
  refine OwnFin.adv (B := T1.setTop (mkF m 13 #[.val (.int va), .val (.int vb), .val (.int vc), .val (.int vn), .val (.int vd), .val (.int (vn &&& (3 : Int32))), .unset, .unset, .unset, .unset, .unset, .unset] [(.ref r1)])) (fun _ k => st1.trans k) ?_
  refine OwnFin.adv (B := T1.setTop (mkF m 15 #[.val (.int va), .val (.int vb), .val (.int vc), .val (.int vn), .val (.int vd), .val (.int (vn &&& (3 : Int32))), .val (.ref r1), .unset, .unset, .unset, .unset, .unset] [])) (fun _ k => XS.astore Xr1.here hx rfl (hb hby at_13) rfl rfl (l' := #[.val (.int va), .val (.int vb), .val (.int vc), .val (.int vn), .val (.int vd), .val (.int (vn &&& (3 : Int32))), .val (.ref r1), .unset, .unset, .unset, .unset, .unset]) rfl k) ?_
  refine OwnFin.adv (B := T1.setTop (mkF m 17 #[.val (.int va), .val (.int vb), .val (.int vc), .val (.int vn), .val (.int vd), .val (.int (vn &&& (3 : Int32))), .val (.ref r1), .unset, .unset, .unset, .unset, .unset] [(.int vd)])) (fun _ k => XS.iload Xr1.here hx rfl (hb hby at_15) rfl k) ?_
  refine OwnFin.adv (B := T1.setTop (mkF m 18 #[.val (.int va), .val (.int vb), .val (.int vc), .val (.int vn), .val (.int vd), .val (.int (vn &&& (3 : Int32))), .val (.ref r1), .unset, .unset, .unset, .unset, .unset] [(.int (1 : Int32)), (.int vd)])) (fun _ k => XS.iconst Xr1.here hx rfl (hb hby at_17) k) ?_
  refine OwnFin.adv (B := T1.setTop (mkF m 19 #[.val (.int va), .val (.int vb), .val (.int vc), .val (.int vn), .val (.int vd), .val (.int (vn &&& (3 : Int32))), .val (.ref r1), .unset, .unset, .unset, .unset, .unset] [(.int (vd &&& (1 : Int32)))])) (fun _ k => XS.iand Xr1.here hx rfl (hb hby at_18) rfl k) ?_
  have J30 : ∀ (a2 : Int32) (TJ : State) (LJ : List Loc) (XJ : Stand p l e room_1 (s.setVm T1.vm) m #[(.int va), (.int vb), (.int vc), (.int vn), (.int vd)] below meth c TJ LJ 6 12) (eJ : TJ.heap = T1.heap) (NJ : Fr n0 LJ), OwnFin p.tables e below P' (TJ.setTop (mkF m 30 #[.val (.int va), .val (.int vb), .val (.int vc), .val (.int vn), .val (.int vd), .val (.int (vn &&& (3 : Int32))), .val (.ref r1), .unset, .unset, .unset, .unset, .unset] [(.int a2)])) := by
    intro a2 TJ LJ XJ eJ NJ 
    refine OwnFin.adv (B := TJ.setTop (mkF m 32 #[.val (.int va), .val (.int vb), .val (.int vc), .val (.int vn), .val (.int vd), .val (.int (vn &&& (3 : Int32))), .val (.ref r1), .val (.int a2), .unset, .unset, .unset, .unset] [])) (fun _ k => XS.istore XJ.here hx rfl (hb hby at_30) rfl (l' := #[.val (.int va), .val (.int vb), .val (.int vc), .val (.int vn), .val (.int vd), .val (.int (vn &&& (3 : Int32))), .val (.ref r1), .val (.int a2), .unset, .unset, .unset, .unset]) rfl k) ?_
    refine OwnFin.adv (B := TJ.setTop (mkF m 34 #[.val (.int va), .val (.int vb), .val (.int vc), .val (.int vn), .val (.int vd), .val (.int (vn &&& (3 : Int32))), .val (.ref r1), .val (.int a2), .unset, .unset, .unset, .unset] [(.int vd)])) (fun _ k => XS.iload XJ.here hx rfl (hb hby at_32) rfl k) ?_
    refine OwnFin.adv (B := TJ.setTop (mkF m 35 #[.val (.int va), .val (.int vb), .val (.int vc), .val (.int vn), .val (.int vd), .val (.int (vn &&& (3 : Int32))), .val (.ref r1), .val (.int a2), .unset, .unset, .unset, .unset] [(.int (2 : Int32)), (.int vd)])) (fun _ k => XS.iconst XJ.here hx rfl (hb hby at_34) k) ?_
    refine OwnFin.adv (B := TJ.setTop (mkF m 36 #[.val (.int va), .val (.int vb), .val (.int vc), .val (.int vn), .val (.int vd), .val (.int (vn &&& (3 : Int32))), .val (.ref r1), .val (.int a2), .unset, .unset, .unset, .unset] [(.int (vd &&& (2 : Int32)))])) (fun _ k => XS.iand XJ.here hx rfl (hb hby at_35) rfl k) ?_
    have J50 : ∀ (n2 : Int32) (TJ : State) (LJ : List Loc) (XJ : Stand p l e room_1 (s.setVm T1.vm) m #[(.int va), (.int vb), (.int vc), (.int vn), (.int vd)] below meth c TJ LJ 6 12) (eJ : TJ.heap = T1.heap) (NJ : Fr n0 LJ), OwnFin p.tables e below P' (TJ.setTop (mkF m 50 #[.val (.int va), .val (.int vb), .val (.int vc), .val (.int vn), .val (.int vd), .val (.int (vn &&& (3 : Int32))), .val (.ref r1), .val (.int a2), .unset, .unset, .unset, .unset] [(.int n2)])) := by
      intro n2 TJ LJ XJ eJ NJ 
      refine OwnFin.adv (B := TJ.setTop (mkF m 52 #[.val (.int va), .val (.int vb), .val (.int vc), .val (.int vn), .val (.int vd), .val (.int (vn &&& (3 : Int32))), .val (.ref r1), .val (.int a2), .val (.int n2), .unset, .unset, .unset] [])) (fun _ k => XS.istore XJ.here hx rfl (hb hby at_50) rfl (l' := #[.val (.int va), .val (.int vb), .val (.int vc), .val (.int vn), .val (.int vd), .val (.int (vn &&& (3 : Int32))), .val (.ref r1), .val (.int a2), .val (.int n2), .unset, .unset, .unset]) rfl k) ?_
      refine OwnFin.adv (B := TJ.setTop (mkF m 54 #[.val (.int va), .val (.int vb), .val (.int vc), .val (.int vn), .val (.int vd), .val (.int (vn &&& (3 : Int32))), .val (.ref r1), .val (.int a2), .val (.int n2), .unset, .unset, .unset] [(.int n2)])) (fun _ k => XS.iload XJ.here hx rfl (hb hby at_52) rfl k) ?_
      refine OwnFin.adv (B := TJ.setTop (mkF m 56 #[.val (.int va), .val (.int vb), .val (.int vc), .val (.int vn), .val (.int vd), .val (.int (vn &&& (3 : Int32))), .val (.ref r1), .val (.int a2), .val (.int n2), .unset, .unset, .unset] [(.int a2), (.int n2)])) (fun _ k => XS.iload XJ.here hx rfl (hb hby at_54) rfl k) ?_
      refine OwnFin.adv (B := TJ.setTop (mkF m 57 #[.val (.int va), .val (.int vb), .val (.int vc), .val (.int vn), .val (.int vd), .val (.int (vn &&& (3 : Int32))), .val (.ref r1), .val (.int a2), .val (.int n2), .unset, .unset, .unset] [(.int vb), (.int a2), (.int n2)])) (fun _ k => XS.iloadN XJ.here hx rfl (hb hby at_56) rfl k) ?_
      refine OwnFin.adv (B := TJ.setTop (mkF m 58 #[.val (.int va), .val (.int vb), .val (.int vc), .val (.int vn), .val (.int vd), .val (.int (vn &&& (3 : Int32))), .val (.ref r1), .val (.int a2), .val (.int n2), .unset, .unset, .unset] [(.int vc), (.int vb), (.int a2), (.int n2)])) (fun _ k => XS.iloadN XJ.here hx rfl (hb hby at_57) rfl k) ?_
      have Old6 : Old Z n0 T1.heap := (O0.keep K1 all0)
      obtain ⟨_, _, ⟨T5, L5, k5, n5⟩, -, X5, hSb5, hgr5, ⟨Lc5, hQ5, l5, y5, z5, C5⟩, st5⟩ := callSS (s := (s.setVm T1.vm)) XJ hx (y := (⟨"com/example/raccordo/raccordo/sql/SqlTokenParameterPinLaw", "mk", "(IIII)Ljava/lang/String;"⟩ : MethodName)) hown (mvT hZ (hw _ (List.mem_of_getElem? (i := 0) rfl))) (mvT hZ (hw _ (List.mem_of_getElem? (i := 1) rfl))) (mvT hZ (hw _ (List.mem_of_getElem? (i := 2) rfl))) (mvT hZ (hw _ (List.mem_of_getElem? (i := 3) rfl))) (by decide) (backOfSH (s := s) (vm0 := T1.vm) (W := 0) (own_mk l Z a0 hw [] n2 a2 vb vc zc T1.heap n0 (by omega) Old6 SCS hzc) hZ (hw _ (List.mem_of_getElem? (i := 3) rfl)) (hw _ (List.mem_of_getElem? (i := 2) rfl)) (by decide) (by decide) (own_EW hw) (chA2).1) (g := (mkF m 58 #[.val (.int va), .val (.int vb), .val (.int vc), .val (.int vn), .val (.int vd), .val (.int (vn &&& (3 : Int32))), .val (.ref r1), .val (.int a2), .val (.int n2), .unset, .unset, .unset] [(.int vc), (.int vb), (.int a2), (.int n2)])) rfl (by rw [hml]; rfl) (argsL := [(.int n2), (.int a2), (.int vb), (.int vc)]) (rest := []) (lenOf own_pd_x28IIIIx29Ljavax2flangx2fStringx3b rfl) rfl (by show 2 * 0 + _ ≤ _; exact Nat.le_of_eq rfl) (hb hby at_58) (fun _ _ => ⟨rfl, eJ, (by decide : 6 + 6 ≤ _), (by decide : 12 + 12 ≤ _)⟩)
      dsimp only [Pt.U, Pt.locs, Pt.cells, Pt.slots] at X5 l5 y5 z5 st5 hQ5 hSb5 hgr5 C5
      subst l5 y5 z5
      obtain ⟨Xr5, hS5, hZ, hown⟩ := rebS (s := s) (vm0 := T1.vm) hS1 (by rw [eJ]; omega) X5 hSb5 hgr5 hZ hown
      have hkk5 : T5.heap.size ≤ T5.heap.size := Nat.le_refl _
      have hZ5 := hZ
      obtain ⟨r5, rfl, N5q, K5, ge5, Fs5⟩ := hQ5
      have N5 := Fr.app NJ N5q
      have sz7 : T1.heap.size ≤ T5.heap.size := K5.1
      have chA7 : CHr Z own_EL s.vm h0 T5.vm T5.heap := (chA2).trans C5
      have hl3b := own_cs3 n2 a2 vb vc
      obtain ⟨csb, ecsb⟩ : ∃ z, z = own_cs n2 a2 vb vc := ⟨_, rfl⟩
      rw [← ecsb] at Fs5 hl3b
      refine OwnFin.adv (B := T5.setTop (mkF m 61 #[.val (.int va), .val (.int vb), .val (.int vc), .val (.int vn), .val (.int vd), .val (.int (vn &&& (3 : Int32))), .val (.ref r1), .val (.int a2), .val (.int n2), .unset, .unset, .unset] [(.ref r5)])) (fun _ k => st5.trans k) ?_
      refine OwnFin.adv (B := T5.setTop (mkF m 63 #[.val (.int va), .val (.int vb), .val (.int vc), .val (.int vn), .val (.int vd), .val (.int (vn &&& (3 : Int32))), .val (.ref r1), .val (.int a2), .val (.int n2), .val (.ref r5), .unset, .unset] [])) (fun _ k => XS.astore Xr5.here hx rfl (hb hby at_61) rfl rfl (l' := #[.val (.int va), .val (.int vb), .val (.int vc), .val (.int vn), .val (.int vd), .val (.int (vn &&& (3 : Int32))), .val (.ref r1), .val (.int a2), .val (.int n2), .val (.ref r5), .unset, .unset]) rfl k) ?_
      refine OwnFin.adv (B := T5.setTop (mkF m 65 #[.val (.int va), .val (.int vb), .val (.int vc), .val (.int vn), .val (.int vd), .val (.int (vn &&& (3 : Int32))), .val (.ref r1), .val (.int a2), .val (.int n2), .val (.ref r5), .unset, .unset] [(.ref r1)])) (fun _ k => XS.aload Xr5.here hx rfl (hb hby at_63) rfl rfl k) ?_
      have Fv9_2 : OwnS Z T5.heap (T1.heap.size) r1 csa := (Fs1.keep K5 all0)
      obtain ⟨ts10, ks10, Es10, Vs10, Cs10, As10, lx10, lt10, hp10, l210⟩ := id Fv9_2
      have lx10 := own_lt lx10
      have lt10 := own_lt lt10
      have ltx10 := own_lt Es10.lt
      have ltt10 := own_lt As10.lt
      have Old11 : Old Z n0 T5.heap := (Old6.keep K5 all0)
      obtain ⟨_, _, ⟨T8, L8, k8, n8⟩, -, X8, hSb8, hgr8, ⟨Lc8, hQ8, l8, y8, z8, C8⟩, st8⟩ := callSS (s := (s.setVm T5.vm)) Xr5 hx (y := (⟨"com/example/raccordo/raccordo/sql/SqlToken", "parameter", "(Ljava/lang/String;)Lcom/example/raccordo/raccordo/sql/SqlToken;"⟩ : MethodName)) hown (mvT hZ (hw _ (List.mem_of_getElem? (i := 37) rfl))) (mvT hZ (hw _ (List.mem_of_getElem? (i := 38) rfl))) (mvT hZ (hw _ (List.mem_of_getElem? (i := 39) rfl))) (mvT hZ (hw _ (List.mem_of_getElem? (i := 40) rfl))) (by decide) (backOfSH (s := s) (vm0 := T5.vm) (W := 0) (own_parameter l Z a0 hw [] r1 kp T5.heap n0 (by omega) Old11 Es10 S_kp E_kp) hZ (hw _ (List.mem_of_getElem? (i := 40) rfl)) (hw _ (List.mem_of_getElem? (i := 39) rfl)) (by decide) (by decide) (own_EW hw) (chA7).1) (g := (mkF m 65 #[.val (.int va), .val (.int vb), .val (.int vc), .val (.int vn), .val (.int vd), .val (.int (vn &&& (3 : Int32))), .val (.ref r1), .val (.int a2), .val (.int n2), .val (.ref r5), .unset, .unset] [(.ref r1)])) rfl (by rw [hml]; rfl) (argsL := [(.ref r1)]) (rest := []) (lenOf own_pd_x28Ljavax2flangx2fStringx3bx29Lcomx2fexamplex2fraccordox2fraccordox2fsqlx2fSqlTokenx3b rfl) rfl (by show 2 * 0 + _ ≤ _; exact Nat.le_of_eq rfl) (hb hby at_65) (fun _ _ => ⟨rfl, rfl, (by decide : 12 + 5 ≤ _), (by decide : 24 + 54 ≤ _)⟩)
      dsimp only [Pt.U, Pt.locs, Pt.cells, Pt.slots] at X8 l8 y8 z8 st8 hQ8 hSb8 hgr8 C8
      subst l8 y8 z8
      obtain ⟨Xr8, hS8, hZ, hown⟩ := rebS (s := s) (vm0 := T5.vm) hS5 (by omega) X8 hSb8 hgr8 hZ hown
      have hkk8 : T8.heap.size ≤ T8.heap.size := Nat.le_refl _
      have hZ8 := hZ
      obtain ⟨tk8, rfl, N8q, K8, ge8, Et8, Fa8, Fb8⟩ := hQ8
      have N8 := Fr.app N5 N8q
      have sz12 : T5.heap.size ≤ T8.heap.size := K8.1
      have chA12 : CHr Z own_EL s.vm h0 T8.vm T8.heap := (chA7).trans C8
      have lt_tk8 := own_lt Et8.lt
      refine OwnFin.adv (B := T8.setTop (mkF m 68 #[.val (.int va), .val (.int vb), .val (.int vc), .val (.int vn), .val (.int vd), .val (.int (vn &&& (3 : Int32))), .val (.ref r1), .val (.int a2), .val (.int n2), .val (.ref r5), .unset, .unset] [(.ref tk8)])) (fun _ k => st8.trans k) ?_
      refine OwnFin.adv (B := T8.setTop (mkF m 70 #[.val (.int va), .val (.int vb), .val (.int vc), .val (.int vn), .val (.int vd), .val (.int (vn &&& (3 : Int32))), .val (.ref r1), .val (.int a2), .val (.int n2), .val (.ref r5), .val (.ref tk8), .unset] [])) (fun _ k => XS.astore Xr8.here hx rfl (hb hby at_68) rfl rfl (l' := #[.val (.int va), .val (.int vb), .val (.int vc), .val (.int vn), .val (.int vd), .val (.int (vn &&& (3 : Int32))), .val (.ref r1), .val (.int a2), .val (.int n2), .val (.ref r5), .val (.ref tk8), .unset]) rfl k) ?_
      refine OwnFin.adv (B := T8.setTop (mkF m 72 #[.val (.int va), .val (.int vb), .val (.int vc), .val (.int vn), .val (.int vd), .val (.int (vn &&& (3 : Int32))), .val (.ref r1), .val (.int a2), .val (.int n2), .val (.ref r5), .val (.ref tk8), .unset] [(.ref tk8)])) (fun _ k => XS.aload Xr8.here hx rfl (hb hby at_70) rfl rfl k) ?_
      obtain ⟨cq13, kq13, q13a, q13b, q13c⟩ := isOf hZ rfl Et8
      obtain ⟨_, _, ⟨T13, L13, k13, n13⟩, -, X13, ⟨Lc13, hQ13, l13, y13, z13⟩, st13⟩ := Xr8.virtualBack hx (y := (⟨"com/example/raccordo/raccordo/sql/SqlToken", "kind", "()Lcom/example/raccordo/raccordo/sql/SqlToken$Kind;"⟩ : MethodName)) (z := (⟨"com/example/raccordo/raccordo/sql/SqlToken", "kind", "()Lcom/example/raccordo/raccordo/sql/SqlToken$Kind;"⟩ : MethodName)) hown (mvT hZ (hw _ (List.mem_of_getElem? (i := 63) rfl))) (mvT hZ (hw _ (List.mem_of_getElem? (i := 64) rfl))) (notFace_of_selects (args := #[]) (mvT hZ (hw _ (List.mem_of_getElem? (i := 66) rfl)))) (mvT hZ (hw _ (List.mem_of_getElem? (i := 66) rfl))) (mvT hZ (hw _ (List.mem_of_getElem? (i := 65) rfl))) (by decide) (backOf (W := 0) (own_get_kind l Z a0 hw [] tk8 kp T8.heap n0 (by omega) Fa8) hZ (hw _ (List.mem_of_getElem? (i := 67) rfl)) (hw _ (List.mem_of_getElem? (i := 39) rfl)) (by decide) (by decide)) q13a q13c (g := (mkF m 72 #[.val (.int va), .val (.int vb), .val (.int vc), .val (.int vn), .val (.int vd), .val (.int (vn &&& (3 : Int32))), .val (.ref r1), .val (.int a2), .val (.int n2), .val (.ref r5), .val (.ref tk8), .unset] [(.ref tk8)])) rfl (by rw [hml]; rfl) (Steps.refl _) (argsL := []) (rest := []) (lenOf own_pd_x28x29Lcomx2fexamplex2fraccordox2fraccordox2fsqlx2fSqlTokenx24Kindx3b rfl) rfl (by show 2 * 0 + _ ≤ _; exact Nat.le_of_eq rfl) (hb hby at_72) (fun _ _ => ⟨rfl, rfl, (by decide : 17 + 0 ≤ _), (by decide : 78 + 0 ≤ _)⟩)
      dsimp only [Pt.U, Pt.locs, Pt.cells, Pt.slots] at X13 l13 y13 z13 st13 hQ13
      subst l13 y13 z13
      obtain ⟨rfl, N13q, eh13⟩ := hQ13
      have N13 := Fr.app N8 N13q
      refine OwnFin.adv (B := T13.setTop (mkF m 75 #[.val (.int va), .val (.int vb), .val (.int vc), .val (.int vn), .val (.int vd), .val (.int (vn &&& (3 : Int32))), .val (.ref r1), .val (.int a2), .val (.int n2), .val (.ref r5), .val (.ref tk8), .unset] [(.ref kp)])) (fun _ k => st13.trans k) ?_
      have Old15 : Old Z n0 T8.heap := (Old11.keep K8 all0)
      obtain ⟨T14, X14, e14, st14⟩ := getS2 X13 hx hZ hown (host := "") (Or.inl (hw _ (List.mem_of_getElem? (i := 68) rfl))) Via.refl eh13 (own_staK S_kp Old15) (g := (mkF m 75 #[.val (.int va), .val (.int vb), .val (.int vc), .val (.int vn), .val (.int vd), .val (.int (vn &&& (3 : Int32))), .val (.ref r1), .val (.int a2), .val (.int n2), .val (.ref r5), .val (.ref tk8), .unset] [(.ref kp)])) rfl (hb hby at_75)
      refine OwnFin.adv (B := T14.setTop (mkF m 78 #[.val (.int va), .val (.int vb), .val (.int vc), .val (.int vn), .val (.int vd), .val (.int (vn &&& (3 : Int32))), .val (.ref r1), .val (.int a2), .val (.int n2), .val (.ref r5), .val (.ref tk8), .unset] [(.ref kp), (.ref kp)])) (fun _ k => st14 _ k) ?_
      refine OwnFin.adv (B := T14.setTop (mkF m 81 #[.val (.int va), .val (.int vb), .val (.int vc), .val (.int vn), .val (.int vd), .val (.int (vn &&& (3 : Int32))), .val (.ref r1), .val (.int a2), .val (.int n2), .val (.ref r5), .val (.ref tk8), .unset] [])) (fun _ k => Jvm.RoadKit.acmp (g := (mkF m 78 #[.val (.int va), .val (.int vb), .val (.int vc), .val (.int vn), .val (.int vd), .val (.int (vn &&& (3 : Int32))), .val (.ref r1), .val (.int a2), .val (.int n2), .val (.ref r5), .val (.ref tk8), .unset] [(.ref kp), (.ref kp)])) X14 hx rfl rfl rfl (pc0 := 78) (pc' := 81) (same := true) rfl (hb hby at_78) rfl (decide_eq_true rfl) (by decide) (by decide) k) ?_
      refine OwnFin.adv (B := T14.setTop (mkF m 82 #[.val (.int va), .val (.int vb), .val (.int vc), .val (.int vn), .val (.int vd), .val (.int (vn &&& (3 : Int32))), .val (.ref r1), .val (.int a2), .val (.int n2), .val (.ref r5), .val (.ref tk8), .unset] [(.int (1 : Int32))])) (fun _ k => XS.iconst X14.here hx rfl (hb hby at_81) k) ?_
      refine OwnFin.adv (B := T14.setTop (mkF m 86 #[.val (.int va), .val (.int vb), .val (.int vc), .val (.int vn), .val (.int vd), .val (.int (vn &&& (3 : Int32))), .val (.ref r1), .val (.int a2), .val (.int n2), .val (.ref r5), .val (.ref tk8), .unset] [(.int (1 : Int32))])) (fun _ k => XS.goto X14.here hx rfl (pc0 := 82) (pc' := 86) rfl (hb hby at_82) (by decide) (by decide) k) ?_
      refine OwnFin.adv (B := T14.setTop (mkF m 88 #[.val (.int va), .val (.int vb), .val (.int vc), .val (.int vn), .val (.int vd), .val (.int (vn &&& (3 : Int32))), .val (.ref r1), .val (.int a2), .val (.int n2), .val (.ref r5), .val (.ref tk8), .val (.int (1 : Int32))] [])) (fun _ k => XS.istore X14.here hx rfl (hb hby at_86) rfl (l' := #[.val (.int va), .val (.int vb), .val (.int vc), .val (.int vn), .val (.int vd), .val (.int (vn &&& (3 : Int32))), .val (.ref r1), .val (.int a2), .val (.int n2), .val (.ref r5), .val (.ref tk8), .val (.int (1 : Int32))]) rfl k) ?_
      refine OwnFin.adv (B := T14.setTop (mkF m 90 #[.val (.int va), .val (.int vb), .val (.int vc), .val (.int vn), .val (.int vd), .val (.int (vn &&& (3 : Int32))), .val (.ref r1), .val (.int a2), .val (.int n2), .val (.ref r5), .val (.ref tk8), .val (.int (1 : Int32))] [(.int (1 : Int32))])) (fun _ k => XS.iload X14.here hx rfl (hb hby at_88) rfl k) ?_
      have hc90_38 : ¬ ((1 : Int32) = (0 : Int32)) := by simp
      refine OwnFin.adv (B := T14.setTop (mkF m 93 #[.val (.int va), .val (.int vb), .val (.int vc), .val (.int vn), .val (.int vd), .val (.int (vn &&& (3 : Int32))), .val (.ref r1), .val (.int a2), .val (.int n2), .val (.ref r5), .val (.ref tk8), .val (.int (1 : Int32))] [])) (fun _ k => XS.ifNo X14.here hx rfl (hb hby at_90) rfl ((if0 _ _).trans (feq hc90_38).1) k) ?_
      refine OwnFin.adv (B := T14.setTop (mkF m 95 #[.val (.int va), .val (.int vb), .val (.int vc), .val (.int vn), .val (.int vd), .val (.int (vn &&& (3 : Int32))), .val (.ref r1), .val (.int a2), .val (.int n2), .val (.ref r5), .val (.ref tk8), .val (.int (1 : Int32))] [(.ref tk8)])) (fun _ k => XS.aload X14.here hx rfl (hb hby at_93) rfl rfl k) ?_
      obtain ⟨cq16, kq16, q16a, q16b, q16c⟩ := isOf hZ e14 Et8
      obtain ⟨_, _, ⟨T16, L16, k16, n16⟩, -, X16, ⟨Lc16, hQ16, l16, y16, z16⟩, st16⟩ := X14.virtualBack hx (y := (⟨"com/example/raccordo/raccordo/sql/SqlToken", "content", "()Ljava/lang/String;"⟩ : MethodName)) (z := (⟨"com/example/raccordo/raccordo/sql/SqlToken", "content", "()Ljava/lang/String;"⟩ : MethodName)) hown (mvT hZ (hw _ (List.mem_of_getElem? (i := 69) rfl))) (mvT hZ (hw _ (List.mem_of_getElem? (i := 70) rfl))) (notFace_of_selects (args := #[]) (mvT hZ (hw _ (List.mem_of_getElem? (i := 72) rfl)))) (mvT hZ (hw _ (List.mem_of_getElem? (i := 72) rfl))) (mvT hZ (hw _ (List.mem_of_getElem? (i := 71) rfl))) (by decide) (backOf (W := 0) (own_get_content l Z a0 hw [] tk8 r1 T8.heap n0 (by omega) Fb8) hZ (hw _ (List.mem_of_getElem? (i := 73) rfl)) (hw _ (List.mem_of_getElem? (i := 39) rfl)) (by decide) (by decide)) q16a q16c (g := (mkF m 95 #[.val (.int va), .val (.int vb), .val (.int vc), .val (.int vn), .val (.int vd), .val (.int (vn &&& (3 : Int32))), .val (.ref r1), .val (.int a2), .val (.int n2), .val (.ref r5), .val (.ref tk8), .val (.int (1 : Int32))] [(.ref tk8)])) rfl (by rw [hml]; rfl) (Steps.refl _) (argsL := []) (rest := []) (lenOf own_pd_x28x29Ljavax2flangx2fStringx3b rfl) rfl (by show 2 * 0 + _ ≤ _; exact Nat.le_of_eq rfl) (hb hby at_95) (fun _ _ => ⟨rfl, e14, (by decide : 17 + 0 ≤ _), (by decide : 78 + 0 ≤ _)⟩)
      dsimp only [Pt.U, Pt.locs, Pt.cells, Pt.slots] at X16 l16 y16 z16 st16 hQ16
      subst l16 y16 z16
      obtain ⟨rfl, N16q, eh16⟩ := hQ16
      have N16 := Fr.app N13 N16q
      refine OwnFin.adv (B := T16.setTop (mkF m 98 #[.val (.int va), .val (.int vb), .val (.int vc), .val (.int vn), .val (.int vd), .val (.int (vn &&& (3 : Int32))), .val (.ref r1), .val (.int a2), .val (.int n2), .val (.ref r5), .val (.ref tk8), .val (.int (1 : Int32))] [(.ref r1)])) (fun _ k => st16.trans k) ?_
      refine OwnFin.adv (B := T16.setTop (mkF m 100 #[.val (.int va), .val (.int vb), .val (.int vc), .val (.int vn), .val (.int vd), .val (.int (vn &&& (3 : Int32))), .val (.ref r1), .val (.int a2), .val (.int n2), .val (.ref r5), .val (.ref tk8), .val (.int (1 : Int32))] [(.ref r1), (.ref r1)])) (fun _ k => XS.aload X16.here hx rfl (hb hby at_98) rfl rfl k) ?_
      have hws18 : ∀ d ∈ StrChars.Road.wordsEq, d.before a0 Z = true := fun d hd => hw d ((by decide +kernel : ∀ d ∈ StrChars.Road.wordsEq, d ∈ tables_1) d hd)
      have Fv19_3 : OwnS Z T8.heap (T1.heap.size) r1 csa := (Fv9_2.keep K8 all0)
      obtain ⟨ts20, ks20, Es20, Vs20, Cs20, As20, lx20, lt20, hp20, l220⟩ := id Fv19_3
      have lx20 := own_lt lx20
      have lt20 := own_lt lt20
      have ltx20 := own_lt Es20.lt
      have ltt20 := own_lt As20.lt
      obtain ⟨ts21, ks21, Es21, Vs21, Cs21, As21, lx21, lt21, hp21, l221⟩ := id Fv19_3
      have lx21 := own_lt lx21
      have lt21 := own_lt lt21
      have ltx21 := own_lt Es21.lt
      have ltt21 := own_lt As21.lt
      obtain ⟨cq17, kq17, q17a, q17b, q17c⟩ := isOf hZ eh16 Es21
      obtain ⟨_, _, ⟨T17, L17, k17, n17⟩, -, X17, ⟨Lc17, hQ17, l17, y17, z17⟩, st17⟩ := X16.virtualBack hx (y := (⟨"java/lang/String", "equals", "(Ljava/lang/Object;)Z"⟩ : MethodName)) (z := (⟨"java/lang/String", "equals", "(Ljava/lang/Object;)Z"⟩ : MethodName)) hown (mvT hZ (hw _ (List.mem_of_getElem? (i := 74) rfl))) (mvT hZ (hw _ (List.mem_of_getElem? (i := 75) rfl))) (notFace_of_selects (args := #[]) (mvT hZ (hw _ (List.mem_of_getElem? (i := 77) rfl)))) (mvT hZ (hw _ (List.mem_of_getElem? (i := 77) rfl))) (mvT hZ (hw _ (List.mem_of_getElem? (i := 76) rfl))) (by decide) (StrChars.Road.eqW (W := 0) hZ hws18 (kI := 4) (hw _ (List.mem_of_getElem? (i := 6) rfl)) Es20 Vs20 Cs20 As20 (StrChars.Road.codOf rfl (fun c hc => (hp20 c hc).2)) (own_up hp20) l220 Es21 Vs21 Cs21 As21 (StrChars.Road.codOf rfl (fun c hc => (hp21 c hc).2)) (own_up hp21) l221 (own_staK SCS Old15) hzc (by decide) (by decide)) q17a q17c (g := (mkF m 100 #[.val (.int va), .val (.int vb), .val (.int vc), .val (.int vn), .val (.int vd), .val (.int (vn &&& (3 : Int32))), .val (.ref r1), .val (.int a2), .val (.int n2), .val (.ref r5), .val (.ref tk8), .val (.int (1 : Int32))] [(.ref r1), (.ref r1)])) rfl (by rw [hml]; rfl) (Steps.refl _) (argsL := [(.ref r1)]) (rest := []) (lenOf own_pd_x28Ljavax2flangx2fObjectx3bx29Z rfl) rfl (by show 2 * 0 + _ ≤ _; exact Nat.le_of_eq rfl) (hb hby at_100) (fun _ _ => ⟨rfl, eh16, (by decide : 17 + 0 ≤ _), (by decide : 78 + 0 ≤ _)⟩)
      dsimp only [Pt.U, Pt.locs, Pt.cells, Pt.slots] at X17 l17 y17 z17 st17 hQ17
      subst l17 y17 z17
      obtain ⟨hq17, rfl, eh17⟩ := hQ17
      obtain rfl := own_eqv hq17
      have N17 := Fr.app N16 (Fr.nil n0)
      refine OwnFin.adv (B := T17.setTop (mkF m 103 #[.val (.int va), .val (.int vb), .val (.int vc), .val (.int vn), .val (.int vd), .val (.int (vn &&& (3 : Int32))), .val (.ref r1), .val (.int a2), .val (.int n2), .val (.ref r5), .val (.ref tk8), .val (.int (1 : Int32))] [(.int (if csa = csa then (1 : Int32) else 0))])) (fun _ k => st17.trans k) ?_
      have hc103_43 : ¬ ((if csa = csa then (1 : Int32) else 0) = (0 : Int32)) := by simp
      refine OwnFin.adv (B := T17.setTop (mkF m 106 #[.val (.int va), .val (.int vb), .val (.int vc), .val (.int vn), .val (.int vd), .val (.int (vn &&& (3 : Int32))), .val (.ref r1), .val (.int a2), .val (.int n2), .val (.ref r5), .val (.ref tk8), .val (.int (1 : Int32))] [])) (fun _ k => XS.ifNo X17.here hx rfl (hb hby at_103) rfl ((if0 _ _).trans (feq hc103_43).1) k) ?_
      refine OwnFin.adv (B := T17.setTop (mkF m 107 #[.val (.int va), .val (.int vb), .val (.int vc), .val (.int vn), .val (.int vd), .val (.int (vn &&& (3 : Int32))), .val (.ref r1), .val (.int a2), .val (.int n2), .val (.ref r5), .val (.ref tk8), .val (.int (1 : Int32))] [(.int (1 : Int32))])) (fun _ k => XS.iconst X17.here hx rfl (hb hby at_106) k) ?_
      refine OwnFin.adv (B := T17.setTop (mkF m 111 #[.val (.int va), .val (.int vb), .val (.int vc), .val (.int vn), .val (.int vd), .val (.int (vn &&& (3 : Int32))), .val (.ref r1), .val (.int a2), .val (.int n2), .val (.ref r5), .val (.ref tk8), .val (.int (1 : Int32))] [(.int (1 : Int32))])) (fun _ k => XS.goto X17.here hx rfl (pc0 := 107) (pc' := 111) rfl (hb hby at_107) (by decide) (by decide) k) ?_
      refine OwnFin.adv (B := T17.setTop (mkF m 113 #[.val (.int va), .val (.int vb), .val (.int vc), .val (.int vn), .val (.int vd), .val (.int (vn &&& (3 : Int32))), .val (.ref r1), .val (.int a2), .val (.int n2), .val (.ref r5), .val (.ref tk8), .val (.int (1 : Int32))] [])) (fun _ k => XS.istore X17.here hx rfl (hb hby at_111) rfl (l' := #[.val (.int va), .val (.int vb), .val (.int vc), .val (.int vn), .val (.int vd), .val (.int (vn &&& (3 : Int32))), .val (.ref r1), .val (.int a2), .val (.int n2), .val (.ref r5), .val (.ref tk8), .val (.int (1 : Int32))]) rfl k) ?_
      refine OwnFin.adv (B := T17.setTop (mkF m 115 #[.val (.int va), .val (.int vb), .val (.int vc), .val (.int vn), .val (.int vd), .val (.int (vn &&& (3 : Int32))), .val (.ref r1), .val (.int a2), .val (.int n2), .val (.ref r5), .val (.ref tk8), .val (.int (1 : Int32))] [(.int (1 : Int32))])) (fun _ k => XS.iload X17.here hx rfl (hb hby at_113) rfl k) ?_
      have hc115_48 : ¬ ((1 : Int32) = (0 : Int32)) := by simp
      refine OwnFin.adv (B := T17.setTop (mkF m 118 #[.val (.int va), .val (.int vb), .val (.int vc), .val (.int vn), .val (.int vd), .val (.int (vn &&& (3 : Int32))), .val (.ref r1), .val (.int a2), .val (.int n2), .val (.ref r5), .val (.ref tk8), .val (.int (1 : Int32))] [])) (fun _ k => XS.ifNo X17.here hx rfl (hb hby at_115) rfl ((if0 _ _).trans (feq hc115_48).1) k) ?_
      refine OwnFin.adv (B := T17.setTop (mkF m 120 #[.val (.int va), .val (.int vb), .val (.int vc), .val (.int vn), .val (.int vd), .val (.int (vn &&& (3 : Int32))), .val (.ref r1), .val (.int a2), .val (.int n2), .val (.ref r5), .val (.ref tk8), .val (.int (1 : Int32))] [(.ref tk8)])) (fun _ k => XS.aload X17.here hx rfl (hb hby at_118) rfl rfl k) ?_
      obtain ⟨cq22, kq22, q22a, q22b, q22c⟩ := isOf (s := (s.setVm T8.vm)) hZ eh17 Et8
      obtain ⟨_, _, ⟨T22, L22, k22, n22⟩, -, X22, hSb22, hgr22, ⟨Lc22, hQ22, l22, y22, z22, C22⟩, st22⟩ := Stand.virtualBackS (s := (s.setVm T8.vm)) X17 hx (y := (⟨"com/example/raccordo/raccordo/sql/SqlToken", "toString", "()Ljava/lang/String;"⟩ : MethodName)) (z := (⟨"com/example/raccordo/raccordo/sql/SqlToken", "toString", "()Ljava/lang/String;"⟩ : MethodName)) hown (mvT hZ (hw _ (List.mem_of_getElem? (i := 79) rfl))) (mvT hZ (hw _ (List.mem_of_getElem? (i := 80) rfl))) (notFace_of_selects (args := #[]) (mvT hZ (hw _ (List.mem_of_getElem? (i := 82) rfl)))) (mvT hZ (hw _ (List.mem_of_getElem? (i := 82) rfl))) (mvT hZ (hw _ (List.mem_of_getElem? (i := 81) rfl))) (by decide) (backOfSH (s := s) (vm0 := T8.vm) (W := 0) (own_toStr l Z a0 hw [] tk8 r1 kp zc (T1.heap.size) csa T8.heap n0 (by omega) Old15 SCS hzc Et8 E_kp Fo Fa8 Fb8 Fv19_3 (by omega) hl3a) hZ (hw _ (List.mem_of_getElem? (i := 83) rfl)) (hw _ (List.mem_of_getElem? (i := 39) rfl)) (by decide) (by decide) (own_EW hw) (chA12).1) q22a q22c (g := (mkF m 120 #[.val (.int va), .val (.int vb), .val (.int vc), .val (.int vn), .val (.int vd), .val (.int (vn &&& (3 : Int32))), .val (.ref r1), .val (.int a2), .val (.int n2), .val (.ref r5), .val (.ref tk8), .val (.int (1 : Int32))] [(.ref tk8)])) rfl (by rw [hml]; rfl) (Steps.refl _) (argsL := []) (rest := []) (lenOf own_pd_x28x29Ljavax2flangx2fStringx3b rfl) rfl (by show 2 * 0 + _ ≤ _; exact Nat.le_of_eq rfl) (hb hby at_120) (fun _ _ => ⟨rfl, eh17, (by decide : 17 + 8 ≤ _), (by decide : 78 + 108 ≤ _)⟩)
      dsimp only [Pt.U, Pt.locs, Pt.cells, Pt.slots] at X22 l22 y22 z22 st22 hQ22 hSb22 hgr22 C22
      subst l22 y22 z22
      obtain ⟨Xr22, hS22, hZ, hown⟩ := rebS (s := s) (vm0 := T8.vm) hS8 (by rw [eh17]; omega) X22 hSb22 hgr22 hZ hown
      have hkk22 : T22.heap.size ≤ T22.heap.size := Nat.le_refl _
      have hZ22 := hZ
      obtain ⟨r22, rfl, N22q, K22, ge22, Fs22⟩ := hQ22
      have N22 := Fr.app N17 N22q
      have sz23 : T8.heap.size ≤ T22.heap.size := K22.1
      have chA23 : CHr Z own_EL s.vm h0 T22.vm T22.heap := (chA12).trans C22
      refine OwnFin.adv (B := T22.setTop (mkF m 123 #[.val (.int va), .val (.int vb), .val (.int vc), .val (.int vn), .val (.int vd), .val (.int (vn &&& (3 : Int32))), .val (.ref r1), .val (.int a2), .val (.int n2), .val (.ref r5), .val (.ref tk8), .val (.int (1 : Int32))] [(.ref r22)])) (fun _ k => st22.trans k) ?_
      refine OwnFin.adv (B := T22.setTop (mkF m 125 #[.val (.int va), .val (.int vb), .val (.int vc), .val (.int vn), .val (.int vd), .val (.int (vn &&& (3 : Int32))), .val (.ref r1), .val (.int a2), .val (.int n2), .val (.ref r5), .val (.ref tk8), .val (.int (1 : Int32))] [(.ref r1), (.ref r22)])) (fun _ k => XS.aload Xr22.here hx rfl (hb hby at_123) rfl rfl k) ?_
      have Old25 : Old Z n0 T22.heap := (Old15.keep K22 all0)
      have Fv26_4 : OwnS Z T22.heap (T1.heap.size) r1 csa := (Fv19_3.keep K22 all0)
      obtain ⟨_, _, ⟨T24, L24, k24, n24⟩, -, X24, ⟨Lc24, hQ24, l24, y24, z24⟩, st24⟩ := Jvm.LawKit.callS Xr22 hx (y := (⟨"com/example/raccordo/raccordo/sql/SqlTokenParameterPinLaw", "shape", "(Ljava/lang/String;Ljava/lang/String;)Z"⟩ : MethodName)) hown (mvT hZ (hw _ (List.mem_of_getElem? (i := 205) rfl))) (mvT hZ (hw _ (List.mem_of_getElem? (i := 206) rfl))) (mvT hZ (hw _ (List.mem_of_getElem? (i := 2) rfl))) (mvT hZ (hw _ (List.mem_of_getElem? (i := 207) rfl))) (by decide) (backOf (W := 0) (own_shape l Z a0 hw [] r22 r1 zc fm (T22.heap.size) (T1.heap.size) csa T22.heap n0 (by omega) Old25 SCS hzc SFM rfm Fs22 Fv26_4 hl3a) hZ (hw _ (List.mem_of_getElem? (i := 207) rfl)) (hw _ (List.mem_of_getElem? (i := 2) rfl)) (by decide) (by decide)) (g := (mkF m 125 #[.val (.int va), .val (.int vb), .val (.int vc), .val (.int vn), .val (.int vd), .val (.int (vn &&& (3 : Int32))), .val (.ref r1), .val (.int a2), .val (.int n2), .val (.ref r5), .val (.ref tk8), .val (.int (1 : Int32))] [(.ref r1), (.ref r22)])) rfl (by rw [hml]; rfl) (argsL := [(.ref r22), (.ref r1)]) (rest := []) (lenOf own_pd_x28Ljavax2flangx2fStringx3bLjavax2flangx2fStringx3bx29Z rfl) rfl (by show 2 * 0 + _ ≤ _; exact Nat.le_of_eq rfl) (hb hby at_125) (fun _ _ => ⟨rfl, rfl, (by decide : 25 + 0 ≤ _), (by decide : 186 + 0 ≤ _)⟩)
      dsimp only [Pt.U, Pt.locs, Pt.cells, Pt.slots] at X24 l24 y24 z24 st24 hQ24
      subst l24 y24 z24
      obtain ⟨rfl, N24q, eh24⟩ := hQ24
      have N24 := Fr.app N22 N24q
      refine OwnFin.adv (B := T24.setTop (mkF m 128 #[.val (.int va), .val (.int vb), .val (.int vc), .val (.int vn), .val (.int vd), .val (.int (vn &&& (3 : Int32))), .val (.ref r1), .val (.int a2), .val (.int n2), .val (.ref r5), .val (.ref tk8), .val (.int (1 : Int32))] [(.int (1 : Int32))])) (fun _ k => st24 _ k) ?_
      have hc128_53 : ¬ ((1 : Int32) = (0 : Int32)) := by simp
      refine OwnFin.adv (B := T24.setTop (mkF m 131 #[.val (.int va), .val (.int vb), .val (.int vc), .val (.int vn), .val (.int vd), .val (.int (vn &&& (3 : Int32))), .val (.ref r1), .val (.int a2), .val (.int n2), .val (.ref r5), .val (.ref tk8), .val (.int (1 : Int32))] [])) (fun _ k => XS.ifNo X24.here hx rfl (hb hby at_128) rfl ((if0 _ _).trans (feq hc128_53).1) k) ?_
      refine OwnFin.adv (B := T24.setTop (mkF m 132 #[.val (.int va), .val (.int vb), .val (.int vc), .val (.int vn), .val (.int vd), .val (.int (vn &&& (3 : Int32))), .val (.ref r1), .val (.int a2), .val (.int n2), .val (.ref r5), .val (.ref tk8), .val (.int (1 : Int32))] [(.int (1 : Int32))])) (fun _ k => XS.iconst X24.here hx rfl (hb hby at_131) k) ?_
      refine OwnFin.adv (B := T24.setTop (mkF m 136 #[.val (.int va), .val (.int vb), .val (.int vc), .val (.int vn), .val (.int vd), .val (.int (vn &&& (3 : Int32))), .val (.ref r1), .val (.int a2), .val (.int n2), .val (.ref r5), .val (.ref tk8), .val (.int (1 : Int32))] [(.int (1 : Int32))])) (fun _ k => XS.goto X24.here hx rfl (pc0 := 132) (pc' := 136) rfl (hb hby at_132) (by decide) (by decide) k) ?_
      refine OwnFin.adv (B := T24.setTop (mkF m 138 #[.val (.int va), .val (.int vb), .val (.int vc), .val (.int vn), .val (.int vd), .val (.int (vn &&& (3 : Int32))), .val (.ref r1), .val (.int a2), .val (.int n2), .val (.ref r5), .val (.ref tk8), .val (.int (1 : Int32))] [])) (fun _ k => XS.istore X24.here hx rfl (hb hby at_136) rfl (l' := #[.val (.int va), .val (.int vb), .val (.int vc), .val (.int vn), .val (.int vd), .val (.int (vn &&& (3 : Int32))), .val (.ref r1), .val (.int a2), .val (.int n2), .val (.ref r5), .val (.ref tk8), .val (.int (1 : Int32))]) rfl k) ?_
      refine OwnFin.adv (B := T24.setTop (mkF m 140 #[.val (.int va), .val (.int vb), .val (.int vc), .val (.int vn), .val (.int vd), .val (.int (vn &&& (3 : Int32))), .val (.ref r1), .val (.int a2), .val (.int n2), .val (.ref r5), .val (.ref tk8), .val (.int (1 : Int32))] [(.int (1 : Int32))])) (fun _ k => XS.iload X24.here hx rfl (hb hby at_138) rfl k) ?_
      have hc140_58 : ¬ ((1 : Int32) = (0 : Int32)) := by simp
      refine OwnFin.adv (B := T24.setTop (mkF m 143 #[.val (.int va), .val (.int vb), .val (.int vc), .val (.int vn), .val (.int vd), .val (.int (vn &&& (3 : Int32))), .val (.ref r1), .val (.int a2), .val (.int n2), .val (.ref r5), .val (.ref tk8), .val (.int (1 : Int32))] [])) (fun _ k => XS.ifNo X24.here hx rfl (hb hby at_140) rfl ((if0 _ _).trans (feq hc140_58).1) k) ?_
      refine OwnFin.adv (B := T24.setTop (mkF m 145 #[.val (.int va), .val (.int vb), .val (.int vc), .val (.int vn), .val (.int vd), .val (.int (vn &&& (3 : Int32))), .val (.ref r1), .val (.int a2), .val (.int n2), .val (.ref r5), .val (.ref tk8), .val (.int (1 : Int32))] [(.ref tk8)])) (fun _ k => XS.aload X24.here hx rfl (hb hby at_143) rfl rfl k) ?_
      refine OwnFin.adv (B := T24.setTop (mkF m 147 #[.val (.int va), .val (.int vb), .val (.int vc), .val (.int vn), .val (.int vd), .val (.int (vn &&& (3 : Int32))), .val (.ref r1), .val (.int a2), .val (.int n2), .val (.ref r5), .val (.ref tk8), .val (.int (1 : Int32))] [(.ref r5), (.ref tk8)])) (fun _ k => XS.aload X24.here hx rfl (hb hby at_145) rfl rfl k) ?_
      have Fv28_4 : OwnS Z T22.heap (T5.heap.size) r5 csb := ((Fs5.keep K8 all0).keep K22 all0)
      obtain ⟨ts29, ks29, Es29, Vs29, Cs29, As29, lx29, lt29, hp29, l229⟩ := id Fv28_4
      have lx29 := own_lt lx29
      have lt29 := own_lt lt29
      have ltx29 := own_lt Es29.lt
      have ltt29 := own_lt As29.lt
      obtain ⟨_, _, ⟨T27, L27, k27, n27⟩, -, X27, hSb27, hgr27, ⟨Lc27, hQ27, l27, y27, z27, C27⟩, st27⟩ := callSS (s := (s.setVm T22.vm)) X24 hx (y := (⟨"com/example/raccordo/raccordo/sql/SqlToken", "parameter", "(Ljava/lang/String;)Lcom/example/raccordo/raccordo/sql/SqlToken;"⟩ : MethodName)) hown (mvT hZ (hw _ (List.mem_of_getElem? (i := 37) rfl))) (mvT hZ (hw _ (List.mem_of_getElem? (i := 38) rfl))) (mvT hZ (hw _ (List.mem_of_getElem? (i := 39) rfl))) (mvT hZ (hw _ (List.mem_of_getElem? (i := 40) rfl))) (by decide) (backOfSH (s := s) (vm0 := T22.vm) (W := 1) (own_parameter l Z a0 hw [] r5 kp T22.heap n0 (by omega) Old25 Es29 S_kp E_kp) hZ (hw _ (List.mem_of_getElem? (i := 40) rfl)) (hw _ (List.mem_of_getElem? (i := 39) rfl)) (by decide) (by decide) (own_EW hw) (chA23).1) (g := (mkF m 147 #[.val (.int va), .val (.int vb), .val (.int vc), .val (.int vn), .val (.int vd), .val (.int (vn &&& (3 : Int32))), .val (.ref r1), .val (.int a2), .val (.int n2), .val (.ref r5), .val (.ref tk8), .val (.int (1 : Int32))] [(.ref r5), (.ref tk8)])) rfl (by rw [hml]; rfl) (argsL := [(.ref r5)]) (rest := [(.ref tk8)]) (lenOf own_pd_x28Ljavax2flangx2fStringx3bx29Lcomx2fexamplex2fraccordox2fraccordox2fsqlx2fSqlTokenx3b rfl) rfl (by show 2 * 0 + _ ≤ _; exact Nat.le_of_eq rfl) (hb hby at_147) (fun _ _ => ⟨rfl, eh24, (by decide : 25 + 5 ≤ _), (by decide : 186 + 54 ≤ _)⟩)
      dsimp only [Pt.U, Pt.locs, Pt.cells, Pt.slots] at X27 l27 y27 z27 st27 hQ27 hSb27 hgr27 C27
      subst l27 y27 z27
      obtain ⟨Xr27, hS27, hZ, hown⟩ := rebS (s := s) (vm0 := T22.vm) hS22 (by rw [eh24]; omega) X27 hSb27 hgr27 hZ hown
      have hkk27 : T27.heap.size ≤ T27.heap.size := Nat.le_refl _
      have hZ27 := hZ
      obtain ⟨tk27, rfl, N27q, K27, ge27, Et27, Fa27, Fb27⟩ := hQ27
      have N27 := Fr.app N24 N27q
      have sz30 : T22.heap.size ≤ T27.heap.size := K27.1
      have chA30 : CHr Z own_EL s.vm h0 T27.vm T27.heap := (chA23).trans C27
      have lt_tk27 := own_lt Et27.lt
      refine OwnFin.adv (B := T27.setTop (mkF m 150 #[.val (.int va), .val (.int vb), .val (.int vc), .val (.int vn), .val (.int vd), .val (.int (vn &&& (3 : Int32))), .val (.ref r1), .val (.int a2), .val (.int n2), .val (.ref r5), .val (.ref tk8), .val (.int (1 : Int32))] [(.ref tk27), (.ref tk8)])) (fun _ k => st27.trans k) ?_
      have Old32 : Old Z n0 T27.heap := (Old25.keep K27 all0)
      have Fv33_5 : Fld Z T27.heap tk8 "com/example/raccordo/raccordo/sql/SqlToken" "kind" "Lcom/example/raccordo/raccordo/sql/SqlToken$Kind;" (.ref kp) := ((Fa8.keep K22 nin0).keep K27 nin0)
      have Fv34_5 : Fld Z T27.heap tk8 "com/example/raccordo/raccordo/sql/SqlToken" "content" "Ljava/lang/String;" (.ref r1) := ((Fb8.keep K22 nin0).keep K27 nin0)
      have Fv35_5 : OwnS Z T27.heap (T1.heap.size) r1 csa := (Fv26_4.keep K27 all0)
      have Fv36_5 : OwnS Z T27.heap (T5.heap.size) r5 csb := (Fv28_4.keep K27 all0)
      have Fv37_5 : Exa Z T27.heap tk8 "com/example/raccordo/raccordo/sql/SqlToken" := ((Et8.keep K22).keep K27)
      obtain ⟨cq31, kq31, q31a, q31b, q31c⟩ := isOf hZ rfl Fv37_5
      obtain ⟨_, _, ⟨T31, L31, k31, n31⟩, -, X31, ⟨Lc31, hQ31, l31, y31, z31⟩, st31⟩ := Xr27.virtualBack hx (y := (⟨"com/example/raccordo/raccordo/sql/SqlToken", "equals", "(Ljava/lang/Object;)Z"⟩ : MethodName)) (z := (⟨"com/example/raccordo/raccordo/sql/SqlToken", "equals", "(Ljava/lang/Object;)Z"⟩ : MethodName)) hown (mvT hZ (hw _ (List.mem_of_getElem? (i := 231) rfl))) (mvT hZ (hw _ (List.mem_of_getElem? (i := 232) rfl))) (notFace_of_selects (args := #[]) (mvT hZ (hw _ (List.mem_of_getElem? (i := 234) rfl)))) (mvT hZ (hw _ (List.mem_of_getElem? (i := 234) rfl))) (mvT hZ (hw _ (List.mem_of_getElem? (i := 233) rfl))) (by decide) (backOf (W := 0) (own_tkEq l Z a0 hw [] tk8 tk27 kp kp r1 r5 zc (T1.heap.size) (T5.heap.size) csa csb T27.heap n0 (by omega) Old32 SCS hzc Et27 Fv33_5 Fa27 Fv34_5 Fb27 Fv35_5 Fv36_5) hZ (hw _ (List.mem_of_getElem? (i := 235) rfl)) (hw _ (List.mem_of_getElem? (i := 39) rfl)) (by decide) (by decide)) q31a q31c (g := (mkF m 150 #[.val (.int va), .val (.int vb), .val (.int vc), .val (.int vn), .val (.int vd), .val (.int (vn &&& (3 : Int32))), .val (.ref r1), .val (.int a2), .val (.int n2), .val (.ref r5), .val (.ref tk8), .val (.int (1 : Int32))] [(.ref tk27), (.ref tk8)])) rfl (by rw [hml]; rfl) (Steps.refl _) (argsL := [(.ref tk27)]) (rest := []) (lenOf own_pd_x28Ljavax2flangx2fObjectx3bx29Z rfl) rfl (by show 2 * 0 + _ ≤ _; exact Nat.le_of_eq rfl) (hb hby at_150) (fun _ _ => ⟨rfl, rfl, (by decide : 30 + 0 ≤ _), (by decide : 240 + 0 ≤ _)⟩)
      dsimp only [Pt.U, Pt.locs, Pt.cells, Pt.slots] at X31 l31 y31 z31 st31 hQ31
      subst l31 y31 z31
      obtain ⟨rfl, N31q, eh31⟩ := hQ31
      have N31 := Fr.app N27 N31q
      refine OwnFin.adv (B := T31.setTop (mkF m 153 #[.val (.int va), .val (.int vb), .val (.int vc), .val (.int vn), .val (.int vd), .val (.int (vn &&& (3 : Int32))), .val (.ref r1), .val (.int a2), .val (.int n2), .val (.ref r5), .val (.ref tk8), .val (.int (1 : Int32))] [(.int (if kp = kp ∧ csa = csb then (1 : Int32) else 0))])) (fun _ k => st31.trans k) ?_
      refine OwnFin.adv (B := T31.setTop (mkF m 155 #[.val (.int va), .val (.int vb), .val (.int vc), .val (.int vn), .val (.int vd), .val (.int (vn &&& (3 : Int32))), .val (.ref r1), .val (.int a2), .val (.int n2), .val (.ref r5), .val (.ref tk8), .val (.int (1 : Int32))] [(.ref r1), (.int (if kp = kp ∧ csa = csb then (1 : Int32) else 0))])) (fun _ k => XS.aload X31.here hx rfl (hb hby at_153) rfl rfl k) ?_
      refine OwnFin.adv (B := T31.setTop (mkF m 157 #[.val (.int va), .val (.int vb), .val (.int vc), .val (.int vn), .val (.int vd), .val (.int (vn &&& (3 : Int32))), .val (.ref r1), .val (.int a2), .val (.int n2), .val (.ref r5), .val (.ref tk8), .val (.int (1 : Int32))] [(.ref r5), (.ref r1), (.int (if kp = kp ∧ csa = csb then (1 : Int32) else 0))])) (fun _ k => XS.aload X31.here hx rfl (hb hby at_155) rfl rfl k) ?_
      have hws39 : ∀ d ∈ StrChars.Road.wordsEq, d.before a0 Z = true := fun d hd => hw d ((by decide +kernel : ∀ d ∈ StrChars.Road.wordsEq, d ∈ tables_1) d hd)
      obtain ⟨ts40, ks40, Es40, Vs40, Cs40, As40, lx40, lt40, hp40, l240⟩ := id Fv35_5
      have lx40 := own_lt lx40
      have lt40 := own_lt lt40
      have ltx40 := own_lt Es40.lt
      have ltt40 := own_lt As40.lt
      obtain ⟨ts41, ks41, Es41, Vs41, Cs41, As41, lx41, lt41, hp41, l241⟩ := id Fv36_5
      have lx41 := own_lt lx41
      have lt41 := own_lt lt41
      have ltx41 := own_lt Es41.lt
      have ltt41 := own_lt As41.lt
      obtain ⟨cq38, kq38, q38a, q38b, q38c⟩ := isOf hZ eh31 Es40
      obtain ⟨_, _, ⟨T38, L38, k38, n38⟩, -, X38, ⟨Lc38, hQ38, l38, y38, z38⟩, st38⟩ := X31.virtualBack hx (y := (⟨"java/lang/String", "equals", "(Ljava/lang/Object;)Z"⟩ : MethodName)) (z := (⟨"java/lang/String", "equals", "(Ljava/lang/Object;)Z"⟩ : MethodName)) hown (mvT hZ (hw _ (List.mem_of_getElem? (i := 74) rfl))) (mvT hZ (hw _ (List.mem_of_getElem? (i := 75) rfl))) (notFace_of_selects (args := #[]) (mvT hZ (hw _ (List.mem_of_getElem? (i := 77) rfl)))) (mvT hZ (hw _ (List.mem_of_getElem? (i := 77) rfl))) (mvT hZ (hw _ (List.mem_of_getElem? (i := 76) rfl))) (by decide) (StrChars.Road.eqW (W := 1) hZ hws39 (kI := 4) (hw _ (List.mem_of_getElem? (i := 6) rfl)) Es40 Vs40 Cs40 As40 (StrChars.Road.codOf rfl (fun c hc => (hp40 c hc).2)) (own_up hp40) l240 Es41 Vs41 Cs41 As41 (StrChars.Road.codOf rfl (fun c hc => (hp41 c hc).2)) (own_up hp41) l241 (own_staK SCS Old32) hzc (by decide) (by decide)) q38a q38c (g := (mkF m 157 #[.val (.int va), .val (.int vb), .val (.int vc), .val (.int vn), .val (.int vd), .val (.int (vn &&& (3 : Int32))), .val (.ref r1), .val (.int a2), .val (.int n2), .val (.ref r5), .val (.ref tk8), .val (.int (1 : Int32))] [(.ref r5), (.ref r1), (.int (if kp = kp ∧ csa = csb then (1 : Int32) else 0))])) rfl (by rw [hml]; rfl) (Steps.refl _) (argsL := [(.ref r5)]) (rest := [(.int (if kp = kp ∧ csa = csb then (1 : Int32) else 0))]) (lenOf own_pd_x28Ljavax2flangx2fObjectx3bx29Z rfl) rfl (by show 2 * 0 + _ ≤ _; exact Nat.le_of_eq rfl) (hb hby at_157) (fun _ _ => ⟨rfl, eh31, (by decide : 30 + 0 ≤ _), (by decide : 240 + 0 ≤ _)⟩)
      dsimp only [Pt.U, Pt.locs, Pt.cells, Pt.slots] at X38 l38 y38 z38 st38 hQ38
      subst l38 y38 z38
      obtain ⟨hq38, rfl, eh38⟩ := hQ38
      obtain rfl := own_eqv hq38
      have N38 := Fr.app N31 (Fr.nil n0)
      refine OwnFin.adv (B := T38.setTop (mkF m 160 #[.val (.int va), .val (.int vb), .val (.int vc), .val (.int vn), .val (.int vd), .val (.int (vn &&& (3 : Int32))), .val (.ref r1), .val (.int a2), .val (.int n2), .val (.ref r5), .val (.ref tk8), .val (.int (1 : Int32))] [(.int (if csa = csb then (1 : Int32) else 0)), (.int (if kp = kp ∧ csa = csb then (1 : Int32) else 0))])) (fun _ k => st38.trans k) ?_
      have hc160_66 : (if kp = kp ∧ csa = csb then (1 : Int32) else 0) = (if csa = csb then (1 : Int32) else 0) := by simp
      refine OwnFin.adv (B := T38.setTop (mkF m 163 #[.val (.int va), .val (.int vb), .val (.int vc), .val (.int vn), .val (.int vd), .val (.int (vn &&& (3 : Int32))), .val (.ref r1), .val (.int a2), .val (.int n2), .val (.ref r5), .val (.ref tk8), .val (.int (1 : Int32))] [])) (fun _ k => XS.icmpNo X38.here hx rfl (hb hby at_160) rfl (teq hc160_66).2 k) ?_
      refine OwnFin.adv (B := T38.setTop (mkF m 164 #[.val (.int va), .val (.int vb), .val (.int vc), .val (.int vn), .val (.int vd), .val (.int (vn &&& (3 : Int32))), .val (.ref r1), .val (.int a2), .val (.int n2), .val (.ref r5), .val (.ref tk8), .val (.int (1 : Int32))] [(.int (1 : Int32))])) (fun _ k => XS.iconst X38.here hx rfl (hb hby at_163) k) ?_
      refine OwnFin.adv (B := T38.setTop (mkF m 168 #[.val (.int va), .val (.int vb), .val (.int vc), .val (.int vn), .val (.int vd), .val (.int (vn &&& (3 : Int32))), .val (.ref r1), .val (.int a2), .val (.int n2), .val (.ref r5), .val (.ref tk8), .val (.int (1 : Int32))] [(.int (1 : Int32))])) (fun _ k => XS.goto X38.here hx rfl (pc0 := 164) (pc' := 168) rfl (hb hby at_164) (by decide) (by decide) k) ?_
      refine OwnFin.adv (B := T38.setTop (mkF m 170 #[.val (.int va), .val (.int vb), .val (.int vc), .val (.int vn), .val (.int vd), .val (.int (vn &&& (3 : Int32))), .val (.ref r1), .val (.int a2), .val (.int n2), .val (.ref r5), .val (.ref tk8), .val (.int (1 : Int32))] [])) (fun _ k => XS.istore X38.here hx rfl (hb hby at_168) rfl (l' := #[.val (.int va), .val (.int vb), .val (.int vc), .val (.int vn), .val (.int vd), .val (.int (vn &&& (3 : Int32))), .val (.ref r1), .val (.int a2), .val (.int n2), .val (.ref r5), .val (.ref tk8), .val (.int (1 : Int32))]) rfl k) ?_
      refine OwnFin.adv (B := T38.setTop (mkF m 172 #[.val (.int va), .val (.int vb), .val (.int vc), .val (.int vn), .val (.int vd), .val (.int (vn &&& (3 : Int32))), .val (.ref r1), .val (.int a2), .val (.int n2), .val (.ref r5), .val (.ref tk8), .val (.int (1 : Int32))] [(.int (1 : Int32))])) (fun _ k => XS.iload X38.here hx rfl (hb hby at_170) rfl k) ?_
      have hc172_71 : ¬ ((1 : Int32) = (0 : Int32)) := by simp
      refine OwnFin.adv (B := T38.setTop (mkF m 175 #[.val (.int va), .val (.int vb), .val (.int vc), .val (.int vn), .val (.int vd), .val (.int (vn &&& (3 : Int32))), .val (.ref r1), .val (.int a2), .val (.int n2), .val (.ref r5), .val (.ref tk8), .val (.int (1 : Int32))] [])) (fun _ k => XS.ifNo X38.here hx rfl (hb hby at_172) rfl ((if0 _ _).trans (feq hc172_71).1) k) ?_
      refine OwnFin.adv (B := T38.setTop (mkF m 177 #[.val (.int va), .val (.int vb), .val (.int vc), .val (.int vn), .val (.int vd), .val (.int (vn &&& (3 : Int32))), .val (.ref r1), .val (.int a2), .val (.int n2), .val (.ref r5), .val (.ref tk8), .val (.int (1 : Int32))] [(.ref tk8)])) (fun _ k => XS.aload X38.here hx rfl (hb hby at_175) rfl rfl k) ?_
      refine OwnFin.adv (B := T38.setTop (mkF m 179 #[.val (.int va), .val (.int vb), .val (.int vc), .val (.int vn), .val (.int vd), .val (.int (vn &&& (3 : Int32))), .val (.ref r1), .val (.int a2), .val (.int n2), .val (.ref r5), .val (.ref tk8), .val (.int (1 : Int32))] [(.ref r1), (.ref tk8)])) (fun _ k => XS.aload X38.here hx rfl (hb hby at_177) rfl rfl k) ?_
      obtain ⟨ts43, ks43, Es43, Vs43, Cs43, As43, lx43, lt43, hp43, l243⟩ := id Fv35_5
      have lx43 := own_lt lx43
      have lt43 := own_lt lt43
      have ltx43 := own_lt Es43.lt
      have ltt43 := own_lt As43.lt
      obtain ⟨_, _, ⟨T42, L42, k42, n42⟩, -, X42, hSb42, hgr42, ⟨Lc42, hQ42, l42, y42, z42, C42⟩, st42⟩ := callSS (s := (s.setVm T27.vm)) X38 hx (y := (⟨"com/example/raccordo/raccordo/sql/SqlToken", "text", "(Ljava/lang/String;)Lcom/example/raccordo/raccordo/sql/SqlToken;"⟩ : MethodName)) hown (mvT hZ (hw _ (List.mem_of_getElem? (i := 242) rfl))) (mvT hZ (hw _ (List.mem_of_getElem? (i := 243) rfl))) (mvT hZ (hw _ (List.mem_of_getElem? (i := 39) rfl))) (mvT hZ (hw _ (List.mem_of_getElem? (i := 244) rfl))) (by decide) (backOfSH (s := s) (vm0 := T27.vm) (W := 1) (own_text l Z a0 hw [] r1 kt T27.heap n0 (by omega) Old32 Es43 S_kt E_kt) hZ (hw _ (List.mem_of_getElem? (i := 244) rfl)) (hw _ (List.mem_of_getElem? (i := 39) rfl)) (by decide) (by decide) (own_EW hw) (chA30).1) (g := (mkF m 179 #[.val (.int va), .val (.int vb), .val (.int vc), .val (.int vn), .val (.int vd), .val (.int (vn &&& (3 : Int32))), .val (.ref r1), .val (.int a2), .val (.int n2), .val (.ref r5), .val (.ref tk8), .val (.int (1 : Int32))] [(.ref r1), (.ref tk8)])) rfl (by rw [hml]; rfl) (argsL := [(.ref r1)]) (rest := [(.ref tk8)]) (lenOf own_pd_x28Ljavax2flangx2fStringx3bx29Lcomx2fexamplex2fraccordox2fraccordox2fsqlx2fSqlTokenx3b rfl) rfl (by show 2 * 0 + _ ≤ _; exact Nat.le_of_eq rfl) (hb hby at_179) (fun _ _ => ⟨rfl, eh38, (by decide : 30 + 5 ≤ _), (by decide : 240 + 54 ≤ _)⟩)
      dsimp only [Pt.U, Pt.locs, Pt.cells, Pt.slots] at X42 l42 y42 z42 st42 hQ42 hSb42 hgr42 C42
      subst l42 y42 z42
      obtain ⟨Xr42, hS42, hZ, hown⟩ := rebS (s := s) (vm0 := T27.vm) hS27 (by rw [eh38]; omega) X42 hSb42 hgr42 hZ hown
      have hkk42 : T42.heap.size ≤ T42.heap.size := Nat.le_refl _
      have hZ42 := hZ
      obtain ⟨tk42, rfl, N42q, K42, ge42, Et42, Fa42, Fb42⟩ := hQ42
      have N42 := Fr.app N38 N42q
      have sz44 : T27.heap.size ≤ T42.heap.size := K42.1
      have chA44 : CHr Z own_EL s.vm h0 T42.vm T42.heap := (chA30).trans C42
      have lt_tk42 := own_lt Et42.lt
      refine OwnFin.adv (B := T42.setTop (mkF m 182 #[.val (.int va), .val (.int vb), .val (.int vc), .val (.int vn), .val (.int vd), .val (.int (vn &&& (3 : Int32))), .val (.ref r1), .val (.int a2), .val (.int n2), .val (.ref r5), .val (.ref tk8), .val (.int (1 : Int32))] [(.ref tk42), (.ref tk8)])) (fun _ k => st42.trans k) ?_
      have Old46 : Old Z n0 T42.heap := (Old32.keep K42 all0)
      have Fv47_6 : Fld Z T42.heap tk8 "com/example/raccordo/raccordo/sql/SqlToken" "kind" "Lcom/example/raccordo/raccordo/sql/SqlToken$Kind;" (.ref kp) := (Fv33_5.keep K42 nin0)
      have Fv48_6 : Fld Z T42.heap tk8 "com/example/raccordo/raccordo/sql/SqlToken" "content" "Ljava/lang/String;" (.ref r1) := (Fv34_5.keep K42 nin0)
      have Fv49_6 : OwnS Z T42.heap (T1.heap.size) r1 csa := (Fv35_5.keep K42 all0)
      have Fv50_6 : Exa Z T42.heap tk8 "com/example/raccordo/raccordo/sql/SqlToken" := (Fv37_5.keep K42)
      obtain ⟨cq45, kq45, q45a, q45b, q45c⟩ := isOf hZ rfl Fv50_6
      obtain ⟨_, _, ⟨T45, L45, k45, n45⟩, -, X45, ⟨Lc45, hQ45, l45, y45, z45⟩, st45⟩ := Xr42.virtualBack hx (y := (⟨"com/example/raccordo/raccordo/sql/SqlToken", "equals", "(Ljava/lang/Object;)Z"⟩ : MethodName)) (z := (⟨"com/example/raccordo/raccordo/sql/SqlToken", "equals", "(Ljava/lang/Object;)Z"⟩ : MethodName)) hown (mvT hZ (hw _ (List.mem_of_getElem? (i := 231) rfl))) (mvT hZ (hw _ (List.mem_of_getElem? (i := 232) rfl))) (notFace_of_selects (args := #[]) (mvT hZ (hw _ (List.mem_of_getElem? (i := 234) rfl)))) (mvT hZ (hw _ (List.mem_of_getElem? (i := 234) rfl))) (mvT hZ (hw _ (List.mem_of_getElem? (i := 233) rfl))) (by decide) (backOf (W := 0) (own_tkEq l Z a0 hw [] tk8 tk42 kp kt r1 r1 zc (T1.heap.size) (T1.heap.size) csa csa T42.heap n0 (by omega) Old46 SCS hzc Et42 Fv47_6 Fa42 Fv48_6 Fb42 Fv49_6 Fv49_6) hZ (hw _ (List.mem_of_getElem? (i := 235) rfl)) (hw _ (List.mem_of_getElem? (i := 39) rfl)) (by decide) (by decide)) q45a q45c (g := (mkF m 182 #[.val (.int va), .val (.int vb), .val (.int vc), .val (.int vn), .val (.int vd), .val (.int (vn &&& (3 : Int32))), .val (.ref r1), .val (.int a2), .val (.int n2), .val (.ref r5), .val (.ref tk8), .val (.int (1 : Int32))] [(.ref tk42), (.ref tk8)])) rfl (by rw [hml]; rfl) (Steps.refl _) (argsL := [(.ref tk42)]) (rest := []) (lenOf own_pd_x28Ljavax2flangx2fObjectx3bx29Z rfl) rfl (by show 2 * 0 + _ ≤ _; exact Nat.le_of_eq rfl) (hb hby at_182) (fun _ _ => ⟨rfl, rfl, (by decide : 35 + 0 ≤ _), (by decide : 294 + 0 ≤ _)⟩)
      dsimp only [Pt.U, Pt.locs, Pt.cells, Pt.slots] at X45 l45 y45 z45 st45 hQ45
      subst l45 y45 z45
      obtain ⟨rfl, N45q, eh45⟩ := hQ45
      have N45 := Fr.app N42 N45q
      refine OwnFin.adv (B := T45.setTop (mkF m 185 #[.val (.int va), .val (.int vb), .val (.int vc), .val (.int vn), .val (.int vd), .val (.int (vn &&& (3 : Int32))), .val (.ref r1), .val (.int a2), .val (.int n2), .val (.ref r5), .val (.ref tk8), .val (.int (1 : Int32))] [(.int (if kp = kt ∧ csa = csa then (1 : Int32) else 0))])) (fun _ k => st45.trans k) ?_
      have hc185_76 : (if kp = kt ∧ csa = csa then (1 : Int32) else 0) = (0 : Int32) := by simp [ne_t]
      refine OwnFin.adv (B := T45.setTop (mkF m 188 #[.val (.int va), .val (.int vb), .val (.int vc), .val (.int vn), .val (.int vd), .val (.int (vn &&& (3 : Int32))), .val (.ref r1), .val (.int a2), .val (.int n2), .val (.ref r5), .val (.ref tk8), .val (.int (1 : Int32))] [])) (fun _ k => XS.ifNo X45.here hx rfl (hb hby at_185) rfl ((if0 _ _).trans (teq hc185_76).2) k) ?_
      refine OwnFin.adv (B := T45.setTop (mkF m 189 #[.val (.int va), .val (.int vb), .val (.int vc), .val (.int vn), .val (.int vd), .val (.int (vn &&& (3 : Int32))), .val (.ref r1), .val (.int a2), .val (.int n2), .val (.ref r5), .val (.ref tk8), .val (.int (1 : Int32))] [(.int (1 : Int32))])) (fun _ k => XS.iconst X45.here hx rfl (hb hby at_188) k) ?_
      refine OwnFin.adv (B := T45.setTop (mkF m 193 #[.val (.int va), .val (.int vb), .val (.int vc), .val (.int vn), .val (.int vd), .val (.int (vn &&& (3 : Int32))), .val (.ref r1), .val (.int a2), .val (.int n2), .val (.ref r5), .val (.ref tk8), .val (.int (1 : Int32))] [(.int (1 : Int32))])) (fun _ k => XS.goto X45.here hx rfl (pc0 := 189) (pc' := 193) rfl (hb hby at_189) (by decide) (by decide) k) ?_
      refine OwnFin.adv (B := T45.setTop (mkF m 195 #[.val (.int va), .val (.int vb), .val (.int vc), .val (.int vn), .val (.int vd), .val (.int (vn &&& (3 : Int32))), .val (.ref r1), .val (.int a2), .val (.int n2), .val (.ref r5), .val (.ref tk8), .val (.int (1 : Int32))] [])) (fun _ k => XS.istore X45.here hx rfl (hb hby at_193) rfl (l' := #[.val (.int va), .val (.int vb), .val (.int vc), .val (.int vn), .val (.int vd), .val (.int (vn &&& (3 : Int32))), .val (.ref r1), .val (.int a2), .val (.int n2), .val (.ref r5), .val (.ref tk8), .val (.int (1 : Int32))]) rfl k) ?_
      refine OwnFin.adv (B := T45.setTop (mkF m 197 #[.val (.int va), .val (.int vb), .val (.int vc), .val (.int vn), .val (.int vd), .val (.int (vn &&& (3 : Int32))), .val (.ref r1), .val (.int a2), .val (.int n2), .val (.ref r5), .val (.ref tk8), .val (.int (1 : Int32))] [(.int (1 : Int32))])) (fun _ k => XS.iload X45.here hx rfl (hb hby at_195) rfl k) ?_
      have hc197_81 : ¬ ((1 : Int32) = (0 : Int32)) := by simp
      refine OwnFin.adv (B := T45.setTop (mkF m 200 #[.val (.int va), .val (.int vb), .val (.int vc), .val (.int vn), .val (.int vd), .val (.int (vn &&& (3 : Int32))), .val (.ref r1), .val (.int a2), .val (.int n2), .val (.ref r5), .val (.ref tk8), .val (.int (1 : Int32))] [])) (fun _ k => XS.ifNo X45.here hx rfl (hb hby at_197) rfl ((if0 _ _).trans (feq hc197_81).1) k) ?_
      refine OwnFin.adv (B := T45.setTop (mkF m 202 #[.val (.int va), .val (.int vb), .val (.int vc), .val (.int vn), .val (.int vd), .val (.int (vn &&& (3 : Int32))), .val (.ref r1), .val (.int a2), .val (.int n2), .val (.ref r5), .val (.ref tk8), .val (.int (1 : Int32))] [(.ref tk8)])) (fun _ k => XS.aload X45.here hx rfl (hb hby at_200) rfl rfl k) ?_
      refine OwnFin.adv (B := T45.setTop (mkF m 204 #[.val (.int va), .val (.int vb), .val (.int vc), .val (.int vn), .val (.int vd), .val (.int (vn &&& (3 : Int32))), .val (.ref r1), .val (.int a2), .val (.int n2), .val (.ref r5), .val (.ref tk8), .val (.int (1 : Int32))] [(.ref r1), (.ref tk8)])) (fun _ k => XS.aload X45.here hx rfl (hb hby at_202) rfl rfl k) ?_
      obtain ⟨ts52, ks52, Es52, Vs52, Cs52, As52, lx52, lt52, hp52, l252⟩ := id Fv49_6
      have lx52 := own_lt lx52
      have lt52 := own_lt lt52
      have ltx52 := own_lt Es52.lt
      have ltt52 := own_lt As52.lt
      obtain ⟨_, _, ⟨T51, L51, k51, n51⟩, -, X51, hSb51, hgr51, ⟨Lc51, hQ51, l51, y51, z51, C51⟩, st51⟩ := callSS (s := (s.setVm T42.vm)) X45 hx (y := (⟨"com/example/raccordo/raccordo/sql/SqlToken", "substitution", "(Ljava/lang/String;)Lcom/example/raccordo/raccordo/sql/SqlToken;"⟩ : MethodName)) hown (mvT hZ (hw _ (List.mem_of_getElem? (i := 247) rfl))) (mvT hZ (hw _ (List.mem_of_getElem? (i := 248) rfl))) (mvT hZ (hw _ (List.mem_of_getElem? (i := 39) rfl))) (mvT hZ (hw _ (List.mem_of_getElem? (i := 249) rfl))) (by decide) (backOfSH (s := s) (vm0 := T42.vm) (W := 1) (own_substitution l Z a0 hw [] r1 ks T42.heap n0 (by omega) Old46 Es52 S_ks E_ks) hZ (hw _ (List.mem_of_getElem? (i := 249) rfl)) (hw _ (List.mem_of_getElem? (i := 39) rfl)) (by decide) (by decide) (own_EW hw) (chA44).1) (g := (mkF m 204 #[.val (.int va), .val (.int vb), .val (.int vc), .val (.int vn), .val (.int vd), .val (.int (vn &&& (3 : Int32))), .val (.ref r1), .val (.int a2), .val (.int n2), .val (.ref r5), .val (.ref tk8), .val (.int (1 : Int32))] [(.ref r1), (.ref tk8)])) rfl (by rw [hml]; rfl) (argsL := [(.ref r1)]) (rest := [(.ref tk8)]) (lenOf own_pd_x28Ljavax2flangx2fStringx3bx29Lcomx2fexamplex2fraccordox2fraccordox2fsqlx2fSqlTokenx3b rfl) rfl (by show 2 * 0 + _ ≤ _; exact Nat.le_of_eq rfl) (hb hby at_204) (fun _ _ => ⟨rfl, eh45, (by decide : 35 + 5 ≤ _), (by decide : 294 + 54 ≤ _)⟩)
      dsimp only [Pt.U, Pt.locs, Pt.cells, Pt.slots] at X51 l51 y51 z51 st51 hQ51 hSb51 hgr51 C51
      subst l51 y51 z51
      obtain ⟨Xr51, hS51, hZ, hown⟩ := rebS (s := s) (vm0 := T42.vm) hS42 (by rw [eh45]; omega) X51 hSb51 hgr51 hZ hown
      have hkk51 : T51.heap.size ≤ T51.heap.size := Nat.le_refl _
      have hZ51 := hZ
      obtain ⟨tk51, rfl, N51q, K51, ge51, Et51, Fa51, Fb51⟩ := hQ51
      have N51 := Fr.app N45 N51q
      have sz53 : T42.heap.size ≤ T51.heap.size := K51.1
      have chA53 : CHr Z own_EL s.vm h0 T51.vm T51.heap := (chA44).trans C51
      have lt_tk51 := own_lt Et51.lt
      refine OwnFin.adv (B := T51.setTop (mkF m 207 #[.val (.int va), .val (.int vb), .val (.int vc), .val (.int vn), .val (.int vd), .val (.int (vn &&& (3 : Int32))), .val (.ref r1), .val (.int a2), .val (.int n2), .val (.ref r5), .val (.ref tk8), .val (.int (1 : Int32))] [(.ref tk51), (.ref tk8)])) (fun _ k => st51.trans k) ?_
      have Old55 : Old Z n0 T51.heap := (Old46.keep K51 all0)
      have Fv56_7 : Fld Z T51.heap tk8 "com/example/raccordo/raccordo/sql/SqlToken" "kind" "Lcom/example/raccordo/raccordo/sql/SqlToken$Kind;" (.ref kp) := (Fv47_6.keep K51 nin0)
      have Fv57_7 : Fld Z T51.heap tk8 "com/example/raccordo/raccordo/sql/SqlToken" "content" "Ljava/lang/String;" (.ref r1) := (Fv48_6.keep K51 nin0)
      have Fv58_7 : OwnS Z T51.heap (T1.heap.size) r1 csa := (Fv49_6.keep K51 all0)
      have Fv59_7 : Exa Z T51.heap tk8 "com/example/raccordo/raccordo/sql/SqlToken" := (Fv50_6.keep K51)
      obtain ⟨cq54, kq54, q54a, q54b, q54c⟩ := isOf hZ rfl Fv59_7
      obtain ⟨_, _, ⟨T54, L54, k54, n54⟩, -, X54, ⟨Lc54, hQ54, l54, y54, z54⟩, st54⟩ := Xr51.virtualBack hx (y := (⟨"com/example/raccordo/raccordo/sql/SqlToken", "equals", "(Ljava/lang/Object;)Z"⟩ : MethodName)) (z := (⟨"com/example/raccordo/raccordo/sql/SqlToken", "equals", "(Ljava/lang/Object;)Z"⟩ : MethodName)) hown (mvT hZ (hw _ (List.mem_of_getElem? (i := 231) rfl))) (mvT hZ (hw _ (List.mem_of_getElem? (i := 232) rfl))) (notFace_of_selects (args := #[]) (mvT hZ (hw _ (List.mem_of_getElem? (i := 234) rfl)))) (mvT hZ (hw _ (List.mem_of_getElem? (i := 234) rfl))) (mvT hZ (hw _ (List.mem_of_getElem? (i := 233) rfl))) (by decide) (backOf (W := 0) (own_tkEq l Z a0 hw [] tk8 tk51 kp ks r1 r1 zc (T1.heap.size) (T1.heap.size) csa csa T51.heap n0 (by omega) Old55 SCS hzc Et51 Fv56_7 Fa51 Fv57_7 Fb51 Fv58_7 Fv58_7) hZ (hw _ (List.mem_of_getElem? (i := 235) rfl)) (hw _ (List.mem_of_getElem? (i := 39) rfl)) (by decide) (by decide)) q54a q54c (g := (mkF m 207 #[.val (.int va), .val (.int vb), .val (.int vc), .val (.int vn), .val (.int vd), .val (.int (vn &&& (3 : Int32))), .val (.ref r1), .val (.int a2), .val (.int n2), .val (.ref r5), .val (.ref tk8), .val (.int (1 : Int32))] [(.ref tk51), (.ref tk8)])) rfl (by rw [hml]; rfl) (Steps.refl _) (argsL := [(.ref tk51)]) (rest := []) (lenOf own_pd_x28Ljavax2flangx2fObjectx3bx29Z rfl) rfl (by show 2 * 0 + _ ≤ _; exact Nat.le_of_eq rfl) (hb hby at_207) (fun _ _ => ⟨rfl, rfl, (by decide : 40 + 0 ≤ _), (by decide : 348 + 0 ≤ _)⟩)
      dsimp only [Pt.U, Pt.locs, Pt.cells, Pt.slots] at X54 l54 y54 z54 st54 hQ54
      subst l54 y54 z54
      obtain ⟨rfl, N54q, eh54⟩ := hQ54
      have N54 := Fr.app N51 N54q
      refine OwnFin.adv (B := T54.setTop (mkF m 210 #[.val (.int va), .val (.int vb), .val (.int vc), .val (.int vn), .val (.int vd), .val (.int (vn &&& (3 : Int32))), .val (.ref r1), .val (.int a2), .val (.int n2), .val (.ref r5), .val (.ref tk8), .val (.int (1 : Int32))] [(.int (if kp = ks ∧ csa = csa then (1 : Int32) else 0))])) (fun _ k => st54.trans k) ?_
      have hc210_86 : (if kp = ks ∧ csa = csa then (1 : Int32) else 0) = (0 : Int32) := by simp [ne_s]
      refine OwnFin.adv (B := T54.setTop (mkF m 213 #[.val (.int va), .val (.int vb), .val (.int vc), .val (.int vn), .val (.int vd), .val (.int (vn &&& (3 : Int32))), .val (.ref r1), .val (.int a2), .val (.int n2), .val (.ref r5), .val (.ref tk8), .val (.int (1 : Int32))] [])) (fun _ k => XS.ifNo X54.here hx rfl (hb hby at_210) rfl ((if0 _ _).trans (teq hc210_86).2) k) ?_
      refine OwnFin.adv (B := T54.setTop (mkF m 214 #[.val (.int va), .val (.int vb), .val (.int vc), .val (.int vn), .val (.int vd), .val (.int (vn &&& (3 : Int32))), .val (.ref r1), .val (.int a2), .val (.int n2), .val (.ref r5), .val (.ref tk8), .val (.int (1 : Int32))] [(.int (1 : Int32))])) (fun _ k => XS.iconst X54.here hx rfl (hb hby at_213) k) ?_
      refine OwnFin.adv (B := T54.setTop (mkF m 218 #[.val (.int va), .val (.int vb), .val (.int vc), .val (.int vn), .val (.int vd), .val (.int (vn &&& (3 : Int32))), .val (.ref r1), .val (.int a2), .val (.int n2), .val (.ref r5), .val (.ref tk8), .val (.int (1 : Int32))] [(.int (1 : Int32))])) (fun _ k => XS.goto X54.here hx rfl (pc0 := 214) (pc' := 218) rfl (hb hby at_214) (by decide) (by decide) k) ?_
      refine OwnFin.adv (B := T54.setTop (mkF m 220 #[.val (.int va), .val (.int vb), .val (.int vc), .val (.int vn), .val (.int vd), .val (.int (vn &&& (3 : Int32))), .val (.ref r1), .val (.int a2), .val (.int n2), .val (.ref r5), .val (.ref tk8), .val (.int (1 : Int32))] [])) (fun _ k => XS.istore X54.here hx rfl (hb hby at_218) rfl (l' := #[.val (.int va), .val (.int vb), .val (.int vc), .val (.int vn), .val (.int vd), .val (.int (vn &&& (3 : Int32))), .val (.ref r1), .val (.int a2), .val (.int n2), .val (.ref r5), .val (.ref tk8), .val (.int (1 : Int32))]) rfl k) ?_
      refine OwnFin.adv (B := T54.setTop (mkF m 222 #[.val (.int va), .val (.int vb), .val (.int vc), .val (.int vn), .val (.int vd), .val (.int (vn &&& (3 : Int32))), .val (.ref r1), .val (.int a2), .val (.int n2), .val (.ref r5), .val (.ref tk8), .val (.int (1 : Int32))] [(.int (1 : Int32))])) (fun _ k => XS.iload X54.here hx rfl (hb hby at_220) rfl k) ?_
      obtain ⟨fs, hr, hrun, hended, hE⟩ := X54.leaveW hS51 (by rw [eh54]; omega) (v := some (.int (1 : Int32))) (fun h => by rw [Bd.returns] at h; cases h)
      refine OwnFin.leaf hP' ⟨_, _, retN X54 hx (t := .boolean) Bd.returns (by simp) (hb hby at_222) hr, hrun, hended, _, _, rfl, ?_, own_monoW hE (by decide) (by decide)⟩
      exact ⟨rfl, N54⟩
    by_cases hc36 : (vd &&& (2 : Int32)) = (0 : Int32)
    ·
      refine OwnFin.adv (B := TJ.setTop (mkF m 44 #[.val (.int va), .val (.int vb), .val (.int vc), .val (.int vn), .val (.int vd), .val (.int (vn &&& (3 : Int32))), .val (.ref r1), .val (.int a2), .unset, .unset, .unset, .unset] [])) (fun _ k => XS.ifYes XJ.here hx rfl (pc0 := 36) (pc' := 44) rfl (hb hby at_36) rfl ((if0 _ _).trans (teq hc36).1) (by decide) (by decide) k) ?_
      refine OwnFin.adv (B := TJ.setTop (mkF m 46 #[.val (.int va), .val (.int vb), .val (.int vc), .val (.int vn), .val (.int vd), .val (.int (vn &&& (3 : Int32))), .val (.ref r1), .val (.int a2), .unset, .unset, .unset, .unset] [(.int vd)])) (fun _ k => XS.iload XJ.here hx rfl (hb hby at_44) rfl k) ?_
      refine OwnFin.adv (B := TJ.setTop (mkF m 47 #[.val (.int va), .val (.int vb), .val (.int vc), .val (.int vn), .val (.int vd), .val (.int (vn &&& (3 : Int32))), .val (.ref r1), .val (.int a2), .unset, .unset, .unset, .unset] [(.int (2 : Int32)), (.int vd)])) (fun _ k => XS.iconst XJ.here hx rfl (hb hby at_46) k) ?_
      refine OwnFin.adv (B := TJ.setTop (mkF m 48 #[.val (.int va), .val (.int vb), .val (.int vc), .val (.int vn), .val (.int vd), .val (.int (vn &&& (3 : Int32))), .val (.ref r1), .val (.int a2), .unset, .unset, .unset, .unset] [(.int ((vd.toUInt32 >>> ((2 : Int32) &&& 31).toUInt32).toInt32))])) (fun _ k => XS.iushr XJ.here hx rfl (hb hby at_47) rfl k) ?_
      refine OwnFin.adv (B := TJ.setTop (mkF m 49 #[.val (.int va), .val (.int vb), .val (.int vc), .val (.int vn), .val (.int vd), .val (.int (vn &&& (3 : Int32))), .val (.ref r1), .val (.int a2), .unset, .unset, .unset, .unset] [(.int (3 : Int32)), (.int ((vd.toUInt32 >>> ((2 : Int32) &&& 31).toUInt32).toInt32))])) (fun _ k => XS.iconst XJ.here hx rfl (hb hby at_48) k) ?_
      refine OwnFin.adv (B := TJ.setTop (mkF m 50 #[.val (.int va), .val (.int vb), .val (.int vc), .val (.int vn), .val (.int vd), .val (.int (vn &&& (3 : Int32))), .val (.ref r1), .val (.int a2), .unset, .unset, .unset, .unset] [(.int (((vd.toUInt32 >>> ((2 : Int32) &&& 31).toUInt32).toInt32) &&& (3 : Int32)))])) (fun _ k => XS.iand XJ.here hx rfl (hb hby at_49) rfl k) ?_
      exact J50 (((vd.toUInt32 >>> ((2 : Int32) &&& 31).toUInt32).toInt32) &&& (3 : Int32)) TJ _ XJ eJ NJ
    ·
      refine OwnFin.adv (B := TJ.setTop (mkF m 39 #[.val (.int va), .val (.int vb), .val (.int vc), .val (.int vn), .val (.int vd), .val (.int (vn &&& (3 : Int32))), .val (.ref r1), .val (.int a2), .unset, .unset, .unset, .unset] [])) (fun _ k => XS.ifNo XJ.here hx rfl (hb hby at_36) rfl ((if0 _ _).trans (feq hc36).1) k) ?_
      refine OwnFin.adv (B := TJ.setTop (mkF m 41 #[.val (.int va), .val (.int vb), .val (.int vc), .val (.int vn), .val (.int vd), .val (.int (vn &&& (3 : Int32))), .val (.ref r1), .val (.int a2), .unset, .unset, .unset, .unset] [(.int (vn &&& (3 : Int32)))])) (fun _ k => XS.iload XJ.here hx rfl (hb hby at_39) rfl k) ?_
      refine OwnFin.adv (B := TJ.setTop (mkF m 50 #[.val (.int va), .val (.int vb), .val (.int vc), .val (.int vn), .val (.int vd), .val (.int (vn &&& (3 : Int32))), .val (.ref r1), .val (.int a2), .unset, .unset, .unset, .unset] [(.int (vn &&& (3 : Int32)))])) (fun _ k => XS.goto XJ.here hx rfl (pc0 := 41) (pc' := 50) rfl (hb hby at_41) (by decide) (by decide) k) ?_
      exact J50 (vn &&& (3 : Int32)) TJ _ XJ eJ NJ
  by_cases hc19 : (vd &&& (1 : Int32)) = (0 : Int32)
  ·
    refine OwnFin.adv (B := T1.setTop (mkF m 26 #[.val (.int va), .val (.int vb), .val (.int vc), .val (.int vn), .val (.int vd), .val (.int (vn &&& (3 : Int32))), .val (.ref r1), .unset, .unset, .unset, .unset, .unset] [])) (fun _ k => XS.ifYes Xr1.here hx rfl (pc0 := 19) (pc' := 26) rfl (hb hby at_19) rfl ((if0 _ _).trans (teq hc19).1) (by decide) (by decide) k) ?_
    refine OwnFin.adv (B := T1.setTop (mkF m 28 #[.val (.int va), .val (.int vb), .val (.int vc), .val (.int vn), .val (.int vd), .val (.int (vn &&& (3 : Int32))), .val (.ref r1), .unset, .unset, .unset, .unset, .unset] [(.int vd)])) (fun _ k => XS.iload Xr1.here hx rfl (hb hby at_26) rfl k) ?_
    refine OwnFin.adv (B := T1.setTop (mkF m 29 #[.val (.int va), .val (.int vb), .val (.int vc), .val (.int vn), .val (.int vd), .val (.int (vn &&& (3 : Int32))), .val (.ref r1), .unset, .unset, .unset, .unset, .unset] [(.int (4 : Int32)), (.int vd)])) (fun _ k => XS.iconst Xr1.here hx rfl (hb hby at_28) k) ?_
    refine OwnFin.adv (B := T1.setTop (mkF m 30 #[.val (.int va), .val (.int vb), .val (.int vc), .val (.int vn), .val (.int vd), .val (.int (vn &&& (3 : Int32))), .val (.ref r1), .unset, .unset, .unset, .unset, .unset] [(.int ((vd.toUInt32 >>> ((4 : Int32) &&& 31).toUInt32).toInt32))])) (fun _ k => XS.iushr Xr1.here hx rfl (hb hby at_29) rfl k) ?_
    exact J30 ((vd.toUInt32 >>> ((4 : Int32) &&& 31).toUInt32).toInt32) T1 _ Xr1 rfl N1
  ·
    refine OwnFin.adv (B := T1.setTop (mkF m 22 #[.val (.int va), .val (.int vb), .val (.int vc), .val (.int vn), .val (.int vd), .val (.int (vn &&& (3 : Int32))), .val (.ref r1), .unset, .unset, .unset, .unset, .unset] [])) (fun _ k => XS.ifNo Xr1.here hx rfl (hb hby at_19) rfl ((if0 _ _).trans (feq hc19).1) k) ?_
    refine OwnFin.adv (B := T1.setTop (mkF m 23 #[.val (.int va), .val (.int vb), .val (.int vc), .val (.int vn), .val (.int vd), .val (.int (vn &&& (3 : Int32))), .val (.ref r1), .unset, .unset, .unset, .unset, .unset] [(.int va)])) (fun _ k => XS.iloadN Xr1.here hx rfl (hb hby at_22) rfl k) ?_
    refine OwnFin.adv (B := T1.setTop (mkF m 30 #[.val (.int va), .val (.int vb), .val (.int vc), .val (.int vn), .val (.int vd), .val (.int (vn &&& (3 : Int32))), .val (.ref r1), .unset, .unset, .unset, .unset, .unset] [(.int va)])) (fun _ k => XS.goto Xr1.here hx rfl (pc0 := 23) (pc' := 30) rfl (hb hby at_23) (by decide) (by decide) k) ?_
    exact J30 va T1 _ Xr1 rfl N1
theorem own_sub' : ∀ p ∈ own_EL, p ∈ consts_1 := by decide
set_option maxRecDepth 65536 in
set_option maxHeartbeats 40000000 in
theorem own_comes {Post : Tables → Env → Array Value → State → Outcome → State → Prop} (hpost : ∀ tb e args s v u, (limb_1_1.after args s (.returned v) u = true ∧ limb_1_2.after args s (.returned v) u = true ∧ True) → ReturnedEndW s (.returned v) u (Jvm.fieldLocs frame_1_writes args s ++ Jvm.arrayLocs frame_1_arrays args s ++ Jvm.staticLocs frame_1_statics s) 48 5376 → Post tb e args s (.returned v) u) :
    ArmFor flags0 classFile x code maxLocals ret World_1 tables_1 room_1 Calls_1 rest_1 Pre_1 Post := by
  intro l hfl _ _ p e ha hc hk s m args below hf hA hF happ hP
  obtain ⟨hcalls, hrest, hpre⟩ := hP
  obtain ⟨-, -, -, hnamed, -, -, -, hat⟩ := (Spec.applies_iff hf).mp happ
  obtain ⟨hg, hn⟩ := and_e (Cond.before_iff.mp (show (Jvm.Cond.and given_1 narrow_1).before args s = true from hpre))
  obtain ⟨u1, u2⟩ := and_e hg
  obtain ⟨u3, u4⟩ := and_e u2
  obtain ⟨u5, u6⟩ := and_e u4
  obtain ⟨u7, u8⟩ := and_e u6
  obtain ⟨u9, u10⟩ := and_e u8
  obtain ⟨u11, u12⟩ := and_e hn
  obtain ⟨u13, u14⟩ := and_e u12
  obtain ⟨u15, u16⟩ := and_e u14
  obtain ⟨u17, u18⟩ := and_e u16
  obtain ⟨u19, u20⟩ := and_e u18
  obtain ⟨w0, w1, w2, w3, w4, rfl⟩ : ∃ w0 w1 w2 w3 w4 : Value, args = #[w0, w1, w2, w3, w4] := by
    have hs : args.size = 5 := by simpa [Cond.value, given_1] using u1
    obtain ⟨L⟩ := args
    match L, hs with
    | [w0, w1, w2, w3, w4], _ => exact ⟨w0, w1, w2, w3, w4, rfl⟩
  have hw := fun d (hd : d ∈ tables_1) => atoms_spec (ws := Jvm.Cond.code x code maxLocals ret :: tables_1) hat d (List.mem_cons_of_mem _ hd)
  have hfit : Fit s := fun {y c} hc i hi => by
    obtain ⟨ha, rfl⟩ := Array.getElem?_eq_some_iff.mp hc
    have q := List.all_eq_true.mp ((Array.all_eq_true_iff_forall_mem.mp hF) _ (Array.getElem_mem ha)) i (List.mem_range.mpr hi)
    simpa [Array.getElem?_eq_getElem hi] using q
  obtain ⟨hsets, hown0⟩ := atoms_of _ (rest_1_c_eq ▸ (show rest_1_c.before _ s = true from hrest))
  have hr0 := Cond.before_iff.mp hown0
  obtain ⟨i0, ei0⟩ := is_v u3
  obtain rfl : w0 = (.int i0) := Option.some.inj ei0
  obtain ⟨i1, ei1⟩ := is_v u5
  obtain rfl : w1 = (.int i1) := Option.some.inj ei1
  obtain ⟨i2, ei2⟩ := is_v u7
  obtain rfl : w2 = (.int i2) := Option.some.inj ei2
  obtain ⟨i3, ei3⟩ := is_v u9
  obtain rfl : w3 = (.int i3) := Option.some.inj ei3
  obtain ⟨i4, ei4⟩ := is_v u10
  obtain rfl : w4 = (.int i4) := Option.some.inj ei4
  obtain ⟨zc, ezc⟩ := is_v (Cond.before_iff.mp (hsets _ (List.mem_of_getElem? (i := 1) rfl)))
  have SCS := Sta.start ezc (Or.inl (hsets _ (List.mem_of_getElem? (i := 0) rfl)))
  have hzc : ¬ zc = 0 := fun q => by
    have h := not_v (Cond.before_iff.mp (hsets _ (List.mem_of_getElem? (i := 2) rfl)))
    rw [Cond.eq_ints ezc (Term.int_eval _), q] at h
    simp at h
  obtain ⟨fm, efm, rfm⟩ := isR_v (Cond.before_iff.mp (hsets _ (List.mem_of_getElem? (i := 8) rfl)))
  have SFM := Sta.start efm (Or.inl (hsets _ (List.mem_of_getElem? (i := 7) rfl)))
  obtain ⟨kp, ev_kp⟩ := exa_v u11
  have E_kp := Exa.start ev_kp u11
  have S_kp := Sta.start ev_kp (Or.inr ⟨(hw _ (List.mem_of_getElem? (i := 44) rfl)), (hw _ (List.mem_of_getElem? (i := 45) rfl))⟩)
  obtain ⟨kt, ev_kt⟩ := exa_v u15
  have E_kt := Exa.start ev_kt u15
  have S_kt := Sta.start ev_kt (Or.inr ⟨(hw _ (List.mem_of_getElem? (i := 44) rfl)), (hw _ (List.mem_of_getElem? (i := 246) rfl))⟩)
  obtain ⟨ks, ev_ks⟩ := exa_v u19
  have E_ks := Exa.start ev_ks u19
  have S_ks := Sta.start ev_ks (Or.inr ⟨(hw _ (List.mem_of_getElem? (i := 44) rfl)), (hw _ (List.mem_of_getElem? (i := 251) rfl))⟩)
  have Fo_kp := own_fldI ev_kp u13
  have Fo_kt := own_fldI ev_kt u17
  have Fo_ks := own_fldI ev_ks u20
  have ne_t : ¬ (kp = kt) := Fld.ne Fo_kp Fo_kt (by decide)
  have ne_s : ¬ (kp = ks) := Fld.ne Fo_kp Fo_ks (by decide)
  have CH0 : CHv s own_EL s.vm s.heap := CHv.start (own_EW hw) (fun p hp => hcalls.1 p (own_sub' p hp)) (hsets _ (List.mem_of_getElem? (i := 2) rfl)) (hw _ (List.mem_of_getElem? (i := 23) rfl)) (hw _ (List.mem_of_getElem? (i := 6) rfl))
  obtain ⟨n, o, h1, h2, h3, _, L, rfl, ⟨rfl, N⟩, hq⟩ := own_rm0 l s _ hw tables_1 i0 i1 i2 i3 i4 zc fm kp kt ks s.heap s.heap.size (Nat.le_refl _) (Old.start s) SCS hzc SFM rfm S_kp S_kt S_ks E_kp E_kt E_ks Fo_kp ne_t ne_s p e ha hc hk s m _ below hf ((Spec.applies_iff_loose hf).mp happ).1 ⟨rfl, State.Warmed39.refl s, rfl, CH0⟩ trivial
  refine ⟨n, _, h1, h2, h3, hpost _ _ _ _ _ _ ⟨Cond.after_iff.mpr rfl, Cond.after_iff.mpr (eq_i res_at (Term.int_eval (1)) rfl), trivial⟩ ⟨hq.1, hq.2.1, hq.2.2.1, (hq.2.2.2.sift fun y hy => Or.inr (N y hy)).mono (by decide) (by decide)⟩⟩
theorem main_1_1 : Claimed_1_1 := own_comes fun _ _ _ _ _ _ h hF => ⟨h.1, hF⟩
theorem main_1_2 : Claimed_1_2 := own_comes fun _ _ _ _ _ _ h hF => ⟨h.2.1, hF⟩
end Jvm.Pilot.@@N@@
namespace Jvm.Pilot.@@N@@
open Jvm Jvm.ClassFile Sem Op Lib Jvm.Free Jvm.Stand Jvm.Pilot.@@N@@.Jvm.D
/-! MADE BY PROGRAM (witnessworld.py) out of the Statement's table words and the real class files: 29 classes; the members and pool entries that the words name. The judged class is class 1, her method 3. -/
namespace start1
open Jvm.ClassFile
def u (s : String) : CpInfo := .utf8 (stringToUtf16 s)
/-- a pool by its gaps: so many unusable entries, then the entry; so many at the end -/
def gap : Nat → List CpInfo → List CpInfo
  | 0, r => r
  | n + 1, r => .unusable :: gap n r
def poolList (es : List (Nat × CpInfo)) (last : Nat) : List CpInfo := es.foldr (fun e r => gap e.1 (e.2 :: r)) (gap last [])
def pool (es : List (Nat × CpInfo)) (last : Nat) : Array CpInfo := ⟨poolList es last⟩
def fileOf (pool : Array CpInfo) (this : Nat) (attrs : Array Attribute := #[]) (ms : Array MethodInfo := #[]) (fl : Nat := 33) (sup : Nat := 0) (ifs : Array Nat := #[]) (fds : Array FieldInfo := #[]) : ClassFile where
  minorVersion := 0
  majorVersion := 65
  constantPool := pool
  accessFlags := fl
  thisClass := this
  superClass := sup
  interfaces := ifs
  fields := fds
  methods := ms
  attributes := attrs
def plain (name : String) (sup : Option ClassId) : Class where
  name := name
  kind := .ordinary
  loader := none
  accessFlags := 33
  super := sup
  interfaces := #[]
  cf := none
  fields := #[]
  methods := #[]
  instanceTypes := #[]
  staticTypes := #[]
  resolved := #[]
  callSites := []
  init := .initialized
  statics := none
  mirror := none

def pool0 : Array CpInfo := pool [(5, u "<init>"), (0, u "()V"), (1, .class_ 10), (1, u "java/lang/Object")] 113

def k0c0 : Code := { maxStack := 0, maxLocals := 1, code := object_method_1_code, exceptionTable := #[], attributes := #[] }
def k0m0 : Method := { name := "<init>", desc := "()V", sig := { parameters := [], returnType := none }, accessFlags := 1, code := some k0c0 }
/-- java/lang/Object -/
def k0 : Class := { plain "java/lang/Object" none with
  accessFlags := 33
  interfaces := #[]
  cf := some (fileOf pool0 8 #[] #[{ accessFlags := 1, nameIndex := 5, descriptorIndex := 6, attributes := #[] }] 33 0 #[] #[])
  fields := #[]
  methods := #[k0m0]
  instanceTypes := #[]
  staticTypes := #[]
  resolved := Array.replicate 124 none
  statics := none }

def pool1 : Array CpInfo := pool [(2, .class_ 4), (1, u "java/lang/Object"), (0, u "<init>"), (0, u "()V"), (0, .class_ 8), (0, u "java/lang/String"), (0, .methodref 7 10), (0, .nameAndType 5 11), (0, u "([C)V"), (0, .methodref 7 13), (0, .nameAndType 14 15), (0, u "length"), (0, u "()I"), (0, .methodref 7 17), (0, .nameAndType 18 19), (0, u "charAt"), (0, u "(I)C"), (0, .methodref 21 22), (0, .class_ 23), (0, .nameAndType 24 25), (0, u "com/example/raccordo/raccordo/sql/SqlTokenParameterPinLaw"), (0, u "mk"), (0, u "(IIII)Ljava/lang/String;"), (0, .methodref 27 28), (0, .class_ 29), (0, .nameAndType 30 31), (0, u "com/example/raccordo/raccordo/sql/SqlToken"), (0, u "parameter"), (0, u "(Ljava/lang/String;)Lcom/example/raccordo/raccordo/sql/SqlToken;"), (0, .methodref 27 33), (0, .nameAndType 34 35), (0, u "kind"), (0, u "()Lcom/example/raccordo/raccordo/sql/SqlToken$Kind;"), (0, .fieldref 37 38), (0, .class_ 39), (0, .nameAndType 40 41), (0, u "com/example/raccordo/raccordo/sql/SqlToken$Kind"), (0, u "PARAMETER"), (0, u "Lcom/example/raccordo/raccordo/sql/SqlToken$Kind;"), (0, .methodref 27 43), (0, .nameAndType 44 45), (0, u "content"), (0, u "()Ljava/lang/String;"), (0, .methodref 7 47), (0, .nameAndType 48 49), (0, u "equals"), (0, u "(Ljava/lang/Object;)Z"), (0, .methodref 27 51), (0, .nameAndType 52 45), (0, u "toString"), (0, .methodref 21 54), (0, .nameAndType 55 56), (0, u "shape"), (0, u "(Ljava/lang/String;Ljava/lang/String;)Z"), (0, .methodref 27 47), (0, .methodref 27 59), (0, .nameAndType 60 31), (0, u "text"), (0, .methodref 27 62), (0, .nameAndType 63 31), (0, u "substitution"), (3, u "law"), (0, u "(IIIII)Z")] 4

def k1m0 : Method := { name := "<init>", desc := "()V", sig := { parameters := [], returnType := none }, accessFlags := 1, code := none }
def k1c1 : Code := { maxStack := 3, maxLocals := 8, code := method_2_code, exceptionTable := #[], attributes := #[] }
def k1m1 : Method := { name := "mk", desc := "(IIII)Ljava/lang/String;", sig := { parameters := [.int, .int, .int, .int], returnType := some (.object "java/lang/String") }, accessFlags := 10, code := some k1c1 }
def k1c2 : Code := { maxStack := 3, maxLocals := 3, code := method_3_code, exceptionTable := #[], attributes := #[] }
def k1m2 : Method := { name := "shape", desc := "(Ljava/lang/String;Ljava/lang/String;)Z", sig := { parameters := [(.object "java/lang/String"), (.object "java/lang/String")], returnType := some .boolean }, accessFlags := 10, code := some k1c2 }
def k1c3 : Code := { maxStack := 4, maxLocals := 12, code := code, exceptionTable := #[], attributes := #[] }
def k1m3 : Method := { name := "law", desc := "(IIIII)Z", sig := { parameters := [.int, .int, .int, .int, .int], returnType := some .boolean }, accessFlags := 9, code := some k1c3 }
/-- com/example/raccordo/raccordo/sql/SqlTokenParameterPinLaw -/
def k1 : Class := { plain "com/example/raccordo/raccordo/sql/SqlTokenParameterPinLaw" (some 0) with
  accessFlags := 49
  interfaces := #[]
  cf := some (fileOf pool1 21 #[] #[{ accessFlags := 1, nameIndex := 5, descriptorIndex := 6, attributes := #[] }, { accessFlags := 10, nameIndex := 24, descriptorIndex := 25, attributes := #[] }, { accessFlags := 10, nameIndex := 55, descriptorIndex := 56, attributes := #[] }, { accessFlags := 9, nameIndex := 67, descriptorIndex := 68, attributes := #[] }] 49 2 #[] #[])
  fields := #[]
  methods := #[k1m0, k1m1, k1m2, k1m3]
  instanceTypes := #[]
  staticTypes := #[]
  resolved := Array.replicate 73 none
  statics := none }

def pool2 : Array CpInfo := pool [(1, .class_ 2), (0, u "java/io/Serializable"), (0, .class_ 4), (0, u "java/lang/Object")] 2

/-- java/io/Serializable -/
def k2 : Class := { plain "java/io/Serializable" (some 0) with
  accessFlags := 1537
  interfaces := #[]
  cf := some (fileOf pool2 1 #[] #[] 1537 3 #[] #[])
  fields := #[]
  methods := #[]
  instanceTypes := #[]
  staticTypes := #[]
  resolved := Array.replicate 7 none
  statics := none }

def pool3 : Array CpInfo := pool [(1, .class_ 2), (0, u "java/lang/Comparable"), (0, .class_ 4), (0, u "java/lang/Object")] 7

/-- java/lang/Comparable -/
def k3 : Class := { plain "java/lang/Comparable" (some 0) with
  accessFlags := 1537
  interfaces := #[]
  cf := some (fileOf pool3 1 #[] #[] 1537 3 #[] #[])
  fields := #[]
  methods := #[]
  instanceTypes := #[]
  staticTypes := #[]
  resolved := Array.replicate 12 none
  statics := none }

def pool4 : Array CpInfo := pool [(2, .class_ 4), (1, u "java/lang/CharSequence"), (42, .class_ 48), (0, u "java/lang/CharSequence$1CodePointIterator"), (10, .class_ 60), (0, u "java/lang/CharSequence$1CharIterator"), (5, .class_ 67), (0, u "java/lang/Object")] 63

/-- java/lang/CharSequence -/
def k4 : Class := { plain "java/lang/CharSequence" (some 0) with
  accessFlags := 1537
  interfaces := #[]
  cf := some (fileOf pool4 2 #[.nestMembers #[47, 59]] #[] 1537 66 #[] #[])
  fields := #[]
  methods := #[]
  instanceTypes := #[]
  staticTypes := #[]
  resolved := Array.replicate 131 none
  statics := none }

def pool5 : Array CpInfo := pool [(1, .class_ 2), (0, u "java/lang/constant/Constable"), (0, .class_ 4), (0, u "java/lang/Object")] 6

/-- java/lang/constant/Constable -/
def k5 : Class := { plain "java/lang/constant/Constable" (some 0) with
  accessFlags := 1537
  interfaces := #[]
  cf := some (fileOf pool5 1 #[] #[] 1537 3 #[] #[])
  fields := #[]
  methods := #[]
  instanceTypes := #[]
  staticTypes := #[]
  resolved := Array.replicate 11 none
  statics := none }

def pool6 : Array CpInfo := pool [(1, .class_ 2), (0, u "java/lang/constant/ConstantDesc"), (0, .class_ 4), (0, u "java/lang/Object")] 32

/-- java/lang/constant/ConstantDesc -/
def k6 : Class := { plain "java/lang/constant/ConstantDesc" (some 0) with
  accessFlags := 1537
  interfaces := #[]
  cf := some (fileOf pool6 1 #[] #[] 1537 3 #[] #[])
  fields := #[]
  methods := #[]
  instanceTypes := #[]
  staticTypes := #[]
  resolved := Array.replicate 37 none
  statics := none }

def pool7 : Array CpInfo := pool [(1, .methodref 2 3), (0, .class_ 4), (0, .nameAndType 5 6), (0, u "java/lang/Object"), (0, u "<init>"), (0, u "()V"), (0, .string 8), (0, u ""), (0, .fieldref 10 11), (0, .class_ 12), (0, .nameAndType 13 14), (0, u "java/lang/String"), (0, u "value"), (0, u "[B"), (0, .fieldref 10 16), (0, .nameAndType 17 18), (0, u "coder"), (0, u "B"), (2, u "hash"), (0, u "I"), (2, u "hashIsZero"), (0, u "Z"), (0, .methodref 10 28), (0, .nameAndType 5 29), (0, u "([CIILjava/lang/Void;)V"), (8, .fieldref 10 39), (0, .nameAndType 40 26), (0, u "COMPACT_STRINGS"), (1, .class_ 44), (1, u "java/lang/StringUTF16"), (0, u "compress"), (1, .methodref 42 48), (0, .nameAndType 49 50), (0, u "coderFromArrayLen"), (0, u "([BI)B"), (3, .methodref 55 56), (0, .class_ 57), (0, .nameAndType 58 59), (0, u "java/util/Arrays"), (0, u "copyOfRange"), (0, u "([BII)[B"), (47, .class_ 109), (1, u "java/lang/StringLatin1"), (32, u "()Z"), (34, .methodref 42 178), (0, .nameAndType 45 179), (0, u "([CII)[B"), (13, .class_ 195), (1, u "java/lang/System"), (16, .methodref 193 213), (0, .nameAndType 214 215), (0, u "arraycopy"), (0, u "(Ljava/lang/Object;ILjava/lang/Object;II)V"), (118, u "()I"), (0, .methodref 10 336), (0, .nameAndType 17 337), (0, u "()B"), (2, u "()[B"), (22, u "([BI)C"), (27, u "(II)V"), (35, u "(I)C"), (61, .methodref 10 490), (0, .nameAndType 5 491), (0, u "(Ljava/lang/AbstractStringBuilder;Ljava/lang/Void;)V"), (0, .methodref 10 493), (0, .nameAndType 494 142), (0, u "isLatin1"), (0, .methodref 107 496), (0, .nameAndType 497 363), (0, u "charAt"), (3, u "checkIndex"), (4, .nameAndType 507 334), (0, u "length"), (24, u "getBytes"), (8, .methodref 107 542), (0, .nameAndType 543 544), (0, u "equals"), (0, u "([B[B)Z"), (4, .methodref 550 506), (0, .class_ 551), (0, u "java/lang/AbstractStringBuilder"), (0, .methodref 550 553), (0, .nameAndType 554 340), (0, u "getValue"), (18, u "(Ljava/lang/Object;)Z"), (1, .class_ 576), (0, u "java/lang/CharSequence"), (22, u "CASE_INSENSITIVE_ORDER"), (0, u "Ljava/util/Comparator;"), (220, u "([BIB)V"), (188, u "([C)V"), (36, .methodref 550 493), (5, .fieldref 1054 1055), (0, .class_ 1056), (0, .nameAndType 1057 1058), (0, u "jdk/internal/util/Preconditions"), (0, u "SIOOBE_FORMATTER"), (0, u "Ljava/util/function/BiFunction;"), (0, .methodref 1054 1060), (0, .nameAndType 501 1061), (0, u "(IILjava/util/function/BiFunction;)I"), (39, u "serialPersistentFields"), (0, u "[Ljava/io/ObjectStreamField;"), (0, .class_ 1104), (0, u "java/lang/String$CaseInsensitiveComparator"), (1, .class_ 1107), (0, u "java/io/Serializable"), (0, .class_ 1109), (0, u "java/lang/Comparable"), (0, .class_ 1111), (0, u "java/lang/constant/Constable"), (0, .class_ 1113), (0, u "java/lang/constant/ConstantDesc"), (2, u "serialVersionUID"), (0, u "J"), (3, u "REPL"), (0, u "C"), (2, u "LATIN1"), (1, u "UTF16"), (105, u "(Ljava/lang/StringBuilder;)V")] 217

def k7m0 : Method := { name := "<init>", desc := "()V", sig := { parameters := [], returnType := none }, accessFlags := 1, code := none }
def k7c1 : Code := { maxStack := 5, maxLocals := 2, code := jdk_42_method_3_code, exceptionTable := #[], attributes := #[] }
def k7m1 : Method := { name := "<init>", desc := "([C)V", sig := { parameters := [(.array .char)], returnType := none }, accessFlags := 1, code := some k7c1 }
def k7c2 : Code := { maxStack := 3, maxLocals := 2, code := jdk_42_method_53_code, exceptionTable := #[], attributes := #[] }
def k7m2 : Method := { name := "<init>", desc := "(Ljava/lang/StringBuilder;)V", sig := { parameters := [(.object "java/lang/StringBuilder")], returnType := none }, accessFlags := 1, code := some k7c2 }
def k7c3 : Code := { maxStack := 2, maxLocals := 1, code := jdk_42_method_54_code, exceptionTable := #[], attributes := #[] }
def k7m3 : Method := { name := "length", desc := "()I", sig := { parameters := [], returnType := some .int }, accessFlags := 1, code := some k7c3 }
def k7c4 : Code := { maxStack := 2, maxLocals := 2, code := jdk_42_method_56_code, exceptionTable := #[], attributes := #[] }
def k7m4 : Method := { name := "charAt", desc := "(I)C", sig := { parameters := [.int], returnType := some .char }, accessFlags := 1, code := some k7c4 }
def k7c5 : Code := { maxStack := 2, maxLocals := 3, code := jdk_42_method_66_code, exceptionTable := #[], attributes := #[] }
def k7m5 : Method := { name := "equals", desc := "(Ljava/lang/Object;)Z", sig := { parameters := [(.object "java/lang/Object")], returnType := some .boolean }, accessFlags := 1, code := some k7c5 }
def k7c6 : Code := { maxStack := 5, maxLocals := 4, code := jdk_42_method_147_code, exceptionTable := #[], attributes := #[] }
def k7m6 : Method := { name := "getBytes", desc := "([BIB)V", sig := { parameters := [(.array .byte), .int, .byte], returnType := none }, accessFlags := 0, code := some k7c6 }
def k7c7 : Code := { maxStack := 4, maxLocals := 6, code := jdk_42_method_149_code, exceptionTable := #[], attributes := #[] }
def k7m7 : Method := { name := "<init>", desc := "([CIILjava/lang/Void;)V", sig := { parameters := [(.array .char), .int, .int, (.object "java/lang/Void")], returnType := none }, accessFlags := 2, code := some k7c7 }
def k7c8 : Code := { maxStack := 5, maxLocals := 5, code := jdk_42_method_150_code, exceptionTable := #[], attributes := #[] }
def k7m8 : Method := { name := "<init>", desc := "(Ljava/lang/AbstractStringBuilder;Ljava/lang/Void;)V", sig := { parameters := [(.object "java/lang/AbstractStringBuilder"), (.object "java/lang/Void")], returnType := none }, accessFlags := 0, code := some k7c8 }
def k7c9 : Code := { maxStack := 1, maxLocals := 1, code := jdk_42_method_152_code, exceptionTable := #[], attributes := #[] }
def k7m9 : Method := { name := "coder", desc := "()B", sig := { parameters := [], returnType := some .byte }, accessFlags := 0, code := some k7c9 }
def k7c10 : Code := { maxStack := 1, maxLocals := 1, code := jdk_42_method_154_code, exceptionTable := #[], attributes := #[] }
def k7m10 : Method := { name := "isLatin1", desc := "()Z", sig := { parameters := [], returnType := some .boolean }, accessFlags := 0, code := some k7c10 }
def k7c11 : Code := { maxStack := 3, maxLocals := 2, code := jdk_42_method_155_code, exceptionTable := #[], attributes := #[] }
def k7m11 : Method := { name := "checkIndex", desc := "(II)V", sig := { parameters := [.int, .int], returnType := none }, accessFlags := 8, code := some k7c11 }
/-- java/lang/String -/
def k7 : Class := { plain "java/lang/String" (some 0) with
  accessFlags := 49
  interfaces := #[2, 3, 4, 5, 6]
  cf := some (fileOf pool7 10 #[.nestMembers #[1103]] #[{ accessFlags := 1, nameIndex := 5, descriptorIndex := 6, attributes := #[] }, { accessFlags := 1, nameIndex := 5, descriptorIndex := 1010, attributes := #[] }, { accessFlags := 1, nameIndex := 5, descriptorIndex := 1233, attributes := #[] }, { accessFlags := 1, nameIndex := 507, descriptorIndex := 334, attributes := #[] }, { accessFlags := 1, nameIndex := 497, descriptorIndex := 427, attributes := #[] }, { accessFlags := 1, nameIndex := 543, descriptorIndex := 573, attributes := #[] }, { accessFlags := 0, nameIndex := 532, descriptorIndex := 821, attributes := #[] }, { accessFlags := 2, nameIndex := 5, descriptorIndex := 29, attributes := #[] }, { accessFlags := 0, nameIndex := 5, descriptorIndex := 491, attributes := #[] }, { accessFlags := 0, nameIndex := 17, descriptorIndex := 337, attributes := #[] }, { accessFlags := 0, nameIndex := 494, descriptorIndex := 142, attributes := #[] }, { accessFlags := 8, nameIndex := 501, descriptorIndex := 391, attributes := #[] }] 49 2 #[1106, 1108, 575, 1110, 1112] #[{ accessFlags := 18, nameIndex := 13, descriptorIndex := 14, attributes := #[] }, { accessFlags := 18, nameIndex := 17, descriptorIndex := 18, attributes := #[] }, { accessFlags := 2, nameIndex := 21, descriptorIndex := 22, attributes := #[] }, { accessFlags := 2, nameIndex := 25, descriptorIndex := 26, attributes := #[] }, { accessFlags := 26, nameIndex := 1116, descriptorIndex := 1117, attributes := #[] }, { accessFlags := 24, nameIndex := 40, descriptorIndex := 26, attributes := #[] }, { accessFlags := 26, nameIndex := 1101, descriptorIndex := 1102, attributes := #[] }, { accessFlags := 26, nameIndex := 1121, descriptorIndex := 1122, attributes := #[] }, { accessFlags := 25, nameIndex := 599, descriptorIndex := 600, attributes := #[] }, { accessFlags := 24, nameIndex := 1125, descriptorIndex := 18, attributes := #[] }, { accessFlags := 24, nameIndex := 1127, descriptorIndex := 18, attributes := #[] }])
  fields := #[{ name := "value", type := (.array .byte), accessFlags := 18, slot := 0, constantValue := 0 }, { name := "coder", type := .byte, accessFlags := 18, slot := 1, constantValue := 0 }, { name := "hash", type := .int, accessFlags := 2, slot := 2, constantValue := 0 }, { name := "hashIsZero", type := .boolean, accessFlags := 2, slot := 3, constantValue := 0 }, { name := "serialVersionUID", type := .long, accessFlags := 26, slot := 0, constantValue := 0 }, { name := "COMPACT_STRINGS", type := .boolean, accessFlags := 24, slot := 1, constantValue := 0 }, { name := "serialPersistentFields", type := (.array (.object "java/io/ObjectStreamField")), accessFlags := 26, slot := 2, constantValue := 0 }, { name := "REPL", type := .char, accessFlags := 26, slot := 3, constantValue := 0 }, { name := "CASE_INSENSITIVE_ORDER", type := (.object "java/util/Comparator"), accessFlags := 25, slot := 4, constantValue := 0 }, { name := "LATIN1", type := .byte, accessFlags := 24, slot := 5, constantValue := 0 }, { name := "UTF16", type := .byte, accessFlags := 24, slot := 6, constantValue := 0 }]
  methods := #[k7m0, k7m1, k7m2, k7m3, k7m4, k7m5, k7m6, k7m7, k7m8, k7m9, k7m10, k7m11]
  instanceTypes := #[(.array .byte), .byte, .int, .boolean]
  staticTypes := #[.long, .boolean, (.array (.object "java/io/ObjectStreamField")), .char, (.object "java/util/Comparator"), .byte, .byte]
  resolved := Array.replicate 1451 none
  statics := some 0 }

def pool8 : Array CpInfo := pool [(6, .class_ 8), (1, u "java/lang/Object"), (0, u "<init>"), (0, u "()V"), (1, .class_ 14), (1, u "java/lang/StringUTF16"), (31, u "$assertionsDisabled"), (0, u "Z"), (13, u "HI_BYTE_SHIFT"), (0, u "I"), (2, u "LO_BYTE_SHIFT"), (49, .methodref 12 116), (0, .nameAndType 117 118), (0, u "compress"), (0, u "([CI[BII)I"), (3, u "([CII)[B"), (138, u "coderFromArrayLen"), (0, u "([BI)B"), (106, .class_ 371), (1, u "java/lang/StringUTF16$LinesSpliterator"), (58, u "MAX_LENGTH"), (196, .class_ 628), (0, u "java/lang/StringUTF16$CodePointsSpliterator"), (0, .class_ 630), (0, u "java/lang/StringUTF16$CharsSpliterator")] 4

def k8m0 : Method := { name := "<init>", desc := "()V", sig := { parameters := [], returnType := none }, accessFlags := 0, code := none }
def k8c1 : Code := { maxStack := 2, maxLocals := 2, code := jdk_52_method_15_code, exceptionTable := #[], attributes := #[] }
def k8m1 : Method := { name := "coderFromArrayLen", desc := "([BI)B", sig := { parameters := [(.array .byte), .int], returnType := some .byte }, accessFlags := 8, code := some k8c1 }
def k8c2 : Code := { maxStack := 5, maxLocals := 6, code := jdk_52_method_16_code, exceptionTable := #[], attributes := #[] }
def k8m2 : Method := { name := "compress", desc := "([CII)[B", sig := { parameters := [(.array .char), .int, .int], returnType := some (.array .byte) }, accessFlags := 9, code := some k8c2 }
def k8c3 : Code := { maxStack := 3, maxLocals := 7, code := jdk_52_method_21_code, exceptionTable := #[], attributes := #[] }
def k8m3 : Method := { name := "compress", desc := "([CI[BII)I", sig := { parameters := [(.array .char), .int, (.array .byte), .int, .int], returnType := some .int }, accessFlags := 9, code := some k8c3 }
/-- java/lang/StringUTF16 -/
def k8 : Class := { plain "java/lang/StringUTF16" (some 0) with
  accessFlags := 48
  interfaces := #[]
  cf := some (fileOf pool8 12 #[.nestMembers #[627, 629, 369]] #[{ accessFlags := 0, nameIndex := 9, descriptorIndex := 10, attributes := #[] }, { accessFlags := 8, nameIndex := 261, descriptorIndex := 262, attributes := #[] }, { accessFlags := 9, nameIndex := 117, descriptorIndex := 122, attributes := #[] }, { accessFlags := 9, nameIndex := 117, descriptorIndex := 118, attributes := #[] }] 48 6 #[] #[{ accessFlags := 26, nameIndex := 61, descriptorIndex := 62, attributes := #[] }, { accessFlags := 26, nameIndex := 65, descriptorIndex := 62, attributes := #[] }, { accessFlags := 24, nameIndex := 430, descriptorIndex := 62, attributes := #[] }, { accessFlags := 4120, nameIndex := 46, descriptorIndex := 47, attributes := #[] }])
  fields := #[{ name := "HI_BYTE_SHIFT", type := .int, accessFlags := 26, slot := 0, constantValue := 0 }, { name := "LO_BYTE_SHIFT", type := .int, accessFlags := 26, slot := 1, constantValue := 0 }, { name := "MAX_LENGTH", type := .int, accessFlags := 24, slot := 2, constantValue := 0 }, { name := "$assertionsDisabled", type := .boolean, accessFlags := 4120, slot := 3, constantValue := 0 }]
  methods := #[k8m0, k8m1, k8m2, k8m3]
  instanceTypes := #[]
  staticTypes := #[.int, .int, .int, .boolean]
  resolved := Array.replicate 635 none
  statics := none }

def pool9 : Array CpInfo := pool [(1, .methodref 2 3), (0, .class_ 4), (0, .nameAndType 5 6), (0, u "java/lang/Object"), (0, u "<init>"), (0, u "()V"), (0, .string 8), (0, u "kind"), (0, .methodref 10 11), (0, .class_ 12), (0, .nameAndType 13 14), (0, u "java/util/Objects"), (0, u "requireNonNull"), (0, u "(Ljava/lang/Object;Ljava/lang/String;)Ljava/lang/Object;"), (0, .class_ 16), (0, u "com/example/raccordo/raccordo/sql/SqlToken$Kind"), (0, .fieldref 18 19), (0, .class_ 20), (0, .nameAndType 8 21), (0, u "com/example/raccordo/raccordo/sql/SqlToken"), (0, u "Lcom/example/raccordo/raccordo/sql/SqlToken$Kind;"), (0, .string 23), (0, u "content"), (0, .class_ 25), (0, u "java/lang/String"), (0, .fieldref 18 27), (0, .nameAndType 23 28), (0, u "Ljava/lang/String;"), (0, .fieldref 15 30), (0, .nameAndType 31 21), (0, u "TEXT"), (0, .methodref 18 33), (0, .nameAndType 5 34), (0, u "(Lcom/example/raccordo/raccordo/sql/SqlToken$Kind;Ljava/lang/String;)V"), (0, .fieldref 15 36), (0, .nameAndType 37 21), (0, u "PARAMETER"), (0, .fieldref 15 39), (0, .nameAndType 40 21), (0, u "SUBSTITUTION"), (0, .methodref 24 42), (0, .nameAndType 43 44), (0, u "equals"), (0, u "(Ljava/lang/Object;)Z"), (4, .methodref 15 50), (0, .nameAndType 51 52), (0, u "ordinal"), (0, u "()I"), (5, .class_ 59), (0, u "java/lang/StringBuilder"), (0, .methodref 58 3), (0, .string 62), (0, u "#{"), (0, .methodref 58 64), (0, .nameAndType 65 66), (0, u "append"), (0, u "(Ljava/lang/String;)Ljava/lang/StringBuilder;"), (0, .string 68), (0, u "}"), (0, .methodref 58 70), (0, .nameAndType 71 72), (0, u "toString"), (0, u "()Ljava/lang/String;"), (4, u "text"), (0, u "(Ljava/lang/String;)Lcom/example/raccordo/raccordo/sql/SqlToken;"), (0, u "parameter"), (0, u "substitution"), (0, u "()Lcom/example/raccordo/raccordo/sql/SqlToken$Kind;")] 7

def k9c0 : Code := { maxStack := 3, maxLocals := 3, code := prog_77_method_1_code, exceptionTable := #[], attributes := #[] }
def k9m0 : Method := { name := "<init>", desc := "(Lcom/example/raccordo/raccordo/sql/SqlToken$Kind;Ljava/lang/String;)V", sig := { parameters := [(.object "com/example/raccordo/raccordo/sql/SqlToken$Kind"), (.object "java/lang/String")], returnType := none }, accessFlags := 2, code := some k9c0 }
def k9c1 : Code := { maxStack := 4, maxLocals := 1, code := prog_77_method_2_code, exceptionTable := #[], attributes := #[] }
def k9m1 : Method := { name := "text", desc := "(Ljava/lang/String;)Lcom/example/raccordo/raccordo/sql/SqlToken;", sig := { parameters := [(.object "java/lang/String")], returnType := some (.object "com/example/raccordo/raccordo/sql/SqlToken") }, accessFlags := 9, code := some k9c1 }
def k9c2 : Code := { maxStack := 4, maxLocals := 1, code := prog_77_method_3_code, exceptionTable := #[], attributes := #[] }
def k9m2 : Method := { name := "parameter", desc := "(Ljava/lang/String;)Lcom/example/raccordo/raccordo/sql/SqlToken;", sig := { parameters := [(.object "java/lang/String")], returnType := some (.object "com/example/raccordo/raccordo/sql/SqlToken") }, accessFlags := 9, code := some k9c2 }
def k9c3 : Code := { maxStack := 4, maxLocals := 1, code := prog_77_method_4_code, exceptionTable := #[], attributes := #[] }
def k9m3 : Method := { name := "substitution", desc := "(Ljava/lang/String;)Lcom/example/raccordo/raccordo/sql/SqlToken;", sig := { parameters := [(.object "java/lang/String")], returnType := some (.object "com/example/raccordo/raccordo/sql/SqlToken") }, accessFlags := 9, code := some k9c3 }
def k9c4 : Code := { maxStack := 1, maxLocals := 1, code := prog_77_method_5_code, exceptionTable := #[], attributes := #[] }
def k9m4 : Method := { name := "kind", desc := "()Lcom/example/raccordo/raccordo/sql/SqlToken$Kind;", sig := { parameters := [], returnType := some (.object "com/example/raccordo/raccordo/sql/SqlToken$Kind") }, accessFlags := 1, code := some k9c4 }
def k9c5 : Code := { maxStack := 1, maxLocals := 1, code := prog_77_method_6_code, exceptionTable := #[], attributes := #[] }
def k9m5 : Method := { name := "content", desc := "()Ljava/lang/String;", sig := { parameters := [], returnType := some (.object "java/lang/String") }, accessFlags := 1, code := some k9c5 }
def k9c6 : Code := { maxStack := 2, maxLocals := 3, code := prog_77_method_7_code, exceptionTable := #[], attributes := #[] }
def k9m6 : Method := { name := "equals", desc := "(Ljava/lang/Object;)Z", sig := { parameters := [(.object "java/lang/Object")], returnType := some .boolean }, accessFlags := 1, code := some k9c6 }
def k9c7 : Code := { maxStack := 4, maxLocals := 1, code := prog_77_method_9_code, exceptionTable := #[], attributes := #[] }
def k9m7 : Method := { name := "toString", desc := "()Ljava/lang/String;", sig := { parameters := [], returnType := some (.object "java/lang/String") }, accessFlags := 1, code := some k9c7 }
/-- com/example/raccordo/raccordo/sql/SqlToken -/
def k9 : Class := { plain "com/example/raccordo/raccordo/sql/SqlToken" (some 0) with
  accessFlags := 49
  interfaces := #[]
  cf := some (fileOf pool9 18 #[.nestMembers #[15]] #[{ accessFlags := 2, nameIndex := 5, descriptorIndex := 34, attributes := #[] }, { accessFlags := 9, nameIndex := 77, descriptorIndex := 78, attributes := #[] }, { accessFlags := 9, nameIndex := 79, descriptorIndex := 78, attributes := #[] }, { accessFlags := 9, nameIndex := 80, descriptorIndex := 78, attributes := #[] }, { accessFlags := 1, nameIndex := 8, descriptorIndex := 81, attributes := #[] }, { accessFlags := 1, nameIndex := 23, descriptorIndex := 72, attributes := #[] }, { accessFlags := 1, nameIndex := 43, descriptorIndex := 44, attributes := #[] }, { accessFlags := 1, nameIndex := 71, descriptorIndex := 72, attributes := #[] }] 49 2 #[] #[{ accessFlags := 18, nameIndex := 8, descriptorIndex := 21, attributes := #[] }, { accessFlags := 18, nameIndex := 23, descriptorIndex := 28, attributes := #[] }])
  fields := #[{ name := "kind", type := (.object "com/example/raccordo/raccordo/sql/SqlToken$Kind"), accessFlags := 18, slot := 0, constantValue := 0 }, { name := "content", type := (.object "java/lang/String"), accessFlags := 18, slot := 1, constantValue := 0 }]
  methods := #[k9m0, k9m1, k9m2, k9m3, k9m4, k9m5, k9m6, k9m7]
  instanceTypes := #[(.object "com/example/raccordo/raccordo/sql/SqlToken$Kind"), (.object "java/lang/String")]
  staticTypes := #[]
  resolved := Array.replicate 89 none
  statics := none }

def pool10 : Array CpInfo := pool [(2, .class_ 4), (1, u "java/lang/Enum"), (0, u "name"), (0, u "Ljava/lang/String;"), (0, .fieldref 2 8), (0, .nameAndType 9 10), (0, u "ordinal"), (0, u "I"), (1, .class_ 14), (1, u "java/lang/Object"), (4, u "hash"), (86, .class_ 108), (1, u "java/lang/Enum$EnumDesc"), (2, .class_ 112), (0, u "java/lang/constant/Constable"), (0, .class_ 114), (0, u "java/lang/Comparable"), (0, .class_ 116), (0, u "java/io/Serializable"), (9, u "()I")] 77

def k10c0 : Code := { maxStack := 1, maxLocals := 1, code := jdk_37_method_2_code, exceptionTable := #[], attributes := #[] }
def k10m0 : Method := { name := "ordinal", desc := "()I", sig := { parameters := [], returnType := some .int }, accessFlags := 17, code := some k10c0 }
/-- java/lang/Enum -/
def k10 : Class := { plain "java/lang/Enum" (some 0) with
  accessFlags := 1057
  interfaces := #[5, 3, 2]
  cf := some (fileOf pool10 2 #[.nestMembers #[106]] #[{ accessFlags := 17, nameIndex := 9, descriptorIndex := 126, attributes := #[] }] 1057 12 #[111, 113, 115] #[{ accessFlags := 18, nameIndex := 5, descriptorIndex := 6, attributes := #[] }, { accessFlags := 18, nameIndex := 9, descriptorIndex := 10, attributes := #[] }, { accessFlags := 2, nameIndex := 19, descriptorIndex := 10, attributes := #[] }])
  fields := #[{ name := "name", type := (.object "java/lang/String"), accessFlags := 18, slot := 0, constantValue := 0 }, { name := "ordinal", type := .int, accessFlags := 18, slot := 1, constantValue := 0 }, { name := "hash", type := .int, accessFlags := 2, slot := 2, constantValue := 0 }]
  methods := #[k10m0]
  instanceTypes := #[(.object "java/lang/String"), .int, .int]
  staticTypes := #[]
  resolved := Array.replicate 204 none
  statics := none }

def pool11 : Array CpInfo := pool [(1, .class_ 2), (0, u "com/example/raccordo/raccordo/sql/SqlToken$Kind"), (2, u "TEXT"), (0, u "Lcom/example/raccordo/raccordo/sql/SqlToken$Kind;"), (2, u "PARAMETER"), (2, u "SUBSTITUTION"), (2, u "$VALUES"), (0, u "[Lcom/example/raccordo/raccordo/sql/SqlToken$Kind;"), (6, .class_ 25), (1, u "java/lang/Enum"), (26, .class_ 53), (0, u "com/example/raccordo/raccordo/sql/SqlToken")] 2

/-- com/example/raccordo/raccordo/sql/SqlToken$Kind -/
def k11 : Class := { plain "com/example/raccordo/raccordo/sql/SqlToken$Kind" (some 10) with
  accessFlags := 16433
  interfaces := #[]
  cf := some (fileOf pool11 1 #[.nestHost 52] #[] 16433 23 #[] #[{ accessFlags := 16409, nameIndex := 5, descriptorIndex := 6, attributes := #[] }, { accessFlags := 16409, nameIndex := 9, descriptorIndex := 6, attributes := #[] }, { accessFlags := 16409, nameIndex := 12, descriptorIndex := 6, attributes := #[] }, { accessFlags := 4122, nameIndex := 15, descriptorIndex := 16, attributes := #[] }])
  fields := #[{ name := "TEXT", type := (.object "com/example/raccordo/raccordo/sql/SqlToken$Kind"), accessFlags := 16409, slot := 0, constantValue := 0 }, { name := "PARAMETER", type := (.object "com/example/raccordo/raccordo/sql/SqlToken$Kind"), accessFlags := 16409, slot := 1, constantValue := 0 }, { name := "SUBSTITUTION", type := (.object "com/example/raccordo/raccordo/sql/SqlToken$Kind"), accessFlags := 16409, slot := 2, constantValue := 0 }, { name := "$VALUES", type := (.array (.object "com/example/raccordo/raccordo/sql/SqlToken$Kind")), accessFlags := 4122, slot := 3, constantValue := 0 }]
  methods := #[]
  instanceTypes := #[(.object "java/lang/String"), .int, .int]
  staticTypes := #[(.object "com/example/raccordo/raccordo/sql/SqlToken$Kind"), (.object "com/example/raccordo/raccordo/sql/SqlToken$Kind"), (.object "com/example/raccordo/raccordo/sql/SqlToken$Kind"), (.array (.object "com/example/raccordo/raccordo/sql/SqlToken$Kind"))]
  resolved := Array.replicate 56 none
  statics := some 1 }

def pool12 : Array CpInfo := pool [(2, .class_ 4), (1, u "java/lang/Object"), (0, u "<init>"), (0, u "()V"), (35, .class_ 44), (1, u "java/util/Objects"), (0, u "requireNonNull"), (48, u "(Ljava/lang/Object;Ljava/lang/String;)Ljava/lang/Object;")] 89

def k12m0 : Method := { name := "<init>", desc := "()V", sig := { parameters := [], returnType := none }, accessFlags := 2, code := none }
def k12c1 : Code := { maxStack := 3, maxLocals := 2, code := jdk_31_method_11_code, exceptionTable := #[], attributes := #[] }
def k12m1 : Method := { name := "requireNonNull", desc := "(Ljava/lang/Object;Ljava/lang/String;)Ljava/lang/Object;", sig := { parameters := [(.object "java/lang/Object"), (.object "java/lang/String")], returnType := some (.object "java/lang/Object") }, accessFlags := 9, code := some k12c1 }
/-- java/util/Objects -/
def k12 : Class := { plain "java/util/Objects" (some 0) with
  accessFlags := 49
  interfaces := #[]
  cf := some (fileOf pool12 42 #[] #[{ accessFlags := 2, nameIndex := 5, descriptorIndex := 6, attributes := #[] }, { accessFlags := 9, nameIndex := 45, descriptorIndex := 94, attributes := #[] }] 49 2 #[] #[])
  fields := #[]
  methods := #[k12m0, k12m1]
  instanceTypes := #[]
  staticTypes := #[]
  resolved := Array.replicate 184 none
  statics := none }

def pool13 : Array CpInfo := pool [(1, .class_ 2), (0, u "java/lang/Appendable"), (0, .class_ 4), (0, u "java/lang/Object")] 9

/-- java/lang/Appendable -/
def k13 : Class := { plain "java/lang/Appendable" (some 0) with
  accessFlags := 1537
  interfaces := #[]
  cf := some (fileOf pool13 1 #[] #[] 1537 3 #[] #[])
  fields := #[]
  methods := #[]
  instanceTypes := #[]
  staticTypes := #[]
  resolved := Array.replicate 14 none
  statics := none }

def pool14 : Array CpInfo := pool [(1, .class_ 2), (0, u "java/lang/String"), (0, .methodref 4 5), (0, .class_ 6), (0, .nameAndType 7 8), (0, u "java/lang/Object"), (0, u "<init>"), (0, u "()V"), (1, .class_ 12), (1, u "java/lang/AbstractStringBuilder"), (0, u "EMPTYVALUE"), (0, u "[B"), (0, .fieldref 10 16), (0, .nameAndType 17 14), (0, u "value"), (0, .fieldref 1 19), (0, .nameAndType 20 21), (0, u "COMPACT_STRINGS"), (0, u "Z"), (0, .fieldref 10 23), (0, .nameAndType 24 25), (0, u "coder"), (0, u "B"), (6, .methodref 1 33), (0, .nameAndType 34 35), (0, u "length"), (0, u "()I"), (4, .methodref 1 41), (0, .nameAndType 24 42), (0, u "()B"), (2, u "append"), (0, u "(Ljava/lang/String;)Ljava/lang/AbstractStringBuilder;"), (1, .class_ 49), (0, u "java/lang/CharSequence"), (19, u "(Ljava/lang/String;)V"), (5, u "maybeLatin1"), (3, .fieldref 10 80), (0, .nameAndType 81 82), (0, u "count"), (0, u "I"), (2, u "isLatin1"), (0, u "()Z"), (13, .methodref 10 101), (0, .nameAndType 102 103), (0, u "ensureCapacityInternal"), (0, u "(I)V"), (104, .methodref 10 209), (0, .nameAndType 210 211), (0, u "putStringAt"), (0, u "(ILjava/lang/String;)V"), (5, u "inflateIfNeededFor"), (2, .nameAndType 221 222), (0, u "getBytes"), (0, u "([BIB)V"), (174, .methodref 10 398), (0, .nameAndType 217 69), (0, .methodref 1 220), (3, u "()[B"), (40, .class_ 445), (0, u "java/lang/Appendable"), (106, u "getValue")] 56

def k14m0 : Method := { name := "<init>", desc := "()V", sig := { parameters := [], returnType := none }, accessFlags := 0, code := none }
def k14c1 : Code := { maxStack := 2, maxLocals := 2, code := jdk_68_method_2_code, exceptionTable := #[], attributes := #[] }
def k14m1 : Method := { name := "<init>", desc := "(I)V", sig := { parameters := [.int], returnType := none }, accessFlags := 0, code := some k14c1 }
def k14c2 : Code := { maxStack := 1, maxLocals := 1, code := jdk_68_method_6_code, exceptionTable := #[], attributes := #[] }
def k14m2 : Method := { name := "length", desc := "()I", sig := { parameters := [], returnType := some .int }, accessFlags := 1, code := some k14c2 }
def k14c3 : Code := { maxStack := 4, maxLocals := 3, code := jdk_68_method_9_code, exceptionTable := #[], attributes := #[] }
def k14m3 : Method := { name := "ensureCapacityInternal", desc := "(I)V", sig := { parameters := [.int], returnType := none }, accessFlags := 2, code := some k14c3 }
def k14c4 : Code := { maxStack := 3, maxLocals := 3, code := jdk_68_method_22_code, exceptionTable := #[], attributes := #[] }
def k14m4 : Method := { name := "append", desc := "(Ljava/lang/String;)Ljava/lang/AbstractStringBuilder;", sig := { parameters := [(.object "java/lang/String")], returnType := some (.object "java/lang/AbstractStringBuilder") }, accessFlags := 1, code := some k14c4 }
def k14c5 : Code := { maxStack := 1, maxLocals := 1, code := jdk_68_method_64_code, exceptionTable := #[], attributes := #[] }
def k14m5 : Method := { name := "getValue", desc := "()[B", sig := { parameters := [], returnType := some (.array .byte) }, accessFlags := 16, code := some k14c5 }
def k14c6 : Code := { maxStack := 1, maxLocals := 1, code := jdk_68_method_68_code, exceptionTable := #[], attributes := #[] }
def k14m6 : Method := { name := "isLatin1", desc := "()Z", sig := { parameters := [], returnType := some .boolean }, accessFlags := 16, code := some k14c6 }
def k14c7 : Code := { maxStack := 2, maxLocals := 2, code := jdk_68_method_71_code, exceptionTable := #[], attributes := #[] }
def k14m7 : Method := { name := "inflateIfNeededFor", desc := "(Ljava/lang/String;)V", sig := { parameters := [(.object "java/lang/String")], returnType := none }, accessFlags := 2, code := some k14c7 }
def k14c8 : Code := { maxStack := 4, maxLocals := 3, code := jdk_68_method_73_code, exceptionTable := #[], attributes := #[] }
def k14m8 : Method := { name := "putStringAt", desc := "(ILjava/lang/String;)V", sig := { parameters := [.int, (.object "java/lang/String")], returnType := none }, accessFlags := 2, code := some k14c8 }
/-- java/lang/AbstractStringBuilder -/
def k14 : Class := { plain "java/lang/AbstractStringBuilder" (some 0) with
  accessFlags := 1056
  interfaces := #[13, 4]
  cf := some (fileOf pool14 10 #[] #[{ accessFlags := 0, nameIndex := 7, descriptorIndex := 8, attributes := #[] }, { accessFlags := 0, nameIndex := 7, descriptorIndex := 103, attributes := #[] }, { accessFlags := 1, nameIndex := 34, descriptorIndex := 35, attributes := #[] }, { accessFlags := 2, nameIndex := 102, descriptorIndex := 103, attributes := #[] }, { accessFlags := 1, nameIndex := 45, descriptorIndex := 46, attributes := #[] }, { accessFlags := 16, nameIndex := 552, descriptorIndex := 403, attributes := #[] }, { accessFlags := 16, nameIndex := 85, descriptorIndex := 86, attributes := #[] }, { accessFlags := 2, nameIndex := 217, descriptorIndex := 69, attributes := #[] }, { accessFlags := 2, nameIndex := 210, descriptorIndex := 211, attributes := #[] }] 1056 4 #[444, 48] #[{ accessFlags := 0, nameIndex := 17, descriptorIndex := 14, attributes := #[] }, { accessFlags := 0, nameIndex := 24, descriptorIndex := 25, attributes := #[] }, { accessFlags := 0, nameIndex := 75, descriptorIndex := 21, attributes := #[] }, { accessFlags := 0, nameIndex := 81, descriptorIndex := 82, attributes := #[] }, { accessFlags := 26, nameIndex := 13, descriptorIndex := 14, attributes := #[] }])
  fields := #[{ name := "value", type := (.array .byte), accessFlags := 0, slot := 0, constantValue := 0 }, { name := "coder", type := .byte, accessFlags := 0, slot := 1, constantValue := 0 }, { name := "maybeLatin1", type := .boolean, accessFlags := 0, slot := 2, constantValue := 0 }, { name := "count", type := .int, accessFlags := 0, slot := 3, constantValue := 0 }, { name := "EMPTYVALUE", type := (.array .byte), accessFlags := 26, slot := 0, constantValue := 0 }]
  methods := #[k14m0, k14m1, k14m2, k14m3, k14m4, k14m5, k14m6, k14m7, k14m8]
  instanceTypes := #[(.array .byte), .byte, .boolean, .int]
  staticTypes := #[(.array .byte)]
  resolved := Array.replicate 609 none
  statics := none }

def pool15 : Array CpInfo := pool [(1, .methodref 2 3), (0, .class_ 4), (0, .nameAndType 5 6), (0, u "java/lang/AbstractStringBuilder"), (0, u "<init>"), (0, u "(I)V"), (11, .class_ 20), (1, u "java/lang/String"), (3, .class_ 26), (1, u "java/lang/StringBuilder"), (0, u "append"), (0, u "(Ljava/lang/String;)Ljava/lang/StringBuilder;"), (0, .methodref 2 30), (0, .nameAndType 27 31), (0, u "(Ljava/lang/String;)Ljava/lang/AbstractStringBuilder;"), (105, .methodref 18 138), (0, .nameAndType 5 139), (0, u "(Ljava/lang/StringBuilder;)V"), (5, u "()V"), (10, u "()I"), (186, .methodref 2 344), (0, .nameAndType 345 156), (0, u "length"), (3, .class_ 350), (0, u "java/lang/Appendable"), (0, .class_ 352), (0, u "java/io/Serializable"), (0, .class_ 354), (0, u "java/lang/Comparable"), (0, .class_ 356), (0, u "java/lang/CharSequence"), (0, u "serialVersionUID"), (0, u "J"), (40, u "toString"), (0, u "()Ljava/lang/String;")] 21

def k15c0 : Code := { maxStack := 2, maxLocals := 1, code := jdk_67_method_1_code, exceptionTable := #[], attributes := #[] }
def k15m0 : Method := { name := "<init>", desc := "()V", sig := { parameters := [], returnType := none }, accessFlags := 1, code := some k15c0 }
def k15c1 : Code := { maxStack := 2, maxLocals := 2, code := jdk_67_method_7_code, exceptionTable := #[], attributes := #[] }
def k15m1 : Method := { name := "append", desc := "(Ljava/lang/String;)Ljava/lang/StringBuilder;", sig := { parameters := [(.object "java/lang/String")], returnType := some (.object "java/lang/StringBuilder") }, accessFlags := 1, code := some k15c1 }
def k15c2 : Code := { maxStack := 3, maxLocals := 1, code := jdk_67_method_42_code, exceptionTable := #[], attributes := #[] }
def k15m2 : Method := { name := "toString", desc := "()Ljava/lang/String;", sig := { parameters := [], returnType := some (.object "java/lang/String") }, accessFlags := 1, code := some k15c2 }
def k15c3 : Code := { maxStack := 1, maxLocals := 1, code := jdk_67_method_93_code, exceptionTable := #[], attributes := #[] }
def k15m3 : Method := { name := "length", desc := "()I", sig := { parameters := [], returnType := some .int }, accessFlags := 4161, code := some k15c3 }
/-- java/lang/StringBuilder -/
def k15 : Class := { plain "java/lang/StringBuilder" (some 14) with
  accessFlags := 49
  interfaces := #[13, 2, 3, 4]
  cf := some (fileOf pool15 24 #[] #[{ accessFlags := 1, nameIndex := 5, descriptorIndex := 145, attributes := #[] }, { accessFlags := 1, nameIndex := 27, descriptorIndex := 28, attributes := #[] }, { accessFlags := 1, nameIndex := 399, descriptorIndex := 400, attributes := #[] }, { accessFlags := 4161, nameIndex := 345, descriptorIndex := 156, attributes := #[] }] 49 2 #[349, 351, 353, 355] #[{ accessFlags := 24, nameIndex := 357, descriptorIndex := 358, attributes := #[] }])
  fields := #[{ name := "serialVersionUID", type := .long, accessFlags := 24, slot := 0, constantValue := 0 }]
  methods := #[k15m0, k15m1, k15m2, k15m3]
  instanceTypes := #[(.array .byte), .byte, .boolean, .int]
  staticTypes := #[.long]
  resolved := Array.replicate 422 none
  statics := none }

def pool16 : Array CpInfo := pool [(2, .class_ 4), (1, u "java/lang/Object"), (0, u "<init>"), (0, u "()V"), (1, .class_ 10), (1, u "java/lang/System"), (0, u "allowSecurityManager"), (0, u "I"), (16, u "cons"), (0, u "Ljava/io/Console;"), (77, .class_ 110), (1, u "java/lang/System$CallersHolder"), (43, u "initialErrStream"), (0, u "Ljava/io/PrintStream;"), (19, u "security"), (0, u "Ljava/lang/SecurityManager;"), (31, .class_ 209), (0, u "java/lang/System$1"), (7, u "props"), (0, u "Ljava/util/Properties;"), (2, u "lineSeparator"), (0, u "Ljava/lang/String;"), (96, .class_ 321), (1, u "java/lang/System$LoggerFinder"), (5, .class_ 328), (0, u "java/lang/System$Logger"), (67, u "err"), (2, u "out"), (91, u "notSupportedJnuEncoding"), (15, u "in"), (17, u "initialIn"), (0, u "Ljava/io/InputStream;"), (35, u "bootLayer"), (0, u "Ljava/lang/ModuleLayer;"), (99, .class_ 664), (0, u "java/lang/System$2"), (9, u "NEVER"), (2, u "MAYBE"), (49, u "arraycopy"), (0, u "(Ljava/lang/Object;ILjava/lang/Object;II)V"), (72, .class_ 802), (0, u "java/lang/System$Logger$Level")] 31

def k16m0 : Method := { name := "<init>", desc := "()V", sig := { parameters := [], returnType := none }, accessFlags := 2, code := none }
def k16m1 : Method := { name := "arraycopy", desc := "(Ljava/lang/Object;ILjava/lang/Object;II)V", sig := { parameters := [(.object "java/lang/Object"), .int, (.object "java/lang/Object"), .int, .int], returnType := none }, accessFlags := 265, code := none }
/-- java/lang/System -/
def k16 : Class := { plain "java/lang/System" (some 0) with
  accessFlags := 49
  interfaces := #[]
  cf := some (fileOf pool16 8 #[.nestMembers #[319, 327, 801, 108, 663, 208]] #[{ accessFlags := 2, nameIndex := 5, descriptorIndex := 6, attributes := #[] }, { accessFlags := 265, nameIndex := 727, descriptorIndex := 728, attributes := #[] }] 49 2 #[] #[{ accessFlags := 25, nameIndex := 507, descriptorIndex := 526, attributes := #[] }, { accessFlags := 25, nameIndex := 399, descriptorIndex := 155, attributes := #[] }, { accessFlags := 25, nameIndex := 396, descriptorIndex := 155, attributes := #[] }, { accessFlags := 10, nameIndex := 525, descriptorIndex := 526, attributes := #[] }, { accessFlags := 26, nameIndex := 674, descriptorIndex := 12, attributes := #[] }, { accessFlags := 26, nameIndex := 677, descriptorIndex := 12, attributes := #[] }, { accessFlags := 10, nameIndex := 11, descriptorIndex := 12, attributes := #[] }, { accessFlags := 74, nameIndex := 175, descriptorIndex := 176, attributes := #[] }, { accessFlags := 10, nameIndex := 491, descriptorIndex := 222, attributes := #[] }, { accessFlags := 74, nameIndex := 29, descriptorIndex := 30, attributes := #[] }, { accessFlags := 74, nameIndex := 154, descriptorIndex := 155, attributes := #[] }, { accessFlags := 10, nameIndex := 217, descriptorIndex := 218, attributes := #[] }, { accessFlags := 10, nameIndex := 221, descriptorIndex := 222, attributes := #[] }, { accessFlags := 8, nameIndex := 562, descriptorIndex := 563, attributes := #[] }])
  fields := #[{ name := "in", type := (.object "java/io/InputStream"), accessFlags := 25, slot := 0, constantValue := 0 }, { name := "out", type := (.object "java/io/PrintStream"), accessFlags := 25, slot := 1, constantValue := 0 }, { name := "err", type := (.object "java/io/PrintStream"), accessFlags := 25, slot := 2, constantValue := 0 }, { name := "initialIn", type := (.object "java/io/InputStream"), accessFlags := 10, slot := 3, constantValue := 0 }, { name := "NEVER", type := .int, accessFlags := 26, slot := 4, constantValue := 0 }, { name := "MAYBE", type := .int, accessFlags := 26, slot := 5, constantValue := 0 }, { name := "allowSecurityManager", type := .int, accessFlags := 10, slot := 6, constantValue := 0 }, { name := "security", type := (.object "java/lang/SecurityManager"), accessFlags := 74, slot := 7, constantValue := 0 }, { name := "notSupportedJnuEncoding", type := (.object "java/lang/String"), accessFlags := 10, slot := 8, constantValue := 0 }, { name := "cons", type := (.object "java/io/Console"), accessFlags := 74, slot := 9, constantValue := 0 }, { name := "initialErrStream", type := (.object "java/io/PrintStream"), accessFlags := 74, slot := 10, constantValue := 0 }, { name := "props", type := (.object "java/util/Properties"), accessFlags := 10, slot := 11, constantValue := 0 }, { name := "lineSeparator", type := (.object "java/lang/String"), accessFlags := 10, slot := 12, constantValue := 0 }, { name := "bootLayer", type := (.object "java/lang/ModuleLayer"), accessFlags := 8, slot := 13, constantValue := 0 }]
  methods := #[k16m0, k16m1]
  instanceTypes := #[]
  staticTypes := #[(.object "java/io/InputStream"), (.object "java/io/PrintStream"), (.object "java/io/PrintStream"), (.object "java/io/InputStream"), .int, .int, .int, (.object "java/lang/SecurityManager"), (.object "java/lang/String"), (.object "java/io/Console"), (.object "java/io/PrintStream"), (.object "java/util/Properties"), (.object "java/lang/String"), (.object "java/lang/ModuleLayer")]
  resolved := Array.replicate 834 none
  statics := none }

def pool17 : Array CpInfo := pool [(2, .class_ 4), (1, u "java/lang/Object"), (0, u "<init>"), (0, u "()V"), (7, .class_ 16), (1, u "java/util/Arrays"), (57, .class_ 76), (1, u "java/util/Arrays$NaturalOrder"), (36, .class_ 115), (1, u "java/util/Arrays$LegacyMergeSort"), (1, u "Z"), (21, u "copyOfRange"), (10, .methodref 151 152), (0, .class_ 153), (0, .nameAndType 154 155), (0, u "java/lang/System"), (0, u "arraycopy"), (0, u "(Ljava/lang/Object;ILjava/lang/Object;II)V"), (148, .methodref 305 306), (0, .class_ 307), (0, .nameAndType 308 309), (0, u "java/lang/Math"), (0, u "min"), (0, u "(II)I"), (29, .methodref 14 340), (0, .nameAndType 341 342), (0, u "copyOfRangeByte"), (0, u "([BII)[B"), (0, .methodref 14 344), (0, .nameAndType 345 346), (0, u "checkLength"), (0, u "(II)V"), (28, .class_ 376), (0, u "java/util/Arrays$ArrayList"), (68, u "$assertionsDisabled"), (269, u "MIN_ARRAY_SORT_GRAN"), (0, u "I"), (2, u "INSERTIONSORT_THRESHOLD"), (255, .class_ 976), (0, u "java/util/Arrays$ArrayItr")] 52

def k17m0 : Method := { name := "<init>", desc := "()V", sig := { parameters := [], returnType := none }, accessFlags := 2, code := none }
def k17c1 : Code := { maxStack := 4, maxLocals := 2, code := jdk_65_method_131_code, exceptionTable := #[], attributes := #[] }
def k17m1 : Method := { name := "checkLength", desc := "(II)V", sig := { parameters := [.int, .int], returnType := none }, accessFlags := 10, code := some k17c1 }
def k17c2 : Code := { maxStack := 3, maxLocals := 3, code := jdk_65_method_132_code, exceptionTable := #[], attributes := #[] }
def k17m2 : Method := { name := "copyOfRange", desc := "([BII)[B", sig := { parameters := [(.array .byte), .int, .int], returnType := some (.array .byte) }, accessFlags := 9, code := some k17c2 }
def k17c3 : Code := { maxStack := 6, maxLocals := 5, code := jdk_65_method_133_code, exceptionTable := #[], attributes := #[] }
def k17m3 : Method := { name := "copyOfRangeByte", desc := "([BII)[B", sig := { parameters := [(.array .byte), .int, .int], returnType := some (.array .byte) }, accessFlags := 10, code := some k17c3 }
/-- java/util/Arrays -/
def k17 : Class := { plain "java/util/Arrays" (some 0) with
  accessFlags := 49
  interfaces := #[]
  cf := some (fileOf pool17 14 #[.nestMembers #[975, 375, 113, 74]] #[{ accessFlags := 2, nameIndex := 5, descriptorIndex := 6, attributes := #[] }, { accessFlags := 10, nameIndex := 345, descriptorIndex := 346, attributes := #[] }, { accessFlags := 9, nameIndex := 139, descriptorIndex := 342, attributes := #[] }, { accessFlags := 10, nameIndex := 341, descriptorIndex := 342, attributes := #[] }] 49 2 #[] #[{ accessFlags := 26, nameIndex := 715, descriptorIndex := 716, attributes := #[] }, { accessFlags := 26, nameIndex := 719, descriptorIndex := 716, attributes := #[] }, { accessFlags := 4120, nameIndex := 445, descriptorIndex := 117, attributes := #[] }])
  fields := #[{ name := "MIN_ARRAY_SORT_GRAN", type := .int, accessFlags := 26, slot := 0, constantValue := 0 }, { name := "INSERTIONSORT_THRESHOLD", type := .int, accessFlags := 26, slot := 1, constantValue := 0 }, { name := "$assertionsDisabled", type := .boolean, accessFlags := 4120, slot := 2, constantValue := 0 }]
  methods := #[k17m0, k17m1, k17m2, k17m3]
  instanceTypes := #[]
  staticTypes := #[.int, .int, .boolean]
  resolved := Array.replicate 1029 none
  statics := none }

def pool18 : Array CpInfo := pool [(1, .class_ 2), (0, u "java/lang/Math"), (1, .class_ 6), (1, u "java/lang/Object"), (0, u "<init>"), (0, u "()V"), (89, .class_ 100), (1, u "java/lang/Math$RandomNumberGeneratorHolder"), (71, u "negativeZeroFloatBits"), (0, u "J"), (2, u "negativeZeroDoubleBits"), (24, u "min"), (43, u "$assertionsDisabled"), (0, u "Z"), (88, u "(II)I"), (2, u "twoToTheDoubleScaleDown"), (0, u "D"), (4, u "twoToTheDoubleScaleUp"), (9, u "E"), (3, u "PI"), (2, u "TAU"), (2, u "DEGREES_TO_RADIANS"), (0, u "RADIANS_TO_DEGREES")] 94

def k18m0 : Method := { name := "<init>", desc := "()V", sig := { parameters := [], returnType := none }, accessFlags := 2, code := none }
def k18c1 : Code := { maxStack := 2, maxLocals := 2, code := jdk_29_method_69_code, exceptionTable := #[], attributes := #[] }
def k18m1 : Method := { name := "min", desc := "(II)I", sig := { parameters := [.int, .int], returnType := some .int }, accessFlags := 9, code := some k18c1 }
/-- java/lang/Math -/
def k18 : Class := { plain "java/lang/Math" (some 0) with
  accessFlags := 49
  interfaces := #[]
  cf := some (fileOf pool18 1 #[.nestMembers #[98]] #[{ accessFlags := 2, nameIndex := 7, descriptorIndex := 8, attributes := #[] }, { accessFlags := 9, nameIndex := 201, descriptorIndex := 335, attributes := #[] }] 49 4 #[] #[{ accessFlags := 25, nameIndex := 354, descriptorIndex := 339, attributes := #[] }, { accessFlags := 25, nameIndex := 358, descriptorIndex := 339, attributes := #[] }, { accessFlags := 25, nameIndex := 361, descriptorIndex := 339, attributes := #[] }, { accessFlags := 26, nameIndex := 364, descriptorIndex := 339, attributes := #[] }, { accessFlags := 26, nameIndex := 365, descriptorIndex := 339, attributes := #[] }, { accessFlags := 26, nameIndex := 172, descriptorIndex := 173, attributes := #[] }, { accessFlags := 26, nameIndex := 176, descriptorIndex := 173, attributes := #[] }, { accessFlags := 8, nameIndex := 344, descriptorIndex := 339, attributes := #[] }, { accessFlags := 8, nameIndex := 338, descriptorIndex := 339, attributes := #[] }, { accessFlags := 4120, nameIndex := 245, descriptorIndex := 246, attributes := #[] }])
  fields := #[{ name := "E", type := .double, accessFlags := 25, slot := 0, constantValue := 0 }, { name := "PI", type := .double, accessFlags := 25, slot := 1, constantValue := 0 }, { name := "TAU", type := .double, accessFlags := 25, slot := 2, constantValue := 0 }, { name := "DEGREES_TO_RADIANS", type := .double, accessFlags := 26, slot := 3, constantValue := 0 }, { name := "RADIANS_TO_DEGREES", type := .double, accessFlags := 26, slot := 4, constantValue := 0 }, { name := "negativeZeroFloatBits", type := .long, accessFlags := 26, slot := 5, constantValue := 0 }, { name := "negativeZeroDoubleBits", type := .long, accessFlags := 26, slot := 6, constantValue := 0 }, { name := "twoToTheDoubleScaleUp", type := .double, accessFlags := 8, slot := 7, constantValue := 0 }, { name := "twoToTheDoubleScaleDown", type := .double, accessFlags := 8, slot := 8, constantValue := 0 }, { name := "$assertionsDisabled", type := .boolean, accessFlags := 4120, slot := 9, constantValue := 0 }]
  methods := #[k18m0, k18m1]
  instanceTypes := #[]
  staticTypes := #[.double, .double, .double, .double, .double, .long, .long, .double, .double, .boolean]
  resolved := Array.replicate 460 none
  statics := none }

def pool19 : Array CpInfo := pool [(1, .class_ 2), (0, u "java/lang/String"), (1, .class_ 6), (1, u "java/lang/Object"), (0, u "<init>"), (0, u "()V"), (0, .methodref 1 10), (0, .nameAndType 11 12), (0, u "checkIndex"), (0, u "(II)V"), (1, .class_ 16), (1, u "java/lang/StringLatin1"), (36, u "([BI)C"), (67, u "$assertionsDisabled"), (0, u "Z"), (98, .class_ 223), (1, u "java/lang/StringLatin1$LinesSpliterator"), (28, u "charAt"), (28, u "equals"), (0, u "([B[B)Z"), (107, .class_ 391), (0, u "java/lang/StringLatin1$CharsSpliterator")] 3

def k19m0 : Method := { name := "<init>", desc := "()V", sig := { parameters := [], returnType := none }, accessFlags := 0, code := none }
def k19c1 : Code := { maxStack := 2, maxLocals := 2, code := jdk_43_method_2_code, exceptionTable := #[], attributes := #[] }
def k19m1 : Method := { name := "charAt", desc := "([BI)C", sig := { parameters := [(.array .byte), .int], returnType := some .char }, accessFlags := 9, code := some k19c1 }
def k19c2 : Code := { maxStack := 3, maxLocals := 3, code := jdk_43_method_13_code, exceptionTable := #[], attributes := #[] }
def k19m2 : Method := { name := "equals", desc := "([B[B)Z", sig := { parameters := [(.array .byte), (.array .byte)], returnType := some .boolean }, accessFlags := 9, code := some k19c2 }
/-- java/lang/StringLatin1 -/
def k19 : Class := { plain "java/lang/StringLatin1" (some 0) with
  accessFlags := 48
  interfaces := #[]
  cf := some (fileOf pool19 14 #[.nestMembers #[390, 221]] #[{ accessFlags := 0, nameIndex := 7, descriptorIndex := 8, attributes := #[] }, { accessFlags := 9, nameIndex := 252, descriptorIndex := 53, attributes := #[] }, { accessFlags := 9, nameIndex := 281, descriptorIndex := 282, attributes := #[] }] 48 4 #[] #[{ accessFlags := 4120, nameIndex := 121, descriptorIndex := 122, attributes := #[] }])
  fields := #[{ name := "$assertionsDisabled", type := .boolean, accessFlags := 4120, slot := 0, constantValue := 0 }]
  methods := #[k19m0, k19m1, k19m2]
  instanceTypes := #[]
  staticTypes := #[.boolean]
  resolved := Array.replicate 395 none
  statics := none }

def pool20 : Array CpInfo := pool [(2, .class_ 4), (1, u "java/lang/Object"), (0, u "<init>"), (0, u "()V"), (17, .class_ 26), (1, u "jdk/internal/util/Preconditions"), (6, u "checkIndex"), (21, .class_ 56), (0, u "jdk/internal/util/Preconditions$4"), (57, .class_ 115), (0, u "jdk/internal/util/Preconditions$1"), (7, u "SIOOBE_FORMATTER"), (0, u "Ljava/util/function/BiFunction;"), (0, .class_ 126), (0, u "jdk/internal/util/Preconditions$2"), (3, u "AIOOBE_FORMATTER"), (0, .class_ 132), (0, u "jdk/internal/util/Preconditions$3"), (3, u "IOOBE_FORMATTER"), (41, u "(IILjava/util/function/BiFunction;)I")] 15

def k20m0 : Method := { name := "<init>", desc := "()V", sig := { parameters := [], returnType := none }, accessFlags := 1, code := none }
def k20c1 : Code := { maxStack := 3, maxLocals := 3, code := jdk_41_method_11_code, exceptionTable := #[], attributes := #[] }
def k20m1 : Method := { name := "checkIndex", desc := "(IILjava/util/function/BiFunction;)I", sig := { parameters := [.int, .int, (.object "java/util/function/BiFunction")], returnType := some .int }, accessFlags := 9, code := some k20c1 }
/-- jdk/internal/util/Preconditions -/
def k20 : Class := { plain "jdk/internal/util/Preconditions" (some 0) with
  accessFlags := 33
  interfaces := #[]
  cf := some (fileOf pool20 24 #[.nestMembers #[55, 131, 125, 114]] #[{ accessFlags := 1, nameIndex := 5, descriptorIndex := 6, attributes := #[] }, { accessFlags := 9, nameIndex := 33, descriptorIndex := 178, attributes := #[] }] 33 2 #[] #[{ accessFlags := 25, nameIndex := 123, descriptorIndex := 124, attributes := #[] }, { accessFlags := 25, nameIndex := 130, descriptorIndex := 124, attributes := #[] }, { accessFlags := 25, nameIndex := 136, descriptorIndex := 124, attributes := #[] }])
  fields := #[{ name := "SIOOBE_FORMATTER", type := (.object "java/util/function/BiFunction"), accessFlags := 25, slot := 0, constantValue := 0 }, { name := "AIOOBE_FORMATTER", type := (.object "java/util/function/BiFunction"), accessFlags := 25, slot := 1, constantValue := 0 }, { name := "IOOBE_FORMATTER", type := (.object "java/util/function/BiFunction"), accessFlags := 25, slot := 2, constantValue := 0 }]
  methods := #[k20m0, k20m1]
  instanceTypes := #[]
  staticTypes := #[(.object "java/util/function/BiFunction"), (.object "java/util/function/BiFunction"), (.object "java/util/function/BiFunction")]
  resolved := Array.replicate 194 none
  statics := some 2 }

def pool21 : Array CpInfo := pool [(9, u "<init>"), (6, .class_ 18), (1, u "java/lang/Object"), (0, u "()V"), (1, .class_ 23), (1, u "jdk/internal/util/ArraysSupport"), (0, u "LOG2_ARRAY_LONG_INDEX_SCALE"), (0, u "I"), (2, u "U"), (0, u "Ljdk/internal/misc/Unsafe;"), (8, u "BIG_ENDIAN"), (0, u "Z"), (8, u "LOG2_BYTE_BIT_SIZE"), (4, u "LOG2_ARRAY_INT_INDEX_SCALE"), (54, u "JLA"), (0, u "Ljdk/internal/access/JavaLangAccess;"), (11, u "LOG2_ARRAY_BOOLEAN_INDEX_SCALE"), (9, u "LOG2_ARRAY_BYTE_INDEX_SCALE"), (5, u "LOG2_ARRAY_CHAR_INDEX_SCALE"), (5, u "LOG2_ARRAY_SHORT_INDEX_SCALE"), (18, u "LOG2_ARRAY_FLOAT_INDEX_SCALE"), (24, u "LOG2_ARRAY_DOUBLE_INDEX_SCALE"), (89, u "T_BOOLEAN"), (2, u "T_CHAR"), (1, u "T_FLOAT"), (1, u "T_DOUBLE"), (1, u "T_BYTE"), (1, u "T_SHORT"), (1, u "T_INT"), (1, u "T_LONG"), (1, u "SOFT_MAX_ARRAY_LENGTH")] 83

def k21m0 : Method := { name := "<init>", desc := "()V", sig := { parameters := [], returnType := none }, accessFlags := 2, code := none }
/-- jdk/internal/util/ArraysSupport -/
def k21 : Class := { plain "jdk/internal/util/ArraysSupport" (some 0) with
  accessFlags := 33
  interfaces := #[]
  cf := some (fileOf pool21 21 #[] #[{ accessFlags := 2, nameIndex := 9, descriptorIndex := 19, attributes := #[] }] 33 16 #[] #[{ accessFlags := 24, nameIndex := 28, descriptorIndex := 29, attributes := #[] }, { accessFlags := 26, nameIndex := 38, descriptorIndex := 39, attributes := #[] }, { accessFlags := 25, nameIndex := 121, descriptorIndex := 25, attributes := #[] }, { accessFlags := 25, nameIndex := 131, descriptorIndex := 25, attributes := #[] }, { accessFlags := 25, nameIndex := 137, descriptorIndex := 25, attributes := #[] }, { accessFlags := 25, nameIndex := 143, descriptorIndex := 25, attributes := #[] }, { accessFlags := 25, nameIndex := 53, descriptorIndex := 25, attributes := #[] }, { accessFlags := 25, nameIndex := 24, descriptorIndex := 25, attributes := #[] }, { accessFlags := 25, nameIndex := 162, descriptorIndex := 25, attributes := #[] }, { accessFlags := 25, nameIndex := 187, descriptorIndex := 25, attributes := #[] }, { accessFlags := 26, nameIndex := 48, descriptorIndex := 25, attributes := #[] }, { accessFlags := 25, nameIndex := 277, descriptorIndex := 25, attributes := #[] }, { accessFlags := 25, nameIndex := 280, descriptorIndex := 25, attributes := #[] }, { accessFlags := 25, nameIndex := 282, descriptorIndex := 25, attributes := #[] }, { accessFlags := 25, nameIndex := 284, descriptorIndex := 25, attributes := #[] }, { accessFlags := 25, nameIndex := 286, descriptorIndex := 25, attributes := #[] }, { accessFlags := 25, nameIndex := 288, descriptorIndex := 25, attributes := #[] }, { accessFlags := 25, nameIndex := 290, descriptorIndex := 25, attributes := #[] }, { accessFlags := 25, nameIndex := 292, descriptorIndex := 25, attributes := #[] }, { accessFlags := 26, nameIndex := 108, descriptorIndex := 109, attributes := #[] }, { accessFlags := 25, nameIndex := 294, descriptorIndex := 25, attributes := #[] }])
  fields := #[{ name := "U", type := (.object "jdk/internal/misc/Unsafe"), accessFlags := 24, slot := 0, constantValue := 0 }, { name := "BIG_ENDIAN", type := .boolean, accessFlags := 26, slot := 1, constantValue := 0 }, { name := "LOG2_ARRAY_BOOLEAN_INDEX_SCALE", type := .int, accessFlags := 25, slot := 2, constantValue := 0 }, { name := "LOG2_ARRAY_BYTE_INDEX_SCALE", type := .int, accessFlags := 25, slot := 3, constantValue := 0 }, { name := "LOG2_ARRAY_CHAR_INDEX_SCALE", type := .int, accessFlags := 25, slot := 4, constantValue := 0 }, { name := "LOG2_ARRAY_SHORT_INDEX_SCALE", type := .int, accessFlags := 25, slot := 5, constantValue := 0 }, { name := "LOG2_ARRAY_INT_INDEX_SCALE", type := .int, accessFlags := 25, slot := 6, constantValue := 0 }, { name := "LOG2_ARRAY_LONG_INDEX_SCALE", type := .int, accessFlags := 25, slot := 7, constantValue := 0 }, { name := "LOG2_ARRAY_FLOAT_INDEX_SCALE", type := .int, accessFlags := 25, slot := 8, constantValue := 0 }, { name := "LOG2_ARRAY_DOUBLE_INDEX_SCALE", type := .int, accessFlags := 25, slot := 9, constantValue := 0 }, { name := "LOG2_BYTE_BIT_SIZE", type := .int, accessFlags := 26, slot := 10, constantValue := 0 }, { name := "T_BOOLEAN", type := .int, accessFlags := 25, slot := 11, constantValue := 0 }, { name := "T_CHAR", type := .int, accessFlags := 25, slot := 12, constantValue := 0 }, { name := "T_FLOAT", type := .int, accessFlags := 25, slot := 13, constantValue := 0 }, { name := "T_DOUBLE", type := .int, accessFlags := 25, slot := 14, constantValue := 0 }, { name := "T_BYTE", type := .int, accessFlags := 25, slot := 15, constantValue := 0 }, { name := "T_SHORT", type := .int, accessFlags := 25, slot := 16, constantValue := 0 }, { name := "T_INT", type := .int, accessFlags := 25, slot := 17, constantValue := 0 }, { name := "T_LONG", type := .int, accessFlags := 25, slot := 18, constantValue := 0 }, { name := "JLA", type := (.object "jdk/internal/access/JavaLangAccess"), accessFlags := 26, slot := 19, constantValue := 0 }, { name := "SOFT_MAX_ARRAY_LENGTH", type := .int, accessFlags := 25, slot := 20, constantValue := 0 }]
  methods := #[k21m0]
  instanceTypes := #[]
  staticTypes := #[(.object "jdk/internal/misc/Unsafe"), .boolean, .int, .int, .int, .int, .int, .int, .int, .int, .int, .int, .int, .int, .int, .int, .int, .int, .int, (.object "jdk/internal/access/JavaLangAccess"), .int]
  resolved := Array.replicate 378 none
  statics := none }

def pool22 : Array CpInfo := pool [(1, u "java/lang/Cloneable"), (0, .class_ 1), (0, u "java/lang/Object"), (0, .class_ 3)] 3

/-- java/lang/Cloneable -/
def k22 : Class := { plain "java/lang/Cloneable" (some 0) with
  accessFlags := 1537
  interfaces := #[]
  cf := some (fileOf pool22 2 #[] #[] 1537 4 #[] #[])
  fields := #[]
  methods := #[]
  instanceTypes := #[]
  staticTypes := #[]
  resolved := Array.replicate 8 none
  statics := none }

/-- the primitive byte -/
def k23 : Class := { plain "byte" none with kind := .primitive 'B', accessFlags := 0x411 }
/-- [B -/
def k24 : Class := { plain "[B" (some 0) with kind := .array 23 .byte, interfaces := #[22, 2], accessFlags := 1041 }

/-- the primitive char -/
def k25 : Class := { plain "char" none with kind := .primitive 'C', accessFlags := 0x411 }
/-- [C -/
def k26 : Class := { plain "[C" (some 0) with kind := .array 25 .char, interfaces := #[22, 2], accessFlags := 1041 }

/-- the primitive int -/
def k27 : Class := { plain "int" none with kind := .primitive 'I', accessFlags := 0x411 }
/-- [I -/
def k28 : Class := { plain "[I" (some 0) with kind := .array 27 .int, interfaces := #[22, 2], accessFlags := 1041 }

def heap : Heap := #[{ cls := 7, slots := #[.long 0, .int 1, .null, .int 0, .null, .int 0, .int 0], vm := .statics 7 },
  { cls := 11, slots := #[.ref 3, .ref 4, .ref 5, .null], vm := .statics 11 },
  { cls := 20, slots := #[.null, .null, .null], vm := .statics 20 },
  { cls := 11, slots := #[.null, .int 0, .int 0], vm := .none },
  { cls := 11, slots := #[.null, .int 1, .int 0], vm := .none },
  { cls := 11, slots := #[.null, .int 2, .int 0], vm := .none }]
def classes : Array Class := #[k0, k1, k2, k3, k4, k5, k6, k7, k8, k9, k10, k11, k12, k13, k14, k15, k16, k17, k18, k19, k20, k21, k22, k23, k24, k25, k26, k27, k28]
def interned : List (Array UInt16 × Addr) := []
def slotsUsed : Nat := 23
def theMethod : MethodId := ⟨1, 3⟩
def args0 : Array Value := #[.int 5, .int 6, .int 7, .int 8, .int 9]
def aboutOver (below : List Frame) : State where
  vm := { classes := classes, interned := interned.toArray }
  heap := heap
  slotsUsed := slotsUsed
  threads := #[{ frames := .invoking theMethod args0 :: below }]
def below0 : List Frame := [.native { method := ⟨0, 0⟩, args := #[] }]
def about1 : State := aboutOver below0
def p0 : Program := .bare "" "" ""
def e0 : Env := launch0.env 0 0 0
theorem w_frames : about1.frames = Frame.invoking theMethod args0 :: below0 := rfl
set_option maxRecDepth 65536 in
theorem w_args : argsFit about1.vm theMethod args0 = true := by decide +kernel
set_option maxRecDepth 65536 in
theorem w_heap : heapFits about1 = true := by decide +kernel
set_option maxRecDepth 65536 in
theorem w_runnable : about1.curStatus? = some .runnable := by decide +kernel
set_option maxRecDepth 65536 in
theorem w_alone : about1.alone = true := by decide +kernel
set_option maxRecDepth 65536 in
theorem w_named : about1.methodNamed? x = some theMethod := by decide +kernel
set_option maxRecDepth 65536 in
theorem w_hears : about1.hears theMethod below0 = true := by decide +kernel
set_option maxRecDepth 65536 in
theorem w_ripe : about1.ripe theMethod args0 below0 = true := by decide +kernel
theorem w_running : about1.status = .running := rfl
set_option maxRecDepth 65536 in
theorem w_room : about1.hasRoom e0.platform room_1 = true :=
  launch0.hasRoom_least _ room_1 (by decide +kernel) (by decide +kernel) (by decide +kernel) (by decide +kernel) (by decide +kernel) (by decide +kernel)
theorem allAtoms_all (ts : List Jvm.Cond) (a : Array Jvm.Value) (st : Jvm.State) : (allAtoms ts).before a st = ts.all (fun c => c.before a st) := by
  induction ts with
  | nil => rfl
  | cons c t ih =>
    show (Jvm.Cond.and c (allAtoms t)).before a st = _
    rw [Jvm.Cond.before_and, ih, List.all_cons]
def words1 : List Jvm.Cond := Jvm.Cond.code x code maxLocals ret :: tables_1
/-- a 'code' word, met by the world's own term for the bytes: nothing is compared byte by byte -/
theorem code_word {y : MethodName} {bytes : ByteArray} {mx : Nat} {rt : Option FieldType} {a : Array Value} {s : State} {m : MethodId} {meth : Method} {c : Code} (h1 : s.methodNamed? y = some m) (h2 : s.vm.method? m = some meth) (h3 : meth.code = some c) (h4 : c.code = bytes)
    (h5 : (c.maxLocals == mx && c.exceptionTable.isEmpty && decide (c.maxStack ≤ mostOperands) && decide (meth.sig.returnType = rt) && !meth.locks && decide (parseMethodDescriptor y.desc = some meth.sig)) = true) : (Jvm.Cond.code y bytes mx rt).before a s = true := by
  simp only [Bool.and_eq_true, beq_iff_eq, Bool.not_eq_true', decide_eq_true_eq] at h5
  obtain ⟨⟨⟨⟨⟨g1, g2⟩, g3⟩, g4⟩, g5⟩, g6⟩ := h5
  simp [Cond.before, Cond.holds, Cond.value, h1, h2, h3, h4, g1, g2, g3, g4, g5, g6]
def isCode : Jvm.Cond → Bool
  | .code _ _ _ _ => true
  | _ => false
theorem all_split {L : List Jvm.Cond} {P : Jvm.Cond → Bool} (h1 : L.all (fun c => isCode c || P c) = true) (h2 : ∀ c ∈ L.filter isCode, P c = true) : L.all P = true := by
  refine List.all_eq_true.mpr fun c hc => ?_
  have h := List.all_eq_true.mp h1 c hc
  rcases Bool.eq_false_or_eq_true (isCode c) with hi | hi
  · exact h2 c (List.mem_filter.mpr ⟨hc, hi⟩)
  · simpa [hi] using h
set_option maxRecDepth 65536 in
theorem w_c0 : (Jvm.Cond.code x code maxLocals ret).before args0 about1 = true := code_word (m := ⟨1, 3⟩) (meth := k1m3) (c := k1c3) (by decide +kernel) rfl rfl rfl (by decide +kernel)
set_option maxRecDepth 65536 in
theorem w_c1 : (Jvm.Cond.code ({ cls := "com/example/raccordo/raccordo/sql/SqlTokenParameterPinLaw", name := "mk", desc := "(IIII)Ljava/lang/String;" } : Jvm.MethodName) method_2_code (8 : Nat) (Option.some (Jvm.ClassFile.FieldType.object "java/lang/String"))).before args0 about1 = true := code_word (m := ⟨1, 1⟩) (meth := k1m1) (c := k1c1) (by decide +kernel) rfl rfl rfl (by decide +kernel)
set_option maxRecDepth 65536 in
theorem w_c2 : (Jvm.Cond.code ({ cls := "java/lang/String", name := "<init>", desc := "([C)V" } : Jvm.MethodName) jdk_42_method_3_code (2 : Nat) (Option.none : Option Jvm.ClassFile.FieldType)).before args0 about1 = true := code_word (m := ⟨7, 1⟩) (meth := k7m1) (c := k7c1) (by decide +kernel) rfl rfl rfl (by decide +kernel)
set_option maxRecDepth 65536 in
theorem w_c3 : (Jvm.Cond.code ({ cls := "java/lang/String", name := "<init>", desc := "([CIILjava/lang/Void;)V" } : Jvm.MethodName) jdk_42_method_149_code (6 : Nat) (Option.none : Option Jvm.ClassFile.FieldType)).before args0 about1 = true := code_word (m := ⟨7, 7⟩) (meth := k7m7) (c := k7c7) (by decide +kernel) rfl rfl rfl (by decide +kernel)
set_option maxRecDepth 65536 in
theorem w_c4 : (Jvm.Cond.code ({ cls := "java/lang/Object", name := "<init>", desc := "()V" } : Jvm.MethodName) object_method_1_code (1 : Nat) (Option.none : Option Jvm.ClassFile.FieldType)).before args0 about1 = true := code_word (m := ⟨0, 0⟩) (meth := k0m0) (c := k0c0) (by decide +kernel) rfl rfl rfl (by decide +kernel)
set_option maxRecDepth 65536 in
theorem w_c5 : (Jvm.Cond.code ({ cls := "java/lang/StringUTF16", name := "compress", desc := "([CII)[B" } : Jvm.MethodName) jdk_52_method_16_code (6 : Nat) (Option.some (Jvm.ClassFile.FieldType.array Jvm.ClassFile.FieldType.byte))).before args0 about1 = true := code_word (m := ⟨8, 2⟩) (meth := k8m2) (c := k8c2) (by decide +kernel) rfl rfl rfl (by decide +kernel)
set_option maxRecDepth 65536 in
theorem w_c6 : (Jvm.Cond.code ({ cls := "java/lang/StringUTF16", name := "compress", desc := "([CI[BII)I" } : Jvm.MethodName) jdk_52_method_21_code (7 : Nat) (Option.some Jvm.ClassFile.FieldType.int)).before args0 about1 = true := code_word (m := ⟨8, 3⟩) (meth := k8m3) (c := k8c3) (by decide +kernel) rfl rfl rfl (by decide +kernel)
set_option maxRecDepth 65536 in
theorem w_c7 : (Jvm.Cond.code ({ cls := "java/lang/StringUTF16", name := "coderFromArrayLen", desc := "([BI)B" } : Jvm.MethodName) jdk_52_method_15_code (2 : Nat) (Option.some Jvm.ClassFile.FieldType.byte)).before args0 about1 = true := code_word (m := ⟨8, 1⟩) (meth := k8m1) (c := k8c1) (by decide +kernel) rfl rfl rfl (by decide +kernel)
set_option maxRecDepth 65536 in
theorem w_c8 : (Jvm.Cond.code ({ cls := "com/example/raccordo/raccordo/sql/SqlToken", name := "parameter", desc := "(Ljava/lang/String;)Lcom/example/raccordo/raccordo/sql/SqlToken;" } : Jvm.MethodName) prog_77_method_3_code (1 : Nat) (Option.some (Jvm.ClassFile.FieldType.object "com/example/raccordo/raccordo/sql/SqlToken"))).before args0 about1 = true := code_word (m := ⟨9, 2⟩) (meth := k9m2) (c := k9c2) (by decide +kernel) rfl rfl rfl (by decide +kernel)
set_option maxRecDepth 65536 in
theorem w_c9 : (Jvm.Cond.code ({ cls := "com/example/raccordo/raccordo/sql/SqlToken", name := "<init>", desc := "(Lcom/example/raccordo/raccordo/sql/SqlToken$Kind;Ljava/lang/String;)V" } : Jvm.MethodName) prog_77_method_1_code (3 : Nat) (Option.none : Option Jvm.ClassFile.FieldType)).before args0 about1 = true := code_word (m := ⟨9, 0⟩) (meth := k9m0) (c := k9c0) (by decide +kernel) rfl rfl rfl (by decide +kernel)
set_option maxRecDepth 65536 in
theorem w_c10 : (Jvm.Cond.code ({ cls := "java/util/Objects", name := "requireNonNull", desc := "(Ljava/lang/Object;Ljava/lang/String;)Ljava/lang/Object;" } : Jvm.MethodName) jdk_31_method_11_code (2 : Nat) (Option.some (Jvm.ClassFile.FieldType.object "java/lang/Object"))).before args0 about1 = true := code_word (m := ⟨12, 1⟩) (meth := k12m1) (c := k12c1) (by decide +kernel) rfl rfl rfl (by decide +kernel)
set_option maxRecDepth 65536 in
theorem w_c11 : (Jvm.Cond.code ({ cls := "com/example/raccordo/raccordo/sql/SqlToken", name := "kind", desc := "()Lcom/example/raccordo/raccordo/sql/SqlToken$Kind;" } : Jvm.MethodName) prog_77_method_5_code (1 : Nat) (Option.some (Jvm.ClassFile.FieldType.object "com/example/raccordo/raccordo/sql/SqlToken$Kind"))).before args0 about1 = true := code_word (m := ⟨9, 4⟩) (meth := k9m4) (c := k9c4) (by decide +kernel) rfl rfl rfl (by decide +kernel)
set_option maxRecDepth 65536 in
theorem w_c12 : (Jvm.Cond.code ({ cls := "com/example/raccordo/raccordo/sql/SqlToken", name := "content", desc := "()Ljava/lang/String;" } : Jvm.MethodName) prog_77_method_6_code (1 : Nat) (Option.some (Jvm.ClassFile.FieldType.object "java/lang/String"))).before args0 about1 = true := code_word (m := ⟨9, 5⟩) (meth := k9m5) (c := k9c5) (by decide +kernel) rfl rfl rfl (by decide +kernel)
set_option maxRecDepth 65536 in
theorem w_c13 : (Jvm.Cond.code ({ cls := "java/lang/String", name := "equals", desc := "(Ljava/lang/Object;)Z" } : Jvm.MethodName) jdk_42_method_66_code (3 : Nat) (Option.some Jvm.ClassFile.FieldType.boolean)).before args0 about1 = true := code_word (m := ⟨7, 5⟩) (meth := k7m5) (c := k7c5) (by decide +kernel) rfl rfl rfl (by decide +kernel)
set_option maxRecDepth 65536 in
theorem w_c14 : (Jvm.Cond.code ({ cls := "com/example/raccordo/raccordo/sql/SqlToken", name := "toString", desc := "()Ljava/lang/String;" } : Jvm.MethodName) prog_77_method_9_code (1 : Nat) (Option.some (Jvm.ClassFile.FieldType.object "java/lang/String"))).before args0 about1 = true := code_word (m := ⟨9, 7⟩) (meth := k9m7) (c := k9c7) (by decide +kernel) rfl rfl rfl (by decide +kernel)
set_option maxRecDepth 65536 in
theorem w_c15 : (Jvm.Cond.code ({ cls := "java/lang/Enum", name := "ordinal", desc := "()I" } : Jvm.MethodName) jdk_37_method_2_code (1 : Nat) (Option.some Jvm.ClassFile.FieldType.int)).before args0 about1 = true := code_word (m := ⟨10, 0⟩) (meth := k10m0) (c := k10c0) (by decide +kernel) rfl rfl rfl (by decide +kernel)
set_option maxRecDepth 65536 in
theorem w_c16 : (Jvm.Cond.code ({ cls := "java/lang/StringBuilder", name := "<init>", desc := "()V" } : Jvm.MethodName) jdk_67_method_1_code (1 : Nat) (Option.none : Option Jvm.ClassFile.FieldType)).before args0 about1 = true := code_word (m := ⟨15, 0⟩) (meth := k15m0) (c := k15c0) (by decide +kernel) rfl rfl rfl (by decide +kernel)
set_option maxRecDepth 65536 in
theorem w_c17 : (Jvm.Cond.code ({ cls := "java/lang/AbstractStringBuilder", name := "<init>", desc := "(I)V" } : Jvm.MethodName) jdk_68_method_2_code (2 : Nat) (Option.none : Option Jvm.ClassFile.FieldType)).before args0 about1 = true := code_word (m := ⟨14, 1⟩) (meth := k14m1) (c := k14c1) (by decide +kernel) rfl rfl rfl (by decide +kernel)
set_option maxRecDepth 65536 in
theorem w_c18 : (Jvm.Cond.code ({ cls := "java/lang/StringBuilder", name := "append", desc := "(Ljava/lang/String;)Ljava/lang/StringBuilder;" } : Jvm.MethodName) jdk_67_method_7_code (2 : Nat) (Option.some (Jvm.ClassFile.FieldType.object "java/lang/StringBuilder"))).before args0 about1 = true := code_word (m := ⟨15, 1⟩) (meth := k15m1) (c := k15c1) (by decide +kernel) rfl rfl rfl (by decide +kernel)
set_option maxRecDepth 65536 in
theorem w_c19 : (Jvm.Cond.code ({ cls := "java/lang/AbstractStringBuilder", name := "append", desc := "(Ljava/lang/String;)Ljava/lang/AbstractStringBuilder;" } : Jvm.MethodName) jdk_68_method_22_code (3 : Nat) (Option.some (Jvm.ClassFile.FieldType.object "java/lang/AbstractStringBuilder"))).before args0 about1 = true := code_word (m := ⟨14, 4⟩) (meth := k14m4) (c := k14c4) (by decide +kernel) rfl rfl rfl (by decide +kernel)
set_option maxRecDepth 65536 in
theorem w_c20 : (Jvm.Cond.code ({ cls := "java/lang/String", name := "length", desc := "()I" } : Jvm.MethodName) jdk_42_method_54_code (1 : Nat) (Option.some Jvm.ClassFile.FieldType.int)).before args0 about1 = true := code_word (m := ⟨7, 3⟩) (meth := k7m3) (c := k7c3) (by decide +kernel) rfl rfl rfl (by decide +kernel)
set_option maxRecDepth 65536 in
theorem w_c21 : (Jvm.Cond.code ({ cls := "java/lang/String", name := "coder", desc := "()B" } : Jvm.MethodName) jdk_42_method_152_code (1 : Nat) (Option.some Jvm.ClassFile.FieldType.byte)).before args0 about1 = true := code_word (m := ⟨7, 9⟩) (meth := k7m9) (c := k7c9) (by decide +kernel) rfl rfl rfl (by decide +kernel)
set_option maxRecDepth 65536 in
theorem w_c22 : (Jvm.Cond.code ({ cls := "java/lang/AbstractStringBuilder", name := "ensureCapacityInternal", desc := "(I)V" } : Jvm.MethodName) jdk_68_method_9_code (3 : Nat) (Option.none : Option Jvm.ClassFile.FieldType)).before args0 about1 = true := code_word (m := ⟨14, 3⟩) (meth := k14m3) (c := k14c3) (by decide +kernel) rfl rfl rfl (by decide +kernel)
set_option maxRecDepth 65536 in
theorem w_c23 : (Jvm.Cond.code ({ cls := "java/lang/AbstractStringBuilder", name := "putStringAt", desc := "(ILjava/lang/String;)V" } : Jvm.MethodName) jdk_68_method_73_code (3 : Nat) (Option.none : Option Jvm.ClassFile.FieldType)).before args0 about1 = true := code_word (m := ⟨14, 8⟩) (meth := k14m8) (c := k14c8) (by decide +kernel) rfl rfl rfl (by decide +kernel)
set_option maxRecDepth 65536 in
theorem w_c24 : (Jvm.Cond.code ({ cls := "java/lang/AbstractStringBuilder", name := "inflateIfNeededFor", desc := "(Ljava/lang/String;)V" } : Jvm.MethodName) jdk_68_method_71_code (2 : Nat) (Option.none : Option Jvm.ClassFile.FieldType)).before args0 about1 = true := code_word (m := ⟨14, 7⟩) (meth := k14m7) (c := k14c7) (by decide +kernel) rfl rfl rfl (by decide +kernel)
set_option maxRecDepth 65536 in
theorem w_c25 : (Jvm.Cond.code ({ cls := "java/lang/String", name := "getBytes", desc := "([BIB)V" } : Jvm.MethodName) jdk_42_method_147_code (4 : Nat) (Option.none : Option Jvm.ClassFile.FieldType)).before args0 about1 = true := code_word (m := ⟨7, 6⟩) (meth := k7m6) (c := k7c6) (by decide +kernel) rfl rfl rfl (by decide +kernel)
set_option maxRecDepth 65536 in
theorem w_c26 : (Jvm.Cond.code ({ cls := "java/lang/StringBuilder", name := "toString", desc := "()Ljava/lang/String;" } : Jvm.MethodName) jdk_67_method_42_code (1 : Nat) (Option.some (Jvm.ClassFile.FieldType.object "java/lang/String"))).before args0 about1 = true := code_word (m := ⟨15, 2⟩) (meth := k15m2) (c := k15c2) (by decide +kernel) rfl rfl rfl (by decide +kernel)
set_option maxRecDepth 65536 in
theorem w_c27 : (Jvm.Cond.code ({ cls := "java/lang/String", name := "<init>", desc := "(Ljava/lang/StringBuilder;)V" } : Jvm.MethodName) jdk_42_method_53_code (2 : Nat) (Option.none : Option Jvm.ClassFile.FieldType)).before args0 about1 = true := code_word (m := ⟨7, 2⟩) (meth := k7m2) (c := k7c2) (by decide +kernel) rfl rfl rfl (by decide +kernel)
set_option maxRecDepth 65536 in
theorem w_c28 : (Jvm.Cond.code ({ cls := "java/lang/String", name := "<init>", desc := "(Ljava/lang/AbstractStringBuilder;Ljava/lang/Void;)V" } : Jvm.MethodName) jdk_42_method_150_code (5 : Nat) (Option.none : Option Jvm.ClassFile.FieldType)).before args0 about1 = true := code_word (m := ⟨7, 8⟩) (meth := k7m8) (c := k7c8) (by decide +kernel) rfl rfl rfl (by decide +kernel)
set_option maxRecDepth 65536 in
theorem w_c29 : (Jvm.Cond.code ({ cls := "java/lang/AbstractStringBuilder", name := "getValue", desc := "()[B" } : Jvm.MethodName) jdk_68_method_64_code (1 : Nat) (Option.some (Jvm.ClassFile.FieldType.array Jvm.ClassFile.FieldType.byte))).before args0 about1 = true := code_word (m := ⟨14, 5⟩) (meth := k14m5) (c := k14c5) (by decide +kernel) rfl rfl rfl (by decide +kernel)
set_option maxRecDepth 65536 in
theorem w_c30 : (Jvm.Cond.code ({ cls := "java/lang/StringBuilder", name := "length", desc := "()I" } : Jvm.MethodName) jdk_67_method_93_code (1 : Nat) (Option.some Jvm.ClassFile.FieldType.int)).before args0 about1 = true := code_word (m := ⟨15, 3⟩) (meth := k15m3) (c := k15c3) (by decide +kernel) rfl rfl rfl (by decide +kernel)
set_option maxRecDepth 65536 in
theorem w_c31 : (Jvm.Cond.code ({ cls := "java/lang/AbstractStringBuilder", name := "length", desc := "()I" } : Jvm.MethodName) jdk_68_method_6_code (1 : Nat) (Option.some Jvm.ClassFile.FieldType.int)).before args0 about1 = true := code_word (m := ⟨14, 2⟩) (meth := k14m2) (c := k14c2) (by decide +kernel) rfl rfl rfl (by decide +kernel)
set_option maxRecDepth 65536 in
theorem w_c32 : (Jvm.Cond.code ({ cls := "java/lang/AbstractStringBuilder", name := "isLatin1", desc := "()Z" } : Jvm.MethodName) jdk_68_method_68_code (1 : Nat) (Option.some Jvm.ClassFile.FieldType.boolean)).before args0 about1 = true := code_word (m := ⟨14, 6⟩) (meth := k14m6) (c := k14c6) (by decide +kernel) rfl rfl rfl (by decide +kernel)
set_option maxRecDepth 65536 in
theorem w_c33 : (Jvm.Cond.code ({ cls := "java/util/Arrays", name := "copyOfRange", desc := "([BII)[B" } : Jvm.MethodName) jdk_65_method_132_code (3 : Nat) (Option.some (Jvm.ClassFile.FieldType.array Jvm.ClassFile.FieldType.byte))).before args0 about1 = true := code_word (m := ⟨17, 2⟩) (meth := k17m2) (c := k17c2) (by decide +kernel) rfl rfl rfl (by decide +kernel)
set_option maxRecDepth 65536 in
theorem w_c34 : (Jvm.Cond.code ({ cls := "java/util/Arrays", name := "copyOfRangeByte", desc := "([BII)[B" } : Jvm.MethodName) jdk_65_method_133_code (5 : Nat) (Option.some (Jvm.ClassFile.FieldType.array Jvm.ClassFile.FieldType.byte))).before args0 about1 = true := code_word (m := ⟨17, 3⟩) (meth := k17m3) (c := k17c3) (by decide +kernel) rfl rfl rfl (by decide +kernel)
set_option maxRecDepth 65536 in
theorem w_c35 : (Jvm.Cond.code ({ cls := "java/util/Arrays", name := "checkLength", desc := "(II)V" } : Jvm.MethodName) jdk_65_method_131_code (2 : Nat) (Option.none : Option Jvm.ClassFile.FieldType)).before args0 about1 = true := code_word (m := ⟨17, 1⟩) (meth := k17m1) (c := k17c1) (by decide +kernel) rfl rfl rfl (by decide +kernel)
set_option maxRecDepth 65536 in
theorem w_c36 : (Jvm.Cond.code ({ cls := "java/lang/Math", name := "min", desc := "(II)I" } : Jvm.MethodName) jdk_29_method_69_code (2 : Nat) (Option.some Jvm.ClassFile.FieldType.int)).before args0 about1 = true := code_word (m := ⟨18, 1⟩) (meth := k18m1) (c := k18c1) (by decide +kernel) rfl rfl rfl (by decide +kernel)
set_option maxRecDepth 65536 in
theorem w_c37 : (Jvm.Cond.code ({ cls := "com/example/raccordo/raccordo/sql/SqlTokenParameterPinLaw", name := "shape", desc := "(Ljava/lang/String;Ljava/lang/String;)Z" } : Jvm.MethodName) method_3_code (3 : Nat) (Option.some Jvm.ClassFile.FieldType.boolean)).before args0 about1 = true := code_word (m := ⟨1, 2⟩) (meth := k1m2) (c := k1c2) (by decide +kernel) rfl rfl rfl (by decide +kernel)
set_option maxRecDepth 65536 in
theorem w_c38 : (Jvm.Cond.code ({ cls := "java/lang/String", name := "charAt", desc := "(I)C" } : Jvm.MethodName) jdk_42_method_56_code (2 : Nat) (Option.some Jvm.ClassFile.FieldType.char)).before args0 about1 = true := code_word (m := ⟨7, 4⟩) (meth := k7m4) (c := k7c4) (by decide +kernel) rfl rfl rfl (by decide +kernel)
set_option maxRecDepth 65536 in
theorem w_c39 : (Jvm.Cond.code ({ cls := "java/lang/String", name := "isLatin1", desc := "()Z" } : Jvm.MethodName) jdk_42_method_154_code (1 : Nat) (Option.some Jvm.ClassFile.FieldType.boolean)).before args0 about1 = true := code_word (m := ⟨7, 10⟩) (meth := k7m10) (c := k7c10) (by decide +kernel) rfl rfl rfl (by decide +kernel)
set_option maxRecDepth 65536 in
theorem w_c40 : (Jvm.Cond.code ({ cls := "java/lang/StringLatin1", name := "charAt", desc := "([BI)C" } : Jvm.MethodName) jdk_43_method_2_code (2 : Nat) (Option.some Jvm.ClassFile.FieldType.char)).before args0 about1 = true := code_word (m := ⟨19, 1⟩) (meth := k19m1) (c := k19c1) (by decide +kernel) rfl rfl rfl (by decide +kernel)
set_option maxRecDepth 65536 in
theorem w_c41 : (Jvm.Cond.code ({ cls := "java/lang/String", name := "checkIndex", desc := "(II)V" } : Jvm.MethodName) jdk_42_method_155_code (2 : Nat) (Option.none : Option Jvm.ClassFile.FieldType)).before args0 about1 = true := code_word (m := ⟨7, 11⟩) (meth := k7m11) (c := k7c11) (by decide +kernel) rfl rfl rfl (by decide +kernel)
set_option maxRecDepth 65536 in
theorem w_c42 : (Jvm.Cond.code ({ cls := "jdk/internal/util/Preconditions", name := "checkIndex", desc := "(IILjava/util/function/BiFunction;)I" } : Jvm.MethodName) jdk_41_method_11_code (3 : Nat) (Option.some Jvm.ClassFile.FieldType.int)).before args0 about1 = true := code_word (m := ⟨20, 1⟩) (meth := k20m1) (c := k20c1) (by decide +kernel) rfl rfl rfl (by decide +kernel)
set_option maxRecDepth 65536 in
theorem w_c43 : (Jvm.Cond.code ({ cls := "com/example/raccordo/raccordo/sql/SqlToken", name := "equals", desc := "(Ljava/lang/Object;)Z" } : Jvm.MethodName) prog_77_method_7_code (3 : Nat) (Option.some Jvm.ClassFile.FieldType.boolean)).before args0 about1 = true := code_word (m := ⟨9, 6⟩) (meth := k9m6) (c := k9c6) (by decide +kernel) rfl rfl rfl (by decide +kernel)
set_option maxRecDepth 65536 in
theorem w_c44 : (Jvm.Cond.code ({ cls := "java/lang/StringLatin1", name := "equals", desc := "([B[B)Z" } : Jvm.MethodName) jdk_43_method_13_code (3 : Nat) (Option.some Jvm.ClassFile.FieldType.boolean)).before args0 about1 = true := code_word (m := ⟨19, 2⟩) (meth := k19m2) (c := k19c2) (by decide +kernel) rfl rfl rfl (by decide +kernel)
set_option maxRecDepth 65536 in
theorem w_c45 : (Jvm.Cond.code ({ cls := "com/example/raccordo/raccordo/sql/SqlToken", name := "text", desc := "(Ljava/lang/String;)Lcom/example/raccordo/raccordo/sql/SqlToken;" } : Jvm.MethodName) prog_77_method_2_code (1 : Nat) (Option.some (Jvm.ClassFile.FieldType.object "com/example/raccordo/raccordo/sql/SqlToken"))).before args0 about1 = true := code_word (m := ⟨9, 1⟩) (meth := k9m1) (c := k9c1) (by decide +kernel) rfl rfl rfl (by decide +kernel)
set_option maxRecDepth 65536 in
theorem w_c46 : (Jvm.Cond.code ({ cls := "com/example/raccordo/raccordo/sql/SqlToken", name := "substitution", desc := "(Ljava/lang/String;)Lcom/example/raccordo/raccordo/sql/SqlToken;" } : Jvm.MethodName) prog_77_method_4_code (1 : Nat) (Option.some (Jvm.ClassFile.FieldType.object "com/example/raccordo/raccordo/sql/SqlToken"))).before args0 about1 = true := code_word (m := ⟨9, 3⟩) (meth := k9m3) (c := k9c3) (by decide +kernel) rfl rfl rfl (by decide +kernel)
def codes1 : List Jvm.Cond := [Jvm.Cond.code x code maxLocals ret, Jvm.Cond.code ({ cls := "com/example/raccordo/raccordo/sql/SqlTokenParameterPinLaw", name := "mk", desc := "(IIII)Ljava/lang/String;" } : Jvm.MethodName) method_2_code (8 : Nat) (Option.some (Jvm.ClassFile.FieldType.object "java/lang/String")), Jvm.Cond.code ({ cls := "java/lang/String", name := "<init>", desc := "([C)V" } : Jvm.MethodName) jdk_42_method_3_code (2 : Nat) (Option.none : Option Jvm.ClassFile.FieldType), Jvm.Cond.code ({ cls := "java/lang/String", name := "<init>", desc := "([CIILjava/lang/Void;)V" } : Jvm.MethodName) jdk_42_method_149_code (6 : Nat) (Option.none : Option Jvm.ClassFile.FieldType), Jvm.Cond.code ({ cls := "java/lang/Object", name := "<init>", desc := "()V" } : Jvm.MethodName) object_method_1_code (1 : Nat) (Option.none : Option Jvm.ClassFile.FieldType), Jvm.Cond.code ({ cls := "java/lang/StringUTF16", name := "compress", desc := "([CII)[B" } : Jvm.MethodName) jdk_52_method_16_code (6 : Nat) (Option.some (Jvm.ClassFile.FieldType.array Jvm.ClassFile.FieldType.byte)), Jvm.Cond.code ({ cls := "java/lang/StringUTF16", name := "compress", desc := "([CI[BII)I" } : Jvm.MethodName) jdk_52_method_21_code (7 : Nat) (Option.some Jvm.ClassFile.FieldType.int), Jvm.Cond.code ({ cls := "java/lang/StringUTF16", name := "coderFromArrayLen", desc := "([BI)B" } : Jvm.MethodName) jdk_52_method_15_code (2 : Nat) (Option.some Jvm.ClassFile.FieldType.byte), Jvm.Cond.code ({ cls := "com/example/raccordo/raccordo/sql/SqlToken", name := "parameter", desc := "(Ljava/lang/String;)Lcom/example/raccordo/raccordo/sql/SqlToken;" } : Jvm.MethodName) prog_77_method_3_code (1 : Nat) (Option.some (Jvm.ClassFile.FieldType.object "com/example/raccordo/raccordo/sql/SqlToken")), Jvm.Cond.code ({ cls := "com/example/raccordo/raccordo/sql/SqlToken", name := "<init>", desc := "(Lcom/example/raccordo/raccordo/sql/SqlToken$Kind;Ljava/lang/String;)V" } : Jvm.MethodName) prog_77_method_1_code (3 : Nat) (Option.none : Option Jvm.ClassFile.FieldType), Jvm.Cond.code ({ cls := "java/util/Objects", name := "requireNonNull", desc := "(Ljava/lang/Object;Ljava/lang/String;)Ljava/lang/Object;" } : Jvm.MethodName) jdk_31_method_11_code (2 : Nat) (Option.some (Jvm.ClassFile.FieldType.object "java/lang/Object")), Jvm.Cond.code ({ cls := "com/example/raccordo/raccordo/sql/SqlToken", name := "kind", desc := "()Lcom/example/raccordo/raccordo/sql/SqlToken$Kind;" } : Jvm.MethodName) prog_77_method_5_code (1 : Nat) (Option.some (Jvm.ClassFile.FieldType.object "com/example/raccordo/raccordo/sql/SqlToken$Kind")), Jvm.Cond.code ({ cls := "com/example/raccordo/raccordo/sql/SqlToken", name := "content", desc := "()Ljava/lang/String;" } : Jvm.MethodName) prog_77_method_6_code (1 : Nat) (Option.some (Jvm.ClassFile.FieldType.object "java/lang/String")), Jvm.Cond.code ({ cls := "java/lang/String", name := "equals", desc := "(Ljava/lang/Object;)Z" } : Jvm.MethodName) jdk_42_method_66_code (3 : Nat) (Option.some Jvm.ClassFile.FieldType.boolean), Jvm.Cond.code ({ cls := "com/example/raccordo/raccordo/sql/SqlToken", name := "toString", desc := "()Ljava/lang/String;" } : Jvm.MethodName) prog_77_method_9_code (1 : Nat) (Option.some (Jvm.ClassFile.FieldType.object "java/lang/String")), Jvm.Cond.code ({ cls := "java/lang/Enum", name := "ordinal", desc := "()I" } : Jvm.MethodName) jdk_37_method_2_code (1 : Nat) (Option.some Jvm.ClassFile.FieldType.int), Jvm.Cond.code ({ cls := "java/lang/StringBuilder", name := "<init>", desc := "()V" } : Jvm.MethodName) jdk_67_method_1_code (1 : Nat) (Option.none : Option Jvm.ClassFile.FieldType), Jvm.Cond.code ({ cls := "java/lang/AbstractStringBuilder", name := "<init>", desc := "(I)V" } : Jvm.MethodName) jdk_68_method_2_code (2 : Nat) (Option.none : Option Jvm.ClassFile.FieldType), Jvm.Cond.code ({ cls := "java/lang/StringBuilder", name := "append", desc := "(Ljava/lang/String;)Ljava/lang/StringBuilder;" } : Jvm.MethodName) jdk_67_method_7_code (2 : Nat) (Option.some (Jvm.ClassFile.FieldType.object "java/lang/StringBuilder")), Jvm.Cond.code ({ cls := "java/lang/AbstractStringBuilder", name := "append", desc := "(Ljava/lang/String;)Ljava/lang/AbstractStringBuilder;" } : Jvm.MethodName) jdk_68_method_22_code (3 : Nat) (Option.some (Jvm.ClassFile.FieldType.object "java/lang/AbstractStringBuilder")), Jvm.Cond.code ({ cls := "java/lang/String", name := "length", desc := "()I" } : Jvm.MethodName) jdk_42_method_54_code (1 : Nat) (Option.some Jvm.ClassFile.FieldType.int), Jvm.Cond.code ({ cls := "java/lang/String", name := "coder", desc := "()B" } : Jvm.MethodName) jdk_42_method_152_code (1 : Nat) (Option.some Jvm.ClassFile.FieldType.byte), Jvm.Cond.code ({ cls := "java/lang/AbstractStringBuilder", name := "ensureCapacityInternal", desc := "(I)V" } : Jvm.MethodName) jdk_68_method_9_code (3 : Nat) (Option.none : Option Jvm.ClassFile.FieldType), Jvm.Cond.code ({ cls := "java/lang/AbstractStringBuilder", name := "putStringAt", desc := "(ILjava/lang/String;)V" } : Jvm.MethodName) jdk_68_method_73_code (3 : Nat) (Option.none : Option Jvm.ClassFile.FieldType), Jvm.Cond.code ({ cls := "java/lang/AbstractStringBuilder", name := "inflateIfNeededFor", desc := "(Ljava/lang/String;)V" } : Jvm.MethodName) jdk_68_method_71_code (2 : Nat) (Option.none : Option Jvm.ClassFile.FieldType), Jvm.Cond.code ({ cls := "java/lang/String", name := "getBytes", desc := "([BIB)V" } : Jvm.MethodName) jdk_42_method_147_code (4 : Nat) (Option.none : Option Jvm.ClassFile.FieldType), Jvm.Cond.code ({ cls := "java/lang/StringBuilder", name := "toString", desc := "()Ljava/lang/String;" } : Jvm.MethodName) jdk_67_method_42_code (1 : Nat) (Option.some (Jvm.ClassFile.FieldType.object "java/lang/String")), Jvm.Cond.code ({ cls := "java/lang/String", name := "<init>", desc := "(Ljava/lang/StringBuilder;)V" } : Jvm.MethodName) jdk_42_method_53_code (2 : Nat) (Option.none : Option Jvm.ClassFile.FieldType), Jvm.Cond.code ({ cls := "java/lang/String", name := "<init>", desc := "(Ljava/lang/AbstractStringBuilder;Ljava/lang/Void;)V" } : Jvm.MethodName) jdk_42_method_150_code (5 : Nat) (Option.none : Option Jvm.ClassFile.FieldType), Jvm.Cond.code ({ cls := "java/lang/AbstractStringBuilder", name := "getValue", desc := "()[B" } : Jvm.MethodName) jdk_68_method_64_code (1 : Nat) (Option.some (Jvm.ClassFile.FieldType.array Jvm.ClassFile.FieldType.byte)), Jvm.Cond.code ({ cls := "java/lang/StringBuilder", name := "length", desc := "()I" } : Jvm.MethodName) jdk_67_method_93_code (1 : Nat) (Option.some Jvm.ClassFile.FieldType.int), Jvm.Cond.code ({ cls := "java/lang/AbstractStringBuilder", name := "length", desc := "()I" } : Jvm.MethodName) jdk_68_method_6_code (1 : Nat) (Option.some Jvm.ClassFile.FieldType.int), Jvm.Cond.code ({ cls := "java/lang/AbstractStringBuilder", name := "isLatin1", desc := "()Z" } : Jvm.MethodName) jdk_68_method_68_code (1 : Nat) (Option.some Jvm.ClassFile.FieldType.boolean), Jvm.Cond.code ({ cls := "java/util/Arrays", name := "copyOfRange", desc := "([BII)[B" } : Jvm.MethodName) jdk_65_method_132_code (3 : Nat) (Option.some (Jvm.ClassFile.FieldType.array Jvm.ClassFile.FieldType.byte)), Jvm.Cond.code ({ cls := "java/util/Arrays", name := "copyOfRangeByte", desc := "([BII)[B" } : Jvm.MethodName) jdk_65_method_133_code (5 : Nat) (Option.some (Jvm.ClassFile.FieldType.array Jvm.ClassFile.FieldType.byte)), Jvm.Cond.code ({ cls := "java/util/Arrays", name := "checkLength", desc := "(II)V" } : Jvm.MethodName) jdk_65_method_131_code (2 : Nat) (Option.none : Option Jvm.ClassFile.FieldType), Jvm.Cond.code ({ cls := "java/lang/Math", name := "min", desc := "(II)I" } : Jvm.MethodName) jdk_29_method_69_code (2 : Nat) (Option.some Jvm.ClassFile.FieldType.int), Jvm.Cond.code ({ cls := "com/example/raccordo/raccordo/sql/SqlTokenParameterPinLaw", name := "shape", desc := "(Ljava/lang/String;Ljava/lang/String;)Z" } : Jvm.MethodName) method_3_code (3 : Nat) (Option.some Jvm.ClassFile.FieldType.boolean), Jvm.Cond.code ({ cls := "java/lang/String", name := "charAt", desc := "(I)C" } : Jvm.MethodName) jdk_42_method_56_code (2 : Nat) (Option.some Jvm.ClassFile.FieldType.char), Jvm.Cond.code ({ cls := "java/lang/String", name := "isLatin1", desc := "()Z" } : Jvm.MethodName) jdk_42_method_154_code (1 : Nat) (Option.some Jvm.ClassFile.FieldType.boolean), Jvm.Cond.code ({ cls := "java/lang/StringLatin1", name := "charAt", desc := "([BI)C" } : Jvm.MethodName) jdk_43_method_2_code (2 : Nat) (Option.some Jvm.ClassFile.FieldType.char), Jvm.Cond.code ({ cls := "java/lang/String", name := "checkIndex", desc := "(II)V" } : Jvm.MethodName) jdk_42_method_155_code (2 : Nat) (Option.none : Option Jvm.ClassFile.FieldType), Jvm.Cond.code ({ cls := "jdk/internal/util/Preconditions", name := "checkIndex", desc := "(IILjava/util/function/BiFunction;)I" } : Jvm.MethodName) jdk_41_method_11_code (3 : Nat) (Option.some Jvm.ClassFile.FieldType.int), Jvm.Cond.code ({ cls := "com/example/raccordo/raccordo/sql/SqlToken", name := "equals", desc := "(Ljava/lang/Object;)Z" } : Jvm.MethodName) prog_77_method_7_code (3 : Nat) (Option.some Jvm.ClassFile.FieldType.boolean), Jvm.Cond.code ({ cls := "java/lang/StringLatin1", name := "equals", desc := "([B[B)Z" } : Jvm.MethodName) jdk_43_method_13_code (3 : Nat) (Option.some Jvm.ClassFile.FieldType.boolean), Jvm.Cond.code ({ cls := "com/example/raccordo/raccordo/sql/SqlToken", name := "text", desc := "(Ljava/lang/String;)Lcom/example/raccordo/raccordo/sql/SqlToken;" } : Jvm.MethodName) prog_77_method_2_code (1 : Nat) (Option.some (Jvm.ClassFile.FieldType.object "com/example/raccordo/raccordo/sql/SqlToken")), Jvm.Cond.code ({ cls := "com/example/raccordo/raccordo/sql/SqlToken", name := "substitution", desc := "(Ljava/lang/String;)Lcom/example/raccordo/raccordo/sql/SqlToken;" } : Jvm.MethodName) prog_77_method_4_code (1 : Nat) (Option.some (Jvm.ClassFile.FieldType.object "com/example/raccordo/raccordo/sql/SqlToken"))]
set_option maxRecDepth 65536 in
theorem codes_eq : words1.filter isCode = codes1 := rfl
theorem w_codes : ∀ c ∈ words1.filter isCode, c.before args0 about1 = true := by
  rw [codes_eq]
  intro c hc
  simp only [codes1, List.mem_cons, List.not_mem_nil, or_false] at hc
  rcases hc with rfl | rfl | rfl | rfl | rfl | rfl | rfl | rfl | rfl | rfl | rfl | rfl | rfl | rfl | rfl | rfl | rfl | rfl | rfl | rfl | rfl | rfl | rfl | rfl | rfl | rfl | rfl | rfl | rfl | rfl | rfl | rfl | rfl | rfl | rfl | rfl | rfl | rfl | rfl | rfl | rfl | rfl | rfl | rfl | rfl | rfl | rfl
  · exact w_c0
  · exact w_c1
  · exact w_c2
  · exact w_c3
  · exact w_c4
  · exact w_c5
  · exact w_c6
  · exact w_c7
  · exact w_c8
  · exact w_c9
  · exact w_c10
  · exact w_c11
  · exact w_c12
  · exact w_c13
  · exact w_c14
  · exact w_c15
  · exact w_c16
  · exact w_c17
  · exact w_c18
  · exact w_c19
  · exact w_c20
  · exact w_c21
  · exact w_c22
  · exact w_c23
  · exact w_c24
  · exact w_c25
  · exact w_c26
  · exact w_c27
  · exact w_c28
  · exact w_c29
  · exact w_c30
  · exact w_c31
  · exact w_c32
  · exact w_c33
  · exact w_c34
  · exact w_c35
  · exact w_c36
  · exact w_c37
  · exact w_c38
  · exact w_c39
  · exact w_c40
  · exact w_c41
  · exact w_c42
  · exact w_c43
  · exact w_c44
  · exact w_c45
  · exact w_c46
set_option maxRecDepth 65536 in
theorem w_t1 : (words1.take 24).all (fun c => isCode c || c.before args0 about1) = true := by decide +kernel
set_option maxRecDepth 65536 in
theorem w_t2 : ((words1.drop 24).take 24).all (fun c => isCode c || c.before args0 about1) = true := by decide +kernel
set_option maxRecDepth 65536 in
theorem w_t3 : (((words1.drop 24).drop 24).take 24).all (fun c => isCode c || c.before args0 about1) = true := by decide +kernel
set_option maxRecDepth 65536 in
theorem w_t4 : ((((words1.drop 24).drop 24).drop 24).take 24).all (fun c => isCode c || c.before args0 about1) = true := by decide +kernel
set_option maxRecDepth 65536 in
theorem w_t5 : (((((words1.drop 24).drop 24).drop 24).drop 24).take 24).all (fun c => isCode c || c.before args0 about1) = true := by decide +kernel
set_option maxRecDepth 65536 in
theorem w_t6 : ((((((words1.drop 24).drop 24).drop 24).drop 24).drop 24).take 24).all (fun c => isCode c || c.before args0 about1) = true := by decide +kernel
set_option maxRecDepth 65536 in
theorem w_t7 : (((((((words1.drop 24).drop 24).drop 24).drop 24).drop 24).drop 24).take 24).all (fun c => isCode c || c.before args0 about1) = true := by decide +kernel
set_option maxRecDepth 65536 in
theorem w_t8 : ((((((((words1.drop 24).drop 24).drop 24).drop 24).drop 24).drop 24).drop 24).take 24).all (fun c => isCode c || c.before args0 about1) = true := by decide +kernel
set_option maxRecDepth 65536 in
theorem w_t9 : (((((((((words1.drop 24).drop 24).drop 24).drop 24).drop 24).drop 24).drop 24).drop 24).take 24).all (fun c => isCode c || c.before args0 about1) = true := by decide +kernel
set_option maxRecDepth 65536 in
theorem w_t10 : ((((((((((words1.drop 24).drop 24).drop 24).drop 24).drop 24).drop 24).drop 24).drop 24).drop 24).take 24).all (fun c => isCode c || c.before args0 about1) = true := by decide +kernel
set_option maxRecDepth 65536 in
theorem w_t11 : ((((((((((words1.drop 24).drop 24).drop 24).drop 24).drop 24).drop 24).drop 24).drop 24).drop 24).drop 24).all (fun c => isCode c || c.before args0 about1) = true := by decide +kernel
theorem w_tables : (allAtoms (Jvm.Cond.code x code maxLocals ret :: tables_1)).before args0 about1 = true := by
  rw [allAtoms_all]
  show words1.all (fun c => c.before args0 about1) = true
  refine all_split ?_ w_codes
  rw [← List.take_append_drop 24 words1, List.all_append, w_t1, ← List.take_append_drop 24 (words1.drop 24), List.all_append, w_t2, ← List.take_append_drop 24 ((words1.drop 24).drop 24), List.all_append, w_t3, ← List.take_append_drop 24 (((words1.drop 24).drop 24).drop 24), List.all_append, w_t4, ← List.take_append_drop 24 ((((words1.drop 24).drop 24).drop 24).drop 24), List.all_append, w_t5, ← List.take_append_drop 24 (((((words1.drop 24).drop 24).drop 24).drop 24).drop 24), List.all_append, w_t6, ← List.take_append_drop 24 ((((((words1.drop 24).drop 24).drop 24).drop 24).drop 24).drop 24), List.all_append, w_t7, ← List.take_append_drop 24 (((((((words1.drop 24).drop 24).drop 24).drop 24).drop 24).drop 24).drop 24), List.all_append, w_t8, ← List.take_append_drop 24 ((((((((words1.drop 24).drop 24).drop 24).drop 24).drop 24).drop 24).drop 24).drop 24), List.all_append, w_t9, ← List.take_append_drop 24 (((((((((words1.drop 24).drop 24).drop 24).drop 24).drop 24).drop 24).drop 24).drop 24).drop 24), List.all_append, w_t10, w_t11]
  rfl
set_option maxRecDepth 65536 in
theorem w_rest : rest_1_c.before args0 about1 = true := by decide +kernel
set_option maxRecDepth 65536 in
theorem w_case : (Jvm.Cond.and given_1 narrow_1).before args0 about1 = true := by decide +kernel
set_option maxRecDepth 65536 in
theorem w_consts : constsHeld consts_1 about1 := Jvm.Lit.constsHeldB_iff.mp (by decide +kernel)
theorem w_applies : (headSpec (Jvm.Cond.code x code maxLocals ret :: tables_1) room_1).applies x e0.platform about1 = true :=
  (Spec.applies_iff w_frames).mpr ⟨w_running, w_runnable, w_alone, w_named, w_hears, w_ripe, w_room, w_tables⟩
theorem atStart : AtStart classFile x code maxLocals ret World_1 tables_1 room_1 Calls_1 rest_1 Pre_1 launch0 p0 e0 about1 theMethod args0 below0 :=
  ⟨lists_1, trivial, launch0.admits_env _ _ _, launch0.least_env, fairChoices_fair.cas, fairChoices_fair.clock, w_frames, w_args, w_heap, w_applies, ⟨w_consts, trivial⟩, w_rest, w_case⟩
end start1
theorem witness_1 : WitnessClaimed_1 := ⟨start1.p0, start1.e0, start1.about1, start1.theMethod, start1.args0, start1.below0, start1.atStart⟩
end Jvm.Pilot.@@N@@
