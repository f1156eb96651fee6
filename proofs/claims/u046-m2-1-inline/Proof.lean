import JvmDerived
import JvmDerived.Pilot.@@N@@Statement
import JvmDerived.Pilot.@@N@@Code
set_option linter.unusedVariables false
set_option linter.unusedSimpArgs false
@@BLOCK:TracedD.lean.txt@@
namespace Jvm.Pilot.@@N@@
open Jvm Jvm.ClassFile Sem Op Lib Jvm.Free Jvm.Stand Jvm.LawKit Jvm.RoadKit Bundle Jvm.Pilot.@@N@@.Jvm.D
/-- the walk's goal, seen from a state: it comes to an end of which P holds -/
def OwnFin (tb : Tables) (e : Env) (below : List Frame) (P : State → Outcome → Prop) (S : State) : Prop := ∃ t o, Steps tb e below S t ∧ P t o
theorem OwnFin.adv {tb : Tables} {e : Env} {below : List Frame} {P : State → Outcome → Prop} {A B : State} (h : ∀ t, Steps tb e below B t → Steps tb e below A t) (k : OwnFin tb e below P B) : OwnFin tb e below P A := by
  obtain ⟨t, o, h1, h2⟩ := k
  exact ⟨t, o, h t h1, h2⟩
theorem OwnFin.entry {tb : Tables} {e : Env} {below : List Frame} {P : State → Outcome → Prop} {T : State} {g g' : JFrame} (q : g = g') (k : ∀ P', P' = P → OwnFin tb e below P' (T.setTop g')) : ∃ t o, Steps tb e below (T.setTop g) t ∧ P t o := by
  subst q; exact k P rfl
theorem OwnFin.leaf {tb : Tables} {e : Env} {below : List Frame} {P P' : State → Outcome → Prop} {S : State} (q : P' = P) (k : ∃ t o, Steps tb e below S t ∧ P t o) : OwnFin tb e below P' S := by
  subst q; exact k
theorem own_lt {a b : Nat} (h : a < b) : a < b := h
theorem own_nee {a b : Nat} (h : a ≠ b) : a ≠ b := h
theorem own_ne {a b : Nat} (h : a < b ∨ b < a) : a ≠ b := by omega
theorem own_monoW {s t : State} {o : Outcome} {L : List Loc} {k n k' n' : Nat} (h : ReturnedEndW s o t L k n) (hk : k ≤ k') (hn : n ≤ n') : ReturnedEndW s o t L k' n' := ⟨h.1, h.2.1, h.2.2.1, h.2.2.2.mono hk hn⟩
theorem own_chend {Z : State} {EL : List (String × Nat)} {vm1 vm2 : Vm} {U0 U1 : State} {h0 h1 : Heap} (A : CHr Z EL U0.vm h0 vm1 h1) (B : CHr Z EL vm1 h1 vm2 h1) (e0 : U0.heap = h0) (e1 : U1.heap = h1) : CHr Z EL U0.vm U0.heap vm2 U1.heap := by
  rw [e0, e1]; exact A.trans B
theorem own_staK {Z : State} {n0 : Nat} {h : Heap} {C n d : String} {v : Value} (S : Sta Z Z.heap C n d v) (O : Old Z n0 h) : Sta Z h C n d v := S.ext O.2
section OwnRet
variable {p : Program} {l : Launch} {e : Env} {R : Room} {s : State} {m : MethodId} {args : Array Value} {below : List Frame} {meth : Method} {c : Code} {T : State} {locs : List Loc} {cells slots : Nat}
theorem own_retI (X : Stand p l e R s m args below meth c T locs cells slots) (hx : p.tables.exec = Jvm.exec) {pc : Nat} {Ls : Array Slot} {z : Int32} {rest : List Value} (hret : meth.sig.returnType = some .int) (hd : decode c.code pc = .ok (.ireturn, 1)) {fs : List Frame}
    (hl : ∀ (f : JFrame) (acts : List Action), f.method = m → f.locked = none → f.entered = [] → (doReturn e (T.setTop f) acts (some (.int z))).1 = T.setFrames fs) : Steps p.tables e below (T.setTop (mkF m pc Ls (.int z :: rest))) (T.setFrames fs) :=
  retOut X hx hret rfl (Or.inl ⟨rfl, Or.inl rfl, z, rfl⟩) hd hl
theorem own_retL (X : Stand p l e R s m args below meth c T locs cells slots) (hx : p.tables.exec = Jvm.exec) {pc : Nat} {Ls : Array Slot} {z : Int64} {rest : List Value} (hret : meth.sig.returnType = some .long) (hd : decode c.code pc = .ok (.lreturn, 1)) {fs : List Frame}
    (hl : ∀ (f : JFrame) (acts : List Action), f.method = m → f.locked = none → f.entered = [] → (doReturn e (T.setTop f) acts (some (.long z))).1 = T.setFrames fs) : Steps p.tables e below (T.setTop (mkF m pc Ls (.long z :: rest))) (T.setFrames fs) :=
  retOut X hx hret rfl (Or.inr (Or.inl ⟨rfl, rfl, z, rfl⟩)) hd hl
theorem own_retR (X : Stand p l e R s m args below meth c T locs cells slots) (hx : p.tables.exec = Jvm.exec) {pc : Nat} {Ls : Array Slot} {w : Value} {t : FieldType} {rest : List Value} (hret : meth.sig.returnType = some t) (ht : t.isReference = true) (hn : narrow t w = w) (hw : w.isRef = true) (hd : decode c.code pc = .ok (.areturn, 1)) {fs : List Frame}
    (hl : ∀ (f : JFrame) (acts : List Action), f.method = m → f.locked = none → f.entered = [] → (doReturn e (T.setTop f) acts (some w)).1 = T.setFrames fs) : Steps p.tables e below (T.setTop (mkF m pc Ls (w :: rest))) (T.setFrames fs) :=
  retOut X hx hret hn (Or.inr (Or.inr (Or.inr (Or.inr ⟨rfl, ht, hw⟩)))) hd hl
end OwnRet
theorem own_eqI {args : Array Value} {first s : State} {o : Option Outcome} {idx : List Nat} {t : Term} {k : Int32} (h : (Cond.eq t (Term.int k)).value args first o s idx = some true) : t.eval args first o idx s = some (.int k) := by
  simp only [Cond.value, Term.eval] at h
  cases ht : t.eval args first o idx s with
  | none => simp [ht] at h
  | some x => cases x <;> simp [ht] at h ⊢; exact h
theorem own_fldI {Z : State} {args : Array Value} {t : Term} {a : Addr} {C n d : String} {k : Int32} (ht : t.eval args Z none [] Z = some (.ref a)) (h : (Cond.eq (Term.field t C n d) (Term.int k)).value args Z none Z [] = some true) : Fld Z Z.heap a C n d (.int k) :=
  Fld.start ((fld_at ht).symm.trans (own_eqI h))
theorem own_eqRef {args : Array Value} {first s : State} {o : Option Outcome} {idx : List Nat} {t u : Term} {r : Addr} (hu : u.eval args first o idx s = some (.ref r)) (h : (Cond.eq t u).value args first o s idx = some true) : t.eval args first o idx s = some (.ref r) := by
  obtain ⟨x, y, e1, e2, k1, k2⟩ := cmp_v (Or.inl h)
  cases hu.symm.trans e2
  have hx : x.isRef = true := by cases x <;> simp [Kin, Value.isRef] at k1 k2 ⊢
  have := gotT (eq_R e1 e2 hx rfl) h
  rw [e1, this]
theorem own_fldR {Z : State} {args : Array Value} {t u : Term} {a r : Addr} {C n d : String} (ht : t.eval args Z none [] Z = some (.ref a)) (hu : u.eval args Z none [] Z = some (.ref r)) (h : (Cond.eq (Term.field t C n d) u).value args Z none Z [] = some true) : Fld Z Z.heap a C n d (.ref r) :=
  Fld.start ((fld_at ht).symm.trans (own_eqRef hu h))
theorem own_fldN {Z : State} {args : Array Value} {t : Term} {a : Addr} {C n d : String} (ht : t.eval args Z none [] Z = some (.ref a)) (h : (Cond.eq (Term.field t C n d) Term.null).value args Z none Z [] = some true) : Fld Z Z.heap a C n d .null :=
  Fld.start ((fld_at ht).symm.trans (null_v h))
theorem own_len {args : Array Value} {first s : State} {o : Option Outcome} {idx : List Nat} {t : Term} {a : Addr} {cl : Cell} {k : Int32} (ht : t.eval args first o idx s = some (.ref a)) (ha : s.arrayAt? a = some cl) (h : (Cond.eq (Term.length t) (Term.int k)).value args first o s idx = some true) : cl.slots.size < 2 ^ 31 ∧ cl.slots.size.toInt32 = k := by
  have e := own_eqI h
  by_cases hn : cl.slots.size < 2 ^ 31
  · rw [len_f ht ha hn] at e
    exact ⟨hn, Value.int.inj (Option.some.inj e)⟩
  · simp [Term.eval, ht, ha, hn] at e
theorem own_and255 (x : Int32) : ¬ (x &&& (255 : Int32)) < 0 ∧ ¬ (255 : Int32) < (x &&& (255 : Int32)) := by
  have h := c_mask x 255 8 (by decide) (by decide)
  have e : (255 : Int32).toInt = 255 := by decide
  have e0 : (0 : Int32).toInt = 0 := by decide
  rw [Int32.lt_iff_toInt_lt, Int32.lt_iff_toInt_lt, e, e0, h]
  omega
/-- x is a Latin-1 String of the chars cs, its two cells below lim -/
def OwnS (Z : State) (h : Heap) (lim : Nat) (x : Addr) (cs : List Int32) : Prop := ∃ (t : Addr) (kb : ClassId), Exa Z h x "java/lang/String" ∧ Fld Z h x "java/lang/String" "value" "[B" (.ref t) ∧ Fld Z h x "java/lang/String" "coder" "B" (.int (0 : Int32)) ∧ Arv Z h t kb .byte (Int32.ofNat cs.length) ((cs.map fun c => c.toInt8.toInt32).map Value.int) (.int (0 : Int32)) ∧ x < lim ∧ t < lim ∧ (∀ c ∈ cs, ¬ c < 0 ∧ ¬ (255 : Int32) < c) ∧ cs.length ≤ 4000
theorem OwnS.ext {Z : State} {h h' : Heap} {lim : Nat} {x : Addr} {cs : List Int32} (F : OwnS Z h lim x cs) (E : Ext h h') : OwnS Z h' lim x cs := by
  obtain ⟨t, kb, f1, f2, f3, f4, r⟩ := F; exact ⟨t, kb, f1.ext E, f2.ext E, f3.ext E, f4.ext E, r⟩
theorem OwnS.wr {Z : State} {h h' : Heap} {lim : Nat} {x a : Addr} {cs : List Int32} {sl : Nat} {v : Value} (F : OwnS Z h lim x cs) (W : Wr h h' a sl v) (q : lim ≤ a) : OwnS Z h' lim x cs := by
  obtain ⟨t, kb, f1, f2, f3, f4, r1, r2, r⟩ := F
  have n1 : x ≠ a := Nat.ne_of_lt (Nat.lt_of_lt_of_le r1 q)
  have n2 : t ≠ a := Nat.ne_of_lt (Nat.lt_of_lt_of_le r2 q)
  exact ⟨t, kb, f1.wr W, f2.other W (Or.inl n1), f3.other W (Or.inl n1), f4.other W n2, r1, r2, r⟩
theorem OwnS.keep {Z : State} {h h' : Heap} {lim : Nat} {x : Addr} {cs : List Int32} {ws : List Addr} (F : OwnS Z h lim x cs) (K : Keep h h' ws) (q : ∀ w ∈ ws, lim ≤ w) : OwnS Z h' lim x cs := by
  obtain ⟨t, kb, f1, f2, f3, f4, r1, r2, r⟩ := F
  have n1 : x ∉ ws := fun z => absurd r1 (Nat.not_lt.mpr (q x z))
  have n2 : t ∉ ws := fun z => absurd r2 (Nat.not_lt.mpr (q t z))
  exact ⟨t, kb, f1.keep K, f2.keep K n1, f3.keep K n1, f4.keep K n2, r1, r2, r⟩
theorem OwnS.lim {Z : State} {h : Heap} {lim lim' : Nat} {x : Addr} {cs : List Int32} (F : OwnS Z h lim x cs) (q : lim ≤ lim') : OwnS Z h lim' x cs := by
  obtain ⟨t, kb, f1, f2, f3, f4, r1, r2, r⟩ := F; exact ⟨t, kb, f1, f2, f3, f4, Nat.lt_of_lt_of_le r1 q, Nat.lt_of_lt_of_le r2 q, r⟩
theorem own_up {cs : List Int32} (h : ∀ c ∈ cs, ¬ c < 0 ∧ ¬ (255 : Int32) < c) : ∀ c ∈ cs, ¬ c < 0 ∧ ¬ (65535 : Int32) < c := fun c hc => ⟨(h c hc).1, fun q => (h c hc).2 (by
  have e : (255 : Int32).toInt = 255 := by decide
  have e' : (65535 : Int32).toInt = 65535 := by decide
  rw [Int32.lt_iff_toInt_lt] at q ⊢; rw [e'] at q; rw [e]; omega)⟩
theorem own_toInt {k : Nat} (h : k ≤ 100000) : (Int32.ofNat k).toInt = k := Int32.toInt_ofNat_of_lt (by omega)
theorem own_cl {k : Nat} (h : k ≤ 100000) : (Int32.ofNat k).toNatClampNeg = k := by simp only [Int32.toNatClampNeg, own_toInt h]; omega
theorem own_nn {k : Nat} (h : k ≤ 100000) : ¬ Int32.ofNat k < 0 := by
  have e : (0 : Int32).toInt = 0 := by decide
  rw [Int32.lt_iff_toInt_lt, own_toInt h, e]; omega
theorem own_add (a b : Nat) : Int32.ofNat a + Int32.ofNat b = Int32.ofNat (a + b) := (Int32.ofNat_add a b).symm
theorem own_le0 {a b : Nat} (hb : b ≤ 100000) (h : a ≤ b) : ¬ (0 : Int32) < Int32.ofNat a - Int32.ofNat b := by
  have e : (0 : Int32).toInt = 0 := by decide
  have q := c_isub (Int32.ofNat a) (Int32.ofNat b)
  have r := rng32 (Int32.ofNat a - Int32.ofNat b)
  rw [own_toInt (by omega), own_toInt hb] at q
  rw [Int32.lt_iff_toInt_lt, e]; omega
theorem own_sub {a b : Nat} (h : b ≤ a) : Int32.ofNat a - Int32.ofNat b = Int32.ofNat (a - b) := by
  have e := own_add (a - b) b
  rw [Nat.sub_add_cancel h] at e
  rw [← e, Int32.add_sub_cancel]
theorem own_ltn {a b : Nat} (ha : a ≤ 100000) (hb : b ≤ 100000) : Int32.ofNat a < Int32.ofNat b ↔ a < b := by rw [Int32.lt_iff_toInt_lt, own_toInt ha, own_toInt hb]; omega
theorem own_eqn {a b : Nat} (ha : a ≤ 100000) (hb : b ≤ 100000) : Int32.ofNat a = Int32.ofNat b ↔ a = b := by
  constructor
  · intro q; have := congrArg Int32.toInt q; rw [own_toInt ha, own_toInt hb] at this; omega
  · rintro rfl; rfl
theorem own_shr0 (x : Int32) : x >>> ((0 : Int32) &&& 31) = x := by
  apply Int32.toInt_inj.mp; rw [c_ishr x 0 0 (by decide)]; simp
theorem own_shl0 (x : Int32) : x <<< ((0 : Int32) &&& 31) = x := by
  have q := c_ishl x 0 0 (by decide)
  have r := rng32 x
  have r' := rng32 (x <<< ((0 : Int32) &&& 31))
  apply Int32.toInt_inj.mp; omega
theorem own_whole (vs : List Value) (d : Value) (n : Nat) (h : vs.length = n) : vs = (List.range n).map fun i => vs.getD (0 + i) d := by
  subst h
  apply List.ext_getElem
  · simp
  · intro i h1 h2; simp [List.getD_eq_getElem?_getD, h1]
theorem own_first (vs : List Value) (d : Value) (n : Nat) (h : n ≤ vs.length) : vs.take n = (List.range n).map fun i => vs.getD (0 + i) d := by
  apply List.ext_getElem
  · simp; omega
  · intro i h1 h2
    have : i < vs.length := by simp at h1; omega
    simp [List.getD_eq_getElem?_getD, this]
theorem own_same {Z : State} {a0 : Array Value} {y z : MethodName} (w : (Cond.declares y).before a0 Z = true) (wz : (Cond.declares z).before a0 Z = true) (nf : NotFace Z z) (hc : y.cls = z.cls) (hy : y.cls ≠ "java/lang/invoke/MethodHandle" ∧ y.cls ≠ "java/lang/invoke/VarHandle") : (Cond.sameMethod y.cls y.cls y.name y.desc).before a0 Z = true := by
  obtain ⟨m, meth, h1, h2, -, -⟩ := Cond.declares_spec w
  obtain ⟨m', meth', g1, -⟩ := Cond.declares_spec wz
  obtain ⟨k, hk, hni⟩ := nf m' g1
  have f1 := findClass_of_methodNamed h1
  have f2 := findClass_of_methodNamed g1
  rw [← hc] at f2
  have e : m.cls = m'.cls := Option.some.inj (f1.symm.trans f2)
  have hf := State.methodFound?_of_named h1 hy
  simp [Cond.before, Cond.holds, Cond.value, f1, hf, h1, e, hk, hni]
theorem own_nf {Z : State} {a0 : Array Value} {y z : MethodName} (wz : (Cond.declares z).before a0 Z = true) (nf : NotFace Z z) (hc : y.cls = z.cls) : NotFace Z y := fun r0 h => by
  obtain ⟨m', meth', g1, -⟩ := Cond.declares_spec wz
  obtain ⟨k, hk, hni⟩ := nf m' g1
  have f1 := findClass_of_methodNamed h
  have f2 := findClass_of_methodNamed g1
  rw [hc] at f1
  have e : r0.cls = m'.cls := Option.some.inj (f1.symm.trans f2)
  exact ⟨k, by rw [e]; exact hk, hni⟩
theorem own_decl {Z : State} {a0 : Array Value} {y : MethodName} {bytes : ByteArray} {ml : Nat} {rt : Option FieldType} (wi : (Cond.instanceMethod y).before a0 Z = true) (wc : (Cond.code y bytes ml rt).before a0 Z = true) : (Cond.declares y).before a0 Z = true := by
  obtain ⟨mk, methM, hnamed, hmethM, hstM, habM⟩ := Cond.instanceMethod_spec wi
  obtain ⟨m2, cM, q1, -, -, -, -, -, -, hsig⟩ := Cond.code_spec hnamed wc
  cases hmethM.symm.trans q1
  simp [Cond.before, Cond.holds, Cond.value, hnamed, hmethM, hstM, hsig]
theorem own_app {vd : List Value} {cs ct : List Int32} {cap : Nat} (hv : vd.length = cap) (ht : vd.take ct.length = (ct.map fun c => c.toInt8.toInt32).map Value.int) (hf : ct.length + cs.length ≤ cap) :
    (vd.take ct.length ++ ((cs.map fun c => c.toInt8.toInt32).map Value.int) ++ vd.drop (ct.length + cs.length)).length = cap ∧ (vd.take ct.length ++ ((cs.map fun c => c.toInt8.toInt32).map Value.int) ++ vd.drop (ct.length + cs.length)).take (ct ++ cs).length = ((ct ++ cs).map fun c => c.toInt8.toInt32).map Value.int := by
  constructor
  · simp; omega
  · rw [ht, List.map_append, List.map_append]
    apply List.take_left'
    simp
theorem own_eqv {v : Option Value} {cs ds : List Int32} (h : (v = some (.int 1) ∧ cs = ds) ∨ (v = some (.int 0) ∧ ¬ cs = ds)) : v = some (.int (if cs = ds then (1 : Int32) else 0)) := by
  rcases h with ⟨rfl, h⟩ | ⟨rfl, h⟩
  · rw [if_pos h]
  · rw [if_neg h]
theorem own_safeStr {Z : State} {EL : List (String × Nat)} {vm : Vm} {h : Heap} {x : Addr} (hal : Z.vm.Alike vm) (E : Exa Z h x "java/lang/String") (F : Fld Z h x "java/lang/String" "value" "[B" .null) : Safe Z EL vm h x := fun B => by
  obtain ⟨p, hp, u, a, hb, q, hq, ⟨cS, ⟨⟨s1, s2, s3, ⟨c1, k1, i1, f1, f1'⟩, s5, s6, s7, s8, s9, s10, -⟩, -⟩, -, hB, -⟩, hy⟩ := B
  rcases hy with hy | hy
  · subst hy
    obtain ⟨cell, cf, k, i, f, h1, h2, h3, h4, h5, h6, h7⟩ := F
    have e1 : q.sC = cell := Option.some.inj ((show h[q.sa]? = some q.sC from s1).symm.trans h1)
    obtain ⟨k3, e3, -⟩ := State.fieldFound?_setVm (s := Z) hal h2
    have e4 := (show (Wst Z vm h).fieldFound? _ _ _ = _ from e3).symm.trans f1
    simp only [Option.some.injEq, Prod.mk.injEq] at e4
    rw [e1, ← e4.2.2.2, h7] at s8
    cases s8
  · subst hy
    obtain ⟨cell, k, g1, g2, g3, -⟩ := E
    have e1 : q.SA = cell := Option.some.inj ((show h[q.sd]? = some q.SA from s10).symm.trans g1)
    have hB' : Z.vm.findClass "[B" = some q.SA.cls := (hal.findClass _ _).symm.trans hB
    exact ids_ne g2 hB' (by decide) (by rw [e1])
open Jvm.Free.SBG in
/-- the decimal text of x, n = |x| -/
def own_dec (x : Int32) (n : Nat) : List Int32 := (if x < 0 then [(45 : Int32)] else []) ++ (List.range (Jvm.Free.SBG.digits n)).map fun t => Int32.ofNat (48 + n / 10 ^ (Jvm.Free.SBG.digits n - 1 - t) % 10)
open Jvm.Free.SBG in
theorem own_declen (x : Int32) (n : Nat) : (own_dec x n).length = Jvm.Free.SBG.digits n + GetChars.sgn x := by
  unfold own_dec GetChars.sgn
  by_cases h : x < 0
  · rw [if_pos h, if_pos h]; simp
  · rw [if_neg h, if_neg h]; simp
open Jvm.Free.SBG in
theorem own_declt (x : Int32) (n : Nat) : ∀ c ∈ own_dec x n, ∃ k, k < 128 ∧ c = Int32.ofNat k := by
  intro c hc
  rcases List.mem_append.mp hc with hc | hc
  · by_cases h : x < 0
    · rw [if_pos h] at hc
      exact ⟨45, by decide, by simpa using hc⟩
    · rw [if_neg h] at hc; cases hc
  · obtain ⟨t, -, rfl⟩ := List.mem_map.mp hc
    exact ⟨_, by omega, rfl⟩
theorem own_dec255 (x : Int32) (n : Nat) : ∀ c ∈ own_dec x n, ¬ c < 0 ∧ ¬ (255 : Int32) < c := by
  intro c hc
  obtain ⟨k, hk, rfl⟩ := own_declt x n c hc
  exact (by decide +kernel : ∀ k, k < 128 → ¬ Int32.ofNat k < 0 ∧ ¬ (255 : Int32) < Int32.ofNat k) k hk
open Jvm.Free.SBG in
theorem own_dec10 (x : Int32) (n : Nat) : (own_dec x n).length ≤ 11 ∧ 1 ≤ (own_dec x n).length := by
  rw [own_declen]
  have := digits_pos n
  unfold GetChars.sgn
  split <;> omega
open Jvm.Free.SBG in
/-- the array behind getChars: the first k0 as they were, then the text -/
theorem own_gcArr (g : GetChars.G) (h1 : Ones g.D1) (h2 : Tens g.D2) (hn : g.n ≤ 2 ^ 31) {k0 : Nat} {vd : List Value} (hk : g.idx = k0 + (own_dec g.x g.n).length) (hidx : g.idx ≤ g.A.slots.size) (hA : ∀ j, j < k0 → g.A.slots[j]? = vd[j]?) (hl : k0 ≤ vd.length) :
    ((GetChars.outCell g).slots.toList).take (k0 + (own_dec g.x g.n).length) = vd.take k0 ++ ((own_dec g.x g.n).map fun c => c.toInt8.toInt32).map Value.int := by
  have hlen := own_declen g.x g.n
  obtain ⟨f1, f2, f3⟩ := outCell_fwd g h1 h2 hn (n0 := k0) (by rw [hk, hlen]) hidx
  have hmap : ((own_dec g.x g.n).map fun c => c.toInt8.toInt32) = own_dec g.x g.n := by
    refine (List.map_congr_left fun c hc => ?_).trans (List.map_id _)
    obtain ⟨k, hk, rfl⟩ := own_declt _ _ c hc
    exact dgNarrow k hk
  rw [hmap]
  apply List.ext_getElem?
  intro i
  rw [List.getElem?_take]
  by_cases hi : i < k0
  · rw [if_pos (by omega), List.getElem?_append_left (by simp; omega), List.getElem?_take, if_pos hi, ← hA i hi, ← f3 i hi, Array.getElem?_toList]
  · by_cases hj : i < k0 + (own_dec g.x g.n).length
    · rw [if_pos hj, List.getElem?_append_right (by simp; omega), Array.getElem?_toList]
      have e : (vd.take k0).length = k0 := by simp; omega
      rw [e, List.getElem?_map]
      rw [hlen] at hj
      unfold own_dec
      by_cases hx : g.x < 0
      · rw [if_pos hx]
        have hs : GetChars.sgn g.x = 1 := by simp [GetChars.sgn, hx]
        by_cases hq : i = k0
        · subst hq; rw [Nat.sub_self, f1 hx]; rfl
        · have e2 : i = k0 + GetChars.sgn g.x + (i - k0 - 1) := by omega
          have f := f2 (i - k0 - 1) (by omega)
          rw [← e2] at f
          rw [f, List.getElem?_append_right (by simp; omega), List.getElem?_map, List.getElem?_range (by simp; omega)]
          simp
      · rw [if_neg hx]
        have hs : GetChars.sgn g.x = 0 := by simp [GetChars.sgn, hx]
        have e2 : i = k0 + GetChars.sgn g.x + (i - k0) := by omega
        have f := f2 (i - k0) (by omega)
        rw [← e2] at f
        rw [f, List.nil_append, List.getElem?_map, List.getElem?_range (by omega)]
        simp
    · rw [if_neg hj, eq_comm, List.getElem?_eq_none_iff]
      simp; omega
theorem own_MetFree {l : Launch} {x : MethodName} {S S' : Spec} {P P' : Array Value → State → Prop} {K K' : Program → Env → List Frame → State → Array Value → Prop} {Q Q' : Array Value → State → Outcome → State → Prop} (M : MetFree l x S P K Q) (hr : S.room = S'.room)
    (hp : ∀ args s, P' args s → S'.pre.before args s = true → S.pre.before args s = true ∧ P args s) (hk : ∀ p e bl s args, K' p e bl s args → K p e bl s args) (hq : ∀ args s o t, P' args s → Q args s o t → Q' args s o t) : MetFree l x S' P' K' Q' := by
  intro p e ha hc hk' s m args below hf happ hP hK
  obtain ⟨q1, q2, q3, q4, q5, q6, q7, q8⟩ := (Spec.appliesLoose_iff hf).mp happ
  obtain ⟨n, o, r1, r2, r3, r4⟩ := M p e ha hc hk' s m args below hf ((Spec.appliesLoose_iff hf).mpr ⟨q1, q2, q3, q4, q5, q6, by rw [hr]; exact q7, (hp args s hP q8).1⟩) (hp args s hP q8).2 (hk _ _ _ _ _ hK)
  exact ⟨n, o, r1, r2, r3, hq _ _ _ _ hP r4⟩
def own_A : List Int32 := [(84 : Int32), (104 : Int32), (101 : Int32), (32 : Int32), (114 : Int32), (101 : Int32), (113 : Int32), (117 : Int32), (101 : Int32), (115 : Int32), (116 : Int32), (32 : Int32), (98 : Int32), (111 : Int32), (100 : Int32), (121 : Int32), (32 : Int32), (105 : Int32), (115 : Int32), (32 : Int32), (108 : Int32), (111 : Int32), (110 : Int32), (103 : Int32), (101 : Int32), (114 : Int32), (32 : Int32), (116 : Int32), (104 : Int32), (97 : Int32), (110 : Int32), (32 : Int32)]
def own_B : List Int32 := [(32 : Int32), (98 : Int32), (121 : Int32), (116 : Int32), (101 : Int32), (115 : Int32)]
/-- the message -/
def own_msg (xv : Int32) (nn : Nat) : List Int32 := (own_A ++ own_dec xv nn) ++ own_B
theorem own_Alen : own_A.length = 32 := rfl
theorem own_Blen : own_B.length = 6 := rfl
theorem own_msglen (xv : Int32) (nn : Nat) : (own_msg xv nn).length = 38 + (own_dec xv nn).length := by
  simp only [own_msg, List.length_append, own_Alen, own_Blen]; omega
theorem own_A255 : ∀ c ∈ own_A, ¬ c < 0 ∧ ¬ (255 : Int32) < c := by decide +kernel
theorem own_B255 : ∀ c ∈ own_B, ¬ c < 0 ∧ ¬ (255 : Int32) < c := by decide +kernel
theorem own_msg255 (xv : Int32) (nn : Nat) : ∀ c ∈ own_msg xv nn, ¬ c < 0 ∧ ¬ (255 : Int32) < c := by
  intro c hc
  rcases List.mem_append.mp hc with hc | hc
  · rcases List.mem_append.mp hc with hc | hc
    · exact own_A255 c hc
    · exact own_dec255 xv nn c hc
  · exact own_B255 c hc
open Jvm.Free.SBG in
theorem own_sgn1 {xv : Int32} (h : xv < 0) : GetChars.sgn xv = 1 := by simp [GetChars.sgn, h]
open Jvm.Free.SBG in
theorem own_sgn0 {xv : Int32} (h : ¬ xv < 0) : GetChars.sgn xv = 0 := by simp [GetChars.sgn, h]
theorem own_lenS {xv : Int32} {sg : Nat} (nn : Nat) (hs : sg = Jvm.Free.SBG.GetChars.sgn xv) : Int32.ofNat (own_msg xv nn).length = (((38 : Int32) + Int32.ofNat sg) + Int32.ofNat (Jvm.Free.SBG.digits nn)) := by
  rw [own_msglen, own_declen, ← hs, show (38 : Int32) = Int32.ofNat 38 from rfl, own_add, own_add, show 38 + (Jvm.Free.SBG.digits nn + sg) = 38 + sg + Jvm.Free.SBG.digits nn from by omega]
theorem own_agA (xv : Int32) (nn : Nat) {fo : Nat} {cl : List Int32} (h : ∀ k, k < cl.length → fo + k < 32 ∧ own_A.getD (fo + k) 0 = cl.getD k 0) : ∀ k, k < cl.length → fo + k < (own_msg xv nn).length ∧ (own_msg xv nn).getD (fo + k) 0 = cl.getD k 0 := by
  intro k hk
  obtain ⟨h1, h2⟩ := h k hk
  refine ⟨by rw [own_msglen]; omega, ?_⟩
  rw [← h2]
  simp only [own_msg, List.getD_eq_getElem?_getD]
  rw [List.getElem?_append_left (by rw [List.length_append, own_Alen]; omega), List.getElem?_append_left (by rw [own_Alen]; omega)]
theorem own_at32 {xv : Int32} (nn : Nat) (h : xv < 0) : (own_msg xv nn).getD 32 0 = (45 : Int32) := by
  simp only [own_msg, List.getD_eq_getElem?_getD]
  have hl := own_declen xv nn
  rw [own_sgn1 h] at hl
  rw [List.getElem?_append_left (by rw [List.length_append, own_Alen]; omega), List.getElem?_append_right (by rw [own_Alen]; omega), own_Alen]
  unfold own_dec
  rw [if_pos h]; rfl
theorem own_agD {xv : Int32} {nn sg jj : Nat} (hs : sg = Jvm.Free.SBG.GetChars.sgn xv) (hj : jj < Jvm.Free.SBG.digits nn) : (32 + sg) + jj < (own_msg xv nn).length ∧ (own_msg xv nn).getD ((32 + sg) + jj) 0 = Int32.ofNat (48 + nn / 10 ^ (Jvm.Free.SBG.digits nn - 1 - jj) % 10) := by
  have hl := own_declen xv nn
  refine ⟨by rw [own_msglen, hl, ← hs]; omega, ?_⟩
  simp only [own_msg, List.getD_eq_getElem?_getD]
  rw [List.getElem?_append_left (by rw [List.length_append, own_Alen, hl, ← hs]; omega), List.getElem?_append_right (by rw [own_Alen]; omega), own_Alen]
  unfold own_dec
  by_cases hx : xv < 0
  · rw [own_sgn1 hx] at hs
    rw [if_pos hx, List.getElem?_append_right (by simp; omega), List.getElem?_map, List.getElem?_range (by simp; omega)]
    simp only [Option.map_some, Option.getD_some, List.length_cons, List.length_nil]
    rw [show (32 + sg) + jj - 32 - (0 + 1) = jj from by omega]
  · rw [own_sgn0 hx] at hs
    rw [if_neg hx, List.nil_append, List.getElem?_map, List.getElem?_range (by omega)]
    simp only [Option.map_some, Option.getD_some]
    rw [show (32 + sg) + jj - 32 = jj from by omega]
theorem own_agB {xv : Int32} {nn sg : Nat} (hs : sg = Jvm.Free.SBG.GetChars.sgn xv) : ∀ k, k < own_B.length → ((32 + sg) + Jvm.Free.SBG.digits nn) + k < (own_msg xv nn).length ∧ (own_msg xv nn).getD (((32 + sg) + Jvm.Free.SBG.digits nn) + k) 0 = own_B.getD k 0 := by
  intro k hk
  have hl := own_declen xv nn
  have hb := own_Blen
  refine ⟨by rw [own_msglen, hl, ← hs]; omega, ?_⟩
  simp only [own_msg, List.getD_eq_getElem?_getD]
  rw [List.getElem?_append_right (by rw [List.length_append, own_Alen, hl, ← hs]; omega), List.length_append, own_Alen, hl, ← hs, show ((32 + sg) + Jvm.Free.SBG.digits nn) + k - (32 + (Jvm.Free.SBG.digits nn + sg)) = k from by omega]
theorem own_j {n : Nat} (h : n ≤ 2 ^ 40) : (Int64.ofNat n).toInt = n := Int64.toInt_ofNat_of_lt (by omega)
theorem own_jlt {a b : Nat} (ha : a ≤ 2 ^ 40) (hb : b ≤ 2 ^ 40) : Int64.ofNat a < Int64.ofNat b ↔ a < b := by rw [Int64.lt_iff_toInt_lt, own_j ha, own_j hb]; omega
theorem own_lc {n d : Nat} (hn : n ≤ 2 ^ 31) (hd : d ≤ 2 ^ 31) : lcmpW (Int64.ofNat n) (Int64.ofNat d) < 0 ↔ n < d := by rw [lw_lt]; exact own_jlt (by omega) (by omega)
theorem own_lz {xv : Int32} : lcmpW (xv.toInt64) (0 : Int64) < 0 ↔ xv < 0 := by
  rw [lw_lt, Int64.lt_iff_toInt_lt, Int32.lt_iff_toInt_lt, c_i2l]; exact Iff.rfl
theorem own_posJ {xv : Int32} {nn : Nat} (h : ¬ xv < 0) (hn : nn ≤ 2 ^ 31) (hx : (if xv < 0 then xv else -xv) = Jvm.Free.SBG.negI nn) : xv.toInt64 = Int64.ofNat nn := by
  rw [if_neg h] at hx
  have q := congrArg Int32.toInt hx
  rw [Jvm.Free.SBG.negI_toInt hn] at q
  have c := c_ineg xv
  have r := rng32 xv
  have r2 := rng32 (-xv)
  rw [Int32.lt_iff_toInt_lt, show (0 : Int32).toInt = 0 from rfl] at h
  apply Int64.toInt_inj.mp
  rw [c_i2l, own_j (by omega)]; omega
theorem own_negJ {xv : Int32} {nn : Nat} (h : xv < 0) (hn : nn ≤ 2 ^ 31) (hx : (if xv < 0 then xv else -xv) = Jvm.Free.SBG.negI nn) : (-(xv.toInt64)) = Int64.ofNat nn := by
  rw [if_pos h] at hx
  have q := congrArg Int32.toInt hx
  rw [Jvm.Free.SBG.negI_toInt hn] at q
  have c := c_lneg xv.toInt64
  rw [c_i2l] at c
  have r := rng32 xv
  have r2 := rng64 (-xv.toInt64)
  apply Int64.toInt_inj.mp
  rw [own_j (by omega)]; omega
theorem own_jpow {n : Nat} (h : n ≤ 9) : 0 < 10 ^ n ∧ 10 ^ n ≤ 2 ^ 31 := (by decide : ∀ n, n ≤ 9 → 0 < 10 ^ n ∧ 10 ^ n ≤ 2 ^ 31) n h
theorem own_jne {d : Nat} (h : 0 < d) (h2 : d ≤ 2 ^ 31) : Int64.ofNat d ≠ -1 ∧ Int64.ofNat d ≠ 0 := by
  constructor
  · intro q; have := congrArg Int64.toInt q; rw [own_j (by omega), show (-1 : Int64).toInt = -1 from by decide] at this; omega
  · intro q; have := congrArg Int64.toInt q; rw [own_j (by omega), show (0 : Int64).toInt = 0 from by decide] at this; omega
theorem own_jdiv {n d : Nat} (hn : n ≤ 2 ^ 31) (h : 0 < d) (h2 : d ≤ 2 ^ 31) : Int64.ofNat n / Int64.ofNat d = Int64.ofNat (n / d) := by
  have q := (c_ldiv (Int64.ofNat n) (Int64.ofNat d) (d : Int) (own_j (by omega)) (own_jne h h2).1).1 (by rw [own_j (by omega)]; omega)
  have hle : n / d ≤ n := Nat.div_le_self n d
  apply Int64.toInt_inj.mp
  rw [q, own_j (by omega), own_j (by omega)]; rfl
theorem own_jrem {n : Nat} (hn : n ≤ 2 ^ 31) : Int64.ofNat n - Int64.ofNat n / (10 : Int64) * (10 : Int64) = Int64.ofNat (n % 10) := by
  have q := (c_lrem (Int64.ofNat n) (10 : Int64) (10 : Int) (by decide)).1 (by rw [own_j (by omega)]; omega)
  apply Int64.toInt_inj.mp
  rw [q, own_j (by omega), own_j (by omega)]; omega
theorem own_digval {n x : Nat} (hn : n ≤ 2 ^ 31) (hx : x ≤ 9) : ((48 : Int64) + (Int64.ofNat n / Int64.ofNat (10 ^ x) - Int64.ofNat n / Int64.ofNat (10 ^ x) / (10 : Int64) * (10 : Int64))).toInt32.toUInt32.toUInt16.toUInt32.toInt32 = Int32.ofNat (48 + n / 10 ^ x % 10) := by
  have hle : n / 10 ^ x ≤ n := Nat.div_le_self _ _
  rw [own_jdiv hn (own_jpow hx).1 (own_jpow hx).2, own_jrem (by omega)]
  exact (by decide : ∀ r, r < 10 → ((48 : Int64) + Int64.ofNat r).toInt32.toUInt32.toUInt16.toUInt32.toInt32 = Int32.ofNat (48 + r)) _ (Nat.mod_lt _ (by decide))
def own_P10 : List Value := [(.long (1 : Int64)), (.long (10 : Int64)), (.long (100 : Int64)), (.long (1000 : Int64)), (.long (10000 : Int64)), (.long (100000 : Int64)), (.long (1000000 : Int64)), (.long (10000000 : Int64)), (.long (100000000 : Int64)), (.long (1000000000 : Int64))]
theorem own_p10 {x : Nat} (h : x ≤ 9) : own_P10.getD x (.long (0 : Int64)) = .long (Int64.ofNat (10 ^ x)) := (by decide : ∀ x, x ≤ 9 → own_P10.getD x (.long (0 : Int64)) = .long (Int64.ofNat (10 ^ x))) x h
theorem own_litS {Z : State} {h : Heap} {x t : Addr} {kb : ClassId} {z : Int32} {vs : List Value} {cs : List Int32} (E : Exa Z h x "java/lang/String") (Fv : Fld Z h x "java/lang/String" "value" "[B" (.ref t)) (Fc : Fld Z h x "java/lang/String" "coder" "B" (.int (0 : Int32))) (V : Arv Z h t kb .byte z vs (.int (0 : Int32))) (lx : x < h.size) (lt : t < h.size) (hz : z = Int32.ofNat cs.length) (hv : vs = (cs.map fun c => c.toInt8.toInt32).map Value.int) (hp : ∀ c ∈ cs, ¬ c < 0 ∧ ¬ (255 : Int32) < c) (hl : cs.length ≤ 4000) : OwnS Z h h.size x cs := by
  subst hz hv; exact ⟨t, kb, E, Fv, Fc, V, lx, lt, hp, hl⟩

section OwnExc
open Jvm.Free.Exc Bundle
def own_tw : List Jvm.Cond := [.native tFill0, .instanceMethod tFill0, .instanceMethod tFill, .codeSync tFill Jvm.LibCode.Throwable.Fill.code 1 (some (.object tN)), .superclass tN "java/lang/Object", .initialized tN,
  .instanceMethod oInit, .code oInit object_method_1_code 1 none, .methodLink tN 1 oInit, .methodLink tN 27 tFill, .methodLink tN 202 tFill0,
  .fieldLink tN 7 tN "cause" thD, .lays "com/example/rollbook/rollbook/http/ApiException" tN "cause" thD, .fieldLink tN 17 tN "stackTrace" steD, .lays "com/example/rollbook/rollbook/http/ApiException" tN "stackTrace" steD, .fieldLink tN 24 tN "suppressedExceptions" listD, .lays "com/example/rollbook/rollbook/http/ApiException" tN "suppressedExceptions" listD,
  .fieldLink tN 198 tN "backtrace" obD, .lays "com/example/rollbook/rollbook/http/ApiException" tN "backtrace" obD, .lays "com/example/rollbook/rollbook/http/ApiException" tN "depth" "I", .soleField tN "backtrace", .soleField tN "depth",
  .fieldLink tN 13 tN "UNASSIGNED_STACK" steD, .laysStatic tN "UNASSIGNED_STACK" steD, .fieldLink tN 20 tN "SUPPRESSED_SENTINEL" listD, .laysStatic tN "SUPPRESSED_SENTINEL" listD,
  .selects "com/example/rollbook/rollbook/http/ApiException" tFill0 tFill0, .selects "com/example/rollbook/rollbook/http/ApiException" tFill tFill, .declares tFill, .arrayOver (.object "java/lang/Object")]
theorem own_twIn : ∀ d ∈ own_tw, d ∈ tables_1 := by decide +kernel
theorem own_twOk : own_tw.all xOk = true := rfl
theorem own_twAt {Z s : State} {a0 args : Array Value} (hT0 : ThS Z s.heap) (hZ : Z.Warmed39 s.vm) (hw : ∀ d ∈ tables_1, d.before a0 Z = true) : ∀ d ∈ own_tw, d.before args s = true := fun d h => mvX hT0 hZ (List.all_eq_true.mp own_twOk d h) (hw d (own_twIn d h))
/-- Throwable's record, as far as its 'fillInStackTrace' reads it -/
def OwnThr (T : ThrowableC) (B : BackC) (fd : Field) (pl : Platform) (s : State) : Prop :=
  T.Links pl s ∧ B.Links T pl s ∧ s.vm.findClass tN = some T.cT ∧ s.methodNamed? tFill = some T.fill ∧ s.methodNamed? tFill0 = some T.fill0 ∧ s.fieldFound? tN "stackTrace" steD = some (T.cT, T.kT, T.i17, T.fStack) ∧
  s.fieldFound? tN "backtrace" obD = some (T.cT, T.kT, B.i198, B.fBack) ∧ (∃ i, s.fieldFound? tN "depth" "I" = some (T.cT, T.kT, i, fd)) ∧ s.fieldFound? tN "UNASSIGNED_STACK" steD = some (T.cT, T.kT, T.i13, T.fUnassigned) ∧
  T.kT.fields.find? (fun f => f.name == "backtrace" && !f.isStatic) = some B.fBack ∧ T.kT.fields.find? (fun f => f.name == "depth" && !f.isStatic) = some fd
set_option maxHeartbeats 4000000 in
theorem own_thr {args : Array Value} {s : State} {pl : Platform} (po : pl.frameOwnsMonitors = true) (pf : pl.finalization = false) (pm : pl.magicAccessors = ({} : Platform).magicAccessors) (h : ∀ d ∈ own_tw, d.before args s = true) :
    ∃ (T : ThrowableC) (B : BackC) (fd : Field), OwnThr T B fd pl s := by
  have w : ∀ d ∈ own_tw, d.holds args s none s [] = true := h
  simp only [own_tw, List.forall_mem_cons] at w
  obtain ⟨wNat, wIn0, wInF, wCoF, wSup, wIni, wInO, wCoO, wL1, wL27, wL202, wF7, wY7, wF17, wY17, wF24, wY24, wFB, wYB, wYD, wSoB, wSoD, wF13, wS13, wF20, wS20, -⟩ := w
  -- the class
  obtain ⟨⟨cT, i0⟩, m0, n0, v0, nat0, cod0, lk0, sg0⟩ := Cond.native_spec wNat
  have fT : s.vm.findClass tN = some cT := findClass_of_methodNamed n0
  obtain ⟨kT, hk, hkn⟩ := Vm.findClass_spec fT
  obtain ⟨_, kT', _, -, hk', -, -, -, -, hni⟩ := Cond.superclass_spec fT wSup
  cases hk'.symm.trans hk
  -- its two methods and Object's constructor
  obtain ⟨i0', m0', n0', v0', at0, st0, ab0, nm0, ds0⟩ := Cond.ownMethod (x := tFill0) fT hk wIn0
  cases n0'.symm.trans n0
  cases v0'.symm.trans v0
  obtain ⟨iF, mF, nF, vF, atF, stF, abF, -, -⟩ := Cond.ownMethod (x := tFill) fT hk wInF
  obtain ⟨mF', cF, vF', coF, byF, mlF, rtF, lkF, -, sgF⟩ := Cond.codeSync_spec nF wCoF
  cases vF'.symm.trans vF
  obtain ⟨mO, kO, nO, vO, stO, abO⟩ := Cond.instanceMethod_spec wInO
  obtain ⟨kO', cO, vO', coO, byO, -, -, lkO, -, sgO⟩ := Cond.code_spec nO wCoO
  cases vO'.symm.trans vO
  obtain ⟨clO, hclO, nmO⟩ := Vm.findClass_spec (findClass_of_methodNamed nO)
  obtain ⟨neO, deO⟩ := name_of_methodNamed nO vO
  have sF : mF.sig = ⟨[], some (.object tN)⟩ := Option.some.inj (sgF.symm.trans (by decide +kernel))
  have s0 : m0.sig = ⟨[.int], some (.object tN)⟩ := Option.some.inj (sg0.symm.trans (by decide +kernel))
  have sO : kO.sig = ⟨[], none⟩ := Option.some.inj (sgO.symm.trans (by decide +kernel))
  -- the links of its pool
  obtain ⟨p1, q1, cf, l1, r1, hcf, e1⟩ := Cond.linkedMethod fT hk nO wL1 pl pm
  obtain ⟨p27, q27, cf', l27, r27, hcf', e27⟩ := Cond.linkedMethod fT hk nF wL27 pl pm
  cases hcf'.symm.trans hcf
  obtain ⟨p202, q202, cf', l202, r202, hcf', e202⟩ := Cond.linkedMethod fT hk n0 wL202 pl pm
  cases hcf'.symm.trans hcf
  obtain ⟨p7, i7, f7, l7, r7, a7, s7, z7, -, -, -⟩ := Cond.ownField (t := .object tN) fT hk (by decide +kernel) wF7 wY7 pl pm
  obtain ⟨p17, i17, f17, l17, r17, a17, s17, z17, n17, -, g17⟩ := Cond.ownField (t := .array (.object "java/lang/StackTraceElement")) fT hk (by decide +kernel) wF17 wY17 pl pm
  obtain ⟨p24, i24, f24, l24, r24, a24, s24, z24, n24, -, g24⟩ := Cond.ownField (t := .object "java/util/List") fT hk (by decide +kernel) wF24 wY24 pl pm
  obtain ⟨pB, iB, fB, lB, rB, aB, sB, -, nB, -, gB⟩ := Cond.ownField (t := .object "java/lang/Object") fT hk (by decide +kernel) wFB wYB pl pm
  obtain ⟨p13, i13, f13, aS, _, l13, r13, a13, s13, -, -, hst, -, -, -, -, g13⟩ := Cond.ownStatic (t := .array (.object "java/lang/StackTraceElement")) fT hk (by decide +kernel) wF13 wS13 pl pm
  obtain ⟨p20, i20, f20, _, _, l20, r20, a20, s20, -⟩ := Cond.ownStatic (t := .object "java/util/List") fT hk (by decide +kernel) wF20 wS20 pl pm
  obtain ⟨_, _, cD, kD, iD, fD, -, -, gD, sD, -⟩ := Cond.lays_spec wYD
  cases (Cond.lays_declared wYD gD).symm.trans fT
  obtain ⟨hkD, aD⟩ := State.fieldFound?_spec gD
  cases hkD.symm.trans hk
  obtain ⟨nD, -⟩ := State.fieldFound?_type gD (t := .int) (by decide +kernel)
  refine ⟨{ cT := cT, kT := kT, cO := cT, aS := aS, fillIdx := iF, fill0Idx := i0, initSIdx := iF, obj := mO, kObj := clO, methFill := mF, methFill0 := m0, methInitS := mF, methObj := kO, codeFill := cF, codeInitS := cF, codeObj := cO,
              fBack := fB, fDepth := fD, fStack := f17, fCause := f7, fSupp := f24, fMsg := f7, fUnassigned := f13, fSentinel := f20, cfT := cf, ci1 := p1, n1 := q1, ci27 := p27, n27 := q27, ci202 := p202, n202 := q202,
              ci7 := p7, i7 := i7, ci13 := p13, i13 := i13, ci17 := p17, i17 := i17, ci20 := p20, i20 := i20, ci24 := p24, i24 := i24 }, { ci198 := pB, i198 := iB, fBack := fB }, fD,
    ⟨⟨po, pf, hk, hkn, Vm.findClass_boot fT hk, hni, Cond.initialized_spec fT hk wIni, hst, atF, coF, byF, mlF, lkF, stF, abF, rtF, by rw [sF], at0, nm0, ds0, by rw [s0], st0, nat0, cod0, lk0, ab0, s17, z17, s13, hclO, nmO, vO, neO, stO, abO,
        by rw [deO]; exact lookupSpecial_of_named nO vO stO, by rw [sO]; rfl, coO, byO, lkO, s7, z7, s20, s24, z24, s7, z7, Cond.lays_apart wY17 wY24 g17 g24 (by rw [n17, n24]; decide), hcf, l1, r1, e1, l27, r27, e27, l202, r202, e202, l7, r7, a7, l13, r13, a13, l17, r17, a17, l20, r20, a20, l24, r24, a24⟩,
      ⟨lB, rB, aB, sB⟩, fT, nF, n0, g17, gB, ⟨iD, gD⟩, g13, Cond.soleField_find fT hk wSoB aB nB sB, Cond.soleField_find fT hk wSoD aD nD sD⟩⟩
/-- 'this.fillInStackTrace()' in a constructor of Throwable, on an ApiException -/
theorem own_fill {p : Program} {l : Launch} {e : Env} {R : Room} {s : State} {m : MethodId} {args : Array Value} {below : List Frame} {meth : Method} {c : Code} {V : State} {locs : List Loc} {cells slots : Nat} {Z : State} {a0 : Array Value} {h : Heap}
    (X : Stand p l e R s m args below meth c V locs cells slots) (hx : p.tables.exec = Jvm.exec) (hst : l.stackTraces = true) (hZ : Z.Warmed39 s.vm) (hown : s.vm.findClass tN = some m.cls) (hw : ∀ d ∈ tables_1, d.before a0 Z = true) {k : Nat} (wi : (Cond.instantiable "com/example/rollbook/rollbook/http/ApiException" k).before a0 Z = true)
    (hT0 : ThS Z s.heap) (hTK : s.vm.MethodsKnown) (hBl : s.vm.FramesKnown below) (eT : V.heap = h) {a ua : Addr} (E : Exa Z h a "com/example/rollbook/rollbook/http/ApiException") (N : Unt h a) (FB : Fld Z h a tN "backtrace" obD .null) (FS : Fld Z h a tN "stackTrace" steD (.ref ua)) (SU : Sta Z h tN "UNASSIGNED_STACK" steD (.ref ua))
    {g : JFrame} (hg : g.method = m) (hsize : g.locals.size = c.maxLocals) (hs : g.stack = [.ref a]) (hr : 2 * g.monitorRoom + 0 ≤ 0) (hd : decode c.code g.pc = .ok (.invokevirtual 27, 3)) (hf : 2 < R.frames) (hl : 0 + 42 ≤ R.locals) (hc : cells + 1 ≤ R.cells) (hsl : slots + 2752 ≤ R.slots) :
    ∃ (V' : State) (h' : Heap), Stand p l e R s m args below meth c V' (locs ++ sixLocs Z a) (cells + 1) (slots + 2752) ∧ V'.heap = h' ∧ Kp Z h h' a ∧
      ∀ target, Steps p.tables e below (V'.setTop { g with pc := g.pc + 3, stack := [.ref a] }) target → Steps p.tables e below (V.setTop g) target := by
  subst eT
  have W : ∀ d ∈ own_tw, d.before args s = true := own_twAt hT0 hZ hw
  obtain ⟨T, B, fd, OL, OB, OT, OF, O0, OS, OR, ⟨iD, gD⟩, OU, OX, OY⟩ := own_thr (pl := e.platform) (by rw [X.admits.platform]) (by rw [X.admits.platform]) (by rw [X.admits.platform]) W
  have htr : e.platform.stackTraces = true := by rw [X.admits.platform]; exact hst
  -- the object's cell
  obtain ⟨cell, kc, h1, h2, h3, -, h5⟩ := E
  obtain ⟨cell', u1, u2, u3⟩ := N
  cases u1.symm.trans h1
  obtain ⟨_, kc', i1, i2, i3, -⟩ := Cond.instantiable_spec wi
  cases i1.symm.trans h2
  cases i2.symm.trans h3
  obtain ⟨kx, x1, x2⟩ := hZ.alike.2.2 _ _ h3
  have xf : s.vm.findClass "com/example/rollbook/rollbook/http/ApiException" = some cell.cls := by rw [hZ.alike.findClass]; exact h2
  have xo : kx.kind = .ordinary := by rw [x2]; exact i3
  have xs : cell.slots.size = kx.instanceTypes.size := by rw [x2]; exact h5 i3
  have tk : ∀ {f : Field} {v : Value}, kx.instanceTypes[f.slot]? = some f.type → fits f.type v = true → Jvm.Takes s cell f v := fun {f v} q1 q2 => by
    obtain ⟨y1, y2⟩ := Jvm.Takes.of_laid (v := v) x1 xo q1 q2
    exact ⟨by rw [xs]; simpa using y1, by rw [u2]; exact y2⟩
  -- its fields
  obtain ⟨c1, _, _, _, fS, b1, b2, -, -, -, -, b7⟩ := FS
  cases b1.symm.trans h1
  obtain ⟨_, b3, -⟩ := State.fieldFound?_setVm (s := Z) hZ.alike b2
  cases (show s.fieldFound? tN "stackTrace" steD = _ from b3).symm.trans OS
  obtain ⟨c1, _, _, _, fB, d1, d2, -, -, -, -, d7⟩ := FB
  cases d1.symm.trans h1
  obtain ⟨_, d3, -⟩ := State.fieldFound?_setVm (s := Z) hZ.alike d2
  cases (show s.fieldFound? tN "backtrace" obD = _ from d3).symm.trans OR
  -- the static
  obtain ⟨_, _, _, _, sa, cS, t1, -, -, t4, t5, t6, t7⟩ := SU
  obtain ⟨_, t8, t9⟩ := State.fieldFound?_setVm (s := Z) hZ.alike t1
  cases (show s.fieldFound? tN "UNASSIGNED_STACK" steD = _ from t8).symm.trans OU
  have hsa : T.kT.statics = some sa := by rw [t9]; exact t4
  cases hsa.symm.trans OL.statics
  have hne : T.aS ≠ a := fun q => by
    rw [q, h1] at t5
    rw [← Option.some.inj t5, u2] at t6
    cases t6
  have hsel0 : selectMethod e.platform s.vm cell.cls T.fill0 = .method T.fill0 := by
    obtain ⟨_, _, _, q1, q2, q3, q4, -⟩ := Cond.selects_spec (W (.selects "com/example/rollbook/rollbook/http/ApiException" tFill0 tFill0) (by simp [own_tw]))
    cases q1.symm.trans xf
    cases q2.symm.trans (State.methodFound?_of_named O0 (by decide))
    cases q3.symm.trans O0
    rw [Launch.admits_selectMethod X.admits]; exact q4
  obtain ⟨comp, cO, kO, -, -, hkO, hkdO, hO⟩ := Cond.arrayOver_spec (W (.arrayOver (.object "java/lang/Object")) (by simp [own_tw]))
  have yS := (Cond.laysAt xf x1 OS (W (.lays "com/example/rollbook/rollbook/http/ApiException" tN "stackTrace" steD) (by simp [own_tw]))).1
  have yB := (Cond.laysAt xf x1 OR (W (.lays "com/example/rollbook/rollbook/http/ApiException" tN "backtrace" obD) (by simp [own_tw]))).1
  have yD := (Cond.laysAt xf x1 gD (W (.lays "com/example/rollbook/rollbook/http/ApiException" tN "depth" "I") (by simp [own_tw]))).1
  have zS := (State.fieldFound?_type OS (t := .array (.object "java/lang/StackTraceElement")) (by decide +kernel)).2
  have zB := (State.fieldFound?_type OR (t := .object "java/lang/Object") (by decide +kernel)).2
  have zD := (State.fieldFound?_type gD (t := .int) (by decide +kernel)).2
  have wsel := W (.selects "com/example/rollbook/rollbook/http/ApiException" tFill tFill) (by simp [own_tw])
  obtain ⟨v6, vm6, ⟨V6, L6, c6, n6⟩, -, X6, ⟨hv6, vm7, lines, hli, -, hU, eL, ec, en⟩, st6⟩ := X.virtualBack hx (own := tN) (C := "com/example/rollbook/rollbook/http/ApiException") (index := 27) (y := tFill) (z := tFill) hown (W _ (by simp [own_tw])) (W _ (by simp [own_tw])) (notFace_of_selects wsel) wsel (W _ (by simp [own_tw])) (by decide)
    (Jvm.Free.Str.fillPays (l := l) (W := 0) hx htr T OL OF (u0 := ⟨.ref ua, rfl⟩) (by simp) (self := a) (cell := cell) (cellS := cS) (fun _ => by rw [u2]; simp) (by rw [u2]; simp) (by rw [u3]) (by rw [u3]) b7 hsel0 hne (fun q => by rw [q] at t6; cases t6) t7 (tk yS (by rw [zS]; exact fits_refV_array _ _))
      ⟨B, OB, d7⟩ hTK hBl OT hO hkO hkdO OX OY (fun x => tk yB (by rw [zB]; rfl)) (fun x => tk yD (by rw [zD]; rfl)) hf hl)
    (b := a) (cB := cell.cls) xf ⟨cell, h1, rfl, by rw [u2]; rfl⟩ hg hsize (Steps.refl _) (argsL := []) (rest := [])
    (fun sig q => by rw [show parseMethodDescriptor tFill.desc = some ⟨[], some (.object tN)⟩ from by decide +kernel] at q; rw [← Option.some.inj q]; rfl) hs hr hd
    (fun vmx _ => ⟨rfl, hc, hsl, h1, t5⟩)
  dsimp only [Pt.U, Pt.locs, Pt.cells, Pt.slots] at X6 hU eL ec en st6
  subst hv6 eL ec en
  have lt := (Array.getElem?_eq_some_iff.mp h1).1
  have hL : ∀ x ∈ ([⟨a, B.fBack.slot⟩, ⟨a, fd.slot⟩, ⟨a, T.fStack.slot⟩] : List Loc), Six s a x := fun x q => by
    simp only [List.mem_cons, List.not_mem_nil, or_false] at q
    rcases q with rfl | rfl | rfl
    · exact ⟨("backtrace", obD), _, by simp [sixNames], ⟨_, _, _, OR⟩, rfl⟩
    · exact ⟨("depth", "I"), _, by simp [sixNames], ⟨_, _, _, gD⟩, rfl⟩
    · exact ⟨("stackTrace", steD), _, by simp [sixNames], ⟨_, _, _, OS⟩, rfl⟩
  have hK : Jvm.Free.Exc.Kept V V6 [⟨a, B.fBack.slot⟩, ⟨a, fd.slot⟩, ⟨a, T.fStack.slot⟩] := fun y cy hy => by
    have ly := (Array.getElem?_eq_some_iff.mp hy).1
    have hh : V6.heap = (V.heap.push (traceHolder cO lines)).setIfInBounds a (Jvm.Free.Str.filledOn T.toThrowableT B.fBack fd cell ⟨.ref ua, rfl⟩ V.heap.size lines.length.toInt32) := by rw [hU]; rfl
    by_cases q : y = a
    · subst q
      cases hy.symm.trans h1
      refine ⟨_, by rw [hh, Array.getElem?_setIfInBounds_self_of_lt (by rw [Array.size_push]; omega)], rfl, by simp [Jvm.Free.Str.filledOn, Cell.setSlot], fun i hi => ?_⟩
      simp only [List.mem_cons, Loc.mk.injEq, true_and, List.not_mem_nil, or_false, not_or] at hi
      simp [Jvm.Free.Str.filledOn, Cell.setSlot, Array.getElem?_setIfInBounds, Ne.symm hi.1, Ne.symm hi.2.1, Ne.symm hi.2.2]
    · exact ⟨cy, by rw [hh, Array.getElem?_setIfInBounds_ne (Ne.symm q), Array.getElem?_push_lt ly, ← hy, Array.getElem?_eq_getElem ly], rfl, rfl, fun _ _ => rfl⟩
  exact ⟨V6, V6.heap, (wider X6 hZ hL).more (Nat.le_refl _) (Nat.add_le_add_left (traceHolder_size_le cO hli) _), rfl, kp_of hZ rfl hL hK, fun target q => st6.trans q⟩
/-- a field of the exception's own class lies apart from Throwable's six -/
theorem own_six {Z : State} {a0 : Array Value} (hw : ∀ d ∈ tables_1, d.before a0 Z = true) {O n d : String} {ty : FieldType} (Lf : Laid Z a0 "com/example/rollbook/rollbook/http/ApiException" O n d) (ht : parseFieldDescriptor d = some ty) (hn : ∀ nd ∈ sixNames, nd.1 ≠ n) : ∀ nd ∈ sixNames, Jvm.RoadKit.slotOf Z tN nd.1 nd.2 ≠ Jvm.RoadKit.slotOf Z O n d := fun nd q => by
  have hne := hn nd q
  have hl : (Cond.lays "com/example/rollbook/rollbook/http/ApiException" tN nd.1 nd.2).before a0 Z = true := hw _ ((by decide +kernel : ∀ z ∈ sixNames, (Cond.lays "com/example/rollbook/rollbook/http/ApiException" tN z.1 z.2) ∈ tables_1) nd q)
  obtain ⟨t, ht'⟩ : ∃ t, parseFieldDescriptor nd.2 = some t := Option.isSome_iff_exists.mp ((by decide +kernel : ∀ z ∈ sixNames, (parseFieldDescriptor z.2).isSome = true) nd q)
  exact slot_ne (Or.inl hl) Lf hne ht' ht
end OwnExc

def own_EL : List (String × Nat) := [("com/example/rollbook/rollbook/http/ApiException", 45), ("com/example/rollbook/rollbook/http/ApiException", 50), ("com/example/rollbook/rollbook/http/ApiExceptionBodyTooLargePinLaw", 42), ("com/example/rollbook/rollbook/http/ApiExceptionBodyTooLargePinLaw", 48), ("com/example/rollbook/rollbook/http/ApiExceptionBodyTooLargePinLaw", 50), ("com/example/rollbook/rollbook/http/ApiExceptionBodyTooLargePinLaw", 52), ("com/example/rollbook/rollbook/http/ApiExceptionBodyTooLargePinLaw", 80)]
theorem own_EW {Z : State} {a0 : Array Value} (hw : ∀ d ∈ tables_1, d.before a0 Z = true) : EW Z a0 own_EL := (EW.cons (hw _ (List.mem_of_getElem? (i := 28) rfl)) (by decide +kernel) (EW.cons (hw _ (List.mem_of_getElem? (i := 129) rfl)) (by decide +kernel) (EW.cons (hw _ (List.mem_of_getElem? (i := 262) rfl)) (by decide +kernel) (EW.cons (hw _ (List.mem_of_getElem? (i := 291) rfl)) (by decide +kernel) (EW.cons (hw _ (List.mem_of_getElem? (i := 292) rfl)) (by decide +kernel) (EW.cons (hw _ (List.mem_of_getElem? (i := 293) rfl)) (by decide +kernel) (EW.cons (hw _ (List.mem_of_getElem? (i := 307) rfl)) (by decide +kernel) EW.nil)))))))
open Jvm.Free.SBG in
theorem own_size {x : Int32} {n : Nat} (hn : n ≤ 2 ^ 31) (hx : (if x < 0 then x else -x) = negI n) : strSizeOf x = Int32.ofNat (own_dec x n).length := by
  rw [own_declen]
  unfold strSizeOf GetChars.sgn
  by_cases h : x < 0
  · rw [if_pos h] at hx; rw [if_pos h, if_pos h, hx, sizeLoop_digits hn, Int32.ofNat_add]; rfl
  · rw [if_neg h] at hx; rw [if_neg h, if_neg h, hx, sizeLoop_digits hn, Int32.ofNat_add]; rfl
def own_Q_ss (x : Int32) (n : Nat) (h0 : Heap) (n0 : Nat) (v : Option Value) (h : Heap) (L : List Loc) : Prop := v = some (.int (Int32.ofNat (own_dec x n).length)) ∧ Fr n0 L ∧ h = h0
open Jvm.Free.SBG in
theorem own_ss (l : Launch) (Z : State) (a0 : Array Value) (hw : ∀ d ∈ tables_1, d.before a0 Z = true) (ws : List Jvm.Cond) (x : Int32) (n : Nat) (h0 : Heap) (n0 : Nat) (hn : n ≤ 2 ^ 31) (hx : (if x < 0 then x else -x) = negI n) :
    MetFree l (⟨"java/lang/Integer", "stringSize", "(I)I"⟩ : MethodName) (head1 (Jvm.Cond.code (⟨"java/lang/Integer", "stringSize", "(I)I"⟩ : MethodName) jdk_33_method_13_code 4 (some .int) :: ws) ({ frames := 1, cells := 0, slots := 0, locals := 40 } : Room)) (fun A0 U0 => A0 = #[.int x] ∧ Z.Warmed39 U0.vm ∧ U0.heap = h0) (fun _ _ _ _ _ => True) (fun _ U0 o0 U1 => ∃ v0 L0, o0 = .returned v0 ∧ own_Q_ss x n h0 n0 v0 U1.heap L0 ∧ FrameEnd U0 o0 U1 L0 0 0) := by
  refine own_MetFree (StrSize.gets l x) rfl ?_ (fun _ _ _ _ _ q => q) ?_
  · rintro args s ⟨rfl, hZ, hh⟩ -
    refine ⟨?_, rfl⟩
    simp only [StrSize.spec, Cond.before_and, Bool.and_eq_true]
    exact ⟨by simp [Cond.before, Cond.holds, Cond.value], mv hZ (hw _ (List.mem_of_getElem? (i := 119) rfl))⟩
  · rintro args s o t ⟨rfl, hZ, hh⟩ ⟨ho, ht, hf⟩
    exact ⟨_, [], ho, ⟨by rw [own_size hn hx], Fr.nil n0, by rw [ht, hh]⟩, hf⟩
def own_Q_gc (Z : State) (x : Int32) (n k0 cap : Nat) (da : Addr) (kd : ClassId) (vd : List Value) (h0 : Heap) (n0 : Nat) (v : Option Value) (h : Heap) (L : List Loc) : Prop := v = some (.int (Int32.ofNat k0)) ∧ Fr n0 L ∧ Keep h0 h [da] ∧ ∃ vd' : List Value, Arv Z h da kd .byte (Int32.ofNat cap) vd' (.int (0 : Int32)) ∧ vd'.length = cap ∧ vd'.take (k0 + (own_dec x n).length) = vd.take k0 ++ ((own_dec x n).map fun c => c.toInt8.toInt32).map Value.int
open Jvm.Free.SBG in
theorem own_gc (l : Launch) (Z : State) (a0 : Array Value) (hw : ∀ d ∈ tables_1, d.before a0 Z = true) (ws : List Jvm.Cond) (x : Int32) (n k0 cap : Nat) (da ist d1 d2 : Addr) (D1 D2 : Cell) (kd : ClassId) (vd : List Value) (h0 : Heap) (n0 : Nat) (O0 : Old Z n0 h0) (hn : n ≤ 2 ^ 31) (hx : (if x < 0 then x else -x) = negI n)
    (T1 : Tbl Z "DigitOnes" ist d1 D1) (T2 : Tbl Z "DigitTens" ist d2 D2) (o1 : Ones D1) (o2 : Tens D2) (Va : Arv Z h0 da kd .byte (Int32.ofNat cap) vd (.int (0 : Int32))) (hcap : cap ≤ 4000) (hvd : vd.length = cap) (hfit : k0 + (own_dec x n).length ≤ cap) (g_da : n0 ≤ da) :
    MetFree l (⟨"java/lang/Integer", "getChars", "(II[B)I"⟩ : MethodName) (head1 (Jvm.Cond.code (⟨"java/lang/Integer", "getChars", "(II[B)I"⟩ : MethodName) jdk_33_method_12_code 7 (some .int) :: ws) ({ frames := 1, cells := 0, slots := 0, locals := 60 } : Room)) (fun A0 U0 => A0 = #[.int x, .int (Int32.ofNat (k0 + (own_dec x n).length)), .ref da] ∧ Z.Warmed39 U0.vm ∧ U0.heap = h0) (fun _ _ _ _ _ => True) (fun _ U0 o0 U1 => ∃ v0 L0, o0 = .returned v0 ∧ own_Q_gc Z x n k0 cap da kd vd h0 n0 v0 U1.heap L0 ∧ FrameEnd U0 o0 U1 L0 0 0) := by
  obtain ⟨cell, ⟨ha1, ha2, ha3⟩, hk, hsz, hnn, hH, hF⟩ := Va
  rw [own_cl (by omega)] at hsz
  have hold : ∀ (y : Addr) (cy : Cell), Z.heap[y]? = some cy → y ≠ da := fun y cy q e => by
    subst e
    have := (Array.getElem?_eq_some_iff.mp q).1
    have := O0.1
    omega
  have hd1 : Z.heap[d1]? = some D1 := T1.choose_spec.choose_spec.choose_spec.choose_spec.choose_spec.2.2.2.2.2.2.2.1
  have hd2 : Z.heap[d2]? = some D2 := T2.choose_spec.choose_spec.choose_spec.choose_spec.choose_spec.2.2.2.2.2.2.2.1
  have hs := T1.choose_spec.choose_spec.choose_spec.choose_spec.choose_spec.2.2.2.2.1
  refine own_MetFree (GetChars.gets l { x := x, n := n, idx := k0 + (own_dec x n).length, da := da, A := cell, st := ist, d1 := d1, D1 := D1, d2 := d2, D2 := D2 }) rfl ?_ (fun _ _ _ _ _ q => q) ?_
  · rintro args s ⟨rfl, hZ, hh⟩ -
    refine ⟨?_, rfl, by rw [hh]; exact ha1, State.isArrayOf_alike hZ.alike ha2, ha3, by rw [hsz]; omega, by rw [hsz]; exact hfit, by show Jvm.Free.SBG.digits n + GetChars.sgn x ≤ k0 + (own_dec x n).length; rw [own_declen]; omega, hn, hx, T1.move hZ.alike (fun c q => by rw [hh]; exact O0.2.2 _ _ q) (by rw [hh]; exact O0.2.2 _ _ hd1), T2.move hZ.alike (fun c q => by rw [hh]; exact O0.2.2 _ _ q) (by rw [hh]; exact O0.2.2 _ _ hd2), (hold _ _ hs).symm, (hold _ _ hd1).symm, (hold _ _ hd2).symm⟩
    simp only [GetChars.spec, GetChars.tab, Cond.before_and, Bool.and_eq_true]
    exact ⟨by simp [Cond.before, Cond.holds, Cond.value], mv hZ (hw _ (List.mem_of_getElem? (i := 127) rfl)), mv hZ (hw _ (List.mem_of_getElem? (i := 128) rfl)), mv hZ (hw _ (List.mem_of_getElem? (i := 308) rfl))⟩
  · rintro args s o t ⟨rfl, hZ, hh⟩ ⟨ho, ht, hkeep, L, hL, hf⟩
    have hby : ∀ i, i < cell.slots.size → fits .byte (cell.slots.getD i .null) = true := fun i hi => by
      have e := hH i hi
      have : cell.slots.getD i .null = vd.getD i (.int (0 : Int32)) := by rw [Array.getD_eq_getD_getElem?, e]; rfl
      rw [this]; exact hF i hi
    obtain ⟨f1, f2, f3, f4, -⟩ := GetChars.outCell_facts { x := x, n := n, idx := k0 + (own_dec x n).length, da := da, A := cell, st := ist, d1 := d1, D1 := D1, d2 := d2, D2 := D2 } hn (by show Jvm.Free.SBG.digits n + GetChars.sgn x ≤ k0 + (own_dec x n).length; rw [own_declen]; omega) hby
    have harr := own_gcArr { x := x, n := n, idx := k0 + (own_dec x n).length, da := da, A := cell, st := ist, d1 := d1, D1 := D1, d2 := d2, D2 := D2 } o1 o2 hn (k0 := k0) (vd := vd) rfl (by show k0 + (own_dec x n).length ≤ cell.slots.size; omega) (fun j hj => by
      rw [hH j (by omega), List.getD_eq_getElem?_getD, List.getElem?_eq_getElem (by omega)]; rfl) (by omega)
    generalize GetChars.outCell { x := x, n := n, idx := k0 + (own_dec x n).length, da := da, A := cell, st := ist, d1 := d1, D1 := D1, d2 := d2, D2 := D2 } = oc at ht f1 f2 f3 f4 harr
    have hsb := hf.2.2
    refine ⟨_, L, ho, ⟨by show some (Value.int (Int32.ofNat (k0 + (own_dec x n).length - (Jvm.Free.SBG.digits n + GetChars.sgn x)))) = _; rw [own_declen, Nat.add_sub_cancel], fun y hy => by rw [hL y hy]; exact g_da, ⟨by have := hsb.2.1; rw [hh] at this; exact this, fun y cy q ny => hkeep y cy (by simpa using ny) (by rw [hh]; exact q), fun y cy q => ?_⟩, oc.slots.toList, ⟨oc, ⟨ht, ?_, by rw [f2]; exact ha3⟩, by rw [f1]; exact hk, by rw [f3, own_cl (by omega)]; exact hsz, hnn, ?_, ?_⟩, ?_, ?_⟩, hf⟩
    · by_cases e : y = da
      · subst e; cases ha1.symm.trans q; exact ⟨oc, ht, f1, f2, f3⟩
      · exact ⟨cy, hkeep y cy e (by rw [hh]; exact q), rfl, rfl, rfl⟩
    · obtain ⟨b1, kk, b2, comp, b3⟩ := ha2
      exact ⟨by rw [f2]; exact b1, kk, by rw [f1]; exact b2, comp, b3⟩
    · intro i hi; rw [List.getD_eq_getElem?_getD, Array.getElem?_toList, Array.getElem?_eq_getElem hi]; rfl
    · intro i hi
      have := f4 i hi
      rw [Array.getD_eq_getD_getElem?, Array.getElem?_eq_getElem hi] at this
      rw [List.getD_eq_getElem?_getD, Array.getElem?_toList, Array.getElem?_eq_getElem hi]; exact this
    · rw [Array.length_toList, f3]; exact hsz
    · exact harr

theorem own_d3_0 : decode jdk_68_method_2_code 0 = .ok (.aload_n 0, 1) := by decide +kernel
theorem own_d3_1 : decode jdk_68_method_2_code 1 = .ok (.invokespecial 3, 3) := by decide +kernel
theorem own_d3_4 : decode jdk_68_method_2_code 4 = .ok (.getstatic 18, 3) := by decide +kernel
theorem own_d3_7 : decode jdk_68_method_2_code 7 = .ok (.ifCond .eq 18, 3) := by decide +kernel
theorem own_d3_10 : decode jdk_68_method_2_code 10 = .ok (.aload_n 0, 1) := by decide +kernel
theorem own_d3_11 : decode jdk_68_method_2_code 11 = .ok (.iload_n 1, 1) := by decide +kernel
theorem own_d3_12 : decode jdk_68_method_2_code 12 = .ok (.newarray .byte, 2) := by decide +kernel
theorem own_d3_14 : decode jdk_68_method_2_code 14 = .ok (.putfield 15, 3) := by decide +kernel
theorem own_d3_17 : decode jdk_68_method_2_code 17 = .ok (.aload_n 0, 1) := by decide +kernel
theorem own_d3_18 : decode jdk_68_method_2_code 18 = .ok (.iconst 0, 1) := by decide +kernel
theorem own_d3_19 : decode jdk_68_method_2_code 19 = .ok (.putfield 22, 3) := by decide +kernel
theorem own_d3_22 : decode jdk_68_method_2_code 22 = .ok (.goto 16, 3) := by decide +kernel
theorem own_d3_38 : decode jdk_68_method_2_code 38 = .ok (.return_, 1) := by decide +kernel
theorem own_ef_asbInit (m : MethodId) (x0 : Addr) (x1 : Int32) : entryFrame m #[(.ref x0), (.int x1)] 2 = mkF m 0 #[.val (.ref x0), .val (.int x1)] [] := by first | (simp [entryFrame, mkF, argsToLocals, Value.category]; done) | rfl
theorem own_pn_java_lang_AbstractStringBuilder : plainName "java/lang/AbstractStringBuilder" = true := by first | (simp [plainName, overriddenIn]; done) | decide +kernel
def own_Q_asbInit (Z : State) (ob : Addr) (zc : Int32) (u0 u1 : Value) (h0 : Heap) (n0 : Nat) (v : Option Value) (h : Heap) (L : List Loc) : Prop := v = none ∧ Fr n0 L ∧ Keep h0 h [ob] ∧ ∃ (da : Addr) (kd : ClassId), Fld Z h ob "java/lang/AbstractStringBuilder" "value" "[B" (.ref da) ∧ Fld Z h ob "java/lang/AbstractStringBuilder" "coder" "B" (.int (0 : Int32)) ∧ Fld Z h ob "java/lang/AbstractStringBuilder" "count" "I" (.int (0 : Int32)) ∧ Arv Z h da kd .byte (Int32.ofNat 16) (List.replicate 16 (.int (0 : Int32))) (.int (0 : Int32)) ∧ h0.size ≤ da
set_option maxRecDepth 65536 in
set_option maxHeartbeats 40000000 in
theorem own_asbInit (l : Launch) (Z : State) (a0 : Array Value) (hw : ∀ d ∈ tables_1, d.before a0 Z = true) (ws : List Jvm.Cond) (ob : Addr) (zc : Int32) (u0 u1 : Value) (h0 : Heap) (n0 : Nat) (Z0 : n0 ≤ h0.size) (O0 : Old Z n0 h0) (SCS : Sta Z Z.heap "java/lang/String" "COMPACT_STRINGS" "Z" (.int zc)) (hzc : ¬ zc = 0) (E : Exa Z h0 ob "java/lang/StringBuilder") (Fv : Fld Z h0 ob "java/lang/AbstractStringBuilder" "value" "[B" u0) (Fc : Fld Z h0 ob "java/lang/AbstractStringBuilder" "coder" "B" u1) (Fn : Fld Z h0 ob "java/lang/AbstractStringBuilder" "count" "I" (.int (0 : Int32))) (g_ob : n0 ≤ ob) :
    MetFree l (⟨"java/lang/AbstractStringBuilder", "<init>", "(I)V"⟩ : MethodName) (head1 (Jvm.Cond.code (⟨"java/lang/AbstractStringBuilder", "<init>", "(I)V"⟩ : MethodName) jdk_68_method_2_code 2 none :: ws) ({ frames := 1, cells := 1, slots := 16, locals := 12 } : Room)) (fun A0 U0 => A0 = #[(.ref ob), (.int (16 : Int32))] ∧ Z.Warmed39 U0.vm ∧ U0.heap = h0) (fun _ _ _ _ _ => True) (fun _ U0 o0 U1 => ∃ v0 L0, o0 = .returned v0 ∧ own_Q_asbInit Z ob zc u0 u1 h0 n0 v0 U1.heap L0 ∧ FrameEnd U0 o0 U1 L0 ({ frames := 1, cells := 1, slots := 16, locals := 12 } : Room).cells ({ frames := 1, cells := 1, slots := 16, locals := 12 } : Room).slots) := by
  refine MetFree.of_bodySF (plainFor_of_name own_pn_java_lang_AbstractStringBuilder) hisR ?_
  intro p e s m args below meth c s₁ Bd hml0 hP hK
  obtain ⟨rfl, hZ, hh⟩ := hP
  have hZs0 := hZ
  have hZs := hZ
  have hx := Bd.exec
  have hby := Bd.bytes
  have hby_ := hby
  have hml : c.maxLocals = 2 := hml0
  have hown : s.vm.findClass "java/lang/AbstractStringBuilder" = some m.cls := findClass_of_methodNamed Bd.named
  have hnm := (name_of_methodNamed Bd.named Bd.method).1
  have X0 : Stand p l e ({ frames := 1, cells := 1, slots := 16, locals := 12 } : Room) s m #[(.ref ob), (.int (16 : Int32))] below meth c s₁ [] 0 0 := Stand.of_body Bd
  have e0 : s₁.heap = h0 := by rw [← hh, Bd.state]; rfl
  have N0 := Fr.nil n0
  refine OwnFin.entry (own_ef_asbInit m ob (16 : Int32)) (fun P' hP' => ?_)
  have lt_ob := own_lt E.lt
  refine OwnFin.adv (B := s₁.setTop (mkF m 1 #[.val (.ref ob), .val (.int (16 : Int32))] [(.ref ob)])) (fun _ k => XS.aloadN X0.here hx rfl (hb hby own_d3_0) rfl rfl k) ?_
  obtain ⟨T1, X1, e1, st1⟩ := initO X0 hx hZ hown (hw _ (List.mem_of_getElem? (i := 18) rfl)) (hw _ (List.mem_of_getElem? (i := 19) rfl)) (hw _ (List.mem_of_getElem? (i := 20) rfl)) e0 (g := (mkF m 1 #[.val (.ref ob), .val (.int (16 : Int32))] [(.ref ob)])) rfl (by rw [hml]; rfl) rfl (hb hby own_d3_1) (by decide) (W := 0) (by show 2 * 0 + _ ≤ _; exact Nat.le_of_eq rfl) (by decide)
  refine OwnFin.adv (B := T1.setTop (mkF m 4 #[.val (.ref ob), .val (.int (16 : Int32))] [])) (fun _ k => st1 _ k) ?_
  obtain ⟨T2, X2, e2, st2⟩ := getS2 X1 hx hZ hown (host := "") (Or.inl (hw _ (List.mem_of_getElem? (i := 21) rfl))) Via.refl e1 (own_staK SCS O0) (g := (mkF m 4 #[.val (.ref ob), .val (.int (16 : Int32))] [])) rfl (hb hby own_d3_4)
  refine OwnFin.adv (B := T2.setTop (mkF m 7 #[.val (.ref ob), .val (.int (16 : Int32))] [(.int zc)])) (fun _ k => st2 _ k) ?_
  have hc7_4 : ¬ (zc = (0 : Int32)) := hzc
  refine OwnFin.adv (B := T2.setTop (mkF m 10 #[.val (.ref ob), .val (.int (16 : Int32))] [])) (fun _ k => XS.ifNo X2.here hx rfl (hb hby own_d3_7) rfl ((if0 _ _).trans (feq hc7_4).1) k) ?_
  refine OwnFin.adv (B := T2.setTop (mkF m 11 #[.val (.ref ob), .val (.int (16 : Int32))] [(.ref ob)])) (fun _ k => XS.aloadN X2.here hx rfl (hb hby own_d3_10) rfl rfl k) ?_
  refine OwnFin.adv (B := T2.setTop (mkF m 12 #[.val (.ref ob), .val (.int (16 : Int32))] [(.int (16 : Int32)), (.ref ob)])) (fun _ k => XS.iloadN X2.here hx rfl (hb hby own_d3_11) rfl k) ?_
  obtain ⟨T3, h3, k3, X3, e3, E3, A3, st3⟩ := newP X2 hx hZ (hw _ (List.mem_of_getElem? (i := 23) rfl)) e2 (g := (mkF m 12 #[.val (.ref ob), .val (.int (16 : Int32))] [(.int (16 : Int32)), (.ref ob)])) rfl (hb hby own_d3_12) rfl (by decide) (cap := 16) (by decide) (by decide) (by decide) (by decide)
  obtain ⟨b3, g3⟩ : ∃ z, z = h0.size := ⟨_, rfl⟩
  rw [← g3] at A3 st3
  have sz4 : h0.size ≤ h3.size := E3.1
  have lt_b3 := own_lt A3.lt
  have V3 : Arv Z h3 b3 k3 .byte (16 : Int32) [(.int (0 : Int32)), (.int (0 : Int32)), (.int (0 : Int32)), (.int (0 : Int32)), (.int (0 : Int32)), (.int (0 : Int32)), (.int (0 : Int32)), (.int (0 : Int32)), (.int (0 : Int32)), (.int (0 : Int32)), (.int (0 : Int32)), (.int (0 : Int32)), (.int (0 : Int32)), (.int (0 : Int32)), (.int (0 : Int32)), (.int (0 : Int32))] (.int (0 : Int32)) := (Arv.new A3 (by decide)).pad (pad_rep [] (.int (0 : Int32)) 16)
  refine OwnFin.adv (B := T3.setTop (mkF m 14 #[.val (.ref ob), .val (.int (16 : Int32))] [(.ref b3), (.ref ob)])) (fun _ k => st3 _ k) ?_
  have Fv5_1 : Exa Z h3 ob "java/lang/StringBuilder" := (E.ext E3)
  have Fv6_1 : Fld Z h3 ob "java/lang/AbstractStringBuilder" "value" "[B" u0 := (Fv.ext E3)
  obtain ⟨T7, h7, X7, e7, W7, st7⟩ := putF X3 hx hZ hown (host := "") (Or.inl (hw _ (List.mem_of_getElem? (i := 24) rfl))) Via.refl e3 Fv6_1 Fv5_1 (Or.inl (hw _ (List.mem_of_getElem? (i := 25) rfl))) (hw _ (List.mem_of_getElem? (i := 7) rfl)) (ty := (.array .byte)) (by decide) rfl rfl (g := (mkF m 14 #[.val (.ref ob), .val (.int (16 : Int32))] [(.ref b3), (.ref ob)])) rfl rfl (hb hby own_d3_14)
  have Fw7 : Fld Z h7 ob "java/lang/AbstractStringBuilder" "value" "[B" (.ref b3) := Fv6_1.same W7
  have sz8 : h3.size ≤ h7.size := Nat.le_of_eq W7.size.symm
  have N7 := Fr.snoc X7 N0 (by omega : n0 ≤ ob)
  refine OwnFin.adv (B := T7.setTop (mkF m 17 #[.val (.ref ob), .val (.int (16 : Int32))] [])) (fun _ k => st7 _ k) ?_
  refine OwnFin.adv (B := T7.setTop (mkF m 18 #[.val (.ref ob), .val (.int (16 : Int32))] [(.ref ob)])) (fun _ k => XS.aloadN X7.here hx rfl (hb hby own_d3_17) rfl rfl k) ?_
  refine OwnFin.adv (B := T7.setTop (mkF m 19 #[.val (.ref ob), .val (.int (16 : Int32))] [(.int (0 : Int32)), (.ref ob)])) (fun _ k => XS.iconst X7.here hx rfl (hb hby own_d3_18) k) ?_
  have Fv9_2 : Exa Z h7 ob "java/lang/StringBuilder" := (Fv5_1.wr W7)
  have Fv10_2 : Fld Z h7 ob "java/lang/AbstractStringBuilder" "coder" "B" u1 := ((Fc.ext E3).other W7 (Or.inr (slot_ne (Or.inl (hw _ (List.mem_of_getElem? (i := 27) rfl))) (Or.inl (hw _ (List.mem_of_getElem? (i := 25) rfl))) (by decide) (t := .byte) (t' := (.array .byte)) (by decide) (by decide))))
  obtain ⟨T11, h11, X11, e11, W11, st11⟩ := putFN X7 hx hZ hown (hw _ (List.mem_of_getElem? (i := 26) rfl)) Via.refl e7 Fv10_2 Fv9_2 (Or.inl (hw _ (List.mem_of_getElem? (i := 27) rfl))) (hw _ (List.mem_of_getElem? (i := 7) rfl)) (ty := .byte) (v' := .int (nar .byte (0 : Int32))) (by decide) rfl (fits_nar_byte _) (g := (mkF m 19 #[.val (.ref ob), .val (.int (16 : Int32))] [(.int (0 : Int32)), (.ref ob)])) rfl rfl (hb hby own_d3_19)
  have Fw11 : Fld Z h11 ob "java/lang/AbstractStringBuilder" "coder" "B" (.int (0 : Int32)) := Fv10_2.same W11
  have sz12 : h7.size ≤ h11.size := Nat.le_of_eq W11.size.symm
  have N11 := Fr.snoc X11 N7 (by omega : n0 ≤ ob)
  refine OwnFin.adv (B := T11.setTop (mkF m 22 #[.val (.ref ob), .val (.int (16 : Int32))] [])) (fun _ k => st11 _ k) ?_
  refine OwnFin.adv (B := T11.setTop (mkF m 38 #[.val (.ref ob), .val (.int (16 : Int32))] [])) (fun _ k => XS.goto X11.here hx rfl (pc0 := 22) (pc' := 38) rfl (hb hby own_d3_22) (by decide) (by decide) k) ?_
  obtain ⟨fs, hr, hrun, hended, hW, hsame⟩ := X11.leave (v := none) (fun _ => rfl)
  refine OwnFin.leaf hP' ⟨_, _, X11.returnOut hx Bd.returns (hb hby own_d3_38) hr, hrun, hended, _, _, rfl, ?_, ⟨_, rfl⟩, hW, hsame.mono (by decide) (by decide)⟩
  have Fv13_3 : Fld Z h11 ob "java/lang/AbstractStringBuilder" "value" "[B" (.ref b3) := (Fw7.other W11 (Or.inr (slot_ne (Or.inl (hw _ (List.mem_of_getElem? (i := 25) rfl))) (Or.inl (hw _ (List.mem_of_getElem? (i := 27) rfl))) (by decide) (t := (.array .byte)) (t' := .byte) (by decide) (by decide))))
  have Fv14_3 : Fld Z h11 ob "java/lang/AbstractStringBuilder" "count" "I" (.int (0 : Int32)) := (((Fn.ext E3).other W7 (Or.inr (slot_ne (Or.inl (hw _ (List.mem_of_getElem? (i := 58) rfl))) (Or.inl (hw _ (List.mem_of_getElem? (i := 25) rfl))) (by decide) (t := .int) (t' := (.array .byte)) (by decide) (by decide)))).other W11 (Or.inr (slot_ne (Or.inl (hw _ (List.mem_of_getElem? (i := 58) rfl))) (Or.inl (hw _ (List.mem_of_getElem? (i := 27) rfl))) (by decide) (t := .int) (t' := .byte) (by decide) (by decide))))
  have Fv15_3 : Arv Z h11 b3 k3 .byte (16 : Int32) [(.int (0 : Int32)), (.int (0 : Int32)), (.int (0 : Int32)), (.int (0 : Int32)), (.int (0 : Int32)), (.int (0 : Int32)), (.int (0 : Int32)), (.int (0 : Int32)), (.int (0 : Int32)), (.int (0 : Int32)), (.int (0 : Int32)), (.int (0 : Int32)), (.int (0 : Int32)), (.int (0 : Int32)), (.int (0 : Int32)), (.int (0 : Int32))] (.int (0 : Int32)) := ((V3.other W7 (own_ne (by omega))).other W11 (own_ne (by omega)))
  rw [show (T11.setFrames fs).heap = h11 from e11]
  exact ⟨rfl, N11, ((((Keep.refl h0 [ob]).ext E3).wr W7 (Or.inl (List.mem_of_getElem? (i := 0) rfl))).wr W11 (Or.inl (List.mem_of_getElem? (i := 0) rfl))), _, _, Fv13_3, Fw11, Fv14_3, Fv15_3, by omega⟩
theorem own_d2_0 : decode jdk_67_method_1_code 0 = .ok (.aload_n 0, 1) := by decide +kernel
theorem own_d2_1 : decode jdk_67_method_1_code 1 = .ok (.bipush 16, 2) := by decide +kernel
theorem own_pd_x28Ix29V : parseMethodDescriptor "(I)V" = some ⟨[.int], none⟩ := by decide +kernel
theorem own_d2_3 : decode jdk_67_method_1_code 3 = .ok (.invokespecial 1, 3) := by decide +kernel
theorem own_d2_6 : decode jdk_67_method_1_code 6 = .ok (.return_, 1) := by decide +kernel
theorem own_ef_sbInit (m : MethodId) (x0 : Addr) : entryFrame m #[(.ref x0)] 1 = mkF m 0 #[.val (.ref x0)] [] := by first | (simp [entryFrame, mkF, argsToLocals, Value.category]; done) | rfl
theorem own_pn_java_lang_StringBuilder : plainName "java/lang/StringBuilder" = true := by first | (simp [plainName, overriddenIn]; done) | decide +kernel
def own_Q_sbInit (Z : State) (ob : Addr) (zc : Int32) (u0 u1 : Value) (h0 : Heap) (n0 : Nat) (v : Option Value) (h : Heap) (L : List Loc) : Prop := v = none ∧ Fr n0 L ∧ Keep h0 h [ob] ∧ ∃ (da : Addr) (kd : ClassId), Fld Z h ob "java/lang/AbstractStringBuilder" "value" "[B" (.ref da) ∧ Fld Z h ob "java/lang/AbstractStringBuilder" "coder" "B" (.int (0 : Int32)) ∧ Fld Z h ob "java/lang/AbstractStringBuilder" "count" "I" (.int (0 : Int32)) ∧ Arv Z h da kd .byte (Int32.ofNat 16) (List.replicate 16 (.int (0 : Int32))) (.int (0 : Int32)) ∧ h0.size ≤ da
set_option maxRecDepth 65536 in
set_option maxHeartbeats 40000000 in
theorem own_sbInit (l : Launch) (Z : State) (a0 : Array Value) (hw : ∀ d ∈ tables_1, d.before a0 Z = true) (ws : List Jvm.Cond) (ob : Addr) (zc : Int32) (u0 u1 : Value) (h0 : Heap) (n0 : Nat) (Z0 : n0 ≤ h0.size) (O0 : Old Z n0 h0) (SCS : Sta Z Z.heap "java/lang/String" "COMPACT_STRINGS" "Z" (.int zc)) (hzc : ¬ zc = 0) (E : Exa Z h0 ob "java/lang/StringBuilder") (Fv : Fld Z h0 ob "java/lang/AbstractStringBuilder" "value" "[B" u0) (Fc : Fld Z h0 ob "java/lang/AbstractStringBuilder" "coder" "B" u1) (Fn : Fld Z h0 ob "java/lang/AbstractStringBuilder" "count" "I" (.int (0 : Int32))) (g_ob : n0 ≤ ob) :
    MetFree l (⟨"java/lang/StringBuilder", "<init>", "()V"⟩ : MethodName) (head1 (Jvm.Cond.code (⟨"java/lang/StringBuilder", "<init>", "()V"⟩ : MethodName) jdk_67_method_1_code 1 none :: ws) ({ frames := 2, cells := 1, slots := 16, locals := 25 } : Room)) (fun A0 U0 => A0 = #[(.ref ob)] ∧ Z.Warmed39 U0.vm ∧ U0.heap = h0) (fun _ _ _ _ _ => True) (fun _ U0 o0 U1 => ∃ v0 L0, o0 = .returned v0 ∧ own_Q_sbInit Z ob zc u0 u1 h0 n0 v0 U1.heap L0 ∧ FrameEnd U0 o0 U1 L0 ({ frames := 2, cells := 1, slots := 16, locals := 25 } : Room).cells ({ frames := 2, cells := 1, slots := 16, locals := 25 } : Room).slots) := by
  refine MetFree.of_bodySF (plainFor_of_name own_pn_java_lang_StringBuilder) hisR ?_
  intro p e s m args below meth c s₁ Bd hml0 hP hK
  obtain ⟨rfl, hZ, hh⟩ := hP
  have hZs0 := hZ
  have hZs := hZ
  have hx := Bd.exec
  have hby := Bd.bytes
  have hby_ := hby
  have hml : c.maxLocals = 1 := hml0
  have hown : s.vm.findClass "java/lang/StringBuilder" = some m.cls := findClass_of_methodNamed Bd.named
  have hnm := (name_of_methodNamed Bd.named Bd.method).1
  have X0 : Stand p l e ({ frames := 2, cells := 1, slots := 16, locals := 25 } : Room) s m #[(.ref ob)] below meth c s₁ [] 0 0 := Stand.of_body Bd
  have e0 : s₁.heap = h0 := by rw [← hh, Bd.state]; rfl
  have N0 := Fr.nil n0
  refine OwnFin.entry (own_ef_sbInit m ob) (fun P' hP' => ?_)
  have lt_ob := own_lt E.lt
  refine OwnFin.adv (B := s₁.setTop (mkF m 1 #[.val (.ref ob)] [(.ref ob)])) (fun _ k => XS.aloadN X0.here hx rfl (hb hby own_d2_0) rfl rfl k) ?_
  refine OwnFin.adv (B := s₁.setTop (mkF m 3 #[.val (.ref ob)] [(.int (16 : Int32)), (.ref ob)])) (fun _ k => XS.bipush X0.here hx rfl (hb hby own_d2_1) k) ?_
  obtain ⟨_, _, ⟨T1, L1, k1, n1⟩, -, X1, ⟨Lc1, hQ1, l1, y1, z1⟩, st1⟩ := X0.specialBack hx (y := (⟨"java/lang/AbstractStringBuilder", "<init>", "(I)V"⟩ : MethodName)) rfl hown (mvT hZ (hw _ (List.mem_of_getElem? (i := 12) rfl))) (mvT hZ (hw _ (List.mem_of_getElem? (i := 13) rfl))) (mvT hZ (hw _ (List.mem_of_getElem? (i := 17) rfl))) (by decide) (backOf (W := 0) (own_asbInit l Z a0 hw [] ob zc _ _ h0 n0 (by omega) O0 SCS hzc E Fv Fc Fn (by omega)) hZ (hw _ (List.mem_of_getElem? (i := 17) rfl)) (hw _ (List.mem_of_getElem? (i := 16) rfl)) (by decide) (by decide)) (g := (mkF m 3 #[.val (.ref ob)] [(.int (16 : Int32)), (.ref ob)])) rfl (by rw [hml]; rfl) (Steps.refl _) (a := ob) (argsL := [(.int (16 : Int32))]) (rest := []) (lenOf own_pd_x28Ix29V rfl) rfl (by show 2 * 0 + _ ≤ _; exact Nat.le_of_eq rfl) (hb hby own_d2_3) (fun _ _ => ⟨rfl, e0, (by decide : 0 + 1 ≤ _), (by decide : 0 + 16 ≤ _)⟩)
  dsimp only [Pt.U, Pt.locs, Pt.cells, Pt.slots] at X1 l1 y1 z1 st1 hQ1
  subst l1 y1 z1
  obtain ⟨rfl, N1q, K1, da1, kd1, Fv1, Fc1, Fn1, Va1, ge1⟩ := hQ1
  have N1 := Fr.app N0 N1q
  have sz2 : h0.size ≤ T1.heap.size := K1.1
  have lt_da1 := own_lt Va1.lt
  refine OwnFin.adv (B := T1.setTop (mkF m 6 #[.val (.ref ob)] [])) (fun _ k => st1.trans k) ?_
  obtain ⟨fs, hr, hrun, hended, hW, hsame⟩ := X1.leave (v := none) (fun _ => rfl)
  refine OwnFin.leaf hP' ⟨_, _, X1.returnOut hx Bd.returns (hb hby own_d2_6) hr, hrun, hended, _, _, rfl, ?_, ⟨_, rfl⟩, hW, hsame.mono (by decide) (by decide)⟩
  rw [show (T1.setFrames fs).heap = T1.heap from rfl]
  exact ⟨rfl, N1, ((Keep.refl h0 [ob]).trans K1 (allS (Or.inl (List.mem_of_getElem? (i := 0) rfl)) all0)), _, _, Fv1, Fc1, Fn1, Va1, by omega⟩
theorem own_d9_0 : decode jdk_68_method_9_code 0 = .ok (.aload_n 0, 1) := by decide +kernel
theorem own_d9_1 : decode jdk_68_method_9_code 1 = .ok (.getfield 15, 3) := by decide +kernel
theorem own_d9_4 : decode jdk_68_method_9_code 4 = .ok (.arraylength, 1) := by decide +kernel
theorem own_d9_5 : decode jdk_68_method_9_code 5 = .ok (.aload_n 0, 1) := by decide +kernel
theorem own_d9_6 : decode jdk_68_method_9_code 6 = .ok (.getfield 22, 3) := by decide +kernel
theorem own_d9_9 : decode jdk_68_method_9_code 9 = .ok (.ishr, 1) := by decide +kernel
theorem own_d9_10 : decode jdk_68_method_9_code 10 = .ok (.istore_n 2, 1) := by decide +kernel
theorem own_d9_11 : decode jdk_68_method_9_code 11 = .ok (.iload_n 1, 1) := by decide +kernel
theorem own_d9_12 : decode jdk_68_method_9_code 12 = .ok (.iload_n 2, 1) := by decide +kernel
theorem own_d9_13 : decode jdk_68_method_9_code 13 = .ok (.isub, 1) := by decide +kernel
theorem own_d9_14 : decode jdk_68_method_9_code 14 = .ok (.ifCond .le 24, 3) := by decide +kernel
theorem own_d9_38 : decode jdk_68_method_9_code 38 = .ok (.return_, 1) := by decide +kernel
theorem own_ef_ensure (m : MethodId) (x0 : Addr) (x1 : Int32) : entryFrame m #[(.ref x0), (.int x1)] 3 = mkF m 0 #[.val (.ref x0), .val (.int x1), .unset] [] := by first | (simp [entryFrame, mkF, argsToLocals, Value.category]; done) | rfl
def own_Q_ensure (Z : State) (ob da : Addr) (kd : ClassId) (vd : List Value) (mn cap : Nat) (h0 : Heap) (n0 : Nat) (v : Option Value) (h : Heap) (L : List Loc) : Prop := v = none ∧ Fr n0 L ∧ h = h0
set_option maxRecDepth 65536 in
set_option maxHeartbeats 40000000 in
theorem own_ensure (l : Launch) (Z : State) (a0 : Array Value) (hw : ∀ d ∈ tables_1, d.before a0 Z = true) (ws : List Jvm.Cond) (ob da : Addr) (kd : ClassId) (vd : List Value) (mn cap : Nat) (h0 : Heap) (n0 : Nat) (Z0 : n0 ≤ h0.size) (Fv : Fld Z h0 ob "java/lang/AbstractStringBuilder" "value" "[B" (.ref da)) (Fc : Fld Z h0 ob "java/lang/AbstractStringBuilder" "coder" "B" (.int (0 : Int32))) (Va : Arv Z h0 da kd .byte (Int32.ofNat cap) vd (.int (0 : Int32))) (hcap : cap ≤ 4000) (hvd : vd.length = cap) (hmn : mn ≤ cap) :
    MetFree l (⟨"java/lang/AbstractStringBuilder", "ensureCapacityInternal", "(I)V"⟩ : MethodName) (head1 (Jvm.Cond.code (⟨"java/lang/AbstractStringBuilder", "ensureCapacityInternal", "(I)V"⟩ : MethodName) jdk_68_method_9_code 3 none :: ws) ({ frames := 0, cells := 0, slots := 0, locals := 0 } : Room)) (fun A0 U0 => A0 = #[(.ref ob), (.int (Int32.ofNat mn))] ∧ Z.Warmed39 U0.vm ∧ U0.heap = h0) (fun _ _ _ _ _ => True) (fun _ U0 o0 U1 => ∃ v0 L0, o0 = .returned v0 ∧ own_Q_ensure Z ob da kd vd mn cap h0 n0 v0 U1.heap L0 ∧ FrameEnd U0 o0 U1 L0 ({ frames := 0, cells := 0, slots := 0, locals := 0 } : Room).cells ({ frames := 0, cells := 0, slots := 0, locals := 0 } : Room).slots) := by
  refine MetFree.of_bodySF (plainFor_of_name own_pn_java_lang_AbstractStringBuilder) hisR ?_
  intro p e s m args below meth c s₁ Bd hml0 hP hK
  obtain ⟨rfl, hZ, hh⟩ := hP
  have hZs0 := hZ
  have hZs := hZ
  have hx := Bd.exec
  have hby := Bd.bytes
  have hby_ := hby
  have hml : c.maxLocals = 3 := hml0
  have hown : s.vm.findClass "java/lang/AbstractStringBuilder" = some m.cls := findClass_of_methodNamed Bd.named
  have hnm := (name_of_methodNamed Bd.named Bd.method).1
  have X0 : Stand p l e ({ frames := 0, cells := 0, slots := 0, locals := 0 } : Room) s m #[(.ref ob), (.int (Int32.ofNat mn))] below meth c s₁ [] 0 0 := Stand.of_body Bd
  have e0 : s₁.heap = h0 := by rw [← hh, Bd.state]; rfl
  have N0 := Fr.nil n0
  refine OwnFin.entry (own_ef_ensure m ob (Int32.ofNat mn)) (fun P' hP' => ?_)
  have lt_da := own_lt Va.lt
  refine OwnFin.adv (B := s₁.setTop (mkF m 1 #[.val (.ref ob), .val (.int (Int32.ofNat mn)), .unset] [(.ref ob)])) (fun _ k => XS.aloadN X0.here hx rfl (hb hby own_d9_0) rfl rfl k) ?_
  obtain ⟨T1, X1, e1, st1⟩ := getF X0 hx hZ hown (host := "") (Or.inl (hw _ (List.mem_of_getElem? (i := 24) rfl))) Via.refl e0 Fv (g := (mkF m 1 #[.val (.ref ob), .val (.int (Int32.ofNat mn)), .unset] [(.ref ob)])) rfl rfl (hb hby own_d9_1)
  refine OwnFin.adv (B := T1.setTop (mkF m 4 #[.val (.ref ob), .val (.int (Int32.ofNat mn)), .unset] [(.ref da)])) (fun _ k => st1 _ k) ?_
  obtain ⟨cl2, Ar2, ck2, S2, M2, H2, G2⟩ := id Va
  refine OwnFin.adv (B := T1.setTop (mkF m 5 #[.val (.ref ob), .val (.int (Int32.ofNat mn)), .unset] [(.int (Int32.ofNat cap))])) (fun _ k => X1.arraylength hx (by rw [e1]; exact Ar2.1) (State.isArrayOf_alike hZ.alike Ar2.2.1) (g := (mkF m 4 #[.val (.ref ob), .val (.int (Int32.ofNat mn)), .unset] [(.ref da)])) rfl rfl (hb hby own_d9_4) _ (by rw [len_of S2 M2]; exact k)) ?_
  refine OwnFin.adv (B := T1.setTop (mkF m 6 #[.val (.ref ob), .val (.int (Int32.ofNat mn)), .unset] [(.ref ob), (.int (Int32.ofNat cap))])) (fun _ k => XS.aloadN X1.here hx rfl (hb hby own_d9_5) rfl rfl k) ?_
  obtain ⟨T3, X3, e3, st3⟩ := getF X1 hx hZ hown (host := "") (Or.inl (hw _ (List.mem_of_getElem? (i := 26) rfl))) Via.refl e1 Fc (g := (mkF m 6 #[.val (.ref ob), .val (.int (Int32.ofNat mn)), .unset] [(.ref ob), (.int (Int32.ofNat cap))])) rfl rfl (hb hby own_d9_6)
  refine OwnFin.adv (B := T3.setTop (mkF m 9 #[.val (.ref ob), .val (.int (Int32.ofNat mn)), .unset] [(.int (0 : Int32)), (.int (Int32.ofNat cap))])) (fun _ k => st3 _ k) ?_
  refine OwnFin.adv (B := T3.setTop (mkF m 10 #[.val (.ref ob), .val (.int (Int32.ofNat mn)), .unset] [(.int ((Int32.ofNat cap) >>> ((0 : Int32) &&& 31)))])) (fun _ k => XS.ishr X3.here hx rfl (hb hby own_d9_9) rfl k) ?_
  rw [show (((Int32.ofNat cap) >>> ((0 : Int32) &&& 31)) : Int32) = (Int32.ofNat cap) from own_shr0 _]
  refine OwnFin.adv (B := T3.setTop (mkF m 11 #[.val (.ref ob), .val (.int (Int32.ofNat mn)), .val (.int (Int32.ofNat cap))] [])) (fun _ k => XS.istoreN X3.here hx rfl (hb hby own_d9_10) rfl (l' := #[.val (.ref ob), .val (.int (Int32.ofNat mn)), .val (.int (Int32.ofNat cap))]) rfl k) ?_
  refine OwnFin.adv (B := T3.setTop (mkF m 12 #[.val (.ref ob), .val (.int (Int32.ofNat mn)), .val (.int (Int32.ofNat cap))] [(.int (Int32.ofNat mn))])) (fun _ k => XS.iloadN X3.here hx rfl (hb hby own_d9_11) rfl k) ?_
  refine OwnFin.adv (B := T3.setTop (mkF m 13 #[.val (.ref ob), .val (.int (Int32.ofNat mn)), .val (.int (Int32.ofNat cap))] [(.int (Int32.ofNat cap)), (.int (Int32.ofNat mn))])) (fun _ k => XS.iloadN X3.here hx rfl (hb hby own_d9_12) rfl k) ?_
  refine OwnFin.adv (B := T3.setTop (mkF m 14 #[.val (.ref ob), .val (.int (Int32.ofNat mn)), .val (.int (Int32.ofNat cap))] [(.int ((Int32.ofNat mn) - (Int32.ofNat cap)))])) (fun _ k => XS.isub X3.here hx rfl (hb hby own_d9_13) rfl k) ?_
  have hc14_11 : ¬ ((0 : Int32) < ((Int32.ofNat mn) - (Int32.ofNat cap))) := own_le0 (by omega) hmn
  refine OwnFin.adv (B := T3.setTop (mkF m 38 #[.val (.ref ob), .val (.int (Int32.ofNat mn)), .val (.int (Int32.ofNat cap))] [])) (fun _ k => XS.ifYes X3.here hx rfl (pc0 := 14) (pc' := 38) rfl (hb hby own_d9_14) rfl ((if0 _ _).trans (flt hc14_11).2.2.2) (by decide) (by decide) k) ?_
  obtain ⟨fs, hr, hrun, hended, hW, hsame⟩ := X3.leave (v := none) (fun _ => rfl)
  refine OwnFin.leaf hP' ⟨_, _, X3.returnOut hx Bd.returns (hb hby own_d9_38) hr, hrun, hended, _, _, rfl, ?_, ⟨_, rfl⟩, hW, hsame.mono (by decide) (by decide)⟩
  exact ⟨rfl, N0, e3⟩
theorem own_d8_0 : decode jdk_42_method_152_code 0 = .ok (.getstatic 38, 3) := by decide +kernel
theorem own_d8_3 : decode jdk_42_method_152_code 3 = .ok (.ifCond .eq 10, 3) := by decide +kernel
theorem own_d8_6 : decode jdk_42_method_152_code 6 = .ok (.aload_n 0, 1) := by decide +kernel
theorem own_d8_7 : decode jdk_42_method_152_code 7 = .ok (.getfield 15, 3) := by decide +kernel
theorem own_d8_10 : decode jdk_42_method_152_code 10 = .ok (.goto 4, 3) := by decide +kernel
theorem own_d8_14 : decode jdk_42_method_152_code 14 = .ok (.ireturn, 1) := by decide +kernel
theorem own_ef_coder (m : MethodId) (x0 : Addr) : entryFrame m #[(.ref x0)] 1 = mkF m 0 #[.val (.ref x0)] [] := by first | (simp [entryFrame, mkF, argsToLocals, Value.category]; done) | rfl
theorem own_pn_java_lang_String : plainName "java/lang/String" = true := by first | (simp [plainName, overriddenIn]; done) | decide +kernel
def own_Q_coder (Z : State) (so : Addr) (zc : Int32) (h0 : Heap) (n0 : Nat) (v : Option Value) (h : Heap) (L : List Loc) : Prop := v = some (.int (0 : Int32)) ∧ Fr n0 L ∧ h = h0
set_option maxRecDepth 65536 in
set_option maxHeartbeats 40000000 in
theorem own_coder (l : Launch) (Z : State) (a0 : Array Value) (hw : ∀ d ∈ tables_1, d.before a0 Z = true) (ws : List Jvm.Cond) (so : Addr) (zc : Int32) (h0 : Heap) (n0 : Nat) (Z0 : n0 ≤ h0.size) (O0 : Old Z n0 h0) (SCS : Sta Z Z.heap "java/lang/String" "COMPACT_STRINGS" "Z" (.int zc)) (hzc : ¬ zc = 0) (C : Fld Z h0 so "java/lang/String" "coder" "B" (.int (0 : Int32))) :
    MetFree l (⟨"java/lang/String", "coder", "()B"⟩ : MethodName) (head1 (Jvm.Cond.code (⟨"java/lang/String", "coder", "()B"⟩ : MethodName) jdk_42_method_152_code 1 (some .byte) :: ws) ({ frames := 0, cells := 0, slots := 0, locals := 0 } : Room)) (fun A0 U0 => A0 = #[(.ref so)] ∧ Z.Warmed39 U0.vm ∧ U0.heap = h0) (fun _ _ _ _ _ => True) (fun _ U0 o0 U1 => ∃ v0 L0, o0 = .returned v0 ∧ own_Q_coder Z so zc h0 n0 v0 U1.heap L0 ∧ FrameEnd U0 o0 U1 L0 ({ frames := 0, cells := 0, slots := 0, locals := 0 } : Room).cells ({ frames := 0, cells := 0, slots := 0, locals := 0 } : Room).slots) := by
  refine MetFree.of_bodySF (plainFor_of_name own_pn_java_lang_String) hisR ?_
  intro p e s m args below meth c s₁ Bd hml0 hP hK
  obtain ⟨rfl, hZ, hh⟩ := hP
  have hZs0 := hZ
  have hZs := hZ
  have hx := Bd.exec
  have hby := Bd.bytes
  have hby_ := hby
  have hml : c.maxLocals = 1 := hml0
  have hown : s.vm.findClass "java/lang/String" = some m.cls := findClass_of_methodNamed Bd.named
  have hnm := (name_of_methodNamed Bd.named Bd.method).1
  have X0 : Stand p l e ({ frames := 0, cells := 0, slots := 0, locals := 0 } : Room) s m #[(.ref so)] below meth c s₁ [] 0 0 := Stand.of_body Bd
  have e0 : s₁.heap = h0 := by rw [← hh, Bd.state]; rfl
  have N0 := Fr.nil n0
  refine OwnFin.entry (own_ef_coder m so) (fun P' hP' => ?_)
  obtain ⟨T1, X1, e1, st1⟩ := getS2 X0 hx hZ hown (host := "") (Or.inl (hw _ (List.mem_of_getElem? (i := 55) rfl))) Via.refl e0 (own_staK SCS O0) (g := (mkF m 0 #[.val (.ref so)] [])) rfl (hb hby own_d8_0)
  refine OwnFin.adv (B := T1.setTop (mkF m 3 #[.val (.ref so)] [(.int zc)])) (fun _ k => st1 _ k) ?_
  have hc3_2 : ¬ (zc = (0 : Int32)) := hzc
  refine OwnFin.adv (B := T1.setTop (mkF m 6 #[.val (.ref so)] [])) (fun _ k => XS.ifNo X1.here hx rfl (hb hby own_d8_3) rfl ((if0 _ _).trans (feq hc3_2).1) k) ?_
  refine OwnFin.adv (B := T1.setTop (mkF m 7 #[.val (.ref so)] [(.ref so)])) (fun _ k => XS.aloadN X1.here hx rfl (hb hby own_d8_6) rfl rfl k) ?_
  obtain ⟨T2, X2, e2, st2⟩ := getF X1 hx hZ hown (host := "") (Or.inl (hw _ (List.mem_of_getElem? (i := 56) rfl))) Via.refl e1 C (g := (mkF m 7 #[.val (.ref so)] [(.ref so)])) rfl rfl (hb hby own_d8_7)
  refine OwnFin.adv (B := T2.setTop (mkF m 10 #[.val (.ref so)] [(.int (0 : Int32))])) (fun _ k => st2 _ k) ?_
  refine OwnFin.adv (B := T2.setTop (mkF m 14 #[.val (.ref so)] [(.int (0 : Int32))])) (fun _ k => XS.goto X2.here hx rfl (pc0 := 10) (pc' := 14) rfl (hb hby own_d8_10) (by decide) (by decide) k) ?_
  obtain ⟨fs, hr, hrun, hended, hW, hsame⟩ := X2.leave (v := some (.int (0 : Int32))) (fun h => by rw [Bd.returns] at h; cases h)
  refine OwnFin.leaf hP' ⟨_, _, retN X2 hx (t := .byte) Bd.returns (by simp) (hb hby own_d8_14) hr, hrun, hended, _, _, rfl, ?_, ⟨_, rfl⟩, hW, hsame.mono (by decide) (by decide)⟩
  exact ⟨rfl, N0, e2⟩
theorem own_d16_0 : decode jdk_68_method_71_code 0 = .ok (.getstatic 18, 3) := by decide +kernel
theorem own_d16_3 : decode jdk_68_method_71_code 3 = .ok (.ifCond .eq 18, 3) := by decide +kernel
theorem own_d16_6 : decode jdk_68_method_71_code 6 = .ok (.aload_n 0, 1) := by decide +kernel
theorem own_d16_7 : decode jdk_68_method_71_code 7 = .ok (.getfield 22, 3) := by decide +kernel
theorem own_d16_10 : decode jdk_68_method_71_code 10 = .ok (.aload_n 1, 1) := by decide +kernel
theorem own_pd_x28x29B : parseMethodDescriptor "()B" = some ⟨[], some .byte⟩ := by decide +kernel
theorem own_d16_11 : decode jdk_68_method_71_code 11 = .ok (.invokevirtual 40, 3) := by decide +kernel
theorem own_d16_14 : decode jdk_68_method_71_code 14 = .ok (.if_icmp .eq 7, 3) := by decide +kernel
theorem own_d16_21 : decode jdk_68_method_71_code 21 = .ok (.return_, 1) := by decide +kernel
theorem own_ef_inflate (m : MethodId) (x0 : Addr) (x1 : Addr) : entryFrame m #[(.ref x0), (.ref x1)] 2 = mkF m 0 #[.val (.ref x0), .val (.ref x1)] [] := by first | (simp [entryFrame, mkF, argsToLocals, Value.category]; done) | rfl
def own_Q_inflate (Z : State) (ob so : Addr) (zc : Int32) (lim : Nat) (cs : List Int32) (h0 : Heap) (n0 : Nat) (v : Option Value) (h : Heap) (L : List Loc) : Prop := v = none ∧ Fr n0 L ∧ h = h0
set_option maxRecDepth 65536 in
set_option maxHeartbeats 40000000 in
theorem own_inflate (l : Launch) (Z : State) (a0 : Array Value) (hw : ∀ d ∈ tables_1, d.before a0 Z = true) (ws : List Jvm.Cond) (ob so : Addr) (zc : Int32) (lim : Nat) (cs : List Int32) (h0 : Heap) (n0 : Nat) (Z0 : n0 ≤ h0.size) (O0 : Old Z n0 h0) (SCS : Sta Z Z.heap "java/lang/String" "COMPACT_STRINGS" "Z" (.int zc)) (hzc : ¬ zc = 0) (Fc : Fld Z h0 ob "java/lang/AbstractStringBuilder" "coder" "B" (.int (0 : Int32))) (Fs : OwnS Z h0 lim so cs) :
    MetFree l (⟨"java/lang/AbstractStringBuilder", "inflateIfNeededFor", "(Ljava/lang/String;)V"⟩ : MethodName) (head1 (Jvm.Cond.code (⟨"java/lang/AbstractStringBuilder", "inflateIfNeededFor", "(Ljava/lang/String;)V"⟩ : MethodName) jdk_68_method_71_code 2 none :: ws) ({ frames := 1, cells := 0, slots := 0, locals := 13 } : Room)) (fun A0 U0 => A0 = #[(.ref ob), (.ref so)] ∧ Z.Warmed39 U0.vm ∧ U0.heap = h0) (fun _ _ _ _ _ => True) (fun _ U0 o0 U1 => ∃ v0 L0, o0 = .returned v0 ∧ own_Q_inflate Z ob so zc lim cs h0 n0 v0 U1.heap L0 ∧ FrameEnd U0 o0 U1 L0 ({ frames := 1, cells := 0, slots := 0, locals := 13 } : Room).cells ({ frames := 1, cells := 0, slots := 0, locals := 13 } : Room).slots) := by
  refine MetFree.of_bodySF (plainFor_of_name own_pn_java_lang_AbstractStringBuilder) hisR ?_
  intro p e s m args below meth c s₁ Bd hml0 hP hK
  obtain ⟨rfl, hZ, hh⟩ := hP
  have hZs0 := hZ
  have hZs := hZ
  have hx := Bd.exec
  have hby := Bd.bytes
  have hby_ := hby
  have hml : c.maxLocals = 2 := hml0
  have hown : s.vm.findClass "java/lang/AbstractStringBuilder" = some m.cls := findClass_of_methodNamed Bd.named
  have hnm := (name_of_methodNamed Bd.named Bd.method).1
  have X0 : Stand p l e ({ frames := 1, cells := 0, slots := 0, locals := 13 } : Room) s m #[(.ref ob), (.ref so)] below meth c s₁ [] 0 0 := Stand.of_body Bd
  have e0 : s₁.heap = h0 := by rw [← hh, Bd.state]; rfl
  have N0 := Fr.nil n0
  refine OwnFin.entry (own_ef_inflate m ob so) (fun P' hP' => ?_)
  obtain ⟨ts1, ks1, Es1, Vs1, Cs1, As1, lx1, lt1, hp1, l21⟩ := id Fs
  have lx1 := own_lt lx1
  have lt1 := own_lt lt1
  have ltx1 := own_lt Es1.lt
  have ltt1 := own_lt As1.lt
  obtain ⟨T2, X2, e2, st2⟩ := getS2 X0 hx hZ hown (host := "") (Or.inl (hw _ (List.mem_of_getElem? (i := 21) rfl))) Via.refl e0 (own_staK SCS O0) (g := (mkF m 0 #[.val (.ref ob), .val (.ref so)] [])) rfl (hb hby own_d16_0)
  refine OwnFin.adv (B := T2.setTop (mkF m 3 #[.val (.ref ob), .val (.ref so)] [(.int zc)])) (fun _ k => st2 _ k) ?_
  have hc3_2 : ¬ (zc = (0 : Int32)) := hzc
  refine OwnFin.adv (B := T2.setTop (mkF m 6 #[.val (.ref ob), .val (.ref so)] [])) (fun _ k => XS.ifNo X2.here hx rfl (hb hby own_d16_3) rfl ((if0 _ _).trans (feq hc3_2).1) k) ?_
  refine OwnFin.adv (B := T2.setTop (mkF m 7 #[.val (.ref ob), .val (.ref so)] [(.ref ob)])) (fun _ k => XS.aloadN X2.here hx rfl (hb hby own_d16_6) rfl rfl k) ?_
  obtain ⟨T3, X3, e3, st3⟩ := getF X2 hx hZ hown (host := "") (Or.inl (hw _ (List.mem_of_getElem? (i := 26) rfl))) Via.refl e2 Fc (g := (mkF m 7 #[.val (.ref ob), .val (.ref so)] [(.ref ob)])) rfl rfl (hb hby own_d16_7)
  refine OwnFin.adv (B := T3.setTop (mkF m 10 #[.val (.ref ob), .val (.ref so)] [(.int (0 : Int32))])) (fun _ k => st3 _ k) ?_
  refine OwnFin.adv (B := T3.setTop (mkF m 11 #[.val (.ref ob), .val (.ref so)] [(.ref so), (.int (0 : Int32))])) (fun _ k => XS.aloadN X3.here hx rfl (hb hby own_d16_10) rfl rfl k) ?_
  obtain ⟨cq4, kq4, q4a, q4b, q4c⟩ := isOf hZ e3 Es1
  obtain ⟨_, _, ⟨T4, L4, k4, n4⟩, -, X4, ⟨Lc4, hQ4, l4, y4, z4⟩, st4⟩ := X3.virtualBack hx (y := (⟨"java/lang/String", "coder", "()B"⟩ : MethodName)) (z := (⟨"java/lang/String", "coder", "()B"⟩ : MethodName)) hown (mvT hZ (hw _ (List.mem_of_getElem? (i := 100) rfl))) (mvT hZ (hw _ (List.mem_of_getElem? (i := 51) rfl))) (notFace_of_selects (args := #[]) (mvT hZ (hw _ (List.mem_of_getElem? (i := 53) rfl)))) (mvT hZ (hw _ (List.mem_of_getElem? (i := 53) rfl))) (mvT hZ (hw _ (List.mem_of_getElem? (i := 52) rfl))) (by decide) (backOf (W := 1) (own_coder l Z a0 hw [] so zc h0 n0 (by omega) O0 SCS hzc Cs1) hZ (hw _ (List.mem_of_getElem? (i := 54) rfl)) (hw _ (List.mem_of_getElem? (i := 22) rfl)) (by decide) (by decide)) q4a q4c (g := (mkF m 11 #[.val (.ref ob), .val (.ref so)] [(.ref so), (.int (0 : Int32))])) rfl (by rw [hml]; rfl) (Steps.refl _) (argsL := []) (rest := [(.int (0 : Int32))]) (lenOf own_pd_x28x29B rfl) rfl (by show 2 * 0 + _ ≤ _; exact Nat.le_of_eq rfl) (hb hby own_d16_11) (fun _ _ => ⟨rfl, e3, (by decide : 0 + 0 ≤ _), (by decide : 0 + 0 ≤ _)⟩)
  dsimp only [Pt.U, Pt.locs, Pt.cells, Pt.slots] at X4 l4 y4 z4 st4 hQ4
  subst l4 y4 z4
  obtain ⟨rfl, N4q, eh4⟩ := hQ4
  have N4 := Fr.app N0 N4q
  refine OwnFin.adv (B := T4.setTop (mkF m 14 #[.val (.ref ob), .val (.ref so)] [(.int (0 : Int32)), (.int (0 : Int32))])) (fun _ k => st4.trans k) ?_
  have hc14_7 : (0 : Int32) = (0 : Int32) := rfl
  refine OwnFin.adv (B := T4.setTop (mkF m 21 #[.val (.ref ob), .val (.ref so)] [])) (fun _ k => XS.icmpYes X4.here hx rfl (pc0 := 14) (pc' := 21) rfl (hb hby own_d16_14) rfl (teq hc14_7).1 (by decide) (by decide) k) ?_
  obtain ⟨fs, hr, hrun, hended, hW, hsame⟩ := X4.leave (v := none) (fun _ => rfl)
  refine OwnFin.leaf hP' ⟨_, _, X4.returnOut hx Bd.returns (hb hby own_d16_21) hr, hrun, hended, _, _, rfl, ?_, ⟨_, rfl⟩, hW, hsame.mono (by decide) (by decide)⟩
  exact ⟨rfl, N4, eh4⟩
theorem own_d17_0 : decode jdk_42_method_147_code 0 = .ok (.aload_n 0, 1) := by decide +kernel
theorem own_d17_1 : decode jdk_42_method_147_code 1 = .ok (.invokevirtual 335, 3) := by decide +kernel
theorem own_d17_4 : decode jdk_42_method_147_code 4 = .ok (.iload_n 3, 1) := by decide +kernel
theorem own_d17_5 : decode jdk_42_method_147_code 5 = .ok (.if_icmp .ne 23, 3) := by decide +kernel
theorem own_d17_8 : decode jdk_42_method_147_code 8 = .ok (.aload_n 0, 1) := by decide +kernel
theorem own_d17_9 : decode jdk_42_method_147_code 9 = .ok (.getfield 9, 3) := by decide +kernel
theorem own_d17_12 : decode jdk_42_method_147_code 12 = .ok (.iconst 0, 1) := by decide +kernel
theorem own_d17_13 : decode jdk_42_method_147_code 13 = .ok (.aload_n 1, 1) := by decide +kernel
theorem own_d17_14 : decode jdk_42_method_147_code 14 = .ok (.iload_n 2, 1) := by decide +kernel
theorem own_d17_15 : decode jdk_42_method_147_code 15 = .ok (.iload_n 3, 1) := by decide +kernel
theorem own_d17_16 : decode jdk_42_method_147_code 16 = .ok (.ishl, 1) := by decide +kernel
theorem own_d17_17 : decode jdk_42_method_147_code 17 = .ok (.aload_n 0, 1) := by decide +kernel
theorem own_d17_18 : decode jdk_42_method_147_code 18 = .ok (.getfield 9, 3) := by decide +kernel
theorem own_d17_21 : decode jdk_42_method_147_code 21 = .ok (.arraylength, 1) := by decide +kernel
theorem own_d17_22 : decode jdk_42_method_147_code 22 = .ok (.invokestatic 212, 3) := by decide +kernel
theorem own_d17_25 : decode jdk_42_method_147_code 25 = .ok (.goto 18, 3) := by decide +kernel
theorem own_d17_43 : decode jdk_42_method_147_code 43 = .ok (.return_, 1) := by decide +kernel
theorem own_ef_getB (m : MethodId) (x0 : Addr) (x1 : Addr) (x2 : Int32) (x3 : Int32) : entryFrame m #[(.ref x0), (.ref x1), (.int x2), (.int x3)] 4 = mkF m 0 #[.val (.ref x0), .val (.ref x1), .val (.int x2), .val (.int x3)] [] := by first | (simp [entryFrame, mkF, argsToLocals, Value.category]; done) | rfl
def own_Q_getB (Z : State) (so da : Addr) (kd : ClassId) (vd : List Value) (zc : Int32) (cap k0 lim : Nat) (cs : List Int32) (h0 : Heap) (n0 : Nat) (v : Option Value) (h : Heap) (L : List Loc) : Prop := v = none ∧ Fr n0 L ∧ Keep h0 h [da] ∧ Arv Z h da kd .byte (Int32.ofNat cap) (vd.take k0 ++ ((cs.map fun c => c.toInt8.toInt32).map Value.int) ++ vd.drop (k0 + cs.length)) (.int (0 : Int32))
set_option maxRecDepth 65536 in
set_option maxHeartbeats 40000000 in
theorem own_getB (l : Launch) (Z : State) (a0 : Array Value) (hw : ∀ d ∈ tables_1, d.before a0 Z = true) (ws : List Jvm.Cond) (so da : Addr) (kd : ClassId) (vd : List Value) (zc : Int32) (cap k0 lim : Nat) (cs : List Int32) (h0 : Heap) (n0 : Nat) (Z0 : n0 ≤ h0.size) (O0 : Old Z n0 h0) (SCS : Sta Z Z.heap "java/lang/String" "COMPACT_STRINGS" "Z" (.int zc)) (hzc : ¬ zc = 0) (Fs : OwnS Z h0 lim so cs) (Va : Arv Z h0 da kd .byte (Int32.ofNat cap) vd (.int (0 : Int32))) (hcap : cap ≤ 4000) (hvd : vd.length = cap) (hfit : k0 + cs.length ≤ cap) (g_da : n0 ≤ da) :
    MetFree l (⟨"java/lang/String", "getBytes", "([BIB)V"⟩ : MethodName) (head1 (Jvm.Cond.code (⟨"java/lang/String", "getBytes", "([BIB)V"⟩ : MethodName) jdk_42_method_147_code 4 none :: ws) ({ frames := 1, cells := 0, slots := 0, locals := 18 } : Room)) (fun A0 U0 => A0 = #[(.ref so), (.ref da), (.int (Int32.ofNat k0)), (.int (0 : Int32))] ∧ Z.Warmed39 U0.vm ∧ U0.heap = h0) (fun _ _ _ _ _ => True) (fun _ U0 o0 U1 => ∃ v0 L0, o0 = .returned v0 ∧ own_Q_getB Z so da kd vd zc cap k0 lim cs h0 n0 v0 U1.heap L0 ∧ FrameEnd U0 o0 U1 L0 ({ frames := 1, cells := 0, slots := 0, locals := 18 } : Room).cells ({ frames := 1, cells := 0, slots := 0, locals := 18 } : Room).slots) := by
  refine MetFree.of_bodySF (plainFor_of_name own_pn_java_lang_String) hisR ?_
  intro p e s m args below meth c s₁ Bd hml0 hP hK
  obtain ⟨rfl, hZ, hh⟩ := hP
  have hZs0 := hZ
  have hZs := hZ
  have hx := Bd.exec
  have hby := Bd.bytes
  have hby_ := hby
  have hml : c.maxLocals = 4 := hml0
  have hown : s.vm.findClass "java/lang/String" = some m.cls := findClass_of_methodNamed Bd.named
  have hnm := (name_of_methodNamed Bd.named Bd.method).1
  have X0 : Stand p l e ({ frames := 1, cells := 0, slots := 0, locals := 18 } : Room) s m #[(.ref so), (.ref da), (.int (Int32.ofNat k0)), (.int (0 : Int32))] below meth c s₁ [] 0 0 := Stand.of_body Bd
  have e0 : s₁.heap = h0 := by rw [← hh, Bd.state]; rfl
  have N0 := Fr.nil n0
  refine OwnFin.entry (own_ef_getB m so da (Int32.ofNat k0) (0 : Int32)) (fun P' hP' => ?_)
  have l4 : cs.length ≤ 4000 := by obtain ⟨_, _, _, _, _, _, _, _, _, q⟩ := Fs; exact q
  obtain ⟨ts1, ks1, Es1, Vs1, Cs1, As1, lx1, lt1, hp1, l21⟩ := id Fs
  have lx1 := own_lt lx1
  have lt1 := own_lt lt1
  have ltx1 := own_lt Es1.lt
  have ltt1 := own_lt As1.lt
  have lt_da := own_lt Va.lt
  refine OwnFin.adv (B := s₁.setTop (mkF m 1 #[.val (.ref so), .val (.ref da), .val (.int (Int32.ofNat k0)), .val (.int (0 : Int32))] [(.ref so)])) (fun _ k => XS.aloadN X0.here hx rfl (hb hby own_d17_0) rfl rfl k) ?_
  obtain ⟨cq2, kq2, q2a, q2b, q2c⟩ := isOf hZ e0 Es1
  obtain ⟨_, _, ⟨T2, L2, k2, n2⟩, -, X2, ⟨Lc2, hQ2, l2, y2, z2⟩, st2⟩ := X0.virtualBack hx (y := (⟨"java/lang/String", "coder", "()B"⟩ : MethodName)) (z := (⟨"java/lang/String", "coder", "()B"⟩ : MethodName)) hown (mvT hZ (hw _ (List.mem_of_getElem? (i := 50) rfl))) (mvT hZ (hw _ (List.mem_of_getElem? (i := 51) rfl))) (notFace_of_selects (args := #[]) (mvT hZ (hw _ (List.mem_of_getElem? (i := 53) rfl)))) (mvT hZ (hw _ (List.mem_of_getElem? (i := 53) rfl))) (mvT hZ (hw _ (List.mem_of_getElem? (i := 52) rfl))) (by decide) (backOf (W := 0) (own_coder l Z a0 hw [] so zc h0 n0 (by omega) O0 SCS hzc Cs1) hZ (hw _ (List.mem_of_getElem? (i := 54) rfl)) (hw _ (List.mem_of_getElem? (i := 22) rfl)) (by decide) (by decide)) q2a q2c (g := (mkF m 1 #[.val (.ref so), .val (.ref da), .val (.int (Int32.ofNat k0)), .val (.int (0 : Int32))] [(.ref so)])) rfl (by rw [hml]; rfl) (Steps.refl _) (argsL := []) (rest := []) (lenOf own_pd_x28x29B rfl) rfl (by show 2 * 0 + _ ≤ _; exact Nat.le_of_eq rfl) (hb hby own_d17_1) (fun _ _ => ⟨rfl, e0, (by decide : 0 + 0 ≤ _), (by decide : 0 + 0 ≤ _)⟩)
  dsimp only [Pt.U, Pt.locs, Pt.cells, Pt.slots] at X2 l2 y2 z2 st2 hQ2
  subst l2 y2 z2
  obtain ⟨rfl, N2q, eh2⟩ := hQ2
  have N2 := Fr.app N0 N2q
  refine OwnFin.adv (B := T2.setTop (mkF m 4 #[.val (.ref so), .val (.ref da), .val (.int (Int32.ofNat k0)), .val (.int (0 : Int32))] [(.int (0 : Int32))])) (fun _ k => st2.trans k) ?_
  refine OwnFin.adv (B := T2.setTop (mkF m 5 #[.val (.ref so), .val (.ref da), .val (.int (Int32.ofNat k0)), .val (.int (0 : Int32))] [(.int (0 : Int32)), (.int (0 : Int32))])) (fun _ k => XS.iloadN X2.here hx rfl (hb hby own_d17_4) rfl k) ?_
  have hc5_4 : (0 : Int32) = (0 : Int32) := rfl
  refine OwnFin.adv (B := T2.setTop (mkF m 8 #[.val (.ref so), .val (.ref da), .val (.int (Int32.ofNat k0)), .val (.int (0 : Int32))] [])) (fun _ k => XS.icmpNo X2.here hx rfl (hb hby own_d17_5) rfl (teq hc5_4).2 k) ?_
  refine OwnFin.adv (B := T2.setTop (mkF m 9 #[.val (.ref so), .val (.ref da), .val (.int (Int32.ofNat k0)), .val (.int (0 : Int32))] [(.ref so)])) (fun _ k => XS.aloadN X2.here hx rfl (hb hby own_d17_8) rfl rfl k) ?_
  obtain ⟨T3, X3, e3, st3⟩ := getF X2 hx hZ hown (host := "") (Or.inl (hw _ (List.mem_of_getElem? (i := 49) rfl))) Via.refl eh2 Vs1 (g := (mkF m 9 #[.val (.ref so), .val (.ref da), .val (.int (Int32.ofNat k0)), .val (.int (0 : Int32))] [(.ref so)])) rfl rfl (hb hby own_d17_9)
  refine OwnFin.adv (B := T3.setTop (mkF m 12 #[.val (.ref so), .val (.ref da), .val (.int (Int32.ofNat k0)), .val (.int (0 : Int32))] [(.ref ts1)])) (fun _ k => st3 _ k) ?_
  refine OwnFin.adv (B := T3.setTop (mkF m 13 #[.val (.ref so), .val (.ref da), .val (.int (Int32.ofNat k0)), .val (.int (0 : Int32))] [(.int (0 : Int32)), (.ref ts1)])) (fun _ k => XS.iconst X3.here hx rfl (hb hby own_d17_12) k) ?_
  refine OwnFin.adv (B := T3.setTop (mkF m 14 #[.val (.ref so), .val (.ref da), .val (.int (Int32.ofNat k0)), .val (.int (0 : Int32))] [(.ref da), (.int (0 : Int32)), (.ref ts1)])) (fun _ k => XS.aloadN X3.here hx rfl (hb hby own_d17_13) rfl rfl k) ?_
  refine OwnFin.adv (B := T3.setTop (mkF m 15 #[.val (.ref so), .val (.ref da), .val (.int (Int32.ofNat k0)), .val (.int (0 : Int32))] [(.int (Int32.ofNat k0)), (.ref da), (.int (0 : Int32)), (.ref ts1)])) (fun _ k => XS.iloadN X3.here hx rfl (hb hby own_d17_14) rfl k) ?_
  refine OwnFin.adv (B := T3.setTop (mkF m 16 #[.val (.ref so), .val (.ref da), .val (.int (Int32.ofNat k0)), .val (.int (0 : Int32))] [(.int (0 : Int32)), (.int (Int32.ofNat k0)), (.ref da), (.int (0 : Int32)), (.ref ts1)])) (fun _ k => XS.iloadN X3.here hx rfl (hb hby own_d17_15) rfl k) ?_
  refine OwnFin.adv (B := T3.setTop (mkF m 17 #[.val (.ref so), .val (.ref da), .val (.int (Int32.ofNat k0)), .val (.int (0 : Int32))] [(.int ((Int32.ofNat k0) <<< ((0 : Int32) &&& 31))), (.ref da), (.int (0 : Int32)), (.ref ts1)])) (fun _ k => XS.ishl X3.here hx rfl (hb hby own_d17_16) rfl k) ?_
  rw [show (((Int32.ofNat k0) <<< ((0 : Int32) &&& 31)) : Int32) = (Int32.ofNat k0) from own_shl0 _]
  refine OwnFin.adv (B := T3.setTop (mkF m 18 #[.val (.ref so), .val (.ref da), .val (.int (Int32.ofNat k0)), .val (.int (0 : Int32))] [(.ref so), (.int (Int32.ofNat k0)), (.ref da), (.int (0 : Int32)), (.ref ts1)])) (fun _ k => XS.aloadN X3.here hx rfl (hb hby own_d17_17) rfl rfl k) ?_
  obtain ⟨T4, X4, e4, st4⟩ := getF X3 hx hZ hown (host := "") (Or.inl (hw _ (List.mem_of_getElem? (i := 49) rfl))) Via.refl e3 Vs1 (g := (mkF m 18 #[.val (.ref so), .val (.ref da), .val (.int (Int32.ofNat k0)), .val (.int (0 : Int32))] [(.ref so), (.int (Int32.ofNat k0)), (.ref da), (.int (0 : Int32)), (.ref ts1)])) rfl rfl (hb hby own_d17_18)
  refine OwnFin.adv (B := T4.setTop (mkF m 21 #[.val (.ref so), .val (.ref da), .val (.int (Int32.ofNat k0)), .val (.int (0 : Int32))] [(.ref ts1), (.int (Int32.ofNat k0)), (.ref da), (.int (0 : Int32)), (.ref ts1)])) (fun _ k => st4 _ k) ?_
  obtain ⟨cl5, Ar5, ck5, S5, M5, H5, G5⟩ := id As1
  refine OwnFin.adv (B := T4.setTop (mkF m 22 #[.val (.ref so), .val (.ref da), .val (.int (Int32.ofNat k0)), .val (.int (0 : Int32))] [(.int (Int32.ofNat (cs).length)), (.int (Int32.ofNat k0)), (.ref da), (.int (0 : Int32)), (.ref ts1)])) (fun _ k => X4.arraylength hx (by rw [e4]; exact Ar5.1) (State.isArrayOf_alike hZ.alike Ar5.2.1) (g := (mkF m 21 #[.val (.ref so), .val (.ref da), .val (.int (Int32.ofNat k0)), .val (.int (0 : Int32))] [(.ref ts1), (.int (Int32.ofNat k0)), (.ref da), (.int (0 : Int32)), (.ref ts1)])) rfl rfl (hb hby own_d17_21) _ (by rw [len_of S5 M5]; exact k)) ?_
  obtain ⟨T6, h6, L6, X6, e6, N6, K6, V6, st6⟩ := cpA X4 hx hZ hown (hw _ (List.mem_of_getElem? (i := 106) rfl)) (hw _ (List.mem_of_getElem? (i := 89) rfl)) (hw _ (List.mem_of_getElem? (i := 87) rfl)) (hw _ (List.mem_of_getElem? (i := 88) rfl)) e4 As1 Va (Or.inl ⟨rfl, rfl⟩) (by decide) (own_nn (by omega)) (own_nn (by omega)) (by rw [own_cl (by omega)]; exact Nat.le_of_eq (Nat.zero_add _)) (by rw [own_cl (by omega), own_cl (by omega), own_cl (by omega)]; omega) (us := ((cs.map fun c => c.toInt8.toInt32).map Value.int)) (by rw [own_cl (by omega)]; exact own_whole _ _ _ (by simp)) (by rw [own_cl (by omega), own_cl (by omega)]; omega) N2 (by omega) (g := (mkF m 22 #[.val (.ref so), .val (.ref da), .val (.int (Int32.ofNat k0)), .val (.int (0 : Int32))] [(.int (Int32.ofNat (cs).length)), (.int (Int32.ofNat k0)), (.ref da), (.int (0 : Int32)), (.ref ts1)])) rfl (by rw [hml]; rfl) rfl (hb hby own_d17_22) (by decide) (W := 0) (by show 2 * 0 + _ ≤ _; exact Nat.le_of_eq rfl) (by decide)
  have sz7 : h0.size ≤ h6.size := K6.1
  have V6n : Arv Z h6 da kd .byte (Int32.ofNat cap) (vd.take k0 ++ ((cs.map fun c => c.toInt8.toInt32).map Value.int) ++ vd.drop (k0 + cs.length)) (.int (0 : Int32)) := by
    have q := V6
    rw [show _ ++ _ ++ _ = (vd.take k0 ++ ((cs.map fun c => c.toInt8.toInt32).map Value.int) ++ vd.drop (k0 + cs.length)) from by rw [own_cl (by omega), own_cl (by omega)]] at q
    exact q
  refine OwnFin.adv (B := T6.setTop (mkF m 25 #[.val (.ref so), .val (.ref da), .val (.int (Int32.ofNat k0)), .val (.int (0 : Int32))] [])) (fun _ k => st6 _ k) ?_
  refine OwnFin.adv (B := T6.setTop (mkF m 43 #[.val (.ref so), .val (.ref da), .val (.int (Int32.ofNat k0)), .val (.int (0 : Int32))] [])) (fun _ k => XS.goto X6.here hx rfl (pc0 := 25) (pc' := 43) rfl (hb hby own_d17_25) (by decide) (by decide) k) ?_
  obtain ⟨fs, hr, hrun, hended, hW, hsame⟩ := X6.leave (v := none) (fun _ => rfl)
  refine OwnFin.leaf hP' ⟨_, _, X6.returnOut hx Bd.returns (hb hby own_d17_43) hr, hrun, hended, _, _, rfl, ?_, ⟨_, rfl⟩, hW, hsame.mono (by decide) (by decide)⟩
  rw [show (T6.setFrames fs).heap = h6 from e6]
  exact ⟨rfl, N6, ((Keep.refl h0 [da]).trans K6 (allS (Or.inl (List.mem_of_getElem? (i := 0) rfl)) all0)), V6n⟩
theorem own_d15_0 : decode jdk_68_method_73_code 0 = .ok (.aload_n 0, 1) := by decide +kernel
theorem own_d15_1 : decode jdk_68_method_73_code 1 = .ok (.aload_n 2, 1) := by decide +kernel
theorem own_pd_x28Ljavax2flangx2fStringx3bx29V : parseMethodDescriptor "(Ljava/lang/String;)V" = some ⟨[(.object "java/lang/String")], none⟩ := by decide +kernel
theorem own_d15_2 : decode jdk_68_method_73_code 2 = .ok (.invokevirtual 397, 3) := by decide +kernel
theorem own_d15_5 : decode jdk_68_method_73_code 5 = .ok (.aload_n 2, 1) := by decide +kernel
theorem own_d15_6 : decode jdk_68_method_73_code 6 = .ok (.aload_n 0, 1) := by decide +kernel
theorem own_d15_7 : decode jdk_68_method_73_code 7 = .ok (.getfield 15, 3) := by decide +kernel
theorem own_d15_10 : decode jdk_68_method_73_code 10 = .ok (.iload_n 1, 1) := by decide +kernel
theorem own_d15_11 : decode jdk_68_method_73_code 11 = .ok (.aload_n 0, 1) := by decide +kernel
theorem own_d15_12 : decode jdk_68_method_73_code 12 = .ok (.getfield 22, 3) := by decide +kernel
theorem own_pd_x28x5bBIBx29V : parseMethodDescriptor "([BIB)V" = some ⟨[(.array .byte), .int, .byte], none⟩ := by decide +kernel
theorem own_d15_15 : decode jdk_68_method_73_code 15 = .ok (.invokevirtual 399, 3) := by decide +kernel
theorem own_d15_18 : decode jdk_68_method_73_code 18 = .ok (.return_, 1) := by decide +kernel
theorem own_ef_putS (m : MethodId) (x0 : Addr) (x1 : Int32) (x2 : Addr) : entryFrame m #[(.ref x0), (.int x1), (.ref x2)] 3 = mkF m 0 #[.val (.ref x0), .val (.int x1), .val (.ref x2)] [] := by first | (simp [entryFrame, mkF, argsToLocals, Value.category]; done) | rfl
def own_Q_putS (Z : State) (ob : Addr) (so da : Addr) (kd : ClassId) (vd : List Value) (zc : Int32) (cap k0 lim : Nat) (cs : List Int32) (h0 : Heap) (n0 : Nat) (v : Option Value) (h : Heap) (L : List Loc) : Prop := v = none ∧ Fr n0 L ∧ Keep h0 h [da] ∧ Arv Z h da kd .byte (Int32.ofNat cap) (vd.take k0 ++ ((cs.map fun c => c.toInt8.toInt32).map Value.int) ++ vd.drop (k0 + cs.length)) (.int (0 : Int32))
set_option maxRecDepth 65536 in
set_option maxHeartbeats 40000000 in
theorem own_putS (l : Launch) (Z : State) (a0 : Array Value) (hw : ∀ d ∈ tables_1, d.before a0 Z = true) (ws : List Jvm.Cond) (ob : Addr) (so da : Addr) (kd : ClassId) (vd : List Value) (zc : Int32) (cap k0 lim : Nat) (cs : List Int32) (h0 : Heap) (n0 : Nat) (Z0 : n0 ≤ h0.size) (O0 : Old Z n0 h0) (SCS : Sta Z Z.heap "java/lang/String" "COMPACT_STRINGS" "Z" (.int zc)) (hzc : ¬ zc = 0) (E : Exa Z h0 ob "java/lang/StringBuilder") (Fv : Fld Z h0 ob "java/lang/AbstractStringBuilder" "value" "[B" (.ref da)) (Fc : Fld Z h0 ob "java/lang/AbstractStringBuilder" "coder" "B" (.int (0 : Int32))) (Fs : OwnS Z h0 lim so cs) (Va : Arv Z h0 da kd .byte (Int32.ofNat cap) vd (.int (0 : Int32))) (hcap : cap ≤ 4000) (hvd : vd.length = cap) (hfit : k0 + cs.length ≤ cap) (g_da : n0 ≤ da) :
    MetFree l (⟨"java/lang/AbstractStringBuilder", "putStringAt", "(ILjava/lang/String;)V"⟩ : MethodName) (head1 (Jvm.Cond.code (⟨"java/lang/AbstractStringBuilder", "putStringAt", "(ILjava/lang/String;)V"⟩ : MethodName) jdk_68_method_73_code 3 none :: ws) ({ frames := 2, cells := 0, slots := 0, locals := 33 } : Room)) (fun A0 U0 => A0 = #[(.ref ob), (.int (Int32.ofNat k0)), (.ref so)] ∧ Z.Warmed39 U0.vm ∧ U0.heap = h0) (fun _ _ _ _ _ => True) (fun _ U0 o0 U1 => ∃ v0 L0, o0 = .returned v0 ∧ own_Q_putS Z ob so da kd vd zc cap k0 lim cs h0 n0 v0 U1.heap L0 ∧ FrameEnd U0 o0 U1 L0 ({ frames := 2, cells := 0, slots := 0, locals := 33 } : Room).cells ({ frames := 2, cells := 0, slots := 0, locals := 33 } : Room).slots) := by
  refine MetFree.of_bodySF (plainFor_of_name own_pn_java_lang_AbstractStringBuilder) hisR ?_
  intro p e s m args below meth c s₁ Bd hml0 hP hK
  obtain ⟨rfl, hZ, hh⟩ := hP
  have hZs0 := hZ
  have hZs := hZ
  have hx := Bd.exec
  have hby := Bd.bytes
  have hby_ := hby
  have hml : c.maxLocals = 3 := hml0
  have hown : s.vm.findClass "java/lang/AbstractStringBuilder" = some m.cls := findClass_of_methodNamed Bd.named
  have hnm := (name_of_methodNamed Bd.named Bd.method).1
  have X0 : Stand p l e ({ frames := 2, cells := 0, slots := 0, locals := 33 } : Room) s m #[(.ref ob), (.int (Int32.ofNat k0)), (.ref so)] below meth c s₁ [] 0 0 := Stand.of_body Bd
  have e0 : s₁.heap = h0 := by rw [← hh, Bd.state]; rfl
  have N0 := Fr.nil n0
  refine OwnFin.entry (own_ef_putS m ob (Int32.ofNat k0) so) (fun P' hP' => ?_)
  have l4 : cs.length ≤ 4000 := by obtain ⟨_, _, _, _, _, _, _, _, _, q⟩ := Fs; exact q
  obtain ⟨ts1, ks1, Es1, Vs1, Cs1, As1, lx1, lt1, hp1, l21⟩ := id Fs
  have lx1 := own_lt lx1
  have lt1 := own_lt lt1
  have ltx1 := own_lt Es1.lt
  have ltt1 := own_lt As1.lt
  have lt_da := own_lt Va.lt
  refine OwnFin.adv (B := s₁.setTop (mkF m 1 #[.val (.ref ob), .val (.int (Int32.ofNat k0)), .val (.ref so)] [(.ref ob)])) (fun _ k => XS.aloadN X0.here hx rfl (hb hby own_d15_0) rfl rfl k) ?_
  refine OwnFin.adv (B := s₁.setTop (mkF m 2 #[.val (.ref ob), .val (.int (Int32.ofNat k0)), .val (.ref so)] [(.ref so), (.ref ob)])) (fun _ k => XS.aloadN X0.here hx rfl (hb hby own_d15_1) rfl rfl k) ?_
  obtain ⟨cq2, kq2, q2a, q2b, q2c⟩ := isOf hZ e0 E
  obtain ⟨_, _, ⟨T2, L2, k2, n2⟩, -, X2, ⟨Lc2, hQ2, l2, y2, z2⟩, st2⟩ := X0.virtualBack hx (y := (⟨"java/lang/AbstractStringBuilder", "inflateIfNeededFor", "(Ljava/lang/String;)V"⟩ : MethodName)) (z := (⟨"java/lang/AbstractStringBuilder", "inflateIfNeededFor", "(Ljava/lang/String;)V"⟩ : MethodName)) hown (mvT hZ (hw _ (List.mem_of_getElem? (i := 95) rfl))) (mvT hZ (own_decl (hw _ (List.mem_of_getElem? (i := 96) rfl)) (hw _ (List.mem_of_getElem? (i := 99) rfl)))) (notFace_of_selects (args := #[]) (mvT hZ (hw _ (List.mem_of_getElem? (i := 98) rfl)))) (mvT hZ (hw _ (List.mem_of_getElem? (i := 98) rfl))) (mvT hZ (hw _ (List.mem_of_getElem? (i := 96) rfl))) (by decide) (backOf (W := 0) (own_inflate l Z a0 hw [] ob so zc lim cs h0 n0 (by omega) O0 SCS hzc Fc Fs) hZ (hw _ (List.mem_of_getElem? (i := 99) rfl)) (hw _ (List.mem_of_getElem? (i := 16) rfl)) (by decide) (by decide)) q2a q2c (g := (mkF m 2 #[.val (.ref ob), .val (.int (Int32.ofNat k0)), .val (.ref so)] [(.ref so), (.ref ob)])) rfl (by rw [hml]; rfl) (Steps.refl _) (argsL := [(.ref so)]) (rest := []) (lenOf own_pd_x28Ljavax2flangx2fStringx3bx29V rfl) rfl (by show 2 * 0 + _ ≤ _; exact Nat.le_of_eq rfl) (hb hby own_d15_2) (fun _ _ => ⟨rfl, e0, (by decide : 0 + 0 ≤ _), (by decide : 0 + 0 ≤ _)⟩)
  dsimp only [Pt.U, Pt.locs, Pt.cells, Pt.slots] at X2 l2 y2 z2 st2 hQ2
  subst l2 y2 z2
  obtain ⟨rfl, N2q, eh2⟩ := hQ2
  have N2 := Fr.app N0 N2q
  refine OwnFin.adv (B := T2.setTop (mkF m 5 #[.val (.ref ob), .val (.int (Int32.ofNat k0)), .val (.ref so)] [])) (fun _ k => st2.trans k) ?_
  refine OwnFin.adv (B := T2.setTop (mkF m 6 #[.val (.ref ob), .val (.int (Int32.ofNat k0)), .val (.ref so)] [(.ref so)])) (fun _ k => XS.aloadN X2.here hx rfl (hb hby own_d15_5) rfl rfl k) ?_
  refine OwnFin.adv (B := T2.setTop (mkF m 7 #[.val (.ref ob), .val (.int (Int32.ofNat k0)), .val (.ref so)] [(.ref ob), (.ref so)])) (fun _ k => XS.aloadN X2.here hx rfl (hb hby own_d15_6) rfl rfl k) ?_
  obtain ⟨T3, X3, e3, st3⟩ := getF X2 hx hZ hown (host := "") (Or.inl (hw _ (List.mem_of_getElem? (i := 24) rfl))) Via.refl eh2 Fv (g := (mkF m 7 #[.val (.ref ob), .val (.int (Int32.ofNat k0)), .val (.ref so)] [(.ref ob), (.ref so)])) rfl rfl (hb hby own_d15_7)
  refine OwnFin.adv (B := T3.setTop (mkF m 10 #[.val (.ref ob), .val (.int (Int32.ofNat k0)), .val (.ref so)] [(.ref da), (.ref so)])) (fun _ k => st3 _ k) ?_
  refine OwnFin.adv (B := T3.setTop (mkF m 11 #[.val (.ref ob), .val (.int (Int32.ofNat k0)), .val (.ref so)] [(.int (Int32.ofNat k0)), (.ref da), (.ref so)])) (fun _ k => XS.iloadN X3.here hx rfl (hb hby own_d15_10) rfl k) ?_
  refine OwnFin.adv (B := T3.setTop (mkF m 12 #[.val (.ref ob), .val (.int (Int32.ofNat k0)), .val (.ref so)] [(.ref ob), (.int (Int32.ofNat k0)), (.ref da), (.ref so)])) (fun _ k => XS.aloadN X3.here hx rfl (hb hby own_d15_11) rfl rfl k) ?_
  obtain ⟨T4, X4, e4, st4⟩ := getF X3 hx hZ hown (host := "") (Or.inl (hw _ (List.mem_of_getElem? (i := 26) rfl))) Via.refl e3 Fc (g := (mkF m 12 #[.val (.ref ob), .val (.int (Int32.ofNat k0)), .val (.ref so)] [(.ref ob), (.int (Int32.ofNat k0)), (.ref da), (.ref so)])) rfl rfl (hb hby own_d15_12)
  refine OwnFin.adv (B := T4.setTop (mkF m 15 #[.val (.ref ob), .val (.int (Int32.ofNat k0)), .val (.ref so)] [(.int (0 : Int32)), (.int (Int32.ofNat k0)), (.ref da), (.ref so)])) (fun _ k => st4 _ k) ?_
  obtain ⟨cq5, kq5, q5a, q5b, q5c⟩ := isOf hZ e4 Es1
  obtain ⟨_, _, ⟨T5, L5, k5, n5⟩, -, X5, ⟨Lc5, hQ5, l5, y5, z5⟩, st5⟩ := X4.virtualBack hx (y := (⟨"java/lang/String", "getBytes", "([BIB)V"⟩ : MethodName)) (z := (⟨"java/lang/String", "getBytes", "([BIB)V"⟩ : MethodName)) hown (mvT hZ (hw _ (List.mem_of_getElem? (i := 101) rfl))) (mvT hZ (hw _ (List.mem_of_getElem? (i := 102) rfl))) (notFace_of_selects (args := #[]) (mvT hZ (hw _ (List.mem_of_getElem? (i := 104) rfl)))) (mvT hZ (hw _ (List.mem_of_getElem? (i := 104) rfl))) (mvT hZ (hw _ (List.mem_of_getElem? (i := 103) rfl))) (by decide) (backOf (W := 0) (own_getB l Z a0 hw [] so da kd vd zc cap k0 lim cs h0 n0 (by omega) O0 SCS hzc Fs Va hcap hvd hfit g_da) hZ (hw _ (List.mem_of_getElem? (i := 105) rfl)) (hw _ (List.mem_of_getElem? (i := 22) rfl)) (by decide) (by decide)) q5a q5c (g := (mkF m 15 #[.val (.ref ob), .val (.int (Int32.ofNat k0)), .val (.ref so)] [(.int (0 : Int32)), (.int (Int32.ofNat k0)), (.ref da), (.ref so)])) rfl (by rw [hml]; rfl) (Steps.refl _) (argsL := [(.ref da), (.int (Int32.ofNat k0)), (.int (0 : Int32))]) (rest := []) (lenOf own_pd_x28x5bBIBx29V rfl) rfl (by show 2 * 0 + _ ≤ _; exact Nat.le_of_eq rfl) (hb hby own_d15_15) (fun _ _ => ⟨rfl, e4, (by decide : 0 + 0 ≤ _), (by decide : 0 + 0 ≤ _)⟩)
  dsimp only [Pt.U, Pt.locs, Pt.cells, Pt.slots] at X5 l5 y5 z5 st5 hQ5
  subst l5 y5 z5
  obtain ⟨rfl, N5q, K5, Va5⟩ := hQ5
  have N5 := Fr.app N2 N5q
  have sz6 : h0.size ≤ T5.heap.size := K5.1
  refine OwnFin.adv (B := T5.setTop (mkF m 18 #[.val (.ref ob), .val (.int (Int32.ofNat k0)), .val (.ref so)] [])) (fun _ k => st5.trans k) ?_
  obtain ⟨fs, hr, hrun, hended, hW, hsame⟩ := X5.leave (v := none) (fun _ => rfl)
  refine OwnFin.leaf hP' ⟨_, _, X5.returnOut hx Bd.returns (hb hby own_d15_18) hr, hrun, hended, _, _, rfl, ?_, ⟨_, rfl⟩, hW, hsame.mono (by decide) (by decide)⟩
  rw [show (T5.setFrames fs).heap = T5.heap from rfl]
  exact ⟨rfl, N5, ((Keep.refl h0 [da]).trans K5 (allS (Or.inl (List.mem_of_getElem? (i := 0) rfl)) all0)), Va5⟩
theorem own_sub0 (x : Int32) : x - (0 : Int32) = x := Int32.sub_zero x

theorem own_d14_0 : decode jdk_29_method_69_code 0 = .ok (.iload_n 0, 1) := by decide +kernel
theorem own_d14_1 : decode jdk_29_method_69_code 1 = .ok (.iload_n 1, 1) := by decide +kernel
theorem own_d14_2 : decode jdk_29_method_69_code 2 = .ok (.if_icmp .gt 7, 3) := by decide +kernel
theorem own_d14_9 : decode jdk_29_method_69_code 9 = .ok (.iload_n 1, 1) := by decide +kernel
theorem own_d14_10 : decode jdk_29_method_69_code 10 = .ok (.ireturn, 1) := by decide +kernel
theorem own_ef_min (m : MethodId) (x0 : Int32) (x1 : Int32) : entryFrame m #[(.int x0), (.int x1)] 2 = mkF m 0 #[.val (.int x0), .val (.int x1)] [] := by first | (simp [entryFrame, mkF, argsToLocals, Value.category]; done) | rfl
def own_Q_min (Z : State) (mx my : Int32) (h0 : Heap) (n0 : Nat) (v : Option Value) (h : Heap) (L : List Loc) : Prop := v = some (.int my) ∧ Fr n0 L ∧ h = h0
set_option maxRecDepth 65536 in
set_option maxHeartbeats 40000000 in
theorem own_min (l : Launch) (Z : State) (a0 : Array Value) (hw : ∀ d ∈ tables_1, d.before a0 Z = true) (ws : List Jvm.Cond) (mx my : Int32) (h0 : Heap) (n0 : Nat) (Z0 : n0 ≤ h0.size) (hlt : my < mx) :
    MetFree l (⟨"java/lang/Math", "min", "(II)I"⟩ : MethodName) (head1 (Jvm.Cond.code (⟨"java/lang/Math", "min", "(II)I"⟩ : MethodName) jdk_29_method_69_code 2 (some .int) :: ws) ({ frames := 0, cells := 0, slots := 0, locals := 0 } : Room)) (fun A0 U0 => A0 = #[(.int mx), (.int my)] ∧ Z.Warmed39 U0.vm ∧ U0.heap = h0) (fun _ _ _ _ _ => True) (fun _ U0 o0 U1 => ∃ v0 L0, o0 = .returned v0 ∧ own_Q_min Z mx my h0 n0 v0 U1.heap L0 ∧ FrameEnd U0 o0 U1 L0 ({ frames := 0, cells := 0, slots := 0, locals := 0 } : Room).cells ({ frames := 0, cells := 0, slots := 0, locals := 0 } : Room).slots) := by
  refine MetFree.of_bodySF (Jvm.Free.JP.mathPlain rfl (by decide +kernel)) hisR ?_
  intro p e s m args below meth c s₁ Bd hml0 hP hK
  obtain ⟨rfl, hZ, hh⟩ := hP
  have hZs0 := hZ
  have hZs := hZ
  have hx := Bd.exec
  have hby := Bd.bytes
  have hby_ := hby
  have hml : c.maxLocals = 2 := hml0
  have hown : s.vm.findClass "java/lang/Math" = some m.cls := findClass_of_methodNamed Bd.named
  have hnm := (name_of_methodNamed Bd.named Bd.method).1
  have X0 : Stand p l e ({ frames := 0, cells := 0, slots := 0, locals := 0 } : Room) s m #[(.int mx), (.int my)] below meth c s₁ [] 0 0 := Stand.of_body Bd
  have e0 : s₁.heap = h0 := by rw [← hh, Bd.state]; rfl
  have N0 := Fr.nil n0
  refine OwnFin.entry (own_ef_min m mx my) (fun P' hP' => ?_)
  refine OwnFin.adv (B := s₁.setTop (mkF m 1 #[.val (.int mx), .val (.int my)] [(.int mx)])) (fun _ k => XS.iloadN X0.here hx rfl (hb hby own_d14_0) rfl k) ?_
  refine OwnFin.adv (B := s₁.setTop (mkF m 2 #[.val (.int mx), .val (.int my)] [(.int my), (.int mx)])) (fun _ k => XS.iloadN X0.here hx rfl (hb hby own_d14_1) rfl k) ?_
  have hc2_3 : my < mx := hlt
  refine OwnFin.adv (B := s₁.setTop (mkF m 9 #[.val (.int mx), .val (.int my)] [])) (fun _ k => XS.icmpYes X0.here hx rfl (pc0 := 2) (pc' := 9) rfl (hb hby own_d14_2) rfl (tlt hc2_3).2.2.1 (by decide) (by decide) k) ?_
  refine OwnFin.adv (B := s₁.setTop (mkF m 10 #[.val (.int mx), .val (.int my)] [(.int my)])) (fun _ k => XS.iloadN X0.here hx rfl (hb hby own_d14_9) rfl k) ?_
  obtain ⟨fs, hr, hrun, hended, hW, hsame⟩ := X0.leave (v := some (.int my)) (fun h => by rw [Bd.returns] at h; cases h)
  refine OwnFin.leaf hP' ⟨_, _, own_retI X0 hx Bd.returns (hb hby own_d14_10) hr, hrun, hended, _, _, rfl, ?_, ⟨_, rfl⟩, hW, hsame.mono (by decide) (by decide)⟩
  exact ⟨rfl, N0, e0⟩
theorem own_d31_0 : decode jdk_65_method_131_code 0 = .ok (.iload_n 1, 1) := by decide +kernel
theorem own_d31_1 : decode jdk_65_method_131_code 1 = .ok (.iload_n 0, 1) := by decide +kernel
theorem own_d31_2 : decode jdk_65_method_131_code 2 = .ok (.if_icmp .ge 35, 3) := by decide +kernel
theorem own_d31_37 : decode jdk_65_method_131_code 37 = .ok (.return_, 1) := by decide +kernel
theorem own_ef_chkLen (m : MethodId) (x0 : Int32) (x1 : Int32) : entryFrame m #[(.int x0), (.int x1)] 2 = mkF m 0 #[.val (.int x0), .val (.int x1)] [] := by first | (simp [entryFrame, mkF, argsToLocals, Value.category]; done) | rfl
theorem own_pn_java_util_Arrays : plainName "java/util/Arrays" = true := by first | (simp [plainName, overriddenIn]; done) | decide +kernel
def own_Q_chkLen (Z : State) (my : Int32) (h0 : Heap) (n0 : Nat) (v : Option Value) (h : Heap) (L : List Loc) : Prop := v = none ∧ Fr n0 L ∧ h = h0
set_option maxRecDepth 65536 in
set_option maxHeartbeats 40000000 in
theorem own_chkLen (l : Launch) (Z : State) (a0 : Array Value) (hw : ∀ d ∈ tables_1, d.before a0 Z = true) (ws : List Jvm.Cond) (my : Int32) (h0 : Heap) (n0 : Nat) (Z0 : n0 ≤ h0.size) (hge : ¬ my < 0) :
    MetFree l (⟨"java/util/Arrays", "checkLength", "(II)V"⟩ : MethodName) (head1 (Jvm.Cond.code (⟨"java/util/Arrays", "checkLength", "(II)V"⟩ : MethodName) jdk_65_method_131_code 2 none :: ws) ({ frames := 0, cells := 0, slots := 0, locals := 0 } : Room)) (fun A0 U0 => A0 = #[(.int (0 : Int32)), (.int my)] ∧ Z.Warmed39 U0.vm ∧ U0.heap = h0) (fun _ _ _ _ _ => True) (fun _ U0 o0 U1 => ∃ v0 L0, o0 = .returned v0 ∧ own_Q_chkLen Z my h0 n0 v0 U1.heap L0 ∧ FrameEnd U0 o0 U1 L0 ({ frames := 0, cells := 0, slots := 0, locals := 0 } : Room).cells ({ frames := 0, cells := 0, slots := 0, locals := 0 } : Room).slots) := by
  refine MetFree.of_bodySF (plainFor_of_name own_pn_java_util_Arrays) hisR ?_
  intro p e s m args below meth c s₁ Bd hml0 hP hK
  obtain ⟨rfl, hZ, hh⟩ := hP
  have hZs0 := hZ
  have hZs := hZ
  have hx := Bd.exec
  have hby := Bd.bytes
  have hby_ := hby
  have hml : c.maxLocals = 2 := hml0
  have hown : s.vm.findClass "java/util/Arrays" = some m.cls := findClass_of_methodNamed Bd.named
  have hnm := (name_of_methodNamed Bd.named Bd.method).1
  have X0 : Stand p l e ({ frames := 0, cells := 0, slots := 0, locals := 0 } : Room) s m #[(.int (0 : Int32)), (.int my)] below meth c s₁ [] 0 0 := Stand.of_body Bd
  have e0 : s₁.heap = h0 := by rw [← hh, Bd.state]; rfl
  have N0 := Fr.nil n0
  refine OwnFin.entry (own_ef_chkLen m (0 : Int32) my) (fun P' hP' => ?_)
  refine OwnFin.adv (B := s₁.setTop (mkF m 1 #[.val (.int (0 : Int32)), .val (.int my)] [(.int my)])) (fun _ k => XS.iloadN X0.here hx rfl (hb hby own_d31_0) rfl k) ?_
  refine OwnFin.adv (B := s₁.setTop (mkF m 2 #[.val (.int (0 : Int32)), .val (.int my)] [(.int (0 : Int32)), (.int my)])) (fun _ k => XS.iloadN X0.here hx rfl (hb hby own_d31_1) rfl k) ?_
  have hc2_3 : ¬ (my < (0 : Int32)) := hge
  refine OwnFin.adv (B := s₁.setTop (mkF m 37 #[.val (.int (0 : Int32)), .val (.int my)] [])) (fun _ k => XS.icmpYes X0.here hx rfl (pc0 := 2) (pc' := 37) rfl (hb hby own_d31_2) rfl (flt hc2_3).2.1 (by decide) (by decide) k) ?_
  obtain ⟨fs, hr, hrun, hended, hW, hsame⟩ := X0.leave (v := none) (fun _ => rfl)
  refine OwnFin.leaf hP' ⟨_, _, X0.returnOut hx Bd.returns (hb hby own_d31_37) hr, hrun, hended, _, _, rfl, ?_, ⟨_, rfl⟩, hW, hsame.mono (by decide) (by decide)⟩
  exact ⟨rfl, N0, e0⟩
theorem own_d30_0 : decode jdk_65_method_133_code 0 = .ok (.iload_n 1, 1) := by decide +kernel
theorem own_d30_1 : decode jdk_65_method_133_code 1 = .ok (.iload_n 2, 1) := by decide +kernel
theorem own_pd_x28IIx29V : parseMethodDescriptor "(II)V" = some ⟨[.int, .int], none⟩ := by decide +kernel
theorem own_d30_2 : decode jdk_65_method_133_code 2 = .ok (.invokestatic 343, 3) := by decide +kernel
theorem own_d30_5 : decode jdk_65_method_133_code 5 = .ok (.iload_n 2, 1) := by decide +kernel
theorem own_d30_6 : decode jdk_65_method_133_code 6 = .ok (.iload_n 1, 1) := by decide +kernel
theorem own_d30_7 : decode jdk_65_method_133_code 7 = .ok (.isub, 1) := by decide +kernel
theorem own_d30_8 : decode jdk_65_method_133_code 8 = .ok (.istore_n 3, 1) := by decide +kernel
theorem own_d30_9 : decode jdk_65_method_133_code 9 = .ok (.iload_n 3, 1) := by decide +kernel
theorem own_d30_10 : decode jdk_65_method_133_code 10 = .ok (.newarray .byte, 2) := by decide +kernel
theorem own_d30_12 : decode jdk_65_method_133_code 12 = .ok (.astore 4, 2) := by decide +kernel
theorem own_d30_14 : decode jdk_65_method_133_code 14 = .ok (.aload_n 0, 1) := by decide +kernel
theorem own_d30_15 : decode jdk_65_method_133_code 15 = .ok (.iload_n 1, 1) := by decide +kernel
theorem own_d30_16 : decode jdk_65_method_133_code 16 = .ok (.aload 4, 2) := by decide +kernel
theorem own_d30_18 : decode jdk_65_method_133_code 18 = .ok (.iconst 0, 1) := by decide +kernel
theorem own_d30_19 : decode jdk_65_method_133_code 19 = .ok (.aload_n 0, 1) := by decide +kernel
theorem own_d30_20 : decode jdk_65_method_133_code 20 = .ok (.arraylength, 1) := by decide +kernel
theorem own_d30_21 : decode jdk_65_method_133_code 21 = .ok (.iload_n 1, 1) := by decide +kernel
theorem own_d30_22 : decode jdk_65_method_133_code 22 = .ok (.isub, 1) := by decide +kernel
theorem own_d30_23 : decode jdk_65_method_133_code 23 = .ok (.iload_n 3, 1) := by decide +kernel
theorem own_pd_x28IIx29I : parseMethodDescriptor "(II)I" = some ⟨[.int, .int], some .int⟩ := by decide +kernel
theorem own_d30_24 : decode jdk_65_method_133_code 24 = .ok (.invokestatic 304, 3) := by decide +kernel
theorem own_d30_27 : decode jdk_65_method_133_code 27 = .ok (.invokestatic 150, 3) := by decide +kernel
theorem own_d30_30 : decode jdk_65_method_133_code 30 = .ok (.aload 4, 2) := by decide +kernel
theorem own_d30_32 : decode jdk_65_method_133_code 32 = .ok (.areturn, 1) := by decide +kernel
theorem own_ef_corb (m : MethodId) (x0 : Addr) (x1 : Int32) (x2 : Int32) : entryFrame m #[(.ref x0), (.int x1), (.int x2)] 5 = mkF m 0 #[.val (.ref x0), .val (.int x1), .val (.int x2), .unset, .unset] [] := by first | (simp [entryFrame, mkF, argsToLocals, Value.category]; done) | rfl
def own_Q_corb (Z : State) (da : Addr) (kd : ClassId) (vd : List Value) (cap k0 : Nat) (h0 : Heap) (n0 : Nat) (v : Option Value) (h : Heap) (L : List Loc) : Prop := ∃ (t : Addr) (kt : ClassId), v = some (.ref t) ∧ Fr n0 L ∧ Keep h0 h [] ∧ h0.size ≤ t ∧ Arv Z h t kt .byte (Int32.ofNat k0) (vd.take k0) (.int (0 : Int32))
set_option maxRecDepth 65536 in
set_option maxHeartbeats 40000000 in
theorem own_corb (l : Launch) (Z : State) (a0 : Array Value) (hw : ∀ d ∈ tables_1, d.before a0 Z = true) (ws : List Jvm.Cond) (da : Addr) (kd : ClassId) (vd : List Value) (cap k0 : Nat) (h0 : Heap) (n0 : Nat) (Z0 : n0 ≤ h0.size) (Va : Arv Z h0 da kd .byte (Int32.ofNat cap) vd (.int (0 : Int32))) (hcap : cap ≤ 4000) (hvd : vd.length = cap) (hk : k0 < cap) (hk64 : k0 ≤ 64) :
    MetFree l (⟨"java/util/Arrays", "copyOfRangeByte", "([BII)[B"⟩ : MethodName) (head1 (Jvm.Cond.code (⟨"java/util/Arrays", "copyOfRangeByte", "([BII)[B"⟩ : MethodName) jdk_65_method_133_code 5 (some (.array .byte)) :: ws) ({ frames := 1, cells := 1, slots := 64, locals := 18 } : Room)) (fun A0 U0 => A0 = #[(.ref da), (.int (0 : Int32)), (.int (Int32.ofNat k0))] ∧ Z.Warmed39 U0.vm ∧ U0.heap = h0) (fun _ _ _ _ _ => True) (fun _ U0 o0 U1 => ∃ v0 L0, o0 = .returned v0 ∧ own_Q_corb Z da kd vd cap k0 h0 n0 v0 U1.heap L0 ∧ FrameEnd U0 o0 U1 L0 ({ frames := 1, cells := 1, slots := 64, locals := 18 } : Room).cells ({ frames := 1, cells := 1, slots := 64, locals := 18 } : Room).slots) := by
  refine MetFree.of_bodySF (plainFor_of_name own_pn_java_util_Arrays) hisR ?_
  intro p e s m args below meth c s₁ Bd hml0 hP hK
  obtain ⟨rfl, hZ, hh⟩ := hP
  have hZs0 := hZ
  have hZs := hZ
  have hx := Bd.exec
  have hby := Bd.bytes
  have hby_ := hby
  have hml : c.maxLocals = 5 := hml0
  have hown : s.vm.findClass "java/util/Arrays" = some m.cls := findClass_of_methodNamed Bd.named
  have hnm := (name_of_methodNamed Bd.named Bd.method).1
  have X0 : Stand p l e ({ frames := 1, cells := 1, slots := 64, locals := 18 } : Room) s m #[(.ref da), (.int (0 : Int32)), (.int (Int32.ofNat k0))] below meth c s₁ [] 0 0 := Stand.of_body Bd
  have e0 : s₁.heap = h0 := by rw [← hh, Bd.state]; rfl
  have N0 := Fr.nil n0
  refine OwnFin.entry (own_ef_corb m da (0 : Int32) (Int32.ofNat k0)) (fun P' hP' => ?_)
  have lt_da := own_lt Va.lt
  refine OwnFin.adv (B := s₁.setTop (mkF m 1 #[.val (.ref da), .val (.int (0 : Int32)), .val (.int (Int32.ofNat k0)), .unset, .unset] [(.int (0 : Int32))])) (fun _ k => XS.iloadN X0.here hx rfl (hb hby own_d30_0) rfl k) ?_
  refine OwnFin.adv (B := s₁.setTop (mkF m 2 #[.val (.ref da), .val (.int (0 : Int32)), .val (.int (Int32.ofNat k0)), .unset, .unset] [(.int (Int32.ofNat k0)), (.int (0 : Int32))])) (fun _ k => XS.iloadN X0.here hx rfl (hb hby own_d30_1) rfl k) ?_
  obtain ⟨_, _, ⟨T1, L1, k1, n1⟩, -, X1, ⟨Lc1, hQ1, l1, y1, z1⟩, st1⟩ := Jvm.LawKit.callS X0 hx (y := (⟨"java/util/Arrays", "checkLength", "(II)V"⟩ : MethodName)) hown (mvT hZ (hw _ (List.mem_of_getElem? (i := 164) rfl))) (mvT hZ (hw _ (List.mem_of_getElem? (i := 165) rfl))) (mvT hZ (hw _ (List.mem_of_getElem? (i := 81) rfl))) (mvT hZ (hw _ (List.mem_of_getElem? (i := 166) rfl))) (by decide) (backOf (W := 0) (own_chkLen l Z a0 hw [] (Int32.ofNat k0) h0 n0 (by omega) (own_nn (by omega))) hZ (hw _ (List.mem_of_getElem? (i := 166) rfl)) (hw _ (List.mem_of_getElem? (i := 81) rfl)) (by decide) (by decide)) (g := (mkF m 2 #[.val (.ref da), .val (.int (0 : Int32)), .val (.int (Int32.ofNat k0)), .unset, .unset] [(.int (Int32.ofNat k0)), (.int (0 : Int32))])) rfl (by rw [hml]; rfl) (argsL := [(.int (0 : Int32)), (.int (Int32.ofNat k0))]) (rest := []) (lenOf own_pd_x28IIx29V rfl) rfl (by show 2 * 0 + _ ≤ _; exact Nat.le_of_eq rfl) (hb hby own_d30_2) (fun _ _ => ⟨rfl, e0, (by decide : 0 + 0 ≤ _), (by decide : 0 + 0 ≤ _)⟩)
  dsimp only [Pt.U, Pt.locs, Pt.cells, Pt.slots] at X1 l1 y1 z1 st1 hQ1
  subst l1 y1 z1
  obtain ⟨rfl, N1q, eh1⟩ := hQ1
  have N1 := Fr.app N0 N1q
  refine OwnFin.adv (B := T1.setTop (mkF m 5 #[.val (.ref da), .val (.int (0 : Int32)), .val (.int (Int32.ofNat k0)), .unset, .unset] [])) (fun _ k => st1 _ k) ?_
  refine OwnFin.adv (B := T1.setTop (mkF m 6 #[.val (.ref da), .val (.int (0 : Int32)), .val (.int (Int32.ofNat k0)), .unset, .unset] [(.int (Int32.ofNat k0))])) (fun _ k => XS.iloadN X1.here hx rfl (hb hby own_d30_5) rfl k) ?_
  refine OwnFin.adv (B := T1.setTop (mkF m 7 #[.val (.ref da), .val (.int (0 : Int32)), .val (.int (Int32.ofNat k0)), .unset, .unset] [(.int (0 : Int32)), (.int (Int32.ofNat k0))])) (fun _ k => XS.iloadN X1.here hx rfl (hb hby own_d30_6) rfl k) ?_
  refine OwnFin.adv (B := T1.setTop (mkF m 8 #[.val (.ref da), .val (.int (0 : Int32)), .val (.int (Int32.ofNat k0)), .unset, .unset] [(.int ((Int32.ofNat k0) - (0 : Int32)))])) (fun _ k => XS.isub X1.here hx rfl (hb hby own_d30_7) rfl k) ?_
  rw [show (((Int32.ofNat k0) - (0 : Int32)) : Int32) = (Int32.ofNat k0) from own_sub0 _]
  refine OwnFin.adv (B := T1.setTop (mkF m 9 #[.val (.ref da), .val (.int (0 : Int32)), .val (.int (Int32.ofNat k0)), .val (.int (Int32.ofNat k0)), .unset] [])) (fun _ k => XS.istoreN X1.here hx rfl (hb hby own_d30_8) rfl (l' := #[.val (.ref da), .val (.int (0 : Int32)), .val (.int (Int32.ofNat k0)), .val (.int (Int32.ofNat k0)), .unset]) rfl k) ?_
  refine OwnFin.adv (B := T1.setTop (mkF m 10 #[.val (.ref da), .val (.int (0 : Int32)), .val (.int (Int32.ofNat k0)), .val (.int (Int32.ofNat k0)), .unset] [(.int (Int32.ofNat k0))])) (fun _ k => XS.iloadN X1.here hx rfl (hb hby own_d30_9) rfl k) ?_
  obtain ⟨T2, h2, k2, X2, e2, E2, A2, st2⟩ := newP X1 hx hZ (hw _ (List.mem_of_getElem? (i := 23) rfl)) eh1 (g := (mkF m 10 #[.val (.ref da), .val (.int (0 : Int32)), .val (.int (Int32.ofNat k0)), .val (.int (Int32.ofNat k0)), .unset] [(.int (Int32.ofNat k0))])) rfl (hb hby own_d30_10) rfl (own_nn (by omega)) (cap := 64) (by rw [own_cl (by omega)]; omega) (by decide) (by decide) (by decide)
  obtain ⟨b2, g2⟩ : ∃ z, z = h0.size := ⟨_, rfl⟩
  rw [← g2] at A2 st2
  have sz3 : h0.size ≤ h2.size := E2.1
  have lt_b2 := own_lt A2.lt
  have V2 : Arv Z h2 b2 k2 .byte (Int32.ofNat k0) (List.replicate k0 (.int (0 : Int32))) (.int (0 : Int32)) := (Arv.new A2 (own_nn (by omega))).pad (pad_rep [] (.int (0 : Int32)) _)
  refine OwnFin.adv (B := T2.setTop (mkF m 12 #[.val (.ref da), .val (.int (0 : Int32)), .val (.int (Int32.ofNat k0)), .val (.int (Int32.ofNat k0)), .unset] [(.ref b2)])) (fun _ k => st2 _ k) ?_
  refine OwnFin.adv (B := T2.setTop (mkF m 14 #[.val (.ref da), .val (.int (0 : Int32)), .val (.int (Int32.ofNat k0)), .val (.int (Int32.ofNat k0)), .val (.ref b2)] [])) (fun _ k => XS.astore X2.here hx rfl (hb hby own_d30_12) rfl rfl (l' := #[.val (.ref da), .val (.int (0 : Int32)), .val (.int (Int32.ofNat k0)), .val (.int (Int32.ofNat k0)), .val (.ref b2)]) rfl k) ?_
  refine OwnFin.adv (B := T2.setTop (mkF m 15 #[.val (.ref da), .val (.int (0 : Int32)), .val (.int (Int32.ofNat k0)), .val (.int (Int32.ofNat k0)), .val (.ref b2)] [(.ref da)])) (fun _ k => XS.aloadN X2.here hx rfl (hb hby own_d30_14) rfl rfl k) ?_
  refine OwnFin.adv (B := T2.setTop (mkF m 16 #[.val (.ref da), .val (.int (0 : Int32)), .val (.int (Int32.ofNat k0)), .val (.int (Int32.ofNat k0)), .val (.ref b2)] [(.int (0 : Int32)), (.ref da)])) (fun _ k => XS.iloadN X2.here hx rfl (hb hby own_d30_15) rfl k) ?_
  refine OwnFin.adv (B := T2.setTop (mkF m 18 #[.val (.ref da), .val (.int (0 : Int32)), .val (.int (Int32.ofNat k0)), .val (.int (Int32.ofNat k0)), .val (.ref b2)] [(.ref b2), (.int (0 : Int32)), (.ref da)])) (fun _ k => XS.aload X2.here hx rfl (hb hby own_d30_16) rfl rfl k) ?_
  refine OwnFin.adv (B := T2.setTop (mkF m 19 #[.val (.ref da), .val (.int (0 : Int32)), .val (.int (Int32.ofNat k0)), .val (.int (Int32.ofNat k0)), .val (.ref b2)] [(.int (0 : Int32)), (.ref b2), (.int (0 : Int32)), (.ref da)])) (fun _ k => XS.iconst X2.here hx rfl (hb hby own_d30_18) k) ?_
  refine OwnFin.adv (B := T2.setTop (mkF m 20 #[.val (.ref da), .val (.int (0 : Int32)), .val (.int (Int32.ofNat k0)), .val (.int (Int32.ofNat k0)), .val (.ref b2)] [(.ref da), (.int (0 : Int32)), (.ref b2), (.int (0 : Int32)), (.ref da)])) (fun _ k => XS.aloadN X2.here hx rfl (hb hby own_d30_19) rfl rfl k) ?_
  have Fv5_1 : Arv Z h2 da kd .byte (Int32.ofNat cap) vd (.int (0 : Int32)) := (Va.ext E2)
  obtain ⟨cl4, Ar4, ck4, S4, M4, H4, G4⟩ := id Fv5_1
  refine OwnFin.adv (B := T2.setTop (mkF m 21 #[.val (.ref da), .val (.int (0 : Int32)), .val (.int (Int32.ofNat k0)), .val (.int (Int32.ofNat k0)), .val (.ref b2)] [(.int (Int32.ofNat cap)), (.int (0 : Int32)), (.ref b2), (.int (0 : Int32)), (.ref da)])) (fun _ k => X2.arraylength hx (by rw [e2]; exact Ar4.1) (State.isArrayOf_alike hZ.alike Ar4.2.1) (g := (mkF m 20 #[.val (.ref da), .val (.int (0 : Int32)), .val (.int (Int32.ofNat k0)), .val (.int (Int32.ofNat k0)), .val (.ref b2)] [(.ref da), (.int (0 : Int32)), (.ref b2), (.int (0 : Int32)), (.ref da)])) rfl rfl (hb hby own_d30_20) _ (by rw [len_of S4 M4]; exact k)) ?_
  refine OwnFin.adv (B := T2.setTop (mkF m 22 #[.val (.ref da), .val (.int (0 : Int32)), .val (.int (Int32.ofNat k0)), .val (.int (Int32.ofNat k0)), .val (.ref b2)] [(.int (0 : Int32)), (.int (Int32.ofNat cap)), (.int (0 : Int32)), (.ref b2), (.int (0 : Int32)), (.ref da)])) (fun _ k => XS.iloadN X2.here hx rfl (hb hby own_d30_21) rfl k) ?_
  refine OwnFin.adv (B := T2.setTop (mkF m 23 #[.val (.ref da), .val (.int (0 : Int32)), .val (.int (Int32.ofNat k0)), .val (.int (Int32.ofNat k0)), .val (.ref b2)] [(.int ((Int32.ofNat cap) - (0 : Int32))), (.int (0 : Int32)), (.ref b2), (.int (0 : Int32)), (.ref da)])) (fun _ k => XS.isub X2.here hx rfl (hb hby own_d30_22) rfl k) ?_
  refine OwnFin.adv (B := T2.setTop (mkF m 24 #[.val (.ref da), .val (.int (0 : Int32)), .val (.int (Int32.ofNat k0)), .val (.int (Int32.ofNat k0)), .val (.ref b2)] [(.int (Int32.ofNat k0)), (.int ((Int32.ofNat cap) - (0 : Int32))), (.int (0 : Int32)), (.ref b2), (.int (0 : Int32)), (.ref da)])) (fun _ k => XS.iloadN X2.here hx rfl (hb hby own_d30_23) rfl k) ?_
  rw [show (((Int32.ofNat cap) - (0 : Int32)) : Int32) = (Int32.ofNat cap) from own_sub0 _]
  obtain ⟨_, _, ⟨T6, L6, k6, n6⟩, -, X6, ⟨Lc6, hQ6, l6, y6, z6⟩, st6⟩ := Jvm.LawKit.callS X2 hx (y := (⟨"java/lang/Math", "min", "(II)I"⟩ : MethodName)) hown (mvT hZ (hw _ (List.mem_of_getElem? (i := 83) rfl))) (mvT hZ (hw _ (List.mem_of_getElem? (i := 84) rfl))) (mvT hZ (hw _ (List.mem_of_getElem? (i := 75) rfl))) (mvT hZ (hw _ (List.mem_of_getElem? (i := 85) rfl))) (by decide) (backOf (W := 4) (own_min l Z a0 hw [] (Int32.ofNat cap) (Int32.ofNat k0) h2 n0 (by omega) ((own_ltn (by omega) (by omega)).mpr hk)) hZ (hw _ (List.mem_of_getElem? (i := 85) rfl)) (hw _ (List.mem_of_getElem? (i := 75) rfl)) (by decide) (by decide)) (g := (mkF m 24 #[.val (.ref da), .val (.int (0 : Int32)), .val (.int (Int32.ofNat k0)), .val (.int (Int32.ofNat k0)), .val (.ref b2)] [(.int (Int32.ofNat k0)), (.int (Int32.ofNat cap)), (.int (0 : Int32)), (.ref b2), (.int (0 : Int32)), (.ref da)])) rfl (by rw [hml]; rfl) (argsL := [(.int (Int32.ofNat cap)), (.int (Int32.ofNat k0))]) (rest := [(.int (0 : Int32)), (.ref b2), (.int (0 : Int32)), (.ref da)]) (lenOf own_pd_x28IIx29I rfl) rfl (by show 2 * 0 + _ ≤ _; exact Nat.le_of_eq rfl) (hb hby own_d30_24) (fun _ _ => ⟨rfl, e2, (by decide : 1 + 0 ≤ _), (by decide : 64 + 0 ≤ _)⟩)
  dsimp only [Pt.U, Pt.locs, Pt.cells, Pt.slots] at X6 l6 y6 z6 st6 hQ6
  subst l6 y6 z6
  obtain ⟨rfl, N6q, eh6⟩ := hQ6
  have N6 := Fr.app N1 N6q
  refine OwnFin.adv (B := T6.setTop (mkF m 27 #[.val (.ref da), .val (.int (0 : Int32)), .val (.int (Int32.ofNat k0)), .val (.int (Int32.ofNat k0)), .val (.ref b2)] [(.int (Int32.ofNat k0)), (.int (0 : Int32)), (.ref b2), (.int (0 : Int32)), (.ref da)])) (fun _ k => st6 _ k) ?_
  obtain ⟨T7, h7, L7, X7, e7, N7, K7, V7, st7⟩ := cpA X6 hx hZ hown (hw _ (List.mem_of_getElem? (i := 86) rfl)) (hw _ (List.mem_of_getElem? (i := 89) rfl)) (hw _ (List.mem_of_getElem? (i := 87) rfl)) (hw _ (List.mem_of_getElem? (i := 88) rfl)) eh6 Fv5_1 V2 (Or.inl ⟨rfl, rfl⟩) (by decide) (by decide) (own_nn (by omega)) (by rw [own_cl (by omega), own_cl (by omega)]; show 0 + k0 ≤ cap; omega) (by rw [own_cl (by omega)]; exact Nat.le_of_eq (Nat.zero_add _)) (us := (vd.take k0)) (by rw [own_cl (by omega)]; exact own_first _ _ _ (by omega)) (by rw [own_cl (by omega), List.length_replicate]; exact Nat.le_of_eq (Nat.zero_add _)) N6 (by omega) (g := (mkF m 27 #[.val (.ref da), .val (.int (0 : Int32)), .val (.int (Int32.ofNat k0)), .val (.int (Int32.ofNat k0)), .val (.ref b2)] [(.int (Int32.ofNat k0)), (.int (0 : Int32)), (.ref b2), (.int (0 : Int32)), (.ref da)])) rfl (by rw [hml]; rfl) rfl (hb hby own_d30_27) (by decide) (W := 0) (by show 2 * 0 + _ ≤ _; exact Nat.le_of_eq rfl) (by decide)
  have sz8 : h2.size ≤ h7.size := K7.1
  have V7n : Arv Z h7 b2 k2 .byte (Int32.ofNat k0) (vd.take k0) (.int (0 : Int32)) := by
    have q := V7
    rw [show _ ++ _ ++ _ = (vd.take k0) from by rw [show (0 : Int32).toNatClampNeg = 0 from rfl, own_cl (by omega)]; simp] at q
    exact q
  refine OwnFin.adv (B := T7.setTop (mkF m 30 #[.val (.ref da), .val (.int (0 : Int32)), .val (.int (Int32.ofNat k0)), .val (.int (Int32.ofNat k0)), .val (.ref b2)] [])) (fun _ k => st7 _ k) ?_
  refine OwnFin.adv (B := T7.setTop (mkF m 32 #[.val (.ref da), .val (.int (0 : Int32)), .val (.int (Int32.ofNat k0)), .val (.int (Int32.ofNat k0)), .val (.ref b2)] [(.ref b2)])) (fun _ k => XS.aload X7.here hx rfl (hb hby own_d30_30) rfl rfl k) ?_
  obtain ⟨fs, hr, hrun, hended, hW, hsame⟩ := X7.leave (v := some (.ref b2)) (fun h => by rw [Bd.returns] at h; cases h)
  refine OwnFin.leaf hP' ⟨_, _, own_retR X7 hx Bd.returns rfl rfl rfl (hb hby own_d30_32) hr, hrun, hended, _, _, rfl, ?_, ⟨_, rfl⟩, hW, hsame.mono (by decide) (by decide)⟩
  rw [show (T7.setFrames fs).heap = h7 from e7]
  exact ⟨_, _, rfl, N7, (((Keep.refl h0 []).ext E2).trans K7 (allS (Or.inr (by omega)) all0)), by omega, V7n⟩
theorem own_d29_0 : decode jdk_65_method_132_code 0 = .ok (.iload_n 1, 1) := by decide +kernel
theorem own_d29_1 : decode jdk_65_method_132_code 1 = .ok (.ifCond .ne 9, 3) := by decide +kernel
theorem own_d29_4 : decode jdk_65_method_132_code 4 = .ok (.iload_n 2, 1) := by decide +kernel
theorem own_d29_5 : decode jdk_65_method_132_code 5 = .ok (.aload_n 0, 1) := by decide +kernel
theorem own_d29_6 : decode jdk_65_method_132_code 6 = .ok (.arraylength, 1) := by decide +kernel
theorem own_d29_7 : decode jdk_65_method_132_code 7 = .ok (.if_icmp .eq 10, 3) := by decide +kernel
theorem own_d29_10 : decode jdk_65_method_132_code 10 = .ok (.aload_n 0, 1) := by decide +kernel
theorem own_d29_11 : decode jdk_65_method_132_code 11 = .ok (.iload_n 1, 1) := by decide +kernel
theorem own_d29_12 : decode jdk_65_method_132_code 12 = .ok (.iload_n 2, 1) := by decide +kernel
theorem own_pd_x28x5bBIIx29x5bB : parseMethodDescriptor "([BII)[B" = some ⟨[(.array .byte), .int, .int], some (.array .byte)⟩ := by decide +kernel
theorem own_d29_13 : decode jdk_65_method_132_code 13 = .ok (.invokestatic 339, 3) := by decide +kernel
theorem own_d29_16 : decode jdk_65_method_132_code 16 = .ok (.areturn, 1) := by decide +kernel
theorem own_ef_cor (m : MethodId) (x0 : Addr) (x1 : Int32) (x2 : Int32) : entryFrame m #[(.ref x0), (.int x1), (.int x2)] 3 = mkF m 0 #[.val (.ref x0), .val (.int x1), .val (.int x2)] [] := by first | (simp [entryFrame, mkF, argsToLocals, Value.category]; done) | rfl
def own_Q_cor (Z : State) (da : Addr) (kd : ClassId) (vd : List Value) (cap k0 : Nat) (h0 : Heap) (n0 : Nat) (v : Option Value) (h : Heap) (L : List Loc) : Prop := ∃ (t : Addr) (kt : ClassId), v = some (.ref t) ∧ Fr n0 L ∧ Keep h0 h [] ∧ h0.size ≤ t ∧ Arv Z h t kt .byte (Int32.ofNat k0) (vd.take k0) (.int (0 : Int32))
set_option maxRecDepth 65536 in
set_option maxHeartbeats 40000000 in
theorem own_cor (l : Launch) (Z : State) (a0 : Array Value) (hw : ∀ d ∈ tables_1, d.before a0 Z = true) (ws : List Jvm.Cond) (da : Addr) (kd : ClassId) (vd : List Value) (cap k0 : Nat) (h0 : Heap) (n0 : Nat) (Z0 : n0 ≤ h0.size) (Va : Arv Z h0 da kd .byte (Int32.ofNat cap) vd (.int (0 : Int32))) (hcap : cap ≤ 4000) (hvd : vd.length = cap) (hk : k0 < cap) (hk64 : k0 ≤ 64) :
    MetFree l (⟨"java/util/Arrays", "copyOfRange", "([BII)[B"⟩ : MethodName) (head1 (Jvm.Cond.code (⟨"java/util/Arrays", "copyOfRange", "([BII)[B"⟩ : MethodName) jdk_65_method_132_code 3 (some (.array .byte)) :: ws) ({ frames := 2, cells := 1, slots := 64, locals := 34 } : Room)) (fun A0 U0 => A0 = #[(.ref da), (.int (0 : Int32)), (.int (Int32.ofNat k0))] ∧ Z.Warmed39 U0.vm ∧ U0.heap = h0) (fun _ _ _ _ _ => True) (fun _ U0 o0 U1 => ∃ v0 L0, o0 = .returned v0 ∧ own_Q_cor Z da kd vd cap k0 h0 n0 v0 U1.heap L0 ∧ FrameEnd U0 o0 U1 L0 ({ frames := 2, cells := 1, slots := 64, locals := 34 } : Room).cells ({ frames := 2, cells := 1, slots := 64, locals := 34 } : Room).slots) := by
  refine MetFree.of_bodySF (plainFor_of_name own_pn_java_util_Arrays) hisR ?_
  intro p e s m args below meth c s₁ Bd hml0 hP hK
  obtain ⟨rfl, hZ, hh⟩ := hP
  have hZs0 := hZ
  have hZs := hZ
  have hx := Bd.exec
  have hby := Bd.bytes
  have hby_ := hby
  have hml : c.maxLocals = 3 := hml0
  have hown : s.vm.findClass "java/util/Arrays" = some m.cls := findClass_of_methodNamed Bd.named
  have hnm := (name_of_methodNamed Bd.named Bd.method).1
  have X0 : Stand p l e ({ frames := 2, cells := 1, slots := 64, locals := 34 } : Room) s m #[(.ref da), (.int (0 : Int32)), (.int (Int32.ofNat k0))] below meth c s₁ [] 0 0 := Stand.of_body Bd
  have e0 : s₁.heap = h0 := by rw [← hh, Bd.state]; rfl
  have N0 := Fr.nil n0
  refine OwnFin.entry (own_ef_cor m da (0 : Int32) (Int32.ofNat k0)) (fun P' hP' => ?_)
  have lt_da := own_lt Va.lt
  refine OwnFin.adv (B := s₁.setTop (mkF m 1 #[.val (.ref da), .val (.int (0 : Int32)), .val (.int (Int32.ofNat k0))] [(.int (0 : Int32))])) (fun _ k => XS.iloadN X0.here hx rfl (hb hby own_d29_0) rfl k) ?_
  have hc1_2 : (0 : Int32) = (0 : Int32) := rfl
  refine OwnFin.adv (B := s₁.setTop (mkF m 4 #[.val (.ref da), .val (.int (0 : Int32)), .val (.int (Int32.ofNat k0))] [])) (fun _ k => XS.ifNo X0.here hx rfl (hb hby own_d29_1) rfl ((if0 _ _).trans (teq hc1_2).2) k) ?_
  refine OwnFin.adv (B := s₁.setTop (mkF m 5 #[.val (.ref da), .val (.int (0 : Int32)), .val (.int (Int32.ofNat k0))] [(.int (Int32.ofNat k0))])) (fun _ k => XS.iloadN X0.here hx rfl (hb hby own_d29_4) rfl k) ?_
  refine OwnFin.adv (B := s₁.setTop (mkF m 6 #[.val (.ref da), .val (.int (0 : Int32)), .val (.int (Int32.ofNat k0))] [(.ref da), (.int (Int32.ofNat k0))])) (fun _ k => XS.aloadN X0.here hx rfl (hb hby own_d29_5) rfl rfl k) ?_
  obtain ⟨cl1, Ar1, ck1, S1, M1, H1, G1⟩ := id Va
  refine OwnFin.adv (B := s₁.setTop (mkF m 7 #[.val (.ref da), .val (.int (0 : Int32)), .val (.int (Int32.ofNat k0))] [(.int (Int32.ofNat cap)), (.int (Int32.ofNat k0))])) (fun _ k => X0.arraylength hx (by rw [e0]; exact Ar1.1) (State.isArrayOf_alike hZ.alike Ar1.2.1) (g := (mkF m 6 #[.val (.ref da), .val (.int (0 : Int32)), .val (.int (Int32.ofNat k0))] [(.ref da), (.int (Int32.ofNat k0))])) rfl rfl (hb hby own_d29_6) _ (by rw [len_of S1 M1]; exact k)) ?_
  have hc7_6 : ¬ ((Int32.ofNat k0) = (Int32.ofNat cap)) := fun q => absurd ((own_eqn (by omega) (by omega)).mp q) (by omega)
  refine OwnFin.adv (B := s₁.setTop (mkF m 10 #[.val (.ref da), .val (.int (0 : Int32)), .val (.int (Int32.ofNat k0))] [])) (fun _ k => XS.icmpNo X0.here hx rfl (hb hby own_d29_7) rfl (feq hc7_6).1 k) ?_
  refine OwnFin.adv (B := s₁.setTop (mkF m 11 #[.val (.ref da), .val (.int (0 : Int32)), .val (.int (Int32.ofNat k0))] [(.ref da)])) (fun _ k => XS.aloadN X0.here hx rfl (hb hby own_d29_10) rfl rfl k) ?_
  refine OwnFin.adv (B := s₁.setTop (mkF m 12 #[.val (.ref da), .val (.int (0 : Int32)), .val (.int (Int32.ofNat k0))] [(.int (0 : Int32)), (.ref da)])) (fun _ k => XS.iloadN X0.here hx rfl (hb hby own_d29_11) rfl k) ?_
  refine OwnFin.adv (B := s₁.setTop (mkF m 13 #[.val (.ref da), .val (.int (0 : Int32)), .val (.int (Int32.ofNat k0))] [(.int (Int32.ofNat k0)), (.int (0 : Int32)), (.ref da)])) (fun _ k => XS.iloadN X0.here hx rfl (hb hby own_d29_12) rfl k) ?_
  obtain ⟨_, _, ⟨T2, L2, k2, n2⟩, -, X2, ⟨Lc2, hQ2, l2, y2, z2⟩, st2⟩ := Jvm.LawKit.callS X0 hx (y := (⟨"java/util/Arrays", "copyOfRangeByte", "([BII)[B"⟩ : MethodName)) hown (mvT hZ (hw _ (List.mem_of_getElem? (i := 161) rfl))) (mvT hZ (hw _ (List.mem_of_getElem? (i := 162) rfl))) (mvT hZ (hw _ (List.mem_of_getElem? (i := 81) rfl))) (mvT hZ (hw _ (List.mem_of_getElem? (i := 163) rfl))) (by decide) (backOf (W := 0) (own_corb l Z a0 hw [] da kd vd cap k0 h0 n0 (by omega) Va hcap hvd hk hk64) hZ (hw _ (List.mem_of_getElem? (i := 163) rfl)) (hw _ (List.mem_of_getElem? (i := 81) rfl)) (by decide) (by decide)) (g := (mkF m 13 #[.val (.ref da), .val (.int (0 : Int32)), .val (.int (Int32.ofNat k0))] [(.int (Int32.ofNat k0)), (.int (0 : Int32)), (.ref da)])) rfl (by rw [hml]; rfl) (argsL := [(.ref da), (.int (0 : Int32)), (.int (Int32.ofNat k0))]) (rest := []) (lenOf own_pd_x28x5bBIIx29x5bB rfl) rfl (by show 2 * 0 + _ ≤ _; exact Nat.le_of_eq rfl) (hb hby own_d29_13) (fun _ _ => ⟨rfl, e0, (by decide : 0 + 1 ≤ _), (by decide : 0 + 64 ≤ _)⟩)
  dsimp only [Pt.U, Pt.locs, Pt.cells, Pt.slots] at X2 l2 y2 z2 st2 hQ2
  subst l2 y2 z2
  obtain ⟨t2, kt2, rfl, N2q, K2, ge2, Vt2⟩ := hQ2
  have N2 := Fr.app N0 N2q
  have sz3 : h0.size ≤ T2.heap.size := K2.1
  have lt_t2 := own_lt Vt2.lt
  refine OwnFin.adv (B := T2.setTop (mkF m 16 #[.val (.ref da), .val (.int (0 : Int32)), .val (.int (Int32.ofNat k0))] [(.ref t2)])) (fun _ k => st2 _ k) ?_
  obtain ⟨fs, hr, hrun, hended, hW, hsame⟩ := X2.leave (v := some (.ref t2)) (fun h => by rw [Bd.returns] at h; cases h)
  refine OwnFin.leaf hP' ⟨_, _, own_retR X2 hx Bd.returns rfl rfl rfl (hb hby own_d29_16) hr, hrun, hended, _, _, rfl, ?_, ⟨_, rfl⟩, hW, hsame.mono (by decide) (by decide)⟩
  rw [show (T2.setFrames fs).heap = T2.heap from rfl]
  exact ⟨_, _, rfl, N2, ((Keep.refl h0 []).trans K2 all0), by omega, Vt2⟩
theorem own_d26_0 : decode jdk_68_method_64_code 0 = .ok (.aload_n 0, 1) := by decide +kernel
theorem own_d26_1 : decode jdk_68_method_64_code 1 = .ok (.getfield 15, 3) := by decide +kernel
theorem own_d26_4 : decode jdk_68_method_64_code 4 = .ok (.areturn, 1) := by decide +kernel
theorem own_ef_getV (m : MethodId) (x0 : Addr) : entryFrame m #[(.ref x0)] 1 = mkF m 0 #[.val (.ref x0)] [] := by first | (simp [entryFrame, mkF, argsToLocals, Value.category]; done) | rfl
def own_Q_getV (Z : State) (ob da : Addr) (h0 : Heap) (n0 : Nat) (v : Option Value) (h : Heap) (L : List Loc) : Prop := v = some (.ref da) ∧ Fr n0 L ∧ h = h0
set_option maxRecDepth 65536 in
set_option maxHeartbeats 40000000 in
theorem own_getV (l : Launch) (Z : State) (a0 : Array Value) (hw : ∀ d ∈ tables_1, d.before a0 Z = true) (ws : List Jvm.Cond) (ob da : Addr) (h0 : Heap) (n0 : Nat) (Z0 : n0 ≤ h0.size) (Fv : Fld Z h0 ob "java/lang/AbstractStringBuilder" "value" "[B" (.ref da)) :
    MetFree l (⟨"java/lang/AbstractStringBuilder", "getValue", "()[B"⟩ : MethodName) (head1 (Jvm.Cond.code (⟨"java/lang/AbstractStringBuilder", "getValue", "()[B"⟩ : MethodName) jdk_68_method_64_code 1 (some (.array .byte)) :: ws) ({ frames := 0, cells := 0, slots := 0, locals := 0 } : Room)) (fun A0 U0 => A0 = #[(.ref ob)] ∧ Z.Warmed39 U0.vm ∧ U0.heap = h0) (fun _ _ _ _ _ => True) (fun _ U0 o0 U1 => ∃ v0 L0, o0 = .returned v0 ∧ own_Q_getV Z ob da h0 n0 v0 U1.heap L0 ∧ FrameEnd U0 o0 U1 L0 ({ frames := 0, cells := 0, slots := 0, locals := 0 } : Room).cells ({ frames := 0, cells := 0, slots := 0, locals := 0 } : Room).slots) := by
  refine MetFree.of_bodySF (plainFor_of_name own_pn_java_lang_AbstractStringBuilder) hisR ?_
  intro p e s m args below meth c s₁ Bd hml0 hP hK
  obtain ⟨rfl, hZ, hh⟩ := hP
  have hZs0 := hZ
  have hZs := hZ
  have hx := Bd.exec
  have hby := Bd.bytes
  have hby_ := hby
  have hml : c.maxLocals = 1 := hml0
  have hown : s.vm.findClass "java/lang/AbstractStringBuilder" = some m.cls := findClass_of_methodNamed Bd.named
  have hnm := (name_of_methodNamed Bd.named Bd.method).1
  have X0 : Stand p l e ({ frames := 0, cells := 0, slots := 0, locals := 0 } : Room) s m #[(.ref ob)] below meth c s₁ [] 0 0 := Stand.of_body Bd
  have e0 : s₁.heap = h0 := by rw [← hh, Bd.state]; rfl
  have N0 := Fr.nil n0
  refine OwnFin.entry (own_ef_getV m ob) (fun P' hP' => ?_)
  refine OwnFin.adv (B := s₁.setTop (mkF m 1 #[.val (.ref ob)] [(.ref ob)])) (fun _ k => XS.aloadN X0.here hx rfl (hb hby own_d26_0) rfl rfl k) ?_
  obtain ⟨T1, X1, e1, st1⟩ := getF X0 hx hZ hown (host := "") (Or.inl (hw _ (List.mem_of_getElem? (i := 24) rfl))) Via.refl e0 Fv (g := (mkF m 1 #[.val (.ref ob)] [(.ref ob)])) rfl rfl (hb hby own_d26_1)
  refine OwnFin.adv (B := T1.setTop (mkF m 4 #[.val (.ref ob)] [(.ref da)])) (fun _ k => st1 _ k) ?_
  obtain ⟨fs, hr, hrun, hended, hW, hsame⟩ := X1.leave (v := some (.ref da)) (fun h => by rw [Bd.returns] at h; cases h)
  refine OwnFin.leaf hP' ⟨_, _, own_retR X1 hx Bd.returns rfl rfl rfl (hb hby own_d26_4) hr, hrun, hended, _, _, rfl, ?_, ⟨_, rfl⟩, hW, hsame.mono (by decide) (by decide)⟩
  exact ⟨rfl, N0, e1⟩
theorem own_d28_0 : decode jdk_68_method_6_code 0 = .ok (.aload_n 0, 1) := by decide +kernel
theorem own_d28_1 : decode jdk_68_method_6_code 1 = .ok (.getfield 79, 3) := by decide +kernel
theorem own_d28_4 : decode jdk_68_method_6_code 4 = .ok (.ireturn, 1) := by decide +kernel
theorem own_ef_asbLen (m : MethodId) (x0 : Addr) : entryFrame m #[(.ref x0)] 1 = mkF m 0 #[.val (.ref x0)] [] := by first | (simp [entryFrame, mkF, argsToLocals, Value.category]; done) | rfl
def own_Q_asbLen (Z : State) (ob : Addr) (k0 : Nat) (h0 : Heap) (n0 : Nat) (v : Option Value) (h : Heap) (L : List Loc) : Prop := v = some (.int (Int32.ofNat k0)) ∧ Fr n0 L ∧ h = h0
set_option maxRecDepth 65536 in
set_option maxHeartbeats 40000000 in
theorem own_asbLen (l : Launch) (Z : State) (a0 : Array Value) (hw : ∀ d ∈ tables_1, d.before a0 Z = true) (ws : List Jvm.Cond) (ob : Addr) (k0 : Nat) (h0 : Heap) (n0 : Nat) (Z0 : n0 ≤ h0.size) (Fn : Fld Z h0 ob "java/lang/AbstractStringBuilder" "count" "I" (.int (Int32.ofNat k0))) :
    MetFree l (⟨"java/lang/AbstractStringBuilder", "length", "()I"⟩ : MethodName) (head1 (Jvm.Cond.code (⟨"java/lang/AbstractStringBuilder", "length", "()I"⟩ : MethodName) jdk_68_method_6_code 1 (some .int) :: ws) ({ frames := 0, cells := 0, slots := 0, locals := 0 } : Room)) (fun A0 U0 => A0 = #[(.ref ob)] ∧ Z.Warmed39 U0.vm ∧ U0.heap = h0) (fun _ _ _ _ _ => True) (fun _ U0 o0 U1 => ∃ v0 L0, o0 = .returned v0 ∧ own_Q_asbLen Z ob k0 h0 n0 v0 U1.heap L0 ∧ FrameEnd U0 o0 U1 L0 ({ frames := 0, cells := 0, slots := 0, locals := 0 } : Room).cells ({ frames := 0, cells := 0, slots := 0, locals := 0 } : Room).slots) := by
  refine MetFree.of_bodySF (plainFor_of_name own_pn_java_lang_AbstractStringBuilder) hisR ?_
  intro p e s m args below meth c s₁ Bd hml0 hP hK
  obtain ⟨rfl, hZ, hh⟩ := hP
  have hZs0 := hZ
  have hZs := hZ
  have hx := Bd.exec
  have hby := Bd.bytes
  have hby_ := hby
  have hml : c.maxLocals = 1 := hml0
  have hown : s.vm.findClass "java/lang/AbstractStringBuilder" = some m.cls := findClass_of_methodNamed Bd.named
  have hnm := (name_of_methodNamed Bd.named Bd.method).1
  have X0 : Stand p l e ({ frames := 0, cells := 0, slots := 0, locals := 0 } : Room) s m #[(.ref ob)] below meth c s₁ [] 0 0 := Stand.of_body Bd
  have e0 : s₁.heap = h0 := by rw [← hh, Bd.state]; rfl
  have N0 := Fr.nil n0
  refine OwnFin.entry (own_ef_asbLen m ob) (fun P' hP' => ?_)
  refine OwnFin.adv (B := s₁.setTop (mkF m 1 #[.val (.ref ob)] [(.ref ob)])) (fun _ k => XS.aloadN X0.here hx rfl (hb hby own_d28_0) rfl rfl k) ?_
  obtain ⟨T1, X1, e1, st1⟩ := getF X0 hx hZ hown (host := "") (Or.inl (hw _ (List.mem_of_getElem? (i := 57) rfl))) Via.refl e0 Fn (g := (mkF m 1 #[.val (.ref ob)] [(.ref ob)])) rfl rfl (hb hby own_d28_1)
  refine OwnFin.adv (B := T1.setTop (mkF m 4 #[.val (.ref ob)] [(.int (Int32.ofNat k0))])) (fun _ k => st1 _ k) ?_
  obtain ⟨fs, hr, hrun, hended, hW, hsame⟩ := X1.leave (v := some (.int (Int32.ofNat k0))) (fun h => by rw [Bd.returns] at h; cases h)
  refine OwnFin.leaf hP' ⟨_, _, own_retI X1 hx Bd.returns (hb hby own_d28_4) hr, hrun, hended, _, _, rfl, ?_, ⟨_, rfl⟩, hW, hsame.mono (by decide) (by decide)⟩
  exact ⟨rfl, N0, e1⟩
theorem own_d27_0 : decode jdk_67_method_93_code 0 = .ok (.aload_n 0, 1) := by decide +kernel
theorem own_pd_x28x29I : parseMethodDescriptor "()I" = some ⟨[], some .int⟩ := by decide +kernel
theorem own_d27_1 : decode jdk_67_method_93_code 1 = .ok (.invokespecial 343, 3) := by decide +kernel
theorem own_d27_4 : decode jdk_67_method_93_code 4 = .ok (.ireturn, 1) := by decide +kernel
theorem own_ef_sbLen (m : MethodId) (x0 : Addr) : entryFrame m #[(.ref x0)] 1 = mkF m 0 #[.val (.ref x0)] [] := by first | (simp [entryFrame, mkF, argsToLocals, Value.category]; done) | rfl
def own_Q_sbLen (Z : State) (ob : Addr) (k0 : Nat) (h0 : Heap) (n0 : Nat) (v : Option Value) (h : Heap) (L : List Loc) : Prop := v = some (.int (Int32.ofNat k0)) ∧ Fr n0 L ∧ h = h0
set_option maxRecDepth 65536 in
set_option maxHeartbeats 40000000 in
theorem own_sbLen (l : Launch) (Z : State) (a0 : Array Value) (hw : ∀ d ∈ tables_1, d.before a0 Z = true) (ws : List Jvm.Cond) (ob : Addr) (k0 : Nat) (h0 : Heap) (n0 : Nat) (Z0 : n0 ≤ h0.size) (E : Exa Z h0 ob "java/lang/StringBuilder") (Fn : Fld Z h0 ob "java/lang/AbstractStringBuilder" "count" "I" (.int (Int32.ofNat k0))) :
    MetFree l (⟨"java/lang/StringBuilder", "length", "()I"⟩ : MethodName) (head1 (Jvm.Cond.code (⟨"java/lang/StringBuilder", "length", "()I"⟩ : MethodName) jdk_67_method_93_code 1 (some .int) :: ws) ({ frames := 1, cells := 0, slots := 0, locals := 12 } : Room)) (fun A0 U0 => A0 = #[(.ref ob)] ∧ Z.Warmed39 U0.vm ∧ U0.heap = h0) (fun _ _ _ _ _ => True) (fun _ U0 o0 U1 => ∃ v0 L0, o0 = .returned v0 ∧ own_Q_sbLen Z ob k0 h0 n0 v0 U1.heap L0 ∧ FrameEnd U0 o0 U1 L0 ({ frames := 1, cells := 0, slots := 0, locals := 12 } : Room).cells ({ frames := 1, cells := 0, slots := 0, locals := 12 } : Room).slots) := by
  refine MetFree.of_bodySF (plainFor_of_name own_pn_java_lang_StringBuilder) hisR ?_
  intro p e s m args below meth c s₁ Bd hml0 hP hK
  obtain ⟨rfl, hZ, hh⟩ := hP
  have hZs0 := hZ
  have hZs := hZ
  have hx := Bd.exec
  have hby := Bd.bytes
  have hby_ := hby
  have hml : c.maxLocals = 1 := hml0
  have hown : s.vm.findClass "java/lang/StringBuilder" = some m.cls := findClass_of_methodNamed Bd.named
  have hnm := (name_of_methodNamed Bd.named Bd.method).1
  have X0 : Stand p l e ({ frames := 1, cells := 0, slots := 0, locals := 12 } : Room) s m #[(.ref ob)] below meth c s₁ [] 0 0 := Stand.of_body Bd
  have e0 : s₁.heap = h0 := by rw [← hh, Bd.state]; rfl
  have N0 := Fr.nil n0
  refine OwnFin.entry (own_ef_sbLen m ob) (fun P' hP' => ?_)
  refine OwnFin.adv (B := s₁.setTop (mkF m 1 #[.val (.ref ob)] [(.ref ob)])) (fun _ k => XS.aloadN X0.here hx rfl (hb hby own_d27_0) rfl rfl k) ?_
  obtain ⟨_, _, ⟨T1, L1, k1, n1⟩, -, X1, ⟨Lc1, hQ1, l1, y1, z1⟩, st1⟩ := superBack X0 hx hZ (y := (⟨"java/lang/AbstractStringBuilder", "length", "()I"⟩ : MethodName)) hown (hw _ (List.mem_of_getElem? (i := 155) rfl)) (own_same (y := (⟨"java/lang/AbstractStringBuilder", "length", "()I"⟩ : MethodName)) (z := (⟨"java/lang/AbstractStringBuilder", "ensureCapacityInternal", "(I)V"⟩ : MethodName)) (hw _ (List.mem_of_getElem? (i := 150) rfl)) (own_decl (hw _ (List.mem_of_getElem? (i := 60) rfl)) (hw _ (List.mem_of_getElem? (i := 63) rfl))) (notFace_of_selects (args := a0) (hw _ (List.mem_of_getElem? (i := 62) rfl))) rfl (by decide)) (hw _ (List.mem_of_getElem? (i := 151) rfl)) (hw _ (List.mem_of_getElem? (i := 41) rfl)) (by decide) (backOf (W := 0) (own_asbLen l Z a0 hw [] ob k0 h0 n0 (by omega) Fn) hZ (hw _ (List.mem_of_getElem? (i := 156) rfl)) (hw _ (List.mem_of_getElem? (i := 16) rfl)) (by decide) (by decide)) e0 (Ins.self E) (g := (mkF m 1 #[.val (.ref ob)] [(.ref ob)])) rfl (by rw [hml]; rfl) (hw _ (List.mem_of_getElem? (i := 156) rfl)) (argsL := []) (rest := []) (lenOf own_pd_x28x29I rfl) rfl (by show 2 * 0 + _ ≤ _; exact Nat.le_of_eq rfl) (hb hby own_d27_1) (fun _ _ => ⟨rfl, e0, (by decide : 0 + 0 ≤ _), (by decide : 0 + 0 ≤ _)⟩)
  dsimp only [Pt.U, Pt.locs, Pt.cells, Pt.slots] at X1 l1 y1 z1 st1 hQ1
  subst l1 y1 z1
  obtain ⟨rfl, N1q, eh1⟩ := hQ1
  have N1 := Fr.app N0 N1q
  refine OwnFin.adv (B := T1.setTop (mkF m 4 #[.val (.ref ob)] [(.int (Int32.ofNat k0))])) (fun _ k => st1.trans k) ?_
  obtain ⟨fs, hr, hrun, hended, hW, hsame⟩ := X1.leave (v := some (.int (Int32.ofNat k0))) (fun h => by rw [Bd.returns] at h; cases h)
  refine OwnFin.leaf hP' ⟨_, _, own_retI X1 hx Bd.returns (hb hby own_d27_4) hr, hrun, hended, _, _, rfl, ?_, ⟨_, rfl⟩, hW, hsame.mono (by decide) (by decide)⟩
  exact ⟨rfl, N1, eh1⟩
theorem own_d21_0 : decode jdk_68_method_68_code 0 = .ok (.getstatic 18, 3) := by decide +kernel
theorem own_d21_3 : decode jdk_68_method_68_code 3 = .ok (.ifCond .eq 14, 3) := by decide +kernel
theorem own_d21_6 : decode jdk_68_method_68_code 6 = .ok (.aload_n 0, 1) := by decide +kernel
theorem own_d21_7 : decode jdk_68_method_68_code 7 = .ok (.getfield 22, 3) := by decide +kernel
theorem own_d21_10 : decode jdk_68_method_68_code 10 = .ok (.ifCond .ne 7, 3) := by decide +kernel
theorem own_d21_13 : decode jdk_68_method_68_code 13 = .ok (.iconst 1, 1) := by decide +kernel
theorem own_d21_14 : decode jdk_68_method_68_code 14 = .ok (.goto 4, 3) := by decide +kernel
theorem own_d21_18 : decode jdk_68_method_68_code 18 = .ok (.ireturn, 1) := by decide +kernel
theorem own_ef_isL1 (m : MethodId) (x0 : Addr) : entryFrame m #[(.ref x0)] 1 = mkF m 0 #[.val (.ref x0)] [] := by first | (simp [entryFrame, mkF, argsToLocals, Value.category]; done) | rfl
def own_Q_isL1 (Z : State) (ob : Addr) (zc : Int32) (h0 : Heap) (n0 : Nat) (v : Option Value) (h : Heap) (L : List Loc) : Prop := v = some (.int (1 : Int32)) ∧ Fr n0 L ∧ h = h0
set_option maxRecDepth 65536 in
set_option maxHeartbeats 40000000 in
theorem own_isL1 (l : Launch) (Z : State) (a0 : Array Value) (hw : ∀ d ∈ tables_1, d.before a0 Z = true) (ws : List Jvm.Cond) (ob : Addr) (zc : Int32) (h0 : Heap) (n0 : Nat) (Z0 : n0 ≤ h0.size) (O0 : Old Z n0 h0) (SCS : Sta Z Z.heap "java/lang/String" "COMPACT_STRINGS" "Z" (.int zc)) (hzc : ¬ zc = 0) (Fc : Fld Z h0 ob "java/lang/AbstractStringBuilder" "coder" "B" (.int (0 : Int32))) :
    MetFree l (⟨"java/lang/AbstractStringBuilder", "isLatin1", "()Z"⟩ : MethodName) (head1 (Jvm.Cond.code (⟨"java/lang/AbstractStringBuilder", "isLatin1", "()Z"⟩ : MethodName) jdk_68_method_68_code 1 (some .boolean) :: ws) ({ frames := 0, cells := 0, slots := 0, locals := 0 } : Room)) (fun A0 U0 => A0 = #[(.ref ob)] ∧ Z.Warmed39 U0.vm ∧ U0.heap = h0) (fun _ _ _ _ _ => True) (fun _ U0 o0 U1 => ∃ v0 L0, o0 = .returned v0 ∧ own_Q_isL1 Z ob zc h0 n0 v0 U1.heap L0 ∧ FrameEnd U0 o0 U1 L0 ({ frames := 0, cells := 0, slots := 0, locals := 0 } : Room).cells ({ frames := 0, cells := 0, slots := 0, locals := 0 } : Room).slots) := by
  refine MetFree.of_bodySF (plainFor_of_name own_pn_java_lang_AbstractStringBuilder) hisR ?_
  intro p e s m args below meth c s₁ Bd hml0 hP hK
  obtain ⟨rfl, hZ, hh⟩ := hP
  have hZs0 := hZ
  have hZs := hZ
  have hx := Bd.exec
  have hby := Bd.bytes
  have hby_ := hby
  have hml : c.maxLocals = 1 := hml0
  have hown : s.vm.findClass "java/lang/AbstractStringBuilder" = some m.cls := findClass_of_methodNamed Bd.named
  have hnm := (name_of_methodNamed Bd.named Bd.method).1
  have X0 : Stand p l e ({ frames := 0, cells := 0, slots := 0, locals := 0 } : Room) s m #[(.ref ob)] below meth c s₁ [] 0 0 := Stand.of_body Bd
  have e0 : s₁.heap = h0 := by rw [← hh, Bd.state]; rfl
  have N0 := Fr.nil n0
  refine OwnFin.entry (own_ef_isL1 m ob) (fun P' hP' => ?_)
  obtain ⟨T1, X1, e1, st1⟩ := getS2 X0 hx hZ hown (host := "") (Or.inl (hw _ (List.mem_of_getElem? (i := 21) rfl))) Via.refl e0 (own_staK SCS O0) (g := (mkF m 0 #[.val (.ref ob)] [])) rfl (hb hby own_d21_0)
  refine OwnFin.adv (B := T1.setTop (mkF m 3 #[.val (.ref ob)] [(.int zc)])) (fun _ k => st1 _ k) ?_
  have hc3_2 : ¬ (zc = (0 : Int32)) := hzc
  refine OwnFin.adv (B := T1.setTop (mkF m 6 #[.val (.ref ob)] [])) (fun _ k => XS.ifNo X1.here hx rfl (hb hby own_d21_3) rfl ((if0 _ _).trans (feq hc3_2).1) k) ?_
  refine OwnFin.adv (B := T1.setTop (mkF m 7 #[.val (.ref ob)] [(.ref ob)])) (fun _ k => XS.aloadN X1.here hx rfl (hb hby own_d21_6) rfl rfl k) ?_
  obtain ⟨T2, X2, e2, st2⟩ := getF X1 hx hZ hown (host := "") (Or.inl (hw _ (List.mem_of_getElem? (i := 26) rfl))) Via.refl e1 Fc (g := (mkF m 7 #[.val (.ref ob)] [(.ref ob)])) rfl rfl (hb hby own_d21_7)
  refine OwnFin.adv (B := T2.setTop (mkF m 10 #[.val (.ref ob)] [(.int (0 : Int32))])) (fun _ k => st2 _ k) ?_
  have hc10_5 : (0 : Int32) = (0 : Int32) := rfl
  refine OwnFin.adv (B := T2.setTop (mkF m 13 #[.val (.ref ob)] [])) (fun _ k => XS.ifNo X2.here hx rfl (hb hby own_d21_10) rfl ((if0 _ _).trans (teq hc10_5).2) k) ?_
  refine OwnFin.adv (B := T2.setTop (mkF m 14 #[.val (.ref ob)] [(.int (1 : Int32))])) (fun _ k => XS.iconst X2.here hx rfl (hb hby own_d21_13) k) ?_
  refine OwnFin.adv (B := T2.setTop (mkF m 18 #[.val (.ref ob)] [(.int (1 : Int32))])) (fun _ k => XS.goto X2.here hx rfl (pc0 := 14) (pc' := 18) rfl (hb hby own_d21_14) (by decide) (by decide) k) ?_
  obtain ⟨fs, hr, hrun, hended, hW, hsame⟩ := X2.leave (v := some (.int (1 : Int32))) (fun h => by rw [Bd.returns] at h; cases h)
  refine OwnFin.leaf hP' ⟨_, _, retN X2 hx (t := .boolean) Bd.returns (by simp) (hb hby own_d21_18) hr, hrun, hended, _, _, rfl, ?_, ⟨_, rfl⟩, hW, hsame.mono (by decide) (by decide)⟩
  exact ⟨rfl, N0, e2⟩
theorem own_d25_0 : decode jdk_42_method_150_code 0 = .ok (.aload_n 0, 1) := by decide +kernel
theorem own_d25_1 : decode jdk_42_method_150_code 1 = .ok (.invokespecial 1, 3) := by decide +kernel
theorem own_d25_4 : decode jdk_42_method_150_code 4 = .ok (.aload_n 1, 1) := by decide +kernel
theorem own_pd_x28x29x5bB : parseMethodDescriptor "()[B" = some ⟨[], some (.array .byte)⟩ := by decide +kernel
theorem own_d25_5 : decode jdk_42_method_150_code 5 = .ok (.invokevirtual 552, 3) := by decide +kernel
theorem own_d25_8 : decode jdk_42_method_150_code 8 = .ok (.astore_n 3, 1) := by decide +kernel
theorem own_d25_9 : decode jdk_42_method_150_code 9 = .ok (.aload_n 1, 1) := by decide +kernel
theorem own_d25_10 : decode jdk_42_method_150_code 10 = .ok (.invokevirtual 549, 3) := by decide +kernel
theorem own_d25_13 : decode jdk_42_method_150_code 13 = .ok (.istore 4, 2) := by decide +kernel
theorem own_d25_15 : decode jdk_42_method_150_code 15 = .ok (.aload_n 1, 1) := by decide +kernel
theorem own_pd_x28x29Z : parseMethodDescriptor "()Z" = some ⟨[], some .boolean⟩ := by decide +kernel
theorem own_d25_16 : decode jdk_42_method_150_code 16 = .ok (.invokevirtual 1047, 3) := by decide +kernel
theorem own_d25_19 : decode jdk_42_method_150_code 19 = .ok (.ifCond .eq 22, 3) := by decide +kernel
theorem own_d25_22 : decode jdk_42_method_150_code 22 = .ok (.aload_n 0, 1) := by decide +kernel
theorem own_d25_23 : decode jdk_42_method_150_code 23 = .ok (.iconst 0, 1) := by decide +kernel
theorem own_d25_24 : decode jdk_42_method_150_code 24 = .ok (.putfield 15, 3) := by decide +kernel
theorem own_d25_27 : decode jdk_42_method_150_code 27 = .ok (.aload_n 0, 1) := by decide +kernel
theorem own_d25_28 : decode jdk_42_method_150_code 28 = .ok (.aload_n 3, 1) := by decide +kernel
theorem own_d25_29 : decode jdk_42_method_150_code 29 = .ok (.iconst 0, 1) := by decide +kernel
theorem own_d25_30 : decode jdk_42_method_150_code 30 = .ok (.iload 4, 2) := by decide +kernel
theorem own_d25_32 : decode jdk_42_method_150_code 32 = .ok (.invokestatic 54, 3) := by decide +kernel
theorem own_d25_35 : decode jdk_42_method_150_code 35 = .ok (.putfield 9, 3) := by decide +kernel
theorem own_d25_38 : decode jdk_42_method_150_code 38 = .ok (.goto 59, 3) := by decide +kernel
theorem own_d25_97 : decode jdk_42_method_150_code 97 = .ok (.return_, 1) := by decide +kernel
theorem own_ef_strASB (m : MethodId) (x0 : Addr) (x1 : Addr) : entryFrame m #[(.ref x0), (.ref x1), .null] 5 = mkF m 0 #[.val (.ref x0), .val (.ref x1), .val .null, .unset, .unset] [] := by first | (simp [entryFrame, mkF, argsToLocals, Value.category]; done) | rfl
def own_Q_strASB (Z : State) (xo ob : Addr) (da : Addr) (kd : ClassId) (vd : List Value) (cap k0 : Nat) (zc : Int32) (u0 u1 : Value) (h0 : Heap) (n0 : Nat) (v : Option Value) (h : Heap) (L : List Loc) : Prop := v = none ∧ Fr n0 L ∧ Keep h0 h [xo] ∧ ∃ (t : Addr) (kt : ClassId), Fld Z h xo "java/lang/String" "value" "[B" (.ref t) ∧ Fld Z h xo "java/lang/String" "coder" "B" (.int (0 : Int32)) ∧ Arv Z h t kt .byte (Int32.ofNat k0) (vd.take k0) (.int (0 : Int32)) ∧ h0.size ≤ t
set_option maxRecDepth 65536 in
set_option maxHeartbeats 40000000 in
theorem own_strASB (l : Launch) (Z : State) (a0 : Array Value) (hw : ∀ d ∈ tables_1, d.before a0 Z = true) (ws : List Jvm.Cond) (xo ob : Addr) (da : Addr) (kd : ClassId) (vd : List Value) (cap k0 : Nat) (zc : Int32) (u0 u1 : Value) (h0 : Heap) (n0 : Nat) (Z0 : n0 ≤ h0.size) (O0 : Old Z n0 h0) (SCS : Sta Z Z.heap "java/lang/String" "COMPACT_STRINGS" "Z" (.int zc)) (hzc : ¬ zc = 0) (Ex : Exa Z h0 xo "java/lang/String") (Fx : Fld Z h0 xo "java/lang/String" "value" "[B" u0) (Fy : Fld Z h0 xo "java/lang/String" "coder" "B" u1) (g_xo : n0 ≤ xo) (E : Exa Z h0 ob "java/lang/StringBuilder") (Fv : Fld Z h0 ob "java/lang/AbstractStringBuilder" "value" "[B" (.ref da)) (Fc : Fld Z h0 ob "java/lang/AbstractStringBuilder" "coder" "B" (.int (0 : Int32))) (Fn : Fld Z h0 ob "java/lang/AbstractStringBuilder" "count" "I" (.int (Int32.ofNat k0))) (Va : Arv Z h0 da kd .byte (Int32.ofNat cap) vd (.int (0 : Int32))) (hcap : cap ≤ 4000) (hvd : vd.length = cap) (hk : k0 < cap) (hk64 : k0 ≤ 64) :
    MetFree l (⟨"java/lang/String", "<init>", "(Ljava/lang/AbstractStringBuilder;Ljava/lang/Void;)V"⟩ : MethodName) (head1 (Jvm.Cond.code (⟨"java/lang/String", "<init>", "(Ljava/lang/AbstractStringBuilder;Ljava/lang/Void;)V"⟩ : MethodName) jdk_42_method_150_code 5 none :: ws) ({ frames := 3, cells := 1, slots := 64, locals := 49 } : Room)) (fun A0 U0 => A0 = #[(.ref xo), (.ref ob), .null] ∧ Z.Warmed39 U0.vm ∧ U0.heap = h0) (fun _ _ _ _ _ => True) (fun _ U0 o0 U1 => ∃ v0 L0, o0 = .returned v0 ∧ own_Q_strASB Z xo ob da kd vd cap k0 zc u0 u1 h0 n0 v0 U1.heap L0 ∧ FrameEnd U0 o0 U1 L0 ({ frames := 3, cells := 1, slots := 64, locals := 49 } : Room).cells ({ frames := 3, cells := 1, slots := 64, locals := 49 } : Room).slots) := by
  refine MetFree.of_bodySF (plainFor_of_name own_pn_java_lang_String) hisR ?_
  intro p e s m args below meth c s₁ Bd hml0 hP hK
  obtain ⟨rfl, hZ, hh⟩ := hP
  have hZs0 := hZ
  have hZs := hZ
  have hx := Bd.exec
  have hby := Bd.bytes
  have hby_ := hby
  have hml : c.maxLocals = 5 := hml0
  have hown : s.vm.findClass "java/lang/String" = some m.cls := findClass_of_methodNamed Bd.named
  have hnm := (name_of_methodNamed Bd.named Bd.method).1
  have X0 : Stand p l e ({ frames := 3, cells := 1, slots := 64, locals := 49 } : Room) s m #[(.ref xo), (.ref ob), .null] below meth c s₁ [] 0 0 := Stand.of_body Bd
  have e0 : s₁.heap = h0 := by rw [← hh, Bd.state]; rfl
  have N0 := Fr.nil n0
  refine OwnFin.entry (own_ef_strASB m xo ob) (fun P' hP' => ?_)
  have lt_ob := own_lt E.lt
  have lt_xo := own_lt Ex.lt
  have ne_xo := own_nee (ne_exa Ex E (by decide))
  have ne_xd := own_nee (Exa.neArv Ex Va (hw _ (List.mem_of_getElem? (i := 29) rfl)))
  have lt_da := own_lt Va.lt
  refine OwnFin.adv (B := s₁.setTop (mkF m 1 #[.val (.ref xo), .val (.ref ob), .val .null, .unset, .unset] [(.ref xo)])) (fun _ k => XS.aloadN X0.here hx rfl (hb hby own_d25_0) rfl rfl k) ?_
  obtain ⟨T1, X1, e1, st1⟩ := initO X0 hx hZ hown (hw _ (List.mem_of_getElem? (i := 143) rfl)) (hw _ (List.mem_of_getElem? (i := 19) rfl)) (hw _ (List.mem_of_getElem? (i := 20) rfl)) e0 (g := (mkF m 1 #[.val (.ref xo), .val (.ref ob), .val .null, .unset, .unset] [(.ref xo)])) rfl (by rw [hml]; rfl) rfl (hb hby own_d25_1) (by decide) (W := 0) (by show 2 * 0 + _ ≤ _; exact Nat.le_of_eq rfl) (by decide)
  refine OwnFin.adv (B := T1.setTop (mkF m 4 #[.val (.ref xo), .val (.ref ob), .val .null, .unset, .unset] [])) (fun _ k => st1 _ k) ?_
  refine OwnFin.adv (B := T1.setTop (mkF m 5 #[.val (.ref xo), .val (.ref ob), .val .null, .unset, .unset] [(.ref ob)])) (fun _ k => XS.aloadN X1.here hx rfl (hb hby own_d25_4) rfl rfl k) ?_
  obtain ⟨cq2, kq2, q2a, q2b, q2c⟩ := isOf hZ e1 E
  obtain ⟨_, _, ⟨T2, L2, k2, n2⟩, -, X2, ⟨Lc2, hQ2, l2, y2, z2⟩, st2⟩ := X1.virtualBack hx (y := (⟨"java/lang/AbstractStringBuilder", "getValue", "()[B"⟩ : MethodName)) (z := (⟨"java/lang/AbstractStringBuilder", "getValue", "()[B"⟩ : MethodName)) hown (mvT hZ (hw _ (List.mem_of_getElem? (i := 144) rfl))) (mvT hZ (hw _ (List.mem_of_getElem? (i := 145) rfl))) (notFace_of_selects (args := #[]) (mvT hZ (hw _ (List.mem_of_getElem? (i := 147) rfl)))) (mvT hZ (hw _ (List.mem_of_getElem? (i := 147) rfl))) (mvT hZ (hw _ (List.mem_of_getElem? (i := 146) rfl))) (by decide) (backOf (W := 0) (own_getV l Z a0 hw [] ob da h0 n0 (by omega) Fv) hZ (hw _ (List.mem_of_getElem? (i := 148) rfl)) (hw _ (List.mem_of_getElem? (i := 16) rfl)) (by decide) (by decide)) q2a q2c (g := (mkF m 5 #[.val (.ref xo), .val (.ref ob), .val .null, .unset, .unset] [(.ref ob)])) rfl (by rw [hml]; rfl) (Steps.refl _) (argsL := []) (rest := []) (lenOf own_pd_x28x29x5bB rfl) rfl (by show 2 * 0 + _ ≤ _; exact Nat.le_of_eq rfl) (hb hby own_d25_5) (fun _ _ => ⟨rfl, e1, (by decide : 0 + 0 ≤ _), (by decide : 0 + 0 ≤ _)⟩)
  dsimp only [Pt.U, Pt.locs, Pt.cells, Pt.slots] at X2 l2 y2 z2 st2 hQ2
  subst l2 y2 z2
  obtain ⟨rfl, N2q, eh2⟩ := hQ2
  have N2 := Fr.app N0 N2q
  refine OwnFin.adv (B := T2.setTop (mkF m 8 #[.val (.ref xo), .val (.ref ob), .val .null, .unset, .unset] [(.ref da)])) (fun _ k => st2.trans k) ?_
  refine OwnFin.adv (B := T2.setTop (mkF m 9 #[.val (.ref xo), .val (.ref ob), .val .null, .val (.ref da), .unset] [])) (fun _ k => XS.astoreN X2.here hx rfl (hb hby own_d25_8) rfl rfl (l' := #[.val (.ref xo), .val (.ref ob), .val .null, .val (.ref da), .unset]) rfl k) ?_
  refine OwnFin.adv (B := T2.setTop (mkF m 10 #[.val (.ref xo), .val (.ref ob), .val .null, .val (.ref da), .unset] [(.ref ob)])) (fun _ k => XS.aloadN X2.here hx rfl (hb hby own_d25_9) rfl rfl k) ?_
  obtain ⟨cq3, kq3, q3a, q3b, q3c⟩ := isOf hZ eh2 E
  obtain ⟨_, _, ⟨T3, L3, k3, n3⟩, -, X3, ⟨Lc3, hQ3, l3, y3, z3⟩, st3⟩ := X2.virtualBack hx (y := (⟨"java/lang/AbstractStringBuilder", "length", "()I"⟩ : MethodName)) (z := (⟨"java/lang/StringBuilder", "length", "()I"⟩ : MethodName)) hown (mvT hZ (hw _ (List.mem_of_getElem? (i := 149) rfl))) (mvT hZ (hw _ (List.mem_of_getElem? (i := 150) rfl))) (own_nf (a0 := #[]) (z := (⟨"java/lang/AbstractStringBuilder", "ensureCapacityInternal", "(I)V"⟩ : MethodName)) (mvT hZ (own_decl (hw _ (List.mem_of_getElem? (i := 60) rfl)) (hw _ (List.mem_of_getElem? (i := 63) rfl)))) (notFace_of_selects (args := #[]) (mvT hZ (hw _ (List.mem_of_getElem? (i := 62) rfl)))) rfl) (mvT hZ (hw _ (List.mem_of_getElem? (i := 152) rfl))) (mvT hZ (hw _ (List.mem_of_getElem? (i := 153) rfl))) (by decide) (backOf (W := 0) (own_sbLen l Z a0 hw [] ob k0 h0 n0 (by omega) E Fn) hZ (hw _ (List.mem_of_getElem? (i := 154) rfl)) (hw _ (List.mem_of_getElem? (i := 8) rfl)) (by decide) (by decide)) q3a q3c (g := (mkF m 10 #[.val (.ref xo), .val (.ref ob), .val .null, .val (.ref da), .unset] [(.ref ob)])) rfl (by rw [hml]; rfl) (Steps.refl _) (argsL := []) (rest := []) (lenOf own_pd_x28x29I rfl) rfl (by show 2 * 0 + _ ≤ _; exact Nat.le_of_eq rfl) (hb hby own_d25_10) (fun _ _ => ⟨rfl, eh2, (by decide : 0 + 0 ≤ _), (by decide : 0 + 0 ≤ _)⟩)
  dsimp only [Pt.U, Pt.locs, Pt.cells, Pt.slots] at X3 l3 y3 z3 st3 hQ3
  subst l3 y3 z3
  obtain ⟨rfl, N3q, eh3⟩ := hQ3
  have N3 := Fr.app N2 N3q
  refine OwnFin.adv (B := T3.setTop (mkF m 13 #[.val (.ref xo), .val (.ref ob), .val .null, .val (.ref da), .unset] [(.int (Int32.ofNat k0))])) (fun _ k => st3.trans k) ?_
  refine OwnFin.adv (B := T3.setTop (mkF m 15 #[.val (.ref xo), .val (.ref ob), .val .null, .val (.ref da), .val (.int (Int32.ofNat k0))] [])) (fun _ k => XS.istore X3.here hx rfl (hb hby own_d25_13) rfl (l' := #[.val (.ref xo), .val (.ref ob), .val .null, .val (.ref da), .val (.int (Int32.ofNat k0))]) rfl k) ?_
  refine OwnFin.adv (B := T3.setTop (mkF m 16 #[.val (.ref xo), .val (.ref ob), .val .null, .val (.ref da), .val (.int (Int32.ofNat k0))] [(.ref ob)])) (fun _ k => XS.aloadN X3.here hx rfl (hb hby own_d25_15) rfl rfl k) ?_
  obtain ⟨cq4, kq4, q4a, q4b, q4c⟩ := isOf hZ eh3 E
  obtain ⟨_, _, ⟨T4, L4, k4, n4⟩, -, X4, ⟨Lc4, hQ4, l4, y4, z4⟩, st4⟩ := X3.virtualBack hx (y := (⟨"java/lang/AbstractStringBuilder", "isLatin1", "()Z"⟩ : MethodName)) (z := (⟨"java/lang/AbstractStringBuilder", "isLatin1", "()Z"⟩ : MethodName)) hown (mvT hZ (hw _ (List.mem_of_getElem? (i := 157) rfl))) (mvT hZ (hw _ (List.mem_of_getElem? (i := 121) rfl))) (notFace_of_selects (args := #[]) (mvT hZ (hw _ (List.mem_of_getElem? (i := 123) rfl)))) (mvT hZ (hw _ (List.mem_of_getElem? (i := 123) rfl))) (mvT hZ (hw _ (List.mem_of_getElem? (i := 122) rfl))) (by decide) (backOf (W := 0) (own_isL1 l Z a0 hw [] ob zc h0 n0 (by omega) O0 SCS hzc Fc) hZ (hw _ (List.mem_of_getElem? (i := 124) rfl)) (hw _ (List.mem_of_getElem? (i := 16) rfl)) (by decide) (by decide)) q4a q4c (g := (mkF m 16 #[.val (.ref xo), .val (.ref ob), .val .null, .val (.ref da), .val (.int (Int32.ofNat k0))] [(.ref ob)])) rfl (by rw [hml]; rfl) (Steps.refl _) (argsL := []) (rest := []) (lenOf own_pd_x28x29Z rfl) rfl (by show 2 * 0 + _ ≤ _; exact Nat.le_of_eq rfl) (hb hby own_d25_16) (fun _ _ => ⟨rfl, eh3, (by decide : 0 + 0 ≤ _), (by decide : 0 + 0 ≤ _)⟩)
  dsimp only [Pt.U, Pt.locs, Pt.cells, Pt.slots] at X4 l4 y4 z4 st4 hQ4
  subst l4 y4 z4
  obtain ⟨rfl, N4q, eh4⟩ := hQ4
  have N4 := Fr.app N3 N4q
  refine OwnFin.adv (B := T4.setTop (mkF m 19 #[.val (.ref xo), .val (.ref ob), .val .null, .val (.ref da), .val (.int (Int32.ofNat k0))] [(.int (1 : Int32))])) (fun _ k => st4.trans k) ?_
  have hc19_11 : ¬ ((1 : Int32) = (0 : Int32)) := by decide
  refine OwnFin.adv (B := T4.setTop (mkF m 22 #[.val (.ref xo), .val (.ref ob), .val .null, .val (.ref da), .val (.int (Int32.ofNat k0))] [])) (fun _ k => XS.ifNo X4.here hx rfl (hb hby own_d25_19) rfl ((if0 _ _).trans (feq hc19_11).1) k) ?_
  refine OwnFin.adv (B := T4.setTop (mkF m 23 #[.val (.ref xo), .val (.ref ob), .val .null, .val (.ref da), .val (.int (Int32.ofNat k0))] [(.ref xo)])) (fun _ k => XS.aloadN X4.here hx rfl (hb hby own_d25_22) rfl rfl k) ?_
  refine OwnFin.adv (B := T4.setTop (mkF m 24 #[.val (.ref xo), .val (.ref ob), .val .null, .val (.ref da), .val (.int (Int32.ofNat k0))] [(.int (0 : Int32)), (.ref xo)])) (fun _ k => XS.iconst X4.here hx rfl (hb hby own_d25_23) k) ?_
  obtain ⟨T5, h5, X5, e5, W5, st5⟩ := putFN X4 hx hZ hown (hw _ (List.mem_of_getElem? (i := 56) rfl)) Via.refl eh4 Fy Ex (Or.inr ⟨(hw _ (List.mem_of_getElem? (i := 31) rfl)), rfl, hnm⟩) (hw _ (List.mem_of_getElem? (i := 29) rfl)) (ty := .byte) (v' := .int (nar .byte (0 : Int32))) (by decide) rfl (fits_nar_byte _) (g := (mkF m 24 #[.val (.ref xo), .val (.ref ob), .val .null, .val (.ref da), .val (.int (Int32.ofNat k0))] [(.int (0 : Int32)), (.ref xo)])) rfl rfl (hb hby own_d25_24)
  have Fw5 : Fld Z h5 xo "java/lang/String" "coder" "B" (.int (0 : Int32)) := Fy.same W5
  have sz6 : h0.size ≤ h5.size := Nat.le_of_eq W5.size.symm
  have N5 := Fr.snoc X5 N4 (by omega : n0 ≤ xo)
  refine OwnFin.adv (B := T5.setTop (mkF m 27 #[.val (.ref xo), .val (.ref ob), .val .null, .val (.ref da), .val (.int (Int32.ofNat k0))] [])) (fun _ k => st5 _ k) ?_
  refine OwnFin.adv (B := T5.setTop (mkF m 28 #[.val (.ref xo), .val (.ref ob), .val .null, .val (.ref da), .val (.int (Int32.ofNat k0))] [(.ref xo)])) (fun _ k => XS.aloadN X5.here hx rfl (hb hby own_d25_27) rfl rfl k) ?_
  refine OwnFin.adv (B := T5.setTop (mkF m 29 #[.val (.ref xo), .val (.ref ob), .val .null, .val (.ref da), .val (.int (Int32.ofNat k0))] [(.ref da), (.ref xo)])) (fun _ k => XS.aloadN X5.here hx rfl (hb hby own_d25_28) rfl rfl k) ?_
  refine OwnFin.adv (B := T5.setTop (mkF m 30 #[.val (.ref xo), .val (.ref ob), .val .null, .val (.ref da), .val (.int (Int32.ofNat k0))] [(.int (0 : Int32)), (.ref da), (.ref xo)])) (fun _ k => XS.iconst X5.here hx rfl (hb hby own_d25_29) k) ?_
  refine OwnFin.adv (B := T5.setTop (mkF m 32 #[.val (.ref xo), .val (.ref ob), .val .null, .val (.ref da), .val (.int (Int32.ofNat k0))] [(.int (Int32.ofNat k0)), (.int (0 : Int32)), (.ref da), (.ref xo)])) (fun _ k => XS.iload X5.here hx rfl (hb hby own_d25_30) rfl k) ?_
  have Fv8_1 : Arv Z h5 da kd .byte (Int32.ofNat cap) vd (.int (0 : Int32)) := (Va.other W5 (own_ne (by omega)))
  obtain ⟨_, _, ⟨T7, L7, k7, n7⟩, -, X7, ⟨Lc7, hQ7, l7, y7, z7⟩, st7⟩ := Jvm.LawKit.callS X5 hx (y := (⟨"java/util/Arrays", "copyOfRange", "([BII)[B"⟩ : MethodName)) hown (mvT hZ (hw _ (List.mem_of_getElem? (i := 158) rfl))) (mvT hZ (hw _ (List.mem_of_getElem? (i := 159) rfl))) (mvT hZ (hw _ (List.mem_of_getElem? (i := 81) rfl))) (mvT hZ (hw _ (List.mem_of_getElem? (i := 160) rfl))) (by decide) (backOf (W := 1) (own_cor l Z a0 hw [] da kd vd cap k0 h5 n0 (by omega) Fv8_1 hcap hvd hk hk64) hZ (hw _ (List.mem_of_getElem? (i := 160) rfl)) (hw _ (List.mem_of_getElem? (i := 81) rfl)) (by decide) (by decide)) (g := (mkF m 32 #[.val (.ref xo), .val (.ref ob), .val .null, .val (.ref da), .val (.int (Int32.ofNat k0))] [(.int (Int32.ofNat k0)), (.int (0 : Int32)), (.ref da), (.ref xo)])) rfl (by rw [hml]; rfl) (argsL := [(.ref da), (.int (0 : Int32)), (.int (Int32.ofNat k0))]) (rest := [(.ref xo)]) (lenOf own_pd_x28x5bBIIx29x5bB rfl) rfl (by show 2 * 0 + _ ≤ _; exact Nat.le_of_eq rfl) (hb hby own_d25_32) (fun _ _ => ⟨rfl, e5, (by decide : 0 + 1 ≤ _), (by decide : 0 + 64 ≤ _)⟩)
  dsimp only [Pt.U, Pt.locs, Pt.cells, Pt.slots] at X7 l7 y7 z7 st7 hQ7
  subst l7 y7 z7
  obtain ⟨t7, kt7, rfl, N7q, K7, ge7, Vt7⟩ := hQ7
  have N7 := Fr.app N5 N7q
  have sz9 : h5.size ≤ T7.heap.size := K7.1
  have lt_t7 := own_lt Vt7.lt
  refine OwnFin.adv (B := T7.setTop (mkF m 35 #[.val (.ref xo), .val (.ref ob), .val .null, .val (.ref da), .val (.int (Int32.ofNat k0))] [(.ref t7), (.ref xo)])) (fun _ k => st7 _ k) ?_
  have Fv10_2 : Exa Z T7.heap xo "java/lang/String" := ((Ex.wr W5).keep K7)
  have Fv11_2 : Fld Z T7.heap xo "java/lang/String" "value" "[B" u0 := ((Fx.other W5 (Or.inr (slot_ne (Or.inr (hw _ (List.mem_of_getElem? (i := 30) rfl))) (Or.inr (hw _ (List.mem_of_getElem? (i := 31) rfl))) (by decide) (t := (.array .byte)) (t' := .byte) (by decide) (by decide)))).keep K7 nin0)
  obtain ⟨T12, h12, X12, e12, W12, st12⟩ := putF X7 hx hZ hown (host := "") (Or.inl (hw _ (List.mem_of_getElem? (i := 49) rfl))) Via.refl rfl Fv11_2 Fv10_2 (Or.inr ⟨(hw _ (List.mem_of_getElem? (i := 30) rfl)), rfl, hnm⟩) (hw _ (List.mem_of_getElem? (i := 29) rfl)) (ty := (.array .byte)) (by decide) rfl rfl (g := (mkF m 35 #[.val (.ref xo), .val (.ref ob), .val .null, .val (.ref da), .val (.int (Int32.ofNat k0))] [(.ref t7), (.ref xo)])) rfl rfl (hb hby own_d25_35)
  have Fw12 : Fld Z h12 xo "java/lang/String" "value" "[B" (.ref t7) := Fv11_2.same W12
  have sz13 : T7.heap.size ≤ h12.size := Nat.le_of_eq W12.size.symm
  have N12 := Fr.snoc X12 N7 (by omega : n0 ≤ xo)
  refine OwnFin.adv (B := T12.setTop (mkF m 38 #[.val (.ref xo), .val (.ref ob), .val .null, .val (.ref da), .val (.int (Int32.ofNat k0))] [])) (fun _ k => st12 _ k) ?_
  refine OwnFin.adv (B := T12.setTop (mkF m 97 #[.val (.ref xo), .val (.ref ob), .val .null, .val (.ref da), .val (.int (Int32.ofNat k0))] [])) (fun _ k => XS.goto X12.here hx rfl (pc0 := 38) (pc' := 97) rfl (hb hby own_d25_38) (by decide) (by decide) k) ?_
  obtain ⟨fs, hr, hrun, hended, hW, hsame⟩ := X12.leave (v := none) (fun _ => rfl)
  refine OwnFin.leaf hP' ⟨_, _, X12.returnOut hx Bd.returns (hb hby own_d25_97) hr, hrun, hended, _, _, rfl, ?_, ⟨_, rfl⟩, hW, hsame.mono (by decide) (by decide)⟩
  have Fv14_3 : Fld Z h12 xo "java/lang/String" "coder" "B" (.int (0 : Int32)) := ((Fw5.keep K7 nin0).other W12 (Or.inr (slot_ne (Or.inr (hw _ (List.mem_of_getElem? (i := 31) rfl))) (Or.inr (hw _ (List.mem_of_getElem? (i := 30) rfl))) (by decide) (t := .byte) (t' := (.array .byte)) (by decide) (by decide))))
  have Fv15_3 : Arv Z h12 t7 kt7 .byte (Int32.ofNat k0) (vd.take k0) (.int (0 : Int32)) := (Vt7.other W12 (own_ne (by omega)))
  rw [show (T12.setFrames fs).heap = h12 from e12]
  exact ⟨rfl, N12, ((((Keep.refl h0 [xo]).wr W5 (Or.inl (List.mem_of_getElem? (i := 0) rfl))).trans K7 all0).wr W12 (Or.inl (List.mem_of_getElem? (i := 0) rfl))), _, _, Fw12, Fv14_3, Fv15_3, by omega⟩
theorem own_d24_0 : decode jdk_42_method_53_code 0 = .ok (.aload_n 0, 1) := by decide +kernel
theorem own_d24_1 : decode jdk_42_method_53_code 1 = .ok (.aload_n 1, 1) := by decide +kernel
theorem own_d24_2 : decode jdk_42_method_53_code 2 = .ok (.aconst_null, 1) := by decide +kernel
theorem own_pd_x28Ljavax2flangx2fAbstractStringBuilderx3bLjavax2flangx2fVoidx3bx29V : parseMethodDescriptor "(Ljava/lang/AbstractStringBuilder;Ljava/lang/Void;)V" = some ⟨[(.object "java/lang/AbstractStringBuilder"), (.object "java/lang/Void")], none⟩ := by decide +kernel
theorem own_d24_3 : decode jdk_42_method_53_code 3 = .ok (.invokespecial 489, 3) := by decide +kernel
theorem own_d24_6 : decode jdk_42_method_53_code 6 = .ok (.return_, 1) := by decide +kernel
theorem own_ef_strSB (m : MethodId) (x0 : Addr) (x1 : Addr) : entryFrame m #[(.ref x0), (.ref x1)] 2 = mkF m 0 #[.val (.ref x0), .val (.ref x1)] [] := by first | (simp [entryFrame, mkF, argsToLocals, Value.category]; done) | rfl
def own_Q_strSB (Z : State) (xo ob : Addr) (da : Addr) (kd : ClassId) (vd : List Value) (cap k0 : Nat) (zc : Int32) (u0 u1 : Value) (h0 : Heap) (n0 : Nat) (v : Option Value) (h : Heap) (L : List Loc) : Prop := v = none ∧ Fr n0 L ∧ Keep h0 h [xo] ∧ ∃ (t : Addr) (kt : ClassId), Fld Z h xo "java/lang/String" "value" "[B" (.ref t) ∧ Fld Z h xo "java/lang/String" "coder" "B" (.int (0 : Int32)) ∧ Arv Z h t kt .byte (Int32.ofNat k0) (vd.take k0) (.int (0 : Int32)) ∧ h0.size ≤ t
set_option maxRecDepth 65536 in
set_option maxHeartbeats 40000000 in
theorem own_strSB (l : Launch) (Z : State) (a0 : Array Value) (hw : ∀ d ∈ tables_1, d.before a0 Z = true) (ws : List Jvm.Cond) (xo ob : Addr) (da : Addr) (kd : ClassId) (vd : List Value) (cap k0 : Nat) (zc : Int32) (u0 u1 : Value) (h0 : Heap) (n0 : Nat) (Z0 : n0 ≤ h0.size) (O0 : Old Z n0 h0) (SCS : Sta Z Z.heap "java/lang/String" "COMPACT_STRINGS" "Z" (.int zc)) (hzc : ¬ zc = 0) (Ex : Exa Z h0 xo "java/lang/String") (Fx : Fld Z h0 xo "java/lang/String" "value" "[B" u0) (Fy : Fld Z h0 xo "java/lang/String" "coder" "B" u1) (g_xo : n0 ≤ xo) (E : Exa Z h0 ob "java/lang/StringBuilder") (Fv : Fld Z h0 ob "java/lang/AbstractStringBuilder" "value" "[B" (.ref da)) (Fc : Fld Z h0 ob "java/lang/AbstractStringBuilder" "coder" "B" (.int (0 : Int32))) (Fn : Fld Z h0 ob "java/lang/AbstractStringBuilder" "count" "I" (.int (Int32.ofNat k0))) (Va : Arv Z h0 da kd .byte (Int32.ofNat cap) vd (.int (0 : Int32))) (hcap : cap ≤ 4000) (hvd : vd.length = cap) (hk : k0 < cap) (hk64 : k0 ≤ 64) :
    MetFree l (⟨"java/lang/String", "<init>", "(Ljava/lang/StringBuilder;)V"⟩ : MethodName) (head1 (Jvm.Cond.code (⟨"java/lang/String", "<init>", "(Ljava/lang/StringBuilder;)V"⟩ : MethodName) jdk_42_method_53_code 2 none :: ws) ({ frames := 4, cells := 1, slots := 64, locals := 65 } : Room)) (fun A0 U0 => A0 = #[(.ref xo), (.ref ob)] ∧ Z.Warmed39 U0.vm ∧ U0.heap = h0) (fun _ _ _ _ _ => True) (fun _ U0 o0 U1 => ∃ v0 L0, o0 = .returned v0 ∧ own_Q_strSB Z xo ob da kd vd cap k0 zc u0 u1 h0 n0 v0 U1.heap L0 ∧ FrameEnd U0 o0 U1 L0 ({ frames := 4, cells := 1, slots := 64, locals := 65 } : Room).cells ({ frames := 4, cells := 1, slots := 64, locals := 65 } : Room).slots) := by
  refine MetFree.of_bodySF (plainFor_of_name own_pn_java_lang_String) hisR ?_
  intro p e s m args below meth c s₁ Bd hml0 hP hK
  obtain ⟨rfl, hZ, hh⟩ := hP
  have hZs0 := hZ
  have hZs := hZ
  have hx := Bd.exec
  have hby := Bd.bytes
  have hby_ := hby
  have hml : c.maxLocals = 2 := hml0
  have hown : s.vm.findClass "java/lang/String" = some m.cls := findClass_of_methodNamed Bd.named
  have hnm := (name_of_methodNamed Bd.named Bd.method).1
  have X0 : Stand p l e ({ frames := 4, cells := 1, slots := 64, locals := 65 } : Room) s m #[(.ref xo), (.ref ob)] below meth c s₁ [] 0 0 := Stand.of_body Bd
  have e0 : s₁.heap = h0 := by rw [← hh, Bd.state]; rfl
  have N0 := Fr.nil n0
  refine OwnFin.entry (own_ef_strSB m xo ob) (fun P' hP' => ?_)
  have lt_ob := own_lt E.lt
  have lt_xo := own_lt Ex.lt
  have ne_xo := own_nee (ne_exa Ex E (by decide))
  have ne_xd := own_nee (Exa.neArv Ex Va (hw _ (List.mem_of_getElem? (i := 29) rfl)))
  have lt_da := own_lt Va.lt
  refine OwnFin.adv (B := s₁.setTop (mkF m 1 #[.val (.ref xo), .val (.ref ob)] [(.ref xo)])) (fun _ k => XS.aloadN X0.here hx rfl (hb hby own_d24_0) rfl rfl k) ?_
  refine OwnFin.adv (B := s₁.setTop (mkF m 2 #[.val (.ref xo), .val (.ref ob)] [(.ref ob), (.ref xo)])) (fun _ k => XS.aloadN X0.here hx rfl (hb hby own_d24_1) rfl rfl k) ?_
  refine OwnFin.adv (B := s₁.setTop (mkF m 3 #[.val (.ref xo), .val (.ref ob)] [.null, (.ref ob), (.ref xo)])) (fun _ k => XS.aconstNull X0.here hx rfl (hb hby own_d24_2) k) ?_
  obtain ⟨_, _, ⟨T1, L1, k1, n1⟩, -, X1, ⟨Lc1, hQ1, l1, y1, z1⟩, st1⟩ := X0.specialBack hx (y := (⟨"java/lang/String", "<init>", "(Ljava/lang/AbstractStringBuilder;Ljava/lang/Void;)V"⟩ : MethodName)) rfl hown (mvT hZ (hw _ (List.mem_of_getElem? (i := 140) rfl))) (mvT hZ (hw _ (List.mem_of_getElem? (i := 141) rfl))) (mvT hZ (hw _ (List.mem_of_getElem? (i := 142) rfl))) (by decide) (backOf (W := 0) (own_strASB l Z a0 hw [] xo ob da kd vd cap k0 zc _ _ h0 n0 (by omega) O0 SCS hzc Ex Fx Fy (by omega) E Fv Fc Fn Va hcap hvd hk hk64) hZ (hw _ (List.mem_of_getElem? (i := 142) rfl)) (hw _ (List.mem_of_getElem? (i := 22) rfl)) (by decide) (by decide)) (g := (mkF m 3 #[.val (.ref xo), .val (.ref ob)] [.null, (.ref ob), (.ref xo)])) rfl (by rw [hml]; rfl) (Steps.refl _) (a := xo) (argsL := [(.ref ob), .null]) (rest := []) (lenOf own_pd_x28Ljavax2flangx2fAbstractStringBuilderx3bLjavax2flangx2fVoidx3bx29V rfl) rfl (by show 2 * 0 + _ ≤ _; exact Nat.le_of_eq rfl) (hb hby own_d24_3) (fun _ _ => ⟨rfl, e0, (by decide : 0 + 1 ≤ _), (by decide : 0 + 64 ≤ _)⟩)
  dsimp only [Pt.U, Pt.locs, Pt.cells, Pt.slots] at X1 l1 y1 z1 st1 hQ1
  subst l1 y1 z1
  obtain ⟨rfl, N1q, K1, t1, kt1, Fx1, Fy1, Vt1, ge1⟩ := hQ1
  have N1 := Fr.app N0 N1q
  have sz2 : h0.size ≤ T1.heap.size := K1.1
  have lt_t1 := own_lt Vt1.lt
  refine OwnFin.adv (B := T1.setTop (mkF m 6 #[.val (.ref xo), .val (.ref ob)] [])) (fun _ k => st1.trans k) ?_
  obtain ⟨fs, hr, hrun, hended, hW, hsame⟩ := X1.leave (v := none) (fun _ => rfl)
  refine OwnFin.leaf hP' ⟨_, _, X1.returnOut hx Bd.returns (hb hby own_d24_6) hr, hrun, hended, _, _, rfl, ?_, ⟨_, rfl⟩, hW, hsame.mono (by decide) (by decide)⟩
  rw [show (T1.setFrames fs).heap = T1.heap from rfl]
  exact ⟨rfl, N1, ((Keep.refl h0 [xo]).trans K1 (allS (Or.inl (List.mem_of_getElem? (i := 0) rfl)) all0)), _, _, Fx1, Fy1, Vt1, by omega⟩
theorem own_d23_0 : decode jdk_67_method_42_code 0 = .ok (.new 18, 3) := by decide +kernel
theorem own_d23_3 : decode jdk_67_method_42_code 3 = .ok (.dup, 1) := by decide +kernel
theorem own_d23_4 : decode jdk_67_method_42_code 4 = .ok (.aload_n 0, 1) := by decide +kernel
theorem own_pd_x28Ljavax2flangx2fStringBuilderx3bx29V : parseMethodDescriptor "(Ljava/lang/StringBuilder;)V" = some ⟨[(.object "java/lang/StringBuilder")], none⟩ := by decide +kernel
theorem own_d23_5 : decode jdk_67_method_42_code 5 = .ok (.invokespecial 137, 3) := by decide +kernel
theorem own_d23_8 : decode jdk_67_method_42_code 8 = .ok (.areturn, 1) := by decide +kernel
theorem own_ef_sbToStr (m : MethodId) (x0 : Addr) : entryFrame m #[(.ref x0)] 1 = mkF m 0 #[.val (.ref x0)] [] := by first | (simp [entryFrame, mkF, argsToLocals, Value.category]; done) | rfl
def own_Q_sbToStr (Z : State) (ob : Addr) (da : Addr) (kd : ClassId) (vd : List Value) (cap k0 : Nat) (zc : Int32) (cs : List Int32) (h0 : Heap) (n0 : Nat) (v : Option Value) (h : Heap) (L : List Loc) : Prop := ∃ r : Addr, v = some (.ref r) ∧ Fr n0 L ∧ Keep h0 h [] ∧ h0.size ≤ r ∧ OwnS Z h h.size r cs
set_option maxRecDepth 65536 in
set_option maxHeartbeats 40000000 in
theorem own_sbToStr (l : Launch) (Z : State) (a0 : Array Value) (hw : ∀ d ∈ tables_1, d.before a0 Z = true) (ws : List Jvm.Cond) (ob : Addr) (da : Addr) (kd : ClassId) (vd : List Value) (cap k0 : Nat) (zc : Int32) (cs : List Int32) (h0 : Heap) (n0 : Nat) (Z0 : n0 ≤ h0.size) (O0 : Old Z n0 h0) (SCS : Sta Z Z.heap "java/lang/String" "COMPACT_STRINGS" "Z" (.int zc)) (hzc : ¬ zc = 0) (E : Exa Z h0 ob "java/lang/StringBuilder") (Fv : Fld Z h0 ob "java/lang/AbstractStringBuilder" "value" "[B" (.ref da)) (Fc : Fld Z h0 ob "java/lang/AbstractStringBuilder" "coder" "B" (.int (0 : Int32))) (Fn : Fld Z h0 ob "java/lang/AbstractStringBuilder" "count" "I" (.int (Int32.ofNat k0))) (Va : Arv Z h0 da kd .byte (Int32.ofNat cap) vd (.int (0 : Int32))) (hcap : cap ≤ 4000) (hvd : vd.length = cap) (hk : k0 < cap) (hk64 : k0 ≤ 64) (hlen : cs.length = k0) (hct : vd.take k0 = (cs.map fun c => c.toInt8.toInt32).map Value.int) (hp : ∀ c ∈ cs, ¬ c < 0 ∧ ¬ (255 : Int32) < c) :
    MetFree l (⟨"java/lang/StringBuilder", "toString", "()Ljava/lang/String;"⟩ : MethodName) (head1 (Jvm.Cond.code (⟨"java/lang/StringBuilder", "toString", "()Ljava/lang/String;"⟩ : MethodName) jdk_67_method_42_code 1 (some (.object "java/lang/String")) :: ws) ({ frames := 5, cells := 2, slots := 68, locals := 79 } : Room)) (fun A0 U0 => A0 = #[(.ref ob)] ∧ Z.Warmed39 U0.vm ∧ U0.heap = h0) (fun _ _ _ _ _ => True) (fun _ U0 o0 U1 => ∃ v0 L0, o0 = .returned v0 ∧ own_Q_sbToStr Z ob da kd vd cap k0 zc cs h0 n0 v0 U1.heap L0 ∧ FrameEnd U0 o0 U1 L0 ({ frames := 5, cells := 2, slots := 68, locals := 79 } : Room).cells ({ frames := 5, cells := 2, slots := 68, locals := 79 } : Room).slots) := by
  refine MetFree.of_bodySF (plainFor_of_name own_pn_java_lang_StringBuilder) hisR ?_
  intro p e s m args below meth c s₁ Bd hml0 hP hK
  obtain ⟨rfl, hZ, hh⟩ := hP
  have hZs0 := hZ
  have hZs := hZ
  have hx := Bd.exec
  have hby := Bd.bytes
  have hby_ := hby
  have hml : c.maxLocals = 1 := hml0
  have hown : s.vm.findClass "java/lang/StringBuilder" = some m.cls := findClass_of_methodNamed Bd.named
  have hnm := (name_of_methodNamed Bd.named Bd.method).1
  have X0 : Stand p l e ({ frames := 5, cells := 2, slots := 68, locals := 79 } : Room) s m #[(.ref ob)] below meth c s₁ [] 0 0 := Stand.of_body Bd
  have e0 : s₁.heap = h0 := by rw [← hh, Bd.state]; rfl
  have N0 := Fr.nil n0
  refine OwnFin.entry (own_ef_sbToStr m ob) (fun P' hP' => ?_)
  have lt_ob := own_lt E.lt
  have lt_da := own_lt Va.lt
  obtain ⟨T1, h1, X1, e1, E1, A1, D1, U1, st1⟩ := newO X0 hx hZ hown (hw _ (List.mem_of_getElem? (i := 135) rfl)) (hw _ (List.mem_of_getElem? (i := 29) rfl)) (hw _ (List.mem_of_getElem? (i := 22) rfl)) e0 (g := (mkF m 0 #[.val (.ref ob)] [])) rfl (hb hby own_d23_0) (by decide) (by decide)
  obtain ⟨b1, g1⟩ : ∃ z, z = h0.size := ⟨_, rfl⟩
  rw [← g1] at A1 D1 U1 st1
  have sz2 : h0.size ≤ h1.size := E1.1
  have lt_b1 := own_lt A1.lt
  have F1_value : Fld Z h1 b1 "java/lang/String" "value" "[B" .null := D1 (Or.inr (hw _ (List.mem_of_getElem? (i := 30) rfl))) (ty := (.array .byte)) (by decide)
  have F1_coder : Fld Z h1 b1 "java/lang/String" "coder" "B" (.int (0 : Int32)) := D1 (Or.inr (hw _ (List.mem_of_getElem? (i := 31) rfl))) (ty := .byte) (by decide)
  refine OwnFin.adv (B := T1.setTop (mkF m 3 #[.val (.ref ob)] [(.ref b1)])) (fun _ k => st1 _ k) ?_
  refine OwnFin.adv (B := T1.setTop (mkF m 4 #[.val (.ref ob)] [(.ref b1), (.ref b1)])) (fun _ k => XS.dup X1.here hx rfl (hb hby own_d23_3) rfl rfl k) ?_
  refine OwnFin.adv (B := T1.setTop (mkF m 5 #[.val (.ref ob)] [(.ref ob), (.ref b1), (.ref b1)])) (fun _ k => XS.aloadN X1.here hx rfl (hb hby own_d23_4) rfl rfl k) ?_
  have Old4 : Old Z n0 h1 := (O0.ext E1)
  have Fv5_1 : Exa Z h1 ob "java/lang/StringBuilder" := (E.ext E1)
  have Fv6_1 : Fld Z h1 ob "java/lang/AbstractStringBuilder" "value" "[B" (.ref da) := (Fv.ext E1)
  have Fv7_1 : Fld Z h1 ob "java/lang/AbstractStringBuilder" "coder" "B" (.int (0 : Int32)) := (Fc.ext E1)
  have Fv8_1 : Fld Z h1 ob "java/lang/AbstractStringBuilder" "count" "I" (.int (Int32.ofNat k0)) := (Fn.ext E1)
  have Fv9_1 : Arv Z h1 da kd .byte (Int32.ofNat cap) vd (.int (0 : Int32)) := (Va.ext E1)
  obtain ⟨_, _, ⟨T3, L3, k3, n3⟩, -, X3, ⟨Lc3, hQ3, l3, y3, z3⟩, st3⟩ := X1.specialBack hx (y := (⟨"java/lang/String", "<init>", "(Ljava/lang/StringBuilder;)V"⟩ : MethodName)) rfl hown (mvT hZ (hw _ (List.mem_of_getElem? (i := 136) rfl))) (mvT hZ (hw _ (List.mem_of_getElem? (i := 137) rfl))) (mvT hZ (hw _ (List.mem_of_getElem? (i := 139) rfl))) (by decide) (backOf (W := 1) (own_strSB l Z a0 hw [] b1 ob da kd vd cap k0 zc _ _ h1 n0 (by omega) Old4 SCS hzc A1 F1_value F1_coder (by omega) Fv5_1 Fv6_1 Fv7_1 Fv8_1 Fv9_1 hcap hvd hk hk64) hZ (hw _ (List.mem_of_getElem? (i := 139) rfl)) (hw _ (List.mem_of_getElem? (i := 22) rfl)) (by decide) (by decide)) (g := (mkF m 5 #[.val (.ref ob)] [(.ref ob), (.ref b1), (.ref b1)])) rfl (by rw [hml]; rfl) (Steps.refl _) (a := b1) (argsL := [(.ref ob)]) (rest := [(.ref b1)]) (lenOf own_pd_x28Ljavax2flangx2fStringBuilderx3bx29V rfl) rfl (by show 2 * 0 + _ ≤ _; exact Nat.le_of_eq rfl) (hb hby own_d23_5) (fun _ _ => ⟨rfl, e1, (by decide : 1 + 1 ≤ _), (by decide : 4 + 64 ≤ _)⟩)
  dsimp only [Pt.U, Pt.locs, Pt.cells, Pt.slots] at X3 l3 y3 z3 st3 hQ3
  subst l3 y3 z3
  obtain ⟨rfl, N3q, K3, t3, kt3, Fx3, Fy3, Vt3, ge3⟩ := hQ3
  have N3 := Fr.app N0 N3q
  have sz10 : h1.size ≤ T3.heap.size := K3.1
  have lt_t3 := own_lt Vt3.lt
  refine OwnFin.adv (B := T3.setTop (mkF m 8 #[.val (.ref ob)] [(.ref b1)])) (fun _ k => st3.trans k) ?_
  obtain ⟨fs, hr, hrun, hended, hW, hsame⟩ := X3.leave (v := some (.ref b1)) (fun h => by rw [Bd.returns] at h; cases h)
  refine OwnFin.leaf hP' ⟨_, _, own_retR X3 hx Bd.returns rfl rfl rfl (hb hby own_d23_8) hr, hrun, hended, _, _, rfl, ?_, ⟨_, rfl⟩, hW, hsame.mono (by decide) (by decide)⟩
  have Fv11_2 : Exa Z T3.heap b1 "java/lang/String" := (A1.keep K3)
  rw [show (T3.setFrames fs).heap = T3.heap from rfl]
  refine ⟨b1, rfl, N3, (((Keep.refl h0 []).ext E1).trans K3 (allS (Or.inr (by omega)) all0)), by omega, t3, kt3, Fv11_2, Fx3, Fy3, ?_, own_lt (a := b1) (b := T3.heap.size) (by omega), own_lt (a := t3) (b := T3.heap.size) (by omega), hp, by omega⟩
  have q := Vt3
  rw [hct] at q
  rw [hlen]
  exact q
theorem own_gt0 {a b : Nat} (hb : b ≤ 100000) (h : (0 : Int32) < Int32.ofNat a - Int32.ofNat b) : b < a := by
  apply Classical.byContradiction; intro q; exact own_le0 hb (by omega) h
theorem own_le0' {a b : Nat} (ha : a ≤ 100000) (hb : b ≤ 100000) (h : ¬ (0 : Int32) < Int32.ofNat a - Int32.ofNat b) : a ≤ b := by
  apply Classical.byContradiction; intro q; apply h
  rw [own_sub (by omega)]
  exact (own_ltn (a := 0) (by omega) (by omega)).mpr (by omega)
theorem own_nmax {k : Nat} (h : k ≤ 100000) : ¬ Int32.ofNat k = (2147483647 : Int32) := fun q => by
  have e := congrArg Int32.toInt q
  rw [own_toInt h, show (2147483647 : Int32).toInt = 2147483647 from by decide] at e; omega
theorem own_nbig {k : Nat} (h : k ≤ 100000) : ¬ (2147483639 : Int32) < Int32.ofNat k := fun q => by
  rw [Int32.lt_iff_toInt_lt, own_toInt h, show (2147483639 : Int32).toInt = 2147483639 from by decide] at q; omega
theorem own_pos {k : Nat} (h : k ≤ 100000) (h1 : 0 < k) : (0 : Int32) < Int32.ofNat k := (own_ltn (a := 0) (by omega) h).mpr h1
theorem own_grown {vd : List Value} {cap nc : Nat} (hv : vd.length = cap) (h : cap < nc) : (vd ++ List.replicate (nc - cap) (Value.int (0 : Int32))).length = nc ∧ (vd ++ List.replicate (nc - cap) (Value.int (0 : Int32))).take cap = vd := by
  constructor
  · simp; omega
  · rw [← hv]; exact List.take_left' rfl
theorem own_takes {vd vd' : List Value} {cap k0 : Nat} (ht : vd'.take cap = vd) (hk : k0 ≤ cap) : vd'.take k0 = vd.take k0 := by
  rw [← ht, List.take_take, Nat.min_eq_left hk]
theorem own_put3 {vd : List Value} {us : List Value} {k0 cap : Nat} (hv : vd.length = cap) (hf : k0 + us.length ≤ cap) : (vd.take k0 ++ us ++ vd.drop (k0 + us.length)).length = cap ∧ (vd.take k0 ++ us ++ vd.drop (k0 + us.length)).take (k0 + us.length) = vd.take k0 ++ us := by
  constructor
  · simp; omega
  · apply List.take_left'; simp; omega

theorem own_d12_0 : decode jdk_29_method_65_code 0 = .ok (.iload_n 0, 1) := by decide +kernel
theorem own_d12_1 : decode jdk_29_method_65_code 1 = .ok (.iload_n 1, 1) := by decide +kernel
theorem own_d12_2 : decode jdk_29_method_65_code 2 = .ok (.if_icmp .lt 7, 3) := by decide +kernel
theorem own_d12_9 : decode jdk_29_method_65_code 9 = .ok (.iload_n 1, 1) := by decide +kernel
theorem own_d12_10 : decode jdk_29_method_65_code 10 = .ok (.ireturn, 1) := by decide +kernel
theorem own_ef_max (m : MethodId) (x0 : Int32) (x1 : Int32) : entryFrame m #[(.int x0), (.int x1)] 2 = mkF m 0 #[.val (.int x0), .val (.int x1)] [] := by first | (simp [entryFrame, mkF, argsToLocals, Value.category]; done) | rfl
def own_Q_max (Z : State) (mx my : Int32) (h0 : Heap) (n0 : Nat) (v : Option Value) (h : Heap) (L : List Loc) : Prop := v = some (.int my) ∧ Fr n0 L ∧ h = h0
set_option maxRecDepth 65536 in
set_option maxHeartbeats 40000000 in
theorem own_max (l : Launch) (Z : State) (a0 : Array Value) (hw : ∀ d ∈ tables_1, d.before a0 Z = true) (ws : List Jvm.Cond) (mx my : Int32) (h0 : Heap) (n0 : Nat) (Z0 : n0 ≤ h0.size) (hlt : mx < my) :
    MetFree l (⟨"java/lang/Math", "max", "(II)I"⟩ : MethodName) (head1 (Jvm.Cond.code (⟨"java/lang/Math", "max", "(II)I"⟩ : MethodName) jdk_29_method_65_code 2 (some .int) :: ws) ({ frames := 0, cells := 0, slots := 0, locals := 0 } : Room)) (fun A0 U0 => A0 = #[(.int mx), (.int my)] ∧ Z.Warmed39 U0.vm ∧ U0.heap = h0) (fun _ _ _ _ _ => True) (fun _ U0 o0 U1 => ∃ v0 L0, o0 = .returned v0 ∧ own_Q_max Z mx my h0 n0 v0 U1.heap L0 ∧ FrameEnd U0 o0 U1 L0 ({ frames := 0, cells := 0, slots := 0, locals := 0 } : Room).cells ({ frames := 0, cells := 0, slots := 0, locals := 0 } : Room).slots) := by
  refine MetFree.of_bodySF (Jvm.Free.JP.mathPlain rfl (by decide +kernel)) hisR ?_
  intro p e s m args below meth c s₁ Bd hml0 hP hK
  obtain ⟨rfl, hZ, hh⟩ := hP
  have hZs0 := hZ
  have hZs := hZ
  have hx := Bd.exec
  have hby := Bd.bytes
  have hby_ := hby
  have hml : c.maxLocals = 2 := hml0
  have hown : s.vm.findClass "java/lang/Math" = some m.cls := findClass_of_methodNamed Bd.named
  have hnm := (name_of_methodNamed Bd.named Bd.method).1
  have X0 : Stand p l e ({ frames := 0, cells := 0, slots := 0, locals := 0 } : Room) s m #[(.int mx), (.int my)] below meth c s₁ [] 0 0 := Stand.of_body Bd
  have e0 : s₁.heap = h0 := by rw [← hh, Bd.state]; rfl
  have N0 := Fr.nil n0
  refine OwnFin.entry (own_ef_max m mx my) (fun P' hP' => ?_)
  refine OwnFin.adv (B := s₁.setTop (mkF m 1 #[.val (.int mx), .val (.int my)] [(.int mx)])) (fun _ k => XS.iloadN X0.here hx rfl (hb hby own_d12_0) rfl k) ?_
  refine OwnFin.adv (B := s₁.setTop (mkF m 2 #[.val (.int mx), .val (.int my)] [(.int my), (.int mx)])) (fun _ k => XS.iloadN X0.here hx rfl (hb hby own_d12_1) rfl k) ?_
  have hc2_3 : mx < my := hlt
  refine OwnFin.adv (B := s₁.setTop (mkF m 9 #[.val (.int mx), .val (.int my)] [])) (fun _ k => XS.icmpYes X0.here hx rfl (pc0 := 2) (pc' := 9) rfl (hb hby own_d12_2) rfl (tlt hc2_3).1 (by decide) (by decide) k) ?_
  refine OwnFin.adv (B := s₁.setTop (mkF m 10 #[.val (.int mx), .val (.int my)] [(.int my)])) (fun _ k => XS.iloadN X0.here hx rfl (hb hby own_d12_9) rfl k) ?_
  obtain ⟨fs, hr, hrun, hended, hW, hsame⟩ := X0.leave (v := some (.int my)) (fun h => by rw [Bd.returns] at h; cases h)
  refine OwnFin.leaf hP' ⟨_, _, own_retI X0 hx Bd.returns (hb hby own_d12_10) hr, hrun, hended, _, _, rfl, ?_, ⟨_, rfl⟩, hW, hsame.mono (by decide) (by decide)⟩
  exact ⟨rfl, N0, e0⟩
theorem own_d14_5 : decode jdk_29_method_69_code 5 = .ok (.iload_n 0, 1) := by decide +kernel
theorem own_d14_6 : decode jdk_29_method_69_code 6 = .ok (.goto 4, 3) := by decide +kernel
theorem own_ef_minL (m : MethodId) (x0 : Int32) (x1 : Int32) : entryFrame m #[(.int x0), (.int x1)] 2 = mkF m 0 #[.val (.int x0), .val (.int x1)] [] := by first | (simp [entryFrame, mkF, argsToLocals, Value.category]; done) | rfl
def own_Q_minL (Z : State) (mx my : Int32) (h0 : Heap) (n0 : Nat) (v : Option Value) (h : Heap) (L : List Loc) : Prop := v = some (.int mx) ∧ Fr n0 L ∧ h = h0
set_option maxRecDepth 65536 in
set_option maxHeartbeats 40000000 in
theorem own_minL (l : Launch) (Z : State) (a0 : Array Value) (hw : ∀ d ∈ tables_1, d.before a0 Z = true) (ws : List Jvm.Cond) (mx my : Int32) (h0 : Heap) (n0 : Nat) (Z0 : n0 ≤ h0.size) (hlt : ¬ my < mx) :
    MetFree l (⟨"java/lang/Math", "min", "(II)I"⟩ : MethodName) (head1 (Jvm.Cond.code (⟨"java/lang/Math", "min", "(II)I"⟩ : MethodName) jdk_29_method_69_code 2 (some .int) :: ws) ({ frames := 0, cells := 0, slots := 0, locals := 0 } : Room)) (fun A0 U0 => A0 = #[(.int mx), (.int my)] ∧ Z.Warmed39 U0.vm ∧ U0.heap = h0) (fun _ _ _ _ _ => True) (fun _ U0 o0 U1 => ∃ v0 L0, o0 = .returned v0 ∧ own_Q_minL Z mx my h0 n0 v0 U1.heap L0 ∧ FrameEnd U0 o0 U1 L0 ({ frames := 0, cells := 0, slots := 0, locals := 0 } : Room).cells ({ frames := 0, cells := 0, slots := 0, locals := 0 } : Room).slots) := by
  refine MetFree.of_bodySF (Jvm.Free.JP.mathPlain rfl (by decide +kernel)) hisR ?_
  intro p e s m args below meth c s₁ Bd hml0 hP hK
  obtain ⟨rfl, hZ, hh⟩ := hP
  have hZs0 := hZ
  have hZs := hZ
  have hx := Bd.exec
  have hby := Bd.bytes
  have hby_ := hby
  have hml : c.maxLocals = 2 := hml0
  have hown : s.vm.findClass "java/lang/Math" = some m.cls := findClass_of_methodNamed Bd.named
  have hnm := (name_of_methodNamed Bd.named Bd.method).1
  have X0 : Stand p l e ({ frames := 0, cells := 0, slots := 0, locals := 0 } : Room) s m #[(.int mx), (.int my)] below meth c s₁ [] 0 0 := Stand.of_body Bd
  have e0 : s₁.heap = h0 := by rw [← hh, Bd.state]; rfl
  have N0 := Fr.nil n0
  refine OwnFin.entry (own_ef_minL m mx my) (fun P' hP' => ?_)
  refine OwnFin.adv (B := s₁.setTop (mkF m 1 #[.val (.int mx), .val (.int my)] [(.int mx)])) (fun _ k => XS.iloadN X0.here hx rfl (hb hby own_d14_0) rfl k) ?_
  refine OwnFin.adv (B := s₁.setTop (mkF m 2 #[.val (.int mx), .val (.int my)] [(.int my), (.int mx)])) (fun _ k => XS.iloadN X0.here hx rfl (hb hby own_d14_1) rfl k) ?_
  have hc2_3 : ¬ (my < mx) := hlt
  refine OwnFin.adv (B := s₁.setTop (mkF m 5 #[.val (.int mx), .val (.int my)] [])) (fun _ k => XS.icmpNo X0.here hx rfl (hb hby own_d14_2) rfl (flt hc2_3).2.2.1 k) ?_
  refine OwnFin.adv (B := s₁.setTop (mkF m 6 #[.val (.int mx), .val (.int my)] [(.int mx)])) (fun _ k => XS.iloadN X0.here hx rfl (hb hby own_d14_5) rfl k) ?_
  refine OwnFin.adv (B := s₁.setTop (mkF m 10 #[.val (.int mx), .val (.int my)] [(.int mx)])) (fun _ k => XS.goto X0.here hx rfl (pc0 := 6) (pc' := 10) rfl (hb hby own_d14_6) (by decide) (by decide) k) ?_
  obtain ⟨fs, hr, hrun, hended, hW, hsame⟩ := X0.leave (v := some (.int mx)) (fun h => by rw [Bd.returns] at h; cases h)
  refine OwnFin.leaf hP' ⟨_, _, own_retI X0 hx Bd.returns (hb hby own_d14_10) hr, hrun, hended, _, _, rfl, ?_, ⟨_, rfl⟩, hW, hsame.mono (by decide) (by decide)⟩
  exact ⟨rfl, N0, e0⟩
theorem own_d11_0 : decode jdk_48_method_27_code 0 = .ok (.iload_n 0, 1) := by decide +kernel
theorem own_d11_1 : decode jdk_48_method_27_code 1 = .ok (.iload_n 1, 1) := by decide +kernel
theorem own_d11_2 : decode jdk_48_method_27_code 2 = .ok (.iload_n 2, 1) := by decide +kernel
theorem own_d11_3 : decode jdk_48_method_27_code 3 = .ok (.invokestatic 194, 3) := by decide +kernel
theorem own_d11_6 : decode jdk_48_method_27_code 6 = .ok (.iadd, 1) := by decide +kernel
theorem own_d11_7 : decode jdk_48_method_27_code 7 = .ok (.istore_n 3, 1) := by decide +kernel
theorem own_d11_8 : decode jdk_48_method_27_code 8 = .ok (.iconst 0, 1) := by decide +kernel
theorem own_d11_9 : decode jdk_48_method_27_code 9 = .ok (.iload_n 3, 1) := by decide +kernel
theorem own_d11_10 : decode jdk_48_method_27_code 10 = .ok (.if_icmp .ge 11, 3) := by decide +kernel
theorem own_d11_13 : decode jdk_48_method_27_code 13 = .ok (.iload_n 3, 1) := by decide +kernel
theorem own_d11_14 : decode jdk_48_method_27_code 14 = .ok (.ldc 200, 2) := by decide +kernel
theorem own_d11_16 : decode jdk_48_method_27_code 16 = .ok (.if_icmp .gt 5, 3) := by decide +kernel
theorem own_d11_19 : decode jdk_48_method_27_code 19 = .ok (.iload_n 3, 1) := by decide +kernel
theorem own_d11_20 : decode jdk_48_method_27_code 20 = .ok (.ireturn, 1) := by decide +kernel
theorem own_ef_newLen (m : MethodId) (x0 : Int32) (x1 : Int32) (x2 : Int32) : entryFrame m #[(.int x0), (.int x1), (.int x2)] 4 = mkF m 0 #[.val (.int x0), .val (.int x1), .val (.int x2), .unset] [] := by first | (simp [entryFrame, mkF, argsToLocals, Value.category]; done) | rfl
theorem own_pn_jdk_internal_util_ArraysSupport : plainName "jdk/internal/util/ArraysSupport" = true := by first | (simp [plainName, overriddenIn]; done) | decide +kernel
def own_Q_newLen (Z : State) (cap gw pf : Nat) (h0 : Heap) (n0 : Nat) (v : Option Value) (h : Heap) (L : List Loc) : Prop := v = some (.int (Int32.ofNat (cap + pf))) ∧ Fr n0 L ∧ h = h0
set_option maxRecDepth 65536 in
set_option maxHeartbeats 40000000 in
theorem own_newLen (l : Launch) (Z : State) (a0 : Array Value) (hw : ∀ d ∈ tables_1, d.before a0 Z = true) (ws : List Jvm.Cond) (cap gw pf : Nat) (h0 : Heap) (n0 : Nat) (Z0 : n0 ≤ h0.size) (hgw : gw < pf) (hsm : cap + pf ≤ 4000) :
    MetFree l (⟨"jdk/internal/util/ArraysSupport", "newLength", "(III)I"⟩ : MethodName) (head1 (Jvm.Cond.code (⟨"jdk/internal/util/ArraysSupport", "newLength", "(III)I"⟩ : MethodName) jdk_48_method_27_code 4 (some .int) :: ws) ({ frames := 1, cells := 0, slots := 0, locals := 14 } : Room)) (fun A0 U0 => A0 = #[(.int (Int32.ofNat cap)), (.int (Int32.ofNat gw)), (.int (Int32.ofNat pf))] ∧ Z.Warmed39 U0.vm ∧ U0.heap = h0) (fun _ _ _ _ _ => True) (fun _ U0 o0 U1 => ∃ v0 L0, o0 = .returned v0 ∧ own_Q_newLen Z cap gw pf h0 n0 v0 U1.heap L0 ∧ FrameEnd U0 o0 U1 L0 ({ frames := 1, cells := 0, slots := 0, locals := 14 } : Room).cells ({ frames := 1, cells := 0, slots := 0, locals := 14 } : Room).slots) := by
  refine MetFree.of_bodySF (plainFor_of_name own_pn_jdk_internal_util_ArraysSupport) hisR ?_
  intro p e s m args below meth c s₁ Bd hml0 hP hK
  obtain ⟨rfl, hZ, hh⟩ := hP
  have hZs0 := hZ
  have hZs := hZ
  have hx := Bd.exec
  have hby := Bd.bytes
  have hby_ := hby
  have hml : c.maxLocals = 4 := hml0
  have hown : s.vm.findClass "jdk/internal/util/ArraysSupport" = some m.cls := findClass_of_methodNamed Bd.named
  have hnm := (name_of_methodNamed Bd.named Bd.method).1
  have X0 : Stand p l e ({ frames := 1, cells := 0, slots := 0, locals := 14 } : Room) s m #[(.int (Int32.ofNat cap)), (.int (Int32.ofNat gw)), (.int (Int32.ofNat pf))] below meth c s₁ [] 0 0 := Stand.of_body Bd
  have e0 : s₁.heap = h0 := by rw [← hh, Bd.state]; rfl
  have N0 := Fr.nil n0
  refine OwnFin.entry (own_ef_newLen m (Int32.ofNat cap) (Int32.ofNat gw) (Int32.ofNat pf)) (fun P' hP' => ?_)
  refine OwnFin.adv (B := s₁.setTop (mkF m 1 #[.val (.int (Int32.ofNat cap)), .val (.int (Int32.ofNat gw)), .val (.int (Int32.ofNat pf)), .unset] [(.int (Int32.ofNat cap))])) (fun _ k => XS.iloadN X0.here hx rfl (hb hby own_d11_0) rfl k) ?_
  refine OwnFin.adv (B := s₁.setTop (mkF m 2 #[.val (.int (Int32.ofNat cap)), .val (.int (Int32.ofNat gw)), .val (.int (Int32.ofNat pf)), .unset] [(.int (Int32.ofNat gw)), (.int (Int32.ofNat cap))])) (fun _ k => XS.iloadN X0.here hx rfl (hb hby own_d11_1) rfl k) ?_
  refine OwnFin.adv (B := s₁.setTop (mkF m 3 #[.val (.int (Int32.ofNat cap)), .val (.int (Int32.ofNat gw)), .val (.int (Int32.ofNat pf)), .unset] [(.int (Int32.ofNat pf)), (.int (Int32.ofNat gw)), (.int (Int32.ofNat cap))])) (fun _ k => XS.iloadN X0.here hx rfl (hb hby own_d11_2) rfl k) ?_
  obtain ⟨_, _, ⟨T1, L1, k1, n1⟩, -, X1, ⟨Lc1, hQ1, l1, y1, z1⟩, st1⟩ := Jvm.LawKit.callS X0 hx (y := (⟨"java/lang/Math", "max", "(II)I"⟩ : MethodName)) hown (mvT hZ (hw _ (List.mem_of_getElem? (i := 73) rfl))) (mvT hZ (hw _ (List.mem_of_getElem? (i := 74) rfl))) (mvT hZ (hw _ (List.mem_of_getElem? (i := 75) rfl))) (mvT hZ (hw _ (List.mem_of_getElem? (i := 76) rfl))) (by decide) (backOf (W := 1) (own_max l Z a0 hw [] (Int32.ofNat gw) (Int32.ofNat pf) h0 n0 (by omega) ((own_ltn (by omega) (by omega)).mpr (by omega))) hZ (hw _ (List.mem_of_getElem? (i := 76) rfl)) (hw _ (List.mem_of_getElem? (i := 75) rfl)) (by decide) (by decide)) (g := (mkF m 3 #[.val (.int (Int32.ofNat cap)), .val (.int (Int32.ofNat gw)), .val (.int (Int32.ofNat pf)), .unset] [(.int (Int32.ofNat pf)), (.int (Int32.ofNat gw)), (.int (Int32.ofNat cap))])) rfl (by rw [hml]; rfl) (argsL := [(.int (Int32.ofNat gw)), (.int (Int32.ofNat pf))]) (rest := [(.int (Int32.ofNat cap))]) (lenOf own_pd_x28IIx29I rfl) rfl (by show 2 * 0 + _ ≤ _; exact Nat.le_of_eq rfl) (hb hby own_d11_3) (fun _ _ => ⟨rfl, e0, (by decide : 0 + 0 ≤ _), (by decide : 0 + 0 ≤ _)⟩)
  dsimp only [Pt.U, Pt.locs, Pt.cells, Pt.slots] at X1 l1 y1 z1 st1 hQ1
  subst l1 y1 z1
  obtain ⟨rfl, N1q, eh1⟩ := hQ1
  have N1 := Fr.app N0 N1q
  refine OwnFin.adv (B := T1.setTop (mkF m 6 #[.val (.int (Int32.ofNat cap)), .val (.int (Int32.ofNat gw)), .val (.int (Int32.ofNat pf)), .unset] [(.int (Int32.ofNat pf)), (.int (Int32.ofNat cap))])) (fun _ k => st1 _ k) ?_
  refine OwnFin.adv (B := T1.setTop (mkF m 7 #[.val (.int (Int32.ofNat cap)), .val (.int (Int32.ofNat gw)), .val (.int (Int32.ofNat pf)), .unset] [(.int ((Int32.ofNat cap) + (Int32.ofNat pf)))])) (fun _ k => XS.iadd X1.here hx rfl (hb hby own_d11_6) rfl k) ?_
  rw [show (((Int32.ofNat cap) + (Int32.ofNat pf)) : Int32) = (Int32.ofNat (cap + pf)) from own_add _ _]
  refine OwnFin.adv (B := T1.setTop (mkF m 8 #[.val (.int (Int32.ofNat cap)), .val (.int (Int32.ofNat gw)), .val (.int (Int32.ofNat pf)), .val (.int (Int32.ofNat (cap + pf)))] [])) (fun _ k => XS.istoreN X1.here hx rfl (hb hby own_d11_7) rfl (l' := #[.val (.int (Int32.ofNat cap)), .val (.int (Int32.ofNat gw)), .val (.int (Int32.ofNat pf)), .val (.int (Int32.ofNat (cap + pf)))]) rfl k) ?_
  refine OwnFin.adv (B := T1.setTop (mkF m 9 #[.val (.int (Int32.ofNat cap)), .val (.int (Int32.ofNat gw)), .val (.int (Int32.ofNat pf)), .val (.int (Int32.ofNat (cap + pf)))] [(.int (0 : Int32))])) (fun _ k => XS.iconst X1.here hx rfl (hb hby own_d11_8) k) ?_
  refine OwnFin.adv (B := T1.setTop (mkF m 10 #[.val (.int (Int32.ofNat cap)), .val (.int (Int32.ofNat gw)), .val (.int (Int32.ofNat pf)), .val (.int (Int32.ofNat (cap + pf)))] [(.int (Int32.ofNat (cap + pf))), (.int (0 : Int32))])) (fun _ k => XS.iloadN X1.here hx rfl (hb hby own_d11_9) rfl k) ?_
  have hc10_9 : (0 : Int32) < (Int32.ofNat (cap + pf)) := own_pos (by omega) (by omega)
  refine OwnFin.adv (B := T1.setTop (mkF m 13 #[.val (.int (Int32.ofNat cap)), .val (.int (Int32.ofNat gw)), .val (.int (Int32.ofNat pf)), .val (.int (Int32.ofNat (cap + pf)))] [])) (fun _ k => XS.icmpNo X1.here hx rfl (hb hby own_d11_10) rfl (tlt hc10_9).2.1 k) ?_
  refine OwnFin.adv (B := T1.setTop (mkF m 14 #[.val (.int (Int32.ofNat cap)), .val (.int (Int32.ofNat gw)), .val (.int (Int32.ofNat pf)), .val (.int (Int32.ofNat (cap + pf)))] [(.int (Int32.ofNat (cap + pf)))])) (fun _ k => XS.iloadN X1.here hx rfl (hb hby own_d11_13) rfl k) ?_
  refine OwnFin.adv (B := T1.setTop (mkF m 16 #[.val (.int (Int32.ofNat cap)), .val (.int (Int32.ofNat gw)), .val (.int (Int32.ofNat pf)), .val (.int (Int32.ofNat (cap + pf)))] [(.int (2147483639 : Int32)), (.int (Int32.ofNat (cap + pf)))])) (fun _ k => X1.ldcInt hx hown (mvT hZ (hw _ (List.mem_of_getElem? (i := 77) rfl))) (g := (mkF m 14 #[.val (.int (Int32.ofNat cap)), .val (.int (Int32.ofNat gw)), .val (.int (Int32.ofNat pf)), .val (.int (Int32.ofNat (cap + pf)))] [(.int (Int32.ofNat (cap + pf)))])) rfl (hb hby own_d11_14) _ k) ?_
  have hc16_12 : ¬ ((2147483639 : Int32) < (Int32.ofNat (cap + pf))) := own_nbig (by omega)
  refine OwnFin.adv (B := T1.setTop (mkF m 19 #[.val (.int (Int32.ofNat cap)), .val (.int (Int32.ofNat gw)), .val (.int (Int32.ofNat pf)), .val (.int (Int32.ofNat (cap + pf)))] [])) (fun _ k => XS.icmpNo X1.here hx rfl (hb hby own_d11_16) rfl (flt hc16_12).2.2.1 k) ?_
  refine OwnFin.adv (B := T1.setTop (mkF m 20 #[.val (.int (Int32.ofNat cap)), .val (.int (Int32.ofNat gw)), .val (.int (Int32.ofNat pf)), .val (.int (Int32.ofNat (cap + pf)))] [(.int (Int32.ofNat (cap + pf)))])) (fun _ k => XS.iloadN X1.here hx rfl (hb hby own_d11_19) rfl k) ?_
  obtain ⟨fs, hr, hrun, hended, hW, hsame⟩ := X1.leave (v := some (.int (Int32.ofNat (cap + pf)))) (fun h => by rw [Bd.returns] at h; cases h)
  refine OwnFin.leaf hP' ⟨_, _, own_retI X1 hx Bd.returns (hb hby own_d11_20) hr, hrun, hended, _, _, rfl, ?_, ⟨_, rfl⟩, hW, hsame.mono (by decide) (by decide)⟩
  exact ⟨rfl, N1, eh1⟩
theorem own_d10_0 : decode jdk_68_method_10_code 0 = .ok (.aload_n 0, 1) := by decide +kernel
theorem own_d10_1 : decode jdk_68_method_10_code 1 = .ok (.getfield 15, 3) := by decide +kernel
theorem own_d10_4 : decode jdk_68_method_10_code 4 = .ok (.arraylength, 1) := by decide +kernel
theorem own_d10_5 : decode jdk_68_method_10_code 5 = .ok (.istore_n 2, 1) := by decide +kernel
theorem own_d10_6 : decode jdk_68_method_10_code 6 = .ok (.iload_n 1, 1) := by decide +kernel
theorem own_d10_7 : decode jdk_68_method_10_code 7 = .ok (.aload_n 0, 1) := by decide +kernel
theorem own_d10_8 : decode jdk_68_method_10_code 8 = .ok (.getfield 22, 3) := by decide +kernel
theorem own_d10_11 : decode jdk_68_method_10_code 11 = .ok (.ishl, 1) := by decide +kernel
theorem own_d10_12 : decode jdk_68_method_10_code 12 = .ok (.istore_n 3, 1) := by decide +kernel
theorem own_d10_13 : decode jdk_68_method_10_code 13 = .ok (.iload_n 3, 1) := by decide +kernel
theorem own_d10_14 : decode jdk_68_method_10_code 14 = .ok (.iload_n 2, 1) := by decide +kernel
theorem own_d10_15 : decode jdk_68_method_10_code 15 = .ok (.isub, 1) := by decide +kernel
theorem own_d10_16 : decode jdk_68_method_10_code 16 = .ok (.istore 4, 2) := by decide +kernel
theorem own_d10_18 : decode jdk_68_method_10_code 18 = .ok (.iload_n 2, 1) := by decide +kernel
theorem own_d10_19 : decode jdk_68_method_10_code 19 = .ok (.iload 4, 2) := by decide +kernel
theorem own_d10_21 : decode jdk_68_method_10_code 21 = .ok (.iload_n 2, 1) := by decide +kernel
theorem own_d10_22 : decode jdk_68_method_10_code 22 = .ok (.iconst 2, 1) := by decide +kernel
theorem own_d10_23 : decode jdk_68_method_10_code 23 = .ok (.aload_n 0, 1) := by decide +kernel
theorem own_d10_24 : decode jdk_68_method_10_code 24 = .ok (.getfield 22, 3) := by decide +kernel
theorem own_d10_27 : decode jdk_68_method_10_code 27 = .ok (.ishl, 1) := by decide +kernel
theorem own_d10_28 : decode jdk_68_method_10_code 28 = .ok (.iadd, 1) := by decide +kernel
theorem own_pd_x28IIIx29I : parseMethodDescriptor "(III)I" = some ⟨[.int, .int, .int], some .int⟩ := by decide +kernel
theorem own_d10_29 : decode jdk_68_method_10_code 29 = .ok (.invokestatic 114, 3) := by decide +kernel
theorem own_d10_32 : decode jdk_68_method_10_code 32 = .ok (.istore 5, 2) := by decide +kernel
theorem own_d10_34 : decode jdk_68_method_10_code 34 = .ok (.iload 5, 2) := by decide +kernel
theorem own_d10_36 : decode jdk_68_method_10_code 36 = .ok (.ldc 39, 2) := by decide +kernel
theorem own_d10_38 : decode jdk_68_method_10_code 38 = .ok (.if_icmp .ne 13, 3) := by decide +kernel
theorem own_d10_51 : decode jdk_68_method_10_code 51 = .ok (.iload 5, 2) := by decide +kernel
theorem own_d10_53 : decode jdk_68_method_10_code 53 = .ok (.aload_n 0, 1) := by decide +kernel
theorem own_d10_54 : decode jdk_68_method_10_code 54 = .ok (.getfield 22, 3) := by decide +kernel
theorem own_d10_57 : decode jdk_68_method_10_code 57 = .ok (.ishr, 1) := by decide +kernel
theorem own_d10_58 : decode jdk_68_method_10_code 58 = .ok (.ireturn, 1) := by decide +kernel
theorem own_ef_newCap (m : MethodId) (x0 : Addr) (x1 : Int32) : entryFrame m #[(.ref x0), (.int x1)] 6 = mkF m 0 #[.val (.ref x0), .val (.int x1), .unset, .unset, .unset, .unset] [] := by first | (simp [entryFrame, mkF, argsToLocals, Value.category]; done) | rfl
def own_Q_newCap (Z : State) (ob da : Addr) (kd : ClassId) (vd : List Value) (mn cap : Nat) (h0 : Heap) (n0 : Nat) (v : Option Value) (h : Heap) (L : List Loc) : Prop := v = some (.int (Int32.ofNat (cap + (cap + 2)))) ∧ Fr n0 L ∧ h = h0
set_option maxRecDepth 65536 in
set_option maxHeartbeats 40000000 in
theorem own_newCap (l : Launch) (Z : State) (a0 : Array Value) (hw : ∀ d ∈ tables_1, d.before a0 Z = true) (ws : List Jvm.Cond) (ob da : Addr) (kd : ClassId) (vd : List Value) (mn cap : Nat) (h0 : Heap) (n0 : Nat) (Z0 : n0 ≤ h0.size) (Fv : Fld Z h0 ob "java/lang/AbstractStringBuilder" "value" "[B" (.ref da)) (Fc : Fld Z h0 ob "java/lang/AbstractStringBuilder" "coder" "B" (.int (0 : Int32))) (Va : Arv Z h0 da kd .byte (Int32.ofNat cap) vd (.int (0 : Int32))) (hcap : cap ≤ 35) (hvd : vd.length = cap) (hmn : cap < mn) (hmx : mn < 2 * cap + 2) :
    MetFree l (⟨"java/lang/AbstractStringBuilder", "newCapacity", "(I)I"⟩ : MethodName) (head1 (Jvm.Cond.code (⟨"java/lang/AbstractStringBuilder", "newCapacity", "(I)I"⟩ : MethodName) jdk_68_method_10_code 6 (some .int) :: ws) ({ frames := 2, cells := 0, slots := 0, locals := 29 } : Room)) (fun A0 U0 => A0 = #[(.ref ob), (.int (Int32.ofNat mn))] ∧ Z.Warmed39 U0.vm ∧ U0.heap = h0) (fun _ _ _ _ _ => True) (fun _ U0 o0 U1 => ∃ v0 L0, o0 = .returned v0 ∧ own_Q_newCap Z ob da kd vd mn cap h0 n0 v0 U1.heap L0 ∧ FrameEnd U0 o0 U1 L0 ({ frames := 2, cells := 0, slots := 0, locals := 29 } : Room).cells ({ frames := 2, cells := 0, slots := 0, locals := 29 } : Room).slots) := by
  refine MetFree.of_bodySF (plainFor_of_name own_pn_java_lang_AbstractStringBuilder) hisR ?_
  intro p e s m args below meth c s₁ Bd hml0 hP hK
  obtain ⟨rfl, hZ, hh⟩ := hP
  have hZs0 := hZ
  have hZs := hZ
  have hx := Bd.exec
  have hby := Bd.bytes
  have hby_ := hby
  have hml : c.maxLocals = 6 := hml0
  have hown : s.vm.findClass "java/lang/AbstractStringBuilder" = some m.cls := findClass_of_methodNamed Bd.named
  have hnm := (name_of_methodNamed Bd.named Bd.method).1
  have X0 : Stand p l e ({ frames := 2, cells := 0, slots := 0, locals := 29 } : Room) s m #[(.ref ob), (.int (Int32.ofNat mn))] below meth c s₁ [] 0 0 := Stand.of_body Bd
  have e0 : s₁.heap = h0 := by rw [← hh, Bd.state]; rfl
  have N0 := Fr.nil n0
  refine OwnFin.entry (own_ef_newCap m ob (Int32.ofNat mn)) (fun P' hP' => ?_)
  have lt_da := own_lt Va.lt
  refine OwnFin.adv (B := s₁.setTop (mkF m 1 #[.val (.ref ob), .val (.int (Int32.ofNat mn)), .unset, .unset, .unset, .unset] [(.ref ob)])) (fun _ k => XS.aloadN X0.here hx rfl (hb hby own_d10_0) rfl rfl k) ?_
  obtain ⟨T1, X1, e1, st1⟩ := getF X0 hx hZ hown (host := "") (Or.inl (hw _ (List.mem_of_getElem? (i := 24) rfl))) Via.refl e0 Fv (g := (mkF m 1 #[.val (.ref ob), .val (.int (Int32.ofNat mn)), .unset, .unset, .unset, .unset] [(.ref ob)])) rfl rfl (hb hby own_d10_1)
  refine OwnFin.adv (B := T1.setTop (mkF m 4 #[.val (.ref ob), .val (.int (Int32.ofNat mn)), .unset, .unset, .unset, .unset] [(.ref da)])) (fun _ k => st1 _ k) ?_
  obtain ⟨cl2, Ar2, ck2, S2, M2, H2, G2⟩ := id Va
  refine OwnFin.adv (B := T1.setTop (mkF m 5 #[.val (.ref ob), .val (.int (Int32.ofNat mn)), .unset, .unset, .unset, .unset] [(.int (Int32.ofNat cap))])) (fun _ k => X1.arraylength hx (by rw [e1]; exact Ar2.1) (State.isArrayOf_alike hZ.alike Ar2.2.1) (g := (mkF m 4 #[.val (.ref ob), .val (.int (Int32.ofNat mn)), .unset, .unset, .unset, .unset] [(.ref da)])) rfl rfl (hb hby own_d10_4) _ (by rw [len_of S2 M2]; exact k)) ?_
  refine OwnFin.adv (B := T1.setTop (mkF m 6 #[.val (.ref ob), .val (.int (Int32.ofNat mn)), .val (.int (Int32.ofNat cap)), .unset, .unset, .unset] [])) (fun _ k => XS.istoreN X1.here hx rfl (hb hby own_d10_5) rfl (l' := #[.val (.ref ob), .val (.int (Int32.ofNat mn)), .val (.int (Int32.ofNat cap)), .unset, .unset, .unset]) rfl k) ?_
  refine OwnFin.adv (B := T1.setTop (mkF m 7 #[.val (.ref ob), .val (.int (Int32.ofNat mn)), .val (.int (Int32.ofNat cap)), .unset, .unset, .unset] [(.int (Int32.ofNat mn))])) (fun _ k => XS.iloadN X1.here hx rfl (hb hby own_d10_6) rfl k) ?_
  refine OwnFin.adv (B := T1.setTop (mkF m 8 #[.val (.ref ob), .val (.int (Int32.ofNat mn)), .val (.int (Int32.ofNat cap)), .unset, .unset, .unset] [(.ref ob), (.int (Int32.ofNat mn))])) (fun _ k => XS.aloadN X1.here hx rfl (hb hby own_d10_7) rfl rfl k) ?_
  obtain ⟨T3, X3, e3, st3⟩ := getF X1 hx hZ hown (host := "") (Or.inl (hw _ (List.mem_of_getElem? (i := 26) rfl))) Via.refl e1 Fc (g := (mkF m 8 #[.val (.ref ob), .val (.int (Int32.ofNat mn)), .val (.int (Int32.ofNat cap)), .unset, .unset, .unset] [(.ref ob), (.int (Int32.ofNat mn))])) rfl rfl (hb hby own_d10_8)
  refine OwnFin.adv (B := T3.setTop (mkF m 11 #[.val (.ref ob), .val (.int (Int32.ofNat mn)), .val (.int (Int32.ofNat cap)), .unset, .unset, .unset] [(.int (0 : Int32)), (.int (Int32.ofNat mn))])) (fun _ k => st3 _ k) ?_
  refine OwnFin.adv (B := T3.setTop (mkF m 12 #[.val (.ref ob), .val (.int (Int32.ofNat mn)), .val (.int (Int32.ofNat cap)), .unset, .unset, .unset] [(.int ((Int32.ofNat mn) <<< ((0 : Int32) &&& 31)))])) (fun _ k => XS.ishl X3.here hx rfl (hb hby own_d10_11) rfl k) ?_
  rw [show (((Int32.ofNat mn) <<< ((0 : Int32) &&& 31)) : Int32) = (Int32.ofNat mn) from own_shl0 _]
  refine OwnFin.adv (B := T3.setTop (mkF m 13 #[.val (.ref ob), .val (.int (Int32.ofNat mn)), .val (.int (Int32.ofNat cap)), .val (.int (Int32.ofNat mn)), .unset, .unset] [])) (fun _ k => XS.istoreN X3.here hx rfl (hb hby own_d10_12) rfl (l' := #[.val (.ref ob), .val (.int (Int32.ofNat mn)), .val (.int (Int32.ofNat cap)), .val (.int (Int32.ofNat mn)), .unset, .unset]) rfl k) ?_
  refine OwnFin.adv (B := T3.setTop (mkF m 14 #[.val (.ref ob), .val (.int (Int32.ofNat mn)), .val (.int (Int32.ofNat cap)), .val (.int (Int32.ofNat mn)), .unset, .unset] [(.int (Int32.ofNat mn))])) (fun _ k => XS.iloadN X3.here hx rfl (hb hby own_d10_13) rfl k) ?_
  refine OwnFin.adv (B := T3.setTop (mkF m 15 #[.val (.ref ob), .val (.int (Int32.ofNat mn)), .val (.int (Int32.ofNat cap)), .val (.int (Int32.ofNat mn)), .unset, .unset] [(.int (Int32.ofNat cap)), (.int (Int32.ofNat mn))])) (fun _ k => XS.iloadN X3.here hx rfl (hb hby own_d10_14) rfl k) ?_
  refine OwnFin.adv (B := T3.setTop (mkF m 16 #[.val (.ref ob), .val (.int (Int32.ofNat mn)), .val (.int (Int32.ofNat cap)), .val (.int (Int32.ofNat mn)), .unset, .unset] [(.int ((Int32.ofNat mn) - (Int32.ofNat cap)))])) (fun _ k => XS.isub X3.here hx rfl (hb hby own_d10_15) rfl k) ?_
  rw [show (((Int32.ofNat mn) - (Int32.ofNat cap)) : Int32) = (Int32.ofNat (mn - cap)) from own_sub (by omega)]
  refine OwnFin.adv (B := T3.setTop (mkF m 18 #[.val (.ref ob), .val (.int (Int32.ofNat mn)), .val (.int (Int32.ofNat cap)), .val (.int (Int32.ofNat mn)), .val (.int (Int32.ofNat (mn - cap))), .unset] [])) (fun _ k => XS.istore X3.here hx rfl (hb hby own_d10_16) rfl (l' := #[.val (.ref ob), .val (.int (Int32.ofNat mn)), .val (.int (Int32.ofNat cap)), .val (.int (Int32.ofNat mn)), .val (.int (Int32.ofNat (mn - cap))), .unset]) rfl k) ?_
  refine OwnFin.adv (B := T3.setTop (mkF m 19 #[.val (.ref ob), .val (.int (Int32.ofNat mn)), .val (.int (Int32.ofNat cap)), .val (.int (Int32.ofNat mn)), .val (.int (Int32.ofNat (mn - cap))), .unset] [(.int (Int32.ofNat cap))])) (fun _ k => XS.iloadN X3.here hx rfl (hb hby own_d10_18) rfl k) ?_
  refine OwnFin.adv (B := T3.setTop (mkF m 21 #[.val (.ref ob), .val (.int (Int32.ofNat mn)), .val (.int (Int32.ofNat cap)), .val (.int (Int32.ofNat mn)), .val (.int (Int32.ofNat (mn - cap))), .unset] [(.int (Int32.ofNat (mn - cap))), (.int (Int32.ofNat cap))])) (fun _ k => XS.iload X3.here hx rfl (hb hby own_d10_19) rfl k) ?_
  refine OwnFin.adv (B := T3.setTop (mkF m 22 #[.val (.ref ob), .val (.int (Int32.ofNat mn)), .val (.int (Int32.ofNat cap)), .val (.int (Int32.ofNat mn)), .val (.int (Int32.ofNat (mn - cap))), .unset] [(.int (Int32.ofNat cap)), (.int (Int32.ofNat (mn - cap))), (.int (Int32.ofNat cap))])) (fun _ k => XS.iloadN X3.here hx rfl (hb hby own_d10_21) rfl k) ?_
  refine OwnFin.adv (B := T3.setTop (mkF m 23 #[.val (.ref ob), .val (.int (Int32.ofNat mn)), .val (.int (Int32.ofNat cap)), .val (.int (Int32.ofNat mn)), .val (.int (Int32.ofNat (mn - cap))), .unset] [(.int (2 : Int32)), (.int (Int32.ofNat cap)), (.int (Int32.ofNat (mn - cap))), (.int (Int32.ofNat cap))])) (fun _ k => XS.iconst X3.here hx rfl (hb hby own_d10_22) k) ?_
  refine OwnFin.adv (B := T3.setTop (mkF m 24 #[.val (.ref ob), .val (.int (Int32.ofNat mn)), .val (.int (Int32.ofNat cap)), .val (.int (Int32.ofNat mn)), .val (.int (Int32.ofNat (mn - cap))), .unset] [(.ref ob), (.int (2 : Int32)), (.int (Int32.ofNat cap)), (.int (Int32.ofNat (mn - cap))), (.int (Int32.ofNat cap))])) (fun _ k => XS.aloadN X3.here hx rfl (hb hby own_d10_23) rfl rfl k) ?_
  obtain ⟨T4, X4, e4, st4⟩ := getF X3 hx hZ hown (host := "") (Or.inl (hw _ (List.mem_of_getElem? (i := 26) rfl))) Via.refl e3 Fc (g := (mkF m 24 #[.val (.ref ob), .val (.int (Int32.ofNat mn)), .val (.int (Int32.ofNat cap)), .val (.int (Int32.ofNat mn)), .val (.int (Int32.ofNat (mn - cap))), .unset] [(.ref ob), (.int (2 : Int32)), (.int (Int32.ofNat cap)), (.int (Int32.ofNat (mn - cap))), (.int (Int32.ofNat cap))])) rfl rfl (hb hby own_d10_24)
  refine OwnFin.adv (B := T4.setTop (mkF m 27 #[.val (.ref ob), .val (.int (Int32.ofNat mn)), .val (.int (Int32.ofNat cap)), .val (.int (Int32.ofNat mn)), .val (.int (Int32.ofNat (mn - cap))), .unset] [(.int (0 : Int32)), (.int (2 : Int32)), (.int (Int32.ofNat cap)), (.int (Int32.ofNat (mn - cap))), (.int (Int32.ofNat cap))])) (fun _ k => st4 _ k) ?_
  refine OwnFin.adv (B := T4.setTop (mkF m 28 #[.val (.ref ob), .val (.int (Int32.ofNat mn)), .val (.int (Int32.ofNat cap)), .val (.int (Int32.ofNat mn)), .val (.int (Int32.ofNat (mn - cap))), .unset] [(.int ((2 : Int32) <<< ((0 : Int32) &&& 31))), (.int (Int32.ofNat cap)), (.int (Int32.ofNat (mn - cap))), (.int (Int32.ofNat cap))])) (fun _ k => XS.ishl X4.here hx rfl (hb hby own_d10_27) rfl k) ?_
  rw [show (((2 : Int32) <<< ((0 : Int32) &&& 31)) : Int32) = (2 : Int32) from own_shl0 _]
  refine OwnFin.adv (B := T4.setTop (mkF m 29 #[.val (.ref ob), .val (.int (Int32.ofNat mn)), .val (.int (Int32.ofNat cap)), .val (.int (Int32.ofNat mn)), .val (.int (Int32.ofNat (mn - cap))), .unset] [(.int ((Int32.ofNat cap) + (2 : Int32))), (.int (Int32.ofNat (mn - cap))), (.int (Int32.ofNat cap))])) (fun _ k => XS.iadd X4.here hx rfl (hb hby own_d10_28) rfl k) ?_
  rw [show (((Int32.ofNat cap) + (2 : Int32)) : Int32) = (Int32.ofNat (cap + 2)) from own_add cap 2]
  obtain ⟨_, _, ⟨T5, L5, k5, n5⟩, -, X5, ⟨Lc5, hQ5, l5, y5, z5⟩, st5⟩ := Jvm.LawKit.callS X4 hx (y := (⟨"jdk/internal/util/ArraysSupport", "newLength", "(III)I"⟩ : MethodName)) hown (mvT hZ (hw _ (List.mem_of_getElem? (i := 69) rfl))) (mvT hZ (hw _ (List.mem_of_getElem? (i := 70) rfl))) (mvT hZ (hw _ (List.mem_of_getElem? (i := 71) rfl))) (mvT hZ (hw _ (List.mem_of_getElem? (i := 72) rfl))) (by decide) (backOf (W := 0) (own_newLen l Z a0 hw [] cap (mn - cap) (cap + 2) h0 n0 (by omega) (by omega) (by omega)) hZ (hw _ (List.mem_of_getElem? (i := 72) rfl)) (hw _ (List.mem_of_getElem? (i := 71) rfl)) (by decide) (by decide)) (g := (mkF m 29 #[.val (.ref ob), .val (.int (Int32.ofNat mn)), .val (.int (Int32.ofNat cap)), .val (.int (Int32.ofNat mn)), .val (.int (Int32.ofNat (mn - cap))), .unset] [(.int (Int32.ofNat (cap + 2))), (.int (Int32.ofNat (mn - cap))), (.int (Int32.ofNat cap))])) rfl (by rw [hml]; rfl) (argsL := [(.int (Int32.ofNat cap)), (.int (Int32.ofNat (mn - cap))), (.int (Int32.ofNat (cap + 2)))]) (rest := []) (lenOf own_pd_x28IIIx29I rfl) rfl (by show 2 * 0 + _ ≤ _; exact Nat.le_of_eq rfl) (hb hby own_d10_29) (fun _ _ => ⟨rfl, e4, (by decide : 0 + 0 ≤ _), (by decide : 0 + 0 ≤ _)⟩)
  dsimp only [Pt.U, Pt.locs, Pt.cells, Pt.slots] at X5 l5 y5 z5 st5 hQ5
  subst l5 y5 z5
  obtain ⟨rfl, N5q, eh5⟩ := hQ5
  have N5 := Fr.app N0 N5q
  refine OwnFin.adv (B := T5.setTop (mkF m 32 #[.val (.ref ob), .val (.int (Int32.ofNat mn)), .val (.int (Int32.ofNat cap)), .val (.int (Int32.ofNat mn)), .val (.int (Int32.ofNat (mn - cap))), .unset] [(.int (Int32.ofNat (cap + (cap + 2))))])) (fun _ k => st5 _ k) ?_
  refine OwnFin.adv (B := T5.setTop (mkF m 34 #[.val (.ref ob), .val (.int (Int32.ofNat mn)), .val (.int (Int32.ofNat cap)), .val (.int (Int32.ofNat mn)), .val (.int (Int32.ofNat (mn - cap))), .val (.int (Int32.ofNat (cap + (cap + 2))))] [])) (fun _ k => XS.istore X5.here hx rfl (hb hby own_d10_32) rfl (l' := #[.val (.ref ob), .val (.int (Int32.ofNat mn)), .val (.int (Int32.ofNat cap)), .val (.int (Int32.ofNat mn)), .val (.int (Int32.ofNat (mn - cap))), .val (.int (Int32.ofNat (cap + (cap + 2))))]) rfl k) ?_
  refine OwnFin.adv (B := T5.setTop (mkF m 36 #[.val (.ref ob), .val (.int (Int32.ofNat mn)), .val (.int (Int32.ofNat cap)), .val (.int (Int32.ofNat mn)), .val (.int (Int32.ofNat (mn - cap))), .val (.int (Int32.ofNat (cap + (cap + 2))))] [(.int (Int32.ofNat (cap + (cap + 2))))])) (fun _ k => XS.iload X5.here hx rfl (hb hby own_d10_34) rfl k) ?_
  refine OwnFin.adv (B := T5.setTop (mkF m 38 #[.val (.ref ob), .val (.int (Int32.ofNat mn)), .val (.int (Int32.ofNat cap)), .val (.int (Int32.ofNat mn)), .val (.int (Int32.ofNat (mn - cap))), .val (.int (Int32.ofNat (cap + (cap + 2))))] [(.int (2147483647 : Int32)), (.int (Int32.ofNat (cap + (cap + 2))))])) (fun _ k => X5.ldcInt hx hown (mvT hZ (hw _ (List.mem_of_getElem? (i := 78) rfl))) (g := (mkF m 36 #[.val (.ref ob), .val (.int (Int32.ofNat mn)), .val (.int (Int32.ofNat cap)), .val (.int (Int32.ofNat mn)), .val (.int (Int32.ofNat (mn - cap))), .val (.int (Int32.ofNat (cap + (cap + 2))))] [(.int (Int32.ofNat (cap + (cap + 2))))])) rfl (hb hby own_d10_36) _ k) ?_
  have hc38_26 : ¬ ((Int32.ofNat (cap + (cap + 2))) = (2147483647 : Int32)) := own_nmax (by omega)
  refine OwnFin.adv (B := T5.setTop (mkF m 51 #[.val (.ref ob), .val (.int (Int32.ofNat mn)), .val (.int (Int32.ofNat cap)), .val (.int (Int32.ofNat mn)), .val (.int (Int32.ofNat (mn - cap))), .val (.int (Int32.ofNat (cap + (cap + 2))))] [])) (fun _ k => XS.icmpYes X5.here hx rfl (pc0 := 38) (pc' := 51) rfl (hb hby own_d10_38) rfl (feq hc38_26).2 (by decide) (by decide) k) ?_
  refine OwnFin.adv (B := T5.setTop (mkF m 53 #[.val (.ref ob), .val (.int (Int32.ofNat mn)), .val (.int (Int32.ofNat cap)), .val (.int (Int32.ofNat mn)), .val (.int (Int32.ofNat (mn - cap))), .val (.int (Int32.ofNat (cap + (cap + 2))))] [(.int (Int32.ofNat (cap + (cap + 2))))])) (fun _ k => XS.iload X5.here hx rfl (hb hby own_d10_51) rfl k) ?_
  refine OwnFin.adv (B := T5.setTop (mkF m 54 #[.val (.ref ob), .val (.int (Int32.ofNat mn)), .val (.int (Int32.ofNat cap)), .val (.int (Int32.ofNat mn)), .val (.int (Int32.ofNat (mn - cap))), .val (.int (Int32.ofNat (cap + (cap + 2))))] [(.ref ob), (.int (Int32.ofNat (cap + (cap + 2))))])) (fun _ k => XS.aloadN X5.here hx rfl (hb hby own_d10_53) rfl rfl k) ?_
  obtain ⟨T6, X6, e6, st6⟩ := getF X5 hx hZ hown (host := "") (Or.inl (hw _ (List.mem_of_getElem? (i := 26) rfl))) Via.refl eh5 Fc (g := (mkF m 54 #[.val (.ref ob), .val (.int (Int32.ofNat mn)), .val (.int (Int32.ofNat cap)), .val (.int (Int32.ofNat mn)), .val (.int (Int32.ofNat (mn - cap))), .val (.int (Int32.ofNat (cap + (cap + 2))))] [(.ref ob), (.int (Int32.ofNat (cap + (cap + 2))))])) rfl rfl (hb hby own_d10_54)
  refine OwnFin.adv (B := T6.setTop (mkF m 57 #[.val (.ref ob), .val (.int (Int32.ofNat mn)), .val (.int (Int32.ofNat cap)), .val (.int (Int32.ofNat mn)), .val (.int (Int32.ofNat (mn - cap))), .val (.int (Int32.ofNat (cap + (cap + 2))))] [(.int (0 : Int32)), (.int (Int32.ofNat (cap + (cap + 2))))])) (fun _ k => st6 _ k) ?_
  refine OwnFin.adv (B := T6.setTop (mkF m 58 #[.val (.ref ob), .val (.int (Int32.ofNat mn)), .val (.int (Int32.ofNat cap)), .val (.int (Int32.ofNat mn)), .val (.int (Int32.ofNat (mn - cap))), .val (.int (Int32.ofNat (cap + (cap + 2))))] [(.int ((Int32.ofNat (cap + (cap + 2))) >>> ((0 : Int32) &&& 31)))])) (fun _ k => XS.ishr X6.here hx rfl (hb hby own_d10_57) rfl k) ?_
  rw [show (((Int32.ofNat (cap + (cap + 2))) >>> ((0 : Int32) &&& 31)) : Int32) = (Int32.ofNat (cap + (cap + 2))) from own_shr0 _]
  obtain ⟨fs, hr, hrun, hended, hW, hsame⟩ := X6.leave (v := some (.int (Int32.ofNat (cap + (cap + 2))))) (fun h => by rw [Bd.returns] at h; cases h)
  refine OwnFin.leaf hP' ⟨_, _, own_retI X6 hx Bd.returns (hb hby own_d10_58) hr, hrun, hended, _, _, rfl, ?_, ⟨_, rfl⟩, hW, hsame.mono (by decide) (by decide)⟩
  exact ⟨rfl, N5, e6⟩
theorem own_d13_0 : decode jdk_65_method_121_code 0 = .ok (.iload_n 1, 1) := by decide +kernel
theorem own_d13_1 : decode jdk_65_method_121_code 1 = .ok (.aload_n 0, 1) := by decide +kernel
theorem own_d13_2 : decode jdk_65_method_121_code 2 = .ok (.arraylength, 1) := by decide +kernel
theorem own_d13_3 : decode jdk_65_method_121_code 3 = .ok (.if_icmp .ne 11, 3) := by decide +kernel
theorem own_d13_14 : decode jdk_65_method_121_code 14 = .ok (.iload_n 1, 1) := by decide +kernel
theorem own_d13_15 : decode jdk_65_method_121_code 15 = .ok (.newarray .byte, 2) := by decide +kernel
theorem own_d13_17 : decode jdk_65_method_121_code 17 = .ok (.astore_n 2, 1) := by decide +kernel
theorem own_d13_18 : decode jdk_65_method_121_code 18 = .ok (.aload_n 0, 1) := by decide +kernel
theorem own_d13_19 : decode jdk_65_method_121_code 19 = .ok (.iconst 0, 1) := by decide +kernel
theorem own_d13_20 : decode jdk_65_method_121_code 20 = .ok (.aload_n 2, 1) := by decide +kernel
theorem own_d13_21 : decode jdk_65_method_121_code 21 = .ok (.iconst 0, 1) := by decide +kernel
theorem own_d13_22 : decode jdk_65_method_121_code 22 = .ok (.aload_n 0, 1) := by decide +kernel
theorem own_d13_23 : decode jdk_65_method_121_code 23 = .ok (.arraylength, 1) := by decide +kernel
theorem own_d13_24 : decode jdk_65_method_121_code 24 = .ok (.iload_n 1, 1) := by decide +kernel
theorem own_d13_25 : decode jdk_65_method_121_code 25 = .ok (.invokestatic 304, 3) := by decide +kernel
theorem own_d13_28 : decode jdk_65_method_121_code 28 = .ok (.invokestatic 150, 3) := by decide +kernel
theorem own_d13_31 : decode jdk_65_method_121_code 31 = .ok (.aload_n 2, 1) := by decide +kernel
theorem own_d13_32 : decode jdk_65_method_121_code 32 = .ok (.areturn, 1) := by decide +kernel
theorem own_ef_copyOf (m : MethodId) (x0 : Addr) (x1 : Int32) : entryFrame m #[(.ref x0), (.int x1)] 3 = mkF m 0 #[.val (.ref x0), .val (.int x1), .unset] [] := by first | (simp [entryFrame, mkF, argsToLocals, Value.category]; done) | rfl
def own_Q_copyOf (Z : State) (da : Addr) (kd : ClassId) (vd : List Value) (nc cap : Nat) (h0 : Heap) (n0 : Nat) (v : Option Value) (h : Heap) (L : List Loc) : Prop := ∃ (t : Addr) (kt : ClassId), v = some (.ref t) ∧ Fr n0 L ∧ Keep h0 h [] ∧ h0.size ≤ t ∧ Arv Z h t kt .byte (Int32.ofNat nc) (vd ++ List.replicate (nc - cap) (.int (0 : Int32))) (.int (0 : Int32))
set_option maxRecDepth 65536 in
set_option maxHeartbeats 40000000 in
theorem own_copyOf (l : Launch) (Z : State) (a0 : Array Value) (hw : ∀ d ∈ tables_1, d.before a0 Z = true) (ws : List Jvm.Cond) (da : Addr) (kd : ClassId) (vd : List Value) (nc cap : Nat) (h0 : Heap) (n0 : Nat) (Z0 : n0 ≤ h0.size) (Va : Arv Z h0 da kd .byte (Int32.ofNat cap) vd (.int (0 : Int32))) (hcap : cap ≤ 35) (hvd : vd.length = cap) (hnc : cap < nc) (hnx : nc ≤ 72) :
    MetFree l (⟨"java/util/Arrays", "copyOf", "([BI)[B"⟩ : MethodName) (head1 (Jvm.Cond.code (⟨"java/util/Arrays", "copyOf", "([BI)[B"⟩ : MethodName) jdk_65_method_121_code 3 (some (.array .byte)) :: ws) ({ frames := 2, cells := 1, slots := 72, locals := 18 } : Room)) (fun A0 U0 => A0 = #[(.ref da), (.int (Int32.ofNat nc))] ∧ Z.Warmed39 U0.vm ∧ U0.heap = h0) (fun _ _ _ _ _ => True) (fun _ U0 o0 U1 => ∃ v0 L0, o0 = .returned v0 ∧ own_Q_copyOf Z da kd vd nc cap h0 n0 v0 U1.heap L0 ∧ FrameEnd U0 o0 U1 L0 ({ frames := 2, cells := 1, slots := 72, locals := 18 } : Room).cells ({ frames := 2, cells := 1, slots := 72, locals := 18 } : Room).slots) := by
  refine MetFree.of_bodySF (plainFor_of_name own_pn_java_util_Arrays) hisR ?_
  intro p e s m args below meth c s₁ Bd hml0 hP hK
  obtain ⟨rfl, hZ, hh⟩ := hP
  have hZs0 := hZ
  have hZs := hZ
  have hx := Bd.exec
  have hby := Bd.bytes
  have hby_ := hby
  have hml : c.maxLocals = 3 := hml0
  have hown : s.vm.findClass "java/util/Arrays" = some m.cls := findClass_of_methodNamed Bd.named
  have hnm := (name_of_methodNamed Bd.named Bd.method).1
  have X0 : Stand p l e ({ frames := 2, cells := 1, slots := 72, locals := 18 } : Room) s m #[(.ref da), (.int (Int32.ofNat nc))] below meth c s₁ [] 0 0 := Stand.of_body Bd
  have e0 : s₁.heap = h0 := by rw [← hh, Bd.state]; rfl
  have N0 := Fr.nil n0
  refine OwnFin.entry (own_ef_copyOf m da (Int32.ofNat nc)) (fun P' hP' => ?_)
  have lt_da := own_lt Va.lt
  refine OwnFin.adv (B := s₁.setTop (mkF m 1 #[.val (.ref da), .val (.int (Int32.ofNat nc)), .unset] [(.int (Int32.ofNat nc))])) (fun _ k => XS.iloadN X0.here hx rfl (hb hby own_d13_0) rfl k) ?_
  refine OwnFin.adv (B := s₁.setTop (mkF m 2 #[.val (.ref da), .val (.int (Int32.ofNat nc)), .unset] [(.ref da), (.int (Int32.ofNat nc))])) (fun _ k => XS.aloadN X0.here hx rfl (hb hby own_d13_1) rfl rfl k) ?_
  obtain ⟨cl1, Ar1, ck1, S1, M1, H1, G1⟩ := id Va
  refine OwnFin.adv (B := s₁.setTop (mkF m 3 #[.val (.ref da), .val (.int (Int32.ofNat nc)), .unset] [(.int (Int32.ofNat cap)), (.int (Int32.ofNat nc))])) (fun _ k => X0.arraylength hx (by rw [e0]; exact Ar1.1) (State.isArrayOf_alike hZ.alike Ar1.2.1) (g := (mkF m 2 #[.val (.ref da), .val (.int (Int32.ofNat nc)), .unset] [(.ref da), (.int (Int32.ofNat nc))])) rfl rfl (hb hby own_d13_2) _ (by rw [len_of S1 M1]; exact k)) ?_
  have hc3_4 : ¬ ((Int32.ofNat nc) = (Int32.ofNat cap)) := fun q => absurd ((own_eqn (by omega) (by omega)).mp q) (by omega)
  refine OwnFin.adv (B := s₁.setTop (mkF m 14 #[.val (.ref da), .val (.int (Int32.ofNat nc)), .unset] [])) (fun _ k => XS.icmpYes X0.here hx rfl (pc0 := 3) (pc' := 14) rfl (hb hby own_d13_3) rfl (feq hc3_4).2 (by decide) (by decide) k) ?_
  refine OwnFin.adv (B := s₁.setTop (mkF m 15 #[.val (.ref da), .val (.int (Int32.ofNat nc)), .unset] [(.int (Int32.ofNat nc))])) (fun _ k => XS.iloadN X0.here hx rfl (hb hby own_d13_14) rfl k) ?_
  obtain ⟨T2, h2, k2, X2, e2, E2, A2, st2⟩ := newP X0 hx hZ (hw _ (List.mem_of_getElem? (i := 23) rfl)) e0 (g := (mkF m 15 #[.val (.ref da), .val (.int (Int32.ofNat nc)), .unset] [(.int (Int32.ofNat nc))])) rfl (hb hby own_d13_15) rfl (own_nn (by omega)) (cap := 72) (by rw [own_cl (by omega)]; omega) (by decide) (by decide) (by decide)
  obtain ⟨b2, g2⟩ : ∃ z, z = h0.size := ⟨_, rfl⟩
  rw [← g2] at A2 st2
  have sz3 : h0.size ≤ h2.size := E2.1
  have lt_b2 := own_lt A2.lt
  have V2 : Arv Z h2 b2 k2 .byte (Int32.ofNat nc) (List.replicate nc (.int (0 : Int32))) (.int (0 : Int32)) := (Arv.new A2 (own_nn (by omega))).pad (pad_rep [] (.int (0 : Int32)) _)
  refine OwnFin.adv (B := T2.setTop (mkF m 17 #[.val (.ref da), .val (.int (Int32.ofNat nc)), .unset] [(.ref b2)])) (fun _ k => st2 _ k) ?_
  refine OwnFin.adv (B := T2.setTop (mkF m 18 #[.val (.ref da), .val (.int (Int32.ofNat nc)), .val (.ref b2)] [])) (fun _ k => XS.astoreN X2.here hx rfl (hb hby own_d13_17) rfl rfl (l' := #[.val (.ref da), .val (.int (Int32.ofNat nc)), .val (.ref b2)]) rfl k) ?_
  refine OwnFin.adv (B := T2.setTop (mkF m 19 #[.val (.ref da), .val (.int (Int32.ofNat nc)), .val (.ref b2)] [(.ref da)])) (fun _ k => XS.aloadN X2.here hx rfl (hb hby own_d13_18) rfl rfl k) ?_
  refine OwnFin.adv (B := T2.setTop (mkF m 20 #[.val (.ref da), .val (.int (Int32.ofNat nc)), .val (.ref b2)] [(.int (0 : Int32)), (.ref da)])) (fun _ k => XS.iconst X2.here hx rfl (hb hby own_d13_19) k) ?_
  refine OwnFin.adv (B := T2.setTop (mkF m 21 #[.val (.ref da), .val (.int (Int32.ofNat nc)), .val (.ref b2)] [(.ref b2), (.int (0 : Int32)), (.ref da)])) (fun _ k => XS.aloadN X2.here hx rfl (hb hby own_d13_20) rfl rfl k) ?_
  refine OwnFin.adv (B := T2.setTop (mkF m 22 #[.val (.ref da), .val (.int (Int32.ofNat nc)), .val (.ref b2)] [(.int (0 : Int32)), (.ref b2), (.int (0 : Int32)), (.ref da)])) (fun _ k => XS.iconst X2.here hx rfl (hb hby own_d13_21) k) ?_
  refine OwnFin.adv (B := T2.setTop (mkF m 23 #[.val (.ref da), .val (.int (Int32.ofNat nc)), .val (.ref b2)] [(.ref da), (.int (0 : Int32)), (.ref b2), (.int (0 : Int32)), (.ref da)])) (fun _ k => XS.aloadN X2.here hx rfl (hb hby own_d13_22) rfl rfl k) ?_
  have Fv5_1 : Arv Z h2 da kd .byte (Int32.ofNat cap) vd (.int (0 : Int32)) := (Va.ext E2)
  obtain ⟨cl4, Ar4, ck4, S4, M4, H4, G4⟩ := id Fv5_1
  refine OwnFin.adv (B := T2.setTop (mkF m 24 #[.val (.ref da), .val (.int (Int32.ofNat nc)), .val (.ref b2)] [(.int (Int32.ofNat cap)), (.int (0 : Int32)), (.ref b2), (.int (0 : Int32)), (.ref da)])) (fun _ k => X2.arraylength hx (by rw [e2]; exact Ar4.1) (State.isArrayOf_alike hZ.alike Ar4.2.1) (g := (mkF m 23 #[.val (.ref da), .val (.int (Int32.ofNat nc)), .val (.ref b2)] [(.ref da), (.int (0 : Int32)), (.ref b2), (.int (0 : Int32)), (.ref da)])) rfl rfl (hb hby own_d13_23) _ (by rw [len_of S4 M4]; exact k)) ?_
  refine OwnFin.adv (B := T2.setTop (mkF m 25 #[.val (.ref da), .val (.int (Int32.ofNat nc)), .val (.ref b2)] [(.int (Int32.ofNat nc)), (.int (Int32.ofNat cap)), (.int (0 : Int32)), (.ref b2), (.int (0 : Int32)), (.ref da)])) (fun _ k => XS.iloadN X2.here hx rfl (hb hby own_d13_24) rfl k) ?_
  obtain ⟨_, _, ⟨T6, L6, k6, n6⟩, -, X6, ⟨Lc6, hQ6, l6, y6, z6⟩, st6⟩ := Jvm.LawKit.callS X2 hx (y := (⟨"java/lang/Math", "min", "(II)I"⟩ : MethodName)) hown (mvT hZ (hw _ (List.mem_of_getElem? (i := 83) rfl))) (mvT hZ (hw _ (List.mem_of_getElem? (i := 84) rfl))) (mvT hZ (hw _ (List.mem_of_getElem? (i := 75) rfl))) (mvT hZ (hw _ (List.mem_of_getElem? (i := 85) rfl))) (by decide) (backOf (W := 4) (own_minL l Z a0 hw [] (Int32.ofNat cap) (Int32.ofNat nc) h2 n0 (by omega) (fun q => absurd ((own_ltn (by omega) (by omega)).mp q) (by omega))) hZ (hw _ (List.mem_of_getElem? (i := 85) rfl)) (hw _ (List.mem_of_getElem? (i := 75) rfl)) (by decide) (by decide)) (g := (mkF m 25 #[.val (.ref da), .val (.int (Int32.ofNat nc)), .val (.ref b2)] [(.int (Int32.ofNat nc)), (.int (Int32.ofNat cap)), (.int (0 : Int32)), (.ref b2), (.int (0 : Int32)), (.ref da)])) rfl (by rw [hml]; rfl) (argsL := [(.int (Int32.ofNat cap)), (.int (Int32.ofNat nc))]) (rest := [(.int (0 : Int32)), (.ref b2), (.int (0 : Int32)), (.ref da)]) (lenOf own_pd_x28IIx29I rfl) rfl (by show 2 * 0 + _ ≤ _; exact Nat.le_of_eq rfl) (hb hby own_d13_25) (fun _ _ => ⟨rfl, e2, (by decide : 1 + 0 ≤ _), (by decide : 72 + 0 ≤ _)⟩)
  dsimp only [Pt.U, Pt.locs, Pt.cells, Pt.slots] at X6 l6 y6 z6 st6 hQ6
  subst l6 y6 z6
  obtain ⟨rfl, N6q, eh6⟩ := hQ6
  have N6 := Fr.app N0 N6q
  refine OwnFin.adv (B := T6.setTop (mkF m 28 #[.val (.ref da), .val (.int (Int32.ofNat nc)), .val (.ref b2)] [(.int (Int32.ofNat cap)), (.int (0 : Int32)), (.ref b2), (.int (0 : Int32)), (.ref da)])) (fun _ k => st6 _ k) ?_
  obtain ⟨T7, h7, L7, X7, e7, N7, K7, V7, st7⟩ := cpA X6 hx hZ hown (hw _ (List.mem_of_getElem? (i := 86) rfl)) (hw _ (List.mem_of_getElem? (i := 89) rfl)) (hw _ (List.mem_of_getElem? (i := 87) rfl)) (hw _ (List.mem_of_getElem? (i := 88) rfl)) eh6 Fv5_1 V2 (Or.inl ⟨rfl, rfl⟩) (by decide) (by decide) (own_nn (by omega)) (by rw [own_cl (by omega)]; exact Nat.le_of_eq (Nat.zero_add _)) (by rw [own_cl (by omega), own_cl (by omega)]; show 0 + cap ≤ nc; omega) (us := vd) (by rw [own_cl (by omega)]; exact own_whole _ _ _ hvd) (by rw [own_cl (by omega), List.length_replicate]; show 0 + cap ≤ nc; omega) N6 (by omega) (g := (mkF m 28 #[.val (.ref da), .val (.int (Int32.ofNat nc)), .val (.ref b2)] [(.int (Int32.ofNat cap)), (.int (0 : Int32)), (.ref b2), (.int (0 : Int32)), (.ref da)])) rfl (by rw [hml]; rfl) rfl (hb hby own_d13_28) (by decide) (W := 0) (by show 2 * 0 + _ ≤ _; exact Nat.le_of_eq rfl) (by decide)
  have sz8 : h2.size ≤ h7.size := K7.1
  have V7n : Arv Z h7 b2 k2 .byte (Int32.ofNat nc) (vd ++ List.replicate (nc - cap) (.int (0 : Int32))) (.int (0 : Int32)) := by
    have q := V7
    rw [show _ ++ _ ++ _ = (vd ++ List.replicate (nc - cap) (.int (0 : Int32))) from by rw [show (0 : Int32).toNatClampNeg = 0 from rfl, own_cl (by omega)]; simp] at q
    exact q
  refine OwnFin.adv (B := T7.setTop (mkF m 31 #[.val (.ref da), .val (.int (Int32.ofNat nc)), .val (.ref b2)] [])) (fun _ k => st7 _ k) ?_
  refine OwnFin.adv (B := T7.setTop (mkF m 32 #[.val (.ref da), .val (.int (Int32.ofNat nc)), .val (.ref b2)] [(.ref b2)])) (fun _ k => XS.aloadN X7.here hx rfl (hb hby own_d13_31) rfl rfl k) ?_
  obtain ⟨fs, hr, hrun, hended, hW, hsame⟩ := X7.leave (v := some (.ref b2)) (fun h => by rw [Bd.returns] at h; cases h)
  refine OwnFin.leaf hP' ⟨_, _, own_retR X7 hx Bd.returns rfl rfl rfl (hb hby own_d13_32) hr, hrun, hended, _, _, rfl, ?_, ⟨_, rfl⟩, hW, hsame.mono (by decide) (by decide)⟩
  rw [show (T7.setFrames fs).heap = h7 from e7]
  exact ⟨b2, _, rfl, N7, (((Keep.refl h0 []).ext E2).trans K7 (allS (Or.inr (by omega)) all0)), by omega, V7n⟩
theorem own_d9_17 : decode jdk_68_method_9_code 17 = .ok (.aload_n 0, 1) := by decide +kernel
theorem own_d9_18 : decode jdk_68_method_9_code 18 = .ok (.aload_n 0, 1) := by decide +kernel
theorem own_d9_19 : decode jdk_68_method_9_code 19 = .ok (.getfield 15, 3) := by decide +kernel
theorem own_d9_22 : decode jdk_68_method_9_code 22 = .ok (.aload_n 0, 1) := by decide +kernel
theorem own_d9_23 : decode jdk_68_method_9_code 23 = .ok (.iload_n 1, 1) := by decide +kernel
theorem own_pd_x28Ix29I : parseMethodDescriptor "(I)I" = some ⟨[.int], some .int⟩ := by decide +kernel
theorem own_d9_24 : decode jdk_68_method_9_code 24 = .ok (.invokevirtual 104, 3) := by decide +kernel
theorem own_d9_27 : decode jdk_68_method_9_code 27 = .ok (.aload_n 0, 1) := by decide +kernel
theorem own_d9_28 : decode jdk_68_method_9_code 28 = .ok (.getfield 22, 3) := by decide +kernel
theorem own_d9_31 : decode jdk_68_method_9_code 31 = .ok (.ishl, 1) := by decide +kernel
theorem own_pd_x28x5bBIx29x5bB : parseMethodDescriptor "([BI)[B" = some ⟨[(.array .byte), .int], some (.array .byte)⟩ := by decide +kernel
theorem own_d9_32 : decode jdk_68_method_9_code 32 = .ok (.invokestatic 108, 3) := by decide +kernel
theorem own_d9_35 : decode jdk_68_method_9_code 35 = .ok (.putfield 15, 3) := by decide +kernel
theorem own_ef_ensureX (m : MethodId) (x0 : Addr) (x1 : Int32) : entryFrame m #[(.ref x0), (.int x1)] 3 = mkF m 0 #[.val (.ref x0), .val (.int x1), .unset] [] := by first | (simp [entryFrame, mkF, argsToLocals, Value.category]; done) | rfl
def own_Q_ensureX (Z : State) (ob da : Addr) (kd : ClassId) (vd : List Value) (mn cap k0 : Nat) (h0 : Heap) (n0 : Nat) (v : Option Value) (h : Heap) (L : List Loc) : Prop := v = none ∧ Fr n0 L ∧ Keep h0 h [ob] ∧ ∃ (dn : Addr) (kn : ClassId) (vn : List Value) (cn : Nat), Fld Z h ob "java/lang/AbstractStringBuilder" "value" "[B" (.ref dn) ∧ Fld Z h ob "java/lang/AbstractStringBuilder" "coder" "B" (.int (0 : Int32)) ∧ Fld Z h ob "java/lang/AbstractStringBuilder" "count" "I" (.int (Int32.ofNat k0)) ∧ Arv Z h dn kn .byte (Int32.ofNat cn) vn (.int (0 : Int32)) ∧ vn.length = cn ∧ vn.take cap = vd ∧ mn ≤ cn ∧ (cn = cap ∨ (cap < mn ∧ cn = cap + (cap + 2))) ∧ (dn = da ∨ h0.size ≤ dn)
set_option maxRecDepth 65536 in
set_option maxHeartbeats 40000000 in
theorem own_ensureX (l : Launch) (Z : State) (a0 : Array Value) (hw : ∀ d ∈ tables_1, d.before a0 Z = true) (ws : List Jvm.Cond) (ob da : Addr) (kd : ClassId) (vd : List Value) (mn cap k0 : Nat) (h0 : Heap) (n0 : Nat) (Z0 : n0 ≤ h0.size) (E : Exa Z h0 ob "java/lang/StringBuilder") (Fv : Fld Z h0 ob "java/lang/AbstractStringBuilder" "value" "[B" (.ref da)) (Fc : Fld Z h0 ob "java/lang/AbstractStringBuilder" "coder" "B" (.int (0 : Int32))) (Fn : Fld Z h0 ob "java/lang/AbstractStringBuilder" "count" "I" (.int (Int32.ofNat k0))) (Va : Arv Z h0 da kd .byte (Int32.ofNat cap) vd (.int (0 : Int32))) (hcap : cap ≤ 70) (hvd : vd.length = cap) (hmx : mn < 2 * cap + 2) (hgr : cap < mn → cap ≤ 35) (g_ob : n0 ≤ ob) :
    MetFree l (⟨"java/lang/AbstractStringBuilder", "ensureCapacityInternal", "(I)V"⟩ : MethodName) (head1 (Jvm.Cond.code (⟨"java/lang/AbstractStringBuilder", "ensureCapacityInternal", "(I)V"⟩ : MethodName) jdk_68_method_9_code 3 none :: ws) ({ frames := 3, cells := 1, slots := 72, locals := 48 } : Room)) (fun A0 U0 => A0 = #[(.ref ob), (.int (Int32.ofNat mn))] ∧ Z.Warmed39 U0.vm ∧ U0.heap = h0) (fun _ _ _ _ _ => True) (fun _ U0 o0 U1 => ∃ v0 L0, o0 = .returned v0 ∧ own_Q_ensureX Z ob da kd vd mn cap k0 h0 n0 v0 U1.heap L0 ∧ FrameEnd U0 o0 U1 L0 ({ frames := 3, cells := 1, slots := 72, locals := 48 } : Room).cells ({ frames := 3, cells := 1, slots := 72, locals := 48 } : Room).slots) := by
  refine MetFree.of_bodySF (plainFor_of_name own_pn_java_lang_AbstractStringBuilder) hisR ?_
  intro p e s m args below meth c s₁ Bd hml0 hP hK
  obtain ⟨rfl, hZ, hh⟩ := hP
  have hZs0 := hZ
  have hZs := hZ
  have hx := Bd.exec
  have hby := Bd.bytes
  have hby_ := hby
  have hml : c.maxLocals = 3 := hml0
  have hown : s.vm.findClass "java/lang/AbstractStringBuilder" = some m.cls := findClass_of_methodNamed Bd.named
  have hnm := (name_of_methodNamed Bd.named Bd.method).1
  have X0 : Stand p l e ({ frames := 3, cells := 1, slots := 72, locals := 48 } : Room) s m #[(.ref ob), (.int (Int32.ofNat mn))] below meth c s₁ [] 0 0 := Stand.of_body Bd
  have e0 : s₁.heap = h0 := by rw [← hh, Bd.state]; rfl
  have N0 := Fr.nil n0
  refine OwnFin.entry (own_ef_ensureX m ob (Int32.ofNat mn)) (fun P' hP' => ?_)
  have lt_ob := own_lt E.lt
  have lt_da := own_lt Va.lt
  refine OwnFin.adv (B := s₁.setTop (mkF m 1 #[.val (.ref ob), .val (.int (Int32.ofNat mn)), .unset] [(.ref ob)])) (fun _ k => XS.aloadN X0.here hx rfl (hb hby own_d9_0) rfl rfl k) ?_
  obtain ⟨T1, X1, e1, st1⟩ := getF X0 hx hZ hown (host := "") (Or.inl (hw _ (List.mem_of_getElem? (i := 24) rfl))) Via.refl e0 Fv (g := (mkF m 1 #[.val (.ref ob), .val (.int (Int32.ofNat mn)), .unset] [(.ref ob)])) rfl rfl (hb hby own_d9_1)
  refine OwnFin.adv (B := T1.setTop (mkF m 4 #[.val (.ref ob), .val (.int (Int32.ofNat mn)), .unset] [(.ref da)])) (fun _ k => st1 _ k) ?_
  obtain ⟨cl2, Ar2, ck2, S2, M2, H2, G2⟩ := id Va
  refine OwnFin.adv (B := T1.setTop (mkF m 5 #[.val (.ref ob), .val (.int (Int32.ofNat mn)), .unset] [(.int (Int32.ofNat cap))])) (fun _ k => X1.arraylength hx (by rw [e1]; exact Ar2.1) (State.isArrayOf_alike hZ.alike Ar2.2.1) (g := (mkF m 4 #[.val (.ref ob), .val (.int (Int32.ofNat mn)), .unset] [(.ref da)])) rfl rfl (hb hby own_d9_4) _ (by rw [len_of S2 M2]; exact k)) ?_
  refine OwnFin.adv (B := T1.setTop (mkF m 6 #[.val (.ref ob), .val (.int (Int32.ofNat mn)), .unset] [(.ref ob), (.int (Int32.ofNat cap))])) (fun _ k => XS.aloadN X1.here hx rfl (hb hby own_d9_5) rfl rfl k) ?_
  obtain ⟨T3, X3, e3, st3⟩ := getF X1 hx hZ hown (host := "") (Or.inl (hw _ (List.mem_of_getElem? (i := 26) rfl))) Via.refl e1 Fc (g := (mkF m 6 #[.val (.ref ob), .val (.int (Int32.ofNat mn)), .unset] [(.ref ob), (.int (Int32.ofNat cap))])) rfl rfl (hb hby own_d9_6)
  refine OwnFin.adv (B := T3.setTop (mkF m 9 #[.val (.ref ob), .val (.int (Int32.ofNat mn)), .unset] [(.int (0 : Int32)), (.int (Int32.ofNat cap))])) (fun _ k => st3 _ k) ?_
  refine OwnFin.adv (B := T3.setTop (mkF m 10 #[.val (.ref ob), .val (.int (Int32.ofNat mn)), .unset] [(.int ((Int32.ofNat cap) >>> ((0 : Int32) &&& 31)))])) (fun _ k => XS.ishr X3.here hx rfl (hb hby own_d9_9) rfl k) ?_
  rw [show (((Int32.ofNat cap) >>> ((0 : Int32) &&& 31)) : Int32) = (Int32.ofNat cap) from own_shr0 _]
  refine OwnFin.adv (B := T3.setTop (mkF m 11 #[.val (.ref ob), .val (.int (Int32.ofNat mn)), .val (.int (Int32.ofNat cap))] [])) (fun _ k => XS.istoreN X3.here hx rfl (hb hby own_d9_10) rfl (l' := #[.val (.ref ob), .val (.int (Int32.ofNat mn)), .val (.int (Int32.ofNat cap))]) rfl k) ?_
  refine OwnFin.adv (B := T3.setTop (mkF m 12 #[.val (.ref ob), .val (.int (Int32.ofNat mn)), .val (.int (Int32.ofNat cap))] [(.int (Int32.ofNat mn))])) (fun _ k => XS.iloadN X3.here hx rfl (hb hby own_d9_11) rfl k) ?_
  refine OwnFin.adv (B := T3.setTop (mkF m 13 #[.val (.ref ob), .val (.int (Int32.ofNat mn)), .val (.int (Int32.ofNat cap))] [(.int (Int32.ofNat cap)), (.int (Int32.ofNat mn))])) (fun _ k => XS.iloadN X3.here hx rfl (hb hby own_d9_12) rfl k) ?_
  refine OwnFin.adv (B := T3.setTop (mkF m 14 #[.val (.ref ob), .val (.int (Int32.ofNat mn)), .val (.int (Int32.ofNat cap))] [(.int ((Int32.ofNat mn) - (Int32.ofNat cap)))])) (fun _ k => XS.isub X3.here hx rfl (hb hby own_d9_13) rfl k) ?_
  by_cases hc14 : (0 : Int32) < ((Int32.ofNat mn) - (Int32.ofNat cap))
  ·
    refine OwnFin.adv (B := T3.setTop (mkF m 17 #[.val (.ref ob), .val (.int (Int32.ofNat mn)), .val (.int (Int32.ofNat cap))] [])) (fun _ k => XS.ifNo X3.here hx rfl (hb hby own_d9_14) rfl ((if0 _ _).trans (tlt hc14).2.2.2) k) ?_
    have hlt : cap < mn := own_gt0 (by omega) hc14
    have hc35 := hgr hlt
    refine OwnFin.adv (B := T3.setTop (mkF m 18 #[.val (.ref ob), .val (.int (Int32.ofNat mn)), .val (.int (Int32.ofNat cap))] [(.ref ob)])) (fun _ k => XS.aloadN X3.here hx rfl (hb hby own_d9_17) rfl rfl k) ?_
    refine OwnFin.adv (B := T3.setTop (mkF m 19 #[.val (.ref ob), .val (.int (Int32.ofNat mn)), .val (.int (Int32.ofNat cap))] [(.ref ob), (.ref ob)])) (fun _ k => XS.aloadN X3.here hx rfl (hb hby own_d9_18) rfl rfl k) ?_
    obtain ⟨T4, X4, e4, st4⟩ := getF X3 hx hZ hown (host := "") (Or.inl (hw _ (List.mem_of_getElem? (i := 24) rfl))) Via.refl e3 Fv (g := (mkF m 19 #[.val (.ref ob), .val (.int (Int32.ofNat mn)), .val (.int (Int32.ofNat cap))] [(.ref ob), (.ref ob)])) rfl rfl (hb hby own_d9_19)
    refine OwnFin.adv (B := T4.setTop (mkF m 22 #[.val (.ref ob), .val (.int (Int32.ofNat mn)), .val (.int (Int32.ofNat cap))] [(.ref da), (.ref ob)])) (fun _ k => st4 _ k) ?_
    refine OwnFin.adv (B := T4.setTop (mkF m 23 #[.val (.ref ob), .val (.int (Int32.ofNat mn)), .val (.int (Int32.ofNat cap))] [(.ref ob), (.ref da), (.ref ob)])) (fun _ k => XS.aloadN X4.here hx rfl (hb hby own_d9_22) rfl rfl k) ?_
    refine OwnFin.adv (B := T4.setTop (mkF m 24 #[.val (.ref ob), .val (.int (Int32.ofNat mn)), .val (.int (Int32.ofNat cap))] [(.int (Int32.ofNat mn)), (.ref ob), (.ref da), (.ref ob)])) (fun _ k => XS.iloadN X4.here hx rfl (hb hby own_d9_23) rfl k) ?_
    obtain ⟨cq5, kq5, q5a, q5b, q5c⟩ := isOf hZ e4 E
    obtain ⟨_, _, ⟨T5, L5, k5, n5⟩, -, X5, ⟨Lc5, hQ5, l5, y5, z5⟩, st5⟩ := X4.virtualBack hx (y := (⟨"java/lang/AbstractStringBuilder", "newCapacity", "(I)I"⟩ : MethodName)) (z := (⟨"java/lang/AbstractStringBuilder", "newCapacity", "(I)I"⟩ : MethodName)) hown (mvT hZ (hw _ (List.mem_of_getElem? (i := 64) rfl))) (mvT hZ (own_decl (hw _ (List.mem_of_getElem? (i := 65) rfl)) (hw _ (List.mem_of_getElem? (i := 68) rfl)))) (notFace_of_selects (args := #[]) (mvT hZ (hw _ (List.mem_of_getElem? (i := 67) rfl)))) (mvT hZ (hw _ (List.mem_of_getElem? (i := 67) rfl))) (mvT hZ (hw _ (List.mem_of_getElem? (i := 65) rfl))) (by decide) (backOf (W := 2) (own_newCap l Z a0 hw [] ob da kd vd mn cap h0 n0 (by omega) Fv Fc Va (by omega) hvd hlt hmx) hZ (hw _ (List.mem_of_getElem? (i := 68) rfl)) (hw _ (List.mem_of_getElem? (i := 16) rfl)) (by decide) (by decide)) q5a q5c (g := (mkF m 24 #[.val (.ref ob), .val (.int (Int32.ofNat mn)), .val (.int (Int32.ofNat cap))] [(.int (Int32.ofNat mn)), (.ref ob), (.ref da), (.ref ob)])) rfl (by rw [hml]; rfl) (Steps.refl _) (argsL := [(.int (Int32.ofNat mn))]) (rest := [(.ref da), (.ref ob)]) (lenOf own_pd_x28Ix29I rfl) rfl (by show 2 * 0 + _ ≤ _; exact Nat.le_of_eq rfl) (hb hby own_d9_24) (fun _ _ => ⟨rfl, e4, (by decide : 0 + 0 ≤ _), (by decide : 0 + 0 ≤ _)⟩)
    dsimp only [Pt.U, Pt.locs, Pt.cells, Pt.slots] at X5 l5 y5 z5 st5 hQ5
    subst l5 y5 z5
    obtain ⟨rfl, N5q, eh5⟩ := hQ5
    have N5 := Fr.app N0 N5q
    refine OwnFin.adv (B := T5.setTop (mkF m 27 #[.val (.ref ob), .val (.int (Int32.ofNat mn)), .val (.int (Int32.ofNat cap))] [(.int (Int32.ofNat (cap + (cap + 2)))), (.ref da), (.ref ob)])) (fun _ k => st5.trans k) ?_
    refine OwnFin.adv (B := T5.setTop (mkF m 28 #[.val (.ref ob), .val (.int (Int32.ofNat mn)), .val (.int (Int32.ofNat cap))] [(.ref ob), (.int (Int32.ofNat (cap + (cap + 2)))), (.ref da), (.ref ob)])) (fun _ k => XS.aloadN X5.here hx rfl (hb hby own_d9_27) rfl rfl k) ?_
    obtain ⟨T6, X6, e6, st6⟩ := getF X5 hx hZ hown (host := "") (Or.inl (hw _ (List.mem_of_getElem? (i := 26) rfl))) Via.refl eh5 Fc (g := (mkF m 28 #[.val (.ref ob), .val (.int (Int32.ofNat mn)), .val (.int (Int32.ofNat cap))] [(.ref ob), (.int (Int32.ofNat (cap + (cap + 2)))), (.ref da), (.ref ob)])) rfl rfl (hb hby own_d9_28)
    refine OwnFin.adv (B := T6.setTop (mkF m 31 #[.val (.ref ob), .val (.int (Int32.ofNat mn)), .val (.int (Int32.ofNat cap))] [(.int (0 : Int32)), (.int (Int32.ofNat (cap + (cap + 2)))), (.ref da), (.ref ob)])) (fun _ k => st6 _ k) ?_
    refine OwnFin.adv (B := T6.setTop (mkF m 32 #[.val (.ref ob), .val (.int (Int32.ofNat mn)), .val (.int (Int32.ofNat cap))] [(.int ((Int32.ofNat (cap + (cap + 2))) <<< ((0 : Int32) &&& 31))), (.ref da), (.ref ob)])) (fun _ k => XS.ishl X6.here hx rfl (hb hby own_d9_31) rfl k) ?_
    rw [show (((Int32.ofNat (cap + (cap + 2))) <<< ((0 : Int32) &&& 31)) : Int32) = (Int32.ofNat (cap + (cap + 2))) from own_shl0 _]
    obtain ⟨_, _, ⟨T7, L7, k7, n7⟩, -, X7, ⟨Lc7, hQ7, l7, y7, z7⟩, st7⟩ := Jvm.LawKit.callS X6 hx (y := (⟨"java/util/Arrays", "copyOf", "([BI)[B"⟩ : MethodName)) hown (mvT hZ (hw _ (List.mem_of_getElem? (i := 79) rfl))) (mvT hZ (hw _ (List.mem_of_getElem? (i := 80) rfl))) (mvT hZ (hw _ (List.mem_of_getElem? (i := 81) rfl))) (mvT hZ (hw _ (List.mem_of_getElem? (i := 82) rfl))) (by decide) (backOf (W := 1) (own_copyOf l Z a0 hw [] da kd vd (cap + (cap + 2)) cap h0 n0 (by omega) Va (by omega) hvd (by omega) (by omega)) hZ (hw _ (List.mem_of_getElem? (i := 82) rfl)) (hw _ (List.mem_of_getElem? (i := 81) rfl)) (by decide) (by decide)) (g := (mkF m 32 #[.val (.ref ob), .val (.int (Int32.ofNat mn)), .val (.int (Int32.ofNat cap))] [(.int (Int32.ofNat (cap + (cap + 2)))), (.ref da), (.ref ob)])) rfl (by rw [hml]; rfl) (argsL := [(.ref da), (.int (Int32.ofNat (cap + (cap + 2))))]) (rest := [(.ref ob)]) (lenOf own_pd_x28x5bBIx29x5bB rfl) rfl (by show 2 * 0 + _ ≤ _; exact Nat.le_of_eq rfl) (hb hby own_d9_32) (fun _ _ => ⟨rfl, e6, (by decide : 0 + 1 ≤ _), (by decide : 0 + 72 ≤ _)⟩)
    dsimp only [Pt.U, Pt.locs, Pt.cells, Pt.slots] at X7 l7 y7 z7 st7 hQ7
    subst l7 y7 z7
    obtain ⟨t7, kt7, rfl, N7q, K7, ge7, Vt7⟩ := hQ7
    have N7 := Fr.app N5 N7q
    have sz8 : h0.size ≤ T7.heap.size := K7.1
    have lt_t7 := own_lt Vt7.lt
    refine OwnFin.adv (B := T7.setTop (mkF m 35 #[.val (.ref ob), .val (.int (Int32.ofNat mn)), .val (.int (Int32.ofNat cap))] [(.ref t7), (.ref ob)])) (fun _ k => st7 _ k) ?_
    have Fv9_1 : Exa Z T7.heap ob "java/lang/StringBuilder" := (E.keep K7)
    have Fv10_1 : Fld Z T7.heap ob "java/lang/AbstractStringBuilder" "value" "[B" (.ref da) := (Fv.keep K7 nin0)
    obtain ⟨T11, h11, X11, e11, W11, st11⟩ := putF X7 hx hZ hown (host := "") (Or.inl (hw _ (List.mem_of_getElem? (i := 24) rfl))) Via.refl rfl Fv10_1 Fv9_1 (Or.inl (hw _ (List.mem_of_getElem? (i := 25) rfl))) (hw _ (List.mem_of_getElem? (i := 7) rfl)) (ty := (.array .byte)) (by decide) rfl rfl (g := (mkF m 35 #[.val (.ref ob), .val (.int (Int32.ofNat mn)), .val (.int (Int32.ofNat cap))] [(.ref t7), (.ref ob)])) rfl rfl (hb hby own_d9_35)
    have Fw11 : Fld Z h11 ob "java/lang/AbstractStringBuilder" "value" "[B" (.ref t7) := Fv10_1.same W11
    have sz12 : T7.heap.size ≤ h11.size := Nat.le_of_eq W11.size.symm
    have N11 := Fr.snoc X11 N7 (by omega : n0 ≤ ob)
    refine OwnFin.adv (B := T11.setTop (mkF m 38 #[.val (.ref ob), .val (.int (Int32.ofNat mn)), .val (.int (Int32.ofNat cap))] [])) (fun _ k => st11 _ k) ?_
    obtain ⟨fs, hr, hrun, hended, hW, hsame⟩ := X11.leave (v := none) (fun _ => rfl)
    refine OwnFin.leaf hP' ⟨_, _, X11.returnOut hx Bd.returns (hb hby own_d9_38) hr, hrun, hended, _, _, rfl, ?_, ⟨_, rfl⟩, hW, hsame.mono (by decide) (by decide)⟩
    have Fv13_2 : Fld Z h11 ob "java/lang/AbstractStringBuilder" "coder" "B" (.int (0 : Int32)) := ((Fc.keep K7 nin0).other W11 (Or.inr (slot_ne (Or.inl (hw _ (List.mem_of_getElem? (i := 27) rfl))) (Or.inl (hw _ (List.mem_of_getElem? (i := 25) rfl))) (by decide) (t := .byte) (t' := (.array .byte)) (by decide) (by decide))))
    have Fv14_2 : Fld Z h11 ob "java/lang/AbstractStringBuilder" "count" "I" (.int (Int32.ofNat k0)) := ((Fn.keep K7 nin0).other W11 (Or.inr (slot_ne (Or.inl (hw _ (List.mem_of_getElem? (i := 58) rfl))) (Or.inl (hw _ (List.mem_of_getElem? (i := 25) rfl))) (by decide) (t := .int) (t' := (.array .byte)) (by decide) (by decide))))
    have Fv15_2 : Arv Z h11 t7 kt7 .byte (Int32.ofNat (cap + (cap + 2))) (vd ++ List.replicate ((cap + (cap + 2)) - cap) (.int (0 : Int32))) (.int (0 : Int32)) := (Vt7.other W11 (own_ne (by omega)))
    rw [show (T11.setFrames fs).heap = h11 from e11]
    exact ⟨rfl, N11, (((Keep.refl h0 [ob]).trans K7 all0).wr W11 (Or.inl (List.mem_of_getElem? (i := 0) rfl))), t7, kt7, _, _, Fw11, Fv13_2, Fv14_2, Fv15_2, (own_grown hvd (by omega)).1, (own_grown hvd (by omega)).2, by omega, Or.inr ⟨hlt, rfl⟩, Or.inr (by omega)⟩
  ·
    refine OwnFin.adv (B := T3.setTop (mkF m 38 #[.val (.ref ob), .val (.int (Int32.ofNat mn)), .val (.int (Int32.ofNat cap))] [])) (fun _ k => XS.ifYes X3.here hx rfl (pc0 := 14) (pc' := 38) rfl (hb hby own_d9_14) rfl ((if0 _ _).trans (flt hc14).2.2.2) (by decide) (by decide) k) ?_
    obtain ⟨fs, hr, hrun, hended, hW, hsame⟩ := X3.leave (v := none) (fun _ => rfl)
    refine OwnFin.leaf hP' ⟨_, _, X3.returnOut hx Bd.returns (hb hby own_d9_38) hr, hrun, hended, _, _, rfl, ?_, ⟨_, rfl⟩, hW, hsame.mono (by decide) (by decide)⟩
    rw [show (T3.setFrames fs).heap = h0 from e3]
    exact ⟨rfl, N0, (Keep.refl h0 [ob]), da, kd, vd, cap, Fv, Fc, Fn, Va, hvd, by rw [← hvd]; exact List.take_length, own_le0' (by omega) (by omega) hc14, Or.inl rfl, Or.inl rfl⟩
theorem own_ofN {c : Int32} (h : ¬ c < 0 ∧ ¬ (255 : Int32) < c) : ∃ k, k < 256 ∧ c = Int32.ofNat k := by
  obtain ⟨h1, h2⟩ := h
  have e : (255 : Int32).toInt = 255 := by decide
  have e0 : (0 : Int32).toInt = 0 := by decide
  rw [Int32.lt_iff_toInt_lt] at h1 h2
  rw [e0] at h1; rw [e] at h2
  refine ⟨c.toInt.toNat, by omega, ?_⟩
  apply Int32.toInt_inj.mp
  rw [own_toInt (by omega)]; omega
theorem own_chr {c : Int32} (h : ¬ c < 0 ∧ ¬ (255 : Int32) < c) : (c.toInt8.toInt32 &&& (255 : Int32)).toUInt32.toUInt16.toUInt32.toInt32 = c := by
  obtain ⟨k, hk, rfl⟩ := own_ofN h
  exact (by decide +kernel : ∀ k, k < 256 → ((Int32.ofNat k).toInt8.toInt32 &&& (255 : Int32)).toUInt32.toUInt16.toUInt32.toInt32 = Int32.ofNat k) k hk
theorem own_narc {c : Int32} (h : ¬ c < 0 ∧ ¬ (255 : Int32) < c) : nar .char c = c := by
  obtain ⟨k, hk, rfl⟩ := own_ofN h
  exact (by decide +kernel : ∀ k, k < 256 → nar .char (Int32.ofNat k) = Int32.ofNat k) k hk
theorem own_getd {cs : List Int32} {i : Nat} (h : i < cs.length) : ((cs.map fun c => c.toInt8.toInt32).map Value.int).getD i (.int (0 : Int32)) = .int (cs.getD i 0).toInt8.toInt32 := by
  simp [List.getD_eq_getElem?_getD, h]
theorem own_gmem {cs : List Int32} {i : Nat} (h : i < cs.length) : cs.getD i 0 ∈ cs := by
  simp [List.getD_eq_getElem?_getD, h]

theorem own_d7_0 : decode jdk_42_method_54_code 0 = .ok (.aload_n 0, 1) := by decide +kernel
theorem own_d7_1 : decode jdk_42_method_54_code 1 = .ok (.getfield 9, 3) := by decide +kernel
theorem own_d7_4 : decode jdk_42_method_54_code 4 = .ok (.arraylength, 1) := by decide +kernel
theorem own_d7_5 : decode jdk_42_method_54_code 5 = .ok (.aload_n 0, 1) := by decide +kernel
theorem own_d7_6 : decode jdk_42_method_54_code 6 = .ok (.invokevirtual 335, 3) := by decide +kernel
theorem own_d7_9 : decode jdk_42_method_54_code 9 = .ok (.ishr, 1) := by decide +kernel
theorem own_d7_10 : decode jdk_42_method_54_code 10 = .ok (.ireturn, 1) := by decide +kernel
theorem own_ef_strLen (m : MethodId) (x0 : Addr) : entryFrame m #[(.ref x0)] 1 = mkF m 0 #[.val (.ref x0)] [] := by first | (simp [entryFrame, mkF, argsToLocals, Value.category]; done) | rfl
def own_Q_strLen (Z : State) (so : Addr) (zc : Int32) (lim : Nat) (cs : List Int32) (h0 : Heap) (n0 : Nat) (v : Option Value) (h : Heap) (L : List Loc) : Prop := v = some (.int (Int32.ofNat cs.length)) ∧ Fr n0 L ∧ h = h0
set_option maxRecDepth 65536 in
set_option maxHeartbeats 40000000 in
theorem own_strLen (l : Launch) (Z : State) (a0 : Array Value) (hw : ∀ d ∈ tables_1, d.before a0 Z = true) (ws : List Jvm.Cond) (so : Addr) (zc : Int32) (lim : Nat) (cs : List Int32) (h0 : Heap) (n0 : Nat) (Z0 : n0 ≤ h0.size) (O0 : Old Z n0 h0) (SCS : Sta Z Z.heap "java/lang/String" "COMPACT_STRINGS" "Z" (.int zc)) (hzc : ¬ zc = 0) (Fs : OwnS Z h0 lim so cs) :
    MetFree l (⟨"java/lang/String", "length", "()I"⟩ : MethodName) (head1 (Jvm.Cond.code (⟨"java/lang/String", "length", "()I"⟩ : MethodName) jdk_42_method_54_code 1 (some .int) :: ws) ({ frames := 1, cells := 0, slots := 0, locals := 13 } : Room)) (fun A0 U0 => A0 = #[(.ref so)] ∧ Z.Warmed39 U0.vm ∧ U0.heap = h0) (fun _ _ _ _ _ => True) (fun _ U0 o0 U1 => ∃ v0 L0, o0 = .returned v0 ∧ own_Q_strLen Z so zc lim cs h0 n0 v0 U1.heap L0 ∧ FrameEnd U0 o0 U1 L0 ({ frames := 1, cells := 0, slots := 0, locals := 13 } : Room).cells ({ frames := 1, cells := 0, slots := 0, locals := 13 } : Room).slots) := by
  refine MetFree.of_bodySF (plainFor_of_name own_pn_java_lang_String) hisR ?_
  intro p e s m args below meth c s₁ Bd hml0 hP hK
  obtain ⟨rfl, hZ, hh⟩ := hP
  have hZs0 := hZ
  have hZs := hZ
  have hx := Bd.exec
  have hby := Bd.bytes
  have hby_ := hby
  have hml : c.maxLocals = 1 := hml0
  have hown : s.vm.findClass "java/lang/String" = some m.cls := findClass_of_methodNamed Bd.named
  have hnm := (name_of_methodNamed Bd.named Bd.method).1
  have X0 : Stand p l e ({ frames := 1, cells := 0, slots := 0, locals := 13 } : Room) s m #[(.ref so)] below meth c s₁ [] 0 0 := Stand.of_body Bd
  have e0 : s₁.heap = h0 := by rw [← hh, Bd.state]; rfl
  have N0 := Fr.nil n0
  refine OwnFin.entry (own_ef_strLen m so) (fun P' hP' => ?_)
  obtain ⟨ts1, ks1, Es1, Vs1, Cs1, As1, lx1, lt1, hp1, l21⟩ := id Fs
  have lx1 := own_lt lx1
  have lt1 := own_lt lt1
  have ltx1 := own_lt Es1.lt
  have ltt1 := own_lt As1.lt
  refine OwnFin.adv (B := s₁.setTop (mkF m 1 #[.val (.ref so)] [(.ref so)])) (fun _ k => XS.aloadN X0.here hx rfl (hb hby own_d7_0) rfl rfl k) ?_
  obtain ⟨T2, X2, e2, st2⟩ := getF X0 hx hZ hown (host := "") (Or.inl (hw _ (List.mem_of_getElem? (i := 49) rfl))) Via.refl e0 Vs1 (g := (mkF m 1 #[.val (.ref so)] [(.ref so)])) rfl rfl (hb hby own_d7_1)
  refine OwnFin.adv (B := T2.setTop (mkF m 4 #[.val (.ref so)] [(.ref ts1)])) (fun _ k => st2 _ k) ?_
  obtain ⟨cl3, Ar3, ck3, S3, M3, H3, G3⟩ := id As1
  refine OwnFin.adv (B := T2.setTop (mkF m 5 #[.val (.ref so)] [(.int (Int32.ofNat (cs).length))])) (fun _ k => X2.arraylength hx (by rw [e2]; exact Ar3.1) (State.isArrayOf_alike hZ.alike Ar3.2.1) (g := (mkF m 4 #[.val (.ref so)] [(.ref ts1)])) rfl rfl (hb hby own_d7_4) _ (by rw [len_of S3 M3]; exact k)) ?_
  refine OwnFin.adv (B := T2.setTop (mkF m 6 #[.val (.ref so)] [(.ref so), (.int (Int32.ofNat (cs).length))])) (fun _ k => XS.aloadN X2.here hx rfl (hb hby own_d7_5) rfl rfl k) ?_
  obtain ⟨cq4, kq4, q4a, q4b, q4c⟩ := isOf hZ e2 Es1
  obtain ⟨_, _, ⟨T4, L4, k4, n4⟩, -, X4, ⟨Lc4, hQ4, l4, y4, z4⟩, st4⟩ := X2.virtualBack hx (y := (⟨"java/lang/String", "coder", "()B"⟩ : MethodName)) (z := (⟨"java/lang/String", "coder", "()B"⟩ : MethodName)) hown (mvT hZ (hw _ (List.mem_of_getElem? (i := 50) rfl))) (mvT hZ (hw _ (List.mem_of_getElem? (i := 51) rfl))) (notFace_of_selects (args := #[]) (mvT hZ (hw _ (List.mem_of_getElem? (i := 53) rfl)))) (mvT hZ (hw _ (List.mem_of_getElem? (i := 53) rfl))) (mvT hZ (hw _ (List.mem_of_getElem? (i := 52) rfl))) (by decide) (backOf (W := 1) (own_coder l Z a0 hw [] so zc h0 n0 (by omega) O0 SCS hzc Cs1) hZ (hw _ (List.mem_of_getElem? (i := 54) rfl)) (hw _ (List.mem_of_getElem? (i := 22) rfl)) (by decide) (by decide)) q4a q4c (g := (mkF m 6 #[.val (.ref so)] [(.ref so), (.int (Int32.ofNat (cs).length))])) rfl (by rw [hml]; rfl) (Steps.refl _) (argsL := []) (rest := [(.int (Int32.ofNat (cs).length))]) (lenOf own_pd_x28x29B rfl) rfl (by show 2 * 0 + _ ≤ _; exact Nat.le_of_eq rfl) (hb hby own_d7_6) (fun _ _ => ⟨rfl, e2, (by decide : 0 + 0 ≤ _), (by decide : 0 + 0 ≤ _)⟩)
  dsimp only [Pt.U, Pt.locs, Pt.cells, Pt.slots] at X4 l4 y4 z4 st4 hQ4
  subst l4 y4 z4
  obtain ⟨rfl, N4q, eh4⟩ := hQ4
  have N4 := Fr.app N0 N4q
  refine OwnFin.adv (B := T4.setTop (mkF m 9 #[.val (.ref so)] [(.int (0 : Int32)), (.int (Int32.ofNat (cs).length))])) (fun _ k => st4.trans k) ?_
  refine OwnFin.adv (B := T4.setTop (mkF m 10 #[.val (.ref so)] [(.int ((Int32.ofNat (cs).length) >>> ((0 : Int32) &&& 31)))])) (fun _ k => XS.ishr X4.here hx rfl (hb hby own_d7_9) rfl k) ?_
  rw [show (((Int32.ofNat (cs).length) >>> ((0 : Int32) &&& 31)) : Int32) = (Int32.ofNat (cs).length) from own_shr0 _]
  obtain ⟨fs, hr, hrun, hended, hW, hsame⟩ := X4.leave (v := some (.int (Int32.ofNat (cs).length))) (fun h => by rw [Bd.returns] at h; cases h)
  refine OwnFin.leaf hP' ⟨_, _, own_retI X4 hx Bd.returns (hb hby own_d7_10) hr, hrun, hended, _, _, rfl, ?_, ⟨_, rfl⟩, hW, hsame.mono (by decide) (by decide)⟩
  exact ⟨rfl, N4, eh4⟩
theorem own_d47_0 : decode jdk_42_method_154_code 0 = .ok (.getstatic 38, 3) := by decide +kernel
theorem own_d47_3 : decode jdk_42_method_154_code 3 = .ok (.ifCond .eq 14, 3) := by decide +kernel
theorem own_d47_6 : decode jdk_42_method_154_code 6 = .ok (.aload_n 0, 1) := by decide +kernel
theorem own_d47_7 : decode jdk_42_method_154_code 7 = .ok (.getfield 15, 3) := by decide +kernel
theorem own_d47_10 : decode jdk_42_method_154_code 10 = .ok (.ifCond .ne 7, 3) := by decide +kernel
theorem own_d47_13 : decode jdk_42_method_154_code 13 = .ok (.iconst 1, 1) := by decide +kernel
theorem own_d47_14 : decode jdk_42_method_154_code 14 = .ok (.goto 4, 3) := by decide +kernel
theorem own_d47_18 : decode jdk_42_method_154_code 18 = .ok (.ireturn, 1) := by decide +kernel
theorem own_ef_strL1 (m : MethodId) (x0 : Addr) : entryFrame m #[(.ref x0)] 1 = mkF m 0 #[.val (.ref x0)] [] := by first | (simp [entryFrame, mkF, argsToLocals, Value.category]; done) | rfl
def own_Q_strL1 (Z : State) (so : Addr) (zc : Int32) (h0 : Heap) (n0 : Nat) (v : Option Value) (h : Heap) (L : List Loc) : Prop := v = some (.int (1 : Int32)) ∧ Fr n0 L ∧ h = h0
set_option maxRecDepth 65536 in
set_option maxHeartbeats 40000000 in
theorem own_strL1 (l : Launch) (Z : State) (a0 : Array Value) (hw : ∀ d ∈ tables_1, d.before a0 Z = true) (ws : List Jvm.Cond) (so : Addr) (zc : Int32) (h0 : Heap) (n0 : Nat) (Z0 : n0 ≤ h0.size) (O0 : Old Z n0 h0) (SCS : Sta Z Z.heap "java/lang/String" "COMPACT_STRINGS" "Z" (.int zc)) (hzc : ¬ zc = 0) (C : Fld Z h0 so "java/lang/String" "coder" "B" (.int (0 : Int32))) :
    MetFree l (⟨"java/lang/String", "isLatin1", "()Z"⟩ : MethodName) (head1 (Jvm.Cond.code (⟨"java/lang/String", "isLatin1", "()Z"⟩ : MethodName) jdk_42_method_154_code 1 (some .boolean) :: ws) ({ frames := 0, cells := 0, slots := 0, locals := 0 } : Room)) (fun A0 U0 => A0 = #[(.ref so)] ∧ Z.Warmed39 U0.vm ∧ U0.heap = h0) (fun _ _ _ _ _ => True) (fun _ U0 o0 U1 => ∃ v0 L0, o0 = .returned v0 ∧ own_Q_strL1 Z so zc h0 n0 v0 U1.heap L0 ∧ FrameEnd U0 o0 U1 L0 ({ frames := 0, cells := 0, slots := 0, locals := 0 } : Room).cells ({ frames := 0, cells := 0, slots := 0, locals := 0 } : Room).slots) := by
  refine MetFree.of_bodySF (plainFor_of_name own_pn_java_lang_String) hisR ?_
  intro p e s m args below meth c s₁ Bd hml0 hP hK
  obtain ⟨rfl, hZ, hh⟩ := hP
  have hZs0 := hZ
  have hZs := hZ
  have hx := Bd.exec
  have hby := Bd.bytes
  have hby_ := hby
  have hml : c.maxLocals = 1 := hml0
  have hown : s.vm.findClass "java/lang/String" = some m.cls := findClass_of_methodNamed Bd.named
  have hnm := (name_of_methodNamed Bd.named Bd.method).1
  have X0 : Stand p l e ({ frames := 0, cells := 0, slots := 0, locals := 0 } : Room) s m #[(.ref so)] below meth c s₁ [] 0 0 := Stand.of_body Bd
  have e0 : s₁.heap = h0 := by rw [← hh, Bd.state]; rfl
  have N0 := Fr.nil n0
  refine OwnFin.entry (own_ef_strL1 m so) (fun P' hP' => ?_)
  obtain ⟨T1, X1, e1, st1⟩ := getS2 X0 hx hZ hown (host := "") (Or.inl (hw _ (List.mem_of_getElem? (i := 55) rfl))) Via.refl e0 (own_staK SCS O0) (g := (mkF m 0 #[.val (.ref so)] [])) rfl (hb hby own_d47_0)
  refine OwnFin.adv (B := T1.setTop (mkF m 3 #[.val (.ref so)] [(.int zc)])) (fun _ k => st1 _ k) ?_
  have hc3_2 : ¬ (zc = (0 : Int32)) := hzc
  refine OwnFin.adv (B := T1.setTop (mkF m 6 #[.val (.ref so)] [])) (fun _ k => XS.ifNo X1.here hx rfl (hb hby own_d47_3) rfl ((if0 _ _).trans (feq hc3_2).1) k) ?_
  refine OwnFin.adv (B := T1.setTop (mkF m 7 #[.val (.ref so)] [(.ref so)])) (fun _ k => XS.aloadN X1.here hx rfl (hb hby own_d47_6) rfl rfl k) ?_
  obtain ⟨T2, X2, e2, st2⟩ := getF X1 hx hZ hown (host := "") (Or.inl (hw _ (List.mem_of_getElem? (i := 56) rfl))) Via.refl e1 C (g := (mkF m 7 #[.val (.ref so)] [(.ref so)])) rfl rfl (hb hby own_d47_7)
  refine OwnFin.adv (B := T2.setTop (mkF m 10 #[.val (.ref so)] [(.int (0 : Int32))])) (fun _ k => st2 _ k) ?_
  have hc10_5 : (0 : Int32) = (0 : Int32) := rfl
  refine OwnFin.adv (B := T2.setTop (mkF m 13 #[.val (.ref so)] [])) (fun _ k => XS.ifNo X2.here hx rfl (hb hby own_d47_10) rfl ((if0 _ _).trans (teq hc10_5).2) k) ?_
  refine OwnFin.adv (B := T2.setTop (mkF m 14 #[.val (.ref so)] [(.int (1 : Int32))])) (fun _ k => XS.iconst X2.here hx rfl (hb hby own_d47_13) k) ?_
  refine OwnFin.adv (B := T2.setTop (mkF m 18 #[.val (.ref so)] [(.int (1 : Int32))])) (fun _ k => XS.goto X2.here hx rfl (pc0 := 14) (pc' := 18) rfl (hb hby own_d47_14) (by decide) (by decide) k) ?_
  obtain ⟨fs, hr, hrun, hended, hW, hsame⟩ := X2.leave (v := some (.int (1 : Int32))) (fun h => by rw [Bd.returns] at h; cases h)
  refine OwnFin.leaf hP' ⟨_, _, retN X2 hx (t := .boolean) Bd.returns (by simp) (hb hby own_d47_18) hr, hrun, hended, _, _, rfl, ?_, ⟨_, rfl⟩, hW, hsame.mono (by decide) (by decide)⟩
  exact ⟨rfl, N0, e2⟩
theorem own_d50_0 : decode jdk_41_method_11_code 0 = .ok (.iload_n 0, 1) := by decide +kernel
theorem own_d50_1 : decode jdk_41_method_11_code 1 = .ok (.ifCond .lt 8, 3) := by decide +kernel
theorem own_d50_4 : decode jdk_41_method_11_code 4 = .ok (.iload_n 0, 1) := by decide +kernel
theorem own_d50_5 : decode jdk_41_method_11_code 5 = .ok (.iload_n 1, 1) := by decide +kernel
theorem own_d50_6 : decode jdk_41_method_11_code 6 = .ok (.if_icmp .lt 10, 3) := by decide +kernel
theorem own_d50_16 : decode jdk_41_method_11_code 16 = .ok (.iload_n 0, 1) := by decide +kernel
theorem own_d50_17 : decode jdk_41_method_11_code 17 = .ok (.ireturn, 1) := by decide +kernel
theorem own_ef_pcChk (m : MethodId) (x0 : Int32) (x1 : Int32) (x2 : Value) (hx2 : x2.isRef = true) : entryFrame m #[(.int x0), (.int x1), x2] 3 = mkF m 0 #[.val (.int x0), .val (.int x1), .val x2] [] := by rcases ref_cases hx2 with rfl | ⟨_, rfl⟩ <;> first | (simp [entryFrame, mkF, argsToLocals, Value.category]; done) | rfl
theorem own_pn_jdk_internal_util_Preconditions : plainName "jdk/internal/util/Preconditions" = true := by first | (simp [plainName, overriddenIn]; done) | decide +kernel
def own_Q_pcChk (Z : State) (fm : Value) (ix ln : Nat) (h0 : Heap) (n0 : Nat) (v : Option Value) (h : Heap) (L : List Loc) : Prop := v = some (.int (Int32.ofNat ix)) ∧ Fr n0 L ∧ h = h0
set_option maxRecDepth 65536 in
set_option maxHeartbeats 40000000 in
theorem own_pcChk (l : Launch) (Z : State) (a0 : Array Value) (hw : ∀ d ∈ tables_1, d.before a0 Z = true) (ws : List Jvm.Cond) (fm : Value) (ix ln : Nat) (h0 : Heap) (n0 : Nat) (Z0 : n0 ≤ h0.size) (hix : ix < ln) (hln : ln ≤ 4000) (hr_fm : fm.isRef = true) :
    MetFree l (⟨"jdk/internal/util/Preconditions", "checkIndex", "(IILjava/util/function/BiFunction;)I"⟩ : MethodName) (head1 (Jvm.Cond.code (⟨"jdk/internal/util/Preconditions", "checkIndex", "(IILjava/util/function/BiFunction;)I"⟩ : MethodName) jdk_41_method_11_code 3 (some .int) :: ws) ({ frames := 0, cells := 0, slots := 0, locals := 0 } : Room)) (fun A0 U0 => A0 = #[(.int (Int32.ofNat ix)), (.int (Int32.ofNat ln)), fm] ∧ Z.Warmed39 U0.vm ∧ U0.heap = h0) (fun _ _ _ _ _ => True) (fun _ U0 o0 U1 => ∃ v0 L0, o0 = .returned v0 ∧ own_Q_pcChk Z fm ix ln h0 n0 v0 U1.heap L0 ∧ FrameEnd U0 o0 U1 L0 ({ frames := 0, cells := 0, slots := 0, locals := 0 } : Room).cells ({ frames := 0, cells := 0, slots := 0, locals := 0 } : Room).slots) := by
  refine MetFree.of_bodySF (plainFor_of_name own_pn_jdk_internal_util_Preconditions) hisR ?_
  intro p e s m args below meth c s₁ Bd hml0 hP hK
  obtain ⟨rfl, hZ, hh⟩ := hP
  have hZs0 := hZ
  have hZs := hZ
  have hx := Bd.exec
  have hby := Bd.bytes
  have hby_ := hby
  have hml : c.maxLocals = 3 := hml0
  have hown : s.vm.findClass "jdk/internal/util/Preconditions" = some m.cls := findClass_of_methodNamed Bd.named
  have hnm := (name_of_methodNamed Bd.named Bd.method).1
  have X0 : Stand p l e ({ frames := 0, cells := 0, slots := 0, locals := 0 } : Room) s m #[(.int (Int32.ofNat ix)), (.int (Int32.ofNat ln)), fm] below meth c s₁ [] 0 0 := Stand.of_body Bd
  have e0 : s₁.heap = h0 := by rw [← hh, Bd.state]; rfl
  have N0 := Fr.nil n0
  refine OwnFin.entry (own_ef_pcChk m (Int32.ofNat ix) (Int32.ofNat ln) fm hr_fm) (fun P' hP' => ?_)
  refine OwnFin.adv (B := s₁.setTop (mkF m 1 #[.val (.int (Int32.ofNat ix)), .val (.int (Int32.ofNat ln)), .val fm] [(.int (Int32.ofNat ix))])) (fun _ k => XS.iloadN X0.here hx rfl (hb hby own_d50_0) rfl k) ?_
  have hc1_2 : ¬ ((Int32.ofNat ix) < (0 : Int32)) := own_nn (by omega)
  refine OwnFin.adv (B := s₁.setTop (mkF m 4 #[.val (.int (Int32.ofNat ix)), .val (.int (Int32.ofNat ln)), .val fm] [])) (fun _ k => XS.ifNo X0.here hx rfl (hb hby own_d50_1) rfl ((if0 _ _).trans (flt hc1_2).1) k) ?_
  refine OwnFin.adv (B := s₁.setTop (mkF m 5 #[.val (.int (Int32.ofNat ix)), .val (.int (Int32.ofNat ln)), .val fm] [(.int (Int32.ofNat ix))])) (fun _ k => XS.iloadN X0.here hx rfl (hb hby own_d50_4) rfl k) ?_
  refine OwnFin.adv (B := s₁.setTop (mkF m 6 #[.val (.int (Int32.ofNat ix)), .val (.int (Int32.ofNat ln)), .val fm] [(.int (Int32.ofNat ln)), (.int (Int32.ofNat ix))])) (fun _ k => XS.iloadN X0.here hx rfl (hb hby own_d50_5) rfl k) ?_
  have hc6_5 : (Int32.ofNat ix) < (Int32.ofNat ln) := (own_ltn (by omega) (by omega)).mpr hix
  refine OwnFin.adv (B := s₁.setTop (mkF m 16 #[.val (.int (Int32.ofNat ix)), .val (.int (Int32.ofNat ln)), .val fm] [])) (fun _ k => XS.icmpYes X0.here hx rfl (pc0 := 6) (pc' := 16) rfl (hb hby own_d50_6) rfl (tlt hc6_5).1 (by decide) (by decide) k) ?_
  refine OwnFin.adv (B := s₁.setTop (mkF m 17 #[.val (.int (Int32.ofNat ix)), .val (.int (Int32.ofNat ln)), .val fm] [(.int (Int32.ofNat ix))])) (fun _ k => XS.iloadN X0.here hx rfl (hb hby own_d50_16) rfl k) ?_
  obtain ⟨fs, hr, hrun, hended, hW, hsame⟩ := X0.leave (v := some (.int (Int32.ofNat ix))) (fun h => by rw [Bd.returns] at h; cases h)
  refine OwnFin.leaf hP' ⟨_, _, own_retI X0 hx Bd.returns (hb hby own_d50_17) hr, hrun, hended, _, _, rfl, ?_, ⟨_, rfl⟩, hW, hsame.mono (by decide) (by decide)⟩
  exact ⟨rfl, N0, e0⟩
theorem own_d49_0 : decode jdk_42_method_155_code 0 = .ok (.iload_n 0, 1) := by decide +kernel
theorem own_d49_1 : decode jdk_42_method_155_code 1 = .ok (.iload_n 1, 1) := by decide +kernel
theorem own_d49_2 : decode jdk_42_method_155_code 2 = .ok (.getstatic 1053, 3) := by decide +kernel
theorem own_pd_x28IILjavax2futilx2ffunctionx2fBiFunctionx3bx29I : parseMethodDescriptor "(IILjava/util/function/BiFunction;)I" = some ⟨[.int, .int, (.object "java/util/function/BiFunction")], some .int⟩ := by decide +kernel
theorem own_d49_5 : decode jdk_42_method_155_code 5 = .ok (.invokestatic 1059, 3) := by decide +kernel
theorem own_d49_8 : decode jdk_42_method_155_code 8 = .ok (.pop, 1) := by decide +kernel
theorem own_d49_9 : decode jdk_42_method_155_code 9 = .ok (.return_, 1) := by decide +kernel
theorem own_ef_stChk (m : MethodId) (x0 : Int32) (x1 : Int32) : entryFrame m #[(.int x0), (.int x1)] 2 = mkF m 0 #[.val (.int x0), .val (.int x1)] [] := by first | (simp [entryFrame, mkF, argsToLocals, Value.category]; done) | rfl
def own_Q_stChk (Z : State) (fm : Value) (ix ln : Nat) (h0 : Heap) (n0 : Nat) (v : Option Value) (h : Heap) (L : List Loc) : Prop := v = none ∧ Fr n0 L ∧ h = h0
set_option maxRecDepth 65536 in
set_option maxHeartbeats 40000000 in
theorem own_stChk (l : Launch) (Z : State) (a0 : Array Value) (hw : ∀ d ∈ tables_1, d.before a0 Z = true) (ws : List Jvm.Cond) (fm : Value) (ix ln : Nat) (h0 : Heap) (n0 : Nat) (Z0 : n0 ≤ h0.size) (O0 : Old Z n0 h0) (SFM : Sta Z Z.heap "jdk/internal/util/Preconditions" "SIOOBE_FORMATTER" "Ljava/util/function/BiFunction;" fm) (rfm : fm.isRef = true) (hix : ix < ln) (hln : ln ≤ 4000) :
    MetFree l (⟨"java/lang/String", "checkIndex", "(II)V"⟩ : MethodName) (head1 (Jvm.Cond.code (⟨"java/lang/String", "checkIndex", "(II)V"⟩ : MethodName) jdk_42_method_155_code 2 none :: ws) ({ frames := 1, cells := 0, slots := 0, locals := 14 } : Room)) (fun A0 U0 => A0 = #[(.int (Int32.ofNat ix)), (.int (Int32.ofNat ln))] ∧ Z.Warmed39 U0.vm ∧ U0.heap = h0) (fun _ _ _ _ _ => True) (fun _ U0 o0 U1 => ∃ v0 L0, o0 = .returned v0 ∧ own_Q_stChk Z fm ix ln h0 n0 v0 U1.heap L0 ∧ FrameEnd U0 o0 U1 L0 ({ frames := 1, cells := 0, slots := 0, locals := 14 } : Room).cells ({ frames := 1, cells := 0, slots := 0, locals := 14 } : Room).slots) := by
  refine MetFree.of_bodySF (plainFor_of_name own_pn_java_lang_String) hisR ?_
  intro p e s m args below meth c s₁ Bd hml0 hP hK
  obtain ⟨rfl, hZ, hh⟩ := hP
  have hZs0 := hZ
  have hZs := hZ
  have hx := Bd.exec
  have hby := Bd.bytes
  have hby_ := hby
  have hml : c.maxLocals = 2 := hml0
  have hown : s.vm.findClass "java/lang/String" = some m.cls := findClass_of_methodNamed Bd.named
  have hnm := (name_of_methodNamed Bd.named Bd.method).1
  have X0 : Stand p l e ({ frames := 1, cells := 0, slots := 0, locals := 14 } : Room) s m #[(.int (Int32.ofNat ix)), (.int (Int32.ofNat ln))] below meth c s₁ [] 0 0 := Stand.of_body Bd
  have e0 : s₁.heap = h0 := by rw [← hh, Bd.state]; rfl
  have N0 := Fr.nil n0
  refine OwnFin.entry (own_ef_stChk m (Int32.ofNat ix) (Int32.ofNat ln)) (fun P' hP' => ?_)
  have hr_fm := rfm
  refine OwnFin.adv (B := s₁.setTop (mkF m 1 #[.val (.int (Int32.ofNat ix)), .val (.int (Int32.ofNat ln))] [(.int (Int32.ofNat ix))])) (fun _ k => XS.iloadN X0.here hx rfl (hb hby own_d49_0) rfl k) ?_
  refine OwnFin.adv (B := s₁.setTop (mkF m 2 #[.val (.int (Int32.ofNat ix)), .val (.int (Int32.ofNat ln))] [(.int (Int32.ofNat ln)), (.int (Int32.ofNat ix))])) (fun _ k => XS.iloadN X0.here hx rfl (hb hby own_d49_1) rfl k) ?_
  obtain ⟨T1, X1, e1, st1⟩ := getS2 X0 hx hZ hown (host := "") (Or.inl (hw _ (List.mem_of_getElem? (i := 286) rfl))) Via.refl e0 (own_staK SFM O0) (g := (mkF m 2 #[.val (.int (Int32.ofNat ix)), .val (.int (Int32.ofNat ln))] [(.int (Int32.ofNat ln)), (.int (Int32.ofNat ix))])) rfl (hb hby own_d49_2)
  refine OwnFin.adv (B := T1.setTop (mkF m 5 #[.val (.int (Int32.ofNat ix)), .val (.int (Int32.ofNat ln))] [fm, (.int (Int32.ofNat ln)), (.int (Int32.ofNat ix))])) (fun _ k => st1 _ k) ?_
  obtain ⟨_, _, ⟨T2, L2, k2, n2⟩, -, X2, ⟨Lc2, hQ2, l2, y2, z2⟩, st2⟩ := Jvm.LawKit.callS X1 hx (y := (⟨"jdk/internal/util/Preconditions", "checkIndex", "(IILjava/util/function/BiFunction;)I"⟩ : MethodName)) hown (mvT hZ (hw _ (List.mem_of_getElem? (i := 288) rfl))) (mvT hZ (hw _ (List.mem_of_getElem? (i := 289) rfl))) (mvT hZ (hw _ (List.mem_of_getElem? (i := 287) rfl))) (mvT hZ (hw _ (List.mem_of_getElem? (i := 290) rfl))) (by decide) (backOf (W := 0) (own_pcChk l Z a0 hw [] fm ix ln h0 n0 (by omega) hix hln rfm) hZ (hw _ (List.mem_of_getElem? (i := 290) rfl)) (hw _ (List.mem_of_getElem? (i := 287) rfl)) (by decide) (by decide)) (g := (mkF m 5 #[.val (.int (Int32.ofNat ix)), .val (.int (Int32.ofNat ln))] [fm, (.int (Int32.ofNat ln)), (.int (Int32.ofNat ix))])) rfl (by rw [hml]; rfl) (argsL := [(.int (Int32.ofNat ix)), (.int (Int32.ofNat ln)), fm]) (rest := []) (lenOf own_pd_x28IILjavax2futilx2ffunctionx2fBiFunctionx3bx29I rfl) rfl (by show 2 * 0 + _ ≤ _; exact Nat.le_of_eq rfl) (hb hby own_d49_5) (fun _ _ => ⟨rfl, e1, (by decide : 0 + 0 ≤ _), (by decide : 0 + 0 ≤ _)⟩)
  dsimp only [Pt.U, Pt.locs, Pt.cells, Pt.slots] at X2 l2 y2 z2 st2 hQ2
  subst l2 y2 z2
  obtain ⟨rfl, N2q, eh2⟩ := hQ2
  have N2 := Fr.app N0 N2q
  refine OwnFin.adv (B := T2.setTop (mkF m 8 #[.val (.int (Int32.ofNat ix)), .val (.int (Int32.ofNat ln))] [(.int (Int32.ofNat ix))])) (fun _ k => st2 _ k) ?_
  refine OwnFin.adv (B := T2.setTop (mkF m 9 #[.val (.int (Int32.ofNat ix)), .val (.int (Int32.ofNat ln))] [])) (fun _ k => XS.pop X2.here hx rfl (hb hby own_d49_8) rfl rfl k) ?_
  obtain ⟨fs, hr, hrun, hended, hW, hsame⟩ := X2.leave (v := none) (fun _ => rfl)
  refine OwnFin.leaf hP' ⟨_, _, X2.returnOut hx Bd.returns (hb hby own_d49_9) hr, hrun, hended, _, _, rfl, ?_, ⟨_, rfl⟩, hW, hsame.mono (by decide) (by decide)⟩
  exact ⟨rfl, N2, eh2⟩
theorem own_d48_0 : decode jdk_43_method_2_code 0 = .ok (.iload_n 1, 1) := by decide +kernel
theorem own_d48_1 : decode jdk_43_method_2_code 1 = .ok (.aload_n 0, 1) := by decide +kernel
theorem own_d48_2 : decode jdk_43_method_2_code 2 = .ok (.arraylength, 1) := by decide +kernel
theorem own_d48_3 : decode jdk_43_method_2_code 3 = .ok (.invokestatic 9, 3) := by decide +kernel
theorem own_d48_6 : decode jdk_43_method_2_code 6 = .ok (.aload_n 0, 1) := by decide +kernel
theorem own_d48_7 : decode jdk_43_method_2_code 7 = .ok (.iload_n 1, 1) := by decide +kernel
theorem own_d48_8 : decode jdk_43_method_2_code 8 = .ok (.baload, 1) := by decide +kernel
theorem own_d48_9 : decode jdk_43_method_2_code 9 = .ok (.sipush 255, 3) := by decide +kernel
theorem own_d48_12 : decode jdk_43_method_2_code 12 = .ok (.iand, 1) := by decide +kernel
theorem own_d48_13 : decode jdk_43_method_2_code 13 = .ok (.i2c, 1) := by decide +kernel
theorem own_d48_14 : decode jdk_43_method_2_code 14 = .ok (.ireturn, 1) := by decide +kernel
theorem own_ef_l1ch (m : MethodId) (x0 : Addr) (x1 : Int32) : entryFrame m #[(.ref x0), (.int x1)] 2 = mkF m 0 #[.val (.ref x0), .val (.int x1)] [] := by first | (simp [entryFrame, mkF, argsToLocals, Value.category]; done) | rfl
theorem own_pn_java_lang_StringLatin1 : plainName "java/lang/StringLatin1" = true := by first | (simp [plainName, overriddenIn]; done) | decide +kernel
def own_Q_l1ch (Z : State) (da : Addr) (kd : ClassId) (cs : List Int32) (ix : Nat) (fm : Value) (h0 : Heap) (n0 : Nat) (v : Option Value) (h : Heap) (L : List Loc) : Prop := v = some (.int (cs.getD ix 0)) ∧ Fr n0 L ∧ h = h0
set_option maxRecDepth 65536 in
set_option maxHeartbeats 40000000 in
theorem own_l1ch (l : Launch) (Z : State) (a0 : Array Value) (hw : ∀ d ∈ tables_1, d.before a0 Z = true) (ws : List Jvm.Cond) (da : Addr) (kd : ClassId) (cs : List Int32) (ix : Nat) (fm : Value) (h0 : Heap) (n0 : Nat) (Z0 : n0 ≤ h0.size) (O0 : Old Z n0 h0) (SFM : Sta Z Z.heap "jdk/internal/util/Preconditions" "SIOOBE_FORMATTER" "Ljava/util/function/BiFunction;" fm) (rfm : fm.isRef = true) (Va : Arv Z h0 da kd .byte (Int32.ofNat cs.length) ((cs.map fun c => c.toInt8.toInt32).map Value.int) (.int (0 : Int32))) (hp : ∀ c ∈ cs, ¬ c < 0 ∧ ¬ (255 : Int32) < c) (hlen : cs.length ≤ 4000) (hix : ix < cs.length) :
    MetFree l (⟨"java/lang/StringLatin1", "charAt", "([BI)C"⟩ : MethodName) (head1 (Jvm.Cond.code (⟨"java/lang/StringLatin1", "charAt", "([BI)C"⟩ : MethodName) jdk_43_method_2_code 2 (some .char) :: ws) ({ frames := 2, cells := 0, slots := 0, locals := 27 } : Room)) (fun A0 U0 => A0 = #[(.ref da), (.int (Int32.ofNat ix))] ∧ Z.Warmed39 U0.vm ∧ U0.heap = h0) (fun _ _ _ _ _ => True) (fun _ U0 o0 U1 => ∃ v0 L0, o0 = .returned v0 ∧ own_Q_l1ch Z da kd cs ix fm h0 n0 v0 U1.heap L0 ∧ FrameEnd U0 o0 U1 L0 ({ frames := 2, cells := 0, slots := 0, locals := 27 } : Room).cells ({ frames := 2, cells := 0, slots := 0, locals := 27 } : Room).slots) := by
  refine MetFree.of_bodySF (plainFor_of_name own_pn_java_lang_StringLatin1) hisR ?_
  intro p e s m args below meth c s₁ Bd hml0 hP hK
  obtain ⟨rfl, hZ, hh⟩ := hP
  have hZs0 := hZ
  have hZs := hZ
  have hx := Bd.exec
  have hby := Bd.bytes
  have hby_ := hby
  have hml : c.maxLocals = 2 := hml0
  have hown : s.vm.findClass "java/lang/StringLatin1" = some m.cls := findClass_of_methodNamed Bd.named
  have hnm := (name_of_methodNamed Bd.named Bd.method).1
  have X0 : Stand p l e ({ frames := 2, cells := 0, slots := 0, locals := 27 } : Room) s m #[(.ref da), (.int (Int32.ofNat ix))] below meth c s₁ [] 0 0 := Stand.of_body Bd
  have e0 : s₁.heap = h0 := by rw [← hh, Bd.state]; rfl
  have N0 := Fr.nil n0
  refine OwnFin.entry (own_ef_l1ch m da (Int32.ofNat ix)) (fun P' hP' => ?_)
  refine OwnFin.adv (B := s₁.setTop (mkF m 1 #[.val (.ref da), .val (.int (Int32.ofNat ix))] [(.int (Int32.ofNat ix))])) (fun _ k => XS.iloadN X0.here hx rfl (hb hby own_d48_0) rfl k) ?_
  refine OwnFin.adv (B := s₁.setTop (mkF m 2 #[.val (.ref da), .val (.int (Int32.ofNat ix))] [(.ref da), (.int (Int32.ofNat ix))])) (fun _ k => XS.aloadN X0.here hx rfl (hb hby own_d48_1) rfl rfl k) ?_
  obtain ⟨cl1, Ar1, ck1, S1, M1, H1, G1⟩ := id Va
  refine OwnFin.adv (B := s₁.setTop (mkF m 3 #[.val (.ref da), .val (.int (Int32.ofNat ix))] [(.int (Int32.ofNat cs.length)), (.int (Int32.ofNat ix))])) (fun _ k => X0.arraylength hx (by rw [e0]; exact Ar1.1) (State.isArrayOf_alike hZ.alike Ar1.2.1) (g := (mkF m 2 #[.val (.ref da), .val (.int (Int32.ofNat ix))] [(.ref da), (.int (Int32.ofNat ix))])) rfl rfl (hb hby own_d48_2) _ (by rw [len_of S1 M1]; exact k)) ?_
  obtain ⟨_, _, ⟨T2, L2, k2, n2⟩, -, X2, ⟨Lc2, hQ2, l2, y2, z2⟩, st2⟩ := Jvm.LawKit.callS X0 hx (y := (⟨"java/lang/String", "checkIndex", "(II)V"⟩ : MethodName)) hown (mvT hZ (hw _ (List.mem_of_getElem? (i := 283) rfl))) (mvT hZ (hw _ (List.mem_of_getElem? (i := 284) rfl))) (mvT hZ (hw _ (List.mem_of_getElem? (i := 22) rfl))) (mvT hZ (hw _ (List.mem_of_getElem? (i := 285) rfl))) (by decide) (backOf (W := 0) (own_stChk l Z a0 hw [] fm ix cs.length h0 n0 (by omega) O0 SFM rfm hix (by omega)) hZ (hw _ (List.mem_of_getElem? (i := 285) rfl)) (hw _ (List.mem_of_getElem? (i := 22) rfl)) (by decide) (by decide)) (g := (mkF m 3 #[.val (.ref da), .val (.int (Int32.ofNat ix))] [(.int (Int32.ofNat cs.length)), (.int (Int32.ofNat ix))])) rfl (by rw [hml]; rfl) (argsL := [(.int (Int32.ofNat ix)), (.int (Int32.ofNat cs.length))]) (rest := []) (lenOf own_pd_x28IIx29V rfl) rfl (by show 2 * 0 + _ ≤ _; exact Nat.le_of_eq rfl) (hb hby own_d48_3) (fun _ _ => ⟨rfl, e0, (by decide : 0 + 0 ≤ _), (by decide : 0 + 0 ≤ _)⟩)
  dsimp only [Pt.U, Pt.locs, Pt.cells, Pt.slots] at X2 l2 y2 z2 st2 hQ2
  subst l2 y2 z2
  obtain ⟨rfl, N2q, eh2⟩ := hQ2
  have N2 := Fr.app N0 N2q
  refine OwnFin.adv (B := T2.setTop (mkF m 6 #[.val (.ref da), .val (.int (Int32.ofNat ix))] [])) (fun _ k => st2 _ k) ?_
  refine OwnFin.adv (B := T2.setTop (mkF m 7 #[.val (.ref da), .val (.int (Int32.ofNat ix))] [(.ref da)])) (fun _ k => XS.aloadN X2.here hx rfl (hb hby own_d48_6) rfl rfl k) ?_
  refine OwnFin.adv (B := T2.setTop (mkF m 8 #[.val (.ref da), .val (.int (Int32.ofNat ix))] [(.int (Int32.ofNat ix)), (.ref da)])) (fun _ k => XS.iloadN X2.here hx rfl (hb hby own_d48_7) rfl k) ?_
  obtain ⟨cl3, Ar3, ck3, S3, M3, H3, G3⟩ := id Va
  have hin3 : ¬ ((Int32.ofNat ix) < 0 ∨ cl3.slots.size ≤ ((Int32.ofNat ix)).toNatClampNeg) := inb_of S3 ⟨own_nn (by omega), (own_ltn (by omega) (by omega)).mpr hix⟩
  refine OwnFin.adv (B := T2.setTop (mkF m 9 #[.val (.ref da), .val (.int (Int32.ofNat ix))] [(.int (cs.getD ix 0).toInt8.toInt32)])) (fun _ k => X2.baloadBytes hx (j := (Int32.ofNat ix)) (v := (.int (cs.getD ix 0).toInt8.toInt32)) (by rw [eh2]; exact Ar3.1) (State.isArrayOf_alike hZ.alike Ar3.2.1) Ar3.2.2 hin3 (Has.at H3 hin3 (by rw [own_cl (by omega)]; exact own_getd hix)) (g := (mkF m 8 #[.val (.ref da), .val (.int (Int32.ofNat ix))] [(.int (Int32.ofNat ix)), (.ref da)])) rfl rfl (hb hby own_d48_8) _ k) ?_
  refine OwnFin.adv (B := T2.setTop (mkF m 12 #[.val (.ref da), .val (.int (Int32.ofNat ix))] [(.int (255 : Int32)), (.int (cs.getD ix 0).toInt8.toInt32)])) (fun _ k => XS.sipush X2.here hx rfl (hb hby own_d48_9) k) ?_
  refine OwnFin.adv (B := T2.setTop (mkF m 13 #[.val (.ref da), .val (.int (Int32.ofNat ix))] [(.int ((cs.getD ix 0).toInt8.toInt32 &&& (255 : Int32)))])) (fun _ k => XS.iand X2.here hx rfl (hb hby own_d48_12) rfl k) ?_
  refine OwnFin.adv (B := T2.setTop (mkF m 14 #[.val (.ref da), .val (.int (Int32.ofNat ix))] [(.int (((cs.getD ix 0).toInt8.toInt32 &&& (255 : Int32)).toUInt32.toUInt16.toUInt32.toInt32))])) (fun _ k => XS.i2c X2.here hx rfl (hb hby own_d48_13) rfl k) ?_
  rw [show ((((cs.getD ix 0).toInt8.toInt32 &&& (255 : Int32)).toUInt32.toUInt16.toUInt32.toInt32) : Int32) = (cs.getD ix 0) from own_chr (hp _ (own_gmem hix))]
  obtain ⟨fs, hr, hrun, hended, hW, hsame⟩ := X2.leave (v := some (.int (nar .char (cs.getD ix 0)))) (fun h => by rw [Bd.returns] at h; cases h)
  refine OwnFin.leaf hP' ⟨_, _, retN X2 hx (t := .char) Bd.returns (by simp) (hb hby own_d48_14) hr, hrun, hended, _, _, rfl, ?_, ⟨_, rfl⟩, hW, hsame.mono (by decide) (by decide)⟩
  exact ⟨by rw [own_narc (hp _ (own_gmem hix))], N2, eh2⟩
theorem OwnS.lat {Z : State} {h : Heap} {lim : Nat} {x : Addr} {cs : List Int32} (F : OwnS Z h lim x cs) : ∀ c ∈ cs, ¬ c < 0 ∧ ¬ (255 : Int32) < c := by
  obtain ⟨t, kb, f1, f2, f3, f4, r1, r2, r3, r4⟩ := F; exact r3
theorem OwnS.len {Z : State} {h : Heap} {lim : Nat} {x : Addr} {cs : List Int32} (F : OwnS Z h lim x cs) : cs.length ≤ 4000 := by
  obtain ⟨t, kb, f1, f2, f3, f4, r1, r2, r3, r4⟩ := F; exact r4
theorem own_d46_0 : decode jdk_42_method_56_code 0 = .ok (.aload_n 0, 1) := by decide +kernel
theorem own_d46_1 : decode jdk_42_method_56_code 1 = .ok (.invokevirtual 492, 3) := by decide +kernel
theorem own_d46_4 : decode jdk_42_method_56_code 4 = .ok (.ifCond .eq 12, 3) := by decide +kernel
theorem own_d46_7 : decode jdk_42_method_56_code 7 = .ok (.aload_n 0, 1) := by decide +kernel
theorem own_d46_8 : decode jdk_42_method_56_code 8 = .ok (.getfield 9, 3) := by decide +kernel
theorem own_d46_11 : decode jdk_42_method_56_code 11 = .ok (.iload_n 1, 1) := by decide +kernel
theorem own_pd_x28x5bBIx29C : parseMethodDescriptor "([BI)C" = some ⟨[(.array .byte), .int], some .char⟩ := by decide +kernel
theorem own_d46_12 : decode jdk_42_method_56_code 12 = .ok (.invokestatic 495, 3) := by decide +kernel
theorem own_d46_15 : decode jdk_42_method_56_code 15 = .ok (.ireturn, 1) := by decide +kernel
theorem own_ef_strCh (m : MethodId) (x0 : Addr) (x1 : Int32) : entryFrame m #[(.ref x0), (.int x1)] 2 = mkF m 0 #[.val (.ref x0), .val (.int x1)] [] := by first | (simp [entryFrame, mkF, argsToLocals, Value.category]; done) | rfl
def own_Q_strCh (Z : State) (so : Addr) (zc : Int32) (fm : Value) (lim ix : Nat) (cs : List Int32) (h0 : Heap) (n0 : Nat) (v : Option Value) (h : Heap) (L : List Loc) : Prop := v = some (.int (cs.getD ix 0)) ∧ Fr n0 L ∧ h = h0
set_option maxRecDepth 65536 in
set_option maxHeartbeats 40000000 in
theorem own_strCh (l : Launch) (Z : State) (a0 : Array Value) (hw : ∀ d ∈ tables_1, d.before a0 Z = true) (ws : List Jvm.Cond) (so : Addr) (zc : Int32) (fm : Value) (lim ix : Nat) (cs : List Int32) (h0 : Heap) (n0 : Nat) (Z0 : n0 ≤ h0.size) (O0 : Old Z n0 h0) (SCS : Sta Z Z.heap "java/lang/String" "COMPACT_STRINGS" "Z" (.int zc)) (hzc : ¬ zc = 0) (SFM : Sta Z Z.heap "jdk/internal/util/Preconditions" "SIOOBE_FORMATTER" "Ljava/util/function/BiFunction;" fm) (rfm : fm.isRef = true) (Fs : OwnS Z h0 lim so cs) (hix : ix < cs.length) :
    MetFree l (⟨"java/lang/String", "charAt", "(I)C"⟩ : MethodName) (head1 (Jvm.Cond.code (⟨"java/lang/String", "charAt", "(I)C"⟩ : MethodName) jdk_42_method_56_code 2 (some .char) :: ws) ({ frames := 3, cells := 0, slots := 0, locals := 40 } : Room)) (fun A0 U0 => A0 = #[(.ref so), (.int (Int32.ofNat ix))] ∧ Z.Warmed39 U0.vm ∧ U0.heap = h0) (fun _ _ _ _ _ => True) (fun _ U0 o0 U1 => ∃ v0 L0, o0 = .returned v0 ∧ own_Q_strCh Z so zc fm lim ix cs h0 n0 v0 U1.heap L0 ∧ FrameEnd U0 o0 U1 L0 ({ frames := 3, cells := 0, slots := 0, locals := 40 } : Room).cells ({ frames := 3, cells := 0, slots := 0, locals := 40 } : Room).slots) := by
  refine MetFree.of_bodySF (plainFor_of_name own_pn_java_lang_String) hisR ?_
  intro p e s m args below meth c s₁ Bd hml0 hP hK
  obtain ⟨rfl, hZ, hh⟩ := hP
  have hZs0 := hZ
  have hZs := hZ
  have hx := Bd.exec
  have hby := Bd.bytes
  have hby_ := hby
  have hml : c.maxLocals = 2 := hml0
  have hown : s.vm.findClass "java/lang/String" = some m.cls := findClass_of_methodNamed Bd.named
  have hnm := (name_of_methodNamed Bd.named Bd.method).1
  have X0 : Stand p l e ({ frames := 3, cells := 0, slots := 0, locals := 40 } : Room) s m #[(.ref so), (.int (Int32.ofNat ix))] below meth c s₁ [] 0 0 := Stand.of_body Bd
  have e0 : s₁.heap = h0 := by rw [← hh, Bd.state]; rfl
  have N0 := Fr.nil n0
  refine OwnFin.entry (own_ef_strCh m so (Int32.ofNat ix)) (fun P' hP' => ?_)
  obtain ⟨ts1, ks1, Es1, Vs1, Cs1, As1, lx1, lt1, hp1, l21⟩ := id Fs
  have lx1 := own_lt lx1
  have lt1 := own_lt lt1
  have ltx1 := own_lt Es1.lt
  have ltt1 := own_lt As1.lt
  refine OwnFin.adv (B := s₁.setTop (mkF m 1 #[.val (.ref so), .val (.int (Int32.ofNat ix))] [(.ref so)])) (fun _ k => XS.aloadN X0.here hx rfl (hb hby own_d46_0) rfl rfl k) ?_
  obtain ⟨cq2, kq2, q2a, q2b, q2c⟩ := isOf hZ e0 Es1
  obtain ⟨_, _, ⟨T2, L2, k2, n2⟩, -, X2, ⟨Lc2, hQ2, l2, y2, z2⟩, st2⟩ := X0.virtualBack hx (y := (⟨"java/lang/String", "isLatin1", "()Z"⟩ : MethodName)) (z := (⟨"java/lang/String", "isLatin1", "()Z"⟩ : MethodName)) hown (mvT hZ (hw _ (List.mem_of_getElem? (i := 274) rfl))) (mvT hZ (hw _ (List.mem_of_getElem? (i := 275) rfl))) (notFace_of_selects (args := #[]) (mvT hZ (hw _ (List.mem_of_getElem? (i := 277) rfl)))) (mvT hZ (hw _ (List.mem_of_getElem? (i := 277) rfl))) (mvT hZ (hw _ (List.mem_of_getElem? (i := 276) rfl))) (by decide) (backOf (W := 0) (own_strL1 l Z a0 hw [] so zc h0 n0 (by omega) O0 SCS hzc Cs1) hZ (hw _ (List.mem_of_getElem? (i := 278) rfl)) (hw _ (List.mem_of_getElem? (i := 22) rfl)) (by decide) (by decide)) q2a q2c (g := (mkF m 1 #[.val (.ref so), .val (.int (Int32.ofNat ix))] [(.ref so)])) rfl (by rw [hml]; rfl) (Steps.refl _) (argsL := []) (rest := []) (lenOf own_pd_x28x29Z rfl) rfl (by show 2 * 0 + _ ≤ _; exact Nat.le_of_eq rfl) (hb hby own_d46_1) (fun _ _ => ⟨rfl, e0, (by decide : 0 + 0 ≤ _), (by decide : 0 + 0 ≤ _)⟩)
  dsimp only [Pt.U, Pt.locs, Pt.cells, Pt.slots] at X2 l2 y2 z2 st2 hQ2
  subst l2 y2 z2
  obtain ⟨rfl, N2q, eh2⟩ := hQ2
  have N2 := Fr.app N0 N2q
  refine OwnFin.adv (B := T2.setTop (mkF m 4 #[.val (.ref so), .val (.int (Int32.ofNat ix))] [(.int (1 : Int32))])) (fun _ k => st2.trans k) ?_
  have hc4_3 : ¬ ((1 : Int32) = (0 : Int32)) := by decide
  refine OwnFin.adv (B := T2.setTop (mkF m 7 #[.val (.ref so), .val (.int (Int32.ofNat ix))] [])) (fun _ k => XS.ifNo X2.here hx rfl (hb hby own_d46_4) rfl ((if0 _ _).trans (feq hc4_3).1) k) ?_
  refine OwnFin.adv (B := T2.setTop (mkF m 8 #[.val (.ref so), .val (.int (Int32.ofNat ix))] [(.ref so)])) (fun _ k => XS.aloadN X2.here hx rfl (hb hby own_d46_7) rfl rfl k) ?_
  obtain ⟨T3, X3, e3, st3⟩ := getF X2 hx hZ hown (host := "") (Or.inl (hw _ (List.mem_of_getElem? (i := 49) rfl))) Via.refl eh2 Vs1 (g := (mkF m 8 #[.val (.ref so), .val (.int (Int32.ofNat ix))] [(.ref so)])) rfl rfl (hb hby own_d46_8)
  refine OwnFin.adv (B := T3.setTop (mkF m 11 #[.val (.ref so), .val (.int (Int32.ofNat ix))] [(.ref ts1)])) (fun _ k => st3 _ k) ?_
  refine OwnFin.adv (B := T3.setTop (mkF m 12 #[.val (.ref so), .val (.int (Int32.ofNat ix))] [(.int (Int32.ofNat ix)), (.ref ts1)])) (fun _ k => XS.iloadN X3.here hx rfl (hb hby own_d46_11) rfl k) ?_
  obtain ⟨_, _, ⟨T4, L4, k4, n4⟩, -, X4, ⟨Lc4, hQ4, l4, y4, z4⟩, st4⟩ := Jvm.LawKit.callS X3 hx (y := (⟨"java/lang/StringLatin1", "charAt", "([BI)C"⟩ : MethodName)) hown (mvT hZ (hw _ (List.mem_of_getElem? (i := 279) rfl))) (mvT hZ (hw _ (List.mem_of_getElem? (i := 280) rfl))) (mvT hZ (hw _ (List.mem_of_getElem? (i := 281) rfl))) (mvT hZ (hw _ (List.mem_of_getElem? (i := 282) rfl))) (by decide) (backOf (W := 0) (own_l1ch l Z a0 hw [] ts1 ks1 cs ix fm h0 n0 (by omega) O0 SFM rfm As1 hp1 l21 hix) hZ (hw _ (List.mem_of_getElem? (i := 282) rfl)) (hw _ (List.mem_of_getElem? (i := 281) rfl)) (by decide) (by decide)) (g := (mkF m 12 #[.val (.ref so), .val (.int (Int32.ofNat ix))] [(.int (Int32.ofNat ix)), (.ref ts1)])) rfl (by rw [hml]; rfl) (argsL := [(.ref ts1), (.int (Int32.ofNat ix))]) (rest := []) (lenOf own_pd_x28x5bBIx29C rfl) rfl (by show 2 * 0 + _ ≤ _; exact Nat.le_of_eq rfl) (hb hby own_d46_12) (fun _ _ => ⟨rfl, e3, (by decide : 0 + 0 ≤ _), (by decide : 0 + 0 ≤ _)⟩)
  dsimp only [Pt.U, Pt.locs, Pt.cells, Pt.slots] at X4 l4 y4 z4 st4 hQ4
  subst l4 y4 z4
  obtain ⟨rfl, N4q, eh4⟩ := hQ4
  have N4 := Fr.app N2 N4q
  refine OwnFin.adv (B := T4.setTop (mkF m 15 #[.val (.ref so), .val (.int (Int32.ofNat ix))] [(.int (cs.getD ix 0))])) (fun _ k => st4 _ k) ?_
  obtain ⟨fs, hr, hrun, hended, hW, hsame⟩ := X4.leave (v := some (.int (nar .char (cs.getD ix 0)))) (fun h => by rw [Bd.returns] at h; cases h)
  refine OwnFin.leaf hP' ⟨_, _, retN X4 hx (t := .char) Bd.returns (by simp) (hb hby own_d46_15) hr, hrun, hended, _, _, rfl, ?_, ⟨_, rfl⟩, hW, hsame.mono (by decide) (by decide)⟩
  exact ⟨by rw [own_narc ((OwnS.lat Fs) _ (own_gmem hix))], N4, eh4⟩
theorem own_put4 {vd vn : List Value} {cs : List Int32} {k0 cap cn : Nat} (hv : vn.length = cn) (hf : k0 + cs.length ≤ cn) (ht : vn.take cap = vd) (hk : k0 ≤ cap) : (vn.take k0 ++ ((cs.map fun c => c.toInt8.toInt32).map Value.int) ++ vn.drop (k0 + cs.length)).length = cn ∧ (vn.take k0 ++ ((cs.map fun c => c.toInt8.toInt32).map Value.int) ++ vn.drop (k0 + cs.length)).take (k0 + cs.length) = vd.take k0 ++ ((cs.map fun c => c.toInt8.toInt32).map Value.int) := by
  have q := own_put3 (us := ((cs.map fun c => c.toInt8.toInt32).map Value.int)) (k0 := k0) hv (by simpa using hf)
  rw [show ((cs.map fun c => c.toInt8.toInt32).map Value.int).length = cs.length from by simp] at q
  rw [own_takes ht hk] at q ⊢
  exact q

theorem own_d6_0 : decode jdk_68_method_22_code 0 = .ok (.aload_n 1, 1) := by decide +kernel
theorem own_d6_1 : decode jdk_68_method_22_code 1 = .ok (.ifnonnull 8, 3) := by decide +kernel
theorem own_d6_9 : decode jdk_68_method_22_code 9 = .ok (.aload_n 1, 1) := by decide +kernel
theorem own_d6_10 : decode jdk_68_method_22_code 10 = .ok (.invokevirtual 32, 3) := by decide +kernel
theorem own_d6_13 : decode jdk_68_method_22_code 13 = .ok (.istore_n 2, 1) := by decide +kernel
theorem own_d6_14 : decode jdk_68_method_22_code 14 = .ok (.aload_n 0, 1) := by decide +kernel
theorem own_d6_15 : decode jdk_68_method_22_code 15 = .ok (.aload_n 0, 1) := by decide +kernel
theorem own_d6_16 : decode jdk_68_method_22_code 16 = .ok (.getfield 79, 3) := by decide +kernel
theorem own_d6_19 : decode jdk_68_method_22_code 19 = .ok (.iload_n 2, 1) := by decide +kernel
theorem own_d6_20 : decode jdk_68_method_22_code 20 = .ok (.iadd, 1) := by decide +kernel
theorem own_d6_21 : decode jdk_68_method_22_code 21 = .ok (.invokevirtual 100, 3) := by decide +kernel
theorem own_d6_24 : decode jdk_68_method_22_code 24 = .ok (.aload_n 0, 1) := by decide +kernel
theorem own_d6_25 : decode jdk_68_method_22_code 25 = .ok (.aload_n 0, 1) := by decide +kernel
theorem own_d6_26 : decode jdk_68_method_22_code 26 = .ok (.getfield 79, 3) := by decide +kernel
theorem own_d6_29 : decode jdk_68_method_22_code 29 = .ok (.aload_n 1, 1) := by decide +kernel
theorem own_pd_x28ILjavax2flangx2fStringx3bx29V : parseMethodDescriptor "(ILjava/lang/String;)V" = some ⟨[.int, (.object "java/lang/String")], none⟩ := by decide +kernel
theorem own_d6_30 : decode jdk_68_method_22_code 30 = .ok (.invokevirtual 208, 3) := by decide +kernel
theorem own_d6_33 : decode jdk_68_method_22_code 33 = .ok (.aload_n 0, 1) := by decide +kernel
theorem own_d6_34 : decode jdk_68_method_22_code 34 = .ok (.dup, 1) := by decide +kernel
theorem own_d6_35 : decode jdk_68_method_22_code 35 = .ok (.getfield 79, 3) := by decide +kernel
theorem own_d6_38 : decode jdk_68_method_22_code 38 = .ok (.iload_n 2, 1) := by decide +kernel
theorem own_d6_39 : decode jdk_68_method_22_code 39 = .ok (.iadd, 1) := by decide +kernel
theorem own_d6_40 : decode jdk_68_method_22_code 40 = .ok (.putfield 79, 3) := by decide +kernel
theorem own_d6_43 : decode jdk_68_method_22_code 43 = .ok (.aload_n 0, 1) := by decide +kernel
theorem own_d6_44 : decode jdk_68_method_22_code 44 = .ok (.areturn, 1) := by decide +kernel
theorem own_ef_asbAppX (m : MethodId) (x0 : Addr) (x1 : Addr) : entryFrame m #[(.ref x0), (.ref x1)] 3 = mkF m 0 #[.val (.ref x0), .val (.ref x1), .unset] [] := by first | (simp [entryFrame, mkF, argsToLocals, Value.category]; done) | rfl
def own_Q_asbAppX (Z : State) (ob so da : Addr) (kd : ClassId) (vd : List Value) (zc : Int32) (cap k0 lim : Nat) (cs : List Int32) (h0 : Heap) (n0 : Nat) (v : Option Value) (h : Heap) (L : List Loc) : Prop := v = some (.ref ob) ∧ Fr n0 L ∧ Keep h0 h [ob, da] ∧ ∃ (dn : Addr) (kn : ClassId) (vn : List Value) (cn : Nat), Fld Z h ob "java/lang/AbstractStringBuilder" "value" "[B" (.ref dn) ∧ Fld Z h ob "java/lang/AbstractStringBuilder" "coder" "B" (.int (0 : Int32)) ∧ Fld Z h ob "java/lang/AbstractStringBuilder" "count" "I" (.int (Int32.ofNat (k0 + cs.length))) ∧ Arv Z h dn kn .byte (Int32.ofNat cn) vn (.int (0 : Int32)) ∧ vn.length = cn ∧ vn.take (k0 + cs.length) = vd.take k0 ++ ((cs.map fun c => c.toInt8.toInt32).map Value.int) ∧ k0 + cs.length ≤ cn ∧ (cn = cap ∨ (cap < k0 + cs.length ∧ cn = cap + (cap + 2))) ∧ n0 ≤ dn ∧ ob < dn ∧ (dn = da ∨ h0.size ≤ dn)
set_option maxRecDepth 65536 in
set_option maxHeartbeats 40000000 in
theorem own_asbAppX (l : Launch) (Z : State) (a0 : Array Value) (hw : ∀ d ∈ tables_1, d.before a0 Z = true) (ws : List Jvm.Cond) (ob so da : Addr) (kd : ClassId) (vd : List Value) (zc : Int32) (cap k0 lim : Nat) (cs : List Int32) (h0 : Heap) (n0 : Nat) (Z0 : n0 ≤ h0.size) (O0 : Old Z n0 h0) (SCS : Sta Z Z.heap "java/lang/String" "COMPACT_STRINGS" "Z" (.int zc)) (hzc : ¬ zc = 0) (E : Exa Z h0 ob "java/lang/StringBuilder") (Fv : Fld Z h0 ob "java/lang/AbstractStringBuilder" "value" "[B" (.ref da)) (Fc : Fld Z h0 ob "java/lang/AbstractStringBuilder" "coder" "B" (.int (0 : Int32))) (Fn : Fld Z h0 ob "java/lang/AbstractStringBuilder" "count" "I" (.int (Int32.ofNat k0))) (Va : Arv Z h0 da kd .byte (Int32.ofNat cap) vd (.int (0 : Int32))) (hcap : cap ≤ 70) (hvd : vd.length = cap) (hk0 : k0 ≤ cap) (Fs : OwnS Z h0 lim so cs) (hmx : k0 + cs.length < 2 * cap + 2) (hgr : cap < k0 + cs.length → cap ≤ 35) (g_ob : n0 ≤ ob) (g_da : n0 ≤ da) (ne_od : ob < da) :
    MetFree l (⟨"java/lang/AbstractStringBuilder", "append", "(Ljava/lang/String;)Ljava/lang/AbstractStringBuilder;"⟩ : MethodName) (head1 (Jvm.Cond.code (⟨"java/lang/AbstractStringBuilder", "append", "(Ljava/lang/String;)Ljava/lang/AbstractStringBuilder;"⟩ : MethodName) jdk_68_method_22_code 3 (some (.object "java/lang/AbstractStringBuilder")) :: ws) ({ frames := 4, cells := 1, slots := 72, locals := 62 } : Room)) (fun A0 U0 => A0 = #[(.ref ob), (.ref so)] ∧ Z.Warmed39 U0.vm ∧ U0.heap = h0) (fun _ _ _ _ _ => True) (fun _ U0 o0 U1 => ∃ v0 L0, o0 = .returned v0 ∧ own_Q_asbAppX Z ob so da kd vd zc cap k0 lim cs h0 n0 v0 U1.heap L0 ∧ FrameEnd U0 o0 U1 L0 ({ frames := 4, cells := 1, slots := 72, locals := 62 } : Room).cells ({ frames := 4, cells := 1, slots := 72, locals := 62 } : Room).slots) := by
  refine MetFree.of_bodySF (plainFor_of_name own_pn_java_lang_AbstractStringBuilder) hisR ?_
  intro p e s m args below meth c s₁ Bd hml0 hP hK
  obtain ⟨rfl, hZ, hh⟩ := hP
  have hZs0 := hZ
  have hZs := hZ
  have hx := Bd.exec
  have hby := Bd.bytes
  have hby_ := hby
  have hml : c.maxLocals = 3 := hml0
  have hown : s.vm.findClass "java/lang/AbstractStringBuilder" = some m.cls := findClass_of_methodNamed Bd.named
  have hnm := (name_of_methodNamed Bd.named Bd.method).1
  have X0 : Stand p l e ({ frames := 4, cells := 1, slots := 72, locals := 62 } : Room) s m #[(.ref ob), (.ref so)] below meth c s₁ [] 0 0 := Stand.of_body Bd
  have e0 : s₁.heap = h0 := by rw [← hh, Bd.state]; rfl
  have N0 := Fr.nil n0
  refine OwnFin.entry (own_ef_asbAppX m ob so) (fun P' hP' => ?_)
  have lt_ob := own_lt E.lt
  have lt_da := own_lt Va.lt
  have od := own_lt ne_od
  have l4 := OwnS.len Fs
  obtain ⟨ts1, ks1, Es1, Vs1, Cs1, As1, lx1, lt1, hp1, l21⟩ := id Fs
  have lx1 := own_lt lx1
  have lt1 := own_lt lt1
  have ltx1 := own_lt Es1.lt
  have ltt1 := own_lt As1.lt
  have ne1 := own_nee (ne_exa E Es1 (by decide))
  have ne2 := own_nee (Exa.neArv E As1 (hw _ (List.mem_of_getElem? (i := 7) rfl)))
  refine OwnFin.adv (B := s₁.setTop (mkF m 1 #[.val (.ref ob), .val (.ref so), .unset] [(.ref so)])) (fun _ k => XS.aloadN X0.here hx rfl (hb hby own_d6_0) rfl rfl k) ?_
  refine OwnFin.adv (B := s₁.setTop (mkF m 9 #[.val (.ref ob), .val (.ref so), .unset] [])) (fun _ k => XS.ifnonnullYes X0.here hx rfl (pc0 := 1) (pc' := 9) rfl (hb hby own_d6_1) rfl (by decide) (by decide) k) ?_
  refine OwnFin.adv (B := s₁.setTop (mkF m 10 #[.val (.ref ob), .val (.ref so), .unset] [(.ref so)])) (fun _ k => XS.aloadN X0.here hx rfl (hb hby own_d6_9) rfl rfl k) ?_
  obtain ⟨cq2, kq2, q2a, q2b, q2c⟩ := isOf hZ e0 Es1
  obtain ⟨_, _, ⟨T2, L2, k2, n2⟩, -, X2, ⟨Lc2, hQ2, l2, y2, z2⟩, st2⟩ := X0.virtualBack hx (y := (⟨"java/lang/String", "length", "()I"⟩ : MethodName)) (z := (⟨"java/lang/String", "length", "()I"⟩ : MethodName)) hown (mvT hZ (hw _ (List.mem_of_getElem? (i := 44) rfl))) (mvT hZ (hw _ (List.mem_of_getElem? (i := 45) rfl))) (notFace_of_selects (args := #[]) (mvT hZ (hw _ (List.mem_of_getElem? (i := 47) rfl)))) (mvT hZ (hw _ (List.mem_of_getElem? (i := 47) rfl))) (mvT hZ (hw _ (List.mem_of_getElem? (i := 46) rfl))) (by decide) (backOf (W := 0) (own_strLen l Z a0 hw [] so zc (lim) cs h0 n0 (by omega) O0 SCS hzc Fs) hZ (hw _ (List.mem_of_getElem? (i := 48) rfl)) (hw _ (List.mem_of_getElem? (i := 22) rfl)) (by decide) (by decide)) q2a q2c (g := (mkF m 10 #[.val (.ref ob), .val (.ref so), .unset] [(.ref so)])) rfl (by rw [hml]; rfl) (Steps.refl _) (argsL := []) (rest := []) (lenOf own_pd_x28x29I rfl) rfl (by show 2 * 0 + _ ≤ _; exact Nat.le_of_eq rfl) (hb hby own_d6_10) (fun _ _ => ⟨rfl, e0, (by decide : 0 + 0 ≤ _), (by decide : 0 + 0 ≤ _)⟩)
  dsimp only [Pt.U, Pt.locs, Pt.cells, Pt.slots] at X2 l2 y2 z2 st2 hQ2
  subst l2 y2 z2
  obtain ⟨rfl, N2q, eh2⟩ := hQ2
  have N2 := Fr.app N0 N2q
  refine OwnFin.adv (B := T2.setTop (mkF m 13 #[.val (.ref ob), .val (.ref so), .unset] [(.int (Int32.ofNat (cs).length))])) (fun _ k => st2.trans k) ?_
  refine OwnFin.adv (B := T2.setTop (mkF m 14 #[.val (.ref ob), .val (.ref so), .val (.int (Int32.ofNat (cs).length))] [])) (fun _ k => XS.istoreN X2.here hx rfl (hb hby own_d6_13) rfl (l' := #[.val (.ref ob), .val (.ref so), .val (.int (Int32.ofNat (cs).length))]) rfl k) ?_
  refine OwnFin.adv (B := T2.setTop (mkF m 15 #[.val (.ref ob), .val (.ref so), .val (.int (Int32.ofNat (cs).length))] [(.ref ob)])) (fun _ k => XS.aloadN X2.here hx rfl (hb hby own_d6_14) rfl rfl k) ?_
  refine OwnFin.adv (B := T2.setTop (mkF m 16 #[.val (.ref ob), .val (.ref so), .val (.int (Int32.ofNat (cs).length))] [(.ref ob), (.ref ob)])) (fun _ k => XS.aloadN X2.here hx rfl (hb hby own_d6_15) rfl rfl k) ?_
  obtain ⟨T3, X3, e3, st3⟩ := getF X2 hx hZ hown (host := "") (Or.inl (hw _ (List.mem_of_getElem? (i := 57) rfl))) Via.refl eh2 Fn (g := (mkF m 16 #[.val (.ref ob), .val (.ref so), .val (.int (Int32.ofNat (cs).length))] [(.ref ob), (.ref ob)])) rfl rfl (hb hby own_d6_16)
  refine OwnFin.adv (B := T3.setTop (mkF m 19 #[.val (.ref ob), .val (.ref so), .val (.int (Int32.ofNat (cs).length))] [(.int (Int32.ofNat k0)), (.ref ob)])) (fun _ k => st3 _ k) ?_
  refine OwnFin.adv (B := T3.setTop (mkF m 20 #[.val (.ref ob), .val (.ref so), .val (.int (Int32.ofNat (cs).length))] [(.int (Int32.ofNat (cs).length)), (.int (Int32.ofNat k0)), (.ref ob)])) (fun _ k => XS.iloadN X3.here hx rfl (hb hby own_d6_19) rfl k) ?_
  refine OwnFin.adv (B := T3.setTop (mkF m 21 #[.val (.ref ob), .val (.ref so), .val (.int (Int32.ofNat (cs).length))] [(.int ((Int32.ofNat k0) + (Int32.ofNat (cs).length))), (.ref ob)])) (fun _ k => XS.iadd X3.here hx rfl (hb hby own_d6_20) rfl k) ?_
  rw [show (((Int32.ofNat k0) + (Int32.ofNat (cs).length)) : Int32) = (Int32.ofNat (k0 + cs.length)) from own_add _ _]
  obtain ⟨cq4, kq4, q4a, q4b, q4c⟩ := isOf hZ e3 E
  obtain ⟨_, _, ⟨T4, L4, k4, n4⟩, -, X4, ⟨Lc4, hQ4, l4, y4, z4⟩, st4⟩ := X3.virtualBack hx (y := (⟨"java/lang/AbstractStringBuilder", "ensureCapacityInternal", "(I)V"⟩ : MethodName)) (z := (⟨"java/lang/AbstractStringBuilder", "ensureCapacityInternal", "(I)V"⟩ : MethodName)) hown (mvT hZ (hw _ (List.mem_of_getElem? (i := 59) rfl))) (mvT hZ (own_decl (hw _ (List.mem_of_getElem? (i := 60) rfl)) (hw _ (List.mem_of_getElem? (i := 63) rfl)))) (notFace_of_selects (args := #[]) (mvT hZ (hw _ (List.mem_of_getElem? (i := 62) rfl)))) (mvT hZ (hw _ (List.mem_of_getElem? (i := 62) rfl))) (mvT hZ (hw _ (List.mem_of_getElem? (i := 60) rfl))) (by decide) (backOf (W := 0) (own_ensureX l Z a0 hw [] ob da kd vd (k0 + cs.length) cap k0 h0 n0 (by omega) E Fv Fc Fn Va hcap hvd hmx hgr g_ob) hZ (hw _ (List.mem_of_getElem? (i := 63) rfl)) (hw _ (List.mem_of_getElem? (i := 16) rfl)) (by decide) (by decide)) q4a q4c (g := (mkF m 21 #[.val (.ref ob), .val (.ref so), .val (.int (Int32.ofNat (cs).length))] [(.int (Int32.ofNat (k0 + cs.length))), (.ref ob)])) rfl (by rw [hml]; rfl) (Steps.refl _) (argsL := [(.int (Int32.ofNat (k0 + cs.length)))]) (rest := []) (lenOf own_pd_x28Ix29V rfl) rfl (by show 2 * 0 + _ ≤ _; exact Nat.le_of_eq rfl) (hb hby own_d6_21) (fun _ _ => ⟨rfl, e3, (by decide : 0 + 1 ≤ _), (by decide : 0 + 72 ≤ _)⟩)
  dsimp only [Pt.U, Pt.locs, Pt.cells, Pt.slots] at X4 l4 y4 z4 st4 hQ4
  subst l4 y4 z4
  obtain ⟨rfl, N4q, K4, dn4, kn4, vn4, cn4, Fv4, Fc4, Fn4, Va4, hv4, ht4, hm4, hcn4, hd4⟩ := hQ4
  have N4 := Fr.app N2 N4q
  have sz5 : h0.size ≤ T4.heap.size := K4.1
  have lt_dn4 := own_lt Va4.lt
  have hcb4 : cn4 ≤ 72 := by omega
  have g_dn4 : n0 ≤ dn4 := by
    rcases hd4 with q | q
    · rw [q]; exact g_da
    · omega
  have od4 : ob < dn4 := by
    rcases hd4 with q | q
    · rw [q]; exact ne_od
    · exact own_lt (by omega)
  have odn4 := own_lt od4
  have hk4 : dn4 ∈ [ob, da] ∨ h0.size ≤ dn4 := hd4.imp (fun q => by rw [q]; exact List.mem_of_getElem? (i := 1) rfl) (fun q => q)
  refine OwnFin.adv (B := T4.setTop (mkF m 24 #[.val (.ref ob), .val (.ref so), .val (.int (Int32.ofNat (cs).length))] [])) (fun _ k => st4.trans k) ?_
  refine OwnFin.adv (B := T4.setTop (mkF m 25 #[.val (.ref ob), .val (.ref so), .val (.int (Int32.ofNat (cs).length))] [(.ref ob)])) (fun _ k => XS.aloadN X4.here hx rfl (hb hby own_d6_24) rfl rfl k) ?_
  refine OwnFin.adv (B := T4.setTop (mkF m 26 #[.val (.ref ob), .val (.ref so), .val (.int (Int32.ofNat (cs).length))] [(.ref ob), (.ref ob)])) (fun _ k => XS.aloadN X4.here hx rfl (hb hby own_d6_25) rfl rfl k) ?_
  obtain ⟨T6, X6, e6, st6⟩ := getF X4 hx hZ hown (host := "") (Or.inl (hw _ (List.mem_of_getElem? (i := 57) rfl))) Via.refl rfl Fn4 (g := (mkF m 26 #[.val (.ref ob), .val (.ref so), .val (.int (Int32.ofNat (cs).length))] [(.ref ob), (.ref ob)])) rfl rfl (hb hby own_d6_26)
  refine OwnFin.adv (B := T6.setTop (mkF m 29 #[.val (.ref ob), .val (.ref so), .val (.int (Int32.ofNat (cs).length))] [(.int (Int32.ofNat k0)), (.ref ob)])) (fun _ k => st6 _ k) ?_
  refine OwnFin.adv (B := T6.setTop (mkF m 30 #[.val (.ref ob), .val (.ref so), .val (.int (Int32.ofNat (cs).length))] [(.ref so), (.int (Int32.ofNat k0)), (.ref ob)])) (fun _ k => XS.aloadN X6.here hx rfl (hb hby own_d6_29) rfl rfl k) ?_
  have Fv9_1 : Exa Z T4.heap so "java/lang/String" := (Es1.keep K4)
  have Fv10_1 : Fld Z T4.heap so "java/lang/String" "value" "[B" (.ref ts1) := (Vs1.keep K4 (ninS (own_ne (by omega)) nin0))
  have Fv11_1 : Fld Z T4.heap so "java/lang/String" "coder" "B" (.int (0 : Int32)) := (Cs1.keep K4 (ninS (own_ne (by omega)) nin0))
  have Fv12_1 : Arv Z T4.heap ts1 ks1 .byte (Int32.ofNat (cs).length) (((cs).map fun c => c.toInt8.toInt32).map Value.int) (.int (0 : Int32)) := (As1.keep K4 (ninS (own_ne (by omega)) nin0))
  have Fx8 : OwnS Z T4.heap lim so cs := ⟨ts1, ks1, Fv9_1, Fv10_1, Fv11_1, Fv12_1, own_lt lx1, own_lt lt1, hp1, l21⟩
  have Old13 : Old Z n0 T4.heap := (O0.keep K4 (allS (by omega) all0))
  have Fv14_1 : Exa Z T4.heap ob "java/lang/StringBuilder" := (E.keep K4)
  obtain ⟨cq7, kq7, q7a, q7b, q7c⟩ := isOf hZ e6 Fv14_1
  obtain ⟨_, _, ⟨T7, L7, k7, n7⟩, -, X7, ⟨Lc7, hQ7, l7, y7, z7⟩, st7⟩ := X6.virtualBack hx (y := (⟨"java/lang/AbstractStringBuilder", "putStringAt", "(ILjava/lang/String;)V"⟩ : MethodName)) (z := (⟨"java/lang/AbstractStringBuilder", "putStringAt", "(ILjava/lang/String;)V"⟩ : MethodName)) hown (mvT hZ (hw _ (List.mem_of_getElem? (i := 90) rfl))) (mvT hZ (own_decl (hw _ (List.mem_of_getElem? (i := 91) rfl)) (hw _ (List.mem_of_getElem? (i := 94) rfl)))) (notFace_of_selects (args := #[]) (mvT hZ (hw _ (List.mem_of_getElem? (i := 93) rfl)))) (mvT hZ (hw _ (List.mem_of_getElem? (i := 93) rfl))) (mvT hZ (hw _ (List.mem_of_getElem? (i := 91) rfl))) (by decide) (backOf (W := 0) (own_putS l Z a0 hw [] ob so dn4 kn4 vn4 zc cn4 k0 lim cs T4.heap n0 (by omega) Old13 SCS hzc Fv14_1 Fv4 Fc4 Fx8 Va4 (by omega) hv4 hm4 g_dn4) hZ (hw _ (List.mem_of_getElem? (i := 94) rfl)) (hw _ (List.mem_of_getElem? (i := 16) rfl)) (by decide) (by decide)) q7a q7c (g := (mkF m 30 #[.val (.ref ob), .val (.ref so), .val (.int (Int32.ofNat (cs).length))] [(.ref so), (.int (Int32.ofNat k0)), (.ref ob)])) rfl (by rw [hml]; rfl) (Steps.refl _) (argsL := [(.int (Int32.ofNat k0)), (.ref so)]) (rest := []) (lenOf own_pd_x28ILjavax2flangx2fStringx3bx29V rfl) rfl (by show 2 * 0 + _ ≤ _; exact Nat.le_of_eq rfl) (hb hby own_d6_30) (fun _ _ => ⟨rfl, e6, (by decide : 1 + 0 ≤ _), (by decide : 72 + 0 ≤ _)⟩)
  dsimp only [Pt.U, Pt.locs, Pt.cells, Pt.slots] at X7 l7 y7 z7 st7 hQ7
  subst l7 y7 z7
  obtain ⟨rfl, N7q, K7, Va7⟩ := hQ7
  have N7 := Fr.app N4 N7q
  have sz15 : T4.heap.size ≤ T7.heap.size := K7.1
  refine OwnFin.adv (B := T7.setTop (mkF m 33 #[.val (.ref ob), .val (.ref so), .val (.int (Int32.ofNat (cs).length))] [])) (fun _ k => st7.trans k) ?_
  refine OwnFin.adv (B := T7.setTop (mkF m 34 #[.val (.ref ob), .val (.ref so), .val (.int (Int32.ofNat (cs).length))] [(.ref ob)])) (fun _ k => XS.aloadN X7.here hx rfl (hb hby own_d6_33) rfl rfl k) ?_
  refine OwnFin.adv (B := T7.setTop (mkF m 35 #[.val (.ref ob), .val (.ref so), .val (.int (Int32.ofNat (cs).length))] [(.ref ob), (.ref ob)])) (fun _ k => XS.dup X7.here hx rfl (hb hby own_d6_34) rfl rfl k) ?_
  have Fv16_2 : Fld Z T7.heap ob "java/lang/AbstractStringBuilder" "count" "I" (.int (Int32.ofNat k0)) := (Fn4.keep K7 (ninS (own_ne (by omega)) nin0))
  obtain ⟨T17, X17, e17, st17⟩ := getF X7 hx hZ hown (host := "") (Or.inl (hw _ (List.mem_of_getElem? (i := 57) rfl))) Via.refl rfl Fv16_2 (g := (mkF m 35 #[.val (.ref ob), .val (.ref so), .val (.int (Int32.ofNat (cs).length))] [(.ref ob), (.ref ob)])) rfl rfl (hb hby own_d6_35)
  refine OwnFin.adv (B := T17.setTop (mkF m 38 #[.val (.ref ob), .val (.ref so), .val (.int (Int32.ofNat (cs).length))] [(.int (Int32.ofNat k0)), (.ref ob)])) (fun _ k => st17 _ k) ?_
  refine OwnFin.adv (B := T17.setTop (mkF m 39 #[.val (.ref ob), .val (.ref so), .val (.int (Int32.ofNat (cs).length))] [(.int (Int32.ofNat (cs).length)), (.int (Int32.ofNat k0)), (.ref ob)])) (fun _ k => XS.iloadN X17.here hx rfl (hb hby own_d6_38) rfl k) ?_
  refine OwnFin.adv (B := T17.setTop (mkF m 40 #[.val (.ref ob), .val (.ref so), .val (.int (Int32.ofNat (cs).length))] [(.int ((Int32.ofNat k0) + (Int32.ofNat (cs).length))), (.ref ob)])) (fun _ k => XS.iadd X17.here hx rfl (hb hby own_d6_39) rfl k) ?_
  rw [show (((Int32.ofNat k0) + (Int32.ofNat (cs).length)) : Int32) = (Int32.ofNat (k0 + cs.length)) from own_add _ _]
  have Fv18_2 : Exa Z T7.heap ob "java/lang/StringBuilder" := (Fv14_1.keep K7)
  obtain ⟨T19, h19, X19, e19, W19, st19⟩ := putF X17 hx hZ hown (host := "") (Or.inl (hw _ (List.mem_of_getElem? (i := 57) rfl))) Via.refl e17 Fv16_2 Fv18_2 (Or.inl (hw _ (List.mem_of_getElem? (i := 58) rfl))) (hw _ (List.mem_of_getElem? (i := 7) rfl)) (ty := .int) (by decide) rfl rfl (g := (mkF m 40 #[.val (.ref ob), .val (.ref so), .val (.int (Int32.ofNat (cs).length))] [(.int (Int32.ofNat (k0 + cs.length))), (.ref ob)])) rfl rfl (hb hby own_d6_40)
  have Fw19 : Fld Z h19 ob "java/lang/AbstractStringBuilder" "count" "I" (.int (Int32.ofNat (k0 + cs.length))) := Fv16_2.same W19
  have sz20 : T7.heap.size ≤ h19.size := Nat.le_of_eq W19.size.symm
  have N19 := Fr.snoc X19 N7 (by omega : n0 ≤ ob)
  refine OwnFin.adv (B := T19.setTop (mkF m 43 #[.val (.ref ob), .val (.ref so), .val (.int (Int32.ofNat (cs).length))] [])) (fun _ k => st19 _ k) ?_
  refine OwnFin.adv (B := T19.setTop (mkF m 44 #[.val (.ref ob), .val (.ref so), .val (.int (Int32.ofNat (cs).length))] [(.ref ob)])) (fun _ k => XS.aloadN X19.here hx rfl (hb hby own_d6_43) rfl rfl k) ?_
  obtain ⟨fs, hr, hrun, hended, hW, hsame⟩ := X19.leave (v := some (.ref ob)) (fun h => by rw [Bd.returns] at h; cases h)
  refine OwnFin.leaf hP' ⟨_, _, own_retR X19 hx Bd.returns rfl rfl rfl (hb hby own_d6_44) hr, hrun, hended, _, _, rfl, ?_, ⟨_, rfl⟩, hW, hsame.mono (by decide) (by decide)⟩
  have Fv21_3 : Fld Z h19 ob "java/lang/AbstractStringBuilder" "value" "[B" (.ref dn4) := ((Fv4.keep K7 (ninS (own_ne (by omega)) nin0)).other W19 (Or.inr (slot_ne (Or.inl (hw _ (List.mem_of_getElem? (i := 25) rfl))) (Or.inl (hw _ (List.mem_of_getElem? (i := 58) rfl))) (by decide) (t := (.array .byte)) (t' := .int) (by decide) (by decide))))
  have Fv22_3 : Fld Z h19 ob "java/lang/AbstractStringBuilder" "coder" "B" (.int (0 : Int32)) := ((Fc4.keep K7 (ninS (own_ne (by omega)) nin0)).other W19 (Or.inr (slot_ne (Or.inl (hw _ (List.mem_of_getElem? (i := 27) rfl))) (Or.inl (hw _ (List.mem_of_getElem? (i := 58) rfl))) (by decide) (t := .byte) (t' := .int) (by decide) (by decide))))
  have Fv23_3 : Arv Z h19 dn4 kn4 .byte (Int32.ofNat cn4) (vn4.take k0 ++ ((cs.map fun c => c.toInt8.toInt32).map Value.int) ++ vn4.drop (k0 + cs.length)) (.int (0 : Int32)) := (Va7.other W19 (own_ne (by omega)))
  rw [show (T19.setFrames fs).heap = h19 from e19]
  exact ⟨rfl, N19, ((((Keep.refl h0 [ob, da]).trans K4 (allS (Or.inl (List.mem_of_getElem? (i := 0) rfl)) all0)).trans K7 (allS hk4 all0)).wr W19 (Or.inl (List.mem_of_getElem? (i := 0) rfl))), dn4, kn4, _, cn4, Fv21_3, Fv22_3, Fw19, Fv23_3, (own_put4 hv4 hm4 ht4 hk0).1, (own_put4 hv4 hm4 ht4 hk0).2, hm4, hcn4, g_dn4, od4, hd4⟩
theorem own_d5_0 : decode jdk_67_method_7_code 0 = .ok (.aload_n 0, 1) := by decide +kernel
theorem own_d5_1 : decode jdk_67_method_7_code 1 = .ok (.aload_n 1, 1) := by decide +kernel
theorem own_pd_x28Ljavax2flangx2fStringx3bx29Ljavax2flangx2fAbstractStringBuilderx3b : parseMethodDescriptor "(Ljava/lang/String;)Ljava/lang/AbstractStringBuilder;" = some ⟨[(.object "java/lang/String")], some (.object "java/lang/AbstractStringBuilder")⟩ := by decide +kernel
theorem own_d5_2 : decode jdk_67_method_7_code 2 = .ok (.invokespecial 29, 3) := by decide +kernel
theorem own_d5_5 : decode jdk_67_method_7_code 5 = .ok (.pop, 1) := by decide +kernel
theorem own_d5_6 : decode jdk_67_method_7_code 6 = .ok (.aload_n 0, 1) := by decide +kernel
theorem own_d5_7 : decode jdk_67_method_7_code 7 = .ok (.areturn, 1) := by decide +kernel
theorem own_ef_sbAppX (m : MethodId) (x0 : Addr) (x1 : Addr) : entryFrame m #[(.ref x0), (.ref x1)] 2 = mkF m 0 #[.val (.ref x0), .val (.ref x1)] [] := by first | (simp [entryFrame, mkF, argsToLocals, Value.category]; done) | rfl
def own_Q_sbAppX (Z : State) (ob so da : Addr) (kd : ClassId) (vd : List Value) (zc : Int32) (cap k0 lim : Nat) (cs : List Int32) (h0 : Heap) (n0 : Nat) (v : Option Value) (h : Heap) (L : List Loc) : Prop := v = some (.ref ob) ∧ Fr n0 L ∧ Keep h0 h [ob, da] ∧ ∃ (dn : Addr) (kn : ClassId) (vn : List Value) (cn : Nat), Fld Z h ob "java/lang/AbstractStringBuilder" "value" "[B" (.ref dn) ∧ Fld Z h ob "java/lang/AbstractStringBuilder" "coder" "B" (.int (0 : Int32)) ∧ Fld Z h ob "java/lang/AbstractStringBuilder" "count" "I" (.int (Int32.ofNat (k0 + cs.length))) ∧ Arv Z h dn kn .byte (Int32.ofNat cn) vn (.int (0 : Int32)) ∧ vn.length = cn ∧ vn.take (k0 + cs.length) = vd.take k0 ++ ((cs.map fun c => c.toInt8.toInt32).map Value.int) ∧ k0 + cs.length ≤ cn ∧ (cn = cap ∨ (cap < k0 + cs.length ∧ cn = cap + (cap + 2))) ∧ n0 ≤ dn ∧ ob < dn ∧ (dn = da ∨ h0.size ≤ dn)
set_option maxRecDepth 65536 in
set_option maxHeartbeats 40000000 in
theorem own_sbAppX (l : Launch) (Z : State) (a0 : Array Value) (hw : ∀ d ∈ tables_1, d.before a0 Z = true) (ws : List Jvm.Cond) (ob so da : Addr) (kd : ClassId) (vd : List Value) (zc : Int32) (cap k0 lim : Nat) (cs : List Int32) (h0 : Heap) (n0 : Nat) (Z0 : n0 ≤ h0.size) (O0 : Old Z n0 h0) (SCS : Sta Z Z.heap "java/lang/String" "COMPACT_STRINGS" "Z" (.int zc)) (hzc : ¬ zc = 0) (E : Exa Z h0 ob "java/lang/StringBuilder") (Fv : Fld Z h0 ob "java/lang/AbstractStringBuilder" "value" "[B" (.ref da)) (Fc : Fld Z h0 ob "java/lang/AbstractStringBuilder" "coder" "B" (.int (0 : Int32))) (Fn : Fld Z h0 ob "java/lang/AbstractStringBuilder" "count" "I" (.int (Int32.ofNat k0))) (Va : Arv Z h0 da kd .byte (Int32.ofNat cap) vd (.int (0 : Int32))) (hcap : cap ≤ 70) (hvd : vd.length = cap) (hk0 : k0 ≤ cap) (Fs : OwnS Z h0 lim so cs) (hmx : k0 + cs.length < 2 * cap + 2) (hgr : cap < k0 + cs.length → cap ≤ 35) (g_ob : n0 ≤ ob) (g_da : n0 ≤ da) (ne_od : ob < da) :
    MetFree l (⟨"java/lang/StringBuilder", "append", "(Ljava/lang/String;)Ljava/lang/StringBuilder;"⟩ : MethodName) (head1 (Jvm.Cond.code (⟨"java/lang/StringBuilder", "append", "(Ljava/lang/String;)Ljava/lang/StringBuilder;"⟩ : MethodName) jdk_67_method_7_code 2 (some (.object "java/lang/StringBuilder")) :: ws) ({ frames := 5, cells := 1, slots := 72, locals := 76 } : Room)) (fun A0 U0 => A0 = #[(.ref ob), (.ref so)] ∧ Z.Warmed39 U0.vm ∧ U0.heap = h0) (fun _ _ _ _ _ => True) (fun _ U0 o0 U1 => ∃ v0 L0, o0 = .returned v0 ∧ own_Q_sbAppX Z ob so da kd vd zc cap k0 lim cs h0 n0 v0 U1.heap L0 ∧ FrameEnd U0 o0 U1 L0 ({ frames := 5, cells := 1, slots := 72, locals := 76 } : Room).cells ({ frames := 5, cells := 1, slots := 72, locals := 76 } : Room).slots) := by
  refine MetFree.of_bodySF (plainFor_of_name own_pn_java_lang_StringBuilder) hisR ?_
  intro p e s m args below meth c s₁ Bd hml0 hP hK
  obtain ⟨rfl, hZ, hh⟩ := hP
  have hZs0 := hZ
  have hZs := hZ
  have hx := Bd.exec
  have hby := Bd.bytes
  have hby_ := hby
  have hml : c.maxLocals = 2 := hml0
  have hown : s.vm.findClass "java/lang/StringBuilder" = some m.cls := findClass_of_methodNamed Bd.named
  have hnm := (name_of_methodNamed Bd.named Bd.method).1
  have X0 : Stand p l e ({ frames := 5, cells := 1, slots := 72, locals := 76 } : Room) s m #[(.ref ob), (.ref so)] below meth c s₁ [] 0 0 := Stand.of_body Bd
  have e0 : s₁.heap = h0 := by rw [← hh, Bd.state]; rfl
  have N0 := Fr.nil n0
  refine OwnFin.entry (own_ef_sbAppX m ob so) (fun P' hP' => ?_)
  have lt_ob := own_lt E.lt
  have lt_da := own_lt Va.lt
  have od := own_lt ne_od
  refine OwnFin.adv (B := s₁.setTop (mkF m 1 #[.val (.ref ob), .val (.ref so)] [(.ref ob)])) (fun _ k => XS.aloadN X0.here hx rfl (hb hby own_d5_0) rfl rfl k) ?_
  refine OwnFin.adv (B := s₁.setTop (mkF m 2 #[.val (.ref ob), .val (.ref so)] [(.ref so), (.ref ob)])) (fun _ k => XS.aloadN X0.here hx rfl (hb hby own_d5_1) rfl rfl k) ?_
  obtain ⟨_, _, ⟨T1, L1, k1, n1⟩, -, X1, ⟨Lc1, hQ1, l1, y1, z1⟩, st1⟩ := superBack X0 hx hZ (y := (⟨"java/lang/AbstractStringBuilder", "append", "(Ljava/lang/String;)Ljava/lang/AbstractStringBuilder;"⟩ : MethodName)) hown (hw _ (List.mem_of_getElem? (i := 39) rfl)) (own_same (y := (⟨"java/lang/AbstractStringBuilder", "append", "(Ljava/lang/String;)Ljava/lang/AbstractStringBuilder;"⟩ : MethodName)) (z := (⟨"java/lang/AbstractStringBuilder", "ensureCapacityInternal", "(I)V"⟩ : MethodName)) (hw _ (List.mem_of_getElem? (i := 42) rfl)) (own_decl (hw _ (List.mem_of_getElem? (i := 60) rfl)) (hw _ (List.mem_of_getElem? (i := 63) rfl))) (notFace_of_selects (args := a0) (hw _ (List.mem_of_getElem? (i := 62) rfl))) rfl (by decide)) (hw _ (List.mem_of_getElem? (i := 40) rfl)) (hw _ (List.mem_of_getElem? (i := 41) rfl)) (by decide) (backOf (W := 0) (own_asbAppX l Z a0 hw [] ob so da kd vd zc cap k0 lim cs h0 n0 (by omega) O0 SCS hzc E Fv Fc Fn Va hcap hvd hk0 Fs hmx hgr g_ob g_da ne_od) hZ (hw _ (List.mem_of_getElem? (i := 43) rfl)) (hw _ (List.mem_of_getElem? (i := 16) rfl)) (by decide) (by decide)) e0 (Ins.self E) (g := (mkF m 2 #[.val (.ref ob), .val (.ref so)] [(.ref so), (.ref ob)])) rfl (by rw [hml]; rfl) (hw _ (List.mem_of_getElem? (i := 43) rfl)) (argsL := [(.ref so)]) (rest := []) (lenOf own_pd_x28Ljavax2flangx2fStringx3bx29Ljavax2flangx2fAbstractStringBuilderx3b rfl) rfl (by show 2 * 0 + _ ≤ _; exact Nat.le_of_eq rfl) (hb hby own_d5_2) (fun _ _ => ⟨rfl, e0, (by decide : 0 + 1 ≤ _), (by decide : 0 + 72 ≤ _)⟩)
  dsimp only [Pt.U, Pt.locs, Pt.cells, Pt.slots] at X1 l1 y1 z1 st1 hQ1
  subst l1 y1 z1
  obtain ⟨rfl, N1q, K1, dn1, kn1, vn1, cn1, Fv1, Fc1, Fn1, Va1, hv1, ht1, hm1, hcn1, g_dn1, od1, hd1⟩ := hQ1
  have N1 := Fr.app N0 N1q
  have sz2 : h0.size ≤ T1.heap.size := K1.1
  have lt_dn1 := own_lt Va1.lt
  refine OwnFin.adv (B := T1.setTop (mkF m 5 #[.val (.ref ob), .val (.ref so)] [(.ref ob)])) (fun _ k => st1.trans k) ?_
  refine OwnFin.adv (B := T1.setTop (mkF m 6 #[.val (.ref ob), .val (.ref so)] [])) (fun _ k => XS.pop X1.here hx rfl (hb hby own_d5_5) rfl rfl k) ?_
  refine OwnFin.adv (B := T1.setTop (mkF m 7 #[.val (.ref ob), .val (.ref so)] [(.ref ob)])) (fun _ k => XS.aloadN X1.here hx rfl (hb hby own_d5_6) rfl rfl k) ?_
  obtain ⟨fs, hr, hrun, hended, hW, hsame⟩ := X1.leave (v := some (.ref ob)) (fun h => by rw [Bd.returns] at h; cases h)
  refine OwnFin.leaf hP' ⟨_, _, own_retR X1 hx Bd.returns rfl rfl rfl (hb hby own_d5_7) hr, hrun, hended, _, _, rfl, ?_, ⟨_, rfl⟩, hW, hsame.mono (by decide) (by decide)⟩
  rw [show (T1.setFrames fs).heap = T1.heap from rfl]
  exact ⟨rfl, N1, ((Keep.refl h0 [ob, da]).trans K1 (allS (Or.inl (List.mem_of_getElem? (i := 0) rfl)) (allS (Or.inl (List.mem_of_getElem? (i := 1) rfl)) all0))), dn1, kn1, _, cn1, Fv1, Fc1, Fn1, Va1, hv1, ht1, hm1, hcn1, g_dn1, od1, hd1⟩
theorem own_d19_0 : decode jdk_68_method_32_code 0 = .ok (.aload_n 0, 1) := by decide +kernel
theorem own_d19_1 : decode jdk_68_method_32_code 1 = .ok (.getfield 79, 3) := by decide +kernel
theorem own_d19_4 : decode jdk_68_method_32_code 4 = .ok (.istore_n 2, 1) := by decide +kernel
theorem own_d19_5 : decode jdk_68_method_32_code 5 = .ok (.iload_n 2, 1) := by decide +kernel
theorem own_d19_6 : decode jdk_68_method_32_code 6 = .ok (.iload_n 1, 1) := by decide +kernel
theorem own_d19_7 : decode jdk_68_method_32_code 7 = .ok (.invokestatic 245, 3) := by decide +kernel
theorem own_d19_10 : decode jdk_68_method_32_code 10 = .ok (.iadd, 1) := by decide +kernel
theorem own_d19_11 : decode jdk_68_method_32_code 11 = .ok (.istore_n 3, 1) := by decide +kernel
theorem own_d19_12 : decode jdk_68_method_32_code 12 = .ok (.aload_n 0, 1) := by decide +kernel
theorem own_d19_13 : decode jdk_68_method_32_code 13 = .ok (.iload_n 3, 1) := by decide +kernel
theorem own_d19_14 : decode jdk_68_method_32_code 14 = .ok (.invokevirtual 100, 3) := by decide +kernel
theorem own_d19_17 : decode jdk_68_method_32_code 17 = .ok (.aload_n 0, 1) := by decide +kernel
theorem own_d19_18 : decode jdk_68_method_32_code 18 = .ok (.invokevirtual 83, 3) := by decide +kernel
theorem own_d19_21 : decode jdk_68_method_32_code 21 = .ok (.ifCond .eq 16, 3) := by decide +kernel
theorem own_d19_24 : decode jdk_68_method_32_code 24 = .ok (.iload_n 1, 1) := by decide +kernel
theorem own_d19_25 : decode jdk_68_method_32_code 25 = .ok (.iload_n 3, 1) := by decide +kernel
theorem own_d19_26 : decode jdk_68_method_32_code 26 = .ok (.aload_n 0, 1) := by decide +kernel
theorem own_d19_27 : decode jdk_68_method_32_code 27 = .ok (.getfield 15, 3) := by decide +kernel
theorem own_pd_x28IIx5bBx29I : parseMethodDescriptor "(II[B)I" = some ⟨[.int, .int, (.array .byte)], some .int⟩ := by decide +kernel
theorem own_d19_30 : decode jdk_68_method_32_code 30 = .ok (.invokestatic 248, 3) := by decide +kernel
theorem own_d19_33 : decode jdk_68_method_32_code 33 = .ok (.pop, 1) := by decide +kernel
theorem own_d19_34 : decode jdk_68_method_32_code 34 = .ok (.goto 14, 3) := by decide +kernel
theorem own_d19_48 : decode jdk_68_method_32_code 48 = .ok (.aload_n 0, 1) := by decide +kernel
theorem own_d19_49 : decode jdk_68_method_32_code 49 = .ok (.iload_n 3, 1) := by decide +kernel
theorem own_d19_50 : decode jdk_68_method_32_code 50 = .ok (.putfield 79, 3) := by decide +kernel
theorem own_d19_53 : decode jdk_68_method_32_code 53 = .ok (.aload_n 0, 1) := by decide +kernel
theorem own_d19_54 : decode jdk_68_method_32_code 54 = .ok (.areturn, 1) := by decide +kernel
theorem own_ef_asbAppI (m : MethodId) (x0 : Addr) (x1 : Int32) : entryFrame m #[(.ref x0), (.int x1)] 4 = mkF m 0 #[.val (.ref x0), .val (.int x1), .unset, .unset] [] := by first | (simp [entryFrame, mkF, argsToLocals, Value.category]; done) | rfl
def own_Q_asbAppI (Z : State) (ob da : Addr) (kd : ClassId) (vd : List Value) (zc xv : Int32) (cap k0 nn : Nat) (ist dg1 dg2 : Addr) (DG1 DG2 : Cell) (h0 : Heap) (n0 : Nat) (v : Option Value) (h : Heap) (L : List Loc) : Prop := v = some (.ref ob) ∧ Fr n0 L ∧ Keep h0 h [ob, da] ∧ ∃ (dn : Addr) (kn : ClassId) (vn : List Value) (cn : Nat), Fld Z h ob "java/lang/AbstractStringBuilder" "value" "[B" (.ref dn) ∧ Fld Z h ob "java/lang/AbstractStringBuilder" "coder" "B" (.int (0 : Int32)) ∧ Fld Z h ob "java/lang/AbstractStringBuilder" "count" "I" (.int (Int32.ofNat (k0 + (own_dec xv nn).length))) ∧ Arv Z h dn kn .byte (Int32.ofNat cn) vn (.int (0 : Int32)) ∧ vn.length = cn ∧ vn.take (k0 + (own_dec xv nn).length) = vd.take k0 ++ (((own_dec xv nn).map fun c => c.toInt8.toInt32).map Value.int) ∧ k0 + (own_dec xv nn).length ≤ cn ∧ (cn = cap ∨ (cap < k0 + (own_dec xv nn).length ∧ cn = cap + (cap + 2))) ∧ n0 ≤ dn ∧ ob < dn ∧ (dn = da ∨ h0.size ≤ dn)
set_option maxRecDepth 65536 in
set_option maxHeartbeats 40000000 in
theorem own_asbAppI (l : Launch) (Z : State) (a0 : Array Value) (hw : ∀ d ∈ tables_1, d.before a0 Z = true) (ws : List Jvm.Cond) (ob da : Addr) (kd : ClassId) (vd : List Value) (zc xv : Int32) (cap k0 nn : Nat) (ist dg1 dg2 : Addr) (DG1 DG2 : Cell) (h0 : Heap) (n0 : Nat) (Z0 : n0 ≤ h0.size) (O0 : Old Z n0 h0) (SCS : Sta Z Z.heap "java/lang/String" "COMPACT_STRINGS" "Z" (.int zc)) (hzc : ¬ zc = 0) (E : Exa Z h0 ob "java/lang/StringBuilder") (Fv : Fld Z h0 ob "java/lang/AbstractStringBuilder" "value" "[B" (.ref da)) (Fc : Fld Z h0 ob "java/lang/AbstractStringBuilder" "coder" "B" (.int (0 : Int32))) (Fn : Fld Z h0 ob "java/lang/AbstractStringBuilder" "count" "I" (.int (Int32.ofNat k0))) (Va : Arv Z h0 da kd .byte (Int32.ofNat cap) vd (.int (0 : Int32))) (hcap : cap ≤ 70) (hvd : vd.length = cap) (hk0 : k0 ≤ cap) (hnn : nn ≤ 2 ^ 31) (hxv : (if xv < 0 then xv else -xv) = Jvm.Free.SBG.negI nn) (TB1 : Jvm.Free.SBG.Tbl Z "DigitOnes" ist dg1 DG1) (TB2 : Jvm.Free.SBG.Tbl Z "DigitTens" ist dg2 DG2) (on1 : Jvm.Free.SBG.Ones DG1) (on2 : Jvm.Free.SBG.Tens DG2) (hmx : k0 + (own_dec xv nn).length < 2 * cap + 2) (hgr : cap < k0 + (own_dec xv nn).length → cap ≤ 35) (g_ob : n0 ≤ ob) (g_da : n0 ≤ da) (ne_od : ob < da) :
    MetFree l (⟨"java/lang/AbstractStringBuilder", "append", "(I)Ljava/lang/AbstractStringBuilder;"⟩ : MethodName) (head1 (Jvm.Cond.code (⟨"java/lang/AbstractStringBuilder", "append", "(I)Ljava/lang/AbstractStringBuilder;"⟩ : MethodName) jdk_68_method_32_code 4 (some (.object "java/lang/AbstractStringBuilder")) :: ws) ({ frames := 4, cells := 1, slots := 72, locals := 78 } : Room)) (fun A0 U0 => A0 = #[(.ref ob), (.int xv)] ∧ Z.Warmed39 U0.vm ∧ U0.heap = h0) (fun _ _ _ _ _ => True) (fun _ U0 o0 U1 => ∃ v0 L0, o0 = .returned v0 ∧ own_Q_asbAppI Z ob da kd vd zc xv cap k0 nn ist dg1 dg2 DG1 DG2 h0 n0 v0 U1.heap L0 ∧ FrameEnd U0 o0 U1 L0 ({ frames := 4, cells := 1, slots := 72, locals := 78 } : Room).cells ({ frames := 4, cells := 1, slots := 72, locals := 78 } : Room).slots) := by
  refine MetFree.of_bodySF (plainFor_of_name own_pn_java_lang_AbstractStringBuilder) hisR ?_
  intro p e s m args below meth c s₁ Bd hml0 hP hK
  obtain ⟨rfl, hZ, hh⟩ := hP
  have hZs0 := hZ
  have hZs := hZ
  have hx := Bd.exec
  have hby := Bd.bytes
  have hby_ := hby
  have hml : c.maxLocals = 4 := hml0
  have hown : s.vm.findClass "java/lang/AbstractStringBuilder" = some m.cls := findClass_of_methodNamed Bd.named
  have hnm := (name_of_methodNamed Bd.named Bd.method).1
  have X0 : Stand p l e ({ frames := 4, cells := 1, slots := 72, locals := 78 } : Room) s m #[(.ref ob), (.int xv)] below meth c s₁ [] 0 0 := Stand.of_body Bd
  have e0 : s₁.heap = h0 := by rw [← hh, Bd.state]; rfl
  have N0 := Fr.nil n0
  refine OwnFin.entry (own_ef_asbAppI m ob xv) (fun P' hP' => ?_)
  have lt_ob := own_lt E.lt
  have lt_da := own_lt Va.lt
  have od := own_lt ne_od
  have hdl := own_dec10 xv nn
  refine OwnFin.adv (B := s₁.setTop (mkF m 1 #[.val (.ref ob), .val (.int xv), .unset, .unset] [(.ref ob)])) (fun _ k => XS.aloadN X0.here hx rfl (hb hby own_d19_0) rfl rfl k) ?_
  obtain ⟨T1, X1, e1, st1⟩ := getF X0 hx hZ hown (host := "") (Or.inl (hw _ (List.mem_of_getElem? (i := 57) rfl))) Via.refl e0 Fn (g := (mkF m 1 #[.val (.ref ob), .val (.int xv), .unset, .unset] [(.ref ob)])) rfl rfl (hb hby own_d19_1)
  refine OwnFin.adv (B := T1.setTop (mkF m 4 #[.val (.ref ob), .val (.int xv), .unset, .unset] [(.int (Int32.ofNat k0))])) (fun _ k => st1 _ k) ?_
  refine OwnFin.adv (B := T1.setTop (mkF m 5 #[.val (.ref ob), .val (.int xv), .val (.int (Int32.ofNat k0)), .unset] [])) (fun _ k => XS.istoreN X1.here hx rfl (hb hby own_d19_4) rfl (l' := #[.val (.ref ob), .val (.int xv), .val (.int (Int32.ofNat k0)), .unset]) rfl k) ?_
  refine OwnFin.adv (B := T1.setTop (mkF m 6 #[.val (.ref ob), .val (.int xv), .val (.int (Int32.ofNat k0)), .unset] [(.int (Int32.ofNat k0))])) (fun _ k => XS.iloadN X1.here hx rfl (hb hby own_d19_5) rfl k) ?_
  refine OwnFin.adv (B := T1.setTop (mkF m 7 #[.val (.ref ob), .val (.int xv), .val (.int (Int32.ofNat k0)), .unset] [(.int xv), (.int (Int32.ofNat k0))])) (fun _ k => XS.iloadN X1.here hx rfl (hb hby own_d19_6) rfl k) ?_
  obtain ⟨_, _, ⟨T2, L2, k2, n2⟩, -, X2, ⟨Lc2, hQ2, l2, y2, z2⟩, st2⟩ := Jvm.LawKit.callS X1 hx (y := (⟨"java/lang/Integer", "stringSize", "(I)I"⟩ : MethodName)) hown (mvT hZ (hw _ (List.mem_of_getElem? (i := 116) rfl))) (mvT hZ (hw _ (List.mem_of_getElem? (i := 117) rfl))) (mvT hZ (hw _ (List.mem_of_getElem? (i := 118) rfl))) (mvT hZ (hw _ (List.mem_of_getElem? (i := 119) rfl))) (by decide) (backOf (W := 1) (own_ss l Z a0 hw [] xv nn h0 n0 hnn hxv) hZ (hw _ (List.mem_of_getElem? (i := 119) rfl)) (hw _ (List.mem_of_getElem? (i := 118) rfl)) (by decide) (by decide)) (g := (mkF m 7 #[.val (.ref ob), .val (.int xv), .val (.int (Int32.ofNat k0)), .unset] [(.int xv), (.int (Int32.ofNat k0))])) rfl (by rw [hml]; rfl) (argsL := [(.int xv)]) (rest := [(.int (Int32.ofNat k0))]) (lenOf own_pd_x28Ix29I rfl) rfl (by show 2 * 0 + _ ≤ _; exact Nat.le_of_eq rfl) (hb hby own_d19_7) (fun _ _ => ⟨rfl, e1, (by decide : 0 + 0 ≤ _), (by decide : 0 + 0 ≤ _)⟩)
  dsimp only [Pt.U, Pt.locs, Pt.cells, Pt.slots] at X2 l2 y2 z2 st2 hQ2
  subst l2 y2 z2
  obtain ⟨rfl, N2q, eh2⟩ := hQ2
  have N2 := Fr.app N0 N2q
  refine OwnFin.adv (B := T2.setTop (mkF m 10 #[.val (.ref ob), .val (.int xv), .val (.int (Int32.ofNat k0)), .unset] [(.int (Int32.ofNat (own_dec xv nn).length)), (.int (Int32.ofNat k0))])) (fun _ k => st2 _ k) ?_
  refine OwnFin.adv (B := T2.setTop (mkF m 11 #[.val (.ref ob), .val (.int xv), .val (.int (Int32.ofNat k0)), .unset] [(.int ((Int32.ofNat k0) + (Int32.ofNat (own_dec xv nn).length)))])) (fun _ k => XS.iadd X2.here hx rfl (hb hby own_d19_10) rfl k) ?_
  rw [show (((Int32.ofNat k0) + (Int32.ofNat (own_dec xv nn).length)) : Int32) = (Int32.ofNat (k0 + (own_dec xv nn).length)) from own_add _ _]
  refine OwnFin.adv (B := T2.setTop (mkF m 12 #[.val (.ref ob), .val (.int xv), .val (.int (Int32.ofNat k0)), .val (.int (Int32.ofNat (k0 + (own_dec xv nn).length)))] [])) (fun _ k => XS.istoreN X2.here hx rfl (hb hby own_d19_11) rfl (l' := #[.val (.ref ob), .val (.int xv), .val (.int (Int32.ofNat k0)), .val (.int (Int32.ofNat (k0 + (own_dec xv nn).length)))]) rfl k) ?_
  refine OwnFin.adv (B := T2.setTop (mkF m 13 #[.val (.ref ob), .val (.int xv), .val (.int (Int32.ofNat k0)), .val (.int (Int32.ofNat (k0 + (own_dec xv nn).length)))] [(.ref ob)])) (fun _ k => XS.aloadN X2.here hx rfl (hb hby own_d19_12) rfl rfl k) ?_
  refine OwnFin.adv (B := T2.setTop (mkF m 14 #[.val (.ref ob), .val (.int xv), .val (.int (Int32.ofNat k0)), .val (.int (Int32.ofNat (k0 + (own_dec xv nn).length)))] [(.int (Int32.ofNat (k0 + (own_dec xv nn).length))), (.ref ob)])) (fun _ k => XS.iloadN X2.here hx rfl (hb hby own_d19_13) rfl k) ?_
  obtain ⟨cq3, kq3, q3a, q3b, q3c⟩ := isOf hZ eh2 E
  obtain ⟨_, _, ⟨T3, L3, k3, n3⟩, -, X3, ⟨Lc3, hQ3, l3, y3, z3⟩, st3⟩ := X2.virtualBack hx (y := (⟨"java/lang/AbstractStringBuilder", "ensureCapacityInternal", "(I)V"⟩ : MethodName)) (z := (⟨"java/lang/AbstractStringBuilder", "ensureCapacityInternal", "(I)V"⟩ : MethodName)) hown (mvT hZ (hw _ (List.mem_of_getElem? (i := 59) rfl))) (mvT hZ (own_decl (hw _ (List.mem_of_getElem? (i := 60) rfl)) (hw _ (List.mem_of_getElem? (i := 63) rfl)))) (notFace_of_selects (args := #[]) (mvT hZ (hw _ (List.mem_of_getElem? (i := 62) rfl)))) (mvT hZ (hw _ (List.mem_of_getElem? (i := 62) rfl))) (mvT hZ (hw _ (List.mem_of_getElem? (i := 60) rfl))) (by decide) (backOf (W := 0) (own_ensureX l Z a0 hw [] ob da kd vd (k0 + (own_dec xv nn).length) cap k0 h0 n0 (by omega) E Fv Fc Fn Va hcap hvd hmx hgr g_ob) hZ (hw _ (List.mem_of_getElem? (i := 63) rfl)) (hw _ (List.mem_of_getElem? (i := 16) rfl)) (by decide) (by decide)) q3a q3c (g := (mkF m 14 #[.val (.ref ob), .val (.int xv), .val (.int (Int32.ofNat k0)), .val (.int (Int32.ofNat (k0 + (own_dec xv nn).length)))] [(.int (Int32.ofNat (k0 + (own_dec xv nn).length))), (.ref ob)])) rfl (by rw [hml]; rfl) (Steps.refl _) (argsL := [(.int (Int32.ofNat (k0 + (own_dec xv nn).length)))]) (rest := []) (lenOf own_pd_x28Ix29V rfl) rfl (by show 2 * 0 + _ ≤ _; exact Nat.le_of_eq rfl) (hb hby own_d19_14) (fun _ _ => ⟨rfl, eh2, (by decide : 0 + 1 ≤ _), (by decide : 0 + 72 ≤ _)⟩)
  dsimp only [Pt.U, Pt.locs, Pt.cells, Pt.slots] at X3 l3 y3 z3 st3 hQ3
  subst l3 y3 z3
  obtain ⟨rfl, N3q, K3, dn3, kn3, vn3, cn3, Fv3, Fc3, Fn3, Va3, hv3, ht3, hm3, hcn3, hd3⟩ := hQ3
  have N3 := Fr.app N2 N3q
  have sz4 : h0.size ≤ T3.heap.size := K3.1
  have lt_dn3 := own_lt Va3.lt
  have hcb3 : cn3 ≤ 72 := by omega
  have g_dn3 : n0 ≤ dn3 := by
    rcases hd3 with q | q
    · rw [q]; exact g_da
    · omega
  have od3 : ob < dn3 := by
    rcases hd3 with q | q
    · rw [q]; exact ne_od
    · exact own_lt (by omega)
  have odn3 := own_lt od3
  have hk3 : dn3 ∈ [ob, da] ∨ h0.size ≤ dn3 := hd3.imp (fun q => by rw [q]; exact List.mem_of_getElem? (i := 1) rfl) (fun q => q)
  refine OwnFin.adv (B := T3.setTop (mkF m 17 #[.val (.ref ob), .val (.int xv), .val (.int (Int32.ofNat k0)), .val (.int (Int32.ofNat (k0 + (own_dec xv nn).length)))] [])) (fun _ k => st3.trans k) ?_
  refine OwnFin.adv (B := T3.setTop (mkF m 18 #[.val (.ref ob), .val (.int xv), .val (.int (Int32.ofNat k0)), .val (.int (Int32.ofNat (k0 + (own_dec xv nn).length)))] [(.ref ob)])) (fun _ k => XS.aloadN X3.here hx rfl (hb hby own_d19_17) rfl rfl k) ?_
  have Old6 : Old Z n0 T3.heap := (O0.keep K3 (allS (by omega) all0))
  have Fv7_1 : Exa Z T3.heap ob "java/lang/StringBuilder" := (E.keep K3)
  obtain ⟨cq5, kq5, q5a, q5b, q5c⟩ := isOf hZ rfl Fv7_1
  obtain ⟨_, _, ⟨T5, L5, k5, n5⟩, -, X5, ⟨Lc5, hQ5, l5, y5, z5⟩, st5⟩ := X3.virtualBack hx (y := (⟨"java/lang/AbstractStringBuilder", "isLatin1", "()Z"⟩ : MethodName)) (z := (⟨"java/lang/AbstractStringBuilder", "isLatin1", "()Z"⟩ : MethodName)) hown (mvT hZ (hw _ (List.mem_of_getElem? (i := 120) rfl))) (mvT hZ (hw _ (List.mem_of_getElem? (i := 121) rfl))) (notFace_of_selects (args := #[]) (mvT hZ (hw _ (List.mem_of_getElem? (i := 123) rfl)))) (mvT hZ (hw _ (List.mem_of_getElem? (i := 123) rfl))) (mvT hZ (hw _ (List.mem_of_getElem? (i := 122) rfl))) (by decide) (backOf (W := 0) (own_isL1 l Z a0 hw [] ob zc T3.heap n0 (by omega) Old6 SCS hzc Fc3) hZ (hw _ (List.mem_of_getElem? (i := 124) rfl)) (hw _ (List.mem_of_getElem? (i := 16) rfl)) (by decide) (by decide)) q5a q5c (g := (mkF m 18 #[.val (.ref ob), .val (.int xv), .val (.int (Int32.ofNat k0)), .val (.int (Int32.ofNat (k0 + (own_dec xv nn).length)))] [(.ref ob)])) rfl (by rw [hml]; rfl) (Steps.refl _) (argsL := []) (rest := []) (lenOf own_pd_x28x29Z rfl) rfl (by show 2 * 0 + _ ≤ _; exact Nat.le_of_eq rfl) (hb hby own_d19_18) (fun _ _ => ⟨rfl, rfl, (by decide : 1 + 0 ≤ _), (by decide : 72 + 0 ≤ _)⟩)
  dsimp only [Pt.U, Pt.locs, Pt.cells, Pt.slots] at X5 l5 y5 z5 st5 hQ5
  subst l5 y5 z5
  obtain ⟨rfl, N5q, eh5⟩ := hQ5
  have N5 := Fr.app N3 N5q
  refine OwnFin.adv (B := T5.setTop (mkF m 21 #[.val (.ref ob), .val (.int xv), .val (.int (Int32.ofNat k0)), .val (.int (Int32.ofNat (k0 + (own_dec xv nn).length)))] [(.int (1 : Int32))])) (fun _ k => st5.trans k) ?_
  have hc21_14 : ¬ ((1 : Int32) = (0 : Int32)) := by decide
  refine OwnFin.adv (B := T5.setTop (mkF m 24 #[.val (.ref ob), .val (.int xv), .val (.int (Int32.ofNat k0)), .val (.int (Int32.ofNat (k0 + (own_dec xv nn).length)))] [])) (fun _ k => XS.ifNo X5.here hx rfl (hb hby own_d19_21) rfl ((if0 _ _).trans (feq hc21_14).1) k) ?_
  refine OwnFin.adv (B := T5.setTop (mkF m 25 #[.val (.ref ob), .val (.int xv), .val (.int (Int32.ofNat k0)), .val (.int (Int32.ofNat (k0 + (own_dec xv nn).length)))] [(.int xv)])) (fun _ k => XS.iloadN X5.here hx rfl (hb hby own_d19_24) rfl k) ?_
  refine OwnFin.adv (B := T5.setTop (mkF m 26 #[.val (.ref ob), .val (.int xv), .val (.int (Int32.ofNat k0)), .val (.int (Int32.ofNat (k0 + (own_dec xv nn).length)))] [(.int (Int32.ofNat (k0 + (own_dec xv nn).length))), (.int xv)])) (fun _ k => XS.iloadN X5.here hx rfl (hb hby own_d19_25) rfl k) ?_
  refine OwnFin.adv (B := T5.setTop (mkF m 27 #[.val (.ref ob), .val (.int xv), .val (.int (Int32.ofNat k0)), .val (.int (Int32.ofNat (k0 + (own_dec xv nn).length)))] [(.ref ob), (.int (Int32.ofNat (k0 + (own_dec xv nn).length))), (.int xv)])) (fun _ k => XS.aloadN X5.here hx rfl (hb hby own_d19_26) rfl rfl k) ?_
  obtain ⟨T8, X8, e8, st8⟩ := getF X5 hx hZ hown (host := "") (Or.inl (hw _ (List.mem_of_getElem? (i := 24) rfl))) Via.refl eh5 Fv3 (g := (mkF m 27 #[.val (.ref ob), .val (.int xv), .val (.int (Int32.ofNat k0)), .val (.int (Int32.ofNat (k0 + (own_dec xv nn).length)))] [(.ref ob), (.int (Int32.ofNat (k0 + (own_dec xv nn).length))), (.int xv)])) rfl rfl (hb hby own_d19_27)
  refine OwnFin.adv (B := T8.setTop (mkF m 30 #[.val (.ref ob), .val (.int xv), .val (.int (Int32.ofNat k0)), .val (.int (Int32.ofNat (k0 + (own_dec xv nn).length)))] [(.ref dn3), (.int (Int32.ofNat (k0 + (own_dec xv nn).length))), (.int xv)])) (fun _ k => st8 _ k) ?_
  obtain ⟨_, _, ⟨T9, L9, k9, n9⟩, -, X9, ⟨Lc9, hQ9, l9, y9, z9⟩, st9⟩ := Jvm.LawKit.callS X8 hx (y := (⟨"java/lang/Integer", "getChars", "(II[B)I"⟩ : MethodName)) hown (mvT hZ (hw _ (List.mem_of_getElem? (i := 125) rfl))) (mvT hZ (hw _ (List.mem_of_getElem? (i := 126) rfl))) (mvT hZ (hw _ (List.mem_of_getElem? (i := 118) rfl))) (mvT hZ (hw _ (List.mem_of_getElem? (i := 127) rfl))) (by decide) (backOf (W := 0) (own_gc l Z a0 hw [] xv nn k0 cn3 dn3 ist dg1 dg2 DG1 DG2 kn3 vn3 T3.heap n0 Old6 hnn hxv TB1 TB2 on1 on2 Va3 (by omega) hv3 hm3 g_dn3) hZ (hw _ (List.mem_of_getElem? (i := 127) rfl)) (hw _ (List.mem_of_getElem? (i := 118) rfl)) (by decide) (by decide)) (g := (mkF m 30 #[.val (.ref ob), .val (.int xv), .val (.int (Int32.ofNat k0)), .val (.int (Int32.ofNat (k0 + (own_dec xv nn).length)))] [(.ref dn3), (.int (Int32.ofNat (k0 + (own_dec xv nn).length))), (.int xv)])) rfl (by rw [hml]; rfl) (argsL := [(.int xv), (.int (Int32.ofNat (k0 + (own_dec xv nn).length))), (.ref dn3)]) (rest := []) (lenOf own_pd_x28IIx5bBx29I rfl) rfl (by show 2 * 0 + _ ≤ _; exact Nat.le_of_eq rfl) (hb hby own_d19_30) (fun _ _ => ⟨rfl, e8, (by decide : 1 + 0 ≤ _), (by decide : 72 + 0 ≤ _)⟩)
  dsimp only [Pt.U, Pt.locs, Pt.cells, Pt.slots] at X9 l9 y9 z9 st9 hQ9
  subst l9 y9 z9
  obtain ⟨rfl, N9q, K9, vg9, Va9, hlg9, htg9⟩ := hQ9
  have N9 := Fr.app N5 N9q
  have sz10 : T3.heap.size ≤ T9.heap.size := K9.1
  refine OwnFin.adv (B := T9.setTop (mkF m 33 #[.val (.ref ob), .val (.int xv), .val (.int (Int32.ofNat k0)), .val (.int (Int32.ofNat (k0 + (own_dec xv nn).length)))] [(.int (Int32.ofNat k0))])) (fun _ k => st9 _ k) ?_
  refine OwnFin.adv (B := T9.setTop (mkF m 34 #[.val (.ref ob), .val (.int xv), .val (.int (Int32.ofNat k0)), .val (.int (Int32.ofNat (k0 + (own_dec xv nn).length)))] [])) (fun _ k => XS.pop X9.here hx rfl (hb hby own_d19_33) rfl rfl k) ?_
  refine OwnFin.adv (B := T9.setTop (mkF m 48 #[.val (.ref ob), .val (.int xv), .val (.int (Int32.ofNat k0)), .val (.int (Int32.ofNat (k0 + (own_dec xv nn).length)))] [])) (fun _ k => XS.goto X9.here hx rfl (pc0 := 34) (pc' := 48) rfl (hb hby own_d19_34) (by decide) (by decide) k) ?_
  refine OwnFin.adv (B := T9.setTop (mkF m 49 #[.val (.ref ob), .val (.int xv), .val (.int (Int32.ofNat k0)), .val (.int (Int32.ofNat (k0 + (own_dec xv nn).length)))] [(.ref ob)])) (fun _ k => XS.aloadN X9.here hx rfl (hb hby own_d19_48) rfl rfl k) ?_
  refine OwnFin.adv (B := T9.setTop (mkF m 50 #[.val (.ref ob), .val (.int xv), .val (.int (Int32.ofNat k0)), .val (.int (Int32.ofNat (k0 + (own_dec xv nn).length)))] [(.int (Int32.ofNat (k0 + (own_dec xv nn).length))), (.ref ob)])) (fun _ k => XS.iloadN X9.here hx rfl (hb hby own_d19_49) rfl k) ?_
  have Fv11_2 : Exa Z T9.heap ob "java/lang/StringBuilder" := (Fv7_1.keep K9)
  have Fv12_2 : Fld Z T9.heap ob "java/lang/AbstractStringBuilder" "count" "I" (.int (Int32.ofNat k0)) := (Fn3.keep K9 (ninS (own_ne (by omega)) nin0))
  obtain ⟨T13, h13, X13, e13, W13, st13⟩ := putF X9 hx hZ hown (host := "") (Or.inl (hw _ (List.mem_of_getElem? (i := 57) rfl))) Via.refl rfl Fv12_2 Fv11_2 (Or.inl (hw _ (List.mem_of_getElem? (i := 58) rfl))) (hw _ (List.mem_of_getElem? (i := 7) rfl)) (ty := .int) (by decide) rfl rfl (g := (mkF m 50 #[.val (.ref ob), .val (.int xv), .val (.int (Int32.ofNat k0)), .val (.int (Int32.ofNat (k0 + (own_dec xv nn).length)))] [(.int (Int32.ofNat (k0 + (own_dec xv nn).length))), (.ref ob)])) rfl rfl (hb hby own_d19_50)
  have Fw13 : Fld Z h13 ob "java/lang/AbstractStringBuilder" "count" "I" (.int (Int32.ofNat (k0 + (own_dec xv nn).length))) := Fv12_2.same W13
  have sz14 : T9.heap.size ≤ h13.size := Nat.le_of_eq W13.size.symm
  have N13 := Fr.snoc X13 N9 (by omega : n0 ≤ ob)
  refine OwnFin.adv (B := T13.setTop (mkF m 53 #[.val (.ref ob), .val (.int xv), .val (.int (Int32.ofNat k0)), .val (.int (Int32.ofNat (k0 + (own_dec xv nn).length)))] [])) (fun _ k => st13 _ k) ?_
  refine OwnFin.adv (B := T13.setTop (mkF m 54 #[.val (.ref ob), .val (.int xv), .val (.int (Int32.ofNat k0)), .val (.int (Int32.ofNat (k0 + (own_dec xv nn).length)))] [(.ref ob)])) (fun _ k => XS.aloadN X13.here hx rfl (hb hby own_d19_53) rfl rfl k) ?_
  obtain ⟨fs, hr, hrun, hended, hW, hsame⟩ := X13.leave (v := some (.ref ob)) (fun h => by rw [Bd.returns] at h; cases h)
  refine OwnFin.leaf hP' ⟨_, _, own_retR X13 hx Bd.returns rfl rfl rfl (hb hby own_d19_54) hr, hrun, hended, _, _, rfl, ?_, ⟨_, rfl⟩, hW, hsame.mono (by decide) (by decide)⟩
  have Fv15_3 : Fld Z h13 ob "java/lang/AbstractStringBuilder" "value" "[B" (.ref dn3) := ((Fv3.keep K9 (ninS (own_ne (by omega)) nin0)).other W13 (Or.inr (slot_ne (Or.inl (hw _ (List.mem_of_getElem? (i := 25) rfl))) (Or.inl (hw _ (List.mem_of_getElem? (i := 58) rfl))) (by decide) (t := (.array .byte)) (t' := .int) (by decide) (by decide))))
  have Fv16_3 : Fld Z h13 ob "java/lang/AbstractStringBuilder" "coder" "B" (.int (0 : Int32)) := ((Fc3.keep K9 (ninS (own_ne (by omega)) nin0)).other W13 (Or.inr (slot_ne (Or.inl (hw _ (List.mem_of_getElem? (i := 27) rfl))) (Or.inl (hw _ (List.mem_of_getElem? (i := 58) rfl))) (by decide) (t := .byte) (t' := .int) (by decide) (by decide))))
  have Fv17_3 : Arv Z h13 dn3 kn3 .byte (Int32.ofNat cn3) vg9 (.int (0 : Int32)) := (Va9.other W13 (own_ne (by omega)))
  rw [show (T13.setFrames fs).heap = h13 from e13]
  exact ⟨rfl, N13, ((((Keep.refl h0 [ob, da]).trans K3 (allS (Or.inl (List.mem_of_getElem? (i := 0) rfl)) all0)).trans K9 (allS hk3 all0)).wr W13 (Or.inl (List.mem_of_getElem? (i := 0) rfl))), dn3, kn3, _, cn3, Fv15_3, Fv16_3, Fw13, Fv17_3, hlg9, by rw [htg9, own_takes ht3 hk0], hm3, hcn3, g_dn3, od3, hd3⟩
theorem own_d18_0 : decode jdk_67_method_15_code 0 = .ok (.aload_n 0, 1) := by decide +kernel
theorem own_d18_1 : decode jdk_67_method_15_code 1 = .ok (.iload_n 1, 1) := by decide +kernel
theorem own_pd_x28Ix29Ljavax2flangx2fAbstractStringBuilderx3b : parseMethodDescriptor "(I)Ljava/lang/AbstractStringBuilder;" = some ⟨[.int], some (.object "java/lang/AbstractStringBuilder")⟩ := by decide +kernel
theorem own_d18_2 : decode jdk_67_method_15_code 2 = .ok (.invokespecial 53, 3) := by decide +kernel
theorem own_d18_5 : decode jdk_67_method_15_code 5 = .ok (.pop, 1) := by decide +kernel
theorem own_d18_6 : decode jdk_67_method_15_code 6 = .ok (.aload_n 0, 1) := by decide +kernel
theorem own_d18_7 : decode jdk_67_method_15_code 7 = .ok (.areturn, 1) := by decide +kernel
theorem own_ef_sbAppI (m : MethodId) (x0 : Addr) (x1 : Int32) : entryFrame m #[(.ref x0), (.int x1)] 2 = mkF m 0 #[.val (.ref x0), .val (.int x1)] [] := by first | (simp [entryFrame, mkF, argsToLocals, Value.category]; done) | rfl
def own_Q_sbAppI (Z : State) (ob da : Addr) (kd : ClassId) (vd : List Value) (zc xv : Int32) (cap k0 nn : Nat) (ist dg1 dg2 : Addr) (DG1 DG2 : Cell) (h0 : Heap) (n0 : Nat) (v : Option Value) (h : Heap) (L : List Loc) : Prop := v = some (.ref ob) ∧ Fr n0 L ∧ Keep h0 h [ob, da] ∧ ∃ (dn : Addr) (kn : ClassId) (vn : List Value) (cn : Nat), Fld Z h ob "java/lang/AbstractStringBuilder" "value" "[B" (.ref dn) ∧ Fld Z h ob "java/lang/AbstractStringBuilder" "coder" "B" (.int (0 : Int32)) ∧ Fld Z h ob "java/lang/AbstractStringBuilder" "count" "I" (.int (Int32.ofNat (k0 + (own_dec xv nn).length))) ∧ Arv Z h dn kn .byte (Int32.ofNat cn) vn (.int (0 : Int32)) ∧ vn.length = cn ∧ vn.take (k0 + (own_dec xv nn).length) = vd.take k0 ++ (((own_dec xv nn).map fun c => c.toInt8.toInt32).map Value.int) ∧ k0 + (own_dec xv nn).length ≤ cn ∧ (cn = cap ∨ (cap < k0 + (own_dec xv nn).length ∧ cn = cap + (cap + 2))) ∧ n0 ≤ dn ∧ ob < dn ∧ (dn = da ∨ h0.size ≤ dn)
set_option maxRecDepth 65536 in
set_option maxHeartbeats 40000000 in
theorem own_sbAppI (l : Launch) (Z : State) (a0 : Array Value) (hw : ∀ d ∈ tables_1, d.before a0 Z = true) (ws : List Jvm.Cond) (ob da : Addr) (kd : ClassId) (vd : List Value) (zc xv : Int32) (cap k0 nn : Nat) (ist dg1 dg2 : Addr) (DG1 DG2 : Cell) (h0 : Heap) (n0 : Nat) (Z0 : n0 ≤ h0.size) (O0 : Old Z n0 h0) (SCS : Sta Z Z.heap "java/lang/String" "COMPACT_STRINGS" "Z" (.int zc)) (hzc : ¬ zc = 0) (E : Exa Z h0 ob "java/lang/StringBuilder") (Fv : Fld Z h0 ob "java/lang/AbstractStringBuilder" "value" "[B" (.ref da)) (Fc : Fld Z h0 ob "java/lang/AbstractStringBuilder" "coder" "B" (.int (0 : Int32))) (Fn : Fld Z h0 ob "java/lang/AbstractStringBuilder" "count" "I" (.int (Int32.ofNat k0))) (Va : Arv Z h0 da kd .byte (Int32.ofNat cap) vd (.int (0 : Int32))) (hcap : cap ≤ 70) (hvd : vd.length = cap) (hk0 : k0 ≤ cap) (hnn : nn ≤ 2 ^ 31) (hxv : (if xv < 0 then xv else -xv) = Jvm.Free.SBG.negI nn) (TB1 : Jvm.Free.SBG.Tbl Z "DigitOnes" ist dg1 DG1) (TB2 : Jvm.Free.SBG.Tbl Z "DigitTens" ist dg2 DG2) (on1 : Jvm.Free.SBG.Ones DG1) (on2 : Jvm.Free.SBG.Tens DG2) (hmx : k0 + (own_dec xv nn).length < 2 * cap + 2) (hgr : cap < k0 + (own_dec xv nn).length → cap ≤ 35) (g_ob : n0 ≤ ob) (g_da : n0 ≤ da) (ne_od : ob < da) :
    MetFree l (⟨"java/lang/StringBuilder", "append", "(I)Ljava/lang/StringBuilder;"⟩ : MethodName) (head1 (Jvm.Cond.code (⟨"java/lang/StringBuilder", "append", "(I)Ljava/lang/StringBuilder;"⟩ : MethodName) jdk_67_method_15_code 2 (some (.object "java/lang/StringBuilder")) :: ws) ({ frames := 5, cells := 1, slots := 72, locals := 93 } : Room)) (fun A0 U0 => A0 = #[(.ref ob), (.int xv)] ∧ Z.Warmed39 U0.vm ∧ U0.heap = h0) (fun _ _ _ _ _ => True) (fun _ U0 o0 U1 => ∃ v0 L0, o0 = .returned v0 ∧ own_Q_sbAppI Z ob da kd vd zc xv cap k0 nn ist dg1 dg2 DG1 DG2 h0 n0 v0 U1.heap L0 ∧ FrameEnd U0 o0 U1 L0 ({ frames := 5, cells := 1, slots := 72, locals := 93 } : Room).cells ({ frames := 5, cells := 1, slots := 72, locals := 93 } : Room).slots) := by
  refine MetFree.of_bodySF (plainFor_of_name own_pn_java_lang_StringBuilder) hisR ?_
  intro p e s m args below meth c s₁ Bd hml0 hP hK
  obtain ⟨rfl, hZ, hh⟩ := hP
  have hZs0 := hZ
  have hZs := hZ
  have hx := Bd.exec
  have hby := Bd.bytes
  have hby_ := hby
  have hml : c.maxLocals = 2 := hml0
  have hown : s.vm.findClass "java/lang/StringBuilder" = some m.cls := findClass_of_methodNamed Bd.named
  have hnm := (name_of_methodNamed Bd.named Bd.method).1
  have X0 : Stand p l e ({ frames := 5, cells := 1, slots := 72, locals := 93 } : Room) s m #[(.ref ob), (.int xv)] below meth c s₁ [] 0 0 := Stand.of_body Bd
  have e0 : s₁.heap = h0 := by rw [← hh, Bd.state]; rfl
  have N0 := Fr.nil n0
  refine OwnFin.entry (own_ef_sbAppI m ob xv) (fun P' hP' => ?_)
  have lt_ob := own_lt E.lt
  have lt_da := own_lt Va.lt
  have od := own_lt ne_od
  have hdl := own_dec10 xv nn
  refine OwnFin.adv (B := s₁.setTop (mkF m 1 #[.val (.ref ob), .val (.int xv)] [(.ref ob)])) (fun _ k => XS.aloadN X0.here hx rfl (hb hby own_d18_0) rfl rfl k) ?_
  refine OwnFin.adv (B := s₁.setTop (mkF m 2 #[.val (.ref ob), .val (.int xv)] [(.int xv), (.ref ob)])) (fun _ k => XS.iloadN X0.here hx rfl (hb hby own_d18_1) rfl k) ?_
  obtain ⟨_, _, ⟨T1, L1, k1, n1⟩, -, X1, ⟨Lc1, hQ1, l1, y1, z1⟩, st1⟩ := superBack X0 hx hZ (y := (⟨"java/lang/AbstractStringBuilder", "append", "(I)Ljava/lang/AbstractStringBuilder;"⟩ : MethodName)) hown (hw _ (List.mem_of_getElem? (i := 112) rfl)) (own_same (y := (⟨"java/lang/AbstractStringBuilder", "append", "(I)Ljava/lang/AbstractStringBuilder;"⟩ : MethodName)) (z := (⟨"java/lang/AbstractStringBuilder", "ensureCapacityInternal", "(I)V"⟩ : MethodName)) (hw _ (List.mem_of_getElem? (i := 114) rfl)) (own_decl (hw _ (List.mem_of_getElem? (i := 60) rfl)) (hw _ (List.mem_of_getElem? (i := 63) rfl))) (notFace_of_selects (args := a0) (hw _ (List.mem_of_getElem? (i := 62) rfl))) rfl (by decide)) (hw _ (List.mem_of_getElem? (i := 113) rfl)) (hw _ (List.mem_of_getElem? (i := 41) rfl)) (by decide) (backOf (W := 0) (own_asbAppI l Z a0 hw [] ob da kd vd zc xv cap k0 nn ist dg1 dg2 DG1 DG2 h0 n0 (by omega) O0 SCS hzc E Fv Fc Fn Va hcap hvd hk0 hnn hxv TB1 TB2 on1 on2 hmx hgr g_ob g_da ne_od) hZ (hw _ (List.mem_of_getElem? (i := 115) rfl)) (hw _ (List.mem_of_getElem? (i := 16) rfl)) (by decide) (by decide)) e0 (Ins.self E) (g := (mkF m 2 #[.val (.ref ob), .val (.int xv)] [(.int xv), (.ref ob)])) rfl (by rw [hml]; rfl) (hw _ (List.mem_of_getElem? (i := 115) rfl)) (argsL := [(.int xv)]) (rest := []) (lenOf own_pd_x28Ix29Ljavax2flangx2fAbstractStringBuilderx3b rfl) rfl (by show 2 * 0 + _ ≤ _; exact Nat.le_of_eq rfl) (hb hby own_d18_2) (fun _ _ => ⟨rfl, e0, (by decide : 0 + 1 ≤ _), (by decide : 0 + 72 ≤ _)⟩)
  dsimp only [Pt.U, Pt.locs, Pt.cells, Pt.slots] at X1 l1 y1 z1 st1 hQ1
  subst l1 y1 z1
  obtain ⟨rfl, N1q, K1, dn1, kn1, vn1, cn1, Fv1, Fc1, Fn1, Va1, hv1, ht1, hm1, hcn1, g_dn1, od1, hd1⟩ := hQ1
  have N1 := Fr.app N0 N1q
  have sz2 : h0.size ≤ T1.heap.size := K1.1
  have lt_dn1 := own_lt Va1.lt
  refine OwnFin.adv (B := T1.setTop (mkF m 5 #[.val (.ref ob), .val (.int xv)] [(.ref ob)])) (fun _ k => st1.trans k) ?_
  refine OwnFin.adv (B := T1.setTop (mkF m 6 #[.val (.ref ob), .val (.int xv)] [])) (fun _ k => XS.pop X1.here hx rfl (hb hby own_d18_5) rfl rfl k) ?_
  refine OwnFin.adv (B := T1.setTop (mkF m 7 #[.val (.ref ob), .val (.int xv)] [(.ref ob)])) (fun _ k => XS.aloadN X1.here hx rfl (hb hby own_d18_6) rfl rfl k) ?_
  obtain ⟨fs, hr, hrun, hended, hW, hsame⟩ := X1.leave (v := some (.ref ob)) (fun h => by rw [Bd.returns] at h; cases h)
  refine OwnFin.leaf hP' ⟨_, _, own_retR X1 hx Bd.returns rfl rfl rfl (hb hby own_d18_7) hr, hrun, hended, _, _, rfl, ?_, ⟨_, rfl⟩, hW, hsame.mono (by decide) (by decide)⟩
  rw [show (T1.setFrames fs).heap = T1.heap from rfl]
  exact ⟨rfl, N1, ((Keep.refl h0 [ob, da]).trans K1 (allS (Or.inl (List.mem_of_getElem? (i := 0) rfl)) (allS (Or.inl (List.mem_of_getElem? (i := 1) rfl)) all0))), dn1, kn1, _, cn1, Fv1, Fc1, Fn1, Va1, hv1, ht1, hm1, hcn1, g_dn1, od1, hd1⟩
theorem own_d35_0 : decode jdk_78_method_2_code 0 = .ok (.aload_n 0, 1) := by decide +kernel
theorem own_d35_1 : decode jdk_78_method_2_code 1 = .ok (.invokespecial 1, 3) := by decide +kernel
theorem own_d35_4 : decode jdk_78_method_2_code 4 = .ok (.aload_n 0, 1) := by decide +kernel
theorem own_d35_5 : decode jdk_78_method_2_code 5 = .ok (.aload_n 0, 1) := by decide +kernel
theorem own_d35_6 : decode jdk_78_method_2_code 6 = .ok (.putfield 7, 3) := by decide +kernel
theorem own_d35_9 : decode jdk_78_method_2_code 9 = .ok (.aload_n 0, 1) := by decide +kernel
theorem own_d35_10 : decode jdk_78_method_2_code 10 = .ok (.getstatic 13, 3) := by decide +kernel
theorem own_d35_13 : decode jdk_78_method_2_code 13 = .ok (.putfield 17, 3) := by decide +kernel
theorem own_d35_16 : decode jdk_78_method_2_code 16 = .ok (.aload_n 0, 1) := by decide +kernel
theorem own_d35_17 : decode jdk_78_method_2_code 17 = .ok (.getstatic 20, 3) := by decide +kernel
theorem own_d35_20 : decode jdk_78_method_2_code 20 = .ok (.putfield 24, 3) := by decide +kernel
theorem own_d35_23 : decode jdk_78_method_2_code 23 = .ok (.aload_n 0, 1) := by decide +kernel
theorem own_d35_24 : decode jdk_78_method_2_code 24 = .ok (.invokevirtual 27, 3) := by decide +kernel
theorem own_d35_27 : decode jdk_78_method_2_code 27 = .ok (.pop, 1) := by decide +kernel
theorem own_d35_28 : decode jdk_78_method_2_code 28 = .ok (.aload_n 0, 1) := by decide +kernel
theorem own_d35_29 : decode jdk_78_method_2_code 29 = .ok (.aload_n 1, 1) := by decide +kernel
theorem own_d35_30 : decode jdk_78_method_2_code 30 = .ok (.putfield 31, 3) := by decide +kernel
theorem own_d35_33 : decode jdk_78_method_2_code 33 = .ok (.return_, 1) := by decide +kernel
theorem own_ef_thInit (m : MethodId) (x0 : Addr) (x1 : Addr) : entryFrame m #[(.ref x0), (.ref x1)] 2 = mkF m 0 #[.val (.ref x0), .val (.ref x1)] [] := by first | (simp [entryFrame, mkF, argsToLocals, Value.category]; done) | rfl
theorem own_pn_java_lang_Throwable : plainName "java/lang/Throwable" = true := by first | (simp [plainName, overriddenIn]; done) | decide +kernel
def own_Q_thInit (Z : State) (ob so ua uz : Addr) (u0 u1 : Value) (h0 : Heap) (n0 : Nat) (v : Option Value) (h : Heap) (L : List Loc) : Prop := v = none ∧ Fr n0 L ∧ Keep h0 h [ob] ∧ Fld Z h ob "com/example/rollbook/rollbook/http/ApiException" "status" "I" u0 ∧ Fld Z h ob "com/example/rollbook/rollbook/http/ApiException" "allow" "Ljava/lang/String;" u1 ∧ Fld Z h ob "java/lang/Throwable" "detailMessage" "Ljava/lang/String;" (.ref so)
set_option maxRecDepth 65536 in
set_option maxHeartbeats 40000000 in
theorem own_thInit (l : Launch) (Z : State) (a0 : Array Value) (hw : ∀ d ∈ tables_1, d.before a0 Z = true) (ws : List Jvm.Cond) (ob so ua uz : Addr) (u0 u1 : Value) (h0 : Heap) (n0 : Nat) (Z0 : n0 ≤ h0.size) (O0 : Old Z n0 h0) (hst : l.stackTraces = true) (SU : Sta Z Z.heap "java/lang/Throwable" "UNASSIGNED_STACK" "[Ljava/lang/StackTraceElement;" (.ref ua)) (SV : Sta Z Z.heap "java/lang/Throwable" "SUPPRESSED_SENTINEL" "Ljava/util/List;" (.ref uz)) (E : Exa Z h0 ob "com/example/rollbook/rollbook/http/ApiException") (Un : Unt h0 ob) (F_cause : Fld Z h0 ob "java/lang/Throwable" "cause" "Ljava/lang/Throwable;" .null) (F_stackTrace : Fld Z h0 ob "java/lang/Throwable" "stackTrace" "[Ljava/lang/StackTraceElement;" .null) (F_suppressedExceptions : Fld Z h0 ob "java/lang/Throwable" "suppressedExceptions" "Ljava/util/List;" .null) (F_backtrace : Fld Z h0 ob "java/lang/Throwable" "backtrace" "Ljava/lang/Object;" .null) (F_detailMessage : Fld Z h0 ob "java/lang/Throwable" "detailMessage" "Ljava/lang/String;" .null) (Fs : Fld Z h0 ob "com/example/rollbook/rollbook/http/ApiException" "status" "I" u0) (Fa : Fld Z h0 ob "com/example/rollbook/rollbook/http/ApiException" "allow" "Ljava/lang/String;" u1) (g_ob : n0 ≤ ob) :
    MetFree l (⟨"java/lang/Throwable", "<init>", "(Ljava/lang/String;)V"⟩ : MethodName) (head1 (Jvm.Cond.code (⟨"java/lang/Throwable", "<init>", "(Ljava/lang/String;)V"⟩ : MethodName) jdk_78_method_2_code 2 none :: ws) ({ frames := 3, cells := 1, slots := 2752, locals := 42 } : Room)) (fun A0 U0 => A0 = #[(.ref ob), (.ref so)] ∧ Z.Warmed39 U0.vm ∧ U0.heap = h0) (fun _ _ bl s _ => s.vm.MethodsKnown ∧ s.vm.FramesKnown bl) (fun _ U0 o0 U1 => ∃ v0 L0, o0 = .returned v0 ∧ own_Q_thInit Z ob so ua uz u0 u1 h0 n0 v0 U1.heap L0 ∧ FrameEnd U0 o0 U1 L0 ({ frames := 3, cells := 1, slots := 2752, locals := 42 } : Room).cells ({ frames := 3, cells := 1, slots := 2752, locals := 42 } : Room).slots) := by
  refine MetFree.of_bodySF (plainFor_of_name own_pn_java_lang_Throwable) hisR ?_
  intro p e s m args below meth c s₁ Bd hml0 hP hK
  obtain ⟨rfl, hZ, hh⟩ := hP
  obtain ⟨hTK, hBl⟩ := hK
  have hZs := hZ
  have hx := Bd.exec
  have hby := Bd.bytes
  have hby_ := hby
  have hml : c.maxLocals = 2 := hml0
  have hown : s.vm.findClass "java/lang/Throwable" = some m.cls := findClass_of_methodNamed Bd.named
  have hnm := (name_of_methodNamed Bd.named Bd.method).1
  have X0 : Stand p l e ({ frames := 3, cells := 1, slots := 2752, locals := 42 } : Room) s m #[(.ref ob), (.ref so)] below meth c s₁ [] 0 0 := Stand.of_body Bd
  have e0 : s₁.heap = h0 := by rw [← hh, Bd.state]; rfl
  have N0 := Fr.nil n0
  refine OwnFin.entry (own_ef_thInit m ob so) (fun P' hP' => ?_)
  have lt_ob := own_lt E.lt
  refine OwnFin.adv (B := s₁.setTop (mkF m 1 #[.val (.ref ob), .val (.ref so)] [(.ref ob)])) (fun _ k => XS.aloadN X0.here hx rfl (hb hby own_d35_0) rfl rfl k) ?_
  obtain ⟨T1, X1, e1, st1⟩ := initO X0 hx hZ hown (hw _ (List.mem_of_getElem? (i := 187) rfl)) (hw _ (List.mem_of_getElem? (i := 19) rfl)) (hw _ (List.mem_of_getElem? (i := 20) rfl)) e0 (g := (mkF m 1 #[.val (.ref ob), .val (.ref so)] [(.ref ob)])) rfl (by rw [hml]; rfl) rfl (hb hby own_d35_1) (by decide) (W := 0) (by show 2 * 0 + _ ≤ _; exact Nat.le_of_eq rfl) (by decide)
  refine OwnFin.adv (B := T1.setTop (mkF m 4 #[.val (.ref ob), .val (.ref so)] [])) (fun _ k => st1 _ k) ?_
  refine OwnFin.adv (B := T1.setTop (mkF m 5 #[.val (.ref ob), .val (.ref so)] [(.ref ob)])) (fun _ k => XS.aloadN X1.here hx rfl (hb hby own_d35_4) rfl rfl k) ?_
  refine OwnFin.adv (B := T1.setTop (mkF m 6 #[.val (.ref ob), .val (.ref so)] [(.ref ob), (.ref ob)])) (fun _ k => XS.aloadN X1.here hx rfl (hb hby own_d35_5) rfl rfl k) ?_
  obtain ⟨T2, h2, X2, e2, W2, st2⟩ := putF X1 hx hZ hown (host := "") (Or.inl (hw _ (List.mem_of_getElem? (i := 188) rfl))) Via.refl e1 F_cause E (Or.inl (hw _ (List.mem_of_getElem? (i := 189) rfl))) (hw _ (List.mem_of_getElem? (i := 5) rfl)) (ty := (.object "java/lang/Throwable")) (by decide) rfl rfl (g := (mkF m 6 #[.val (.ref ob), .val (.ref so)] [(.ref ob), (.ref ob)])) rfl rfl (hb hby own_d35_6)
  have Fw2 : Fld Z h2 ob "java/lang/Throwable" "cause" "Ljava/lang/Throwable;" (.ref ob) := F_cause.same W2
  have sz3 : h0.size ≤ h2.size := Nat.le_of_eq W2.size.symm
  have N2 := Fr.snoc X2 N0 (by omega : n0 ≤ ob)
  refine OwnFin.adv (B := T2.setTop (mkF m 9 #[.val (.ref ob), .val (.ref so)] [])) (fun _ k => st2 _ k) ?_
  refine OwnFin.adv (B := T2.setTop (mkF m 10 #[.val (.ref ob), .val (.ref so)] [(.ref ob)])) (fun _ k => XS.aloadN X2.here hx rfl (hb hby own_d35_9) rfl rfl k) ?_
  have Old5 : Old Z n0 h2 := (O0.wr W2 (by omega))
  obtain ⟨T4, X4, e4, st4⟩ := getS2 X2 hx hZ hown (host := "") (Or.inl (hw _ (List.mem_of_getElem? (i := 190) rfl))) Via.refl e2 (own_staK SU Old5) (g := (mkF m 10 #[.val (.ref ob), .val (.ref so)] [(.ref ob)])) rfl (hb hby own_d35_10)
  refine OwnFin.adv (B := T4.setTop (mkF m 13 #[.val (.ref ob), .val (.ref so)] [(.ref ua), (.ref ob)])) (fun _ k => st4 _ k) ?_
  have Fv6_1 : Exa Z h2 ob "com/example/rollbook/rollbook/http/ApiException" := (E.wr W2)
  have Fv7_1 : Fld Z h2 ob "java/lang/Throwable" "stackTrace" "[Ljava/lang/StackTraceElement;" .null := (F_stackTrace.other W2 (Or.inr (slot_ne (Or.inl (hw _ (List.mem_of_getElem? (i := 192) rfl))) (Or.inl (hw _ (List.mem_of_getElem? (i := 189) rfl))) (by decide) (t := (.array (.object "java/lang/StackTraceElement"))) (t' := (.object "java/lang/Throwable")) (by decide) (by decide))))
  obtain ⟨T8, h8, X8, e8, W8, st8⟩ := putF X4 hx hZ hown (host := "") (Or.inl (hw _ (List.mem_of_getElem? (i := 191) rfl))) Via.refl e4 Fv7_1 Fv6_1 (Or.inl (hw _ (List.mem_of_getElem? (i := 192) rfl))) (hw _ (List.mem_of_getElem? (i := 5) rfl)) (ty := (.array (.object "java/lang/StackTraceElement"))) (by decide) rfl rfl (g := (mkF m 13 #[.val (.ref ob), .val (.ref so)] [(.ref ua), (.ref ob)])) rfl rfl (hb hby own_d35_13)
  have Fw8 : Fld Z h8 ob "java/lang/Throwable" "stackTrace" "[Ljava/lang/StackTraceElement;" (.ref ua) := Fv7_1.same W8
  have sz9 : h2.size ≤ h8.size := Nat.le_of_eq W8.size.symm
  have N8 := Fr.snoc X8 N2 (by omega : n0 ≤ ob)
  refine OwnFin.adv (B := T8.setTop (mkF m 16 #[.val (.ref ob), .val (.ref so)] [])) (fun _ k => st8 _ k) ?_
  refine OwnFin.adv (B := T8.setTop (mkF m 17 #[.val (.ref ob), .val (.ref so)] [(.ref ob)])) (fun _ k => XS.aloadN X8.here hx rfl (hb hby own_d35_16) rfl rfl k) ?_
  have Old11 : Old Z n0 h8 := (Old5.wr W8 (by omega))
  obtain ⟨T10, X10, e10, st10⟩ := getS2 X8 hx hZ hown (host := "") (Or.inl (hw _ (List.mem_of_getElem? (i := 193) rfl))) Via.refl e8 (own_staK SV Old11) (g := (mkF m 17 #[.val (.ref ob), .val (.ref so)] [(.ref ob)])) rfl (hb hby own_d35_17)
  refine OwnFin.adv (B := T10.setTop (mkF m 20 #[.val (.ref ob), .val (.ref so)] [(.ref uz), (.ref ob)])) (fun _ k => st10 _ k) ?_
  have Fv12_2 : Exa Z h8 ob "com/example/rollbook/rollbook/http/ApiException" := (Fv6_1.wr W8)
  have Fv13_2 : Fld Z h8 ob "java/lang/Throwable" "suppressedExceptions" "Ljava/util/List;" .null := ((F_suppressedExceptions.other W2 (Or.inr (slot_ne (Or.inl (hw _ (List.mem_of_getElem? (i := 195) rfl))) (Or.inl (hw _ (List.mem_of_getElem? (i := 189) rfl))) (by decide) (t := (.object "java/util/List")) (t' := (.object "java/lang/Throwable")) (by decide) (by decide)))).other W8 (Or.inr (slot_ne (Or.inl (hw _ (List.mem_of_getElem? (i := 195) rfl))) (Or.inl (hw _ (List.mem_of_getElem? (i := 192) rfl))) (by decide) (t := (.object "java/util/List")) (t' := (.array (.object "java/lang/StackTraceElement"))) (by decide) (by decide))))
  obtain ⟨T14, h14, X14, e14, W14, st14⟩ := putF X10 hx hZ hown (host := "") (Or.inl (hw _ (List.mem_of_getElem? (i := 194) rfl))) Via.refl e10 Fv13_2 Fv12_2 (Or.inl (hw _ (List.mem_of_getElem? (i := 195) rfl))) (hw _ (List.mem_of_getElem? (i := 5) rfl)) (ty := (.object "java/util/List")) (by decide) rfl rfl (g := (mkF m 20 #[.val (.ref ob), .val (.ref so)] [(.ref uz), (.ref ob)])) rfl rfl (hb hby own_d35_20)
  have Fw14 : Fld Z h14 ob "java/lang/Throwable" "suppressedExceptions" "Ljava/util/List;" (.ref uz) := Fv13_2.same W14
  have sz15 : h8.size ≤ h14.size := Nat.le_of_eq W14.size.symm
  have N14 := Fr.snoc X14 N8 (by omega : n0 ≤ ob)
  refine OwnFin.adv (B := T14.setTop (mkF m 23 #[.val (.ref ob), .val (.ref so)] [])) (fun _ k => st14 _ k) ?_
  refine OwnFin.adv (B := T14.setTop (mkF m 24 #[.val (.ref ob), .val (.ref so)] [(.ref ob)])) (fun _ k => XS.aloadN X14.here hx rfl (hb hby own_d35_23) rfl rfl k) ?_
  have thz16 : ThS Z s.heap := by rw [hh]; exact ThS.ext O0.2 ThS.start
  have Fv17_3 : Exa Z h14 ob "com/example/rollbook/rollbook/http/ApiException" := (Fv12_2.wr W14)
  have Fv18_3 : Unt h14 ob := (Unt.wr W14 (Unt.wr W8 (Unt.wr W2 Un)))
  have Fv19_3 : Fld Z h14 ob "java/lang/Throwable" "backtrace" "Ljava/lang/Object;" .null := (((F_backtrace.other W2 (Or.inr (slot_ne (Or.inl (hw _ (List.mem_of_getElem? (i := 220) rfl))) (Or.inl (hw _ (List.mem_of_getElem? (i := 189) rfl))) (by decide) (t := (.object "java/lang/Object")) (t' := (.object "java/lang/Throwable")) (by decide) (by decide)))).other W8 (Or.inr (slot_ne (Or.inl (hw _ (List.mem_of_getElem? (i := 220) rfl))) (Or.inl (hw _ (List.mem_of_getElem? (i := 192) rfl))) (by decide) (t := (.object "java/lang/Object")) (t' := (.array (.object "java/lang/StackTraceElement"))) (by decide) (by decide)))).other W14 (Or.inr (slot_ne (Or.inl (hw _ (List.mem_of_getElem? (i := 220) rfl))) (Or.inl (hw _ (List.mem_of_getElem? (i := 195) rfl))) (by decide) (t := (.object "java/lang/Object")) (t' := (.object "java/util/List")) (by decide) (by decide))))
  have Fv20_3 : Fld Z h14 ob "java/lang/Throwable" "stackTrace" "[Ljava/lang/StackTraceElement;" (.ref ua) := (Fw8.other W14 (Or.inr (slot_ne (Or.inl (hw _ (List.mem_of_getElem? (i := 192) rfl))) (Or.inl (hw _ (List.mem_of_getElem? (i := 195) rfl))) (by decide) (t := (.array (.object "java/lang/StackTraceElement"))) (t' := (.object "java/util/List")) (by decide) (by decide))))
  have Fv21_3 : Fld Z h14 ob "com/example/rollbook/rollbook/http/ApiException" "status" "I" u0 := (((Fs.other W2 (Or.inr (slot_ne (Or.inr (hw _ (List.mem_of_getElem? (i := 225) rfl))) (Or.inl (hw _ (List.mem_of_getElem? (i := 189) rfl))) (by decide) (t := .int) (t' := (.object "java/lang/Throwable")) (by decide) (by decide)))).other W8 (Or.inr (slot_ne (Or.inr (hw _ (List.mem_of_getElem? (i := 225) rfl))) (Or.inl (hw _ (List.mem_of_getElem? (i := 192) rfl))) (by decide) (t := .int) (t' := (.array (.object "java/lang/StackTraceElement"))) (by decide) (by decide)))).other W14 (Or.inr (slot_ne (Or.inr (hw _ (List.mem_of_getElem? (i := 225) rfl))) (Or.inl (hw _ (List.mem_of_getElem? (i := 195) rfl))) (by decide) (t := .int) (t' := (.object "java/util/List")) (by decide) (by decide))))
  have Fv22_3 : Fld Z h14 ob "com/example/rollbook/rollbook/http/ApiException" "allow" "Ljava/lang/String;" u1 := (((Fa.other W2 (Or.inr (slot_ne (Or.inr (hw _ (List.mem_of_getElem? (i := 227) rfl))) (Or.inl (hw _ (List.mem_of_getElem? (i := 189) rfl))) (by decide) (t := (.object "java/lang/String")) (t' := (.object "java/lang/Throwable")) (by decide) (by decide)))).other W8 (Or.inr (slot_ne (Or.inr (hw _ (List.mem_of_getElem? (i := 227) rfl))) (Or.inl (hw _ (List.mem_of_getElem? (i := 192) rfl))) (by decide) (t := (.object "java/lang/String")) (t' := (.array (.object "java/lang/StackTraceElement"))) (by decide) (by decide)))).other W14 (Or.inr (slot_ne (Or.inr (hw _ (List.mem_of_getElem? (i := 227) rfl))) (Or.inl (hw _ (List.mem_of_getElem? (i := 195) rfl))) (by decide) (t := (.object "java/lang/String")) (t' := (.object "java/util/List")) (by decide) (by decide))))
  have Old23 : Old Z n0 h14 := (Old11.wr W14 (by omega))
  obtain ⟨T16, h16, X16, e16, Kp16, st16⟩ := own_fill X14 hx hst hZ hown hw (hw _ (List.mem_of_getElem? (i := 5) rfl)) thz16 hTK hBl e14 Fv17_3 Fv18_3 Fv19_3 Fv20_3 (own_staK SU Old23) (g := (mkF m 24 #[.val (.ref ob), .val (.ref so)] [(.ref ob)])) rfl (by rw [hml]; rfl) rfl (Nat.le_of_eq rfl) (hb hby own_d35_24) (by decide) (by decide) (by decide) (by decide)
  obtain ⟨mv16, Fm16⟩ := fld_laid (Exa.kp Kp16 Fv17_3) (Unt.kp Kp16 Fv18_3).known (hw _ (List.mem_of_getElem? (i := 5) rfl)) (Or.inl (hw _ (List.mem_of_getElem? (i := 219) rfl)))
  have sz24 : h14.size ≤ h16.size := (keep_of_kp Kp16).1
  have Fstatus16 : Fld Z h16 ob "com/example/rollbook/rollbook/http/ApiException" "status" "I" u0 := Fld.kp Kp16 Fv21_3 (Or.inr (own_six hw (Or.inr (hw _ (List.mem_of_getElem? (i := 225) rfl))) (ty := .int) (by decide) (by decide)))
  have Fallow16 : Fld Z h16 ob "com/example/rollbook/rollbook/http/ApiException" "allow" "Ljava/lang/String;" u1 := Fld.kp Kp16 Fv22_3 (Or.inr (own_six hw (Or.inr (hw _ (List.mem_of_getElem? (i := 227) rfl))) (ty := (.object "java/lang/String")) (by decide) (by decide)))
  have N16 := Fr.six (Z := Z) N14 (by omega : n0 ≤ ob)
  refine OwnFin.adv (B := T16.setTop (mkF m 27 #[.val (.ref ob), .val (.ref so)] [(.ref ob)])) (fun _ k => st16 _ k) ?_
  refine OwnFin.adv (B := T16.setTop (mkF m 28 #[.val (.ref ob), .val (.ref so)] [])) (fun _ k => XS.pop X16.here hx rfl (hb hby own_d35_27) rfl rfl k) ?_
  refine OwnFin.adv (B := T16.setTop (mkF m 29 #[.val (.ref ob), .val (.ref so)] [(.ref ob)])) (fun _ k => XS.aloadN X16.here hx rfl (hb hby own_d35_28) rfl rfl k) ?_
  refine OwnFin.adv (B := T16.setTop (mkF m 30 #[.val (.ref ob), .val (.ref so)] [(.ref so), (.ref ob)])) (fun _ k => XS.aloadN X16.here hx rfl (hb hby own_d35_29) rfl rfl k) ?_
  obtain ⟨T25, h25, X25, e25, W25, st25⟩ := putF X16 hx hZ hown (host := "") (Or.inl (hw _ (List.mem_of_getElem? (i := 223) rfl))) Via.refl e16 Fm16 (Exa.kp Kp16 Fv17_3) (Or.inl (hw _ (List.mem_of_getElem? (i := 219) rfl))) (hw _ (List.mem_of_getElem? (i := 5) rfl)) (ty := (.object "java/lang/String")) (by decide) rfl rfl (g := (mkF m 30 #[.val (.ref ob), .val (.ref so)] [(.ref so), (.ref ob)])) rfl rfl (hb hby own_d35_30)
  have Fw25 : Fld Z h25 ob "java/lang/Throwable" "detailMessage" "Ljava/lang/String;" (.ref so) := Fm16.same W25
  have sz26 : h16.size ≤ h25.size := Nat.le_of_eq W25.size.symm
  have N25 := Fr.snoc X25 N16 (by omega : n0 ≤ ob)
  refine OwnFin.adv (B := T25.setTop (mkF m 33 #[.val (.ref ob), .val (.ref so)] [])) (fun _ k => st25 _ k) ?_
  obtain ⟨fs, hr, hrun, hended, hW, hsame⟩ := X25.leave (v := none) (fun _ => rfl)
  refine OwnFin.leaf hP' ⟨_, _, X25.returnOut hx Bd.returns (hb hby own_d35_33) hr, hrun, hended, _, _, rfl, ?_, ⟨_, rfl⟩, hW, hsame.mono (by decide) (by decide)⟩
  have Fv27_5 : Fld Z h25 ob "com/example/rollbook/rollbook/http/ApiException" "status" "I" u0 := (Fstatus16.other W25 (Or.inr (slot_ne (Or.inr (hw _ (List.mem_of_getElem? (i := 225) rfl))) (Or.inl (hw _ (List.mem_of_getElem? (i := 219) rfl))) (by decide) (t := .int) (t' := (.object "java/lang/String")) (by decide) (by decide))))
  have Fv28_5 : Fld Z h25 ob "com/example/rollbook/rollbook/http/ApiException" "allow" "Ljava/lang/String;" u1 := (Fallow16.other W25 (Or.inr (slot_ne (Or.inr (hw _ (List.mem_of_getElem? (i := 227) rfl))) (Or.inl (hw _ (List.mem_of_getElem? (i := 219) rfl))) (by decide) (t := (.object "java/lang/String")) (t' := (.object "java/lang/String")) (by decide) (by decide))))
  rw [show (T25.setFrames fs).heap = h25 from e25]
  exact ⟨rfl, N25, ((((((Keep.refl h0 [ob]).wr W2 (Or.inl (List.mem_of_getElem? (i := 0) rfl))).wr W8 (Or.inl (List.mem_of_getElem? (i := 0) rfl))).wr W14 (Or.inl (List.mem_of_getElem? (i := 0) rfl))).trans (keep_of_kp Kp16) (allS (Or.inl (List.mem_of_getElem? (i := 0) rfl)) all0)).wr W25 (Or.inl (List.mem_of_getElem? (i := 0) rfl))), Fv27_5, Fv28_5, Fw25⟩
theorem own_d34_0 : decode jdk_59_method_2_code 0 = .ok (.aload_n 0, 1) := by decide +kernel
theorem own_d34_1 : decode jdk_59_method_2_code 1 = .ok (.aload_n 1, 1) := by decide +kernel
theorem own_d34_2 : decode jdk_59_method_2_code 2 = .ok (.invokespecial 7, 3) := by decide +kernel
theorem own_d34_5 : decode jdk_59_method_2_code 5 = .ok (.return_, 1) := by decide +kernel
theorem own_ef_exInit (m : MethodId) (x0 : Addr) (x1 : Addr) : entryFrame m #[(.ref x0), (.ref x1)] 2 = mkF m 0 #[.val (.ref x0), .val (.ref x1)] [] := by first | (simp [entryFrame, mkF, argsToLocals, Value.category]; done) | rfl
theorem own_pn_java_lang_Exception : plainName "java/lang/Exception" = true := by first | (simp [plainName, overriddenIn]; done) | decide +kernel
def own_Q_exInit (Z : State) (ob so ua uz : Addr) (u0 u1 : Value) (h0 : Heap) (n0 : Nat) (v : Option Value) (h : Heap) (L : List Loc) : Prop := v = none ∧ Fr n0 L ∧ Keep h0 h [ob] ∧ Fld Z h ob "com/example/rollbook/rollbook/http/ApiException" "status" "I" u0 ∧ Fld Z h ob "com/example/rollbook/rollbook/http/ApiException" "allow" "Ljava/lang/String;" u1 ∧ Fld Z h ob "java/lang/Throwable" "detailMessage" "Ljava/lang/String;" (.ref so)
set_option maxRecDepth 65536 in
set_option maxHeartbeats 40000000 in
theorem own_exInit (l : Launch) (Z : State) (a0 : Array Value) (hw : ∀ d ∈ tables_1, d.before a0 Z = true) (ws : List Jvm.Cond) (ob so ua uz : Addr) (u0 u1 : Value) (h0 : Heap) (n0 : Nat) (Z0 : n0 ≤ h0.size) (O0 : Old Z n0 h0) (hst : l.stackTraces = true) (SU : Sta Z Z.heap "java/lang/Throwable" "UNASSIGNED_STACK" "[Ljava/lang/StackTraceElement;" (.ref ua)) (SV : Sta Z Z.heap "java/lang/Throwable" "SUPPRESSED_SENTINEL" "Ljava/util/List;" (.ref uz)) (E : Exa Z h0 ob "com/example/rollbook/rollbook/http/ApiException") (Un : Unt h0 ob) (F_cause : Fld Z h0 ob "java/lang/Throwable" "cause" "Ljava/lang/Throwable;" .null) (F_stackTrace : Fld Z h0 ob "java/lang/Throwable" "stackTrace" "[Ljava/lang/StackTraceElement;" .null) (F_suppressedExceptions : Fld Z h0 ob "java/lang/Throwable" "suppressedExceptions" "Ljava/util/List;" .null) (F_backtrace : Fld Z h0 ob "java/lang/Throwable" "backtrace" "Ljava/lang/Object;" .null) (F_detailMessage : Fld Z h0 ob "java/lang/Throwable" "detailMessage" "Ljava/lang/String;" .null) (Fs : Fld Z h0 ob "com/example/rollbook/rollbook/http/ApiException" "status" "I" u0) (Fa : Fld Z h0 ob "com/example/rollbook/rollbook/http/ApiException" "allow" "Ljava/lang/String;" u1) (g_ob : n0 ≤ ob) :
    MetFree l (⟨"java/lang/Exception", "<init>", "(Ljava/lang/String;)V"⟩ : MethodName) (head1 (Jvm.Cond.code (⟨"java/lang/Exception", "<init>", "(Ljava/lang/String;)V"⟩ : MethodName) jdk_59_method_2_code 2 none :: ws) ({ frames := 4, cells := 1, slots := 2752, locals := 55 } : Room)) (fun A0 U0 => A0 = #[(.ref ob), (.ref so)] ∧ Z.Warmed39 U0.vm ∧ U0.heap = h0) (fun _ _ bl s _ => s.vm.MethodsKnown ∧ s.vm.FramesKnown bl) (fun _ U0 o0 U1 => ∃ v0 L0, o0 = .returned v0 ∧ own_Q_exInit Z ob so ua uz u0 u1 h0 n0 v0 U1.heap L0 ∧ FrameEnd U0 o0 U1 L0 ({ frames := 4, cells := 1, slots := 2752, locals := 55 } : Room).cells ({ frames := 4, cells := 1, slots := 2752, locals := 55 } : Room).slots) := by
  refine MetFree.of_bodySF (plainFor_of_name own_pn_java_lang_Exception) hisR ?_
  intro p e s m args below meth c s₁ Bd hml0 hP hK
  obtain ⟨rfl, hZ, hh⟩ := hP
  obtain ⟨hTK, hBl⟩ := hK
  have hZs := hZ
  have hx := Bd.exec
  have hby := Bd.bytes
  have hby_ := hby
  have hml : c.maxLocals = 2 := hml0
  have hown : s.vm.findClass "java/lang/Exception" = some m.cls := findClass_of_methodNamed Bd.named
  have hnm := (name_of_methodNamed Bd.named Bd.method).1
  have X0 : Stand p l e ({ frames := 4, cells := 1, slots := 2752, locals := 55 } : Room) s m #[(.ref ob), (.ref so)] below meth c s₁ [] 0 0 := Stand.of_body Bd
  have e0 : s₁.heap = h0 := by rw [← hh, Bd.state]; rfl
  have N0 := Fr.nil n0
  refine OwnFin.entry (own_ef_exInit m ob so) (fun P' hP' => ?_)
  have lt_ob := own_lt E.lt
  refine OwnFin.adv (B := s₁.setTop (mkF m 1 #[.val (.ref ob), .val (.ref so)] [(.ref ob)])) (fun _ k => XS.aloadN X0.here hx rfl (hb hby own_d34_0) rfl rfl k) ?_
  refine OwnFin.adv (B := s₁.setTop (mkF m 2 #[.val (.ref ob), .val (.ref so)] [(.ref so), (.ref ob)])) (fun _ k => XS.aloadN X0.here hx rfl (hb hby own_d34_1) rfl rfl k) ?_
  obtain ⟨_, _, ⟨T1, L1, k1, n1⟩, -, X1, ⟨Lc1, hQ1, l1, y1, z1⟩, st1⟩ := X0.specialBack hx (y := (⟨"java/lang/Throwable", "<init>", "(Ljava/lang/String;)V"⟩ : MethodName)) rfl hown (mvT hZ (hw _ (List.mem_of_getElem? (i := 181) rfl))) (mvT hZ (hw _ (List.mem_of_getElem? (i := 182) rfl))) (mvT hZ (hw _ (List.mem_of_getElem? (i := 186) rfl))) (by decide) (backOfKL (W := 0) (own_thInit l Z a0 hw [] ob so ua uz _ _ h0 n0 (by omega) O0 hst SU SV E Un F_cause F_stackTrace F_suppressedExceptions F_backtrace F_detailMessage Fs Fa (by omega)) hZ (hw _ (List.mem_of_getElem? (i := 186) rfl)) (hw _ (List.mem_of_getElem? (i := 185) rfl)) (by decide) (by decide) (Vm.MethodsKnown.alikeC (hZs.alike.symm.trans hZ.alike) hTK) (Vm.FramesKnown.alikeC (hZs.alike.symm.trans hZ.alike) hBl)) (g := (mkF m 2 #[.val (.ref ob), .val (.ref so)] [(.ref so), (.ref ob)])) rfl (by rw [hml]; rfl) (Steps.refl _) (a := ob) (argsL := [(.ref so)]) (rest := []) (lenOf own_pd_x28Ljavax2flangx2fStringx3bx29V rfl) rfl (by show 2 * 0 + _ ≤ _; exact Nat.le_of_eq rfl) (hb hby own_d34_2) (fun _ _ => ⟨rfl, e0, (by decide : 0 + 1 ≤ _), (by decide : 0 + 2752 ≤ _)⟩)
  dsimp only [Pt.U, Pt.locs, Pt.cells, Pt.slots] at X1 l1 y1 z1 st1 hQ1
  subst l1 y1 z1
  obtain ⟨rfl, N1q, K1, Fa1, Fb1, Fd1⟩ := hQ1
  have N1 := Fr.app N0 N1q
  have sz2 : h0.size ≤ T1.heap.size := K1.1
  refine OwnFin.adv (B := T1.setTop (mkF m 5 #[.val (.ref ob), .val (.ref so)] [])) (fun _ k => st1.trans k) ?_
  obtain ⟨fs, hr, hrun, hended, hW, hsame⟩ := X1.leave (v := none) (fun _ => rfl)
  refine OwnFin.leaf hP' ⟨_, _, X1.returnOut hx Bd.returns (hb hby own_d34_5) hr, hrun, hended, _, _, rfl, ?_, ⟨_, rfl⟩, hW, hsame.mono (by decide) (by decide)⟩
  rw [show (T1.setFrames fs).heap = T1.heap from rfl]
  exact ⟨rfl, N1, ((Keep.refl h0 [ob]).trans K1 (allS (Or.inl (List.mem_of_getElem? (i := 0) rfl)) all0)), Fa1, Fb1, Fd1⟩
theorem own_d33_0 : decode jdk_58_method_2_code 0 = .ok (.aload_n 0, 1) := by decide +kernel
theorem own_d33_1 : decode jdk_58_method_2_code 1 = .ok (.aload_n 1, 1) := by decide +kernel
theorem own_d33_2 : decode jdk_58_method_2_code 2 = .ok (.invokespecial 7, 3) := by decide +kernel
theorem own_d33_5 : decode jdk_58_method_2_code 5 = .ok (.return_, 1) := by decide +kernel
theorem own_ef_rtInit (m : MethodId) (x0 : Addr) (x1 : Addr) : entryFrame m #[(.ref x0), (.ref x1)] 2 = mkF m 0 #[.val (.ref x0), .val (.ref x1)] [] := by first | (simp [entryFrame, mkF, argsToLocals, Value.category]; done) | rfl
theorem own_pn_java_lang_RuntimeException : plainName "java/lang/RuntimeException" = true := by first | (simp [plainName, overriddenIn]; done) | decide +kernel
def own_Q_rtInit (Z : State) (ob so ua uz : Addr) (u0 u1 : Value) (h0 : Heap) (n0 : Nat) (v : Option Value) (h : Heap) (L : List Loc) : Prop := v = none ∧ Fr n0 L ∧ Keep h0 h [ob] ∧ Fld Z h ob "com/example/rollbook/rollbook/http/ApiException" "status" "I" u0 ∧ Fld Z h ob "com/example/rollbook/rollbook/http/ApiException" "allow" "Ljava/lang/String;" u1 ∧ Fld Z h ob "java/lang/Throwable" "detailMessage" "Ljava/lang/String;" (.ref so)
set_option maxRecDepth 65536 in
set_option maxHeartbeats 40000000 in
theorem own_rtInit (l : Launch) (Z : State) (a0 : Array Value) (hw : ∀ d ∈ tables_1, d.before a0 Z = true) (ws : List Jvm.Cond) (ob so ua uz : Addr) (u0 u1 : Value) (h0 : Heap) (n0 : Nat) (Z0 : n0 ≤ h0.size) (O0 : Old Z n0 h0) (hst : l.stackTraces = true) (SU : Sta Z Z.heap "java/lang/Throwable" "UNASSIGNED_STACK" "[Ljava/lang/StackTraceElement;" (.ref ua)) (SV : Sta Z Z.heap "java/lang/Throwable" "SUPPRESSED_SENTINEL" "Ljava/util/List;" (.ref uz)) (E : Exa Z h0 ob "com/example/rollbook/rollbook/http/ApiException") (Un : Unt h0 ob) (F_cause : Fld Z h0 ob "java/lang/Throwable" "cause" "Ljava/lang/Throwable;" .null) (F_stackTrace : Fld Z h0 ob "java/lang/Throwable" "stackTrace" "[Ljava/lang/StackTraceElement;" .null) (F_suppressedExceptions : Fld Z h0 ob "java/lang/Throwable" "suppressedExceptions" "Ljava/util/List;" .null) (F_backtrace : Fld Z h0 ob "java/lang/Throwable" "backtrace" "Ljava/lang/Object;" .null) (F_detailMessage : Fld Z h0 ob "java/lang/Throwable" "detailMessage" "Ljava/lang/String;" .null) (Fs : Fld Z h0 ob "com/example/rollbook/rollbook/http/ApiException" "status" "I" u0) (Fa : Fld Z h0 ob "com/example/rollbook/rollbook/http/ApiException" "allow" "Ljava/lang/String;" u1) (g_ob : n0 ≤ ob) :
    MetFree l (⟨"java/lang/RuntimeException", "<init>", "(Ljava/lang/String;)V"⟩ : MethodName) (head1 (Jvm.Cond.code (⟨"java/lang/RuntimeException", "<init>", "(Ljava/lang/String;)V"⟩ : MethodName) jdk_58_method_2_code 2 none :: ws) ({ frames := 5, cells := 1, slots := 2752, locals := 68 } : Room)) (fun A0 U0 => A0 = #[(.ref ob), (.ref so)] ∧ Z.Warmed39 U0.vm ∧ U0.heap = h0) (fun _ _ bl s _ => s.vm.MethodsKnown ∧ s.vm.FramesKnown bl) (fun _ U0 o0 U1 => ∃ v0 L0, o0 = .returned v0 ∧ own_Q_rtInit Z ob so ua uz u0 u1 h0 n0 v0 U1.heap L0 ∧ FrameEnd U0 o0 U1 L0 ({ frames := 5, cells := 1, slots := 2752, locals := 68 } : Room).cells ({ frames := 5, cells := 1, slots := 2752, locals := 68 } : Room).slots) := by
  refine MetFree.of_bodySF (plainFor_of_name own_pn_java_lang_RuntimeException) hisR ?_
  intro p e s m args below meth c s₁ Bd hml0 hP hK
  obtain ⟨rfl, hZ, hh⟩ := hP
  obtain ⟨hTK, hBl⟩ := hK
  have hZs := hZ
  have hx := Bd.exec
  have hby := Bd.bytes
  have hby_ := hby
  have hml : c.maxLocals = 2 := hml0
  have hown : s.vm.findClass "java/lang/RuntimeException" = some m.cls := findClass_of_methodNamed Bd.named
  have hnm := (name_of_methodNamed Bd.named Bd.method).1
  have X0 : Stand p l e ({ frames := 5, cells := 1, slots := 2752, locals := 68 } : Room) s m #[(.ref ob), (.ref so)] below meth c s₁ [] 0 0 := Stand.of_body Bd
  have e0 : s₁.heap = h0 := by rw [← hh, Bd.state]; rfl
  have N0 := Fr.nil n0
  refine OwnFin.entry (own_ef_rtInit m ob so) (fun P' hP' => ?_)
  have lt_ob := own_lt E.lt
  refine OwnFin.adv (B := s₁.setTop (mkF m 1 #[.val (.ref ob), .val (.ref so)] [(.ref ob)])) (fun _ k => XS.aloadN X0.here hx rfl (hb hby own_d33_0) rfl rfl k) ?_
  refine OwnFin.adv (B := s₁.setTop (mkF m 2 #[.val (.ref ob), .val (.ref so)] [(.ref so), (.ref ob)])) (fun _ k => XS.aloadN X0.here hx rfl (hb hby own_d33_1) rfl rfl k) ?_
  obtain ⟨_, _, ⟨T1, L1, k1, n1⟩, -, X1, ⟨Lc1, hQ1, l1, y1, z1⟩, st1⟩ := X0.specialBack hx (y := (⟨"java/lang/Exception", "<init>", "(Ljava/lang/String;)V"⟩ : MethodName)) rfl hown (mvT hZ (hw _ (List.mem_of_getElem? (i := 175) rfl))) (mvT hZ (hw _ (List.mem_of_getElem? (i := 176) rfl))) (mvT hZ (hw _ (List.mem_of_getElem? (i := 180) rfl))) (by decide) (backOfKL (W := 0) (own_exInit l Z a0 hw [] ob so ua uz _ _ h0 n0 (by omega) O0 hst SU SV E Un F_cause F_stackTrace F_suppressedExceptions F_backtrace F_detailMessage Fs Fa (by omega)) hZ (hw _ (List.mem_of_getElem? (i := 180) rfl)) (hw _ (List.mem_of_getElem? (i := 179) rfl)) (by decide) (by decide) (Vm.MethodsKnown.alikeC (hZs.alike.symm.trans hZ.alike) hTK) (Vm.FramesKnown.alikeC (hZs.alike.symm.trans hZ.alike) hBl)) (g := (mkF m 2 #[.val (.ref ob), .val (.ref so)] [(.ref so), (.ref ob)])) rfl (by rw [hml]; rfl) (Steps.refl _) (a := ob) (argsL := [(.ref so)]) (rest := []) (lenOf own_pd_x28Ljavax2flangx2fStringx3bx29V rfl) rfl (by show 2 * 0 + _ ≤ _; exact Nat.le_of_eq rfl) (hb hby own_d33_2) (fun _ _ => ⟨rfl, e0, (by decide : 0 + 1 ≤ _), (by decide : 0 + 2752 ≤ _)⟩)
  dsimp only [Pt.U, Pt.locs, Pt.cells, Pt.slots] at X1 l1 y1 z1 st1 hQ1
  subst l1 y1 z1
  obtain ⟨rfl, N1q, K1, Fa1, Fb1, Fd1⟩ := hQ1
  have N1 := Fr.app N0 N1q
  have sz2 : h0.size ≤ T1.heap.size := K1.1
  refine OwnFin.adv (B := T1.setTop (mkF m 5 #[.val (.ref ob), .val (.ref so)] [])) (fun _ k => st1.trans k) ?_
  obtain ⟨fs, hr, hrun, hended, hW, hsame⟩ := X1.leave (v := none) (fun _ => rfl)
  refine OwnFin.leaf hP' ⟨_, _, X1.returnOut hx Bd.returns (hb hby own_d33_5) hr, hrun, hended, _, _, rfl, ?_, ⟨_, rfl⟩, hW, hsame.mono (by decide) (by decide)⟩
  rw [show (T1.setFrames fs).heap = T1.heap from rfl]
  exact ⟨rfl, N1, ((Keep.refl h0 [ob]).trans K1 (allS (Or.inl (List.mem_of_getElem? (i := 0) rfl)) all0)), Fa1, Fb1, Fd1⟩
theorem own_d32_0 : decode prog_50_method_1_code 0 = .ok (.aload_n 0, 1) := by decide +kernel
theorem own_d32_1 : decode prog_50_method_1_code 1 = .ok (.aload_n 2, 1) := by decide +kernel
theorem own_d32_2 : decode prog_50_method_1_code 2 = .ok (.invokespecial 1, 3) := by decide +kernel
theorem own_d32_5 : decode prog_50_method_1_code 5 = .ok (.aload_n 0, 1) := by decide +kernel
theorem own_d32_6 : decode prog_50_method_1_code 6 = .ok (.iload_n 1, 1) := by decide +kernel
theorem own_d32_7 : decode prog_50_method_1_code 7 = .ok (.putfield 7, 3) := by decide +kernel
theorem own_d32_10 : decode prog_50_method_1_code 10 = .ok (.aload_n 0, 1) := by decide +kernel
theorem own_d32_11 : decode prog_50_method_1_code 11 = .ok (.aload_n 3, 1) := by decide +kernel
theorem own_d32_12 : decode prog_50_method_1_code 12 = .ok (.putfield 13, 3) := by decide +kernel
theorem own_d32_15 : decode prog_50_method_1_code 15 = .ok (.return_, 1) := by decide +kernel
theorem own_ef_axInit (m : MethodId) (x0 : Addr) (x1 : Int32) (x2 : Addr) : entryFrame m #[(.ref x0), (.int x1), (.ref x2), .null] 4 = mkF m 0 #[.val (.ref x0), .val (.int x1), .val (.ref x2), .val .null] [] := by first | (simp [entryFrame, mkF, argsToLocals, Value.category]; done) | rfl
theorem own_pn_com_example_rollbook_rollbook_http_ApiException : plainName "com/example/rollbook/rollbook/http/ApiException" = true := by first | (simp [plainName, overriddenIn]; done) | decide +kernel
def own_Q_axInit (Z : State) (ob : Addr) (sv : Int32) (so ua uz : Addr) (u0 u1 : Value) (h0 : Heap) (n0 : Nat) (v : Option Value) (h : Heap) (L : List Loc) : Prop := v = none ∧ Fr n0 L ∧ Keep h0 h [ob] ∧ Fld Z h ob "com/example/rollbook/rollbook/http/ApiException" "status" "I" (.int sv) ∧ Fld Z h ob "com/example/rollbook/rollbook/http/ApiException" "allow" "Ljava/lang/String;" .null ∧ Fld Z h ob "java/lang/Throwable" "detailMessage" "Ljava/lang/String;" (.ref so)
set_option maxRecDepth 65536 in
set_option maxHeartbeats 40000000 in
theorem own_axInit (l : Launch) (Z : State) (a0 : Array Value) (hw : ∀ d ∈ tables_1, d.before a0 Z = true) (ws : List Jvm.Cond) (ob : Addr) (sv : Int32) (so ua uz : Addr) (u0 u1 : Value) (h0 : Heap) (n0 : Nat) (Z0 : n0 ≤ h0.size) (O0 : Old Z n0 h0) (hst : l.stackTraces = true) (SU : Sta Z Z.heap "java/lang/Throwable" "UNASSIGNED_STACK" "[Ljava/lang/StackTraceElement;" (.ref ua)) (SV : Sta Z Z.heap "java/lang/Throwable" "SUPPRESSED_SENTINEL" "Ljava/util/List;" (.ref uz)) (E : Exa Z h0 ob "com/example/rollbook/rollbook/http/ApiException") (Un : Unt h0 ob) (F_cause : Fld Z h0 ob "java/lang/Throwable" "cause" "Ljava/lang/Throwable;" .null) (F_stackTrace : Fld Z h0 ob "java/lang/Throwable" "stackTrace" "[Ljava/lang/StackTraceElement;" .null) (F_suppressedExceptions : Fld Z h0 ob "java/lang/Throwable" "suppressedExceptions" "Ljava/util/List;" .null) (F_backtrace : Fld Z h0 ob "java/lang/Throwable" "backtrace" "Ljava/lang/Object;" .null) (F_detailMessage : Fld Z h0 ob "java/lang/Throwable" "detailMessage" "Ljava/lang/String;" .null) (Fs : Fld Z h0 ob "com/example/rollbook/rollbook/http/ApiException" "status" "I" u0) (Fa : Fld Z h0 ob "com/example/rollbook/rollbook/http/ApiException" "allow" "Ljava/lang/String;" u1) (g_ob : n0 ≤ ob) :
    MetFree l (⟨"com/example/rollbook/rollbook/http/ApiException", "<init>", "(ILjava/lang/String;Ljava/lang/String;)V"⟩ : MethodName) (head1 (Jvm.Cond.code (⟨"com/example/rollbook/rollbook/http/ApiException", "<init>", "(ILjava/lang/String;Ljava/lang/String;)V"⟩ : MethodName) prog_50_method_1_code 4 none :: ws) ({ frames := 6, cells := 1, slots := 2752, locals := 81 } : Room)) (fun A0 U0 => A0 = #[(.ref ob), (.int sv), (.ref so), .null] ∧ Z.Warmed39 U0.vm ∧ U0.heap = h0) (fun _ _ bl s _ => s.vm.MethodsKnown ∧ s.vm.FramesKnown bl) (fun _ U0 o0 U1 => ∃ v0 L0, o0 = .returned v0 ∧ own_Q_axInit Z ob sv so ua uz u0 u1 h0 n0 v0 U1.heap L0 ∧ FrameEnd U0 o0 U1 L0 ({ frames := 6, cells := 1, slots := 2752, locals := 81 } : Room).cells ({ frames := 6, cells := 1, slots := 2752, locals := 81 } : Room).slots) := by
  refine MetFree.of_bodySF (plainFor_of_name own_pn_com_example_rollbook_rollbook_http_ApiException) hisR ?_
  intro p e s m args below meth c s₁ Bd hml0 hP hK
  obtain ⟨rfl, hZ, hh⟩ := hP
  obtain ⟨hTK, hBl⟩ := hK
  have hZs := hZ
  have hx := Bd.exec
  have hby := Bd.bytes
  have hby_ := hby
  have hml : c.maxLocals = 4 := hml0
  have hown : s.vm.findClass "com/example/rollbook/rollbook/http/ApiException" = some m.cls := findClass_of_methodNamed Bd.named
  have hnm := (name_of_methodNamed Bd.named Bd.method).1
  have X0 : Stand p l e ({ frames := 6, cells := 1, slots := 2752, locals := 81 } : Room) s m #[(.ref ob), (.int sv), (.ref so), .null] below meth c s₁ [] 0 0 := Stand.of_body Bd
  have e0 : s₁.heap = h0 := by rw [← hh, Bd.state]; rfl
  have N0 := Fr.nil n0
  refine OwnFin.entry (own_ef_axInit m ob sv so) (fun P' hP' => ?_)
  have lt_ob := own_lt E.lt
  refine OwnFin.adv (B := s₁.setTop (mkF m 1 #[.val (.ref ob), .val (.int sv), .val (.ref so), .val .null] [(.ref ob)])) (fun _ k => XS.aloadN X0.here hx rfl (hb hby own_d32_0) rfl rfl k) ?_
  refine OwnFin.adv (B := s₁.setTop (mkF m 2 #[.val (.ref ob), .val (.int sv), .val (.ref so), .val .null] [(.ref so), (.ref ob)])) (fun _ k => XS.aloadN X0.here hx rfl (hb hby own_d32_1) rfl rfl k) ?_
  obtain ⟨_, _, ⟨T1, L1, k1, n1⟩, -, X1, ⟨Lc1, hQ1, l1, y1, z1⟩, st1⟩ := X0.specialBack hx (y := (⟨"java/lang/RuntimeException", "<init>", "(Ljava/lang/String;)V"⟩ : MethodName)) rfl hown (mvT hZ (hw _ (List.mem_of_getElem? (i := 170) rfl))) (mvT hZ (hw _ (List.mem_of_getElem? (i := 171) rfl))) (mvT hZ (hw _ (List.mem_of_getElem? (i := 174) rfl))) (by decide) (backOfKL (W := 0) (own_rtInit l Z a0 hw [] ob so ua uz _ _ h0 n0 (by omega) O0 hst SU SV E Un F_cause F_stackTrace F_suppressedExceptions F_backtrace F_detailMessage Fs Fa (by omega)) hZ (hw _ (List.mem_of_getElem? (i := 174) rfl)) (hw _ (List.mem_of_getElem? (i := 173) rfl)) (by decide) (by decide) (Vm.MethodsKnown.alikeC (hZs.alike.symm.trans hZ.alike) hTK) (Vm.FramesKnown.alikeC (hZs.alike.symm.trans hZ.alike) hBl)) (g := (mkF m 2 #[.val (.ref ob), .val (.int sv), .val (.ref so), .val .null] [(.ref so), (.ref ob)])) rfl (by rw [hml]; rfl) (Steps.refl _) (a := ob) (argsL := [(.ref so)]) (rest := []) (lenOf own_pd_x28Ljavax2flangx2fStringx3bx29V rfl) rfl (by show 2 * 0 + _ ≤ _; exact Nat.le_of_eq rfl) (hb hby own_d32_2) (fun _ _ => ⟨rfl, e0, (by decide : 0 + 1 ≤ _), (by decide : 0 + 2752 ≤ _)⟩)
  dsimp only [Pt.U, Pt.locs, Pt.cells, Pt.slots] at X1 l1 y1 z1 st1 hQ1
  subst l1 y1 z1
  obtain ⟨rfl, N1q, K1, Fa1, Fb1, Fd1⟩ := hQ1
  have N1 := Fr.app N0 N1q
  have sz2 : h0.size ≤ T1.heap.size := K1.1
  refine OwnFin.adv (B := T1.setTop (mkF m 5 #[.val (.ref ob), .val (.int sv), .val (.ref so), .val .null] [])) (fun _ k => st1.trans k) ?_
  refine OwnFin.adv (B := T1.setTop (mkF m 6 #[.val (.ref ob), .val (.int sv), .val (.ref so), .val .null] [(.ref ob)])) (fun _ k => XS.aloadN X1.here hx rfl (hb hby own_d32_5) rfl rfl k) ?_
  refine OwnFin.adv (B := T1.setTop (mkF m 7 #[.val (.ref ob), .val (.int sv), .val (.ref so), .val .null] [(.int sv), (.ref ob)])) (fun _ k => XS.iloadN X1.here hx rfl (hb hby own_d32_6) rfl k) ?_
  have Fv3_1 : Exa Z T1.heap ob "com/example/rollbook/rollbook/http/ApiException" := (E.keep K1)
  obtain ⟨T4, h4, X4, e4, W4, st4⟩ := putF X1 hx hZ hown (host := "") (Or.inl (hw _ (List.mem_of_getElem? (i := 224) rfl))) Via.refl rfl Fa1 Fv3_1 (Or.inr ⟨(hw _ (List.mem_of_getElem? (i := 225) rfl)), rfl, hnm⟩) (hw _ (List.mem_of_getElem? (i := 5) rfl)) (ty := .int) (by decide) rfl rfl (g := (mkF m 7 #[.val (.ref ob), .val (.int sv), .val (.ref so), .val .null] [(.int sv), (.ref ob)])) rfl rfl (hb hby own_d32_7)
  have Fw4 : Fld Z h4 ob "com/example/rollbook/rollbook/http/ApiException" "status" "I" (.int sv) := Fa1.same W4
  have sz5 : T1.heap.size ≤ h4.size := Nat.le_of_eq W4.size.symm
  have N4 := Fr.snoc X4 N1 (by omega : n0 ≤ ob)
  refine OwnFin.adv (B := T4.setTop (mkF m 10 #[.val (.ref ob), .val (.int sv), .val (.ref so), .val .null] [])) (fun _ k => st4 _ k) ?_
  refine OwnFin.adv (B := T4.setTop (mkF m 11 #[.val (.ref ob), .val (.int sv), .val (.ref so), .val .null] [(.ref ob)])) (fun _ k => XS.aloadN X4.here hx rfl (hb hby own_d32_10) rfl rfl k) ?_
  refine OwnFin.adv (B := T4.setTop (mkF m 12 #[.val (.ref ob), .val (.int sv), .val (.ref so), .val .null] [.null, (.ref ob)])) (fun _ k => XS.aloadN X4.here hx rfl (hb hby own_d32_11) rfl rfl k) ?_
  have Fv6_2 : Exa Z h4 ob "com/example/rollbook/rollbook/http/ApiException" := (Fv3_1.wr W4)
  have Fv7_2 : Fld Z h4 ob "com/example/rollbook/rollbook/http/ApiException" "allow" "Ljava/lang/String;" u1 := (Fb1.other W4 (Or.inr (slot_ne (Or.inr (hw _ (List.mem_of_getElem? (i := 227) rfl))) (Or.inr (hw _ (List.mem_of_getElem? (i := 225) rfl))) (by decide) (t := (.object "java/lang/String")) (t' := .int) (by decide) (by decide))))
  obtain ⟨T8, h8, X8, e8, W8, st8⟩ := putF X4 hx hZ hown (host := "") (Or.inl (hw _ (List.mem_of_getElem? (i := 226) rfl))) Via.refl e4 Fv7_2 Fv6_2 (Or.inr ⟨(hw _ (List.mem_of_getElem? (i := 227) rfl)), rfl, hnm⟩) (hw _ (List.mem_of_getElem? (i := 5) rfl)) (ty := (.object "java/lang/String")) (by decide) rfl rfl (g := (mkF m 12 #[.val (.ref ob), .val (.int sv), .val (.ref so), .val .null] [.null, (.ref ob)])) rfl rfl (hb hby own_d32_12)
  have Fw8 : Fld Z h8 ob "com/example/rollbook/rollbook/http/ApiException" "allow" "Ljava/lang/String;" .null := Fv7_2.same W8
  have sz9 : h4.size ≤ h8.size := Nat.le_of_eq W8.size.symm
  have N8 := Fr.snoc X8 N4 (by omega : n0 ≤ ob)
  refine OwnFin.adv (B := T8.setTop (mkF m 15 #[.val (.ref ob), .val (.int sv), .val (.ref so), .val .null] [])) (fun _ k => st8 _ k) ?_
  obtain ⟨fs, hr, hrun, hended, hW, hsame⟩ := X8.leave (v := none) (fun _ => rfl)
  refine OwnFin.leaf hP' ⟨_, _, X8.returnOut hx Bd.returns (hb hby own_d32_15) hr, hrun, hended, _, _, rfl, ?_, ⟨_, rfl⟩, hW, hsame.mono (by decide) (by decide)⟩
  have Fv10_3 : Fld Z h8 ob "com/example/rollbook/rollbook/http/ApiException" "status" "I" (.int sv) := (Fw4.other W8 (Or.inr (slot_ne (Or.inr (hw _ (List.mem_of_getElem? (i := 225) rfl))) (Or.inr (hw _ (List.mem_of_getElem? (i := 227) rfl))) (by decide) (t := .int) (t' := (.object "java/lang/String")) (by decide) (by decide))))
  have Fv11_3 : Fld Z h8 ob "java/lang/Throwable" "detailMessage" "Ljava/lang/String;" (.ref so) := ((Fd1.other W4 (Or.inr (slot_ne (Or.inl (hw _ (List.mem_of_getElem? (i := 219) rfl))) (Or.inr (hw _ (List.mem_of_getElem? (i := 225) rfl))) (by decide) (t := (.object "java/lang/String")) (t' := .int) (by decide) (by decide)))).other W8 (Or.inr (slot_ne (Or.inl (hw _ (List.mem_of_getElem? (i := 219) rfl))) (Or.inr (hw _ (List.mem_of_getElem? (i := 227) rfl))) (by decide) (t := (.object "java/lang/String")) (t' := (.object "java/lang/String")) (by decide) (by decide))))
  rw [show (T8.setFrames fs).heap = h8 from e8]
  exact ⟨rfl, N8, ((((Keep.refl h0 [ob]).trans K1 (allS (Or.inl (List.mem_of_getElem? (i := 0) rfl)) all0)).wr W4 (Or.inl (List.mem_of_getElem? (i := 0) rfl))).wr W8 (Or.inl (List.mem_of_getElem? (i := 0) rfl))), Fv10_3, Fw8, Fv11_3⟩
theorem own_d1_0 : decode prog_50_method_3_code 0 = .ok (.new 8, 3) := by decide +kernel
theorem own_d1_3 : decode prog_50_method_3_code 3 = .ok (.dup, 1) := by decide +kernel
theorem own_d1_4 : decode prog_50_method_3_code 4 = .ok (.sipush 413, 3) := by decide +kernel
theorem own_d1_7 : decode prog_50_method_3_code 7 = .ok (.new 25, 3) := by decide +kernel
theorem own_d1_10 : decode prog_50_method_3_code 10 = .ok (.dup, 1) := by decide +kernel
theorem own_pd_x28x29V : parseMethodDescriptor "()V" = some ⟨[], none⟩ := by decide +kernel
theorem own_d1_11 : decode prog_50_method_3_code 11 = .ok (.invokespecial 27, 3) := by decide +kernel
theorem own_d1_14 : decode prog_50_method_3_code 14 = .ok (.ldc 45, 2) := by decide +kernel
theorem own_pd_x28Ljavax2flangx2fStringx3bx29Ljavax2flangx2fStringBuilderx3b : parseMethodDescriptor "(Ljava/lang/String;)Ljava/lang/StringBuilder;" = some ⟨[(.object "java/lang/String")], some (.object "java/lang/StringBuilder")⟩ := by decide +kernel
theorem own_d1_16 : decode prog_50_method_3_code 16 = .ok (.invokevirtual 32, 3) := by decide +kernel
theorem own_d1_19 : decode prog_50_method_3_code 19 = .ok (.iload_n 0, 1) := by decide +kernel
theorem own_pd_x28Ix29Ljavax2flangx2fStringBuilderx3b : parseMethodDescriptor "(I)Ljava/lang/StringBuilder;" = some ⟨[.int], some (.object "java/lang/StringBuilder")⟩ := by decide +kernel
theorem own_d1_20 : decode prog_50_method_3_code 20 = .ok (.invokevirtual 47, 3) := by decide +kernel
theorem own_d1_23 : decode prog_50_method_3_code 23 = .ok (.ldc 50, 2) := by decide +kernel
theorem own_d1_25 : decode prog_50_method_3_code 25 = .ok (.invokevirtual 32, 3) := by decide +kernel
theorem own_pd_x28x29Ljavax2flangx2fStringx3b : parseMethodDescriptor "()Ljava/lang/String;" = some ⟨[], some (.object "java/lang/String")⟩ := by decide +kernel
theorem own_d1_28 : decode prog_50_method_3_code 28 = .ok (.invokevirtual 38, 3) := by decide +kernel
theorem own_d1_31 : decode prog_50_method_3_code 31 = .ok (.aconst_null, 1) := by decide +kernel
theorem own_pd_x28ILjavax2flangx2fStringx3bLjavax2flangx2fStringx3bx29V : parseMethodDescriptor "(ILjava/lang/String;Ljava/lang/String;)V" = some ⟨[.int, (.object "java/lang/String"), (.object "java/lang/String")], none⟩ := by decide +kernel
theorem own_d1_32 : decode prog_50_method_3_code 32 = .ok (.invokespecial 42, 3) := by decide +kernel
theorem own_d1_35 : decode prog_50_method_3_code 35 = .ok (.areturn, 1) := by decide +kernel
theorem own_ef_btl (m : MethodId) (x0 : Int32) : entryFrame m #[(.int x0)] 1 = mkF m 0 #[.val (.int x0)] [] := by first | (simp [entryFrame, mkF, argsToLocals, Value.category]; done) | rfl
def own_Q_btl (Z : State) (xv zc : Int32) (nn : Nat) (ist dg1 dg2 : Addr) (DG1 DG2 : Cell) (ua uz : Addr) (h0 : Heap) (n0 : Nat) (v : Option Value) (h : Heap) (L : List Loc) : Prop := ∃ (r mo : Addr), v = some (.ref r) ∧ Fr n0 L ∧ Keep h0 h [] ∧ h0.size ≤ r ∧ Exa Z h r "com/example/rollbook/rollbook/http/ApiException" ∧ Fld Z h r "com/example/rollbook/rollbook/http/ApiException" "status" "I" (.int (413 : Int32)) ∧ Fld Z h r "com/example/rollbook/rollbook/http/ApiException" "allow" "Ljava/lang/String;" .null ∧ Fld Z h r "java/lang/Throwable" "detailMessage" "Ljava/lang/String;" (.ref mo) ∧ OwnS Z h h.size mo (own_msg xv nn)
set_option maxRecDepth 65536 in
set_option maxHeartbeats 40000000 in
theorem own_btl (l : Launch) (Z : State) (a0 : Array Value) (hw : ∀ d ∈ tables_1, d.before a0 Z = true) (ws : List Jvm.Cond) (xv zc : Int32) (nn : Nat) (ist dg1 dg2 : Addr) (DG1 DG2 : Cell) (ua uz : Addr) (h0 : Heap) (n0 : Nat) (Z0 : n0 ≤ h0.size) (O0 : Old Z n0 h0) (SCS : Sta Z Z.heap "java/lang/String" "COMPACT_STRINGS" "Z" (.int zc)) (hzc : ¬ zc = 0) (hnn : nn ≤ 2 ^ 31) (hxv : (if xv < 0 then xv else -xv) = Jvm.Free.SBG.negI nn) (TB1 : Jvm.Free.SBG.Tbl Z "DigitOnes" ist dg1 DG1) (TB2 : Jvm.Free.SBG.Tbl Z "DigitTens" ist dg2 DG2) (on1 : Jvm.Free.SBG.Ones DG1) (on2 : Jvm.Free.SBG.Tens DG2) (hst : l.stackTraces = true) (SU : Sta Z Z.heap "java/lang/Throwable" "UNASSIGNED_STACK" "[Ljava/lang/StackTraceElement;" (.ref ua)) (SV : Sta Z Z.heap "java/lang/Throwable" "SUPPRESSED_SENTINEL" "Ljava/util/List;" (.ref uz)) :
    MetFree l (⟨"com/example/rollbook/rollbook/http/ApiException", "bodyTooLarge", "(I)Lcom/example/rollbook/rollbook/http/ApiException;"⟩ : MethodName) (head1 (Jvm.Cond.code (⟨"com/example/rollbook/rollbook/http/ApiException", "bodyTooLarge", "(I)Lcom/example/rollbook/rollbook/http/ApiException;"⟩ : MethodName) prog_50_method_3_code 1 (some (.object "com/example/rollbook/rollbook/http/ApiException")) :: ws) ({ frames := 7, cells := 13, slots := 3224, locals := 109 } : Room)) (fun A0 U0 => A0 = #[(.int xv)] ∧ Z.Warmed39 U0.vm ∧ U0.heap = h0 ∧ CHv Z own_EL U0.vm h0) (fun _ _ bl s _ => s.vm.MethodsKnown ∧ s.vm.FramesKnown bl) (fun _ U0 o0 U1 => ∃ v0 L0, o0 = .returned v0 ∧ own_Q_btl Z xv zc nn ist dg1 dg2 DG1 DG2 ua uz h0 n0 v0 U1.heap L0 ∧ CHr Z own_EL U0.vm U0.heap U1.vm U1.heap ∧ ReturnedEndW U0 o0 U1 L0 ({ frames := 7, cells := 13, slots := 3224, locals := 109 } : Room).cells ({ frames := 7, cells := 13, slots := 3224, locals := 109 } : Room).slots) := by
  refine MetFree.of_bodySF (plainFor_of_name own_pn_com_example_rollbook_rollbook_http_ApiException) hisR ?_
  intro p e s m args below meth c s₁ Bd hml0 hP hK
  obtain ⟨rfl, hZ, hh, H0⟩ := hP
  obtain ⟨hTK, hBl⟩ := hK
  have hZs := hZ
  have hx := Bd.exec
  have hby := Bd.bytes
  have hby_ := hby
  have hml : c.maxLocals = 1 := hml0
  have hown : s.vm.findClass "com/example/rollbook/rollbook/http/ApiException" = some m.cls := findClass_of_methodNamed Bd.named
  have hnm := (name_of_methodNamed Bd.named Bd.method).1
  have X0 : Stand p l e ({ frames := 7, cells := 13, slots := 3224, locals := 109 } : Room) s m #[(.int xv)] below meth c s₁ [] 0 0 := Stand.of_body Bd
  have e0 : s₁.heap = h0 := by rw [← hh, Bd.state]; rfl
  have N0 := Fr.nil n0
  refine OwnFin.entry (own_ef_btl m xv) (fun P' hP' => ?_)
  have hdl := own_dec10 xv nn
  have hA := own_Alen
  have hB := own_Blen
  have hml_ := own_msglen xv nn
  obtain ⟨T1, h1, X1, e1, E1, A1, D1, U1, st1⟩ := newO X0 hx hZ hown (hw _ (List.mem_of_getElem? (i := 4) rfl)) (hw _ (List.mem_of_getElem? (i := 5) rfl)) (hw _ (List.mem_of_getElem? (i := 2) rfl)) e0 (g := (mkF m 0 #[.val (.int xv)] [])) rfl (hb hby own_d1_0) (by decide) (by decide)
  obtain ⟨b1, g1⟩ : ∃ z, z = h0.size := ⟨_, rfl⟩
  rw [← g1] at A1 D1 U1 st1
  have sz2 : h0.size ≤ h1.size := E1.1
  have chA2 : CHr Z own_EL s.vm h0 s.vm h1 := ((CHr.refl H0)).trans (CHr.ext E1 ((CHr.refl H0)).1)
  have lt_b1 := own_lt A1.lt
  have F1_cause : Fld Z h1 b1 "java/lang/Throwable" "cause" "Ljava/lang/Throwable;" .null := D1 (Or.inl (hw _ (List.mem_of_getElem? (i := 189) rfl))) (ty := (.object "java/lang/Throwable")) (by decide)
  have F1_stackTrace : Fld Z h1 b1 "java/lang/Throwable" "stackTrace" "[Ljava/lang/StackTraceElement;" .null := D1 (Or.inl (hw _ (List.mem_of_getElem? (i := 192) rfl))) (ty := (.array (.object "java/lang/StackTraceElement"))) (by decide)
  have F1_suppressedExceptions : Fld Z h1 b1 "java/lang/Throwable" "suppressedExceptions" "Ljava/util/List;" .null := D1 (Or.inl (hw _ (List.mem_of_getElem? (i := 195) rfl))) (ty := (.object "java/util/List")) (by decide)
  have F1_detailMessage : Fld Z h1 b1 "java/lang/Throwable" "detailMessage" "Ljava/lang/String;" .null := D1 (Or.inl (hw _ (List.mem_of_getElem? (i := 219) rfl))) (ty := (.object "java/lang/String")) (by decide)
  have F1_backtrace : Fld Z h1 b1 "java/lang/Throwable" "backtrace" "Ljava/lang/Object;" .null := D1 (Or.inl (hw _ (List.mem_of_getElem? (i := 220) rfl))) (ty := (.object "java/lang/Object")) (by decide)
  have F1_depth : Fld Z h1 b1 "java/lang/Throwable" "depth" "I" (.int (0 : Int32)) := D1 (Or.inl (hw _ (List.mem_of_getElem? (i := 221) rfl))) (ty := .int) (by decide)
  have F1_status : Fld Z h1 b1 "com/example/rollbook/rollbook/http/ApiException" "status" "I" (.int (0 : Int32)) := D1 (Or.inr (hw _ (List.mem_of_getElem? (i := 225) rfl))) (ty := .int) (by decide)
  have F1_allow : Fld Z h1 b1 "com/example/rollbook/rollbook/http/ApiException" "allow" "Ljava/lang/String;" .null := D1 (Or.inr (hw _ (List.mem_of_getElem? (i := 227) rfl))) (ty := (.object "java/lang/String")) (by decide)
  refine OwnFin.adv (B := T1.setTop (mkF m 3 #[.val (.int xv)] [(.ref b1)])) (fun _ k => st1 _ k) ?_
  refine OwnFin.adv (B := T1.setTop (mkF m 4 #[.val (.int xv)] [(.ref b1), (.ref b1)])) (fun _ k => XS.dup X1.here hx rfl (hb hby own_d1_3) rfl rfl k) ?_
  refine OwnFin.adv (B := T1.setTop (mkF m 7 #[.val (.int xv)] [(.int (413 : Int32)), (.ref b1), (.ref b1)])) (fun _ k => XS.sipush X1.here hx rfl (hb hby own_d1_4) k) ?_
  obtain ⟨T3, h3, X3, e3, E3, A3, D3, U3, st3⟩ := newO X1 hx hZ hown (hw _ (List.mem_of_getElem? (i := 6) rfl)) (hw _ (List.mem_of_getElem? (i := 7) rfl)) (hw _ (List.mem_of_getElem? (i := 8) rfl)) e1 (g := (mkF m 7 #[.val (.int xv)] [(.int (413 : Int32)), (.ref b1), (.ref b1)])) rfl (hb hby own_d1_7) (by decide) (by decide)
  obtain ⟨b3, g3⟩ : ∃ z, z = h1.size := ⟨_, rfl⟩
  rw [← g3] at A3 D3 U3 st3
  have sz4 : h1.size ≤ h3.size := E3.1
  have chA4 : CHr Z own_EL s.vm h0 s.vm h3 := (chA2).trans (CHr.ext E3 (chA2).1)
  have lt_b3 := own_lt A3.lt
  have F3_value : Fld Z h3 b3 "java/lang/AbstractStringBuilder" "value" "[B" .null := D3 (Or.inl (hw _ (List.mem_of_getElem? (i := 25) rfl))) (ty := (.array .byte)) (by decide)
  have F3_coder : Fld Z h3 b3 "java/lang/AbstractStringBuilder" "coder" "B" (.int (0 : Int32)) := D3 (Or.inl (hw _ (List.mem_of_getElem? (i := 27) rfl))) (ty := .byte) (by decide)
  have F3_count : Fld Z h3 b3 "java/lang/AbstractStringBuilder" "count" "I" (.int (0 : Int32)) := D3 (Or.inl (hw _ (List.mem_of_getElem? (i := 58) rfl))) (ty := .int) (by decide)
  refine OwnFin.adv (B := T3.setTop (mkF m 10 #[.val (.int xv)] [(.ref b3), (.int (413 : Int32)), (.ref b1), (.ref b1)])) (fun _ k => st3 _ k) ?_
  refine OwnFin.adv (B := T3.setTop (mkF m 11 #[.val (.int xv)] [(.ref b3), (.ref b3), (.int (413 : Int32)), (.ref b1), (.ref b1)])) (fun _ k => XS.dup X3.here hx rfl (hb hby own_d1_10) rfl rfl k) ?_
  have Old6 : Old Z n0 h3 := ((O0.ext E1).ext E3)
  obtain ⟨_, _, ⟨T5, L5, k5, n5⟩, -, X5, ⟨Lc5, hQ5, l5, y5, z5⟩, st5⟩ := X3.specialBack hx (y := (⟨"java/lang/StringBuilder", "<init>", "()V"⟩ : MethodName)) rfl hown (mvT hZ (hw _ (List.mem_of_getElem? (i := 9) rfl))) (mvT hZ (hw _ (List.mem_of_getElem? (i := 10) rfl))) (mvT hZ (hw _ (List.mem_of_getElem? (i := 11) rfl))) (by decide) (backOf (W := 4) (own_sbInit l Z a0 hw [] b3 zc _ _ h3 n0 (by omega) Old6 SCS hzc A3 F3_value F3_coder F3_count (by omega)) hZ (hw _ (List.mem_of_getElem? (i := 11) rfl)) (hw _ (List.mem_of_getElem? (i := 8) rfl)) (by decide) (by decide)) (g := (mkF m 11 #[.val (.int xv)] [(.ref b3), (.ref b3), (.int (413 : Int32)), (.ref b1), (.ref b1)])) rfl (by rw [hml]; rfl) (Steps.refl _) (a := b3) (argsL := []) (rest := [(.ref b3), (.int (413 : Int32)), (.ref b1), (.ref b1)]) (lenOf own_pd_x28x29V rfl) rfl (by show 2 * 0 + _ ≤ _; exact Nat.le_of_eq rfl) (hb hby own_d1_11) (fun _ _ => ⟨rfl, e3, (by decide : 2 + 1 ≤ _), (by decide : 12 + 16 ≤ _)⟩)
  dsimp only [Pt.U, Pt.locs, Pt.cells, Pt.slots] at X5 l5 y5 z5 st5 hQ5
  subst l5 y5 z5
  obtain ⟨rfl, N5q, K5, da5, kd5, Fv5, Fc5, Fn5, Va5, ge5⟩ := hQ5
  have N5 := Fr.app N0 N5q
  have Sda5 : Safe Z own_EL s.vm h3 da5 := Safe.new ge5
  have sz7 : h3.size ≤ T5.heap.size := K5.1
  have chA7 : CHr Z own_EL s.vm h0 s.vm T5.heap := (chA4).trans (CHr.keep K5 (sfS (Safe.exa hZs.alike A3 (by decide) (by decide)) sf0) (chA4).1)
  have lt_da5 := own_lt Va5.lt
  refine OwnFin.adv (B := T5.setTop (mkF m 14 #[.val (.int xv)] [(.ref b3), (.int (413 : Int32)), (.ref b1), (.ref b1)])) (fun _ k => st5.trans k) ?_
  have Fn8 : Fld Z T5.heap b3 "java/lang/AbstractStringBuilder" "count" "I" (.int (Int32.ofNat 0)) := Fn5
  have hv8 : (List.replicate 16 (Value.int (0 : Int32))).length = 16 := by simp
  obtain ⟨a9, T9, h9, kk9, bb9, kb9, X9, e9, E9, hS9, hk9, hZ, hown, Ea9, Fc9, Fv9, Vb9, lta9, ltb9, C9, Lt9, sf9, st9⟩ := ldcCH (s := s) (vm0 := s.vm) X5 hx hZ hown (hw _ (List.mem_of_getElem? (i := 28) rfl)) (fun d hd => hw d ((by decide +kernel : ∀ d ∈ Bundle.stringAtoms, d ∈ tables_1) d hd)) rfl (State.WarmedH.since (State.WarmedH.refl s) 0) (Nat.zero_le _) (own_EW hw) (by decide) (chA7).1 (vs := [(.int (84 : Int32)), (.int (104 : Int32)), (.int (101 : Int32)), (.int (32 : Int32)), (.int (114 : Int32)), (.int (101 : Int32)), (.int (113 : Int32)), (.int (117 : Int32)), (.int (101 : Int32)), (.int (115 : Int32)), (.int (116 : Int32)), (.int (32 : Int32)), (.int (98 : Int32)), (.int (111 : Int32)), (.int (100 : Int32)), (.int (121 : Int32)), (.int (32 : Int32)), (.int (105 : Int32)), (.int (115 : Int32)), (.int (32 : Int32)), (.int (108 : Int32)), (.int (111 : Int32)), (.int (110 : Int32)), (.int (103 : Int32)), (.int (101 : Int32)), (.int (114 : Int32)), (.int (32 : Int32)), (.int (116 : Int32)), (.int (104 : Int32)), (.int (97 : Int32)), (.int (110 : Int32)), (.int (32 : Int32))]) (z := (32 : Int32)) ⟨by decide +kernel, by decide +kernel⟩ (by decide) (by decide) (g := (mkF m 14 #[.val (.int xv)] [(.ref b3), (.int (413 : Int32)), (.ref b1), (.ref b1)])) rfl (hb hby own_d1_14) (n := 128) (by decide) (by decide) (by decide) (by decide)
  have hZ9 := hZ
  have sz10 : T5.heap.size ≤ h9.size := E9.1
  have chA9 : CHr Z own_EL s.vm h0 T9.vm h9 := (chA7).trans C9
  have Sf11 : Safe Z own_EL T9.vm h9 da5 := (C9.safe (own_lt (by omega)) (Safe.keep K5 (sfS (Safe.exa hZs.alike A3 (by decide) (by decide)) sf0) (chA4).1 Sda5))
  have nea9_da5 := own_nee (sf9 da5 Sf11).1
  have neb9_da5 := own_nee (sf9 da5 Sf11).2
  refine OwnFin.adv (B := T9.setTop (mkF m 16 #[.val (.int xv)] [(.ref a9), (.ref b3), (.int (413 : Int32)), (.ref b1), (.ref b1)])) (fun _ k => st9 _ k) ?_
  have Fl9 : OwnS Z h9 h9.size a9 own_A := own_litS Ea9 Fv9 Fc9 Vb9 lta9 ltb9 (by decide) (by decide) own_A255 (by decide)
  have Old13 : Old Z n0 h9 := ((Old6.keep K5 (allS (by omega) all0)).ext E9)
  have Fv14_4 : Exa Z h9 b3 "java/lang/StringBuilder" := ((A3.keep K5).ext E9)
  have Fv15_4 : Fld Z h9 b3 "java/lang/AbstractStringBuilder" "value" "[B" (.ref da5) := (Fv5.ext E9)
  have Fv16_4 : Fld Z h9 b3 "java/lang/AbstractStringBuilder" "coder" "B" (.int (0 : Int32)) := (Fc5.ext E9)
  have Fv17_4 : Fld Z h9 b3 "java/lang/AbstractStringBuilder" "count" "I" (.int (Int32.ofNat 0)) := (Fn8.ext E9)
  have Fv18_4 : Arv Z h9 da5 kd5 .byte (Int32.ofNat 16) (List.replicate 16 (.int (0 : Int32))) (.int (0 : Int32)) := (Va5.ext E9)
  obtain ⟨cq12, kq12, q12a, q12b, q12c⟩ := isOf hZ e9 Fv14_4
  obtain ⟨_, _, ⟨T12, L12, k12, n12⟩, -, X12, ⟨Lc12, hQ12, l12, y12, z12⟩, st12⟩ := X9.virtualBack hx (y := (⟨"java/lang/StringBuilder", "append", "(Ljava/lang/String;)Ljava/lang/StringBuilder;"⟩ : MethodName)) (z := (⟨"java/lang/StringBuilder", "append", "(Ljava/lang/String;)Ljava/lang/StringBuilder;"⟩ : MethodName)) hown (mvT hZ (hw _ (List.mem_of_getElem? (i := 34) rfl))) (mvT hZ (hw _ (List.mem_of_getElem? (i := 35) rfl))) (notFace_of_selects (args := #[]) (mvT hZ (hw _ (List.mem_of_getElem? (i := 37) rfl)))) (mvT hZ (hw _ (List.mem_of_getElem? (i := 37) rfl))) (mvT hZ (hw _ (List.mem_of_getElem? (i := 36) rfl))) (by decide) (backOf (W := 3) (own_sbAppX l Z a0 hw [] b3 a9 da5 kd5 (List.replicate 16 (.int (0 : Int32))) zc 16 (0) (h9.size) own_A h9 n0 (by omega) Old13 SCS hzc Fv14_4 Fv15_4 Fv16_4 Fv17_4 Fv18_4 (by omega) hv8 (by omega) Fl9 (by omega) (fun q => by omega) (by omega) (by omega) (own_lt (by omega))) hZ (hw _ (List.mem_of_getElem? (i := 38) rfl)) (hw _ (List.mem_of_getElem? (i := 8) rfl)) (by decide) (by decide)) q12a q12c (g := (mkF m 16 #[.val (.int xv)] [(.ref a9), (.ref b3), (.int (413 : Int32)), (.ref b1), (.ref b1)])) rfl (by rw [hml]; rfl) (Steps.refl _) (argsL := [(.ref a9)]) (rest := [(.int (413 : Int32)), (.ref b1), (.ref b1)]) (lenOf own_pd_x28Ljavax2flangx2fStringx3bx29Ljavax2flangx2fStringBuilderx3b rfl) rfl (by show 2 * 0 + _ ≤ _; exact Nat.le_of_eq rfl) (hb hby own_d1_16) (fun _ _ => ⟨rfl, e9, (by decide : 5 + 1 ≤ _), (by decide : 160 + 72 ≤ _)⟩)
  dsimp only [Pt.U, Pt.locs, Pt.cells, Pt.slots] at X12 l12 y12 z12 st12 hQ12
  subst l12 y12 z12
  obtain ⟨rfl, N12q, K12, dn12, kn12, vn12, cn12, Fv12, Fc12, Fn12, Va12, hv12, ht12, hm12, hcn12, g_dn12, od12, hd12⟩ := hQ12
  have N12 := Fr.app N5 N12q
  have Sd12 : Safe Z own_EL T9.vm h9 dn12 := by
    rcases hd12 with q | q
    · rw [q]; exact Sf11
    · exact Safe.new q
  have sz19 : h9.size ≤ T12.heap.size := K12.1
  have chA19 : CHr Z own_EL s.vm h0 T9.vm T12.heap := (chA9).trans (CHr.keep K12 (sfS (Safe.exa hZ9.alike Fv14_4 (by decide) (by decide)) (sfS Sf11 sf0)) (chA9).1)
  obtain rfl : cn12 = 34 := by omega
  rw [show 0 + own_A.length = 32 from rfl] at Fn12
  have ht12 : vn12.take 32 = (((own_A).map fun c => c.toInt8.toInt32).map Value.int) := ht12
  have lt_dn12 := own_lt Va12.lt
  have odn12 := own_lt od12
  refine OwnFin.adv (B := T12.setTop (mkF m 19 #[.val (.int xv)] [(.ref b3), (.int (413 : Int32)), (.ref b1), (.ref b1)])) (fun _ k => st12.trans k) ?_
  refine OwnFin.adv (B := T12.setTop (mkF m 20 #[.val (.int xv)] [(.int xv), (.ref b3), (.int (413 : Int32)), (.ref b1), (.ref b1)])) (fun _ k => XS.iloadN X12.here hx rfl (hb hby own_d1_19) rfl k) ?_
  have Old21 : Old Z n0 T12.heap := (Old13.keep K12 (allS (by omega) (allS (by omega) all0)))
  have Fv22_5 : Exa Z T12.heap b3 "java/lang/StringBuilder" := (Fv14_4.keep K12)
  obtain ⟨cq20, kq20, q20a, q20b, q20c⟩ := isOf hZ rfl Fv22_5
  obtain ⟨_, _, ⟨T20, L20, k20, n20⟩, -, X20, ⟨Lc20, hQ20, l20, y20, z20⟩, st20⟩ := X12.virtualBack hx (y := (⟨"java/lang/StringBuilder", "append", "(I)Ljava/lang/StringBuilder;"⟩ : MethodName)) (z := (⟨"java/lang/StringBuilder", "append", "(I)Ljava/lang/StringBuilder;"⟩ : MethodName)) hown (mvT hZ (hw _ (List.mem_of_getElem? (i := 107) rfl))) (mvT hZ (hw _ (List.mem_of_getElem? (i := 108) rfl))) (notFace_of_selects (args := #[]) (mvT hZ (hw _ (List.mem_of_getElem? (i := 110) rfl)))) (mvT hZ (hw _ (List.mem_of_getElem? (i := 110) rfl))) (mvT hZ (hw _ (List.mem_of_getElem? (i := 109) rfl))) (by decide) (backOf (W := 3) (own_sbAppI l Z a0 hw [] b3 dn12 kn12 vn12 zc xv 34 (32) nn ist dg1 dg2 DG1 DG2 T12.heap n0 (by omega) Old21 SCS hzc Fv22_5 Fv12 Fc12 Fn12 Va12 (by omega) hv12 (by omega) hnn hxv TB1 TB2 on1 on2 (by omega) (fun q => by omega) (by omega) (by omega) (own_lt (by omega))) hZ (hw _ (List.mem_of_getElem? (i := 111) rfl)) (hw _ (List.mem_of_getElem? (i := 8) rfl)) (by decide) (by decide)) q20a q20c (g := (mkF m 20 #[.val (.int xv)] [(.int xv), (.ref b3), (.int (413 : Int32)), (.ref b1), (.ref b1)])) rfl (by rw [hml]; rfl) (Steps.refl _) (argsL := [(.int xv)]) (rest := [(.int (413 : Int32)), (.ref b1), (.ref b1)]) (lenOf own_pd_x28Ix29Ljavax2flangx2fStringBuilderx3b rfl) rfl (by show 2 * 0 + _ ≤ _; exact Nat.le_of_eq rfl) (hb hby own_d1_20) (fun _ _ => ⟨rfl, rfl, (by decide : 6 + 1 ≤ _), (by decide : 232 + 72 ≤ _)⟩)
  dsimp only [Pt.U, Pt.locs, Pt.cells, Pt.slots] at X20 l20 y20 z20 st20 hQ20
  subst l20 y20 z20
  obtain ⟨rfl, N20q, K20, dn20, kn20, vn20, cn20, Fv20, Fc20, Fn20, Va20, hv20, ht20, hm20, hcn20, g_dn20, od20, hd20⟩ := hQ20
  have N20 := Fr.app N12 N20q
  have Sf23 : Safe Z own_EL T9.vm T12.heap dn12 := (Safe.keep K12 (sfS (Safe.exa hZ9.alike Fv14_4 (by decide) (by decide)) (sfS Sf11 sf0)) (chA9).1 Sd12)
  have Sd20 : Safe Z own_EL T9.vm T12.heap dn20 := by
    rcases hd20 with q | q
    · rw [q]; exact Sf23
    · exact Safe.new q
  have sz24 : T12.heap.size ≤ T20.heap.size := K20.1
  have chA24 : CHr Z own_EL s.vm h0 T9.vm T20.heap := (chA19).trans (CHr.keep K20 (sfS (Safe.exa hZ9.alike Fv22_5 (by decide) (by decide)) (sfS Sf23 sf0)) (chA19).1)
  have ht20 : vn20.take (32 + (own_dec xv nn).length) = (((own_A ++ own_dec xv nn).map fun c => c.toInt8.toInt32).map Value.int) := by rw [ht20, ht12, List.map_append, List.map_append]
  have lt_dn20 := own_lt Va20.lt
  have odn20 := own_lt od20
  refine OwnFin.adv (B := T20.setTop (mkF m 23 #[.val (.int xv)] [(.ref b3), (.int (413 : Int32)), (.ref b1), (.ref b1)])) (fun _ k => st20.trans k) ?_
  obtain ⟨a25, T25, h25, kk25, bb25, kb25, X25, e25, E25, hS25, hk25, hZ, hown, Ea25, Fc25, Fv25, Vb25, lta25, ltb25, C25, Lt25, sf25, st25⟩ := ldcCH (s := s) (vm0 := T9.vm) X20 hx hZ hown (hw _ (List.mem_of_getElem? (i := 129) rfl)) (fun d hd => hw d ((by decide +kernel : ∀ d ∈ Bundle.stringAtoms, d ∈ tables_1) d hd)) rfl hS9 (by omega) (own_EW hw) (by decide) (chA24).1 (vs := [(.int (32 : Int32)), (.int (98 : Int32)), (.int (121 : Int32)), (.int (116 : Int32)), (.int (101 : Int32)), (.int (115 : Int32))]) (z := (6 : Int32)) ⟨by decide +kernel, by decide +kernel⟩ (by decide) (by decide) (g := (mkF m 23 #[.val (.int xv)] [(.ref b3), (.int (413 : Int32)), (.ref b1), (.ref b1)])) rfl (hb hby own_d1_23) (n := 24) (by decide) (by decide) (by decide) (by decide)
  have hZ25 := hZ
  have sz26 : T20.heap.size ≤ h25.size := E25.1
  have chA25 : CHr Z own_EL s.vm h0 T25.vm h25 := (chA24).trans C25
  have Sf27 : Safe Z own_EL T25.vm h25 da5 := (C25.safe (own_lt (by omega)) (Safe.keep K20 (sfS (Safe.exa hZ9.alike Fv22_5 (by decide) (by decide)) (sfS Sf23 sf0)) (chA19).1 (Safe.keep K12 (sfS (Safe.exa hZ9.alike Fv14_4 (by decide) (by decide)) (sfS Sf11 sf0)) (chA9).1 Sf11)))
  have nea25_da5 := own_nee (sf25 da5 Sf27).1
  have neb25_da5 := own_nee (sf25 da5 Sf27).2
  have Sf28 : Safe Z own_EL T25.vm h25 dn12 := (C25.safe (own_lt (by omega)) (Safe.keep K20 (sfS (Safe.exa hZ9.alike Fv22_5 (by decide) (by decide)) (sfS Sf23 sf0)) (chA19).1 Sf23))
  have nea25_dn12 := own_nee (sf25 dn12 Sf28).1
  have neb25_dn12 := own_nee (sf25 dn12 Sf28).2
  have Sf29 : Safe Z own_EL T25.vm h25 dn20 := (C25.safe (own_lt (by omega)) (Safe.keep K20 (sfS (Safe.exa hZ9.alike Fv22_5 (by decide) (by decide)) (sfS Sf23 sf0)) (chA19).1 Sd20))
  have nea25_dn20 := own_nee (sf25 dn20 Sf29).1
  have neb25_dn20 := own_nee (sf25 dn20 Sf29).2
  refine OwnFin.adv (B := T25.setTop (mkF m 25 #[.val (.int xv)] [(.ref a25), (.ref b3), (.int (413 : Int32)), (.ref b1), (.ref b1)])) (fun _ k => st25 _ k) ?_
  have Fl25 : OwnS Z h25 h25.size a25 own_B := own_litS Ea25 Fv25 Fc25 Vb25 lta25 ltb25 (by decide) (by decide) own_B255 (by decide)
  have Old31 : Old Z n0 h25 := ((Old21.keep K20 (allS (by omega) (allS (by omega) all0))).ext E25)
  have Fv32_7 : Exa Z h25 b3 "java/lang/StringBuilder" := ((Fv22_5.keep K20).ext E25)
  have Fv33_7 : Fld Z h25 b3 "java/lang/AbstractStringBuilder" "value" "[B" (.ref dn20) := (Fv20.ext E25)
  have Fv34_7 : Fld Z h25 b3 "java/lang/AbstractStringBuilder" "coder" "B" (.int (0 : Int32)) := (Fc20.ext E25)
  have Fv35_7 : Fld Z h25 b3 "java/lang/AbstractStringBuilder" "count" "I" (.int (Int32.ofNat (32 + (own_dec xv nn).length))) := (Fn20.ext E25)
  have Fv36_7 : Arv Z h25 dn20 kn20 .byte (Int32.ofNat cn20) vn20 (.int (0 : Int32)) := (Va20.ext E25)
  obtain ⟨cq30, kq30, q30a, q30b, q30c⟩ := isOf hZ e25 Fv32_7
  obtain ⟨_, _, ⟨T30, L30, k30, n30⟩, -, X30, ⟨Lc30, hQ30, l30, y30, z30⟩, st30⟩ := X25.virtualBack hx (y := (⟨"java/lang/StringBuilder", "append", "(Ljava/lang/String;)Ljava/lang/StringBuilder;"⟩ : MethodName)) (z := (⟨"java/lang/StringBuilder", "append", "(Ljava/lang/String;)Ljava/lang/StringBuilder;"⟩ : MethodName)) hown (mvT hZ (hw _ (List.mem_of_getElem? (i := 34) rfl))) (mvT hZ (hw _ (List.mem_of_getElem? (i := 35) rfl))) (notFace_of_selects (args := #[]) (mvT hZ (hw _ (List.mem_of_getElem? (i := 37) rfl)))) (mvT hZ (hw _ (List.mem_of_getElem? (i := 37) rfl))) (mvT hZ (hw _ (List.mem_of_getElem? (i := 36) rfl))) (by decide) (backOf (W := 3) (own_sbAppX l Z a0 hw [] b3 a25 dn20 kn20 vn20 zc cn20 (32 + (own_dec xv nn).length) (h25.size) own_B h25 n0 (by omega) Old31 SCS hzc Fv32_7 Fv33_7 Fv34_7 Fv35_7 Fv36_7 (by omega) hv20 (by omega) Fl25 (by omega) (fun q => by omega) (by omega) (by omega) (own_lt (by omega))) hZ (hw _ (List.mem_of_getElem? (i := 38) rfl)) (hw _ (List.mem_of_getElem? (i := 8) rfl)) (by decide) (by decide)) q30a q30c (g := (mkF m 25 #[.val (.int xv)] [(.ref a25), (.ref b3), (.int (413 : Int32)), (.ref b1), (.ref b1)])) rfl (by rw [hml]; rfl) (Steps.refl _) (argsL := [(.ref a25)]) (rest := [(.int (413 : Int32)), (.ref b1), (.ref b1)]) (lenOf own_pd_x28Ljavax2flangx2fStringx3bx29Ljavax2flangx2fStringBuilderx3b rfl) rfl (by show 2 * 0 + _ ≤ _; exact Nat.le_of_eq rfl) (hb hby own_d1_25) (fun _ _ => ⟨rfl, e25, (by decide : 9 + 1 ≤ _), (by decide : 332 + 72 ≤ _)⟩)
  dsimp only [Pt.U, Pt.locs, Pt.cells, Pt.slots] at X30 l30 y30 z30 st30 hQ30
  subst l30 y30 z30
  obtain ⟨rfl, N30q, K30, dn30, kn30, vn30, cn30, Fv30, Fc30, Fn30, Va30, hv30, ht30, hm30, hcn30, g_dn30, od30, hd30⟩ := hQ30
  have N30 := Fr.app N20 N30q
  have Sd30 : Safe Z own_EL T25.vm h25 dn30 := by
    rcases hd30 with q | q
    · rw [q]; exact Sf29
    · exact Safe.new q
  have sz37 : h25.size ≤ T30.heap.size := K30.1
  have chA37 : CHr Z own_EL s.vm h0 T25.vm T30.heap := (chA25).trans (CHr.keep K30 (sfS (Safe.exa hZ25.alike Fv32_7 (by decide) (by decide)) (sfS Sf29 sf0)) (chA25).1)
  obtain rfl : cn30 = 70 := by omega
  have ht30 : vn30.take (32 + (own_dec xv nn).length + own_B.length) = (((own_msg xv nn).map fun c => c.toInt8.toInt32).map Value.int) := by rw [ht30, ht20]; simp only [own_msg, List.map_append]
  have lt_dn30 := own_lt Va30.lt
  have odn30 := own_lt od30
  refine OwnFin.adv (B := T30.setTop (mkF m 28 #[.val (.int xv)] [(.ref b3), (.int (413 : Int32)), (.ref b1), (.ref b1)])) (fun _ k => st30.trans k) ?_
  have Old39 : Old Z n0 T30.heap := (Old31.keep K30 (allS (by omega) (allS (by omega) all0)))
  have Fv40_8 : Exa Z T30.heap b3 "java/lang/StringBuilder" := (Fv32_7.keep K30)
  obtain ⟨cq38, kq38, q38a, q38b, q38c⟩ := isOf hZ rfl Fv40_8
  obtain ⟨_, _, ⟨T38, L38, k38, n38⟩, -, X38, ⟨Lc38, hQ38, l38, y38, z38⟩, st38⟩ := X30.virtualBack hx (y := (⟨"java/lang/StringBuilder", "toString", "()Ljava/lang/String;"⟩ : MethodName)) (z := (⟨"java/lang/StringBuilder", "toString", "()Ljava/lang/String;"⟩ : MethodName)) hown (mvT hZ (hw _ (List.mem_of_getElem? (i := 130) rfl))) (mvT hZ (hw _ (List.mem_of_getElem? (i := 131) rfl))) (notFace_of_selects (args := #[]) (mvT hZ (hw _ (List.mem_of_getElem? (i := 133) rfl)))) (mvT hZ (hw _ (List.mem_of_getElem? (i := 133) rfl))) (mvT hZ (hw _ (List.mem_of_getElem? (i := 132) rfl))) (by decide) (backOf (W := 3) (own_sbToStr l Z a0 hw [] b3 dn30 kn30 vn30 70 (32 + (own_dec xv nn).length + own_B.length) zc (own_msg xv nn) T30.heap n0 (by omega) Old39 SCS hzc Fv40_8 Fv30 Fc30 Fn30 Va30 (by decide) hv30 (by omega) (by omega) (by rw [own_msglen]; omega) ht30 (own_msg255 xv nn)) hZ (hw _ (List.mem_of_getElem? (i := 134) rfl)) (hw _ (List.mem_of_getElem? (i := 8) rfl)) (by decide) (by decide)) q38a q38c (g := (mkF m 28 #[.val (.int xv)] [(.ref b3), (.int (413 : Int32)), (.ref b1), (.ref b1)])) rfl (by rw [hml]; rfl) (Steps.refl _) (argsL := []) (rest := [(.int (413 : Int32)), (.ref b1), (.ref b1)]) (lenOf own_pd_x28x29Ljavax2flangx2fStringx3b rfl) rfl (by show 2 * 0 + _ ≤ _; exact Nat.le_of_eq rfl) (hb hby own_d1_28) (fun _ _ => ⟨rfl, rfl, (by decide : 10 + 2 ≤ _), (by decide : 404 + 68 ≤ _)⟩)
  dsimp only [Pt.U, Pt.locs, Pt.cells, Pt.slots] at X38 l38 y38 z38 st38 hQ38
  subst l38 y38 z38
  obtain ⟨r38, rfl, N38q, K38, ge38, Fs38⟩ := hQ38
  have N38 := Fr.app N30 N38q
  have sz41 : T30.heap.size ≤ T38.heap.size := K38.1
  have chA41 : CHr Z own_EL s.vm h0 T25.vm T38.heap := (chA37).trans (CHr.keep K38 sf0 (chA37).1)
  refine OwnFin.adv (B := T38.setTop (mkF m 31 #[.val (.int xv)] [(.ref r38), (.int (413 : Int32)), (.ref b1), (.ref b1)])) (fun _ k => st38.trans k) ?_
  refine OwnFin.adv (B := T38.setTop (mkF m 32 #[.val (.int xv)] [.null, (.ref r38), (.int (413 : Int32)), (.ref b1), (.ref b1)])) (fun _ k => XS.aconstNull X38.here hx rfl (hb hby own_d1_31) k) ?_
  obtain ⟨ts43, ks43, Es43, Vs43, Cs43, As43, lx43, lt43, hp43, l243⟩ := id Fs38
  have lx43 := own_lt lx43
  have lt43 := own_lt lt43
  have ltx43 := own_lt Es43.lt
  have ltt43 := own_lt As43.lt
  have Fv44_9 : Exa Z T38.heap b1 "com/example/rollbook/rollbook/http/ApiException" := ((((((((A1.ext E3).keep K5).ext E9).keep K12).keep K20).ext E25).keep K30).keep K38)
  have nx1 := own_nee (ne_exa Fv44_9 Es43 (by decide))
  have nx2 := own_nee (Exa.neArv Fv44_9 As43 (hw _ (List.mem_of_getElem? (i := 5) rfl)))
  have Old45 : Old Z n0 T38.heap := (Old39.keep K38 all0)
  have Fv46_9 : Unt T38.heap b1 := (Unt.keep K38 nin0 (Unt.keep K30 (ninS (own_ne (by omega)) (ninS (own_ne (by omega)) nin0)) (Unt.ext E25 (Unt.keep K20 (ninS (own_ne (by omega)) (ninS (own_ne (by omega)) nin0)) (Unt.keep K12 (ninS (own_ne (by omega)) (ninS (own_ne (by omega)) nin0)) (Unt.ext E9 (Unt.keep K5 (ninS (own_ne (by omega)) nin0) (Unt.ext E3 U1))))))))
  have Fv47_9 : Fld Z T38.heap b1 "java/lang/Throwable" "cause" "Ljava/lang/Throwable;" .null := ((((((((F1_cause.ext E3).keep K5 (ninS (own_ne (by omega)) nin0)).ext E9).keep K12 (ninS (own_ne (by omega)) (ninS (own_ne (by omega)) nin0))).keep K20 (ninS (own_ne (by omega)) (ninS (own_ne (by omega)) nin0))).ext E25).keep K30 (ninS (own_ne (by omega)) (ninS (own_ne (by omega)) nin0))).keep K38 nin0)
  have Fv48_9 : Fld Z T38.heap b1 "java/lang/Throwable" "stackTrace" "[Ljava/lang/StackTraceElement;" .null := ((((((((F1_stackTrace.ext E3).keep K5 (ninS (own_ne (by omega)) nin0)).ext E9).keep K12 (ninS (own_ne (by omega)) (ninS (own_ne (by omega)) nin0))).keep K20 (ninS (own_ne (by omega)) (ninS (own_ne (by omega)) nin0))).ext E25).keep K30 (ninS (own_ne (by omega)) (ninS (own_ne (by omega)) nin0))).keep K38 nin0)
  have Fv49_9 : Fld Z T38.heap b1 "java/lang/Throwable" "suppressedExceptions" "Ljava/util/List;" .null := ((((((((F1_suppressedExceptions.ext E3).keep K5 (ninS (own_ne (by omega)) nin0)).ext E9).keep K12 (ninS (own_ne (by omega)) (ninS (own_ne (by omega)) nin0))).keep K20 (ninS (own_ne (by omega)) (ninS (own_ne (by omega)) nin0))).ext E25).keep K30 (ninS (own_ne (by omega)) (ninS (own_ne (by omega)) nin0))).keep K38 nin0)
  have Fv50_9 : Fld Z T38.heap b1 "java/lang/Throwable" "backtrace" "Ljava/lang/Object;" .null := ((((((((F1_backtrace.ext E3).keep K5 (ninS (own_ne (by omega)) nin0)).ext E9).keep K12 (ninS (own_ne (by omega)) (ninS (own_ne (by omega)) nin0))).keep K20 (ninS (own_ne (by omega)) (ninS (own_ne (by omega)) nin0))).ext E25).keep K30 (ninS (own_ne (by omega)) (ninS (own_ne (by omega)) nin0))).keep K38 nin0)
  have Fv51_9 : Fld Z T38.heap b1 "java/lang/Throwable" "detailMessage" "Ljava/lang/String;" .null := ((((((((F1_detailMessage.ext E3).keep K5 (ninS (own_ne (by omega)) nin0)).ext E9).keep K12 (ninS (own_ne (by omega)) (ninS (own_ne (by omega)) nin0))).keep K20 (ninS (own_ne (by omega)) (ninS (own_ne (by omega)) nin0))).ext E25).keep K30 (ninS (own_ne (by omega)) (ninS (own_ne (by omega)) nin0))).keep K38 nin0)
  have Fv52_9 : Fld Z T38.heap b1 "com/example/rollbook/rollbook/http/ApiException" "status" "I" (.int (0 : Int32)) := ((((((((F1_status.ext E3).keep K5 (ninS (own_ne (by omega)) nin0)).ext E9).keep K12 (ninS (own_ne (by omega)) (ninS (own_ne (by omega)) nin0))).keep K20 (ninS (own_ne (by omega)) (ninS (own_ne (by omega)) nin0))).ext E25).keep K30 (ninS (own_ne (by omega)) (ninS (own_ne (by omega)) nin0))).keep K38 nin0)
  have Fv53_9 : Fld Z T38.heap b1 "com/example/rollbook/rollbook/http/ApiException" "allow" "Ljava/lang/String;" .null := ((((((((F1_allow.ext E3).keep K5 (ninS (own_ne (by omega)) nin0)).ext E9).keep K12 (ninS (own_ne (by omega)) (ninS (own_ne (by omega)) nin0))).keep K20 (ninS (own_ne (by omega)) (ninS (own_ne (by omega)) nin0))).ext E25).keep K30 (ninS (own_ne (by omega)) (ninS (own_ne (by omega)) nin0))).keep K38 nin0)
  obtain ⟨_, _, ⟨T42, L42, k42, n42⟩, -, X42, ⟨Lc42, hQ42, l42, y42, z42⟩, st42⟩ := X38.specialBack hx (y := (⟨"com/example/rollbook/rollbook/http/ApiException", "<init>", "(ILjava/lang/String;Ljava/lang/String;)V"⟩ : MethodName)) rfl hown (mvT hZ (hw _ (List.mem_of_getElem? (i := 167) rfl))) (mvT hZ (hw _ (List.mem_of_getElem? (i := 168) rfl))) (mvT hZ (hw _ (List.mem_of_getElem? (i := 169) rfl))) (by decide) (backOfKL (W := 1) (own_axInit l Z a0 hw [] b1 (413 : Int32) r38 ua uz _ _ T38.heap n0 (by omega) Old45 hst SU SV Fv44_9 Fv46_9 Fv47_9 Fv48_9 Fv49_9 Fv50_9 Fv51_9 Fv52_9 Fv53_9 (by omega)) hZ (hw _ (List.mem_of_getElem? (i := 169) rfl)) (hw _ (List.mem_of_getElem? (i := 2) rfl)) (by decide) (by decide) (Vm.MethodsKnown.alikeC (hZs.alike.symm.trans hZ.alike) hTK) (Vm.FramesKnown.alikeC (hZs.alike.symm.trans hZ.alike) hBl)) (g := (mkF m 32 #[.val (.int xv)] [.null, (.ref r38), (.int (413 : Int32)), (.ref b1), (.ref b1)])) rfl (by rw [hml]; rfl) (Steps.refl _) (a := b1) (argsL := [(.int (413 : Int32)), (.ref r38), .null]) (rest := [(.ref b1)]) (lenOf own_pd_x28ILjavax2flangx2fStringx3bLjavax2flangx2fStringx3bx29V rfl) rfl (by show 2 * 0 + _ ≤ _; exact Nat.le_of_eq rfl) (hb hby own_d1_32) (fun _ _ => ⟨rfl, rfl, (by decide : 12 + 1 ≤ _), (by decide : 472 + 2752 ≤ _)⟩)
  dsimp only [Pt.U, Pt.locs, Pt.cells, Pt.slots] at X42 l42 y42 z42 st42 hQ42
  subst l42 y42 z42
  obtain ⟨rfl, N42q, K42, Fa42, Fb42, Fd42⟩ := hQ42
  have N42 := Fr.app N38 N42q
  have sz54 : T38.heap.size ≤ T42.heap.size := K42.1
  have chA54 : CHr Z own_EL s.vm h0 T25.vm T42.heap := (chA41).trans (CHr.keep K42 (sfS (Safe.exa hZ25.alike Fv44_9 (by decide) (by decide)) sf0) (chA41).1)
  refine OwnFin.adv (B := T42.setTop (mkF m 35 #[.val (.int xv)] [(.ref b1)])) (fun _ k => st42.trans k) ?_
  obtain ⟨fs, hr, hrun, hended, hE⟩ := X42.leaveW hS25 (by omega) (v := some (.ref b1)) (fun h => by rw [Bd.returns] at h; cases h)
  refine OwnFin.leaf hP' ⟨_, _, own_retR X42 hx Bd.returns rfl rfl rfl (hb hby own_d1_35) hr, hrun, hended, _, _, rfl, ?_, own_chend (chA54) (CHv.at (s := s) (vm0 := T25.vm) (T := T42) X42 hZ (own_EW hw) (chA54).1) hh rfl, own_monoW hE (by decide) (by decide)⟩
  have Fv55_10 : Exa Z T42.heap b1 "com/example/rollbook/rollbook/http/ApiException" := (Fv44_9.keep K42)
  have Fv56_10 : Exa Z T42.heap r38 "java/lang/String" := (Es43.keep K42)
  have Fv57_10 : Fld Z T42.heap r38 "java/lang/String" "value" "[B" (.ref ts43) := (Vs43.keep K42 (ninS (own_ne (by omega)) nin0))
  have Fv58_10 : Fld Z T42.heap r38 "java/lang/String" "coder" "B" (.int (0 : Int32)) := (Cs43.keep K42 (ninS (own_ne (by omega)) nin0))
  have Fv59_10 : Arv Z T42.heap ts43 ks43 .byte (Int32.ofNat ((own_msg xv nn)).length) ((((own_msg xv nn)).map fun c => c.toInt8.toInt32).map Value.int) (.int (0 : Int32)) := (As43.keep K42 (ninS (own_ne (by omega)) nin0))
  rw [show (T42.setFrames fs).heap = T42.heap from rfl]
  exact ⟨b1, r38, rfl, N42, (((((((((((Keep.refl h0 []).ext E1).ext E3).trans K5 (allS (Or.inr (by omega)) all0)).ext E9).trans K12 (allS (Or.inr (by omega)) (allS (Or.inr (by omega)) all0))).trans K20 (allS (Or.inr (by omega)) (allS (Or.inr (by omega)) all0))).ext E25).trans K30 (allS (Or.inr (by omega)) (allS (Or.inr (by omega)) all0))).trans K38 all0).trans K42 (allS (Or.inr (by omega)) all0)), by omega, Fv55_10, Fa42, Fb42, Fd42, ts43, ks43, Fv56_10, Fv57_10, Fv58_10, Fv59_10, own_lt (a := r38) (b := T42.heap.size) (by omega), own_lt (a := ts43) (b := T42.heap.size) (by omega), hp43, l243⟩
theorem own_d38_0 : decode prog_50_method_4_code 0 = .ok (.aload_n 0, 1) := by decide +kernel
theorem own_d38_1 : decode prog_50_method_4_code 1 = .ok (.getfield 7, 3) := by decide +kernel
theorem own_d38_4 : decode prog_50_method_4_code 4 = .ok (.ireturn, 1) := by decide +kernel
theorem own_ef_status (m : MethodId) (x0 : Addr) : entryFrame m #[(.ref x0)] 1 = mkF m 0 #[.val (.ref x0)] [] := by first | (simp [entryFrame, mkF, argsToLocals, Value.category]; done) | rfl
def own_Q_status (Z : State) (ob : Addr) (h0 : Heap) (n0 : Nat) (v : Option Value) (h : Heap) (L : List Loc) : Prop := v = some (.int (413 : Int32)) ∧ Fr n0 L ∧ h = h0
set_option maxRecDepth 65536 in
set_option maxHeartbeats 40000000 in
theorem own_status (l : Launch) (Z : State) (a0 : Array Value) (hw : ∀ d ∈ tables_1, d.before a0 Z = true) (ws : List Jvm.Cond) (ob : Addr) (h0 : Heap) (n0 : Nat) (Z0 : n0 ≤ h0.size) (F : Fld Z h0 ob "com/example/rollbook/rollbook/http/ApiException" "status" "I" (.int (413 : Int32))) :
    MetFree l (⟨"com/example/rollbook/rollbook/http/ApiException", "status", "()I"⟩ : MethodName) (head1 (Jvm.Cond.code (⟨"com/example/rollbook/rollbook/http/ApiException", "status", "()I"⟩ : MethodName) prog_50_method_4_code 1 (some .int) :: ws) ({ frames := 0, cells := 0, slots := 0, locals := 0 } : Room)) (fun A0 U0 => A0 = #[(.ref ob)] ∧ Z.Warmed39 U0.vm ∧ U0.heap = h0) (fun _ _ _ _ _ => True) (fun _ U0 o0 U1 => ∃ v0 L0, o0 = .returned v0 ∧ own_Q_status Z ob h0 n0 v0 U1.heap L0 ∧ FrameEnd U0 o0 U1 L0 ({ frames := 0, cells := 0, slots := 0, locals := 0 } : Room).cells ({ frames := 0, cells := 0, slots := 0, locals := 0 } : Room).slots) := by
  refine MetFree.of_bodySF (plainFor_of_name own_pn_com_example_rollbook_rollbook_http_ApiException) hisR ?_
  intro p e s m args below meth c s₁ Bd hml0 hP hK
  obtain ⟨rfl, hZ, hh⟩ := hP
  have hZs0 := hZ
  have hZs := hZ
  have hx := Bd.exec
  have hby := Bd.bytes
  have hby_ := hby
  have hml : c.maxLocals = 1 := hml0
  have hown : s.vm.findClass "com/example/rollbook/rollbook/http/ApiException" = some m.cls := findClass_of_methodNamed Bd.named
  have hnm := (name_of_methodNamed Bd.named Bd.method).1
  have X0 : Stand p l e ({ frames := 0, cells := 0, slots := 0, locals := 0 } : Room) s m #[(.ref ob)] below meth c s₁ [] 0 0 := Stand.of_body Bd
  have e0 : s₁.heap = h0 := by rw [← hh, Bd.state]; rfl
  have N0 := Fr.nil n0
  refine OwnFin.entry (own_ef_status m ob) (fun P' hP' => ?_)
  refine OwnFin.adv (B := s₁.setTop (mkF m 1 #[.val (.ref ob)] [(.ref ob)])) (fun _ k => XS.aloadN X0.here hx rfl (hb hby own_d38_0) rfl rfl k) ?_
  obtain ⟨T1, X1, e1, st1⟩ := getF X0 hx hZ hown (host := "") (Or.inl (hw _ (List.mem_of_getElem? (i := 224) rfl))) Via.refl e0 F (g := (mkF m 1 #[.val (.ref ob)] [(.ref ob)])) rfl rfl (hb hby own_d38_1)
  refine OwnFin.adv (B := T1.setTop (mkF m 4 #[.val (.ref ob)] [(.int (413 : Int32))])) (fun _ k => st1 _ k) ?_
  obtain ⟨fs, hr, hrun, hended, hW, hsame⟩ := X1.leave (v := some (.int (413 : Int32))) (fun h => by rw [Bd.returns] at h; cases h)
  refine OwnFin.leaf hP' ⟨_, _, own_retI X1 hx Bd.returns (hb hby own_d38_4) hr, hrun, hended, _, _, rfl, ?_, ⟨_, rfl⟩, hW, hsame.mono (by decide) (by decide)⟩
  exact ⟨rfl, N0, e1⟩
theorem own_d40_0 : decode jdk_32_method_4_code 0 = .ok (.aload_n 0, 1) := by decide +kernel
theorem own_d40_1 : decode jdk_32_method_4_code 1 = .ok (.ifnonnull 9, 3) := by decide +kernel
theorem own_d40_4 : decode jdk_32_method_4_code 4 = .ok (.getstatic 1, 3) := by decide +kernel
theorem own_d40_7 : decode jdk_32_method_4_code 7 = .ok (.goto 11, 3) := by decide +kernel
theorem own_d40_18 : decode jdk_32_method_4_code 18 = .ok (.areturn, 1) := by decide +kernel
theorem own_ef_ofNull (m : MethodId)  : entryFrame m #[.null] 1 = mkF m 0 #[.val .null] [] := by first | (simp [entryFrame, mkF, argsToLocals, Value.category]; done) | rfl
theorem own_pn_java_util_Optional : plainName "java/util/Optional" = true := by first | (simp [plainName, overriddenIn]; done) | decide +kernel
def own_Q_ofNull (Z : State) (oe : Addr) (h0 : Heap) (n0 : Nat) (v : Option Value) (h : Heap) (L : List Loc) : Prop := v = some (.ref oe) ∧ Fr n0 L ∧ h = h0
set_option maxRecDepth 65536 in
set_option maxHeartbeats 40000000 in
theorem own_ofNull (l : Launch) (Z : State) (a0 : Array Value) (hw : ∀ d ∈ tables_1, d.before a0 Z = true) (ws : List Jvm.Cond) (oe : Addr) (h0 : Heap) (n0 : Nat) (Z0 : n0 ≤ h0.size) (O0 : Old Z n0 h0) (SE : Sta Z Z.heap "java/util/Optional" "EMPTY" "Ljava/util/Optional;" (.ref oe)) :
    MetFree l (⟨"java/util/Optional", "ofNullable", "(Ljava/lang/Object;)Ljava/util/Optional;"⟩ : MethodName) (head1 (Jvm.Cond.code (⟨"java/util/Optional", "ofNullable", "(Ljava/lang/Object;)Ljava/util/Optional;"⟩ : MethodName) jdk_32_method_4_code 1 (some (.object "java/util/Optional")) :: ws) ({ frames := 0, cells := 0, slots := 0, locals := 0 } : Room)) (fun A0 U0 => A0 = #[.null] ∧ Z.Warmed39 U0.vm ∧ U0.heap = h0) (fun _ _ _ _ _ => True) (fun _ U0 o0 U1 => ∃ v0 L0, o0 = .returned v0 ∧ own_Q_ofNull Z oe h0 n0 v0 U1.heap L0 ∧ FrameEnd U0 o0 U1 L0 ({ frames := 0, cells := 0, slots := 0, locals := 0 } : Room).cells ({ frames := 0, cells := 0, slots := 0, locals := 0 } : Room).slots) := by
  refine MetFree.of_bodySF (plainFor_of_name own_pn_java_util_Optional) hisR ?_
  intro p e s m args below meth c s₁ Bd hml0 hP hK
  obtain ⟨rfl, hZ, hh⟩ := hP
  have hZs0 := hZ
  have hZs := hZ
  have hx := Bd.exec
  have hby := Bd.bytes
  have hby_ := hby
  have hml : c.maxLocals = 1 := hml0
  have hown : s.vm.findClass "java/util/Optional" = some m.cls := findClass_of_methodNamed Bd.named
  have hnm := (name_of_methodNamed Bd.named Bd.method).1
  have X0 : Stand p l e ({ frames := 0, cells := 0, slots := 0, locals := 0 } : Room) s m #[.null] below meth c s₁ [] 0 0 := Stand.of_body Bd
  have e0 : s₁.heap = h0 := by rw [← hh, Bd.state]; rfl
  have N0 := Fr.nil n0
  refine OwnFin.entry (own_ef_ofNull m ) (fun P' hP' => ?_)
  refine OwnFin.adv (B := s₁.setTop (mkF m 1 #[.val .null] [.null])) (fun _ k => XS.aloadN X0.here hx rfl (hb hby own_d40_0) rfl rfl k) ?_
  refine OwnFin.adv (B := s₁.setTop (mkF m 4 #[.val .null] [])) (fun _ k => XS.ifnonnullNo X0.here hx rfl (hb hby own_d40_1) rfl k) ?_
  obtain ⟨T1, X1, e1, st1⟩ := getS2 X0 hx hZ hown (host := "") (Or.inl (hw _ (List.mem_of_getElem? (i := 242) rfl))) Via.refl e0 (own_staK SE O0) (g := (mkF m 4 #[.val .null] [])) rfl (hb hby own_d40_4)
  refine OwnFin.adv (B := T1.setTop (mkF m 7 #[.val .null] [(.ref oe)])) (fun _ k => st1 _ k) ?_
  refine OwnFin.adv (B := T1.setTop (mkF m 18 #[.val .null] [(.ref oe)])) (fun _ k => XS.goto X1.here hx rfl (pc0 := 7) (pc' := 18) rfl (hb hby own_d40_7) (by decide) (by decide) k) ?_
  obtain ⟨fs, hr, hrun, hended, hW, hsame⟩ := X1.leave (v := some (.ref oe)) (fun h => by rw [Bd.returns] at h; cases h)
  refine OwnFin.leaf hP' ⟨_, _, own_retR X1 hx Bd.returns rfl rfl rfl (hb hby own_d40_18) hr, hrun, hended, _, _, rfl, ?_, ⟨_, rfl⟩, hW, hsame.mono (by decide) (by decide)⟩
  exact ⟨rfl, N0, e1⟩
theorem own_d39_0 : decode prog_50_method_5_code 0 = .ok (.aload_n 0, 1) := by decide +kernel
theorem own_d39_1 : decode prog_50_method_5_code 1 = .ok (.getfield 13, 3) := by decide +kernel
theorem own_pd_x28Ljavax2flangx2fObjectx3bx29Ljavax2futilx2fOptionalx3b : parseMethodDescriptor "(Ljava/lang/Object;)Ljava/util/Optional;" = some ⟨[(.object "java/lang/Object")], some (.object "java/util/Optional")⟩ := by decide +kernel
theorem own_d39_4 : decode prog_50_method_5_code 4 = .ok (.invokestatic 52, 3) := by decide +kernel
theorem own_d39_7 : decode prog_50_method_5_code 7 = .ok (.areturn, 1) := by decide +kernel
theorem own_ef_allow (m : MethodId) (x0 : Addr) : entryFrame m #[(.ref x0)] 1 = mkF m 0 #[.val (.ref x0)] [] := by first | (simp [entryFrame, mkF, argsToLocals, Value.category]; done) | rfl
def own_Q_allow (Z : State) (ob oe : Addr) (h0 : Heap) (n0 : Nat) (v : Option Value) (h : Heap) (L : List Loc) : Prop := v = some (.ref oe) ∧ Fr n0 L ∧ h = h0
set_option maxRecDepth 65536 in
set_option maxHeartbeats 40000000 in
theorem own_allow (l : Launch) (Z : State) (a0 : Array Value) (hw : ∀ d ∈ tables_1, d.before a0 Z = true) (ws : List Jvm.Cond) (ob oe : Addr) (h0 : Heap) (n0 : Nat) (Z0 : n0 ≤ h0.size) (O0 : Old Z n0 h0) (SE : Sta Z Z.heap "java/util/Optional" "EMPTY" "Ljava/util/Optional;" (.ref oe)) (F : Fld Z h0 ob "com/example/rollbook/rollbook/http/ApiException" "allow" "Ljava/lang/String;" .null) :
    MetFree l (⟨"com/example/rollbook/rollbook/http/ApiException", "allow", "()Ljava/util/Optional;"⟩ : MethodName) (head1 (Jvm.Cond.code (⟨"com/example/rollbook/rollbook/http/ApiException", "allow", "()Ljava/util/Optional;"⟩ : MethodName) prog_50_method_5_code 1 (some (.object "java/util/Optional")) :: ws) ({ frames := 1, cells := 0, slots := 0, locals := 12 } : Room)) (fun A0 U0 => A0 = #[(.ref ob)] ∧ Z.Warmed39 U0.vm ∧ U0.heap = h0) (fun _ _ _ _ _ => True) (fun _ U0 o0 U1 => ∃ v0 L0, o0 = .returned v0 ∧ own_Q_allow Z ob oe h0 n0 v0 U1.heap L0 ∧ FrameEnd U0 o0 U1 L0 ({ frames := 1, cells := 0, slots := 0, locals := 12 } : Room).cells ({ frames := 1, cells := 0, slots := 0, locals := 12 } : Room).slots) := by
  refine MetFree.of_bodySF (plainFor_of_name own_pn_com_example_rollbook_rollbook_http_ApiException) hisR ?_
  intro p e s m args below meth c s₁ Bd hml0 hP hK
  obtain ⟨rfl, hZ, hh⟩ := hP
  have hZs0 := hZ
  have hZs := hZ
  have hx := Bd.exec
  have hby := Bd.bytes
  have hby_ := hby
  have hml : c.maxLocals = 1 := hml0
  have hown : s.vm.findClass "com/example/rollbook/rollbook/http/ApiException" = some m.cls := findClass_of_methodNamed Bd.named
  have hnm := (name_of_methodNamed Bd.named Bd.method).1
  have X0 : Stand p l e ({ frames := 1, cells := 0, slots := 0, locals := 12 } : Room) s m #[(.ref ob)] below meth c s₁ [] 0 0 := Stand.of_body Bd
  have e0 : s₁.heap = h0 := by rw [← hh, Bd.state]; rfl
  have N0 := Fr.nil n0
  refine OwnFin.entry (own_ef_allow m ob) (fun P' hP' => ?_)
  refine OwnFin.adv (B := s₁.setTop (mkF m 1 #[.val (.ref ob)] [(.ref ob)])) (fun _ k => XS.aloadN X0.here hx rfl (hb hby own_d39_0) rfl rfl k) ?_
  obtain ⟨T1, X1, e1, st1⟩ := getF X0 hx hZ hown (host := "") (Or.inl (hw _ (List.mem_of_getElem? (i := 226) rfl))) Via.refl e0 F (g := (mkF m 1 #[.val (.ref ob)] [(.ref ob)])) rfl rfl (hb hby own_d39_1)
  refine OwnFin.adv (B := T1.setTop (mkF m 4 #[.val (.ref ob)] [.null])) (fun _ k => st1 _ k) ?_
  obtain ⟨_, _, ⟨T2, L2, k2, n2⟩, -, X2, ⟨Lc2, hQ2, l2, y2, z2⟩, st2⟩ := Jvm.LawKit.callS X1 hx (y := (⟨"java/util/Optional", "ofNullable", "(Ljava/lang/Object;)Ljava/util/Optional;"⟩ : MethodName)) hown (mvT hZ (hw _ (List.mem_of_getElem? (i := 238) rfl))) (mvT hZ (hw _ (List.mem_of_getElem? (i := 239) rfl))) (mvT hZ (hw _ (List.mem_of_getElem? (i := 240) rfl))) (mvT hZ (hw _ (List.mem_of_getElem? (i := 241) rfl))) (by decide) (backOf (W := 0) (own_ofNull l Z a0 hw [] oe h0 n0 (by omega) O0 SE) hZ (hw _ (List.mem_of_getElem? (i := 241) rfl)) (hw _ (List.mem_of_getElem? (i := 240) rfl)) (by decide) (by decide)) (g := (mkF m 4 #[.val (.ref ob)] [.null])) rfl (by rw [hml]; rfl) (argsL := [.null]) (rest := []) (lenOf own_pd_x28Ljavax2flangx2fObjectx3bx29Ljavax2futilx2fOptionalx3b rfl) rfl (by show 2 * 0 + _ ≤ _; exact Nat.le_of_eq rfl) (hb hby own_d39_4) (fun _ _ => ⟨rfl, e1, (by decide : 0 + 0 ≤ _), (by decide : 0 + 0 ≤ _)⟩)
  dsimp only [Pt.U, Pt.locs, Pt.cells, Pt.slots] at X2 l2 y2 z2 st2 hQ2
  subst l2 y2 z2
  obtain ⟨rfl, N2q, eh2⟩ := hQ2
  have N2 := Fr.app N0 N2q
  refine OwnFin.adv (B := T2.setTop (mkF m 7 #[.val (.ref ob)] [(.ref oe)])) (fun _ k => st2 _ k) ?_
  obtain ⟨fs, hr, hrun, hended, hW, hsame⟩ := X2.leave (v := some (.ref oe)) (fun h => by rw [Bd.returns] at h; cases h)
  refine OwnFin.leaf hP' ⟨_, _, own_retR X2 hx Bd.returns rfl rfl rfl (hb hby own_d39_7) hr, hrun, hended, _, _, rfl, ?_, ⟨_, rfl⟩, hW, hsame.mono (by decide) (by decide)⟩
  exact ⟨rfl, N2, eh2⟩
theorem own_d41_0 : decode jdk_32_method_6_code 0 = .ok (.aload_n 0, 1) := by decide +kernel
theorem own_d41_1 : decode jdk_32_method_6_code 1 = .ok (.getfield 13, 3) := by decide +kernel
theorem own_d41_4 : decode jdk_32_method_6_code 4 = .ok (.ifnull 7, 3) := by decide +kernel
theorem own_d41_11 : decode jdk_32_method_6_code 11 = .ok (.iconst 0, 1) := by decide +kernel
theorem own_d41_12 : decode jdk_32_method_6_code 12 = .ok (.ireturn, 1) := by decide +kernel
theorem own_ef_isPres (m : MethodId) (x0 : Addr) : entryFrame m #[(.ref x0)] 1 = mkF m 0 #[.val (.ref x0)] [] := by first | (simp [entryFrame, mkF, argsToLocals, Value.category]; done) | rfl
def own_Q_isPres (Z : State) (oe : Addr) (h0 : Heap) (n0 : Nat) (v : Option Value) (h : Heap) (L : List Loc) : Prop := v = some (.int (0 : Int32)) ∧ Fr n0 L ∧ h = h0
set_option maxRecDepth 65536 in
set_option maxHeartbeats 40000000 in
theorem own_isPres (l : Launch) (Z : State) (a0 : Array Value) (hw : ∀ d ∈ tables_1, d.before a0 Z = true) (ws : List Jvm.Cond) (oe : Addr) (h0 : Heap) (n0 : Nat) (Z0 : n0 ≤ h0.size) (F : Fld Z h0 oe "java/util/Optional" "value" "Ljava/lang/Object;" .null) :
    MetFree l (⟨"java/util/Optional", "isPresent", "()Z"⟩ : MethodName) (head1 (Jvm.Cond.code (⟨"java/util/Optional", "isPresent", "()Z"⟩ : MethodName) jdk_32_method_6_code 1 (some .boolean) :: ws) ({ frames := 0, cells := 0, slots := 0, locals := 0 } : Room)) (fun A0 U0 => A0 = #[(.ref oe)] ∧ Z.Warmed39 U0.vm ∧ U0.heap = h0) (fun _ _ _ _ _ => True) (fun _ U0 o0 U1 => ∃ v0 L0, o0 = .returned v0 ∧ own_Q_isPres Z oe h0 n0 v0 U1.heap L0 ∧ FrameEnd U0 o0 U1 L0 ({ frames := 0, cells := 0, slots := 0, locals := 0 } : Room).cells ({ frames := 0, cells := 0, slots := 0, locals := 0 } : Room).slots) := by
  refine MetFree.of_bodySF (plainFor_of_name own_pn_java_util_Optional) hisR ?_
  intro p e s m args below meth c s₁ Bd hml0 hP hK
  obtain ⟨rfl, hZ, hh⟩ := hP
  have hZs0 := hZ
  have hZs := hZ
  have hx := Bd.exec
  have hby := Bd.bytes
  have hby_ := hby
  have hml : c.maxLocals = 1 := hml0
  have hown : s.vm.findClass "java/util/Optional" = some m.cls := findClass_of_methodNamed Bd.named
  have hnm := (name_of_methodNamed Bd.named Bd.method).1
  have X0 : Stand p l e ({ frames := 0, cells := 0, slots := 0, locals := 0 } : Room) s m #[(.ref oe)] below meth c s₁ [] 0 0 := Stand.of_body Bd
  have e0 : s₁.heap = h0 := by rw [← hh, Bd.state]; rfl
  have N0 := Fr.nil n0
  refine OwnFin.entry (own_ef_isPres m oe) (fun P' hP' => ?_)
  refine OwnFin.adv (B := s₁.setTop (mkF m 1 #[.val (.ref oe)] [(.ref oe)])) (fun _ k => XS.aloadN X0.here hx rfl (hb hby own_d41_0) rfl rfl k) ?_
  obtain ⟨T1, X1, e1, st1⟩ := getF X0 hx hZ hown (host := "") (Or.inl (hw _ (List.mem_of_getElem? (i := 248) rfl))) Via.refl e0 F (g := (mkF m 1 #[.val (.ref oe)] [(.ref oe)])) rfl rfl (hb hby own_d41_1)
  refine OwnFin.adv (B := T1.setTop (mkF m 4 #[.val (.ref oe)] [.null])) (fun _ k => st1 _ k) ?_
  refine OwnFin.adv (B := T1.setTop (mkF m 11 #[.val (.ref oe)] [])) (fun _ k => XS.ifnullYes X1.here hx rfl (pc0 := 4) (pc' := 11) rfl (hb hby own_d41_4) rfl (by decide) (by decide) k) ?_
  refine OwnFin.adv (B := T1.setTop (mkF m 12 #[.val (.ref oe)] [(.int (0 : Int32))])) (fun _ k => XS.iconst X1.here hx rfl (hb hby own_d41_11) k) ?_
  obtain ⟨fs, hr, hrun, hended, hW, hsame⟩ := X1.leave (v := some (.int (0 : Int32))) (fun h => by rw [Bd.returns] at h; cases h)
  refine OwnFin.leaf hP' ⟨_, _, retN X1 hx (t := .boolean) Bd.returns (by simp) (hb hby own_d41_12) hr, hrun, hended, _, _, rfl, ?_, ⟨_, rfl⟩, hW, hsame.mono (by decide) (by decide)⟩
  exact ⟨rfl, N0, e1⟩
theorem own_d42_0 : decode jdk_78_method_6_code 0 = .ok (.aload_n 0, 1) := by decide +kernel
theorem own_d42_1 : decode jdk_78_method_6_code 1 = .ok (.getfield 31, 3) := by decide +kernel
theorem own_d42_4 : decode jdk_78_method_6_code 4 = .ok (.areturn, 1) := by decide +kernel
theorem own_ef_getMsg (m : MethodId) (x0 : Addr) : entryFrame m #[(.ref x0)] 1 = mkF m 0 #[.val (.ref x0)] [] := by first | (simp [entryFrame, mkF, argsToLocals, Value.category]; done) | rfl
def own_Q_getMsg (Z : State) (ob mo : Addr) (h0 : Heap) (n0 : Nat) (v : Option Value) (h : Heap) (L : List Loc) : Prop := v = some (.ref mo) ∧ Fr n0 L ∧ h = h0
set_option maxRecDepth 65536 in
set_option maxHeartbeats 40000000 in
theorem own_getMsg (l : Launch) (Z : State) (a0 : Array Value) (hw : ∀ d ∈ tables_1, d.before a0 Z = true) (ws : List Jvm.Cond) (ob mo : Addr) (h0 : Heap) (n0 : Nat) (Z0 : n0 ≤ h0.size) (F : Fld Z h0 ob "java/lang/Throwable" "detailMessage" "Ljava/lang/String;" (.ref mo)) :
    MetFree l (⟨"java/lang/Throwable", "getMessage", "()Ljava/lang/String;"⟩ : MethodName) (head1 (Jvm.Cond.code (⟨"java/lang/Throwable", "getMessage", "()Ljava/lang/String;"⟩ : MethodName) jdk_78_method_6_code 1 (some (.object "java/lang/String")) :: ws) ({ frames := 0, cells := 0, slots := 0, locals := 0 } : Room)) (fun A0 U0 => A0 = #[(.ref ob)] ∧ Z.Warmed39 U0.vm ∧ U0.heap = h0) (fun _ _ _ _ _ => True) (fun _ U0 o0 U1 => ∃ v0 L0, o0 = .returned v0 ∧ own_Q_getMsg Z ob mo h0 n0 v0 U1.heap L0 ∧ FrameEnd U0 o0 U1 L0 ({ frames := 0, cells := 0, slots := 0, locals := 0 } : Room).cells ({ frames := 0, cells := 0, slots := 0, locals := 0 } : Room).slots) := by
  refine MetFree.of_bodySF (plainFor_of_name own_pn_java_lang_Throwable) hisR ?_
  intro p e s m args below meth c s₁ Bd hml0 hP hK
  obtain ⟨rfl, hZ, hh⟩ := hP
  have hZs0 := hZ
  have hZs := hZ
  have hx := Bd.exec
  have hby := Bd.bytes
  have hby_ := hby
  have hml : c.maxLocals = 1 := hml0
  have hown : s.vm.findClass "java/lang/Throwable" = some m.cls := findClass_of_methodNamed Bd.named
  have hnm := (name_of_methodNamed Bd.named Bd.method).1
  have X0 : Stand p l e ({ frames := 0, cells := 0, slots := 0, locals := 0 } : Room) s m #[(.ref ob)] below meth c s₁ [] 0 0 := Stand.of_body Bd
  have e0 : s₁.heap = h0 := by rw [← hh, Bd.state]; rfl
  have N0 := Fr.nil n0
  refine OwnFin.entry (own_ef_getMsg m ob) (fun P' hP' => ?_)
  refine OwnFin.adv (B := s₁.setTop (mkF m 1 #[.val (.ref ob)] [(.ref ob)])) (fun _ k => XS.aloadN X0.here hx rfl (hb hby own_d42_0) rfl rfl k) ?_
  obtain ⟨T1, X1, e1, st1⟩ := getF X0 hx hZ hown (host := "") (Or.inl (hw _ (List.mem_of_getElem? (i := 223) rfl))) Via.refl e0 F (g := (mkF m 1 #[.val (.ref ob)] [(.ref ob)])) rfl rfl (hb hby own_d42_1)
  refine OwnFin.adv (B := T1.setTop (mkF m 4 #[.val (.ref ob)] [(.ref mo)])) (fun _ k => st1 _ k) ?_
  obtain ⟨fs, hr, hrun, hended, hW, hsame⟩ := X1.leave (v := some (.ref mo)) (fun h => by rw [Bd.returns] at h; cases h)
  refine OwnFin.leaf hP' ⟨_, _, own_retR X1 hx Bd.returns rfl rfl rfl (hb hby own_d42_4) hr, hrun, hended, _, _, rfl, ?_, ⟨_, rfl⟩, hW, hsame.mono (by decide) (by decide)⟩
  exact ⟨rfl, N0, e1⟩
theorem own_d43_0 : decode method_3_code 0 = .ok (.lload_n 0, 1) := by decide +kernel
theorem own_d43_1 : decode method_3_code 1 = .ok (.ldc2_w 58, 3) := by decide +kernel
theorem own_d43_4 : decode method_3_code 4 = .ok (.lcmp, 1) := by decide +kernel
theorem own_d43_5 : decode method_3_code 5 = .ok (.ifCond .ge 5, 3) := by decide +kernel
theorem own_d43_8 : decode method_3_code 8 = .ok (.iconst 1, 1) := by decide +kernel
theorem own_d43_9 : decode method_3_code 9 = .ok (.ireturn, 1) := by decide +kernel
theorem own_d43_10 : decode method_3_code 10 = .ok (.lload_n 0, 1) := by decide +kernel
theorem own_d43_11 : decode method_3_code 11 = .ok (.ldc2_w 60, 3) := by decide +kernel
theorem own_d43_14 : decode method_3_code 14 = .ok (.lcmp, 1) := by decide +kernel
theorem own_d43_15 : decode method_3_code 15 = .ok (.ifCond .ge 5, 3) := by decide +kernel
theorem own_d43_18 : decode method_3_code 18 = .ok (.iconst 2, 1) := by decide +kernel
theorem own_d43_19 : decode method_3_code 19 = .ok (.ireturn, 1) := by decide +kernel
theorem own_d43_20 : decode method_3_code 20 = .ok (.lload_n 0, 1) := by decide +kernel
theorem own_d43_21 : decode method_3_code 21 = .ok (.ldc2_w 62, 3) := by decide +kernel
theorem own_d43_24 : decode method_3_code 24 = .ok (.lcmp, 1) := by decide +kernel
theorem own_d43_25 : decode method_3_code 25 = .ok (.ifCond .ge 5, 3) := by decide +kernel
theorem own_d43_28 : decode method_3_code 28 = .ok (.iconst 3, 1) := by decide +kernel
theorem own_d43_29 : decode method_3_code 29 = .ok (.ireturn, 1) := by decide +kernel
theorem own_d43_30 : decode method_3_code 30 = .ok (.lload_n 0, 1) := by decide +kernel
theorem own_d43_31 : decode method_3_code 31 = .ok (.ldc2_w 64, 3) := by decide +kernel
theorem own_d43_34 : decode method_3_code 34 = .ok (.lcmp, 1) := by decide +kernel
theorem own_d43_35 : decode method_3_code 35 = .ok (.ifCond .ge 5, 3) := by decide +kernel
theorem own_d43_38 : decode method_3_code 38 = .ok (.iconst 4, 1) := by decide +kernel
theorem own_d43_39 : decode method_3_code 39 = .ok (.ireturn, 1) := by decide +kernel
theorem own_d43_40 : decode method_3_code 40 = .ok (.lload_n 0, 1) := by decide +kernel
theorem own_d43_41 : decode method_3_code 41 = .ok (.ldc2_w 66, 3) := by decide +kernel
theorem own_d43_44 : decode method_3_code 44 = .ok (.lcmp, 1) := by decide +kernel
theorem own_d43_45 : decode method_3_code 45 = .ok (.ifCond .ge 5, 3) := by decide +kernel
theorem own_d43_48 : decode method_3_code 48 = .ok (.iconst 5, 1) := by decide +kernel
theorem own_d43_49 : decode method_3_code 49 = .ok (.ireturn, 1) := by decide +kernel
theorem own_d43_50 : decode method_3_code 50 = .ok (.lload_n 0, 1) := by decide +kernel
theorem own_d43_51 : decode method_3_code 51 = .ok (.ldc2_w 68, 3) := by decide +kernel
theorem own_d43_54 : decode method_3_code 54 = .ok (.lcmp, 1) := by decide +kernel
theorem own_d43_55 : decode method_3_code 55 = .ok (.ifCond .ge 6, 3) := by decide +kernel
theorem own_d43_58 : decode method_3_code 58 = .ok (.bipush 6, 2) := by decide +kernel
theorem own_d43_60 : decode method_3_code 60 = .ok (.ireturn, 1) := by decide +kernel
theorem own_d43_61 : decode method_3_code 61 = .ok (.lload_n 0, 1) := by decide +kernel
theorem own_d43_62 : decode method_3_code 62 = .ok (.ldc2_w 70, 3) := by decide +kernel
theorem own_d43_65 : decode method_3_code 65 = .ok (.lcmp, 1) := by decide +kernel
theorem own_d43_66 : decode method_3_code 66 = .ok (.ifCond .ge 6, 3) := by decide +kernel
theorem own_d43_69 : decode method_3_code 69 = .ok (.bipush 7, 2) := by decide +kernel
theorem own_d43_71 : decode method_3_code 71 = .ok (.ireturn, 1) := by decide +kernel
theorem own_d43_72 : decode method_3_code 72 = .ok (.lload_n 0, 1) := by decide +kernel
theorem own_d43_73 : decode method_3_code 73 = .ok (.ldc2_w 72, 3) := by decide +kernel
theorem own_d43_76 : decode method_3_code 76 = .ok (.lcmp, 1) := by decide +kernel
theorem own_d43_77 : decode method_3_code 77 = .ok (.ifCond .ge 6, 3) := by decide +kernel
theorem own_d43_80 : decode method_3_code 80 = .ok (.bipush 8, 2) := by decide +kernel
theorem own_d43_82 : decode method_3_code 82 = .ok (.ireturn, 1) := by decide +kernel
theorem own_d43_83 : decode method_3_code 83 = .ok (.lload_n 0, 1) := by decide +kernel
theorem own_d43_84 : decode method_3_code 84 = .ok (.ldc2_w 74, 3) := by decide +kernel
theorem own_d43_87 : decode method_3_code 87 = .ok (.lcmp, 1) := by decide +kernel
theorem own_d43_88 : decode method_3_code 88 = .ok (.ifCond .ge 6, 3) := by decide +kernel
theorem own_d43_91 : decode method_3_code 91 = .ok (.bipush 9, 2) := by decide +kernel
theorem own_d43_93 : decode method_3_code 93 = .ok (.ireturn, 1) := by decide +kernel
theorem own_d43_94 : decode method_3_code 94 = .ok (.bipush 10, 2) := by decide +kernel
theorem own_d43_96 : decode method_3_code 96 = .ok (.ireturn, 1) := by decide +kernel
theorem own_ef_digits (m : MethodId) (x0 : Int64) : entryFrame m #[(.long x0)] 2 = mkF m 0 #[.val (.long x0), .second] [] := by first | (simp [entryFrame, mkF, argsToLocals, Value.category]; done) | rfl
theorem own_pn_com_example_rollbook_rollbook_http_ApiExceptionBodyTooLargePinLaw : plainName "com/example/rollbook/rollbook/http/ApiExceptionBodyTooLargePinLaw" = true := by first | (simp [plainName, overriddenIn]; done) | decide +kernel
def own_Q_digits (Z : State) (nn : Nat) (h0 : Heap) (n0 : Nat) (v : Option Value) (h : Heap) (L : List Loc) : Prop := v = some (.int (Int32.ofNat (Jvm.Free.SBG.digits nn))) ∧ Fr n0 L ∧ h = h0
set_option maxRecDepth 65536 in
set_option maxHeartbeats 40000000 in
theorem own_digits (l : Launch) (Z : State) (a0 : Array Value) (hw : ∀ d ∈ tables_1, d.before a0 Z = true) (ws : List Jvm.Cond) (nn : Nat) (h0 : Heap) (n0 : Nat) (Z0 : n0 ≤ h0.size) (hnn : nn ≤ 2 ^ 31) :
    MetFree l (⟨"com/example/rollbook/rollbook/http/ApiExceptionBodyTooLargePinLaw", "digits", "(J)I"⟩ : MethodName) (head1 (Jvm.Cond.code (⟨"com/example/rollbook/rollbook/http/ApiExceptionBodyTooLargePinLaw", "digits", "(J)I"⟩ : MethodName) method_3_code 2 (some .int) :: ws) ({ frames := 0, cells := 0, slots := 0, locals := 0 } : Room)) (fun A0 U0 => A0 = #[(.long (Int64.ofNat nn))] ∧ Z.Warmed39 U0.vm ∧ U0.heap = h0) (fun _ _ _ _ _ => True) (fun _ U0 o0 U1 => ∃ v0 L0, o0 = .returned v0 ∧ own_Q_digits Z nn h0 n0 v0 U1.heap L0 ∧ FrameEnd U0 o0 U1 L0 ({ frames := 0, cells := 0, slots := 0, locals := 0 } : Room).cells ({ frames := 0, cells := 0, slots := 0, locals := 0 } : Room).slots) := by
  refine MetFree.of_bodySF (plainFor_of_name own_pn_com_example_rollbook_rollbook_http_ApiExceptionBodyTooLargePinLaw) hisR ?_
  intro p e s m args below meth c s₁ Bd hml0 hP hK
  obtain ⟨rfl, hZ, hh⟩ := hP
  have hZs0 := hZ
  have hZs := hZ
  have hx := Bd.exec
  have hby := Bd.bytes
  have hby_ := hby
  have hml : c.maxLocals = 2 := hml0
  have hown : s.vm.findClass "com/example/rollbook/rollbook/http/ApiExceptionBodyTooLargePinLaw" = some m.cls := findClass_of_methodNamed Bd.named
  have hnm := (name_of_methodNamed Bd.named Bd.method).1
  have X0 : Stand p l e ({ frames := 0, cells := 0, slots := 0, locals := 0 } : Room) s m #[(.long (Int64.ofNat nn))] below meth c s₁ [] 0 0 := Stand.of_body Bd
  have e0 : s₁.heap = h0 := by rw [← hh, Bd.state]; rfl
  have N0 := Fr.nil n0
  refine OwnFin.entry (own_ef_digits m (Int64.ofNat nn)) (fun P' hP' => ?_)
  refine OwnFin.adv (B := s₁.setTop (mkF m 1 #[.val (.long (Int64.ofNat nn)), .second] [(.long (Int64.ofNat nn))])) (fun _ k => XS.lloadN X0.here hx rfl (hb hby own_d43_0) rfl k) ?_
  refine OwnFin.adv (B := s₁.setTop (mkF m 4 #[.val (.long (Int64.ofNat nn)), .second] [(.long (10 : Int64)), (.long (Int64.ofNat nn))])) (fun _ k => X0.ldc2Long hx hown (mvT hZ (hw _ (List.mem_of_getElem? (i := 260) rfl))) (g := (mkF m 1 #[.val (.long (Int64.ofNat nn)), .second] [(.long (Int64.ofNat nn))])) rfl (hb hby own_d43_1) _ k) ?_
  refine OwnFin.adv (B := s₁.setTop (mkF m 5 #[.val (.long (Int64.ofNat nn)), .second] [(.int (lcmpW (Int64.ofNat nn) (10 : Int64)))])) (fun _ k => XS.lcmp X0.here hx rfl (hb hby own_d43_4) rfl k) ?_
  by_cases hc5 : (lcmpW (Int64.ofNat nn) (10 : Int64)) < (0 : Int32)
  ·
    refine OwnFin.adv (B := s₁.setTop (mkF m 8 #[.val (.long (Int64.ofNat nn)), .second] [])) (fun _ k => XS.ifNo X0.here hx rfl (hb hby own_d43_5) rfl ((if0 _ _).trans (tlt hc5).2.1) k) ?_
    refine OwnFin.adv (B := s₁.setTop (mkF m 9 #[.val (.long (Int64.ofNat nn)), .second] [(.int (1 : Int32))])) (fun _ k => XS.iconst X0.here hx rfl (hb hby own_d43_8) k) ?_
    obtain ⟨fs, hr, hrun, hended, hW, hsame⟩ := X0.leave (v := some (.int (1 : Int32))) (fun h => by rw [Bd.returns] at h; cases h)
    refine OwnFin.leaf hP' ⟨_, _, own_retI X0 hx Bd.returns (hb hby own_d43_9) hr, hrun, hended, _, _, rfl, ?_, ⟨_, rfl⟩, hW, hsame.mono (by decide) (by decide)⟩
    have g5_ : nn < 10 := (own_lc (d := 10) hnn (by decide)).mp hc5
    have hdg : Jvm.Free.SBG.digits nn = 1 := by
      unfold Jvm.Free.SBG.digits
      (repeat' split) <;> omega
    exact ⟨by rw [hdg]; rfl, N0, e0⟩
  ·
    refine OwnFin.adv (B := s₁.setTop (mkF m 10 #[.val (.long (Int64.ofNat nn)), .second] [])) (fun _ k => XS.ifYes X0.here hx rfl (pc0 := 5) (pc' := 10) rfl (hb hby own_d43_5) rfl ((if0 _ _).trans (flt hc5).2.1) (by decide) (by decide) k) ?_
    refine OwnFin.adv (B := s₁.setTop (mkF m 11 #[.val (.long (Int64.ofNat nn)), .second] [(.long (Int64.ofNat nn))])) (fun _ k => XS.lloadN X0.here hx rfl (hb hby own_d43_10) rfl k) ?_
    refine OwnFin.adv (B := s₁.setTop (mkF m 14 #[.val (.long (Int64.ofNat nn)), .second] [(.long (100 : Int64)), (.long (Int64.ofNat nn))])) (fun _ k => X0.ldc2Long hx hown (mvT hZ (hw _ (List.mem_of_getElem? (i := 295) rfl))) (g := (mkF m 11 #[.val (.long (Int64.ofNat nn)), .second] [(.long (Int64.ofNat nn))])) rfl (hb hby own_d43_11) _ k) ?_
    refine OwnFin.adv (B := s₁.setTop (mkF m 15 #[.val (.long (Int64.ofNat nn)), .second] [(.int (lcmpW (Int64.ofNat nn) (100 : Int64)))])) (fun _ k => XS.lcmp X0.here hx rfl (hb hby own_d43_14) rfl k) ?_
    by_cases hc15 : (lcmpW (Int64.ofNat nn) (100 : Int64)) < (0 : Int32)
    ·
      refine OwnFin.adv (B := s₁.setTop (mkF m 18 #[.val (.long (Int64.ofNat nn)), .second] [])) (fun _ k => XS.ifNo X0.here hx rfl (hb hby own_d43_15) rfl ((if0 _ _).trans (tlt hc15).2.1) k) ?_
      refine OwnFin.adv (B := s₁.setTop (mkF m 19 #[.val (.long (Int64.ofNat nn)), .second] [(.int (2 : Int32))])) (fun _ k => XS.iconst X0.here hx rfl (hb hby own_d43_18) k) ?_
      obtain ⟨fs, hr, hrun, hended, hW, hsame⟩ := X0.leave (v := some (.int (2 : Int32))) (fun h => by rw [Bd.returns] at h; cases h)
      refine OwnFin.leaf hP' ⟨_, _, own_retI X0 hx Bd.returns (hb hby own_d43_19) hr, hrun, hended, _, _, rfl, ?_, ⟨_, rfl⟩, hW, hsame.mono (by decide) (by decide)⟩
      have g5_ : ¬ nn < 10 := fun q => hc5 ((own_lc (d := 10) hnn (by decide)).mpr q)
      have g15_ : nn < 100 := (own_lc (d := 100) hnn (by decide)).mp hc15
      have hdg : Jvm.Free.SBG.digits nn = 2 := by
        unfold Jvm.Free.SBG.digits
        (repeat' split) <;> omega
      exact ⟨by rw [hdg]; rfl, N0, e0⟩
    ·
      refine OwnFin.adv (B := s₁.setTop (mkF m 20 #[.val (.long (Int64.ofNat nn)), .second] [])) (fun _ k => XS.ifYes X0.here hx rfl (pc0 := 15) (pc' := 20) rfl (hb hby own_d43_15) rfl ((if0 _ _).trans (flt hc15).2.1) (by decide) (by decide) k) ?_
      refine OwnFin.adv (B := s₁.setTop (mkF m 21 #[.val (.long (Int64.ofNat nn)), .second] [(.long (Int64.ofNat nn))])) (fun _ k => XS.lloadN X0.here hx rfl (hb hby own_d43_20) rfl k) ?_
      refine OwnFin.adv (B := s₁.setTop (mkF m 24 #[.val (.long (Int64.ofNat nn)), .second] [(.long (1000 : Int64)), (.long (Int64.ofNat nn))])) (fun _ k => X0.ldc2Long hx hown (mvT hZ (hw _ (List.mem_of_getElem? (i := 296) rfl))) (g := (mkF m 21 #[.val (.long (Int64.ofNat nn)), .second] [(.long (Int64.ofNat nn))])) rfl (hb hby own_d43_21) _ k) ?_
      refine OwnFin.adv (B := s₁.setTop (mkF m 25 #[.val (.long (Int64.ofNat nn)), .second] [(.int (lcmpW (Int64.ofNat nn) (1000 : Int64)))])) (fun _ k => XS.lcmp X0.here hx rfl (hb hby own_d43_24) rfl k) ?_
      by_cases hc25 : (lcmpW (Int64.ofNat nn) (1000 : Int64)) < (0 : Int32)
      ·
        refine OwnFin.adv (B := s₁.setTop (mkF m 28 #[.val (.long (Int64.ofNat nn)), .second] [])) (fun _ k => XS.ifNo X0.here hx rfl (hb hby own_d43_25) rfl ((if0 _ _).trans (tlt hc25).2.1) k) ?_
        refine OwnFin.adv (B := s₁.setTop (mkF m 29 #[.val (.long (Int64.ofNat nn)), .second] [(.int (3 : Int32))])) (fun _ k => XS.iconst X0.here hx rfl (hb hby own_d43_28) k) ?_
        obtain ⟨fs, hr, hrun, hended, hW, hsame⟩ := X0.leave (v := some (.int (3 : Int32))) (fun h => by rw [Bd.returns] at h; cases h)
        refine OwnFin.leaf hP' ⟨_, _, own_retI X0 hx Bd.returns (hb hby own_d43_29) hr, hrun, hended, _, _, rfl, ?_, ⟨_, rfl⟩, hW, hsame.mono (by decide) (by decide)⟩
        have g5_ : ¬ nn < 10 := fun q => hc5 ((own_lc (d := 10) hnn (by decide)).mpr q)
        have g15_ : ¬ nn < 100 := fun q => hc15 ((own_lc (d := 100) hnn (by decide)).mpr q)
        have g25_ : nn < 1000 := (own_lc (d := 1000) hnn (by decide)).mp hc25
        have hdg : Jvm.Free.SBG.digits nn = 3 := by
          unfold Jvm.Free.SBG.digits
          (repeat' split) <;> omega
        exact ⟨by rw [hdg]; rfl, N0, e0⟩
      ·
        refine OwnFin.adv (B := s₁.setTop (mkF m 30 #[.val (.long (Int64.ofNat nn)), .second] [])) (fun _ k => XS.ifYes X0.here hx rfl (pc0 := 25) (pc' := 30) rfl (hb hby own_d43_25) rfl ((if0 _ _).trans (flt hc25).2.1) (by decide) (by decide) k) ?_
        refine OwnFin.adv (B := s₁.setTop (mkF m 31 #[.val (.long (Int64.ofNat nn)), .second] [(.long (Int64.ofNat nn))])) (fun _ k => XS.lloadN X0.here hx rfl (hb hby own_d43_30) rfl k) ?_
        refine OwnFin.adv (B := s₁.setTop (mkF m 34 #[.val (.long (Int64.ofNat nn)), .second] [(.long (10000 : Int64)), (.long (Int64.ofNat nn))])) (fun _ k => X0.ldc2Long hx hown (mvT hZ (hw _ (List.mem_of_getElem? (i := 297) rfl))) (g := (mkF m 31 #[.val (.long (Int64.ofNat nn)), .second] [(.long (Int64.ofNat nn))])) rfl (hb hby own_d43_31) _ k) ?_
        refine OwnFin.adv (B := s₁.setTop (mkF m 35 #[.val (.long (Int64.ofNat nn)), .second] [(.int (lcmpW (Int64.ofNat nn) (10000 : Int64)))])) (fun _ k => XS.lcmp X0.here hx rfl (hb hby own_d43_34) rfl k) ?_
        by_cases hc35 : (lcmpW (Int64.ofNat nn) (10000 : Int64)) < (0 : Int32)
        ·
          refine OwnFin.adv (B := s₁.setTop (mkF m 38 #[.val (.long (Int64.ofNat nn)), .second] [])) (fun _ k => XS.ifNo X0.here hx rfl (hb hby own_d43_35) rfl ((if0 _ _).trans (tlt hc35).2.1) k) ?_
          refine OwnFin.adv (B := s₁.setTop (mkF m 39 #[.val (.long (Int64.ofNat nn)), .second] [(.int (4 : Int32))])) (fun _ k => XS.iconst X0.here hx rfl (hb hby own_d43_38) k) ?_
          obtain ⟨fs, hr, hrun, hended, hW, hsame⟩ := X0.leave (v := some (.int (4 : Int32))) (fun h => by rw [Bd.returns] at h; cases h)
          refine OwnFin.leaf hP' ⟨_, _, own_retI X0 hx Bd.returns (hb hby own_d43_39) hr, hrun, hended, _, _, rfl, ?_, ⟨_, rfl⟩, hW, hsame.mono (by decide) (by decide)⟩
          have g5_ : ¬ nn < 10 := fun q => hc5 ((own_lc (d := 10) hnn (by decide)).mpr q)
          have g15_ : ¬ nn < 100 := fun q => hc15 ((own_lc (d := 100) hnn (by decide)).mpr q)
          have g25_ : ¬ nn < 1000 := fun q => hc25 ((own_lc (d := 1000) hnn (by decide)).mpr q)
          have g35_ : nn < 10000 := (own_lc (d := 10000) hnn (by decide)).mp hc35
          have hdg : Jvm.Free.SBG.digits nn = 4 := by
            unfold Jvm.Free.SBG.digits
            (repeat' split) <;> omega
          exact ⟨by rw [hdg]; rfl, N0, e0⟩
        ·
          refine OwnFin.adv (B := s₁.setTop (mkF m 40 #[.val (.long (Int64.ofNat nn)), .second] [])) (fun _ k => XS.ifYes X0.here hx rfl (pc0 := 35) (pc' := 40) rfl (hb hby own_d43_35) rfl ((if0 _ _).trans (flt hc35).2.1) (by decide) (by decide) k) ?_
          refine OwnFin.adv (B := s₁.setTop (mkF m 41 #[.val (.long (Int64.ofNat nn)), .second] [(.long (Int64.ofNat nn))])) (fun _ k => XS.lloadN X0.here hx rfl (hb hby own_d43_40) rfl k) ?_
          refine OwnFin.adv (B := s₁.setTop (mkF m 44 #[.val (.long (Int64.ofNat nn)), .second] [(.long (100000 : Int64)), (.long (Int64.ofNat nn))])) (fun _ k => X0.ldc2Long hx hown (mvT hZ (hw _ (List.mem_of_getElem? (i := 298) rfl))) (g := (mkF m 41 #[.val (.long (Int64.ofNat nn)), .second] [(.long (Int64.ofNat nn))])) rfl (hb hby own_d43_41) _ k) ?_
          refine OwnFin.adv (B := s₁.setTop (mkF m 45 #[.val (.long (Int64.ofNat nn)), .second] [(.int (lcmpW (Int64.ofNat nn) (100000 : Int64)))])) (fun _ k => XS.lcmp X0.here hx rfl (hb hby own_d43_44) rfl k) ?_
          by_cases hc45 : (lcmpW (Int64.ofNat nn) (100000 : Int64)) < (0 : Int32)
          ·
            refine OwnFin.adv (B := s₁.setTop (mkF m 48 #[.val (.long (Int64.ofNat nn)), .second] [])) (fun _ k => XS.ifNo X0.here hx rfl (hb hby own_d43_45) rfl ((if0 _ _).trans (tlt hc45).2.1) k) ?_
            refine OwnFin.adv (B := s₁.setTop (mkF m 49 #[.val (.long (Int64.ofNat nn)), .second] [(.int (5 : Int32))])) (fun _ k => XS.iconst X0.here hx rfl (hb hby own_d43_48) k) ?_
            obtain ⟨fs, hr, hrun, hended, hW, hsame⟩ := X0.leave (v := some (.int (5 : Int32))) (fun h => by rw [Bd.returns] at h; cases h)
            refine OwnFin.leaf hP' ⟨_, _, own_retI X0 hx Bd.returns (hb hby own_d43_49) hr, hrun, hended, _, _, rfl, ?_, ⟨_, rfl⟩, hW, hsame.mono (by decide) (by decide)⟩
            have g5_ : ¬ nn < 10 := fun q => hc5 ((own_lc (d := 10) hnn (by decide)).mpr q)
            have g15_ : ¬ nn < 100 := fun q => hc15 ((own_lc (d := 100) hnn (by decide)).mpr q)
            have g25_ : ¬ nn < 1000 := fun q => hc25 ((own_lc (d := 1000) hnn (by decide)).mpr q)
            have g35_ : ¬ nn < 10000 := fun q => hc35 ((own_lc (d := 10000) hnn (by decide)).mpr q)
            have g45_ : nn < 100000 := (own_lc (d := 100000) hnn (by decide)).mp hc45
            have hdg : Jvm.Free.SBG.digits nn = 5 := by
              unfold Jvm.Free.SBG.digits
              (repeat' split) <;> omega
            exact ⟨by rw [hdg]; rfl, N0, e0⟩
          ·
            refine OwnFin.adv (B := s₁.setTop (mkF m 50 #[.val (.long (Int64.ofNat nn)), .second] [])) (fun _ k => XS.ifYes X0.here hx rfl (pc0 := 45) (pc' := 50) rfl (hb hby own_d43_45) rfl ((if0 _ _).trans (flt hc45).2.1) (by decide) (by decide) k) ?_
            refine OwnFin.adv (B := s₁.setTop (mkF m 51 #[.val (.long (Int64.ofNat nn)), .second] [(.long (Int64.ofNat nn))])) (fun _ k => XS.lloadN X0.here hx rfl (hb hby own_d43_50) rfl k) ?_
            refine OwnFin.adv (B := s₁.setTop (mkF m 54 #[.val (.long (Int64.ofNat nn)), .second] [(.long (1000000 : Int64)), (.long (Int64.ofNat nn))])) (fun _ k => X0.ldc2Long hx hown (mvT hZ (hw _ (List.mem_of_getElem? (i := 299) rfl))) (g := (mkF m 51 #[.val (.long (Int64.ofNat nn)), .second] [(.long (Int64.ofNat nn))])) rfl (hb hby own_d43_51) _ k) ?_
            refine OwnFin.adv (B := s₁.setTop (mkF m 55 #[.val (.long (Int64.ofNat nn)), .second] [(.int (lcmpW (Int64.ofNat nn) (1000000 : Int64)))])) (fun _ k => XS.lcmp X0.here hx rfl (hb hby own_d43_54) rfl k) ?_
            by_cases hc55 : (lcmpW (Int64.ofNat nn) (1000000 : Int64)) < (0 : Int32)
            ·
              refine OwnFin.adv (B := s₁.setTop (mkF m 58 #[.val (.long (Int64.ofNat nn)), .second] [])) (fun _ k => XS.ifNo X0.here hx rfl (hb hby own_d43_55) rfl ((if0 _ _).trans (tlt hc55).2.1) k) ?_
              refine OwnFin.adv (B := s₁.setTop (mkF m 60 #[.val (.long (Int64.ofNat nn)), .second] [(.int (6 : Int32))])) (fun _ k => XS.bipush X0.here hx rfl (hb hby own_d43_58) k) ?_
              obtain ⟨fs, hr, hrun, hended, hW, hsame⟩ := X0.leave (v := some (.int (6 : Int32))) (fun h => by rw [Bd.returns] at h; cases h)
              refine OwnFin.leaf hP' ⟨_, _, own_retI X0 hx Bd.returns (hb hby own_d43_60) hr, hrun, hended, _, _, rfl, ?_, ⟨_, rfl⟩, hW, hsame.mono (by decide) (by decide)⟩
              have g5_ : ¬ nn < 10 := fun q => hc5 ((own_lc (d := 10) hnn (by decide)).mpr q)
              have g15_ : ¬ nn < 100 := fun q => hc15 ((own_lc (d := 100) hnn (by decide)).mpr q)
              have g25_ : ¬ nn < 1000 := fun q => hc25 ((own_lc (d := 1000) hnn (by decide)).mpr q)
              have g35_ : ¬ nn < 10000 := fun q => hc35 ((own_lc (d := 10000) hnn (by decide)).mpr q)
              have g45_ : ¬ nn < 100000 := fun q => hc45 ((own_lc (d := 100000) hnn (by decide)).mpr q)
              have g55_ : nn < 1000000 := (own_lc (d := 1000000) hnn (by decide)).mp hc55
              have hdg : Jvm.Free.SBG.digits nn = 6 := by
                unfold Jvm.Free.SBG.digits
                (repeat' split) <;> omega
              exact ⟨by rw [hdg]; rfl, N0, e0⟩
            ·
              refine OwnFin.adv (B := s₁.setTop (mkF m 61 #[.val (.long (Int64.ofNat nn)), .second] [])) (fun _ k => XS.ifYes X0.here hx rfl (pc0 := 55) (pc' := 61) rfl (hb hby own_d43_55) rfl ((if0 _ _).trans (flt hc55).2.1) (by decide) (by decide) k) ?_
              refine OwnFin.adv (B := s₁.setTop (mkF m 62 #[.val (.long (Int64.ofNat nn)), .second] [(.long (Int64.ofNat nn))])) (fun _ k => XS.lloadN X0.here hx rfl (hb hby own_d43_61) rfl k) ?_
              refine OwnFin.adv (B := s₁.setTop (mkF m 65 #[.val (.long (Int64.ofNat nn)), .second] [(.long (10000000 : Int64)), (.long (Int64.ofNat nn))])) (fun _ k => X0.ldc2Long hx hown (mvT hZ (hw _ (List.mem_of_getElem? (i := 300) rfl))) (g := (mkF m 62 #[.val (.long (Int64.ofNat nn)), .second] [(.long (Int64.ofNat nn))])) rfl (hb hby own_d43_62) _ k) ?_
              refine OwnFin.adv (B := s₁.setTop (mkF m 66 #[.val (.long (Int64.ofNat nn)), .second] [(.int (lcmpW (Int64.ofNat nn) (10000000 : Int64)))])) (fun _ k => XS.lcmp X0.here hx rfl (hb hby own_d43_65) rfl k) ?_
              by_cases hc66 : (lcmpW (Int64.ofNat nn) (10000000 : Int64)) < (0 : Int32)
              ·
                refine OwnFin.adv (B := s₁.setTop (mkF m 69 #[.val (.long (Int64.ofNat nn)), .second] [])) (fun _ k => XS.ifNo X0.here hx rfl (hb hby own_d43_66) rfl ((if0 _ _).trans (tlt hc66).2.1) k) ?_
                refine OwnFin.adv (B := s₁.setTop (mkF m 71 #[.val (.long (Int64.ofNat nn)), .second] [(.int (7 : Int32))])) (fun _ k => XS.bipush X0.here hx rfl (hb hby own_d43_69) k) ?_
                obtain ⟨fs, hr, hrun, hended, hW, hsame⟩ := X0.leave (v := some (.int (7 : Int32))) (fun h => by rw [Bd.returns] at h; cases h)
                refine OwnFin.leaf hP' ⟨_, _, own_retI X0 hx Bd.returns (hb hby own_d43_71) hr, hrun, hended, _, _, rfl, ?_, ⟨_, rfl⟩, hW, hsame.mono (by decide) (by decide)⟩
                have g5_ : ¬ nn < 10 := fun q => hc5 ((own_lc (d := 10) hnn (by decide)).mpr q)
                have g15_ : ¬ nn < 100 := fun q => hc15 ((own_lc (d := 100) hnn (by decide)).mpr q)
                have g25_ : ¬ nn < 1000 := fun q => hc25 ((own_lc (d := 1000) hnn (by decide)).mpr q)
                have g35_ : ¬ nn < 10000 := fun q => hc35 ((own_lc (d := 10000) hnn (by decide)).mpr q)
                have g45_ : ¬ nn < 100000 := fun q => hc45 ((own_lc (d := 100000) hnn (by decide)).mpr q)
                have g55_ : ¬ nn < 1000000 := fun q => hc55 ((own_lc (d := 1000000) hnn (by decide)).mpr q)
                have g66_ : nn < 10000000 := (own_lc (d := 10000000) hnn (by decide)).mp hc66
                have hdg : Jvm.Free.SBG.digits nn = 7 := by
                  unfold Jvm.Free.SBG.digits
                  (repeat' split) <;> omega
                exact ⟨by rw [hdg]; rfl, N0, e0⟩
              ·
                refine OwnFin.adv (B := s₁.setTop (mkF m 72 #[.val (.long (Int64.ofNat nn)), .second] [])) (fun _ k => XS.ifYes X0.here hx rfl (pc0 := 66) (pc' := 72) rfl (hb hby own_d43_66) rfl ((if0 _ _).trans (flt hc66).2.1) (by decide) (by decide) k) ?_
                refine OwnFin.adv (B := s₁.setTop (mkF m 73 #[.val (.long (Int64.ofNat nn)), .second] [(.long (Int64.ofNat nn))])) (fun _ k => XS.lloadN X0.here hx rfl (hb hby own_d43_72) rfl k) ?_
                refine OwnFin.adv (B := s₁.setTop (mkF m 76 #[.val (.long (Int64.ofNat nn)), .second] [(.long (100000000 : Int64)), (.long (Int64.ofNat nn))])) (fun _ k => X0.ldc2Long hx hown (mvT hZ (hw _ (List.mem_of_getElem? (i := 301) rfl))) (g := (mkF m 73 #[.val (.long (Int64.ofNat nn)), .second] [(.long (Int64.ofNat nn))])) rfl (hb hby own_d43_73) _ k) ?_
                refine OwnFin.adv (B := s₁.setTop (mkF m 77 #[.val (.long (Int64.ofNat nn)), .second] [(.int (lcmpW (Int64.ofNat nn) (100000000 : Int64)))])) (fun _ k => XS.lcmp X0.here hx rfl (hb hby own_d43_76) rfl k) ?_
                by_cases hc77 : (lcmpW (Int64.ofNat nn) (100000000 : Int64)) < (0 : Int32)
                ·
                  refine OwnFin.adv (B := s₁.setTop (mkF m 80 #[.val (.long (Int64.ofNat nn)), .second] [])) (fun _ k => XS.ifNo X0.here hx rfl (hb hby own_d43_77) rfl ((if0 _ _).trans (tlt hc77).2.1) k) ?_
                  refine OwnFin.adv (B := s₁.setTop (mkF m 82 #[.val (.long (Int64.ofNat nn)), .second] [(.int (8 : Int32))])) (fun _ k => XS.bipush X0.here hx rfl (hb hby own_d43_80) k) ?_
                  obtain ⟨fs, hr, hrun, hended, hW, hsame⟩ := X0.leave (v := some (.int (8 : Int32))) (fun h => by rw [Bd.returns] at h; cases h)
                  refine OwnFin.leaf hP' ⟨_, _, own_retI X0 hx Bd.returns (hb hby own_d43_82) hr, hrun, hended, _, _, rfl, ?_, ⟨_, rfl⟩, hW, hsame.mono (by decide) (by decide)⟩
                  have g5_ : ¬ nn < 10 := fun q => hc5 ((own_lc (d := 10) hnn (by decide)).mpr q)
                  have g15_ : ¬ nn < 100 := fun q => hc15 ((own_lc (d := 100) hnn (by decide)).mpr q)
                  have g25_ : ¬ nn < 1000 := fun q => hc25 ((own_lc (d := 1000) hnn (by decide)).mpr q)
                  have g35_ : ¬ nn < 10000 := fun q => hc35 ((own_lc (d := 10000) hnn (by decide)).mpr q)
                  have g45_ : ¬ nn < 100000 := fun q => hc45 ((own_lc (d := 100000) hnn (by decide)).mpr q)
                  have g55_ : ¬ nn < 1000000 := fun q => hc55 ((own_lc (d := 1000000) hnn (by decide)).mpr q)
                  have g66_ : ¬ nn < 10000000 := fun q => hc66 ((own_lc (d := 10000000) hnn (by decide)).mpr q)
                  have g77_ : nn < 100000000 := (own_lc (d := 100000000) hnn (by decide)).mp hc77
                  have hdg : Jvm.Free.SBG.digits nn = 8 := by
                    unfold Jvm.Free.SBG.digits
                    (repeat' split) <;> omega
                  exact ⟨by rw [hdg]; rfl, N0, e0⟩
                ·
                  refine OwnFin.adv (B := s₁.setTop (mkF m 83 #[.val (.long (Int64.ofNat nn)), .second] [])) (fun _ k => XS.ifYes X0.here hx rfl (pc0 := 77) (pc' := 83) rfl (hb hby own_d43_77) rfl ((if0 _ _).trans (flt hc77).2.1) (by decide) (by decide) k) ?_
                  refine OwnFin.adv (B := s₁.setTop (mkF m 84 #[.val (.long (Int64.ofNat nn)), .second] [(.long (Int64.ofNat nn))])) (fun _ k => XS.lloadN X0.here hx rfl (hb hby own_d43_83) rfl k) ?_
                  refine OwnFin.adv (B := s₁.setTop (mkF m 87 #[.val (.long (Int64.ofNat nn)), .second] [(.long (1000000000 : Int64)), (.long (Int64.ofNat nn))])) (fun _ k => X0.ldc2Long hx hown (mvT hZ (hw _ (List.mem_of_getElem? (i := 302) rfl))) (g := (mkF m 84 #[.val (.long (Int64.ofNat nn)), .second] [(.long (Int64.ofNat nn))])) rfl (hb hby own_d43_84) _ k) ?_
                  refine OwnFin.adv (B := s₁.setTop (mkF m 88 #[.val (.long (Int64.ofNat nn)), .second] [(.int (lcmpW (Int64.ofNat nn) (1000000000 : Int64)))])) (fun _ k => XS.lcmp X0.here hx rfl (hb hby own_d43_87) rfl k) ?_
                  by_cases hc88 : (lcmpW (Int64.ofNat nn) (1000000000 : Int64)) < (0 : Int32)
                  ·
                    refine OwnFin.adv (B := s₁.setTop (mkF m 91 #[.val (.long (Int64.ofNat nn)), .second] [])) (fun _ k => XS.ifNo X0.here hx rfl (hb hby own_d43_88) rfl ((if0 _ _).trans (tlt hc88).2.1) k) ?_
                    refine OwnFin.adv (B := s₁.setTop (mkF m 93 #[.val (.long (Int64.ofNat nn)), .second] [(.int (9 : Int32))])) (fun _ k => XS.bipush X0.here hx rfl (hb hby own_d43_91) k) ?_
                    obtain ⟨fs, hr, hrun, hended, hW, hsame⟩ := X0.leave (v := some (.int (9 : Int32))) (fun h => by rw [Bd.returns] at h; cases h)
                    refine OwnFin.leaf hP' ⟨_, _, own_retI X0 hx Bd.returns (hb hby own_d43_93) hr, hrun, hended, _, _, rfl, ?_, ⟨_, rfl⟩, hW, hsame.mono (by decide) (by decide)⟩
                    have g5_ : ¬ nn < 10 := fun q => hc5 ((own_lc (d := 10) hnn (by decide)).mpr q)
                    have g15_ : ¬ nn < 100 := fun q => hc15 ((own_lc (d := 100) hnn (by decide)).mpr q)
                    have g25_ : ¬ nn < 1000 := fun q => hc25 ((own_lc (d := 1000) hnn (by decide)).mpr q)
                    have g35_ : ¬ nn < 10000 := fun q => hc35 ((own_lc (d := 10000) hnn (by decide)).mpr q)
                    have g45_ : ¬ nn < 100000 := fun q => hc45 ((own_lc (d := 100000) hnn (by decide)).mpr q)
                    have g55_ : ¬ nn < 1000000 := fun q => hc55 ((own_lc (d := 1000000) hnn (by decide)).mpr q)
                    have g66_ : ¬ nn < 10000000 := fun q => hc66 ((own_lc (d := 10000000) hnn (by decide)).mpr q)
                    have g77_ : ¬ nn < 100000000 := fun q => hc77 ((own_lc (d := 100000000) hnn (by decide)).mpr q)
                    have g88_ : nn < 1000000000 := (own_lc (d := 1000000000) hnn (by decide)).mp hc88
                    have hdg : Jvm.Free.SBG.digits nn = 9 := by
                      unfold Jvm.Free.SBG.digits
                      (repeat' split) <;> omega
                    exact ⟨by rw [hdg]; rfl, N0, e0⟩
                  ·
                    refine OwnFin.adv (B := s₁.setTop (mkF m 94 #[.val (.long (Int64.ofNat nn)), .second] [])) (fun _ k => XS.ifYes X0.here hx rfl (pc0 := 88) (pc' := 94) rfl (hb hby own_d43_88) rfl ((if0 _ _).trans (flt hc88).2.1) (by decide) (by decide) k) ?_
                    refine OwnFin.adv (B := s₁.setTop (mkF m 96 #[.val (.long (Int64.ofNat nn)), .second] [(.int (10 : Int32))])) (fun _ k => XS.bipush X0.here hx rfl (hb hby own_d43_94) k) ?_
                    obtain ⟨fs, hr, hrun, hended, hW, hsame⟩ := X0.leave (v := some (.int (10 : Int32))) (fun h => by rw [Bd.returns] at h; cases h)
                    refine OwnFin.leaf hP' ⟨_, _, own_retI X0 hx Bd.returns (hb hby own_d43_96) hr, hrun, hended, _, _, rfl, ?_, ⟨_, rfl⟩, hW, hsame.mono (by decide) (by decide)⟩
                    have g5_ : ¬ nn < 10 := fun q => hc5 ((own_lc (d := 10) hnn (by decide)).mpr q)
                    have g15_ : ¬ nn < 100 := fun q => hc15 ((own_lc (d := 100) hnn (by decide)).mpr q)
                    have g25_ : ¬ nn < 1000 := fun q => hc25 ((own_lc (d := 1000) hnn (by decide)).mpr q)
                    have g35_ : ¬ nn < 10000 := fun q => hc35 ((own_lc (d := 10000) hnn (by decide)).mpr q)
                    have g45_ : ¬ nn < 100000 := fun q => hc45 ((own_lc (d := 100000) hnn (by decide)).mpr q)
                    have g55_ : ¬ nn < 1000000 := fun q => hc55 ((own_lc (d := 1000000) hnn (by decide)).mpr q)
                    have g66_ : ¬ nn < 10000000 := fun q => hc66 ((own_lc (d := 10000000) hnn (by decide)).mpr q)
                    have g77_ : ¬ nn < 100000000 := fun q => hc77 ((own_lc (d := 100000000) hnn (by decide)).mpr q)
                    have g88_ : ¬ nn < 1000000000 := fun q => hc88 ((own_lc (d := 1000000000) hnn (by decide)).mpr q)
                    have hdg : Jvm.Free.SBG.digits nn = 10 := by
                      unfold Jvm.Free.SBG.digits
                      (repeat' split) <;> omega
                    exact ⟨by rw [hdg]; rfl, N0, e0⟩
theorem own_d45_0 : decode method_6_code 0 = .ok (.iload_n 3, 1) := by decide +kernel
theorem own_d45_1 : decode method_6_code 1 = .ok (.aload_n 2, 1) := by decide +kernel
theorem own_d45_2 : decode method_6_code 2 = .ok (.invokevirtual 37, 3) := by decide +kernel
theorem own_d45_5 : decode method_6_code 5 = .ok (.if_icmp .lt 5, 3) := by decide +kernel
theorem own_d45_10 : decode method_6_code 10 = .ok (.iload_n 1, 1) := by decide +kernel
theorem own_d45_11 : decode method_6_code 11 = .ok (.iload_n 3, 1) := by decide +kernel
theorem own_d45_12 : decode method_6_code 12 = .ok (.iadd, 1) := by decide +kernel
theorem own_d45_13 : decode method_6_code 13 = .ok (.istore 4, 2) := by decide +kernel
theorem own_d45_15 : decode method_6_code 15 = .ok (.iload 4, 2) := by decide +kernel
theorem own_d45_17 : decode method_6_code 17 = .ok (.ifCond .lt 30, 3) := by decide +kernel
theorem own_d45_20 : decode method_6_code 20 = .ok (.iload 4, 2) := by decide +kernel
theorem own_d45_22 : decode method_6_code 22 = .ok (.aload_n 0, 1) := by decide +kernel
theorem own_d45_23 : decode method_6_code 23 = .ok (.invokevirtual 37, 3) := by decide +kernel
theorem own_d45_26 : decode method_6_code 26 = .ok (.if_icmp .ge 21, 3) := by decide +kernel
theorem own_d45_29 : decode method_6_code 29 = .ok (.aload_n 0, 1) := by decide +kernel
theorem own_d45_30 : decode method_6_code 30 = .ok (.iload 4, 2) := by decide +kernel
theorem own_pd_x28Ix29C : parseMethodDescriptor "(I)C" = some ⟨[.int], some .char⟩ := by decide +kernel
theorem own_d45_32 : decode method_6_code 32 = .ok (.invokevirtual 54, 3) := by decide +kernel
theorem own_d45_35 : decode method_6_code 35 = .ok (.aload_n 2, 1) := by decide +kernel
theorem own_d45_36 : decode method_6_code 36 = .ok (.iload_n 3, 1) := by decide +kernel
theorem own_d45_37 : decode method_6_code 37 = .ok (.invokevirtual 54, 3) := by decide +kernel
theorem own_d45_40 : decode method_6_code 40 = .ok (.if_icmp .ne 7, 3) := by decide +kernel
theorem own_d45_43 : decode method_6_code 43 = .ok (.iconst 1, 1) := by decide +kernel
theorem own_d45_44 : decode method_6_code 44 = .ok (.goto 4, 3) := by decide +kernel
theorem own_d45_48 : decode method_6_code 48 = .ok (.ireturn, 1) := by decide +kernel
theorem own_d45_8 : decode method_6_code 8 = .ok (.iconst 1, 1) := by decide +kernel
theorem own_d45_9 : decode method_6_code 9 = .ok (.ireturn, 1) := by decide +kernel
theorem own_ef_at (m : MethodId) (x0 : Addr) (x1 : Int32) (x2 : Addr) (x3 : Int32) : entryFrame m #[(.ref x0), (.int x1), (.ref x2), (.int x3)] 5 = mkF m 0 #[.val (.ref x0), .val (.int x1), .val (.ref x2), .val (.int x3), .unset] [] := by first | (simp [entryFrame, mkF, argsToLocals, Value.category]; done) | rfl
def own_Q_at (Z : State) (mo lo : Addr) (zc : Int32) (fm : Value) (lm ll fo kk : Nat) (cm cl : List Int32) (h0 : Heap) (n0 : Nat) (v : Option Value) (h : Heap) (L : List Loc) : Prop := v = some (.int (1 : Int32)) ∧ Fr n0 L ∧ h = h0
set_option maxRecDepth 65536 in
set_option maxHeartbeats 40000000 in
theorem own_at (l : Launch) (Z : State) (a0 : Array Value) (hw : ∀ d ∈ tables_1, d.before a0 Z = true) (ws : List Jvm.Cond) (mo lo : Addr) (zc : Int32) (fm : Value) (lm ll fo kk : Nat) (cm cl : List Int32) (h0 : Heap) (n0 : Nat) (Z0 : n0 ≤ h0.size) (O0 : Old Z n0 h0) (SCS : Sta Z Z.heap "java/lang/String" "COMPACT_STRINGS" "Z" (.int zc)) (hzc : ¬ zc = 0) (SFM : Sta Z Z.heap "jdk/internal/util/Preconditions" "SIOOBE_FORMATTER" "Ljava/util/function/BiFunction;" fm) (rfm : fm.isRef = true) (Fq : OwnS Z h0 lm mo cm) (Fl : OwnS Z h0 ll lo cl) (hag : kk < cl.length → fo + kk < cm.length ∧ cm.getD (fo + kk) 0 = cl.getD kk 0) (hkx : kk ≤ 7) :
    MetFree l (⟨"com/example/rollbook/rollbook/http/ApiExceptionBodyTooLargePinLaw", "at", "(Ljava/lang/String;ILjava/lang/String;I)Z"⟩ : MethodName) (head1 (Jvm.Cond.code (⟨"com/example/rollbook/rollbook/http/ApiExceptionBodyTooLargePinLaw", "at", "(Ljava/lang/String;ILjava/lang/String;I)Z"⟩ : MethodName) method_6_code 5 (some .boolean) :: ws) ({ frames := 4, cells := 0, slots := 0, locals := 54 } : Room)) (fun A0 U0 => A0 = #[(.ref mo), (.int (Int32.ofNat fo)), (.ref lo), (.int (Int32.ofNat kk))] ∧ Z.Warmed39 U0.vm ∧ U0.heap = h0) (fun _ _ _ _ _ => True) (fun _ U0 o0 U1 => ∃ v0 L0, o0 = .returned v0 ∧ own_Q_at Z mo lo zc fm lm ll fo kk cm cl h0 n0 v0 U1.heap L0 ∧ FrameEnd U0 o0 U1 L0 ({ frames := 4, cells := 0, slots := 0, locals := 54 } : Room).cells ({ frames := 4, cells := 0, slots := 0, locals := 54 } : Room).slots) := by
  refine MetFree.of_bodySF (plainFor_of_name own_pn_com_example_rollbook_rollbook_http_ApiExceptionBodyTooLargePinLaw) hisR ?_
  intro p e s m args below meth c s₁ Bd hml0 hP hK
  obtain ⟨rfl, hZ, hh⟩ := hP
  have hZs0 := hZ
  have hZs := hZ
  have hx := Bd.exec
  have hby := Bd.bytes
  have hby_ := hby
  have hml : c.maxLocals = 5 := hml0
  have hown : s.vm.findClass "com/example/rollbook/rollbook/http/ApiExceptionBodyTooLargePinLaw" = some m.cls := findClass_of_methodNamed Bd.named
  have hnm := (name_of_methodNamed Bd.named Bd.method).1
  have X0 : Stand p l e ({ frames := 4, cells := 0, slots := 0, locals := 54 } : Room) s m #[(.ref mo), (.int (Int32.ofNat fo)), (.ref lo), (.int (Int32.ofNat kk))] below meth c s₁ [] 0 0 := Stand.of_body Bd
  have e0 : s₁.heap = h0 := by rw [← hh, Bd.state]; rfl
  have N0 := Fr.nil n0
  refine OwnFin.entry (own_ef_at m mo (Int32.ofNat fo) lo (Int32.ofNat kk)) (fun P' hP' => ?_)
  have lnq := OwnS.len Fq
  have lnl := OwnS.len Fl
  refine OwnFin.adv (B := s₁.setTop (mkF m 1 #[.val (.ref mo), .val (.int (Int32.ofNat fo)), .val (.ref lo), .val (.int (Int32.ofNat kk)), .unset] [(.int (Int32.ofNat kk))])) (fun _ k => XS.iloadN X0.here hx rfl (hb hby own_d45_0) rfl k) ?_
  refine OwnFin.adv (B := s₁.setTop (mkF m 2 #[.val (.ref mo), .val (.int (Int32.ofNat fo)), .val (.ref lo), .val (.int (Int32.ofNat kk)), .unset] [(.ref lo), (.int (Int32.ofNat kk))])) (fun _ k => XS.aloadN X0.here hx rfl (hb hby own_d45_1) rfl rfl k) ?_
  obtain ⟨ts2, ks2, Es2, Vs2, Cs2, As2, lx2, lt2, hp2, l22⟩ := id Fl
  have lx2 := own_lt lx2
  have lt2 := own_lt lt2
  have ltx2 := own_lt Es2.lt
  have ltt2 := own_lt As2.lt
  obtain ⟨cq1, kq1, q1a, q1b, q1c⟩ := isOf hZ e0 Es2
  obtain ⟨_, _, ⟨T1, L1, k1, n1⟩, -, X1, ⟨Lc1, hQ1, l1, y1, z1⟩, st1⟩ := X0.virtualBack hx (y := (⟨"java/lang/String", "length", "()I"⟩ : MethodName)) (z := (⟨"java/lang/String", "length", "()I"⟩ : MethodName)) hown (mvT hZ (hw _ (List.mem_of_getElem? (i := 261) rfl))) (mvT hZ (hw _ (List.mem_of_getElem? (i := 45) rfl))) (notFace_of_selects (args := #[]) (mvT hZ (hw _ (List.mem_of_getElem? (i := 47) rfl)))) (mvT hZ (hw _ (List.mem_of_getElem? (i := 47) rfl))) (mvT hZ (hw _ (List.mem_of_getElem? (i := 46) rfl))) (by decide) (backOf (W := 1) (own_strLen l Z a0 hw [] lo zc (ll) cl h0 n0 (by omega) O0 SCS hzc Fl) hZ (hw _ (List.mem_of_getElem? (i := 48) rfl)) (hw _ (List.mem_of_getElem? (i := 22) rfl)) (by decide) (by decide)) q1a q1c (g := (mkF m 2 #[.val (.ref mo), .val (.int (Int32.ofNat fo)), .val (.ref lo), .val (.int (Int32.ofNat kk)), .unset] [(.ref lo), (.int (Int32.ofNat kk))])) rfl (by rw [hml]; rfl) (Steps.refl _) (argsL := []) (rest := [(.int (Int32.ofNat kk))]) (lenOf own_pd_x28x29I rfl) rfl (by show 2 * 0 + _ ≤ _; exact Nat.le_of_eq rfl) (hb hby own_d45_2) (fun _ _ => ⟨rfl, e0, (by decide : 0 + 0 ≤ _), (by decide : 0 + 0 ≤ _)⟩)
  dsimp only [Pt.U, Pt.locs, Pt.cells, Pt.slots] at X1 l1 y1 z1 st1 hQ1
  subst l1 y1 z1
  obtain ⟨rfl, N1q, eh1⟩ := hQ1
  have N1 := Fr.app N0 N1q
  refine OwnFin.adv (B := T1.setTop (mkF m 5 #[.val (.ref mo), .val (.int (Int32.ofNat fo)), .val (.ref lo), .val (.int (Int32.ofNat kk)), .unset] [(.int (Int32.ofNat (cl).length)), (.int (Int32.ofNat kk))])) (fun _ k => st1.trans k) ?_
  by_cases hc5 : (Int32.ofNat kk) < (Int32.ofNat (cl).length)
  ·
    refine OwnFin.adv (B := T1.setTop (mkF m 10 #[.val (.ref mo), .val (.int (Int32.ofNat fo)), .val (.ref lo), .val (.int (Int32.ofNat kk)), .unset] [])) (fun _ k => XS.icmpYes X1.here hx rfl (pc0 := 5) (pc' := 10) rfl (hb hby own_d45_5) rfl (tlt hc5).1 (by decide) (by decide) k) ?_
    have hkk : kk < cl.length := (own_ltn (by omega) (by omega)).mp hc5
    obtain ⟨ha1, ha2⟩ := hag hkk
    refine OwnFin.adv (B := T1.setTop (mkF m 11 #[.val (.ref mo), .val (.int (Int32.ofNat fo)), .val (.ref lo), .val (.int (Int32.ofNat kk)), .unset] [(.int (Int32.ofNat fo))])) (fun _ k => XS.iloadN X1.here hx rfl (hb hby own_d45_10) rfl k) ?_
    refine OwnFin.adv (B := T1.setTop (mkF m 12 #[.val (.ref mo), .val (.int (Int32.ofNat fo)), .val (.ref lo), .val (.int (Int32.ofNat kk)), .unset] [(.int (Int32.ofNat kk)), (.int (Int32.ofNat fo))])) (fun _ k => XS.iloadN X1.here hx rfl (hb hby own_d45_11) rfl k) ?_
    refine OwnFin.adv (B := T1.setTop (mkF m 13 #[.val (.ref mo), .val (.int (Int32.ofNat fo)), .val (.ref lo), .val (.int (Int32.ofNat kk)), .unset] [(.int ((Int32.ofNat fo) + (Int32.ofNat kk)))])) (fun _ k => XS.iadd X1.here hx rfl (hb hby own_d45_12) rfl k) ?_
    rw [show (((Int32.ofNat fo) + (Int32.ofNat kk)) : Int32) = (Int32.ofNat (fo + kk)) from own_add _ _]
    refine OwnFin.adv (B := T1.setTop (mkF m 15 #[.val (.ref mo), .val (.int (Int32.ofNat fo)), .val (.ref lo), .val (.int (Int32.ofNat kk)), .val (.int (Int32.ofNat (fo + kk)))] [])) (fun _ k => XS.istore X1.here hx rfl (hb hby own_d45_13) rfl (l' := #[.val (.ref mo), .val (.int (Int32.ofNat fo)), .val (.ref lo), .val (.int (Int32.ofNat kk)), .val (.int (Int32.ofNat (fo + kk)))]) rfl k) ?_
    refine OwnFin.adv (B := T1.setTop (mkF m 17 #[.val (.ref mo), .val (.int (Int32.ofNat fo)), .val (.ref lo), .val (.int (Int32.ofNat kk)), .val (.int (Int32.ofNat (fo + kk)))] [(.int (Int32.ofNat (fo + kk)))])) (fun _ k => XS.iload X1.here hx rfl (hb hby own_d45_15) rfl k) ?_
    have hc17_10 : ¬ ((Int32.ofNat (fo + kk)) < (0 : Int32)) := own_nn (by omega)
    refine OwnFin.adv (B := T1.setTop (mkF m 20 #[.val (.ref mo), .val (.int (Int32.ofNat fo)), .val (.ref lo), .val (.int (Int32.ofNat kk)), .val (.int (Int32.ofNat (fo + kk)))] [])) (fun _ k => XS.ifNo X1.here hx rfl (hb hby own_d45_17) rfl ((if0 _ _).trans (flt hc17_10).1) k) ?_
    refine OwnFin.adv (B := T1.setTop (mkF m 22 #[.val (.ref mo), .val (.int (Int32.ofNat fo)), .val (.ref lo), .val (.int (Int32.ofNat kk)), .val (.int (Int32.ofNat (fo + kk)))] [(.int (Int32.ofNat (fo + kk)))])) (fun _ k => XS.iload X1.here hx rfl (hb hby own_d45_20) rfl k) ?_
    refine OwnFin.adv (B := T1.setTop (mkF m 23 #[.val (.ref mo), .val (.int (Int32.ofNat fo)), .val (.ref lo), .val (.int (Int32.ofNat kk)), .val (.int (Int32.ofNat (fo + kk)))] [(.ref mo), (.int (Int32.ofNat (fo + kk)))])) (fun _ k => XS.aloadN X1.here hx rfl (hb hby own_d45_22) rfl rfl k) ?_
    obtain ⟨ts4, ks4, Es4, Vs4, Cs4, As4, lx4, lt4, hp4, l24⟩ := id Fq
    have lx4 := own_lt lx4
    have lt4 := own_lt lt4
    have ltx4 := own_lt Es4.lt
    have ltt4 := own_lt As4.lt
    obtain ⟨cq3, kq3, q3a, q3b, q3c⟩ := isOf hZ eh1 Es4
    obtain ⟨_, _, ⟨T3, L3, k3, n3⟩, -, X3, ⟨Lc3, hQ3, l3, y3, z3⟩, st3⟩ := X1.virtualBack hx (y := (⟨"java/lang/String", "length", "()I"⟩ : MethodName)) (z := (⟨"java/lang/String", "length", "()I"⟩ : MethodName)) hown (mvT hZ (hw _ (List.mem_of_getElem? (i := 261) rfl))) (mvT hZ (hw _ (List.mem_of_getElem? (i := 45) rfl))) (notFace_of_selects (args := #[]) (mvT hZ (hw _ (List.mem_of_getElem? (i := 47) rfl)))) (mvT hZ (hw _ (List.mem_of_getElem? (i := 47) rfl))) (mvT hZ (hw _ (List.mem_of_getElem? (i := 46) rfl))) (by decide) (backOf (W := 1) (own_strLen l Z a0 hw [] mo zc (lm) cm h0 n0 (by omega) O0 SCS hzc Fq) hZ (hw _ (List.mem_of_getElem? (i := 48) rfl)) (hw _ (List.mem_of_getElem? (i := 22) rfl)) (by decide) (by decide)) q3a q3c (g := (mkF m 23 #[.val (.ref mo), .val (.int (Int32.ofNat fo)), .val (.ref lo), .val (.int (Int32.ofNat kk)), .val (.int (Int32.ofNat (fo + kk)))] [(.ref mo), (.int (Int32.ofNat (fo + kk)))])) rfl (by rw [hml]; rfl) (Steps.refl _) (argsL := []) (rest := [(.int (Int32.ofNat (fo + kk)))]) (lenOf own_pd_x28x29I rfl) rfl (by show 2 * 0 + _ ≤ _; exact Nat.le_of_eq rfl) (hb hby own_d45_23) (fun _ _ => ⟨rfl, eh1, (by decide : 0 + 0 ≤ _), (by decide : 0 + 0 ≤ _)⟩)
    dsimp only [Pt.U, Pt.locs, Pt.cells, Pt.slots] at X3 l3 y3 z3 st3 hQ3
    subst l3 y3 z3
    obtain ⟨rfl, N3q, eh3⟩ := hQ3
    have N3 := Fr.app N1 N3q
    refine OwnFin.adv (B := T3.setTop (mkF m 26 #[.val (.ref mo), .val (.int (Int32.ofNat fo)), .val (.ref lo), .val (.int (Int32.ofNat kk)), .val (.int (Int32.ofNat (fo + kk)))] [(.int (Int32.ofNat (cm).length)), (.int (Int32.ofNat (fo + kk)))])) (fun _ k => st3.trans k) ?_
    have hc26_14 : (Int32.ofNat (fo + kk)) < (Int32.ofNat (cm).length) := (own_ltn (by omega) (by omega)).mpr ha1
    refine OwnFin.adv (B := T3.setTop (mkF m 29 #[.val (.ref mo), .val (.int (Int32.ofNat fo)), .val (.ref lo), .val (.int (Int32.ofNat kk)), .val (.int (Int32.ofNat (fo + kk)))] [])) (fun _ k => XS.icmpNo X3.here hx rfl (hb hby own_d45_26) rfl (tlt hc26_14).2.1 k) ?_
    refine OwnFin.adv (B := T3.setTop (mkF m 30 #[.val (.ref mo), .val (.int (Int32.ofNat fo)), .val (.ref lo), .val (.int (Int32.ofNat kk)), .val (.int (Int32.ofNat (fo + kk)))] [(.ref mo)])) (fun _ k => XS.aloadN X3.here hx rfl (hb hby own_d45_29) rfl rfl k) ?_
    refine OwnFin.adv (B := T3.setTop (mkF m 32 #[.val (.ref mo), .val (.int (Int32.ofNat fo)), .val (.ref lo), .val (.int (Int32.ofNat kk)), .val (.int (Int32.ofNat (fo + kk)))] [(.int (Int32.ofNat (fo + kk))), (.ref mo)])) (fun _ k => XS.iload X3.here hx rfl (hb hby own_d45_30) rfl k) ?_
    obtain ⟨cq5, kq5, q5a, q5b, q5c⟩ := isOf hZ eh3 Es4
    obtain ⟨_, _, ⟨T5, L5, k5, n5⟩, -, X5, ⟨Lc5, hQ5, l5, y5, z5⟩, st5⟩ := X3.virtualBack hx (y := (⟨"java/lang/String", "charAt", "(I)C"⟩ : MethodName)) (z := (⟨"java/lang/String", "charAt", "(I)C"⟩ : MethodName)) hown (mvT hZ (hw _ (List.mem_of_getElem? (i := 269) rfl))) (mvT hZ (hw _ (List.mem_of_getElem? (i := 270) rfl))) (notFace_of_selects (args := #[]) (mvT hZ (hw _ (List.mem_of_getElem? (i := 272) rfl)))) (mvT hZ (hw _ (List.mem_of_getElem? (i := 272) rfl))) (mvT hZ (hw _ (List.mem_of_getElem? (i := 271) rfl))) (by decide) (backOf (W := 0) (own_strCh l Z a0 hw [] mo zc fm (lm) (fo + kk) cm h0 n0 (by omega) O0 SCS hzc SFM rfm Fq ha1) hZ (hw _ (List.mem_of_getElem? (i := 273) rfl)) (hw _ (List.mem_of_getElem? (i := 22) rfl)) (by decide) (by decide)) q5a q5c (g := (mkF m 32 #[.val (.ref mo), .val (.int (Int32.ofNat fo)), .val (.ref lo), .val (.int (Int32.ofNat kk)), .val (.int (Int32.ofNat (fo + kk)))] [(.int (Int32.ofNat (fo + kk))), (.ref mo)])) rfl (by rw [hml]; rfl) (Steps.refl _) (argsL := [(.int (Int32.ofNat (fo + kk)))]) (rest := []) (lenOf own_pd_x28Ix29C rfl) rfl (by show 2 * 0 + _ ≤ _; exact Nat.le_of_eq rfl) (hb hby own_d45_32) (fun _ _ => ⟨rfl, eh3, (by decide : 0 + 0 ≤ _), (by decide : 0 + 0 ≤ _)⟩)
    dsimp only [Pt.U, Pt.locs, Pt.cells, Pt.slots] at X5 l5 y5 z5 st5 hQ5
    subst l5 y5 z5
    obtain ⟨rfl, N5q, eh5⟩ := hQ5
    have N5 := Fr.app N3 N5q
    refine OwnFin.adv (B := T5.setTop (mkF m 35 #[.val (.ref mo), .val (.int (Int32.ofNat fo)), .val (.ref lo), .val (.int (Int32.ofNat kk)), .val (.int (Int32.ofNat (fo + kk)))] [(.int ((cm).getD (fo + kk) 0))])) (fun _ k => st5.trans k) ?_
    refine OwnFin.adv (B := T5.setTop (mkF m 36 #[.val (.ref mo), .val (.int (Int32.ofNat fo)), .val (.ref lo), .val (.int (Int32.ofNat kk)), .val (.int (Int32.ofNat (fo + kk)))] [(.ref lo), (.int ((cm).getD (fo + kk) 0))])) (fun _ k => XS.aloadN X5.here hx rfl (hb hby own_d45_35) rfl rfl k) ?_
    refine OwnFin.adv (B := T5.setTop (mkF m 37 #[.val (.ref mo), .val (.int (Int32.ofNat fo)), .val (.ref lo), .val (.int (Int32.ofNat kk)), .val (.int (Int32.ofNat (fo + kk)))] [(.int (Int32.ofNat kk)), (.ref lo), (.int ((cm).getD (fo + kk) 0))])) (fun _ k => XS.iloadN X5.here hx rfl (hb hby own_d45_36) rfl k) ?_
    obtain ⟨cq6, kq6, q6a, q6b, q6c⟩ := isOf hZ eh5 Es2
    obtain ⟨_, _, ⟨T6, L6, k6, n6⟩, -, X6, ⟨Lc6, hQ6, l6, y6, z6⟩, st6⟩ := X5.virtualBack hx (y := (⟨"java/lang/String", "charAt", "(I)C"⟩ : MethodName)) (z := (⟨"java/lang/String", "charAt", "(I)C"⟩ : MethodName)) hown (mvT hZ (hw _ (List.mem_of_getElem? (i := 269) rfl))) (mvT hZ (hw _ (List.mem_of_getElem? (i := 270) rfl))) (notFace_of_selects (args := #[]) (mvT hZ (hw _ (List.mem_of_getElem? (i := 272) rfl)))) (mvT hZ (hw _ (List.mem_of_getElem? (i := 272) rfl))) (mvT hZ (hw _ (List.mem_of_getElem? (i := 271) rfl))) (by decide) (backOf (W := 1) (own_strCh l Z a0 hw [] lo zc fm (ll) (kk) cl h0 n0 (by omega) O0 SCS hzc SFM rfm Fl hkk) hZ (hw _ (List.mem_of_getElem? (i := 273) rfl)) (hw _ (List.mem_of_getElem? (i := 22) rfl)) (by decide) (by decide)) q6a q6c (g := (mkF m 37 #[.val (.ref mo), .val (.int (Int32.ofNat fo)), .val (.ref lo), .val (.int (Int32.ofNat kk)), .val (.int (Int32.ofNat (fo + kk)))] [(.int (Int32.ofNat kk)), (.ref lo), (.int ((cm).getD (fo + kk) 0))])) rfl (by rw [hml]; rfl) (Steps.refl _) (argsL := [(.int (Int32.ofNat kk))]) (rest := [(.int ((cm).getD (fo + kk) 0))]) (lenOf own_pd_x28Ix29C rfl) rfl (by show 2 * 0 + _ ≤ _; exact Nat.le_of_eq rfl) (hb hby own_d45_37) (fun _ _ => ⟨rfl, eh5, (by decide : 0 + 0 ≤ _), (by decide : 0 + 0 ≤ _)⟩)
    dsimp only [Pt.U, Pt.locs, Pt.cells, Pt.slots] at X6 l6 y6 z6 st6 hQ6
    subst l6 y6 z6
    obtain ⟨rfl, N6q, eh6⟩ := hQ6
    have N6 := Fr.app N5 N6q
    refine OwnFin.adv (B := T6.setTop (mkF m 40 #[.val (.ref mo), .val (.int (Int32.ofNat fo)), .val (.ref lo), .val (.int (Int32.ofNat kk)), .val (.int (Int32.ofNat (fo + kk)))] [(.int ((cl).getD (kk) 0)), (.int ((cm).getD (fo + kk) 0))])) (fun _ k => st6.trans k) ?_
    have hc40_21 : ((cm).getD (fo + kk) 0) = ((cl).getD (kk) 0) := ha2
    refine OwnFin.adv (B := T6.setTop (mkF m 43 #[.val (.ref mo), .val (.int (Int32.ofNat fo)), .val (.ref lo), .val (.int (Int32.ofNat kk)), .val (.int (Int32.ofNat (fo + kk)))] [])) (fun _ k => XS.icmpNo X6.here hx rfl (hb hby own_d45_40) rfl (teq hc40_21).2 k) ?_
    refine OwnFin.adv (B := T6.setTop (mkF m 44 #[.val (.ref mo), .val (.int (Int32.ofNat fo)), .val (.ref lo), .val (.int (Int32.ofNat kk)), .val (.int (Int32.ofNat (fo + kk)))] [(.int (1 : Int32))])) (fun _ k => XS.iconst X6.here hx rfl (hb hby own_d45_43) k) ?_
    refine OwnFin.adv (B := T6.setTop (mkF m 48 #[.val (.ref mo), .val (.int (Int32.ofNat fo)), .val (.ref lo), .val (.int (Int32.ofNat kk)), .val (.int (Int32.ofNat (fo + kk)))] [(.int (1 : Int32))])) (fun _ k => XS.goto X6.here hx rfl (pc0 := 44) (pc' := 48) rfl (hb hby own_d45_44) (by decide) (by decide) k) ?_
    obtain ⟨fs, hr, hrun, hended, hW, hsame⟩ := X6.leave (v := some (.int (1 : Int32))) (fun h => by rw [Bd.returns] at h; cases h)
    refine OwnFin.leaf hP' ⟨_, _, retN X6 hx (t := .boolean) Bd.returns (by simp) (hb hby own_d45_48) hr, hrun, hended, _, _, rfl, ?_, ⟨_, rfl⟩, hW, hsame.mono (by decide) (by decide)⟩
    exact ⟨rfl, N6, eh6⟩
  ·
    refine OwnFin.adv (B := T1.setTop (mkF m 8 #[.val (.ref mo), .val (.int (Int32.ofNat fo)), .val (.ref lo), .val (.int (Int32.ofNat kk)), .unset] [])) (fun _ k => XS.icmpNo X1.here hx rfl (hb hby own_d45_5) rfl (flt hc5).1 k) ?_
    refine OwnFin.adv (B := T1.setTop (mkF m 9 #[.val (.ref mo), .val (.int (Int32.ofNat fo)), .val (.ref lo), .val (.int (Int32.ofNat kk)), .unset] [(.int (1 : Int32))])) (fun _ k => XS.iconst X1.here hx rfl (hb hby own_d45_8) k) ?_
    obtain ⟨fs, hr, hrun, hended, hW, hsame⟩ := X1.leave (v := some (.int (1 : Int32))) (fun h => by rw [Bd.returns] at h; cases h)
    refine OwnFin.leaf hP' ⟨_, _, retN X1 hx (t := .boolean) Bd.returns (by simp) (hb hby own_d45_9) hr, hrun, hended, _, _, rfl, ?_, ⟨_, rfl⟩, hW, hsame.mono (by decide) (by decide)⟩
    exact ⟨rfl, N1, eh1⟩
theorem own_d44_0 : decode method_5_code 0 = .ok (.aload_n 0, 1) := by decide +kernel
theorem own_d44_1 : decode method_5_code 1 = .ok (.iload_n 1, 1) := by decide +kernel
theorem own_d44_2 : decode method_5_code 2 = .ok (.aload_n 2, 1) := by decide +kernel
theorem own_d44_3 : decode method_5_code 3 = .ok (.iconst 0, 1) := by decide +kernel
theorem own_pd_x28Ljavax2flangx2fStringx3bILjavax2flangx2fStringx3bIx29Z : parseMethodDescriptor "(Ljava/lang/String;ILjava/lang/String;I)Z" = some ⟨[(.object "java/lang/String"), .int, (.object "java/lang/String"), .int], some .boolean⟩ := by decide +kernel
theorem own_d44_4 : decode method_5_code 4 = .ok (.invokestatic 84, 3) := by decide +kernel
theorem own_d44_7 : decode method_5_code 7 = .ok (.ifCond .eq 79, 3) := by decide +kernel
theorem own_d44_10 : decode method_5_code 10 = .ok (.aload_n 0, 1) := by decide +kernel
theorem own_d44_11 : decode method_5_code 11 = .ok (.iload_n 1, 1) := by decide +kernel
theorem own_d44_12 : decode method_5_code 12 = .ok (.aload_n 2, 1) := by decide +kernel
theorem own_d44_13 : decode method_5_code 13 = .ok (.iconst 1, 1) := by decide +kernel
theorem own_d44_14 : decode method_5_code 14 = .ok (.invokestatic 84, 3) := by decide +kernel
theorem own_d44_17 : decode method_5_code 17 = .ok (.ifCond .eq 69, 3) := by decide +kernel
theorem own_d44_20 : decode method_5_code 20 = .ok (.aload_n 0, 1) := by decide +kernel
theorem own_d44_21 : decode method_5_code 21 = .ok (.iload_n 1, 1) := by decide +kernel
theorem own_d44_22 : decode method_5_code 22 = .ok (.aload_n 2, 1) := by decide +kernel
theorem own_d44_23 : decode method_5_code 23 = .ok (.iconst 2, 1) := by decide +kernel
theorem own_d44_24 : decode method_5_code 24 = .ok (.invokestatic 84, 3) := by decide +kernel
theorem own_d44_27 : decode method_5_code 27 = .ok (.ifCond .eq 59, 3) := by decide +kernel
theorem own_d44_30 : decode method_5_code 30 = .ok (.aload_n 0, 1) := by decide +kernel
theorem own_d44_31 : decode method_5_code 31 = .ok (.iload_n 1, 1) := by decide +kernel
theorem own_d44_32 : decode method_5_code 32 = .ok (.aload_n 2, 1) := by decide +kernel
theorem own_d44_33 : decode method_5_code 33 = .ok (.iconst 3, 1) := by decide +kernel
theorem own_d44_34 : decode method_5_code 34 = .ok (.invokestatic 84, 3) := by decide +kernel
theorem own_d44_37 : decode method_5_code 37 = .ok (.ifCond .eq 49, 3) := by decide +kernel
theorem own_d44_40 : decode method_5_code 40 = .ok (.aload_n 0, 1) := by decide +kernel
theorem own_d44_41 : decode method_5_code 41 = .ok (.iload_n 1, 1) := by decide +kernel
theorem own_d44_42 : decode method_5_code 42 = .ok (.aload_n 2, 1) := by decide +kernel
theorem own_d44_43 : decode method_5_code 43 = .ok (.iconst 4, 1) := by decide +kernel
theorem own_d44_44 : decode method_5_code 44 = .ok (.invokestatic 84, 3) := by decide +kernel
theorem own_d44_47 : decode method_5_code 47 = .ok (.ifCond .eq 39, 3) := by decide +kernel
theorem own_d44_50 : decode method_5_code 50 = .ok (.aload_n 0, 1) := by decide +kernel
theorem own_d44_51 : decode method_5_code 51 = .ok (.iload_n 1, 1) := by decide +kernel
theorem own_d44_52 : decode method_5_code 52 = .ok (.aload_n 2, 1) := by decide +kernel
theorem own_d44_53 : decode method_5_code 53 = .ok (.iconst 5, 1) := by decide +kernel
theorem own_d44_54 : decode method_5_code 54 = .ok (.invokestatic 84, 3) := by decide +kernel
theorem own_d44_57 : decode method_5_code 57 = .ok (.ifCond .eq 29, 3) := by decide +kernel
theorem own_d44_60 : decode method_5_code 60 = .ok (.aload_n 0, 1) := by decide +kernel
theorem own_d44_61 : decode method_5_code 61 = .ok (.iload_n 1, 1) := by decide +kernel
theorem own_d44_62 : decode method_5_code 62 = .ok (.aload_n 2, 1) := by decide +kernel
theorem own_d44_63 : decode method_5_code 63 = .ok (.bipush 6, 2) := by decide +kernel
theorem own_d44_65 : decode method_5_code 65 = .ok (.invokestatic 84, 3) := by decide +kernel
theorem own_d44_68 : decode method_5_code 68 = .ok (.ifCond .eq 18, 3) := by decide +kernel
theorem own_d44_71 : decode method_5_code 71 = .ok (.aload_n 0, 1) := by decide +kernel
theorem own_d44_72 : decode method_5_code 72 = .ok (.iload_n 1, 1) := by decide +kernel
theorem own_d44_73 : decode method_5_code 73 = .ok (.aload_n 2, 1) := by decide +kernel
theorem own_d44_74 : decode method_5_code 74 = .ok (.bipush 7, 2) := by decide +kernel
theorem own_d44_76 : decode method_5_code 76 = .ok (.invokestatic 84, 3) := by decide +kernel
theorem own_d44_79 : decode method_5_code 79 = .ok (.ifCond .eq 7, 3) := by decide +kernel
theorem own_d44_82 : decode method_5_code 82 = .ok (.iconst 1, 1) := by decide +kernel
theorem own_d44_83 : decode method_5_code 83 = .ok (.goto 4, 3) := by decide +kernel
theorem own_d44_87 : decode method_5_code 87 = .ok (.ireturn, 1) := by decide +kernel
theorem own_ef_has (m : MethodId) (x0 : Addr) (x1 : Int32) (x2 : Addr) : entryFrame m #[(.ref x0), (.int x1), (.ref x2)] 3 = mkF m 0 #[.val (.ref x0), .val (.int x1), .val (.ref x2)] [] := by first | (simp [entryFrame, mkF, argsToLocals, Value.category]; done) | rfl
def own_Q_has (Z : State) (mo lo : Addr) (zc : Int32) (fm : Value) (lm ll fo : Nat) (cm cl : List Int32) (h0 : Heap) (n0 : Nat) (v : Option Value) (h : Heap) (L : List Loc) : Prop := v = some (.int (1 : Int32)) ∧ Fr n0 L ∧ h = h0
set_option maxRecDepth 65536 in
set_option maxHeartbeats 40000000 in
theorem own_has (l : Launch) (Z : State) (a0 : Array Value) (hw : ∀ d ∈ tables_1, d.before a0 Z = true) (ws : List Jvm.Cond) (mo lo : Addr) (zc : Int32) (fm : Value) (lm ll fo : Nat) (cm cl : List Int32) (h0 : Heap) (n0 : Nat) (Z0 : n0 ≤ h0.size) (O0 : Old Z n0 h0) (SCS : Sta Z Z.heap "java/lang/String" "COMPACT_STRINGS" "Z" (.int zc)) (hzc : ¬ zc = 0) (SFM : Sta Z Z.heap "jdk/internal/util/Preconditions" "SIOOBE_FORMATTER" "Ljava/util/function/BiFunction;" fm) (rfm : fm.isRef = true) (Fq : OwnS Z h0 lm mo cm) (Fl : OwnS Z h0 ll lo cl) (hag : ∀ k, k < cl.length → fo + k < cm.length ∧ cm.getD (fo + k) 0 = cl.getD k 0) :
    MetFree l (⟨"com/example/rollbook/rollbook/http/ApiExceptionBodyTooLargePinLaw", "has", "(Ljava/lang/String;ILjava/lang/String;)Z"⟩ : MethodName) (head1 (Jvm.Cond.code (⟨"com/example/rollbook/rollbook/http/ApiExceptionBodyTooLargePinLaw", "has", "(Ljava/lang/String;ILjava/lang/String;)Z"⟩ : MethodName) method_5_code 3 (some .boolean) :: ws) ({ frames := 5, cells := 0, slots := 0, locals := 70 } : Room)) (fun A0 U0 => A0 = #[(.ref mo), (.int (Int32.ofNat fo)), (.ref lo)] ∧ Z.Warmed39 U0.vm ∧ U0.heap = h0) (fun _ _ _ _ _ => True) (fun _ U0 o0 U1 => ∃ v0 L0, o0 = .returned v0 ∧ own_Q_has Z mo lo zc fm lm ll fo cm cl h0 n0 v0 U1.heap L0 ∧ FrameEnd U0 o0 U1 L0 ({ frames := 5, cells := 0, slots := 0, locals := 70 } : Room).cells ({ frames := 5, cells := 0, slots := 0, locals := 70 } : Room).slots) := by
  refine MetFree.of_bodySF (plainFor_of_name own_pn_com_example_rollbook_rollbook_http_ApiExceptionBodyTooLargePinLaw) hisR ?_
  intro p e s m args below meth c s₁ Bd hml0 hP hK
  obtain ⟨rfl, hZ, hh⟩ := hP
  have hZs0 := hZ
  have hZs := hZ
  have hx := Bd.exec
  have hby := Bd.bytes
  have hby_ := hby
  have hml : c.maxLocals = 3 := hml0
  have hown : s.vm.findClass "com/example/rollbook/rollbook/http/ApiExceptionBodyTooLargePinLaw" = some m.cls := findClass_of_methodNamed Bd.named
  have hnm := (name_of_methodNamed Bd.named Bd.method).1
  have X0 : Stand p l e ({ frames := 5, cells := 0, slots := 0, locals := 70 } : Room) s m #[(.ref mo), (.int (Int32.ofNat fo)), (.ref lo)] below meth c s₁ [] 0 0 := Stand.of_body Bd
  have e0 : s₁.heap = h0 := by rw [← hh, Bd.state]; rfl
  have N0 := Fr.nil n0
  refine OwnFin.entry (own_ef_has m mo (Int32.ofNat fo) lo) (fun P' hP' => ?_)
  have lnq := OwnS.len Fq
  have lnl := OwnS.len Fl
  refine OwnFin.adv (B := s₁.setTop (mkF m 1 #[.val (.ref mo), .val (.int (Int32.ofNat fo)), .val (.ref lo)] [(.ref mo)])) (fun _ k => XS.aloadN X0.here hx rfl (hb hby own_d44_0) rfl rfl k) ?_
  refine OwnFin.adv (B := s₁.setTop (mkF m 2 #[.val (.ref mo), .val (.int (Int32.ofNat fo)), .val (.ref lo)] [(.int (Int32.ofNat fo)), (.ref mo)])) (fun _ k => XS.iloadN X0.here hx rfl (hb hby own_d44_1) rfl k) ?_
  refine OwnFin.adv (B := s₁.setTop (mkF m 3 #[.val (.ref mo), .val (.int (Int32.ofNat fo)), .val (.ref lo)] [(.ref lo), (.int (Int32.ofNat fo)), (.ref mo)])) (fun _ k => XS.aloadN X0.here hx rfl (hb hby own_d44_2) rfl rfl k) ?_
  refine OwnFin.adv (B := s₁.setTop (mkF m 4 #[.val (.ref mo), .val (.int (Int32.ofNat fo)), .val (.ref lo)] [(.int (0 : Int32)), (.ref lo), (.int (Int32.ofNat fo)), (.ref mo)])) (fun _ k => XS.iconst X0.here hx rfl (hb hby own_d44_3) k) ?_
  obtain ⟨_, _, ⟨T1, L1, k1, n1⟩, -, X1, ⟨Lc1, hQ1, l1, y1, z1⟩, st1⟩ := Jvm.LawKit.callS X0 hx (y := (⟨"com/example/rollbook/rollbook/http/ApiExceptionBodyTooLargePinLaw", "at", "(Ljava/lang/String;ILjava/lang/String;I)Z"⟩ : MethodName)) hown (mvT hZ (hw _ (List.mem_of_getElem? (i := 266) rfl))) (mvT hZ (hw _ (List.mem_of_getElem? (i := 267) rfl))) (mvT hZ (hw _ (List.mem_of_getElem? (i := 258) rfl))) (mvT hZ (hw _ (List.mem_of_getElem? (i := 268) rfl))) (by decide) (backOf (W := 0) (own_at l Z a0 hw [] mo lo zc fm lm ll fo 0 cm cl h0 n0 (by omega) O0 SCS hzc SFM rfm Fq Fl (hag 0) (by decide)) hZ (hw _ (List.mem_of_getElem? (i := 268) rfl)) (hw _ (List.mem_of_getElem? (i := 258) rfl)) (by decide) (by decide)) (g := (mkF m 4 #[.val (.ref mo), .val (.int (Int32.ofNat fo)), .val (.ref lo)] [(.int (0 : Int32)), (.ref lo), (.int (Int32.ofNat fo)), (.ref mo)])) rfl (by rw [hml]; rfl) (argsL := [(.ref mo), (.int (Int32.ofNat fo)), (.ref lo), (.int (0 : Int32))]) (rest := []) (lenOf own_pd_x28Ljavax2flangx2fStringx3bILjavax2flangx2fStringx3bIx29Z rfl) rfl (by show 2 * 0 + _ ≤ _; exact Nat.le_of_eq rfl) (hb hby own_d44_4) (fun _ _ => ⟨rfl, e0, (by decide : 0 + 0 ≤ _), (by decide : 0 + 0 ≤ _)⟩)
  dsimp only [Pt.U, Pt.locs, Pt.cells, Pt.slots] at X1 l1 y1 z1 st1 hQ1
  subst l1 y1 z1
  obtain ⟨rfl, N1q, eh1⟩ := hQ1
  have N1 := Fr.app N0 N1q
  refine OwnFin.adv (B := T1.setTop (mkF m 7 #[.val (.ref mo), .val (.int (Int32.ofNat fo)), .val (.ref lo)] [(.int (1 : Int32))])) (fun _ k => st1 _ k) ?_
  have hc7_6 : ¬ ((1 : Int32) = (0 : Int32)) := by decide
  refine OwnFin.adv (B := T1.setTop (mkF m 10 #[.val (.ref mo), .val (.int (Int32.ofNat fo)), .val (.ref lo)] [])) (fun _ k => XS.ifNo X1.here hx rfl (hb hby own_d44_7) rfl ((if0 _ _).trans (feq hc7_6).1) k) ?_
  refine OwnFin.adv (B := T1.setTop (mkF m 11 #[.val (.ref mo), .val (.int (Int32.ofNat fo)), .val (.ref lo)] [(.ref mo)])) (fun _ k => XS.aloadN X1.here hx rfl (hb hby own_d44_10) rfl rfl k) ?_
  refine OwnFin.adv (B := T1.setTop (mkF m 12 #[.val (.ref mo), .val (.int (Int32.ofNat fo)), .val (.ref lo)] [(.int (Int32.ofNat fo)), (.ref mo)])) (fun _ k => XS.iloadN X1.here hx rfl (hb hby own_d44_11) rfl k) ?_
  refine OwnFin.adv (B := T1.setTop (mkF m 13 #[.val (.ref mo), .val (.int (Int32.ofNat fo)), .val (.ref lo)] [(.ref lo), (.int (Int32.ofNat fo)), (.ref mo)])) (fun _ k => XS.aloadN X1.here hx rfl (hb hby own_d44_12) rfl rfl k) ?_
  refine OwnFin.adv (B := T1.setTop (mkF m 14 #[.val (.ref mo), .val (.int (Int32.ofNat fo)), .val (.ref lo)] [(.int (1 : Int32)), (.ref lo), (.int (Int32.ofNat fo)), (.ref mo)])) (fun _ k => XS.iconst X1.here hx rfl (hb hby own_d44_13) k) ?_
  obtain ⟨_, _, ⟨T2, L2, k2, n2⟩, -, X2, ⟨Lc2, hQ2, l2, y2, z2⟩, st2⟩ := Jvm.LawKit.callS X1 hx (y := (⟨"com/example/rollbook/rollbook/http/ApiExceptionBodyTooLargePinLaw", "at", "(Ljava/lang/String;ILjava/lang/String;I)Z"⟩ : MethodName)) hown (mvT hZ (hw _ (List.mem_of_getElem? (i := 266) rfl))) (mvT hZ (hw _ (List.mem_of_getElem? (i := 267) rfl))) (mvT hZ (hw _ (List.mem_of_getElem? (i := 258) rfl))) (mvT hZ (hw _ (List.mem_of_getElem? (i := 268) rfl))) (by decide) (backOf (W := 0) (own_at l Z a0 hw [] mo lo zc fm lm ll fo 1 cm cl h0 n0 (by omega) O0 SCS hzc SFM rfm Fq Fl (hag 1) (by decide)) hZ (hw _ (List.mem_of_getElem? (i := 268) rfl)) (hw _ (List.mem_of_getElem? (i := 258) rfl)) (by decide) (by decide)) (g := (mkF m 14 #[.val (.ref mo), .val (.int (Int32.ofNat fo)), .val (.ref lo)] [(.int (1 : Int32)), (.ref lo), (.int (Int32.ofNat fo)), (.ref mo)])) rfl (by rw [hml]; rfl) (argsL := [(.ref mo), (.int (Int32.ofNat fo)), (.ref lo), (.int (1 : Int32))]) (rest := []) (lenOf own_pd_x28Ljavax2flangx2fStringx3bILjavax2flangx2fStringx3bIx29Z rfl) rfl (by show 2 * 0 + _ ≤ _; exact Nat.le_of_eq rfl) (hb hby own_d44_14) (fun _ _ => ⟨rfl, eh1, (by decide : 0 + 0 ≤ _), (by decide : 0 + 0 ≤ _)⟩)
  dsimp only [Pt.U, Pt.locs, Pt.cells, Pt.slots] at X2 l2 y2 z2 st2 hQ2
  subst l2 y2 z2
  obtain ⟨rfl, N2q, eh2⟩ := hQ2
  have N2 := Fr.app N1 N2q
  refine OwnFin.adv (B := T2.setTop (mkF m 17 #[.val (.ref mo), .val (.int (Int32.ofNat fo)), .val (.ref lo)] [(.int (1 : Int32))])) (fun _ k => st2 _ k) ?_
  have hc17_12 : ¬ ((1 : Int32) = (0 : Int32)) := by decide
  refine OwnFin.adv (B := T2.setTop (mkF m 20 #[.val (.ref mo), .val (.int (Int32.ofNat fo)), .val (.ref lo)] [])) (fun _ k => XS.ifNo X2.here hx rfl (hb hby own_d44_17) rfl ((if0 _ _).trans (feq hc17_12).1) k) ?_
  refine OwnFin.adv (B := T2.setTop (mkF m 21 #[.val (.ref mo), .val (.int (Int32.ofNat fo)), .val (.ref lo)] [(.ref mo)])) (fun _ k => XS.aloadN X2.here hx rfl (hb hby own_d44_20) rfl rfl k) ?_
  refine OwnFin.adv (B := T2.setTop (mkF m 22 #[.val (.ref mo), .val (.int (Int32.ofNat fo)), .val (.ref lo)] [(.int (Int32.ofNat fo)), (.ref mo)])) (fun _ k => XS.iloadN X2.here hx rfl (hb hby own_d44_21) rfl k) ?_
  refine OwnFin.adv (B := T2.setTop (mkF m 23 #[.val (.ref mo), .val (.int (Int32.ofNat fo)), .val (.ref lo)] [(.ref lo), (.int (Int32.ofNat fo)), (.ref mo)])) (fun _ k => XS.aloadN X2.here hx rfl (hb hby own_d44_22) rfl rfl k) ?_
  refine OwnFin.adv (B := T2.setTop (mkF m 24 #[.val (.ref mo), .val (.int (Int32.ofNat fo)), .val (.ref lo)] [(.int (2 : Int32)), (.ref lo), (.int (Int32.ofNat fo)), (.ref mo)])) (fun _ k => XS.iconst X2.here hx rfl (hb hby own_d44_23) k) ?_
  obtain ⟨_, _, ⟨T3, L3, k3, n3⟩, -, X3, ⟨Lc3, hQ3, l3, y3, z3⟩, st3⟩ := Jvm.LawKit.callS X2 hx (y := (⟨"com/example/rollbook/rollbook/http/ApiExceptionBodyTooLargePinLaw", "at", "(Ljava/lang/String;ILjava/lang/String;I)Z"⟩ : MethodName)) hown (mvT hZ (hw _ (List.mem_of_getElem? (i := 266) rfl))) (mvT hZ (hw _ (List.mem_of_getElem? (i := 267) rfl))) (mvT hZ (hw _ (List.mem_of_getElem? (i := 258) rfl))) (mvT hZ (hw _ (List.mem_of_getElem? (i := 268) rfl))) (by decide) (backOf (W := 0) (own_at l Z a0 hw [] mo lo zc fm lm ll fo 2 cm cl h0 n0 (by omega) O0 SCS hzc SFM rfm Fq Fl (hag 2) (by decide)) hZ (hw _ (List.mem_of_getElem? (i := 268) rfl)) (hw _ (List.mem_of_getElem? (i := 258) rfl)) (by decide) (by decide)) (g := (mkF m 24 #[.val (.ref mo), .val (.int (Int32.ofNat fo)), .val (.ref lo)] [(.int (2 : Int32)), (.ref lo), (.int (Int32.ofNat fo)), (.ref mo)])) rfl (by rw [hml]; rfl) (argsL := [(.ref mo), (.int (Int32.ofNat fo)), (.ref lo), (.int (2 : Int32))]) (rest := []) (lenOf own_pd_x28Ljavax2flangx2fStringx3bILjavax2flangx2fStringx3bIx29Z rfl) rfl (by show 2 * 0 + _ ≤ _; exact Nat.le_of_eq rfl) (hb hby own_d44_24) (fun _ _ => ⟨rfl, eh2, (by decide : 0 + 0 ≤ _), (by decide : 0 + 0 ≤ _)⟩)
  dsimp only [Pt.U, Pt.locs, Pt.cells, Pt.slots] at X3 l3 y3 z3 st3 hQ3
  subst l3 y3 z3
  obtain ⟨rfl, N3q, eh3⟩ := hQ3
  have N3 := Fr.app N2 N3q
  refine OwnFin.adv (B := T3.setTop (mkF m 27 #[.val (.ref mo), .val (.int (Int32.ofNat fo)), .val (.ref lo)] [(.int (1 : Int32))])) (fun _ k => st3 _ k) ?_
  have hc27_18 : ¬ ((1 : Int32) = (0 : Int32)) := by decide
  refine OwnFin.adv (B := T3.setTop (mkF m 30 #[.val (.ref mo), .val (.int (Int32.ofNat fo)), .val (.ref lo)] [])) (fun _ k => XS.ifNo X3.here hx rfl (hb hby own_d44_27) rfl ((if0 _ _).trans (feq hc27_18).1) k) ?_
  refine OwnFin.adv (B := T3.setTop (mkF m 31 #[.val (.ref mo), .val (.int (Int32.ofNat fo)), .val (.ref lo)] [(.ref mo)])) (fun _ k => XS.aloadN X3.here hx rfl (hb hby own_d44_30) rfl rfl k) ?_
  refine OwnFin.adv (B := T3.setTop (mkF m 32 #[.val (.ref mo), .val (.int (Int32.ofNat fo)), .val (.ref lo)] [(.int (Int32.ofNat fo)), (.ref mo)])) (fun _ k => XS.iloadN X3.here hx rfl (hb hby own_d44_31) rfl k) ?_
  refine OwnFin.adv (B := T3.setTop (mkF m 33 #[.val (.ref mo), .val (.int (Int32.ofNat fo)), .val (.ref lo)] [(.ref lo), (.int (Int32.ofNat fo)), (.ref mo)])) (fun _ k => XS.aloadN X3.here hx rfl (hb hby own_d44_32) rfl rfl k) ?_
  refine OwnFin.adv (B := T3.setTop (mkF m 34 #[.val (.ref mo), .val (.int (Int32.ofNat fo)), .val (.ref lo)] [(.int (3 : Int32)), (.ref lo), (.int (Int32.ofNat fo)), (.ref mo)])) (fun _ k => XS.iconst X3.here hx rfl (hb hby own_d44_33) k) ?_
  obtain ⟨_, _, ⟨T4, L4, k4, n4⟩, -, X4, ⟨Lc4, hQ4, l4, y4, z4⟩, st4⟩ := Jvm.LawKit.callS X3 hx (y := (⟨"com/example/rollbook/rollbook/http/ApiExceptionBodyTooLargePinLaw", "at", "(Ljava/lang/String;ILjava/lang/String;I)Z"⟩ : MethodName)) hown (mvT hZ (hw _ (List.mem_of_getElem? (i := 266) rfl))) (mvT hZ (hw _ (List.mem_of_getElem? (i := 267) rfl))) (mvT hZ (hw _ (List.mem_of_getElem? (i := 258) rfl))) (mvT hZ (hw _ (List.mem_of_getElem? (i := 268) rfl))) (by decide) (backOf (W := 0) (own_at l Z a0 hw [] mo lo zc fm lm ll fo 3 cm cl h0 n0 (by omega) O0 SCS hzc SFM rfm Fq Fl (hag 3) (by decide)) hZ (hw _ (List.mem_of_getElem? (i := 268) rfl)) (hw _ (List.mem_of_getElem? (i := 258) rfl)) (by decide) (by decide)) (g := (mkF m 34 #[.val (.ref mo), .val (.int (Int32.ofNat fo)), .val (.ref lo)] [(.int (3 : Int32)), (.ref lo), (.int (Int32.ofNat fo)), (.ref mo)])) rfl (by rw [hml]; rfl) (argsL := [(.ref mo), (.int (Int32.ofNat fo)), (.ref lo), (.int (3 : Int32))]) (rest := []) (lenOf own_pd_x28Ljavax2flangx2fStringx3bILjavax2flangx2fStringx3bIx29Z rfl) rfl (by show 2 * 0 + _ ≤ _; exact Nat.le_of_eq rfl) (hb hby own_d44_34) (fun _ _ => ⟨rfl, eh3, (by decide : 0 + 0 ≤ _), (by decide : 0 + 0 ≤ _)⟩)
  dsimp only [Pt.U, Pt.locs, Pt.cells, Pt.slots] at X4 l4 y4 z4 st4 hQ4
  subst l4 y4 z4
  obtain ⟨rfl, N4q, eh4⟩ := hQ4
  have N4 := Fr.app N3 N4q
  refine OwnFin.adv (B := T4.setTop (mkF m 37 #[.val (.ref mo), .val (.int (Int32.ofNat fo)), .val (.ref lo)] [(.int (1 : Int32))])) (fun _ k => st4 _ k) ?_
  have hc37_24 : ¬ ((1 : Int32) = (0 : Int32)) := by decide
  refine OwnFin.adv (B := T4.setTop (mkF m 40 #[.val (.ref mo), .val (.int (Int32.ofNat fo)), .val (.ref lo)] [])) (fun _ k => XS.ifNo X4.here hx rfl (hb hby own_d44_37) rfl ((if0 _ _).trans (feq hc37_24).1) k) ?_
  refine OwnFin.adv (B := T4.setTop (mkF m 41 #[.val (.ref mo), .val (.int (Int32.ofNat fo)), .val (.ref lo)] [(.ref mo)])) (fun _ k => XS.aloadN X4.here hx rfl (hb hby own_d44_40) rfl rfl k) ?_
  refine OwnFin.adv (B := T4.setTop (mkF m 42 #[.val (.ref mo), .val (.int (Int32.ofNat fo)), .val (.ref lo)] [(.int (Int32.ofNat fo)), (.ref mo)])) (fun _ k => XS.iloadN X4.here hx rfl (hb hby own_d44_41) rfl k) ?_
  refine OwnFin.adv (B := T4.setTop (mkF m 43 #[.val (.ref mo), .val (.int (Int32.ofNat fo)), .val (.ref lo)] [(.ref lo), (.int (Int32.ofNat fo)), (.ref mo)])) (fun _ k => XS.aloadN X4.here hx rfl (hb hby own_d44_42) rfl rfl k) ?_
  refine OwnFin.adv (B := T4.setTop (mkF m 44 #[.val (.ref mo), .val (.int (Int32.ofNat fo)), .val (.ref lo)] [(.int (4 : Int32)), (.ref lo), (.int (Int32.ofNat fo)), (.ref mo)])) (fun _ k => XS.iconst X4.here hx rfl (hb hby own_d44_43) k) ?_
  obtain ⟨_, _, ⟨T5, L5, k5, n5⟩, -, X5, ⟨Lc5, hQ5, l5, y5, z5⟩, st5⟩ := Jvm.LawKit.callS X4 hx (y := (⟨"com/example/rollbook/rollbook/http/ApiExceptionBodyTooLargePinLaw", "at", "(Ljava/lang/String;ILjava/lang/String;I)Z"⟩ : MethodName)) hown (mvT hZ (hw _ (List.mem_of_getElem? (i := 266) rfl))) (mvT hZ (hw _ (List.mem_of_getElem? (i := 267) rfl))) (mvT hZ (hw _ (List.mem_of_getElem? (i := 258) rfl))) (mvT hZ (hw _ (List.mem_of_getElem? (i := 268) rfl))) (by decide) (backOf (W := 0) (own_at l Z a0 hw [] mo lo zc fm lm ll fo 4 cm cl h0 n0 (by omega) O0 SCS hzc SFM rfm Fq Fl (hag 4) (by decide)) hZ (hw _ (List.mem_of_getElem? (i := 268) rfl)) (hw _ (List.mem_of_getElem? (i := 258) rfl)) (by decide) (by decide)) (g := (mkF m 44 #[.val (.ref mo), .val (.int (Int32.ofNat fo)), .val (.ref lo)] [(.int (4 : Int32)), (.ref lo), (.int (Int32.ofNat fo)), (.ref mo)])) rfl (by rw [hml]; rfl) (argsL := [(.ref mo), (.int (Int32.ofNat fo)), (.ref lo), (.int (4 : Int32))]) (rest := []) (lenOf own_pd_x28Ljavax2flangx2fStringx3bILjavax2flangx2fStringx3bIx29Z rfl) rfl (by show 2 * 0 + _ ≤ _; exact Nat.le_of_eq rfl) (hb hby own_d44_44) (fun _ _ => ⟨rfl, eh4, (by decide : 0 + 0 ≤ _), (by decide : 0 + 0 ≤ _)⟩)
  dsimp only [Pt.U, Pt.locs, Pt.cells, Pt.slots] at X5 l5 y5 z5 st5 hQ5
  subst l5 y5 z5
  obtain ⟨rfl, N5q, eh5⟩ := hQ5
  have N5 := Fr.app N4 N5q
  refine OwnFin.adv (B := T5.setTop (mkF m 47 #[.val (.ref mo), .val (.int (Int32.ofNat fo)), .val (.ref lo)] [(.int (1 : Int32))])) (fun _ k => st5 _ k) ?_
  have hc47_30 : ¬ ((1 : Int32) = (0 : Int32)) := by decide
  refine OwnFin.adv (B := T5.setTop (mkF m 50 #[.val (.ref mo), .val (.int (Int32.ofNat fo)), .val (.ref lo)] [])) (fun _ k => XS.ifNo X5.here hx rfl (hb hby own_d44_47) rfl ((if0 _ _).trans (feq hc47_30).1) k) ?_
  refine OwnFin.adv (B := T5.setTop (mkF m 51 #[.val (.ref mo), .val (.int (Int32.ofNat fo)), .val (.ref lo)] [(.ref mo)])) (fun _ k => XS.aloadN X5.here hx rfl (hb hby own_d44_50) rfl rfl k) ?_
  refine OwnFin.adv (B := T5.setTop (mkF m 52 #[.val (.ref mo), .val (.int (Int32.ofNat fo)), .val (.ref lo)] [(.int (Int32.ofNat fo)), (.ref mo)])) (fun _ k => XS.iloadN X5.here hx rfl (hb hby own_d44_51) rfl k) ?_
  refine OwnFin.adv (B := T5.setTop (mkF m 53 #[.val (.ref mo), .val (.int (Int32.ofNat fo)), .val (.ref lo)] [(.ref lo), (.int (Int32.ofNat fo)), (.ref mo)])) (fun _ k => XS.aloadN X5.here hx rfl (hb hby own_d44_52) rfl rfl k) ?_
  refine OwnFin.adv (B := T5.setTop (mkF m 54 #[.val (.ref mo), .val (.int (Int32.ofNat fo)), .val (.ref lo)] [(.int (5 : Int32)), (.ref lo), (.int (Int32.ofNat fo)), (.ref mo)])) (fun _ k => XS.iconst X5.here hx rfl (hb hby own_d44_53) k) ?_
  obtain ⟨_, _, ⟨T6, L6, k6, n6⟩, -, X6, ⟨Lc6, hQ6, l6, y6, z6⟩, st6⟩ := Jvm.LawKit.callS X5 hx (y := (⟨"com/example/rollbook/rollbook/http/ApiExceptionBodyTooLargePinLaw", "at", "(Ljava/lang/String;ILjava/lang/String;I)Z"⟩ : MethodName)) hown (mvT hZ (hw _ (List.mem_of_getElem? (i := 266) rfl))) (mvT hZ (hw _ (List.mem_of_getElem? (i := 267) rfl))) (mvT hZ (hw _ (List.mem_of_getElem? (i := 258) rfl))) (mvT hZ (hw _ (List.mem_of_getElem? (i := 268) rfl))) (by decide) (backOf (W := 0) (own_at l Z a0 hw [] mo lo zc fm lm ll fo 5 cm cl h0 n0 (by omega) O0 SCS hzc SFM rfm Fq Fl (hag 5) (by decide)) hZ (hw _ (List.mem_of_getElem? (i := 268) rfl)) (hw _ (List.mem_of_getElem? (i := 258) rfl)) (by decide) (by decide)) (g := (mkF m 54 #[.val (.ref mo), .val (.int (Int32.ofNat fo)), .val (.ref lo)] [(.int (5 : Int32)), (.ref lo), (.int (Int32.ofNat fo)), (.ref mo)])) rfl (by rw [hml]; rfl) (argsL := [(.ref mo), (.int (Int32.ofNat fo)), (.ref lo), (.int (5 : Int32))]) (rest := []) (lenOf own_pd_x28Ljavax2flangx2fStringx3bILjavax2flangx2fStringx3bIx29Z rfl) rfl (by show 2 * 0 + _ ≤ _; exact Nat.le_of_eq rfl) (hb hby own_d44_54) (fun _ _ => ⟨rfl, eh5, (by decide : 0 + 0 ≤ _), (by decide : 0 + 0 ≤ _)⟩)
  dsimp only [Pt.U, Pt.locs, Pt.cells, Pt.slots] at X6 l6 y6 z6 st6 hQ6
  subst l6 y6 z6
  obtain ⟨rfl, N6q, eh6⟩ := hQ6
  have N6 := Fr.app N5 N6q
  refine OwnFin.adv (B := T6.setTop (mkF m 57 #[.val (.ref mo), .val (.int (Int32.ofNat fo)), .val (.ref lo)] [(.int (1 : Int32))])) (fun _ k => st6 _ k) ?_
  have hc57_36 : ¬ ((1 : Int32) = (0 : Int32)) := by decide
  refine OwnFin.adv (B := T6.setTop (mkF m 60 #[.val (.ref mo), .val (.int (Int32.ofNat fo)), .val (.ref lo)] [])) (fun _ k => XS.ifNo X6.here hx rfl (hb hby own_d44_57) rfl ((if0 _ _).trans (feq hc57_36).1) k) ?_
  refine OwnFin.adv (B := T6.setTop (mkF m 61 #[.val (.ref mo), .val (.int (Int32.ofNat fo)), .val (.ref lo)] [(.ref mo)])) (fun _ k => XS.aloadN X6.here hx rfl (hb hby own_d44_60) rfl rfl k) ?_
  refine OwnFin.adv (B := T6.setTop (mkF m 62 #[.val (.ref mo), .val (.int (Int32.ofNat fo)), .val (.ref lo)] [(.int (Int32.ofNat fo)), (.ref mo)])) (fun _ k => XS.iloadN X6.here hx rfl (hb hby own_d44_61) rfl k) ?_
  refine OwnFin.adv (B := T6.setTop (mkF m 63 #[.val (.ref mo), .val (.int (Int32.ofNat fo)), .val (.ref lo)] [(.ref lo), (.int (Int32.ofNat fo)), (.ref mo)])) (fun _ k => XS.aloadN X6.here hx rfl (hb hby own_d44_62) rfl rfl k) ?_
  refine OwnFin.adv (B := T6.setTop (mkF m 65 #[.val (.ref mo), .val (.int (Int32.ofNat fo)), .val (.ref lo)] [(.int (6 : Int32)), (.ref lo), (.int (Int32.ofNat fo)), (.ref mo)])) (fun _ k => XS.bipush X6.here hx rfl (hb hby own_d44_63) k) ?_
  obtain ⟨_, _, ⟨T7, L7, k7, n7⟩, -, X7, ⟨Lc7, hQ7, l7, y7, z7⟩, st7⟩ := Jvm.LawKit.callS X6 hx (y := (⟨"com/example/rollbook/rollbook/http/ApiExceptionBodyTooLargePinLaw", "at", "(Ljava/lang/String;ILjava/lang/String;I)Z"⟩ : MethodName)) hown (mvT hZ (hw _ (List.mem_of_getElem? (i := 266) rfl))) (mvT hZ (hw _ (List.mem_of_getElem? (i := 267) rfl))) (mvT hZ (hw _ (List.mem_of_getElem? (i := 258) rfl))) (mvT hZ (hw _ (List.mem_of_getElem? (i := 268) rfl))) (by decide) (backOf (W := 0) (own_at l Z a0 hw [] mo lo zc fm lm ll fo 6 cm cl h0 n0 (by omega) O0 SCS hzc SFM rfm Fq Fl (hag 6) (by decide)) hZ (hw _ (List.mem_of_getElem? (i := 268) rfl)) (hw _ (List.mem_of_getElem? (i := 258) rfl)) (by decide) (by decide)) (g := (mkF m 65 #[.val (.ref mo), .val (.int (Int32.ofNat fo)), .val (.ref lo)] [(.int (6 : Int32)), (.ref lo), (.int (Int32.ofNat fo)), (.ref mo)])) rfl (by rw [hml]; rfl) (argsL := [(.ref mo), (.int (Int32.ofNat fo)), (.ref lo), (.int (6 : Int32))]) (rest := []) (lenOf own_pd_x28Ljavax2flangx2fStringx3bILjavax2flangx2fStringx3bIx29Z rfl) rfl (by show 2 * 0 + _ ≤ _; exact Nat.le_of_eq rfl) (hb hby own_d44_65) (fun _ _ => ⟨rfl, eh6, (by decide : 0 + 0 ≤ _), (by decide : 0 + 0 ≤ _)⟩)
  dsimp only [Pt.U, Pt.locs, Pt.cells, Pt.slots] at X7 l7 y7 z7 st7 hQ7
  subst l7 y7 z7
  obtain ⟨rfl, N7q, eh7⟩ := hQ7
  have N7 := Fr.app N6 N7q
  refine OwnFin.adv (B := T7.setTop (mkF m 68 #[.val (.ref mo), .val (.int (Int32.ofNat fo)), .val (.ref lo)] [(.int (1 : Int32))])) (fun _ k => st7 _ k) ?_
  have hc68_42 : ¬ ((1 : Int32) = (0 : Int32)) := by decide
  refine OwnFin.adv (B := T7.setTop (mkF m 71 #[.val (.ref mo), .val (.int (Int32.ofNat fo)), .val (.ref lo)] [])) (fun _ k => XS.ifNo X7.here hx rfl (hb hby own_d44_68) rfl ((if0 _ _).trans (feq hc68_42).1) k) ?_
  refine OwnFin.adv (B := T7.setTop (mkF m 72 #[.val (.ref mo), .val (.int (Int32.ofNat fo)), .val (.ref lo)] [(.ref mo)])) (fun _ k => XS.aloadN X7.here hx rfl (hb hby own_d44_71) rfl rfl k) ?_
  refine OwnFin.adv (B := T7.setTop (mkF m 73 #[.val (.ref mo), .val (.int (Int32.ofNat fo)), .val (.ref lo)] [(.int (Int32.ofNat fo)), (.ref mo)])) (fun _ k => XS.iloadN X7.here hx rfl (hb hby own_d44_72) rfl k) ?_
  refine OwnFin.adv (B := T7.setTop (mkF m 74 #[.val (.ref mo), .val (.int (Int32.ofNat fo)), .val (.ref lo)] [(.ref lo), (.int (Int32.ofNat fo)), (.ref mo)])) (fun _ k => XS.aloadN X7.here hx rfl (hb hby own_d44_73) rfl rfl k) ?_
  refine OwnFin.adv (B := T7.setTop (mkF m 76 #[.val (.ref mo), .val (.int (Int32.ofNat fo)), .val (.ref lo)] [(.int (7 : Int32)), (.ref lo), (.int (Int32.ofNat fo)), (.ref mo)])) (fun _ k => XS.bipush X7.here hx rfl (hb hby own_d44_74) k) ?_
  obtain ⟨_, _, ⟨T8, L8, k8, n8⟩, -, X8, ⟨Lc8, hQ8, l8, y8, z8⟩, st8⟩ := Jvm.LawKit.callS X7 hx (y := (⟨"com/example/rollbook/rollbook/http/ApiExceptionBodyTooLargePinLaw", "at", "(Ljava/lang/String;ILjava/lang/String;I)Z"⟩ : MethodName)) hown (mvT hZ (hw _ (List.mem_of_getElem? (i := 266) rfl))) (mvT hZ (hw _ (List.mem_of_getElem? (i := 267) rfl))) (mvT hZ (hw _ (List.mem_of_getElem? (i := 258) rfl))) (mvT hZ (hw _ (List.mem_of_getElem? (i := 268) rfl))) (by decide) (backOf (W := 0) (own_at l Z a0 hw [] mo lo zc fm lm ll fo 7 cm cl h0 n0 (by omega) O0 SCS hzc SFM rfm Fq Fl (hag 7) (by decide)) hZ (hw _ (List.mem_of_getElem? (i := 268) rfl)) (hw _ (List.mem_of_getElem? (i := 258) rfl)) (by decide) (by decide)) (g := (mkF m 76 #[.val (.ref mo), .val (.int (Int32.ofNat fo)), .val (.ref lo)] [(.int (7 : Int32)), (.ref lo), (.int (Int32.ofNat fo)), (.ref mo)])) rfl (by rw [hml]; rfl) (argsL := [(.ref mo), (.int (Int32.ofNat fo)), (.ref lo), (.int (7 : Int32))]) (rest := []) (lenOf own_pd_x28Ljavax2flangx2fStringx3bILjavax2flangx2fStringx3bIx29Z rfl) rfl (by show 2 * 0 + _ ≤ _; exact Nat.le_of_eq rfl) (hb hby own_d44_76) (fun _ _ => ⟨rfl, eh7, (by decide : 0 + 0 ≤ _), (by decide : 0 + 0 ≤ _)⟩)
  dsimp only [Pt.U, Pt.locs, Pt.cells, Pt.slots] at X8 l8 y8 z8 st8 hQ8
  subst l8 y8 z8
  obtain ⟨rfl, N8q, eh8⟩ := hQ8
  have N8 := Fr.app N7 N8q
  refine OwnFin.adv (B := T8.setTop (mkF m 79 #[.val (.ref mo), .val (.int (Int32.ofNat fo)), .val (.ref lo)] [(.int (1 : Int32))])) (fun _ k => st8 _ k) ?_
  have hc79_48 : ¬ ((1 : Int32) = (0 : Int32)) := by decide
  refine OwnFin.adv (B := T8.setTop (mkF m 82 #[.val (.ref mo), .val (.int (Int32.ofNat fo)), .val (.ref lo)] [])) (fun _ k => XS.ifNo X8.here hx rfl (hb hby own_d44_79) rfl ((if0 _ _).trans (feq hc79_48).1) k) ?_
  refine OwnFin.adv (B := T8.setTop (mkF m 83 #[.val (.ref mo), .val (.int (Int32.ofNat fo)), .val (.ref lo)] [(.int (1 : Int32))])) (fun _ k => XS.iconst X8.here hx rfl (hb hby own_d44_82) k) ?_
  refine OwnFin.adv (B := T8.setTop (mkF m 87 #[.val (.ref mo), .val (.int (Int32.ofNat fo)), .val (.ref lo)] [(.int (1 : Int32))])) (fun _ k => XS.goto X8.here hx rfl (pc0 := 83) (pc' := 87) rfl (hb hby own_d44_83) (by decide) (by decide) k) ?_
  obtain ⟨fs, hr, hrun, hended, hW, hsame⟩ := X8.leave (v := some (.int (1 : Int32))) (fun h => by rw [Bd.returns] at h; cases h)
  refine OwnFin.leaf hP' ⟨_, _, retN X8 hx (t := .boolean) Bd.returns (by simp) (hb hby own_d44_87) hr, hrun, hended, _, _, rfl, ?_, ⟨_, rfl⟩, hW, hsame.mono (by decide) (by decide)⟩
  exact ⟨rfl, N8, eh8⟩
theorem own_d51_0 : decode method_4_code 0 = .ok (.iload 5, 2) := by decide +kernel
theorem own_d51_2 : decode method_4_code 2 = .ok (.iload 4, 2) := by decide +kernel
theorem own_d51_4 : decode method_4_code 4 = .ok (.if_icmp .lt 5, 3) := by decide +kernel
theorem own_d51_9 : decode method_4_code 9 = .ok (.lload_n 2, 1) := by decide +kernel
theorem own_d51_10 : decode method_4_code 10 = .ok (.aload 6, 2) := by decide +kernel
theorem own_d51_12 : decode method_4_code 12 = .ok (.iload 4, 2) := by decide +kernel
theorem own_d51_14 : decode method_4_code 14 = .ok (.iconst 1, 1) := by decide +kernel
theorem own_d51_15 : decode method_4_code 15 = .ok (.isub, 1) := by decide +kernel
theorem own_d51_16 : decode method_4_code 16 = .ok (.iload 5, 2) := by decide +kernel
theorem own_d51_18 : decode method_4_code 18 = .ok (.isub, 1) := by decide +kernel
theorem own_d51_19 : decode method_4_code 19 = .ok (.laload, 1) := by decide +kernel
theorem own_d51_20 : decode method_4_code 20 = .ok (.ldiv, 1) := by decide +kernel
theorem own_d51_21 : decode method_4_code 21 = .ok (.ldc2_w 58, 3) := by decide +kernel
theorem own_d51_24 : decode method_4_code 24 = .ok (.lrem, 1) := by decide +kernel
theorem own_d51_25 : decode method_4_code 25 = .ok (.lstore 7, 2) := by decide +kernel
theorem own_d51_27 : decode method_4_code 27 = .ok (.iload_n 1, 1) := by decide +kernel
theorem own_d51_28 : decode method_4_code 28 = .ok (.iload 5, 2) := by decide +kernel
theorem own_d51_30 : decode method_4_code 30 = .ok (.iadd, 1) := by decide +kernel
theorem own_d51_31 : decode method_4_code 31 = .ok (.istore 9, 2) := by decide +kernel
theorem own_d51_33 : decode method_4_code 33 = .ok (.iload 9, 2) := by decide +kernel
theorem own_d51_35 : decode method_4_code 35 = .ok (.aload_n 0, 1) := by decide +kernel
theorem own_d51_36 : decode method_4_code 36 = .ok (.invokevirtual 37, 3) := by decide +kernel
theorem own_d51_39 : decode method_4_code 39 = .ok (.if_icmp .ge 24, 3) := by decide +kernel
theorem own_d51_42 : decode method_4_code 42 = .ok (.aload_n 0, 1) := by decide +kernel
theorem own_d51_43 : decode method_4_code 43 = .ok (.iload 9, 2) := by decide +kernel
theorem own_d51_45 : decode method_4_code 45 = .ok (.invokevirtual 54, 3) := by decide +kernel
theorem own_d51_48 : decode method_4_code 48 = .ok (.ldc2_w 82, 3) := by decide +kernel
theorem own_d51_51 : decode method_4_code 51 = .ok (.lload 7, 2) := by decide +kernel
theorem own_d51_53 : decode method_4_code 53 = .ok (.ladd, 1) := by decide +kernel
theorem own_d51_54 : decode method_4_code 54 = .ok (.l2i, 1) := by decide +kernel
theorem own_d51_55 : decode method_4_code 55 = .ok (.i2c, 1) := by decide +kernel
theorem own_d51_56 : decode method_4_code 56 = .ok (.if_icmp .ne 7, 3) := by decide +kernel
theorem own_d51_59 : decode method_4_code 59 = .ok (.iconst 1, 1) := by decide +kernel
theorem own_d51_60 : decode method_4_code 60 = .ok (.goto 4, 3) := by decide +kernel
theorem own_d51_64 : decode method_4_code 64 = .ok (.ireturn, 1) := by decide +kernel
theorem own_d51_7 : decode method_4_code 7 = .ok (.iconst 1, 1) := by decide +kernel
theorem own_d51_8 : decode method_4_code 8 = .ok (.ireturn, 1) := by decide +kernel
theorem own_ef_dig (m : MethodId) (x0 : Addr) (x1 : Int32) (x2 : Int64) (x3 : Int32) (x4 : Int32) (x5 : Addr) : entryFrame m #[(.ref x0), (.int x1), (.long x2), (.int x3), (.int x4), (.ref x5)] 10 = mkF m 0 #[.val (.ref x0), .val (.int x1), .val (.long x2), .second, .val (.int x3), .val (.int x4), .val (.ref x5), .unset, .unset, .unset] [] := by first | (simp [entryFrame, mkF, argsToLocals, Value.category]; done) | rfl
def own_Q_dig (Z : State) (mo pa : Addr) (kp : ClassId) (zc : Int32) (fm : Value) (lm sn nn dd jj : Nat) (cm : List Int32) (h0 : Heap) (n0 : Nat) (v : Option Value) (h : Heap) (L : List Loc) : Prop := v = some (.int (1 : Int32)) ∧ Fr n0 L ∧ h = h0
set_option maxRecDepth 65536 in
set_option maxHeartbeats 40000000 in
theorem own_dig (l : Launch) (Z : State) (a0 : Array Value) (hw : ∀ d ∈ tables_1, d.before a0 Z = true) (ws : List Jvm.Cond) (mo pa : Addr) (kp : ClassId) (zc : Int32) (fm : Value) (lm sn nn dd jj : Nat) (cm : List Int32) (h0 : Heap) (n0 : Nat) (Z0 : n0 ≤ h0.size) (O0 : Old Z n0 h0) (SCS : Sta Z Z.heap "java/lang/String" "COMPACT_STRINGS" "Z" (.int zc)) (hzc : ¬ zc = 0) (SFM : Sta Z Z.heap "jdk/internal/util/Preconditions" "SIOOBE_FORMATTER" "Ljava/util/function/BiFunction;" fm) (rfm : fm.isRef = true) (Fq : OwnS Z h0 lm mo cm) (Vp : Arv Z h0 pa kp .long (10 : Int32) own_P10 (.long (0 : Int64))) (hnn : nn ≤ 2 ^ 31) (hdd : 1 ≤ dd ∧ dd ≤ 10) (hjj : jj ≤ 9) (hsn : sn ≤ 100) (hag : jj < dd → sn + jj < cm.length ∧ cm.getD (sn + jj) 0 = Int32.ofNat (48 + nn / 10 ^ (dd - 1 - jj) % 10)) :
    MetFree l (⟨"com/example/rollbook/rollbook/http/ApiExceptionBodyTooLargePinLaw", "dig", "(Ljava/lang/String;IJII[J)Z"⟩ : MethodName) (head1 (Jvm.Cond.code (⟨"com/example/rollbook/rollbook/http/ApiExceptionBodyTooLargePinLaw", "dig", "(Ljava/lang/String;IJII[J)Z"⟩ : MethodName) method_4_code 10 (some .boolean) :: ws) ({ frames := 4, cells := 0, slots := 0, locals := 53 } : Room)) (fun A0 U0 => A0 = #[(.ref mo), (.int (Int32.ofNat sn)), (.long (Int64.ofNat nn)), (.int (Int32.ofNat dd)), (.int (Int32.ofNat jj)), (.ref pa)] ∧ Z.Warmed39 U0.vm ∧ U0.heap = h0) (fun _ _ _ _ _ => True) (fun _ U0 o0 U1 => ∃ v0 L0, o0 = .returned v0 ∧ own_Q_dig Z mo pa kp zc fm lm sn nn dd jj cm h0 n0 v0 U1.heap L0 ∧ FrameEnd U0 o0 U1 L0 ({ frames := 4, cells := 0, slots := 0, locals := 53 } : Room).cells ({ frames := 4, cells := 0, slots := 0, locals := 53 } : Room).slots) := by
  refine MetFree.of_bodySF (plainFor_of_name own_pn_com_example_rollbook_rollbook_http_ApiExceptionBodyTooLargePinLaw) hisR ?_
  intro p e s m args below meth c s₁ Bd hml0 hP hK
  obtain ⟨rfl, hZ, hh⟩ := hP
  have hZs0 := hZ
  have hZs := hZ
  have hx := Bd.exec
  have hby := Bd.bytes
  have hby_ := hby
  have hml : c.maxLocals = 10 := hml0
  have hown : s.vm.findClass "com/example/rollbook/rollbook/http/ApiExceptionBodyTooLargePinLaw" = some m.cls := findClass_of_methodNamed Bd.named
  have hnm := (name_of_methodNamed Bd.named Bd.method).1
  have X0 : Stand p l e ({ frames := 4, cells := 0, slots := 0, locals := 53 } : Room) s m #[(.ref mo), (.int (Int32.ofNat sn)), (.long (Int64.ofNat nn)), (.int (Int32.ofNat dd)), (.int (Int32.ofNat jj)), (.ref pa)] below meth c s₁ [] 0 0 := Stand.of_body Bd
  have e0 : s₁.heap = h0 := by rw [← hh, Bd.state]; rfl
  have N0 := Fr.nil n0
  refine OwnFin.entry (own_ef_dig m mo (Int32.ofNat sn) (Int64.ofNat nn) (Int32.ofNat dd) (Int32.ofNat jj) pa) (fun P' hP' => ?_)
  have lnq := OwnS.len Fq
  refine OwnFin.adv (B := s₁.setTop (mkF m 2 #[.val (.ref mo), .val (.int (Int32.ofNat sn)), .val (.long (Int64.ofNat nn)), .second, .val (.int (Int32.ofNat dd)), .val (.int (Int32.ofNat jj)), .val (.ref pa), .unset, .unset, .unset] [(.int (Int32.ofNat jj))])) (fun _ k => XS.iload X0.here hx rfl (hb hby own_d51_0) rfl k) ?_
  refine OwnFin.adv (B := s₁.setTop (mkF m 4 #[.val (.ref mo), .val (.int (Int32.ofNat sn)), .val (.long (Int64.ofNat nn)), .second, .val (.int (Int32.ofNat dd)), .val (.int (Int32.ofNat jj)), .val (.ref pa), .unset, .unset, .unset] [(.int (Int32.ofNat dd)), (.int (Int32.ofNat jj))])) (fun _ k => XS.iload X0.here hx rfl (hb hby own_d51_2) rfl k) ?_
  by_cases hc4 : (Int32.ofNat jj) < (Int32.ofNat dd)
  ·
    refine OwnFin.adv (B := s₁.setTop (mkF m 9 #[.val (.ref mo), .val (.int (Int32.ofNat sn)), .val (.long (Int64.ofNat nn)), .second, .val (.int (Int32.ofNat dd)), .val (.int (Int32.ofNat jj)), .val (.ref pa), .unset, .unset, .unset] [])) (fun _ k => XS.icmpYes X0.here hx rfl (pc0 := 4) (pc' := 9) rfl (hb hby own_d51_4) rfl (tlt hc4).1 (by decide) (by decide) k) ?_
    have hjd : jj < dd := (own_ltn (by omega) (by omega)).mp hc4
    obtain ⟨ha1, ha2⟩ := hag hjd
    have hx9 : dd - 1 - jj ≤ 9 := by omega
    refine OwnFin.adv (B := s₁.setTop (mkF m 10 #[.val (.ref mo), .val (.int (Int32.ofNat sn)), .val (.long (Int64.ofNat nn)), .second, .val (.int (Int32.ofNat dd)), .val (.int (Int32.ofNat jj)), .val (.ref pa), .unset, .unset, .unset] [(.long (Int64.ofNat nn))])) (fun _ k => XS.lloadN X0.here hx rfl (hb hby own_d51_9) rfl k) ?_
    refine OwnFin.adv (B := s₁.setTop (mkF m 12 #[.val (.ref mo), .val (.int (Int32.ofNat sn)), .val (.long (Int64.ofNat nn)), .second, .val (.int (Int32.ofNat dd)), .val (.int (Int32.ofNat jj)), .val (.ref pa), .unset, .unset, .unset] [(.ref pa), (.long (Int64.ofNat nn))])) (fun _ k => XS.aload X0.here hx rfl (hb hby own_d51_10) rfl rfl k) ?_
    refine OwnFin.adv (B := s₁.setTop (mkF m 14 #[.val (.ref mo), .val (.int (Int32.ofNat sn)), .val (.long (Int64.ofNat nn)), .second, .val (.int (Int32.ofNat dd)), .val (.int (Int32.ofNat jj)), .val (.ref pa), .unset, .unset, .unset] [(.int (Int32.ofNat dd)), (.ref pa), (.long (Int64.ofNat nn))])) (fun _ k => XS.iload X0.here hx rfl (hb hby own_d51_12) rfl k) ?_
    refine OwnFin.adv (B := s₁.setTop (mkF m 15 #[.val (.ref mo), .val (.int (Int32.ofNat sn)), .val (.long (Int64.ofNat nn)), .second, .val (.int (Int32.ofNat dd)), .val (.int (Int32.ofNat jj)), .val (.ref pa), .unset, .unset, .unset] [(.int (1 : Int32)), (.int (Int32.ofNat dd)), (.ref pa), (.long (Int64.ofNat nn))])) (fun _ k => XS.iconst X0.here hx rfl (hb hby own_d51_14) k) ?_
    refine OwnFin.adv (B := s₁.setTop (mkF m 16 #[.val (.ref mo), .val (.int (Int32.ofNat sn)), .val (.long (Int64.ofNat nn)), .second, .val (.int (Int32.ofNat dd)), .val (.int (Int32.ofNat jj)), .val (.ref pa), .unset, .unset, .unset] [(.int ((Int32.ofNat dd) - (1 : Int32))), (.ref pa), (.long (Int64.ofNat nn))])) (fun _ k => XS.isub X0.here hx rfl (hb hby own_d51_15) rfl k) ?_
    rw [show (((Int32.ofNat dd) - (1 : Int32)) : Int32) = (Int32.ofNat (dd - 1)) from own_sub (b := 1) hdd.1]
    refine OwnFin.adv (B := s₁.setTop (mkF m 18 #[.val (.ref mo), .val (.int (Int32.ofNat sn)), .val (.long (Int64.ofNat nn)), .second, .val (.int (Int32.ofNat dd)), .val (.int (Int32.ofNat jj)), .val (.ref pa), .unset, .unset, .unset] [(.int (Int32.ofNat jj)), (.int (Int32.ofNat (dd - 1))), (.ref pa), (.long (Int64.ofNat nn))])) (fun _ k => XS.iload X0.here hx rfl (hb hby own_d51_16) rfl k) ?_
    refine OwnFin.adv (B := s₁.setTop (mkF m 19 #[.val (.ref mo), .val (.int (Int32.ofNat sn)), .val (.long (Int64.ofNat nn)), .second, .val (.int (Int32.ofNat dd)), .val (.int (Int32.ofNat jj)), .val (.ref pa), .unset, .unset, .unset] [(.int ((Int32.ofNat (dd - 1)) - (Int32.ofNat jj))), (.ref pa), (.long (Int64.ofNat nn))])) (fun _ k => XS.isub X0.here hx rfl (hb hby own_d51_18) rfl k) ?_
    rw [show (((Int32.ofNat (dd - 1)) - (Int32.ofNat jj)) : Int32) = (Int32.ofNat (dd - 1 - jj)) from own_sub (by omega)]
    obtain ⟨cl1, Ar1, ck1, S1, M1, H1, G1⟩ := id Vp
    have hin1 : ¬ ((Int32.ofNat (dd - 1 - jj)) < 0 ∨ cl1.slots.size ≤ ((Int32.ofNat (dd - 1 - jj))).toNatClampNeg) := inb_of S1 ⟨own_nn (by omega), (own_ltn (b := 10) (by omega) (by omega)).mpr (by omega)⟩
    refine OwnFin.adv (B := s₁.setTop (mkF m 20 #[.val (.ref mo), .val (.int (Int32.ofNat sn)), .val (.long (Int64.ofNat nn)), .second, .val (.int (Int32.ofNat dd)), .val (.int (Int32.ofNat jj)), .val (.ref pa), .unset, .unset, .unset] [(.long (Int64.ofNat (10 ^ (dd - 1 - jj)))), (.long (Int64.ofNat nn))])) (fun _ k => X0.laload hx (j := (Int32.ofNat (dd - 1 - jj))) (v := (.long (Int64.ofNat (10 ^ (dd - 1 - jj))))) (by rw [e0]; exact Ar1.1) (State.isArrayOf_alike hZ.alike Ar1.2.1) Ar1.2.2 hin1 (Has.at H1 hin1 (by rw [own_cl (by omega)]; exact own_p10 hx9)) (g := (mkF m 19 #[.val (.ref mo), .val (.int (Int32.ofNat sn)), .val (.long (Int64.ofNat nn)), .second, .val (.int (Int32.ofNat dd)), .val (.int (Int32.ofNat jj)), .val (.ref pa), .unset, .unset, .unset] [(.int (Int32.ofNat (dd - 1 - jj))), (.ref pa), (.long (Int64.ofNat nn))])) rfl rfl (hb hby own_d51_19) _ k) ?_
    refine OwnFin.adv (B := s₁.setTop (mkF m 21 #[.val (.ref mo), .val (.int (Int32.ofNat sn)), .val (.long (Int64.ofNat nn)), .second, .val (.int (Int32.ofNat dd)), .val (.int (Int32.ofNat jj)), .val (.ref pa), .unset, .unset, .unset] [(.long ((Int64.ofNat nn) / (Int64.ofNat (10 ^ (dd - 1 - jj)))))])) (fun _ k => XS.ldiv X0.here hx rfl (hb hby own_d51_20) rfl (own_jne (own_jpow hx9).1 (own_jpow hx9).2).2 k) ?_
    refine OwnFin.adv (B := s₁.setTop (mkF m 24 #[.val (.ref mo), .val (.int (Int32.ofNat sn)), .val (.long (Int64.ofNat nn)), .second, .val (.int (Int32.ofNat dd)), .val (.int (Int32.ofNat jj)), .val (.ref pa), .unset, .unset, .unset] [(.long (10 : Int64)), (.long ((Int64.ofNat nn) / (Int64.ofNat (10 ^ (dd - 1 - jj)))))])) (fun _ k => X0.ldc2Long hx hown (mvT hZ (hw _ (List.mem_of_getElem? (i := 260) rfl))) (g := (mkF m 21 #[.val (.ref mo), .val (.int (Int32.ofNat sn)), .val (.long (Int64.ofNat nn)), .second, .val (.int (Int32.ofNat dd)), .val (.int (Int32.ofNat jj)), .val (.ref pa), .unset, .unset, .unset] [(.long ((Int64.ofNat nn) / (Int64.ofNat (10 ^ (dd - 1 - jj)))))])) rfl (hb hby own_d51_21) _ k) ?_
    refine OwnFin.adv (B := s₁.setTop (mkF m 25 #[.val (.ref mo), .val (.int (Int32.ofNat sn)), .val (.long (Int64.ofNat nn)), .second, .val (.int (Int32.ofNat dd)), .val (.int (Int32.ofNat jj)), .val (.ref pa), .unset, .unset, .unset] [(.long (((Int64.ofNat nn) / (Int64.ofNat (10 ^ (dd - 1 - jj)))) - (((Int64.ofNat nn) / (Int64.ofNat (10 ^ (dd - 1 - jj)))) / (10 : Int64)) * (10 : Int64)))])) (fun _ k => XS.lrem X0.here hx rfl (hb hby own_d51_24) rfl (by decide) k) ?_
    refine OwnFin.adv (B := s₁.setTop (mkF m 27 #[.val (.ref mo), .val (.int (Int32.ofNat sn)), .val (.long (Int64.ofNat nn)), .second, .val (.int (Int32.ofNat dd)), .val (.int (Int32.ofNat jj)), .val (.ref pa), .val (.long (((Int64.ofNat nn) / (Int64.ofNat (10 ^ (dd - 1 - jj)))) - (((Int64.ofNat nn) / (Int64.ofNat (10 ^ (dd - 1 - jj)))) / (10 : Int64)) * (10 : Int64))), .second, .unset] [])) (fun _ k => XS.lstore X0.here hx rfl (hb hby own_d51_25) rfl (l' := #[.val (.ref mo), .val (.int (Int32.ofNat sn)), .val (.long (Int64.ofNat nn)), .second, .val (.int (Int32.ofNat dd)), .val (.int (Int32.ofNat jj)), .val (.ref pa), .val (.long (((Int64.ofNat nn) / (Int64.ofNat (10 ^ (dd - 1 - jj)))) - (((Int64.ofNat nn) / (Int64.ofNat (10 ^ (dd - 1 - jj)))) / (10 : Int64)) * (10 : Int64))), .second, .unset]) rfl k) ?_
    refine OwnFin.adv (B := s₁.setTop (mkF m 28 #[.val (.ref mo), .val (.int (Int32.ofNat sn)), .val (.long (Int64.ofNat nn)), .second, .val (.int (Int32.ofNat dd)), .val (.int (Int32.ofNat jj)), .val (.ref pa), .val (.long (((Int64.ofNat nn) / (Int64.ofNat (10 ^ (dd - 1 - jj)))) - (((Int64.ofNat nn) / (Int64.ofNat (10 ^ (dd - 1 - jj)))) / (10 : Int64)) * (10 : Int64))), .second, .unset] [(.int (Int32.ofNat sn))])) (fun _ k => XS.iloadN X0.here hx rfl (hb hby own_d51_27) rfl k) ?_
    refine OwnFin.adv (B := s₁.setTop (mkF m 30 #[.val (.ref mo), .val (.int (Int32.ofNat sn)), .val (.long (Int64.ofNat nn)), .second, .val (.int (Int32.ofNat dd)), .val (.int (Int32.ofNat jj)), .val (.ref pa), .val (.long (((Int64.ofNat nn) / (Int64.ofNat (10 ^ (dd - 1 - jj)))) - (((Int64.ofNat nn) / (Int64.ofNat (10 ^ (dd - 1 - jj)))) / (10 : Int64)) * (10 : Int64))), .second, .unset] [(.int (Int32.ofNat jj)), (.int (Int32.ofNat sn))])) (fun _ k => XS.iload X0.here hx rfl (hb hby own_d51_28) rfl k) ?_
    refine OwnFin.adv (B := s₁.setTop (mkF m 31 #[.val (.ref mo), .val (.int (Int32.ofNat sn)), .val (.long (Int64.ofNat nn)), .second, .val (.int (Int32.ofNat dd)), .val (.int (Int32.ofNat jj)), .val (.ref pa), .val (.long (((Int64.ofNat nn) / (Int64.ofNat (10 ^ (dd - 1 - jj)))) - (((Int64.ofNat nn) / (Int64.ofNat (10 ^ (dd - 1 - jj)))) / (10 : Int64)) * (10 : Int64))), .second, .unset] [(.int ((Int32.ofNat sn) + (Int32.ofNat jj)))])) (fun _ k => XS.iadd X0.here hx rfl (hb hby own_d51_30) rfl k) ?_
    rw [show (((Int32.ofNat sn) + (Int32.ofNat jj)) : Int32) = (Int32.ofNat (sn + jj)) from own_add _ _]
    refine OwnFin.adv (B := s₁.setTop (mkF m 33 #[.val (.ref mo), .val (.int (Int32.ofNat sn)), .val (.long (Int64.ofNat nn)), .second, .val (.int (Int32.ofNat dd)), .val (.int (Int32.ofNat jj)), .val (.ref pa), .val (.long (((Int64.ofNat nn) / (Int64.ofNat (10 ^ (dd - 1 - jj)))) - (((Int64.ofNat nn) / (Int64.ofNat (10 ^ (dd - 1 - jj)))) / (10 : Int64)) * (10 : Int64))), .second, .val (.int (Int32.ofNat (sn + jj)))] [])) (fun _ k => XS.istore X0.here hx rfl (hb hby own_d51_31) rfl (l' := #[.val (.ref mo), .val (.int (Int32.ofNat sn)), .val (.long (Int64.ofNat nn)), .second, .val (.int (Int32.ofNat dd)), .val (.int (Int32.ofNat jj)), .val (.ref pa), .val (.long (((Int64.ofNat nn) / (Int64.ofNat (10 ^ (dd - 1 - jj)))) - (((Int64.ofNat nn) / (Int64.ofNat (10 ^ (dd - 1 - jj)))) / (10 : Int64)) * (10 : Int64))), .second, .val (.int (Int32.ofNat (sn + jj)))]) rfl k) ?_
    refine OwnFin.adv (B := s₁.setTop (mkF m 35 #[.val (.ref mo), .val (.int (Int32.ofNat sn)), .val (.long (Int64.ofNat nn)), .second, .val (.int (Int32.ofNat dd)), .val (.int (Int32.ofNat jj)), .val (.ref pa), .val (.long (((Int64.ofNat nn) / (Int64.ofNat (10 ^ (dd - 1 - jj)))) - (((Int64.ofNat nn) / (Int64.ofNat (10 ^ (dd - 1 - jj)))) / (10 : Int64)) * (10 : Int64))), .second, .val (.int (Int32.ofNat (sn + jj)))] [(.int (Int32.ofNat (sn + jj)))])) (fun _ k => XS.iload X0.here hx rfl (hb hby own_d51_33) rfl k) ?_
    refine OwnFin.adv (B := s₁.setTop (mkF m 36 #[.val (.ref mo), .val (.int (Int32.ofNat sn)), .val (.long (Int64.ofNat nn)), .second, .val (.int (Int32.ofNat dd)), .val (.int (Int32.ofNat jj)), .val (.ref pa), .val (.long (((Int64.ofNat nn) / (Int64.ofNat (10 ^ (dd - 1 - jj)))) - (((Int64.ofNat nn) / (Int64.ofNat (10 ^ (dd - 1 - jj)))) / (10 : Int64)) * (10 : Int64))), .second, .val (.int (Int32.ofNat (sn + jj)))] [(.ref mo), (.int (Int32.ofNat (sn + jj)))])) (fun _ k => XS.aloadN X0.here hx rfl (hb hby own_d51_35) rfl rfl k) ?_
    obtain ⟨ts3, ks3, Es3, Vs3, Cs3, As3, lx3, lt3, hp3, l23⟩ := id Fq
    have lx3 := own_lt lx3
    have lt3 := own_lt lt3
    have ltx3 := own_lt Es3.lt
    have ltt3 := own_lt As3.lt
    obtain ⟨cq2, kq2, q2a, q2b, q2c⟩ := isOf hZ e0 Es3
    obtain ⟨_, _, ⟨T2, L2, k2, n2⟩, -, X2, ⟨Lc2, hQ2, l2, y2, z2⟩, st2⟩ := X0.virtualBack hx (y := (⟨"java/lang/String", "length", "()I"⟩ : MethodName)) (z := (⟨"java/lang/String", "length", "()I"⟩ : MethodName)) hown (mvT hZ (hw _ (List.mem_of_getElem? (i := 261) rfl))) (mvT hZ (hw _ (List.mem_of_getElem? (i := 45) rfl))) (notFace_of_selects (args := #[]) (mvT hZ (hw _ (List.mem_of_getElem? (i := 47) rfl)))) (mvT hZ (hw _ (List.mem_of_getElem? (i := 47) rfl))) (mvT hZ (hw _ (List.mem_of_getElem? (i := 46) rfl))) (by decide) (backOf (W := 1) (own_strLen l Z a0 hw [] mo zc (lm) cm h0 n0 (by omega) O0 SCS hzc Fq) hZ (hw _ (List.mem_of_getElem? (i := 48) rfl)) (hw _ (List.mem_of_getElem? (i := 22) rfl)) (by decide) (by decide)) q2a q2c (g := (mkF m 36 #[.val (.ref mo), .val (.int (Int32.ofNat sn)), .val (.long (Int64.ofNat nn)), .second, .val (.int (Int32.ofNat dd)), .val (.int (Int32.ofNat jj)), .val (.ref pa), .val (.long (((Int64.ofNat nn) / (Int64.ofNat (10 ^ (dd - 1 - jj)))) - (((Int64.ofNat nn) / (Int64.ofNat (10 ^ (dd - 1 - jj)))) / (10 : Int64)) * (10 : Int64))), .second, .val (.int (Int32.ofNat (sn + jj)))] [(.ref mo), (.int (Int32.ofNat (sn + jj)))])) rfl (by rw [hml]; rfl) (Steps.refl _) (argsL := []) (rest := [(.int (Int32.ofNat (sn + jj)))]) (lenOf own_pd_x28x29I rfl) rfl (by show 2 * 0 + _ ≤ _; exact Nat.le_of_eq rfl) (hb hby own_d51_36) (fun _ _ => ⟨rfl, e0, (by decide : 0 + 0 ≤ _), (by decide : 0 + 0 ≤ _)⟩)
    dsimp only [Pt.U, Pt.locs, Pt.cells, Pt.slots] at X2 l2 y2 z2 st2 hQ2
    subst l2 y2 z2
    obtain ⟨rfl, N2q, eh2⟩ := hQ2
    have N2 := Fr.app N0 N2q
    refine OwnFin.adv (B := T2.setTop (mkF m 39 #[.val (.ref mo), .val (.int (Int32.ofNat sn)), .val (.long (Int64.ofNat nn)), .second, .val (.int (Int32.ofNat dd)), .val (.int (Int32.ofNat jj)), .val (.ref pa), .val (.long (((Int64.ofNat nn) / (Int64.ofNat (10 ^ (dd - 1 - jj)))) - (((Int64.ofNat nn) / (Int64.ofNat (10 ^ (dd - 1 - jj)))) / (10 : Int64)) * (10 : Int64))), .second, .val (.int (Int32.ofNat (sn + jj)))] [(.int (Int32.ofNat (cm).length)), (.int (Int32.ofNat (sn + jj)))])) (fun _ k => st2.trans k) ?_
    have hc39_23 : (Int32.ofNat (sn + jj)) < (Int32.ofNat (cm).length) := (own_ltn (by omega) (by omega)).mpr ha1
    refine OwnFin.adv (B := T2.setTop (mkF m 42 #[.val (.ref mo), .val (.int (Int32.ofNat sn)), .val (.long (Int64.ofNat nn)), .second, .val (.int (Int32.ofNat dd)), .val (.int (Int32.ofNat jj)), .val (.ref pa), .val (.long (((Int64.ofNat nn) / (Int64.ofNat (10 ^ (dd - 1 - jj)))) - (((Int64.ofNat nn) / (Int64.ofNat (10 ^ (dd - 1 - jj)))) / (10 : Int64)) * (10 : Int64))), .second, .val (.int (Int32.ofNat (sn + jj)))] [])) (fun _ k => XS.icmpNo X2.here hx rfl (hb hby own_d51_39) rfl (tlt hc39_23).2.1 k) ?_
    refine OwnFin.adv (B := T2.setTop (mkF m 43 #[.val (.ref mo), .val (.int (Int32.ofNat sn)), .val (.long (Int64.ofNat nn)), .second, .val (.int (Int32.ofNat dd)), .val (.int (Int32.ofNat jj)), .val (.ref pa), .val (.long (((Int64.ofNat nn) / (Int64.ofNat (10 ^ (dd - 1 - jj)))) - (((Int64.ofNat nn) / (Int64.ofNat (10 ^ (dd - 1 - jj)))) / (10 : Int64)) * (10 : Int64))), .second, .val (.int (Int32.ofNat (sn + jj)))] [(.ref mo)])) (fun _ k => XS.aloadN X2.here hx rfl (hb hby own_d51_42) rfl rfl k) ?_
    refine OwnFin.adv (B := T2.setTop (mkF m 45 #[.val (.ref mo), .val (.int (Int32.ofNat sn)), .val (.long (Int64.ofNat nn)), .second, .val (.int (Int32.ofNat dd)), .val (.int (Int32.ofNat jj)), .val (.ref pa), .val (.long (((Int64.ofNat nn) / (Int64.ofNat (10 ^ (dd - 1 - jj)))) - (((Int64.ofNat nn) / (Int64.ofNat (10 ^ (dd - 1 - jj)))) / (10 : Int64)) * (10 : Int64))), .second, .val (.int (Int32.ofNat (sn + jj)))] [(.int (Int32.ofNat (sn + jj))), (.ref mo)])) (fun _ k => XS.iload X2.here hx rfl (hb hby own_d51_43) rfl k) ?_
    obtain ⟨cq4, kq4, q4a, q4b, q4c⟩ := isOf hZ eh2 Es3
    obtain ⟨_, _, ⟨T4, L4, k4, n4⟩, -, X4, ⟨Lc4, hQ4, l4, y4, z4⟩, st4⟩ := X2.virtualBack hx (y := (⟨"java/lang/String", "charAt", "(I)C"⟩ : MethodName)) (z := (⟨"java/lang/String", "charAt", "(I)C"⟩ : MethodName)) hown (mvT hZ (hw _ (List.mem_of_getElem? (i := 269) rfl))) (mvT hZ (hw _ (List.mem_of_getElem? (i := 270) rfl))) (notFace_of_selects (args := #[]) (mvT hZ (hw _ (List.mem_of_getElem? (i := 272) rfl)))) (mvT hZ (hw _ (List.mem_of_getElem? (i := 272) rfl))) (mvT hZ (hw _ (List.mem_of_getElem? (i := 271) rfl))) (by decide) (backOf (W := 0) (own_strCh l Z a0 hw [] mo zc fm (lm) (sn + jj) cm h0 n0 (by omega) O0 SCS hzc SFM rfm Fq ha1) hZ (hw _ (List.mem_of_getElem? (i := 273) rfl)) (hw _ (List.mem_of_getElem? (i := 22) rfl)) (by decide) (by decide)) q4a q4c (g := (mkF m 45 #[.val (.ref mo), .val (.int (Int32.ofNat sn)), .val (.long (Int64.ofNat nn)), .second, .val (.int (Int32.ofNat dd)), .val (.int (Int32.ofNat jj)), .val (.ref pa), .val (.long (((Int64.ofNat nn) / (Int64.ofNat (10 ^ (dd - 1 - jj)))) - (((Int64.ofNat nn) / (Int64.ofNat (10 ^ (dd - 1 - jj)))) / (10 : Int64)) * (10 : Int64))), .second, .val (.int (Int32.ofNat (sn + jj)))] [(.int (Int32.ofNat (sn + jj))), (.ref mo)])) rfl (by rw [hml]; rfl) (Steps.refl _) (argsL := [(.int (Int32.ofNat (sn + jj)))]) (rest := []) (lenOf own_pd_x28Ix29C rfl) rfl (by show 2 * 0 + _ ≤ _; exact Nat.le_of_eq rfl) (hb hby own_d51_45) (fun _ _ => ⟨rfl, eh2, (by decide : 0 + 0 ≤ _), (by decide : 0 + 0 ≤ _)⟩)
    dsimp only [Pt.U, Pt.locs, Pt.cells, Pt.slots] at X4 l4 y4 z4 st4 hQ4
    subst l4 y4 z4
    obtain ⟨rfl, N4q, eh4⟩ := hQ4
    have N4 := Fr.app N2 N4q
    refine OwnFin.adv (B := T4.setTop (mkF m 48 #[.val (.ref mo), .val (.int (Int32.ofNat sn)), .val (.long (Int64.ofNat nn)), .second, .val (.int (Int32.ofNat dd)), .val (.int (Int32.ofNat jj)), .val (.ref pa), .val (.long (((Int64.ofNat nn) / (Int64.ofNat (10 ^ (dd - 1 - jj)))) - (((Int64.ofNat nn) / (Int64.ofNat (10 ^ (dd - 1 - jj)))) / (10 : Int64)) * (10 : Int64))), .second, .val (.int (Int32.ofNat (sn + jj)))] [(.int ((cm).getD (sn + jj) 0))])) (fun _ k => st4.trans k) ?_
    refine OwnFin.adv (B := T4.setTop (mkF m 51 #[.val (.ref mo), .val (.int (Int32.ofNat sn)), .val (.long (Int64.ofNat nn)), .second, .val (.int (Int32.ofNat dd)), .val (.int (Int32.ofNat jj)), .val (.ref pa), .val (.long (((Int64.ofNat nn) / (Int64.ofNat (10 ^ (dd - 1 - jj)))) - (((Int64.ofNat nn) / (Int64.ofNat (10 ^ (dd - 1 - jj)))) / (10 : Int64)) * (10 : Int64))), .second, .val (.int (Int32.ofNat (sn + jj)))] [(.long (48 : Int64)), (.int ((cm).getD (sn + jj) 0))])) (fun _ k => X4.ldc2Long hx hown (mvT hZ (hw _ (List.mem_of_getElem? (i := 306) rfl))) (g := (mkF m 48 #[.val (.ref mo), .val (.int (Int32.ofNat sn)), .val (.long (Int64.ofNat nn)), .second, .val (.int (Int32.ofNat dd)), .val (.int (Int32.ofNat jj)), .val (.ref pa), .val (.long (((Int64.ofNat nn) / (Int64.ofNat (10 ^ (dd - 1 - jj)))) - (((Int64.ofNat nn) / (Int64.ofNat (10 ^ (dd - 1 - jj)))) / (10 : Int64)) * (10 : Int64))), .second, .val (.int (Int32.ofNat (sn + jj)))] [(.int ((cm).getD (sn + jj) 0))])) rfl (hb hby own_d51_48) _ k) ?_
    refine OwnFin.adv (B := T4.setTop (mkF m 53 #[.val (.ref mo), .val (.int (Int32.ofNat sn)), .val (.long (Int64.ofNat nn)), .second, .val (.int (Int32.ofNat dd)), .val (.int (Int32.ofNat jj)), .val (.ref pa), .val (.long (((Int64.ofNat nn) / (Int64.ofNat (10 ^ (dd - 1 - jj)))) - (((Int64.ofNat nn) / (Int64.ofNat (10 ^ (dd - 1 - jj)))) / (10 : Int64)) * (10 : Int64))), .second, .val (.int (Int32.ofNat (sn + jj)))] [(.long (((Int64.ofNat nn) / (Int64.ofNat (10 ^ (dd - 1 - jj)))) - (((Int64.ofNat nn) / (Int64.ofNat (10 ^ (dd - 1 - jj)))) / (10 : Int64)) * (10 : Int64))), (.long (48 : Int64)), (.int ((cm).getD (sn + jj) 0))])) (fun _ k => XS.lload X4.here hx rfl (hb hby own_d51_51) rfl k) ?_
    refine OwnFin.adv (B := T4.setTop (mkF m 54 #[.val (.ref mo), .val (.int (Int32.ofNat sn)), .val (.long (Int64.ofNat nn)), .second, .val (.int (Int32.ofNat dd)), .val (.int (Int32.ofNat jj)), .val (.ref pa), .val (.long (((Int64.ofNat nn) / (Int64.ofNat (10 ^ (dd - 1 - jj)))) - (((Int64.ofNat nn) / (Int64.ofNat (10 ^ (dd - 1 - jj)))) / (10 : Int64)) * (10 : Int64))), .second, .val (.int (Int32.ofNat (sn + jj)))] [(.long ((48 : Int64) + (((Int64.ofNat nn) / (Int64.ofNat (10 ^ (dd - 1 - jj)))) - (((Int64.ofNat nn) / (Int64.ofNat (10 ^ (dd - 1 - jj)))) / (10 : Int64)) * (10 : Int64)))), (.int ((cm).getD (sn + jj) 0))])) (fun _ k => XS.ladd X4.here hx rfl (hb hby own_d51_53) rfl k) ?_
    refine OwnFin.adv (B := T4.setTop (mkF m 55 #[.val (.ref mo), .val (.int (Int32.ofNat sn)), .val (.long (Int64.ofNat nn)), .second, .val (.int (Int32.ofNat dd)), .val (.int (Int32.ofNat jj)), .val (.ref pa), .val (.long (((Int64.ofNat nn) / (Int64.ofNat (10 ^ (dd - 1 - jj)))) - (((Int64.ofNat nn) / (Int64.ofNat (10 ^ (dd - 1 - jj)))) / (10 : Int64)) * (10 : Int64))), .second, .val (.int (Int32.ofNat (sn + jj)))] [(.int (((48 : Int64) + (((Int64.ofNat nn) / (Int64.ofNat (10 ^ (dd - 1 - jj)))) - (((Int64.ofNat nn) / (Int64.ofNat (10 ^ (dd - 1 - jj)))) / (10 : Int64)) * (10 : Int64))).toInt32)), (.int ((cm).getD (sn + jj) 0))])) (fun _ k => XS.l2i X4.here hx rfl (hb hby own_d51_54) rfl k) ?_
    refine OwnFin.adv (B := T4.setTop (mkF m 56 #[.val (.ref mo), .val (.int (Int32.ofNat sn)), .val (.long (Int64.ofNat nn)), .second, .val (.int (Int32.ofNat dd)), .val (.int (Int32.ofNat jj)), .val (.ref pa), .val (.long (((Int64.ofNat nn) / (Int64.ofNat (10 ^ (dd - 1 - jj)))) - (((Int64.ofNat nn) / (Int64.ofNat (10 ^ (dd - 1 - jj)))) / (10 : Int64)) * (10 : Int64))), .second, .val (.int (Int32.ofNat (sn + jj)))] [(.int ((((48 : Int64) + (((Int64.ofNat nn) / (Int64.ofNat (10 ^ (dd - 1 - jj)))) - (((Int64.ofNat nn) / (Int64.ofNat (10 ^ (dd - 1 - jj)))) / (10 : Int64)) * (10 : Int64))).toInt32).toUInt32.toUInt16.toUInt32.toInt32)), (.int ((cm).getD (sn + jj) 0))])) (fun _ k => XS.i2c X4.here hx rfl (hb hby own_d51_55) rfl k) ?_
    have hc56_32 : ((cm).getD (sn + jj) 0) = ((((48 : Int64) + (((Int64.ofNat nn) / (Int64.ofNat (10 ^ (dd - 1 - jj)))) - (((Int64.ofNat nn) / (Int64.ofNat (10 ^ (dd - 1 - jj)))) / (10 : Int64)) * (10 : Int64))).toInt32).toUInt32.toUInt16.toUInt32.toInt32) := ha2.trans (own_digval hnn hx9).symm
    refine OwnFin.adv (B := T4.setTop (mkF m 59 #[.val (.ref mo), .val (.int (Int32.ofNat sn)), .val (.long (Int64.ofNat nn)), .second, .val (.int (Int32.ofNat dd)), .val (.int (Int32.ofNat jj)), .val (.ref pa), .val (.long (((Int64.ofNat nn) / (Int64.ofNat (10 ^ (dd - 1 - jj)))) - (((Int64.ofNat nn) / (Int64.ofNat (10 ^ (dd - 1 - jj)))) / (10 : Int64)) * (10 : Int64))), .second, .val (.int (Int32.ofNat (sn + jj)))] [])) (fun _ k => XS.icmpNo X4.here hx rfl (hb hby own_d51_56) rfl (teq hc56_32).2 k) ?_
    refine OwnFin.adv (B := T4.setTop (mkF m 60 #[.val (.ref mo), .val (.int (Int32.ofNat sn)), .val (.long (Int64.ofNat nn)), .second, .val (.int (Int32.ofNat dd)), .val (.int (Int32.ofNat jj)), .val (.ref pa), .val (.long (((Int64.ofNat nn) / (Int64.ofNat (10 ^ (dd - 1 - jj)))) - (((Int64.ofNat nn) / (Int64.ofNat (10 ^ (dd - 1 - jj)))) / (10 : Int64)) * (10 : Int64))), .second, .val (.int (Int32.ofNat (sn + jj)))] [(.int (1 : Int32))])) (fun _ k => XS.iconst X4.here hx rfl (hb hby own_d51_59) k) ?_
    refine OwnFin.adv (B := T4.setTop (mkF m 64 #[.val (.ref mo), .val (.int (Int32.ofNat sn)), .val (.long (Int64.ofNat nn)), .second, .val (.int (Int32.ofNat dd)), .val (.int (Int32.ofNat jj)), .val (.ref pa), .val (.long (((Int64.ofNat nn) / (Int64.ofNat (10 ^ (dd - 1 - jj)))) - (((Int64.ofNat nn) / (Int64.ofNat (10 ^ (dd - 1 - jj)))) / (10 : Int64)) * (10 : Int64))), .second, .val (.int (Int32.ofNat (sn + jj)))] [(.int (1 : Int32))])) (fun _ k => XS.goto X4.here hx rfl (pc0 := 60) (pc' := 64) rfl (hb hby own_d51_60) (by decide) (by decide) k) ?_
    obtain ⟨fs, hr, hrun, hended, hW, hsame⟩ := X4.leave (v := some (.int (1 : Int32))) (fun h => by rw [Bd.returns] at h; cases h)
    refine OwnFin.leaf hP' ⟨_, _, retN X4 hx (t := .boolean) Bd.returns (by simp) (hb hby own_d51_64) hr, hrun, hended, _, _, rfl, ?_, ⟨_, rfl⟩, hW, hsame.mono (by decide) (by decide)⟩
    exact ⟨rfl, N4, eh4⟩
  ·
    refine OwnFin.adv (B := s₁.setTop (mkF m 7 #[.val (.ref mo), .val (.int (Int32.ofNat sn)), .val (.long (Int64.ofNat nn)), .second, .val (.int (Int32.ofNat dd)), .val (.int (Int32.ofNat jj)), .val (.ref pa), .unset, .unset, .unset] [])) (fun _ k => XS.icmpNo X0.here hx rfl (hb hby own_d51_4) rfl (flt hc4).1 k) ?_
    refine OwnFin.adv (B := s₁.setTop (mkF m 8 #[.val (.ref mo), .val (.int (Int32.ofNat sn)), .val (.long (Int64.ofNat nn)), .second, .val (.int (Int32.ofNat dd)), .val (.int (Int32.ofNat jj)), .val (.ref pa), .unset, .unset, .unset] [(.int (1 : Int32))])) (fun _ k => XS.iconst X0.here hx rfl (hb hby own_d51_7) k) ?_
    obtain ⟨fs, hr, hrun, hended, hW, hsame⟩ := X0.leave (v := some (.int (1 : Int32))) (fun h => by rw [Bd.returns] at h; cases h)
    refine OwnFin.leaf hP' ⟨_, _, retN X0 hx (t := .boolean) Bd.returns (by simp) (hb hby own_d51_8) hr, hrun, hended, _, _, rfl, ?_, ⟨_, rfl⟩, hW, hsame.mono (by decide) (by decide)⟩
    exact ⟨rfl, N0, e0⟩
def own_L0 : List Int32 := [(84 : Int32), (104 : Int32), (101 : Int32), (32 : Int32), (114 : Int32), (101 : Int32), (113 : Int32), (117 : Int32)]
theorem own_Lp0 : ∀ c ∈ own_L0, ¬ c < 0 ∧ ¬ (255 : Int32) < c := by decide +kernel
theorem own_La0 (xv : Int32) (nn : Nat) : ∀ k, k < own_L0.length → 0 + k < (own_msg xv nn).length ∧ (own_msg xv nn).getD (0 + k) 0 = own_L0.getD k 0 := own_agA xv nn (by decide +kernel)
def own_L1 : List Int32 := [(101 : Int32), (115 : Int32), (116 : Int32), (32 : Int32), (98 : Int32), (111 : Int32), (100 : Int32), (121 : Int32)]
theorem own_Lp1 : ∀ c ∈ own_L1, ¬ c < 0 ∧ ¬ (255 : Int32) < c := by decide +kernel
theorem own_La1 (xv : Int32) (nn : Nat) : ∀ k, k < own_L1.length → 8 + k < (own_msg xv nn).length ∧ (own_msg xv nn).getD (8 + k) 0 = own_L1.getD k 0 := own_agA xv nn (by decide +kernel)
def own_L2 : List Int32 := [(32 : Int32), (105 : Int32), (115 : Int32), (32 : Int32), (108 : Int32), (111 : Int32), (110 : Int32), (103 : Int32)]
theorem own_Lp2 : ∀ c ∈ own_L2, ¬ c < 0 ∧ ¬ (255 : Int32) < c := by decide +kernel
theorem own_La2 (xv : Int32) (nn : Nat) : ∀ k, k < own_L2.length → 16 + k < (own_msg xv nn).length ∧ (own_msg xv nn).getD (16 + k) 0 = own_L2.getD k 0 := own_agA xv nn (by decide +kernel)
def own_L3 : List Int32 := [(101 : Int32), (114 : Int32), (32 : Int32), (116 : Int32), (104 : Int32), (97 : Int32), (110 : Int32), (32 : Int32)]
theorem own_Lp3 : ∀ c ∈ own_L3, ¬ c < 0 ∧ ¬ (255 : Int32) < c := by decide +kernel
theorem own_La3 (xv : Int32) (nn : Nat) : ∀ k, k < own_L3.length → 24 + k < (own_msg xv nn).length ∧ (own_msg xv nn).getD (24 + k) 0 = own_L3.getD k 0 := own_agA xv nn (by decide +kernel)
theorem own_pd_x28Ix29Lcomx2fexamplex2frollbookx2frollbookx2fhttpx2fApiExceptionx3b : parseMethodDescriptor "(I)Lcom/example/rollbook/rollbook/http/ApiException;" = some ⟨[.int], some (.object "com/example/rollbook/rollbook/http/ApiException")⟩ := by decide +kernel
theorem own_pd_x28x29Ljavax2futilx2fOptionalx3b : parseMethodDescriptor "()Ljava/util/Optional;" = some ⟨[], some (.object "java/util/Optional")⟩ := by decide +kernel
theorem own_pd_x28Ljavax2flangx2fStringx3bILjavax2flangx2fStringx3bx29Z : parseMethodDescriptor "(Ljava/lang/String;ILjava/lang/String;)Z" = some ⟨[(.object "java/lang/String"), .int, (.object "java/lang/String")], some .boolean⟩ := by decide +kernel
theorem own_pd_x28Ljavax2flangx2fStringx3bIJIIx5bJx29Z : parseMethodDescriptor "(Ljava/lang/String;IJII[J)Z" = some ⟨[(.object "java/lang/String"), .int, .long, .int, .int, (.array .long)], some .boolean⟩ := by decide +kernel
theorem own_pd_x28Jx29I : parseMethodDescriptor "(J)I" = some ⟨[.long], some .int⟩ := by decide +kernel
theorem own_ef_rm0 (m : MethodId) (x0 : Int32) : entryFrame m #[(.int x0)] maxLocals = mkF m 0 #[.val (.int x0), .unset, .unset, .unset, .unset, .unset, .unset, .unset, .unset, .unset, .unset, .unset, .unset] [] := by first | (simp [entryFrame, mkF, argsToLocals, Value.category, maxLocals]; done) | rfl
def own_Q_rm0 (Z : State) (xv zc : Int32) (fm : Value) (nn : Nat) (ist dg1 dg2 : Addr) (DG1 DG2 : Cell) (oe ua uz : Addr) (h0 : Heap) (n0 : Nat) (v : Option Value) (h : Heap) (L : List Loc) : Prop := v = some (.int (1 : Int32)) ∧ Fr n0 L
set_option maxRecDepth 65536 in
set_option maxHeartbeats 40000000 in
theorem own_rm0 (l : Launch) (Z : State) (a0 : Array Value) (hw : ∀ d ∈ tables_1, d.before a0 Z = true) (ws : List Jvm.Cond) (xv zc : Int32) (fm : Value) (nn : Nat) (ist dg1 dg2 : Addr) (DG1 DG2 : Cell) (oe ua uz : Addr) (h0 : Heap) (n0 : Nat) (Z0 : n0 ≤ h0.size) (O0 : Old Z n0 h0) (SCS : Sta Z Z.heap "java/lang/String" "COMPACT_STRINGS" "Z" (.int zc)) (hzc : ¬ zc = 0) (SFM : Sta Z Z.heap "jdk/internal/util/Preconditions" "SIOOBE_FORMATTER" "Ljava/util/function/BiFunction;" fm) (rfm : fm.isRef = true) (hnn : nn ≤ 2 ^ 31) (hxv : (if xv < 0 then xv else -xv) = Jvm.Free.SBG.negI nn) (TB1 : Jvm.Free.SBG.Tbl Z "DigitOnes" ist dg1 DG1) (TB2 : Jvm.Free.SBG.Tbl Z "DigitTens" ist dg2 DG2) (on1 : Jvm.Free.SBG.Ones DG1) (on2 : Jvm.Free.SBG.Tens DG2) (hst : l.stackTraces = true) (SU : Sta Z Z.heap "java/lang/Throwable" "UNASSIGNED_STACK" "[Ljava/lang/StackTraceElement;" (.ref ua)) (SV : Sta Z Z.heap "java/lang/Throwable" "SUPPRESSED_SENTINEL" "Ljava/util/List;" (.ref uz)) (SE : Sta Z Z.heap "java/util/Optional" "EMPTY" "Ljava/util/Optional;" (.ref oe)) (EE : Exa Z Z.heap oe "java/util/Optional") (FE : Fld Z Z.heap oe "java/util/Optional" "value" "Ljava/lang/Object;" .null) :
    MetFree l x (head1 (Jvm.Cond.code x code maxLocals ret :: ws) room_1) (fun A0 U0 => A0 = #[(.int xv)] ∧ Z.Warmed39 U0.vm ∧ U0.heap = h0 ∧ CHv Z own_EL U0.vm h0) (fun _ _ bl s _ => s.vm.MethodsKnown ∧ s.vm.FramesKnown bl) (fun _ U0 o0 U1 => ∃ v0 L0, o0 = .returned v0 ∧ own_Q_rm0 Z xv zc fm nn ist dg1 dg2 DG1 DG2 oe ua uz h0 n0 v0 U1.heap L0 ∧ ReturnedEndW U0 o0 U1 L0 room_1.cells room_1.slots) := by
  refine MetFree.of_bodySF (plainFor_of_name own_pn_com_example_rollbook_rollbook_http_ApiExceptionBodyTooLargePinLaw) hisR ?_
  intro p e s m args below meth c s₁ Bd hml0 hP hK
  obtain ⟨rfl, hZ, hh, H0⟩ := hP
  obtain ⟨hTK, hBl⟩ := hK
  have hZs := hZ
  have hx := Bd.exec
  have hby := Bd.bytes
  have hby_ := hby
  have hml : c.maxLocals = 13 := hml0
  have hown : s.vm.findClass "com/example/rollbook/rollbook/http/ApiExceptionBodyTooLargePinLaw" = some m.cls := findClass_of_methodNamed Bd.named
  have hnm := (name_of_methodNamed Bd.named Bd.method).1
  have X0 : Stand p l e room_1 s m #[(.int xv)] below meth c s₁ [] 0 0 := Stand.of_body Bd
  have e0 : s₁.heap = h0 := by rw [← hh, Bd.state]; rfl
  have N0 := Fr.nil n0
  refine OwnFin.entry (own_ef_rm0 m xv) (fun P' hP' => ?_)
  refine OwnFin.adv (B := s₁.setTop (mkF m 1 #[.val (.int xv), .unset, .unset, .unset, .unset, .unset, .unset, .unset, .unset, .unset, .unset, .unset, .unset] [(.int xv)])) (fun _ k => XS.iloadN X0.here hx rfl (hb hby at_0) rfl k) ?_
  obtain ⟨_, _, ⟨T1, L1, k1, n1⟩, -, X1, hSb1, hgr1, ⟨Lc1, hQ1, l1, y1, z1, C1⟩, st1⟩ := callSS (s := (s.setVm s.vm)) X0 hx (y := (⟨"com/example/rollbook/rollbook/http/ApiException", "bodyTooLarge", "(I)Lcom/example/rollbook/rollbook/http/ApiException;"⟩ : MethodName)) hown (mvT hZ (hw _ (List.mem_of_getElem? (i := 0) rfl))) (mvT hZ (hw _ (List.mem_of_getElem? (i := 1) rfl))) (mvT hZ (hw _ (List.mem_of_getElem? (i := 2) rfl))) (mvT hZ (hw _ (List.mem_of_getElem? (i := 3) rfl))) (by decide) (backOfSKH (s := s) (vm0 := s.vm) (W := 0) (own_btl l Z a0 hw [] xv zc nn ist dg1 dg2 DG1 DG2 ua uz h0 n0 (by omega) O0 SCS hzc hnn hxv TB1 TB2 on1 on2 hst SU SV) hZ (hw _ (List.mem_of_getElem? (i := 3) rfl)) (hw _ (List.mem_of_getElem? (i := 2) rfl)) (by decide) (by decide) (own_EW hw) ((CHr.refl H0)).1 hTK hBl) (g := (mkF m 1 #[.val (.int xv), .unset, .unset, .unset, .unset, .unset, .unset, .unset, .unset, .unset, .unset, .unset, .unset] [(.int xv)])) rfl (by rw [hml]; rfl) (argsL := [(.int xv)]) (rest := []) (lenOf own_pd_x28Ix29Lcomx2fexamplex2frollbookx2frollbookx2fhttpx2fApiExceptionx3b rfl) rfl (by show 2 * 0 + _ ≤ _; exact Nat.le_of_eq rfl) (hb hby at_1) (fun _ _ => ⟨rfl, e0, (by decide : 0 + 13 ≤ _), (by decide : 0 + 3224 ≤ _)⟩)
  dsimp only [Pt.U, Pt.locs, Pt.cells, Pt.slots] at X1 l1 y1 z1 st1 hQ1 hSb1 hgr1 C1
  subst l1 y1 z1
  obtain ⟨Xr1, hS1, hZ, hown⟩ := rebS (s := s) (vm0 := s.vm) (State.WarmedH.since (State.WarmedH.refl s) 0) (Nat.zero_le _) X1 hSb1 hgr1 hZ hown
  have hkk1 : T1.heap.size ≤ T1.heap.size := Nat.le_refl _
  have hZ1 := hZ
  obtain ⟨ax1, mm1, rfl, N1q, K1, ge1, Ex1, Fs1, Fa1, Fm1, Om1⟩ := hQ1
  have N1 := Fr.app N0 N1q
  have sz2 : h0.size ≤ T1.heap.size := K1.1
  have chA2 : CHr Z own_EL s.vm h0 T1.vm T1.heap := ((CHr.refl H0)).trans C1
  have lt_ax1 := own_lt Ex1.lt
  refine OwnFin.adv (B := T1.setTop (mkF m 4 #[.val (.int xv), .unset, .unset, .unset, .unset, .unset, .unset, .unset, .unset, .unset, .unset, .unset, .unset] [(.ref ax1)])) (fun _ k => st1.trans k) ?_
  refine OwnFin.adv (B := T1.setTop (mkF m 5 #[.val (.int xv), .val (.ref ax1), .unset, .unset, .unset, .unset, .unset, .unset, .unset, .unset, .unset, .unset, .unset] [])) (fun _ k => XS.astoreN Xr1.here hx rfl (hb hby at_4) rfl rfl (l' := #[.val (.int xv), .val (.ref ax1), .unset, .unset, .unset, .unset, .unset, .unset, .unset, .unset, .unset, .unset, .unset]) rfl k) ?_
  refine OwnFin.adv (B := T1.setTop (mkF m 6 #[.val (.int xv), .val (.ref ax1), .unset, .unset, .unset, .unset, .unset, .unset, .unset, .unset, .unset, .unset, .unset] [(.ref ax1)])) (fun _ k => XS.aloadN Xr1.here hx rfl (hb hby at_5) rfl rfl k) ?_
  obtain ⟨cq3, kq3, q3a, q3b, q3c⟩ := isOf hZ rfl Ex1
  obtain ⟨_, _, ⟨T3, L3, k3, n3⟩, -, X3, ⟨Lc3, hQ3, l3, y3, z3⟩, st3⟩ := Xr1.virtualBack hx (y := (⟨"com/example/rollbook/rollbook/http/ApiException", "status", "()I"⟩ : MethodName)) (z := (⟨"com/example/rollbook/rollbook/http/ApiException", "status", "()I"⟩ : MethodName)) hown (mvT hZ (hw _ (List.mem_of_getElem? (i := 228) rfl))) (mvT hZ (hw _ (List.mem_of_getElem? (i := 229) rfl))) (notFace_of_selects (args := #[]) (mvT hZ (hw _ (List.mem_of_getElem? (i := 231) rfl)))) (mvT hZ (hw _ (List.mem_of_getElem? (i := 231) rfl))) (mvT hZ (hw _ (List.mem_of_getElem? (i := 230) rfl))) (by decide) (backOf (W := 0) (own_status l Z a0 hw [] ax1 T1.heap n0 (by omega) Fs1) hZ (hw _ (List.mem_of_getElem? (i := 232) rfl)) (hw _ (List.mem_of_getElem? (i := 2) rfl)) (by decide) (by decide)) q3a q3c (g := (mkF m 6 #[.val (.int xv), .val (.ref ax1), .unset, .unset, .unset, .unset, .unset, .unset, .unset, .unset, .unset, .unset, .unset] [(.ref ax1)])) rfl (by rw [hml]; rfl) (Steps.refl _) (argsL := []) (rest := []) (lenOf own_pd_x28x29I rfl) rfl (by show 2 * 0 + _ ≤ _; exact Nat.le_of_eq rfl) (hb hby at_6) (fun _ _ => ⟨rfl, rfl, (by decide : 13 + 0 ≤ _), (by decide : 3224 + 0 ≤ _)⟩)
  dsimp only [Pt.U, Pt.locs, Pt.cells, Pt.slots] at X3 l3 y3 z3 st3 hQ3
  subst l3 y3 z3
  obtain ⟨rfl, N3q, eh3⟩ := hQ3
  have N3 := Fr.app N1 N3q
  refine OwnFin.adv (B := T3.setTop (mkF m 9 #[.val (.int xv), .val (.ref ax1), .unset, .unset, .unset, .unset, .unset, .unset, .unset, .unset, .unset, .unset, .unset] [(.int (413 : Int32))])) (fun _ k => st3.trans k) ?_
  refine OwnFin.adv (B := T3.setTop (mkF m 12 #[.val (.int xv), .val (.ref ax1), .unset, .unset, .unset, .unset, .unset, .unset, .unset, .unset, .unset, .unset, .unset] [(.int (413 : Int32)), (.int (413 : Int32))])) (fun _ k => XS.sipush X3.here hx rfl (hb hby at_9) k) ?_
  have hc12_7 : (413 : Int32) = (413 : Int32) := rfl
  refine OwnFin.adv (B := T3.setTop (mkF m 17 #[.val (.int xv), .val (.ref ax1), .unset, .unset, .unset, .unset, .unset, .unset, .unset, .unset, .unset, .unset, .unset] [])) (fun _ k => XS.icmpYes X3.here hx rfl (pc0 := 12) (pc' := 17) rfl (hb hby at_12) rfl (teq hc12_7).1 (by decide) (by decide) k) ?_
  refine OwnFin.adv (B := T3.setTop (mkF m 18 #[.val (.int xv), .val (.ref ax1), .unset, .unset, .unset, .unset, .unset, .unset, .unset, .unset, .unset, .unset, .unset] [(.ref ax1)])) (fun _ k => XS.aloadN X3.here hx rfl (hb hby at_17) rfl rfl k) ?_
  have Old5 : Old Z n0 T1.heap := (O0.keep K1 all0)
  obtain ⟨cq4, kq4, q4a, q4b, q4c⟩ := isOf hZ eh3 Ex1
  obtain ⟨_, _, ⟨T4, L4, k4, n4⟩, -, X4, ⟨Lc4, hQ4, l4, y4, z4⟩, st4⟩ := X3.virtualBack hx (y := (⟨"com/example/rollbook/rollbook/http/ApiException", "allow", "()Ljava/util/Optional;"⟩ : MethodName)) (z := (⟨"com/example/rollbook/rollbook/http/ApiException", "allow", "()Ljava/util/Optional;"⟩ : MethodName)) hown (mvT hZ (hw _ (List.mem_of_getElem? (i := 233) rfl))) (mvT hZ (hw _ (List.mem_of_getElem? (i := 234) rfl))) (notFace_of_selects (args := #[]) (mvT hZ (hw _ (List.mem_of_getElem? (i := 236) rfl)))) (mvT hZ (hw _ (List.mem_of_getElem? (i := 236) rfl))) (mvT hZ (hw _ (List.mem_of_getElem? (i := 235) rfl))) (by decide) (backOf (W := 0) (own_allow l Z a0 hw [] ax1 oe T1.heap n0 (by omega) Old5 SE Fa1) hZ (hw _ (List.mem_of_getElem? (i := 237) rfl)) (hw _ (List.mem_of_getElem? (i := 2) rfl)) (by decide) (by decide)) q4a q4c (g := (mkF m 18 #[.val (.int xv), .val (.ref ax1), .unset, .unset, .unset, .unset, .unset, .unset, .unset, .unset, .unset, .unset, .unset] [(.ref ax1)])) rfl (by rw [hml]; rfl) (Steps.refl _) (argsL := []) (rest := []) (lenOf own_pd_x28x29Ljavax2futilx2fOptionalx3b rfl) rfl (by show 2 * 0 + _ ≤ _; exact Nat.le_of_eq rfl) (hb hby at_18) (fun _ _ => ⟨rfl, eh3, (by decide : 13 + 0 ≤ _), (by decide : 3224 + 0 ≤ _)⟩)
  dsimp only [Pt.U, Pt.locs, Pt.cells, Pt.slots] at X4 l4 y4 z4 st4 hQ4
  subst l4 y4 z4
  obtain ⟨rfl, N4q, eh4⟩ := hQ4
  have N4 := Fr.app N3 N4q
  refine OwnFin.adv (B := T4.setTop (mkF m 21 #[.val (.int xv), .val (.ref ax1), .unset, .unset, .unset, .unset, .unset, .unset, .unset, .unset, .unset, .unset, .unset] [(.ref oe)])) (fun _ k => st4.trans k) ?_
  obtain ⟨cq6, kq6, q6a, q6b, q6c⟩ := isOf hZ eh4 (EE.ext Old5.2)
  obtain ⟨_, _, ⟨T6, L6, k6, n6⟩, -, X6, ⟨Lc6, hQ6, l6, y6, z6⟩, st6⟩ := X4.virtualBack hx (y := (⟨"java/util/Optional", "isPresent", "()Z"⟩ : MethodName)) (z := (⟨"java/util/Optional", "isPresent", "()Z"⟩ : MethodName)) hown (mvT hZ (hw _ (List.mem_of_getElem? (i := 243) rfl))) (mvT hZ (hw _ (List.mem_of_getElem? (i := 244) rfl))) (notFace_of_selects (args := #[]) (mvT hZ (hw _ (List.mem_of_getElem? (i := 246) rfl)))) (mvT hZ (hw _ (List.mem_of_getElem? (i := 246) rfl))) (mvT hZ (hw _ (List.mem_of_getElem? (i := 245) rfl))) (by decide) (backOf (W := 0) (own_isPres l Z a0 hw [] oe T1.heap n0 (by omega) (FE.ext Old5.2)) hZ (hw _ (List.mem_of_getElem? (i := 247) rfl)) (hw _ (List.mem_of_getElem? (i := 240) rfl)) (by decide) (by decide)) q6a q6c (g := (mkF m 21 #[.val (.int xv), .val (.ref ax1), .unset, .unset, .unset, .unset, .unset, .unset, .unset, .unset, .unset, .unset, .unset] [(.ref oe)])) rfl (by rw [hml]; rfl) (Steps.refl _) (argsL := []) (rest := []) (lenOf own_pd_x28x29Z rfl) rfl (by show 2 * 0 + _ ≤ _; exact Nat.le_of_eq rfl) (hb hby at_21) (fun _ _ => ⟨rfl, eh4, (by decide : 13 + 0 ≤ _), (by decide : 3224 + 0 ≤ _)⟩)
  dsimp only [Pt.U, Pt.locs, Pt.cells, Pt.slots] at X6 l6 y6 z6 st6 hQ6
  subst l6 y6 z6
  obtain ⟨rfl, N6q, eh6⟩ := hQ6
  have N6 := Fr.app N4 N6q
  refine OwnFin.adv (B := T6.setTop (mkF m 24 #[.val (.int xv), .val (.ref ax1), .unset, .unset, .unset, .unset, .unset, .unset, .unset, .unset, .unset, .unset, .unset] [(.int (0 : Int32))])) (fun _ k => st6.trans k) ?_
  have hc24_11 : (0 : Int32) = (0 : Int32) := rfl
  refine OwnFin.adv (B := T6.setTop (mkF m 29 #[.val (.int xv), .val (.ref ax1), .unset, .unset, .unset, .unset, .unset, .unset, .unset, .unset, .unset, .unset, .unset] [])) (fun _ k => XS.ifYes X6.here hx rfl (pc0 := 24) (pc' := 29) rfl (hb hby at_24) rfl ((if0 _ _).trans (teq hc24_11).1) (by decide) (by decide) k) ?_
  refine OwnFin.adv (B := T6.setTop (mkF m 30 #[.val (.int xv), .val (.ref ax1), .unset, .unset, .unset, .unset, .unset, .unset, .unset, .unset, .unset, .unset, .unset] [(.ref ax1)])) (fun _ k => XS.aloadN X6.here hx rfl (hb hby at_29) rfl rfl k) ?_
  obtain ⟨cq7, kq7, q7a, q7b, q7c⟩ := isOf hZ eh6 Ex1
  obtain ⟨_, _, ⟨T7, L7, k7, n7⟩, -, X7, ⟨Lc7, hQ7, l7, y7, z7⟩, st7⟩ := X6.virtualBackUp hx (owner := "java/lang/Throwable") (x := (⟨"com/example/rollbook/rollbook/http/ApiException", "getMessage", "()Ljava/lang/String;"⟩ : MethodName)) (y := (⟨"java/lang/Throwable", "getMessage", "()Ljava/lang/String;"⟩ : MethodName)) hown (mvT hZ (hw _ (List.mem_of_getElem? (i := 250) rfl))) (mvT hZ (hw _ (List.mem_of_getElem? (i := 251) rfl))) (mvT hZ (hw _ (List.mem_of_getElem? (i := 252) rfl))) (by decide) (mvT hZ (hw _ (List.mem_of_getElem? (i := 254) rfl))) (mvT hZ (hw _ (List.mem_of_getElem? (i := 253) rfl))) (backOf (W := 0) (own_getMsg l Z a0 hw [] ax1 mm1 T1.heap n0 (by omega) Fm1) hZ (hw _ (List.mem_of_getElem? (i := 255) rfl)) (hw _ (List.mem_of_getElem? (i := 185) rfl)) (by decide) (by decide)) q7a q7c (g := (mkF m 30 #[.val (.int xv), .val (.ref ax1), .unset, .unset, .unset, .unset, .unset, .unset, .unset, .unset, .unset, .unset, .unset] [(.ref ax1)])) rfl (by rw [hml]; rfl) (Steps.refl _) (argsL := []) (rest := []) (lenOf own_pd_x28x29Ljavax2flangx2fStringx3b rfl) rfl (by show 2 * 0 + _ ≤ _; exact Nat.le_of_eq rfl) (hb hby at_30) (fun _ _ => ⟨rfl, eh6, (by decide : 13 + 0 ≤ _), (by decide : 3224 + 0 ≤ _)⟩)
  dsimp only [Pt.U, Pt.locs, Pt.cells, Pt.slots] at X7 l7 y7 z7 st7 hQ7
  subst l7 y7 z7
  obtain ⟨rfl, N7q, eh7⟩ := hQ7
  have N7 := Fr.app N6 N7q
  refine OwnFin.adv (B := T7.setTop (mkF m 33 #[.val (.int xv), .val (.ref ax1), .unset, .unset, .unset, .unset, .unset, .unset, .unset, .unset, .unset, .unset, .unset] [(.ref mm1)])) (fun _ k => st7.trans k) ?_
  refine OwnFin.adv (B := T7.setTop (mkF m 34 #[.val (.int xv), .val (.ref ax1), .val (.ref mm1), .unset, .unset, .unset, .unset, .unset, .unset, .unset, .unset, .unset, .unset] [])) (fun _ k => XS.astoreN X7.here hx rfl (hb hby at_33) rfl rfl (l' := #[.val (.int xv), .val (.ref ax1), .val (.ref mm1), .unset, .unset, .unset, .unset, .unset, .unset, .unset, .unset, .unset, .unset]) rfl k) ?_
  refine OwnFin.adv (B := T7.setTop (mkF m 35 #[.val (.int xv), .val (.ref ax1), .val (.ref mm1), .unset, .unset, .unset, .unset, .unset, .unset, .unset, .unset, .unset, .unset] [(.ref mm1)])) (fun _ k => XS.aloadN X7.here hx rfl (hb hby at_34) rfl rfl k) ?_
  refine OwnFin.adv (B := T7.setTop (mkF m 40 #[.val (.int xv), .val (.ref ax1), .val (.ref mm1), .unset, .unset, .unset, .unset, .unset, .unset, .unset, .unset, .unset, .unset] [])) (fun _ k => XS.ifnonnullYes X7.here hx rfl (pc0 := 35) (pc' := 40) rfl (hb hby at_35) rfl (by decide) (by decide) k) ?_
  refine OwnFin.adv (B := T7.setTop (mkF m 41 #[.val (.int xv), .val (.ref ax1), .val (.ref mm1), .unset, .unset, .unset, .unset, .unset, .unset, .unset, .unset, .unset, .unset] [(.int xv)])) (fun _ k => XS.iloadN X7.here hx rfl (hb hby at_40) rfl k) ?_
  refine OwnFin.adv (B := T7.setTop (mkF m 42 #[.val (.int xv), .val (.ref ax1), .val (.ref mm1), .unset, .unset, .unset, .unset, .unset, .unset, .unset, .unset, .unset, .unset] [(.long (xv.toInt64))])) (fun _ k => XS.i2l X7.here hx rfl (hb hby at_41) rfl k) ?_
  refine OwnFin.adv (B := T7.setTop (mkF m 43 #[.val (.int xv), .val (.ref ax1), .val (.ref mm1), .val (.long (xv.toInt64)), .second, .unset, .unset, .unset, .unset, .unset, .unset, .unset, .unset] [])) (fun _ k => XS.lstoreN X7.here hx rfl (hb hby at_42) rfl (l' := #[.val (.int xv), .val (.ref ax1), .val (.ref mm1), .val (.long (xv.toInt64)), .second, .unset, .unset, .unset, .unset, .unset, .unset, .unset, .unset]) rfl k) ?_
  refine OwnFin.adv (B := T7.setTop (mkF m 44 #[.val (.int xv), .val (.ref ax1), .val (.ref mm1), .val (.long (xv.toInt64)), .second, .unset, .unset, .unset, .unset, .unset, .unset, .unset, .unset] [(.long (xv.toInt64))])) (fun _ k => XS.lloadN X7.here hx rfl (hb hby at_43) rfl k) ?_
  refine OwnFin.adv (B := T7.setTop (mkF m 45 #[.val (.int xv), .val (.ref ax1), .val (.ref mm1), .val (.long (xv.toInt64)), .second, .unset, .unset, .unset, .unset, .unset, .unset, .unset, .unset] [(.long (0 : Int64)), (.long (xv.toInt64))])) (fun _ k => XS.lconst X7.here hx rfl (hb hby at_44) k) ?_
  refine OwnFin.adv (B := T7.setTop (mkF m 46 #[.val (.int xv), .val (.ref ax1), .val (.ref mm1), .val (.long (xv.toInt64)), .second, .unset, .unset, .unset, .unset, .unset, .unset, .unset, .unset] [(.int (lcmpW (xv.toInt64) (0 : Int64)))])) (fun _ k => XS.lcmp X7.here hx rfl (hb hby at_45) rfl k) ?_
  have J88 : ∀ (ng : Int32) (v3 : Int64) (sg : Nat) (TJ : State) (LJ : List Loc) (XJ : Stand p l e room_1 (s.setVm T1.vm) m #[(.int xv)] below meth c TJ LJ 13 3224) (eJ : TJ.heap = T1.heap) (NJ : Fr n0 LJ) (hsg : sg = Jvm.Free.SBG.GetChars.sgn xv) (hng : ng = 0 ↔ ¬ xv < 0), OwnFin p.tables e below P' (TJ.setTop (mkF m 88 #[.val (.int xv), .val (.ref ax1), .val (.ref mm1), .val (.long v3), .second, .val (.int ng), .val (.long (Int64.ofNat nn)), .second, .val (.int (Int32.ofNat (Jvm.Free.SBG.digits nn))), .val (.int (Int32.ofNat sg)), .unset, .unset, .unset] [])) := by
    intro ng v3 sg TJ LJ XJ eJ NJ hsg hng
    have hsg1 : sg ≤ 1 := by
      rw [hsg]; unfold Jvm.Free.SBG.GetChars.sgn; split <;> omega
    have hd10 := own_dec10 xv nn
    refine OwnFin.adv (B := TJ.setTop (mkF m 89 #[.val (.int xv), .val (.ref ax1), .val (.ref mm1), .val (.long v3), .second, .val (.int ng), .val (.long (Int64.ofNat nn)), .second, .val (.int (Int32.ofNat (Jvm.Free.SBG.digits nn))), .val (.int (Int32.ofNat sg)), .unset, .unset, .unset] [(.ref mm1)])) (fun _ k => XS.aloadN XJ.here hx rfl (hb hby at_88) rfl rfl k) ?_
    obtain ⟨ts10, ks10, Es10, Vs10, Cs10, As10, lx10, lt10, hp10, l210⟩ := id Om1
    have lx10 := own_lt lx10
    have lt10 := own_lt lt10
    have ltx10 := own_lt Es10.lt
    have ltt10 := own_lt As10.lt
    obtain ⟨cq9, kq9, q9a, q9b, q9c⟩ := isOf hZ eJ Es10
    obtain ⟨_, _, ⟨T9, L9, k9, n9⟩, -, X9, ⟨Lc9, hQ9, l9, y9, z9⟩, st9⟩ := XJ.virtualBack hx (y := (⟨"java/lang/String", "length", "()I"⟩ : MethodName)) (z := (⟨"java/lang/String", "length", "()I"⟩ : MethodName)) hown (mvT hZ (hw _ (List.mem_of_getElem? (i := 261) rfl))) (mvT hZ (hw _ (List.mem_of_getElem? (i := 45) rfl))) (notFace_of_selects (args := #[]) (mvT hZ (hw _ (List.mem_of_getElem? (i := 47) rfl)))) (mvT hZ (hw _ (List.mem_of_getElem? (i := 47) rfl))) (mvT hZ (hw _ (List.mem_of_getElem? (i := 46) rfl))) (by decide) (backOf (W := 0) (own_strLen l Z a0 hw [] mm1 zc (T1.heap.size) (own_msg xv nn) T1.heap n0 (by omega) Old5 SCS hzc Om1) hZ (hw _ (List.mem_of_getElem? (i := 48) rfl)) (hw _ (List.mem_of_getElem? (i := 22) rfl)) (by decide) (by decide)) q9a q9c (g := (mkF m 89 #[.val (.int xv), .val (.ref ax1), .val (.ref mm1), .val (.long v3), .second, .val (.int ng), .val (.long (Int64.ofNat nn)), .second, .val (.int (Int32.ofNat (Jvm.Free.SBG.digits nn))), .val (.int (Int32.ofNat sg)), .unset, .unset, .unset] [(.ref mm1)])) rfl (by rw [hml]; rfl) (Steps.refl _) (argsL := []) (rest := []) (lenOf own_pd_x28x29I rfl) rfl (by show 2 * 0 + _ ≤ _; exact Nat.le_of_eq rfl) (hb hby at_89) (fun _ _ => ⟨rfl, eJ, (by decide : 13 + 0 ≤ _), (by decide : 3224 + 0 ≤ _)⟩)
    dsimp only [Pt.U, Pt.locs, Pt.cells, Pt.slots] at X9 l9 y9 z9 st9 hQ9
    subst l9 y9 z9
    obtain ⟨rfl, N9q, eh9⟩ := hQ9
    have N9 := Fr.app NJ N9q
    refine OwnFin.adv (B := T9.setTop (mkF m 92 #[.val (.int xv), .val (.ref ax1), .val (.ref mm1), .val (.long v3), .second, .val (.int ng), .val (.long (Int64.ofNat nn)), .second, .val (.int (Int32.ofNat (Jvm.Free.SBG.digits nn))), .val (.int (Int32.ofNat sg)), .unset, .unset, .unset] [(.int (Int32.ofNat ((own_msg xv nn)).length))])) (fun _ k => st9.trans k) ?_
    refine OwnFin.adv (B := T9.setTop (mkF m 94 #[.val (.int xv), .val (.ref ax1), .val (.ref mm1), .val (.long v3), .second, .val (.int ng), .val (.long (Int64.ofNat nn)), .second, .val (.int (Int32.ofNat (Jvm.Free.SBG.digits nn))), .val (.int (Int32.ofNat sg)), .unset, .unset, .unset] [(.int (38 : Int32)), (.int (Int32.ofNat ((own_msg xv nn)).length))])) (fun _ k => XS.bipush X9.here hx rfl (hb hby at_92) k) ?_
    refine OwnFin.adv (B := T9.setTop (mkF m 96 #[.val (.int xv), .val (.ref ax1), .val (.ref mm1), .val (.long v3), .second, .val (.int ng), .val (.long (Int64.ofNat nn)), .second, .val (.int (Int32.ofNat (Jvm.Free.SBG.digits nn))), .val (.int (Int32.ofNat sg)), .unset, .unset, .unset] [(.int (Int32.ofNat sg)), (.int (38 : Int32)), (.int (Int32.ofNat ((own_msg xv nn)).length))])) (fun _ k => XS.iload X9.here hx rfl (hb hby at_94) rfl k) ?_
    refine OwnFin.adv (B := T9.setTop (mkF m 97 #[.val (.int xv), .val (.ref ax1), .val (.ref mm1), .val (.long v3), .second, .val (.int ng), .val (.long (Int64.ofNat nn)), .second, .val (.int (Int32.ofNat (Jvm.Free.SBG.digits nn))), .val (.int (Int32.ofNat sg)), .unset, .unset, .unset] [(.int ((38 : Int32) + (Int32.ofNat sg))), (.int (Int32.ofNat ((own_msg xv nn)).length))])) (fun _ k => XS.iadd X9.here hx rfl (hb hby at_96) rfl k) ?_
    refine OwnFin.adv (B := T9.setTop (mkF m 99 #[.val (.int xv), .val (.ref ax1), .val (.ref mm1), .val (.long v3), .second, .val (.int ng), .val (.long (Int64.ofNat nn)), .second, .val (.int (Int32.ofNat (Jvm.Free.SBG.digits nn))), .val (.int (Int32.ofNat sg)), .unset, .unset, .unset] [(.int (Int32.ofNat (Jvm.Free.SBG.digits nn))), (.int ((38 : Int32) + (Int32.ofNat sg))), (.int (Int32.ofNat ((own_msg xv nn)).length))])) (fun _ k => XS.iload X9.here hx rfl (hb hby at_97) rfl k) ?_
    refine OwnFin.adv (B := T9.setTop (mkF m 100 #[.val (.int xv), .val (.ref ax1), .val (.ref mm1), .val (.long v3), .second, .val (.int ng), .val (.long (Int64.ofNat nn)), .second, .val (.int (Int32.ofNat (Jvm.Free.SBG.digits nn))), .val (.int (Int32.ofNat sg)), .unset, .unset, .unset] [(.int (((38 : Int32) + (Int32.ofNat sg)) + (Int32.ofNat (Jvm.Free.SBG.digits nn)))), (.int (Int32.ofNat ((own_msg xv nn)).length))])) (fun _ k => XS.iadd X9.here hx rfl (hb hby at_99) rfl k) ?_
    have hc100_31 : (Int32.ofNat ((own_msg xv nn)).length) = (((38 : Int32) + (Int32.ofNat sg)) + (Int32.ofNat (Jvm.Free.SBG.digits nn))) := own_lenS nn hsg
    refine OwnFin.adv (B := T9.setTop (mkF m 105 #[.val (.int xv), .val (.ref ax1), .val (.ref mm1), .val (.long v3), .second, .val (.int ng), .val (.long (Int64.ofNat nn)), .second, .val (.int (Int32.ofNat (Jvm.Free.SBG.digits nn))), .val (.int (Int32.ofNat sg)), .unset, .unset, .unset] [])) (fun _ k => XS.icmpYes X9.here hx rfl (pc0 := 100) (pc' := 105) rfl (hb hby at_100) rfl (teq hc100_31).1 (by decide) (by decide) k) ?_
    refine OwnFin.adv (B := T9.setTop (mkF m 106 #[.val (.int xv), .val (.ref ax1), .val (.ref mm1), .val (.long v3), .second, .val (.int ng), .val (.long (Int64.ofNat nn)), .second, .val (.int (Int32.ofNat (Jvm.Free.SBG.digits nn))), .val (.int (Int32.ofNat sg)), .unset, .unset, .unset] [(.ref mm1)])) (fun _ k => XS.aloadN X9.here hx rfl (hb hby at_105) rfl rfl k) ?_
    refine OwnFin.adv (B := T9.setTop (mkF m 107 #[.val (.int xv), .val (.ref ax1), .val (.ref mm1), .val (.long v3), .second, .val (.int ng), .val (.long (Int64.ofNat nn)), .second, .val (.int (Int32.ofNat (Jvm.Free.SBG.digits nn))), .val (.int (Int32.ofNat sg)), .unset, .unset, .unset] [(.int (0 : Int32)), (.ref mm1)])) (fun _ k => XS.iconst X9.here hx rfl (hb hby at_106) k) ?_
    obtain ⟨a11, T11, h11, kk11, bb11, kb11, X11, e11, E11, hS11, hk11, hZ, hown, Ea11, Fc11, Fv11, Vb11, lta11, ltb11, C11, Lt11, sf11, st11⟩ := ldcCH (s := s) (vm0 := T1.vm) X9 hx hZ hown (hw _ (List.mem_of_getElem? (i := 262) rfl)) (fun d hd => hw d ((by decide +kernel : ∀ d ∈ Bundle.stringAtoms, d ∈ tables_1) d hd)) eh9 hS1 (by omega) (own_EW hw) (by decide) (chA2).1 (vs := [(.int (84 : Int32)), (.int (104 : Int32)), (.int (101 : Int32)), (.int (32 : Int32)), (.int (114 : Int32)), (.int (101 : Int32)), (.int (113 : Int32)), (.int (117 : Int32))]) (z := (8 : Int32)) ⟨by decide +kernel, by decide +kernel⟩ (by decide) (by decide) (g := (mkF m 107 #[.val (.int xv), .val (.ref ax1), .val (.ref mm1), .val (.long v3), .second, .val (.int ng), .val (.long (Int64.ofNat nn)), .second, .val (.int (Int32.ofNat (Jvm.Free.SBG.digits nn))), .val (.int (Int32.ofNat sg)), .unset, .unset, .unset] [(.int (0 : Int32)), (.ref mm1)])) rfl (hb hby at_107) (n := 32) (by decide) (by decide) (by decide) (by decide)
    have hZ11 := hZ
    have sz12 : T1.heap.size ≤ h11.size := E11.1
    have chA11 : CHr Z own_EL s.vm h0 T11.vm h11 := (chA2).trans C11
    refine OwnFin.adv (B := T11.setTop (mkF m 109 #[.val (.int xv), .val (.ref ax1), .val (.ref mm1), .val (.long v3), .second, .val (.int ng), .val (.long (Int64.ofNat nn)), .second, .val (.int (Int32.ofNat (Jvm.Free.SBG.digits nn))), .val (.int (Int32.ofNat sg)), .unset, .unset, .unset] [(.ref a11), (.int (0 : Int32)), (.ref mm1)])) (fun _ k => st11 _ k) ?_
    have Fl11 : OwnS Z h11 h11.size a11 own_L0 := own_litS Ea11 Fv11 Fc11 Vb11 lta11 ltb11 (by decide) (by decide) own_Lp0 (by decide)
    have Old14 : Old Z n0 h11 := (Old5.ext E11)
    have Fv15_2 : OwnS Z h11 (T1.heap.size) mm1 (own_msg xv nn) := (Om1.ext E11)
    obtain ⟨_, _, ⟨T13, L13, k13, n13⟩, -, X13, ⟨Lc13, hQ13, l13, y13, z13⟩, st13⟩ := Jvm.LawKit.callS X11 hx (y := (⟨"com/example/rollbook/rollbook/http/ApiExceptionBodyTooLargePinLaw", "has", "(Ljava/lang/String;ILjava/lang/String;)Z"⟩ : MethodName)) hown (mvT hZ (hw _ (List.mem_of_getElem? (i := 263) rfl))) (mvT hZ (hw _ (List.mem_of_getElem? (i := 264) rfl))) (mvT hZ (hw _ (List.mem_of_getElem? (i := 258) rfl))) (mvT hZ (hw _ (List.mem_of_getElem? (i := 265) rfl))) (by decide) (backOf (W := 0) (own_has l Z a0 hw [] mm1 a11 zc fm (T1.heap.size) (h11.size) (0) (own_msg xv nn) own_L0 h11 n0 (by omega) Old14 SCS hzc SFM rfm Fv15_2 Fl11 (own_La0 xv nn)) hZ (hw _ (List.mem_of_getElem? (i := 265) rfl)) (hw _ (List.mem_of_getElem? (i := 258) rfl)) (by decide) (by decide)) (g := (mkF m 109 #[.val (.int xv), .val (.ref ax1), .val (.ref mm1), .val (.long v3), .second, .val (.int ng), .val (.long (Int64.ofNat nn)), .second, .val (.int (Int32.ofNat (Jvm.Free.SBG.digits nn))), .val (.int (Int32.ofNat sg)), .unset, .unset, .unset] [(.ref a11), (.int (0 : Int32)), (.ref mm1)])) rfl (by rw [hml]; rfl) (argsL := [(.ref mm1), (.int (0 : Int32)), (.ref a11)]) (rest := []) (lenOf own_pd_x28Ljavax2flangx2fStringx3bILjavax2flangx2fStringx3bx29Z rfl) rfl (by show 2 * 0 + _ ≤ _; exact Nat.le_of_eq rfl) (hb hby at_109) (fun _ _ => ⟨rfl, e11, (by decide : 15 + 0 ≤ _), (by decide : 3260 + 0 ≤ _)⟩)
    dsimp only [Pt.U, Pt.locs, Pt.cells, Pt.slots] at X13 l13 y13 z13 st13 hQ13
    subst l13 y13 z13
    obtain ⟨rfl, N13q, eh13⟩ := hQ13
    have N13 := Fr.app N9 N13q
    refine OwnFin.adv (B := T13.setTop (mkF m 112 #[.val (.int xv), .val (.ref ax1), .val (.ref mm1), .val (.long v3), .second, .val (.int ng), .val (.long (Int64.ofNat nn)), .second, .val (.int (Int32.ofNat (Jvm.Free.SBG.digits nn))), .val (.int (Int32.ofNat sg)), .unset, .unset, .unset] [(.int (1 : Int32))])) (fun _ k => st13 _ k) ?_
    have hc112_36 : ¬ ((1 : Int32) = (0 : Int32)) := by decide
    refine OwnFin.adv (B := T13.setTop (mkF m 115 #[.val (.int xv), .val (.ref ax1), .val (.ref mm1), .val (.long v3), .second, .val (.int ng), .val (.long (Int64.ofNat nn)), .second, .val (.int (Int32.ofNat (Jvm.Free.SBG.digits nn))), .val (.int (Int32.ofNat sg)), .unset, .unset, .unset] [])) (fun _ k => XS.ifNo X13.here hx rfl (hb hby at_112) rfl ((if0 _ _).trans (feq hc112_36).1) k) ?_
    refine OwnFin.adv (B := T13.setTop (mkF m 116 #[.val (.int xv), .val (.ref ax1), .val (.ref mm1), .val (.long v3), .second, .val (.int ng), .val (.long (Int64.ofNat nn)), .second, .val (.int (Int32.ofNat (Jvm.Free.SBG.digits nn))), .val (.int (Int32.ofNat sg)), .unset, .unset, .unset] [(.ref mm1)])) (fun _ k => XS.aloadN X13.here hx rfl (hb hby at_115) rfl rfl k) ?_
    refine OwnFin.adv (B := T13.setTop (mkF m 118 #[.val (.int xv), .val (.ref ax1), .val (.ref mm1), .val (.long v3), .second, .val (.int ng), .val (.long (Int64.ofNat nn)), .second, .val (.int (Int32.ofNat (Jvm.Free.SBG.digits nn))), .val (.int (Int32.ofNat sg)), .unset, .unset, .unset] [(.int (8 : Int32)), (.ref mm1)])) (fun _ k => XS.bipush X13.here hx rfl (hb hby at_116) k) ?_
    obtain ⟨a16, T16, h16, kk16, bb16, kb16, X16, e16, E16, hS16, hk16, hZ, hown, Ea16, Fc16, Fv16, Vb16, lta16, ltb16, C16, Lt16, sf16, st16⟩ := ldcCH (s := s) (vm0 := T11.vm) X13 hx hZ hown (hw _ (List.mem_of_getElem? (i := 291) rfl)) (fun d hd => hw d ((by decide +kernel : ∀ d ∈ Bundle.stringAtoms, d ∈ tables_1) d hd)) eh13 hS11 (by omega) (own_EW hw) (by decide) (chA11).1 (vs := [(.int (101 : Int32)), (.int (115 : Int32)), (.int (116 : Int32)), (.int (32 : Int32)), (.int (98 : Int32)), (.int (111 : Int32)), (.int (100 : Int32)), (.int (121 : Int32))]) (z := (8 : Int32)) ⟨by decide +kernel, by decide +kernel⟩ (by decide) (by decide) (g := (mkF m 118 #[.val (.int xv), .val (.ref ax1), .val (.ref mm1), .val (.long v3), .second, .val (.int ng), .val (.long (Int64.ofNat nn)), .second, .val (.int (Int32.ofNat (Jvm.Free.SBG.digits nn))), .val (.int (Int32.ofNat sg)), .unset, .unset, .unset] [(.int (8 : Int32)), (.ref mm1)])) rfl (hb hby at_118) (n := 32) (by decide) (by decide) (by decide) (by decide)
    have hZ16 := hZ
    have sz17 : h11.size ≤ h16.size := E16.1
    have chA16 : CHr Z own_EL s.vm h0 T16.vm h16 := (chA11).trans C16
    refine OwnFin.adv (B := T16.setTop (mkF m 120 #[.val (.int xv), .val (.ref ax1), .val (.ref mm1), .val (.long v3), .second, .val (.int ng), .val (.long (Int64.ofNat nn)), .second, .val (.int (Int32.ofNat (Jvm.Free.SBG.digits nn))), .val (.int (Int32.ofNat sg)), .unset, .unset, .unset] [(.ref a16), (.int (8 : Int32)), (.ref mm1)])) (fun _ k => st16 _ k) ?_
    have Fl16 : OwnS Z h16 h16.size a16 own_L1 := own_litS Ea16 Fv16 Fc16 Vb16 lta16 ltb16 (by decide) (by decide) own_Lp1 (by decide)
    have Old19 : Old Z n0 h16 := (Old14.ext E16)
    have Fv20_3 : OwnS Z h16 (T1.heap.size) mm1 (own_msg xv nn) := (Fv15_2.ext E16)
    obtain ⟨_, _, ⟨T18, L18, k18, n18⟩, -, X18, ⟨Lc18, hQ18, l18, y18, z18⟩, st18⟩ := Jvm.LawKit.callS X16 hx (y := (⟨"com/example/rollbook/rollbook/http/ApiExceptionBodyTooLargePinLaw", "has", "(Ljava/lang/String;ILjava/lang/String;)Z"⟩ : MethodName)) hown (mvT hZ (hw _ (List.mem_of_getElem? (i := 263) rfl))) (mvT hZ (hw _ (List.mem_of_getElem? (i := 264) rfl))) (mvT hZ (hw _ (List.mem_of_getElem? (i := 258) rfl))) (mvT hZ (hw _ (List.mem_of_getElem? (i := 265) rfl))) (by decide) (backOf (W := 0) (own_has l Z a0 hw [] mm1 a16 zc fm (T1.heap.size) (h16.size) (8) (own_msg xv nn) own_L1 h16 n0 (by omega) Old19 SCS hzc SFM rfm Fv20_3 Fl16 (own_La1 xv nn)) hZ (hw _ (List.mem_of_getElem? (i := 265) rfl)) (hw _ (List.mem_of_getElem? (i := 258) rfl)) (by decide) (by decide)) (g := (mkF m 120 #[.val (.int xv), .val (.ref ax1), .val (.ref mm1), .val (.long v3), .second, .val (.int ng), .val (.long (Int64.ofNat nn)), .second, .val (.int (Int32.ofNat (Jvm.Free.SBG.digits nn))), .val (.int (Int32.ofNat sg)), .unset, .unset, .unset] [(.ref a16), (.int (8 : Int32)), (.ref mm1)])) rfl (by rw [hml]; rfl) (argsL := [(.ref mm1), (.int (8 : Int32)), (.ref a16)]) (rest := []) (lenOf own_pd_x28Ljavax2flangx2fStringx3bILjavax2flangx2fStringx3bx29Z rfl) rfl (by show 2 * 0 + _ ≤ _; exact Nat.le_of_eq rfl) (hb hby at_120) (fun _ _ => ⟨rfl, e16, (by decide : 17 + 0 ≤ _), (by decide : 3296 + 0 ≤ _)⟩)
    dsimp only [Pt.U, Pt.locs, Pt.cells, Pt.slots] at X18 l18 y18 z18 st18 hQ18
    subst l18 y18 z18
    obtain ⟨rfl, N18q, eh18⟩ := hQ18
    have N18 := Fr.app N13 N18q
    refine OwnFin.adv (B := T18.setTop (mkF m 123 #[.val (.int xv), .val (.ref ax1), .val (.ref mm1), .val (.long v3), .second, .val (.int ng), .val (.long (Int64.ofNat nn)), .second, .val (.int (Int32.ofNat (Jvm.Free.SBG.digits nn))), .val (.int (Int32.ofNat sg)), .unset, .unset, .unset] [(.int (1 : Int32))])) (fun _ k => st18 _ k) ?_
    have hc123_41 : ¬ ((1 : Int32) = (0 : Int32)) := by decide
    refine OwnFin.adv (B := T18.setTop (mkF m 126 #[.val (.int xv), .val (.ref ax1), .val (.ref mm1), .val (.long v3), .second, .val (.int ng), .val (.long (Int64.ofNat nn)), .second, .val (.int (Int32.ofNat (Jvm.Free.SBG.digits nn))), .val (.int (Int32.ofNat sg)), .unset, .unset, .unset] [])) (fun _ k => XS.ifNo X18.here hx rfl (hb hby at_123) rfl ((if0 _ _).trans (feq hc123_41).1) k) ?_
    refine OwnFin.adv (B := T18.setTop (mkF m 127 #[.val (.int xv), .val (.ref ax1), .val (.ref mm1), .val (.long v3), .second, .val (.int ng), .val (.long (Int64.ofNat nn)), .second, .val (.int (Int32.ofNat (Jvm.Free.SBG.digits nn))), .val (.int (Int32.ofNat sg)), .unset, .unset, .unset] [(.ref mm1)])) (fun _ k => XS.aloadN X18.here hx rfl (hb hby at_126) rfl rfl k) ?_
    refine OwnFin.adv (B := T18.setTop (mkF m 129 #[.val (.int xv), .val (.ref ax1), .val (.ref mm1), .val (.long v3), .second, .val (.int ng), .val (.long (Int64.ofNat nn)), .second, .val (.int (Int32.ofNat (Jvm.Free.SBG.digits nn))), .val (.int (Int32.ofNat sg)), .unset, .unset, .unset] [(.int (16 : Int32)), (.ref mm1)])) (fun _ k => XS.bipush X18.here hx rfl (hb hby at_127) k) ?_
    obtain ⟨a21, T21, h21, kk21, bb21, kb21, X21, e21, E21, hS21, hk21, hZ, hown, Ea21, Fc21, Fv21, Vb21, lta21, ltb21, C21, Lt21, sf21, st21⟩ := ldcCH (s := s) (vm0 := T16.vm) X18 hx hZ hown (hw _ (List.mem_of_getElem? (i := 292) rfl)) (fun d hd => hw d ((by decide +kernel : ∀ d ∈ Bundle.stringAtoms, d ∈ tables_1) d hd)) eh18 hS16 (by omega) (own_EW hw) (by decide) (chA16).1 (vs := [(.int (32 : Int32)), (.int (105 : Int32)), (.int (115 : Int32)), (.int (32 : Int32)), (.int (108 : Int32)), (.int (111 : Int32)), (.int (110 : Int32)), (.int (103 : Int32))]) (z := (8 : Int32)) ⟨by decide +kernel, by decide +kernel⟩ (by decide) (by decide) (g := (mkF m 129 #[.val (.int xv), .val (.ref ax1), .val (.ref mm1), .val (.long v3), .second, .val (.int ng), .val (.long (Int64.ofNat nn)), .second, .val (.int (Int32.ofNat (Jvm.Free.SBG.digits nn))), .val (.int (Int32.ofNat sg)), .unset, .unset, .unset] [(.int (16 : Int32)), (.ref mm1)])) rfl (hb hby at_129) (n := 32) (by decide) (by decide) (by decide) (by decide)
    have hZ21 := hZ
    have sz22 : h16.size ≤ h21.size := E21.1
    have chA21 : CHr Z own_EL s.vm h0 T21.vm h21 := (chA16).trans C21
    refine OwnFin.adv (B := T21.setTop (mkF m 131 #[.val (.int xv), .val (.ref ax1), .val (.ref mm1), .val (.long v3), .second, .val (.int ng), .val (.long (Int64.ofNat nn)), .second, .val (.int (Int32.ofNat (Jvm.Free.SBG.digits nn))), .val (.int (Int32.ofNat sg)), .unset, .unset, .unset] [(.ref a21), (.int (16 : Int32)), (.ref mm1)])) (fun _ k => st21 _ k) ?_
    have Fl21 : OwnS Z h21 h21.size a21 own_L2 := own_litS Ea21 Fv21 Fc21 Vb21 lta21 ltb21 (by decide) (by decide) own_Lp2 (by decide)
    have Old24 : Old Z n0 h21 := (Old19.ext E21)
    have Fv25_4 : OwnS Z h21 (T1.heap.size) mm1 (own_msg xv nn) := (Fv20_3.ext E21)
    obtain ⟨_, _, ⟨T23, L23, k23, n23⟩, -, X23, ⟨Lc23, hQ23, l23, y23, z23⟩, st23⟩ := Jvm.LawKit.callS X21 hx (y := (⟨"com/example/rollbook/rollbook/http/ApiExceptionBodyTooLargePinLaw", "has", "(Ljava/lang/String;ILjava/lang/String;)Z"⟩ : MethodName)) hown (mvT hZ (hw _ (List.mem_of_getElem? (i := 263) rfl))) (mvT hZ (hw _ (List.mem_of_getElem? (i := 264) rfl))) (mvT hZ (hw _ (List.mem_of_getElem? (i := 258) rfl))) (mvT hZ (hw _ (List.mem_of_getElem? (i := 265) rfl))) (by decide) (backOf (W := 0) (own_has l Z a0 hw [] mm1 a21 zc fm (T1.heap.size) (h21.size) (16) (own_msg xv nn) own_L2 h21 n0 (by omega) Old24 SCS hzc SFM rfm Fv25_4 Fl21 (own_La2 xv nn)) hZ (hw _ (List.mem_of_getElem? (i := 265) rfl)) (hw _ (List.mem_of_getElem? (i := 258) rfl)) (by decide) (by decide)) (g := (mkF m 131 #[.val (.int xv), .val (.ref ax1), .val (.ref mm1), .val (.long v3), .second, .val (.int ng), .val (.long (Int64.ofNat nn)), .second, .val (.int (Int32.ofNat (Jvm.Free.SBG.digits nn))), .val (.int (Int32.ofNat sg)), .unset, .unset, .unset] [(.ref a21), (.int (16 : Int32)), (.ref mm1)])) rfl (by rw [hml]; rfl) (argsL := [(.ref mm1), (.int (16 : Int32)), (.ref a21)]) (rest := []) (lenOf own_pd_x28Ljavax2flangx2fStringx3bILjavax2flangx2fStringx3bx29Z rfl) rfl (by show 2 * 0 + _ ≤ _; exact Nat.le_of_eq rfl) (hb hby at_131) (fun _ _ => ⟨rfl, e21, (by decide : 19 + 0 ≤ _), (by decide : 3332 + 0 ≤ _)⟩)
    dsimp only [Pt.U, Pt.locs, Pt.cells, Pt.slots] at X23 l23 y23 z23 st23 hQ23
    subst l23 y23 z23
    obtain ⟨rfl, N23q, eh23⟩ := hQ23
    have N23 := Fr.app N18 N23q
    refine OwnFin.adv (B := T23.setTop (mkF m 134 #[.val (.int xv), .val (.ref ax1), .val (.ref mm1), .val (.long v3), .second, .val (.int ng), .val (.long (Int64.ofNat nn)), .second, .val (.int (Int32.ofNat (Jvm.Free.SBG.digits nn))), .val (.int (Int32.ofNat sg)), .unset, .unset, .unset] [(.int (1 : Int32))])) (fun _ k => st23 _ k) ?_
    have hc134_46 : ¬ ((1 : Int32) = (0 : Int32)) := by decide
    refine OwnFin.adv (B := T23.setTop (mkF m 137 #[.val (.int xv), .val (.ref ax1), .val (.ref mm1), .val (.long v3), .second, .val (.int ng), .val (.long (Int64.ofNat nn)), .second, .val (.int (Int32.ofNat (Jvm.Free.SBG.digits nn))), .val (.int (Int32.ofNat sg)), .unset, .unset, .unset] [])) (fun _ k => XS.ifNo X23.here hx rfl (hb hby at_134) rfl ((if0 _ _).trans (feq hc134_46).1) k) ?_
    refine OwnFin.adv (B := T23.setTop (mkF m 138 #[.val (.int xv), .val (.ref ax1), .val (.ref mm1), .val (.long v3), .second, .val (.int ng), .val (.long (Int64.ofNat nn)), .second, .val (.int (Int32.ofNat (Jvm.Free.SBG.digits nn))), .val (.int (Int32.ofNat sg)), .unset, .unset, .unset] [(.ref mm1)])) (fun _ k => XS.aloadN X23.here hx rfl (hb hby at_137) rfl rfl k) ?_
    refine OwnFin.adv (B := T23.setTop (mkF m 140 #[.val (.int xv), .val (.ref ax1), .val (.ref mm1), .val (.long v3), .second, .val (.int ng), .val (.long (Int64.ofNat nn)), .second, .val (.int (Int32.ofNat (Jvm.Free.SBG.digits nn))), .val (.int (Int32.ofNat sg)), .unset, .unset, .unset] [(.int (24 : Int32)), (.ref mm1)])) (fun _ k => XS.bipush X23.here hx rfl (hb hby at_138) k) ?_
    obtain ⟨a26, T26, h26, kk26, bb26, kb26, X26, e26, E26, hS26, hk26, hZ, hown, Ea26, Fc26, Fv26, Vb26, lta26, ltb26, C26, Lt26, sf26, st26⟩ := ldcCH (s := s) (vm0 := T21.vm) X23 hx hZ hown (hw _ (List.mem_of_getElem? (i := 293) rfl)) (fun d hd => hw d ((by decide +kernel : ∀ d ∈ Bundle.stringAtoms, d ∈ tables_1) d hd)) eh23 hS21 (by omega) (own_EW hw) (by decide) (chA21).1 (vs := [(.int (101 : Int32)), (.int (114 : Int32)), (.int (32 : Int32)), (.int (116 : Int32)), (.int (104 : Int32)), (.int (97 : Int32)), (.int (110 : Int32)), (.int (32 : Int32))]) (z := (8 : Int32)) ⟨by decide +kernel, by decide +kernel⟩ (by decide) (by decide) (g := (mkF m 140 #[.val (.int xv), .val (.ref ax1), .val (.ref mm1), .val (.long v3), .second, .val (.int ng), .val (.long (Int64.ofNat nn)), .second, .val (.int (Int32.ofNat (Jvm.Free.SBG.digits nn))), .val (.int (Int32.ofNat sg)), .unset, .unset, .unset] [(.int (24 : Int32)), (.ref mm1)])) rfl (hb hby at_140) (n := 32) (by decide) (by decide) (by decide) (by decide)
    have hZ26 := hZ
    have sz27 : h21.size ≤ h26.size := E26.1
    have chA26 : CHr Z own_EL s.vm h0 T26.vm h26 := (chA21).trans C26
    refine OwnFin.adv (B := T26.setTop (mkF m 142 #[.val (.int xv), .val (.ref ax1), .val (.ref mm1), .val (.long v3), .second, .val (.int ng), .val (.long (Int64.ofNat nn)), .second, .val (.int (Int32.ofNat (Jvm.Free.SBG.digits nn))), .val (.int (Int32.ofNat sg)), .unset, .unset, .unset] [(.ref a26), (.int (24 : Int32)), (.ref mm1)])) (fun _ k => st26 _ k) ?_
    have Fl26 : OwnS Z h26 h26.size a26 own_L3 := own_litS Ea26 Fv26 Fc26 Vb26 lta26 ltb26 (by decide) (by decide) own_Lp3 (by decide)
    have Old29 : Old Z n0 h26 := (Old24.ext E26)
    have Fv30_5 : OwnS Z h26 (T1.heap.size) mm1 (own_msg xv nn) := (Fv25_4.ext E26)
    obtain ⟨_, _, ⟨T28, L28, k28, n28⟩, -, X28, ⟨Lc28, hQ28, l28, y28, z28⟩, st28⟩ := Jvm.LawKit.callS X26 hx (y := (⟨"com/example/rollbook/rollbook/http/ApiExceptionBodyTooLargePinLaw", "has", "(Ljava/lang/String;ILjava/lang/String;)Z"⟩ : MethodName)) hown (mvT hZ (hw _ (List.mem_of_getElem? (i := 263) rfl))) (mvT hZ (hw _ (List.mem_of_getElem? (i := 264) rfl))) (mvT hZ (hw _ (List.mem_of_getElem? (i := 258) rfl))) (mvT hZ (hw _ (List.mem_of_getElem? (i := 265) rfl))) (by decide) (backOf (W := 0) (own_has l Z a0 hw [] mm1 a26 zc fm (T1.heap.size) (h26.size) (24) (own_msg xv nn) own_L3 h26 n0 (by omega) Old29 SCS hzc SFM rfm Fv30_5 Fl26 (own_La3 xv nn)) hZ (hw _ (List.mem_of_getElem? (i := 265) rfl)) (hw _ (List.mem_of_getElem? (i := 258) rfl)) (by decide) (by decide)) (g := (mkF m 142 #[.val (.int xv), .val (.ref ax1), .val (.ref mm1), .val (.long v3), .second, .val (.int ng), .val (.long (Int64.ofNat nn)), .second, .val (.int (Int32.ofNat (Jvm.Free.SBG.digits nn))), .val (.int (Int32.ofNat sg)), .unset, .unset, .unset] [(.ref a26), (.int (24 : Int32)), (.ref mm1)])) rfl (by rw [hml]; rfl) (argsL := [(.ref mm1), (.int (24 : Int32)), (.ref a26)]) (rest := []) (lenOf own_pd_x28Ljavax2flangx2fStringx3bILjavax2flangx2fStringx3bx29Z rfl) rfl (by show 2 * 0 + _ ≤ _; exact Nat.le_of_eq rfl) (hb hby at_142) (fun _ _ => ⟨rfl, e26, (by decide : 21 + 0 ≤ _), (by decide : 3368 + 0 ≤ _)⟩)
    dsimp only [Pt.U, Pt.locs, Pt.cells, Pt.slots] at X28 l28 y28 z28 st28 hQ28
    subst l28 y28 z28
    obtain ⟨rfl, N28q, eh28⟩ := hQ28
    have N28 := Fr.app N23 N28q
    refine OwnFin.adv (B := T28.setTop (mkF m 145 #[.val (.int xv), .val (.ref ax1), .val (.ref mm1), .val (.long v3), .second, .val (.int ng), .val (.long (Int64.ofNat nn)), .second, .val (.int (Int32.ofNat (Jvm.Free.SBG.digits nn))), .val (.int (Int32.ofNat sg)), .unset, .unset, .unset] [(.int (1 : Int32))])) (fun _ k => st28 _ k) ?_
    have hc145_51 : ¬ ((1 : Int32) = (0 : Int32)) := by decide
    refine OwnFin.adv (B := T28.setTop (mkF m 150 #[.val (.int xv), .val (.ref ax1), .val (.ref mm1), .val (.long v3), .second, .val (.int ng), .val (.long (Int64.ofNat nn)), .second, .val (.int (Int32.ofNat (Jvm.Free.SBG.digits nn))), .val (.int (Int32.ofNat sg)), .unset, .unset, .unset] [])) (fun _ k => XS.ifYes X28.here hx rfl (pc0 := 145) (pc' := 150) rfl (hb hby at_145) rfl ((if0 _ _).trans (feq hc145_51).2) (by decide) (by decide) k) ?_
    refine OwnFin.adv (B := T28.setTop (mkF m 152 #[.val (.int xv), .val (.ref ax1), .val (.ref mm1), .val (.long v3), .second, .val (.int ng), .val (.long (Int64.ofNat nn)), .second, .val (.int (Int32.ofNat (Jvm.Free.SBG.digits nn))), .val (.int (Int32.ofNat sg)), .unset, .unset, .unset] [(.int ng)])) (fun _ k => XS.iload X28.here hx rfl (hb hby at_150) rfl k) ?_
    have J168 : ∀  (TJ : State) (LJ : List Loc) (XJ : Stand p l e room_1 (s.setVm T26.vm) m #[(.int xv)] below meth c TJ LJ 21 3368) (eJ : TJ.heap = h26) (NJ : Fr n0 LJ), OwnFin p.tables e below P' (TJ.setTop (mkF m 168 #[.val (.int xv), .val (.ref ax1), .val (.ref mm1), .val (.long v3), .second, .val (.int ng), .val (.long (Int64.ofNat nn)), .second, .val (.int (Int32.ofNat (Jvm.Free.SBG.digits nn))), .val (.int (Int32.ofNat sg)), .unset, .unset, .unset] [])) := by
      intro  TJ LJ XJ eJ NJ 
      refine OwnFin.adv (B := TJ.setTop (mkF m 170 #[.val (.int xv), .val (.ref ax1), .val (.ref mm1), .val (.long v3), .second, .val (.int ng), .val (.long (Int64.ofNat nn)), .second, .val (.int (Int32.ofNat (Jvm.Free.SBG.digits nn))), .val (.int (Int32.ofNat sg)), .unset, .unset, .unset] [(.int (32 : Int32))])) (fun _ k => XS.bipush XJ.here hx rfl (hb hby at_168) k) ?_
      refine OwnFin.adv (B := TJ.setTop (mkF m 172 #[.val (.int xv), .val (.ref ax1), .val (.ref mm1), .val (.long v3), .second, .val (.int ng), .val (.long (Int64.ofNat nn)), .second, .val (.int (Int32.ofNat (Jvm.Free.SBG.digits nn))), .val (.int (Int32.ofNat sg)), .unset, .unset, .unset] [(.int (Int32.ofNat sg)), (.int (32 : Int32))])) (fun _ k => XS.iload XJ.here hx rfl (hb hby at_170) rfl k) ?_
      refine OwnFin.adv (B := TJ.setTop (mkF m 173 #[.val (.int xv), .val (.ref ax1), .val (.ref mm1), .val (.long v3), .second, .val (.int ng), .val (.long (Int64.ofNat nn)), .second, .val (.int (Int32.ofNat (Jvm.Free.SBG.digits nn))), .val (.int (Int32.ofNat sg)), .unset, .unset, .unset] [(.int ((32 : Int32) + (Int32.ofNat sg)))])) (fun _ k => XS.iadd XJ.here hx rfl (hb hby at_172) rfl k) ?_
      refine OwnFin.adv (B := TJ.setTop (mkF m 175 #[.val (.int xv), .val (.ref ax1), .val (.ref mm1), .val (.long v3), .second, .val (.int ng), .val (.long (Int64.ofNat nn)), .second, .val (.int (Int32.ofNat (Jvm.Free.SBG.digits nn))), .val (.int (Int32.ofNat sg)), .val (.int ((32 : Int32) + (Int32.ofNat sg))), .unset, .unset] [])) (fun _ k => XS.istore XJ.here hx rfl (hb hby at_173) rfl (l' := #[.val (.int xv), .val (.ref ax1), .val (.ref mm1), .val (.long v3), .second, .val (.int ng), .val (.long (Int64.ofNat nn)), .second, .val (.int (Int32.ofNat (Jvm.Free.SBG.digits nn))), .val (.int (Int32.ofNat sg)), .val (.int ((32 : Int32) + (Int32.ofNat sg))), .unset, .unset]) rfl k) ?_
      rw [show (((32 : Int32) + (Int32.ofNat sg)) : Int32) = (Int32.ofNat (32 + sg)) from own_add 32 sg]
      refine OwnFin.adv (B := TJ.setTop (mkF m 177 #[.val (.int xv), .val (.ref ax1), .val (.ref mm1), .val (.long v3), .second, .val (.int ng), .val (.long (Int64.ofNat nn)), .second, .val (.int (Int32.ofNat (Jvm.Free.SBG.digits nn))), .val (.int (Int32.ofNat sg)), .val (.int (Int32.ofNat (32 + sg))), .unset, .unset] [(.int (10 : Int32))])) (fun _ k => XS.bipush XJ.here hx rfl (hb hby at_175) k) ?_
      obtain ⟨T32, h32, k32, X32, e32, E32, A32, st32⟩ := newP XJ hx hZ (hw _ (List.mem_of_getElem? (i := 294) rfl)) eJ (g := (mkF m 177 #[.val (.int xv), .val (.ref ax1), .val (.ref mm1), .val (.long v3), .second, .val (.int ng), .val (.long (Int64.ofNat nn)), .second, .val (.int (Int32.ofNat (Jvm.Free.SBG.digits nn))), .val (.int (Int32.ofNat sg)), .val (.int (Int32.ofNat (32 + sg))), .unset, .unset] [(.int (10 : Int32))])) rfl (hb hby at_177) rfl (by decide) (cap := 10) (by decide) (by decide) (by decide) (by decide)
      obtain ⟨b32, g32⟩ : ∃ z, z = h26.size := ⟨_, rfl⟩
      rw [← g32] at A32 st32
      have sz33 : h26.size ≤ h32.size := E32.1
      have chA33 : CHr Z own_EL s.vm h0 T26.vm h32 := (chA26).trans (CHr.ext E32 (chA26).1)
      have lt_b32 := own_lt A32.lt
      have V32 : Arv Z h32 b32 k32 .long (10 : Int32) [(.long (0 : Int64)), (.long (0 : Int64)), (.long (0 : Int64)), (.long (0 : Int64)), (.long (0 : Int64)), (.long (0 : Int64)), (.long (0 : Int64)), (.long (0 : Int64)), (.long (0 : Int64)), (.long (0 : Int64))] (.long (0 : Int64)) := (Arv.new A32 (by decide)).pad (pad_rep [] (.long (0 : Int64)) 10)
      refine OwnFin.adv (B := T32.setTop (mkF m 179 #[.val (.int xv), .val (.ref ax1), .val (.ref mm1), .val (.long v3), .second, .val (.int ng), .val (.long (Int64.ofNat nn)), .second, .val (.int (Int32.ofNat (Jvm.Free.SBG.digits nn))), .val (.int (Int32.ofNat sg)), .val (.int (Int32.ofNat (32 + sg))), .unset, .unset] [(.ref b32)])) (fun _ k => st32 _ k) ?_
      refine OwnFin.adv (B := T32.setTop (mkF m 180 #[.val (.int xv), .val (.ref ax1), .val (.ref mm1), .val (.long v3), .second, .val (.int ng), .val (.long (Int64.ofNat nn)), .second, .val (.int (Int32.ofNat (Jvm.Free.SBG.digits nn))), .val (.int (Int32.ofNat sg)), .val (.int (Int32.ofNat (32 + sg))), .unset, .unset] [(.ref b32), (.ref b32)])) (fun _ k => XS.dup X32.here hx rfl (hb hby at_179) rfl rfl k) ?_
      refine OwnFin.adv (B := T32.setTop (mkF m 181 #[.val (.int xv), .val (.ref ax1), .val (.ref mm1), .val (.long v3), .second, .val (.int ng), .val (.long (Int64.ofNat nn)), .second, .val (.int (Int32.ofNat (Jvm.Free.SBG.digits nn))), .val (.int (Int32.ofNat sg)), .val (.int (Int32.ofNat (32 + sg))), .unset, .unset] [(.int (0 : Int32)), (.ref b32), (.ref b32)])) (fun _ k => XS.iconst X32.here hx rfl (hb hby at_180) k) ?_
      refine OwnFin.adv (B := T32.setTop (mkF m 182 #[.val (.int xv), .val (.ref ax1), .val (.ref mm1), .val (.long v3), .second, .val (.int ng), .val (.long (Int64.ofNat nn)), .second, .val (.int (Int32.ofNat (Jvm.Free.SBG.digits nn))), .val (.int (Int32.ofNat sg)), .val (.int (Int32.ofNat (32 + sg))), .unset, .unset] [(.long (1 : Int64)), (.int (0 : Int32)), (.ref b32), (.ref b32)])) (fun _ k => XS.lconst X32.here hx rfl (hb hby at_181) k) ?_
      obtain ⟨cl34, Ar34, ck34, S34, M34, H34, G34⟩ := id V32
      have hin34 : ¬ ((0 : Int32) < 0 ∨ cl34.slots.size ≤ ((0 : Int32)).toNatClampNeg) := inb_of S34 ⟨by decide, by decide⟩
      obtain ⟨T34, h34, X34, e34, W34, st34⟩ := stJ X32 hx hZ e32 Ar34 (j := (0 : Int32)) hin34 (g := (mkF m 182 #[.val (.int xv), .val (.ref ax1), .val (.ref mm1), .val (.long v3), .second, .val (.int ng), .val (.long (Int64.ofNat nn)), .second, .val (.int (Int32.ofNat (Jvm.Free.SBG.digits nn))), .val (.int (Int32.ofNat sg)), .val (.int (Int32.ofNat (32 + sg))), .unset, .unset] [(.long (1 : Int64)), (.int (0 : Int32)), (.ref b32), (.ref b32)])) rfl rfl (hb hby at_182)
      have V34 : Arv Z h34 b32 k32 .long (10 : Int32) [(.long (1 : Int64)), (.long (0 : Int64)), (.long (0 : Int64)), (.long (0 : Int64)), (.long (0 : Int64)), (.long (0 : Int64)), (.long (0 : Int64)), (.long (0 : Int64)), (.long (0 : Int64)), (.long (0 : Int64))] (.long (0 : Int64)) := Arv.set Ar34 ck34 S34 M34 H34 G34 rfl W34 0 rfl (Nat.le_of_ble_eq_true rfl)
      have sz35 : h32.size ≤ h34.size := Nat.le_of_eq W34.size.symm
      have chA35 : CHr Z own_EL s.vm h0 T26.vm h34 := (chA33).trans (CHr.wr W34 (Safe.arv hZ26.alike V32 (by decide)) (chA33).1)
      have N34 := Fr.snoc X34 NJ (by omega : n0 ≤ b32)
      refine OwnFin.adv (B := T34.setTop (mkF m 183 #[.val (.int xv), .val (.ref ax1), .val (.ref mm1), .val (.long v3), .second, .val (.int ng), .val (.long (Int64.ofNat nn)), .second, .val (.int (Int32.ofNat (Jvm.Free.SBG.digits nn))), .val (.int (Int32.ofNat sg)), .val (.int (Int32.ofNat (32 + sg))), .unset, .unset] [(.ref b32)])) (fun _ k => st34 _ k) ?_
      refine OwnFin.adv (B := T34.setTop (mkF m 184 #[.val (.int xv), .val (.ref ax1), .val (.ref mm1), .val (.long v3), .second, .val (.int ng), .val (.long (Int64.ofNat nn)), .second, .val (.int (Int32.ofNat (Jvm.Free.SBG.digits nn))), .val (.int (Int32.ofNat sg)), .val (.int (Int32.ofNat (32 + sg))), .unset, .unset] [(.ref b32), (.ref b32)])) (fun _ k => XS.dup X34.here hx rfl (hb hby at_183) rfl rfl k) ?_
      refine OwnFin.adv (B := T34.setTop (mkF m 185 #[.val (.int xv), .val (.ref ax1), .val (.ref mm1), .val (.long v3), .second, .val (.int ng), .val (.long (Int64.ofNat nn)), .second, .val (.int (Int32.ofNat (Jvm.Free.SBG.digits nn))), .val (.int (Int32.ofNat sg)), .val (.int (Int32.ofNat (32 + sg))), .unset, .unset] [(.int (1 : Int32)), (.ref b32), (.ref b32)])) (fun _ k => XS.iconst X34.here hx rfl (hb hby at_184) k) ?_
      refine OwnFin.adv (B := T34.setTop (mkF m 188 #[.val (.int xv), .val (.ref ax1), .val (.ref mm1), .val (.long v3), .second, .val (.int ng), .val (.long (Int64.ofNat nn)), .second, .val (.int (Int32.ofNat (Jvm.Free.SBG.digits nn))), .val (.int (Int32.ofNat sg)), .val (.int (Int32.ofNat (32 + sg))), .unset, .unset] [(.long (10 : Int64)), (.int (1 : Int32)), (.ref b32), (.ref b32)])) (fun _ k => X34.ldc2Long hx hown (mvT hZ (hw _ (List.mem_of_getElem? (i := 260) rfl))) (g := (mkF m 185 #[.val (.int xv), .val (.ref ax1), .val (.ref mm1), .val (.long v3), .second, .val (.int ng), .val (.long (Int64.ofNat nn)), .second, .val (.int (Int32.ofNat (Jvm.Free.SBG.digits nn))), .val (.int (Int32.ofNat sg)), .val (.int (Int32.ofNat (32 + sg))), .unset, .unset] [(.int (1 : Int32)), (.ref b32), (.ref b32)])) rfl (hb hby at_185) _ k) ?_
      obtain ⟨cl36, Ar36, ck36, S36, M36, H36, G36⟩ := id V34
      have hin36 : ¬ ((1 : Int32) < 0 ∨ cl36.slots.size ≤ ((1 : Int32)).toNatClampNeg) := inb_of S36 ⟨by decide, by decide⟩
      obtain ⟨T36, h36, X36, e36, W36, st36⟩ := stJ X34 hx hZ e34 Ar36 (j := (1 : Int32)) hin36 (g := (mkF m 188 #[.val (.int xv), .val (.ref ax1), .val (.ref mm1), .val (.long v3), .second, .val (.int ng), .val (.long (Int64.ofNat nn)), .second, .val (.int (Int32.ofNat (Jvm.Free.SBG.digits nn))), .val (.int (Int32.ofNat sg)), .val (.int (Int32.ofNat (32 + sg))), .unset, .unset] [(.long (10 : Int64)), (.int (1 : Int32)), (.ref b32), (.ref b32)])) rfl rfl (hb hby at_188)
      have V36 : Arv Z h36 b32 k32 .long (10 : Int32) [(.long (1 : Int64)), (.long (10 : Int64)), (.long (0 : Int64)), (.long (0 : Int64)), (.long (0 : Int64)), (.long (0 : Int64)), (.long (0 : Int64)), (.long (0 : Int64)), (.long (0 : Int64)), (.long (0 : Int64))] (.long (0 : Int64)) := Arv.set Ar36 ck36 S36 M36 H36 G36 rfl W36 1 rfl (Nat.le_of_ble_eq_true rfl)
      have sz37 : h34.size ≤ h36.size := Nat.le_of_eq W36.size.symm
      have chA37 : CHr Z own_EL s.vm h0 T26.vm h36 := (chA35).trans (CHr.wr W36 (Safe.arv hZ26.alike V34 (by decide)) (chA35).1)
      have N36 := Fr.snoc X36 N34 (by omega : n0 ≤ b32)
      refine OwnFin.adv (B := T36.setTop (mkF m 189 #[.val (.int xv), .val (.ref ax1), .val (.ref mm1), .val (.long v3), .second, .val (.int ng), .val (.long (Int64.ofNat nn)), .second, .val (.int (Int32.ofNat (Jvm.Free.SBG.digits nn))), .val (.int (Int32.ofNat sg)), .val (.int (Int32.ofNat (32 + sg))), .unset, .unset] [(.ref b32)])) (fun _ k => st36 _ k) ?_
      refine OwnFin.adv (B := T36.setTop (mkF m 190 #[.val (.int xv), .val (.ref ax1), .val (.ref mm1), .val (.long v3), .second, .val (.int ng), .val (.long (Int64.ofNat nn)), .second, .val (.int (Int32.ofNat (Jvm.Free.SBG.digits nn))), .val (.int (Int32.ofNat sg)), .val (.int (Int32.ofNat (32 + sg))), .unset, .unset] [(.ref b32), (.ref b32)])) (fun _ k => XS.dup X36.here hx rfl (hb hby at_189) rfl rfl k) ?_
      refine OwnFin.adv (B := T36.setTop (mkF m 191 #[.val (.int xv), .val (.ref ax1), .val (.ref mm1), .val (.long v3), .second, .val (.int ng), .val (.long (Int64.ofNat nn)), .second, .val (.int (Int32.ofNat (Jvm.Free.SBG.digits nn))), .val (.int (Int32.ofNat sg)), .val (.int (Int32.ofNat (32 + sg))), .unset, .unset] [(.int (2 : Int32)), (.ref b32), (.ref b32)])) (fun _ k => XS.iconst X36.here hx rfl (hb hby at_190) k) ?_
      refine OwnFin.adv (B := T36.setTop (mkF m 194 #[.val (.int xv), .val (.ref ax1), .val (.ref mm1), .val (.long v3), .second, .val (.int ng), .val (.long (Int64.ofNat nn)), .second, .val (.int (Int32.ofNat (Jvm.Free.SBG.digits nn))), .val (.int (Int32.ofNat sg)), .val (.int (Int32.ofNat (32 + sg))), .unset, .unset] [(.long (100 : Int64)), (.int (2 : Int32)), (.ref b32), (.ref b32)])) (fun _ k => X36.ldc2Long hx hown (mvT hZ (hw _ (List.mem_of_getElem? (i := 295) rfl))) (g := (mkF m 191 #[.val (.int xv), .val (.ref ax1), .val (.ref mm1), .val (.long v3), .second, .val (.int ng), .val (.long (Int64.ofNat nn)), .second, .val (.int (Int32.ofNat (Jvm.Free.SBG.digits nn))), .val (.int (Int32.ofNat sg)), .val (.int (Int32.ofNat (32 + sg))), .unset, .unset] [(.int (2 : Int32)), (.ref b32), (.ref b32)])) rfl (hb hby at_191) _ k) ?_
      obtain ⟨cl38, Ar38, ck38, S38, M38, H38, G38⟩ := id V36
      have hin38 : ¬ ((2 : Int32) < 0 ∨ cl38.slots.size ≤ ((2 : Int32)).toNatClampNeg) := inb_of S38 ⟨by decide, by decide⟩
      obtain ⟨T38, h38, X38, e38, W38, st38⟩ := stJ X36 hx hZ e36 Ar38 (j := (2 : Int32)) hin38 (g := (mkF m 194 #[.val (.int xv), .val (.ref ax1), .val (.ref mm1), .val (.long v3), .second, .val (.int ng), .val (.long (Int64.ofNat nn)), .second, .val (.int (Int32.ofNat (Jvm.Free.SBG.digits nn))), .val (.int (Int32.ofNat sg)), .val (.int (Int32.ofNat (32 + sg))), .unset, .unset] [(.long (100 : Int64)), (.int (2 : Int32)), (.ref b32), (.ref b32)])) rfl rfl (hb hby at_194)
      have V38 : Arv Z h38 b32 k32 .long (10 : Int32) [(.long (1 : Int64)), (.long (10 : Int64)), (.long (100 : Int64)), (.long (0 : Int64)), (.long (0 : Int64)), (.long (0 : Int64)), (.long (0 : Int64)), (.long (0 : Int64)), (.long (0 : Int64)), (.long (0 : Int64))] (.long (0 : Int64)) := Arv.set Ar38 ck38 S38 M38 H38 G38 rfl W38 2 rfl (Nat.le_of_ble_eq_true rfl)
      have sz39 : h36.size ≤ h38.size := Nat.le_of_eq W38.size.symm
      have chA39 : CHr Z own_EL s.vm h0 T26.vm h38 := (chA37).trans (CHr.wr W38 (Safe.arv hZ26.alike V36 (by decide)) (chA37).1)
      have N38 := Fr.snoc X38 N36 (by omega : n0 ≤ b32)
      refine OwnFin.adv (B := T38.setTop (mkF m 195 #[.val (.int xv), .val (.ref ax1), .val (.ref mm1), .val (.long v3), .second, .val (.int ng), .val (.long (Int64.ofNat nn)), .second, .val (.int (Int32.ofNat (Jvm.Free.SBG.digits nn))), .val (.int (Int32.ofNat sg)), .val (.int (Int32.ofNat (32 + sg))), .unset, .unset] [(.ref b32)])) (fun _ k => st38 _ k) ?_
      refine OwnFin.adv (B := T38.setTop (mkF m 196 #[.val (.int xv), .val (.ref ax1), .val (.ref mm1), .val (.long v3), .second, .val (.int ng), .val (.long (Int64.ofNat nn)), .second, .val (.int (Int32.ofNat (Jvm.Free.SBG.digits nn))), .val (.int (Int32.ofNat sg)), .val (.int (Int32.ofNat (32 + sg))), .unset, .unset] [(.ref b32), (.ref b32)])) (fun _ k => XS.dup X38.here hx rfl (hb hby at_195) rfl rfl k) ?_
      refine OwnFin.adv (B := T38.setTop (mkF m 197 #[.val (.int xv), .val (.ref ax1), .val (.ref mm1), .val (.long v3), .second, .val (.int ng), .val (.long (Int64.ofNat nn)), .second, .val (.int (Int32.ofNat (Jvm.Free.SBG.digits nn))), .val (.int (Int32.ofNat sg)), .val (.int (Int32.ofNat (32 + sg))), .unset, .unset] [(.int (3 : Int32)), (.ref b32), (.ref b32)])) (fun _ k => XS.iconst X38.here hx rfl (hb hby at_196) k) ?_
      refine OwnFin.adv (B := T38.setTop (mkF m 200 #[.val (.int xv), .val (.ref ax1), .val (.ref mm1), .val (.long v3), .second, .val (.int ng), .val (.long (Int64.ofNat nn)), .second, .val (.int (Int32.ofNat (Jvm.Free.SBG.digits nn))), .val (.int (Int32.ofNat sg)), .val (.int (Int32.ofNat (32 + sg))), .unset, .unset] [(.long (1000 : Int64)), (.int (3 : Int32)), (.ref b32), (.ref b32)])) (fun _ k => X38.ldc2Long hx hown (mvT hZ (hw _ (List.mem_of_getElem? (i := 296) rfl))) (g := (mkF m 197 #[.val (.int xv), .val (.ref ax1), .val (.ref mm1), .val (.long v3), .second, .val (.int ng), .val (.long (Int64.ofNat nn)), .second, .val (.int (Int32.ofNat (Jvm.Free.SBG.digits nn))), .val (.int (Int32.ofNat sg)), .val (.int (Int32.ofNat (32 + sg))), .unset, .unset] [(.int (3 : Int32)), (.ref b32), (.ref b32)])) rfl (hb hby at_197) _ k) ?_
      obtain ⟨cl40, Ar40, ck40, S40, M40, H40, G40⟩ := id V38
      have hin40 : ¬ ((3 : Int32) < 0 ∨ cl40.slots.size ≤ ((3 : Int32)).toNatClampNeg) := inb_of S40 ⟨by decide, by decide⟩
      obtain ⟨T40, h40, X40, e40, W40, st40⟩ := stJ X38 hx hZ e38 Ar40 (j := (3 : Int32)) hin40 (g := (mkF m 200 #[.val (.int xv), .val (.ref ax1), .val (.ref mm1), .val (.long v3), .second, .val (.int ng), .val (.long (Int64.ofNat nn)), .second, .val (.int (Int32.ofNat (Jvm.Free.SBG.digits nn))), .val (.int (Int32.ofNat sg)), .val (.int (Int32.ofNat (32 + sg))), .unset, .unset] [(.long (1000 : Int64)), (.int (3 : Int32)), (.ref b32), (.ref b32)])) rfl rfl (hb hby at_200)
      have V40 : Arv Z h40 b32 k32 .long (10 : Int32) [(.long (1 : Int64)), (.long (10 : Int64)), (.long (100 : Int64)), (.long (1000 : Int64)), (.long (0 : Int64)), (.long (0 : Int64)), (.long (0 : Int64)), (.long (0 : Int64)), (.long (0 : Int64)), (.long (0 : Int64))] (.long (0 : Int64)) := Arv.set Ar40 ck40 S40 M40 H40 G40 rfl W40 3 rfl (Nat.le_of_ble_eq_true rfl)
      have sz41 : h38.size ≤ h40.size := Nat.le_of_eq W40.size.symm
      have chA41 : CHr Z own_EL s.vm h0 T26.vm h40 := (chA39).trans (CHr.wr W40 (Safe.arv hZ26.alike V38 (by decide)) (chA39).1)
      have N40 := Fr.snoc X40 N38 (by omega : n0 ≤ b32)
      refine OwnFin.adv (B := T40.setTop (mkF m 201 #[.val (.int xv), .val (.ref ax1), .val (.ref mm1), .val (.long v3), .second, .val (.int ng), .val (.long (Int64.ofNat nn)), .second, .val (.int (Int32.ofNat (Jvm.Free.SBG.digits nn))), .val (.int (Int32.ofNat sg)), .val (.int (Int32.ofNat (32 + sg))), .unset, .unset] [(.ref b32)])) (fun _ k => st40 _ k) ?_
      refine OwnFin.adv (B := T40.setTop (mkF m 202 #[.val (.int xv), .val (.ref ax1), .val (.ref mm1), .val (.long v3), .second, .val (.int ng), .val (.long (Int64.ofNat nn)), .second, .val (.int (Int32.ofNat (Jvm.Free.SBG.digits nn))), .val (.int (Int32.ofNat sg)), .val (.int (Int32.ofNat (32 + sg))), .unset, .unset] [(.ref b32), (.ref b32)])) (fun _ k => XS.dup X40.here hx rfl (hb hby at_201) rfl rfl k) ?_
      refine OwnFin.adv (B := T40.setTop (mkF m 203 #[.val (.int xv), .val (.ref ax1), .val (.ref mm1), .val (.long v3), .second, .val (.int ng), .val (.long (Int64.ofNat nn)), .second, .val (.int (Int32.ofNat (Jvm.Free.SBG.digits nn))), .val (.int (Int32.ofNat sg)), .val (.int (Int32.ofNat (32 + sg))), .unset, .unset] [(.int (4 : Int32)), (.ref b32), (.ref b32)])) (fun _ k => XS.iconst X40.here hx rfl (hb hby at_202) k) ?_
      refine OwnFin.adv (B := T40.setTop (mkF m 206 #[.val (.int xv), .val (.ref ax1), .val (.ref mm1), .val (.long v3), .second, .val (.int ng), .val (.long (Int64.ofNat nn)), .second, .val (.int (Int32.ofNat (Jvm.Free.SBG.digits nn))), .val (.int (Int32.ofNat sg)), .val (.int (Int32.ofNat (32 + sg))), .unset, .unset] [(.long (10000 : Int64)), (.int (4 : Int32)), (.ref b32), (.ref b32)])) (fun _ k => X40.ldc2Long hx hown (mvT hZ (hw _ (List.mem_of_getElem? (i := 297) rfl))) (g := (mkF m 203 #[.val (.int xv), .val (.ref ax1), .val (.ref mm1), .val (.long v3), .second, .val (.int ng), .val (.long (Int64.ofNat nn)), .second, .val (.int (Int32.ofNat (Jvm.Free.SBG.digits nn))), .val (.int (Int32.ofNat sg)), .val (.int (Int32.ofNat (32 + sg))), .unset, .unset] [(.int (4 : Int32)), (.ref b32), (.ref b32)])) rfl (hb hby at_203) _ k) ?_
      obtain ⟨cl42, Ar42, ck42, S42, M42, H42, G42⟩ := id V40
      have hin42 : ¬ ((4 : Int32) < 0 ∨ cl42.slots.size ≤ ((4 : Int32)).toNatClampNeg) := inb_of S42 ⟨by decide, by decide⟩
      obtain ⟨T42, h42, X42, e42, W42, st42⟩ := stJ X40 hx hZ e40 Ar42 (j := (4 : Int32)) hin42 (g := (mkF m 206 #[.val (.int xv), .val (.ref ax1), .val (.ref mm1), .val (.long v3), .second, .val (.int ng), .val (.long (Int64.ofNat nn)), .second, .val (.int (Int32.ofNat (Jvm.Free.SBG.digits nn))), .val (.int (Int32.ofNat sg)), .val (.int (Int32.ofNat (32 + sg))), .unset, .unset] [(.long (10000 : Int64)), (.int (4 : Int32)), (.ref b32), (.ref b32)])) rfl rfl (hb hby at_206)
      have V42 : Arv Z h42 b32 k32 .long (10 : Int32) [(.long (1 : Int64)), (.long (10 : Int64)), (.long (100 : Int64)), (.long (1000 : Int64)), (.long (10000 : Int64)), (.long (0 : Int64)), (.long (0 : Int64)), (.long (0 : Int64)), (.long (0 : Int64)), (.long (0 : Int64))] (.long (0 : Int64)) := Arv.set Ar42 ck42 S42 M42 H42 G42 rfl W42 4 rfl (Nat.le_of_ble_eq_true rfl)
      have sz43 : h40.size ≤ h42.size := Nat.le_of_eq W42.size.symm
      have chA43 : CHr Z own_EL s.vm h0 T26.vm h42 := (chA41).trans (CHr.wr W42 (Safe.arv hZ26.alike V40 (by decide)) (chA41).1)
      have N42 := Fr.snoc X42 N40 (by omega : n0 ≤ b32)
      refine OwnFin.adv (B := T42.setTop (mkF m 207 #[.val (.int xv), .val (.ref ax1), .val (.ref mm1), .val (.long v3), .second, .val (.int ng), .val (.long (Int64.ofNat nn)), .second, .val (.int (Int32.ofNat (Jvm.Free.SBG.digits nn))), .val (.int (Int32.ofNat sg)), .val (.int (Int32.ofNat (32 + sg))), .unset, .unset] [(.ref b32)])) (fun _ k => st42 _ k) ?_
      refine OwnFin.adv (B := T42.setTop (mkF m 208 #[.val (.int xv), .val (.ref ax1), .val (.ref mm1), .val (.long v3), .second, .val (.int ng), .val (.long (Int64.ofNat nn)), .second, .val (.int (Int32.ofNat (Jvm.Free.SBG.digits nn))), .val (.int (Int32.ofNat sg)), .val (.int (Int32.ofNat (32 + sg))), .unset, .unset] [(.ref b32), (.ref b32)])) (fun _ k => XS.dup X42.here hx rfl (hb hby at_207) rfl rfl k) ?_
      refine OwnFin.adv (B := T42.setTop (mkF m 209 #[.val (.int xv), .val (.ref ax1), .val (.ref mm1), .val (.long v3), .second, .val (.int ng), .val (.long (Int64.ofNat nn)), .second, .val (.int (Int32.ofNat (Jvm.Free.SBG.digits nn))), .val (.int (Int32.ofNat sg)), .val (.int (Int32.ofNat (32 + sg))), .unset, .unset] [(.int (5 : Int32)), (.ref b32), (.ref b32)])) (fun _ k => XS.iconst X42.here hx rfl (hb hby at_208) k) ?_
      refine OwnFin.adv (B := T42.setTop (mkF m 212 #[.val (.int xv), .val (.ref ax1), .val (.ref mm1), .val (.long v3), .second, .val (.int ng), .val (.long (Int64.ofNat nn)), .second, .val (.int (Int32.ofNat (Jvm.Free.SBG.digits nn))), .val (.int (Int32.ofNat sg)), .val (.int (Int32.ofNat (32 + sg))), .unset, .unset] [(.long (100000 : Int64)), (.int (5 : Int32)), (.ref b32), (.ref b32)])) (fun _ k => X42.ldc2Long hx hown (mvT hZ (hw _ (List.mem_of_getElem? (i := 298) rfl))) (g := (mkF m 209 #[.val (.int xv), .val (.ref ax1), .val (.ref mm1), .val (.long v3), .second, .val (.int ng), .val (.long (Int64.ofNat nn)), .second, .val (.int (Int32.ofNat (Jvm.Free.SBG.digits nn))), .val (.int (Int32.ofNat sg)), .val (.int (Int32.ofNat (32 + sg))), .unset, .unset] [(.int (5 : Int32)), (.ref b32), (.ref b32)])) rfl (hb hby at_209) _ k) ?_
      obtain ⟨cl44, Ar44, ck44, S44, M44, H44, G44⟩ := id V42
      have hin44 : ¬ ((5 : Int32) < 0 ∨ cl44.slots.size ≤ ((5 : Int32)).toNatClampNeg) := inb_of S44 ⟨by decide, by decide⟩
      obtain ⟨T44, h44, X44, e44, W44, st44⟩ := stJ X42 hx hZ e42 Ar44 (j := (5 : Int32)) hin44 (g := (mkF m 212 #[.val (.int xv), .val (.ref ax1), .val (.ref mm1), .val (.long v3), .second, .val (.int ng), .val (.long (Int64.ofNat nn)), .second, .val (.int (Int32.ofNat (Jvm.Free.SBG.digits nn))), .val (.int (Int32.ofNat sg)), .val (.int (Int32.ofNat (32 + sg))), .unset, .unset] [(.long (100000 : Int64)), (.int (5 : Int32)), (.ref b32), (.ref b32)])) rfl rfl (hb hby at_212)
      have V44 : Arv Z h44 b32 k32 .long (10 : Int32) [(.long (1 : Int64)), (.long (10 : Int64)), (.long (100 : Int64)), (.long (1000 : Int64)), (.long (10000 : Int64)), (.long (100000 : Int64)), (.long (0 : Int64)), (.long (0 : Int64)), (.long (0 : Int64)), (.long (0 : Int64))] (.long (0 : Int64)) := Arv.set Ar44 ck44 S44 M44 H44 G44 rfl W44 5 rfl (Nat.le_of_ble_eq_true rfl)
      have sz45 : h42.size ≤ h44.size := Nat.le_of_eq W44.size.symm
      have chA45 : CHr Z own_EL s.vm h0 T26.vm h44 := (chA43).trans (CHr.wr W44 (Safe.arv hZ26.alike V42 (by decide)) (chA43).1)
      have N44 := Fr.snoc X44 N42 (by omega : n0 ≤ b32)
      refine OwnFin.adv (B := T44.setTop (mkF m 213 #[.val (.int xv), .val (.ref ax1), .val (.ref mm1), .val (.long v3), .second, .val (.int ng), .val (.long (Int64.ofNat nn)), .second, .val (.int (Int32.ofNat (Jvm.Free.SBG.digits nn))), .val (.int (Int32.ofNat sg)), .val (.int (Int32.ofNat (32 + sg))), .unset, .unset] [(.ref b32)])) (fun _ k => st44 _ k) ?_
      refine OwnFin.adv (B := T44.setTop (mkF m 214 #[.val (.int xv), .val (.ref ax1), .val (.ref mm1), .val (.long v3), .second, .val (.int ng), .val (.long (Int64.ofNat nn)), .second, .val (.int (Int32.ofNat (Jvm.Free.SBG.digits nn))), .val (.int (Int32.ofNat sg)), .val (.int (Int32.ofNat (32 + sg))), .unset, .unset] [(.ref b32), (.ref b32)])) (fun _ k => XS.dup X44.here hx rfl (hb hby at_213) rfl rfl k) ?_
      refine OwnFin.adv (B := T44.setTop (mkF m 216 #[.val (.int xv), .val (.ref ax1), .val (.ref mm1), .val (.long v3), .second, .val (.int ng), .val (.long (Int64.ofNat nn)), .second, .val (.int (Int32.ofNat (Jvm.Free.SBG.digits nn))), .val (.int (Int32.ofNat sg)), .val (.int (Int32.ofNat (32 + sg))), .unset, .unset] [(.int (6 : Int32)), (.ref b32), (.ref b32)])) (fun _ k => XS.bipush X44.here hx rfl (hb hby at_214) k) ?_
      refine OwnFin.adv (B := T44.setTop (mkF m 219 #[.val (.int xv), .val (.ref ax1), .val (.ref mm1), .val (.long v3), .second, .val (.int ng), .val (.long (Int64.ofNat nn)), .second, .val (.int (Int32.ofNat (Jvm.Free.SBG.digits nn))), .val (.int (Int32.ofNat sg)), .val (.int (Int32.ofNat (32 + sg))), .unset, .unset] [(.long (1000000 : Int64)), (.int (6 : Int32)), (.ref b32), (.ref b32)])) (fun _ k => X44.ldc2Long hx hown (mvT hZ (hw _ (List.mem_of_getElem? (i := 299) rfl))) (g := (mkF m 216 #[.val (.int xv), .val (.ref ax1), .val (.ref mm1), .val (.long v3), .second, .val (.int ng), .val (.long (Int64.ofNat nn)), .second, .val (.int (Int32.ofNat (Jvm.Free.SBG.digits nn))), .val (.int (Int32.ofNat sg)), .val (.int (Int32.ofNat (32 + sg))), .unset, .unset] [(.int (6 : Int32)), (.ref b32), (.ref b32)])) rfl (hb hby at_216) _ k) ?_
      obtain ⟨cl46, Ar46, ck46, S46, M46, H46, G46⟩ := id V44
      have hin46 : ¬ ((6 : Int32) < 0 ∨ cl46.slots.size ≤ ((6 : Int32)).toNatClampNeg) := inb_of S46 ⟨by decide, by decide⟩
      obtain ⟨T46, h46, X46, e46, W46, st46⟩ := stJ X44 hx hZ e44 Ar46 (j := (6 : Int32)) hin46 (g := (mkF m 219 #[.val (.int xv), .val (.ref ax1), .val (.ref mm1), .val (.long v3), .second, .val (.int ng), .val (.long (Int64.ofNat nn)), .second, .val (.int (Int32.ofNat (Jvm.Free.SBG.digits nn))), .val (.int (Int32.ofNat sg)), .val (.int (Int32.ofNat (32 + sg))), .unset, .unset] [(.long (1000000 : Int64)), (.int (6 : Int32)), (.ref b32), (.ref b32)])) rfl rfl (hb hby at_219)
      have V46 : Arv Z h46 b32 k32 .long (10 : Int32) [(.long (1 : Int64)), (.long (10 : Int64)), (.long (100 : Int64)), (.long (1000 : Int64)), (.long (10000 : Int64)), (.long (100000 : Int64)), (.long (1000000 : Int64)), (.long (0 : Int64)), (.long (0 : Int64)), (.long (0 : Int64))] (.long (0 : Int64)) := Arv.set Ar46 ck46 S46 M46 H46 G46 rfl W46 6 rfl (Nat.le_of_ble_eq_true rfl)
      have sz47 : h44.size ≤ h46.size := Nat.le_of_eq W46.size.symm
      have chA47 : CHr Z own_EL s.vm h0 T26.vm h46 := (chA45).trans (CHr.wr W46 (Safe.arv hZ26.alike V44 (by decide)) (chA45).1)
      have N46 := Fr.snoc X46 N44 (by omega : n0 ≤ b32)
      refine OwnFin.adv (B := T46.setTop (mkF m 220 #[.val (.int xv), .val (.ref ax1), .val (.ref mm1), .val (.long v3), .second, .val (.int ng), .val (.long (Int64.ofNat nn)), .second, .val (.int (Int32.ofNat (Jvm.Free.SBG.digits nn))), .val (.int (Int32.ofNat sg)), .val (.int (Int32.ofNat (32 + sg))), .unset, .unset] [(.ref b32)])) (fun _ k => st46 _ k) ?_
      refine OwnFin.adv (B := T46.setTop (mkF m 221 #[.val (.int xv), .val (.ref ax1), .val (.ref mm1), .val (.long v3), .second, .val (.int ng), .val (.long (Int64.ofNat nn)), .second, .val (.int (Int32.ofNat (Jvm.Free.SBG.digits nn))), .val (.int (Int32.ofNat sg)), .val (.int (Int32.ofNat (32 + sg))), .unset, .unset] [(.ref b32), (.ref b32)])) (fun _ k => XS.dup X46.here hx rfl (hb hby at_220) rfl rfl k) ?_
      refine OwnFin.adv (B := T46.setTop (mkF m 223 #[.val (.int xv), .val (.ref ax1), .val (.ref mm1), .val (.long v3), .second, .val (.int ng), .val (.long (Int64.ofNat nn)), .second, .val (.int (Int32.ofNat (Jvm.Free.SBG.digits nn))), .val (.int (Int32.ofNat sg)), .val (.int (Int32.ofNat (32 + sg))), .unset, .unset] [(.int (7 : Int32)), (.ref b32), (.ref b32)])) (fun _ k => XS.bipush X46.here hx rfl (hb hby at_221) k) ?_
      refine OwnFin.adv (B := T46.setTop (mkF m 226 #[.val (.int xv), .val (.ref ax1), .val (.ref mm1), .val (.long v3), .second, .val (.int ng), .val (.long (Int64.ofNat nn)), .second, .val (.int (Int32.ofNat (Jvm.Free.SBG.digits nn))), .val (.int (Int32.ofNat sg)), .val (.int (Int32.ofNat (32 + sg))), .unset, .unset] [(.long (10000000 : Int64)), (.int (7 : Int32)), (.ref b32), (.ref b32)])) (fun _ k => X46.ldc2Long hx hown (mvT hZ (hw _ (List.mem_of_getElem? (i := 300) rfl))) (g := (mkF m 223 #[.val (.int xv), .val (.ref ax1), .val (.ref mm1), .val (.long v3), .second, .val (.int ng), .val (.long (Int64.ofNat nn)), .second, .val (.int (Int32.ofNat (Jvm.Free.SBG.digits nn))), .val (.int (Int32.ofNat sg)), .val (.int (Int32.ofNat (32 + sg))), .unset, .unset] [(.int (7 : Int32)), (.ref b32), (.ref b32)])) rfl (hb hby at_223) _ k) ?_
      obtain ⟨cl48, Ar48, ck48, S48, M48, H48, G48⟩ := id V46
      have hin48 : ¬ ((7 : Int32) < 0 ∨ cl48.slots.size ≤ ((7 : Int32)).toNatClampNeg) := inb_of S48 ⟨by decide, by decide⟩
      obtain ⟨T48, h48, X48, e48, W48, st48⟩ := stJ X46 hx hZ e46 Ar48 (j := (7 : Int32)) hin48 (g := (mkF m 226 #[.val (.int xv), .val (.ref ax1), .val (.ref mm1), .val (.long v3), .second, .val (.int ng), .val (.long (Int64.ofNat nn)), .second, .val (.int (Int32.ofNat (Jvm.Free.SBG.digits nn))), .val (.int (Int32.ofNat sg)), .val (.int (Int32.ofNat (32 + sg))), .unset, .unset] [(.long (10000000 : Int64)), (.int (7 : Int32)), (.ref b32), (.ref b32)])) rfl rfl (hb hby at_226)
      have V48 : Arv Z h48 b32 k32 .long (10 : Int32) [(.long (1 : Int64)), (.long (10 : Int64)), (.long (100 : Int64)), (.long (1000 : Int64)), (.long (10000 : Int64)), (.long (100000 : Int64)), (.long (1000000 : Int64)), (.long (10000000 : Int64)), (.long (0 : Int64)), (.long (0 : Int64))] (.long (0 : Int64)) := Arv.set Ar48 ck48 S48 M48 H48 G48 rfl W48 7 rfl (Nat.le_of_ble_eq_true rfl)
      have sz49 : h46.size ≤ h48.size := Nat.le_of_eq W48.size.symm
      have chA49 : CHr Z own_EL s.vm h0 T26.vm h48 := (chA47).trans (CHr.wr W48 (Safe.arv hZ26.alike V46 (by decide)) (chA47).1)
      have N48 := Fr.snoc X48 N46 (by omega : n0 ≤ b32)
      refine OwnFin.adv (B := T48.setTop (mkF m 227 #[.val (.int xv), .val (.ref ax1), .val (.ref mm1), .val (.long v3), .second, .val (.int ng), .val (.long (Int64.ofNat nn)), .second, .val (.int (Int32.ofNat (Jvm.Free.SBG.digits nn))), .val (.int (Int32.ofNat sg)), .val (.int (Int32.ofNat (32 + sg))), .unset, .unset] [(.ref b32)])) (fun _ k => st48 _ k) ?_
      refine OwnFin.adv (B := T48.setTop (mkF m 228 #[.val (.int xv), .val (.ref ax1), .val (.ref mm1), .val (.long v3), .second, .val (.int ng), .val (.long (Int64.ofNat nn)), .second, .val (.int (Int32.ofNat (Jvm.Free.SBG.digits nn))), .val (.int (Int32.ofNat sg)), .val (.int (Int32.ofNat (32 + sg))), .unset, .unset] [(.ref b32), (.ref b32)])) (fun _ k => XS.dup X48.here hx rfl (hb hby at_227) rfl rfl k) ?_
      refine OwnFin.adv (B := T48.setTop (mkF m 230 #[.val (.int xv), .val (.ref ax1), .val (.ref mm1), .val (.long v3), .second, .val (.int ng), .val (.long (Int64.ofNat nn)), .second, .val (.int (Int32.ofNat (Jvm.Free.SBG.digits nn))), .val (.int (Int32.ofNat sg)), .val (.int (Int32.ofNat (32 + sg))), .unset, .unset] [(.int (8 : Int32)), (.ref b32), (.ref b32)])) (fun _ k => XS.bipush X48.here hx rfl (hb hby at_228) k) ?_
      refine OwnFin.adv (B := T48.setTop (mkF m 233 #[.val (.int xv), .val (.ref ax1), .val (.ref mm1), .val (.long v3), .second, .val (.int ng), .val (.long (Int64.ofNat nn)), .second, .val (.int (Int32.ofNat (Jvm.Free.SBG.digits nn))), .val (.int (Int32.ofNat sg)), .val (.int (Int32.ofNat (32 + sg))), .unset, .unset] [(.long (100000000 : Int64)), (.int (8 : Int32)), (.ref b32), (.ref b32)])) (fun _ k => X48.ldc2Long hx hown (mvT hZ (hw _ (List.mem_of_getElem? (i := 301) rfl))) (g := (mkF m 230 #[.val (.int xv), .val (.ref ax1), .val (.ref mm1), .val (.long v3), .second, .val (.int ng), .val (.long (Int64.ofNat nn)), .second, .val (.int (Int32.ofNat (Jvm.Free.SBG.digits nn))), .val (.int (Int32.ofNat sg)), .val (.int (Int32.ofNat (32 + sg))), .unset, .unset] [(.int (8 : Int32)), (.ref b32), (.ref b32)])) rfl (hb hby at_230) _ k) ?_
      obtain ⟨cl50, Ar50, ck50, S50, M50, H50, G50⟩ := id V48
      have hin50 : ¬ ((8 : Int32) < 0 ∨ cl50.slots.size ≤ ((8 : Int32)).toNatClampNeg) := inb_of S50 ⟨by decide, by decide⟩
      obtain ⟨T50, h50, X50, e50, W50, st50⟩ := stJ X48 hx hZ e48 Ar50 (j := (8 : Int32)) hin50 (g := (mkF m 233 #[.val (.int xv), .val (.ref ax1), .val (.ref mm1), .val (.long v3), .second, .val (.int ng), .val (.long (Int64.ofNat nn)), .second, .val (.int (Int32.ofNat (Jvm.Free.SBG.digits nn))), .val (.int (Int32.ofNat sg)), .val (.int (Int32.ofNat (32 + sg))), .unset, .unset] [(.long (100000000 : Int64)), (.int (8 : Int32)), (.ref b32), (.ref b32)])) rfl rfl (hb hby at_233)
      have V50 : Arv Z h50 b32 k32 .long (10 : Int32) [(.long (1 : Int64)), (.long (10 : Int64)), (.long (100 : Int64)), (.long (1000 : Int64)), (.long (10000 : Int64)), (.long (100000 : Int64)), (.long (1000000 : Int64)), (.long (10000000 : Int64)), (.long (100000000 : Int64)), (.long (0 : Int64))] (.long (0 : Int64)) := Arv.set Ar50 ck50 S50 M50 H50 G50 rfl W50 8 rfl (Nat.le_of_ble_eq_true rfl)
      have sz51 : h48.size ≤ h50.size := Nat.le_of_eq W50.size.symm
      have chA51 : CHr Z own_EL s.vm h0 T26.vm h50 := (chA49).trans (CHr.wr W50 (Safe.arv hZ26.alike V48 (by decide)) (chA49).1)
      have N50 := Fr.snoc X50 N48 (by omega : n0 ≤ b32)
      refine OwnFin.adv (B := T50.setTop (mkF m 234 #[.val (.int xv), .val (.ref ax1), .val (.ref mm1), .val (.long v3), .second, .val (.int ng), .val (.long (Int64.ofNat nn)), .second, .val (.int (Int32.ofNat (Jvm.Free.SBG.digits nn))), .val (.int (Int32.ofNat sg)), .val (.int (Int32.ofNat (32 + sg))), .unset, .unset] [(.ref b32)])) (fun _ k => st50 _ k) ?_
      refine OwnFin.adv (B := T50.setTop (mkF m 235 #[.val (.int xv), .val (.ref ax1), .val (.ref mm1), .val (.long v3), .second, .val (.int ng), .val (.long (Int64.ofNat nn)), .second, .val (.int (Int32.ofNat (Jvm.Free.SBG.digits nn))), .val (.int (Int32.ofNat sg)), .val (.int (Int32.ofNat (32 + sg))), .unset, .unset] [(.ref b32), (.ref b32)])) (fun _ k => XS.dup X50.here hx rfl (hb hby at_234) rfl rfl k) ?_
      refine OwnFin.adv (B := T50.setTop (mkF m 237 #[.val (.int xv), .val (.ref ax1), .val (.ref mm1), .val (.long v3), .second, .val (.int ng), .val (.long (Int64.ofNat nn)), .second, .val (.int (Int32.ofNat (Jvm.Free.SBG.digits nn))), .val (.int (Int32.ofNat sg)), .val (.int (Int32.ofNat (32 + sg))), .unset, .unset] [(.int (9 : Int32)), (.ref b32), (.ref b32)])) (fun _ k => XS.bipush X50.here hx rfl (hb hby at_235) k) ?_
      refine OwnFin.adv (B := T50.setTop (mkF m 240 #[.val (.int xv), .val (.ref ax1), .val (.ref mm1), .val (.long v3), .second, .val (.int ng), .val (.long (Int64.ofNat nn)), .second, .val (.int (Int32.ofNat (Jvm.Free.SBG.digits nn))), .val (.int (Int32.ofNat sg)), .val (.int (Int32.ofNat (32 + sg))), .unset, .unset] [(.long (1000000000 : Int64)), (.int (9 : Int32)), (.ref b32), (.ref b32)])) (fun _ k => X50.ldc2Long hx hown (mvT hZ (hw _ (List.mem_of_getElem? (i := 302) rfl))) (g := (mkF m 237 #[.val (.int xv), .val (.ref ax1), .val (.ref mm1), .val (.long v3), .second, .val (.int ng), .val (.long (Int64.ofNat nn)), .second, .val (.int (Int32.ofNat (Jvm.Free.SBG.digits nn))), .val (.int (Int32.ofNat sg)), .val (.int (Int32.ofNat (32 + sg))), .unset, .unset] [(.int (9 : Int32)), (.ref b32), (.ref b32)])) rfl (hb hby at_237) _ k) ?_
      obtain ⟨cl52, Ar52, ck52, S52, M52, H52, G52⟩ := id V50
      have hin52 : ¬ ((9 : Int32) < 0 ∨ cl52.slots.size ≤ ((9 : Int32)).toNatClampNeg) := inb_of S52 ⟨by decide, by decide⟩
      obtain ⟨T52, h52, X52, e52, W52, st52⟩ := stJ X50 hx hZ e50 Ar52 (j := (9 : Int32)) hin52 (g := (mkF m 240 #[.val (.int xv), .val (.ref ax1), .val (.ref mm1), .val (.long v3), .second, .val (.int ng), .val (.long (Int64.ofNat nn)), .second, .val (.int (Int32.ofNat (Jvm.Free.SBG.digits nn))), .val (.int (Int32.ofNat sg)), .val (.int (Int32.ofNat (32 + sg))), .unset, .unset] [(.long (1000000000 : Int64)), (.int (9 : Int32)), (.ref b32), (.ref b32)])) rfl rfl (hb hby at_240)
      have V52 : Arv Z h52 b32 k32 .long (10 : Int32) [(.long (1 : Int64)), (.long (10 : Int64)), (.long (100 : Int64)), (.long (1000 : Int64)), (.long (10000 : Int64)), (.long (100000 : Int64)), (.long (1000000 : Int64)), (.long (10000000 : Int64)), (.long (100000000 : Int64)), (.long (1000000000 : Int64))] (.long (0 : Int64)) := Arv.set Ar52 ck52 S52 M52 H52 G52 rfl W52 9 rfl (Nat.le_of_ble_eq_true rfl)
      have sz53 : h50.size ≤ h52.size := Nat.le_of_eq W52.size.symm
      have chA53 : CHr Z own_EL s.vm h0 T26.vm h52 := (chA51).trans (CHr.wr W52 (Safe.arv hZ26.alike V50 (by decide)) (chA51).1)
      have N52 := Fr.snoc X52 N50 (by omega : n0 ≤ b32)
      refine OwnFin.adv (B := T52.setTop (mkF m 241 #[.val (.int xv), .val (.ref ax1), .val (.ref mm1), .val (.long v3), .second, .val (.int ng), .val (.long (Int64.ofNat nn)), .second, .val (.int (Int32.ofNat (Jvm.Free.SBG.digits nn))), .val (.int (Int32.ofNat sg)), .val (.int (Int32.ofNat (32 + sg))), .unset, .unset] [(.ref b32)])) (fun _ k => st52 _ k) ?_
      refine OwnFin.adv (B := T52.setTop (mkF m 243 #[.val (.int xv), .val (.ref ax1), .val (.ref mm1), .val (.long v3), .second, .val (.int ng), .val (.long (Int64.ofNat nn)), .second, .val (.int (Int32.ofNat (Jvm.Free.SBG.digits nn))), .val (.int (Int32.ofNat sg)), .val (.int (Int32.ofNat (32 + sg))), .val (.ref b32), .unset] [])) (fun _ k => XS.astore X52.here hx rfl (hb hby at_241) rfl rfl (l' := #[.val (.int xv), .val (.ref ax1), .val (.ref mm1), .val (.long v3), .second, .val (.int ng), .val (.long (Int64.ofNat nn)), .second, .val (.int (Int32.ofNat (Jvm.Free.SBG.digits nn))), .val (.int (Int32.ofNat sg)), .val (.int (Int32.ofNat (32 + sg))), .val (.ref b32), .unset]) rfl k) ?_
      refine OwnFin.adv (B := T52.setTop (mkF m 244 #[.val (.int xv), .val (.ref ax1), .val (.ref mm1), .val (.long v3), .second, .val (.int ng), .val (.long (Int64.ofNat nn)), .second, .val (.int (Int32.ofNat (Jvm.Free.SBG.digits nn))), .val (.int (Int32.ofNat sg)), .val (.int (Int32.ofNat (32 + sg))), .val (.ref b32), .unset] [(.ref mm1)])) (fun _ k => XS.aloadN X52.here hx rfl (hb hby at_243) rfl rfl k) ?_
      refine OwnFin.adv (B := T52.setTop (mkF m 246 #[.val (.int xv), .val (.ref ax1), .val (.ref mm1), .val (.long v3), .second, .val (.int ng), .val (.long (Int64.ofNat nn)), .second, .val (.int (Int32.ofNat (Jvm.Free.SBG.digits nn))), .val (.int (Int32.ofNat sg)), .val (.int (Int32.ofNat (32 + sg))), .val (.ref b32), .unset] [(.int (Int32.ofNat (32 + sg))), (.ref mm1)])) (fun _ k => XS.iload X52.here hx rfl (hb hby at_244) rfl k) ?_
      refine OwnFin.adv (B := T52.setTop (mkF m 248 #[.val (.int xv), .val (.ref ax1), .val (.ref mm1), .val (.long v3), .second, .val (.int ng), .val (.long (Int64.ofNat nn)), .second, .val (.int (Int32.ofNat (Jvm.Free.SBG.digits nn))), .val (.int (Int32.ofNat sg)), .val (.int (Int32.ofNat (32 + sg))), .val (.ref b32), .unset] [(.long (Int64.ofNat nn)), (.int (Int32.ofNat (32 + sg))), (.ref mm1)])) (fun _ k => XS.lload X52.here hx rfl (hb hby at_246) rfl k) ?_
      refine OwnFin.adv (B := T52.setTop (mkF m 250 #[.val (.int xv), .val (.ref ax1), .val (.ref mm1), .val (.long v3), .second, .val (.int ng), .val (.long (Int64.ofNat nn)), .second, .val (.int (Int32.ofNat (Jvm.Free.SBG.digits nn))), .val (.int (Int32.ofNat sg)), .val (.int (Int32.ofNat (32 + sg))), .val (.ref b32), .unset] [(.int (Int32.ofNat (Jvm.Free.SBG.digits nn))), (.long (Int64.ofNat nn)), (.int (Int32.ofNat (32 + sg))), (.ref mm1)])) (fun _ k => XS.iload X52.here hx rfl (hb hby at_248) rfl k) ?_
      refine OwnFin.adv (B := T52.setTop (mkF m 251 #[.val (.int xv), .val (.ref ax1), .val (.ref mm1), .val (.long v3), .second, .val (.int ng), .val (.long (Int64.ofNat nn)), .second, .val (.int (Int32.ofNat (Jvm.Free.SBG.digits nn))), .val (.int (Int32.ofNat sg)), .val (.int (Int32.ofNat (32 + sg))), .val (.ref b32), .unset] [(.int (0 : Int32)), (.int (Int32.ofNat (Jvm.Free.SBG.digits nn))), (.long (Int64.ofNat nn)), (.int (Int32.ofNat (32 + sg))), (.ref mm1)])) (fun _ k => XS.iconst X52.here hx rfl (hb hby at_250) k) ?_
      refine OwnFin.adv (B := T52.setTop (mkF m 253 #[.val (.int xv), .val (.ref ax1), .val (.ref mm1), .val (.long v3), .second, .val (.int ng), .val (.long (Int64.ofNat nn)), .second, .val (.int (Int32.ofNat (Jvm.Free.SBG.digits nn))), .val (.int (Int32.ofNat sg)), .val (.int (Int32.ofNat (32 + sg))), .val (.ref b32), .unset] [(.ref b32), (.int (0 : Int32)), (.int (Int32.ofNat (Jvm.Free.SBG.digits nn))), (.long (Int64.ofNat nn)), (.int (Int32.ofNat (32 + sg))), (.ref mm1)])) (fun _ k => XS.aload X52.here hx rfl (hb hby at_251) rfl rfl k) ?_
      have Old55 : Old Z n0 h52 := (((((((((((Old29.ext E32).wr W34 (by omega)).wr W36 (by omega)).wr W38 (by omega)).wr W40 (by omega)).wr W42 (by omega)).wr W44 (by omega)).wr W46 (by omega)).wr W48 (by omega)).wr W50 (by omega)).wr W52 (by omega))
      have Fv56_16 : OwnS Z h52 (T1.heap.size) mm1 (own_msg xv nn) := (((((((((((Fv30_5.ext E32).wr W34 (by omega)).wr W36 (by omega)).wr W38 (by omega)).wr W40 (by omega)).wr W42 (by omega)).wr W44 (by omega)).wr W46 (by omega)).wr W48 (by omega)).wr W50 (by omega)).wr W52 (by omega))
      obtain ⟨_, _, ⟨T54, L54, k54, n54⟩, -, X54, ⟨Lc54, hQ54, l54, y54, z54⟩, st54⟩ := Jvm.LawKit.callS X52 hx (y := (⟨"com/example/rollbook/rollbook/http/ApiExceptionBodyTooLargePinLaw", "dig", "(Ljava/lang/String;IJII[J)Z"⟩ : MethodName)) hown (mvT hZ (hw _ (List.mem_of_getElem? (i := 303) rfl))) (mvT hZ (hw _ (List.mem_of_getElem? (i := 304) rfl))) (mvT hZ (hw _ (List.mem_of_getElem? (i := 258) rfl))) (mvT hZ (hw _ (List.mem_of_getElem? (i := 305) rfl))) (by decide) (backOf (W := 0) (own_dig l Z a0 hw [] mm1 b32 k32 zc fm (T1.heap.size) (32 + sg) nn (Jvm.Free.SBG.digits nn) 0 (own_msg xv nn) h52 n0 (by omega) Old55 SCS hzc SFM rfm Fv56_16 V52 hnn (Jvm.Free.SBG.digits_pos nn) (by decide) (by omega) (fun q => own_agD hsg q)) hZ (hw _ (List.mem_of_getElem? (i := 305) rfl)) (hw _ (List.mem_of_getElem? (i := 258) rfl)) (by decide) (by decide)) (g := (mkF m 253 #[.val (.int xv), .val (.ref ax1), .val (.ref mm1), .val (.long v3), .second, .val (.int ng), .val (.long (Int64.ofNat nn)), .second, .val (.int (Int32.ofNat (Jvm.Free.SBG.digits nn))), .val (.int (Int32.ofNat sg)), .val (.int (Int32.ofNat (32 + sg))), .val (.ref b32), .unset] [(.ref b32), (.int (0 : Int32)), (.int (Int32.ofNat (Jvm.Free.SBG.digits nn))), (.long (Int64.ofNat nn)), (.int (Int32.ofNat (32 + sg))), (.ref mm1)])) rfl (by rw [hml]; rfl) (argsL := [(.ref mm1), (.int (Int32.ofNat (32 + sg))), (.long (Int64.ofNat nn)), (.int (Int32.ofNat (Jvm.Free.SBG.digits nn))), (.int (0 : Int32)), (.ref b32)]) (rest := []) (lenOf own_pd_x28Ljavax2flangx2fStringx3bIJIIx5bJx29Z rfl) rfl (by show 2 * 0 + _ ≤ _; exact Nat.le_of_eq rfl) (hb hby at_253) (fun _ _ => ⟨rfl, e52, (by decide : 22 + 0 ≤ _), (by decide : 3378 + 0 ≤ _)⟩)
      dsimp only [Pt.U, Pt.locs, Pt.cells, Pt.slots] at X54 l54 y54 z54 st54 hQ54
      subst l54 y54 z54
      obtain ⟨rfl, N54q, eh54⟩ := hQ54
      have N54 := Fr.app N52 N54q
      refine OwnFin.adv (B := T54.setTop (mkF m 256 #[.val (.int xv), .val (.ref ax1), .val (.ref mm1), .val (.long v3), .second, .val (.int ng), .val (.long (Int64.ofNat nn)), .second, .val (.int (Int32.ofNat (Jvm.Free.SBG.digits nn))), .val (.int (Int32.ofNat sg)), .val (.int (Int32.ofNat (32 + sg))), .val (.ref b32), .unset] [(.int (1 : Int32))])) (fun _ k => st54 _ k) ?_
      have hc256_108 : ¬ ((1 : Int32) = (0 : Int32)) := by decide
      refine OwnFin.adv (B := T54.setTop (mkF m 259 #[.val (.int xv), .val (.ref ax1), .val (.ref mm1), .val (.long v3), .second, .val (.int ng), .val (.long (Int64.ofNat nn)), .second, .val (.int (Int32.ofNat (Jvm.Free.SBG.digits nn))), .val (.int (Int32.ofNat sg)), .val (.int (Int32.ofNat (32 + sg))), .val (.ref b32), .unset] [])) (fun _ k => XS.ifNo X54.here hx rfl (hb hby at_256) rfl ((if0 _ _).trans (feq hc256_108).1) k) ?_
      refine OwnFin.adv (B := T54.setTop (mkF m 260 #[.val (.int xv), .val (.ref ax1), .val (.ref mm1), .val (.long v3), .second, .val (.int ng), .val (.long (Int64.ofNat nn)), .second, .val (.int (Int32.ofNat (Jvm.Free.SBG.digits nn))), .val (.int (Int32.ofNat sg)), .val (.int (Int32.ofNat (32 + sg))), .val (.ref b32), .unset] [(.ref mm1)])) (fun _ k => XS.aloadN X54.here hx rfl (hb hby at_259) rfl rfl k) ?_
      refine OwnFin.adv (B := T54.setTop (mkF m 262 #[.val (.int xv), .val (.ref ax1), .val (.ref mm1), .val (.long v3), .second, .val (.int ng), .val (.long (Int64.ofNat nn)), .second, .val (.int (Int32.ofNat (Jvm.Free.SBG.digits nn))), .val (.int (Int32.ofNat sg)), .val (.int (Int32.ofNat (32 + sg))), .val (.ref b32), .unset] [(.int (Int32.ofNat (32 + sg))), (.ref mm1)])) (fun _ k => XS.iload X54.here hx rfl (hb hby at_260) rfl k) ?_
      refine OwnFin.adv (B := T54.setTop (mkF m 264 #[.val (.int xv), .val (.ref ax1), .val (.ref mm1), .val (.long v3), .second, .val (.int ng), .val (.long (Int64.ofNat nn)), .second, .val (.int (Int32.ofNat (Jvm.Free.SBG.digits nn))), .val (.int (Int32.ofNat sg)), .val (.int (Int32.ofNat (32 + sg))), .val (.ref b32), .unset] [(.long (Int64.ofNat nn)), (.int (Int32.ofNat (32 + sg))), (.ref mm1)])) (fun _ k => XS.lload X54.here hx rfl (hb hby at_262) rfl k) ?_
      refine OwnFin.adv (B := T54.setTop (mkF m 266 #[.val (.int xv), .val (.ref ax1), .val (.ref mm1), .val (.long v3), .second, .val (.int ng), .val (.long (Int64.ofNat nn)), .second, .val (.int (Int32.ofNat (Jvm.Free.SBG.digits nn))), .val (.int (Int32.ofNat sg)), .val (.int (Int32.ofNat (32 + sg))), .val (.ref b32), .unset] [(.int (Int32.ofNat (Jvm.Free.SBG.digits nn))), (.long (Int64.ofNat nn)), (.int (Int32.ofNat (32 + sg))), (.ref mm1)])) (fun _ k => XS.iload X54.here hx rfl (hb hby at_264) rfl k) ?_
      refine OwnFin.adv (B := T54.setTop (mkF m 267 #[.val (.int xv), .val (.ref ax1), .val (.ref mm1), .val (.long v3), .second, .val (.int ng), .val (.long (Int64.ofNat nn)), .second, .val (.int (Int32.ofNat (Jvm.Free.SBG.digits nn))), .val (.int (Int32.ofNat sg)), .val (.int (Int32.ofNat (32 + sg))), .val (.ref b32), .unset] [(.int (1 : Int32)), (.int (Int32.ofNat (Jvm.Free.SBG.digits nn))), (.long (Int64.ofNat nn)), (.int (Int32.ofNat (32 + sg))), (.ref mm1)])) (fun _ k => XS.iconst X54.here hx rfl (hb hby at_266) k) ?_
      refine OwnFin.adv (B := T54.setTop (mkF m 269 #[.val (.int xv), .val (.ref ax1), .val (.ref mm1), .val (.long v3), .second, .val (.int ng), .val (.long (Int64.ofNat nn)), .second, .val (.int (Int32.ofNat (Jvm.Free.SBG.digits nn))), .val (.int (Int32.ofNat sg)), .val (.int (Int32.ofNat (32 + sg))), .val (.ref b32), .unset] [(.ref b32), (.int (1 : Int32)), (.int (Int32.ofNat (Jvm.Free.SBG.digits nn))), (.long (Int64.ofNat nn)), (.int (Int32.ofNat (32 + sg))), (.ref mm1)])) (fun _ k => XS.aload X54.here hx rfl (hb hby at_267) rfl rfl k) ?_
      obtain ⟨_, _, ⟨T57, L57, k57, n57⟩, -, X57, ⟨Lc57, hQ57, l57, y57, z57⟩, st57⟩ := Jvm.LawKit.callS X54 hx (y := (⟨"com/example/rollbook/rollbook/http/ApiExceptionBodyTooLargePinLaw", "dig", "(Ljava/lang/String;IJII[J)Z"⟩ : MethodName)) hown (mvT hZ (hw _ (List.mem_of_getElem? (i := 303) rfl))) (mvT hZ (hw _ (List.mem_of_getElem? (i := 304) rfl))) (mvT hZ (hw _ (List.mem_of_getElem? (i := 258) rfl))) (mvT hZ (hw _ (List.mem_of_getElem? (i := 305) rfl))) (by decide) (backOf (W := 0) (own_dig l Z a0 hw [] mm1 b32 k32 zc fm (T1.heap.size) (32 + sg) nn (Jvm.Free.SBG.digits nn) 1 (own_msg xv nn) h52 n0 (by omega) Old55 SCS hzc SFM rfm Fv56_16 V52 hnn (Jvm.Free.SBG.digits_pos nn) (by decide) (by omega) (fun q => own_agD hsg q)) hZ (hw _ (List.mem_of_getElem? (i := 305) rfl)) (hw _ (List.mem_of_getElem? (i := 258) rfl)) (by decide) (by decide)) (g := (mkF m 269 #[.val (.int xv), .val (.ref ax1), .val (.ref mm1), .val (.long v3), .second, .val (.int ng), .val (.long (Int64.ofNat nn)), .second, .val (.int (Int32.ofNat (Jvm.Free.SBG.digits nn))), .val (.int (Int32.ofNat sg)), .val (.int (Int32.ofNat (32 + sg))), .val (.ref b32), .unset] [(.ref b32), (.int (1 : Int32)), (.int (Int32.ofNat (Jvm.Free.SBG.digits nn))), (.long (Int64.ofNat nn)), (.int (Int32.ofNat (32 + sg))), (.ref mm1)])) rfl (by rw [hml]; rfl) (argsL := [(.ref mm1), (.int (Int32.ofNat (32 + sg))), (.long (Int64.ofNat nn)), (.int (Int32.ofNat (Jvm.Free.SBG.digits nn))), (.int (1 : Int32)), (.ref b32)]) (rest := []) (lenOf own_pd_x28Ljavax2flangx2fStringx3bIJIIx5bJx29Z rfl) rfl (by show 2 * 0 + _ ≤ _; exact Nat.le_of_eq rfl) (hb hby at_269) (fun _ _ => ⟨rfl, eh54, (by decide : 22 + 0 ≤ _), (by decide : 3378 + 0 ≤ _)⟩)
      dsimp only [Pt.U, Pt.locs, Pt.cells, Pt.slots] at X57 l57 y57 z57 st57 hQ57
      subst l57 y57 z57
      obtain ⟨rfl, N57q, eh57⟩ := hQ57
      have N57 := Fr.app N54 N57q
      refine OwnFin.adv (B := T57.setTop (mkF m 272 #[.val (.int xv), .val (.ref ax1), .val (.ref mm1), .val (.long v3), .second, .val (.int ng), .val (.long (Int64.ofNat nn)), .second, .val (.int (Int32.ofNat (Jvm.Free.SBG.digits nn))), .val (.int (Int32.ofNat sg)), .val (.int (Int32.ofNat (32 + sg))), .val (.ref b32), .unset] [(.int (1 : Int32))])) (fun _ k => st57 _ k) ?_
      have hc272_116 : ¬ ((1 : Int32) = (0 : Int32)) := by decide
      refine OwnFin.adv (B := T57.setTop (mkF m 275 #[.val (.int xv), .val (.ref ax1), .val (.ref mm1), .val (.long v3), .second, .val (.int ng), .val (.long (Int64.ofNat nn)), .second, .val (.int (Int32.ofNat (Jvm.Free.SBG.digits nn))), .val (.int (Int32.ofNat sg)), .val (.int (Int32.ofNat (32 + sg))), .val (.ref b32), .unset] [])) (fun _ k => XS.ifNo X57.here hx rfl (hb hby at_272) rfl ((if0 _ _).trans (feq hc272_116).1) k) ?_
      refine OwnFin.adv (B := T57.setTop (mkF m 276 #[.val (.int xv), .val (.ref ax1), .val (.ref mm1), .val (.long v3), .second, .val (.int ng), .val (.long (Int64.ofNat nn)), .second, .val (.int (Int32.ofNat (Jvm.Free.SBG.digits nn))), .val (.int (Int32.ofNat sg)), .val (.int (Int32.ofNat (32 + sg))), .val (.ref b32), .unset] [(.ref mm1)])) (fun _ k => XS.aloadN X57.here hx rfl (hb hby at_275) rfl rfl k) ?_
      refine OwnFin.adv (B := T57.setTop (mkF m 278 #[.val (.int xv), .val (.ref ax1), .val (.ref mm1), .val (.long v3), .second, .val (.int ng), .val (.long (Int64.ofNat nn)), .second, .val (.int (Int32.ofNat (Jvm.Free.SBG.digits nn))), .val (.int (Int32.ofNat sg)), .val (.int (Int32.ofNat (32 + sg))), .val (.ref b32), .unset] [(.int (Int32.ofNat (32 + sg))), (.ref mm1)])) (fun _ k => XS.iload X57.here hx rfl (hb hby at_276) rfl k) ?_
      refine OwnFin.adv (B := T57.setTop (mkF m 280 #[.val (.int xv), .val (.ref ax1), .val (.ref mm1), .val (.long v3), .second, .val (.int ng), .val (.long (Int64.ofNat nn)), .second, .val (.int (Int32.ofNat (Jvm.Free.SBG.digits nn))), .val (.int (Int32.ofNat sg)), .val (.int (Int32.ofNat (32 + sg))), .val (.ref b32), .unset] [(.long (Int64.ofNat nn)), (.int (Int32.ofNat (32 + sg))), (.ref mm1)])) (fun _ k => XS.lload X57.here hx rfl (hb hby at_278) rfl k) ?_
      refine OwnFin.adv (B := T57.setTop (mkF m 282 #[.val (.int xv), .val (.ref ax1), .val (.ref mm1), .val (.long v3), .second, .val (.int ng), .val (.long (Int64.ofNat nn)), .second, .val (.int (Int32.ofNat (Jvm.Free.SBG.digits nn))), .val (.int (Int32.ofNat sg)), .val (.int (Int32.ofNat (32 + sg))), .val (.ref b32), .unset] [(.int (Int32.ofNat (Jvm.Free.SBG.digits nn))), (.long (Int64.ofNat nn)), (.int (Int32.ofNat (32 + sg))), (.ref mm1)])) (fun _ k => XS.iload X57.here hx rfl (hb hby at_280) rfl k) ?_
      refine OwnFin.adv (B := T57.setTop (mkF m 283 #[.val (.int xv), .val (.ref ax1), .val (.ref mm1), .val (.long v3), .second, .val (.int ng), .val (.long (Int64.ofNat nn)), .second, .val (.int (Int32.ofNat (Jvm.Free.SBG.digits nn))), .val (.int (Int32.ofNat sg)), .val (.int (Int32.ofNat (32 + sg))), .val (.ref b32), .unset] [(.int (2 : Int32)), (.int (Int32.ofNat (Jvm.Free.SBG.digits nn))), (.long (Int64.ofNat nn)), (.int (Int32.ofNat (32 + sg))), (.ref mm1)])) (fun _ k => XS.iconst X57.here hx rfl (hb hby at_282) k) ?_
      refine OwnFin.adv (B := T57.setTop (mkF m 285 #[.val (.int xv), .val (.ref ax1), .val (.ref mm1), .val (.long v3), .second, .val (.int ng), .val (.long (Int64.ofNat nn)), .second, .val (.int (Int32.ofNat (Jvm.Free.SBG.digits nn))), .val (.int (Int32.ofNat sg)), .val (.int (Int32.ofNat (32 + sg))), .val (.ref b32), .unset] [(.ref b32), (.int (2 : Int32)), (.int (Int32.ofNat (Jvm.Free.SBG.digits nn))), (.long (Int64.ofNat nn)), (.int (Int32.ofNat (32 + sg))), (.ref mm1)])) (fun _ k => XS.aload X57.here hx rfl (hb hby at_283) rfl rfl k) ?_
      obtain ⟨_, _, ⟨T58, L58, k58, n58⟩, -, X58, ⟨Lc58, hQ58, l58, y58, z58⟩, st58⟩ := Jvm.LawKit.callS X57 hx (y := (⟨"com/example/rollbook/rollbook/http/ApiExceptionBodyTooLargePinLaw", "dig", "(Ljava/lang/String;IJII[J)Z"⟩ : MethodName)) hown (mvT hZ (hw _ (List.mem_of_getElem? (i := 303) rfl))) (mvT hZ (hw _ (List.mem_of_getElem? (i := 304) rfl))) (mvT hZ (hw _ (List.mem_of_getElem? (i := 258) rfl))) (mvT hZ (hw _ (List.mem_of_getElem? (i := 305) rfl))) (by decide) (backOf (W := 0) (own_dig l Z a0 hw [] mm1 b32 k32 zc fm (T1.heap.size) (32 + sg) nn (Jvm.Free.SBG.digits nn) 2 (own_msg xv nn) h52 n0 (by omega) Old55 SCS hzc SFM rfm Fv56_16 V52 hnn (Jvm.Free.SBG.digits_pos nn) (by decide) (by omega) (fun q => own_agD hsg q)) hZ (hw _ (List.mem_of_getElem? (i := 305) rfl)) (hw _ (List.mem_of_getElem? (i := 258) rfl)) (by decide) (by decide)) (g := (mkF m 285 #[.val (.int xv), .val (.ref ax1), .val (.ref mm1), .val (.long v3), .second, .val (.int ng), .val (.long (Int64.ofNat nn)), .second, .val (.int (Int32.ofNat (Jvm.Free.SBG.digits nn))), .val (.int (Int32.ofNat sg)), .val (.int (Int32.ofNat (32 + sg))), .val (.ref b32), .unset] [(.ref b32), (.int (2 : Int32)), (.int (Int32.ofNat (Jvm.Free.SBG.digits nn))), (.long (Int64.ofNat nn)), (.int (Int32.ofNat (32 + sg))), (.ref mm1)])) rfl (by rw [hml]; rfl) (argsL := [(.ref mm1), (.int (Int32.ofNat (32 + sg))), (.long (Int64.ofNat nn)), (.int (Int32.ofNat (Jvm.Free.SBG.digits nn))), (.int (2 : Int32)), (.ref b32)]) (rest := []) (lenOf own_pd_x28Ljavax2flangx2fStringx3bIJIIx5bJx29Z rfl) rfl (by show 2 * 0 + _ ≤ _; exact Nat.le_of_eq rfl) (hb hby at_285) (fun _ _ => ⟨rfl, eh57, (by decide : 22 + 0 ≤ _), (by decide : 3378 + 0 ≤ _)⟩)
      dsimp only [Pt.U, Pt.locs, Pt.cells, Pt.slots] at X58 l58 y58 z58 st58 hQ58
      subst l58 y58 z58
      obtain ⟨rfl, N58q, eh58⟩ := hQ58
      have N58 := Fr.app N57 N58q
      refine OwnFin.adv (B := T58.setTop (mkF m 288 #[.val (.int xv), .val (.ref ax1), .val (.ref mm1), .val (.long v3), .second, .val (.int ng), .val (.long (Int64.ofNat nn)), .second, .val (.int (Int32.ofNat (Jvm.Free.SBG.digits nn))), .val (.int (Int32.ofNat sg)), .val (.int (Int32.ofNat (32 + sg))), .val (.ref b32), .unset] [(.int (1 : Int32))])) (fun _ k => st58 _ k) ?_
      have hc288_124 : ¬ ((1 : Int32) = (0 : Int32)) := by decide
      refine OwnFin.adv (B := T58.setTop (mkF m 291 #[.val (.int xv), .val (.ref ax1), .val (.ref mm1), .val (.long v3), .second, .val (.int ng), .val (.long (Int64.ofNat nn)), .second, .val (.int (Int32.ofNat (Jvm.Free.SBG.digits nn))), .val (.int (Int32.ofNat sg)), .val (.int (Int32.ofNat (32 + sg))), .val (.ref b32), .unset] [])) (fun _ k => XS.ifNo X58.here hx rfl (hb hby at_288) rfl ((if0 _ _).trans (feq hc288_124).1) k) ?_
      refine OwnFin.adv (B := T58.setTop (mkF m 292 #[.val (.int xv), .val (.ref ax1), .val (.ref mm1), .val (.long v3), .second, .val (.int ng), .val (.long (Int64.ofNat nn)), .second, .val (.int (Int32.ofNat (Jvm.Free.SBG.digits nn))), .val (.int (Int32.ofNat sg)), .val (.int (Int32.ofNat (32 + sg))), .val (.ref b32), .unset] [(.ref mm1)])) (fun _ k => XS.aloadN X58.here hx rfl (hb hby at_291) rfl rfl k) ?_
      refine OwnFin.adv (B := T58.setTop (mkF m 294 #[.val (.int xv), .val (.ref ax1), .val (.ref mm1), .val (.long v3), .second, .val (.int ng), .val (.long (Int64.ofNat nn)), .second, .val (.int (Int32.ofNat (Jvm.Free.SBG.digits nn))), .val (.int (Int32.ofNat sg)), .val (.int (Int32.ofNat (32 + sg))), .val (.ref b32), .unset] [(.int (Int32.ofNat (32 + sg))), (.ref mm1)])) (fun _ k => XS.iload X58.here hx rfl (hb hby at_292) rfl k) ?_
      refine OwnFin.adv (B := T58.setTop (mkF m 296 #[.val (.int xv), .val (.ref ax1), .val (.ref mm1), .val (.long v3), .second, .val (.int ng), .val (.long (Int64.ofNat nn)), .second, .val (.int (Int32.ofNat (Jvm.Free.SBG.digits nn))), .val (.int (Int32.ofNat sg)), .val (.int (Int32.ofNat (32 + sg))), .val (.ref b32), .unset] [(.long (Int64.ofNat nn)), (.int (Int32.ofNat (32 + sg))), (.ref mm1)])) (fun _ k => XS.lload X58.here hx rfl (hb hby at_294) rfl k) ?_
      refine OwnFin.adv (B := T58.setTop (mkF m 298 #[.val (.int xv), .val (.ref ax1), .val (.ref mm1), .val (.long v3), .second, .val (.int ng), .val (.long (Int64.ofNat nn)), .second, .val (.int (Int32.ofNat (Jvm.Free.SBG.digits nn))), .val (.int (Int32.ofNat sg)), .val (.int (Int32.ofNat (32 + sg))), .val (.ref b32), .unset] [(.int (Int32.ofNat (Jvm.Free.SBG.digits nn))), (.long (Int64.ofNat nn)), (.int (Int32.ofNat (32 + sg))), (.ref mm1)])) (fun _ k => XS.iload X58.here hx rfl (hb hby at_296) rfl k) ?_
      refine OwnFin.adv (B := T58.setTop (mkF m 299 #[.val (.int xv), .val (.ref ax1), .val (.ref mm1), .val (.long v3), .second, .val (.int ng), .val (.long (Int64.ofNat nn)), .second, .val (.int (Int32.ofNat (Jvm.Free.SBG.digits nn))), .val (.int (Int32.ofNat sg)), .val (.int (Int32.ofNat (32 + sg))), .val (.ref b32), .unset] [(.int (3 : Int32)), (.int (Int32.ofNat (Jvm.Free.SBG.digits nn))), (.long (Int64.ofNat nn)), (.int (Int32.ofNat (32 + sg))), (.ref mm1)])) (fun _ k => XS.iconst X58.here hx rfl (hb hby at_298) k) ?_
      refine OwnFin.adv (B := T58.setTop (mkF m 301 #[.val (.int xv), .val (.ref ax1), .val (.ref mm1), .val (.long v3), .second, .val (.int ng), .val (.long (Int64.ofNat nn)), .second, .val (.int (Int32.ofNat (Jvm.Free.SBG.digits nn))), .val (.int (Int32.ofNat sg)), .val (.int (Int32.ofNat (32 + sg))), .val (.ref b32), .unset] [(.ref b32), (.int (3 : Int32)), (.int (Int32.ofNat (Jvm.Free.SBG.digits nn))), (.long (Int64.ofNat nn)), (.int (Int32.ofNat (32 + sg))), (.ref mm1)])) (fun _ k => XS.aload X58.here hx rfl (hb hby at_299) rfl rfl k) ?_
      obtain ⟨_, _, ⟨T59, L59, k59, n59⟩, -, X59, ⟨Lc59, hQ59, l59, y59, z59⟩, st59⟩ := Jvm.LawKit.callS X58 hx (y := (⟨"com/example/rollbook/rollbook/http/ApiExceptionBodyTooLargePinLaw", "dig", "(Ljava/lang/String;IJII[J)Z"⟩ : MethodName)) hown (mvT hZ (hw _ (List.mem_of_getElem? (i := 303) rfl))) (mvT hZ (hw _ (List.mem_of_getElem? (i := 304) rfl))) (mvT hZ (hw _ (List.mem_of_getElem? (i := 258) rfl))) (mvT hZ (hw _ (List.mem_of_getElem? (i := 305) rfl))) (by decide) (backOf (W := 0) (own_dig l Z a0 hw [] mm1 b32 k32 zc fm (T1.heap.size) (32 + sg) nn (Jvm.Free.SBG.digits nn) 3 (own_msg xv nn) h52 n0 (by omega) Old55 SCS hzc SFM rfm Fv56_16 V52 hnn (Jvm.Free.SBG.digits_pos nn) (by decide) (by omega) (fun q => own_agD hsg q)) hZ (hw _ (List.mem_of_getElem? (i := 305) rfl)) (hw _ (List.mem_of_getElem? (i := 258) rfl)) (by decide) (by decide)) (g := (mkF m 301 #[.val (.int xv), .val (.ref ax1), .val (.ref mm1), .val (.long v3), .second, .val (.int ng), .val (.long (Int64.ofNat nn)), .second, .val (.int (Int32.ofNat (Jvm.Free.SBG.digits nn))), .val (.int (Int32.ofNat sg)), .val (.int (Int32.ofNat (32 + sg))), .val (.ref b32), .unset] [(.ref b32), (.int (3 : Int32)), (.int (Int32.ofNat (Jvm.Free.SBG.digits nn))), (.long (Int64.ofNat nn)), (.int (Int32.ofNat (32 + sg))), (.ref mm1)])) rfl (by rw [hml]; rfl) (argsL := [(.ref mm1), (.int (Int32.ofNat (32 + sg))), (.long (Int64.ofNat nn)), (.int (Int32.ofNat (Jvm.Free.SBG.digits nn))), (.int (3 : Int32)), (.ref b32)]) (rest := []) (lenOf own_pd_x28Ljavax2flangx2fStringx3bIJIIx5bJx29Z rfl) rfl (by show 2 * 0 + _ ≤ _; exact Nat.le_of_eq rfl) (hb hby at_301) (fun _ _ => ⟨rfl, eh58, (by decide : 22 + 0 ≤ _), (by decide : 3378 + 0 ≤ _)⟩)
      dsimp only [Pt.U, Pt.locs, Pt.cells, Pt.slots] at X59 l59 y59 z59 st59 hQ59
      subst l59 y59 z59
      obtain ⟨rfl, N59q, eh59⟩ := hQ59
      have N59 := Fr.app N58 N59q
      refine OwnFin.adv (B := T59.setTop (mkF m 304 #[.val (.int xv), .val (.ref ax1), .val (.ref mm1), .val (.long v3), .second, .val (.int ng), .val (.long (Int64.ofNat nn)), .second, .val (.int (Int32.ofNat (Jvm.Free.SBG.digits nn))), .val (.int (Int32.ofNat sg)), .val (.int (Int32.ofNat (32 + sg))), .val (.ref b32), .unset] [(.int (1 : Int32))])) (fun _ k => st59 _ k) ?_
      have hc304_132 : ¬ ((1 : Int32) = (0 : Int32)) := by decide
      refine OwnFin.adv (B := T59.setTop (mkF m 307 #[.val (.int xv), .val (.ref ax1), .val (.ref mm1), .val (.long v3), .second, .val (.int ng), .val (.long (Int64.ofNat nn)), .second, .val (.int (Int32.ofNat (Jvm.Free.SBG.digits nn))), .val (.int (Int32.ofNat sg)), .val (.int (Int32.ofNat (32 + sg))), .val (.ref b32), .unset] [])) (fun _ k => XS.ifNo X59.here hx rfl (hb hby at_304) rfl ((if0 _ _).trans (feq hc304_132).1) k) ?_
      refine OwnFin.adv (B := T59.setTop (mkF m 308 #[.val (.int xv), .val (.ref ax1), .val (.ref mm1), .val (.long v3), .second, .val (.int ng), .val (.long (Int64.ofNat nn)), .second, .val (.int (Int32.ofNat (Jvm.Free.SBG.digits nn))), .val (.int (Int32.ofNat sg)), .val (.int (Int32.ofNat (32 + sg))), .val (.ref b32), .unset] [(.ref mm1)])) (fun _ k => XS.aloadN X59.here hx rfl (hb hby at_307) rfl rfl k) ?_
      refine OwnFin.adv (B := T59.setTop (mkF m 310 #[.val (.int xv), .val (.ref ax1), .val (.ref mm1), .val (.long v3), .second, .val (.int ng), .val (.long (Int64.ofNat nn)), .second, .val (.int (Int32.ofNat (Jvm.Free.SBG.digits nn))), .val (.int (Int32.ofNat sg)), .val (.int (Int32.ofNat (32 + sg))), .val (.ref b32), .unset] [(.int (Int32.ofNat (32 + sg))), (.ref mm1)])) (fun _ k => XS.iload X59.here hx rfl (hb hby at_308) rfl k) ?_
      refine OwnFin.adv (B := T59.setTop (mkF m 312 #[.val (.int xv), .val (.ref ax1), .val (.ref mm1), .val (.long v3), .second, .val (.int ng), .val (.long (Int64.ofNat nn)), .second, .val (.int (Int32.ofNat (Jvm.Free.SBG.digits nn))), .val (.int (Int32.ofNat sg)), .val (.int (Int32.ofNat (32 + sg))), .val (.ref b32), .unset] [(.long (Int64.ofNat nn)), (.int (Int32.ofNat (32 + sg))), (.ref mm1)])) (fun _ k => XS.lload X59.here hx rfl (hb hby at_310) rfl k) ?_
      refine OwnFin.adv (B := T59.setTop (mkF m 314 #[.val (.int xv), .val (.ref ax1), .val (.ref mm1), .val (.long v3), .second, .val (.int ng), .val (.long (Int64.ofNat nn)), .second, .val (.int (Int32.ofNat (Jvm.Free.SBG.digits nn))), .val (.int (Int32.ofNat sg)), .val (.int (Int32.ofNat (32 + sg))), .val (.ref b32), .unset] [(.int (Int32.ofNat (Jvm.Free.SBG.digits nn))), (.long (Int64.ofNat nn)), (.int (Int32.ofNat (32 + sg))), (.ref mm1)])) (fun _ k => XS.iload X59.here hx rfl (hb hby at_312) rfl k) ?_
      refine OwnFin.adv (B := T59.setTop (mkF m 315 #[.val (.int xv), .val (.ref ax1), .val (.ref mm1), .val (.long v3), .second, .val (.int ng), .val (.long (Int64.ofNat nn)), .second, .val (.int (Int32.ofNat (Jvm.Free.SBG.digits nn))), .val (.int (Int32.ofNat sg)), .val (.int (Int32.ofNat (32 + sg))), .val (.ref b32), .unset] [(.int (4 : Int32)), (.int (Int32.ofNat (Jvm.Free.SBG.digits nn))), (.long (Int64.ofNat nn)), (.int (Int32.ofNat (32 + sg))), (.ref mm1)])) (fun _ k => XS.iconst X59.here hx rfl (hb hby at_314) k) ?_
      refine OwnFin.adv (B := T59.setTop (mkF m 317 #[.val (.int xv), .val (.ref ax1), .val (.ref mm1), .val (.long v3), .second, .val (.int ng), .val (.long (Int64.ofNat nn)), .second, .val (.int (Int32.ofNat (Jvm.Free.SBG.digits nn))), .val (.int (Int32.ofNat sg)), .val (.int (Int32.ofNat (32 + sg))), .val (.ref b32), .unset] [(.ref b32), (.int (4 : Int32)), (.int (Int32.ofNat (Jvm.Free.SBG.digits nn))), (.long (Int64.ofNat nn)), (.int (Int32.ofNat (32 + sg))), (.ref mm1)])) (fun _ k => XS.aload X59.here hx rfl (hb hby at_315) rfl rfl k) ?_
      obtain ⟨_, _, ⟨T60, L60, k60, n60⟩, -, X60, ⟨Lc60, hQ60, l60, y60, z60⟩, st60⟩ := Jvm.LawKit.callS X59 hx (y := (⟨"com/example/rollbook/rollbook/http/ApiExceptionBodyTooLargePinLaw", "dig", "(Ljava/lang/String;IJII[J)Z"⟩ : MethodName)) hown (mvT hZ (hw _ (List.mem_of_getElem? (i := 303) rfl))) (mvT hZ (hw _ (List.mem_of_getElem? (i := 304) rfl))) (mvT hZ (hw _ (List.mem_of_getElem? (i := 258) rfl))) (mvT hZ (hw _ (List.mem_of_getElem? (i := 305) rfl))) (by decide) (backOf (W := 0) (own_dig l Z a0 hw [] mm1 b32 k32 zc fm (T1.heap.size) (32 + sg) nn (Jvm.Free.SBG.digits nn) 4 (own_msg xv nn) h52 n0 (by omega) Old55 SCS hzc SFM rfm Fv56_16 V52 hnn (Jvm.Free.SBG.digits_pos nn) (by decide) (by omega) (fun q => own_agD hsg q)) hZ (hw _ (List.mem_of_getElem? (i := 305) rfl)) (hw _ (List.mem_of_getElem? (i := 258) rfl)) (by decide) (by decide)) (g := (mkF m 317 #[.val (.int xv), .val (.ref ax1), .val (.ref mm1), .val (.long v3), .second, .val (.int ng), .val (.long (Int64.ofNat nn)), .second, .val (.int (Int32.ofNat (Jvm.Free.SBG.digits nn))), .val (.int (Int32.ofNat sg)), .val (.int (Int32.ofNat (32 + sg))), .val (.ref b32), .unset] [(.ref b32), (.int (4 : Int32)), (.int (Int32.ofNat (Jvm.Free.SBG.digits nn))), (.long (Int64.ofNat nn)), (.int (Int32.ofNat (32 + sg))), (.ref mm1)])) rfl (by rw [hml]; rfl) (argsL := [(.ref mm1), (.int (Int32.ofNat (32 + sg))), (.long (Int64.ofNat nn)), (.int (Int32.ofNat (Jvm.Free.SBG.digits nn))), (.int (4 : Int32)), (.ref b32)]) (rest := []) (lenOf own_pd_x28Ljavax2flangx2fStringx3bIJIIx5bJx29Z rfl) rfl (by show 2 * 0 + _ ≤ _; exact Nat.le_of_eq rfl) (hb hby at_317) (fun _ _ => ⟨rfl, eh59, (by decide : 22 + 0 ≤ _), (by decide : 3378 + 0 ≤ _)⟩)
      dsimp only [Pt.U, Pt.locs, Pt.cells, Pt.slots] at X60 l60 y60 z60 st60 hQ60
      subst l60 y60 z60
      obtain ⟨rfl, N60q, eh60⟩ := hQ60
      have N60 := Fr.app N59 N60q
      refine OwnFin.adv (B := T60.setTop (mkF m 320 #[.val (.int xv), .val (.ref ax1), .val (.ref mm1), .val (.long v3), .second, .val (.int ng), .val (.long (Int64.ofNat nn)), .second, .val (.int (Int32.ofNat (Jvm.Free.SBG.digits nn))), .val (.int (Int32.ofNat sg)), .val (.int (Int32.ofNat (32 + sg))), .val (.ref b32), .unset] [(.int (1 : Int32))])) (fun _ k => st60 _ k) ?_
      have hc320_140 : ¬ ((1 : Int32) = (0 : Int32)) := by decide
      refine OwnFin.adv (B := T60.setTop (mkF m 323 #[.val (.int xv), .val (.ref ax1), .val (.ref mm1), .val (.long v3), .second, .val (.int ng), .val (.long (Int64.ofNat nn)), .second, .val (.int (Int32.ofNat (Jvm.Free.SBG.digits nn))), .val (.int (Int32.ofNat sg)), .val (.int (Int32.ofNat (32 + sg))), .val (.ref b32), .unset] [])) (fun _ k => XS.ifNo X60.here hx rfl (hb hby at_320) rfl ((if0 _ _).trans (feq hc320_140).1) k) ?_
      refine OwnFin.adv (B := T60.setTop (mkF m 324 #[.val (.int xv), .val (.ref ax1), .val (.ref mm1), .val (.long v3), .second, .val (.int ng), .val (.long (Int64.ofNat nn)), .second, .val (.int (Int32.ofNat (Jvm.Free.SBG.digits nn))), .val (.int (Int32.ofNat sg)), .val (.int (Int32.ofNat (32 + sg))), .val (.ref b32), .unset] [(.ref mm1)])) (fun _ k => XS.aloadN X60.here hx rfl (hb hby at_323) rfl rfl k) ?_
      refine OwnFin.adv (B := T60.setTop (mkF m 326 #[.val (.int xv), .val (.ref ax1), .val (.ref mm1), .val (.long v3), .second, .val (.int ng), .val (.long (Int64.ofNat nn)), .second, .val (.int (Int32.ofNat (Jvm.Free.SBG.digits nn))), .val (.int (Int32.ofNat sg)), .val (.int (Int32.ofNat (32 + sg))), .val (.ref b32), .unset] [(.int (Int32.ofNat (32 + sg))), (.ref mm1)])) (fun _ k => XS.iload X60.here hx rfl (hb hby at_324) rfl k) ?_
      refine OwnFin.adv (B := T60.setTop (mkF m 328 #[.val (.int xv), .val (.ref ax1), .val (.ref mm1), .val (.long v3), .second, .val (.int ng), .val (.long (Int64.ofNat nn)), .second, .val (.int (Int32.ofNat (Jvm.Free.SBG.digits nn))), .val (.int (Int32.ofNat sg)), .val (.int (Int32.ofNat (32 + sg))), .val (.ref b32), .unset] [(.long (Int64.ofNat nn)), (.int (Int32.ofNat (32 + sg))), (.ref mm1)])) (fun _ k => XS.lload X60.here hx rfl (hb hby at_326) rfl k) ?_
      refine OwnFin.adv (B := T60.setTop (mkF m 330 #[.val (.int xv), .val (.ref ax1), .val (.ref mm1), .val (.long v3), .second, .val (.int ng), .val (.long (Int64.ofNat nn)), .second, .val (.int (Int32.ofNat (Jvm.Free.SBG.digits nn))), .val (.int (Int32.ofNat sg)), .val (.int (Int32.ofNat (32 + sg))), .val (.ref b32), .unset] [(.int (Int32.ofNat (Jvm.Free.SBG.digits nn))), (.long (Int64.ofNat nn)), (.int (Int32.ofNat (32 + sg))), (.ref mm1)])) (fun _ k => XS.iload X60.here hx rfl (hb hby at_328) rfl k) ?_
      refine OwnFin.adv (B := T60.setTop (mkF m 331 #[.val (.int xv), .val (.ref ax1), .val (.ref mm1), .val (.long v3), .second, .val (.int ng), .val (.long (Int64.ofNat nn)), .second, .val (.int (Int32.ofNat (Jvm.Free.SBG.digits nn))), .val (.int (Int32.ofNat sg)), .val (.int (Int32.ofNat (32 + sg))), .val (.ref b32), .unset] [(.int (5 : Int32)), (.int (Int32.ofNat (Jvm.Free.SBG.digits nn))), (.long (Int64.ofNat nn)), (.int (Int32.ofNat (32 + sg))), (.ref mm1)])) (fun _ k => XS.iconst X60.here hx rfl (hb hby at_330) k) ?_
      refine OwnFin.adv (B := T60.setTop (mkF m 333 #[.val (.int xv), .val (.ref ax1), .val (.ref mm1), .val (.long v3), .second, .val (.int ng), .val (.long (Int64.ofNat nn)), .second, .val (.int (Int32.ofNat (Jvm.Free.SBG.digits nn))), .val (.int (Int32.ofNat sg)), .val (.int (Int32.ofNat (32 + sg))), .val (.ref b32), .unset] [(.ref b32), (.int (5 : Int32)), (.int (Int32.ofNat (Jvm.Free.SBG.digits nn))), (.long (Int64.ofNat nn)), (.int (Int32.ofNat (32 + sg))), (.ref mm1)])) (fun _ k => XS.aload X60.here hx rfl (hb hby at_331) rfl rfl k) ?_
      obtain ⟨_, _, ⟨T61, L61, k61, n61⟩, -, X61, ⟨Lc61, hQ61, l61, y61, z61⟩, st61⟩ := Jvm.LawKit.callS X60 hx (y := (⟨"com/example/rollbook/rollbook/http/ApiExceptionBodyTooLargePinLaw", "dig", "(Ljava/lang/String;IJII[J)Z"⟩ : MethodName)) hown (mvT hZ (hw _ (List.mem_of_getElem? (i := 303) rfl))) (mvT hZ (hw _ (List.mem_of_getElem? (i := 304) rfl))) (mvT hZ (hw _ (List.mem_of_getElem? (i := 258) rfl))) (mvT hZ (hw _ (List.mem_of_getElem? (i := 305) rfl))) (by decide) (backOf (W := 0) (own_dig l Z a0 hw [] mm1 b32 k32 zc fm (T1.heap.size) (32 + sg) nn (Jvm.Free.SBG.digits nn) 5 (own_msg xv nn) h52 n0 (by omega) Old55 SCS hzc SFM rfm Fv56_16 V52 hnn (Jvm.Free.SBG.digits_pos nn) (by decide) (by omega) (fun q => own_agD hsg q)) hZ (hw _ (List.mem_of_getElem? (i := 305) rfl)) (hw _ (List.mem_of_getElem? (i := 258) rfl)) (by decide) (by decide)) (g := (mkF m 333 #[.val (.int xv), .val (.ref ax1), .val (.ref mm1), .val (.long v3), .second, .val (.int ng), .val (.long (Int64.ofNat nn)), .second, .val (.int (Int32.ofNat (Jvm.Free.SBG.digits nn))), .val (.int (Int32.ofNat sg)), .val (.int (Int32.ofNat (32 + sg))), .val (.ref b32), .unset] [(.ref b32), (.int (5 : Int32)), (.int (Int32.ofNat (Jvm.Free.SBG.digits nn))), (.long (Int64.ofNat nn)), (.int (Int32.ofNat (32 + sg))), (.ref mm1)])) rfl (by rw [hml]; rfl) (argsL := [(.ref mm1), (.int (Int32.ofNat (32 + sg))), (.long (Int64.ofNat nn)), (.int (Int32.ofNat (Jvm.Free.SBG.digits nn))), (.int (5 : Int32)), (.ref b32)]) (rest := []) (lenOf own_pd_x28Ljavax2flangx2fStringx3bIJIIx5bJx29Z rfl) rfl (by show 2 * 0 + _ ≤ _; exact Nat.le_of_eq rfl) (hb hby at_333) (fun _ _ => ⟨rfl, eh60, (by decide : 22 + 0 ≤ _), (by decide : 3378 + 0 ≤ _)⟩)
      dsimp only [Pt.U, Pt.locs, Pt.cells, Pt.slots] at X61 l61 y61 z61 st61 hQ61
      subst l61 y61 z61
      obtain ⟨rfl, N61q, eh61⟩ := hQ61
      have N61 := Fr.app N60 N61q
      refine OwnFin.adv (B := T61.setTop (mkF m 336 #[.val (.int xv), .val (.ref ax1), .val (.ref mm1), .val (.long v3), .second, .val (.int ng), .val (.long (Int64.ofNat nn)), .second, .val (.int (Int32.ofNat (Jvm.Free.SBG.digits nn))), .val (.int (Int32.ofNat sg)), .val (.int (Int32.ofNat (32 + sg))), .val (.ref b32), .unset] [(.int (1 : Int32))])) (fun _ k => st61 _ k) ?_
      have hc336_148 : ¬ ((1 : Int32) = (0 : Int32)) := by decide
      refine OwnFin.adv (B := T61.setTop (mkF m 339 #[.val (.int xv), .val (.ref ax1), .val (.ref mm1), .val (.long v3), .second, .val (.int ng), .val (.long (Int64.ofNat nn)), .second, .val (.int (Int32.ofNat (Jvm.Free.SBG.digits nn))), .val (.int (Int32.ofNat sg)), .val (.int (Int32.ofNat (32 + sg))), .val (.ref b32), .unset] [])) (fun _ k => XS.ifNo X61.here hx rfl (hb hby at_336) rfl ((if0 _ _).trans (feq hc336_148).1) k) ?_
      refine OwnFin.adv (B := T61.setTop (mkF m 340 #[.val (.int xv), .val (.ref ax1), .val (.ref mm1), .val (.long v3), .second, .val (.int ng), .val (.long (Int64.ofNat nn)), .second, .val (.int (Int32.ofNat (Jvm.Free.SBG.digits nn))), .val (.int (Int32.ofNat sg)), .val (.int (Int32.ofNat (32 + sg))), .val (.ref b32), .unset] [(.ref mm1)])) (fun _ k => XS.aloadN X61.here hx rfl (hb hby at_339) rfl rfl k) ?_
      refine OwnFin.adv (B := T61.setTop (mkF m 342 #[.val (.int xv), .val (.ref ax1), .val (.ref mm1), .val (.long v3), .second, .val (.int ng), .val (.long (Int64.ofNat nn)), .second, .val (.int (Int32.ofNat (Jvm.Free.SBG.digits nn))), .val (.int (Int32.ofNat sg)), .val (.int (Int32.ofNat (32 + sg))), .val (.ref b32), .unset] [(.int (Int32.ofNat (32 + sg))), (.ref mm1)])) (fun _ k => XS.iload X61.here hx rfl (hb hby at_340) rfl k) ?_
      refine OwnFin.adv (B := T61.setTop (mkF m 344 #[.val (.int xv), .val (.ref ax1), .val (.ref mm1), .val (.long v3), .second, .val (.int ng), .val (.long (Int64.ofNat nn)), .second, .val (.int (Int32.ofNat (Jvm.Free.SBG.digits nn))), .val (.int (Int32.ofNat sg)), .val (.int (Int32.ofNat (32 + sg))), .val (.ref b32), .unset] [(.long (Int64.ofNat nn)), (.int (Int32.ofNat (32 + sg))), (.ref mm1)])) (fun _ k => XS.lload X61.here hx rfl (hb hby at_342) rfl k) ?_
      refine OwnFin.adv (B := T61.setTop (mkF m 346 #[.val (.int xv), .val (.ref ax1), .val (.ref mm1), .val (.long v3), .second, .val (.int ng), .val (.long (Int64.ofNat nn)), .second, .val (.int (Int32.ofNat (Jvm.Free.SBG.digits nn))), .val (.int (Int32.ofNat sg)), .val (.int (Int32.ofNat (32 + sg))), .val (.ref b32), .unset] [(.int (Int32.ofNat (Jvm.Free.SBG.digits nn))), (.long (Int64.ofNat nn)), (.int (Int32.ofNat (32 + sg))), (.ref mm1)])) (fun _ k => XS.iload X61.here hx rfl (hb hby at_344) rfl k) ?_
      refine OwnFin.adv (B := T61.setTop (mkF m 348 #[.val (.int xv), .val (.ref ax1), .val (.ref mm1), .val (.long v3), .second, .val (.int ng), .val (.long (Int64.ofNat nn)), .second, .val (.int (Int32.ofNat (Jvm.Free.SBG.digits nn))), .val (.int (Int32.ofNat sg)), .val (.int (Int32.ofNat (32 + sg))), .val (.ref b32), .unset] [(.int (6 : Int32)), (.int (Int32.ofNat (Jvm.Free.SBG.digits nn))), (.long (Int64.ofNat nn)), (.int (Int32.ofNat (32 + sg))), (.ref mm1)])) (fun _ k => XS.bipush X61.here hx rfl (hb hby at_346) k) ?_
      refine OwnFin.adv (B := T61.setTop (mkF m 350 #[.val (.int xv), .val (.ref ax1), .val (.ref mm1), .val (.long v3), .second, .val (.int ng), .val (.long (Int64.ofNat nn)), .second, .val (.int (Int32.ofNat (Jvm.Free.SBG.digits nn))), .val (.int (Int32.ofNat sg)), .val (.int (Int32.ofNat (32 + sg))), .val (.ref b32), .unset] [(.ref b32), (.int (6 : Int32)), (.int (Int32.ofNat (Jvm.Free.SBG.digits nn))), (.long (Int64.ofNat nn)), (.int (Int32.ofNat (32 + sg))), (.ref mm1)])) (fun _ k => XS.aload X61.here hx rfl (hb hby at_348) rfl rfl k) ?_
      obtain ⟨_, _, ⟨T62, L62, k62, n62⟩, -, X62, ⟨Lc62, hQ62, l62, y62, z62⟩, st62⟩ := Jvm.LawKit.callS X61 hx (y := (⟨"com/example/rollbook/rollbook/http/ApiExceptionBodyTooLargePinLaw", "dig", "(Ljava/lang/String;IJII[J)Z"⟩ : MethodName)) hown (mvT hZ (hw _ (List.mem_of_getElem? (i := 303) rfl))) (mvT hZ (hw _ (List.mem_of_getElem? (i := 304) rfl))) (mvT hZ (hw _ (List.mem_of_getElem? (i := 258) rfl))) (mvT hZ (hw _ (List.mem_of_getElem? (i := 305) rfl))) (by decide) (backOf (W := 0) (own_dig l Z a0 hw [] mm1 b32 k32 zc fm (T1.heap.size) (32 + sg) nn (Jvm.Free.SBG.digits nn) 6 (own_msg xv nn) h52 n0 (by omega) Old55 SCS hzc SFM rfm Fv56_16 V52 hnn (Jvm.Free.SBG.digits_pos nn) (by decide) (by omega) (fun q => own_agD hsg q)) hZ (hw _ (List.mem_of_getElem? (i := 305) rfl)) (hw _ (List.mem_of_getElem? (i := 258) rfl)) (by decide) (by decide)) (g := (mkF m 350 #[.val (.int xv), .val (.ref ax1), .val (.ref mm1), .val (.long v3), .second, .val (.int ng), .val (.long (Int64.ofNat nn)), .second, .val (.int (Int32.ofNat (Jvm.Free.SBG.digits nn))), .val (.int (Int32.ofNat sg)), .val (.int (Int32.ofNat (32 + sg))), .val (.ref b32), .unset] [(.ref b32), (.int (6 : Int32)), (.int (Int32.ofNat (Jvm.Free.SBG.digits nn))), (.long (Int64.ofNat nn)), (.int (Int32.ofNat (32 + sg))), (.ref mm1)])) rfl (by rw [hml]; rfl) (argsL := [(.ref mm1), (.int (Int32.ofNat (32 + sg))), (.long (Int64.ofNat nn)), (.int (Int32.ofNat (Jvm.Free.SBG.digits nn))), (.int (6 : Int32)), (.ref b32)]) (rest := []) (lenOf own_pd_x28Ljavax2flangx2fStringx3bIJIIx5bJx29Z rfl) rfl (by show 2 * 0 + _ ≤ _; exact Nat.le_of_eq rfl) (hb hby at_350) (fun _ _ => ⟨rfl, eh61, (by decide : 22 + 0 ≤ _), (by decide : 3378 + 0 ≤ _)⟩)
      dsimp only [Pt.U, Pt.locs, Pt.cells, Pt.slots] at X62 l62 y62 z62 st62 hQ62
      subst l62 y62 z62
      obtain ⟨rfl, N62q, eh62⟩ := hQ62
      have N62 := Fr.app N61 N62q
      refine OwnFin.adv (B := T62.setTop (mkF m 353 #[.val (.int xv), .val (.ref ax1), .val (.ref mm1), .val (.long v3), .second, .val (.int ng), .val (.long (Int64.ofNat nn)), .second, .val (.int (Int32.ofNat (Jvm.Free.SBG.digits nn))), .val (.int (Int32.ofNat sg)), .val (.int (Int32.ofNat (32 + sg))), .val (.ref b32), .unset] [(.int (1 : Int32))])) (fun _ k => st62 _ k) ?_
      have hc353_156 : ¬ ((1 : Int32) = (0 : Int32)) := by decide
      refine OwnFin.adv (B := T62.setTop (mkF m 356 #[.val (.int xv), .val (.ref ax1), .val (.ref mm1), .val (.long v3), .second, .val (.int ng), .val (.long (Int64.ofNat nn)), .second, .val (.int (Int32.ofNat (Jvm.Free.SBG.digits nn))), .val (.int (Int32.ofNat sg)), .val (.int (Int32.ofNat (32 + sg))), .val (.ref b32), .unset] [])) (fun _ k => XS.ifNo X62.here hx rfl (hb hby at_353) rfl ((if0 _ _).trans (feq hc353_156).1) k) ?_
      refine OwnFin.adv (B := T62.setTop (mkF m 357 #[.val (.int xv), .val (.ref ax1), .val (.ref mm1), .val (.long v3), .second, .val (.int ng), .val (.long (Int64.ofNat nn)), .second, .val (.int (Int32.ofNat (Jvm.Free.SBG.digits nn))), .val (.int (Int32.ofNat sg)), .val (.int (Int32.ofNat (32 + sg))), .val (.ref b32), .unset] [(.ref mm1)])) (fun _ k => XS.aloadN X62.here hx rfl (hb hby at_356) rfl rfl k) ?_
      refine OwnFin.adv (B := T62.setTop (mkF m 359 #[.val (.int xv), .val (.ref ax1), .val (.ref mm1), .val (.long v3), .second, .val (.int ng), .val (.long (Int64.ofNat nn)), .second, .val (.int (Int32.ofNat (Jvm.Free.SBG.digits nn))), .val (.int (Int32.ofNat sg)), .val (.int (Int32.ofNat (32 + sg))), .val (.ref b32), .unset] [(.int (Int32.ofNat (32 + sg))), (.ref mm1)])) (fun _ k => XS.iload X62.here hx rfl (hb hby at_357) rfl k) ?_
      refine OwnFin.adv (B := T62.setTop (mkF m 361 #[.val (.int xv), .val (.ref ax1), .val (.ref mm1), .val (.long v3), .second, .val (.int ng), .val (.long (Int64.ofNat nn)), .second, .val (.int (Int32.ofNat (Jvm.Free.SBG.digits nn))), .val (.int (Int32.ofNat sg)), .val (.int (Int32.ofNat (32 + sg))), .val (.ref b32), .unset] [(.long (Int64.ofNat nn)), (.int (Int32.ofNat (32 + sg))), (.ref mm1)])) (fun _ k => XS.lload X62.here hx rfl (hb hby at_359) rfl k) ?_
      refine OwnFin.adv (B := T62.setTop (mkF m 363 #[.val (.int xv), .val (.ref ax1), .val (.ref mm1), .val (.long v3), .second, .val (.int ng), .val (.long (Int64.ofNat nn)), .second, .val (.int (Int32.ofNat (Jvm.Free.SBG.digits nn))), .val (.int (Int32.ofNat sg)), .val (.int (Int32.ofNat (32 + sg))), .val (.ref b32), .unset] [(.int (Int32.ofNat (Jvm.Free.SBG.digits nn))), (.long (Int64.ofNat nn)), (.int (Int32.ofNat (32 + sg))), (.ref mm1)])) (fun _ k => XS.iload X62.here hx rfl (hb hby at_361) rfl k) ?_
      refine OwnFin.adv (B := T62.setTop (mkF m 365 #[.val (.int xv), .val (.ref ax1), .val (.ref mm1), .val (.long v3), .second, .val (.int ng), .val (.long (Int64.ofNat nn)), .second, .val (.int (Int32.ofNat (Jvm.Free.SBG.digits nn))), .val (.int (Int32.ofNat sg)), .val (.int (Int32.ofNat (32 + sg))), .val (.ref b32), .unset] [(.int (7 : Int32)), (.int (Int32.ofNat (Jvm.Free.SBG.digits nn))), (.long (Int64.ofNat nn)), (.int (Int32.ofNat (32 + sg))), (.ref mm1)])) (fun _ k => XS.bipush X62.here hx rfl (hb hby at_363) k) ?_
      refine OwnFin.adv (B := T62.setTop (mkF m 367 #[.val (.int xv), .val (.ref ax1), .val (.ref mm1), .val (.long v3), .second, .val (.int ng), .val (.long (Int64.ofNat nn)), .second, .val (.int (Int32.ofNat (Jvm.Free.SBG.digits nn))), .val (.int (Int32.ofNat sg)), .val (.int (Int32.ofNat (32 + sg))), .val (.ref b32), .unset] [(.ref b32), (.int (7 : Int32)), (.int (Int32.ofNat (Jvm.Free.SBG.digits nn))), (.long (Int64.ofNat nn)), (.int (Int32.ofNat (32 + sg))), (.ref mm1)])) (fun _ k => XS.aload X62.here hx rfl (hb hby at_365) rfl rfl k) ?_
      obtain ⟨_, _, ⟨T63, L63, k63, n63⟩, -, X63, ⟨Lc63, hQ63, l63, y63, z63⟩, st63⟩ := Jvm.LawKit.callS X62 hx (y := (⟨"com/example/rollbook/rollbook/http/ApiExceptionBodyTooLargePinLaw", "dig", "(Ljava/lang/String;IJII[J)Z"⟩ : MethodName)) hown (mvT hZ (hw _ (List.mem_of_getElem? (i := 303) rfl))) (mvT hZ (hw _ (List.mem_of_getElem? (i := 304) rfl))) (mvT hZ (hw _ (List.mem_of_getElem? (i := 258) rfl))) (mvT hZ (hw _ (List.mem_of_getElem? (i := 305) rfl))) (by decide) (backOf (W := 0) (own_dig l Z a0 hw [] mm1 b32 k32 zc fm (T1.heap.size) (32 + sg) nn (Jvm.Free.SBG.digits nn) 7 (own_msg xv nn) h52 n0 (by omega) Old55 SCS hzc SFM rfm Fv56_16 V52 hnn (Jvm.Free.SBG.digits_pos nn) (by decide) (by omega) (fun q => own_agD hsg q)) hZ (hw _ (List.mem_of_getElem? (i := 305) rfl)) (hw _ (List.mem_of_getElem? (i := 258) rfl)) (by decide) (by decide)) (g := (mkF m 367 #[.val (.int xv), .val (.ref ax1), .val (.ref mm1), .val (.long v3), .second, .val (.int ng), .val (.long (Int64.ofNat nn)), .second, .val (.int (Int32.ofNat (Jvm.Free.SBG.digits nn))), .val (.int (Int32.ofNat sg)), .val (.int (Int32.ofNat (32 + sg))), .val (.ref b32), .unset] [(.ref b32), (.int (7 : Int32)), (.int (Int32.ofNat (Jvm.Free.SBG.digits nn))), (.long (Int64.ofNat nn)), (.int (Int32.ofNat (32 + sg))), (.ref mm1)])) rfl (by rw [hml]; rfl) (argsL := [(.ref mm1), (.int (Int32.ofNat (32 + sg))), (.long (Int64.ofNat nn)), (.int (Int32.ofNat (Jvm.Free.SBG.digits nn))), (.int (7 : Int32)), (.ref b32)]) (rest := []) (lenOf own_pd_x28Ljavax2flangx2fStringx3bIJIIx5bJx29Z rfl) rfl (by show 2 * 0 + _ ≤ _; exact Nat.le_of_eq rfl) (hb hby at_367) (fun _ _ => ⟨rfl, eh62, (by decide : 22 + 0 ≤ _), (by decide : 3378 + 0 ≤ _)⟩)
      dsimp only [Pt.U, Pt.locs, Pt.cells, Pt.slots] at X63 l63 y63 z63 st63 hQ63
      subst l63 y63 z63
      obtain ⟨rfl, N63q, eh63⟩ := hQ63
      have N63 := Fr.app N62 N63q
      refine OwnFin.adv (B := T63.setTop (mkF m 370 #[.val (.int xv), .val (.ref ax1), .val (.ref mm1), .val (.long v3), .second, .val (.int ng), .val (.long (Int64.ofNat nn)), .second, .val (.int (Int32.ofNat (Jvm.Free.SBG.digits nn))), .val (.int (Int32.ofNat sg)), .val (.int (Int32.ofNat (32 + sg))), .val (.ref b32), .unset] [(.int (1 : Int32))])) (fun _ k => st63 _ k) ?_
      have hc370_164 : ¬ ((1 : Int32) = (0 : Int32)) := by decide
      refine OwnFin.adv (B := T63.setTop (mkF m 373 #[.val (.int xv), .val (.ref ax1), .val (.ref mm1), .val (.long v3), .second, .val (.int ng), .val (.long (Int64.ofNat nn)), .second, .val (.int (Int32.ofNat (Jvm.Free.SBG.digits nn))), .val (.int (Int32.ofNat sg)), .val (.int (Int32.ofNat (32 + sg))), .val (.ref b32), .unset] [])) (fun _ k => XS.ifNo X63.here hx rfl (hb hby at_370) rfl ((if0 _ _).trans (feq hc370_164).1) k) ?_
      refine OwnFin.adv (B := T63.setTop (mkF m 374 #[.val (.int xv), .val (.ref ax1), .val (.ref mm1), .val (.long v3), .second, .val (.int ng), .val (.long (Int64.ofNat nn)), .second, .val (.int (Int32.ofNat (Jvm.Free.SBG.digits nn))), .val (.int (Int32.ofNat sg)), .val (.int (Int32.ofNat (32 + sg))), .val (.ref b32), .unset] [(.ref mm1)])) (fun _ k => XS.aloadN X63.here hx rfl (hb hby at_373) rfl rfl k) ?_
      refine OwnFin.adv (B := T63.setTop (mkF m 376 #[.val (.int xv), .val (.ref ax1), .val (.ref mm1), .val (.long v3), .second, .val (.int ng), .val (.long (Int64.ofNat nn)), .second, .val (.int (Int32.ofNat (Jvm.Free.SBG.digits nn))), .val (.int (Int32.ofNat sg)), .val (.int (Int32.ofNat (32 + sg))), .val (.ref b32), .unset] [(.int (Int32.ofNat (32 + sg))), (.ref mm1)])) (fun _ k => XS.iload X63.here hx rfl (hb hby at_374) rfl k) ?_
      refine OwnFin.adv (B := T63.setTop (mkF m 378 #[.val (.int xv), .val (.ref ax1), .val (.ref mm1), .val (.long v3), .second, .val (.int ng), .val (.long (Int64.ofNat nn)), .second, .val (.int (Int32.ofNat (Jvm.Free.SBG.digits nn))), .val (.int (Int32.ofNat sg)), .val (.int (Int32.ofNat (32 + sg))), .val (.ref b32), .unset] [(.long (Int64.ofNat nn)), (.int (Int32.ofNat (32 + sg))), (.ref mm1)])) (fun _ k => XS.lload X63.here hx rfl (hb hby at_376) rfl k) ?_
      refine OwnFin.adv (B := T63.setTop (mkF m 380 #[.val (.int xv), .val (.ref ax1), .val (.ref mm1), .val (.long v3), .second, .val (.int ng), .val (.long (Int64.ofNat nn)), .second, .val (.int (Int32.ofNat (Jvm.Free.SBG.digits nn))), .val (.int (Int32.ofNat sg)), .val (.int (Int32.ofNat (32 + sg))), .val (.ref b32), .unset] [(.int (Int32.ofNat (Jvm.Free.SBG.digits nn))), (.long (Int64.ofNat nn)), (.int (Int32.ofNat (32 + sg))), (.ref mm1)])) (fun _ k => XS.iload X63.here hx rfl (hb hby at_378) rfl k) ?_
      refine OwnFin.adv (B := T63.setTop (mkF m 382 #[.val (.int xv), .val (.ref ax1), .val (.ref mm1), .val (.long v3), .second, .val (.int ng), .val (.long (Int64.ofNat nn)), .second, .val (.int (Int32.ofNat (Jvm.Free.SBG.digits nn))), .val (.int (Int32.ofNat sg)), .val (.int (Int32.ofNat (32 + sg))), .val (.ref b32), .unset] [(.int (8 : Int32)), (.int (Int32.ofNat (Jvm.Free.SBG.digits nn))), (.long (Int64.ofNat nn)), (.int (Int32.ofNat (32 + sg))), (.ref mm1)])) (fun _ k => XS.bipush X63.here hx rfl (hb hby at_380) k) ?_
      refine OwnFin.adv (B := T63.setTop (mkF m 384 #[.val (.int xv), .val (.ref ax1), .val (.ref mm1), .val (.long v3), .second, .val (.int ng), .val (.long (Int64.ofNat nn)), .second, .val (.int (Int32.ofNat (Jvm.Free.SBG.digits nn))), .val (.int (Int32.ofNat sg)), .val (.int (Int32.ofNat (32 + sg))), .val (.ref b32), .unset] [(.ref b32), (.int (8 : Int32)), (.int (Int32.ofNat (Jvm.Free.SBG.digits nn))), (.long (Int64.ofNat nn)), (.int (Int32.ofNat (32 + sg))), (.ref mm1)])) (fun _ k => XS.aload X63.here hx rfl (hb hby at_382) rfl rfl k) ?_
      obtain ⟨_, _, ⟨T64, L64, k64, n64⟩, -, X64, ⟨Lc64, hQ64, l64, y64, z64⟩, st64⟩ := Jvm.LawKit.callS X63 hx (y := (⟨"com/example/rollbook/rollbook/http/ApiExceptionBodyTooLargePinLaw", "dig", "(Ljava/lang/String;IJII[J)Z"⟩ : MethodName)) hown (mvT hZ (hw _ (List.mem_of_getElem? (i := 303) rfl))) (mvT hZ (hw _ (List.mem_of_getElem? (i := 304) rfl))) (mvT hZ (hw _ (List.mem_of_getElem? (i := 258) rfl))) (mvT hZ (hw _ (List.mem_of_getElem? (i := 305) rfl))) (by decide) (backOf (W := 0) (own_dig l Z a0 hw [] mm1 b32 k32 zc fm (T1.heap.size) (32 + sg) nn (Jvm.Free.SBG.digits nn) 8 (own_msg xv nn) h52 n0 (by omega) Old55 SCS hzc SFM rfm Fv56_16 V52 hnn (Jvm.Free.SBG.digits_pos nn) (by decide) (by omega) (fun q => own_agD hsg q)) hZ (hw _ (List.mem_of_getElem? (i := 305) rfl)) (hw _ (List.mem_of_getElem? (i := 258) rfl)) (by decide) (by decide)) (g := (mkF m 384 #[.val (.int xv), .val (.ref ax1), .val (.ref mm1), .val (.long v3), .second, .val (.int ng), .val (.long (Int64.ofNat nn)), .second, .val (.int (Int32.ofNat (Jvm.Free.SBG.digits nn))), .val (.int (Int32.ofNat sg)), .val (.int (Int32.ofNat (32 + sg))), .val (.ref b32), .unset] [(.ref b32), (.int (8 : Int32)), (.int (Int32.ofNat (Jvm.Free.SBG.digits nn))), (.long (Int64.ofNat nn)), (.int (Int32.ofNat (32 + sg))), (.ref mm1)])) rfl (by rw [hml]; rfl) (argsL := [(.ref mm1), (.int (Int32.ofNat (32 + sg))), (.long (Int64.ofNat nn)), (.int (Int32.ofNat (Jvm.Free.SBG.digits nn))), (.int (8 : Int32)), (.ref b32)]) (rest := []) (lenOf own_pd_x28Ljavax2flangx2fStringx3bIJIIx5bJx29Z rfl) rfl (by show 2 * 0 + _ ≤ _; exact Nat.le_of_eq rfl) (hb hby at_384) (fun _ _ => ⟨rfl, eh63, (by decide : 22 + 0 ≤ _), (by decide : 3378 + 0 ≤ _)⟩)
      dsimp only [Pt.U, Pt.locs, Pt.cells, Pt.slots] at X64 l64 y64 z64 st64 hQ64
      subst l64 y64 z64
      obtain ⟨rfl, N64q, eh64⟩ := hQ64
      have N64 := Fr.app N63 N64q
      refine OwnFin.adv (B := T64.setTop (mkF m 387 #[.val (.int xv), .val (.ref ax1), .val (.ref mm1), .val (.long v3), .second, .val (.int ng), .val (.long (Int64.ofNat nn)), .second, .val (.int (Int32.ofNat (Jvm.Free.SBG.digits nn))), .val (.int (Int32.ofNat sg)), .val (.int (Int32.ofNat (32 + sg))), .val (.ref b32), .unset] [(.int (1 : Int32))])) (fun _ k => st64 _ k) ?_
      have hc387_172 : ¬ ((1 : Int32) = (0 : Int32)) := by decide
      refine OwnFin.adv (B := T64.setTop (mkF m 390 #[.val (.int xv), .val (.ref ax1), .val (.ref mm1), .val (.long v3), .second, .val (.int ng), .val (.long (Int64.ofNat nn)), .second, .val (.int (Int32.ofNat (Jvm.Free.SBG.digits nn))), .val (.int (Int32.ofNat sg)), .val (.int (Int32.ofNat (32 + sg))), .val (.ref b32), .unset] [])) (fun _ k => XS.ifNo X64.here hx rfl (hb hby at_387) rfl ((if0 _ _).trans (feq hc387_172).1) k) ?_
      refine OwnFin.adv (B := T64.setTop (mkF m 391 #[.val (.int xv), .val (.ref ax1), .val (.ref mm1), .val (.long v3), .second, .val (.int ng), .val (.long (Int64.ofNat nn)), .second, .val (.int (Int32.ofNat (Jvm.Free.SBG.digits nn))), .val (.int (Int32.ofNat sg)), .val (.int (Int32.ofNat (32 + sg))), .val (.ref b32), .unset] [(.ref mm1)])) (fun _ k => XS.aloadN X64.here hx rfl (hb hby at_390) rfl rfl k) ?_
      refine OwnFin.adv (B := T64.setTop (mkF m 393 #[.val (.int xv), .val (.ref ax1), .val (.ref mm1), .val (.long v3), .second, .val (.int ng), .val (.long (Int64.ofNat nn)), .second, .val (.int (Int32.ofNat (Jvm.Free.SBG.digits nn))), .val (.int (Int32.ofNat sg)), .val (.int (Int32.ofNat (32 + sg))), .val (.ref b32), .unset] [(.int (Int32.ofNat (32 + sg))), (.ref mm1)])) (fun _ k => XS.iload X64.here hx rfl (hb hby at_391) rfl k) ?_
      refine OwnFin.adv (B := T64.setTop (mkF m 395 #[.val (.int xv), .val (.ref ax1), .val (.ref mm1), .val (.long v3), .second, .val (.int ng), .val (.long (Int64.ofNat nn)), .second, .val (.int (Int32.ofNat (Jvm.Free.SBG.digits nn))), .val (.int (Int32.ofNat sg)), .val (.int (Int32.ofNat (32 + sg))), .val (.ref b32), .unset] [(.long (Int64.ofNat nn)), (.int (Int32.ofNat (32 + sg))), (.ref mm1)])) (fun _ k => XS.lload X64.here hx rfl (hb hby at_393) rfl k) ?_
      refine OwnFin.adv (B := T64.setTop (mkF m 397 #[.val (.int xv), .val (.ref ax1), .val (.ref mm1), .val (.long v3), .second, .val (.int ng), .val (.long (Int64.ofNat nn)), .second, .val (.int (Int32.ofNat (Jvm.Free.SBG.digits nn))), .val (.int (Int32.ofNat sg)), .val (.int (Int32.ofNat (32 + sg))), .val (.ref b32), .unset] [(.int (Int32.ofNat (Jvm.Free.SBG.digits nn))), (.long (Int64.ofNat nn)), (.int (Int32.ofNat (32 + sg))), (.ref mm1)])) (fun _ k => XS.iload X64.here hx rfl (hb hby at_395) rfl k) ?_
      refine OwnFin.adv (B := T64.setTop (mkF m 399 #[.val (.int xv), .val (.ref ax1), .val (.ref mm1), .val (.long v3), .second, .val (.int ng), .val (.long (Int64.ofNat nn)), .second, .val (.int (Int32.ofNat (Jvm.Free.SBG.digits nn))), .val (.int (Int32.ofNat sg)), .val (.int (Int32.ofNat (32 + sg))), .val (.ref b32), .unset] [(.int (9 : Int32)), (.int (Int32.ofNat (Jvm.Free.SBG.digits nn))), (.long (Int64.ofNat nn)), (.int (Int32.ofNat (32 + sg))), (.ref mm1)])) (fun _ k => XS.bipush X64.here hx rfl (hb hby at_397) k) ?_
      refine OwnFin.adv (B := T64.setTop (mkF m 401 #[.val (.int xv), .val (.ref ax1), .val (.ref mm1), .val (.long v3), .second, .val (.int ng), .val (.long (Int64.ofNat nn)), .second, .val (.int (Int32.ofNat (Jvm.Free.SBG.digits nn))), .val (.int (Int32.ofNat sg)), .val (.int (Int32.ofNat (32 + sg))), .val (.ref b32), .unset] [(.ref b32), (.int (9 : Int32)), (.int (Int32.ofNat (Jvm.Free.SBG.digits nn))), (.long (Int64.ofNat nn)), (.int (Int32.ofNat (32 + sg))), (.ref mm1)])) (fun _ k => XS.aload X64.here hx rfl (hb hby at_399) rfl rfl k) ?_
      obtain ⟨_, _, ⟨T65, L65, k65, n65⟩, -, X65, ⟨Lc65, hQ65, l65, y65, z65⟩, st65⟩ := Jvm.LawKit.callS X64 hx (y := (⟨"com/example/rollbook/rollbook/http/ApiExceptionBodyTooLargePinLaw", "dig", "(Ljava/lang/String;IJII[J)Z"⟩ : MethodName)) hown (mvT hZ (hw _ (List.mem_of_getElem? (i := 303) rfl))) (mvT hZ (hw _ (List.mem_of_getElem? (i := 304) rfl))) (mvT hZ (hw _ (List.mem_of_getElem? (i := 258) rfl))) (mvT hZ (hw _ (List.mem_of_getElem? (i := 305) rfl))) (by decide) (backOf (W := 0) (own_dig l Z a0 hw [] mm1 b32 k32 zc fm (T1.heap.size) (32 + sg) nn (Jvm.Free.SBG.digits nn) 9 (own_msg xv nn) h52 n0 (by omega) Old55 SCS hzc SFM rfm Fv56_16 V52 hnn (Jvm.Free.SBG.digits_pos nn) (by decide) (by omega) (fun q => own_agD hsg q)) hZ (hw _ (List.mem_of_getElem? (i := 305) rfl)) (hw _ (List.mem_of_getElem? (i := 258) rfl)) (by decide) (by decide)) (g := (mkF m 401 #[.val (.int xv), .val (.ref ax1), .val (.ref mm1), .val (.long v3), .second, .val (.int ng), .val (.long (Int64.ofNat nn)), .second, .val (.int (Int32.ofNat (Jvm.Free.SBG.digits nn))), .val (.int (Int32.ofNat sg)), .val (.int (Int32.ofNat (32 + sg))), .val (.ref b32), .unset] [(.ref b32), (.int (9 : Int32)), (.int (Int32.ofNat (Jvm.Free.SBG.digits nn))), (.long (Int64.ofNat nn)), (.int (Int32.ofNat (32 + sg))), (.ref mm1)])) rfl (by rw [hml]; rfl) (argsL := [(.ref mm1), (.int (Int32.ofNat (32 + sg))), (.long (Int64.ofNat nn)), (.int (Int32.ofNat (Jvm.Free.SBG.digits nn))), (.int (9 : Int32)), (.ref b32)]) (rest := []) (lenOf own_pd_x28Ljavax2flangx2fStringx3bIJIIx5bJx29Z rfl) rfl (by show 2 * 0 + _ ≤ _; exact Nat.le_of_eq rfl) (hb hby at_401) (fun _ _ => ⟨rfl, eh64, (by decide : 22 + 0 ≤ _), (by decide : 3378 + 0 ≤ _)⟩)
      dsimp only [Pt.U, Pt.locs, Pt.cells, Pt.slots] at X65 l65 y65 z65 st65 hQ65
      subst l65 y65 z65
      obtain ⟨rfl, N65q, eh65⟩ := hQ65
      have N65 := Fr.app N64 N65q
      refine OwnFin.adv (B := T65.setTop (mkF m 404 #[.val (.int xv), .val (.ref ax1), .val (.ref mm1), .val (.long v3), .second, .val (.int ng), .val (.long (Int64.ofNat nn)), .second, .val (.int (Int32.ofNat (Jvm.Free.SBG.digits nn))), .val (.int (Int32.ofNat sg)), .val (.int (Int32.ofNat (32 + sg))), .val (.ref b32), .unset] [(.int (1 : Int32))])) (fun _ k => st65 _ k) ?_
      have hc404_180 : ¬ ((1 : Int32) = (0 : Int32)) := by decide
      refine OwnFin.adv (B := T65.setTop (mkF m 407 #[.val (.int xv), .val (.ref ax1), .val (.ref mm1), .val (.long v3), .second, .val (.int ng), .val (.long (Int64.ofNat nn)), .second, .val (.int (Int32.ofNat (Jvm.Free.SBG.digits nn))), .val (.int (Int32.ofNat sg)), .val (.int (Int32.ofNat (32 + sg))), .val (.ref b32), .unset] [])) (fun _ k => XS.ifNo X65.here hx rfl (hb hby at_404) rfl ((if0 _ _).trans (feq hc404_180).1) k) ?_
      refine OwnFin.adv (B := T65.setTop (mkF m 408 #[.val (.int xv), .val (.ref ax1), .val (.ref mm1), .val (.long v3), .second, .val (.int ng), .val (.long (Int64.ofNat nn)), .second, .val (.int (Int32.ofNat (Jvm.Free.SBG.digits nn))), .val (.int (Int32.ofNat sg)), .val (.int (Int32.ofNat (32 + sg))), .val (.ref b32), .unset] [(.int (1 : Int32))])) (fun _ k => XS.iconst X65.here hx rfl (hb hby at_407) k) ?_
      refine OwnFin.adv (B := T65.setTop (mkF m 412 #[.val (.int xv), .val (.ref ax1), .val (.ref mm1), .val (.long v3), .second, .val (.int ng), .val (.long (Int64.ofNat nn)), .second, .val (.int (Int32.ofNat (Jvm.Free.SBG.digits nn))), .val (.int (Int32.ofNat sg)), .val (.int (Int32.ofNat (32 + sg))), .val (.ref b32), .unset] [(.int (1 : Int32))])) (fun _ k => XS.goto X65.here hx rfl (pc0 := 408) (pc' := 412) rfl (hb hby at_408) (by decide) (by decide) k) ?_
      refine OwnFin.adv (B := T65.setTop (mkF m 414 #[.val (.int xv), .val (.ref ax1), .val (.ref mm1), .val (.long v3), .second, .val (.int ng), .val (.long (Int64.ofNat nn)), .second, .val (.int (Int32.ofNat (Jvm.Free.SBG.digits nn))), .val (.int (Int32.ofNat sg)), .val (.int (Int32.ofNat (32 + sg))), .val (.ref b32), .val (.int (1 : Int32))] [])) (fun _ k => XS.istore X65.here hx rfl (hb hby at_412) rfl (l' := #[.val (.int xv), .val (.ref ax1), .val (.ref mm1), .val (.long v3), .second, .val (.int ng), .val (.long (Int64.ofNat nn)), .second, .val (.int (Int32.ofNat (Jvm.Free.SBG.digits nn))), .val (.int (Int32.ofNat sg)), .val (.int (Int32.ofNat (32 + sg))), .val (.ref b32), .val (.int (1 : Int32))]) rfl k) ?_
      refine OwnFin.adv (B := T65.setTop (mkF m 416 #[.val (.int xv), .val (.ref ax1), .val (.ref mm1), .val (.long v3), .second, .val (.int ng), .val (.long (Int64.ofNat nn)), .second, .val (.int (Int32.ofNat (Jvm.Free.SBG.digits nn))), .val (.int (Int32.ofNat sg)), .val (.int (Int32.ofNat (32 + sg))), .val (.ref b32), .val (.int (1 : Int32))] [(.int (1 : Int32))])) (fun _ k => XS.iload X65.here hx rfl (hb hby at_414) rfl k) ?_
      have hc416_185 : ¬ ((1 : Int32) = (0 : Int32)) := by decide
      refine OwnFin.adv (B := T65.setTop (mkF m 419 #[.val (.int xv), .val (.ref ax1), .val (.ref mm1), .val (.long v3), .second, .val (.int ng), .val (.long (Int64.ofNat nn)), .second, .val (.int (Int32.ofNat (Jvm.Free.SBG.digits nn))), .val (.int (Int32.ofNat sg)), .val (.int (Int32.ofNat (32 + sg))), .val (.ref b32), .val (.int (1 : Int32))] [])) (fun _ k => XS.ifNo X65.here hx rfl (hb hby at_416) rfl ((if0 _ _).trans (feq hc416_185).1) k) ?_
      refine OwnFin.adv (B := T65.setTop (mkF m 420 #[.val (.int xv), .val (.ref ax1), .val (.ref mm1), .val (.long v3), .second, .val (.int ng), .val (.long (Int64.ofNat nn)), .second, .val (.int (Int32.ofNat (Jvm.Free.SBG.digits nn))), .val (.int (Int32.ofNat sg)), .val (.int (Int32.ofNat (32 + sg))), .val (.ref b32), .val (.int (1 : Int32))] [(.ref mm1)])) (fun _ k => XS.aloadN X65.here hx rfl (hb hby at_419) rfl rfl k) ?_
      refine OwnFin.adv (B := T65.setTop (mkF m 422 #[.val (.int xv), .val (.ref ax1), .val (.ref mm1), .val (.long v3), .second, .val (.int ng), .val (.long (Int64.ofNat nn)), .second, .val (.int (Int32.ofNat (Jvm.Free.SBG.digits nn))), .val (.int (Int32.ofNat sg)), .val (.int (Int32.ofNat (32 + sg))), .val (.ref b32), .val (.int (1 : Int32))] [(.int (Int32.ofNat (32 + sg))), (.ref mm1)])) (fun _ k => XS.iload X65.here hx rfl (hb hby at_420) rfl k) ?_
      refine OwnFin.adv (B := T65.setTop (mkF m 424 #[.val (.int xv), .val (.ref ax1), .val (.ref mm1), .val (.long v3), .second, .val (.int ng), .val (.long (Int64.ofNat nn)), .second, .val (.int (Int32.ofNat (Jvm.Free.SBG.digits nn))), .val (.int (Int32.ofNat sg)), .val (.int (Int32.ofNat (32 + sg))), .val (.ref b32), .val (.int (1 : Int32))] [(.int (Int32.ofNat (Jvm.Free.SBG.digits nn))), (.int (Int32.ofNat (32 + sg))), (.ref mm1)])) (fun _ k => XS.iload X65.here hx rfl (hb hby at_422) rfl k) ?_
      refine OwnFin.adv (B := T65.setTop (mkF m 425 #[.val (.int xv), .val (.ref ax1), .val (.ref mm1), .val (.long v3), .second, .val (.int ng), .val (.long (Int64.ofNat nn)), .second, .val (.int (Int32.ofNat (Jvm.Free.SBG.digits nn))), .val (.int (Int32.ofNat sg)), .val (.int (Int32.ofNat (32 + sg))), .val (.ref b32), .val (.int (1 : Int32))] [(.int ((Int32.ofNat (32 + sg)) + (Int32.ofNat (Jvm.Free.SBG.digits nn)))), (.ref mm1)])) (fun _ k => XS.iadd X65.here hx rfl (hb hby at_424) rfl k) ?_
      rw [show (((Int32.ofNat (32 + sg)) + (Int32.ofNat (Jvm.Free.SBG.digits nn))) : Int32) = (Int32.ofNat ((32 + sg) + (Jvm.Free.SBG.digits nn))) from own_add _ _]
      obtain ⟨a66, T66, h66, kk66, bb66, kb66, X66, e66, E66, hS66, hk66, hZ, hown, Ea66, Fc66, Fv66, Vb66, lta66, ltb66, C66, Lt66, sf66, st66⟩ := ldcCH (s := s) (vm0 := T26.vm) X65 hx hZ hown (hw _ (List.mem_of_getElem? (i := 307) rfl)) (fun d hd => hw d ((by decide +kernel : ∀ d ∈ Bundle.stringAtoms, d ∈ tables_1) d hd)) eh65 hS26 (by omega) (own_EW hw) (by decide) (chA53).1 (vs := [(.int (32 : Int32)), (.int (98 : Int32)), (.int (121 : Int32)), (.int (116 : Int32)), (.int (101 : Int32)), (.int (115 : Int32))]) (z := (6 : Int32)) ⟨by decide +kernel, by decide +kernel⟩ (by decide) (by decide) (g := (mkF m 425 #[.val (.int xv), .val (.ref ax1), .val (.ref mm1), .val (.long v3), .second, .val (.int ng), .val (.long (Int64.ofNat nn)), .second, .val (.int (Int32.ofNat (Jvm.Free.SBG.digits nn))), .val (.int (Int32.ofNat sg)), .val (.int (Int32.ofNat (32 + sg))), .val (.ref b32), .val (.int (1 : Int32))] [(.int (Int32.ofNat ((32 + sg) + (Jvm.Free.SBG.digits nn)))), (.ref mm1)])) rfl (hb hby at_425) (n := 24) (by decide) (by decide) (by decide) (by decide)
      have hZ66 := hZ
      have sz67 : h52.size ≤ h66.size := E66.1
      have chA66 : CHr Z own_EL s.vm h0 T66.vm h66 := (chA53).trans C66
      refine OwnFin.adv (B := T66.setTop (mkF m 427 #[.val (.int xv), .val (.ref ax1), .val (.ref mm1), .val (.long v3), .second, .val (.int ng), .val (.long (Int64.ofNat nn)), .second, .val (.int (Int32.ofNat (Jvm.Free.SBG.digits nn))), .val (.int (Int32.ofNat sg)), .val (.int (Int32.ofNat (32 + sg))), .val (.ref b32), .val (.int (1 : Int32))] [(.ref a66), (.int (Int32.ofNat ((32 + sg) + (Jvm.Free.SBG.digits nn)))), (.ref mm1)])) (fun _ k => st66 _ k) ?_
      have Fl66 : OwnS Z h66 h66.size a66 own_B := own_litS Ea66 Fv66 Fc66 Vb66 lta66 ltb66 (by decide) (by decide) own_B255 (by decide)
      have Old69 : Old Z n0 h66 := (Old55.ext E66)
      have Fv70_17 : OwnS Z h66 (T1.heap.size) mm1 (own_msg xv nn) := (Fv56_16.ext E66)
      obtain ⟨_, _, ⟨T68, L68, k68, n68⟩, -, X68, ⟨Lc68, hQ68, l68, y68, z68⟩, st68⟩ := Jvm.LawKit.callS X66 hx (y := (⟨"com/example/rollbook/rollbook/http/ApiExceptionBodyTooLargePinLaw", "has", "(Ljava/lang/String;ILjava/lang/String;)Z"⟩ : MethodName)) hown (mvT hZ (hw _ (List.mem_of_getElem? (i := 263) rfl))) (mvT hZ (hw _ (List.mem_of_getElem? (i := 264) rfl))) (mvT hZ (hw _ (List.mem_of_getElem? (i := 258) rfl))) (mvT hZ (hw _ (List.mem_of_getElem? (i := 265) rfl))) (by decide) (backOf (W := 0) (own_has l Z a0 hw [] mm1 a66 zc fm (T1.heap.size) (h66.size) ((32 + sg) + (Jvm.Free.SBG.digits nn)) (own_msg xv nn) own_B h66 n0 (by omega) Old69 SCS hzc SFM rfm Fv70_17 Fl66 (own_agB hsg)) hZ (hw _ (List.mem_of_getElem? (i := 265) rfl)) (hw _ (List.mem_of_getElem? (i := 258) rfl)) (by decide) (by decide)) (g := (mkF m 427 #[.val (.int xv), .val (.ref ax1), .val (.ref mm1), .val (.long v3), .second, .val (.int ng), .val (.long (Int64.ofNat nn)), .second, .val (.int (Int32.ofNat (Jvm.Free.SBG.digits nn))), .val (.int (Int32.ofNat sg)), .val (.int (Int32.ofNat (32 + sg))), .val (.ref b32), .val (.int (1 : Int32))] [(.ref a66), (.int (Int32.ofNat ((32 + sg) + (Jvm.Free.SBG.digits nn)))), (.ref mm1)])) rfl (by rw [hml]; rfl) (argsL := [(.ref mm1), (.int (Int32.ofNat ((32 + sg) + (Jvm.Free.SBG.digits nn)))), (.ref a66)]) (rest := []) (lenOf own_pd_x28Ljavax2flangx2fStringx3bILjavax2flangx2fStringx3bx29Z rfl) rfl (by show 2 * 0 + _ ≤ _; exact Nat.le_of_eq rfl) (hb hby at_427) (fun _ _ => ⟨rfl, e66, (by decide : 24 + 0 ≤ _), (by decide : 3406 + 0 ≤ _)⟩)
      dsimp only [Pt.U, Pt.locs, Pt.cells, Pt.slots] at X68 l68 y68 z68 st68 hQ68
      subst l68 y68 z68
      obtain ⟨rfl, N68q, eh68⟩ := hQ68
      have N68 := Fr.app N65 N68q
      refine OwnFin.adv (B := T68.setTop (mkF m 430 #[.val (.int xv), .val (.ref ax1), .val (.ref mm1), .val (.long v3), .second, .val (.int ng), .val (.long (Int64.ofNat nn)), .second, .val (.int (Int32.ofNat (Jvm.Free.SBG.digits nn))), .val (.int (Int32.ofNat sg)), .val (.int (Int32.ofNat (32 + sg))), .val (.ref b32), .val (.int (1 : Int32))] [(.int (1 : Int32))])) (fun _ k => st68 _ k) ?_
      have hc430_192 : ¬ ((1 : Int32) = (0 : Int32)) := by decide
      refine OwnFin.adv (B := T68.setTop (mkF m 433 #[.val (.int xv), .val (.ref ax1), .val (.ref mm1), .val (.long v3), .second, .val (.int ng), .val (.long (Int64.ofNat nn)), .second, .val (.int (Int32.ofNat (Jvm.Free.SBG.digits nn))), .val (.int (Int32.ofNat sg)), .val (.int (Int32.ofNat (32 + sg))), .val (.ref b32), .val (.int (1 : Int32))] [])) (fun _ k => XS.ifNo X68.here hx rfl (hb hby at_430) rfl ((if0 _ _).trans (feq hc430_192).1) k) ?_
      refine OwnFin.adv (B := T68.setTop (mkF m 434 #[.val (.int xv), .val (.ref ax1), .val (.ref mm1), .val (.long v3), .second, .val (.int ng), .val (.long (Int64.ofNat nn)), .second, .val (.int (Int32.ofNat (Jvm.Free.SBG.digits nn))), .val (.int (Int32.ofNat sg)), .val (.int (Int32.ofNat (32 + sg))), .val (.ref b32), .val (.int (1 : Int32))] [(.int (1 : Int32))])) (fun _ k => XS.iconst X68.here hx rfl (hb hby at_433) k) ?_
      refine OwnFin.adv (B := T68.setTop (mkF m 438 #[.val (.int xv), .val (.ref ax1), .val (.ref mm1), .val (.long v3), .second, .val (.int ng), .val (.long (Int64.ofNat nn)), .second, .val (.int (Int32.ofNat (Jvm.Free.SBG.digits nn))), .val (.int (Int32.ofNat sg)), .val (.int (Int32.ofNat (32 + sg))), .val (.ref b32), .val (.int (1 : Int32))] [(.int (1 : Int32))])) (fun _ k => XS.goto X68.here hx rfl (pc0 := 434) (pc' := 438) rfl (hb hby at_434) (by decide) (by decide) k) ?_
      obtain ⟨fs, hr, hrun, hended, hE⟩ := X68.leaveW hS66 (by rw [eh68]; omega) (v := some (.int (1 : Int32))) (fun h => by rw [Bd.returns] at h; cases h)
      refine OwnFin.leaf hP' ⟨_, _, retN X68 hx (t := .boolean) Bd.returns (by simp) (hb hby at_438) hr, hrun, hended, _, _, rfl, ?_, own_monoW hE (by decide) (by decide)⟩
      exact ⟨rfl, N68⟩
    by_cases hc152 : ng = (0 : Int32)
    ·
      refine OwnFin.adv (B := T28.setTop (mkF m 168 #[.val (.int xv), .val (.ref ax1), .val (.ref mm1), .val (.long v3), .second, .val (.int ng), .val (.long (Int64.ofNat nn)), .second, .val (.int (Int32.ofNat (Jvm.Free.SBG.digits nn))), .val (.int (Int32.ofNat sg)), .unset, .unset, .unset] [])) (fun _ k => XS.ifYes X28.here hx rfl (pc0 := 152) (pc' := 168) rfl (hb hby at_152) rfl ((if0 _ _).trans (teq hc152).1) (by decide) (by decide) k) ?_
      exact J168 T28 _ X28 eh28 N28
    ·
      refine OwnFin.adv (B := T28.setTop (mkF m 155 #[.val (.int xv), .val (.ref ax1), .val (.ref mm1), .val (.long v3), .second, .val (.int ng), .val (.long (Int64.ofNat nn)), .second, .val (.int (Int32.ofNat (Jvm.Free.SBG.digits nn))), .val (.int (Int32.ofNat sg)), .unset, .unset, .unset] [])) (fun _ k => XS.ifNo X28.here hx rfl (hb hby at_152) rfl ((if0 _ _).trans (feq hc152).1) k) ?_
      have hneg : xv < 0 := Classical.byContradiction fun q => hc152 (hng.mpr q)
      refine OwnFin.adv (B := T28.setTop (mkF m 156 #[.val (.int xv), .val (.ref ax1), .val (.ref mm1), .val (.long v3), .second, .val (.int ng), .val (.long (Int64.ofNat nn)), .second, .val (.int (Int32.ofNat (Jvm.Free.SBG.digits nn))), .val (.int (Int32.ofNat sg)), .unset, .unset, .unset] [(.ref mm1)])) (fun _ k => XS.aloadN X28.here hx rfl (hb hby at_155) rfl rfl k) ?_
      refine OwnFin.adv (B := T28.setTop (mkF m 158 #[.val (.int xv), .val (.ref ax1), .val (.ref mm1), .val (.long v3), .second, .val (.int ng), .val (.long (Int64.ofNat nn)), .second, .val (.int (Int32.ofNat (Jvm.Free.SBG.digits nn))), .val (.int (Int32.ofNat sg)), .unset, .unset, .unset] [(.int (32 : Int32)), (.ref mm1)])) (fun _ k => XS.bipush X28.here hx rfl (hb hby at_156) k) ?_
      have Fv72_5 : Exa Z h26 mm1 "java/lang/String" := ((((Es10.ext E11).ext E16).ext E21).ext E26)
      obtain ⟨cq71, kq71, q71a, q71b, q71c⟩ := isOf hZ eh28 Fv72_5
      obtain ⟨_, _, ⟨T71, L71, k71, n71⟩, -, X71, ⟨Lc71, hQ71, l71, y71, z71⟩, st71⟩ := X28.virtualBack hx (y := (⟨"java/lang/String", "charAt", "(I)C"⟩ : MethodName)) (z := (⟨"java/lang/String", "charAt", "(I)C"⟩ : MethodName)) hown (mvT hZ (hw _ (List.mem_of_getElem? (i := 269) rfl))) (mvT hZ (hw _ (List.mem_of_getElem? (i := 270) rfl))) (notFace_of_selects (args := #[]) (mvT hZ (hw _ (List.mem_of_getElem? (i := 272) rfl)))) (mvT hZ (hw _ (List.mem_of_getElem? (i := 272) rfl))) (mvT hZ (hw _ (List.mem_of_getElem? (i := 271) rfl))) (by decide) (backOf (W := 0) (own_strCh l Z a0 hw [] mm1 zc fm (T1.heap.size) (32) (own_msg xv nn) h26 n0 (by omega) Old29 SCS hzc SFM rfm Fv30_5 (by rw [own_msglen]; omega)) hZ (hw _ (List.mem_of_getElem? (i := 273) rfl)) (hw _ (List.mem_of_getElem? (i := 22) rfl)) (by decide) (by decide)) q71a q71c (g := (mkF m 158 #[.val (.int xv), .val (.ref ax1), .val (.ref mm1), .val (.long v3), .second, .val (.int ng), .val (.long (Int64.ofNat nn)), .second, .val (.int (Int32.ofNat (Jvm.Free.SBG.digits nn))), .val (.int (Int32.ofNat sg)), .unset, .unset, .unset] [(.int (32 : Int32)), (.ref mm1)])) rfl (by rw [hml]; rfl) (Steps.refl _) (argsL := [(.int (32 : Int32))]) (rest := []) (lenOf own_pd_x28Ix29C rfl) rfl (by show 2 * 0 + _ ≤ _; exact Nat.le_of_eq rfl) (hb hby at_158) (fun _ _ => ⟨rfl, eh28, (by decide : 21 + 0 ≤ _), (by decide : 3368 + 0 ≤ _)⟩)
      dsimp only [Pt.U, Pt.locs, Pt.cells, Pt.slots] at X71 l71 y71 z71 st71 hQ71
      subst l71 y71 z71
      obtain ⟨rfl, N71q, eh71⟩ := hQ71
      have N71 := Fr.app N28 N71q
      refine OwnFin.adv (B := T71.setTop (mkF m 161 #[.val (.int xv), .val (.ref ax1), .val (.ref mm1), .val (.long v3), .second, .val (.int ng), .val (.long (Int64.ofNat nn)), .second, .val (.int (Int32.ofNat (Jvm.Free.SBG.digits nn))), .val (.int (Int32.ofNat sg)), .unset, .unset, .unset] [(.int (((own_msg xv nn)).getD (32) 0))])) (fun _ k => st71.trans k) ?_
      refine OwnFin.adv (B := T71.setTop (mkF m 163 #[.val (.int xv), .val (.ref ax1), .val (.ref mm1), .val (.long v3), .second, .val (.int ng), .val (.long (Int64.ofNat nn)), .second, .val (.int (Int32.ofNat (Jvm.Free.SBG.digits nn))), .val (.int (Int32.ofNat sg)), .unset, .unset, .unset] [(.int (45 : Int32)), (.int (((own_msg xv nn)).getD (32) 0))])) (fun _ k => XS.bipush X71.here hx rfl (hb hby at_161) k) ?_
      have hc163_58 : (((own_msg xv nn)).getD (32) 0) = (45 : Int32) := own_at32 nn hneg
      refine OwnFin.adv (B := T71.setTop (mkF m 168 #[.val (.int xv), .val (.ref ax1), .val (.ref mm1), .val (.long v3), .second, .val (.int ng), .val (.long (Int64.ofNat nn)), .second, .val (.int (Int32.ofNat (Jvm.Free.SBG.digits nn))), .val (.int (Int32.ofNat sg)), .unset, .unset, .unset] [])) (fun _ k => XS.icmpYes X71.here hx rfl (pc0 := 163) (pc' := 168) rfl (hb hby at_163) rfl (teq hc163_58).1 (by decide) (by decide) k) ?_
      exact J168 T71 _ X71 eh71 N71
  by_cases hc46 : (lcmpW (xv.toInt64) (0 : Int64)) < (0 : Int32)
  ·
    refine OwnFin.adv (B := T7.setTop (mkF m 49 #[.val (.int xv), .val (.ref ax1), .val (.ref mm1), .val (.long (xv.toInt64)), .second, .unset, .unset, .unset, .unset, .unset, .unset, .unset, .unset] [])) (fun _ k => XS.ifNo X7.here hx rfl (hb hby at_46) rfl ((if0 _ _).trans (tlt hc46).2.1) k) ?_
    have hneg : xv < 0 := own_lz.mp hc46
    refine OwnFin.adv (B := T7.setTop (mkF m 50 #[.val (.int xv), .val (.ref ax1), .val (.ref mm1), .val (.long (xv.toInt64)), .second, .unset, .unset, .unset, .unset, .unset, .unset, .unset, .unset] [(.int (1 : Int32))])) (fun _ k => XS.iconst X7.here hx rfl (hb hby at_49) k) ?_
    refine OwnFin.adv (B := T7.setTop (mkF m 54 #[.val (.int xv), .val (.ref ax1), .val (.ref mm1), .val (.long (xv.toInt64)), .second, .unset, .unset, .unset, .unset, .unset, .unset, .unset, .unset] [(.int (1 : Int32))])) (fun _ k => XS.goto X7.here hx rfl (pc0 := 50) (pc' := 54) rfl (hb hby at_50) (by decide) (by decide) k) ?_
    refine OwnFin.adv (B := T7.setTop (mkF m 56 #[.val (.int xv), .val (.ref ax1), .val (.ref mm1), .val (.long (xv.toInt64)), .second, .val (.int (1 : Int32)), .unset, .unset, .unset, .unset, .unset, .unset, .unset] [])) (fun _ k => XS.istore X7.here hx rfl (hb hby at_54) rfl (l' := #[.val (.int xv), .val (.ref ax1), .val (.ref mm1), .val (.long (xv.toInt64)), .second, .val (.int (1 : Int32)), .unset, .unset, .unset, .unset, .unset, .unset, .unset]) rfl k) ?_
    refine OwnFin.adv (B := T7.setTop (mkF m 58 #[.val (.int xv), .val (.ref ax1), .val (.ref mm1), .val (.long (xv.toInt64)), .second, .val (.int (1 : Int32)), .unset, .unset, .unset, .unset, .unset, .unset, .unset] [(.int (1 : Int32))])) (fun _ k => XS.iload X7.here hx rfl (hb hby at_56) rfl k) ?_
    have hc58_28 : ¬ ((1 : Int32) = (0 : Int32)) := by decide
    refine OwnFin.adv (B := T7.setTop (mkF m 61 #[.val (.int xv), .val (.ref ax1), .val (.ref mm1), .val (.long (xv.toInt64)), .second, .val (.int (1 : Int32)), .unset, .unset, .unset, .unset, .unset, .unset, .unset] [])) (fun _ k => XS.ifNo X7.here hx rfl (hb hby at_58) rfl ((if0 _ _).trans (feq hc58_28).1) k) ?_
    refine OwnFin.adv (B := T7.setTop (mkF m 62 #[.val (.int xv), .val (.ref ax1), .val (.ref mm1), .val (.long (xv.toInt64)), .second, .val (.int (1 : Int32)), .unset, .unset, .unset, .unset, .unset, .unset, .unset] [(.long (xv.toInt64))])) (fun _ k => XS.lloadN X7.here hx rfl (hb hby at_61) rfl k) ?_
    refine OwnFin.adv (B := T7.setTop (mkF m 63 #[.val (.int xv), .val (.ref ax1), .val (.ref mm1), .val (.long (xv.toInt64)), .second, .val (.int (1 : Int32)), .unset, .unset, .unset, .unset, .unset, .unset, .unset] [(.long (-(xv.toInt64)))])) (fun _ k => XS.lneg X7.here hx rfl (hb hby at_62) rfl k) ?_
    refine OwnFin.adv (B := T7.setTop (mkF m 67 #[.val (.int xv), .val (.ref ax1), .val (.ref mm1), .val (.long (xv.toInt64)), .second, .val (.int (1 : Int32)), .unset, .unset, .unset, .unset, .unset, .unset, .unset] [(.long (-(xv.toInt64)))])) (fun _ k => XS.goto X7.here hx rfl (pc0 := 63) (pc' := 67) rfl (hb hby at_63) (by decide) (by decide) k) ?_
    refine OwnFin.adv (B := T7.setTop (mkF m 69 #[.val (.int xv), .val (.ref ax1), .val (.ref mm1), .val (.long (xv.toInt64)), .second, .val (.int (1 : Int32)), .val (.long (-(xv.toInt64))), .second, .unset, .unset, .unset, .unset, .unset] [])) (fun _ k => XS.lstore X7.here hx rfl (hb hby at_67) rfl (l' := #[.val (.int xv), .val (.ref ax1), .val (.ref mm1), .val (.long (xv.toInt64)), .second, .val (.int (1 : Int32)), .val (.long (-(xv.toInt64))), .second, .unset, .unset, .unset, .unset, .unset]) rfl k) ?_
    rw [show ((-(xv.toInt64)) : Int64) = (Int64.ofNat nn) from own_negJ hneg hnn hxv]
    refine OwnFin.adv (B := T7.setTop (mkF m 71 #[.val (.int xv), .val (.ref ax1), .val (.ref mm1), .val (.long (xv.toInt64)), .second, .val (.int (1 : Int32)), .val (.long (Int64.ofNat nn)), .second, .unset, .unset, .unset, .unset, .unset] [(.long (Int64.ofNat nn))])) (fun _ k => XS.lload X7.here hx rfl (hb hby at_69) rfl k) ?_
    obtain ⟨_, _, ⟨T73, L73, k73, n73⟩, -, X73, ⟨Lc73, hQ73, l73, y73, z73⟩, st73⟩ := Jvm.LawKit.callS X7 hx (y := (⟨"com/example/rollbook/rollbook/http/ApiExceptionBodyTooLargePinLaw", "digits", "(J)I"⟩ : MethodName)) hown (mvT hZ (hw _ (List.mem_of_getElem? (i := 256) rfl))) (mvT hZ (hw _ (List.mem_of_getElem? (i := 257) rfl))) (mvT hZ (hw _ (List.mem_of_getElem? (i := 258) rfl))) (mvT hZ (hw _ (List.mem_of_getElem? (i := 259) rfl))) (by decide) (backOf (W := 0) (own_digits l Z a0 hw [] nn T1.heap n0 (by omega) hnn) hZ (hw _ (List.mem_of_getElem? (i := 259) rfl)) (hw _ (List.mem_of_getElem? (i := 258) rfl)) (by decide) (by decide)) (g := (mkF m 71 #[.val (.int xv), .val (.ref ax1), .val (.ref mm1), .val (.long (xv.toInt64)), .second, .val (.int (1 : Int32)), .val (.long (Int64.ofNat nn)), .second, .unset, .unset, .unset, .unset, .unset] [(.long (Int64.ofNat nn))])) rfl (by rw [hml]; rfl) (argsL := [(.long (Int64.ofNat nn))]) (rest := []) (lenOf own_pd_x28Jx29I rfl) rfl (by show 2 * 0 + _ ≤ _; exact Nat.le_of_eq rfl) (hb hby at_71) (fun _ _ => ⟨rfl, eh7, (by decide : 13 + 0 ≤ _), (by decide : 3224 + 0 ≤ _)⟩)
    dsimp only [Pt.U, Pt.locs, Pt.cells, Pt.slots] at X73 l73 y73 z73 st73 hQ73
    subst l73 y73 z73
    obtain ⟨rfl, N73q, eh73⟩ := hQ73
    have N73 := Fr.app N7 N73q
    refine OwnFin.adv (B := T73.setTop (mkF m 74 #[.val (.int xv), .val (.ref ax1), .val (.ref mm1), .val (.long (xv.toInt64)), .second, .val (.int (1 : Int32)), .val (.long (Int64.ofNat nn)), .second, .unset, .unset, .unset, .unset, .unset] [(.int (Int32.ofNat (Jvm.Free.SBG.digits nn)))])) (fun _ k => st73 _ k) ?_
    refine OwnFin.adv (B := T73.setTop (mkF m 76 #[.val (.int xv), .val (.ref ax1), .val (.ref mm1), .val (.long (xv.toInt64)), .second, .val (.int (1 : Int32)), .val (.long (Int64.ofNat nn)), .second, .val (.int (Int32.ofNat (Jvm.Free.SBG.digits nn))), .unset, .unset, .unset, .unset] [])) (fun _ k => XS.istore X73.here hx rfl (hb hby at_74) rfl (l' := #[.val (.int xv), .val (.ref ax1), .val (.ref mm1), .val (.long (xv.toInt64)), .second, .val (.int (1 : Int32)), .val (.long (Int64.ofNat nn)), .second, .val (.int (Int32.ofNat (Jvm.Free.SBG.digits nn))), .unset, .unset, .unset, .unset]) rfl k) ?_
    refine OwnFin.adv (B := T73.setTop (mkF m 78 #[.val (.int xv), .val (.ref ax1), .val (.ref mm1), .val (.long (xv.toInt64)), .second, .val (.int (1 : Int32)), .val (.long (Int64.ofNat nn)), .second, .val (.int (Int32.ofNat (Jvm.Free.SBG.digits nn))), .unset, .unset, .unset, .unset] [(.int (1 : Int32))])) (fun _ k => XS.iload X73.here hx rfl (hb hby at_76) rfl k) ?_
    have hc78_37 : ¬ ((1 : Int32) = (0 : Int32)) := by decide
    refine OwnFin.adv (B := T73.setTop (mkF m 81 #[.val (.int xv), .val (.ref ax1), .val (.ref mm1), .val (.long (xv.toInt64)), .second, .val (.int (1 : Int32)), .val (.long (Int64.ofNat nn)), .second, .val (.int (Int32.ofNat (Jvm.Free.SBG.digits nn))), .unset, .unset, .unset, .unset] [])) (fun _ k => XS.ifNo X73.here hx rfl (hb hby at_78) rfl ((if0 _ _).trans (feq hc78_37).1) k) ?_
    refine OwnFin.adv (B := T73.setTop (mkF m 82 #[.val (.int xv), .val (.ref ax1), .val (.ref mm1), .val (.long (xv.toInt64)), .second, .val (.int (1 : Int32)), .val (.long (Int64.ofNat nn)), .second, .val (.int (Int32.ofNat (Jvm.Free.SBG.digits nn))), .unset, .unset, .unset, .unset] [(.int (1 : Int32))])) (fun _ k => XS.iconst X73.here hx rfl (hb hby at_81) k) ?_
    refine OwnFin.adv (B := T73.setTop (mkF m 86 #[.val (.int xv), .val (.ref ax1), .val (.ref mm1), .val (.long (xv.toInt64)), .second, .val (.int (1 : Int32)), .val (.long (Int64.ofNat nn)), .second, .val (.int (Int32.ofNat (Jvm.Free.SBG.digits nn))), .unset, .unset, .unset, .unset] [(.int (1 : Int32))])) (fun _ k => XS.goto X73.here hx rfl (pc0 := 82) (pc' := 86) rfl (hb hby at_82) (by decide) (by decide) k) ?_
    refine OwnFin.adv (B := T73.setTop (mkF m 88 #[.val (.int xv), .val (.ref ax1), .val (.ref mm1), .val (.long (xv.toInt64)), .second, .val (.int (1 : Int32)), .val (.long (Int64.ofNat nn)), .second, .val (.int (Int32.ofNat (Jvm.Free.SBG.digits nn))), .val (.int (1 : Int32)), .unset, .unset, .unset] [])) (fun _ k => XS.istore X73.here hx rfl (hb hby at_86) rfl (l' := #[.val (.int xv), .val (.ref ax1), .val (.ref mm1), .val (.long (xv.toInt64)), .second, .val (.int (1 : Int32)), .val (.long (Int64.ofNat nn)), .second, .val (.int (Int32.ofNat (Jvm.Free.SBG.digits nn))), .val (.int (1 : Int32)), .unset, .unset, .unset]) rfl k) ?_
    exact J88 (1 : Int32) (xv.toInt64) 1 T73 _ X73 eh73 N73 (own_sgn1 hneg).symm (by simp [hneg])
  ·
    refine OwnFin.adv (B := T7.setTop (mkF m 53 #[.val (.int xv), .val (.ref ax1), .val (.ref mm1), .val (.long (xv.toInt64)), .second, .unset, .unset, .unset, .unset, .unset, .unset, .unset, .unset] [])) (fun _ k => XS.ifYes X7.here hx rfl (pc0 := 46) (pc' := 53) rfl (hb hby at_46) rfl ((if0 _ _).trans (flt hc46).2.1) (by decide) (by decide) k) ?_
    have hneg : ¬ xv < 0 := fun q => hc46 (own_lz.mpr q)
    refine OwnFin.adv (B := T7.setTop (mkF m 54 #[.val (.int xv), .val (.ref ax1), .val (.ref mm1), .val (.long (xv.toInt64)), .second, .unset, .unset, .unset, .unset, .unset, .unset, .unset, .unset] [(.int (0 : Int32))])) (fun _ k => XS.iconst X7.here hx rfl (hb hby at_53) k) ?_
    refine OwnFin.adv (B := T7.setTop (mkF m 56 #[.val (.int xv), .val (.ref ax1), .val (.ref mm1), .val (.long (xv.toInt64)), .second, .val (.int (0 : Int32)), .unset, .unset, .unset, .unset, .unset, .unset, .unset] [])) (fun _ k => XS.istore X7.here hx rfl (hb hby at_54) rfl (l' := #[.val (.int xv), .val (.ref ax1), .val (.ref mm1), .val (.long (xv.toInt64)), .second, .val (.int (0 : Int32)), .unset, .unset, .unset, .unset, .unset, .unset, .unset]) rfl k) ?_
    refine OwnFin.adv (B := T7.setTop (mkF m 58 #[.val (.int xv), .val (.ref ax1), .val (.ref mm1), .val (.long (xv.toInt64)), .second, .val (.int (0 : Int32)), .unset, .unset, .unset, .unset, .unset, .unset, .unset] [(.int (0 : Int32))])) (fun _ k => XS.iload X7.here hx rfl (hb hby at_56) rfl k) ?_
    have hc58_27 : (0 : Int32) = (0 : Int32) := rfl
    refine OwnFin.adv (B := T7.setTop (mkF m 66 #[.val (.int xv), .val (.ref ax1), .val (.ref mm1), .val (.long (xv.toInt64)), .second, .val (.int (0 : Int32)), .unset, .unset, .unset, .unset, .unset, .unset, .unset] [])) (fun _ k => XS.ifYes X7.here hx rfl (pc0 := 58) (pc' := 66) rfl (hb hby at_58) rfl ((if0 _ _).trans (teq hc58_27).1) (by decide) (by decide) k) ?_
    refine OwnFin.adv (B := T7.setTop (mkF m 67 #[.val (.int xv), .val (.ref ax1), .val (.ref mm1), .val (.long (xv.toInt64)), .second, .val (.int (0 : Int32)), .unset, .unset, .unset, .unset, .unset, .unset, .unset] [(.long (xv.toInt64))])) (fun _ k => XS.lloadN X7.here hx rfl (hb hby at_66) rfl k) ?_
    refine OwnFin.adv (B := T7.setTop (mkF m 69 #[.val (.int xv), .val (.ref ax1), .val (.ref mm1), .val (.long (xv.toInt64)), .second, .val (.int (0 : Int32)), .val (.long (xv.toInt64)), .second, .unset, .unset, .unset, .unset, .unset] [])) (fun _ k => XS.lstore X7.here hx rfl (hb hby at_67) rfl (l' := #[.val (.int xv), .val (.ref ax1), .val (.ref mm1), .val (.long (xv.toInt64)), .second, .val (.int (0 : Int32)), .val (.long (xv.toInt64)), .second, .unset, .unset, .unset, .unset, .unset]) rfl k) ?_
    rw [show ((xv.toInt64) : Int64) = (Int64.ofNat nn) from own_posJ hneg hnn hxv]
    refine OwnFin.adv (B := T7.setTop (mkF m 71 #[.val (.int xv), .val (.ref ax1), .val (.ref mm1), .val (.long (Int64.ofNat nn)), .second, .val (.int (0 : Int32)), .val (.long (Int64.ofNat nn)), .second, .unset, .unset, .unset, .unset, .unset] [(.long (Int64.ofNat nn))])) (fun _ k => XS.lload X7.here hx rfl (hb hby at_69) rfl k) ?_
    obtain ⟨_, _, ⟨T74, L74, k74, n74⟩, -, X74, ⟨Lc74, hQ74, l74, y74, z74⟩, st74⟩ := Jvm.LawKit.callS X7 hx (y := (⟨"com/example/rollbook/rollbook/http/ApiExceptionBodyTooLargePinLaw", "digits", "(J)I"⟩ : MethodName)) hown (mvT hZ (hw _ (List.mem_of_getElem? (i := 256) rfl))) (mvT hZ (hw _ (List.mem_of_getElem? (i := 257) rfl))) (mvT hZ (hw _ (List.mem_of_getElem? (i := 258) rfl))) (mvT hZ (hw _ (List.mem_of_getElem? (i := 259) rfl))) (by decide) (backOf (W := 0) (own_digits l Z a0 hw [] nn T1.heap n0 (by omega) hnn) hZ (hw _ (List.mem_of_getElem? (i := 259) rfl)) (hw _ (List.mem_of_getElem? (i := 258) rfl)) (by decide) (by decide)) (g := (mkF m 71 #[.val (.int xv), .val (.ref ax1), .val (.ref mm1), .val (.long (Int64.ofNat nn)), .second, .val (.int (0 : Int32)), .val (.long (Int64.ofNat nn)), .second, .unset, .unset, .unset, .unset, .unset] [(.long (Int64.ofNat nn))])) rfl (by rw [hml]; rfl) (argsL := [(.long (Int64.ofNat nn))]) (rest := []) (lenOf own_pd_x28Jx29I rfl) rfl (by show 2 * 0 + _ ≤ _; exact Nat.le_of_eq rfl) (hb hby at_71) (fun _ _ => ⟨rfl, eh7, (by decide : 13 + 0 ≤ _), (by decide : 3224 + 0 ≤ _)⟩)
    dsimp only [Pt.U, Pt.locs, Pt.cells, Pt.slots] at X74 l74 y74 z74 st74 hQ74
    subst l74 y74 z74
    obtain ⟨rfl, N74q, eh74⟩ := hQ74
    have N74 := Fr.app N7 N74q
    refine OwnFin.adv (B := T74.setTop (mkF m 74 #[.val (.int xv), .val (.ref ax1), .val (.ref mm1), .val (.long (Int64.ofNat nn)), .second, .val (.int (0 : Int32)), .val (.long (Int64.ofNat nn)), .second, .unset, .unset, .unset, .unset, .unset] [(.int (Int32.ofNat (Jvm.Free.SBG.digits nn)))])) (fun _ k => st74 _ k) ?_
    refine OwnFin.adv (B := T74.setTop (mkF m 76 #[.val (.int xv), .val (.ref ax1), .val (.ref mm1), .val (.long (Int64.ofNat nn)), .second, .val (.int (0 : Int32)), .val (.long (Int64.ofNat nn)), .second, .val (.int (Int32.ofNat (Jvm.Free.SBG.digits nn))), .unset, .unset, .unset, .unset] [])) (fun _ k => XS.istore X74.here hx rfl (hb hby at_74) rfl (l' := #[.val (.int xv), .val (.ref ax1), .val (.ref mm1), .val (.long (Int64.ofNat nn)), .second, .val (.int (0 : Int32)), .val (.long (Int64.ofNat nn)), .second, .val (.int (Int32.ofNat (Jvm.Free.SBG.digits nn))), .unset, .unset, .unset, .unset]) rfl k) ?_
    refine OwnFin.adv (B := T74.setTop (mkF m 78 #[.val (.int xv), .val (.ref ax1), .val (.ref mm1), .val (.long (Int64.ofNat nn)), .second, .val (.int (0 : Int32)), .val (.long (Int64.ofNat nn)), .second, .val (.int (Int32.ofNat (Jvm.Free.SBG.digits nn))), .unset, .unset, .unset, .unset] [(.int (0 : Int32))])) (fun _ k => XS.iload X74.here hx rfl (hb hby at_76) rfl k) ?_
    have hc78_34 : (0 : Int32) = (0 : Int32) := rfl
    refine OwnFin.adv (B := T74.setTop (mkF m 85 #[.val (.int xv), .val (.ref ax1), .val (.ref mm1), .val (.long (Int64.ofNat nn)), .second, .val (.int (0 : Int32)), .val (.long (Int64.ofNat nn)), .second, .val (.int (Int32.ofNat (Jvm.Free.SBG.digits nn))), .unset, .unset, .unset, .unset] [])) (fun _ k => XS.ifYes X74.here hx rfl (pc0 := 78) (pc' := 85) rfl (hb hby at_78) rfl ((if0 _ _).trans (teq hc78_34).1) (by decide) (by decide) k) ?_
    refine OwnFin.adv (B := T74.setTop (mkF m 86 #[.val (.int xv), .val (.ref ax1), .val (.ref mm1), .val (.long (Int64.ofNat nn)), .second, .val (.int (0 : Int32)), .val (.long (Int64.ofNat nn)), .second, .val (.int (Int32.ofNat (Jvm.Free.SBG.digits nn))), .unset, .unset, .unset, .unset] [(.int (0 : Int32))])) (fun _ k => XS.iconst X74.here hx rfl (hb hby at_85) k) ?_
    refine OwnFin.adv (B := T74.setTop (mkF m 88 #[.val (.int xv), .val (.ref ax1), .val (.ref mm1), .val (.long (Int64.ofNat nn)), .second, .val (.int (0 : Int32)), .val (.long (Int64.ofNat nn)), .second, .val (.int (Int32.ofNat (Jvm.Free.SBG.digits nn))), .val (.int (0 : Int32)), .unset, .unset, .unset] [])) (fun _ k => XS.istore X74.here hx rfl (hb hby at_86) rfl (l' := #[.val (.int xv), .val (.ref ax1), .val (.ref mm1), .val (.long (Int64.ofNat nn)), .second, .val (.int (0 : Int32)), .val (.long (Int64.ofNat nn)), .second, .val (.int (Int32.ofNat (Jvm.Free.SBG.digits nn))), .val (.int (0 : Int32)), .unset, .unset, .unset]) rfl k) ?_
    exact J88 (0 : Int32) (Int64.ofNat nn) 0 T74 _ X74 eh74 N74 (own_sgn0 hneg).symm (by simp [hneg])
theorem own_sub' : ∀ p ∈ own_EL, p ∈ consts_1 := by decide
theorem own_eqU {args : Array Value} {first s : State} {o : Option Outcome} {idx : List Nat} {t u : Term} {k : Int32} (hu : u.eval args first o idx s = some (.int k)) (h : (Cond.eq t u).value args first o s idx = some true) : t.eval args first o idx s = some (.int k) := by
  simp only [Cond.value, hu] at h
  cases ht : t.eval args first o idx s with
  | none => simp [ht] at h
  | some x => cases x <;> simp [ht] at h ⊢; exact h
theorem own_by {k : Nat} (h : k ≤ 100) : (-128 : Int32) ≤ Int32.ofNat k ∧ Int32.ofNat k ≤ (127 : Int32) := (by decide : ∀ k, k ≤ 100 → (-128 : Int32) ≤ Int32.ofNat k ∧ Int32.ofNat k ≤ (127 : Int32)) k h
open Jvm.Free.AList Jvm.Free.SB Jvm.Free.SBG Jvm.Free.SubstrLeaves in
theorem own_bytesC {a : Array Value} {s : State} {name : String} {rhs : Term} {F : Nat → Nat} (hx : (Cond.exactly (Tof name) "[B").before a s = true) (hl : (Cond.eq (.length (Tof name)) (.int (100 : Int32))).before a s = true) (hrhs : ∀ r, r < 100 → rhs.eval a s none [r] s = some (.int (Int32.ofNat (F r)))) (hF : ∀ r, r < 100 → F r ≤ 100)
    (hw : (Cond.all (Tof name) (.eq (.elem (Tof name) (.index 0)) rhs)).before a s = true) : (bytesC (Tof name)).before a s = true := by
  obtain ⟨d, cB, D, kB, hev, -⟩ := Cond.exactly_spec hx
  have hevAll : ∀ idx, (Tof name).eval a s none idx s = some (.ref d) := fun idx => by
    have q : (Tof name).eval a s none idx s = (Tof name).eval a s none [] s := by simp only [Tof, Term.eval]
    rw [q]; exact hev
  obtain ⟨d', D', hev', harrAt, hlen⟩ := Term.length_spec (Cond.eq_int hl rfl)
  cases hev.symm.trans hev'
  obtain ⟨hs31, hs⟩ := own_len hev harrAt (Cond.before_iff.mp hl)
  have hsz : D'.slots.size = 100 := by
    have q := congrArg Int32.toInt hs
    rw [show D'.slots.size.toInt32 = Int32.ofNat D'.slots.size from rfl, Int32.toInt_ofNat_of_lt hs31, show (100 : Int32).toInt = 100 from by decide] at q
    omega
  refine Cond.before_iff.mpr (Cond.all_intro (hevAll []) harrAt fun i hi => ?_)
  have q := own_eqU (hrhs i (by omega)) (Cond.all_elim (hevAll []) harrAt (Cond.before_iff.mp hw) i hi)
  have b := own_by (hF i (by omega))
  refine and_i ?_ ?_
  · rw [Cond.le_ints (Term.int_eval _) q]; exact congrArg some (decide_eq_true b.1)
  · rw [Cond.le_ints q (Term.int_eval _)]; exact congrArg some (decide_eq_true b.2)
open Jvm.Free.AList Jvm.Free.SB Jvm.Free.SBG Jvm.Free.SubstrLeaves in
theorem own_ones {a : Array Value} {s : State} (w1 : (Cond.laysStatic INT "DigitOnes" "[B").before a s = true) (w2 : (Cond.exactly (Tof "DigitOnes") "[B").before a s = true) (w3 : (Cond.eq (.length (Tof "DigitOnes")) (.int (100 : Int32))).before a s = true) (w4 : onesW.before a s = true) (hini : (Cond.initialized INT).before a s = true) (harr : (Cond.arrayClass .byte).before a s = true) :
    ∃ (c : ClassId) (k : Class) (st d : Addr) (D : Cell), s.vm.findClass INT = some c ∧ s.vm.classes[c]? = some k ∧ k.statics = some st ∧ Tbl s "DigitOnes" st d D ∧ Ones D := by
  refine ones_of_words (fun w hw => ?_) w4 hini harr
  simp only [tblW, List.mem_cons, List.not_mem_nil, or_false] at hw
  rcases hw with rfl | rfl | rfl | rfl
  · exact w1
  · exact w2
  · exact w3
  · exact own_bytesC (F := fun r => 48 + r % 10) w2 w3 (fun r hr => by rw [← ones_num r hr]; rfl) (fun r _ => by omega) w4
open Jvm.Free.AList Jvm.Free.SB Jvm.Free.SBG Jvm.Free.SubstrLeaves in
theorem own_tens {a : Array Value} {s : State} (w1 : (Cond.laysStatic INT "DigitTens" "[B").before a s = true) (w2 : (Cond.exactly (Tof "DigitTens") "[B").before a s = true) (w3 : (Cond.eq (.length (Tof "DigitTens")) (.int (100 : Int32))).before a s = true) (w4 : tensW.before a s = true) (hini : (Cond.initialized INT).before a s = true) (harr : (Cond.arrayClass .byte).before a s = true) :
    ∃ (c : ClassId) (k : Class) (st d : Addr) (D : Cell), s.vm.findClass INT = some c ∧ s.vm.classes[c]? = some k ∧ k.statics = some st ∧ Tbl s "DigitTens" st d D ∧ Tens D := by
  refine tens_of_words (fun w hw => ?_) w4 hini harr
  simp only [tblW, List.mem_cons, List.not_mem_nil, or_false] at hw
  rcases hw with rfl | rfl | rfl | rfl
  · exact w1
  · exact w2
  · exact w3
  · exact own_bytesC (F := fun r => 48 + r / 10) w2 w3 (fun r hr => by rw [← tens_num r hr]; rfl) (fun r _ => by omega) w4

set_option maxRecDepth 65536 in
set_option maxHeartbeats 40000000 in
theorem own_comes {Post : Tables → Env → Array Value → State → Outcome → State → Prop} (hpost : ∀ tb e args s v u, (limb_1_1.after args s (.returned v) u = true ∧ limb_1_2.after args s (.returned v) u = true ∧ True) → ReturnedEndW s (.returned v) u (Jvm.fieldLocs frame_1_writes args s ++ Jvm.arrayLocs frame_1_arrays args s ++ Jvm.staticLocs frame_1_statics s) 40 13184 → Post tb e args s (.returned v) u) :
    ArmFor flags0 classFile x code maxLocals ret World_1 tables_1 room_1 Calls_1 rest_1 Pre_1 Post := by
  intro l hfl _ _ p e ha hc hk s m args below hf hA hF happ hP
  obtain ⟨hcalls, hrest, hpre⟩ := hP
  obtain ⟨-, -, -, hnamed, -, -, -, hat⟩ := (Spec.applies_iff hf).mp happ
  obtain ⟨hg, hn⟩ := and_e (Cond.before_iff.mp (show (Jvm.Cond.and given_1 narrow_1).before args s = true from hpre))
  obtain ⟨u1, u2⟩ := and_e hg
  obtain ⟨w0, rfl⟩ : ∃ w0 : Value, args = #[w0] := by
    have hs : args.size = 1 := by simpa [Cond.value, given_1] using u1
    obtain ⟨L⟩ := args
    match L, hs with
    | [w0], _ => exact ⟨w0, rfl⟩
  have hw := fun d (hd : d ∈ tables_1) => atoms_spec (ws := Jvm.Cond.code x code maxLocals ret :: tables_1) hat d (List.mem_cons_of_mem _ hd)
  have hfit : Fit s := fun {y c} hc i hi => by
    obtain ⟨ha, rfl⟩ := Array.getElem?_eq_some_iff.mp hc
    have q := List.all_eq_true.mp ((Array.all_eq_true_iff_forall_mem.mp hF) _ (Array.getElem_mem ha)) i (List.mem_range.mpr hi)
    simpa [Array.getElem?_eq_getElem hi] using q
  obtain ⟨hsets, hown0⟩ := atoms_of _ (rest_1_c_eq ▸ (show rest_1_c.before _ s = true from hrest))
  have hr0 := Cond.before_iff.mp hown0
  obtain ⟨i0, ei0⟩ := is_v u2
  obtain rfl : w0 = (.int i0) := Option.some.inj ei0
  obtain ⟨zc, ezc⟩ := is_v (Cond.before_iff.mp (hsets _ (List.mem_of_getElem? (i := 1) rfl)))
  have SCS := Sta.start ezc (Or.inl (hsets _ (List.mem_of_getElem? (i := 0) rfl)))
  have hzc : ¬ zc = 0 := fun q => by
    have h := not_v (Cond.before_iff.mp (hsets _ (List.mem_of_getElem? (i := 2) rfl)))
    rw [Cond.eq_ints ezc (Term.int_eval _), q] at h
    simp at h
  obtain ⟨fm, efm, rfm⟩ := isR_v (Cond.before_iff.mp (hsets _ (List.mem_of_getElem? (i := 8) rfl)))
  have SFM := Sta.start efm (Or.inl (hsets _ (List.mem_of_getElem? (i := 7) rfl)))
  obtain ⟨nn, hnn, hxv⟩ := Jvm.Free.SBG.negI_of i0
  obtain ⟨cA1, kA1, ist1, dg1, DG1, a1x, a1y, a1z, TB1, on1⟩ := own_ones (a := #[.int i0]) (s := s) (hsets _ (List.mem_of_getElem? (i := 10) rfl)) (hsets _ (List.mem_of_getElem? (i := 12) rfl)) (hsets _ (List.mem_of_getElem? (i := 13) rfl)) (hsets _ (List.mem_of_getElem? (i := 14) rfl)) (hw _ (List.mem_of_getElem? (i := 118) rfl)) (hw _ (List.mem_of_getElem? (i := 23) rfl))
  obtain ⟨cA2, kA2, ist2, dg2, DG2, a2x, a2y, a2z, TB2, on2⟩ := own_tens (a := #[.int i0]) (s := s) (hsets _ (List.mem_of_getElem? (i := 15) rfl)) (hsets _ (List.mem_of_getElem? (i := 17) rfl)) (hsets _ (List.mem_of_getElem? (i := 18) rfl)) (hsets _ (List.mem_of_getElem? (i := 19) rfl)) (hw _ (List.mem_of_getElem? (i := 118) rfl)) (hw _ (List.mem_of_getElem? (i := 23) rfl))
  obtain rfl : cA2 = cA1 := Option.some.inj (a2x.symm.trans a1x)
  obtain rfl : kA2 = kA1 := Option.some.inj (a2y.symm.trans a1y)
  obtain rfl : ist1 = ist2 := Option.some.inj (a1z.symm.trans a2z)
  have hst : l.stackTraces = true := by unfold Launch.stackTraces; rw [hfl]; decide
  obtain ⟨ua, _, eua, -⟩ := Term.length_spec (Cond.eq_int (hsets _ (List.mem_of_getElem? (i := 29) rfl)) rfl)
  have SU := Sta.start eua (Or.inl (hsets _ (List.mem_of_getElem? (i := 26) rfl)))
  obtain ⟨uz, euz⟩ := exa_v (Cond.before_iff.mp (hsets _ (List.mem_of_getElem? (i := 33) rfl)))
  have SV := Sta.start euz (Or.inl (hsets _ (List.mem_of_getElem? (i := 31) rfl)))
  obtain ⟨oe, eoe⟩ := exa_v (Cond.before_iff.mp (hsets _ (List.mem_of_getElem? (i := 42) rfl)))
  have EE := Exa.start eoe (Cond.before_iff.mp (hsets _ (List.mem_of_getElem? (i := 42) rfl)))
  have SE := Sta.start eoe (Or.inl (hsets _ (List.mem_of_getElem? (i := 41) rfl)))
  have FE := own_fldN eoe (Cond.before_iff.mp (hsets _ (List.mem_of_getElem? (i := 43) rfl)))
  have CH0 : CHv s own_EL s.vm s.heap := CHv.start (own_EW hw) (fun p hp => hcalls.2.2.1 p (own_sub' p hp)) (hsets _ (List.mem_of_getElem? (i := 2) rfl)) (hw _ (List.mem_of_getElem? (i := 23) rfl)) (hw _ (List.mem_of_getElem? (i := 29) rfl))
  obtain ⟨n, o, h1, h2, h3, _, L, rfl, ⟨rfl, N⟩, hq⟩ := own_rm0 l s _ hw tables_1 i0 zc fm nn ist1 dg1 dg2 DG1 DG2 oe ua uz s.heap s.heap.size (Nat.le_refl _) (Old.start s) SCS hzc SFM rfm hnn hxv TB1 TB2 on1 on2 hst SU SV SE EE FE p e ha hc hk s m _ below hf ((Spec.applies_iff_loose hf).mp happ).1 ⟨rfl, State.Warmed39.refl s, rfl, CH0⟩ ⟨MethodsKnown_of_tablesKnown hcalls.2.1, FramesKnown_of_framesKnown hcalls.1 hf⟩
  refine ⟨n, _, h1, h2, h3, hpost _ _ _ _ _ _ ⟨Cond.after_iff.mpr rfl, Cond.after_iff.mpr (eq_i res_at (Term.int_eval (1)) rfl), trivial⟩ ⟨hq.1, hq.2.1, hq.2.2.1, (hq.2.2.2.sift fun y hy => Or.inr (N y hy)).mono (by decide) (by decide)⟩⟩
theorem main_1_1 : Claimed_1_1 := own_comes fun _ _ _ _ _ _ h hF => ⟨h.1, hF⟩
theorem main_1_2 : Claimed_1_2 := own_comes fun _ _ _ _ _ _ h hF => ⟨h.2.1, hF⟩
end Jvm.Pilot.@@N@@
namespace Jvm.Pilot.@@N@@
open Jvm Jvm.ClassFile Sem Op Lib Jvm.Free Jvm.Stand Jvm.Pilot.@@N@@.Jvm.D
/-! MADE BY PROGRAM (witnessworld.py) out of the Statement's table words and the real class files: 44 classes; the members and pool entries that the words name. The judged class is class 1, her method 1. -/
namespace start1
open Jvm.ClassFile
def u (s : String) : CpInfo := .utf8 (stringToUtf16 s)
/-- a pool by its gaps: so many unusable entries, then the entry; so many at the end -/
def gap : Nat → List CpInfo → List CpInfo
  | 0, r => r
  | n + 1, r => .unusable :: gap n r
def poolList (es : List (Nat × CpInfo)) (last : Nat) : List CpInfo := es.foldr (fun e r => gap e.1 (e.2 :: r)) (gap last [])
def pool (es : List (Nat × CpInfo)) (last : Nat) : Array CpInfo := ⟨poolList es last⟩
def fileOf (pool : Array CpInfo) (this : Nat) (attrs : Array Attribute := #[]) (ms : Array MethodInfo := #[]) (fl : Nat := 33) (sup : Nat := 0) (ifs : Array Nat := #[]) (fds : Array FieldInfo := #[]) : ClassFile where
  minorVersion := 0
  majorVersion := 65
  constantPool := pool
  accessFlags := fl
  thisClass := this
  superClass := sup
  interfaces := ifs
  fields := fds
  methods := ms
  attributes := attrs
def plain (name : String) (sup : Option ClassId) : Class where
  name := name
  kind := .ordinary
  loader := none
  accessFlags := 33
  super := sup
  interfaces := #[]
  cf := none
  fields := #[]
  methods := #[]
  instanceTypes := #[]
  staticTypes := #[]
  resolved := #[]
  callSites := []
  init := .initialized
  statics := none
  mirror := none

def pool0 : Array CpInfo := pool [(5, u "<init>"), (0, u "()V"), (1, .class_ 10), (1, u "java/lang/Object")] 113

def k0c0 : Code := { maxStack := 0, maxLocals := 1, code := object_method_1_code, exceptionTable := #[], attributes := #[] }
def k0m0 : Method := { name := "<init>", desc := "()V", sig := { parameters := [], returnType := none }, accessFlags := 1, code := some k0c0 }
/-- java/lang/Object -/
def k0 : Class := { plain "java/lang/Object" none with
  accessFlags := 33
  interfaces := #[]
  cf := some (fileOf pool0 8 #[] #[{ accessFlags := 1, nameIndex := 5, descriptorIndex := 6, attributes := #[] }] 33 0 #[] #[])
  fields := #[]
  methods := #[k0m0]
  instanceTypes := #[]
  staticTypes := #[]
  resolved := Array.replicate 124 none
  statics := none }

def pool1 : Array CpInfo := pool [(2, .class_ 4), (1, u "java/lang/Object"), (0, u "<init>"), (0, u "()V"), (0, .methodref 8 9), (0, .class_ 10), (0, .nameAndType 11 12), (0, u "com/example/rollbook/rollbook/http/ApiException"), (0, u "bodyTooLarge"), (0, u "(I)Lcom/example/rollbook/rollbook/http/ApiException;"), (0, .methodref 8 14), (0, .nameAndType 15 16), (0, u "status"), (0, u "()I"), (0, .methodref 8 18), (0, .nameAndType 19 20), (0, u "allow"), (0, u "()Ljava/util/Optional;"), (0, .methodref 22 23), (0, .class_ 24), (0, .nameAndType 25 26), (0, u "java/util/Optional"), (0, u "isPresent"), (0, u "()Z"), (0, .methodref 8 28), (0, .nameAndType 29 30), (0, u "getMessage"), (0, u "()Ljava/lang/String;"), (0, .methodref 32 33), (0, .class_ 34), (0, .nameAndType 35 36), (0, u "com/example/rollbook/rollbook/http/ApiExceptionBodyTooLargePinLaw"), (0, u "digits"), (0, u "(J)I"), (0, .methodref 38 39), (0, .class_ 40), (0, .nameAndType 41 16), (0, u "java/lang/String"), (0, u "length"), (0, .string 43), (0, u "The requ"), (0, .methodref 32 45), (0, .nameAndType 46 47), (0, u "has"), (0, u "(Ljava/lang/String;ILjava/lang/String;)Z"), (0, .string 49), (0, u "est body"), (0, .string 51), (0, u " is long"), (0, .string 53), (0, u "er than "), (0, .methodref 38 55), (0, .nameAndType 56 57), (0, u "charAt"), (0, u "(I)C"), (0, .long 10), (1, .long 100), (1, .long 1000), (1, .long 10000), (1, .long 100000), (1, .long 1000000), (1, .long 10000000), (1, .long 100000000), (1, .long 1000000000), (1, .methodref 32 77), (0, .nameAndType 78 79), (0, u "dig"), (0, u "(Ljava/lang/String;IJII[J)Z"), (0, .string 81), (0, u " bytes"), (0, .long 48), (1, .methodref 32 85), (0, .nameAndType 86 87), (0, u "at"), (0, u "(Ljava/lang/String;ILjava/lang/String;I)Z"), (2, u "law"), (0, u "(I)Z")] 5

def k1m0 : Method := { name := "<init>", desc := "()V", sig := { parameters := [], returnType := none }, accessFlags := 1, code := none }
def k1c1 : Code := { maxStack := 7, maxLocals := 13, code := code, exceptionTable := #[], attributes := #[] }
def k1m1 : Method := { name := "law", desc := "(I)Z", sig := { parameters := [.int], returnType := some .boolean }, accessFlags := 9, code := some k1c1 }
def k1c2 : Code := { maxStack := 4, maxLocals := 2, code := method_3_code, exceptionTable := #[], attributes := #[] }
def k1m2 : Method := { name := "digits", desc := "(J)I", sig := { parameters := [.long], returnType := some .int }, accessFlags := 10, code := some k1c2 }
def k1c3 : Code := { maxStack := 5, maxLocals := 10, code := method_4_code, exceptionTable := #[], attributes := #[] }
def k1m3 : Method := { name := "dig", desc := "(Ljava/lang/String;IJII[J)Z", sig := { parameters := [(.object "java/lang/String"), .int, .long, .int, .int, (.array .long)], returnType := some .boolean }, accessFlags := 10, code := some k1c3 }
def k1c4 : Code := { maxStack := 4, maxLocals := 3, code := method_5_code, exceptionTable := #[], attributes := #[] }
def k1m4 : Method := { name := "has", desc := "(Ljava/lang/String;ILjava/lang/String;)Z", sig := { parameters := [(.object "java/lang/String"), .int, (.object "java/lang/String")], returnType := some .boolean }, accessFlags := 10, code := some k1c4 }
def k1c5 : Code := { maxStack := 3, maxLocals := 5, code := method_6_code, exceptionTable := #[], attributes := #[] }
def k1m5 : Method := { name := "at", desc := "(Ljava/lang/String;ILjava/lang/String;I)Z", sig := { parameters := [(.object "java/lang/String"), .int, (.object "java/lang/String"), .int], returnType := some .boolean }, accessFlags := 10, code := some k1c5 }
/-- com/example/rollbook/rollbook/http/ApiExceptionBodyTooLargePinLaw -/
def k1 : Class := { plain "com/example/rollbook/rollbook/http/ApiExceptionBodyTooLargePinLaw" (some 0) with
  accessFlags := 49
  interfaces := #[]
  cf := some (fileOf pool1 32 #[] #[{ accessFlags := 1, nameIndex := 5, descriptorIndex := 6, attributes := #[] }, { accessFlags := 9, nameIndex := 90, descriptorIndex := 91, attributes := #[] }, { accessFlags := 10, nameIndex := 35, descriptorIndex := 36, attributes := #[] }, { accessFlags := 10, nameIndex := 78, descriptorIndex := 79, attributes := #[] }, { accessFlags := 10, nameIndex := 46, descriptorIndex := 47, attributes := #[] }, { accessFlags := 10, nameIndex := 86, descriptorIndex := 87, attributes := #[] }] 49 2 #[] #[])
  fields := #[]
  methods := #[k1m0, k1m1, k1m2, k1m3, k1m4, k1m5]
  instanceTypes := #[]
  staticTypes := #[]
  resolved := Array.replicate 97 none
  statics := none }

def pool2 : Array CpInfo := pool [(1, .class_ 2), (0, u "java/io/Serializable"), (0, .class_ 4), (0, u "java/lang/Object")] 2

/-- java/io/Serializable -/
def k2 : Class := { plain "java/io/Serializable" (some 0) with
  accessFlags := 1537
  interfaces := #[]
  cf := some (fileOf pool2 1 #[] #[] 1537 3 #[] #[])
  fields := #[]
  methods := #[]
  instanceTypes := #[]
  staticTypes := #[]
  resolved := Array.replicate 7 none
  statics := none }

def pool3 : Array CpInfo := pool [(1, .methodref 2 3), (0, .class_ 4), (0, .nameAndType 5 6), (0, u "java/lang/Object"), (0, u "<init>"), (0, u "()V"), (0, .fieldref 8 9), (0, .class_ 10), (0, .nameAndType 11 12), (0, u "java/lang/Throwable"), (0, u "cause"), (0, u "Ljava/lang/Throwable;"), (0, .fieldref 8 14), (0, .nameAndType 15 16), (0, u "UNASSIGNED_STACK"), (0, u "[Ljava/lang/StackTraceElement;"), (0, .fieldref 8 18), (0, .nameAndType 19 16), (0, u "stackTrace"), (0, .fieldref 8 21), (0, .nameAndType 22 23), (0, u "SUPPRESSED_SENTINEL"), (0, u "Ljava/util/List;"), (0, .fieldref 8 25), (0, .nameAndType 26 23), (0, u "suppressedExceptions"), (0, .methodref 8 28), (0, .nameAndType 29 30), (0, u "fillInStackTrace"), (0, u "()Ljava/lang/Throwable;"), (0, .fieldref 8 32), (0, .nameAndType 33 34), (0, u "detailMessage"), (0, u "Ljava/lang/String;"), (3, u "()Ljava/lang/String;"), (2, u "getMessage"), (51, .class_ 94), (0, u "java/lang/Throwable$WrappedPrintStream"), (6, .class_ 103), (1, u "java/lang/Throwable$PrintStreamOrWriter"), (61, u "$assertionsDisabled"), (0, u "Z"), (26, .class_ 194), (0, u "java/lang/Throwable$WrappedPrintWriter"), (3, .fieldref 8 199), (0, .nameAndType 200 201), (0, u "backtrace"), (0, u "Ljava/lang/Object;"), (0, .methodref 8 203), (0, .nameAndType 29 204), (0, u "(I)Ljava/lang/Throwable;"), (6, u "depth"), (0, u "I"), (10, u "(Ljava/lang/String;)V"), (45, .class_ 271), (1, u "java/lang/Throwable$SentinelHolder"), (32, u "EMPTY_THROWABLE_ARRAY"), (0, u "[Ljava/lang/Throwable;"), (12, .class_ 319), (0, u "java/io/Serializable"), (0, u "serialVersionUID"), (0, u "J"), (5, u "NULL_CAUSE_MESSAGE"), (0, u "SELF_SUPPRESSION_MESSAGE"), (0, u "CAUSE_CAPTION"), (0, u "SUPPRESSED_CAPTION")] 73

def k3c0 : Code := { maxStack := 2, maxLocals := 1, code := jdk_78_method_1_code, exceptionTable := #[], attributes := #[] }
def k3m0 : Method := { name := "<init>", desc := "()V", sig := { parameters := [], returnType := none }, accessFlags := 1, code := some k3c0 }
def k3c1 : Code := { maxStack := 2, maxLocals := 2, code := jdk_78_method_2_code, exceptionTable := #[], attributes := #[] }
def k3m1 : Method := { name := "<init>", desc := "(Ljava/lang/String;)V", sig := { parameters := [(.object "java/lang/String")], returnType := none }, accessFlags := 1, code := some k3c1 }
def k3c2 : Code := { maxStack := 1, maxLocals := 1, code := jdk_78_method_6_code, exceptionTable := #[], attributes := #[] }
def k3m2 : Method := { name := "getMessage", desc := "()Ljava/lang/String;", sig := { parameters := [], returnType := some (.object "java/lang/String") }, accessFlags := 1, code := some k3c2 }
def k3c3 : Code := { maxStack := 2, maxLocals := 1, code := jdk_78_method_18_code, exceptionTable := #[], attributes := #[] }
def k3m3 : Method := { name := "fillInStackTrace", desc := "()Ljava/lang/Throwable;", sig := { parameters := [], returnType := some (.object "java/lang/Throwable") }, accessFlags := 33, code := some k3c3 }
def k3m4 : Method := { name := "fillInStackTrace", desc := "(I)Ljava/lang/Throwable;", sig := { parameters := [.int], returnType := some (.object "java/lang/Throwable") }, accessFlags := 258, code := none }
/-- java/lang/Throwable -/
def k3 : Class := { plain "java/lang/Throwable" (some 0) with
  accessFlags := 33
  interfaces := #[2]
  cf := some (fileOf pool3 8 #[.nestMembers #[193, 93, 101, 269]] #[{ accessFlags := 1, nameIndex := 5, descriptorIndex := 6, attributes := #[] }, { accessFlags := 1, nameIndex := 5, descriptorIndex := 223, attributes := #[] }, { accessFlags := 1, nameIndex := 41, descriptorIndex := 38, attributes := #[] }, { accessFlags := 33, nameIndex := 29, descriptorIndex := 30, attributes := #[] }, { accessFlags := 258, nameIndex := 29, descriptorIndex := 204, attributes := #[] }] 33 2 #[318] #[{ accessFlags := 26, nameIndex := 320, descriptorIndex := 321, attributes := #[] }, { accessFlags := 130, nameIndex := 200, descriptorIndex := 201, attributes := #[] }, { accessFlags := 2, nameIndex := 33, descriptorIndex := 34, attributes := #[] }, { accessFlags := 26, nameIndex := 15, descriptorIndex := 16, attributes := #[] }, { accessFlags := 2, nameIndex := 11, descriptorIndex := 12, attributes := #[] }, { accessFlags := 2, nameIndex := 19, descriptorIndex := 16, attributes := #[] }, { accessFlags := 130, nameIndex := 211, descriptorIndex := 212, attributes := #[] }, { accessFlags := 26, nameIndex := 22, descriptorIndex := 23, attributes := #[] }, { accessFlags := 2, nameIndex := 26, descriptorIndex := 23, attributes := #[] }, { accessFlags := 26, nameIndex := 327, descriptorIndex := 34, attributes := #[] }, { accessFlags := 26, nameIndex := 328, descriptorIndex := 34, attributes := #[] }, { accessFlags := 26, nameIndex := 329, descriptorIndex := 34, attributes := #[] }, { accessFlags := 26, nameIndex := 330, descriptorIndex := 34, attributes := #[] }, { accessFlags := 26, nameIndex := 304, descriptorIndex := 305, attributes := #[] }, { accessFlags := 4120, nameIndex := 165, descriptorIndex := 166, attributes := #[] }])
  fields := #[{ name := "serialVersionUID", type := .long, accessFlags := 26, slot := 0, constantValue := 0 }, { name := "backtrace", type := (.object "java/lang/Object"), accessFlags := 130, slot := 0, constantValue := 0 }, { name := "detailMessage", type := (.object "java/lang/String"), accessFlags := 2, slot := 1, constantValue := 0 }, { name := "UNASSIGNED_STACK", type := (.array (.object "java/lang/StackTraceElement")), accessFlags := 26, slot := 1, constantValue := 0 }, { name := "cause", type := (.object "java/lang/Throwable"), accessFlags := 2, slot := 2, constantValue := 0 }, { name := "stackTrace", type := (.array (.object "java/lang/StackTraceElement")), accessFlags := 2, slot := 3, constantValue := 0 }, { name := "depth", type := .int, accessFlags := 130, slot := 4, constantValue := 0 }, { name := "SUPPRESSED_SENTINEL", type := (.object "java/util/List"), accessFlags := 26, slot := 2, constantValue := 0 }, { name := "suppressedExceptions", type := (.object "java/util/List"), accessFlags := 2, slot := 5, constantValue := 0 }, { name := "NULL_CAUSE_MESSAGE", type := (.object "java/lang/String"), accessFlags := 26, slot := 3, constantValue := 0 }, { name := "SELF_SUPPRESSION_MESSAGE", type := (.object "java/lang/String"), accessFlags := 26, slot := 4, constantValue := 0 }, { name := "CAUSE_CAPTION", type := (.object "java/lang/String"), accessFlags := 26, slot := 5, constantValue := 0 }, { name := "SUPPRESSED_CAPTION", type := (.object "java/lang/String"), accessFlags := 26, slot := 6, constantValue := 0 }, { name := "EMPTY_THROWABLE_ARRAY", type := (.array (.object "java/lang/Throwable")), accessFlags := 26, slot := 7, constantValue := 0 }, { name := "$assertionsDisabled", type := .boolean, accessFlags := 4120, slot := 8, constantValue := 0 }]
  methods := #[k3m0, k3m1, k3m2, k3m3, k3m4]
  instanceTypes := #[(.object "java/lang/Object"), (.object "java/lang/String"), (.object "java/lang/Throwable"), (.array (.object "java/lang/StackTraceElement")), .int, (.object "java/util/List")]
  staticTypes := #[.long, (.array (.object "java/lang/StackTraceElement")), (.object "java/util/List"), (.object "java/lang/String"), (.object "java/lang/String"), (.object "java/lang/String"), (.object "java/lang/String"), (.array (.object "java/lang/Throwable")), .boolean]
  resolved := Array.replicate 404 none
  statics := some 0 }

def pool4 : Array CpInfo := pool [(2, .class_ 4), (1, u "java/lang/Throwable"), (0, u "<init>"), (0, u "()V"), (0, .methodref 2 8), (0, .nameAndType 5 9), (0, u "(Ljava/lang/String;)V"), (9, .class_ 20), (0, u "java/lang/Exception"), (0, u "serialVersionUID"), (0, u "J")] 17

def k4m0 : Method := { name := "<init>", desc := "()V", sig := { parameters := [], returnType := none }, accessFlags := 1, code := none }
def k4c1 : Code := { maxStack := 2, maxLocals := 2, code := jdk_59_method_2_code, exceptionTable := #[], attributes := #[] }
def k4m1 : Method := { name := "<init>", desc := "(Ljava/lang/String;)V", sig := { parameters := [(.object "java/lang/String")], returnType := none }, accessFlags := 1, code := some k4c1 }
/-- java/lang/Exception -/
def k4 : Class := { plain "java/lang/Exception" (some 3) with
  accessFlags := 33
  interfaces := #[]
  cf := some (fileOf pool4 19 #[] #[{ accessFlags := 1, nameIndex := 5, descriptorIndex := 6, attributes := #[] }, { accessFlags := 1, nameIndex := 5, descriptorIndex := 9, attributes := #[] }] 33 2 #[] #[{ accessFlags := 24, nameIndex := 21, descriptorIndex := 22, attributes := #[] }])
  fields := #[{ name := "serialVersionUID", type := .long, accessFlags := 24, slot := 0, constantValue := 0 }]
  methods := #[k4m0, k4m1]
  instanceTypes := #[(.object "java/lang/Object"), (.object "java/lang/String"), (.object "java/lang/Throwable"), (.array (.object "java/lang/StackTraceElement")), .int, (.object "java/util/List")]
  staticTypes := #[.long]
  resolved := Array.replicate 40 none
  statics := none }

def pool5 : Array CpInfo := pool [(2, .class_ 4), (1, u "java/lang/Exception"), (0, u "<init>"), (0, u "()V"), (0, .methodref 2 8), (0, .nameAndType 5 9), (0, u "(Ljava/lang/String;)V"), (9, .class_ 20), (0, u "java/lang/RuntimeException"), (0, u "serialVersionUID"), (0, u "J")] 17

def k5m0 : Method := { name := "<init>", desc := "()V", sig := { parameters := [], returnType := none }, accessFlags := 1, code := none }
def k5c1 : Code := { maxStack := 2, maxLocals := 2, code := jdk_58_method_2_code, exceptionTable := #[], attributes := #[] }
def k5m1 : Method := { name := "<init>", desc := "(Ljava/lang/String;)V", sig := { parameters := [(.object "java/lang/String")], returnType := none }, accessFlags := 1, code := some k5c1 }
/-- java/lang/RuntimeException -/
def k5 : Class := { plain "java/lang/RuntimeException" (some 4) with
  accessFlags := 33
  interfaces := #[]
  cf := some (fileOf pool5 19 #[] #[{ accessFlags := 1, nameIndex := 5, descriptorIndex := 6, attributes := #[] }, { accessFlags := 1, nameIndex := 5, descriptorIndex := 9, attributes := #[] }] 33 2 #[] #[{ accessFlags := 24, nameIndex := 21, descriptorIndex := 22, attributes := #[] }])
  fields := #[{ name := "serialVersionUID", type := .long, accessFlags := 24, slot := 0, constantValue := 0 }]
  methods := #[k5m0, k5m1]
  instanceTypes := #[(.object "java/lang/Object"), (.object "java/lang/String"), (.object "java/lang/Throwable"), (.array (.object "java/lang/StackTraceElement")), .int, (.object "java/util/List")]
  staticTypes := #[.long]
  resolved := Array.replicate 40 none
  statics := none }

def pool6 : Array CpInfo := pool [(1, .methodref 2 3), (0, .class_ 4), (0, .nameAndType 5 6), (0, u "java/lang/RuntimeException"), (0, u "<init>"), (0, u "(Ljava/lang/String;)V"), (0, .fieldref 8 9), (0, .class_ 10), (0, .nameAndType 11 12), (0, u "com/example/rollbook/rollbook/http/ApiException"), (0, u "status"), (0, u "I"), (0, .fieldref 8 14), (0, .nameAndType 15 16), (0, u "allow"), (0, u "Ljava/lang/String;"), (8, .class_ 26), (0, u "java/lang/StringBuilder"), (0, .methodref 25 28), (0, .nameAndType 5 29), (0, u "()V"), (2, .methodref 25 33), (0, .nameAndType 34 35), (0, u "append"), (0, u "(Ljava/lang/String;)Ljava/lang/StringBuilder;"), (2, .methodref 25 39), (0, .nameAndType 40 41), (0, u "toString"), (0, u "()Ljava/lang/String;"), (0, .methodref 8 43), (0, .nameAndType 5 44), (0, u "(ILjava/lang/String;Ljava/lang/String;)V"), (0, .string 46), (0, u "The request body is longer than "), (0, .methodref 25 48), (0, .nameAndType 34 49), (0, u "(I)Ljava/lang/StringBuilder;"), (0, .string 51), (0, u " bytes"), (0, .methodref 53 54), (0, .class_ 55), (0, .nameAndType 56 57), (0, u "java/util/Optional"), (0, u "ofNullable"), (0, u "(Ljava/lang/Object;)Ljava/util/Optional;"), (0, u "serialVersionUID"), (0, u "J"), (7, u "bodyTooLarge"), (0, u "(I)Lcom/example/rollbook/rollbook/http/ApiException;"), (0, u "()I"), (0, u "()Ljava/util/Optional;")] 4

def k6c0 : Code := { maxStack := 2, maxLocals := 4, code := prog_50_method_1_code, exceptionTable := #[], attributes := #[] }
def k6m0 : Method := { name := "<init>", desc := "(ILjava/lang/String;Ljava/lang/String;)V", sig := { parameters := [.int, (.object "java/lang/String"), (.object "java/lang/String")], returnType := none }, accessFlags := 2, code := some k6c0 }
def k6c1 : Code := { maxStack := 5, maxLocals := 1, code := prog_50_method_3_code, exceptionTable := #[], attributes := #[] }
def k6m1 : Method := { name := "bodyTooLarge", desc := "(I)Lcom/example/rollbook/rollbook/http/ApiException;", sig := { parameters := [.int], returnType := some (.object "com/example/rollbook/rollbook/http/ApiException") }, accessFlags := 8, code := some k6c1 }
def k6c2 : Code := { maxStack := 1, maxLocals := 1, code := prog_50_method_4_code, exceptionTable := #[], attributes := #[] }
def k6m2 : Method := { name := "status", desc := "()I", sig := { parameters := [], returnType := some .int }, accessFlags := 0, code := some k6c2 }
def k6c3 : Code := { maxStack := 1, maxLocals := 1, code := prog_50_method_5_code, exceptionTable := #[], attributes := #[] }
def k6m3 : Method := { name := "allow", desc := "()Ljava/util/Optional;", sig := { parameters := [], returnType := some (.object "java/util/Optional") }, accessFlags := 0, code := some k6c3 }
/-- com/example/rollbook/rollbook/http/ApiException -/
def k6 : Class := { plain "com/example/rollbook/rollbook/http/ApiException" (some 5) with
  accessFlags := 32
  interfaces := #[]
  cf := some (fileOf pool6 8 #[] #[{ accessFlags := 2, nameIndex := 5, descriptorIndex := 44, attributes := #[] }, { accessFlags := 8, nameIndex := 67, descriptorIndex := 68, attributes := #[] }, { accessFlags := 0, nameIndex := 11, descriptorIndex := 69, attributes := #[] }, { accessFlags := 0, nameIndex := 15, descriptorIndex := 70, attributes := #[] }] 32 2 #[] #[{ accessFlags := 26, nameIndex := 58, descriptorIndex := 59, attributes := #[] }, { accessFlags := 18, nameIndex := 11, descriptorIndex := 12, attributes := #[] }, { accessFlags := 18, nameIndex := 15, descriptorIndex := 16, attributes := #[] }])
  fields := #[{ name := "serialVersionUID", type := .long, accessFlags := 26, slot := 0, constantValue := 0 }, { name := "status", type := .int, accessFlags := 18, slot := 6, constantValue := 0 }, { name := "allow", type := (.object "java/lang/String"), accessFlags := 18, slot := 7, constantValue := 0 }]
  methods := #[k6m0, k6m1, k6m2, k6m3]
  instanceTypes := #[(.object "java/lang/Object"), (.object "java/lang/String"), (.object "java/lang/Throwable"), (.array (.object "java/lang/StackTraceElement")), .int, (.object "java/util/List"), .int, (.object "java/lang/String")]
  staticTypes := #[.long]
  resolved := Array.replicate 75 none
  statics := none }

def pool7 : Array CpInfo := pool [(1, .class_ 2), (0, u "java/lang/Appendable"), (0, .class_ 4), (0, u "java/lang/Object")] 9

/-- java/lang/Appendable -/
def k7 : Class := { plain "java/lang/Appendable" (some 0) with
  accessFlags := 1537
  interfaces := #[]
  cf := some (fileOf pool7 1 #[] #[] 1537 3 #[] #[])
  fields := #[]
  methods := #[]
  instanceTypes := #[]
  staticTypes := #[]
  resolved := Array.replicate 14 none
  statics := none }

def pool8 : Array CpInfo := pool [(2, .class_ 4), (1, u "java/lang/CharSequence"), (42, .class_ 48), (0, u "java/lang/CharSequence$1CodePointIterator"), (10, .class_ 60), (0, u "java/lang/CharSequence$1CharIterator"), (5, .class_ 67), (0, u "java/lang/Object")] 63

/-- java/lang/CharSequence -/
def k8 : Class := { plain "java/lang/CharSequence" (some 0) with
  accessFlags := 1537
  interfaces := #[]
  cf := some (fileOf pool8 2 #[.nestMembers #[47, 59]] #[] 1537 66 #[] #[])
  fields := #[]
  methods := #[]
  instanceTypes := #[]
  staticTypes := #[]
  resolved := Array.replicate 131 none
  statics := none }

def pool9 : Array CpInfo := pool [(1, .class_ 2), (0, u "java/lang/String"), (0, .methodref 4 5), (0, .class_ 6), (0, .nameAndType 7 8), (0, u "java/lang/Object"), (0, u "<init>"), (0, u "()V"), (1, .class_ 12), (1, u "java/lang/AbstractStringBuilder"), (0, u "EMPTYVALUE"), (0, u "[B"), (0, .fieldref 10 16), (0, .nameAndType 17 14), (0, u "value"), (0, .fieldref 1 19), (0, .nameAndType 20 21), (0, u "COMPACT_STRINGS"), (0, u "Z"), (0, .fieldref 10 23), (0, .nameAndType 24 25), (0, u "coder"), (0, u "B"), (6, .methodref 1 33), (0, .nameAndType 34 35), (0, u "length"), (0, u "()I"), (0, .class_ 37), (0, u "java/lang/Integer"), (1, .integer 2147483647), (0, .methodref 1 41), (0, .nameAndType 24 42), (0, u "()B"), (2, u "append"), (0, u "(Ljava/lang/String;)Ljava/lang/AbstractStringBuilder;"), (1, .class_ 49), (0, u "java/lang/CharSequence"), (19, u "(Ljava/lang/String;)V"), (5, u "maybeLatin1"), (3, .fieldref 10 80), (0, .nameAndType 81 82), (0, u "count"), (0, u "I"), (0, .methodref 10 84), (0, .nameAndType 85 86), (0, u "isLatin1"), (0, u "()Z"), (13, .methodref 10 101), (0, .nameAndType 102 103), (0, u "ensureCapacityInternal"), (0, u "(I)V"), (0, .methodref 10 105), (0, .nameAndType 106 107), (0, u "newCapacity"), (0, u "(I)I"), (0, .methodref 109 110), (0, .class_ 111), (0, .nameAndType 112 113), (0, u "java/util/Arrays"), (0, u "copyOf"), (0, u "([BI)[B"), (0, .methodref 115 116), (0, .class_ 117), (0, .nameAndType 118 119), (0, u "jdk/internal/util/ArraysSupport"), (0, u "newLength"), (0, u "(III)I"), (68, u "getChars"), (19, .methodref 10 209), (0, .nameAndType 210 211), (0, u "putStringAt"), (0, u "(ILjava/lang/String;)V"), (5, u "inflateIfNeededFor"), (2, .nameAndType 221 222), (0, u "getBytes"), (0, u "([BIB)V"), (22, .methodref 36 246), (0, .nameAndType 247 107), (0, u "stringSize"), (0, .methodref 36 249), (0, .nameAndType 188 250), (0, u "(II[B)I"), (146, .methodref 10 398), (0, .nameAndType 217 69), (0, .methodref 1 220), (3, u "()[B"), (40, .class_ 445), (0, u "java/lang/Appendable"), (65, u "(I)Ljava/lang/AbstractStringBuilder;"), (40, u "getValue")] 56

def k9m0 : Method := { name := "<init>", desc := "()V", sig := { parameters := [], returnType := none }, accessFlags := 0, code := none }
def k9c1 : Code := { maxStack := 2, maxLocals := 2, code := jdk_68_method_2_code, exceptionTable := #[], attributes := #[] }
def k9m1 : Method := { name := "<init>", desc := "(I)V", sig := { parameters := [.int], returnType := none }, accessFlags := 0, code := some k9c1 }
def k9c2 : Code := { maxStack := 1, maxLocals := 1, code := jdk_68_method_6_code, exceptionTable := #[], attributes := #[] }
def k9m2 : Method := { name := "length", desc := "()I", sig := { parameters := [], returnType := some .int }, accessFlags := 1, code := some k9c2 }
def k9c3 : Code := { maxStack := 4, maxLocals := 3, code := jdk_68_method_9_code, exceptionTable := #[], attributes := #[] }
def k9m3 : Method := { name := "ensureCapacityInternal", desc := "(I)V", sig := { parameters := [.int], returnType := none }, accessFlags := 2, code := some k9c3 }
def k9c4 : Code := { maxStack := 5, maxLocals := 6, code := jdk_68_method_10_code, exceptionTable := #[], attributes := #[] }
def k9m4 : Method := { name := "newCapacity", desc := "(I)I", sig := { parameters := [.int], returnType := some .int }, accessFlags := 2, code := some k9c4 }
def k9c5 : Code := { maxStack := 3, maxLocals := 3, code := jdk_68_method_22_code, exceptionTable := #[], attributes := #[] }
def k9m5 : Method := { name := "append", desc := "(Ljava/lang/String;)Ljava/lang/AbstractStringBuilder;", sig := { parameters := [(.object "java/lang/String")], returnType := some (.object "java/lang/AbstractStringBuilder") }, accessFlags := 1, code := some k9c5 }
def k9c6 : Code := { maxStack := 4, maxLocals := 4, code := jdk_68_method_32_code, exceptionTable := #[], attributes := #[] }
def k9m6 : Method := { name := "append", desc := "(I)Ljava/lang/AbstractStringBuilder;", sig := { parameters := [.int], returnType := some (.object "java/lang/AbstractStringBuilder") }, accessFlags := 1, code := some k9c6 }
def k9c7 : Code := { maxStack := 1, maxLocals := 1, code := jdk_68_method_64_code, exceptionTable := #[], attributes := #[] }
def k9m7 : Method := { name := "getValue", desc := "()[B", sig := { parameters := [], returnType := some (.array .byte) }, accessFlags := 16, code := some k9c7 }
def k9c8 : Code := { maxStack := 1, maxLocals := 1, code := jdk_68_method_68_code, exceptionTable := #[], attributes := #[] }
def k9m8 : Method := { name := "isLatin1", desc := "()Z", sig := { parameters := [], returnType := some .boolean }, accessFlags := 16, code := some k9c8 }
def k9c9 : Code := { maxStack := 2, maxLocals := 2, code := jdk_68_method_71_code, exceptionTable := #[], attributes := #[] }
def k9m9 : Method := { name := "inflateIfNeededFor", desc := "(Ljava/lang/String;)V", sig := { parameters := [(.object "java/lang/String")], returnType := none }, accessFlags := 2, code := some k9c9 }
def k9c10 : Code := { maxStack := 4, maxLocals := 3, code := jdk_68_method_73_code, exceptionTable := #[], attributes := #[] }
def k9m10 : Method := { name := "putStringAt", desc := "(ILjava/lang/String;)V", sig := { parameters := [.int, (.object "java/lang/String")], returnType := none }, accessFlags := 2, code := some k9c10 }
/-- java/lang/AbstractStringBuilder -/
def k9 : Class := { plain "java/lang/AbstractStringBuilder" (some 0) with
  accessFlags := 1056
  interfaces := #[7, 8]
  cf := some (fileOf pool9 10 #[] #[{ accessFlags := 0, nameIndex := 7, descriptorIndex := 8, attributes := #[] }, { accessFlags := 0, nameIndex := 7, descriptorIndex := 103, attributes := #[] }, { accessFlags := 1, nameIndex := 34, descriptorIndex := 35, attributes := #[] }, { accessFlags := 2, nameIndex := 102, descriptorIndex := 103, attributes := #[] }, { accessFlags := 2, nameIndex := 106, descriptorIndex := 107, attributes := #[] }, { accessFlags := 1, nameIndex := 45, descriptorIndex := 46, attributes := #[] }, { accessFlags := 1, nameIndex := 45, descriptorIndex := 511, attributes := #[] }, { accessFlags := 16, nameIndex := 552, descriptorIndex := 403, attributes := #[] }, { accessFlags := 16, nameIndex := 85, descriptorIndex := 86, attributes := #[] }, { accessFlags := 2, nameIndex := 217, descriptorIndex := 69, attributes := #[] }, { accessFlags := 2, nameIndex := 210, descriptorIndex := 211, attributes := #[] }] 1056 4 #[444, 48] #[{ accessFlags := 0, nameIndex := 17, descriptorIndex := 14, attributes := #[] }, { accessFlags := 0, nameIndex := 24, descriptorIndex := 25, attributes := #[] }, { accessFlags := 0, nameIndex := 75, descriptorIndex := 21, attributes := #[] }, { accessFlags := 0, nameIndex := 81, descriptorIndex := 82, attributes := #[] }, { accessFlags := 26, nameIndex := 13, descriptorIndex := 14, attributes := #[] }])
  fields := #[{ name := "value", type := (.array .byte), accessFlags := 0, slot := 0, constantValue := 0 }, { name := "coder", type := .byte, accessFlags := 0, slot := 1, constantValue := 0 }, { name := "maybeLatin1", type := .boolean, accessFlags := 0, slot := 2, constantValue := 0 }, { name := "count", type := .int, accessFlags := 0, slot := 3, constantValue := 0 }, { name := "EMPTYVALUE", type := (.array .byte), accessFlags := 26, slot := 0, constantValue := 0 }]
  methods := #[k9m0, k9m1, k9m2, k9m3, k9m4, k9m5, k9m6, k9m7, k9m8, k9m9, k9m10]
  instanceTypes := #[(.array .byte), .byte, .boolean, .int]
  staticTypes := #[(.array .byte)]
  resolved := Array.replicate 609 none
  statics := none }

def pool10 : Array CpInfo := pool [(1, .class_ 2), (0, u "java/lang/Comparable"), (0, .class_ 4), (0, u "java/lang/Object")] 7

/-- java/lang/Comparable -/
def k10 : Class := { plain "java/lang/Comparable" (some 0) with
  accessFlags := 1537
  interfaces := #[]
  cf := some (fileOf pool10 1 #[] #[] 1537 3 #[] #[])
  fields := #[]
  methods := #[]
  instanceTypes := #[]
  staticTypes := #[]
  resolved := Array.replicate 12 none
  statics := none }

def pool11 : Array CpInfo := pool [(1, .methodref 2 3), (0, .class_ 4), (0, .nameAndType 5 6), (0, u "java/lang/AbstractStringBuilder"), (0, u "<init>"), (0, u "(I)V"), (11, .class_ 20), (1, u "java/lang/String"), (3, .class_ 26), (1, u "java/lang/StringBuilder"), (0, u "append"), (0, u "(Ljava/lang/String;)Ljava/lang/StringBuilder;"), (0, .methodref 2 30), (0, .nameAndType 27 31), (0, u "(Ljava/lang/String;)Ljava/lang/AbstractStringBuilder;"), (21, .methodref 2 54), (0, .nameAndType 27 55), (0, u "(I)Ljava/lang/AbstractStringBuilder;"), (81, .methodref 18 138), (0, .nameAndType 5 139), (0, u "(Ljava/lang/StringBuilder;)V"), (5, u "()V"), (10, u "()I"), (111, u "(I)Ljava/lang/StringBuilder;"), (74, .methodref 2 344), (0, .nameAndType 345 156), (0, u "length"), (3, .class_ 350), (0, u "java/lang/Appendable"), (0, .class_ 352), (0, u "java/io/Serializable"), (0, .class_ 354), (0, u "java/lang/Comparable"), (0, .class_ 356), (0, u "java/lang/CharSequence"), (0, u "serialVersionUID"), (0, u "J"), (40, u "toString"), (0, u "()Ljava/lang/String;")] 21

def k11c0 : Code := { maxStack := 2, maxLocals := 1, code := jdk_67_method_1_code, exceptionTable := #[], attributes := #[] }
def k11m0 : Method := { name := "<init>", desc := "()V", sig := { parameters := [], returnType := none }, accessFlags := 1, code := some k11c0 }
def k11c1 : Code := { maxStack := 2, maxLocals := 2, code := jdk_67_method_7_code, exceptionTable := #[], attributes := #[] }
def k11m1 : Method := { name := "append", desc := "(Ljava/lang/String;)Ljava/lang/StringBuilder;", sig := { parameters := [(.object "java/lang/String")], returnType := some (.object "java/lang/StringBuilder") }, accessFlags := 1, code := some k11c1 }
def k11c2 : Code := { maxStack := 2, maxLocals := 2, code := jdk_67_method_15_code, exceptionTable := #[], attributes := #[] }
def k11m2 : Method := { name := "append", desc := "(I)Ljava/lang/StringBuilder;", sig := { parameters := [.int], returnType := some (.object "java/lang/StringBuilder") }, accessFlags := 1, code := some k11c2 }
def k11c3 : Code := { maxStack := 3, maxLocals := 1, code := jdk_67_method_42_code, exceptionTable := #[], attributes := #[] }
def k11m3 : Method := { name := "toString", desc := "()Ljava/lang/String;", sig := { parameters := [], returnType := some (.object "java/lang/String") }, accessFlags := 1, code := some k11c3 }
def k11c4 : Code := { maxStack := 1, maxLocals := 1, code := jdk_67_method_93_code, exceptionTable := #[], attributes := #[] }
def k11m4 : Method := { name := "length", desc := "()I", sig := { parameters := [], returnType := some .int }, accessFlags := 4161, code := some k11c4 }
/-- java/lang/StringBuilder -/
def k11 : Class := { plain "java/lang/StringBuilder" (some 9) with
  accessFlags := 49
  interfaces := #[7, 2, 10, 8]
  cf := some (fileOf pool11 24 #[] #[{ accessFlags := 1, nameIndex := 5, descriptorIndex := 145, attributes := #[] }, { accessFlags := 1, nameIndex := 27, descriptorIndex := 28, attributes := #[] }, { accessFlags := 1, nameIndex := 27, descriptorIndex := 268, attributes := #[] }, { accessFlags := 1, nameIndex := 399, descriptorIndex := 400, attributes := #[] }, { accessFlags := 4161, nameIndex := 345, descriptorIndex := 156, attributes := #[] }] 49 2 #[349, 351, 353, 355] #[{ accessFlags := 24, nameIndex := 357, descriptorIndex := 358, attributes := #[] }])
  fields := #[{ name := "serialVersionUID", type := .long, accessFlags := 24, slot := 0, constantValue := 0 }]
  methods := #[k11m0, k11m1, k11m2, k11m3, k11m4]
  instanceTypes := #[(.array .byte), .byte, .boolean, .int]
  staticTypes := #[.long]
  resolved := Array.replicate 422 none
  statics := none }

def pool12 : Array CpInfo := pool [(1, .class_ 2), (0, u "java/lang/constant/Constable"), (0, .class_ 4), (0, u "java/lang/Object")] 6

/-- java/lang/constant/Constable -/
def k12 : Class := { plain "java/lang/constant/Constable" (some 0) with
  accessFlags := 1537
  interfaces := #[]
  cf := some (fileOf pool12 1 #[] #[] 1537 3 #[] #[])
  fields := #[]
  methods := #[]
  instanceTypes := #[]
  staticTypes := #[]
  resolved := Array.replicate 11 none
  statics := none }

def pool13 : Array CpInfo := pool [(1, .class_ 2), (0, u "java/lang/constant/ConstantDesc"), (0, .class_ 4), (0, u "java/lang/Object")] 32

/-- java/lang/constant/ConstantDesc -/
def k13 : Class := { plain "java/lang/constant/ConstantDesc" (some 0) with
  accessFlags := 1537
  interfaces := #[]
  cf := some (fileOf pool13 1 #[] #[] 1537 3 #[] #[])
  fields := #[]
  methods := #[]
  instanceTypes := #[]
  staticTypes := #[]
  resolved := Array.replicate 37 none
  statics := none }

def pool14 : Array CpInfo := pool [(1, .methodref 2 3), (0, .class_ 4), (0, .nameAndType 5 6), (0, u "java/lang/Object"), (0, u "<init>"), (0, u "()V"), (2, .fieldref 10 11), (0, .class_ 12), (0, .nameAndType 13 14), (0, u "java/lang/String"), (0, u "value"), (0, u "[B"), (0, .fieldref 10 16), (0, .nameAndType 17 18), (0, u "coder"), (0, u "B"), (2, u "hash"), (0, u "I"), (2, u "hashIsZero"), (0, u "Z"), (11, .fieldref 10 39), (0, .nameAndType 40 26), (0, u "COMPACT_STRINGS"), (13, .methodref 55 56), (0, .class_ 57), (0, .nameAndType 58 59), (0, u "java/util/Arrays"), (0, u "copyOfRange"), (0, u "([BII)[B"), (47, .class_ 109), (1, u "java/lang/StringLatin1"), (32, u "()Z"), (50, .class_ 195), (1, u "java/lang/System"), (16, .methodref 193 213), (0, .nameAndType 214 215), (0, u "arraycopy"), (0, u "(Ljava/lang/Object;ILjava/lang/Object;II)V"), (118, u "()I"), (0, .methodref 10 336), (0, .nameAndType 17 337), (0, u "()B"), (2, u "()[B"), (22, u "([BI)C"), (27, u "(II)V"), (35, u "(I)C"), (61, .methodref 10 490), (0, .nameAndType 5 491), (0, u "(Ljava/lang/AbstractStringBuilder;Ljava/lang/Void;)V"), (0, .methodref 10 493), (0, .nameAndType 494 142), (0, u "isLatin1"), (0, .methodref 107 496), (0, .nameAndType 497 363), (0, u "charAt"), (3, u "checkIndex"), (4, .nameAndType 507 334), (0, u "length"), (24, u "getBytes"), (16, .methodref 550 506), (0, .class_ 551), (0, u "java/lang/AbstractStringBuilder"), (0, .methodref 550 553), (0, .nameAndType 554 340), (0, u "getValue"), (20, .class_ 576), (0, u "java/lang/CharSequence"), (22, u "CASE_INSENSITIVE_ORDER"), (0, u "Ljava/util/Comparator;"), (220, u "([BIB)V"), (225, .methodref 550 493), (5, .fieldref 1054 1055), (0, .class_ 1056), (0, .nameAndType 1057 1058), (0, u "jdk/internal/util/Preconditions"), (0, u "SIOOBE_FORMATTER"), (0, u "Ljava/util/function/BiFunction;"), (0, .methodref 1054 1060), (0, .nameAndType 501 1061), (0, u "(IILjava/util/function/BiFunction;)I"), (39, u "serialPersistentFields"), (0, u "[Ljava/io/ObjectStreamField;"), (0, .class_ 1104), (0, u "java/lang/String$CaseInsensitiveComparator"), (1, .class_ 1107), (0, u "java/io/Serializable"), (0, .class_ 1109), (0, u "java/lang/Comparable"), (0, .class_ 1111), (0, u "java/lang/constant/Constable"), (0, .class_ 1113), (0, u "java/lang/constant/ConstantDesc"), (2, u "serialVersionUID"), (0, u "J"), (3, u "REPL"), (0, u "C"), (2, u "LATIN1"), (1, u "UTF16"), (105, u "(Ljava/lang/StringBuilder;)V")] 217

def k14m0 : Method := { name := "<init>", desc := "()V", sig := { parameters := [], returnType := none }, accessFlags := 1, code := none }
def k14c1 : Code := { maxStack := 3, maxLocals := 2, code := jdk_42_method_53_code, exceptionTable := #[], attributes := #[] }
def k14m1 : Method := { name := "<init>", desc := "(Ljava/lang/StringBuilder;)V", sig := { parameters := [(.object "java/lang/StringBuilder")], returnType := none }, accessFlags := 1, code := some k14c1 }
def k14c2 : Code := { maxStack := 2, maxLocals := 1, code := jdk_42_method_54_code, exceptionTable := #[], attributes := #[] }
def k14m2 : Method := { name := "length", desc := "()I", sig := { parameters := [], returnType := some .int }, accessFlags := 1, code := some k14c2 }
def k14c3 : Code := { maxStack := 2, maxLocals := 2, code := jdk_42_method_56_code, exceptionTable := #[], attributes := #[] }
def k14m3 : Method := { name := "charAt", desc := "(I)C", sig := { parameters := [.int], returnType := some .char }, accessFlags := 1, code := some k14c3 }
def k14c4 : Code := { maxStack := 5, maxLocals := 4, code := jdk_42_method_147_code, exceptionTable := #[], attributes := #[] }
def k14m4 : Method := { name := "getBytes", desc := "([BIB)V", sig := { parameters := [(.array .byte), .int, .byte], returnType := none }, accessFlags := 0, code := some k14c4 }
def k14c5 : Code := { maxStack := 5, maxLocals := 5, code := jdk_42_method_150_code, exceptionTable := #[], attributes := #[] }
def k14m5 : Method := { name := "<init>", desc := "(Ljava/lang/AbstractStringBuilder;Ljava/lang/Void;)V", sig := { parameters := [(.object "java/lang/AbstractStringBuilder"), (.object "java/lang/Void")], returnType := none }, accessFlags := 0, code := some k14c5 }
def k14c6 : Code := { maxStack := 1, maxLocals := 1, code := jdk_42_method_152_code, exceptionTable := #[], attributes := #[] }
def k14m6 : Method := { name := "coder", desc := "()B", sig := { parameters := [], returnType := some .byte }, accessFlags := 0, code := some k14c6 }
def k14c7 : Code := { maxStack := 1, maxLocals := 1, code := jdk_42_method_154_code, exceptionTable := #[], attributes := #[] }
def k14m7 : Method := { name := "isLatin1", desc := "()Z", sig := { parameters := [], returnType := some .boolean }, accessFlags := 0, code := some k14c7 }
def k14c8 : Code := { maxStack := 3, maxLocals := 2, code := jdk_42_method_155_code, exceptionTable := #[], attributes := #[] }
def k14m8 : Method := { name := "checkIndex", desc := "(II)V", sig := { parameters := [.int, .int], returnType := none }, accessFlags := 8, code := some k14c8 }
/-- java/lang/String -/
def k14 : Class := { plain "java/lang/String" (some 0) with
  accessFlags := 49
  interfaces := #[2, 10, 8, 12, 13]
  cf := some (fileOf pool14 10 #[.nestMembers #[1103]] #[{ accessFlags := 1, nameIndex := 5, descriptorIndex := 6, attributes := #[] }, { accessFlags := 1, nameIndex := 5, descriptorIndex := 1233, attributes := #[] }, { accessFlags := 1, nameIndex := 507, descriptorIndex := 334, attributes := #[] }, { accessFlags := 1, nameIndex := 497, descriptorIndex := 427, attributes := #[] }, { accessFlags := 0, nameIndex := 532, descriptorIndex := 821, attributes := #[] }, { accessFlags := 0, nameIndex := 5, descriptorIndex := 491, attributes := #[] }, { accessFlags := 0, nameIndex := 17, descriptorIndex := 337, attributes := #[] }, { accessFlags := 0, nameIndex := 494, descriptorIndex := 142, attributes := #[] }, { accessFlags := 8, nameIndex := 501, descriptorIndex := 391, attributes := #[] }] 49 2 #[1106, 1108, 575, 1110, 1112] #[{ accessFlags := 18, nameIndex := 13, descriptorIndex := 14, attributes := #[] }, { accessFlags := 18, nameIndex := 17, descriptorIndex := 18, attributes := #[] }, { accessFlags := 2, nameIndex := 21, descriptorIndex := 22, attributes := #[] }, { accessFlags := 2, nameIndex := 25, descriptorIndex := 26, attributes := #[] }, { accessFlags := 26, nameIndex := 1116, descriptorIndex := 1117, attributes := #[] }, { accessFlags := 24, nameIndex := 40, descriptorIndex := 26, attributes := #[] }, { accessFlags := 26, nameIndex := 1101, descriptorIndex := 1102, attributes := #[] }, { accessFlags := 26, nameIndex := 1121, descriptorIndex := 1122, attributes := #[] }, { accessFlags := 25, nameIndex := 599, descriptorIndex := 600, attributes := #[] }, { accessFlags := 24, nameIndex := 1125, descriptorIndex := 18, attributes := #[] }, { accessFlags := 24, nameIndex := 1127, descriptorIndex := 18, attributes := #[] }])
  fields := #[{ name := "value", type := (.array .byte), accessFlags := 18, slot := 0, constantValue := 0 }, { name := "coder", type := .byte, accessFlags := 18, slot := 1, constantValue := 0 }, { name := "hash", type := .int, accessFlags := 2, slot := 2, constantValue := 0 }, { name := "hashIsZero", type := .boolean, accessFlags := 2, slot := 3, constantValue := 0 }, { name := "serialVersionUID", type := .long, accessFlags := 26, slot := 0, constantValue := 0 }, { name := "COMPACT_STRINGS", type := .boolean, accessFlags := 24, slot := 1, constantValue := 0 }, { name := "serialPersistentFields", type := (.array (.object "java/io/ObjectStreamField")), accessFlags := 26, slot := 2, constantValue := 0 }, { name := "REPL", type := .char, accessFlags := 26, slot := 3, constantValue := 0 }, { name := "CASE_INSENSITIVE_ORDER", type := (.object "java/util/Comparator"), accessFlags := 25, slot := 4, constantValue := 0 }, { name := "LATIN1", type := .byte, accessFlags := 24, slot := 5, constantValue := 0 }, { name := "UTF16", type := .byte, accessFlags := 24, slot := 6, constantValue := 0 }]
  methods := #[k14m0, k14m1, k14m2, k14m3, k14m4, k14m5, k14m6, k14m7, k14m8]
  instanceTypes := #[(.array .byte), .byte, .int, .boolean]
  staticTypes := #[.long, .boolean, (.array (.object "java/io/ObjectStreamField")), .char, (.object "java/util/Comparator"), .byte, .byte]
  resolved := Array.replicate 1451 none
  statics := some 1 }

def pool15 : Array CpInfo := pool [(9, u "<init>"), (6, .class_ 18), (1, u "java/lang/Object"), (0, u "()V"), (1, .class_ 23), (1, u "jdk/internal/util/ArraysSupport"), (0, u "LOG2_ARRAY_LONG_INDEX_SCALE"), (0, u "I"), (2, u "U"), (0, u "Ljdk/internal/misc/Unsafe;"), (8, u "BIG_ENDIAN"), (0, u "Z"), (8, u "LOG2_BYTE_BIT_SIZE"), (4, u "LOG2_ARRAY_INT_INDEX_SCALE"), (54, u "JLA"), (0, u "Ljdk/internal/access/JavaLangAccess;"), (11, u "LOG2_ARRAY_BOOLEAN_INDEX_SCALE"), (9, u "LOG2_ARRAY_BYTE_INDEX_SCALE"), (5, u "LOG2_ARRAY_CHAR_INDEX_SCALE"), (5, u "LOG2_ARRAY_SHORT_INDEX_SCALE"), (18, u "LOG2_ARRAY_FLOAT_INDEX_SCALE"), (24, u "LOG2_ARRAY_DOUBLE_INDEX_SCALE"), (6, .methodref 195 196), (0, .class_ 197), (0, .nameAndType 198 199), (0, u "java/lang/Math"), (0, u "max"), (0, u "(II)I"), (0, .integer 2147483639), (76, u "T_BOOLEAN"), (2, u "T_CHAR"), (1, u "T_FLOAT"), (1, u "T_DOUBLE"), (1, u "T_BYTE"), (1, u "T_SHORT"), (1, u "T_INT"), (1, u "T_LONG"), (1, u "SOFT_MAX_ARRAY_LENGTH"), (56, u "newLength"), (0, u "(III)I")] 25

def k15m0 : Method := { name := "<init>", desc := "()V", sig := { parameters := [], returnType := none }, accessFlags := 2, code := none }
def k15c1 : Code := { maxStack := 3, maxLocals := 4, code := jdk_48_method_27_code, exceptionTable := #[], attributes := #[] }
def k15m1 : Method := { name := "newLength", desc := "(III)I", sig := { parameters := [.int, .int, .int], returnType := some .int }, accessFlags := 9, code := some k15c1 }
/-- jdk/internal/util/ArraysSupport -/
def k15 : Class := { plain "jdk/internal/util/ArraysSupport" (some 0) with
  accessFlags := 33
  interfaces := #[]
  cf := some (fileOf pool15 21 #[] #[{ accessFlags := 2, nameIndex := 9, descriptorIndex := 19, attributes := #[] }, { accessFlags := 9, nameIndex := 351, descriptorIndex := 352, attributes := #[] }] 33 16 #[] #[{ accessFlags := 24, nameIndex := 28, descriptorIndex := 29, attributes := #[] }, { accessFlags := 26, nameIndex := 38, descriptorIndex := 39, attributes := #[] }, { accessFlags := 25, nameIndex := 121, descriptorIndex := 25, attributes := #[] }, { accessFlags := 25, nameIndex := 131, descriptorIndex := 25, attributes := #[] }, { accessFlags := 25, nameIndex := 137, descriptorIndex := 25, attributes := #[] }, { accessFlags := 25, nameIndex := 143, descriptorIndex := 25, attributes := #[] }, { accessFlags := 25, nameIndex := 53, descriptorIndex := 25, attributes := #[] }, { accessFlags := 25, nameIndex := 24, descriptorIndex := 25, attributes := #[] }, { accessFlags := 25, nameIndex := 162, descriptorIndex := 25, attributes := #[] }, { accessFlags := 25, nameIndex := 187, descriptorIndex := 25, attributes := #[] }, { accessFlags := 26, nameIndex := 48, descriptorIndex := 25, attributes := #[] }, { accessFlags := 25, nameIndex := 277, descriptorIndex := 25, attributes := #[] }, { accessFlags := 25, nameIndex := 280, descriptorIndex := 25, attributes := #[] }, { accessFlags := 25, nameIndex := 282, descriptorIndex := 25, attributes := #[] }, { accessFlags := 25, nameIndex := 284, descriptorIndex := 25, attributes := #[] }, { accessFlags := 25, nameIndex := 286, descriptorIndex := 25, attributes := #[] }, { accessFlags := 25, nameIndex := 288, descriptorIndex := 25, attributes := #[] }, { accessFlags := 25, nameIndex := 290, descriptorIndex := 25, attributes := #[] }, { accessFlags := 25, nameIndex := 292, descriptorIndex := 25, attributes := #[] }, { accessFlags := 26, nameIndex := 108, descriptorIndex := 109, attributes := #[] }, { accessFlags := 25, nameIndex := 294, descriptorIndex := 25, attributes := #[] }])
  fields := #[{ name := "U", type := (.object "jdk/internal/misc/Unsafe"), accessFlags := 24, slot := 0, constantValue := 0 }, { name := "BIG_ENDIAN", type := .boolean, accessFlags := 26, slot := 1, constantValue := 0 }, { name := "LOG2_ARRAY_BOOLEAN_INDEX_SCALE", type := .int, accessFlags := 25, slot := 2, constantValue := 0 }, { name := "LOG2_ARRAY_BYTE_INDEX_SCALE", type := .int, accessFlags := 25, slot := 3, constantValue := 0 }, { name := "LOG2_ARRAY_CHAR_INDEX_SCALE", type := .int, accessFlags := 25, slot := 4, constantValue := 0 }, { name := "LOG2_ARRAY_SHORT_INDEX_SCALE", type := .int, accessFlags := 25, slot := 5, constantValue := 0 }, { name := "LOG2_ARRAY_INT_INDEX_SCALE", type := .int, accessFlags := 25, slot := 6, constantValue := 0 }, { name := "LOG2_ARRAY_LONG_INDEX_SCALE", type := .int, accessFlags := 25, slot := 7, constantValue := 0 }, { name := "LOG2_ARRAY_FLOAT_INDEX_SCALE", type := .int, accessFlags := 25, slot := 8, constantValue := 0 }, { name := "LOG2_ARRAY_DOUBLE_INDEX_SCALE", type := .int, accessFlags := 25, slot := 9, constantValue := 0 }, { name := "LOG2_BYTE_BIT_SIZE", type := .int, accessFlags := 26, slot := 10, constantValue := 0 }, { name := "T_BOOLEAN", type := .int, accessFlags := 25, slot := 11, constantValue := 0 }, { name := "T_CHAR", type := .int, accessFlags := 25, slot := 12, constantValue := 0 }, { name := "T_FLOAT", type := .int, accessFlags := 25, slot := 13, constantValue := 0 }, { name := "T_DOUBLE", type := .int, accessFlags := 25, slot := 14, constantValue := 0 }, { name := "T_BYTE", type := .int, accessFlags := 25, slot := 15, constantValue := 0 }, { name := "T_SHORT", type := .int, accessFlags := 25, slot := 16, constantValue := 0 }, { name := "T_INT", type := .int, accessFlags := 25, slot := 17, constantValue := 0 }, { name := "T_LONG", type := .int, accessFlags := 25, slot := 18, constantValue := 0 }, { name := "JLA", type := (.object "jdk/internal/access/JavaLangAccess"), accessFlags := 26, slot := 19, constantValue := 0 }, { name := "SOFT_MAX_ARRAY_LENGTH", type := .int, accessFlags := 25, slot := 20, constantValue := 0 }]
  methods := #[k15m0, k15m1]
  instanceTypes := #[]
  staticTypes := #[(.object "jdk/internal/misc/Unsafe"), .boolean, .int, .int, .int, .int, .int, .int, .int, .int, .int, .int, .int, .int, .int, .int, .int, .int, .int, (.object "jdk/internal/access/JavaLangAccess"), .int]
  resolved := Array.replicate 378 none
  statics := none }

def pool16 : Array CpInfo := pool [(1, .class_ 2), (0, u "java/lang/Math"), (1, .class_ 6), (1, u "java/lang/Object"), (0, u "<init>"), (0, u "()V"), (89, .class_ 100), (1, u "java/lang/Math$RandomNumberGeneratorHolder"), (71, u "negativeZeroFloatBits"), (0, u "J"), (2, u "negativeZeroDoubleBits"), (21, u "max"), (2, u "min"), (43, u "$assertionsDisabled"), (0, u "Z"), (88, u "(II)I"), (2, u "twoToTheDoubleScaleDown"), (0, u "D"), (4, u "twoToTheDoubleScaleUp"), (9, u "E"), (3, u "PI"), (2, u "TAU"), (2, u "DEGREES_TO_RADIANS"), (0, u "RADIANS_TO_DEGREES")] 94

def k16m0 : Method := { name := "<init>", desc := "()V", sig := { parameters := [], returnType := none }, accessFlags := 2, code := none }
def k16c1 : Code := { maxStack := 2, maxLocals := 2, code := jdk_29_method_65_code, exceptionTable := #[], attributes := #[] }
def k16m1 : Method := { name := "max", desc := "(II)I", sig := { parameters := [.int, .int], returnType := some .int }, accessFlags := 9, code := some k16c1 }
def k16c2 : Code := { maxStack := 2, maxLocals := 2, code := jdk_29_method_69_code, exceptionTable := #[], attributes := #[] }
def k16m2 : Method := { name := "min", desc := "(II)I", sig := { parameters := [.int, .int], returnType := some .int }, accessFlags := 9, code := some k16c2 }
/-- java/lang/Math -/
def k16 : Class := { plain "java/lang/Math" (some 0) with
  accessFlags := 49
  interfaces := #[]
  cf := some (fileOf pool16 1 #[.nestMembers #[98]] #[{ accessFlags := 2, nameIndex := 7, descriptorIndex := 8, attributes := #[] }, { accessFlags := 9, nameIndex := 198, descriptorIndex := 335, attributes := #[] }, { accessFlags := 9, nameIndex := 201, descriptorIndex := 335, attributes := #[] }] 49 4 #[] #[{ accessFlags := 25, nameIndex := 354, descriptorIndex := 339, attributes := #[] }, { accessFlags := 25, nameIndex := 358, descriptorIndex := 339, attributes := #[] }, { accessFlags := 25, nameIndex := 361, descriptorIndex := 339, attributes := #[] }, { accessFlags := 26, nameIndex := 364, descriptorIndex := 339, attributes := #[] }, { accessFlags := 26, nameIndex := 365, descriptorIndex := 339, attributes := #[] }, { accessFlags := 26, nameIndex := 172, descriptorIndex := 173, attributes := #[] }, { accessFlags := 26, nameIndex := 176, descriptorIndex := 173, attributes := #[] }, { accessFlags := 8, nameIndex := 344, descriptorIndex := 339, attributes := #[] }, { accessFlags := 8, nameIndex := 338, descriptorIndex := 339, attributes := #[] }, { accessFlags := 4120, nameIndex := 245, descriptorIndex := 246, attributes := #[] }])
  fields := #[{ name := "E", type := .double, accessFlags := 25, slot := 0, constantValue := 0 }, { name := "PI", type := .double, accessFlags := 25, slot := 1, constantValue := 0 }, { name := "TAU", type := .double, accessFlags := 25, slot := 2, constantValue := 0 }, { name := "DEGREES_TO_RADIANS", type := .double, accessFlags := 26, slot := 3, constantValue := 0 }, { name := "RADIANS_TO_DEGREES", type := .double, accessFlags := 26, slot := 4, constantValue := 0 }, { name := "negativeZeroFloatBits", type := .long, accessFlags := 26, slot := 5, constantValue := 0 }, { name := "negativeZeroDoubleBits", type := .long, accessFlags := 26, slot := 6, constantValue := 0 }, { name := "twoToTheDoubleScaleUp", type := .double, accessFlags := 8, slot := 7, constantValue := 0 }, { name := "twoToTheDoubleScaleDown", type := .double, accessFlags := 8, slot := 8, constantValue := 0 }, { name := "$assertionsDisabled", type := .boolean, accessFlags := 4120, slot := 9, constantValue := 0 }]
  methods := #[k16m0, k16m1, k16m2]
  instanceTypes := #[]
  staticTypes := #[.double, .double, .double, .double, .double, .long, .long, .double, .double, .boolean]
  resolved := Array.replicate 460 none
  statics := none }

def pool17 : Array CpInfo := pool [(2, .class_ 4), (1, u "java/lang/Object"), (0, u "<init>"), (0, u "()V"), (7, .class_ 16), (1, u "java/util/Arrays"), (57, .class_ 76), (1, u "java/util/Arrays$NaturalOrder"), (36, .class_ 115), (1, u "java/util/Arrays$LegacyMergeSort"), (1, u "Z"), (21, u "copyOfRange"), (10, .methodref 151 152), (0, .class_ 153), (0, .nameAndType 154 155), (0, u "java/lang/System"), (0, u "arraycopy"), (0, u "(Ljava/lang/Object;ILjava/lang/Object;II)V"), (146, u "copyOf"), (1, .methodref 305 306), (0, .class_ 307), (0, .nameAndType 308 309), (0, u "java/lang/Math"), (0, u "min"), (0, u "(II)I"), (29, .methodref 14 340), (0, .nameAndType 341 342), (0, u "copyOfRangeByte"), (0, u "([BII)[B"), (0, .methodref 14 344), (0, .nameAndType 345 346), (0, u "checkLength"), (0, u "(II)V"), (28, .class_ 376), (0, u "java/util/Arrays$ArrayList"), (68, u "$assertionsDisabled"), (269, u "MIN_ARRAY_SORT_GRAN"), (0, u "I"), (2, u "INSERTIONSORT_THRESHOLD"), (149, u "([BI)[B"), (105, .class_ 976), (0, u "java/util/Arrays$ArrayItr")] 52

def k17m0 : Method := { name := "<init>", desc := "()V", sig := { parameters := [], returnType := none }, accessFlags := 2, code := none }
def k17c1 : Code := { maxStack := 6, maxLocals := 3, code := jdk_65_method_121_code, exceptionTable := #[], attributes := #[] }
def k17m1 : Method := { name := "copyOf", desc := "([BI)[B", sig := { parameters := [(.array .byte), .int], returnType := some (.array .byte) }, accessFlags := 9, code := some k17c1 }
def k17c2 : Code := { maxStack := 4, maxLocals := 2, code := jdk_65_method_131_code, exceptionTable := #[], attributes := #[] }
def k17m2 : Method := { name := "checkLength", desc := "(II)V", sig := { parameters := [.int, .int], returnType := none }, accessFlags := 10, code := some k17c2 }
def k17c3 : Code := { maxStack := 3, maxLocals := 3, code := jdk_65_method_132_code, exceptionTable := #[], attributes := #[] }
def k17m3 : Method := { name := "copyOfRange", desc := "([BII)[B", sig := { parameters := [(.array .byte), .int, .int], returnType := some (.array .byte) }, accessFlags := 9, code := some k17c3 }
def k17c4 : Code := { maxStack := 6, maxLocals := 5, code := jdk_65_method_133_code, exceptionTable := #[], attributes := #[] }
def k17m4 : Method := { name := "copyOfRangeByte", desc := "([BII)[B", sig := { parameters := [(.array .byte), .int, .int], returnType := some (.array .byte) }, accessFlags := 10, code := some k17c4 }
/-- java/util/Arrays -/
def k17 : Class := { plain "java/util/Arrays" (some 0) with
  accessFlags := 49
  interfaces := #[]
  cf := some (fileOf pool17 14 #[.nestMembers #[975, 375, 113, 74]] #[{ accessFlags := 2, nameIndex := 5, descriptorIndex := 6, attributes := #[] }, { accessFlags := 9, nameIndex := 302, descriptorIndex := 869, attributes := #[] }, { accessFlags := 10, nameIndex := 345, descriptorIndex := 346, attributes := #[] }, { accessFlags := 9, nameIndex := 139, descriptorIndex := 342, attributes := #[] }, { accessFlags := 10, nameIndex := 341, descriptorIndex := 342, attributes := #[] }] 49 2 #[] #[{ accessFlags := 26, nameIndex := 715, descriptorIndex := 716, attributes := #[] }, { accessFlags := 26, nameIndex := 719, descriptorIndex := 716, attributes := #[] }, { accessFlags := 4120, nameIndex := 445, descriptorIndex := 117, attributes := #[] }])
  fields := #[{ name := "MIN_ARRAY_SORT_GRAN", type := .int, accessFlags := 26, slot := 0, constantValue := 0 }, { name := "INSERTIONSORT_THRESHOLD", type := .int, accessFlags := 26, slot := 1, constantValue := 0 }, { name := "$assertionsDisabled", type := .boolean, accessFlags := 4120, slot := 2, constantValue := 0 }]
  methods := #[k17m0, k17m1, k17m2, k17m3, k17m4]
  instanceTypes := #[]
  staticTypes := #[.int, .int, .boolean]
  resolved := Array.replicate 1029 none
  statics := none }

def pool18 : Array CpInfo := pool [(2, .class_ 4), (1, u "java/lang/Object"), (0, u "<init>"), (0, u "()V"), (1, .class_ 10), (1, u "java/lang/System"), (0, u "allowSecurityManager"), (0, u "I"), (16, u "cons"), (0, u "Ljava/io/Console;"), (77, .class_ 110), (1, u "java/lang/System$CallersHolder"), (43, u "initialErrStream"), (0, u "Ljava/io/PrintStream;"), (19, u "security"), (0, u "Ljava/lang/SecurityManager;"), (31, .class_ 209), (0, u "java/lang/System$1"), (7, u "props"), (0, u "Ljava/util/Properties;"), (2, u "lineSeparator"), (0, u "Ljava/lang/String;"), (96, .class_ 321), (1, u "java/lang/System$LoggerFinder"), (5, .class_ 328), (0, u "java/lang/System$Logger"), (67, u "err"), (2, u "out"), (91, u "notSupportedJnuEncoding"), (15, u "in"), (17, u "initialIn"), (0, u "Ljava/io/InputStream;"), (35, u "bootLayer"), (0, u "Ljava/lang/ModuleLayer;"), (99, .class_ 664), (0, u "java/lang/System$2"), (9, u "NEVER"), (2, u "MAYBE"), (49, u "arraycopy"), (0, u "(Ljava/lang/Object;ILjava/lang/Object;II)V"), (72, .class_ 802), (0, u "java/lang/System$Logger$Level")] 31

def k18m0 : Method := { name := "<init>", desc := "()V", sig := { parameters := [], returnType := none }, accessFlags := 2, code := none }
def k18m1 : Method := { name := "arraycopy", desc := "(Ljava/lang/Object;ILjava/lang/Object;II)V", sig := { parameters := [(.object "java/lang/Object"), .int, (.object "java/lang/Object"), .int, .int], returnType := none }, accessFlags := 265, code := none }
/-- java/lang/System -/
def k18 : Class := { plain "java/lang/System" (some 0) with
  accessFlags := 49
  interfaces := #[]
  cf := some (fileOf pool18 8 #[.nestMembers #[319, 327, 801, 108, 663, 208]] #[{ accessFlags := 2, nameIndex := 5, descriptorIndex := 6, attributes := #[] }, { accessFlags := 265, nameIndex := 727, descriptorIndex := 728, attributes := #[] }] 49 2 #[] #[{ accessFlags := 25, nameIndex := 507, descriptorIndex := 526, attributes := #[] }, { accessFlags := 25, nameIndex := 399, descriptorIndex := 155, attributes := #[] }, { accessFlags := 25, nameIndex := 396, descriptorIndex := 155, attributes := #[] }, { accessFlags := 10, nameIndex := 525, descriptorIndex := 526, attributes := #[] }, { accessFlags := 26, nameIndex := 674, descriptorIndex := 12, attributes := #[] }, { accessFlags := 26, nameIndex := 677, descriptorIndex := 12, attributes := #[] }, { accessFlags := 10, nameIndex := 11, descriptorIndex := 12, attributes := #[] }, { accessFlags := 74, nameIndex := 175, descriptorIndex := 176, attributes := #[] }, { accessFlags := 10, nameIndex := 491, descriptorIndex := 222, attributes := #[] }, { accessFlags := 74, nameIndex := 29, descriptorIndex := 30, attributes := #[] }, { accessFlags := 74, nameIndex := 154, descriptorIndex := 155, attributes := #[] }, { accessFlags := 10, nameIndex := 217, descriptorIndex := 218, attributes := #[] }, { accessFlags := 10, nameIndex := 221, descriptorIndex := 222, attributes := #[] }, { accessFlags := 8, nameIndex := 562, descriptorIndex := 563, attributes := #[] }])
  fields := #[{ name := "in", type := (.object "java/io/InputStream"), accessFlags := 25, slot := 0, constantValue := 0 }, { name := "out", type := (.object "java/io/PrintStream"), accessFlags := 25, slot := 1, constantValue := 0 }, { name := "err", type := (.object "java/io/PrintStream"), accessFlags := 25, slot := 2, constantValue := 0 }, { name := "initialIn", type := (.object "java/io/InputStream"), accessFlags := 10, slot := 3, constantValue := 0 }, { name := "NEVER", type := .int, accessFlags := 26, slot := 4, constantValue := 0 }, { name := "MAYBE", type := .int, accessFlags := 26, slot := 5, constantValue := 0 }, { name := "allowSecurityManager", type := .int, accessFlags := 10, slot := 6, constantValue := 0 }, { name := "security", type := (.object "java/lang/SecurityManager"), accessFlags := 74, slot := 7, constantValue := 0 }, { name := "notSupportedJnuEncoding", type := (.object "java/lang/String"), accessFlags := 10, slot := 8, constantValue := 0 }, { name := "cons", type := (.object "java/io/Console"), accessFlags := 74, slot := 9, constantValue := 0 }, { name := "initialErrStream", type := (.object "java/io/PrintStream"), accessFlags := 74, slot := 10, constantValue := 0 }, { name := "props", type := (.object "java/util/Properties"), accessFlags := 10, slot := 11, constantValue := 0 }, { name := "lineSeparator", type := (.object "java/lang/String"), accessFlags := 10, slot := 12, constantValue := 0 }, { name := "bootLayer", type := (.object "java/lang/ModuleLayer"), accessFlags := 8, slot := 13, constantValue := 0 }]
  methods := #[k18m0, k18m1]
  instanceTypes := #[]
  staticTypes := #[(.object "java/io/InputStream"), (.object "java/io/PrintStream"), (.object "java/io/PrintStream"), (.object "java/io/InputStream"), .int, .int, .int, (.object "java/lang/SecurityManager"), (.object "java/lang/String"), (.object "java/io/Console"), (.object "java/io/PrintStream"), (.object "java/util/Properties"), (.object "java/lang/String"), (.object "java/lang/ModuleLayer")]
  resolved := Array.replicate 834 none
  statics := none }

def pool19 : Array CpInfo := pool [(2, .class_ 4), (1, u "java/lang/Object"), (0, u "<init>"), (0, u "()V"), (1, .class_ 10), (1, u "java/lang/Number"), (2, .class_ 14), (0, u "java/io/Serializable"), (0, u "serialVersionUID"), (0, u "J")] 20

def k19m0 : Method := { name := "<init>", desc := "()V", sig := { parameters := [], returnType := none }, accessFlags := 1, code := none }
/-- java/lang/Number -/
def k19 : Class := { plain "java/lang/Number" (some 0) with
  accessFlags := 1057
  interfaces := #[2]
  cf := some (fileOf pool19 8 #[] #[{ accessFlags := 1, nameIndex := 5, descriptorIndex := 6, attributes := #[] }] 1057 2 #[13] #[{ accessFlags := 26, nameIndex := 15, descriptorIndex := 16, attributes := #[] }])
  fields := #[{ name := "serialVersionUID", type := .long, accessFlags := 26, slot := 0, constantValue := 0 }]
  methods := #[k19m0]
  instanceTypes := #[]
  staticTypes := #[.long]
  resolved := Array.replicate 37 none
  statics := none }

def pool20 : Array CpInfo := pool [(1, .class_ 2), (0, u "java/lang/Integer"), (16, u "digits"), (0, u "[C"), (33, u "(I)I"), (19, u "stringSize"), (2, u "getChars"), (0, u "(II[B)I"), (4, .fieldref 1 84), (0, .nameAndType 85 86), (0, u "DigitOnes"), (0, u "[B"), (0, .fieldref 1 88), (0, .nameAndType 89 86), (0, u "DigitTens"), (99, .class_ 190), (0, u "java/lang/Integer$IntegerCache"), (3, u "I"), (8, .class_ 204), (0, u "java/lang/Number"), (2, u "value"), (94, u "TYPE"), (0, u "Ljava/lang/Class;"), (0, .class_ 305), (0, u "java/lang/Comparable"), (0, .class_ 307), (0, u "java/lang/constant/Constable"), (0, .class_ 309), (0, u "java/lang/constant/ConstantDesc"), (0, u "MIN_VALUE"), (1, u "MAX_VALUE"), (3, u "SIZE"), (1, u "BYTES"), (1, u "serialVersionUID"), (0, u "J")] 131

def k20c0 : Code := { maxStack := 4, maxLocals := 7, code := jdk_33_method_12_code, exceptionTable := #[], attributes := #[] }
def k20m0 : Method := { name := "getChars", desc := "(II[B)I", sig := { parameters := [.int, .int, (.array .byte)], returnType := some .int }, accessFlags := 8, code := some k20c0 }
def k20c1 : Code := { maxStack := 2, maxLocals := 4, code := jdk_33_method_13_code, exceptionTable := #[], attributes := #[] }
def k20m1 : Method := { name := "stringSize", desc := "(I)I", sig := { parameters := [.int], returnType := some .int }, accessFlags := 8, code := some k20c1 }
/-- java/lang/Integer -/
def k20 : Class := { plain "java/lang/Integer" (some 19) with
  accessFlags := 49
  interfaces := #[10, 12, 13]
  cf := some (fileOf pool20 1 #[.nestMembers #[189]] #[{ accessFlags := 8, nameIndex := 77, descriptorIndex := 78, attributes := #[] }, { accessFlags := 8, nameIndex := 74, descriptorIndex := 54, attributes := #[] }] 49 203 #[304, 306, 308] #[{ accessFlags := 25, nameIndex := 310, descriptorIndex := 194, attributes := #[] }, { accessFlags := 25, nameIndex := 312, descriptorIndex := 194, attributes := #[] }, { accessFlags := 25, nameIndex := 302, descriptorIndex := 303, attributes := #[] }, { accessFlags := 24, nameIndex := 19, descriptorIndex := 20, attributes := #[] }, { accessFlags := 24, nameIndex := 89, descriptorIndex := 86, attributes := #[] }, { accessFlags := 24, nameIndex := 85, descriptorIndex := 86, attributes := #[] }, { accessFlags := 18, nameIndex := 207, descriptorIndex := 194, attributes := #[] }, { accessFlags := 25, nameIndex := 316, descriptorIndex := 194, attributes := #[] }, { accessFlags := 25, nameIndex := 318, descriptorIndex := 194, attributes := #[] }, { accessFlags := 26, nameIndex := 320, descriptorIndex := 321, attributes := #[] }])
  fields := #[{ name := "MIN_VALUE", type := .int, accessFlags := 25, slot := 0, constantValue := 0 }, { name := "MAX_VALUE", type := .int, accessFlags := 25, slot := 1, constantValue := 0 }, { name := "TYPE", type := (.object "java/lang/Class"), accessFlags := 25, slot := 2, constantValue := 0 }, { name := "digits", type := (.array .char), accessFlags := 24, slot := 3, constantValue := 0 }, { name := "DigitTens", type := (.array .byte), accessFlags := 24, slot := 4, constantValue := 0 }, { name := "DigitOnes", type := (.array .byte), accessFlags := 24, slot := 5, constantValue := 0 }, { name := "value", type := .int, accessFlags := 18, slot := 0, constantValue := 0 }, { name := "SIZE", type := .int, accessFlags := 25, slot := 6, constantValue := 0 }, { name := "BYTES", type := .int, accessFlags := 25, slot := 7, constantValue := 0 }, { name := "serialVersionUID", type := .long, accessFlags := 26, slot := 8, constantValue := 0 }]
  methods := #[k20m0, k20m1]
  instanceTypes := #[.int]
  staticTypes := #[.int, .int, (.object "java/lang/Class"), (.array .char), (.array .byte), (.array .byte), .int, .int, .long]
  resolved := Array.replicate 453 none
  statics := some 2 }

def pool21 : Array CpInfo := pool [(1, .fieldref 2 3), (0, .class_ 4), (0, .nameAndType 5 6), (0, u "java/util/Optional"), (0, u "EMPTY"), (0, u "Ljava/util/Optional;"), (1, .class_ 10), (1, u "java/lang/Object"), (2, .fieldref 2 14), (0, .nameAndType 15 16), (0, u "value"), (0, u "Ljava/lang/Object;"), (29, u "()Z"), (17, u "ofNullable"), (0, u "(Ljava/lang/Object;)Ljava/util/Optional;"), (2, u "isPresent")] 118

def k21c0 : Code := { maxStack := 3, maxLocals := 1, code := jdk_32_method_4_code, exceptionTable := #[], attributes := #[] }
def k21m0 : Method := { name := "ofNullable", desc := "(Ljava/lang/Object;)Ljava/util/Optional;", sig := { parameters := [(.object "java/lang/Object")], returnType := some (.object "java/util/Optional") }, accessFlags := 9, code := some k21c0 }
def k21c1 : Code := { maxStack := 1, maxLocals := 1, code := jdk_32_method_6_code, exceptionTable := #[], attributes := #[] }
def k21m1 : Method := { name := "isPresent", desc := "()Z", sig := { parameters := [], returnType := some .boolean }, accessFlags := 1, code := some k21c1 }
/-- java/util/Optional -/
def k21 : Class := { plain "java/util/Optional" (some 0) with
  accessFlags := 49
  interfaces := #[]
  cf := some (fileOf pool21 2 #[] #[{ accessFlags := 9, nameIndex := 64, descriptorIndex := 65, attributes := #[] }, { accessFlags := 1, nameIndex := 68, descriptorIndex := 46, attributes := #[] }] 49 8 #[] #[{ accessFlags := 26, nameIndex := 5, descriptorIndex := 6, attributes := #[] }, { accessFlags := 18, nameIndex := 15, descriptorIndex := 16, attributes := #[] }])
  fields := #[{ name := "EMPTY", type := (.object "java/util/Optional"), accessFlags := 26, slot := 0, constantValue := 0 }, { name := "value", type := (.object "java/lang/Object"), accessFlags := 18, slot := 0, constantValue := 0 }]
  methods := #[k21m0, k21m1]
  instanceTypes := #[(.object "java/lang/Object")]
  staticTypes := #[(.object "java/util/Optional")]
  resolved := Array.replicate 187 none
  statics := some 3 }

def pool22 : Array CpInfo := pool [(1, .class_ 2), (0, u "java/lang/String"), (1, .class_ 6), (1, u "java/lang/Object"), (0, u "<init>"), (0, u "()V"), (0, .methodref 1 10), (0, .nameAndType 11 12), (0, u "checkIndex"), (0, u "(II)V"), (1, .class_ 16), (1, u "java/lang/StringLatin1"), (36, u "([BI)C"), (67, u "$assertionsDisabled"), (0, u "Z"), (98, .class_ 223), (1, u "java/lang/StringLatin1$LinesSpliterator"), (28, u "charAt"), (137, .class_ 391), (0, u "java/lang/StringLatin1$CharsSpliterator")] 3

def k22m0 : Method := { name := "<init>", desc := "()V", sig := { parameters := [], returnType := none }, accessFlags := 0, code := none }
def k22c1 : Code := { maxStack := 2, maxLocals := 2, code := jdk_43_method_2_code, exceptionTable := #[], attributes := #[] }
def k22m1 : Method := { name := "charAt", desc := "([BI)C", sig := { parameters := [(.array .byte), .int], returnType := some .char }, accessFlags := 9, code := some k22c1 }
/-- java/lang/StringLatin1 -/
def k22 : Class := { plain "java/lang/StringLatin1" (some 0) with
  accessFlags := 48
  interfaces := #[]
  cf := some (fileOf pool22 14 #[.nestMembers #[390, 221]] #[{ accessFlags := 0, nameIndex := 7, descriptorIndex := 8, attributes := #[] }, { accessFlags := 9, nameIndex := 252, descriptorIndex := 53, attributes := #[] }] 48 4 #[] #[{ accessFlags := 4120, nameIndex := 121, descriptorIndex := 122, attributes := #[] }])
  fields := #[{ name := "$assertionsDisabled", type := .boolean, accessFlags := 4120, slot := 0, constantValue := 0 }]
  methods := #[k22m0, k22m1]
  instanceTypes := #[]
  staticTypes := #[.boolean]
  resolved := Array.replicate 395 none
  statics := none }

def pool23 : Array CpInfo := pool [(2, .class_ 4), (1, u "java/lang/Object"), (0, u "<init>"), (0, u "()V"), (17, .class_ 26), (1, u "jdk/internal/util/Preconditions"), (6, u "checkIndex"), (21, .class_ 56), (0, u "jdk/internal/util/Preconditions$4"), (57, .class_ 115), (0, u "jdk/internal/util/Preconditions$1"), (7, u "SIOOBE_FORMATTER"), (0, u "Ljava/util/function/BiFunction;"), (0, .class_ 126), (0, u "jdk/internal/util/Preconditions$2"), (3, u "AIOOBE_FORMATTER"), (0, .class_ 132), (0, u "jdk/internal/util/Preconditions$3"), (3, u "IOOBE_FORMATTER"), (41, u "(IILjava/util/function/BiFunction;)I")] 15

def k23m0 : Method := { name := "<init>", desc := "()V", sig := { parameters := [], returnType := none }, accessFlags := 1, code := none }
def k23c1 : Code := { maxStack := 3, maxLocals := 3, code := jdk_41_method_11_code, exceptionTable := #[], attributes := #[] }
def k23m1 : Method := { name := "checkIndex", desc := "(IILjava/util/function/BiFunction;)I", sig := { parameters := [.int, .int, (.object "java/util/function/BiFunction")], returnType := some .int }, accessFlags := 9, code := some k23c1 }
/-- jdk/internal/util/Preconditions -/
def k23 : Class := { plain "jdk/internal/util/Preconditions" (some 0) with
  accessFlags := 33
  interfaces := #[]
  cf := some (fileOf pool23 24 #[.nestMembers #[55, 131, 125, 114]] #[{ accessFlags := 1, nameIndex := 5, descriptorIndex := 6, attributes := #[] }, { accessFlags := 9, nameIndex := 33, descriptorIndex := 178, attributes := #[] }] 33 2 #[] #[{ accessFlags := 25, nameIndex := 123, descriptorIndex := 124, attributes := #[] }, { accessFlags := 25, nameIndex := 130, descriptorIndex := 124, attributes := #[] }, { accessFlags := 25, nameIndex := 136, descriptorIndex := 124, attributes := #[] }])
  fields := #[{ name := "SIOOBE_FORMATTER", type := (.object "java/util/function/BiFunction"), accessFlags := 25, slot := 0, constantValue := 0 }, { name := "AIOOBE_FORMATTER", type := (.object "java/util/function/BiFunction"), accessFlags := 25, slot := 1, constantValue := 0 }, { name := "IOOBE_FORMATTER", type := (.object "java/util/function/BiFunction"), accessFlags := 25, slot := 2, constantValue := 0 }]
  methods := #[k23m0, k23m1]
  instanceTypes := #[]
  staticTypes := #[(.object "java/util/function/BiFunction"), (.object "java/util/function/BiFunction"), (.object "java/util/function/BiFunction")]
  resolved := Array.replicate 194 none
  statics := some 4 }

def pool24 : Array CpInfo := pool [(2, .class_ 4), (1, u "java/lang/Object"), (0, u "<init>"), (0, u "()V"), (12, .class_ 20), (0, u "java/util/Collections"), (63, u "r"), (0, u "Ljava/util/Random;"), (80, .class_ 167), (0, u "java/util/Collections$UnmodifiableCollection"), (6, .class_ 175), (0, u "java/util/Collections$UnmodifiableSequencedCollection"), (6, .class_ 183), (0, u "java/util/Collections$UnmodifiableSet"), (6, .class_ 191), (0, u "java/util/Collections$UnmodifiableSequencedSet"), (6, .class_ 199), (0, u "java/util/Collections$UnmodifiableSortedSet"), (6, .class_ 207), (0, u "java/util/Collections$UnmodifiableNavigableSet"), (4, .class_ 213), (0, u "java/util/Collections$UnmodifiableList"), (1, .class_ 216), (0, u "java/util/Collections$UnmodifiableRandomAccessList"), (6, .class_ 224), (0, u "java/util/Collections$UnmodifiableMap"), (6, .class_ 232), (0, u "java/util/Collections$UnmodifiableSequencedMap"), (4, .class_ 238), (0, u "java/util/Collections$UnmodifiableSortedMap"), (6, .class_ 246), (0, u "java/util/Collections$UnmodifiableNavigableMap"), (3, .class_ 251), (0, u "java/util/Collections$SynchronizedCollection"), (4, .class_ 257), (0, u "java/util/Collections$SynchronizedSet"), (4, .class_ 263), (0, u "java/util/Collections$SynchronizedSortedSet"), (1, .class_ 266), (0, u "java/util/Collections$SynchronizedNavigableSet"), (1, .class_ 269), (0, u "java/util/Collections$SynchronizedRandomAccessList"), (1, .class_ 272), (0, u "java/util/Collections$SynchronizedList"), (5, .class_ 279), (0, u "java/util/Collections$SynchronizedMap"), (1, .class_ 282), (0, u "java/util/Collections$SynchronizedSortedMap"), (1, .class_ 285), (0, u "java/util/Collections$SynchronizedNavigableMap"), (1, .class_ 288), (0, u "java/util/Collections$CheckedCollection"), (11, .class_ 301), (0, u "java/util/Collections$CheckedQueue"), (3, .class_ 306), (0, u "java/util/Collections$CheckedSet"), (3, .class_ 311), (0, u "java/util/Collections$CheckedSortedSet"), (3, .class_ 316), (0, u "java/util/Collections$CheckedNavigableSet"), (3, .class_ 321), (0, u "java/util/Collections$CheckedRandomAccessList"), (3, .class_ 326), (0, u "java/util/Collections$CheckedList"), (1, .class_ 329), (0, u "java/util/Collections$CheckedMap"), (3, .class_ 334), (0, u "java/util/Collections$CheckedSortedMap"), (3, .class_ 339), (0, u "java/util/Collections$CheckedNavigableMap"), (4, .class_ 346), (1, u "java/util/Collections$EmptyIterator"), (3, .class_ 352), (1, u "java/util/Collections$EmptyListIterator"), (2, .class_ 357), (1, u "java/util/Collections$EmptyEnumeration"), (4, u "EMPTY_SET"), (0, u "Ljava/util/Set;"), (6, u "EMPTY_LIST"), (0, u "Ljava/util/List;"), (2, u "EMPTY_MAP"), (0, u "Ljava/util/Map;"), (4, .class_ 381), (0, u "java/util/Collections$SingletonSet"), (2, .class_ 385), (0, u "java/util/Collections$1"), (1, .class_ 388), (0, u "java/util/Collections$2"), (1, .class_ 391), (0, u "java/util/Collections$SingletonList"), (1, .class_ 394), (0, u "java/util/Collections$SingletonMap"), (22, .class_ 418), (0, u "java/util/Collections$CopiesList"), (4, .class_ 425), (1, u "java/util/Collections$ReverseComparator"), (8, .class_ 435), (0, u "java/util/Collections$ReverseComparator2"), (6, .class_ 443), (0, u "java/util/Collections$3"), (25, .class_ 470), (0, u "java/util/Collections$SetFromMap"), (2, .class_ 474), (0, u "java/util/Collections$SequencedSetFromMap"), (3, .class_ 479), (0, u "java/util/Collections$AsLIFOQueue"), (11, .class_ 492), (0, u "java/util/Collections$EmptySet"), (1, .class_ 495), (0, u "java/util/Collections$EmptyList"), (1, .class_ 498), (0, u "java/util/Collections$EmptyMap"), (1, u "BINARYSEARCH_THRESHOLD"), (0, u "I"), (2, u "REVERSE_THRESHOLD"), (1, u "SHUFFLE_THRESHOLD"), (1, u "FILL_THRESHOLD"), (1, u "ROTATE_THRESHOLD"), (1, u "COPY_THRESHOLD"), (1, u "REPLACEALL_THRESHOLD"), (1, u "INDEXOFSUBLIST_THRESHOLD"), (333, .class_ 851), (0, u "java/util/Collections$CheckedMap$CheckedEntrySet"), (0, .class_ 853), (0, u "java/util/Collections$CheckedMap$CheckedEntrySet$CheckedEntry"), (0, .class_ 855), (0, u "java/util/Collections$CheckedMap$CheckedEntrySet$1"), (0, .class_ 857), (0, u "java/util/Collections$CheckedList$1"), (0, .class_ 859), (0, u "java/util/Collections$CheckedCollection$1"), (0, .class_ 861), (0, u "java/util/Collections$UnmodifiableNavigableMap$EmptyNavigableMap"), (0, .class_ 863), (0, u "java/util/Collections$UnmodifiableMap$UnmodifiableEntrySet"), (0, .class_ 865), (0, u "java/util/Collections$UnmodifiableMap$UnmodifiableEntrySet$UnmodifiableEntry"), (0, .class_ 867), (0, u "java/util/Collections$UnmodifiableMap$UnmodifiableEntrySet$UnmodifiableEntrySetSpliterator"), (0, .class_ 869), (0, u "java/util/Collections$UnmodifiableMap$UnmodifiableEntrySet$1"), (0, .class_ 871), (0, u "java/util/Collections$UnmodifiableList$1"), (0, .class_ 873), (0, u "java/util/Collections$UnmodifiableNavigableSet$EmptyNavigableSet"), (0, .class_ 875), (0, u "java/util/Collections$UnmodifiableCollection$1")] 57

def k24m0 : Method := { name := "<init>", desc := "()V", sig := { parameters := [], returnType := none }, accessFlags := 2, code := none }
/-- java/util/Collections -/
def k24 : Class := { plain "java/util/Collections" (some 0) with
  accessFlags := 33
  interfaces := #[]
  cf := some (fileOf pool24 19 #[.nestMembers #[478, 473, 469, 434, 423, 417, 393, 390, 380, 497, 494, 491, 355, 350, 344, 338, 333, 328, 850, 852, 854, 320, 325, 856, 315, 310, 305, 300, 287, 858, 284, 281, 278, 268, 271, 265, 262, 256, 250, 245, 860, 237, 231, 223, 862, 864, 866, 868, 215, 212, 870, 206, 872, 198, 190, 182, 174, 166, 874, 442, 387, 384]] #[{ accessFlags := 2, nameIndex := 5, descriptorIndex := 6, attributes := #[] }] 33 2 #[] #[{ accessFlags := 26, nameIndex := 500, descriptorIndex := 501, attributes := #[] }, { accessFlags := 26, nameIndex := 504, descriptorIndex := 501, attributes := #[] }, { accessFlags := 26, nameIndex := 506, descriptorIndex := 501, attributes := #[] }, { accessFlags := 26, nameIndex := 508, descriptorIndex := 501, attributes := #[] }, { accessFlags := 26, nameIndex := 510, descriptorIndex := 501, attributes := #[] }, { accessFlags := 26, nameIndex := 512, descriptorIndex := 501, attributes := #[] }, { accessFlags := 26, nameIndex := 514, descriptorIndex := 501, attributes := #[] }, { accessFlags := 26, nameIndex := 516, descriptorIndex := 501, attributes := #[] }, { accessFlags := 10, nameIndex := 84, descriptorIndex := 85, attributes := #[] }, { accessFlags := 25, nameIndex := 362, descriptorIndex := 363, attributes := #[] }, { accessFlags := 25, nameIndex := 370, descriptorIndex := 371, attributes := #[] }, { accessFlags := 25, nameIndex := 374, descriptorIndex := 375, attributes := #[] }])
  fields := #[{ name := "BINARYSEARCH_THRESHOLD", type := .int, accessFlags := 26, slot := 0, constantValue := 0 }, { name := "REVERSE_THRESHOLD", type := .int, accessFlags := 26, slot := 1, constantValue := 0 }, { name := "SHUFFLE_THRESHOLD", type := .int, accessFlags := 26, slot := 2, constantValue := 0 }, { name := "FILL_THRESHOLD", type := .int, accessFlags := 26, slot := 3, constantValue := 0 }, { name := "ROTATE_THRESHOLD", type := .int, accessFlags := 26, slot := 4, constantValue := 0 }, { name := "COPY_THRESHOLD", type := .int, accessFlags := 26, slot := 5, constantValue := 0 }, { name := "REPLACEALL_THRESHOLD", type := .int, accessFlags := 26, slot := 6, constantValue := 0 }, { name := "INDEXOFSUBLIST_THRESHOLD", type := .int, accessFlags := 26, slot := 7, constantValue := 0 }, { name := "r", type := (.object "java/util/Random"), accessFlags := 10, slot := 8, constantValue := 0 }, { name := "EMPTY_SET", type := (.object "java/util/Set"), accessFlags := 25, slot := 9, constantValue := 0 }, { name := "EMPTY_LIST", type := (.object "java/util/List"), accessFlags := 25, slot := 10, constantValue := 0 }, { name := "EMPTY_MAP", type := (.object "java/util/Map"), accessFlags := 25, slot := 11, constantValue := 0 }]
  methods := #[k24m0]
  instanceTypes := #[]
  staticTypes := #[.int, .int, .int, .int, .int, .int, .int, .int, (.object "java/util/Random"), (.object "java/util/Set"), (.object "java/util/List"), (.object "java/util/Map")]
  resolved := Array.replicate 933 none
  statics := some 5 }

def pool25 : Array CpInfo := pool [(8, .class_ 10), (1, u "java/lang/Iterable"), (24, .class_ 36), (0, u "java/lang/Object")] 25

/-- java/lang/Iterable -/
def k25 : Class := { plain "java/lang/Iterable" (some 0) with
  accessFlags := 1537
  interfaces := #[]
  cf := some (fileOf pool25 8 #[] #[] 1537 35 #[] #[])
  fields := #[]
  methods := #[]
  instanceTypes := #[]
  staticTypes := #[]
  resolved := Array.replicate 62 none
  statics := none }

def pool26 : Array CpInfo := pool [(10, .class_ 12), (1, u "java/util/Collection"), (47, .class_ 61), (0, u "java/lang/Object"), (0, .class_ 63), (0, u "java/lang/Iterable")] 51

/-- java/util/Collection -/
def k26 : Class := { plain "java/util/Collection" (some 0) with
  accessFlags := 1537
  interfaces := #[25]
  cf := some (fileOf pool26 10 #[] #[] 1537 60 #[62] #[])
  fields := #[]
  methods := #[]
  instanceTypes := #[]
  staticTypes := #[]
  resolved := Array.replicate 115 none
  statics := none }

def pool27 : Array CpInfo := pool [(2, .class_ 4), (1, u "java/lang/Object"), (0, u "<init>"), (0, u "()V"), (1, .class_ 10), (1, u "java/util/AbstractCollection"), (66, .class_ 78), (0, u "java/util/Collection")] 81

def k27m0 : Method := { name := "<init>", desc := "()V", sig := { parameters := [], returnType := none }, accessFlags := 4, code := none }
/-- java/util/AbstractCollection -/
def k27 : Class := { plain "java/util/AbstractCollection" (some 0) with
  accessFlags := 1057
  interfaces := #[26]
  cf := some (fileOf pool27 8 #[] #[{ accessFlags := 4, nameIndex := 5, descriptorIndex := 6, attributes := #[] }] 1057 2 #[77] #[])
  fields := #[]
  methods := #[k27m0]
  instanceTypes := #[]
  staticTypes := #[]
  resolved := Array.replicate 160 none
  statics := none }

def pool28 : Array CpInfo := pool [(8, .class_ 10), (1, u "java/util/SequencedCollection"), (15, .class_ 27), (0, u "java/lang/Object"), (0, .class_ 29), (0, u "java/util/Collection")] 27

/-- java/util/SequencedCollection -/
def k28 : Class := { plain "java/util/SequencedCollection" (some 0) with
  accessFlags := 1537
  interfaces := #[26]
  cf := some (fileOf pool28 8 #[] #[] 1537 26 #[28] #[])
  fields := #[]
  methods := #[]
  instanceTypes := #[]
  staticTypes := #[]
  resolved := Array.replicate 57 none
  statics := none }

def pool29 : Array CpInfo := pool [(8, .class_ 10), (1, u "java/util/List"), (92, .class_ 104), (0, u "java/lang/Object"), (15, .class_ 121), (0, u "java/util/SequencedCollection")] 129

/-- java/util/List -/
def k29 : Class := { plain "java/util/List" (some 0) with
  accessFlags := 1537
  interfaces := #[28]
  cf := some (fileOf pool29 8 #[] #[] 1537 103 #[120] #[])
  fields := #[]
  methods := #[]
  instanceTypes := #[]
  staticTypes := #[]
  resolved := Array.replicate 251 none
  statics := none }

def pool30 : Array CpInfo := pool [(2, .class_ 4), (1, u "java/util/AbstractCollection"), (0, u "<init>"), (0, u "()V"), (1, .class_ 10), (1, u "java/util/AbstractList"), (0, u "modCount"), (0, u "I"), (64, .class_ 78), (0, u "java/util/AbstractList$Itr"), (3, .class_ 83), (0, u "java/util/AbstractList$ListItr"), (9, .class_ 94), (0, u "java/util/AbstractList$RandomAccessSubList"), (3, .class_ 99), (0, u "java/util/AbstractList$SubList"), (33, .class_ 134), (0, u "java/util/List"), (73, .class_ 209), (0, u "java/util/AbstractList$SubList$1"), (0, .class_ 211), (0, u "java/util/AbstractList$RandomAccessSpliterator")] 6

def k30m0 : Method := { name := "<init>", desc := "()V", sig := { parameters := [], returnType := none }, accessFlags := 4, code := none }
/-- java/util/AbstractList -/
def k30 : Class := { plain "java/util/AbstractList" (some 27) with
  accessFlags := 1057
  interfaces := #[29]
  cf := some (fileOf pool30 8 #[.nestMembers #[93, 98, 208, 210, 82, 77]] #[{ accessFlags := 4, nameIndex := 5, descriptorIndex := 6, attributes := #[] }] 1057 2 #[133] #[{ accessFlags := 132, nameIndex := 11, descriptorIndex := 12, attributes := #[] }])
  fields := #[{ name := "modCount", type := .int, accessFlags := 132, slot := 0, constantValue := 0 }]
  methods := #[k30m0]
  instanceTypes := #[.int]
  staticTypes := #[]
  resolved := Array.replicate 218 none
  statics := none }

def pool31 : Array CpInfo := pool [(1, .class_ 2), (0, u "java/util/RandomAccess"), (0, .class_ 4), (0, u "java/lang/Object")] 2

/-- java/util/RandomAccess -/
def k31 : Class := { plain "java/util/RandomAccess" (some 0) with
  accessFlags := 1537
  interfaces := #[]
  cf := some (fileOf pool31 1 #[] #[] 1537 3 #[] #[])
  fields := #[]
  methods := #[]
  instanceTypes := #[]
  staticTypes := #[]
  resolved := Array.replicate 7 none
  statics := none }

def pool32 : Array CpInfo := pool [(2, .class_ 4), (1, u "java/util/AbstractList"), (0, u "<init>"), (0, u "()V"), (1, .class_ 10), (1, u "java/util/Collections"), (54, .class_ 66), (0, u "java/util/Collections$EmptyList"), (0, .class_ 68), (0, u "java/util/RandomAccess"), (0, .class_ 70), (0, u "java/io/Serializable"), (0, u "serialVersionUID"), (0, u "J")] 77

def k32m0 : Method := { name := "<init>", desc := "()V", sig := { parameters := [], returnType := none }, accessFlags := 2, code := none }
/-- java/util/Collections$EmptyList -/
def k32 : Class := { plain "java/util/Collections$EmptyList" (some 30) with
  accessFlags := 32
  interfaces := #[31, 2]
  cf := some (fileOf pool32 65 #[.nestHost 8] #[{ accessFlags := 2, nameIndex := 5, descriptorIndex := 6, attributes := #[] }] 32 2 #[67, 69] #[{ accessFlags := 26, nameIndex := 71, descriptorIndex := 72, attributes := #[] }])
  fields := #[{ name := "serialVersionUID", type := .long, accessFlags := 26, slot := 0, constantValue := 0 }]
  methods := #[k32m0]
  instanceTypes := #[.int]
  staticTypes := #[.long]
  resolved := Array.replicate 150 none
  statics := none }

def pool33 : Array CpInfo := pool [(2, .class_ 4), (1, u "java/lang/StackTraceElement"), (0, u "<init>"), (2, .class_ 10), (1, u "java/lang/Object"), (0, u "()V"), (2, u "format"), (0, u "B"), (2, u "classLoaderName"), (0, u "Ljava/lang/String;"), (2, u "moduleName"), (2, u "moduleVersion"), (12, u "declaringClass"), (4, u "methodName"), (2, u "fileName"), (2, u "lineNumber"), (0, u "I"), (65, u "declaringClassObject"), (0, u "Ljava/lang/Class;"), (33, .class_ 153), (1, u "java/lang/StackTraceElement$HashedModules"), (17, .class_ 172), (0, u "java/io/Serializable"), (0, u "NATIVE_METHOD"), (1, u "UNKNOWN_SOURCE"), (2, u "BUILTIN_CLASS_LOADER"), (1, u "JDK_NON_UPGRADEABLE_MODULE"), (1, u "serialVersionUID"), (0, u "J")] 51

def k33m0 : Method := { name := "<init>", desc := "()V", sig := { parameters := [], returnType := none }, accessFlags := 2, code := none }
/-- java/lang/StackTraceElement -/
def k33 : Class := { plain "java/lang/StackTraceElement" (some 0) with
  accessFlags := 49
  interfaces := #[2]
  cf := some (fileOf pool33 2 #[.nestMembers #[151]] #[{ accessFlags := 2, nameIndex := 5, descriptorIndex := 11, attributes := #[] }] 49 8 #[171] #[{ accessFlags := 26, nameIndex := 173, descriptorIndex := 19, attributes := #[] }, { accessFlags := 26, nameIndex := 175, descriptorIndex := 19, attributes := #[] }, { accessFlags := 130, nameIndex := 116, descriptorIndex := 117, attributes := #[] }, { accessFlags := 2, nameIndex := 18, descriptorIndex := 19, attributes := #[] }, { accessFlags := 2, nameIndex := 22, descriptorIndex := 19, attributes := #[] }, { accessFlags := 2, nameIndex := 25, descriptorIndex := 19, attributes := #[] }, { accessFlags := 2, nameIndex := 38, descriptorIndex := 19, attributes := #[] }, { accessFlags := 2, nameIndex := 43, descriptorIndex := 19, attributes := #[] }, { accessFlags := 2, nameIndex := 46, descriptorIndex := 19, attributes := #[] }, { accessFlags := 2, nameIndex := 49, descriptorIndex := 50, attributes := #[] }, { accessFlags := 2, nameIndex := 14, descriptorIndex := 15, attributes := #[] }, { accessFlags := 26, nameIndex := 178, descriptorIndex := 15, attributes := #[] }, { accessFlags := 26, nameIndex := 180, descriptorIndex := 15, attributes := #[] }, { accessFlags := 26, nameIndex := 182, descriptorIndex := 183, attributes := #[] }])
  fields := #[{ name := "NATIVE_METHOD", type := (.object "java/lang/String"), accessFlags := 26, slot := 0, constantValue := 0 }, { name := "UNKNOWN_SOURCE", type := (.object "java/lang/String"), accessFlags := 26, slot := 1, constantValue := 0 }, { name := "declaringClassObject", type := (.object "java/lang/Class"), accessFlags := 130, slot := 0, constantValue := 0 }, { name := "classLoaderName", type := (.object "java/lang/String"), accessFlags := 2, slot := 1, constantValue := 0 }, { name := "moduleName", type := (.object "java/lang/String"), accessFlags := 2, slot := 2, constantValue := 0 }, { name := "moduleVersion", type := (.object "java/lang/String"), accessFlags := 2, slot := 3, constantValue := 0 }, { name := "declaringClass", type := (.object "java/lang/String"), accessFlags := 2, slot := 4, constantValue := 0 }, { name := "methodName", type := (.object "java/lang/String"), accessFlags := 2, slot := 5, constantValue := 0 }, { name := "fileName", type := (.object "java/lang/String"), accessFlags := 2, slot := 6, constantValue := 0 }, { name := "lineNumber", type := .int, accessFlags := 2, slot := 7, constantValue := 0 }, { name := "format", type := .byte, accessFlags := 2, slot := 8, constantValue := 0 }, { name := "BUILTIN_CLASS_LOADER", type := .byte, accessFlags := 26, slot := 2, constantValue := 0 }, { name := "JDK_NON_UPGRADEABLE_MODULE", type := .byte, accessFlags := 26, slot := 3, constantValue := 0 }, { name := "serialVersionUID", type := .long, accessFlags := 26, slot := 4, constantValue := 0 }]
  methods := #[k33m0]
  instanceTypes := #[(.object "java/lang/Class"), (.object "java/lang/String"), (.object "java/lang/String"), (.object "java/lang/String"), (.object "java/lang/String"), (.object "java/lang/String"), (.object "java/lang/String"), .int, .byte]
  staticTypes := #[(.object "java/lang/String"), (.object "java/lang/String"), .byte, .byte, .long]
  resolved := Array.replicate 235 none
  statics := none }

def pool34 : Array CpInfo := pool [(1, u "java/lang/Cloneable"), (0, .class_ 1), (0, u "java/lang/Object"), (0, .class_ 3)] 3

/-- java/lang/Cloneable -/
def k34 : Class := { plain "java/lang/Cloneable" (some 0) with
  accessFlags := 1537
  interfaces := #[]
  cf := some (fileOf pool34 2 #[] #[] 1537 4 #[] #[])
  fields := #[]
  methods := #[]
  instanceTypes := #[]
  staticTypes := #[]
  resolved := Array.replicate 8 none
  statics := none }

/-- the primitive byte -/
def k35 : Class := { plain "byte" none with kind := .primitive 'B', accessFlags := 0x411 }
/-- [B -/
def k36 : Class := { plain "[B" (some 0) with kind := .array 35 .byte, interfaces := #[34, 2], accessFlags := 1041 }

/-- the primitive int -/
def k37 : Class := { plain "int" none with kind := .primitive 'I', accessFlags := 0x411 }
/-- [I -/
def k38 : Class := { plain "[I" (some 0) with kind := .array 37 .int, interfaces := #[34, 2], accessFlags := 1041 }

/-- the primitive long -/
def k39 : Class := { plain "long" none with kind := .primitive 'J', accessFlags := 0x411 }
/-- [J -/
def k40 : Class := { plain "[J" (some 0) with kind := .array 39 .long, interfaces := #[34, 2], accessFlags := 1041 }

/-- [Ljava/lang/Object; -/
def k41 : Class := { plain "[Ljava/lang/Object;" (some 0) with kind := .array 0 (.object "java/lang/Object"), interfaces := #[34, 2], accessFlags := 1041 }

/-- [Ljava/lang/StackTraceElement; -/
def k42 : Class := { plain "[Ljava/lang/StackTraceElement;" (some 0) with kind := .array 33 (.object "java/lang/StackTraceElement"), interfaces := #[34, 2], accessFlags := 1041 }

/-- [Ljava/lang/Throwable; -/
def k43 : Class := { plain "[Ljava/lang/Throwable;" (some 0) with kind := .array 3 (.object "java/lang/Throwable"), interfaces := #[34, 2], accessFlags := 1041 }

def heap : Heap := #[{ cls := 3, slots := #[.long 0, .ref 8, .ref 9, .null, .null, .null, .null, .ref 10, .int 1], vm := .statics 3 },
  { cls := 14, slots := #[.long 0, .int 1, .null, .int 0, .null, .int 0, .int 0], vm := .statics 14 },
  { cls := 20, slots := #[.int 0, .int 0, .null, .null, .ref 7, .ref 6, .int 0, .int 0, .long 0], vm := .statics 20 },
  { cls := 21, slots := #[.ref 11], vm := .statics 21 },
  { cls := 23, slots := #[.null, .null, .null], vm := .statics 23 },
  { cls := 24, slots := #[.int 0, .int 0, .int 0, .int 0, .int 0, .int 0, .int 0, .int 0, .null, .null, .ref 9, .null], vm := .statics 24 },
  { cls := 36, slots := #[.int 48, .int 49, .int 50, .int 51, .int 52, .int 53, .int 54, .int 55, .int 56, .int 57, .int 48, .int 49, .int 50, .int 51, .int 52, .int 53, .int 54, .int 55, .int 56, .int 57, .int 48, .int 49, .int 50, .int 51, .int 52, .int 53, .int 54, .int 55, .int 56, .int 57, .int 48, .int 49, .int 50, .int 51, .int 52, .int 53, .int 54, .int 55, .int 56, .int 57, .int 48, .int 49, .int 50, .int 51, .int 52, .int 53, .int 54, .int 55, .int 56, .int 57, .int 48, .int 49, .int 50, .int 51, .int 52, .int 53, .int 54, .int 55, .int 56, .int 57, .int 48, .int 49, .int 50, .int 51, .int 52, .int 53, .int 54, .int 55, .int 56, .int 57, .int 48, .int 49, .int 50, .int 51, .int 52, .int 53, .int 54, .int 55, .int 56, .int 57, .int 48, .int 49, .int 50, .int 51, .int 52, .int 53, .int 54, .int 55, .int 56, .int 57, .int 48, .int 49, .int 50, .int 51, .int 52, .int 53, .int 54, .int 55, .int 56, .int 57], vm := .none },
  { cls := 36, slots := #[.int 48, .int 48, .int 48, .int 48, .int 48, .int 48, .int 48, .int 48, .int 48, .int 48, .int 49, .int 49, .int 49, .int 49, .int 49, .int 49, .int 49, .int 49, .int 49, .int 49, .int 50, .int 50, .int 50, .int 50, .int 50, .int 50, .int 50, .int 50, .int 50, .int 50, .int 51, .int 51, .int 51, .int 51, .int 51, .int 51, .int 51, .int 51, .int 51, .int 51, .int 52, .int 52, .int 52, .int 52, .int 52, .int 52, .int 52, .int 52, .int 52, .int 52, .int 53, .int 53, .int 53, .int 53, .int 53, .int 53, .int 53, .int 53, .int 53, .int 53, .int 54, .int 54, .int 54, .int 54, .int 54, .int 54, .int 54, .int 54, .int 54, .int 54, .int 55, .int 55, .int 55, .int 55, .int 55, .int 55, .int 55, .int 55, .int 55, .int 55, .int 56, .int 56, .int 56, .int 56, .int 56, .int 56, .int 56, .int 56, .int 56, .int 56, .int 57, .int 57, .int 57, .int 57, .int 57, .int 57, .int 57, .int 57, .int 57, .int 57], vm := .none },
  { cls := 42, slots := #[], vm := .none },
  { cls := 32, slots := #[.int 0], vm := .none },
  { cls := 43, slots := #[], vm := .none },
  { cls := 21, slots := #[.null], vm := .none }]
def classes : Array Class := #[k0, k1, k2, k3, k4, k5, k6, k7, k8, k9, k10, k11, k12, k13, k14, k15, k16, k17, k18, k19, k20, k21, k22, k23, k24, k25, k26, k27, k28, k29, k30, k31, k32, k33, k34, k35, k36, k37, k38, k39, k40, k41, k42, k43]
def interned : List (Array UInt16 × Addr) := []
def slotsUsed : Nat := 243
def theMethod : MethodId := ⟨1, 1⟩
def args0 : Array Value := #[.int 5]
def aboutOver (below : List Frame) : State where
  vm := { classes := classes, interned := interned.toArray }
  heap := heap
  slotsUsed := slotsUsed
  threads := #[{ frames := .invoking theMethod args0 :: below }]
def below0 : List Frame := [.native { method := ⟨0, 0⟩, args := #[] }]
def about1 : State := aboutOver below0
def p0 : Program := .bare "" "" ""
def e0 : Env := launch0.env 0 0 0
theorem w_frames : about1.frames = Frame.invoking theMethod args0 :: below0 := rfl
set_option maxRecDepth 65536 in
theorem w_args : argsFit about1.vm theMethod args0 = true := by decide +kernel
set_option maxRecDepth 65536 in
theorem w_heap : heapFits about1 = true := by decide +kernel
set_option maxRecDepth 65536 in
theorem w_runnable : about1.curStatus? = some .runnable := by decide +kernel
set_option maxRecDepth 65536 in
theorem w_alone : about1.alone = true := by decide +kernel
set_option maxRecDepth 65536 in
theorem w_named : about1.methodNamed? x = some theMethod := by decide +kernel
set_option maxRecDepth 65536 in
theorem w_hears : about1.hears theMethod below0 = true := by decide +kernel
set_option maxRecDepth 65536 in
theorem w_ripe : about1.ripe theMethod args0 below0 = true := by decide +kernel
theorem w_running : about1.status = .running := rfl
set_option maxRecDepth 65536 in
theorem w_room : about1.hasRoom e0.platform room_1 = true :=
  launch0.hasRoom_least _ room_1 (by decide +kernel) (by decide +kernel) (by decide +kernel) (by decide +kernel) (by decide +kernel) (by decide +kernel)
theorem allAtoms_all (ts : List Jvm.Cond) (a : Array Jvm.Value) (st : Jvm.State) : (allAtoms ts).before a st = ts.all (fun c => c.before a st) := by
  induction ts with
  | nil => rfl
  | cons c t ih =>
    show (Jvm.Cond.and c (allAtoms t)).before a st = _
    rw [Jvm.Cond.before_and, ih, List.all_cons]
def words1 : List Jvm.Cond := Jvm.Cond.code x code maxLocals ret :: tables_1
/-- a 'code' word, met by the world's own term for the bytes: nothing is compared byte by byte -/
theorem code_word {y : MethodName} {bytes : ByteArray} {mx : Nat} {rt : Option FieldType} {a : Array Value} {s : State} {m : MethodId} {meth : Method} {c : Code} (h1 : s.methodNamed? y = some m) (h2 : s.vm.method? m = some meth) (h3 : meth.code = some c) (h4 : c.code = bytes)
    (h5 : (c.maxLocals == mx && c.exceptionTable.isEmpty && decide (c.maxStack ≤ mostOperands) && decide (meth.sig.returnType = rt) && !meth.locks && decide (parseMethodDescriptor y.desc = some meth.sig)) = true) : (Jvm.Cond.code y bytes mx rt).before a s = true := by
  simp only [Bool.and_eq_true, beq_iff_eq, Bool.not_eq_true', decide_eq_true_eq] at h5
  obtain ⟨⟨⟨⟨⟨g1, g2⟩, g3⟩, g4⟩, g5⟩, g6⟩ := h5
  simp [Cond.before, Cond.holds, Cond.value, h1, h2, h3, h4, g1, g2, g3, g4, g5, g6]
def isCode : Jvm.Cond → Bool
  | .code _ _ _ _ => true
  | _ => false
theorem all_split {L : List Jvm.Cond} {P : Jvm.Cond → Bool} (h1 : L.all (fun c => isCode c || P c) = true) (h2 : ∀ c ∈ L.filter isCode, P c = true) : L.all P = true := by
  refine List.all_eq_true.mpr fun c hc => ?_
  have h := List.all_eq_true.mp h1 c hc
  rcases Bool.eq_false_or_eq_true (isCode c) with hi | hi
  · exact h2 c (List.mem_filter.mpr ⟨hc, hi⟩)
  · simpa [hi] using h
set_option maxRecDepth 65536 in
theorem w_c0 : (Jvm.Cond.code x code maxLocals ret).before args0 about1 = true := code_word (m := ⟨1, 1⟩) (meth := k1m1) (c := k1c1) (by decide +kernel) rfl rfl rfl (by decide +kernel)
set_option maxRecDepth 65536 in
theorem w_c1 : (Jvm.Cond.code ({ cls := "com/example/rollbook/rollbook/http/ApiException", name := "bodyTooLarge", desc := "(I)Lcom/example/rollbook/rollbook/http/ApiException;" } : Jvm.MethodName) prog_50_method_3_code (1 : Nat) (Option.some (Jvm.ClassFile.FieldType.object "com/example/rollbook/rollbook/http/ApiException"))).before args0 about1 = true := code_word (m := ⟨6, 1⟩) (meth := k6m1) (c := k6c1) (by decide +kernel) rfl rfl rfl (by decide +kernel)
set_option maxRecDepth 65536 in
theorem w_c2 : (Jvm.Cond.code ({ cls := "java/lang/StringBuilder", name := "<init>", desc := "()V" } : Jvm.MethodName) jdk_67_method_1_code (1 : Nat) (Option.none : Option Jvm.ClassFile.FieldType)).before args0 about1 = true := code_word (m := ⟨11, 0⟩) (meth := k11m0) (c := k11c0) (by decide +kernel) rfl rfl rfl (by decide +kernel)
set_option maxRecDepth 65536 in
theorem w_c3 : (Jvm.Cond.code ({ cls := "java/lang/AbstractStringBuilder", name := "<init>", desc := "(I)V" } : Jvm.MethodName) jdk_68_method_2_code (2 : Nat) (Option.none : Option Jvm.ClassFile.FieldType)).before args0 about1 = true := code_word (m := ⟨9, 1⟩) (meth := k9m1) (c := k9c1) (by decide +kernel) rfl rfl rfl (by decide +kernel)
set_option maxRecDepth 65536 in
theorem w_c4 : (Jvm.Cond.code ({ cls := "java/lang/Object", name := "<init>", desc := "()V" } : Jvm.MethodName) object_method_1_code (1 : Nat) (Option.none : Option Jvm.ClassFile.FieldType)).before args0 about1 = true := code_word (m := ⟨0, 0⟩) (meth := k0m0) (c := k0c0) (by decide +kernel) rfl rfl rfl (by decide +kernel)
set_option maxRecDepth 65536 in
theorem w_c5 : (Jvm.Cond.code ({ cls := "java/lang/StringBuilder", name := "append", desc := "(Ljava/lang/String;)Ljava/lang/StringBuilder;" } : Jvm.MethodName) jdk_67_method_7_code (2 : Nat) (Option.some (Jvm.ClassFile.FieldType.object "java/lang/StringBuilder"))).before args0 about1 = true := code_word (m := ⟨11, 1⟩) (meth := k11m1) (c := k11c1) (by decide +kernel) rfl rfl rfl (by decide +kernel)
set_option maxRecDepth 65536 in
theorem w_c6 : (Jvm.Cond.code ({ cls := "java/lang/AbstractStringBuilder", name := "append", desc := "(Ljava/lang/String;)Ljava/lang/AbstractStringBuilder;" } : Jvm.MethodName) jdk_68_method_22_code (3 : Nat) (Option.some (Jvm.ClassFile.FieldType.object "java/lang/AbstractStringBuilder"))).before args0 about1 = true := code_word (m := ⟨9, 5⟩) (meth := k9m5) (c := k9c5) (by decide +kernel) rfl rfl rfl (by decide +kernel)
set_option maxRecDepth 65536 in
theorem w_c7 : (Jvm.Cond.code ({ cls := "java/lang/String", name := "length", desc := "()I" } : Jvm.MethodName) jdk_42_method_54_code (1 : Nat) (Option.some Jvm.ClassFile.FieldType.int)).before args0 about1 = true := code_word (m := ⟨14, 2⟩) (meth := k14m2) (c := k14c2) (by decide +kernel) rfl rfl rfl (by decide +kernel)
set_option maxRecDepth 65536 in
theorem w_c8 : (Jvm.Cond.code ({ cls := "java/lang/String", name := "coder", desc := "()B" } : Jvm.MethodName) jdk_42_method_152_code (1 : Nat) (Option.some Jvm.ClassFile.FieldType.byte)).before args0 about1 = true := code_word (m := ⟨14, 6⟩) (meth := k14m6) (c := k14c6) (by decide +kernel) rfl rfl rfl (by decide +kernel)
set_option maxRecDepth 65536 in
theorem w_c9 : (Jvm.Cond.code ({ cls := "java/lang/AbstractStringBuilder", name := "ensureCapacityInternal", desc := "(I)V" } : Jvm.MethodName) jdk_68_method_9_code (3 : Nat) (Option.none : Option Jvm.ClassFile.FieldType)).before args0 about1 = true := code_word (m := ⟨9, 3⟩) (meth := k9m3) (c := k9c3) (by decide +kernel) rfl rfl rfl (by decide +kernel)
set_option maxRecDepth 65536 in
theorem w_c10 : (Jvm.Cond.code ({ cls := "java/lang/AbstractStringBuilder", name := "newCapacity", desc := "(I)I" } : Jvm.MethodName) jdk_68_method_10_code (6 : Nat) (Option.some Jvm.ClassFile.FieldType.int)).before args0 about1 = true := code_word (m := ⟨9, 4⟩) (meth := k9m4) (c := k9c4) (by decide +kernel) rfl rfl rfl (by decide +kernel)
set_option maxRecDepth 65536 in
theorem w_c11 : (Jvm.Cond.code ({ cls := "jdk/internal/util/ArraysSupport", name := "newLength", desc := "(III)I" } : Jvm.MethodName) jdk_48_method_27_code (4 : Nat) (Option.some Jvm.ClassFile.FieldType.int)).before args0 about1 = true := code_word (m := ⟨15, 1⟩) (meth := k15m1) (c := k15c1) (by decide +kernel) rfl rfl rfl (by decide +kernel)
set_option maxRecDepth 65536 in
theorem w_c12 : (Jvm.Cond.code ({ cls := "java/lang/Math", name := "max", desc := "(II)I" } : Jvm.MethodName) jdk_29_method_65_code (2 : Nat) (Option.some Jvm.ClassFile.FieldType.int)).before args0 about1 = true := code_word (m := ⟨16, 1⟩) (meth := k16m1) (c := k16c1) (by decide +kernel) rfl rfl rfl (by decide +kernel)
set_option maxRecDepth 65536 in
theorem w_c13 : (Jvm.Cond.code ({ cls := "java/util/Arrays", name := "copyOf", desc := "([BI)[B" } : Jvm.MethodName) jdk_65_method_121_code (3 : Nat) (Option.some (Jvm.ClassFile.FieldType.array Jvm.ClassFile.FieldType.byte))).before args0 about1 = true := code_word (m := ⟨17, 1⟩) (meth := k17m1) (c := k17c1) (by decide +kernel) rfl rfl rfl (by decide +kernel)
set_option maxRecDepth 65536 in
theorem w_c14 : (Jvm.Cond.code ({ cls := "java/lang/Math", name := "min", desc := "(II)I" } : Jvm.MethodName) jdk_29_method_69_code (2 : Nat) (Option.some Jvm.ClassFile.FieldType.int)).before args0 about1 = true := code_word (m := ⟨16, 2⟩) (meth := k16m2) (c := k16c2) (by decide +kernel) rfl rfl rfl (by decide +kernel)
set_option maxRecDepth 65536 in
theorem w_c15 : (Jvm.Cond.code ({ cls := "java/lang/AbstractStringBuilder", name := "putStringAt", desc := "(ILjava/lang/String;)V" } : Jvm.MethodName) jdk_68_method_73_code (3 : Nat) (Option.none : Option Jvm.ClassFile.FieldType)).before args0 about1 = true := code_word (m := ⟨9, 10⟩) (meth := k9m10) (c := k9c10) (by decide +kernel) rfl rfl rfl (by decide +kernel)
set_option maxRecDepth 65536 in
theorem w_c16 : (Jvm.Cond.code ({ cls := "java/lang/AbstractStringBuilder", name := "inflateIfNeededFor", desc := "(Ljava/lang/String;)V" } : Jvm.MethodName) jdk_68_method_71_code (2 : Nat) (Option.none : Option Jvm.ClassFile.FieldType)).before args0 about1 = true := code_word (m := ⟨9, 9⟩) (meth := k9m9) (c := k9c9) (by decide +kernel) rfl rfl rfl (by decide +kernel)
set_option maxRecDepth 65536 in
theorem w_c17 : (Jvm.Cond.code ({ cls := "java/lang/String", name := "getBytes", desc := "([BIB)V" } : Jvm.MethodName) jdk_42_method_147_code (4 : Nat) (Option.none : Option Jvm.ClassFile.FieldType)).before args0 about1 = true := code_word (m := ⟨14, 4⟩) (meth := k14m4) (c := k14c4) (by decide +kernel) rfl rfl rfl (by decide +kernel)
set_option maxRecDepth 65536 in
theorem w_c18 : (Jvm.Cond.code ({ cls := "java/lang/StringBuilder", name := "append", desc := "(I)Ljava/lang/StringBuilder;" } : Jvm.MethodName) jdk_67_method_15_code (2 : Nat) (Option.some (Jvm.ClassFile.FieldType.object "java/lang/StringBuilder"))).before args0 about1 = true := code_word (m := ⟨11, 2⟩) (meth := k11m2) (c := k11c2) (by decide +kernel) rfl rfl rfl (by decide +kernel)
set_option maxRecDepth 65536 in
theorem w_c19 : (Jvm.Cond.code ({ cls := "java/lang/AbstractStringBuilder", name := "append", desc := "(I)Ljava/lang/AbstractStringBuilder;" } : Jvm.MethodName) jdk_68_method_32_code (4 : Nat) (Option.some (Jvm.ClassFile.FieldType.object "java/lang/AbstractStringBuilder"))).before args0 about1 = true := code_word (m := ⟨9, 6⟩) (meth := k9m6) (c := k9c6) (by decide +kernel) rfl rfl rfl (by decide +kernel)
set_option maxRecDepth 65536 in
theorem w_c20 : (Jvm.Cond.code ({ cls := "java/lang/Integer", name := "stringSize", desc := "(I)I" } : Jvm.MethodName) jdk_33_method_13_code (4 : Nat) (Option.some Jvm.ClassFile.FieldType.int)).before args0 about1 = true := code_word (m := ⟨20, 1⟩) (meth := k20m1) (c := k20c1) (by decide +kernel) rfl rfl rfl (by decide +kernel)
set_option maxRecDepth 65536 in
theorem w_c21 : (Jvm.Cond.code ({ cls := "java/lang/AbstractStringBuilder", name := "isLatin1", desc := "()Z" } : Jvm.MethodName) jdk_68_method_68_code (1 : Nat) (Option.some Jvm.ClassFile.FieldType.boolean)).before args0 about1 = true := code_word (m := ⟨9, 8⟩) (meth := k9m8) (c := k9c8) (by decide +kernel) rfl rfl rfl (by decide +kernel)
set_option maxRecDepth 65536 in
theorem w_c22 : (Jvm.Cond.code ({ cls := "java/lang/Integer", name := "getChars", desc := "(II[B)I" } : Jvm.MethodName) jdk_33_method_12_code (7 : Nat) (Option.some Jvm.ClassFile.FieldType.int)).before args0 about1 = true := code_word (m := ⟨20, 0⟩) (meth := k20m0) (c := k20c0) (by decide +kernel) rfl rfl rfl (by decide +kernel)
set_option maxRecDepth 65536 in
theorem w_c23 : (Jvm.Cond.code ({ cls := "java/lang/StringBuilder", name := "toString", desc := "()Ljava/lang/String;" } : Jvm.MethodName) jdk_67_method_42_code (1 : Nat) (Option.some (Jvm.ClassFile.FieldType.object "java/lang/String"))).before args0 about1 = true := code_word (m := ⟨11, 3⟩) (meth := k11m3) (c := k11c3) (by decide +kernel) rfl rfl rfl (by decide +kernel)
set_option maxRecDepth 65536 in
theorem w_c24 : (Jvm.Cond.code ({ cls := "java/lang/String", name := "<init>", desc := "(Ljava/lang/StringBuilder;)V" } : Jvm.MethodName) jdk_42_method_53_code (2 : Nat) (Option.none : Option Jvm.ClassFile.FieldType)).before args0 about1 = true := code_word (m := ⟨14, 1⟩) (meth := k14m1) (c := k14c1) (by decide +kernel) rfl rfl rfl (by decide +kernel)
set_option maxRecDepth 65536 in
theorem w_c25 : (Jvm.Cond.code ({ cls := "java/lang/String", name := "<init>", desc := "(Ljava/lang/AbstractStringBuilder;Ljava/lang/Void;)V" } : Jvm.MethodName) jdk_42_method_150_code (5 : Nat) (Option.none : Option Jvm.ClassFile.FieldType)).before args0 about1 = true := code_word (m := ⟨14, 5⟩) (meth := k14m5) (c := k14c5) (by decide +kernel) rfl rfl rfl (by decide +kernel)
set_option maxRecDepth 65536 in
theorem w_c26 : (Jvm.Cond.code ({ cls := "java/lang/AbstractStringBuilder", name := "getValue", desc := "()[B" } : Jvm.MethodName) jdk_68_method_64_code (1 : Nat) (Option.some (Jvm.ClassFile.FieldType.array Jvm.ClassFile.FieldType.byte))).before args0 about1 = true := code_word (m := ⟨9, 7⟩) (meth := k9m7) (c := k9c7) (by decide +kernel) rfl rfl rfl (by decide +kernel)
set_option maxRecDepth 65536 in
theorem w_c27 : (Jvm.Cond.code ({ cls := "java/lang/StringBuilder", name := "length", desc := "()I" } : Jvm.MethodName) jdk_67_method_93_code (1 : Nat) (Option.some Jvm.ClassFile.FieldType.int)).before args0 about1 = true := code_word (m := ⟨11, 4⟩) (meth := k11m4) (c := k11c4) (by decide +kernel) rfl rfl rfl (by decide +kernel)
set_option maxRecDepth 65536 in
theorem w_c28 : (Jvm.Cond.code ({ cls := "java/lang/AbstractStringBuilder", name := "length", desc := "()I" } : Jvm.MethodName) jdk_68_method_6_code (1 : Nat) (Option.some Jvm.ClassFile.FieldType.int)).before args0 about1 = true := code_word (m := ⟨9, 2⟩) (meth := k9m2) (c := k9c2) (by decide +kernel) rfl rfl rfl (by decide +kernel)
set_option maxRecDepth 65536 in
theorem w_c29 : (Jvm.Cond.code ({ cls := "java/util/Arrays", name := "copyOfRange", desc := "([BII)[B" } : Jvm.MethodName) jdk_65_method_132_code (3 : Nat) (Option.some (Jvm.ClassFile.FieldType.array Jvm.ClassFile.FieldType.byte))).before args0 about1 = true := code_word (m := ⟨17, 3⟩) (meth := k17m3) (c := k17c3) (by decide +kernel) rfl rfl rfl (by decide +kernel)
set_option maxRecDepth 65536 in
theorem w_c30 : (Jvm.Cond.code ({ cls := "java/util/Arrays", name := "copyOfRangeByte", desc := "([BII)[B" } : Jvm.MethodName) jdk_65_method_133_code (5 : Nat) (Option.some (Jvm.ClassFile.FieldType.array Jvm.ClassFile.FieldType.byte))).before args0 about1 = true := code_word (m := ⟨17, 4⟩) (meth := k17m4) (c := k17c4) (by decide +kernel) rfl rfl rfl (by decide +kernel)
set_option maxRecDepth 65536 in
theorem w_c31 : (Jvm.Cond.code ({ cls := "java/util/Arrays", name := "checkLength", desc := "(II)V" } : Jvm.MethodName) jdk_65_method_131_code (2 : Nat) (Option.none : Option Jvm.ClassFile.FieldType)).before args0 about1 = true := code_word (m := ⟨17, 2⟩) (meth := k17m2) (c := k17c2) (by decide +kernel) rfl rfl rfl (by decide +kernel)
set_option maxRecDepth 65536 in
theorem w_c32 : (Jvm.Cond.code ({ cls := "com/example/rollbook/rollbook/http/ApiException", name := "<init>", desc := "(ILjava/lang/String;Ljava/lang/String;)V" } : Jvm.MethodName) prog_50_method_1_code (4 : Nat) (Option.none : Option Jvm.ClassFile.FieldType)).before args0 about1 = true := code_word (m := ⟨6, 0⟩) (meth := k6m0) (c := k6c0) (by decide +kernel) rfl rfl rfl (by decide +kernel)
set_option maxRecDepth 65536 in
theorem w_c33 : (Jvm.Cond.code ({ cls := "java/lang/RuntimeException", name := "<init>", desc := "(Ljava/lang/String;)V" } : Jvm.MethodName) jdk_58_method_2_code (2 : Nat) (Option.none : Option Jvm.ClassFile.FieldType)).before args0 about1 = true := code_word (m := ⟨5, 1⟩) (meth := k5m1) (c := k5c1) (by decide +kernel) rfl rfl rfl (by decide +kernel)
set_option maxRecDepth 65536 in
theorem w_c34 : (Jvm.Cond.code ({ cls := "java/lang/Exception", name := "<init>", desc := "(Ljava/lang/String;)V" } : Jvm.MethodName) jdk_59_method_2_code (2 : Nat) (Option.none : Option Jvm.ClassFile.FieldType)).before args0 about1 = true := code_word (m := ⟨4, 1⟩) (meth := k4m1) (c := k4c1) (by decide +kernel) rfl rfl rfl (by decide +kernel)
set_option maxRecDepth 65536 in
theorem w_c35 : (Jvm.Cond.code ({ cls := "java/lang/Throwable", name := "<init>", desc := "(Ljava/lang/String;)V" } : Jvm.MethodName) jdk_78_method_2_code (2 : Nat) (Option.none : Option Jvm.ClassFile.FieldType)).before args0 about1 = true := code_word (m := ⟨3, 1⟩) (meth := k3m1) (c := k3c1) (by decide +kernel) rfl rfl rfl (by decide +kernel)
set_option maxRecDepth 65536 in
theorem w_c36 : (Jvm.Cond.code ({ cls := "java/lang/Throwable", name := "<init>", desc := "()V" } : Jvm.MethodName) jdk_78_method_1_code (1 : Nat) (Option.none : Option Jvm.ClassFile.FieldType)).before args0 about1 = true := code_word (m := ⟨3, 0⟩) (meth := k3m0) (c := k3c0) (by decide +kernel) rfl rfl rfl (by decide +kernel)
set_option maxRecDepth 65536 in
theorem w_c37 : (Jvm.Cond.code ({ cls := "com/example/rollbook/rollbook/http/ApiException", name := "status", desc := "()I" } : Jvm.MethodName) prog_50_method_4_code (1 : Nat) (Option.some Jvm.ClassFile.FieldType.int)).before args0 about1 = true := code_word (m := ⟨6, 2⟩) (meth := k6m2) (c := k6c2) (by decide +kernel) rfl rfl rfl (by decide +kernel)
set_option maxRecDepth 65536 in
theorem w_c38 : (Jvm.Cond.code ({ cls := "com/example/rollbook/rollbook/http/ApiException", name := "allow", desc := "()Ljava/util/Optional;" } : Jvm.MethodName) prog_50_method_5_code (1 : Nat) (Option.some (Jvm.ClassFile.FieldType.object "java/util/Optional"))).before args0 about1 = true := code_word (m := ⟨6, 3⟩) (meth := k6m3) (c := k6c3) (by decide +kernel) rfl rfl rfl (by decide +kernel)
set_option maxRecDepth 65536 in
theorem w_c39 : (Jvm.Cond.code ({ cls := "java/util/Optional", name := "ofNullable", desc := "(Ljava/lang/Object;)Ljava/util/Optional;" } : Jvm.MethodName) jdk_32_method_4_code (1 : Nat) (Option.some (Jvm.ClassFile.FieldType.object "java/util/Optional"))).before args0 about1 = true := code_word (m := ⟨21, 0⟩) (meth := k21m0) (c := k21c0) (by decide +kernel) rfl rfl rfl (by decide +kernel)
set_option maxRecDepth 65536 in
theorem w_c40 : (Jvm.Cond.code ({ cls := "java/util/Optional", name := "isPresent", desc := "()Z" } : Jvm.MethodName) jdk_32_method_6_code (1 : Nat) (Option.some Jvm.ClassFile.FieldType.boolean)).before args0 about1 = true := code_word (m := ⟨21, 1⟩) (meth := k21m1) (c := k21c1) (by decide +kernel) rfl rfl rfl (by decide +kernel)
set_option maxRecDepth 65536 in
theorem w_c41 : (Jvm.Cond.code ({ cls := "java/lang/Throwable", name := "getMessage", desc := "()Ljava/lang/String;" } : Jvm.MethodName) jdk_78_method_6_code (1 : Nat) (Option.some (Jvm.ClassFile.FieldType.object "java/lang/String"))).before args0 about1 = true := code_word (m := ⟨3, 2⟩) (meth := k3m2) (c := k3c2) (by decide +kernel) rfl rfl rfl (by decide +kernel)
set_option maxRecDepth 65536 in
theorem w_c42 : (Jvm.Cond.code ({ cls := "com/example/rollbook/rollbook/http/ApiExceptionBodyTooLargePinLaw", name := "digits", desc := "(J)I" } : Jvm.MethodName) method_3_code (2 : Nat) (Option.some Jvm.ClassFile.FieldType.int)).before args0 about1 = true := code_word (m := ⟨1, 2⟩) (meth := k1m2) (c := k1c2) (by decide +kernel) rfl rfl rfl (by decide +kernel)
set_option maxRecDepth 65536 in
theorem w_c43 : (Jvm.Cond.code ({ cls := "com/example/rollbook/rollbook/http/ApiExceptionBodyTooLargePinLaw", name := "has", desc := "(Ljava/lang/String;ILjava/lang/String;)Z" } : Jvm.MethodName) method_5_code (3 : Nat) (Option.some Jvm.ClassFile.FieldType.boolean)).before args0 about1 = true := code_word (m := ⟨1, 4⟩) (meth := k1m4) (c := k1c4) (by decide +kernel) rfl rfl rfl (by decide +kernel)
set_option maxRecDepth 65536 in
theorem w_c44 : (Jvm.Cond.code ({ cls := "com/example/rollbook/rollbook/http/ApiExceptionBodyTooLargePinLaw", name := "at", desc := "(Ljava/lang/String;ILjava/lang/String;I)Z" } : Jvm.MethodName) method_6_code (5 : Nat) (Option.some Jvm.ClassFile.FieldType.boolean)).before args0 about1 = true := code_word (m := ⟨1, 5⟩) (meth := k1m5) (c := k1c5) (by decide +kernel) rfl rfl rfl (by decide +kernel)
set_option maxRecDepth 65536 in
theorem w_c45 : (Jvm.Cond.code ({ cls := "java/lang/String", name := "charAt", desc := "(I)C" } : Jvm.MethodName) jdk_42_method_56_code (2 : Nat) (Option.some Jvm.ClassFile.FieldType.char)).before args0 about1 = true := code_word (m := ⟨14, 3⟩) (meth := k14m3) (c := k14c3) (by decide +kernel) rfl rfl rfl (by decide +kernel)
set_option maxRecDepth 65536 in
theorem w_c46 : (Jvm.Cond.code ({ cls := "java/lang/String", name := "isLatin1", desc := "()Z" } : Jvm.MethodName) jdk_42_method_154_code (1 : Nat) (Option.some Jvm.ClassFile.FieldType.boolean)).before args0 about1 = true := code_word (m := ⟨14, 7⟩) (meth := k14m7) (c := k14c7) (by decide +kernel) rfl rfl rfl (by decide +kernel)
set_option maxRecDepth 65536 in
theorem w_c47 : (Jvm.Cond.code ({ cls := "java/lang/StringLatin1", name := "charAt", desc := "([BI)C" } : Jvm.MethodName) jdk_43_method_2_code (2 : Nat) (Option.some Jvm.ClassFile.FieldType.char)).before args0 about1 = true := code_word (m := ⟨22, 1⟩) (meth := k22m1) (c := k22c1) (by decide +kernel) rfl rfl rfl (by decide +kernel)
set_option maxRecDepth 65536 in
theorem w_c48 : (Jvm.Cond.code ({ cls := "java/lang/String", name := "checkIndex", desc := "(II)V" } : Jvm.MethodName) jdk_42_method_155_code (2 : Nat) (Option.none : Option Jvm.ClassFile.FieldType)).before args0 about1 = true := code_word (m := ⟨14, 8⟩) (meth := k14m8) (c := k14c8) (by decide +kernel) rfl rfl rfl (by decide +kernel)
set_option maxRecDepth 65536 in
theorem w_c49 : (Jvm.Cond.code ({ cls := "jdk/internal/util/Preconditions", name := "checkIndex", desc := "(IILjava/util/function/BiFunction;)I" } : Jvm.MethodName) jdk_41_method_11_code (3 : Nat) (Option.some Jvm.ClassFile.FieldType.int)).before args0 about1 = true := code_word (m := ⟨23, 1⟩) (meth := k23m1) (c := k23c1) (by decide +kernel) rfl rfl rfl (by decide +kernel)
set_option maxRecDepth 65536 in
theorem w_c50 : (Jvm.Cond.code ({ cls := "com/example/rollbook/rollbook/http/ApiExceptionBodyTooLargePinLaw", name := "dig", desc := "(Ljava/lang/String;IJII[J)Z" } : Jvm.MethodName) method_4_code (10 : Nat) (Option.some Jvm.ClassFile.FieldType.boolean)).before args0 about1 = true := code_word (m := ⟨1, 3⟩) (meth := k1m3) (c := k1c3) (by decide +kernel) rfl rfl rfl (by decide +kernel)
def codes1 : List Jvm.Cond := [Jvm.Cond.code x code maxLocals ret, Jvm.Cond.code ({ cls := "com/example/rollbook/rollbook/http/ApiException", name := "bodyTooLarge", desc := "(I)Lcom/example/rollbook/rollbook/http/ApiException;" } : Jvm.MethodName) prog_50_method_3_code (1 : Nat) (Option.some (Jvm.ClassFile.FieldType.object "com/example/rollbook/rollbook/http/ApiException")), Jvm.Cond.code ({ cls := "java/lang/StringBuilder", name := "<init>", desc := "()V" } : Jvm.MethodName) jdk_67_method_1_code (1 : Nat) (Option.none : Option Jvm.ClassFile.FieldType), Jvm.Cond.code ({ cls := "java/lang/AbstractStringBuilder", name := "<init>", desc := "(I)V" } : Jvm.MethodName) jdk_68_method_2_code (2 : Nat) (Option.none : Option Jvm.ClassFile.FieldType), Jvm.Cond.code ({ cls := "java/lang/Object", name := "<init>", desc := "()V" } : Jvm.MethodName) object_method_1_code (1 : Nat) (Option.none : Option Jvm.ClassFile.FieldType), Jvm.Cond.code ({ cls := "java/lang/StringBuilder", name := "append", desc := "(Ljava/lang/String;)Ljava/lang/StringBuilder;" } : Jvm.MethodName) jdk_67_method_7_code (2 : Nat) (Option.some (Jvm.ClassFile.FieldType.object "java/lang/StringBuilder")), Jvm.Cond.code ({ cls := "java/lang/AbstractStringBuilder", name := "append", desc := "(Ljava/lang/String;)Ljava/lang/AbstractStringBuilder;" } : Jvm.MethodName) jdk_68_method_22_code (3 : Nat) (Option.some (Jvm.ClassFile.FieldType.object "java/lang/AbstractStringBuilder")), Jvm.Cond.code ({ cls := "java/lang/String", name := "length", desc := "()I" } : Jvm.MethodName) jdk_42_method_54_code (1 : Nat) (Option.some Jvm.ClassFile.FieldType.int), Jvm.Cond.code ({ cls := "java/lang/String", name := "coder", desc := "()B" } : Jvm.MethodName) jdk_42_method_152_code (1 : Nat) (Option.some Jvm.ClassFile.FieldType.byte), Jvm.Cond.code ({ cls := "java/lang/AbstractStringBuilder", name := "ensureCapacityInternal", desc := "(I)V" } : Jvm.MethodName) jdk_68_method_9_code (3 : Nat) (Option.none : Option Jvm.ClassFile.FieldType), Jvm.Cond.code ({ cls := "java/lang/AbstractStringBuilder", name := "newCapacity", desc := "(I)I" } : Jvm.MethodName) jdk_68_method_10_code (6 : Nat) (Option.some Jvm.ClassFile.FieldType.int), Jvm.Cond.code ({ cls := "jdk/internal/util/ArraysSupport", name := "newLength", desc := "(III)I" } : Jvm.MethodName) jdk_48_method_27_code (4 : Nat) (Option.some Jvm.ClassFile.FieldType.int), Jvm.Cond.code ({ cls := "java/lang/Math", name := "max", desc := "(II)I" } : Jvm.MethodName) jdk_29_method_65_code (2 : Nat) (Option.some Jvm.ClassFile.FieldType.int), Jvm.Cond.code ({ cls := "java/util/Arrays", name := "copyOf", desc := "([BI)[B" } : Jvm.MethodName) jdk_65_method_121_code (3 : Nat) (Option.some (Jvm.ClassFile.FieldType.array Jvm.ClassFile.FieldType.byte)), Jvm.Cond.code ({ cls := "java/lang/Math", name := "min", desc := "(II)I" } : Jvm.MethodName) jdk_29_method_69_code (2 : Nat) (Option.some Jvm.ClassFile.FieldType.int), Jvm.Cond.code ({ cls := "java/lang/AbstractStringBuilder", name := "putStringAt", desc := "(ILjava/lang/String;)V" } : Jvm.MethodName) jdk_68_method_73_code (3 : Nat) (Option.none : Option Jvm.ClassFile.FieldType), Jvm.Cond.code ({ cls := "java/lang/AbstractStringBuilder", name := "inflateIfNeededFor", desc := "(Ljava/lang/String;)V" } : Jvm.MethodName) jdk_68_method_71_code (2 : Nat) (Option.none : Option Jvm.ClassFile.FieldType), Jvm.Cond.code ({ cls := "java/lang/String", name := "getBytes", desc := "([BIB)V" } : Jvm.MethodName) jdk_42_method_147_code (4 : Nat) (Option.none : Option Jvm.ClassFile.FieldType), Jvm.Cond.code ({ cls := "java/lang/StringBuilder", name := "append", desc := "(I)Ljava/lang/StringBuilder;" } : Jvm.MethodName) jdk_67_method_15_code (2 : Nat) (Option.some (Jvm.ClassFile.FieldType.object "java/lang/StringBuilder")), Jvm.Cond.code ({ cls := "java/lang/AbstractStringBuilder", name := "append", desc := "(I)Ljava/lang/AbstractStringBuilder;" } : Jvm.MethodName) jdk_68_method_32_code (4 : Nat) (Option.some (Jvm.ClassFile.FieldType.object "java/lang/AbstractStringBuilder")), Jvm.Cond.code ({ cls := "java/lang/Integer", name := "stringSize", desc := "(I)I" } : Jvm.MethodName) jdk_33_method_13_code (4 : Nat) (Option.some Jvm.ClassFile.FieldType.int), Jvm.Cond.code ({ cls := "java/lang/AbstractStringBuilder", name := "isLatin1", desc := "()Z" } : Jvm.MethodName) jdk_68_method_68_code (1 : Nat) (Option.some Jvm.ClassFile.FieldType.boolean), Jvm.Cond.code ({ cls := "java/lang/Integer", name := "getChars", desc := "(II[B)I" } : Jvm.MethodName) jdk_33_method_12_code (7 : Nat) (Option.some Jvm.ClassFile.FieldType.int), Jvm.Cond.code ({ cls := "java/lang/StringBuilder", name := "toString", desc := "()Ljava/lang/String;" } : Jvm.MethodName) jdk_67_method_42_code (1 : Nat) (Option.some (Jvm.ClassFile.FieldType.object "java/lang/String")), Jvm.Cond.code ({ cls := "java/lang/String", name := "<init>", desc := "(Ljava/lang/StringBuilder;)V" } : Jvm.MethodName) jdk_42_method_53_code (2 : Nat) (Option.none : Option Jvm.ClassFile.FieldType), Jvm.Cond.code ({ cls := "java/lang/String", name := "<init>", desc := "(Ljava/lang/AbstractStringBuilder;Ljava/lang/Void;)V" } : Jvm.MethodName) jdk_42_method_150_code (5 : Nat) (Option.none : Option Jvm.ClassFile.FieldType), Jvm.Cond.code ({ cls := "java/lang/AbstractStringBuilder", name := "getValue", desc := "()[B" } : Jvm.MethodName) jdk_68_method_64_code (1 : Nat) (Option.some (Jvm.ClassFile.FieldType.array Jvm.ClassFile.FieldType.byte)), Jvm.Cond.code ({ cls := "java/lang/StringBuilder", name := "length", desc := "()I" } : Jvm.MethodName) jdk_67_method_93_code (1 : Nat) (Option.some Jvm.ClassFile.FieldType.int), Jvm.Cond.code ({ cls := "java/lang/AbstractStringBuilder", name := "length", desc := "()I" } : Jvm.MethodName) jdk_68_method_6_code (1 : Nat) (Option.some Jvm.ClassFile.FieldType.int), Jvm.Cond.code ({ cls := "java/util/Arrays", name := "copyOfRange", desc := "([BII)[B" } : Jvm.MethodName) jdk_65_method_132_code (3 : Nat) (Option.some (Jvm.ClassFile.FieldType.array Jvm.ClassFile.FieldType.byte)), Jvm.Cond.code ({ cls := "java/util/Arrays", name := "copyOfRangeByte", desc := "([BII)[B" } : Jvm.MethodName) jdk_65_method_133_code (5 : Nat) (Option.some (Jvm.ClassFile.FieldType.array Jvm.ClassFile.FieldType.byte)), Jvm.Cond.code ({ cls := "java/util/Arrays", name := "checkLength", desc := "(II)V" } : Jvm.MethodName) jdk_65_method_131_code (2 : Nat) (Option.none : Option Jvm.ClassFile.FieldType), Jvm.Cond.code ({ cls := "com/example/rollbook/rollbook/http/ApiException", name := "<init>", desc := "(ILjava/lang/String;Ljava/lang/String;)V" } : Jvm.MethodName) prog_50_method_1_code (4 : Nat) (Option.none : Option Jvm.ClassFile.FieldType), Jvm.Cond.code ({ cls := "java/lang/RuntimeException", name := "<init>", desc := "(Ljava/lang/String;)V" } : Jvm.MethodName) jdk_58_method_2_code (2 : Nat) (Option.none : Option Jvm.ClassFile.FieldType), Jvm.Cond.code ({ cls := "java/lang/Exception", name := "<init>", desc := "(Ljava/lang/String;)V" } : Jvm.MethodName) jdk_59_method_2_code (2 : Nat) (Option.none : Option Jvm.ClassFile.FieldType), Jvm.Cond.code ({ cls := "java/lang/Throwable", name := "<init>", desc := "(Ljava/lang/String;)V" } : Jvm.MethodName) jdk_78_method_2_code (2 : Nat) (Option.none : Option Jvm.ClassFile.FieldType), Jvm.Cond.code ({ cls := "java/lang/Throwable", name := "<init>", desc := "()V" } : Jvm.MethodName) jdk_78_method_1_code (1 : Nat) (Option.none : Option Jvm.ClassFile.FieldType), Jvm.Cond.code ({ cls := "com/example/rollbook/rollbook/http/ApiException", name := "status", desc := "()I" } : Jvm.MethodName) prog_50_method_4_code (1 : Nat) (Option.some Jvm.ClassFile.FieldType.int), Jvm.Cond.code ({ cls := "com/example/rollbook/rollbook/http/ApiException", name := "allow", desc := "()Ljava/util/Optional;" } : Jvm.MethodName) prog_50_method_5_code (1 : Nat) (Option.some (Jvm.ClassFile.FieldType.object "java/util/Optional")), Jvm.Cond.code ({ cls := "java/util/Optional", name := "ofNullable", desc := "(Ljava/lang/Object;)Ljava/util/Optional;" } : Jvm.MethodName) jdk_32_method_4_code (1 : Nat) (Option.some (Jvm.ClassFile.FieldType.object "java/util/Optional")), Jvm.Cond.code ({ cls := "java/util/Optional", name := "isPresent", desc := "()Z" } : Jvm.MethodName) jdk_32_method_6_code (1 : Nat) (Option.some Jvm.ClassFile.FieldType.boolean), Jvm.Cond.code ({ cls := "java/lang/Throwable", name := "getMessage", desc := "()Ljava/lang/String;" } : Jvm.MethodName) jdk_78_method_6_code (1 : Nat) (Option.some (Jvm.ClassFile.FieldType.object "java/lang/String")), Jvm.Cond.code ({ cls := "com/example/rollbook/rollbook/http/ApiExceptionBodyTooLargePinLaw", name := "digits", desc := "(J)I" } : Jvm.MethodName) method_3_code (2 : Nat) (Option.some Jvm.ClassFile.FieldType.int), Jvm.Cond.code ({ cls := "com/example/rollbook/rollbook/http/ApiExceptionBodyTooLargePinLaw", name := "has", desc := "(Ljava/lang/String;ILjava/lang/String;)Z" } : Jvm.MethodName) method_5_code (3 : Nat) (Option.some Jvm.ClassFile.FieldType.boolean), Jvm.Cond.code ({ cls := "com/example/rollbook/rollbook/http/ApiExceptionBodyTooLargePinLaw", name := "at", desc := "(Ljava/lang/String;ILjava/lang/String;I)Z" } : Jvm.MethodName) method_6_code (5 : Nat) (Option.some Jvm.ClassFile.FieldType.boolean), Jvm.Cond.code ({ cls := "java/lang/String", name := "charAt", desc := "(I)C" } : Jvm.MethodName) jdk_42_method_56_code (2 : Nat) (Option.some Jvm.ClassFile.FieldType.char), Jvm.Cond.code ({ cls := "java/lang/String", name := "isLatin1", desc := "()Z" } : Jvm.MethodName) jdk_42_method_154_code (1 : Nat) (Option.some Jvm.ClassFile.FieldType.boolean), Jvm.Cond.code ({ cls := "java/lang/StringLatin1", name := "charAt", desc := "([BI)C" } : Jvm.MethodName) jdk_43_method_2_code (2 : Nat) (Option.some Jvm.ClassFile.FieldType.char), Jvm.Cond.code ({ cls := "java/lang/String", name := "checkIndex", desc := "(II)V" } : Jvm.MethodName) jdk_42_method_155_code (2 : Nat) (Option.none : Option Jvm.ClassFile.FieldType), Jvm.Cond.code ({ cls := "jdk/internal/util/Preconditions", name := "checkIndex", desc := "(IILjava/util/function/BiFunction;)I" } : Jvm.MethodName) jdk_41_method_11_code (3 : Nat) (Option.some Jvm.ClassFile.FieldType.int), Jvm.Cond.code ({ cls := "com/example/rollbook/rollbook/http/ApiExceptionBodyTooLargePinLaw", name := "dig", desc := "(Ljava/lang/String;IJII[J)Z" } : Jvm.MethodName) method_4_code (10 : Nat) (Option.some Jvm.ClassFile.FieldType.boolean)]
set_option maxRecDepth 65536 in
theorem codes_eq : words1.filter isCode = codes1 := rfl
theorem w_codes : ∀ c ∈ words1.filter isCode, c.before args0 about1 = true := by
  rw [codes_eq]
  intro c hc
  simp only [codes1, List.mem_cons, List.not_mem_nil, or_false] at hc
  rcases hc with rfl | rfl | rfl | rfl | rfl | rfl | rfl | rfl | rfl | rfl | rfl | rfl | rfl | rfl | rfl | rfl | rfl | rfl | rfl | rfl | rfl | rfl | rfl | rfl | rfl | rfl | rfl | rfl | rfl | rfl | rfl | rfl | rfl | rfl | rfl | rfl | rfl | rfl | rfl | rfl | rfl | rfl | rfl | rfl | rfl | rfl | rfl | rfl | rfl | rfl | rfl
  · exact w_c0
  · exact w_c1
  · exact w_c2
  · exact w_c3
  · exact w_c4
  · exact w_c5
  · exact w_c6
  · exact w_c7
  · exact w_c8
  · exact w_c9
  · exact w_c10
  · exact w_c11
  · exact w_c12
  · exact w_c13
  · exact w_c14
  · exact w_c15
  · exact w_c16
  · exact w_c17
  · exact w_c18
  · exact w_c19
  · exact w_c20
  · exact w_c21
  · exact w_c22
  · exact w_c23
  · exact w_c24
  · exact w_c25
  · exact w_c26
  · exact w_c27
  · exact w_c28
  · exact w_c29
  · exact w_c30
  · exact w_c31
  · exact w_c32
  · exact w_c33
  · exact w_c34
  · exact w_c35
  · exact w_c36
  · exact w_c37
  · exact w_c38
  · exact w_c39
  · exact w_c40
  · exact w_c41
  · exact w_c42
  · exact w_c43
  · exact w_c44
  · exact w_c45
  · exact w_c46
  · exact w_c47
  · exact w_c48
  · exact w_c49
  · exact w_c50
set_option maxRecDepth 65536 in
theorem w_t1 : (words1.take 24).all (fun c => isCode c || c.before args0 about1) = true := by decide +kernel
set_option maxRecDepth 65536 in
theorem w_t2 : ((words1.drop 24).take 24).all (fun c => isCode c || c.before args0 about1) = true := by decide +kernel
set_option maxRecDepth 65536 in
theorem w_t3 : (((words1.drop 24).drop 24).take 24).all (fun c => isCode c || c.before args0 about1) = true := by decide +kernel
set_option maxRecDepth 65536 in
theorem w_t4 : ((((words1.drop 24).drop 24).drop 24).take 24).all (fun c => isCode c || c.before args0 about1) = true := by decide +kernel
set_option maxRecDepth 65536 in
theorem w_t5 : (((((words1.drop 24).drop 24).drop 24).drop 24).take 24).all (fun c => isCode c || c.before args0 about1) = true := by decide +kernel
set_option maxRecDepth 65536 in
theorem w_t6 : ((((((words1.drop 24).drop 24).drop 24).drop 24).drop 24).take 24).all (fun c => isCode c || c.before args0 about1) = true := by decide +kernel
set_option maxRecDepth 65536 in
theorem w_t7 : (((((((words1.drop 24).drop 24).drop 24).drop 24).drop 24).drop 24).take 24).all (fun c => isCode c || c.before args0 about1) = true := by decide +kernel
set_option maxRecDepth 65536 in
theorem w_t8 : ((((((((words1.drop 24).drop 24).drop 24).drop 24).drop 24).drop 24).drop 24).take 24).all (fun c => isCode c || c.before args0 about1) = true := by decide +kernel
set_option maxRecDepth 65536 in
theorem w_t9 : (((((((((words1.drop 24).drop 24).drop 24).drop 24).drop 24).drop 24).drop 24).drop 24).take 24).all (fun c => isCode c || c.before args0 about1) = true := by decide +kernel
set_option maxRecDepth 65536 in
theorem w_t10 : ((((((((((words1.drop 24).drop 24).drop 24).drop 24).drop 24).drop 24).drop 24).drop 24).drop 24).take 24).all (fun c => isCode c || c.before args0 about1) = true := by decide +kernel
set_option maxRecDepth 65536 in
theorem w_t11 : (((((((((((words1.drop 24).drop 24).drop 24).drop 24).drop 24).drop 24).drop 24).drop 24).drop 24).drop 24).take 24).all (fun c => isCode c || c.before args0 about1) = true := by decide +kernel
set_option maxRecDepth 65536 in
theorem w_t12 : ((((((((((((words1.drop 24).drop 24).drop 24).drop 24).drop 24).drop 24).drop 24).drop 24).drop 24).drop 24).drop 24).take 24).all (fun c => isCode c || c.before args0 about1) = true := by decide +kernel
set_option maxRecDepth 65536 in
theorem w_t13 : ((((((((((((words1.drop 24).drop 24).drop 24).drop 24).drop 24).drop 24).drop 24).drop 24).drop 24).drop 24).drop 24).drop 24).all (fun c => isCode c || c.before args0 about1) = true := by decide +kernel
theorem w_tables : (allAtoms (Jvm.Cond.code x code maxLocals ret :: tables_1)).before args0 about1 = true := by
  rw [allAtoms_all]
  show words1.all (fun c => c.before args0 about1) = true
  refine all_split ?_ w_codes
  rw [← List.take_append_drop 24 words1, List.all_append, w_t1, ← List.take_append_drop 24 (words1.drop 24), List.all_append, w_t2, ← List.take_append_drop 24 ((words1.drop 24).drop 24), List.all_append, w_t3, ← List.take_append_drop 24 (((words1.drop 24).drop 24).drop 24), List.all_append, w_t4, ← List.take_append_drop 24 ((((words1.drop 24).drop 24).drop 24).drop 24), List.all_append, w_t5, ← List.take_append_drop 24 (((((words1.drop 24).drop 24).drop 24).drop 24).drop 24), List.all_append, w_t6, ← List.take_append_drop 24 ((((((words1.drop 24).drop 24).drop 24).drop 24).drop 24).drop 24), List.all_append, w_t7, ← List.take_append_drop 24 (((((((words1.drop 24).drop 24).drop 24).drop 24).drop 24).drop 24).drop 24), List.all_append, w_t8, ← List.take_append_drop 24 ((((((((words1.drop 24).drop 24).drop 24).drop 24).drop 24).drop 24).drop 24).drop 24), List.all_append, w_t9, ← List.take_append_drop 24 (((((((((words1.drop 24).drop 24).drop 24).drop 24).drop 24).drop 24).drop 24).drop 24).drop 24), List.all_append, w_t10, ← List.take_append_drop 24 ((((((((((words1.drop 24).drop 24).drop 24).drop 24).drop 24).drop 24).drop 24).drop 24).drop 24).drop 24), List.all_append, w_t11, ← List.take_append_drop 24 (((((((((((words1.drop 24).drop 24).drop 24).drop 24).drop 24).drop 24).drop 24).drop 24).drop 24).drop 24).drop 24), List.all_append, w_t12, w_t13]
  rfl
set_option maxRecDepth 65536 in
theorem w_rest : rest_1_c.before args0 about1 = true := by decide +kernel
set_option maxRecDepth 65536 in
theorem w_case : (Jvm.Cond.and given_1 narrow_1).before args0 about1 = true := by decide +kernel
set_option maxRecDepth 65536 in
theorem w_consts : constsHeld consts_1 about1 := Jvm.Lit.constsHeldB_iff.mp (by decide +kernel)
theorem w_applies : (headSpec (Jvm.Cond.code x code maxLocals ret :: tables_1) room_1).applies x e0.platform about1 = true :=
  (Spec.applies_iff w_frames).mpr ⟨w_running, w_runnable, w_alone, w_named, w_hears, w_ripe, w_room, w_tables⟩
theorem atStart : AtStart classFile x code maxLocals ret World_1 tables_1 room_1 Calls_1 rest_1 Pre_1 launch0 p0 e0 about1 theMethod args0 below0 :=
  ⟨lists_1, trivial, launch0.admits_env _ _ _, launch0.least_env, fairChoices_fair.cas, fairChoices_fair.clock, w_frames, w_args, w_heap, w_applies, ⟨(by decide +kernel : framesKnown about1 = true), ⟨(by decide +kernel : tablesKnown about1 = true), ⟨w_consts, trivial⟩⟩⟩, w_rest, w_case⟩
end start1
theorem witness_1 : WitnessClaimed_1 := ⟨start1.p0, start1.e0, start1.about1, start1.theMethod, start1.args0, start1.below0, start1.atStart⟩
end Jvm.Pilot.@@N@@
