import JvmDerived
import JvmDerived.Pilot.@@N@@Statement
import JvmDerived.Pilot.@@N@@Code
set_option linter.unusedVariables false
set_option linter.unusedSimpArgs false
namespace Jvm.Pilot.@@N@@
open Jvm Jvm.ClassFile Sem Op Lib Jvm.Free Jvm.Stand Jvm.LawKit Jvm.RoadKit Bundle Jvm.Pilot.@@N@@.Jvm.D
/-- the walk's goal, seen from a state: it comes to an end of which P holds -/
def OwnFin (tb : Tables) (e : Env) (below : List Frame) (P : State → Outcome → Prop) (S : State) : Prop := ∃ t o, Steps tb e below S t ∧ P t o
theorem OwnFin.adv {tb : Tables} {e : Env} {below : List Frame} {P : State → Outcome → Prop} {A B : State} (h : ∀ t, Steps tb e below B t → Steps tb e below A t) (k : OwnFin tb e below P B) : OwnFin tb e below P A := by
  obtain ⟨t, o, h1, h2⟩ := k
  exact ⟨t, o, h t h1, h2⟩
theorem OwnFin.entry {tb : Tables} {e : Env} {below : List Frame} {P : State → Outcome → Prop} {T : State} {g g' : JFrame} (q : g = g') (k : ∀ P', P' = P → OwnFin tb e below P' (T.setTop g')) : ∃ t o, Steps tb e below (T.setTop g) t ∧ P t o := by
  subst q; exact k P rfl
theorem OwnFin.leaf {tb : Tables} {e : Env} {below : List Frame} {P P' : State → Outcome → Prop} {S : State} (q : P' = P) (k : ∃ t o, Steps tb e below S t ∧ P t o) : OwnFin tb e below P' S := by
  subst q; exact k
theorem own_lt {a b : Nat} (h : a < b) : a < b := h
theorem own_nee {a b : Nat} (h : a ≠ b) : a ≠ b := h
theorem own_ne {a b : Nat} (h : a < b ∨ b < a) : a ≠ b := by omega
theorem own_monoW {s t : State} {o : Outcome} {L : List Loc} {k n k' n' : Nat} (h : ReturnedEndW s o t L k n) (hk : k ≤ k') (hn : n ≤ n') : ReturnedEndW s o t L k' n' := ⟨h.1, h.2.1, h.2.2.1, h.2.2.2.mono hk hn⟩
theorem own_chend {Z : State} {EL : List (String × Nat)} {vm1 vm2 : Vm} {U0 U1 : State} {h0 h1 : Heap} (A : CHr Z EL U0.vm h0 vm1 h1) (B : CHr Z EL vm1 h1 vm2 h1) (e0 : U0.heap = h0) (e1 : U1.heap = h1) : CHr Z EL U0.vm U0.heap vm2 U1.heap := by
  rw [e0, e1]; exact A.trans B
theorem own_staK {Z : State} {n0 : Nat} {h : Heap} {C n d : String} {v : Value} (S : Sta Z Z.heap C n d v) (O : Old Z n0 h) : Sta Z h C n d v := S.ext O.2
section OwnRet
variable {p : Program} {l : Launch} {e : Env} {R : Room} {s : State} {m : MethodId} {args : Array Value} {below : List Frame} {meth : Method} {c : Code} {T : State} {locs : List Loc} {cells slots : Nat}
theorem own_retI (X : Stand p l e R s m args below meth c T locs cells slots) (hx : p.tables.exec = Jvm.exec) {pc : Nat} {Ls : Array Slot} {z : Int32} {rest : List Value} (hret : meth.sig.returnType = some .int) (hd : decode c.code pc = .ok (.ireturn, 1)) {fs : List Frame}
    (hl : ∀ (f : JFrame) (acts : List Action), f.method = m → f.locked = none → f.entered = [] → (doReturn e (T.setTop f) acts (some (.int z))).1 = T.setFrames fs) : Steps p.tables e below (T.setTop (mkF m pc Ls (.int z :: rest))) (T.setFrames fs) :=
  retOut X hx hret rfl (Or.inl ⟨rfl, Or.inl rfl, z, rfl⟩) hd hl
theorem own_retL (X : Stand p l e R s m args below meth c T locs cells slots) (hx : p.tables.exec = Jvm.exec) {pc : Nat} {Ls : Array Slot} {z : Int64} {rest : List Value} (hret : meth.sig.returnType = some .long) (hd : decode c.code pc = .ok (.lreturn, 1)) {fs : List Frame}
    (hl : ∀ (f : JFrame) (acts : List Action), f.method = m → f.locked = none → f.entered = [] → (doReturn e (T.setTop f) acts (some (.long z))).1 = T.setFrames fs) : Steps p.tables e below (T.setTop (mkF m pc Ls (.long z :: rest))) (T.setFrames fs) :=
  retOut X hx hret rfl (Or.inr (Or.inl ⟨rfl, rfl, z, rfl⟩)) hd hl
theorem own_retR (X : Stand p l e R s m args below meth c T locs cells slots) (hx : p.tables.exec = Jvm.exec) {pc : Nat} {Ls : Array Slot} {w : Value} {t : FieldType} {rest : List Value} (hret : meth.sig.returnType = some t) (ht : t.isReference = true) (hn : narrow t w = w) (hw : w.isRef = true) (hd : decode c.code pc = .ok (.areturn, 1)) {fs : List Frame}
    (hl : ∀ (f : JFrame) (acts : List Action), f.method = m → f.locked = none → f.entered = [] → (doReturn e (T.setTop f) acts (some w)).1 = T.setFrames fs) : Steps p.tables e below (T.setTop (mkF m pc Ls (w :: rest))) (T.setFrames fs) :=
  retOut X hx hret hn (Or.inr (Or.inr (Or.inr (Or.inr ⟨rfl, ht, hw⟩)))) hd hl
end OwnRet
theorem own_eqI {args : Array Value} {first s : State} {o : Option Outcome} {idx : List Nat} {t : Term} {k : Int32} (h : (Cond.eq t (Term.int k)).value args first o s idx = some true) : t.eval args first o idx s = some (.int k) := by
  simp only [Cond.value, Term.eval] at h
  cases ht : t.eval args first o idx s with
  | none => simp [ht] at h
  | some x => cases x <;> simp [ht] at h ⊢; exact h
theorem own_fldI {Z : State} {args : Array Value} {t : Term} {a : Addr} {C n d : String} {k : Int32} (ht : t.eval args Z none [] Z = some (.ref a)) (h : (Cond.eq (Term.field t C n d) (Term.int k)).value args Z none Z [] = some true) : Fld Z Z.heap a C n d (.int k) :=
  Fld.start ((fld_at ht).symm.trans (own_eqI h))
theorem own_eqRef {args : Array Value} {first s : State} {o : Option Outcome} {idx : List Nat} {t u : Term} {r : Addr} (hu : u.eval args first o idx s = some (.ref r)) (h : (Cond.eq t u).value args first o s idx = some true) : t.eval args first o idx s = some (.ref r) := by
  obtain ⟨x, y, e1, e2, k1, k2⟩ := cmp_v (Or.inl h)
  cases hu.symm.trans e2
  have hx : x.isRef = true := by cases x <;> simp [Kin, Value.isRef] at k1 k2 ⊢
  have := gotT (eq_R e1 e2 hx rfl) h
  rw [e1, this]
theorem own_fldR {Z : State} {args : Array Value} {t u : Term} {a r : Addr} {C n d : String} (ht : t.eval args Z none [] Z = some (.ref a)) (hu : u.eval args Z none [] Z = some (.ref r)) (h : (Cond.eq (Term.field t C n d) u).value args Z none Z [] = some true) : Fld Z Z.heap a C n d (.ref r) :=
  Fld.start ((fld_at ht).symm.trans (own_eqRef hu h))
theorem own_fldN {Z : State} {args : Array Value} {t : Term} {a : Addr} {C n d : String} (ht : t.eval args Z none [] Z = some (.ref a)) (h : (Cond.eq (Term.field t C n d) Term.null).value args Z none Z [] = some true) : Fld Z Z.heap a C n d .null :=
  Fld.start ((fld_at ht).symm.trans (null_v h))
theorem own_len {args : Array Value} {first s : State} {o : Option Outcome} {idx : List Nat} {t : Term} {a : Addr} {cl : Cell} {k : Int32} (ht : t.eval args first o idx s = some (.ref a)) (ha : s.arrayAt? a = some cl) (h : (Cond.eq (Term.length t) (Term.int k)).value args first o s idx = some true) : cl.slots.size < 2 ^ 31 ∧ cl.slots.size.toInt32 = k := by
  have e := own_eqI h
  by_cases hn : cl.slots.size < 2 ^ 31
  · rw [len_f ht ha hn] at e
    exact ⟨hn, Value.int.inj (Option.some.inj e)⟩
  · simp [Term.eval, ht, ha, hn] at e
theorem own_and255 (x : Int32) : ¬ (x &&& (255 : Int32)) < 0 ∧ ¬ (255 : Int32) < (x &&& (255 : Int32)) := by
  have h := c_mask x 255 8 (by decide) (by decide)
  have e : (255 : Int32).toInt = 255 := by decide
  have e0 : (0 : Int32).toInt = 0 := by decide
  rw [Int32.lt_iff_toInt_lt, Int32.lt_iff_toInt_lt, e, e0, h]
  omega
theorem own_toInt {k : Nat} (h : k ≤ 100000) : (Int32.ofNat k).toInt = k := Int32.toInt_ofNat_of_lt (by omega)
theorem own_cl {k : Nat} (h : k ≤ 100000) : (Int32.ofNat k).toNatClampNeg = k := by simp only [Int32.toNatClampNeg, own_toInt h]; omega
theorem own_nn {k : Nat} (h : k ≤ 100000) : ¬ Int32.ofNat k < 0 := by
  have e : (0 : Int32).toInt = 0 := by decide
  rw [Int32.lt_iff_toInt_lt, own_toInt h, e]; omega
theorem own_add (a b : Nat) : Int32.ofNat a + Int32.ofNat b = Int32.ofNat (a + b) := (Int32.ofNat_add a b).symm
theorem own_sub {a b : Nat} (h : b ≤ a) : Int32.ofNat a - Int32.ofNat b = Int32.ofNat (a - b) := by
  have e := own_add (a - b) b
  rw [Nat.sub_add_cancel h] at e
  rw [← e, Int32.add_sub_cancel]
theorem own_ltn {a b : Nat} (ha : a ≤ 100000) (hb : b ≤ 100000) : Int32.ofNat a < Int32.ofNat b ↔ a < b := by rw [Int32.lt_iff_toInt_lt, own_toInt ha, own_toInt hb]; omega
theorem own_eqn {a b : Nat} (ha : a ≤ 100000) (hb : b ≤ 100000) : Int32.ofNat a = Int32.ofNat b ↔ a = b := by
  constructor
  · intro q; have := congrArg Int32.toInt q; rw [own_toInt ha, own_toInt hb] at this; omega
  · rintro rfl; rfl
theorem own_whole (vs : List Value) (d : Value) (n : Nat) (h : vs.length = n) : vs = (List.range n).map fun i => vs.getD (0 + i) d := by
  subst h
  apply List.ext_getElem
  · simp
  · intro i h1 h2; simp [List.getD_eq_getElem?_getD, h1]
theorem own_same {Z : State} {a0 : Array Value} {y z : MethodName} (w : (Cond.declares y).before a0 Z = true) (wz : (Cond.declares z).before a0 Z = true) (nf : NotFace Z z) (hc : y.cls = z.cls) (hy : y.cls ≠ "java/lang/invoke/MethodHandle" ∧ y.cls ≠ "java/lang/invoke/VarHandle") : (Cond.sameMethod y.cls y.cls y.name y.desc).before a0 Z = true := by
  obtain ⟨m, meth, h1, h2, -, -⟩ := Cond.declares_spec w
  obtain ⟨m', meth', g1, -⟩ := Cond.declares_spec wz
  obtain ⟨k, hk, hni⟩ := nf m' g1
  have f1 := findClass_of_methodNamed h1
  have f2 := findClass_of_methodNamed g1
  rw [← hc] at f2
  have e : m.cls = m'.cls := Option.some.inj (f1.symm.trans f2)
  have hf := State.methodFound?_of_named h1 hy
  simp [Cond.before, Cond.holds, Cond.value, f1, hf, h1, e, hk, hni]
theorem own_nf {Z : State} {a0 : Array Value} {y z : MethodName} (wz : (Cond.declares z).before a0 Z = true) (nf : NotFace Z z) (hc : y.cls = z.cls) : NotFace Z y := fun r0 h => by
  obtain ⟨m', meth', g1, -⟩ := Cond.declares_spec wz
  obtain ⟨k, hk, hni⟩ := nf m' g1
  have f1 := findClass_of_methodNamed h
  have f2 := findClass_of_methodNamed g1
  rw [hc] at f1
  have e : r0.cls = m'.cls := Option.some.inj (f1.symm.trans f2)
  exact ⟨k, by rw [e]; exact hk, hni⟩
theorem own_decl {Z : State} {a0 : Array Value} {y : MethodName} {bytes : ByteArray} {ml : Nat} {rt : Option FieldType} (wi : (Cond.instanceMethod y).before a0 Z = true) (wc : (Cond.code y bytes ml rt).before a0 Z = true) : (Cond.declares y).before a0 Z = true := by
  obtain ⟨mk, methM, hnamed, hmethM, hstM, habM⟩ := Cond.instanceMethod_spec wi
  obtain ⟨m2, cM, q1, -, -, -, -, -, -, hsig⟩ := Cond.code_spec hnamed wc
  cases hmethM.symm.trans q1
  simp [Cond.before, Cond.holds, Cond.value, hnamed, hmethM, hstM, hsig]
def own_hx (d : Int32) : Int32 := if d < 10 then (48 : Int32) + d else (55 : Int32) + d
def own_hexs (c : Int32) : List Int32 := [(117 : Int32), own_hx ((c >>> ((12 : Int32) &&& 31)) &&& (15 : Int32)), own_hx ((c >>> ((8 : Int32) &&& 31)) &&& (15 : Int32)), own_hx ((c >>> ((4 : Int32) &&& 31)) &&& (15 : Int32)), own_hx ((c >>> ((0 : Int32) &&& 31)) &&& (15 : Int32))]
def own_esc (c : Int32) : List Int32 := if c = 34 then [(34 : Int32)] else if c = 92 then [(92 : Int32)] else if c = 8 then [(98 : Int32)] else if c = 9 then [(116 : Int32)] else if c = 10 then [(110 : Int32)] else if c = 12 then [(102 : Int32)] else if c = 13 then [(114 : Int32)] else own_hexs c
/-- the bytes of a char in a JSON string -/
def own_enc (c : Int32) : List Int32 :=
  if c < 128 then (if c < 32 ∨ c = 34 ∨ c = 92 then (92 : Int32) :: own_esc c else [c.toInt8.toInt32])
  else if c < 2048 then [((192 : Int32) ||| (c >>> ((6 : Int32) &&& 31))).toInt8.toInt32, ((128 : Int32) ||| (c &&& (63 : Int32))).toInt8.toInt32]
  else if c < 55296 ∨ 57343 < c then [((224 : Int32) ||| (c >>> ((12 : Int32) &&& 31))).toInt8.toInt32, ((128 : Int32) ||| ((c >>> ((6 : Int32) &&& 31)) &&& (63 : Int32))).toInt8.toInt32, ((128 : Int32) ||| (c &&& (63 : Int32))).toInt8.toInt32]
  else (92 : Int32) :: own_hexs c
theorem own_encA {c : Int32} (h1 : c < 128) (h2 : ¬ c < 32) (h3 : ¬ c = 34) (h4 : ¬ c = 92) : own_enc c = [c.toInt8.toInt32] := by
  unfold own_enc; rw [if_pos h1, if_neg (by simp [h2, h3, h4])]
theorem own_encB {c : Int32} (h1 : c < 128) (h : c < 32 ∨ c = 34 ∨ c = 92) : own_enc c = (92 : Int32) :: own_esc c := by
  unfold own_enc; rw [if_pos h1, if_pos h]
theorem own_encC {c : Int32} (h1 : ¬ c < 128) (h2 : c < 2048) : own_enc c = [((192 : Int32) ||| (c >>> ((6 : Int32) &&& 31))).toInt8.toInt32, ((128 : Int32) ||| (c &&& (63 : Int32))).toInt8.toInt32] := by
  unfold own_enc; rw [if_neg h1, if_pos h2]
theorem own_encD {c : Int32} (h1 : ¬ c < 128) (h2 : ¬ c < 2048) (h : ¬ (c < 55296 ∨ 57343 < c)) : own_enc c = (92 : Int32) :: own_hexs c := by
  unfold own_enc; rw [if_neg h1, if_neg h2, if_neg h]
theorem own_encE {c : Int32} (h1 : ¬ c < 128) (h2 : ¬ c < 2048) (h : c < 55296 ∨ 57343 < c) : own_enc c = [((224 : Int32) ||| (c >>> ((12 : Int32) &&& 31))).toInt8.toInt32, ((128 : Int32) ||| ((c >>> ((6 : Int32) &&& 31)) &&& (63 : Int32))).toInt8.toInt32, ((128 : Int32) ||| (c &&& (63 : Int32))).toInt8.toInt32] := by
  unfold own_enc; rw [if_neg h1, if_neg h2, if_pos h]
theorem own_hexlen (c : Int32) : (own_hexs c).length = 5 := rfl
theorem own_esclen (c : Int32) : 1 ≤ (own_esc c).length ∧ (own_esc c).length ≤ 5 := by
  unfold own_esc; (repeat' split) <;> first | exact ⟨by decide, by decide⟩ | exact ⟨by rw [own_hexlen]; decide, by rw [own_hexlen]; decide⟩
theorem own_enclen (c : Int32) : 1 ≤ (own_enc c).length ∧ (own_enc c).length ≤ 6 := by
  have := own_esclen c
  have := own_hexlen c
  unfold own_enc; (repeat' split) <;> simp only [List.length_cons, List.length_nil] <;> omega
theorem own_e34 {c : Int32} (h : c = 34) : own_esc c = [(34 : Int32)] := by unfold own_esc; rw [if_pos h]
theorem own_e92 {c : Int32} (h : c = 92) : own_esc c = [(92 : Int32)] := by subst h; decide
theorem own_e8 {c : Int32} (h : c = 8) : own_esc c = [(98 : Int32)] := by subst h; decide
theorem own_e9 {c : Int32} (h : c = 9) : own_esc c = [(116 : Int32)] := by subst h; decide
theorem own_e10 {c : Int32} (h : c = 10) : own_esc c = [(110 : Int32)] := by subst h; decide
theorem own_e12 {c : Int32} (h : c = 12) : own_esc c = [(102 : Int32)] := by subst h; decide
theorem own_e13 {c : Int32} (h : c = 13) : own_esc c = [(114 : Int32)] := by subst h; decide
theorem own_eX {c : Int32} (h1 : ¬ c = 34) (h2 : ¬ c = 92) (h3 : ¬ c = 8) (h4 : ¬ c = 9) (h5 : ¬ c = 10) (h6 : ¬ c = 12) (h7 : ¬ c = 13) : own_esc c = own_hexs c := by
  unfold own_esc; rw [if_neg h1, if_neg h2, if_neg h3, if_neg h4, if_neg h5, if_neg h6, if_neg h7]
theorem own_eS {c : Int32} (h : ¬ c < 128) : own_esc c = own_hexs c := own_eX (fun q => h (by rw [q]; decide)) (fun q => h (by rw [q]; decide)) (fun q => h (by rw [q]; decide)) (fun q => h (by rw [q]; decide)) (fun q => h (by rw [q]; decide)) (fun q => h (by rw [q]; decide)) (fun q => h (by rw [q]; decide))
theorem own_ofN16 {d : Int32} (h : ¬ d < 0 ∧ d < 16) : ∃ k, k < 16 ∧ d = Int32.ofNat k := by
  obtain ⟨h1, h2⟩ := h
  rw [Int32.lt_iff_toInt_lt, show (0 : Int32).toInt = 0 from rfl] at h1
  rw [Int32.lt_iff_toInt_lt, show (16 : Int32).toInt = 16 from rfl] at h2
  refine ⟨d.toInt.toNat, by omega, ?_⟩
  apply Int32.toInt_inj.mp
  rw [own_toInt (by omega)]; omega
theorem own_m15 (x : Int32) : ¬ (x &&& (15 : Int32)) < 0 ∧ (x &&& (15 : Int32)) < 16 := by
  have h := c_mask x 15 4 (by decide) (by decide)
  have e : (16 : Int32).toInt = 16 := by decide
  have e0 : (0 : Int32).toInt = 0 := by decide
  rw [Int32.lt_iff_toInt_lt, Int32.lt_iff_toInt_lt, e, e0, h]
  omega
theorem own_m16 (x : Int32) : ¬ (x &&& (65535 : Int32)) < 0 ∧ ¬ (65535 : Int32) < (x &&& (65535 : Int32)) := by
  have h := c_mask x 65535 16 (by decide) (by decide)
  have e : (65535 : Int32).toInt = 65535 := by decide
  have e0 : (0 : Int32).toInt = 0 := by decide
  rw [Int32.lt_iff_toInt_lt, Int32.lt_iff_toInt_lt, e, e0, h]
  omega
theorem own_ofC {d : Int32} (h : ¬ d < 0 ∧ ¬ (65535 : Int32) < d) : ∃ a b, a < 256 ∧ b < 256 ∧ d = Int32.ofNat (a * 256 + b) := by
  obtain ⟨h1, h2⟩ := h
  rw [Int32.lt_iff_toInt_lt, show (0 : Int32).toInt = 0 from rfl] at h1
  rw [Int32.lt_iff_toInt_lt, show (65535 : Int32).toInt = 65535 from rfl] at h2
  refine ⟨d.toInt.toNat / 256, d.toInt.toNat % 256, by omega, by omega, ?_⟩
  apply Int32.toInt_inj.mp
  rw [own_toInt (by omega)]; omega
theorem own_i2cC {c : Int32} (h : ¬ c < 0 ∧ ¬ (65535 : Int32) < c) : c.toUInt32.toUInt16.toUInt32.toInt32 = c := by
  obtain ⟨a, b, ha, hb, rfl⟩ := own_ofC h
  apply Int32.toInt_inj.mp
  rw [own_toInt (by omega)]
  have e : (Int32.ofNat (a * 256 + b)).toUInt32.toUInt16.toUInt32.toInt32 = Int32.ofNat ((a * 256 + b) % 65536) := by
    apply Int32.toBitVec_inj.mp
    apply BitVec.eq_of_toNat_eq
    simp
    omega
  rw [e, own_toInt (by omega)]; omega
theorem own_or (a b : Nat) (hb : b < 256) : Int32.ofNat b ||| Int32.ofNat (256 * a) = Int32.ofNat (256 * a + b) := by
  apply Int32.toBitVec_inj.mp
  rw [Int32.toBitVec_or]
  show BitVec.ofNat 32 b ||| BitVec.ofNat 32 (256 * a) = BitVec.ofNat 32 (256 * a + b)
  rw [← BitVec.ofNat_or, Nat.or_comm]
  exact congrArg _ (Nat.two_pow_add_eq_or_of_lt (i := 8) hb a).symm
theorem own_b8 (x : Int32) : (x.toInt8.toInt32 &&& (255 : Int32)).toInt = x.toInt % 256 := by
  rw [c_mask _ 255 8 (by decide) (by decide), Int8.toInt_toInt32, Int32.toInt_toInt8]
  show Int.bmod x.toInt 256 % 256 = x.toInt % 256
  exact Int.bmod_emod
theorem own_gcv {c : Int32} (h : ¬ c < 0 ∧ ¬ (65535 : Int32) < c) : ((((c >>> ((0 : Int32) &&& 31)).toInt8.toInt32 &&& (255 : Int32)) <<< ((0 : Int32) &&& 31)) ||| (((c >>> ((8 : Int32) &&& 31)).toInt8.toInt32 &&& (255 : Int32)) <<< ((8 : Int32) &&& 31))) = c := by
  obtain ⟨a, b, ha, hb, rfl⟩ := own_ofC h
  have t : (Int32.ofNat (a * 256 + b)).toInt = (a * 256 + b : Nat) := own_toInt (by omega)
  have l1 : (((Int32.ofNat (a * 256 + b)) >>> ((0 : Int32) &&& 31)).toInt8.toInt32 &&& (255 : Int32)) <<< ((0 : Int32) &&& 31) = Int32.ofNat b := by
    apply Int32.toInt_inj.mp
    have q := c_ishl ((((Int32.ofNat (a * 256 + b)) >>> ((0 : Int32) &&& 31)).toInt8.toInt32 &&& (255 : Int32))) 0 0 (by decide)
    have r := rng32 ((((Int32.ofNat (a * 256 + b)) >>> ((0 : Int32) &&& 31)).toInt8.toInt32 &&& (255 : Int32)) <<< ((0 : Int32) &&& 31))
    rw [own_b8, c_ishr _ 0 0 (by decide), t] at q
    rw [own_toInt (by omega)]; omega
  have l2 : (((Int32.ofNat (a * 256 + b)) >>> ((8 : Int32) &&& 31)).toInt8.toInt32 &&& (255 : Int32)) <<< ((8 : Int32) &&& 31) = Int32.ofNat (256 * a) := by
    apply Int32.toInt_inj.mp
    have q := c_ishl ((((Int32.ofNat (a * 256 + b)) >>> ((8 : Int32) &&& 31)).toInt8.toInt32 &&& (255 : Int32))) 8 8 (by decide)
    have r := rng32 ((((Int32.ofNat (a * 256 + b)) >>> ((8 : Int32) &&& 31)).toInt8.toInt32 &&& (255 : Int32)) <<< ((8 : Int32) &&& 31))
    rw [own_b8, c_ishr _ 8 8 (by decide), t] at q
    rw [own_toInt (by omega)]; omega
  rw [l1, l2, own_or a b hb, Nat.mul_comm]
def own_wide : List Int32 → List Int32
  | [] => []
  | c :: r => (c >>> ((0 : Int32) &&& 31)).toInt8.toInt32 :: (c >>> ((8 : Int32) &&& 31)).toInt8.toInt32 :: own_wide r
theorem own_widelen : ∀ cs : List Int32, (own_wide cs).length = 2 * cs.length
  | [] => rfl
  | c :: r => by simp only [own_wide, List.length_cons, own_widelen r]; omega
theorem own_wide0 : ∀ (cs : List Int32) (i : Nat), i < cs.length → (own_wide cs).getD (2 * i) 0 = ((cs.getD i 0) >>> ((0 : Int32) &&& 31)).toInt8.toInt32 ∧ (own_wide cs).getD (2 * i + 1) 0 = ((cs.getD i 0) >>> ((8 : Int32) &&& 31)).toInt8.toInt32
  | [], i, h => by cases h
  | c :: r, 0, _ => ⟨rfl, rfl⟩
  | c :: r, i + 1, h => by
    have q := own_wide0 r i (by simpa using h)
    rw [show 2 * (i + 1) = 2 * i + 1 + 1 from by omega]
    exact q
theorem own_mapget (T : List Int32) (i : Nat) : (T.map Value.int).getD i (.int (0 : Int32)) = .int (T.getD i 0) := by
  simp only [List.getD_eq_getElem?_getD, List.getElem?_map]
  cases T[i]? <;> rfl
theorem own_padd (vs : List Value) (d : Value) : ∀ i, (vs ++ [d]).getD i d = vs.getD i d := fun i => by
  simp only [List.getD_eq_getElem?_getD]
  by_cases h : i < vs.length
  · rw [List.getElem?_append_left h]
  · rw [List.getElem?_append_right (by omega), List.getElem?_eq_none (by omega : vs.length ≤ i)]
    cases h2 : i - vs.length <;> simp
theorem own_setl (T : List Int32) (d x : Value) : (T.map Value.int ++ [d]).set T.length x = T.map Value.int ++ [x] := by
  rw [List.set_append_right _ _ (by simp)]; simp
theorem own_lenA (T : List Int32) (x : Int32) : (T ++ [x]).length = T.length + 1 := by simp
theorem own_p1 (T : List Int32) (x : Int32) : Int32.ofNat T.length + (1 : Int32) = Int32.ofNat (T ++ [x]).length := by rw [own_lenA]; exact own_add _ 1
theorem own_pk {T T' : List Int32} {k : Nat} (h : T'.length = T.length + k) : Int32.ofNat T.length + Int32.ofNat k = Int32.ofNat T'.length := by rw [h]; exact own_add _ k
theorem own_narb (x : Int32) : x.toInt8.toInt32.toInt8.toInt32 = x.toInt8.toInt32 := by simp
theorem own_hxb {d : Int32} (h : ¬ d < 0 ∧ d < 16) : (own_hx d).toInt8.toInt32 = own_hx d := by
  obtain ⟨k, hk, rfl⟩ := own_ofN16 h
  exact (by decide +kernel : ∀ k, k < 16 → (own_hx (Int32.ofNat k)).toInt8.toInt32 = own_hx (Int32.ofNat k)) k hk
theorem own_hx1 {d : Int32} (h : ¬ d < 0 ∧ d < 16) (h2 : d < 10) : ((48 : Int32) + d).toInt8.toInt32.toInt8.toInt32 = own_hx d := by
  obtain ⟨k, hk, rfl⟩ := own_ofN16 h
  exact (by decide +kernel : ∀ k, k < 16 → Int32.ofNat k < 10 → ((48 : Int32) + Int32.ofNat k).toInt8.toInt32.toInt8.toInt32 = own_hx (Int32.ofNat k)) k hk h2
theorem own_hx2 {d : Int32} (h : ¬ d < 0 ∧ d < 16) (h2 : ¬ d < 10) : (((65 : Int32) + d) - (10 : Int32)).toInt8.toInt32.toInt8.toInt32 = own_hx d := by
  obtain ⟨k, hk, rfl⟩ := own_ofN16 h
  exact (by decide +kernel : ∀ k, k < 16 → ¬ Int32.ofNat k < 10 → (((65 : Int32) + Int32.ofNat k) - (10 : Int32)).toInt8.toInt32.toInt8.toInt32 = own_hx (Int32.ofNat k)) k hk h2
theorem own_s0 (x : Int32) : x >>> ((0 : Int32) &&& 31) = x := by
  apply Int32.toInt_inj.mp; rw [c_ishr x 0 0 (by decide)]; simp
def own_hexT : List Int32 := [48, 49, 50, 51, 52, 53, 54, 55, 56, 57, 65, 66, 67, 68, 69, 70]
theorem own_hexg {d : Int32} (h : ¬ d < 0 ∧ d < 16) : own_hexT.getD d.toNatClampNeg 0 = own_hx d := by
  obtain ⟨k, hk, rfl⟩ := own_ofN16 h
  exact (by decide +kernel : ∀ k, k < 16 → own_hexT.getD (Int32.ofNat k).toNatClampNeg 0 = own_hx (Int32.ofNat k)) k hk
def own_encs (cs : List Int32) : List Int32 := cs.flatMap own_enc
theorem own_getE {cs : List Int32} {i : Nat} (h : i < cs.length) : cs.getD i 0 = cs[i] := by simp [List.getD_eq_getElem?_getD, h]
theorem own_encsd {cs : List Int32} {i : Nat} (h : i < cs.length) : own_encs (cs.drop i) = own_enc (cs.getD i 0) ++ own_encs (cs.drop (i + 1)) := by
  rw [own_getE h]; unfold own_encs
  rw [List.drop_eq_getElem_cons h, List.flatMap_cons]
theorem own_encst {cs : List Int32} {i : Nat} (h : i < cs.length) : own_encs (cs.take (i + 1)) = own_encs (cs.take i) ++ own_enc (cs.getD i 0) := by
  rw [own_getE h]; unfold own_encs
  rw [List.take_add_one, List.getElem?_eq_getElem h]
  simp only [Option.toList_some, List.flatMap_append, List.flatMap_cons, List.flatMap_nil, List.append_nil]
theorem own_encsx (cs : List Int32) (i : Nat) : own_encs (cs.take i) ++ own_encs (cs.drop i) = own_encs cs := by
  unfold own_encs; rw [← List.flatMap_append, List.take_append_drop]
theorem own_encslen (cs : List Int32) : (own_encs cs).length ≤ 6 * cs.length := by
  induction cs with
  | nil => simp [own_encs]
  | cons c r ih =>
    have := own_enclen c
    simp only [own_encs, List.flatMap_cons, List.length_append, List.length_cons] at ih ⊢
    omega
theorem own_ofN {c : Int32} (h : ¬ c < 0 ∧ ¬ (255 : Int32) < c) : ∃ k, k < 256 ∧ c = Int32.ofNat k := by
  obtain ⟨h1, h2⟩ := h
  have e : (255 : Int32).toInt = 255 := by decide
  have e0 : (0 : Int32).toInt = 0 := by decide
  rw [Int32.lt_iff_toInt_lt] at h1 h2
  rw [e0] at h1; rw [e] at h2
  refine ⟨c.toInt.toNat, by omega, ?_⟩
  apply Int32.toInt_inj.mp
  rw [own_toInt (by omega)]; omega
theorem own_chr {c : Int32} (h : ¬ c < 0 ∧ ¬ (255 : Int32) < c) : (c.toInt8.toInt32 &&& (255 : Int32)).toUInt32.toUInt16.toUInt32.toInt32 = c := by
  obtain ⟨k, hk, rfl⟩ := own_ofN h
  exact (by decide +kernel : ∀ k, k < 256 → ((Int32.ofNat k).toInt8.toInt32 &&& (255 : Int32)).toUInt32.toUInt16.toUInt32.toInt32 = Int32.ofNat k) k hk
theorem own_narc {c : Int32} (h : ¬ c < 0 ∧ ¬ (255 : Int32) < c) : nar .char c = c := by
  obtain ⟨k, hk, rfl⟩ := own_ofN h
  exact (by decide +kernel : ∀ k, k < 256 → nar .char (Int32.ofNat k) = Int32.ofNat k) k hk
theorem own_gmem {cs : List Int32} {i : Nat} (h : i < cs.length) : cs.getD i 0 ∈ cs := by
  simp [List.getD_eq_getElem?_getD, h]
/-- x is a String of the chars cs (Latin-1 or UTF-16), its two cells below lim -/
def OwnS (Z : State) (h : Heap) (lim : Nat) (x : Addr) (cs : List Int32) : Prop := ∃ (t : Addr) (kb : ClassId) (cd : Int32) (bs : List Int32), Exa Z h x "java/lang/String" ∧ Fld Z h x "java/lang/String" "value" "[B" (.ref t) ∧ Fld Z h x "java/lang/String" "coder" "B" (.int cd) ∧ Arv Z h t kb .byte (Int32.ofNat bs.length) (bs.map Value.int) (.int (0 : Int32)) ∧ x < lim ∧ t < lim ∧ ((cd = 0 ∧ bs = cs.map (fun c => c.toInt8.toInt32) ∧ ∀ c ∈ cs, ¬ (255 : Int32) < c) ∨ (cd = 1 ∧ bs = own_wide cs)) ∧ (∀ c ∈ cs, ¬ c < 0 ∧ ¬ (65535 : Int32) < c) ∧ cs.length ≤ 4000
theorem OwnS.ext {Z : State} {h h' : Heap} {lim : Nat} {x : Addr} {cs : List Int32} (F : OwnS Z h lim x cs) (E : Ext h h') : OwnS Z h' lim x cs := by
  obtain ⟨t, kb, cd, bs, f1, f2, f3, f4, r⟩ := F; exact ⟨t, kb, cd, bs, f1.ext E, f2.ext E, f3.ext E, f4.ext E, r⟩
theorem OwnS.wr {Z : State} {h h' : Heap} {lim : Nat} {x a : Addr} {cs : List Int32} {sl : Nat} {v : Value} (F : OwnS Z h lim x cs) (W : Wr h h' a sl v) (q : lim ≤ a) : OwnS Z h' lim x cs := by
  obtain ⟨t, kb, cd, bs, f1, f2, f3, f4, r1, r2, r⟩ := F
  have n1 : x ≠ a := Nat.ne_of_lt (Nat.lt_of_lt_of_le r1 q)
  have n2 : t ≠ a := Nat.ne_of_lt (Nat.lt_of_lt_of_le r2 q)
  exact ⟨t, kb, cd, bs, f1.wr W, f2.other W (Or.inl n1), f3.other W (Or.inl n1), f4.other W n2, r1, r2, r⟩
theorem OwnS.keep {Z : State} {h h' : Heap} {lim : Nat} {x : Addr} {cs : List Int32} {ws : List Addr} (F : OwnS Z h lim x cs) (K : Keep h h' ws) (q : ∀ w ∈ ws, lim ≤ w) : OwnS Z h' lim x cs := by
  obtain ⟨t, kb, cd, bs, f1, f2, f3, f4, r1, r2, r⟩ := F
  have n1 : x ∉ ws := fun z => absurd r1 (Nat.not_lt.mpr (q x z))
  have n2 : t ∉ ws := fun z => absurd r2 (Nat.not_lt.mpr (q t z))
  exact ⟨t, kb, cd, bs, f1.keep K, f2.keep K n1, f3.keep K n1, f4.keep K n2, r1, r2, r⟩
theorem OwnS.len {Z : State} {h : Heap} {lim : Nat} {x : Addr} {cs : List Int32} (F : OwnS Z h lim x cs) : cs.length ≤ 4000 := by
  obtain ⟨t, kb, cd, bs, f1, f2, f3, f4, r1, r2, r3, r4, r5⟩ := F; exact r5
theorem OwnS.rng {Z : State} {h : Heap} {lim : Nat} {x : Addr} {cs : List Int32} (F : OwnS Z h lim x cs) : ∀ c ∈ cs, ¬ c < 0 ∧ ¬ (65535 : Int32) < c := by
  obtain ⟨t, kb, cd, bs, f1, f2, f3, f4, r1, r2, r3, r4, r5⟩ := F; exact r4
theorem OwnS.lim {Z : State} {h : Heap} {lim lim' : Nat} {x : Addr} {cs : List Int32} (F : OwnS Z h lim x cs) (q : lim ≤ lim') : OwnS Z h lim' x cs := by
  obtain ⟨t, kb, cd, bs, f1, f2, f3, f4, r1, r2, r⟩ := F; exact ⟨t, kb, cd, bs, f1, f2, f3, f4, Nat.lt_of_lt_of_le r1 q, Nat.lt_of_lt_of_le r2 q, r⟩
theorem OwnS.exa {Z : State} {h : Heap} {lim : Nat} {x : Addr} {cs : List Int32} (F : OwnS Z h lim x cs) : Exa Z h x "java/lang/String" := by
  obtain ⟨t, kb, cd, bs, f1, r⟩ := F; exact f1
theorem own_nb01 {cd : Int32} (h : cd = 0 ∨ cd = 1) : nar .byte cd = cd := by
  rcases h with rfl | rfl <;> decide
theorem own_half (k : Nat) (h : k ≤ 4000) : Int32.ofNat (2 * k) >>> ((1 : Int32) &&& 31) = Int32.ofNat k := by
  apply Int32.toInt_inj.mp
  rw [c_ishr _ 1 1 (by decide), own_toInt (by omega), own_toInt (by omega)]; omega
theorem own_shl1 (k : Nat) (h : k ≤ 4000) : Int32.ofNat k <<< ((1 : Int32) &&& 31) = Int32.ofNat (2 * k) := by
  have q := c_ishl (Int32.ofNat k) 1 1 (by decide)
  have r := rng32 (Int32.ofNat k <<< ((1 : Int32) &&& 31))
  rw [own_toInt (by omega)] at q
  apply Int32.toInt_inj.mp
  rw [own_toInt (by omega)]; omega
theorem own_lenC {cs bs : List Int32} {cd : Int32} (h : (cd = 0 ∧ bs = cs.map (fun c => c.toInt8.toInt32) ∧ ∀ c ∈ cs, ¬ (255 : Int32) < c) ∨ (cd = 1 ∧ bs = own_wide cs)) (hl : cs.length ≤ 4000) : Int32.ofNat bs.length >>> (cd &&& 31) = Int32.ofNat cs.length := by
  rcases h with ⟨rfl, rfl, -⟩ | ⟨rfl, rfl⟩
  · rw [List.length_map]; exact own_s0 _
  · rw [own_widelen]; exact own_half _ hl
theorem own_cd01 {cs bs : List Int32} {cd : Int32} (h : (cd = 0 ∧ bs = cs.map (fun c => c.toInt8.toInt32) ∧ ∀ c ∈ cs, ¬ (255 : Int32) < c) ∨ (cd = 1 ∧ bs = own_wide cs)) : cd = 0 ∨ cd = 1 := h.imp And.left And.left
theorem own_narC {c : Int32} (h : ¬ c < 0 ∧ ¬ (65535 : Int32) < c) : nar .char c = c := own_i2cC h
theorem own_mulN (a b : Nat) : Int32.ofNat a * Int32.ofNat b = Int32.ofNat (a * b) := (Int32.ofNat_mul a b).symm
/-- a bound that omega does not see -/
def OwnLe (T : List Int32) (k : Nat) : Prop := T.length ≤ k
theorem own_leS {T : List Int32} {x : Int32} {k : Nat} (h : OwnLe T k) : OwnLe (T ++ [x]) (k + 1) := by
  unfold OwnLe at h ⊢; rw [own_lenA]; omega
theorem own_leA {T X : List Int32} {k m : Nat} (h : OwnLe T k) (hx : OwnLe X m) : OwnLe (T ++ X) (k + m) := by
  unfold OwnLe at h hx ⊢; rw [List.length_append]; omega
theorem own_leM {T : List Int32} {k m : Nat} (h : OwnLe T k) (q : k ≤ m) : OwnLe T m := Nat.le_trans h q
theorem own_leI {T : List Int32} {k m : Nat} (h : OwnLe T k) (q : k < m) : T.length < m := Nat.lt_of_le_of_lt h q
theorem own_leL {T : List Int32} {k : Nat} (h : OwnLe T k) (q : k ≤ 4000) : T.length ≤ 4000 := Nat.le_trans h q
theorem own_leIf {g : Int32} {X Y : List Int32} {k : Nat} (h1 : OwnLe X k) (h2 : OwnLe Y k) : OwnLe (if g = 0 then X else Y) k := by
  by_cases q : g = 0
  · rw [if_pos q]; exact h1
  · rw [if_neg q]; exact h2
theorem own_escL (c : Int32) : OwnLe ((92 : Int32) :: own_esc c) 6 := by
  have := own_esclen c
  unfold OwnLe; rw [List.length_cons]; omega
theorem own_hexL (c : Int32) : OwnLe (own_hexs c) 5 := Nat.le_refl 5
theorem own_encL (c : Int32) : OwnLe (own_enc c) 6 := (own_enclen c).2
theorem own_encX {X cs : List Int32} (h : X.length ≤ cs.length) (hc : cs.length ≤ 4) : OwnLe (own_encs X) 24 := by
  have := own_encslen X
  unfold OwnLe; omega
theorem own_encD4 {cs : List Int32} {i : Nat} (hc : cs.length ≤ 4) : OwnLe (own_encs (cs.drop i)) 24 := own_encX (by rw [List.length_drop]; omega) hc
theorem own_lt0 {T : List Int32} {k : Nat} (h : OwnLe T k) (q : k ≤ 4000) (hp : T ≠ []) : (0 : Int32) < Int32.ofNat T.length := by
  have h1 : T.length ≤ 4000 := Nat.le_trans h q
  have h2 : 0 < T.length := List.length_pos_iff.mpr hp
  exact (own_ltn (a := 0) (by omega) (by omega)).mpr h2
theorem own_nnL {T : List Int32} {k : Nat} (h : OwnLe T k) (q : k ≤ 4000) : ¬ Int32.ofNat T.length < 0 := own_nn (Nat.le_trans h (Nat.le_trans q (by decide)))
theorem own_ltA {T : List Int32} {x : Int32} {k : Nat} (h : OwnLe T k) (q : k ≤ 4000) : Int32.ofNat T.length < Int32.ofNat (T ++ [x]).length := by
  have h1 : T.length ≤ 4000 := Nat.le_trans h q
  rw [own_lenA]; exact (own_ltn (by omega) (by omega)).mpr (by omega)
theorem own_clL {T : List Int32} {k : Nat} (h : OwnLe T k) (q : k ≤ 4000) : (Int32.ofNat T.length).toNatClampNeg = T.length := own_cl (Nat.le_trans h (Nat.le_trans q (by decide)))
theorem own_room1 {T : List Int32} {m : Nat} (hT : OwnLe T 200) (hm : m ≤ 56) : ¬ ((256 : Int32) - Int32.ofNat T.length) < Int32.ofNat m := by
  have h : T.length + m ≤ 256 := by unfold OwnLe at hT; omega
  rw [show (256 : Int32) = Int32.ofNat 256 from rfl, own_sub (by omega), own_ltn (by omega) (by omega)]; omega
theorem own_in256 {cl : Cell} {n : Nat} (S : cl.slots.size = (256 : Int32).toNatClampNeg) (h : n < 256) : ¬ (Int32.ofNat n < 0 ∨ cl.slots.size ≤ (Int32.ofNat n).toNatClampNeg) := inb_of S ⟨own_nn (by omega), (own_ltn (b := 256) (by omega) (by omega)).mpr h⟩
theorem own_in24 {cl : Cell} {n : Nat} (S : cl.slots.size = (24 : Int32).toNatClampNeg) (h : n < 24) : ¬ (Int32.ofNat n < 0 ∨ cl.slots.size ≤ (Int32.ofNat n).toNatClampNeg) := inb_of S ⟨own_nn (by omega), (own_ltn (b := 24) (by omega) (by omega)).mpr h⟩
theorem own_push {Z : State} {h h' : Heap} {a : Addr} {k : ClassId} {n : Int32} {T : List Int32} {x y : Int32} (F : Arv Z h a k .byte n (T.map Value.int) (.int (0 : Int32))) (W : Wr h h' a (Int32.ofNat T.length).toNatClampNeg (.int (nar .byte x))) (q : x.toInt8.toInt32 = y) (hl : T.length ≤ 4000) : Arv Z h' a k .byte n ((T ++ [y]).map Value.int) (.int (0 : Int32)) := by
  subst q
  obtain ⟨c2, A2, r1, r2, r3, H2, G2⟩ := F.pad (vs' := T.map Value.int ++ [.int (0 : Int32)]) (own_padd _ _)
  have q := Arv.set A2 r1 r2 r3 H2 G2 (fits_nar_byte x) W T.length (own_cl (by omega)) (by simp)
  rw [own_setl] at q
  rw [List.map_append]; exact q
theorem own_miss {c : Int32} (h8 : ¬ c = 8) (h9 : ¬ c = 9) (h10 : ¬ c = 10) (h12 : ¬ c = 12) (h13 : ¬ c = 13) (h34 : ¬ c = 34) (h92 : ¬ c = 92) : (#[((8 : Int), (75 : Int)), (9, 80), (10, 85), (12, 90), (13, 95), (34, 65), (92, 70)] : Array (Int × Int)).find? (·.1 == c.toInt) = none := by
  have n : ∀ k : Int32, ¬ c = k → ¬ k.toInt = c.toInt := fun k h q => h (Int32.toInt_inj.mp q.symm)
  have a8 := n 8 h8
  have a9 := n 9 h9
  have a10 := n 10 h10
  have a12 := n 12 h12
  have a13 := n 13 h13
  have a34 := n 34 h34
  have a92 := n 92 h92
  rw [Array.find?_eq_none]
  intro x hx
  simp only [List.mem_toArray, List.mem_cons, List.not_mem_nil, or_false] at hx
  rcases hx with rfl | rfl | rfl | rfl | rfl | rfl | rfl <;> simp only [beq_iff_eq] <;> assumption
theorem own_selp {Z : State} {a0 : Array Value} {y z : MethodName} (wi : (Cond.instanceMethod y).before a0 Z = true) (wp : (Cond.privateMethod y).before a0 Z = true) (wz : (Cond.declares z).before a0 Z = true) (nf : NotFace Z z) (hc : y.cls = z.cls) (hy : y.cls ≠ "java/lang/invoke/MethodHandle" ∧ y.cls ≠ "java/lang/invoke/VarHandle") : (Cond.selects y.cls y y).before a0 Z = true := by
  obtain ⟨mk, methM, hnamed, hmethM, -, -⟩ := Cond.instanceMethod_spec wi
  obtain ⟨k, hk, hni⟩ := own_nf (a0 := a0) wz nf hc mk hnamed
  exact selects_self_of_private (findClass_of_methodNamed hnamed) hk hni (Cond.privateMethod_at wp) wi hy
/-- the writer ob: its text T, depth dp, whether the array is begun bg, whether it is started sd -/
def OwnJ (Z : State) (h : Heap) (ob ba oa ga : Addr) (kb ko kg : ClassId) (T : List Int32) (dp bg sd : Int32) : Prop := Exa Z h ob "tramline/routes/JsonWriter" ∧ Fld Z h ob "tramline/routes/JsonWriter" "bytes" "[B" (.ref ba) ∧ Fld Z h ob "tramline/routes/JsonWriter" "size" "I" (.int (Int32.ofNat (T).length)) ∧ Fld Z h ob "tramline/routes/JsonWriter" "objects" "[Z" (.ref oa) ∧ Fld Z h ob "tramline/routes/JsonWriter" "begun" "[Z" (.ref ga) ∧ Fld Z h ob "tramline/routes/JsonWriter" "depth" "I" (.int dp) ∧ Fld Z h ob "tramline/routes/JsonWriter" "named" "Z" (.int (0 : Int32)) ∧ Fld Z h ob "tramline/routes/JsonWriter" "started" "Z" (.int sd) ∧ Arv Z h ba kb .byte (256 : Int32) ((T).map Value.int) (.int (0 : Int32)) ∧ Arv Z h oa ko .boolean (8 : Int32) [(.int (0 : Int32))] (.int (0 : Int32)) ∧ Arv Z h ga kg .boolean (8 : Int32) [(.int bg)] (.int (0 : Int32)) ∧ ob < ba ∧ ba < oa ∧ oa < ga

abbrev own_M1 : MethodName := ⟨"java/lang/String", "<init>", "([C)V"⟩
abbrev B1 : ByteArray := jdk_42_method_3_code
abbrev own_M2 : MethodName := ⟨"java/lang/String", "<init>", "([CIILjava/lang/Void;)V"⟩
abbrev B2 : ByteArray := jdk_42_method_149_code
abbrev own_M3 : MethodName := ⟨"java/lang/Object", "<init>", "()V"⟩
abbrev B3 : ByteArray := object_method_1_code
abbrev own_M4 : MethodName := ⟨"java/lang/StringUTF16", "compress", "([CII)[B"⟩
abbrev B4 : ByteArray := jdk_52_method_16_code
abbrev own_M5 : MethodName := ⟨"java/lang/StringUTF16", "compress", "([CI[BII)I"⟩
abbrev B5 : ByteArray := jdk_52_method_21_code
abbrev own_M6 : MethodName := ⟨"java/lang/StringUTF16", "coderFromArrayLen", "([BI)B"⟩
abbrev B6 : ByteArray := jdk_52_method_15_code
abbrev own_M7 : MethodName := ⟨"tramline/routes/JsonWriterToByteArrayPinLaw", "enc", "([BIC)I"⟩
abbrev B7 : ByteArray := method_4_code
abbrev own_M8 : MethodName := ⟨"tramline/routes/JsonWriterToByteArrayPinLaw", "hexEscape", "([BIC)I"⟩
abbrev B8 : ByteArray := method_3_code
abbrev own_M9 : MethodName := ⟨"tramline/routes/JsonWriterToByteArrayPinLaw", "hex", "(I)B"⟩
abbrev B9 : ByteArray := method_2_code
abbrev own_M10 : MethodName := ⟨"tramline/routes/JsonWriter", "<init>", "()V"⟩
abbrev B10 : ByteArray := prog_32_method_1_code
abbrev own_M11 : MethodName := ⟨"tramline/routes/JsonWriter", "toByteArray", "()[B"⟩
abbrev B11 : ByteArray := prog_32_method_17_code
abbrev own_M12 : MethodName := ⟨"java/util/Arrays", "copyOf", "([BI)[B"⟩
abbrev B12 : ByteArray := jdk_65_method_121_code
abbrev own_M13 : MethodName := ⟨"java/lang/Math", "min", "(II)I"⟩
abbrev B13 : ByteArray := jdk_29_method_69_code
abbrev own_M14 : MethodName := ⟨"tramline/routes/JsonWriter", "writeString", "(Ljava/lang/String;)V"⟩
abbrev B14 : ByteArray := prog_32_method_7_code
abbrev own_M15 : MethodName := ⟨"tramline/routes/JsonWriter", "beforeValue", "()V"⟩
abbrev B15 : ByteArray := prog_32_method_20_code
abbrev own_M16 : MethodName := ⟨"tramline/routes/JsonWriter", "string", "(Ljava/lang/String;)V"⟩
abbrev B16 : ByteArray := prog_32_method_21_code
abbrev own_M17 : MethodName := ⟨"java/lang/String", "length", "()I"⟩
abbrev B17 : ByteArray := jdk_42_method_54_code
abbrev own_M18 : MethodName := ⟨"java/lang/String", "coder", "()B"⟩
abbrev B18 : ByteArray := jdk_42_method_152_code
abbrev own_M19 : MethodName := ⟨"tramline/routes/JsonWriter", "room", "(I)V"⟩
abbrev B19 : ByteArray := prog_32_method_26_code
abbrev own_M20 : MethodName := ⟨"java/lang/String", "charAt", "(I)C"⟩
abbrev B20 : ByteArray := jdk_42_method_56_code
abbrev own_M21 : MethodName := ⟨"java/lang/String", "isLatin1", "()Z"⟩
abbrev B21 : ByteArray := jdk_42_method_154_code
abbrev own_M22 : MethodName := ⟨"java/lang/StringLatin1", "charAt", "([BI)C"⟩
abbrev B22 : ByteArray := jdk_43_method_2_code
abbrev own_M23 : MethodName := ⟨"java/lang/String", "checkIndex", "(II)V"⟩
abbrev B23 : ByteArray := jdk_42_method_155_code
abbrev own_M24 : MethodName := ⟨"jdk/internal/util/Preconditions", "checkIndex", "(IILjava/util/function/BiFunction;)I"⟩
abbrev B24 : ByteArray := jdk_41_method_11_code
abbrev own_M25 : MethodName := ⟨"tramline/routes/JsonWriter", "rest", "(Ljava/lang/String;I)V"⟩
abbrev B25 : ByteArray := prog_32_method_22_code
abbrev own_M26 : MethodName := ⟨"tramline/routes/JsonWriter", "escape", "(C)V"⟩
abbrev B26 : ByteArray := prog_32_method_23_code
abbrev own_M27 : MethodName := ⟨"tramline/routes/JsonWriterToByteArrayPinLaw", "same", "([B[BI)Z"⟩
abbrev B27 : ByteArray := method_6_code
abbrev own_M28 : MethodName := ⟨"tramline/routes/JsonWriterToByteArrayPinLaw", "eqAt", "([B[BI)Z"⟩
abbrev B28 : ByteArray := method_5_code
abbrev own_M29 : MethodName := ⟨"tramline/routes/JsonWriter", "writeStartArray", "()V"⟩
abbrev B29 : ByteArray := prog_32_method_4_code
abbrev own_M30 : MethodName := ⟨"tramline/routes/JsonWriter", "open", "(Z)V"⟩
abbrev B30 : ByteArray := prog_32_method_18_code
abbrev own_M31 : MethodName := ⟨"tramline/routes/JsonWriter", "put", "(B)V"⟩
abbrev B31 : ByteArray := prog_32_method_24_code
abbrev own_M32 : MethodName := ⟨"tramline/routes/JsonWriter", "writeBoolean", "(Z)V"⟩
abbrev B32 : ByteArray := prog_32_method_9_code
abbrev own_M33 : MethodName := ⟨"tramline/routes/JsonWriter", "put", "([B)V"⟩
abbrev B33 : ByteArray := prog_32_method_25_code
abbrev own_M34 : MethodName := ⟨"tramline/routes/JsonWriter", "writeEndArray", "()V"⟩
abbrev B34 : ByteArray := prog_32_method_5_code
abbrev own_M35 : MethodName := ⟨"tramline/routes/JsonWriter", "close", "(Z)V"⟩
abbrev B35 : ByteArray := prog_32_method_19_code
abbrev own_M36 : MethodName := ⟨"java/lang/StringUTF16", "toBytes", "([CII)[B"⟩
abbrev B36 : ByteArray := jdk_52_method_14_code
abbrev own_M37 : MethodName := ⟨"java/lang/StringUTF16", "newBytesFor", "(I)[B"⟩
abbrev B37 : ByteArray := jdk_52_method_2_code
abbrev own_M38 : MethodName := ⟨"java/lang/StringUTF16", "newBytesLength", "(I)I"⟩
abbrev B38 : ByteArray := jdk_52_method_3_code
abbrev own_M39 : MethodName := ⟨"java/lang/StringUTF16", "putChar", "([BII)V"⟩
abbrev B39 : ByteArray := jdk_52_method_4_code
abbrev own_M40 : MethodName := ⟨"java/lang/StringUTF16", "getChar", "([BI)C"⟩
abbrev B40 : ByteArray := jdk_52_method_5_code
abbrev own_M41 : MethodName := ⟨"java/lang/StringUTF16", "charAt", "([BI)C"⟩
abbrev B41 : ByteArray := jdk_52_method_83_code
abbrev own_M42 : MethodName := ⟨"java/lang/StringUTF16", "checkIndex", "(I[B)V"⟩
abbrev B42 : ByteArray := jdk_52_method_91_code
abbrev own_M43 : MethodName := ⟨"java/lang/StringUTF16", "length", "([B)I"⟩
abbrev B43 : ByteArray := jdk_52_method_6_code
abbrev own_M44 : MethodName := ⟨"java/lang/Character", "isSurrogate", "(C)Z"⟩
abbrev B44 : ByteArray := jdk_89_method_16_code
abbrev VI (x : Int32) : Slot := .val (.int x)
abbrev VR (x : Addr) : Slot := .val (.ref x)
theorem own_w {Z : State} {a0 : Array Value} (hw : ∀ d ∈ tables_1, d.before a0 Z = true) (i : Nat) {d : Jvm.Cond} (h : tables_1[i]? = some d) : d.before a0 Z = true := hw d (List.mem_of_getElem? h)
theorem d18_0 : decode B18 0 = .ok (.getstatic 38, 3) := by decide +kernel
theorem d18_3 : decode B18 3 = .ok (.ifCond .eq 10, 3) := by decide +kernel
theorem d18_6 : decode B18 6 = .ok (.aload_n 0, 1) := by decide +kernel
theorem d18_7 : decode B18 7 = .ok (.getfield 15, 3) := by decide +kernel
theorem d18_10 : decode B18 10 = .ok (.goto 4, 3) := by decide +kernel
theorem d18_14 : decode B18 14 = .ok (.ireturn, 1) := by decide +kernel
theorem own_ef_coder (m : MethodId) (x0 : Addr) : entryFrame m #[(.ref x0)] 1 = mkF m 0 #[.val (.ref x0)] [] := by first | (simp [entryFrame, mkF, argsToLocals, Value.category]; done) | rfl
theorem own_pn_java_lang_String : plainName "java/lang/String" = true := by first | (simp [plainName, overriddenIn]; done) | decide +kernel
def own_Q_coder (Z : State) (so : Addr) (zc cd : Int32) (h0 : Heap) (n0 : Nat) (v : Option Value) (h : Heap) (L : List Loc) : Prop := v = some (.int cd) ∧ Fr n0 L ∧ h = h0
set_option maxRecDepth 65536 in
set_option maxHeartbeats 40000000 in
theorem own_coder (l : Launch) (Z : State) (a0 : Array Value) (hw : ∀ d ∈ tables_1, d.before a0 Z = true) (ws : List Jvm.Cond) (so : Addr) (zc cd : Int32) (h0 : Heap) (n0 : Nat) (Z0 : n0 ≤ h0.size) (O0 : Old Z n0 h0) (SCS : Sta Z Z.heap "java/lang/String" "COMPACT_STRINGS" "Z" (.int zc)) (hzc : ¬ zc = 0) (C : Fld Z h0 so "java/lang/String" "coder" "B" (.int cd)) (hcd : cd = 0 ∨ cd = 1) :
    MetFree l own_M18 (head1 (Jvm.Cond.code own_M18 jdk_42_method_152_code 1 (some .byte) :: ws) ({ frames := 0, cells := 0, slots := 0, locals := 0 } : Room)) (fun A0 U0 => A0 = #[(.ref so)] ∧ Z.Warmed39 U0.vm ∧ U0.heap = h0) (fun _ _ _ _ _ => True) (fun _ U0 o0 U1 => ∃ v0 L0, o0 = .returned v0 ∧ own_Q_coder Z so zc cd h0 n0 v0 U1.heap L0 ∧ FrameEnd U0 o0 U1 L0 0 0) := by
  refine MetFree.of_bodySF (plainFor_of_name own_pn_java_lang_String) hisR ?_
  intro p e s m args below meth c s₁ Bd hml0 hP hK
  obtain ⟨rfl, hZ, hh⟩ := hP
  have hZs0 := hZ
  have hZs := hZ
  have hx := Bd.exec
  have hby := Bd.bytes
  have hD : ∀ {pc : Nat} {r : Except DecodeError (Instr × Nat)}, decode jdk_42_method_152_code pc = r → decode c.code pc = r := fun q => hb hby q
  have hml : c.maxLocals = 1 := hml0
  have hown : s.vm.findClass "java/lang/String" = some m.cls := findClass_of_methodNamed Bd.named
  have hnm := (name_of_methodNamed Bd.named Bd.method).1
  have X0 : Stand p l e ({ frames := 0, cells := 0, slots := 0, locals := 0 } : Room) s m #[(.ref so)] below meth c s₁ [] 0 0 := Stand.of_body Bd
  have e0 : s₁.heap = h0 := by rw [← hh, Bd.state]; rfl
  have N0 := Fr.nil n0
  refine OwnFin.entry (own_ef_coder m so) (fun P' hP' => ?_)
  obtain ⟨T1, X1, e1, st1⟩ := getS2 X0 hx hZ hown (host := "") (Or.inl (own_w hw 15 rfl)) Via.refl e0 (own_staK SCS O0) (g := (mkF m 0 #[VR so] [])) rfl (hD d18_0)
  have hc3_2 : ¬ (zc = (0:Int32)) := hzc
  obtain ⟨T2, X2, e2, st2⟩ := getF X1 hx hZ hown (host := "") (Or.inl (own_w hw 27 rfl)) Via.refl e1 C (g := (mkF m 7 #[VR so] [(.ref so)])) rfl rfl (hD d18_7)
  obtain ⟨fs, hr, hrun, hended, hW, hsame⟩ := X2.leave (v := some (.int (nar .byte cd))) (fun h => by rw [Bd.returns] at h; cases h)
  refine OwnFin.adv (B := T2.setTop (mkF m 14 #[VR so] [(.int cd)])) (fun _ k => st1 _ (XS.ifNo X1.here hx rfl (hD d18_3) rfl ((if0 _ _).trans (feq hc3_2).1) (XS.aloadN X1.here hx rfl (hD d18_6) rfl rfl (st2 _ (XS.goto X2.here hx rfl (pc0 := 10) (pc' := 14) rfl (hD d18_10) (by decide) (by decide) k))))) ?_
  refine OwnFin.leaf hP' ⟨_, _, retN X2 hx (t := .byte) Bd.returns (by simp) (hD d18_14) hr, hrun, hended, _, _, rfl, ?_, ⟨_, rfl⟩, hW, hsame.mono (by decide) (by decide)⟩
  exact ⟨by rw [own_nb01 hcd], N0, e2⟩
theorem d17_0 : decode B17 0 = .ok (.aload_n 0, 1) := by decide +kernel
theorem d17_1 : decode B17 1 = .ok (.getfield 9, 3) := by decide +kernel
theorem d17_4 : decode B17 4 = .ok (.arraylength, 1) := by decide +kernel
theorem d17_5 : decode B17 5 = .ok (.aload_n 0, 1) := by decide +kernel
theorem own_pd0 : parseMethodDescriptor "()B" = some ⟨[], some .byte⟩ := by decide +kernel
theorem d17_6 : decode B17 6 = .ok (.invokevirtual 335, 3) := by decide +kernel
theorem d17_9 : decode B17 9 = .ok (.ishr, 1) := by decide +kernel
theorem d17_10 : decode B17 10 = .ok (.ireturn, 1) := by decide +kernel
theorem own_ef_strLen (m : MethodId) (x0 : Addr) : entryFrame m #[(.ref x0)] 1 = mkF m 0 #[.val (.ref x0)] [] := by first | (simp [entryFrame, mkF, argsToLocals, Value.category]; done) | rfl
def own_Q_strLen (Z : State) (so : Addr) (zc : Int32) (lim : Nat) (cs : List Int32) (h0 : Heap) (n0 : Nat) (v : Option Value) (h : Heap) (L : List Loc) : Prop := v = some (.int (Int32.ofNat cs.length)) ∧ Fr n0 L ∧ h = h0
set_option maxRecDepth 65536 in
set_option maxHeartbeats 40000000 in
theorem own_strLen (l : Launch) (Z : State) (a0 : Array Value) (hw : ∀ d ∈ tables_1, d.before a0 Z = true) (ws : List Jvm.Cond) (so : Addr) (zc : Int32) (lim : Nat) (cs : List Int32) (h0 : Heap) (n0 : Nat) (Z0 : n0 ≤ h0.size) (O0 : Old Z n0 h0) (SCS : Sta Z Z.heap "java/lang/String" "COMPACT_STRINGS" "Z" (.int zc)) (hzc : ¬ zc = 0) (Fs : OwnS Z h0 lim so cs) :
    MetFree l own_M17 (head1 (Jvm.Cond.code own_M17 jdk_42_method_54_code 1 (some .int) :: ws) ({ frames := 1, cells := 0, slots := 0, locals := 13 } : Room)) (fun A0 U0 => A0 = #[(.ref so)] ∧ Z.Warmed39 U0.vm ∧ U0.heap = h0) (fun _ _ _ _ _ => True) (fun _ U0 o0 U1 => ∃ v0 L0, o0 = .returned v0 ∧ own_Q_strLen Z so zc lim cs h0 n0 v0 U1.heap L0 ∧ FrameEnd U0 o0 U1 L0 0 0) := by
  refine MetFree.of_bodySF (plainFor_of_name own_pn_java_lang_String) hisR ?_
  intro p e s m args below meth c s₁ Bd hml0 hP hK
  obtain ⟨rfl, hZ, hh⟩ := hP
  have hZs0 := hZ
  have hZs := hZ
  have hx := Bd.exec
  have hby := Bd.bytes
  have hD : ∀ {pc : Nat} {r : Except DecodeError (Instr × Nat)}, decode jdk_42_method_54_code pc = r → decode c.code pc = r := fun q => hb hby q
  have hml : c.maxLocals = 1 := hml0
  have hown : s.vm.findClass "java/lang/String" = some m.cls := findClass_of_methodNamed Bd.named
  have hnm := (name_of_methodNamed Bd.named Bd.method).1
  have X0 : Stand p l e ({ frames := 1, cells := 0, slots := 0, locals := 13 } : Room) s m #[(.ref so)] below meth c s₁ [] 0 0 := Stand.of_body Bd
  have e0 : s₁.heap = h0 := by rw [← hh, Bd.state]; rfl
  have N0 := Fr.nil n0
  refine OwnFin.entry (own_ef_strLen m so) (fun P' hP' => ?_)
  obtain ⟨ts, ks, cd, bs, Es, Vs, Cs, As, lx, lt, hcb, hch, hl4⟩ := id Fs
  obtain ⟨T1, X1, e1, st1⟩ := getF X0 hx hZ hown (host := "") (Or.inl (own_w hw 29 rfl)) Via.refl e0 Vs (g := (mkF m 1 #[VR so] [(.ref so)])) rfl rfl (hD d17_1)
  obtain ⟨cl2, Ar2, ck2, S2, M2, H2, G2⟩ := id As
  refine OwnFin.adv (B := T1.setTop (mkF m 4 #[VR so] [(.ref ts)])) (fun _ k => XS.aloadN X0.here hx rfl (hD d17_0) rfl rfl (st1 _ k)) ?_
  refine OwnFin.adv (B := T1.setTop (mkF m 5 #[VR so] [(.int (Int32.ofNat (bs).length))])) (fun _ k => X1.arraylength hx (by rw [e1]; exact Ar2.1) (State.isArrayOf_alike hZ.alike Ar2.2.1) (g := (mkF m 4 #[VR so] [(.ref ts)])) rfl rfl (hD d17_4) _ (by rw [len_of S2 M2]; exact k)) ?_
  obtain ⟨cq3, kq3, q3a, q3b, q3c⟩ := isOf hZ e1 Es
  obtain ⟨_, _, ⟨T3, L3, k3, n3⟩, -, X3, ⟨Lc3, hQ3, l3, y3, z3⟩, st3⟩ := X1.virtualBack hx (y := own_M18) (z := own_M18) hown (mvT hZ (own_w hw 96 rfl)) (mvT hZ (own_w hw 97 rfl)) (notFace_of_selects (args := #[]) (mvT hZ (own_w hw 99 rfl))) (mvT hZ (own_w hw 99 rfl)) (mvT hZ (own_w hw 98 rfl)) (by decide) (backOf (W := 1) (own_coder l Z a0 hw [] so zc cd h0 n0 (by omega) O0 SCS hzc Cs (own_cd01 hcb)) hZ (own_w hw 100 rfl) (own_w hw 4 rfl) (by decide) (by decide)) q3a q3c (g := (mkF m 6 #[VR so] [(.ref so), (.int (Int32.ofNat (bs).length))])) rfl (by rw [hml]; rfl) (Steps.refl _) (argsL := []) (rest := [(.int (Int32.ofNat (bs).length))]) (lenOf own_pd0 rfl) rfl (by show 2 * 0 + _ ≤ _; exact Nat.le_of_eq rfl) (hD d17_6) (fun _ _ => ⟨rfl, e1, (by decide : 0 + 0 ≤ _), (by decide : 0 + 0 ≤ _)⟩)
  dsimp only [Pt.U, Pt.locs, Pt.cells, Pt.slots] at X3 l3 y3 z3 st3 hQ3
  subst l3 y3 z3
  obtain ⟨rfl, N3q, eh3⟩ := hQ3
  have N3 := Fr.app N0 N3q
  obtain ⟨fs, hr, hrun, hended, hW, hsame⟩ := X3.leave (v := some (.int ((Int32.ofNat (bs).length) >>> (cd &&& 31)))) (fun h => by rw [Bd.returns] at h; cases h)
  refine OwnFin.adv (B := T3.setTop (mkF m 10 #[VR so] [(.int ((Int32.ofNat (bs).length) >>> (cd &&& 31)))])) (fun _ k => XS.aloadN X1.here hx rfl (hD d17_5) rfl rfl (st3.trans (XS.ishr X3.here hx rfl (hD d17_9) rfl k))) ?_
  refine OwnFin.leaf hP' ⟨_, _, own_retI X3 hx Bd.returns (hD d17_10) hr, hrun, hended, _, _, rfl, ?_, ⟨_, rfl⟩, hW, hsame.mono (by decide) (by decide)⟩
  exact ⟨by rw [own_lenC hcb hl4], N3, eh3⟩
theorem d21_0 : decode B21 0 = .ok (.getstatic 38, 3) := by decide +kernel
theorem d21_3 : decode B21 3 = .ok (.ifCond .eq 14, 3) := by decide +kernel
theorem d21_6 : decode B21 6 = .ok (.aload_n 0, 1) := by decide +kernel
theorem d21_7 : decode B21 7 = .ok (.getfield 15, 3) := by decide +kernel
theorem d21_10 : decode B21 10 = .ok (.ifCond .ne 7, 3) := by decide +kernel
theorem d21_13 : decode B21 13 = .ok (.iconst 1, 1) := by decide +kernel
theorem d21_14 : decode B21 14 = .ok (.goto 4, 3) := by decide +kernel
theorem d21_18 : decode B21 18 = .ok (.ireturn, 1) := by decide +kernel
theorem own_ef_isL (m : MethodId) (x0 : Addr) : entryFrame m #[(.ref x0)] 1 = mkF m 0 #[.val (.ref x0)] [] := by first | (simp [entryFrame, mkF, argsToLocals, Value.category]; done) | rfl
def own_Q_isL (Z : State) (so : Addr) (zc : Int32) (h0 : Heap) (n0 : Nat) (v : Option Value) (h : Heap) (L : List Loc) : Prop := v = some (.int (1 : Int32)) ∧ Fr n0 L ∧ h = h0
set_option maxRecDepth 65536 in
set_option maxHeartbeats 40000000 in
theorem own_isL (l : Launch) (Z : State) (a0 : Array Value) (hw : ∀ d ∈ tables_1, d.before a0 Z = true) (ws : List Jvm.Cond) (so : Addr) (zc : Int32) (h0 : Heap) (n0 : Nat) (Z0 : n0 ≤ h0.size) (O0 : Old Z n0 h0) (SCS : Sta Z Z.heap "java/lang/String" "COMPACT_STRINGS" "Z" (.int zc)) (hzc : ¬ zc = 0) (C : Fld Z h0 so "java/lang/String" "coder" "B" (.int (0 : Int32))) :
    MetFree l own_M21 (head1 (Jvm.Cond.code own_M21 jdk_42_method_154_code 1 (some .boolean) :: ws) ({ frames := 0, cells := 0, slots := 0, locals := 0 } : Room)) (fun A0 U0 => A0 = #[(.ref so)] ∧ Z.Warmed39 U0.vm ∧ U0.heap = h0) (fun _ _ _ _ _ => True) (fun _ U0 o0 U1 => ∃ v0 L0, o0 = .returned v0 ∧ own_Q_isL Z so zc h0 n0 v0 U1.heap L0 ∧ FrameEnd U0 o0 U1 L0 0 0) := by
  refine MetFree.of_bodySF (plainFor_of_name own_pn_java_lang_String) hisR ?_
  intro p e s m args below meth c s₁ Bd hml0 hP hK
  obtain ⟨rfl, hZ, hh⟩ := hP
  have hZs0 := hZ
  have hZs := hZ
  have hx := Bd.exec
  have hby := Bd.bytes
  have hD : ∀ {pc : Nat} {r : Except DecodeError (Instr × Nat)}, decode jdk_42_method_154_code pc = r → decode c.code pc = r := fun q => hb hby q
  have hml : c.maxLocals = 1 := hml0
  have hown : s.vm.findClass "java/lang/String" = some m.cls := findClass_of_methodNamed Bd.named
  have hnm := (name_of_methodNamed Bd.named Bd.method).1
  have X0 : Stand p l e ({ frames := 0, cells := 0, slots := 0, locals := 0 } : Room) s m #[(.ref so)] below meth c s₁ [] 0 0 := Stand.of_body Bd
  have e0 : s₁.heap = h0 := by rw [← hh, Bd.state]; rfl
  have N0 := Fr.nil n0
  refine OwnFin.entry (own_ef_isL m so) (fun P' hP' => ?_)
  obtain ⟨T1, X1, e1, st1⟩ := getS2 X0 hx hZ hown (host := "") (Or.inl (own_w hw 15 rfl)) Via.refl e0 (own_staK SCS O0) (g := (mkF m 0 #[VR so] [])) rfl (hD d21_0)
  have hc3_2 : ¬ (zc = (0:Int32)) := hzc
  obtain ⟨T2, X2, e2, st2⟩ := getF X1 hx hZ hown (host := "") (Or.inl (own_w hw 27 rfl)) Via.refl e1 C (g := (mkF m 7 #[VR so] [(.ref so)])) rfl rfl (hD d21_7)
  have hc10_5 : (0:Int32) = (0:Int32) := rfl
  obtain ⟨fs, hr, hrun, hended, hW, hsame⟩ := X2.leave (v := some (.int 1)) (fun h => by rw [Bd.returns] at h; cases h)
  refine OwnFin.adv (B := T2.setTop (mkF m 18 #[VR so] [(.int 1)])) (fun _ k => st1 _ (XS.ifNo X1.here hx rfl (hD d21_3) rfl ((if0 _ _).trans (feq hc3_2).1) (XS.aloadN X1.here hx rfl (hD d21_6) rfl rfl (st2 _ (XS.ifNo X2.here hx rfl (hD d21_10) rfl ((if0 _ _).trans (teq hc10_5).2) (XS.iconst X2.here hx rfl (hD d21_13) (XS.goto X2.here hx rfl (pc0 := 14) (pc' := 18) rfl (hD d21_14) (by decide) (by decide) k))))))) ?_
  refine OwnFin.leaf hP' ⟨_, _, retN X2 hx (t := .boolean) Bd.returns (by simp) (hD d21_18) hr, hrun, hended, _, _, rfl, ?_, ⟨_, rfl⟩, hW, hsame.mono (by decide) (by decide)⟩
  exact ⟨rfl, N0, e2⟩
theorem d21_17 : decode B21 17 = .ok (.iconst 0, 1) := by decide +kernel
theorem own_ef_isU (m : MethodId) (x0 : Addr) : entryFrame m #[(.ref x0)] 1 = mkF m 0 #[.val (.ref x0)] [] := by first | (simp [entryFrame, mkF, argsToLocals, Value.category]; done) | rfl
def own_Q_isU (Z : State) (so : Addr) (zc : Int32) (h0 : Heap) (n0 : Nat) (v : Option Value) (h : Heap) (L : List Loc) : Prop := v = some (.int (0 : Int32)) ∧ Fr n0 L ∧ h = h0
set_option maxRecDepth 65536 in
set_option maxHeartbeats 40000000 in
theorem own_isU (l : Launch) (Z : State) (a0 : Array Value) (hw : ∀ d ∈ tables_1, d.before a0 Z = true) (ws : List Jvm.Cond) (so : Addr) (zc : Int32) (h0 : Heap) (n0 : Nat) (Z0 : n0 ≤ h0.size) (O0 : Old Z n0 h0) (SCS : Sta Z Z.heap "java/lang/String" "COMPACT_STRINGS" "Z" (.int zc)) (hzc : ¬ zc = 0) (C : Fld Z h0 so "java/lang/String" "coder" "B" (.int (1 : Int32))) :
    MetFree l own_M21 (head1 (Jvm.Cond.code own_M21 jdk_42_method_154_code 1 (some .boolean) :: ws) ({ frames := 0, cells := 0, slots := 0, locals := 0 } : Room)) (fun A0 U0 => A0 = #[(.ref so)] ∧ Z.Warmed39 U0.vm ∧ U0.heap = h0) (fun _ _ _ _ _ => True) (fun _ U0 o0 U1 => ∃ v0 L0, o0 = .returned v0 ∧ own_Q_isU Z so zc h0 n0 v0 U1.heap L0 ∧ FrameEnd U0 o0 U1 L0 0 0) := by
  refine MetFree.of_bodySF (plainFor_of_name own_pn_java_lang_String) hisR ?_
  intro p e s m args below meth c s₁ Bd hml0 hP hK
  obtain ⟨rfl, hZ, hh⟩ := hP
  have hZs0 := hZ
  have hZs := hZ
  have hx := Bd.exec
  have hby := Bd.bytes
  have hD : ∀ {pc : Nat} {r : Except DecodeError (Instr × Nat)}, decode jdk_42_method_154_code pc = r → decode c.code pc = r := fun q => hb hby q
  have hml : c.maxLocals = 1 := hml0
  have hown : s.vm.findClass "java/lang/String" = some m.cls := findClass_of_methodNamed Bd.named
  have hnm := (name_of_methodNamed Bd.named Bd.method).1
  have X0 : Stand p l e ({ frames := 0, cells := 0, slots := 0, locals := 0 } : Room) s m #[(.ref so)] below meth c s₁ [] 0 0 := Stand.of_body Bd
  have e0 : s₁.heap = h0 := by rw [← hh, Bd.state]; rfl
  have N0 := Fr.nil n0
  refine OwnFin.entry (own_ef_isU m so) (fun P' hP' => ?_)
  obtain ⟨T1, X1, e1, st1⟩ := getS2 X0 hx hZ hown (host := "") (Or.inl (own_w hw 15 rfl)) Via.refl e0 (own_staK SCS O0) (g := (mkF m 0 #[VR so] [])) rfl (hD d21_0)
  have hc3_2 : ¬ (zc = (0:Int32)) := hzc
  obtain ⟨T2, X2, e2, st2⟩ := getF X1 hx hZ hown (host := "") (Or.inl (own_w hw 27 rfl)) Via.refl e1 C (g := (mkF m 7 #[VR so] [(.ref so)])) rfl rfl (hD d21_7)
  have hc10_5 : ¬ ((1:Int32) = (0:Int32)) := by decide
  obtain ⟨fs, hr, hrun, hended, hW, hsame⟩ := X2.leave (v := some (.int 0)) (fun h => by rw [Bd.returns] at h; cases h)
  refine OwnFin.adv (B := T2.setTop (mkF m 18 #[VR so] [(.int 0)])) (fun _ k => st1 _ (XS.ifNo X1.here hx rfl (hD d21_3) rfl ((if0 _ _).trans (feq hc3_2).1) (XS.aloadN X1.here hx rfl (hD d21_6) rfl rfl (st2 _ (XS.ifYes X2.here hx rfl (pc0 := 10) (pc' := 17) rfl (hD d21_10) rfl ((if0 _ _).trans (feq hc10_5).2) (by decide) (by decide) (XS.iconst X2.here hx rfl (hD d21_17) k)))))) ?_
  refine OwnFin.leaf hP' ⟨_, _, retN X2 hx (t := .boolean) Bd.returns (by simp) (hD d21_18) hr, hrun, hended, _, _, rfl, ?_, ⟨_, rfl⟩, hW, hsame.mono (by decide) (by decide)⟩
  exact ⟨rfl, N0, e2⟩
theorem d24_0 : decode B24 0 = .ok (.iload_n 0, 1) := by decide +kernel
theorem d24_1 : decode B24 1 = .ok (.ifCond .lt 8, 3) := by decide +kernel
theorem d24_4 : decode B24 4 = .ok (.iload_n 0, 1) := by decide +kernel
theorem d24_5 : decode B24 5 = .ok (.iload_n 1, 1) := by decide +kernel
theorem d24_6 : decode B24 6 = .ok (.if_icmp .lt 10, 3) := by decide +kernel
theorem d24_16 : decode B24 16 = .ok (.iload_n 0, 1) := by decide +kernel
theorem d24_17 : decode B24 17 = .ok (.ireturn, 1) := by decide +kernel
theorem own_ef_pcChk (m : MethodId) (x0 : Int32) (x1 : Int32) (x2 : Value) (hx2 : x2.isRef = true) : entryFrame m #[(.int x0), (.int x1), x2] 3 = mkF m 0 #[.val (.int x0), .val (.int x1), .val x2] [] := by rcases ref_cases hx2 with rfl | ⟨_, rfl⟩ <;> first | (simp [entryFrame, mkF, argsToLocals, Value.category]; done) | rfl
theorem own_pn_jdk_internal_util_Preconditions : plainName "jdk/internal/util/Preconditions" = true := by first | (simp [plainName, overriddenIn]; done) | decide +kernel
def own_Q_pcChk (Z : State) (fm : Value) (ix ln : Nat) (h0 : Heap) (n0 : Nat) (v : Option Value) (h : Heap) (L : List Loc) : Prop := v = some (.int (Int32.ofNat ix)) ∧ Fr n0 L ∧ h = h0
set_option maxRecDepth 65536 in
set_option maxHeartbeats 40000000 in
theorem own_pcChk (l : Launch) (Z : State) (a0 : Array Value) (hw : ∀ d ∈ tables_1, d.before a0 Z = true) (ws : List Jvm.Cond) (fm : Value) (ix ln : Nat) (h0 : Heap) (n0 : Nat) (Z0 : n0 ≤ h0.size) (hix : ix < ln) (hln : ln ≤ 4000) (hr_fm : fm.isRef = true) :
    MetFree l own_M24 (head1 (Jvm.Cond.code own_M24 jdk_41_method_11_code 3 (some .int) :: ws) ({ frames := 0, cells := 0, slots := 0, locals := 0 } : Room)) (fun A0 U0 => A0 = #[(.int (Int32.ofNat ix)), (.int (Int32.ofNat ln)), fm] ∧ Z.Warmed39 U0.vm ∧ U0.heap = h0) (fun _ _ _ _ _ => True) (fun _ U0 o0 U1 => ∃ v0 L0, o0 = .returned v0 ∧ own_Q_pcChk Z fm ix ln h0 n0 v0 U1.heap L0 ∧ FrameEnd U0 o0 U1 L0 0 0) := by
  refine MetFree.of_bodySF (plainFor_of_name own_pn_jdk_internal_util_Preconditions) hisR ?_
  intro p e s m args below meth c s₁ Bd hml0 hP hK
  obtain ⟨rfl, hZ, hh⟩ := hP
  have hZs0 := hZ
  have hZs := hZ
  have hx := Bd.exec
  have hby := Bd.bytes
  have hD : ∀ {pc : Nat} {r : Except DecodeError (Instr × Nat)}, decode jdk_41_method_11_code pc = r → decode c.code pc = r := fun q => hb hby q
  have hml : c.maxLocals = 3 := hml0
  have hown : s.vm.findClass "jdk/internal/util/Preconditions" = some m.cls := findClass_of_methodNamed Bd.named
  have hnm := (name_of_methodNamed Bd.named Bd.method).1
  have X0 : Stand p l e ({ frames := 0, cells := 0, slots := 0, locals := 0 } : Room) s m #[(.int (Int32.ofNat ix)), (.int (Int32.ofNat ln)), fm] below meth c s₁ [] 0 0 := Stand.of_body Bd
  have e0 : s₁.heap = h0 := by rw [← hh, Bd.state]; rfl
  have N0 := Fr.nil n0
  refine OwnFin.entry (own_ef_pcChk m (Int32.ofNat ix) (Int32.ofNat ln) fm hr_fm) (fun P' hP' => ?_)
  have hc1_2 : ¬ ((Int32.ofNat ix) < (0:Int32)) := own_nn (by omega)
  have hc6_5 : (Int32.ofNat ix) < (Int32.ofNat ln) := (own_ltn (by omega) (by omega)).mpr hix
  obtain ⟨fs, hr, hrun, hended, hW, hsame⟩ := X0.leave (v := some (.int (Int32.ofNat ix))) (fun h => by rw [Bd.returns] at h; cases h)
  refine OwnFin.adv (B := s₁.setTop (mkF m 17 #[VI (Int32.ofNat ix), VI (Int32.ofNat ln), .val fm] [(.int (Int32.ofNat ix))])) (fun _ k => XS.iloadN X0.here hx rfl (hD d24_0) rfl (XS.ifNo X0.here hx rfl (hD d24_1) rfl ((if0 _ _).trans (flt hc1_2).1) (XS.iloadN X0.here hx rfl (hD d24_4) rfl (XS.iloadN X0.here hx rfl (hD d24_5) rfl (XS.icmpYes X0.here hx rfl (pc0 := 6) (pc' := 16) rfl (hD d24_6) rfl (tlt hc6_5).1 (by decide) (by decide) (XS.iloadN X0.here hx rfl (hD d24_16) rfl k)))))) ?_
  refine OwnFin.leaf hP' ⟨_, _, own_retI X0 hx Bd.returns (hD d24_17) hr, hrun, hended, _, _, rfl, ?_, ⟨_, rfl⟩, hW, hsame.mono (by decide) (by decide)⟩
  exact ⟨rfl, N0, e0⟩
theorem d23_0 : decode B23 0 = .ok (.iload_n 0, 1) := by decide +kernel
theorem d23_1 : decode B23 1 = .ok (.iload_n 1, 1) := by decide +kernel
theorem d23_2 : decode B23 2 = .ok (.getstatic 1053, 3) := by decide +kernel
theorem own_pd1 : parseMethodDescriptor "(IILjava/util/function/BiFunction;)I" = some ⟨[.int, .int, (.object "java/util/function/BiFunction")], some .int⟩ := by decide +kernel
theorem d23_5 : decode B23 5 = .ok (.invokestatic 1059, 3) := by decide +kernel
theorem d23_8 : decode B23 8 = .ok (.pop, 1) := by decide +kernel
theorem d23_9 : decode B23 9 = .ok (.return_, 1) := by decide +kernel
theorem own_ef_stChk (m : MethodId) (x0 : Int32) (x1 : Int32) : entryFrame m #[(.int x0), (.int x1)] 2 = mkF m 0 #[.val (.int x0), .val (.int x1)] [] := by first | (simp [entryFrame, mkF, argsToLocals, Value.category]; done) | rfl
def own_Q_stChk (Z : State) (fm : Value) (ix ln : Nat) (h0 : Heap) (n0 : Nat) (v : Option Value) (h : Heap) (L : List Loc) : Prop := v = none ∧ Fr n0 L ∧ h = h0
set_option maxRecDepth 65536 in
set_option maxHeartbeats 40000000 in
theorem own_stChk (l : Launch) (Z : State) (a0 : Array Value) (hw : ∀ d ∈ tables_1, d.before a0 Z = true) (ws : List Jvm.Cond) (fm : Value) (ix ln : Nat) (h0 : Heap) (n0 : Nat) (Z0 : n0 ≤ h0.size) (O0 : Old Z n0 h0) (SFM : Sta Z Z.heap "jdk/internal/util/Preconditions" "SIOOBE_FORMATTER" "Ljava/util/function/BiFunction;" fm) (rfm : fm.isRef = true) (hix : ix < ln) (hln : ln ≤ 4000) :
    MetFree l own_M23 (head1 (Jvm.Cond.code own_M23 jdk_42_method_155_code 2 none :: ws) ({ frames := 1, cells := 0, slots := 0, locals := 14 } : Room)) (fun A0 U0 => A0 = #[(.int (Int32.ofNat ix)), (.int (Int32.ofNat ln))] ∧ Z.Warmed39 U0.vm ∧ U0.heap = h0) (fun _ _ _ _ _ => True) (fun _ U0 o0 U1 => ∃ v0 L0, o0 = .returned v0 ∧ own_Q_stChk Z fm ix ln h0 n0 v0 U1.heap L0 ∧ FrameEnd U0 o0 U1 L0 0 0) := by
  refine MetFree.of_bodySF (plainFor_of_name own_pn_java_lang_String) hisR ?_
  intro p e s m args below meth c s₁ Bd hml0 hP hK
  obtain ⟨rfl, hZ, hh⟩ := hP
  have hZs0 := hZ
  have hZs := hZ
  have hx := Bd.exec
  have hby := Bd.bytes
  have hD : ∀ {pc : Nat} {r : Except DecodeError (Instr × Nat)}, decode jdk_42_method_155_code pc = r → decode c.code pc = r := fun q => hb hby q
  have hml : c.maxLocals = 2 := hml0
  have hown : s.vm.findClass "java/lang/String" = some m.cls := findClass_of_methodNamed Bd.named
  have hnm := (name_of_methodNamed Bd.named Bd.method).1
  have X0 : Stand p l e ({ frames := 1, cells := 0, slots := 0, locals := 14 } : Room) s m #[(.int (Int32.ofNat ix)), (.int (Int32.ofNat ln))] below meth c s₁ [] 0 0 := Stand.of_body Bd
  have e0 : s₁.heap = h0 := by rw [← hh, Bd.state]; rfl
  have N0 := Fr.nil n0
  refine OwnFin.entry (own_ef_stChk m (Int32.ofNat ix) (Int32.ofNat ln)) (fun P' hP' => ?_)
  have hr_fm := rfm
  obtain ⟨T1, X1, e1, st1⟩ := getS2 X0 hx hZ hown (host := "") (Or.inl (own_w hw 122 rfl)) Via.refl e0 (own_staK SFM O0) (g := (mkF m 2 #[VI (Int32.ofNat ix), VI (Int32.ofNat ln)] [(.int (Int32.ofNat ln)), (.int (Int32.ofNat ix))])) rfl (hD d23_2)
  obtain ⟨_, _, ⟨T2, L2, k2, n2⟩, -, X2, ⟨Lc2, hQ2, l2, y2, z2⟩, st2⟩ := Jvm.LawKit.callS X1 hx (y := own_M24) hown (mvT hZ (own_w hw 124 rfl)) (mvT hZ (own_w hw 125 rfl)) (mvT hZ (own_w hw 123 rfl)) (mvT hZ (own_w hw 126 rfl)) (by decide) (backOf (W := 0) (own_pcChk l Z a0 hw [] fm ix ln h0 n0 (by omega) hix hln rfm) hZ (own_w hw 126 rfl) (own_w hw 123 rfl) (by decide) (by decide)) (g := (mkF m 5 #[VI (Int32.ofNat ix), VI (Int32.ofNat ln)] [fm, (.int (Int32.ofNat ln)), (.int (Int32.ofNat ix))])) rfl (by rw [hml]; rfl) (argsL := [(.int (Int32.ofNat ix)), (.int (Int32.ofNat ln)), fm]) (rest := []) (lenOf own_pd1 rfl) rfl (by show 2 * 0 + _ ≤ _; exact Nat.le_of_eq rfl) (hD d23_5) (fun _ _ => ⟨rfl, e1, (by decide : 0 + 0 ≤ _), (by decide : 0 + 0 ≤ _)⟩)
  dsimp only [Pt.U, Pt.locs, Pt.cells, Pt.slots] at X2 l2 y2 z2 st2 hQ2
  subst l2 y2 z2
  obtain ⟨rfl, N2q, eh2⟩ := hQ2
  have N2 := Fr.app N0 N2q
  obtain ⟨fs, hr, hrun, hended, hW, hsame⟩ := X2.leave (v := none) (fun _ => rfl)
  refine OwnFin.adv (B := T2.setTop (mkF m 9 #[VI (Int32.ofNat ix), VI (Int32.ofNat ln)] [])) (fun _ k => XS.iloadN X0.here hx rfl (hD d23_0) rfl (XS.iloadN X0.here hx rfl (hD d23_1) rfl (st1 _ (st2 _ (XS.pop X2.here hx rfl (hD d23_8) rfl rfl k))))) ?_
  refine OwnFin.leaf hP' ⟨_, _, X2.returnOut hx Bd.returns (hD d23_9) hr, hrun, hended, _, _, rfl, ?_, ⟨_, rfl⟩, hW, hsame.mono (by decide) (by decide)⟩
  exact ⟨rfl, N2, eh2⟩
theorem own_getl {cs : List Int32} {i : Nat} (h : i < cs.length) : ((cs.map fun c => c.toInt8.toInt32).map Value.int).getD i (.int (0 : Int32)) = .int (cs.getD i 0).toInt8.toInt32 := by
  simp [List.getD_eq_getElem?_getD, h]
theorem d22_0 : decode B22 0 = .ok (.iload_n 1, 1) := by decide +kernel
theorem d22_1 : decode B22 1 = .ok (.aload_n 0, 1) := by decide +kernel
theorem d22_2 : decode B22 2 = .ok (.arraylength, 1) := by decide +kernel
theorem own_pd2 : parseMethodDescriptor "(II)V" = some ⟨[.int, .int], none⟩ := by decide +kernel
theorem d22_3 : decode B22 3 = .ok (.invokestatic 9, 3) := by decide +kernel
theorem d22_6 : decode B22 6 = .ok (.aload_n 0, 1) := by decide +kernel
theorem d22_7 : decode B22 7 = .ok (.iload_n 1, 1) := by decide +kernel
theorem d22_8 : decode B22 8 = .ok (.baload, 1) := by decide +kernel
theorem d22_9 : decode B22 9 = .ok (.sipush 255, 3) := by decide +kernel
theorem d22_12 : decode B22 12 = .ok (.iand, 1) := by decide +kernel
theorem d22_13 : decode B22 13 = .ok (.i2c, 1) := by decide +kernel
theorem d22_14 : decode B22 14 = .ok (.ireturn, 1) := by decide +kernel
theorem own_ef_l1ch (m : MethodId) (x0 : Addr) (x1 : Int32) : entryFrame m #[(.ref x0), (.int x1)] 2 = mkF m 0 #[.val (.ref x0), .val (.int x1)] [] := by first | (simp [entryFrame, mkF, argsToLocals, Value.category]; done) | rfl
theorem own_pn_java_lang_StringLatin1 : plainName "java/lang/StringLatin1" = true := by first | (simp [plainName, overriddenIn]; done) | decide +kernel
def own_Q_l1ch (Z : State) (da : Addr) (kd : ClassId) (cs : List Int32) (ix : Nat) (fm : Value) (h0 : Heap) (n0 : Nat) (v : Option Value) (h : Heap) (L : List Loc) : Prop := v = some (.int (cs.getD ix 0)) ∧ Fr n0 L ∧ h = h0
set_option maxRecDepth 65536 in
set_option maxHeartbeats 40000000 in
theorem own_l1ch (l : Launch) (Z : State) (a0 : Array Value) (hw : ∀ d ∈ tables_1, d.before a0 Z = true) (ws : List Jvm.Cond) (da : Addr) (kd : ClassId) (cs : List Int32) (ix : Nat) (fm : Value) (h0 : Heap) (n0 : Nat) (Z0 : n0 ≤ h0.size) (O0 : Old Z n0 h0) (SFM : Sta Z Z.heap "jdk/internal/util/Preconditions" "SIOOBE_FORMATTER" "Ljava/util/function/BiFunction;" fm) (rfm : fm.isRef = true) (Va : Arv Z h0 da kd .byte (Int32.ofNat (cs.map fun c => c.toInt8.toInt32).length) ((cs.map fun c => c.toInt8.toInt32).map Value.int) (.int (0 : Int32))) (hp : ∀ c ∈ cs, ¬ c < 0 ∧ ¬ (255 : Int32) < c) (hlen : cs.length ≤ 4000) (hix : ix < cs.length) :
    MetFree l own_M22 (head1 (Jvm.Cond.code own_M22 jdk_43_method_2_code 2 (some .char) :: ws) ({ frames := 2, cells := 0, slots := 0, locals := 27 } : Room)) (fun A0 U0 => A0 = #[(.ref da), (.int (Int32.ofNat ix))] ∧ Z.Warmed39 U0.vm ∧ U0.heap = h0) (fun _ _ _ _ _ => True) (fun _ U0 o0 U1 => ∃ v0 L0, o0 = .returned v0 ∧ own_Q_l1ch Z da kd cs ix fm h0 n0 v0 U1.heap L0 ∧ FrameEnd U0 o0 U1 L0 0 0) := by
  refine MetFree.of_bodySF (plainFor_of_name own_pn_java_lang_StringLatin1) hisR ?_
  intro p e s m args below meth c s₁ Bd hml0 hP hK
  obtain ⟨rfl, hZ, hh⟩ := hP
  have hZs0 := hZ
  have hZs := hZ
  have hx := Bd.exec
  have hby := Bd.bytes
  have hD : ∀ {pc : Nat} {r : Except DecodeError (Instr × Nat)}, decode jdk_43_method_2_code pc = r → decode c.code pc = r := fun q => hb hby q
  have hml : c.maxLocals = 2 := hml0
  have hown : s.vm.findClass "java/lang/StringLatin1" = some m.cls := findClass_of_methodNamed Bd.named
  have hnm := (name_of_methodNamed Bd.named Bd.method).1
  have X0 : Stand p l e ({ frames := 2, cells := 0, slots := 0, locals := 27 } : Room) s m #[(.ref da), (.int (Int32.ofNat ix))] below meth c s₁ [] 0 0 := Stand.of_body Bd
  have e0 : s₁.heap = h0 := by rw [← hh, Bd.state]; rfl
  have N0 := Fr.nil n0
  refine OwnFin.entry (own_ef_l1ch m da (Int32.ofNat ix)) (fun P' hP' => ?_)
  have hml' : (cs.map fun c => c.toInt8.toInt32).length = cs.length := by simp
  have Va' := Va
  rw [hml'] at Va'
  obtain ⟨cl1, Ar1, ck1, S1, M1, H1, G1⟩ := id Va'
  refine OwnFin.adv (B := s₁.setTop (mkF m 2 #[VR da, VI (Int32.ofNat ix)] [(.ref da), (.int (Int32.ofNat ix))])) (fun _ k => XS.iloadN X0.here hx rfl (hD d22_0) rfl (XS.aloadN X0.here hx rfl (hD d22_1) rfl rfl k)) ?_
  refine OwnFin.adv (B := s₁.setTop (mkF m 3 #[VR da, VI (Int32.ofNat ix)] [(.int (Int32.ofNat cs.length)), (.int (Int32.ofNat ix))])) (fun _ k => X0.arraylength hx (by rw [e0]; exact Ar1.1) (State.isArrayOf_alike hZ.alike Ar1.2.1) (g := (mkF m 2 #[VR da, VI (Int32.ofNat ix)] [(.ref da), (.int (Int32.ofNat ix))])) rfl rfl (hD d22_2) _ (by rw [len_of S1 M1]; exact k)) ?_
  obtain ⟨_, _, ⟨T2, L2, k2, n2⟩, -, X2, ⟨Lc2, hQ2, l2, y2, z2⟩, st2⟩ := Jvm.LawKit.callS X0 hx (y := own_M23) hown (mvT hZ (own_w hw 119 rfl)) (mvT hZ (own_w hw 120 rfl)) (mvT hZ (own_w hw 4 rfl)) (mvT hZ (own_w hw 121 rfl)) (by decide) (backOf (W := 0) (own_stChk l Z a0 hw [] fm ix cs.length h0 n0 (by omega) O0 SFM rfm hix hlen) hZ (own_w hw 121 rfl) (own_w hw 4 rfl) (by decide) (by decide)) (g := (mkF m 3 #[VR da, VI (Int32.ofNat ix)] [(.int (Int32.ofNat cs.length)), (.int (Int32.ofNat ix))])) rfl (by rw [hml]; rfl) (argsL := [(.int (Int32.ofNat ix)), (.int (Int32.ofNat cs.length))]) (rest := []) (lenOf own_pd2 rfl) rfl (by show 2 * 0 + _ ≤ _; exact Nat.le_of_eq rfl) (hD d22_3) (fun _ _ => ⟨rfl, e0, (by decide : 0 + 0 ≤ _), (by decide : 0 + 0 ≤ _)⟩)
  dsimp only [Pt.U, Pt.locs, Pt.cells, Pt.slots] at X2 l2 y2 z2 st2 hQ2
  subst l2 y2 z2
  obtain ⟨rfl, N2q, eh2⟩ := hQ2
  have N2 := Fr.app N0 N2q
  obtain ⟨cl3, Ar3, ck3, S3, M3, H3, G3⟩ := id Va'
  have hin3 : ¬ ((Int32.ofNat ix) < 0 ∨ cl3.slots.size ≤ ((Int32.ofNat ix)).toNatClampNeg) := inb_of S3 ⟨own_nn (by omega), (own_ltn (by omega) (by omega)).mpr hix⟩
  refine OwnFin.adv (B := T2.setTop (mkF m 14 #[VR da, VI (Int32.ofNat ix)] [(.int (((cs.getD ix 0).toInt8.toInt32 &&& (255:Int32)).toUInt32.toUInt16.toUInt32.toInt32))])) (fun _ k => st2 _ (XS.aloadN X2.here hx rfl (hD d22_6) rfl rfl (XS.iloadN X2.here hx rfl (hD d22_7) rfl (X2.baloadBytes hx (j := (Int32.ofNat ix)) (v := (.int (cs.getD ix 0).toInt8.toInt32)) (by rw [eh2]; exact Ar3.1) (State.isArrayOf_alike hZ.alike Ar3.2.1) Ar3.2.2 hin3 (Has.at H3 hin3 (by rw [own_cl (by omega)]; exact own_getl hix)) (g := (mkF m 8 #[VR da, VI (Int32.ofNat ix)] [(.int (Int32.ofNat ix)), (.ref da)])) rfl rfl (hD d22_8) _ (XS.sipush X2.here hx rfl (hD d22_9) (XS.iand X2.here hx rfl (hD d22_12) rfl (XS.i2c X2.here hx rfl (hD d22_13) rfl k))))))) ?_
  rw [show ((((cs.getD ix 0).toInt8.toInt32 &&& (255:Int32)).toUInt32.toUInt16.toUInt32.toInt32) : Int32) = (cs.getD ix 0) from own_chr (hp _ (own_gmem hix))]
  obtain ⟨fs, hr, hrun, hended, hW, hsame⟩ := X2.leave (v := some (.int (nar .char (cs.getD ix 0)))) (fun h => by rw [Bd.returns] at h; cases h)
  refine OwnFin.leaf hP' ⟨_, _, retN X2 hx (t := .char) Bd.returns (by simp) (hD d22_14) hr, hrun, hended, _, _, rfl, ?_, ⟨_, rfl⟩, hW, hsame.mono (by decide) (by decide)⟩
  exact ⟨by rw [own_narc (hp _ (own_gmem hix))], N2, eh2⟩
theorem d43_0 : decode B43 0 = .ok (.aload_n 0, 1) := by decide +kernel
theorem d43_1 : decode B43 1 = .ok (.arraylength, 1) := by decide +kernel
theorem d43_2 : decode B43 2 = .ok (.iconst 1, 1) := by decide +kernel
theorem d43_3 : decode B43 3 = .ok (.ishr, 1) := by decide +kernel
theorem d43_4 : decode B43 4 = .ok (.ireturn, 1) := by decide +kernel
theorem own_ef_u16len (m : MethodId) (x0 : Addr) : entryFrame m #[(.ref x0)] 1 = mkF m 0 #[.val (.ref x0)] [] := by first | (simp [entryFrame, mkF, argsToLocals, Value.category]; done) | rfl
theorem own_pn_java_lang_StringUTF16 : plainName "java/lang/StringUTF16" = true := by first | (simp [plainName, overriddenIn]; done) | decide +kernel
def own_Q_u16len (Z : State) (da : Addr) (kd : ClassId) (cs : List Int32) (h0 : Heap) (n0 : Nat) (v : Option Value) (h : Heap) (L : List Loc) : Prop := v = some (.int (Int32.ofNat cs.length)) ∧ Fr n0 L ∧ h = h0
set_option maxRecDepth 65536 in
set_option maxHeartbeats 40000000 in
theorem own_u16len (l : Launch) (Z : State) (a0 : Array Value) (hw : ∀ d ∈ tables_1, d.before a0 Z = true) (ws : List Jvm.Cond) (da : Addr) (kd : ClassId) (cs : List Int32) (h0 : Heap) (n0 : Nat) (Z0 : n0 ≤ h0.size) (Va : Arv Z h0 da kd .byte (Int32.ofNat (own_wide cs).length) ((own_wide cs).map Value.int) (.int (0 : Int32))) (hlen : cs.length ≤ 4000) :
    MetFree l own_M43 (head1 (Jvm.Cond.code own_M43 jdk_52_method_6_code 1 (some .int) :: ws) ({ frames := 0, cells := 0, slots := 0, locals := 0 } : Room)) (fun A0 U0 => A0 = #[(.ref da)] ∧ Z.Warmed39 U0.vm ∧ U0.heap = h0) (fun _ _ _ _ _ => True) (fun _ U0 o0 U1 => ∃ v0 L0, o0 = .returned v0 ∧ own_Q_u16len Z da kd cs h0 n0 v0 U1.heap L0 ∧ FrameEnd U0 o0 U1 L0 0 0) := by
  refine MetFree.of_bodySF (plainFor_of_name own_pn_java_lang_StringUTF16) hisR ?_
  intro p e s m args below meth c s₁ Bd hml0 hP hK
  obtain ⟨rfl, hZ, hh⟩ := hP
  have hZs0 := hZ
  have hZs := hZ
  have hx := Bd.exec
  have hby := Bd.bytes
  have hD : ∀ {pc : Nat} {r : Except DecodeError (Instr × Nat)}, decode jdk_52_method_6_code pc = r → decode c.code pc = r := fun q => hb hby q
  have hml : c.maxLocals = 1 := hml0
  have hown : s.vm.findClass "java/lang/StringUTF16" = some m.cls := findClass_of_methodNamed Bd.named
  have hnm := (name_of_methodNamed Bd.named Bd.method).1
  have X0 : Stand p l e ({ frames := 0, cells := 0, slots := 0, locals := 0 } : Room) s m #[(.ref da)] below meth c s₁ [] 0 0 := Stand.of_body Bd
  have e0 : s₁.heap = h0 := by rw [← hh, Bd.state]; rfl
  have N0 := Fr.nil n0
  refine OwnFin.entry (own_ef_u16len m da) (fun P' hP' => ?_)
  have hml' := own_widelen cs
  have Va' := Va
  rw [hml'] at Va'
  obtain ⟨cl1, Ar1, ck1, S1, M1, H1, G1⟩ := id Va'
  refine OwnFin.adv (B := s₁.setTop (mkF m 1 #[VR da] [(.ref da)])) (fun _ k => XS.aloadN X0.here hx rfl (hD d43_0) rfl rfl k) ?_
  refine OwnFin.adv (B := s₁.setTop (mkF m 2 #[VR da] [(.int (Int32.ofNat (2 * cs.length)))])) (fun _ k => X0.arraylength hx (by rw [e0]; exact Ar1.1) (State.isArrayOf_alike hZ.alike Ar1.2.1) (g := (mkF m 1 #[VR da] [(.ref da)])) rfl rfl (hD d43_1) _ (by rw [len_of S1 M1]; exact k)) ?_
  obtain ⟨fs, hr, hrun, hended, hW, hsame⟩ := X0.leave (v := some (.int ((Int32.ofNat (2 * cs.length)) >>> ((1:Int32) &&& 31)))) (fun h => by rw [Bd.returns] at h; cases h)
  refine OwnFin.adv (B := s₁.setTop (mkF m 4 #[VR da] [(.int ((Int32.ofNat (2 * cs.length)) >>> ((1:Int32) &&& 31)))])) (fun _ k => XS.iconst X0.here hx rfl (hD d43_2) (XS.ishr X0.here hx rfl (hD d43_3) rfl k)) ?_
  refine OwnFin.leaf hP' ⟨_, _, own_retI X0 hx Bd.returns (hD d43_4) hr, hrun, hended, _, _, rfl, ?_, ⟨_, rfl⟩, hW, hsame.mono (by decide) (by decide)⟩
  exact ⟨by rw [own_half _ hlen], N0, e0⟩
theorem d42_0 : decode B42 0 = .ok (.iload_n 0, 1) := by decide +kernel
theorem d42_1 : decode B42 1 = .ok (.aload_n 1, 1) := by decide +kernel
theorem own_pd3 : parseMethodDescriptor "([B)I" = some ⟨[(.array .byte)], some .int⟩ := by decide +kernel
theorem d42_2 : decode B42 2 = .ok (.invokestatic 48, 3) := by decide +kernel
theorem d42_5 : decode B42 5 = .ok (.invokestatic 414, 3) := by decide +kernel
theorem d42_8 : decode B42 8 = .ok (.return_, 1) := by decide +kernel
theorem own_ef_u16chk (m : MethodId) (x0 : Int32) (x1 : Addr) : entryFrame m #[(.int x0), (.ref x1)] 2 = mkF m 0 #[.val (.int x0), .val (.ref x1)] [] := by first | (simp [entryFrame, mkF, argsToLocals, Value.category]; done) | rfl
def own_Q_u16chk (Z : State) (da : Addr) (kd : ClassId) (cs : List Int32) (ix : Nat) (fm : Value) (h0 : Heap) (n0 : Nat) (v : Option Value) (h : Heap) (L : List Loc) : Prop := v = none ∧ Fr n0 L ∧ h = h0
set_option maxRecDepth 65536 in
set_option maxHeartbeats 40000000 in
theorem own_u16chk (l : Launch) (Z : State) (a0 : Array Value) (hw : ∀ d ∈ tables_1, d.before a0 Z = true) (ws : List Jvm.Cond) (da : Addr) (kd : ClassId) (cs : List Int32) (ix : Nat) (fm : Value) (h0 : Heap) (n0 : Nat) (Z0 : n0 ≤ h0.size) (O0 : Old Z n0 h0) (SFM : Sta Z Z.heap "jdk/internal/util/Preconditions" "SIOOBE_FORMATTER" "Ljava/util/function/BiFunction;" fm) (rfm : fm.isRef = true) (Va : Arv Z h0 da kd .byte (Int32.ofNat (own_wide cs).length) ((own_wide cs).map Value.int) (.int (0 : Int32))) (hlen : cs.length ≤ 4000) (hix : ix < cs.length) :
    MetFree l own_M42 (head1 (Jvm.Cond.code own_M42 jdk_52_method_91_code 2 none :: ws) ({ frames := 2, cells := 0, slots := 0, locals := 27 } : Room)) (fun A0 U0 => A0 = #[(.int (Int32.ofNat ix)), (.ref da)] ∧ Z.Warmed39 U0.vm ∧ U0.heap = h0) (fun _ _ _ _ _ => True) (fun _ U0 o0 U1 => ∃ v0 L0, o0 = .returned v0 ∧ own_Q_u16chk Z da kd cs ix fm h0 n0 v0 U1.heap L0 ∧ FrameEnd U0 o0 U1 L0 0 0) := by
  refine MetFree.of_bodySF (plainFor_of_name own_pn_java_lang_StringUTF16) hisR ?_
  intro p e s m args below meth c s₁ Bd hml0 hP hK
  obtain ⟨rfl, hZ, hh⟩ := hP
  have hZs0 := hZ
  have hZs := hZ
  have hx := Bd.exec
  have hby := Bd.bytes
  have hD : ∀ {pc : Nat} {r : Except DecodeError (Instr × Nat)}, decode jdk_52_method_91_code pc = r → decode c.code pc = r := fun q => hb hby q
  have hml : c.maxLocals = 2 := hml0
  have hown : s.vm.findClass "java/lang/StringUTF16" = some m.cls := findClass_of_methodNamed Bd.named
  have hnm := (name_of_methodNamed Bd.named Bd.method).1
  have X0 : Stand p l e ({ frames := 2, cells := 0, slots := 0, locals := 27 } : Room) s m #[(.int (Int32.ofNat ix)), (.ref da)] below meth c s₁ [] 0 0 := Stand.of_body Bd
  have e0 : s₁.heap = h0 := by rw [← hh, Bd.state]; rfl
  have N0 := Fr.nil n0
  refine OwnFin.entry (own_ef_u16chk m (Int32.ofNat ix) da) (fun P' hP' => ?_)
  have hml' := own_widelen cs
  have Va' := Va
  rw [hml'] at Va'
  obtain ⟨_, _, ⟨T1, L1, k1, n1⟩, -, X1, ⟨Lc1, hQ1, l1, y1, z1⟩, st1⟩ := Jvm.LawKit.callS X0 hx (y := own_M43) hown (mvT hZ (own_w hw 205 rfl)) (mvT hZ (own_w hw 206 rfl)) (mvT hZ (own_w hw 18 rfl)) (mvT hZ (own_w hw 207 rfl)) (by decide) (backOf (W := 1) (own_u16len l Z a0 hw [] da kd cs h0 n0 (by omega) Va hlen) hZ (own_w hw 207 rfl) (own_w hw 18 rfl) (by decide) (by decide)) (g := (mkF m 2 #[VI (Int32.ofNat ix), VR da] [(.ref da), (.int (Int32.ofNat ix))])) rfl (by rw [hml]; rfl) (argsL := [(.ref da)]) (rest := [(.int (Int32.ofNat ix))]) (lenOf own_pd3 rfl) rfl (by show 2 * 0 + _ ≤ _; exact Nat.le_of_eq rfl) (hD d42_2) (fun _ _ => ⟨rfl, e0, (by decide : 0 + 0 ≤ _), (by decide : 0 + 0 ≤ _)⟩)
  dsimp only [Pt.U, Pt.locs, Pt.cells, Pt.slots] at X1 l1 y1 z1 st1 hQ1
  subst l1 y1 z1
  obtain ⟨rfl, N1q, eh1⟩ := hQ1
  have N1 := Fr.app N0 N1q
  obtain ⟨_, _, ⟨T2, L2, k2, n2⟩, -, X2, ⟨Lc2, hQ2, l2, y2, z2⟩, st2⟩ := Jvm.LawKit.callS X1 hx (y := own_M23) hown (mvT hZ (own_w hw 208 rfl)) (mvT hZ (own_w hw 120 rfl)) (mvT hZ (own_w hw 4 rfl)) (mvT hZ (own_w hw 121 rfl)) (by decide) (backOf (W := 0) (own_stChk l Z a0 hw [] fm ix cs.length h0 n0 (by omega) O0 SFM rfm hix hlen) hZ (own_w hw 121 rfl) (own_w hw 4 rfl) (by decide) (by decide)) (g := (mkF m 5 #[VI (Int32.ofNat ix), VR da] [(.int (Int32.ofNat cs.length)), (.int (Int32.ofNat ix))])) rfl (by rw [hml]; rfl) (argsL := [(.int (Int32.ofNat ix)), (.int (Int32.ofNat cs.length))]) (rest := []) (lenOf own_pd2 rfl) rfl (by show 2 * 0 + _ ≤ _; exact Nat.le_of_eq rfl) (hD d42_5) (fun _ _ => ⟨rfl, eh1, (by decide : 0 + 0 ≤ _), (by decide : 0 + 0 ≤ _)⟩)
  dsimp only [Pt.U, Pt.locs, Pt.cells, Pt.slots] at X2 l2 y2 z2 st2 hQ2
  subst l2 y2 z2
  obtain ⟨rfl, N2q, eh2⟩ := hQ2
  have N2 := Fr.app N1 N2q
  obtain ⟨fs, hr, hrun, hended, hW, hsame⟩ := X2.leave (v := none) (fun _ => rfl)
  refine OwnFin.adv (B := T2.setTop (mkF m 8 #[VI (Int32.ofNat ix), VR da] [])) (fun _ k => XS.iloadN X0.here hx rfl (hD d42_0) rfl (XS.aloadN X0.here hx rfl (hD d42_1) rfl rfl (st1 _ (st2 _ k)))) ?_
  refine OwnFin.leaf hP' ⟨_, _, X2.returnOut hx Bd.returns (hD d42_8) hr, hrun, hended, _, _, rfl, ?_, ⟨_, rfl⟩, hW, hsame.mono (by decide) (by decide)⟩
  exact ⟨rfl, N2, eh2⟩
theorem d40_0 : decode B40 0 = .ok (.getstatic 44, 3) := by decide +kernel
theorem d40_3 : decode B40 3 = .ok (.ifCond .ne 25, 3) := by decide +kernel
theorem d40_28 : decode B40 28 = .ok (.iload_n 1, 1) := by decide +kernel
theorem d40_29 : decode B40 29 = .ok (.iconst 1, 1) := by decide +kernel
theorem d40_30 : decode B40 30 = .ok (.ishl, 1) := by decide +kernel
theorem d40_31 : decode B40 31 = .ok (.istore_n 1, 1) := by decide +kernel
theorem d40_32 : decode B40 32 = .ok (.aload_n 0, 1) := by decide +kernel
theorem d40_33 : decode B40 33 = .ok (.iload_n 1, 1) := by decide +kernel
theorem d40_34 : decode B40 34 = .ok (.iinc 1 1, 3) := by decide +kernel
theorem d40_37 : decode B40 37 = .ok (.baload, 1) := by decide +kernel
theorem d40_38 : decode B40 38 = .ok (.sipush 255, 3) := by decide +kernel
theorem d40_41 : decode B40 41 = .ok (.iand, 1) := by decide +kernel
theorem d40_42 : decode B40 42 = .ok (.getstatic 59, 3) := by decide +kernel
theorem d40_45 : decode B40 45 = .ok (.ishl, 1) := by decide +kernel
theorem d40_46 : decode B40 46 = .ok (.aload_n 0, 1) := by decide +kernel
theorem d40_47 : decode B40 47 = .ok (.iload_n 1, 1) := by decide +kernel
theorem d40_48 : decode B40 48 = .ok (.baload, 1) := by decide +kernel
theorem d40_49 : decode B40 49 = .ok (.sipush 255, 3) := by decide +kernel
theorem d40_52 : decode B40 52 = .ok (.iand, 1) := by decide +kernel
theorem d40_53 : decode B40 53 = .ok (.getstatic 63, 3) := by decide +kernel
theorem d40_56 : decode B40 56 = .ok (.ishl, 1) := by decide +kernel
theorem d40_57 : decode B40 57 = .ok (.ior, 1) := by decide +kernel
theorem d40_58 : decode B40 58 = .ok (.i2c, 1) := by decide +kernel
theorem d40_59 : decode B40 59 = .ok (.ireturn, 1) := by decide +kernel
theorem own_ef_getChar (m : MethodId) (x0 : Addr) (x1 : Int32) : entryFrame m #[(.ref x0), (.int x1)] 2 = mkF m 0 #[.val (.ref x0), .val (.int x1)] [] := by first | (simp [entryFrame, mkF, argsToLocals, Value.category]; done) | rfl
def own_Q_getChar (Z : State) (da : Addr) (kd : ClassId) (cs : List Int32) (ix : Nat) (h0 : Heap) (n0 : Nat) (v : Option Value) (h : Heap) (L : List Loc) : Prop := v = some (.int (cs.getD ix 0)) ∧ Fr n0 L ∧ h = h0
set_option maxRecDepth 65536 in
set_option maxHeartbeats 40000000 in
theorem own_getChar (l : Launch) (Z : State) (a0 : Array Value) (hw : ∀ d ∈ tables_1, d.before a0 Z = true) (ws : List Jvm.Cond) (da : Addr) (kd : ClassId) (cs : List Int32) (ix : Nat) (h0 : Heap) (n0 : Nat) (Z0 : n0 ≤ h0.size) (O0 : Old Z n0 h0) (SAD : Sta Z Z.heap "java/lang/StringUTF16" "$assertionsDisabled" "Z" (.int (1 : Int32))) (SHI : Sta Z Z.heap "java/lang/StringUTF16" "HI_BYTE_SHIFT" "I" (.int (0 : Int32))) (SLO : Sta Z Z.heap "java/lang/StringUTF16" "LO_BYTE_SHIFT" "I" (.int (8 : Int32))) (Va : Arv Z h0 da kd .byte (Int32.ofNat (own_wide cs).length) ((own_wide cs).map Value.int) (.int (0 : Int32))) (hlen : cs.length ≤ 4000) (hix : ix < cs.length) (hch : ∀ c ∈ cs, ¬ c < 0 ∧ ¬ (65535 : Int32) < c) :
    MetFree l own_M40 (head1 (Jvm.Cond.code own_M40 jdk_52_method_5_code 2 (some .char) :: ws) ({ frames := 0, cells := 0, slots := 0, locals := 0 } : Room)) (fun A0 U0 => A0 = #[(.ref da), (.int (Int32.ofNat ix))] ∧ Z.Warmed39 U0.vm ∧ U0.heap = h0) (fun _ _ _ _ _ => True) (fun _ U0 o0 U1 => ∃ v0 L0, o0 = .returned v0 ∧ own_Q_getChar Z da kd cs ix h0 n0 v0 U1.heap L0 ∧ FrameEnd U0 o0 U1 L0 0 0) := by
  refine MetFree.of_bodySF (plainFor_of_name own_pn_java_lang_StringUTF16) hisR ?_
  intro p e s m args below meth c s₁ Bd hml0 hP hK
  obtain ⟨rfl, hZ, hh⟩ := hP
  have hZs0 := hZ
  have hZs := hZ
  have hx := Bd.exec
  have hby := Bd.bytes
  have hD : ∀ {pc : Nat} {r : Except DecodeError (Instr × Nat)}, decode jdk_52_method_5_code pc = r → decode c.code pc = r := fun q => hb hby q
  have hml : c.maxLocals = 2 := hml0
  have hown : s.vm.findClass "java/lang/StringUTF16" = some m.cls := findClass_of_methodNamed Bd.named
  have hnm := (name_of_methodNamed Bd.named Bd.method).1
  have X0 : Stand p l e ({ frames := 0, cells := 0, slots := 0, locals := 0 } : Room) s m #[(.ref da), (.int (Int32.ofNat ix))] below meth c s₁ [] 0 0 := Stand.of_body Bd
  have e0 : s₁.heap = h0 := by rw [← hh, Bd.state]; rfl
  have N0 := Fr.nil n0
  refine OwnFin.entry (own_ef_getChar m da (Int32.ofNat ix)) (fun P' hP' => ?_)
  have hml' := own_widelen cs
  have Va' := Va
  rw [hml'] at Va'
  obtain ⟨T1, X1, e1, st1⟩ := getS2 X0 hx hZ hown (host := "") (Or.inl (own_w hw 192 rfl)) Via.refl e0 (own_staK SAD O0) (g := (mkF m 0 #[VR da, VI (Int32.ofNat ix)] [])) rfl (hD d40_0)
  have hc3_2 : ¬ ((1:Int32) = (0:Int32)) := by decide
  refine OwnFin.adv (B := T1.setTop (mkF m 31 #[VR da, VI (Int32.ofNat ix)] [(.int ((Int32.ofNat ix) <<< ((1:Int32) &&& 31)))])) (fun _ k => st1 _ (XS.ifYes X1.here hx rfl (pc0 := 3) (pc' := 28) rfl (hD d40_3) rfl ((if0 _ _).trans (feq hc3_2).2) (by decide) (by decide) (XS.iloadN X1.here hx rfl (hD d40_28) rfl (XS.iconst X1.here hx rfl (hD d40_29) (XS.ishl X1.here hx rfl (hD d40_30) rfl k))))) ?_
  rw [show (((Int32.ofNat ix) <<< ((1:Int32) &&& 31)) : Int32) = (Int32.ofNat (2 * ix)) from own_shl1 _ (by omega)]
  obtain ⟨cl2, Ar2, ck2, S2, M2, H2, G2⟩ := id Va'
  have hin2 : ¬ ((Int32.ofNat (2 * ix)) < 0 ∨ cl2.slots.size ≤ ((Int32.ofNat (2 * ix))).toNatClampNeg) := inb_of S2 ⟨own_nn (by omega), (own_ltn (by omega) (by omega)).mpr (by omega)⟩
  obtain ⟨T3, X3, e3, st3⟩ := getS2 X1 hx hZ hown (host := "") (Or.inl (own_w hw 193 rfl)) Via.refl e1 (own_staK SHI O0) (g := (mkF m 42 #[VR da, VI ((Int32.ofNat (2 * ix)) + (1:Int32))] [(.int ((((cs.getD ix 0) >>> ((0:Int32) &&& 31)).toInt8.toInt32) &&& (255:Int32)))])) rfl (hD d40_42)
  refine OwnFin.adv (B := T3.setTop (mkF m 48 #[VR da, VI ((Int32.ofNat (2 * ix)) + (1:Int32))] [(.int ((Int32.ofNat (2 * ix)) + (1:Int32))), (.ref da), (.int (((((cs.getD ix 0) >>> ((0:Int32) &&& 31)).toInt8.toInt32) &&& (255:Int32)) <<< ((0:Int32) &&& 31)))])) (fun _ k => XS.istoreN X1.here hx rfl (hD d40_31) rfl (l' := #[VR da, VI (Int32.ofNat (2 * ix))]) rfl (XS.aloadN X1.here hx rfl (hD d40_32) rfl rfl (XS.iloadN X1.here hx rfl (hD d40_33) rfl (XS.iinc X1.here hx rfl (hD d40_34) rfl (l' := #[VR da, VI ((Int32.ofNat (2 * ix)) + (1:Int32))]) rfl (X1.baloadBytes hx (j := (Int32.ofNat (2 * ix))) (v := (.int (((cs.getD ix 0) >>> ((0:Int32) &&& 31)).toInt8.toInt32))) (by rw [e1]; exact Ar2.1) (State.isArrayOf_alike hZ.alike Ar2.2.1) Ar2.2.2 hin2 (Has.at H2 hin2 (by rw [own_cl (by omega), own_mapget]; exact congrArg Value.int (own_wide0 cs ix hix).1)) (g := (mkF m 37 #[VR da, VI ((Int32.ofNat (2 * ix)) + (1:Int32))] [(.int (Int32.ofNat (2 * ix))), (.ref da)])) rfl rfl (hD d40_37) _ (XS.sipush X1.here hx rfl (hD d40_38) (XS.iand X1.here hx rfl (hD d40_41) rfl (st3 _ (XS.ishl X3.here hx rfl (hD d40_45) rfl (XS.aloadN X3.here hx rfl (hD d40_46) rfl rfl (XS.iloadN X3.here hx rfl (hD d40_47) rfl k))))))))))) ?_
  rw [show (((Int32.ofNat (2 * ix)) + (1:Int32)) : Int32) = (Int32.ofNat (2 * ix + 1)) from own_add _ 1]
  obtain ⟨cl4, Ar4, ck4, S4, M4, H4, G4⟩ := id Va'
  have hin4 : ¬ ((Int32.ofNat (2 * ix + 1)) < 0 ∨ cl4.slots.size ≤ ((Int32.ofNat (2 * ix + 1))).toNatClampNeg) := inb_of S4 ⟨own_nn (by omega), (own_ltn (by omega) (by omega)).mpr (by omega)⟩
  obtain ⟨T5, X5, e5, st5⟩ := getS2 X3 hx hZ hown (host := "") (Or.inl (own_w hw 194 rfl)) Via.refl e3 (own_staK SLO O0) (g := (mkF m 53 #[VR da, VI (Int32.ofNat (2 * ix + 1))] [(.int ((((cs.getD ix 0) >>> ((8:Int32) &&& 31)).toInt8.toInt32) &&& (255:Int32))), (.int (((((cs.getD ix 0) >>> ((0:Int32) &&& 31)).toInt8.toInt32) &&& (255:Int32)) <<< ((0:Int32) &&& 31)))])) rfl (hD d40_53)
  refine OwnFin.adv (B := T5.setTop (mkF m 58 #[VR da, VI (Int32.ofNat (2 * ix + 1))] [(.int ((((((cs.getD ix 0) >>> ((0:Int32) &&& 31)).toInt8.toInt32) &&& (255:Int32)) <<< ((0:Int32) &&& 31)) ||| (((((cs.getD ix 0) >>> ((8:Int32) &&& 31)).toInt8.toInt32) &&& (255:Int32)) <<< ((8:Int32) &&& 31))))])) (fun _ k => X3.baloadBytes hx (j := (Int32.ofNat (2 * ix + 1))) (v := (.int (((cs.getD ix 0) >>> ((8:Int32) &&& 31)).toInt8.toInt32))) (by rw [e3]; exact Ar4.1) (State.isArrayOf_alike hZ.alike Ar4.2.1) Ar4.2.2 hin4 (Has.at H4 hin4 (by rw [own_cl (by omega), own_mapget]; exact congrArg Value.int (own_wide0 cs ix hix).2)) (g := (mkF m 48 #[VR da, VI (Int32.ofNat (2 * ix + 1))] [(.int (Int32.ofNat (2 * ix + 1))), (.ref da), (.int (((((cs.getD ix 0) >>> ((0:Int32) &&& 31)).toInt8.toInt32) &&& (255:Int32)) <<< ((0:Int32) &&& 31)))])) rfl rfl (hD d40_48) _ (XS.sipush X3.here hx rfl (hD d40_49) (XS.iand X3.here hx rfl (hD d40_52) rfl (st5 _ (XS.ishl X5.here hx rfl (hD d40_56) rfl (XS.ior X5.here hx rfl (hD d40_57) rfl k)))))) ?_
  rw [show (((((((cs.getD ix 0) >>> ((0:Int32) &&& 31)).toInt8.toInt32) &&& (255:Int32)) <<< ((0:Int32) &&& 31)) ||| (((((cs.getD ix 0) >>> ((8:Int32) &&& 31)).toInt8.toInt32) &&& (255:Int32)) <<< ((8:Int32) &&& 31))) : Int32) = (cs.getD ix 0) from own_gcv (hch _ (own_gmem hix))]
  refine OwnFin.adv (B := T5.setTop (mkF m 59 #[VR da, VI (Int32.ofNat (2 * ix + 1))] [(.int ((cs.getD ix 0).toUInt32.toUInt16.toUInt32.toInt32))])) (fun _ k => XS.i2c X5.here hx rfl (hD d40_58) rfl k) ?_
  rw [show (((cs.getD ix 0).toUInt32.toUInt16.toUInt32.toInt32) : Int32) = (cs.getD ix 0) from own_i2cC (hch _ (own_gmem hix))]
  obtain ⟨fs, hr, hrun, hended, hW, hsame⟩ := X5.leave (v := some (.int (nar .char (cs.getD ix 0)))) (fun h => by rw [Bd.returns] at h; cases h)
  refine OwnFin.leaf hP' ⟨_, _, retN X5 hx (t := .char) Bd.returns (by simp) (hD d40_59) hr, hrun, hended, _, _, rfl, ?_, ⟨_, rfl⟩, hW, hsame.mono (by decide) (by decide)⟩
  exact ⟨by rw [own_narC (hch _ (own_gmem hix))], N0, e5⟩
theorem d41_0 : decode B41 0 = .ok (.iload_n 1, 1) := by decide +kernel
theorem d41_1 : decode B41 1 = .ok (.aload_n 0, 1) := by decide +kernel
theorem own_pd4 : parseMethodDescriptor "(I[B)V" = some ⟨[.int, (.array .byte)], none⟩ := by decide +kernel
theorem d41_2 : decode B41 2 = .ok (.invokestatic 67, 3) := by decide +kernel
theorem d41_5 : decode B41 5 = .ok (.aload_n 0, 1) := by decide +kernel
theorem d41_6 : decode B41 6 = .ok (.iload_n 1, 1) := by decide +kernel
theorem own_pd5 : parseMethodDescriptor "([BI)C" = some ⟨[(.array .byte), .int], some .char⟩ := by decide +kernel
theorem d41_7 : decode B41 7 = .ok (.invokestatic 71, 3) := by decide +kernel
theorem d41_10 : decode B41 10 = .ok (.ireturn, 1) := by decide +kernel
theorem own_ef_u16ch (m : MethodId) (x0 : Addr) (x1 : Int32) : entryFrame m #[(.ref x0), (.int x1)] 2 = mkF m 0 #[.val (.ref x0), .val (.int x1)] [] := by first | (simp [entryFrame, mkF, argsToLocals, Value.category]; done) | rfl
def own_Q_u16ch (Z : State) (da : Addr) (kd : ClassId) (cs : List Int32) (ix : Nat) (fm : Value) (h0 : Heap) (n0 : Nat) (v : Option Value) (h : Heap) (L : List Loc) : Prop := v = some (.int (cs.getD ix 0)) ∧ Fr n0 L ∧ h = h0
set_option maxRecDepth 65536 in
set_option maxHeartbeats 40000000 in
theorem own_u16ch (l : Launch) (Z : State) (a0 : Array Value) (hw : ∀ d ∈ tables_1, d.before a0 Z = true) (ws : List Jvm.Cond) (da : Addr) (kd : ClassId) (cs : List Int32) (ix : Nat) (fm : Value) (h0 : Heap) (n0 : Nat) (Z0 : n0 ≤ h0.size) (O0 : Old Z n0 h0) (SFM : Sta Z Z.heap "jdk/internal/util/Preconditions" "SIOOBE_FORMATTER" "Ljava/util/function/BiFunction;" fm) (rfm : fm.isRef = true) (SAD : Sta Z Z.heap "java/lang/StringUTF16" "$assertionsDisabled" "Z" (.int (1 : Int32))) (SHI : Sta Z Z.heap "java/lang/StringUTF16" "HI_BYTE_SHIFT" "I" (.int (0 : Int32))) (SLO : Sta Z Z.heap "java/lang/StringUTF16" "LO_BYTE_SHIFT" "I" (.int (8 : Int32))) (Va : Arv Z h0 da kd .byte (Int32.ofNat (own_wide cs).length) ((own_wide cs).map Value.int) (.int (0 : Int32))) (hlen : cs.length ≤ 4000) (hix : ix < cs.length) (hch : ∀ c ∈ cs, ¬ c < 0 ∧ ¬ (65535 : Int32) < c) :
    MetFree l own_M41 (head1 (Jvm.Cond.code own_M41 jdk_52_method_83_code 2 (some .char) :: ws) ({ frames := 3, cells := 0, slots := 0, locals := 40 } : Room)) (fun A0 U0 => A0 = #[(.ref da), (.int (Int32.ofNat ix))] ∧ Z.Warmed39 U0.vm ∧ U0.heap = h0) (fun _ _ _ _ _ => True) (fun _ U0 o0 U1 => ∃ v0 L0, o0 = .returned v0 ∧ own_Q_u16ch Z da kd cs ix fm h0 n0 v0 U1.heap L0 ∧ FrameEnd U0 o0 U1 L0 0 0) := by
  refine MetFree.of_bodySF (plainFor_of_name own_pn_java_lang_StringUTF16) hisR ?_
  intro p e s m args below meth c s₁ Bd hml0 hP hK
  obtain ⟨rfl, hZ, hh⟩ := hP
  have hZs0 := hZ
  have hZs := hZ
  have hx := Bd.exec
  have hby := Bd.bytes
  have hD : ∀ {pc : Nat} {r : Except DecodeError (Instr × Nat)}, decode jdk_52_method_83_code pc = r → decode c.code pc = r := fun q => hb hby q
  have hml : c.maxLocals = 2 := hml0
  have hown : s.vm.findClass "java/lang/StringUTF16" = some m.cls := findClass_of_methodNamed Bd.named
  have hnm := (name_of_methodNamed Bd.named Bd.method).1
  have X0 : Stand p l e ({ frames := 3, cells := 0, slots := 0, locals := 40 } : Room) s m #[(.ref da), (.int (Int32.ofNat ix))] below meth c s₁ [] 0 0 := Stand.of_body Bd
  have e0 : s₁.heap = h0 := by rw [← hh, Bd.state]; rfl
  have N0 := Fr.nil n0
  refine OwnFin.entry (own_ef_u16ch m da (Int32.ofNat ix)) (fun P' hP' => ?_)
  have hml' := own_widelen cs
  have Va' := Va
  rw [hml'] at Va'
  obtain ⟨_, _, ⟨T1, L1, k1, n1⟩, -, X1, ⟨Lc1, hQ1, l1, y1, z1⟩, st1⟩ := Jvm.LawKit.callS X0 hx (y := own_M42) hown (mvT hZ (own_w hw 202 rfl)) (mvT hZ (own_w hw 203 rfl)) (mvT hZ (own_w hw 18 rfl)) (mvT hZ (own_w hw 204 rfl)) (by decide) (backOf (W := 0) (own_u16chk l Z a0 hw [] da kd cs ix fm h0 n0 (by omega) O0 SFM rfm Va hlen hix) hZ (own_w hw 204 rfl) (own_w hw 18 rfl) (by decide) (by decide)) (g := (mkF m 2 #[VR da, VI (Int32.ofNat ix)] [(.ref da), (.int (Int32.ofNat ix))])) rfl (by rw [hml]; rfl) (argsL := [(.int (Int32.ofNat ix)), (.ref da)]) (rest := []) (lenOf own_pd4 rfl) rfl (by show 2 * 0 + _ ≤ _; exact Nat.le_of_eq rfl) (hD d41_2) (fun _ _ => ⟨rfl, e0, (by decide : 0 + 0 ≤ _), (by decide : 0 + 0 ≤ _)⟩)
  dsimp only [Pt.U, Pt.locs, Pt.cells, Pt.slots] at X1 l1 y1 z1 st1 hQ1
  subst l1 y1 z1
  obtain ⟨rfl, N1q, eh1⟩ := hQ1
  have N1 := Fr.app N0 N1q
  obtain ⟨_, _, ⟨T2, L2, k2, n2⟩, -, X2, ⟨Lc2, hQ2, l2, y2, z2⟩, st2⟩ := Jvm.LawKit.callS X1 hx (y := own_M40) hown (mvT hZ (own_w hw 195 rfl)) (mvT hZ (own_w hw 196 rfl)) (mvT hZ (own_w hw 18 rfl)) (mvT hZ (own_w hw 197 rfl)) (by decide) (backOf (W := 0) (own_getChar l Z a0 hw [] da kd cs ix h0 n0 (by omega) O0 SAD SHI SLO Va hlen hix hch) hZ (own_w hw 197 rfl) (own_w hw 18 rfl) (by decide) (by decide)) (g := (mkF m 7 #[VR da, VI (Int32.ofNat ix)] [(.int (Int32.ofNat ix)), (.ref da)])) rfl (by rw [hml]; rfl) (argsL := [(.ref da), (.int (Int32.ofNat ix))]) (rest := []) (lenOf own_pd5 rfl) rfl (by show 2 * 0 + _ ≤ _; exact Nat.le_of_eq rfl) (hD d41_7) (fun _ _ => ⟨rfl, eh1, (by decide : 0 + 0 ≤ _), (by decide : 0 + 0 ≤ _)⟩)
  dsimp only [Pt.U, Pt.locs, Pt.cells, Pt.slots] at X2 l2 y2 z2 st2 hQ2
  subst l2 y2 z2
  obtain ⟨rfl, N2q, eh2⟩ := hQ2
  have N2 := Fr.app N1 N2q
  obtain ⟨fs, hr, hrun, hended, hW, hsame⟩ := X2.leave (v := some (.int (nar .char (cs.getD ix 0)))) (fun h => by rw [Bd.returns] at h; cases h)
  refine OwnFin.adv (B := T2.setTop (mkF m 10 #[VR da, VI (Int32.ofNat ix)] [(.int (cs.getD ix 0))])) (fun _ k => XS.iloadN X0.here hx rfl (hD d41_0) rfl (XS.aloadN X0.here hx rfl (hD d41_1) rfl rfl (st1 _ (XS.aloadN X1.here hx rfl (hD d41_5) rfl rfl (XS.iloadN X1.here hx rfl (hD d41_6) rfl (st2 _ k)))))) ?_
  refine OwnFin.leaf hP' ⟨_, _, retN X2 hx (t := .char) Bd.returns (by simp) (hD d41_10) hr, hrun, hended, _, _, rfl, ?_, ⟨_, rfl⟩, hW, hsame.mono (by decide) (by decide)⟩
  exact ⟨by rw [own_narC (hch _ (own_gmem hix))], N2, eh2⟩
theorem d20_0 : decode B20 0 = .ok (.aload_n 0, 1) := by decide +kernel
theorem own_pd6 : parseMethodDescriptor "()Z" = some ⟨[], some .boolean⟩ := by decide +kernel
theorem d20_1 : decode B20 1 = .ok (.invokevirtual 492, 3) := by decide +kernel
theorem d20_4 : decode B20 4 = .ok (.ifCond .eq 12, 3) := by decide +kernel
theorem d20_7 : decode B20 7 = .ok (.aload_n 0, 1) := by decide +kernel
theorem d20_8 : decode B20 8 = .ok (.getfield 9, 3) := by decide +kernel
theorem d20_11 : decode B20 11 = .ok (.iload_n 1, 1) := by decide +kernel
theorem d20_12 : decode B20 12 = .ok (.invokestatic 495, 3) := by decide +kernel
theorem d20_15 : decode B20 15 = .ok (.ireturn, 1) := by decide +kernel
theorem own_ef_chL (m : MethodId) (x0 : Addr) (x1 : Int32) : entryFrame m #[(.ref x0), (.int x1)] 2 = mkF m 0 #[.val (.ref x0), .val (.int x1)] [] := by first | (simp [entryFrame, mkF, argsToLocals, Value.category]; done) | rfl
def own_Q_chL (Z : State) (so ts : Addr) (ks : ClassId) (zc : Int32) (fm : Value) (ix : Nat) (cs : List Int32) (h0 : Heap) (n0 : Nat) (v : Option Value) (h : Heap) (L : List Loc) : Prop := v = some (.int (cs.getD ix 0)) ∧ Fr n0 L ∧ h = h0
set_option maxRecDepth 65536 in
set_option maxHeartbeats 40000000 in
theorem own_chL (l : Launch) (Z : State) (a0 : Array Value) (hw : ∀ d ∈ tables_1, d.before a0 Z = true) (ws : List Jvm.Cond) (so ts : Addr) (ks : ClassId) (zc : Int32) (fm : Value) (ix : Nat) (cs : List Int32) (h0 : Heap) (n0 : Nat) (Z0 : n0 ≤ h0.size) (O0 : Old Z n0 h0) (SCS : Sta Z Z.heap "java/lang/String" "COMPACT_STRINGS" "Z" (.int zc)) (hzc : ¬ zc = 0) (SFM : Sta Z Z.heap "jdk/internal/util/Preconditions" "SIOOBE_FORMATTER" "Ljava/util/function/BiFunction;" fm) (rfm : fm.isRef = true) (SAD : Sta Z Z.heap "java/lang/StringUTF16" "$assertionsDisabled" "Z" (.int (1 : Int32))) (SHI : Sta Z Z.heap "java/lang/StringUTF16" "HI_BYTE_SHIFT" "I" (.int (0 : Int32))) (SLO : Sta Z Z.heap "java/lang/StringUTF16" "LO_BYTE_SHIFT" "I" (.int (8 : Int32))) (Es : Exa Z h0 so "java/lang/String") (Vs : Fld Z h0 so "java/lang/String" "value" "[B" (.ref ts)) (Cs : Fld Z h0 so "java/lang/String" "coder" "B" (.int (0 : Int32))) (Va : Arv Z h0 ts ks .byte (Int32.ofNat (cs.map fun c => c.toInt8.toInt32).length) ((cs.map fun c => c.toInt8.toInt32).map Value.int) (.int (0 : Int32))) (hch : ∀ c ∈ cs, ¬ c < 0 ∧ ¬ (65535 : Int32) < c) (hp5 : ∀ c ∈ cs, ¬ (255 : Int32) < c) (hlen : cs.length ≤ 4000) (hix : ix < cs.length) :
    MetFree l own_M20 (head1 (Jvm.Cond.code own_M20 jdk_42_method_56_code 2 (some .char) :: ws) ({ frames := 5, cells := 0, slots := 0, locals := 100 } : Room)) (fun A0 U0 => A0 = #[(.ref so), (.int (Int32.ofNat ix))] ∧ Z.Warmed39 U0.vm ∧ U0.heap = h0) (fun _ _ _ _ _ => True) (fun _ U0 o0 U1 => ∃ v0 L0, o0 = .returned v0 ∧ own_Q_chL Z so ts ks zc fm ix cs h0 n0 v0 U1.heap L0 ∧ FrameEnd U0 o0 U1 L0 0 0) := by
  refine MetFree.of_bodySF (plainFor_of_name own_pn_java_lang_String) hisR ?_
  intro p e s m args below meth c s₁ Bd hml0 hP hK
  obtain ⟨rfl, hZ, hh⟩ := hP
  have hZs0 := hZ
  have hZs := hZ
  have hx := Bd.exec
  have hby := Bd.bytes
  have hD : ∀ {pc : Nat} {r : Except DecodeError (Instr × Nat)}, decode jdk_42_method_56_code pc = r → decode c.code pc = r := fun q => hb hby q
  have hml : c.maxLocals = 2 := hml0
  have hown : s.vm.findClass "java/lang/String" = some m.cls := findClass_of_methodNamed Bd.named
  have hnm := (name_of_methodNamed Bd.named Bd.method).1
  have X0 : Stand p l e ({ frames := 5, cells := 0, slots := 0, locals := 100 } : Room) s m #[(.ref so), (.int (Int32.ofNat ix))] below meth c s₁ [] 0 0 := Stand.of_body Bd
  have e0 : s₁.heap = h0 := by rw [← hh, Bd.state]; rfl
  have N0 := Fr.nil n0
  refine OwnFin.entry (own_ef_chL m so (Int32.ofNat ix)) (fun P' hP' => ?_)
  obtain ⟨cq1, kq1, q1a, q1b, q1c⟩ := isOf hZ e0 Es
  obtain ⟨_, _, ⟨T1, L1, k1, n1⟩, -, X1, ⟨Lc1, hQ1, l1, y1, z1⟩, st1⟩ := X0.virtualBack hx (y := own_M21) (z := own_M21) hown (mvT hZ (own_w hw 110 rfl)) (mvT hZ (own_w hw 111 rfl)) (notFace_of_selects (args := #[]) (mvT hZ (own_w hw 113 rfl))) (mvT hZ (own_w hw 113 rfl)) (mvT hZ (own_w hw 112 rfl)) (by decide) (backOf (W := 0) (own_isL l Z a0 hw [] so zc h0 n0 (by omega) O0 SCS hzc Cs) hZ (own_w hw 114 rfl) (own_w hw 4 rfl) (by decide) (by decide)) q1a q1c (g := (mkF m 1 #[VR so, VI (Int32.ofNat ix)] [(.ref so)])) rfl (by rw [hml]; rfl) (Steps.refl _) (argsL := []) (rest := []) (lenOf own_pd6 rfl) rfl (by show 2 * 0 + _ ≤ _; exact Nat.le_of_eq rfl) (hD d20_1) (fun _ _ => ⟨rfl, e0, (by decide : 0 + 0 ≤ _), (by decide : 0 + 0 ≤ _)⟩)
  dsimp only [Pt.U, Pt.locs, Pt.cells, Pt.slots] at X1 l1 y1 z1 st1 hQ1
  subst l1 y1 z1
  obtain ⟨rfl, N1q, eh1⟩ := hQ1
  have N1 := Fr.app N0 N1q
  have hc4_3 : ¬ ((1:Int32) = (0:Int32)) := by decide
  obtain ⟨T2, X2, e2, st2⟩ := getF X1 hx hZ hown (host := "") (Or.inl (own_w hw 29 rfl)) Via.refl eh1 Vs (g := (mkF m 8 #[VR so, VI (Int32.ofNat ix)] [(.ref so)])) rfl rfl (hD d20_8)
  obtain ⟨_, _, ⟨T3, L3, k3, n3⟩, -, X3, ⟨Lc3, hQ3, l3, y3, z3⟩, st3⟩ := Jvm.LawKit.callS X2 hx (y := own_M22) hown (mvT hZ (own_w hw 115 rfl)) (mvT hZ (own_w hw 116 rfl)) (mvT hZ (own_w hw 117 rfl)) (mvT hZ (own_w hw 118 rfl)) (by decide) (backOf (W := 0) (own_l1ch l Z a0 hw [] ts ks cs ix fm h0 n0 (by omega) O0 SFM rfm Va (fun c hc => ⟨(hch c hc).1, hp5 c hc⟩) hlen hix) hZ (own_w hw 118 rfl) (own_w hw 117 rfl) (by decide) (by decide)) (g := (mkF m 12 #[VR so, VI (Int32.ofNat ix)] [(.int (Int32.ofNat ix)), (.ref ts)])) rfl (by rw [hml]; rfl) (argsL := [(.ref ts), (.int (Int32.ofNat ix))]) (rest := []) (lenOf own_pd5 rfl) rfl (by show 2 * 0 + _ ≤ _; exact Nat.le_of_eq rfl) (hD d20_12) (fun _ _ => ⟨rfl, e2, (by decide : 0 + 0 ≤ _), (by decide : 0 + 0 ≤ _)⟩)
  dsimp only [Pt.U, Pt.locs, Pt.cells, Pt.slots] at X3 l3 y3 z3 st3 hQ3
  subst l3 y3 z3
  obtain ⟨rfl, N3q, eh3⟩ := hQ3
  have N3 := Fr.app N1 N3q
  obtain ⟨fs, hr, hrun, hended, hW, hsame⟩ := X3.leave (v := some (.int (nar .char (cs.getD ix 0)))) (fun h => by rw [Bd.returns] at h; cases h)
  refine OwnFin.adv (B := T3.setTop (mkF m 15 #[VR so, VI (Int32.ofNat ix)] [(.int (cs.getD ix 0))])) (fun _ k => XS.aloadN X0.here hx rfl (hD d20_0) rfl rfl (st1.trans (XS.ifNo X1.here hx rfl (hD d20_4) rfl ((if0 _ _).trans (feq hc4_3).1) (XS.aloadN X1.here hx rfl (hD d20_7) rfl rfl (st2 _ (XS.iloadN X2.here hx rfl (hD d20_11) rfl (st3 _ k))))))) ?_
  refine OwnFin.leaf hP' ⟨_, _, retN X3 hx (t := .char) Bd.returns (by simp) (hD d20_15) hr, hrun, hended, _, _, rfl, ?_, ⟨_, rfl⟩, hW, hsame.mono (by decide) (by decide)⟩
  exact ⟨by rw [own_narC (hch _ (own_gmem hix))], N3, eh3⟩
theorem d20_16 : decode B20 16 = .ok (.aload_n 0, 1) := by decide +kernel
theorem d20_17 : decode B20 17 = .ok (.getfield 9, 3) := by decide +kernel
theorem d20_20 : decode B20 20 = .ok (.iload_n 1, 1) := by decide +kernel
theorem d20_21 : decode B20 21 = .ok (.invokestatic 498, 3) := by decide +kernel
theorem d20_24 : decode B20 24 = .ok (.ireturn, 1) := by decide +kernel
theorem own_ef_chU (m : MethodId) (x0 : Addr) (x1 : Int32) : entryFrame m #[(.ref x0), (.int x1)] 2 = mkF m 0 #[.val (.ref x0), .val (.int x1)] [] := by first | (simp [entryFrame, mkF, argsToLocals, Value.category]; done) | rfl
def own_Q_chU (Z : State) (so ts : Addr) (ks : ClassId) (zc : Int32) (fm : Value) (ix : Nat) (cs : List Int32) (h0 : Heap) (n0 : Nat) (v : Option Value) (h : Heap) (L : List Loc) : Prop := v = some (.int (cs.getD ix 0)) ∧ Fr n0 L ∧ h = h0
set_option maxRecDepth 65536 in
set_option maxHeartbeats 40000000 in
theorem own_chU (l : Launch) (Z : State) (a0 : Array Value) (hw : ∀ d ∈ tables_1, d.before a0 Z = true) (ws : List Jvm.Cond) (so ts : Addr) (ks : ClassId) (zc : Int32) (fm : Value) (ix : Nat) (cs : List Int32) (h0 : Heap) (n0 : Nat) (Z0 : n0 ≤ h0.size) (O0 : Old Z n0 h0) (SCS : Sta Z Z.heap "java/lang/String" "COMPACT_STRINGS" "Z" (.int zc)) (hzc : ¬ zc = 0) (SFM : Sta Z Z.heap "jdk/internal/util/Preconditions" "SIOOBE_FORMATTER" "Ljava/util/function/BiFunction;" fm) (rfm : fm.isRef = true) (SAD : Sta Z Z.heap "java/lang/StringUTF16" "$assertionsDisabled" "Z" (.int (1 : Int32))) (SHI : Sta Z Z.heap "java/lang/StringUTF16" "HI_BYTE_SHIFT" "I" (.int (0 : Int32))) (SLO : Sta Z Z.heap "java/lang/StringUTF16" "LO_BYTE_SHIFT" "I" (.int (8 : Int32))) (Es : Exa Z h0 so "java/lang/String") (Vs : Fld Z h0 so "java/lang/String" "value" "[B" (.ref ts)) (Cs : Fld Z h0 so "java/lang/String" "coder" "B" (.int (1 : Int32))) (Va : Arv Z h0 ts ks .byte (Int32.ofNat (own_wide cs).length) ((own_wide cs).map Value.int) (.int (0 : Int32))) (hch : ∀ c ∈ cs, ¬ c < 0 ∧ ¬ (65535 : Int32) < c) (hp5 : True) (hlen : cs.length ≤ 4000) (hix : ix < cs.length) :
    MetFree l own_M20 (head1 (Jvm.Cond.code own_M20 jdk_42_method_56_code 2 (some .char) :: ws) ({ frames := 5, cells := 0, slots := 0, locals := 100 } : Room)) (fun A0 U0 => A0 = #[(.ref so), (.int (Int32.ofNat ix))] ∧ Z.Warmed39 U0.vm ∧ U0.heap = h0) (fun _ _ _ _ _ => True) (fun _ U0 o0 U1 => ∃ v0 L0, o0 = .returned v0 ∧ own_Q_chU Z so ts ks zc fm ix cs h0 n0 v0 U1.heap L0 ∧ FrameEnd U0 o0 U1 L0 0 0) := by
  refine MetFree.of_bodySF (plainFor_of_name own_pn_java_lang_String) hisR ?_
  intro p e s m args below meth c s₁ Bd hml0 hP hK
  obtain ⟨rfl, hZ, hh⟩ := hP
  have hZs0 := hZ
  have hZs := hZ
  have hx := Bd.exec
  have hby := Bd.bytes
  have hD : ∀ {pc : Nat} {r : Except DecodeError (Instr × Nat)}, decode jdk_42_method_56_code pc = r → decode c.code pc = r := fun q => hb hby q
  have hml : c.maxLocals = 2 := hml0
  have hown : s.vm.findClass "java/lang/String" = some m.cls := findClass_of_methodNamed Bd.named
  have hnm := (name_of_methodNamed Bd.named Bd.method).1
  have X0 : Stand p l e ({ frames := 5, cells := 0, slots := 0, locals := 100 } : Room) s m #[(.ref so), (.int (Int32.ofNat ix))] below meth c s₁ [] 0 0 := Stand.of_body Bd
  have e0 : s₁.heap = h0 := by rw [← hh, Bd.state]; rfl
  have N0 := Fr.nil n0
  refine OwnFin.entry (own_ef_chU m so (Int32.ofNat ix)) (fun P' hP' => ?_)
  obtain ⟨cq1, kq1, q1a, q1b, q1c⟩ := isOf hZ e0 Es
  obtain ⟨_, _, ⟨T1, L1, k1, n1⟩, -, X1, ⟨Lc1, hQ1, l1, y1, z1⟩, st1⟩ := X0.virtualBack hx (y := own_M21) (z := own_M21) hown (mvT hZ (own_w hw 110 rfl)) (mvT hZ (own_w hw 111 rfl)) (notFace_of_selects (args := #[]) (mvT hZ (own_w hw 113 rfl))) (mvT hZ (own_w hw 113 rfl)) (mvT hZ (own_w hw 112 rfl)) (by decide) (backOf (W := 0) (own_isU l Z a0 hw [] so zc h0 n0 (by omega) O0 SCS hzc Cs) hZ (own_w hw 114 rfl) (own_w hw 4 rfl) (by decide) (by decide)) q1a q1c (g := (mkF m 1 #[VR so, VI (Int32.ofNat ix)] [(.ref so)])) rfl (by rw [hml]; rfl) (Steps.refl _) (argsL := []) (rest := []) (lenOf own_pd6 rfl) rfl (by show 2 * 0 + _ ≤ _; exact Nat.le_of_eq rfl) (hD d20_1) (fun _ _ => ⟨rfl, e0, (by decide : 0 + 0 ≤ _), (by decide : 0 + 0 ≤ _)⟩)
  dsimp only [Pt.U, Pt.locs, Pt.cells, Pt.slots] at X1 l1 y1 z1 st1 hQ1
  subst l1 y1 z1
  obtain ⟨rfl, N1q, eh1⟩ := hQ1
  have N1 := Fr.app N0 N1q
  have hc4_3 : (0:Int32) = (0:Int32) := rfl
  obtain ⟨T2, X2, e2, st2⟩ := getF X1 hx hZ hown (host := "") (Or.inl (own_w hw 29 rfl)) Via.refl eh1 Vs (g := (mkF m 17 #[VR so, VI (Int32.ofNat ix)] [(.ref so)])) rfl rfl (hD d20_17)
  obtain ⟨_, _, ⟨T3, L3, k3, n3⟩, -, X3, ⟨Lc3, hQ3, l3, y3, z3⟩, st3⟩ := Jvm.LawKit.callS X2 hx (y := own_M41) hown (mvT hZ (own_w hw 199 rfl)) (mvT hZ (own_w hw 200 rfl)) (mvT hZ (own_w hw 18 rfl)) (mvT hZ (own_w hw 201 rfl)) (by decide) (backOf (W := 0) (own_u16ch l Z a0 hw [] ts ks cs ix fm h0 n0 (by omega) O0 SFM rfm SAD SHI SLO Va hlen hix hch) hZ (own_w hw 201 rfl) (own_w hw 18 rfl) (by decide) (by decide)) (g := (mkF m 21 #[VR so, VI (Int32.ofNat ix)] [(.int (Int32.ofNat ix)), (.ref ts)])) rfl (by rw [hml]; rfl) (argsL := [(.ref ts), (.int (Int32.ofNat ix))]) (rest := []) (lenOf own_pd5 rfl) rfl (by show 2 * 0 + _ ≤ _; exact Nat.le_of_eq rfl) (hD d20_21) (fun _ _ => ⟨rfl, e2, (by decide : 0 + 0 ≤ _), (by decide : 0 + 0 ≤ _)⟩)
  dsimp only [Pt.U, Pt.locs, Pt.cells, Pt.slots] at X3 l3 y3 z3 st3 hQ3
  subst l3 y3 z3
  obtain ⟨rfl, N3q, eh3⟩ := hQ3
  have N3 := Fr.app N1 N3q
  obtain ⟨fs, hr, hrun, hended, hW, hsame⟩ := X3.leave (v := some (.int (nar .char (cs.getD ix 0)))) (fun h => by rw [Bd.returns] at h; cases h)
  refine OwnFin.adv (B := T3.setTop (mkF m 24 #[VR so, VI (Int32.ofNat ix)] [(.int (cs.getD ix 0))])) (fun _ k => XS.aloadN X0.here hx rfl (hD d20_0) rfl rfl (st1.trans (XS.ifYes X1.here hx rfl (pc0 := 4) (pc' := 16) rfl (hD d20_4) rfl ((if0 _ _).trans (teq hc4_3).1) (by decide) (by decide) (XS.aloadN X1.here hx rfl (hD d20_16) rfl rfl (st2 _ (XS.iloadN X2.here hx rfl (hD d20_20) rfl (st3 _ k))))))) ?_
  refine OwnFin.leaf hP' ⟨_, _, retN X3 hx (t := .char) Bd.returns (by simp) (hD d20_24) hr, hrun, hended, _, _, rfl, ?_, ⟨_, rfl⟩, hW, hsame.mono (by decide) (by decide)⟩
  exact ⟨by rw [own_narC (hch _ (own_gmem hix))], N3, eh3⟩
def own_Q_strCh (ix : Nat) (cs : List Int32) (h0 : Heap) (n0 : Nat) (v : Option Value) (h : Heap) (L : List Loc) : Prop := v = some (.int (cs.getD ix 0)) ∧ Fr n0 L ∧ h = h0
theorem own_strCh (l : Launch) (Z : State) (a0 : Array Value) (hw : ∀ d ∈ tables_1, d.before a0 Z = true) (ws : List Jvm.Cond) (so : Addr) (zc : Int32) (fm : Value) (lim ix : Nat) (cs : List Int32) (h0 : Heap) (n0 : Nat) (Z0 : n0 ≤ h0.size) (O0 : Old Z n0 h0) (SCS : Sta Z Z.heap "java/lang/String" "COMPACT_STRINGS" "Z" (.int zc)) (hzc : ¬ zc = 0) (SFM : Sta Z Z.heap "jdk/internal/util/Preconditions" "SIOOBE_FORMATTER" "Ljava/util/function/BiFunction;" fm) (rfm : fm.isRef = true) (SAD : Sta Z Z.heap "java/lang/StringUTF16" "$assertionsDisabled" "Z" (.int (1 : Int32))) (SHI : Sta Z Z.heap "java/lang/StringUTF16" "HI_BYTE_SHIFT" "I" (.int (0 : Int32))) (SLO : Sta Z Z.heap "java/lang/StringUTF16" "LO_BYTE_SHIFT" "I" (.int (8 : Int32))) (Fs : OwnS Z h0 lim so cs) (hix : ix < cs.length) :
    MetFree l own_M20 (head1 (Jvm.Cond.code own_M20 jdk_42_method_56_code 2 (some .char) :: ws) ({ frames := 5, cells := 0, slots := 0, locals := 100 } : Room)) (fun A0 U0 => A0 = #[(.ref so), (.int (Int32.ofNat ix))] ∧ Z.Warmed39 U0.vm ∧ U0.heap = h0) (fun _ _ _ _ _ => True) (fun _ U0 o0 U1 => ∃ v0 L0, o0 = .returned v0 ∧ own_Q_strCh ix cs h0 n0 v0 U1.heap L0 ∧ FrameEnd U0 o0 U1 L0 0 0) := by
  obtain ⟨ts, ks, cd, bs, Es, Vs, Cs, As, lx, lt, hcb, hch, hl4⟩ := id Fs
  rcases hcb with ⟨rfl, rfl, hp5⟩ | ⟨rfl, rfl⟩
  · exact own_chL l Z a0 hw ws so ts ks zc fm ix cs h0 n0 Z0 O0 SCS hzc SFM rfm SAD SHI SLO Es Vs Cs As hch hp5 hl4 hix
  · exact own_chU l Z a0 hw ws so ts ks zc fm ix cs h0 n0 Z0 O0 SCS hzc SFM rfm SAD SHI SLO Es Vs Cs As hch trivial hl4 hix
theorem d19_0 : decode B19 0 = .ok (.aload_n 0, 1) := by decide +kernel
theorem d19_1 : decode B19 1 = .ok (.getfield 7, 3) := by decide +kernel
theorem d19_4 : decode B19 4 = .ok (.arraylength, 1) := by decide +kernel
theorem d19_5 : decode B19 5 = .ok (.aload_n 0, 1) := by decide +kernel
theorem d19_6 : decode B19 6 = .ok (.getfield 106, 3) := by decide +kernel
theorem d19_9 : decode B19 9 = .ok (.isub, 1) := by decide +kernel
theorem d19_10 : decode B19 10 = .ok (.iload_n 1, 1) := by decide +kernel
theorem d19_11 : decode B19 11 = .ok (.if_icmp .ge 30, 3) := by decide +kernel
theorem d19_41 : decode B19 41 = .ok (.return_, 1) := by decide +kernel
theorem own_ef_room (m : MethodId) (x0 : Addr) (x1 : Int32) : entryFrame m #[(.ref x0), (.int x1)] 2 = mkF m 0 #[.val (.ref x0), .val (.int x1)] [] := by first | (simp [entryFrame, mkF, argsToLocals, Value.category]; done) | rfl
theorem own_pn_tramline_routes_JsonWriter : plainName "tramline/routes/JsonWriter" = true := by first | (simp [plainName, overriddenIn]; done) | decide +kernel
def own_Q_room (Z : State) (ob ba oa ga : Addr) (kb ko kg : ClassId) (T : List Int32) (dp bg sd : Int32) (mr : Nat) (h0 : Heap) (n0 : Nat) (v : Option Value) (h : Heap) (L : List Loc) : Prop := v = none ∧ Fr n0 L ∧ h = h0
set_option maxRecDepth 65536 in
set_option maxHeartbeats 40000000 in
theorem own_room (l : Launch) (Z : State) (a0 : Array Value) (hw : ∀ d ∈ tables_1, d.before a0 Z = true) (ws : List Jvm.Cond) (ob ba oa ga : Addr) (kb ko kg : ClassId) (T : List Int32) (dp bg sd : Int32) (mr : Nat) (h0 : Heap) (n0 : Nat) (Z0 : n0 ≤ h0.size) (J : OwnJ Z h0 ob ba oa ga kb ko kg (T) dp bg sd) (hT : OwnLe T 200) (hmr : mr ≤ 56) :
    MetFree l own_M19 (head1 (Jvm.Cond.code own_M19 prog_32_method_26_code 2 none :: ws) ({ frames := 0, cells := 0, slots := 0, locals := 0 } : Room)) (fun A0 U0 => A0 = #[(.ref ob), (.int (Int32.ofNat mr))] ∧ Z.Warmed39 U0.vm ∧ U0.heap = h0) (fun _ _ _ _ _ => True) (fun _ U0 o0 U1 => ∃ v0 L0, o0 = .returned v0 ∧ own_Q_room Z ob ba oa ga kb ko kg T dp bg sd mr h0 n0 v0 U1.heap L0 ∧ FrameEnd U0 o0 U1 L0 0 0) := by
  refine MetFree.of_bodySF (plainFor_of_name own_pn_tramline_routes_JsonWriter) hisR ?_
  intro p e s m args below meth c s₁ Bd hml0 hP hK
  obtain ⟨rfl, hZ, hh⟩ := hP
  have hZs0 := hZ
  have hZs := hZ
  have hx := Bd.exec
  have hby := Bd.bytes
  have hD : ∀ {pc : Nat} {r : Except DecodeError (Instr × Nat)}, decode prog_32_method_26_code pc = r → decode c.code pc = r := fun q => hb hby q
  have hml : c.maxLocals = 2 := hml0
  have hown : s.vm.findClass "tramline/routes/JsonWriter" = some m.cls := findClass_of_methodNamed Bd.named
  have hnm := (name_of_methodNamed Bd.named Bd.method).1
  have X0 : Stand p l e ({ frames := 0, cells := 0, slots := 0, locals := 0 } : Room) s m #[(.ref ob), (.int (Int32.ofNat mr))] below meth c s₁ [] 0 0 := Stand.of_body Bd
  have e0 : s₁.heap = h0 := by rw [← hh, Bd.state]; rfl
  have N0 := Fr.nil n0
  refine OwnFin.entry (own_ef_room m ob (Int32.ofNat mr)) (fun P' hP' => ?_)
  obtain ⟨Ew1, fbytes_1, fsize_1, fobjects_1, fbegun_1, fdepth_1, fnamed_1, fstarted_1, Vb1, Vo1, Vg1, la_1, lb_1, lc_1⟩ := id J
  have la_1 := own_lt la_1
  have lb_1 := own_lt lb_1
  have lc_1 := own_lt lc_1
  have lw1 := own_lt Ew1.lt
  have lg1 := own_lt Vg1.lt
  have ld_1 := Nat.lt_trans la_1 lb_1
  have lf_1 := Nat.lt_trans lb_1 lc_1
  have le_1 := Nat.lt_trans ld_1 lc_1
  obtain ⟨T2, X2, e2, st2⟩ := getF X0 hx hZ hown (host := "") (Or.inl (own_w hw 48 rfl)) Via.refl e0 fbytes_1 (g := (mkF m 1 #[VR ob, VI (Int32.ofNat mr)] [(.ref ob)])) rfl rfl (hD d19_1)
  obtain ⟨cl3, Ar3, ck3, S3, M3, H3, G3⟩ := id Vb1
  refine OwnFin.adv (B := T2.setTop (mkF m 4 #[VR ob, VI (Int32.ofNat mr)] [(.ref ba)])) (fun _ k => XS.aloadN X0.here hx rfl (hD d19_0) rfl rfl (st2 _ k)) ?_
  refine OwnFin.adv (B := T2.setTop (mkF m 5 #[VR ob, VI (Int32.ofNat mr)] [(.int 256)])) (fun _ k => X2.arraylength hx (by rw [e2]; exact Ar3.1) (State.isArrayOf_alike hZ.alike Ar3.2.1) (g := (mkF m 4 #[VR ob, VI (Int32.ofNat mr)] [(.ref ba)])) rfl rfl (hD d19_4) _ (by rw [len_of S3 M3]; exact k)) ?_
  obtain ⟨T4, X4, e4, st4⟩ := getF X2 hx hZ hown (host := "") (Or.inl (own_w hw 60 rfl)) Via.refl e2 fsize_1 (g := (mkF m 6 #[VR ob, VI (Int32.ofNat mr)] [(.ref ob), (.int 256)])) rfl rfl (hD d19_6)
  have hc11_8 : ¬ (((256:Int32) - (Int32.ofNat (T).length)) < (Int32.ofNat mr)) := own_room1 hT hmr
  obtain ⟨fs, hr, hrun, hended, hW, hsame⟩ := X4.leave (v := none) (fun _ => rfl)
  refine OwnFin.adv (B := T4.setTop (mkF m 41 #[VR ob, VI (Int32.ofNat mr)] [])) (fun _ k => XS.aloadN X2.here hx rfl (hD d19_5) rfl rfl (st4 _ (XS.isub X4.here hx rfl (hD d19_9) rfl (XS.iloadN X4.here hx rfl (hD d19_10) rfl (XS.icmpYes X4.here hx rfl (pc0 := 11) (pc' := 41) rfl (hD d19_11) rfl (flt hc11_8).2.1 (by decide) (by decide) k))))) ?_
  refine OwnFin.leaf hP' ⟨_, _, X4.returnOut hx Bd.returns (hD d19_41) hr, hrun, hended, _, _, rfl, ?_, ⟨_, rfl⟩, hW, hsame.mono (by decide) (by decide)⟩
  exact ⟨rfl, N0, e4⟩
theorem d31_0 : decode B31 0 = .ok (.aload_n 0, 1) := by decide +kernel
theorem d31_1 : decode B31 1 = .ok (.iconst 1, 1) := by decide +kernel
theorem own_pd7 : parseMethodDescriptor "(I)V" = some ⟨[.int], none⟩ := by decide +kernel
theorem d31_2 : decode B31 2 = .ok (.invokevirtual 131, 3) := by decide +kernel
theorem own_selp_19 {Z : State} {a0 : Array Value} (hw : ∀ d ∈ tables_1, d.before a0 Z = true) : (Cond.selects "tramline/routes/JsonWriter" own_M19 own_M19).before a0 Z = true := own_selp (y := own_M19) (z := own_M11) (own_w hw 102 rfl) (own_w hw 103 rfl) (own_w hw 56 rfl) (notFace_of_selects (args := a0) (own_w hw 58 rfl)) rfl (by decide)
theorem d31_5 : decode B31 5 = .ok (.aload_n 0, 1) := by decide +kernel
theorem d31_6 : decode B31 6 = .ok (.getfield 7, 3) := by decide +kernel
theorem d31_9 : decode B31 9 = .ok (.aload_n 0, 1) := by decide +kernel
theorem d31_10 : decode B31 10 = .ok (.dup, 1) := by decide +kernel
theorem d31_11 : decode B31 11 = .ok (.getfield 106, 3) := by decide +kernel
theorem d31_14 : decode B31 14 = .ok (.dup_x1, 1) := by decide +kernel
theorem d31_15 : decode B31 15 = .ok (.iconst 1, 1) := by decide +kernel
theorem d31_16 : decode B31 16 = .ok (.iadd, 1) := by decide +kernel
theorem d31_17 : decode B31 17 = .ok (.putfield 106, 3) := by decide +kernel
theorem d31_20 : decode B31 20 = .ok (.iload_n 1, 1) := by decide +kernel
theorem d31_21 : decode B31 21 = .ok (.bastore, 1) := by decide +kernel
theorem d31_22 : decode B31 22 = .ok (.return_, 1) := by decide +kernel
theorem own_sn0 {Z : State} {a0 : Array Value} (hw : ∀ d ∈ tables_1, d.before a0 Z = true) : Jvm.RoadKit.slotOf Z "tramline/routes/JsonWriter" "bytes" "[B" ≠ Jvm.RoadKit.slotOf Z "tramline/routes/JsonWriter" "size" "I" := slot_ne (Or.inl (own_w hw 49 rfl)) (Or.inl (own_w hw 61 rfl)) (by decide) (t := (.array .byte)) (t' := .int) (by decide) (by decide)
theorem own_sn1 {Z : State} {a0 : Array Value} (hw : ∀ d ∈ tables_1, d.before a0 Z = true) : Jvm.RoadKit.slotOf Z "tramline/routes/JsonWriter" "objects" "[Z" ≠ Jvm.RoadKit.slotOf Z "tramline/routes/JsonWriter" "size" "I" := slot_ne (Or.inl (own_w hw 52 rfl)) (Or.inl (own_w hw 61 rfl)) (by decide) (t := (.array .boolean)) (t' := .int) (by decide) (by decide)
theorem own_sn2 {Z : State} {a0 : Array Value} (hw : ∀ d ∈ tables_1, d.before a0 Z = true) : Jvm.RoadKit.slotOf Z "tramline/routes/JsonWriter" "begun" "[Z" ≠ Jvm.RoadKit.slotOf Z "tramline/routes/JsonWriter" "size" "I" := slot_ne (Or.inl (own_w hw 54 rfl)) (Or.inl (own_w hw 61 rfl)) (by decide) (t := (.array .boolean)) (t' := .int) (by decide) (by decide)
theorem own_sn3 {Z : State} {a0 : Array Value} (hw : ∀ d ∈ tables_1, d.before a0 Z = true) : Jvm.RoadKit.slotOf Z "tramline/routes/JsonWriter" "depth" "I" ≠ Jvm.RoadKit.slotOf Z "tramline/routes/JsonWriter" "size" "I" := slot_ne (Or.inl (own_w hw 84 rfl)) (Or.inl (own_w hw 61 rfl)) (by decide) (t := .int) (t' := .int) (by decide) (by decide)
theorem own_sn4 {Z : State} {a0 : Array Value} (hw : ∀ d ∈ tables_1, d.before a0 Z = true) : Jvm.RoadKit.slotOf Z "tramline/routes/JsonWriter" "named" "Z" ≠ Jvm.RoadKit.slotOf Z "tramline/routes/JsonWriter" "size" "I" := slot_ne (Or.inl (own_w hw 178 rfl)) (Or.inl (own_w hw 61 rfl)) (by decide) (t := .boolean) (t' := .int) (by decide) (by decide)
theorem own_sn5 {Z : State} {a0 : Array Value} (hw : ∀ d ∈ tables_1, d.before a0 Z = true) : Jvm.RoadKit.slotOf Z "tramline/routes/JsonWriter" "started" "Z" ≠ Jvm.RoadKit.slotOf Z "tramline/routes/JsonWriter" "size" "I" := slot_ne (Or.inl (own_w hw 86 rfl)) (Or.inl (own_w hw 61 rfl)) (by decide) (t := .boolean) (t' := .int) (by decide) (by decide)
theorem own_ef_put1 (m : MethodId) (x0 : Addr) (x1 : Int32) : entryFrame m #[(.ref x0), (.int x1)] 2 = mkF m 0 #[.val (.ref x0), .val (.int x1)] [] := by first | (simp [entryFrame, mkF, argsToLocals, Value.category]; done) | rfl
def own_Q_put1 (Z : State) (ob ba oa ga : Addr) (kb ko kg : ClassId) (T : List Int32) (dp : Int32) (bg : Int32) (sd : Int32) (xv yv : Int32) (h0 : Heap) (n0 : Nat) (v : Option Value) (h : Heap) (L : List Loc) : Prop := v = none ∧ Fr n0 L ∧ Keep h0 h [ob, ba, oa, ga] ∧ OwnJ Z h ob ba oa ga kb ko kg ((T ++ [yv])) dp bg sd
set_option maxRecDepth 65536 in
set_option maxHeartbeats 40000000 in
theorem own_put1 (l : Launch) (Z : State) (a0 : Array Value) (hw : ∀ d ∈ tables_1, d.before a0 Z = true) (ws : List Jvm.Cond) (ob ba oa ga : Addr) (kb ko kg : ClassId) (T : List Int32) (dp : Int32) (bg : Int32) (sd : Int32) (xv yv : Int32) (h0 : Heap) (n0 : Nat) (Z0 : n0 ≤ h0.size) (O0 : Old Z n0 h0) (hy : xv.toInt8.toInt32 = yv) (hT : OwnLe T 200) (J : OwnJ Z h0 ob ba oa ga kb ko kg (T) dp bg sd) (g_ob : n0 ≤ ob) :
    MetFree l own_M31 (head1 (Jvm.Cond.code own_M31 prog_32_method_24_code 2 none :: ws) ({ frames := 1, cells := 0, slots := 0, locals := 13 } : Room)) (fun A0 U0 => A0 = #[(.ref ob), (.int xv)] ∧ Z.Warmed39 U0.vm ∧ U0.heap = h0) (fun _ _ _ _ _ => True) (fun _ U0 o0 U1 => ∃ v0 L0, o0 = .returned v0 ∧ own_Q_put1 Z ob ba oa ga kb ko kg T dp bg sd xv yv h0 n0 v0 U1.heap L0 ∧ FrameEnd U0 o0 U1 L0 0 0) := by
  refine MetFree.of_bodySF (plainFor_of_name own_pn_tramline_routes_JsonWriter) hisR ?_
  intro p e s m args below meth c s₁ Bd hml0 hP hK
  obtain ⟨rfl, hZ, hh⟩ := hP
  have hZs0 := hZ
  have hZs := hZ
  have hx := Bd.exec
  have hby := Bd.bytes
  have hD : ∀ {pc : Nat} {r : Except DecodeError (Instr × Nat)}, decode prog_32_method_24_code pc = r → decode c.code pc = r := fun q => hb hby q
  have hml : c.maxLocals = 2 := hml0
  have hown : s.vm.findClass "tramline/routes/JsonWriter" = some m.cls := findClass_of_methodNamed Bd.named
  have hnm := (name_of_methodNamed Bd.named Bd.method).1
  have X0 : Stand p l e ({ frames := 1, cells := 0, slots := 0, locals := 13 } : Room) s m #[(.ref ob), (.int xv)] below meth c s₁ [] 0 0 := Stand.of_body Bd
  have e0 : s₁.heap = h0 := by rw [← hh, Bd.state]; rfl
  have N0 := Fr.nil n0
  refine OwnFin.entry (own_ef_put1 m ob xv) (fun P' hP' => ?_)
  obtain ⟨Ew1, fbytes_1, fsize_1, fobjects_1, fbegun_1, fdepth_1, fnamed_1, fstarted_1, Vb1, Vo1, Vg1, la_1, lb_1, lc_1⟩ := id J
  have la_1 := own_lt la_1
  have lb_1 := own_lt lb_1
  have lc_1 := own_lt lc_1
  have lw1 := own_lt Ew1.lt
  have lg1 := own_lt Vg1.lt
  have ld_1 := Nat.lt_trans la_1 lb_1
  have lf_1 := Nat.lt_trans lb_1 lc_1
  have le_1 := Nat.lt_trans ld_1 lc_1
  have J3c : OwnJ Z h0 ob ba oa ga kb ko kg (T) dp bg sd := ⟨Ew1, fbytes_1, fsize_1, fobjects_1, fbegun_1, fdepth_1, fnamed_1, fstarted_1, Vb1, Vo1, Vg1, own_lt la_1, own_lt lb_1, own_lt lc_1⟩
  obtain ⟨cq2, qp2, qp2'⟩ := Ew1.cell
  obtain ⟨_, _, ⟨T2, L2, k2, n2⟩, -, X2, ⟨Lc2, hQ2, l2, y2, z2⟩, st2⟩ := X0.privateBack hx (y := own_M19) hown (mvT hZ (own_w hw 101 rfl)) (mvT hZ (own_w hw 102 rfl)) (mvT hZ (own_selp_19 hw)) (Cond.privateMethod_at (mvP hZ (own_w hw 103 rfl) (args := #[]))) (mvT hZ (own_w hw 104 rfl)) (by decide) (backOf (W := 0) (own_room l Z a0 hw [] ob ba oa ga kb ko kg (T) dp bg sd (1) h0 n0 (by omega) J3c (own_leM hT (by decide)) (by decide)) hZ (own_w hw 104 rfl) (own_w hw 43 rfl) (by decide) (by decide)) (g := (mkF m 2 #[VR ob, VI xv] [(.int 1), (.ref ob)])) rfl (by rw [hml]; rfl) (Steps.refl _) (a := ob) (by rw [e0]; exact qp2) qp2' (argsL := [(.int 1)]) (rest := []) (lenOf own_pd7 rfl) rfl (by show 2 * 0 + _ ≤ _; exact Nat.le_of_eq rfl) (hD d31_2) (fun _ _ => ⟨rfl, e0, (by decide : 0 + 0 ≤ _), (by decide : 0 + 0 ≤ _)⟩)
  dsimp only [Pt.U, Pt.locs, Pt.cells, Pt.slots] at X2 l2 y2 z2 st2 hQ2
  subst l2 y2 z2
  obtain ⟨rfl, N2q, eh2⟩ := hQ2
  have N2 := Fr.app N0 N2q
  obtain ⟨T4, X4, e4, st4⟩ := getF X2 hx hZ hown (host := "") (Or.inl (own_w hw 48 rfl)) Via.refl eh2 fbytes_1 (g := (mkF m 6 #[VR ob, VI xv] [(.ref ob)])) rfl rfl (hD d31_6)
  obtain ⟨T5, X5, e5, st5⟩ := getF X4 hx hZ hown (host := "") (Or.inl (own_w hw 60 rfl)) Via.refl e4 fsize_1 (g := (mkF m 11 #[VR ob, VI xv] [(.ref ob), (.ref ob), (.ref ba)])) rfl rfl (hD d31_11)
  obtain ⟨T6, h6, X6, e6, W6, st6⟩ := putF X5 hx hZ hown (host := "") (Or.inl (own_w hw 60 rfl)) Via.refl e5 fsize_1 Ew1 (Or.inl (own_w hw 61 rfl)) (own_w hw 42 rfl) (ty := .int) (by decide) rfl rfl (g := (mkF m 17 #[VR ob, VI xv] [(.int ((Int32.ofNat (T).length) + (1:Int32))), (.ref ob), (.int (Int32.ofNat (T).length)), (.ref ba)])) rfl rfl (hD d31_17)
  have Fw6 : Fld Z h6 ob "tramline/routes/JsonWriter" "size" "I" (.int ((Int32.ofNat (T).length) + (1:Int32))) := fsize_1.same W6
  have sz7 : h0.size ≤ h6.size := Nat.le_of_eq W6.size.symm
  have N6 := Fr.snoc X6 N2 (by omega : n0 ≤ ob)
  have Fv9_1 := (Vb1.other W6 (Nat.ne_of_gt la_1))
  obtain ⟨cl8, Ar8, ck8, S8, M8, H8, G8⟩ := id Fv9_1
  have hin8 := own_in256 (n := (T).length) S8 (own_leI hT (by decide))
  obtain ⟨T8, h8, X8, e8, W8, st8⟩ := stB X6 hx hZ e6 Ar8 (j := (Int32.ofNat (T).length)) hin8 (g := (mkF m 21 #[VR ob, VI xv] [(.int xv), (.int (Int32.ofNat (T).length)), (.ref ba)])) rfl rfl (hD d31_21)
  have V8 : Arv Z h8 ba kb .byte (256:Int32) (((T ++ [(xv.toInt8.toInt32)])).map Value.int) (.int 0) := own_push Fv9_1 W8 rfl (own_leL hT (by decide))
  have lb8 : OwnLe (T ++ [(xv.toInt8.toInt32)]) 201 := own_leS hT
  have sz10 : h6.size ≤ h8.size := Nat.le_of_eq W8.size.symm
  have N8 := Fr.snoc X8 N6 (by omega : n0 ≤ ba)
  have Fv12_2 := (Fw6.other W8 (Or.inl (Nat.ne_of_lt la_1)))
  have Fz11 : Fld Z h8 ob "tramline/routes/JsonWriter" "size" "I" (.int (Int32.ofNat ((T ++ [(xv.toInt8.toInt32)])).length)) := by
    have q := Fv12_2
    rw [own_p1] at q
    exact q
  obtain ⟨fs, hr, hrun, hended, hW, hsame⟩ := X8.leave (v := none) (fun _ => rfl)
  refine OwnFin.adv (B := T8.setTop (mkF m 22 #[VR ob, VI xv] [])) (fun _ k => XS.aloadN X0.here hx rfl (hD d31_0) rfl rfl (XS.iconst X0.here hx rfl (hD d31_1) (st2.trans (XS.aloadN X2.here hx rfl (hD d31_5) rfl rfl (st4 _ (XS.aloadN X4.here hx rfl (hD d31_9) rfl rfl (XS.dup X4.here hx rfl (hD d31_10) rfl rfl (st5 _ (XS.dupX1 X5.here hx rfl (hD d31_14) rfl rfl rfl (XS.iconst X5.here hx rfl (hD d31_15) (XS.iadd X5.here hx rfl (hD d31_16) rfl (st6 _ (XS.iloadN X6.here hx rfl (hD d31_20) rfl (st8 _ k)))))))))))))) ?_
  refine OwnFin.leaf hP' ⟨_, _, X8.returnOut hx Bd.returns (hD d31_22) hr, hrun, hended, _, _, rfl, ?_, ⟨_, rfl⟩, hW, hsame.mono (by decide) (by decide)⟩
  have hTT : (T ++ [(xv.toInt8.toInt32)]) = (T ++ [yv]) := by rw [hy]
  have Fv13_2 := ((Ew1.wr W6).wr W8)
  have Fv14_2 := ((fbytes_1.other W6 (Or.inr (own_sn0 hw))).other W8 (Or.inl (Nat.ne_of_lt la_1)))
  have Fv15_2 := ((fobjects_1.other W6 (Or.inr (own_sn1 hw))).other W8 (Or.inl (Nat.ne_of_lt la_1)))
  have Fv16_2 := ((fbegun_1.other W6 (Or.inr (own_sn2 hw))).other W8 (Or.inl (Nat.ne_of_lt la_1)))
  have Fv17_2 := ((fdepth_1.other W6 (Or.inr (own_sn3 hw))).other W8 (Or.inl (Nat.ne_of_lt la_1)))
  have Fv18_2 := ((fnamed_1.other W6 (Or.inr (own_sn4 hw))).other W8 (Or.inl (Nat.ne_of_lt la_1)))
  have Fv19_2 := ((fstarted_1.other W6 (Or.inr (own_sn5 hw))).other W8 (Or.inl (Nat.ne_of_lt la_1)))
  have Fv20_2 := ((Vo1.other W6 (Nat.ne_of_gt ld_1)).other W8 (Nat.ne_of_gt lb_1))
  have Fv21_2 := ((Vg1.other W6 (Nat.ne_of_gt le_1)).other W8 (Nat.ne_of_gt lf_1))
  rw [show (T8.setFrames fs).heap = h8 from e8]
  exact ⟨rfl, N8, (((Keep.refl h0 [ob, ba, oa, ga]).wr W6 (Or.inl (List.mem_of_getElem? (i := 0) rfl))).wr W8 (Or.inl (List.mem_of_getElem? (i := 1) rfl))), by rw [← hTT]; exact ⟨Fv13_2, Fv14_2, Fz11, Fv15_2, Fv16_2, Fv17_2, Fv18_2, Fv19_2, V8, Fv20_2, Fv21_2, own_lt la_1, own_lt lb_1, own_lt lc_1⟩⟩
theorem d15_0 : decode B15 0 = .ok (.aload_n 0, 1) := by decide +kernel
theorem d15_1 : decode B15 1 = .ok (.getfield 27, 3) := by decide +kernel
theorem d15_4 : decode B15 4 = .ok (.ifCond .ne 28, 3) := by decide +kernel
theorem d15_7 : decode B15 7 = .ok (.aload_n 0, 1) := by decide +kernel
theorem d15_8 : decode B15 8 = .ok (.getfield 103, 3) := by decide +kernel
theorem d15_11 : decode B15 11 = .ok (.ifCond .eq 13, 3) := by decide +kernel
theorem d15_24 : decode B15 24 = .ok (.aload_n 0, 1) := by decide +kernel
theorem d15_25 : decode B15 25 = .ok (.iconst 1, 1) := by decide +kernel
theorem d15_26 : decode B15 26 = .ok (.putfield 103, 3) := by decide +kernel
theorem d15_29 : decode B15 29 = .ok (.goto 74, 3) := by decide +kernel
theorem d15_103 : decode B15 103 = .ok (.return_, 1) := by decide +kernel
theorem own_sn6 {Z : State} {a0 : Array Value} (hw : ∀ d ∈ tables_1, d.before a0 Z = true) : Jvm.RoadKit.slotOf Z "tramline/routes/JsonWriter" "bytes" "[B" ≠ Jvm.RoadKit.slotOf Z "tramline/routes/JsonWriter" "started" "Z" := slot_ne (Or.inl (own_w hw 49 rfl)) (Or.inl (own_w hw 86 rfl)) (by decide) (t := (.array .byte)) (t' := .boolean) (by decide) (by decide)
theorem own_sn7 {Z : State} {a0 : Array Value} (hw : ∀ d ∈ tables_1, d.before a0 Z = true) : Jvm.RoadKit.slotOf Z "tramline/routes/JsonWriter" "size" "I" ≠ Jvm.RoadKit.slotOf Z "tramline/routes/JsonWriter" "started" "Z" := slot_ne (Or.inl (own_w hw 61 rfl)) (Or.inl (own_w hw 86 rfl)) (by decide) (t := .int) (t' := .boolean) (by decide) (by decide)
theorem own_sn8 {Z : State} {a0 : Array Value} (hw : ∀ d ∈ tables_1, d.before a0 Z = true) : Jvm.RoadKit.slotOf Z "tramline/routes/JsonWriter" "objects" "[Z" ≠ Jvm.RoadKit.slotOf Z "tramline/routes/JsonWriter" "started" "Z" := slot_ne (Or.inl (own_w hw 52 rfl)) (Or.inl (own_w hw 86 rfl)) (by decide) (t := (.array .boolean)) (t' := .boolean) (by decide) (by decide)
theorem own_sn9 {Z : State} {a0 : Array Value} (hw : ∀ d ∈ tables_1, d.before a0 Z = true) : Jvm.RoadKit.slotOf Z "tramline/routes/JsonWriter" "begun" "[Z" ≠ Jvm.RoadKit.slotOf Z "tramline/routes/JsonWriter" "started" "Z" := slot_ne (Or.inl (own_w hw 54 rfl)) (Or.inl (own_w hw 86 rfl)) (by decide) (t := (.array .boolean)) (t' := .boolean) (by decide) (by decide)
theorem own_sn10 {Z : State} {a0 : Array Value} (hw : ∀ d ∈ tables_1, d.before a0 Z = true) : Jvm.RoadKit.slotOf Z "tramline/routes/JsonWriter" "depth" "I" ≠ Jvm.RoadKit.slotOf Z "tramline/routes/JsonWriter" "started" "Z" := slot_ne (Or.inl (own_w hw 84 rfl)) (Or.inl (own_w hw 86 rfl)) (by decide) (t := .int) (t' := .boolean) (by decide) (by decide)
theorem own_sn11 {Z : State} {a0 : Array Value} (hw : ∀ d ∈ tables_1, d.before a0 Z = true) : Jvm.RoadKit.slotOf Z "tramline/routes/JsonWriter" "named" "Z" ≠ Jvm.RoadKit.slotOf Z "tramline/routes/JsonWriter" "started" "Z" := slot_ne (Or.inl (own_w hw 178 rfl)) (Or.inl (own_w hw 86 rfl)) (by decide) (t := .boolean) (t' := .boolean) (by decide) (by decide)
theorem own_ef_bv0 (m : MethodId) (x0 : Addr) : entryFrame m #[(.ref x0)] 1 = mkF m 0 #[.val (.ref x0)] [] := by first | (simp [entryFrame, mkF, argsToLocals, Value.category]; done) | rfl
def own_Q_bv0 (Z : State) (ob ba oa ga : Addr) (kb ko kg : ClassId) (T : List Int32) (bg : Int32) (h0 : Heap) (n0 : Nat) (v : Option Value) (h : Heap) (L : List Loc) : Prop := v = none ∧ Fr n0 L ∧ Keep h0 h [ob, ba, oa, ga] ∧ OwnJ Z h ob ba oa ga kb ko kg (T) (0 : Int32) bg (1 : Int32)
set_option maxRecDepth 65536 in
set_option maxHeartbeats 40000000 in
theorem own_bv0 (l : Launch) (Z : State) (a0 : Array Value) (hw : ∀ d ∈ tables_1, d.before a0 Z = true) (ws : List Jvm.Cond) (ob ba oa ga : Addr) (kb ko kg : ClassId) (T : List Int32) (bg : Int32) (h0 : Heap) (n0 : Nat) (Z0 : n0 ≤ h0.size) (O0 : Old Z n0 h0) (J : OwnJ Z h0 ob ba oa ga kb ko kg (T) (0 : Int32) bg (0 : Int32)) (g_ob : n0 ≤ ob) :
    MetFree l own_M15 (head1 (Jvm.Cond.code own_M15 prog_32_method_20_code 1 none :: ws) ({ frames := 0, cells := 0, slots := 0, locals := 0 } : Room)) (fun A0 U0 => A0 = #[(.ref ob)] ∧ Z.Warmed39 U0.vm ∧ U0.heap = h0) (fun _ _ _ _ _ => True) (fun _ U0 o0 U1 => ∃ v0 L0, o0 = .returned v0 ∧ own_Q_bv0 Z ob ba oa ga kb ko kg T bg h0 n0 v0 U1.heap L0 ∧ FrameEnd U0 o0 U1 L0 0 0) := by
  refine MetFree.of_bodySF (plainFor_of_name own_pn_tramline_routes_JsonWriter) hisR ?_
  intro p e s m args below meth c s₁ Bd hml0 hP hK
  obtain ⟨rfl, hZ, hh⟩ := hP
  have hZs0 := hZ
  have hZs := hZ
  have hx := Bd.exec
  have hby := Bd.bytes
  have hD : ∀ {pc : Nat} {r : Except DecodeError (Instr × Nat)}, decode prog_32_method_20_code pc = r → decode c.code pc = r := fun q => hb hby q
  have hml : c.maxLocals = 1 := hml0
  have hown : s.vm.findClass "tramline/routes/JsonWriter" = some m.cls := findClass_of_methodNamed Bd.named
  have hnm := (name_of_methodNamed Bd.named Bd.method).1
  have X0 : Stand p l e ({ frames := 0, cells := 0, slots := 0, locals := 0 } : Room) s m #[(.ref ob)] below meth c s₁ [] 0 0 := Stand.of_body Bd
  have e0 : s₁.heap = h0 := by rw [← hh, Bd.state]; rfl
  have N0 := Fr.nil n0
  refine OwnFin.entry (own_ef_bv0 m ob) (fun P' hP' => ?_)
  obtain ⟨Ew1, fbytes_1, fsize_1, fobjects_1, fbegun_1, fdepth_1, fnamed_1, fstarted_1, Vb1, Vo1, Vg1, la_1, lb_1, lc_1⟩ := id J
  have la_1 := own_lt la_1
  have lb_1 := own_lt lb_1
  have lc_1 := own_lt lc_1
  have lw1 := own_lt Ew1.lt
  have lg1 := own_lt Vg1.lt
  have ld_1 := Nat.lt_trans la_1 lb_1
  have lf_1 := Nat.lt_trans lb_1 lc_1
  have le_1 := Nat.lt_trans ld_1 lc_1
  obtain ⟨T2, X2, e2, st2⟩ := getF X0 hx hZ hown (host := "") (Or.inl (own_w hw 83 rfl)) Via.refl e0 fdepth_1 (g := (mkF m 1 #[VR ob] [(.ref ob)])) rfl rfl (hD d15_1)
  have hc4_3 : (0:Int32) = (0:Int32) := rfl
  obtain ⟨T3, X3, e3, st3⟩ := getF X2 hx hZ hown (host := "") (Or.inl (own_w hw 85 rfl)) Via.refl e2 fstarted_1 (g := (mkF m 8 #[VR ob] [(.ref ob)])) rfl rfl (hD d15_8)
  have hc11_6 : (0:Int32) = (0:Int32) := rfl
  obtain ⟨T4, h4, X4, e4, W4, st4⟩ := putFN X3 hx hZ hown (own_w hw 85 rfl) Via.refl e3 fstarted_1 Ew1 (Or.inl (own_w hw 86 rfl)) (own_w hw 42 rfl) (ty := .boolean) (v' := .int (nar .boolean (1:Int32))) (by decide) rfl (fits_nar_bool _) (g := (mkF m 26 #[VR ob] [(.int 1), (.ref ob)])) rfl rfl (hD d15_26)
  have Fw4 : Fld Z h4 ob "tramline/routes/JsonWriter" "started" "Z" (.int 1) := fstarted_1.same W4
  have sz5 : h0.size ≤ h4.size := Nat.le_of_eq W4.size.symm
  have N4 := Fr.snoc X4 N0 (by omega : n0 ≤ ob)
  obtain ⟨fs, hr, hrun, hended, hW, hsame⟩ := X4.leave (v := none) (fun _ => rfl)
  refine OwnFin.adv (B := T4.setTop (mkF m 103 #[VR ob] [])) (fun _ k => XS.aloadN X0.here hx rfl (hD d15_0) rfl rfl (st2 _ (XS.ifNo X2.here hx rfl (hD d15_4) rfl ((if0 _ _).trans (teq hc4_3).2) (XS.aloadN X2.here hx rfl (hD d15_7) rfl rfl (st3 _ (XS.ifYes X3.here hx rfl (pc0 := 11) (pc' := 24) rfl (hD d15_11) rfl ((if0 _ _).trans (teq hc11_6).1) (by decide) (by decide) (XS.aloadN X3.here hx rfl (hD d15_24) rfl rfl (XS.iconst X3.here hx rfl (hD d15_25) (st4 _ (XS.goto X4.here hx rfl (pc0 := 29) (pc' := 103) rfl (hD d15_29) (by decide) (by decide) k)))))))))) ?_
  refine OwnFin.leaf hP' ⟨_, _, X4.returnOut hx Bd.returns (hD d15_103) hr, hrun, hended, _, _, rfl, ?_, ⟨_, rfl⟩, hW, hsame.mono (by decide) (by decide)⟩
  have Fv6_1 := (Ew1.wr W4)
  have Fv7_1 := (fbytes_1.other W4 (Or.inr (own_sn6 hw)))
  have Fv8_1 := (fsize_1.other W4 (Or.inr (own_sn7 hw)))
  have Fv9_1 := (fobjects_1.other W4 (Or.inr (own_sn8 hw)))
  have Fv10_1 := (fbegun_1.other W4 (Or.inr (own_sn9 hw)))
  have Fv11_1 := (fdepth_1.other W4 (Or.inr (own_sn10 hw)))
  have Fv12_1 := (fnamed_1.other W4 (Or.inr (own_sn11 hw)))
  have Fv13_1 := (Vb1.other W4 (Nat.ne_of_gt la_1))
  have Fv14_1 := (Vo1.other W4 (Nat.ne_of_gt ld_1))
  have Fv15_1 := (Vg1.other W4 (Nat.ne_of_gt le_1))
  rw [show (T4.setFrames fs).heap = h4 from e4]
  exact ⟨rfl, N4, ((Keep.refl h0 [ob, ba, oa, ga]).wr W4 (Or.inl (List.mem_of_getElem? (i := 0) rfl))), ⟨Fv6_1, Fv7_1, Fv8_1, Fv9_1, Fv10_1, Fv11_1, Fv12_1, Fw4, Fv13_1, Fv14_1, Fv15_1, own_lt la_1, own_lt lb_1, own_lt lc_1⟩⟩
theorem d15_32 : decode B15 32 = .ok (.aload_n 0, 1) := by decide +kernel
theorem d15_33 : decode B15 33 = .ok (.getfield 13, 3) := by decide +kernel
theorem d15_36 : decode B15 36 = .ok (.aload_n 0, 1) := by decide +kernel
theorem d15_37 : decode B15 37 = .ok (.getfield 27, 3) := by decide +kernel
theorem d15_40 : decode B15 40 = .ok (.iconst 1, 1) := by decide +kernel
theorem d15_41 : decode B15 41 = .ok (.isub, 1) := by decide +kernel
theorem d15_42 : decode B15 42 = .ok (.baload, 1) := by decide +kernel
theorem d15_43 : decode B15 43 = .ok (.ifCond .eq 28, 3) := by decide +kernel
theorem d15_71 : decode B15 71 = .ok (.aload_n 0, 1) := by decide +kernel
theorem d15_72 : decode B15 72 = .ok (.getfield 17, 3) := by decide +kernel
theorem d15_75 : decode B15 75 = .ok (.aload_n 0, 1) := by decide +kernel
theorem d15_76 : decode B15 76 = .ok (.getfield 27, 3) := by decide +kernel
theorem d15_79 : decode B15 79 = .ok (.iconst 1, 1) := by decide +kernel
theorem d15_80 : decode B15 80 = .ok (.isub, 1) := by decide +kernel
theorem d15_81 : decode B15 81 = .ok (.baload, 1) := by decide +kernel
theorem d15_82 : decode B15 82 = .ok (.ifCond .eq 9, 3) := by decide +kernel
theorem d15_91 : decode B15 91 = .ok (.aload_n 0, 1) := by decide +kernel
theorem d15_92 : decode B15 92 = .ok (.getfield 17, 3) := by decide +kernel
theorem d15_95 : decode B15 95 = .ok (.aload_n 0, 1) := by decide +kernel
theorem d15_96 : decode B15 96 = .ok (.getfield 27, 3) := by decide +kernel
theorem d15_99 : decode B15 99 = .ok (.iconst 1, 1) := by decide +kernel
theorem d15_100 : decode B15 100 = .ok (.isub, 1) := by decide +kernel
theorem d15_101 : decode B15 101 = .ok (.iconst 1, 1) := by decide +kernel
theorem d15_102 : decode B15 102 = .ok (.bastore, 1) := by decide +kernel
theorem own_ef_bv1 (m : MethodId) (x0 : Addr) : entryFrame m #[(.ref x0)] 1 = mkF m 0 #[.val (.ref x0)] [] := by first | (simp [entryFrame, mkF, argsToLocals, Value.category]; done) | rfl
def own_Q_bv1 (Z : State) (ob ba oa ga : Addr) (kb ko kg : ClassId) (T : List Int32) (sd : Int32) (h0 : Heap) (n0 : Nat) (v : Option Value) (h : Heap) (L : List Loc) : Prop := v = none ∧ Fr n0 L ∧ Keep h0 h [ob, ba, oa, ga] ∧ OwnJ Z h ob ba oa ga kb ko kg (T) (1 : Int32) (1 : Int32) sd
set_option maxRecDepth 65536 in
set_option maxHeartbeats 40000000 in
theorem own_bv1 (l : Launch) (Z : State) (a0 : Array Value) (hw : ∀ d ∈ tables_1, d.before a0 Z = true) (ws : List Jvm.Cond) (ob ba oa ga : Addr) (kb ko kg : ClassId) (T : List Int32) (sd : Int32) (h0 : Heap) (n0 : Nat) (Z0 : n0 ≤ h0.size) (O0 : Old Z n0 h0) (hT : OwnLe T 190) (J : OwnJ Z h0 ob ba oa ga kb ko kg (T) (1 : Int32) (0 : Int32) sd) (g_ob : n0 ≤ ob) :
    MetFree l own_M15 (head1 (Jvm.Cond.code own_M15 prog_32_method_20_code 1 none :: ws) ({ frames := 0, cells := 0, slots := 0, locals := 0 } : Room)) (fun A0 U0 => A0 = #[(.ref ob)] ∧ Z.Warmed39 U0.vm ∧ U0.heap = h0) (fun _ _ _ _ _ => True) (fun _ U0 o0 U1 => ∃ v0 L0, o0 = .returned v0 ∧ own_Q_bv1 Z ob ba oa ga kb ko kg T sd h0 n0 v0 U1.heap L0 ∧ FrameEnd U0 o0 U1 L0 0 0) := by
  refine MetFree.of_bodySF (plainFor_of_name own_pn_tramline_routes_JsonWriter) hisR ?_
  intro p e s m args below meth c s₁ Bd hml0 hP hK
  obtain ⟨rfl, hZ, hh⟩ := hP
  have hZs0 := hZ
  have hZs := hZ
  have hx := Bd.exec
  have hby := Bd.bytes
  have hD : ∀ {pc : Nat} {r : Except DecodeError (Instr × Nat)}, decode prog_32_method_20_code pc = r → decode c.code pc = r := fun q => hb hby q
  have hml : c.maxLocals = 1 := hml0
  have hown : s.vm.findClass "tramline/routes/JsonWriter" = some m.cls := findClass_of_methodNamed Bd.named
  have hnm := (name_of_methodNamed Bd.named Bd.method).1
  have X0 : Stand p l e ({ frames := 0, cells := 0, slots := 0, locals := 0 } : Room) s m #[(.ref ob)] below meth c s₁ [] 0 0 := Stand.of_body Bd
  have e0 : s₁.heap = h0 := by rw [← hh, Bd.state]; rfl
  have N0 := Fr.nil n0
  refine OwnFin.entry (own_ef_bv1 m ob) (fun P' hP' => ?_)
  obtain ⟨Ew1, fbytes_1, fsize_1, fobjects_1, fbegun_1, fdepth_1, fnamed_1, fstarted_1, Vb1, Vo1, Vg1, la_1, lb_1, lc_1⟩ := id J
  have la_1 := own_lt la_1
  have lb_1 := own_lt lb_1
  have lc_1 := own_lt lc_1
  have lw1 := own_lt Ew1.lt
  have lg1 := own_lt Vg1.lt
  have ld_1 := Nat.lt_trans la_1 lb_1
  have lf_1 := Nat.lt_trans lb_1 lc_1
  have le_1 := Nat.lt_trans ld_1 lc_1
  obtain ⟨T2, X2, e2, st2⟩ := getF X0 hx hZ hown (host := "") (Or.inl (own_w hw 83 rfl)) Via.refl e0 fdepth_1 (g := (mkF m 1 #[VR ob] [(.ref ob)])) rfl rfl (hD d15_1)
  have hc4_3 : ¬ ((1:Int32) = (0:Int32)) := by decide
  obtain ⟨T3, X3, e3, st3⟩ := getF X2 hx hZ hown (host := "") (Or.inl (own_w hw 51 rfl)) Via.refl e2 fobjects_1 (g := (mkF m 33 #[VR ob] [(.ref ob)])) rfl rfl (hD d15_33)
  obtain ⟨T4, X4, e4, st4⟩ := getF X3 hx hZ hown (host := "") (Or.inl (own_w hw 83 rfl)) Via.refl e3 fdepth_1 (g := (mkF m 37 #[VR ob] [(.ref ob), (.ref oa)])) rfl rfl (hD d15_37)
  refine OwnFin.adv (B := T4.setTop (mkF m 42 #[VR ob] [(.int ((1:Int32) - (1:Int32))), (.ref oa)])) (fun _ k => XS.aloadN X0.here hx rfl (hD d15_0) rfl rfl (st2 _ (XS.ifYes X2.here hx rfl (pc0 := 4) (pc' := 32) rfl (hD d15_4) rfl ((if0 _ _).trans (feq hc4_3).2) (by decide) (by decide) (XS.aloadN X2.here hx rfl (hD d15_32) rfl rfl (st3 _ (XS.aloadN X3.here hx rfl (hD d15_36) rfl rfl (st4 _ (XS.iconst X4.here hx rfl (hD d15_40) (XS.isub X4.here hx rfl (hD d15_41) rfl k))))))))) ?_
  rw [show (((1:Int32) - (1:Int32)) : Int32) = (0:Int32) from by decide]
  obtain ⟨cl5, Ar5, ck5, S5, M5, H5, G5⟩ := id Vo1
  have hin5 : ¬ ((0:Int32) < 0 ∨ cl5.slots.size ≤ ((0:Int32)).toNatClampNeg) := inb_of S5 ⟨by decide, by decide⟩
  have hc43_11 : (0:Int32) = (0:Int32) := rfl
  obtain ⟨T6, X6, e6, st6⟩ := getF X4 hx hZ hown (host := "") (Or.inl (own_w hw 53 rfl)) Via.refl e4 fbegun_1 (g := (mkF m 72 #[VR ob] [(.ref ob)])) rfl rfl (hD d15_72)
  obtain ⟨T7, X7, e7, st7⟩ := getF X6 hx hZ hown (host := "") (Or.inl (own_w hw 83 rfl)) Via.refl e6 fdepth_1 (g := (mkF m 76 #[VR ob] [(.ref ob), (.ref ga)])) rfl rfl (hD d15_76)
  refine OwnFin.adv (B := T7.setTop (mkF m 81 #[VR ob] [(.int ((1:Int32) - (1:Int32))), (.ref ga)])) (fun _ k => X4.baloadBooleans hx (j := (0:Int32)) (v := (.int 0)) (by rw [e4]; exact Ar5.1) (State.isArrayOf_alike hZ.alike Ar5.2.1) Ar5.2.2 hin5 (Has.at H5 hin5 rfl) (g := (mkF m 42 #[VR ob] [(.int 0), (.ref oa)])) rfl rfl (hD d15_42) _ (XS.ifYes X4.here hx rfl (pc0 := 43) (pc' := 71) rfl (hD d15_43) rfl ((if0 _ _).trans (teq hc43_11).1) (by decide) (by decide) (XS.aloadN X4.here hx rfl (hD d15_71) rfl rfl (st6 _ (XS.aloadN X6.here hx rfl (hD d15_75) rfl rfl (st7 _ (XS.iconst X7.here hx rfl (hD d15_79) (XS.isub X7.here hx rfl (hD d15_80) rfl k)))))))) ?_
  rw [show (((1:Int32) - (1:Int32)) : Int32) = (0:Int32) from by decide]
  obtain ⟨cl8, Ar8, ck8, S8, M8, H8, G8⟩ := id Vg1
  have hin8 : ¬ ((0:Int32) < 0 ∨ cl8.slots.size ≤ ((0:Int32)).toNatClampNeg) := inb_of S8 ⟨by decide, by decide⟩
  have hc82_19 : (0:Int32) = (0:Int32) := rfl
  obtain ⟨T9, X9, e9, st9⟩ := getF X7 hx hZ hown (host := "") (Or.inl (own_w hw 53 rfl)) Via.refl e7 fbegun_1 (g := (mkF m 92 #[VR ob] [(.ref ob)])) rfl rfl (hD d15_92)
  obtain ⟨T10, X10, e10, st10⟩ := getF X9 hx hZ hown (host := "") (Or.inl (own_w hw 83 rfl)) Via.refl e9 fdepth_1 (g := (mkF m 96 #[VR ob] [(.ref ob), (.ref ga)])) rfl rfl (hD d15_96)
  refine OwnFin.adv (B := T10.setTop (mkF m 101 #[VR ob] [(.int ((1:Int32) - (1:Int32))), (.ref ga)])) (fun _ k => X7.baloadBooleans hx (j := (0:Int32)) (v := (.int 0)) (by rw [e7]; exact Ar8.1) (State.isArrayOf_alike hZ.alike Ar8.2.1) Ar8.2.2 hin8 (Has.at H8 hin8 rfl) (g := (mkF m 81 #[VR ob] [(.int 0), (.ref ga)])) rfl rfl (hD d15_81) _ (XS.ifYes X7.here hx rfl (pc0 := 82) (pc' := 91) rfl (hD d15_82) rfl ((if0 _ _).trans (teq hc82_19).1) (by decide) (by decide) (XS.aloadN X7.here hx rfl (hD d15_91) rfl rfl (st9 _ (XS.aloadN X9.here hx rfl (hD d15_95) rfl rfl (st10 _ (XS.iconst X10.here hx rfl (hD d15_99) (XS.isub X10.here hx rfl (hD d15_100) rfl k)))))))) ?_
  rw [show (((1:Int32) - (1:Int32)) : Int32) = (0:Int32) from by decide]
  obtain ⟨cl11, Ar11, ck11, S11, M11, H11, G11⟩ := id Vg1
  have hin11 : ¬ ((0:Int32) < 0 ∨ cl11.slots.size ≤ ((0:Int32)).toNatClampNeg) := inb_of S11 ⟨by decide, by decide⟩
  obtain ⟨T11, h11, X11, e11, W11, st11⟩ := stZ X10 hx hZ e10 Ar11 (j := (0:Int32)) hin11 (g := (mkF m 102 #[VR ob] [(.int 1), (.int 0), (.ref ga)])) rfl rfl (hD d15_102)
  have V11 : Arv Z h11 ga kg .boolean (8:Int32) [(.int 1)] (.int 0) := Arv.set Ar11 ck11 S11 M11 H11 G11 (by decide) W11 0 rfl (Nat.le_of_ble_eq_true rfl)
  have sz12 : h0.size ≤ h11.size := Nat.le_of_eq W11.size.symm
  have N11 := Fr.snoc X11 N0 (by omega : n0 ≤ ga)
  obtain ⟨fs, hr, hrun, hended, hW, hsame⟩ := X11.leave (v := none) (fun _ => rfl)
  refine OwnFin.adv (B := T11.setTop (mkF m 103 #[VR ob] [])) (fun _ k => XS.iconst X10.here hx rfl (hD d15_101) (st11 _ k)) ?_
  refine OwnFin.leaf hP' ⟨_, _, X11.returnOut hx Bd.returns (hD d15_103) hr, hrun, hended, _, _, rfl, ?_, ⟨_, rfl⟩, hW, hsame.mono (by decide) (by decide)⟩
  have Fv13_1 := (Ew1.wr W11)
  have Fv14_1 := (fbytes_1.other W11 (Or.inl (Nat.ne_of_lt le_1)))
  have Fv15_1 := (fsize_1.other W11 (Or.inl (Nat.ne_of_lt le_1)))
  have Fv16_1 := (fobjects_1.other W11 (Or.inl (Nat.ne_of_lt le_1)))
  have Fv17_1 := (fbegun_1.other W11 (Or.inl (Nat.ne_of_lt le_1)))
  have Fv18_1 := (fdepth_1.other W11 (Or.inl (Nat.ne_of_lt le_1)))
  have Fv19_1 := (fnamed_1.other W11 (Or.inl (Nat.ne_of_lt le_1)))
  have Fv20_1 := (fstarted_1.other W11 (Or.inl (Nat.ne_of_lt le_1)))
  have Fv21_1 := (Vb1.other W11 (Nat.ne_of_lt lf_1))
  have Fv22_1 := (Vo1.other W11 (Nat.ne_of_lt lc_1))
  rw [show (T11.setFrames fs).heap = h11 from e11]
  exact ⟨rfl, N11, ((Keep.refl h0 [ob, ba, oa, ga]).wr W11 (Or.inl (List.mem_of_getElem? (i := 3) rfl))), ⟨Fv13_1, Fv14_1, Fv15_1, Fv16_1, Fv17_1, Fv18_1, Fv19_1, Fv20_1, Fv21_1, Fv22_1, V11, own_lt la_1, own_lt lb_1, own_lt lc_1⟩⟩
theorem d15_85 : decode B15 85 = .ok (.aload_n 0, 1) := by decide +kernel
theorem d15_86 : decode B15 86 = .ok (.bipush 44, 2) := by decide +kernel
theorem own_pd8 : parseMethodDescriptor "(B)V" = some ⟨[.byte], none⟩ := by decide +kernel
theorem d15_88 : decode B15 88 = .ok (.invokevirtual 44, 3) := by decide +kernel
theorem own_selp_31 {Z : State} {a0 : Array Value} (hw : ∀ d ∈ tables_1, d.before a0 Z = true) : (Cond.selects "tramline/routes/JsonWriter" own_M31 own_M31).before a0 Z = true := own_selp (y := own_M31) (z := own_M11) (own_w hw 153 rfl) (own_w hw 154 rfl) (own_w hw 56 rfl) (notFace_of_selects (args := a0) (own_w hw 58 rfl)) rfl (by decide)
theorem own_ef_bv2 (m : MethodId) (x0 : Addr) : entryFrame m #[(.ref x0)] 1 = mkF m 0 #[.val (.ref x0)] [] := by first | (simp [entryFrame, mkF, argsToLocals, Value.category]; done) | rfl
def own_Q_bv2 (Z : State) (ob ba oa ga : Addr) (kb ko kg : ClassId) (T : List Int32) (sd : Int32) (h0 : Heap) (n0 : Nat) (v : Option Value) (h : Heap) (L : List Loc) : Prop := v = none ∧ Fr n0 L ∧ Keep h0 h [ob, ba, oa, ga] ∧ OwnJ Z h ob ba oa ga kb ko kg ((T ++ [(44 : Int32)])) (1 : Int32) (1 : Int32) sd
set_option maxRecDepth 65536 in
set_option maxHeartbeats 40000000 in
theorem own_bv2 (l : Launch) (Z : State) (a0 : Array Value) (hw : ∀ d ∈ tables_1, d.before a0 Z = true) (ws : List Jvm.Cond) (ob ba oa ga : Addr) (kb ko kg : ClassId) (T : List Int32) (sd : Int32) (h0 : Heap) (n0 : Nat) (Z0 : n0 ≤ h0.size) (O0 : Old Z n0 h0) (hT : OwnLe T 190) (J : OwnJ Z h0 ob ba oa ga kb ko kg (T) (1 : Int32) (1 : Int32) sd) (g_ob : n0 ≤ ob) :
    MetFree l own_M15 (head1 (Jvm.Cond.code own_M15 prog_32_method_20_code 1 none :: ws) ({ frames := 2, cells := 0, slots := 0, locals := 26 } : Room)) (fun A0 U0 => A0 = #[(.ref ob)] ∧ Z.Warmed39 U0.vm ∧ U0.heap = h0) (fun _ _ _ _ _ => True) (fun _ U0 o0 U1 => ∃ v0 L0, o0 = .returned v0 ∧ own_Q_bv2 Z ob ba oa ga kb ko kg T sd h0 n0 v0 U1.heap L0 ∧ FrameEnd U0 o0 U1 L0 0 0) := by
  refine MetFree.of_bodySF (plainFor_of_name own_pn_tramline_routes_JsonWriter) hisR ?_
  intro p e s m args below meth c s₁ Bd hml0 hP hK
  obtain ⟨rfl, hZ, hh⟩ := hP
  have hZs0 := hZ
  have hZs := hZ
  have hx := Bd.exec
  have hby := Bd.bytes
  have hD : ∀ {pc : Nat} {r : Except DecodeError (Instr × Nat)}, decode prog_32_method_20_code pc = r → decode c.code pc = r := fun q => hb hby q
  have hml : c.maxLocals = 1 := hml0
  have hown : s.vm.findClass "tramline/routes/JsonWriter" = some m.cls := findClass_of_methodNamed Bd.named
  have hnm := (name_of_methodNamed Bd.named Bd.method).1
  have X0 : Stand p l e ({ frames := 2, cells := 0, slots := 0, locals := 26 } : Room) s m #[(.ref ob)] below meth c s₁ [] 0 0 := Stand.of_body Bd
  have e0 : s₁.heap = h0 := by rw [← hh, Bd.state]; rfl
  have N0 := Fr.nil n0
  refine OwnFin.entry (own_ef_bv2 m ob) (fun P' hP' => ?_)
  obtain ⟨Ew1, fbytes_1, fsize_1, fobjects_1, fbegun_1, fdepth_1, fnamed_1, fstarted_1, Vb1, Vo1, Vg1, la_1, lb_1, lc_1⟩ := id J
  have la_1 := own_lt la_1
  have lb_1 := own_lt lb_1
  have lc_1 := own_lt lc_1
  have lw1 := own_lt Ew1.lt
  have lg1 := own_lt Vg1.lt
  have ld_1 := Nat.lt_trans la_1 lb_1
  have lf_1 := Nat.lt_trans lb_1 lc_1
  have le_1 := Nat.lt_trans ld_1 lc_1
  obtain ⟨T2, X2, e2, st2⟩ := getF X0 hx hZ hown (host := "") (Or.inl (own_w hw 83 rfl)) Via.refl e0 fdepth_1 (g := (mkF m 1 #[VR ob] [(.ref ob)])) rfl rfl (hD d15_1)
  have hc4_3 : ¬ ((1:Int32) = (0:Int32)) := by decide
  obtain ⟨T3, X3, e3, st3⟩ := getF X2 hx hZ hown (host := "") (Or.inl (own_w hw 51 rfl)) Via.refl e2 fobjects_1 (g := (mkF m 33 #[VR ob] [(.ref ob)])) rfl rfl (hD d15_33)
  obtain ⟨T4, X4, e4, st4⟩ := getF X3 hx hZ hown (host := "") (Or.inl (own_w hw 83 rfl)) Via.refl e3 fdepth_1 (g := (mkF m 37 #[VR ob] [(.ref ob), (.ref oa)])) rfl rfl (hD d15_37)
  refine OwnFin.adv (B := T4.setTop (mkF m 42 #[VR ob] [(.int ((1:Int32) - (1:Int32))), (.ref oa)])) (fun _ k => XS.aloadN X0.here hx rfl (hD d15_0) rfl rfl (st2 _ (XS.ifYes X2.here hx rfl (pc0 := 4) (pc' := 32) rfl (hD d15_4) rfl ((if0 _ _).trans (feq hc4_3).2) (by decide) (by decide) (XS.aloadN X2.here hx rfl (hD d15_32) rfl rfl (st3 _ (XS.aloadN X3.here hx rfl (hD d15_36) rfl rfl (st4 _ (XS.iconst X4.here hx rfl (hD d15_40) (XS.isub X4.here hx rfl (hD d15_41) rfl k))))))))) ?_
  rw [show (((1:Int32) - (1:Int32)) : Int32) = (0:Int32) from by decide]
  obtain ⟨cl5, Ar5, ck5, S5, M5, H5, G5⟩ := id Vo1
  have hin5 : ¬ ((0:Int32) < 0 ∨ cl5.slots.size ≤ ((0:Int32)).toNatClampNeg) := inb_of S5 ⟨by decide, by decide⟩
  have hc43_11 : (0:Int32) = (0:Int32) := rfl
  obtain ⟨T6, X6, e6, st6⟩ := getF X4 hx hZ hown (host := "") (Or.inl (own_w hw 53 rfl)) Via.refl e4 fbegun_1 (g := (mkF m 72 #[VR ob] [(.ref ob)])) rfl rfl (hD d15_72)
  obtain ⟨T7, X7, e7, st7⟩ := getF X6 hx hZ hown (host := "") (Or.inl (own_w hw 83 rfl)) Via.refl e6 fdepth_1 (g := (mkF m 76 #[VR ob] [(.ref ob), (.ref ga)])) rfl rfl (hD d15_76)
  refine OwnFin.adv (B := T7.setTop (mkF m 81 #[VR ob] [(.int ((1:Int32) - (1:Int32))), (.ref ga)])) (fun _ k => X4.baloadBooleans hx (j := (0:Int32)) (v := (.int 0)) (by rw [e4]; exact Ar5.1) (State.isArrayOf_alike hZ.alike Ar5.2.1) Ar5.2.2 hin5 (Has.at H5 hin5 rfl) (g := (mkF m 42 #[VR ob] [(.int 0), (.ref oa)])) rfl rfl (hD d15_42) _ (XS.ifYes X4.here hx rfl (pc0 := 43) (pc' := 71) rfl (hD d15_43) rfl ((if0 _ _).trans (teq hc43_11).1) (by decide) (by decide) (XS.aloadN X4.here hx rfl (hD d15_71) rfl rfl (st6 _ (XS.aloadN X6.here hx rfl (hD d15_75) rfl rfl (st7 _ (XS.iconst X7.here hx rfl (hD d15_79) (XS.isub X7.here hx rfl (hD d15_80) rfl k)))))))) ?_
  rw [show (((1:Int32) - (1:Int32)) : Int32) = (0:Int32) from by decide]
  obtain ⟨cl8, Ar8, ck8, S8, M8, H8, G8⟩ := id Vg1
  have hin8 : ¬ ((0:Int32) < 0 ∨ cl8.slots.size ≤ ((0:Int32)).toNatClampNeg) := inb_of S8 ⟨by decide, by decide⟩
  have hc82_19 : ¬ ((1:Int32) = (0:Int32)) := by decide
  have J10c : OwnJ Z h0 ob ba oa ga kb ko kg (T) (1:Int32) (1:Int32) sd := ⟨Ew1, fbytes_1, fsize_1, fobjects_1, fbegun_1, fdepth_1, fnamed_1, fstarted_1, Vb1, Vo1, Vg1, own_lt la_1, own_lt lb_1, own_lt lc_1⟩
  obtain ⟨cq9, qp9, qp9'⟩ := Ew1.cell
  obtain ⟨_, _, ⟨T9, L9, k9, n9⟩, -, X9, ⟨Lc9, hQ9, l9, y9, z9⟩, st9⟩ := X7.privateBack hx (y := own_M31) hown (mvT hZ (own_w hw 152 rfl)) (mvT hZ (own_w hw 153 rfl)) (mvT hZ (own_selp_31 hw)) (Cond.privateMethod_at (mvP hZ (own_w hw 154 rfl) (args := #[]))) (mvT hZ (own_w hw 155 rfl)) (by decide) (backOf (W := 0) (own_put1 l Z a0 hw [] ob ba oa ga kb ko kg (T) (1:Int32) (1:Int32) sd (44:Int32) (44:Int32) h0 n0 (by omega) O0 (by decide) (own_leM hT (by decide)) J10c (by omega)) hZ (own_w hw 155 rfl) (own_w hw 43 rfl) (by decide) (by decide)) (g := (mkF m 88 #[VR ob] [(.int 44), (.ref ob)])) rfl (by rw [hml]; rfl) (Steps.refl _) (a := ob) (by rw [e7]; exact qp9) qp9' (argsL := [(.int 44)]) (rest := []) (lenOf own_pd8 rfl) rfl (by show 2 * 0 + _ ≤ _; exact Nat.le_of_eq rfl) (hD d15_88) (fun _ _ => ⟨rfl, e7, (by decide : 0 + 0 ≤ _), (by decide : 0 + 0 ≤ _)⟩)
  dsimp only [Pt.U, Pt.locs, Pt.cells, Pt.slots] at X9 l9 y9 z9 st9 hQ9
  subst l9 y9 z9
  obtain ⟨rfl, N9q, K9, FJ9⟩ := hQ9
  have N9 := Fr.app N0 N9q
  have sz11 : h0.size ≤ T9.heap.size := K9.1
  have lb9 : OwnLe ((T ++ [(44:Int32)])) 191 := own_leS hT
  obtain ⟨Ew12, fbytes_12, fsize_12, fobjects_12, fbegun_12, fdepth_12, fnamed_12, fstarted_12, Vb12, Vo12, Vg12, la_12, lb_12, lc_12⟩ := id FJ9
  have la_12 := own_lt la_12
  have lb_12 := own_lt lb_12
  have lc_12 := own_lt lc_12
  have lw12 := own_lt Ew12.lt
  have lg12 := own_lt Vg12.lt
  have ld_12 := Nat.lt_trans la_12 lb_12
  have lf_12 := Nat.lt_trans lb_12 lc_12
  have le_12 := Nat.lt_trans ld_12 lc_12
  obtain ⟨T13, X13, e13, st13⟩ := getF X9 hx hZ hown (host := "") (Or.inl (own_w hw 53 rfl)) Via.refl rfl fbegun_12 (g := (mkF m 92 #[VR ob] [(.ref ob)])) rfl rfl (hD d15_92)
  obtain ⟨T14, X14, e14, st14⟩ := getF X13 hx hZ hown (host := "") (Or.inl (own_w hw 83 rfl)) Via.refl e13 fdepth_12 (g := (mkF m 96 #[VR ob] [(.ref ob), (.ref ga)])) rfl rfl (hD d15_96)
  refine OwnFin.adv (B := T14.setTop (mkF m 101 #[VR ob] [(.int ((1:Int32) - (1:Int32))), (.ref ga)])) (fun _ k => X7.baloadBooleans hx (j := (0:Int32)) (v := (.int 1)) (by rw [e7]; exact Ar8.1) (State.isArrayOf_alike hZ.alike Ar8.2.1) Ar8.2.2 hin8 (Has.at H8 hin8 rfl) (g := (mkF m 81 #[VR ob] [(.int 0), (.ref ga)])) rfl rfl (hD d15_81) _ (XS.ifNo X7.here hx rfl (hD d15_82) rfl ((if0 _ _).trans (feq hc82_19).1) (XS.aloadN X7.here hx rfl (hD d15_85) rfl rfl (XS.bipush X7.here hx rfl (hD d15_86) (st9.trans (XS.aloadN X9.here hx rfl (hD d15_91) rfl rfl (st13 _ (XS.aloadN X13.here hx rfl (hD d15_95) rfl rfl (st14 _ (XS.iconst X14.here hx rfl (hD d15_99) (XS.isub X14.here hx rfl (hD d15_100) rfl k))))))))))) ?_
  rw [show (((1:Int32) - (1:Int32)) : Int32) = (0:Int32) from by decide]
  obtain ⟨cl15, Ar15, ck15, S15, M15, H15, G15⟩ := id Vg12
  have hin15 : ¬ ((0:Int32) < 0 ∨ cl15.slots.size ≤ ((0:Int32)).toNatClampNeg) := inb_of S15 ⟨by decide, by decide⟩
  obtain ⟨T15, h15, X15, e15, W15, st15⟩ := stZ X14 hx hZ e14 Ar15 (j := (0:Int32)) hin15 (g := (mkF m 102 #[VR ob] [(.int 1), (.int 0), (.ref ga)])) rfl rfl (hD d15_102)
  have V15 : Arv Z h15 ga kg .boolean (8:Int32) [(.int 1)] (.int 0) := Arv.set Ar15 ck15 S15 M15 H15 G15 (by decide) W15 0 rfl (Nat.le_of_ble_eq_true rfl)
  have sz16 : T9.heap.size ≤ h15.size := Nat.le_of_eq W15.size.symm
  have N15 := Fr.snoc X15 N9 (by omega : n0 ≤ ga)
  obtain ⟨fs, hr, hrun, hended, hW, hsame⟩ := X15.leave (v := none) (fun _ => rfl)
  refine OwnFin.adv (B := T15.setTop (mkF m 103 #[VR ob] [])) (fun _ k => XS.iconst X14.here hx rfl (hD d15_101) (st15 _ k)) ?_
  refine OwnFin.leaf hP' ⟨_, _, X15.returnOut hx Bd.returns (hD d15_103) hr, hrun, hended, _, _, rfl, ?_, ⟨_, rfl⟩, hW, hsame.mono (by decide) (by decide)⟩
  have Fv17_2 := (Ew12.wr W15)
  have Fv18_2 := (fbytes_12.other W15 (Or.inl (Nat.ne_of_lt le_12)))
  have Fv19_2 := (fsize_12.other W15 (Or.inl (Nat.ne_of_lt le_12)))
  have Fv20_2 := (fobjects_12.other W15 (Or.inl (Nat.ne_of_lt le_12)))
  have Fv21_2 := (fbegun_12.other W15 (Or.inl (Nat.ne_of_lt le_12)))
  have Fv22_2 := (fdepth_12.other W15 (Or.inl (Nat.ne_of_lt le_12)))
  have Fv23_2 := (fnamed_12.other W15 (Or.inl (Nat.ne_of_lt le_12)))
  have Fv24_2 := (fstarted_12.other W15 (Or.inl (Nat.ne_of_lt le_12)))
  have Fv25_2 := (Vb12.other W15 (Nat.ne_of_lt lf_12))
  have Fv26_2 := (Vo12.other W15 (Nat.ne_of_lt lc_12))
  rw [show (T15.setFrames fs).heap = h15 from e15]
  exact ⟨rfl, N15, (((Keep.refl h0 [ob, ba, oa, ga]).trans K9 (allS (Or.inl (List.mem_of_getElem? (i := 0) rfl)) (allS (Or.inl (List.mem_of_getElem? (i := 1) rfl)) (allS (Or.inl (List.mem_of_getElem? (i := 2) rfl)) (allS (Or.inl (List.mem_of_getElem? (i := 3) rfl)) all0))))).wr W15 (Or.inl (List.mem_of_getElem? (i := 3) rfl))), ⟨Fv17_2, Fv18_2, Fv19_2, Fv20_2, Fv21_2, Fv22_2, Fv23_2, Fv24_2, Fv25_2, Fv26_2, V15, own_lt la_12, own_lt lb_12, own_lt lc_12⟩⟩
theorem d30_0 : decode B30 0 = .ok (.aload_n 0, 1) := by decide +kernel
theorem own_pd9 : parseMethodDescriptor "()V" = some ⟨[], none⟩ := by decide +kernel
theorem d30_1 : decode B30 1 = .ok (.invokevirtual 54, 3) := by decide +kernel
theorem own_selp_15 {Z : State} {a0 : Array Value} (hw : ∀ d ∈ tables_1, d.before a0 Z = true) : (Cond.selects "tramline/routes/JsonWriter" own_M15 own_M15).before a0 Z = true := own_selp (y := own_M15) (z := own_M11) (own_w hw 80 rfl) (own_w hw 81 rfl) (own_w hw 56 rfl) (notFace_of_selects (args := a0) (own_w hw 58 rfl)) rfl (by decide)
theorem d30_4 : decode B30 4 = .ok (.aload_n 0, 1) := by decide +kernel
theorem d30_5 : decode B30 5 = .ok (.getfield 27, 3) := by decide +kernel
theorem d30_8 : decode B30 8 = .ok (.aload_n 0, 1) := by decide +kernel
theorem d30_9 : decode B30 9 = .ok (.getfield 13, 3) := by decide +kernel
theorem d30_12 : decode B30 12 = .ok (.arraylength, 1) := by decide +kernel
theorem d30_13 : decode B30 13 = .ok (.if_icmp .ne 37, 3) := by decide +kernel
theorem d30_50 : decode B30 50 = .ok (.aload_n 0, 1) := by decide +kernel
theorem d30_51 : decode B30 51 = .ok (.getfield 13, 3) := by decide +kernel
theorem d30_54 : decode B30 54 = .ok (.aload_n 0, 1) := by decide +kernel
theorem d30_55 : decode B30 55 = .ok (.getfield 27, 3) := by decide +kernel
theorem d30_58 : decode B30 58 = .ok (.iload_n 1, 1) := by decide +kernel
theorem d30_59 : decode B30 59 = .ok (.bastore, 1) := by decide +kernel
theorem d30_60 : decode B30 60 = .ok (.aload_n 0, 1) := by decide +kernel
theorem d30_61 : decode B30 61 = .ok (.getfield 17, 3) := by decide +kernel
theorem d30_64 : decode B30 64 = .ok (.aload_n 0, 1) := by decide +kernel
theorem d30_65 : decode B30 65 = .ok (.getfield 27, 3) := by decide +kernel
theorem d30_68 : decode B30 68 = .ok (.iconst 0, 1) := by decide +kernel
theorem d30_69 : decode B30 69 = .ok (.bastore, 1) := by decide +kernel
theorem d30_70 : decode B30 70 = .ok (.aload_n 0, 1) := by decide +kernel
theorem d30_71 : decode B30 71 = .ok (.dup, 1) := by decide +kernel
theorem d30_72 : decode B30 72 = .ok (.getfield 27, 3) := by decide +kernel
theorem d30_75 : decode B30 75 = .ok (.iconst 1, 1) := by decide +kernel
theorem d30_76 : decode B30 76 = .ok (.iadd, 1) := by decide +kernel
theorem d30_77 : decode B30 77 = .ok (.putfield 27, 3) := by decide +kernel
theorem d30_80 : decode B30 80 = .ok (.aload_n 0, 1) := by decide +kernel
theorem d30_81 : decode B30 81 = .ok (.iload_n 1, 1) := by decide +kernel
theorem d30_82 : decode B30 82 = .ok (.ifCond .eq 8, 3) := by decide +kernel
theorem d30_90 : decode B30 90 = .ok (.bipush 91, 2) := by decide +kernel
theorem own_sn12 {Z : State} {a0 : Array Value} (hw : ∀ d ∈ tables_1, d.before a0 Z = true) : Jvm.RoadKit.slotOf Z "tramline/routes/JsonWriter" "bytes" "[B" ≠ Jvm.RoadKit.slotOf Z "tramline/routes/JsonWriter" "depth" "I" := slot_ne (Or.inl (own_w hw 49 rfl)) (Or.inl (own_w hw 84 rfl)) (by decide) (t := (.array .byte)) (t' := .int) (by decide) (by decide)
theorem own_sn13 {Z : State} {a0 : Array Value} (hw : ∀ d ∈ tables_1, d.before a0 Z = true) : Jvm.RoadKit.slotOf Z "tramline/routes/JsonWriter" "size" "I" ≠ Jvm.RoadKit.slotOf Z "tramline/routes/JsonWriter" "depth" "I" := slot_ne (Or.inl (own_w hw 61 rfl)) (Or.inl (own_w hw 84 rfl)) (by decide) (t := .int) (t' := .int) (by decide) (by decide)
theorem own_sn14 {Z : State} {a0 : Array Value} (hw : ∀ d ∈ tables_1, d.before a0 Z = true) : Jvm.RoadKit.slotOf Z "tramline/routes/JsonWriter" "objects" "[Z" ≠ Jvm.RoadKit.slotOf Z "tramline/routes/JsonWriter" "depth" "I" := slot_ne (Or.inl (own_w hw 52 rfl)) (Or.inl (own_w hw 84 rfl)) (by decide) (t := (.array .boolean)) (t' := .int) (by decide) (by decide)
theorem own_sn15 {Z : State} {a0 : Array Value} (hw : ∀ d ∈ tables_1, d.before a0 Z = true) : Jvm.RoadKit.slotOf Z "tramline/routes/JsonWriter" "begun" "[Z" ≠ Jvm.RoadKit.slotOf Z "tramline/routes/JsonWriter" "depth" "I" := slot_ne (Or.inl (own_w hw 54 rfl)) (Or.inl (own_w hw 84 rfl)) (by decide) (t := (.array .boolean)) (t' := .int) (by decide) (by decide)
theorem own_sn16 {Z : State} {a0 : Array Value} (hw : ∀ d ∈ tables_1, d.before a0 Z = true) : Jvm.RoadKit.slotOf Z "tramline/routes/JsonWriter" "named" "Z" ≠ Jvm.RoadKit.slotOf Z "tramline/routes/JsonWriter" "depth" "I" := slot_ne (Or.inl (own_w hw 178 rfl)) (Or.inl (own_w hw 84 rfl)) (by decide) (t := .boolean) (t' := .int) (by decide) (by decide)
theorem own_sn17 {Z : State} {a0 : Array Value} (hw : ∀ d ∈ tables_1, d.before a0 Z = true) : Jvm.RoadKit.slotOf Z "tramline/routes/JsonWriter" "started" "Z" ≠ Jvm.RoadKit.slotOf Z "tramline/routes/JsonWriter" "depth" "I" := slot_ne (Or.inl (own_w hw 86 rfl)) (Or.inl (own_w hw 84 rfl)) (by decide) (t := .boolean) (t' := .int) (by decide) (by decide)
theorem d30_92 : decode B30 92 = .ok (.invokevirtual 44, 3) := by decide +kernel
theorem d30_95 : decode B30 95 = .ok (.return_, 1) := by decide +kernel
theorem own_ef_open (m : MethodId) (x0 : Addr) (x1 : Int32) : entryFrame m #[(.ref x0), (.int x1)] 2 = mkF m 0 #[.val (.ref x0), .val (.int x1)] [] := by first | (simp [entryFrame, mkF, argsToLocals, Value.category]; done) | rfl
def own_Q_open (Z : State) (ob ba oa ga : Addr) (kb ko kg : ClassId) (T : List Int32) (bg : Int32) (h0 : Heap) (n0 : Nat) (v : Option Value) (h : Heap) (L : List Loc) : Prop := v = none ∧ Fr n0 L ∧ Keep h0 h [ob, ba, oa, ga] ∧ OwnJ Z h ob ba oa ga kb ko kg ((T ++ [(91 : Int32)])) (1 : Int32) (0 : Int32) (1 : Int32)
set_option maxRecDepth 65536 in
set_option maxHeartbeats 40000000 in
theorem own_open (l : Launch) (Z : State) (a0 : Array Value) (hw : ∀ d ∈ tables_1, d.before a0 Z = true) (ws : List Jvm.Cond) (ob ba oa ga : Addr) (kb ko kg : ClassId) (T : List Int32) (bg : Int32) (h0 : Heap) (n0 : Nat) (Z0 : n0 ≤ h0.size) (O0 : Old Z n0 h0) (hT : OwnLe T 180) (J : OwnJ Z h0 ob ba oa ga kb ko kg (T) (0 : Int32) bg (0 : Int32)) (g_ob : n0 ≤ ob) :
    MetFree l own_M30 (head1 (Jvm.Cond.code own_M30 prog_32_method_18_code 2 none :: ws) ({ frames := 3, cells := 0, slots := 0, locals := 38 } : Room)) (fun A0 U0 => A0 = #[(.ref ob), (.int (0 : Int32))] ∧ Z.Warmed39 U0.vm ∧ U0.heap = h0) (fun _ _ _ _ _ => True) (fun _ U0 o0 U1 => ∃ v0 L0, o0 = .returned v0 ∧ own_Q_open Z ob ba oa ga kb ko kg T bg h0 n0 v0 U1.heap L0 ∧ FrameEnd U0 o0 U1 L0 0 0) := by
  refine MetFree.of_bodySF (plainFor_of_name own_pn_tramline_routes_JsonWriter) hisR ?_
  intro p e s m args below meth c s₁ Bd hml0 hP hK
  obtain ⟨rfl, hZ, hh⟩ := hP
  have hZs0 := hZ
  have hZs := hZ
  have hx := Bd.exec
  have hby := Bd.bytes
  have hD : ∀ {pc : Nat} {r : Except DecodeError (Instr × Nat)}, decode prog_32_method_18_code pc = r → decode c.code pc = r := fun q => hb hby q
  have hml : c.maxLocals = 2 := hml0
  have hown : s.vm.findClass "tramline/routes/JsonWriter" = some m.cls := findClass_of_methodNamed Bd.named
  have hnm := (name_of_methodNamed Bd.named Bd.method).1
  have X0 : Stand p l e ({ frames := 3, cells := 0, slots := 0, locals := 38 } : Room) s m #[(.ref ob), (.int (0 : Int32))] below meth c s₁ [] 0 0 := Stand.of_body Bd
  have e0 : s₁.heap = h0 := by rw [← hh, Bd.state]; rfl
  have N0 := Fr.nil n0
  refine OwnFin.entry (own_ef_open m ob (0 : Int32)) (fun P' hP' => ?_)
  obtain ⟨Ew1, fbytes_1, fsize_1, fobjects_1, fbegun_1, fdepth_1, fnamed_1, fstarted_1, Vb1, Vo1, Vg1, la_1, lb_1, lc_1⟩ := id J
  have la_1 := own_lt la_1
  have lb_1 := own_lt lb_1
  have lc_1 := own_lt lc_1
  have lw1 := own_lt Ew1.lt
  have lg1 := own_lt Vg1.lt
  have ld_1 := Nat.lt_trans la_1 lb_1
  have lf_1 := Nat.lt_trans lb_1 lc_1
  have le_1 := Nat.lt_trans ld_1 lc_1
  have J3c : OwnJ Z h0 ob ba oa ga kb ko kg (T) (0:Int32) bg (0:Int32) := ⟨Ew1, fbytes_1, fsize_1, fobjects_1, fbegun_1, fdepth_1, fnamed_1, fstarted_1, Vb1, Vo1, Vg1, own_lt la_1, own_lt lb_1, own_lt lc_1⟩
  obtain ⟨cq2, qp2, qp2'⟩ := Ew1.cell
  obtain ⟨_, _, ⟨T2, L2, k2, n2⟩, -, X2, ⟨Lc2, hQ2, l2, y2, z2⟩, st2⟩ := X0.privateBack hx (y := own_M15) hown (mvT hZ (own_w hw 79 rfl)) (mvT hZ (own_w hw 80 rfl)) (mvT hZ (own_selp_15 hw)) (Cond.privateMethod_at (mvP hZ (own_w hw 81 rfl) (args := #[]))) (mvT hZ (own_w hw 82 rfl)) (by decide) (backOf (W := 0) (own_bv0 l Z a0 hw [] ob ba oa ga kb ko kg (T) bg  h0 n0 (by omega) O0   J3c (by omega)) hZ (own_w hw 82 rfl) (own_w hw 43 rfl) (by decide) (by decide)) (g := (mkF m 1 #[VR ob, VI (0:Int32)] [(.ref ob)])) rfl (by rw [hml]; rfl) (Steps.refl _) (a := ob) (by rw [e0]; exact qp2) qp2' (argsL := []) (rest := []) (lenOf own_pd9 rfl) rfl (by show 2 * 0 + _ ≤ _; exact Nat.le_of_eq rfl) (hD d30_1) (fun _ _ => ⟨rfl, e0, (by decide : 0 + 0 ≤ _), (by decide : 0 + 0 ≤ _)⟩)
  dsimp only [Pt.U, Pt.locs, Pt.cells, Pt.slots] at X2 l2 y2 z2 st2 hQ2
  subst l2 y2 z2
  obtain ⟨rfl, N2q, K2, FJ2⟩ := hQ2
  have N2 := Fr.app N0 N2q
  have sz4 : h0.size ≤ T2.heap.size := K2.1
  obtain ⟨Ew5, fbytes_5, fsize_5, fobjects_5, fbegun_5, fdepth_5, fnamed_5, fstarted_5, Vb5, Vo5, Vg5, la_5, lb_5, lc_5⟩ := id FJ2
  have la_5 := own_lt la_5
  have lb_5 := own_lt lb_5
  have lc_5 := own_lt lc_5
  have lw5 := own_lt Ew5.lt
  have lg5 := own_lt Vg5.lt
  have ld_5 := Nat.lt_trans la_5 lb_5
  have lf_5 := Nat.lt_trans lb_5 lc_5
  have le_5 := Nat.lt_trans ld_5 lc_5
  obtain ⟨T6, X6, e6, st6⟩ := getF X2 hx hZ hown (host := "") (Or.inl (own_w hw 83 rfl)) Via.refl rfl fdepth_5 (g := (mkF m 5 #[VR ob, VI (0:Int32)] [(.ref ob)])) rfl rfl (hD d30_5)
  obtain ⟨T7, X7, e7, st7⟩ := getF X6 hx hZ hown (host := "") (Or.inl (own_w hw 51 rfl)) Via.refl e6 fobjects_5 (g := (mkF m 9 #[VR ob, VI (0:Int32)] [(.ref ob), (.int 0)])) rfl rfl (hD d30_9)
  obtain ⟨cl8, Ar8, ck8, S8, M8, H8, G8⟩ := id Vo5
  refine OwnFin.adv (B := T7.setTop (mkF m 12 #[VR ob, VI (0:Int32)] [(.ref oa), (.int 0)])) (fun _ k => XS.aloadN X0.here hx rfl (hD d30_0) rfl rfl (st2.trans (XS.aloadN X2.here hx rfl (hD d30_4) rfl rfl (st6 _ (XS.aloadN X6.here hx rfl (hD d30_8) rfl rfl (st7 _ k)))))) ?_
  refine OwnFin.adv (B := T7.setTop (mkF m 13 #[VR ob, VI (0:Int32)] [(.int 8), (.int 0)])) (fun _ k => X7.arraylength hx (by rw [e7]; exact Ar8.1) (State.isArrayOf_alike hZ.alike Ar8.2.1) (g := (mkF m 12 #[VR ob, VI (0:Int32)] [(.ref oa), (.int 0)])) rfl rfl (hD d30_12) _ (by rw [len_of S8 M8]; exact k)) ?_
  have hc13_8 : ¬ ((0:Int32) = (8:Int32)) := by decide
  obtain ⟨T9, X9, e9, st9⟩ := getF X7 hx hZ hown (host := "") (Or.inl (own_w hw 51 rfl)) Via.refl e7 fobjects_5 (g := (mkF m 51 #[VR ob, VI (0:Int32)] [(.ref ob)])) rfl rfl (hD d30_51)
  obtain ⟨T10, X10, e10, st10⟩ := getF X9 hx hZ hown (host := "") (Or.inl (own_w hw 83 rfl)) Via.refl e9 fdepth_5 (g := (mkF m 55 #[VR ob, VI (0:Int32)] [(.ref ob), (.ref oa)])) rfl rfl (hD d30_55)
  obtain ⟨cl11, Ar11, ck11, S11, M11, H11, G11⟩ := id Vo5
  have hin11 : ¬ ((0:Int32) < 0 ∨ cl11.slots.size ≤ ((0:Int32)).toNatClampNeg) := inb_of S11 ⟨by decide, by decide⟩
  obtain ⟨T11, h11, X11, e11, W11, st11⟩ := stZ X10 hx hZ e10 Ar11 (j := (0:Int32)) hin11 (g := (mkF m 59 #[VR ob, VI (0:Int32)] [(.int 0), (.int 0), (.ref oa)])) rfl rfl (hD d30_59)
  have V11 : Arv Z h11 oa ko .boolean (8:Int32) [(.int 0)] (.int 0) := Arv.set Ar11 ck11 S11 M11 H11 G11 (by decide) W11 0 rfl (Nat.le_of_ble_eq_true rfl)
  have sz12 : T2.heap.size ≤ h11.size := Nat.le_of_eq W11.size.symm
  have N11 := Fr.snoc X11 N2 (by omega : n0 ≤ oa)
  have Fv13_2 := (fbegun_5.other W11 (Or.inl (Nat.ne_of_lt ld_5)))
  obtain ⟨T14, X14, e14, st14⟩ := getF X11 hx hZ hown (host := "") (Or.inl (own_w hw 53 rfl)) Via.refl e11 Fv13_2 (g := (mkF m 61 #[VR ob, VI (0:Int32)] [(.ref ob)])) rfl rfl (hD d30_61)
  have Fv15_2 := (fdepth_5.other W11 (Or.inl (Nat.ne_of_lt ld_5)))
  obtain ⟨T16, X16, e16, st16⟩ := getF X14 hx hZ hown (host := "") (Or.inl (own_w hw 83 rfl)) Via.refl e14 Fv15_2 (g := (mkF m 65 #[VR ob, VI (0:Int32)] [(.ref ob), (.ref ga)])) rfl rfl (hD d30_65)
  have Fv18_2 := (Vg5.other W11 (Nat.ne_of_gt lc_5))
  obtain ⟨cl17, Ar17, ck17, S17, M17, H17, G17⟩ := id Fv18_2
  have hin17 : ¬ ((0:Int32) < 0 ∨ cl17.slots.size ≤ ((0:Int32)).toNatClampNeg) := inb_of S17 ⟨by decide, by decide⟩
  obtain ⟨T17, h17, X17, e17, W17, st17⟩ := stZ X16 hx hZ e16 Ar17 (j := (0:Int32)) hin17 (g := (mkF m 69 #[VR ob, VI (0:Int32)] [(.int 0), (.int 0), (.ref ga)])) rfl rfl (hD d30_69)
  have V17 : Arv Z h17 ga kg .boolean (8:Int32) [(.int 0)] (.int 0) := Arv.set Ar17 ck17 S17 M17 H17 G17 (by decide) W17 0 rfl (Nat.le_of_ble_eq_true rfl)
  have sz19 : h11.size ≤ h17.size := Nat.le_of_eq W17.size.symm
  have N17 := Fr.snoc X17 N11 (by omega : n0 ≤ ga)
  refine OwnFin.adv (B := T17.setTop (mkF m 71 #[VR ob, VI (0:Int32)] [(.ref ob)])) (fun _ k => XS.icmpYes X7.here hx rfl (pc0 := 13) (pc' := 50) rfl (hD d30_13) rfl (feq hc13_8).2 (by decide) (by decide) (XS.aloadN X7.here hx rfl (hD d30_50) rfl rfl (st9 _ (XS.aloadN X9.here hx rfl (hD d30_54) rfl rfl (st10 _ (XS.iloadN X10.here hx rfl (hD d30_58) rfl (st11 _ (XS.aloadN X11.here hx rfl (hD d30_60) rfl rfl (st14 _ (XS.aloadN X14.here hx rfl (hD d30_64) rfl rfl (st16 _ (XS.iconst X16.here hx rfl (hD d30_68) (st17 _ (XS.aloadN X17.here hx rfl (hD d30_70) rfl rfl k)))))))))))))) ?_
  have Fv20_3 := (Fv15_2.other W17 (Or.inl (Nat.ne_of_lt le_5)))
  obtain ⟨T21, X21, e21, st21⟩ := getF X17 hx hZ hown (host := "") (Or.inl (own_w hw 83 rfl)) Via.refl e17 Fv20_3 (g := (mkF m 72 #[VR ob, VI (0:Int32)] [(.ref ob), (.ref ob)])) rfl rfl (hD d30_72)
  refine OwnFin.adv (B := T21.setTop (mkF m 77 #[VR ob, VI (0:Int32)] [(.int ((0:Int32) + (1:Int32))), (.ref ob)])) (fun _ k => XS.dup X17.here hx rfl (hD d30_71) rfl rfl (st21 _ (XS.iconst X21.here hx rfl (hD d30_75) (XS.iadd X21.here hx rfl (hD d30_76) rfl k)))) ?_
  rw [show (((0:Int32) + (1:Int32)) : Int32) = (1:Int32) from by decide]
  have Fv22_3 := ((Ew5.wr W11).wr W17)
  obtain ⟨T23, h23, X23, e23, W23, st23⟩ := putF X21 hx hZ hown (host := "") (Or.inl (own_w hw 83 rfl)) Via.refl e21 Fv20_3 Fv22_3 (Or.inl (own_w hw 84 rfl)) (own_w hw 42 rfl) (ty := .int) (by decide) rfl rfl (g := (mkF m 77 #[VR ob, VI (0:Int32)] [(.int 1), (.ref ob)])) rfl rfl (hD d30_77)
  have Fw23 : Fld Z h23 ob "tramline/routes/JsonWriter" "depth" "I" (.int 1) := Fv20_3.same W23
  have sz24 : h17.size ≤ h23.size := Nat.le_of_eq W23.size.symm
  have N23 := Fr.snoc X23 N17 (by omega : n0 ≤ ob)
  have hc82_29 : (0:Int32) = (0:Int32) := rfl
  have Fv27_4 := (Fv22_3.wr W23)
  have Fv28_4 := (((fbytes_5.other W11 (Or.inl (Nat.ne_of_lt ld_5))).other W17 (Or.inl (Nat.ne_of_lt le_5))).other W23 (Or.inr (own_sn12 hw)))
  have Fv29_4 := (((fsize_5.other W11 (Or.inl (Nat.ne_of_lt ld_5))).other W17 (Or.inl (Nat.ne_of_lt le_5))).other W23 (Or.inr (own_sn13 hw)))
  have Fv30_4 := (((fobjects_5.other W11 (Or.inl (Nat.ne_of_lt ld_5))).other W17 (Or.inl (Nat.ne_of_lt le_5))).other W23 (Or.inr (own_sn14 hw)))
  have Fv31_4 := ((Fv13_2.other W17 (Or.inl (Nat.ne_of_lt le_5))).other W23 (Or.inr (own_sn15 hw)))
  have Fv32_4 := (((fnamed_5.other W11 (Or.inl (Nat.ne_of_lt ld_5))).other W17 (Or.inl (Nat.ne_of_lt le_5))).other W23 (Or.inr (own_sn16 hw)))
  have Fv33_4 := (((fstarted_5.other W11 (Or.inl (Nat.ne_of_lt ld_5))).other W17 (Or.inl (Nat.ne_of_lt le_5))).other W23 (Or.inr (own_sn17 hw)))
  have Fv34_4 := (((Vb5.other W11 (Nat.ne_of_lt lb_5)).other W17 (Nat.ne_of_lt lf_5)).other W23 (Nat.ne_of_gt la_5))
  have Fv35_4 := ((V11.other W17 (Nat.ne_of_lt lc_5)).other W23 (Nat.ne_of_gt ld_5))
  have Fv36_4 := (V17.other W23 (Nat.ne_of_gt le_5))
  have J26c : OwnJ Z h23 ob ba oa ga kb ko kg (T) (1:Int32) (0:Int32) (1:Int32) := ⟨Fv27_4, Fv28_4, Fv29_4, Fv30_4, Fv31_4, Fw23, Fv32_4, Fv33_4, Fv34_4, Fv35_4, Fv36_4, own_lt la_5, own_lt lb_5, own_lt lc_5⟩
  have Old37 : Old Z n0 h23 := ((((O0.keep K2 (allS (by omega) (allS (by omega) (allS (by omega) (allS (by omega) all0))))).wr W11 (by omega)).wr W17 (by omega)).wr W23 (by omega))
  obtain ⟨cq25, qp25, qp25'⟩ := Fv27_4.cell
  obtain ⟨_, _, ⟨T25, L25, k25, n25⟩, -, X25, ⟨Lc25, hQ25, l25, y25, z25⟩, st25⟩ := X23.privateBack hx (y := own_M31) hown (mvT hZ (own_w hw 152 rfl)) (mvT hZ (own_w hw 153 rfl)) (mvT hZ (own_selp_31 hw)) (Cond.privateMethod_at (mvP hZ (own_w hw 154 rfl) (args := #[]))) (mvT hZ (own_w hw 155 rfl)) (by decide) (backOf (W := 0) (own_put1 l Z a0 hw [] ob ba oa ga kb ko kg (T) (1:Int32) (0:Int32) (1:Int32) (91:Int32) (91:Int32) h23 n0 (by omega) Old37 (by decide) (own_leM hT (by decide)) J26c (by omega)) hZ (own_w hw 155 rfl) (own_w hw 43 rfl) (by decide) (by decide)) (g := (mkF m 92 #[VR ob, VI (0:Int32)] [(.int 91), (.ref ob)])) rfl (by rw [hml]; rfl) (Steps.refl _) (a := ob) (by rw [e23]; exact qp25) qp25' (argsL := [(.int 91)]) (rest := []) (lenOf own_pd8 rfl) rfl (by show 2 * 0 + _ ≤ _; exact Nat.le_of_eq rfl) (hD d30_92) (fun _ _ => ⟨rfl, e23, (by decide : 0 + 0 ≤ _), (by decide : 0 + 0 ≤ _)⟩)
  dsimp only [Pt.U, Pt.locs, Pt.cells, Pt.slots] at X25 l25 y25 z25 st25 hQ25
  subst l25 y25 z25
  obtain ⟨rfl, N25q, K25, FJ25⟩ := hQ25
  have N25 := Fr.app N23 N25q
  have sz38 : h23.size ≤ T25.heap.size := K25.1
  have lb25 : OwnLe ((T ++ [(91:Int32)])) 181 := own_leS hT
  obtain ⟨Ew39, fbytes_39, fsize_39, fobjects_39, fbegun_39, fdepth_39, fnamed_39, fstarted_39, Vb39, Vo39, Vg39, la_39, lb_39, lc_39⟩ := id FJ25
  have la_39 := own_lt la_39
  have lb_39 := own_lt lb_39
  have lc_39 := own_lt lc_39
  have lw39 := own_lt Ew39.lt
  have lg39 := own_lt Vg39.lt
  have ld_39 := Nat.lt_trans la_39 lb_39
  have lf_39 := Nat.lt_trans lb_39 lc_39
  have le_39 := Nat.lt_trans ld_39 lc_39
  obtain ⟨fs, hr, hrun, hended, hW, hsame⟩ := X25.leave (v := none) (fun _ => rfl)
  refine OwnFin.adv (B := T25.setTop (mkF m 95 #[VR ob, VI (0:Int32)] [])) (fun _ k => st23 _ (XS.aloadN X23.here hx rfl (hD d30_80) rfl rfl (XS.iloadN X23.here hx rfl (hD d30_81) rfl (XS.ifYes X23.here hx rfl (pc0 := 82) (pc' := 90) rfl (hD d30_82) rfl ((if0 _ _).trans (teq hc82_29).1) (by decide) (by decide) (XS.bipush X23.here hx rfl (hD d30_90) (st25.trans k)))))) ?_
  refine OwnFin.leaf hP' ⟨_, _, X25.returnOut hx Bd.returns (hD d30_95) hr, hrun, hended, _, _, rfl, ?_, ⟨_, rfl⟩, hW, hsame.mono (by decide) (by decide)⟩
  rw [show (T25.setFrames fs).heap = T25.heap from rfl]
  exact ⟨rfl, N25, ((((((Keep.refl h0 [ob, ba, oa, ga]).trans K2 (allS (Or.inl (List.mem_of_getElem? (i := 0) rfl)) (allS (Or.inl (List.mem_of_getElem? (i := 1) rfl)) (allS (Or.inl (List.mem_of_getElem? (i := 2) rfl)) (allS (Or.inl (List.mem_of_getElem? (i := 3) rfl)) all0))))).wr W11 (Or.inl (List.mem_of_getElem? (i := 2) rfl))).wr W17 (Or.inl (List.mem_of_getElem? (i := 3) rfl))).wr W23 (Or.inl (List.mem_of_getElem? (i := 0) rfl))).trans K25 (allS (Or.inl (List.mem_of_getElem? (i := 0) rfl)) (allS (Or.inl (List.mem_of_getElem? (i := 1) rfl)) (allS (Or.inl (List.mem_of_getElem? (i := 2) rfl)) (allS (Or.inl (List.mem_of_getElem? (i := 3) rfl)) all0))))), ⟨Ew39, fbytes_39, fsize_39, fobjects_39, fbegun_39, fdepth_39, fnamed_39, fstarted_39, Vb39, Vo39, Vg39, own_lt la_39, own_lt lb_39, own_lt lc_39⟩⟩
theorem d29_0 : decode B29 0 = .ok (.aload_n 0, 1) := by decide +kernel
theorem d29_1 : decode B29 1 = .ok (.iconst 0, 1) := by decide +kernel
theorem own_pd10 : parseMethodDescriptor "(Z)V" = some ⟨[.boolean], none⟩ := by decide +kernel
theorem d29_2 : decode B29 2 = .ok (.invokevirtual 20, 3) := by decide +kernel
theorem own_selp_30 {Z : State} {a0 : Array Value} (hw : ∀ d ∈ tables_1, d.before a0 Z = true) : (Cond.selects "tramline/routes/JsonWriter" own_M30 own_M30).before a0 Z = true := own_selp (y := own_M30) (z := own_M11) (own_w hw 149 rfl) (own_w hw 150 rfl) (own_w hw 56 rfl) (notFace_of_selects (args := a0) (own_w hw 58 rfl)) rfl (by decide)
theorem d29_5 : decode B29 5 = .ok (.return_, 1) := by decide +kernel
theorem own_ef_wsa (m : MethodId) (x0 : Addr) : entryFrame m #[(.ref x0)] 1 = mkF m 0 #[.val (.ref x0)] [] := by first | (simp [entryFrame, mkF, argsToLocals, Value.category]; done) | rfl
def own_Q_wsa (Z : State) (ob ba oa ga : Addr) (kb ko kg : ClassId) (T : List Int32) (bg : Int32) (h0 : Heap) (n0 : Nat) (v : Option Value) (h : Heap) (L : List Loc) : Prop := v = none ∧ Fr n0 L ∧ Keep h0 h [ob, ba, oa, ga] ∧ OwnJ Z h ob ba oa ga kb ko kg ((T ++ [(91 : Int32)])) (1 : Int32) (0 : Int32) (1 : Int32)
set_option maxRecDepth 65536 in
set_option maxHeartbeats 40000000 in
theorem own_wsa (l : Launch) (Z : State) (a0 : Array Value) (hw : ∀ d ∈ tables_1, d.before a0 Z = true) (ws : List Jvm.Cond) (ob ba oa ga : Addr) (kb ko kg : ClassId) (T : List Int32) (bg : Int32) (h0 : Heap) (n0 : Nat) (Z0 : n0 ≤ h0.size) (O0 : Old Z n0 h0) (hT : OwnLe T 170) (J : OwnJ Z h0 ob ba oa ga kb ko kg (T) (0 : Int32) bg (0 : Int32)) (g_ob : n0 ≤ ob) :
    MetFree l own_M29 (head1 (Jvm.Cond.code own_M29 prog_32_method_4_code 1 none :: ws) ({ frames := 4, cells := 0, slots := 0, locals := 51 } : Room)) (fun A0 U0 => A0 = #[(.ref ob)] ∧ Z.Warmed39 U0.vm ∧ U0.heap = h0) (fun _ _ _ _ _ => True) (fun _ U0 o0 U1 => ∃ v0 L0, o0 = .returned v0 ∧ own_Q_wsa Z ob ba oa ga kb ko kg T bg h0 n0 v0 U1.heap L0 ∧ FrameEnd U0 o0 U1 L0 0 0) := by
  refine MetFree.of_bodySF (plainFor_of_name own_pn_tramline_routes_JsonWriter) hisR ?_
  intro p e s m args below meth c s₁ Bd hml0 hP hK
  obtain ⟨rfl, hZ, hh⟩ := hP
  have hZs0 := hZ
  have hZs := hZ
  have hx := Bd.exec
  have hby := Bd.bytes
  have hD : ∀ {pc : Nat} {r : Except DecodeError (Instr × Nat)}, decode prog_32_method_4_code pc = r → decode c.code pc = r := fun q => hb hby q
  have hml : c.maxLocals = 1 := hml0
  have hown : s.vm.findClass "tramline/routes/JsonWriter" = some m.cls := findClass_of_methodNamed Bd.named
  have hnm := (name_of_methodNamed Bd.named Bd.method).1
  have X0 : Stand p l e ({ frames := 4, cells := 0, slots := 0, locals := 51 } : Room) s m #[(.ref ob)] below meth c s₁ [] 0 0 := Stand.of_body Bd
  have e0 : s₁.heap = h0 := by rw [← hh, Bd.state]; rfl
  have N0 := Fr.nil n0
  refine OwnFin.entry (own_ef_wsa m ob) (fun P' hP' => ?_)
  obtain ⟨Ew1, fbytes_1, fsize_1, fobjects_1, fbegun_1, fdepth_1, fnamed_1, fstarted_1, Vb1, Vo1, Vg1, la_1, lb_1, lc_1⟩ := id J
  have la_1 := own_lt la_1
  have lb_1 := own_lt lb_1
  have lc_1 := own_lt lc_1
  have lw1 := own_lt Ew1.lt
  have lg1 := own_lt Vg1.lt
  have ld_1 := Nat.lt_trans la_1 lb_1
  have lf_1 := Nat.lt_trans lb_1 lc_1
  have le_1 := Nat.lt_trans ld_1 lc_1
  have J3c : OwnJ Z h0 ob ba oa ga kb ko kg (T) (0:Int32) bg (0:Int32) := ⟨Ew1, fbytes_1, fsize_1, fobjects_1, fbegun_1, fdepth_1, fnamed_1, fstarted_1, Vb1, Vo1, Vg1, own_lt la_1, own_lt lb_1, own_lt lc_1⟩
  obtain ⟨cq2, qp2, qp2'⟩ := Ew1.cell
  obtain ⟨_, _, ⟨T2, L2, k2, n2⟩, -, X2, ⟨Lc2, hQ2, l2, y2, z2⟩, st2⟩ := X0.privateBack hx (y := own_M30) hown (mvT hZ (own_w hw 148 rfl)) (mvT hZ (own_w hw 149 rfl)) (mvT hZ (own_selp_30 hw)) (Cond.privateMethod_at (mvP hZ (own_w hw 150 rfl) (args := #[]))) (mvT hZ (own_w hw 151 rfl)) (by decide) (backOf (W := 0) (own_open l Z a0 hw [] ob ba oa ga kb ko kg (T) bg  h0 n0 (by omega) O0  (own_leM hT (by decide)) J3c (by omega)) hZ (own_w hw 151 rfl) (own_w hw 43 rfl) (by decide) (by decide)) (g := (mkF m 2 #[VR ob] [(.int 0), (.ref ob)])) rfl (by rw [hml]; rfl) (Steps.refl _) (a := ob) (by rw [e0]; exact qp2) qp2' (argsL := [(.int 0)]) (rest := []) (lenOf own_pd10 rfl) rfl (by show 2 * 0 + _ ≤ _; exact Nat.le_of_eq rfl) (hD d29_2) (fun _ _ => ⟨rfl, e0, (by decide : 0 + 0 ≤ _), (by decide : 0 + 0 ≤ _)⟩)
  dsimp only [Pt.U, Pt.locs, Pt.cells, Pt.slots] at X2 l2 y2 z2 st2 hQ2
  subst l2 y2 z2
  obtain ⟨rfl, N2q, K2, FJ2⟩ := hQ2
  have N2 := Fr.app N0 N2q
  have sz4 : h0.size ≤ T2.heap.size := K2.1
  have lb2 : OwnLe ((T ++ [(91:Int32)])) 171 := own_leS hT
  obtain ⟨Ew5, fbytes_5, fsize_5, fobjects_5, fbegun_5, fdepth_5, fnamed_5, fstarted_5, Vb5, Vo5, Vg5, la_5, lb_5, lc_5⟩ := id FJ2
  have la_5 := own_lt la_5
  have lb_5 := own_lt lb_5
  have lc_5 := own_lt lc_5
  have lw5 := own_lt Ew5.lt
  have lg5 := own_lt Vg5.lt
  have ld_5 := Nat.lt_trans la_5 lb_5
  have lf_5 := Nat.lt_trans lb_5 lc_5
  have le_5 := Nat.lt_trans ld_5 lc_5
  obtain ⟨fs, hr, hrun, hended, hW, hsame⟩ := X2.leave (v := none) (fun _ => rfl)
  refine OwnFin.adv (B := T2.setTop (mkF m 5 #[VR ob] [])) (fun _ k => XS.aloadN X0.here hx rfl (hD d29_0) rfl rfl (XS.iconst X0.here hx rfl (hD d29_1) (st2.trans k))) ?_
  refine OwnFin.leaf hP' ⟨_, _, X2.returnOut hx Bd.returns (hD d29_5) hr, hrun, hended, _, _, rfl, ?_, ⟨_, rfl⟩, hW, hsame.mono (by decide) (by decide)⟩
  rw [show (T2.setFrames fs).heap = T2.heap from rfl]
  exact ⟨rfl, N2, ((Keep.refl h0 [ob, ba, oa, ga]).trans K2 (allS (Or.inl (List.mem_of_getElem? (i := 0) rfl)) (allS (Or.inl (List.mem_of_getElem? (i := 1) rfl)) (allS (Or.inl (List.mem_of_getElem? (i := 2) rfl)) (allS (Or.inl (List.mem_of_getElem? (i := 3) rfl)) all0))))), ⟨Ew5, fbytes_5, fsize_5, fobjects_5, fbegun_5, fdepth_5, fnamed_5, fstarted_5, Vb5, Vo5, Vg5, own_lt la_5, own_lt lb_5, own_lt lc_5⟩⟩
theorem d35_0 : decode B35 0 = .ok (.aload_n 0, 1) := by decide +kernel
theorem d35_1 : decode B35 1 = .ok (.getfield 27, 3) := by decide +kernel
theorem d35_4 : decode B35 4 = .ok (.ifCond .eq 25, 3) := by decide +kernel
theorem d35_7 : decode B35 7 = .ok (.aload_n 0, 1) := by decide +kernel
theorem d35_8 : decode B35 8 = .ok (.getfield 13, 3) := by decide +kernel
theorem d35_11 : decode B35 11 = .ok (.aload_n 0, 1) := by decide +kernel
theorem d35_12 : decode B35 12 = .ok (.getfield 27, 3) := by decide +kernel
theorem d35_15 : decode B35 15 = .ok (.iconst 1, 1) := by decide +kernel
theorem d35_16 : decode B35 16 = .ok (.isub, 1) := by decide +kernel
theorem d35_17 : decode B35 17 = .ok (.baload, 1) := by decide +kernel
theorem d35_18 : decode B35 18 = .ok (.iload_n 1, 1) := by decide +kernel
theorem d35_19 : decode B35 19 = .ok (.if_icmp .ne 10, 3) := by decide +kernel
theorem d35_22 : decode B35 22 = .ok (.aload_n 0, 1) := by decide +kernel
theorem d35_23 : decode B35 23 = .ok (.getfield 31, 3) := by decide +kernel
theorem d35_26 : decode B35 26 = .ok (.ifCond .eq 27, 3) := by decide +kernel
theorem d35_53 : decode B35 53 = .ok (.aload_n 0, 1) := by decide +kernel
theorem d35_54 : decode B35 54 = .ok (.dup, 1) := by decide +kernel
theorem d35_55 : decode B35 55 = .ok (.getfield 27, 3) := by decide +kernel
theorem d35_58 : decode B35 58 = .ok (.iconst 1, 1) := by decide +kernel
theorem d35_59 : decode B35 59 = .ok (.isub, 1) := by decide +kernel
theorem d35_60 : decode B35 60 = .ok (.putfield 27, 3) := by decide +kernel
theorem d35_63 : decode B35 63 = .ok (.aload_n 0, 1) := by decide +kernel
theorem d35_64 : decode B35 64 = .ok (.iload_n 1, 1) := by decide +kernel
theorem d35_65 : decode B35 65 = .ok (.ifCond .eq 8, 3) := by decide +kernel
theorem d35_73 : decode B35 73 = .ok (.bipush 93, 2) := by decide +kernel
theorem d35_75 : decode B35 75 = .ok (.invokevirtual 44, 3) := by decide +kernel
theorem d35_78 : decode B35 78 = .ok (.return_, 1) := by decide +kernel
theorem own_ef_close (m : MethodId) (x0 : Addr) (x1 : Int32) : entryFrame m #[(.ref x0), (.int x1)] 2 = mkF m 0 #[.val (.ref x0), .val (.int x1)] [] := by first | (simp [entryFrame, mkF, argsToLocals, Value.category]; done) | rfl
def own_Q_close (Z : State) (ob ba oa ga : Addr) (kb ko kg : ClassId) (T : List Int32) (bg : Int32) (sd : Int32) (h0 : Heap) (n0 : Nat) (v : Option Value) (h : Heap) (L : List Loc) : Prop := v = none ∧ Fr n0 L ∧ Keep h0 h [ob, ba, oa, ga] ∧ OwnJ Z h ob ba oa ga kb ko kg ((T ++ [(93 : Int32)])) (0 : Int32) bg sd
set_option maxRecDepth 65536 in
set_option maxHeartbeats 40000000 in
theorem own_close (l : Launch) (Z : State) (a0 : Array Value) (hw : ∀ d ∈ tables_1, d.before a0 Z = true) (ws : List Jvm.Cond) (ob ba oa ga : Addr) (kb ko kg : ClassId) (T : List Int32) (bg : Int32) (sd : Int32) (h0 : Heap) (n0 : Nat) (Z0 : n0 ≤ h0.size) (O0 : Old Z n0 h0) (hT : OwnLe T 180) (J : OwnJ Z h0 ob ba oa ga kb ko kg (T) (1 : Int32) bg sd) (g_ob : n0 ≤ ob) :
    MetFree l own_M35 (head1 (Jvm.Cond.code own_M35 prog_32_method_19_code 2 none :: ws) ({ frames := 2, cells := 0, slots := 0, locals := 26 } : Room)) (fun A0 U0 => A0 = #[(.ref ob), (.int (0 : Int32))] ∧ Z.Warmed39 U0.vm ∧ U0.heap = h0) (fun _ _ _ _ _ => True) (fun _ U0 o0 U1 => ∃ v0 L0, o0 = .returned v0 ∧ own_Q_close Z ob ba oa ga kb ko kg T bg sd h0 n0 v0 U1.heap L0 ∧ FrameEnd U0 o0 U1 L0 0 0) := by
  refine MetFree.of_bodySF (plainFor_of_name own_pn_tramline_routes_JsonWriter) hisR ?_
  intro p e s m args below meth c s₁ Bd hml0 hP hK
  obtain ⟨rfl, hZ, hh⟩ := hP
  have hZs0 := hZ
  have hZs := hZ
  have hx := Bd.exec
  have hby := Bd.bytes
  have hD : ∀ {pc : Nat} {r : Except DecodeError (Instr × Nat)}, decode prog_32_method_19_code pc = r → decode c.code pc = r := fun q => hb hby q
  have hml : c.maxLocals = 2 := hml0
  have hown : s.vm.findClass "tramline/routes/JsonWriter" = some m.cls := findClass_of_methodNamed Bd.named
  have hnm := (name_of_methodNamed Bd.named Bd.method).1
  have X0 : Stand p l e ({ frames := 2, cells := 0, slots := 0, locals := 26 } : Room) s m #[(.ref ob), (.int (0 : Int32))] below meth c s₁ [] 0 0 := Stand.of_body Bd
  have e0 : s₁.heap = h0 := by rw [← hh, Bd.state]; rfl
  have N0 := Fr.nil n0
  refine OwnFin.entry (own_ef_close m ob (0 : Int32)) (fun P' hP' => ?_)
  obtain ⟨Ew1, fbytes_1, fsize_1, fobjects_1, fbegun_1, fdepth_1, fnamed_1, fstarted_1, Vb1, Vo1, Vg1, la_1, lb_1, lc_1⟩ := id J
  have la_1 := own_lt la_1
  have lb_1 := own_lt lb_1
  have lc_1 := own_lt lc_1
  have lw1 := own_lt Ew1.lt
  have lg1 := own_lt Vg1.lt
  have ld_1 := Nat.lt_trans la_1 lb_1
  have lf_1 := Nat.lt_trans lb_1 lc_1
  have le_1 := Nat.lt_trans ld_1 lc_1
  obtain ⟨T2, X2, e2, st2⟩ := getF X0 hx hZ hown (host := "") (Or.inl (own_w hw 83 rfl)) Via.refl e0 fdepth_1 (g := (mkF m 1 #[VR ob, VI (0:Int32)] [(.ref ob)])) rfl rfl (hD d35_1)
  have hc4_3 : ¬ ((1:Int32) = (0:Int32)) := by decide
  obtain ⟨T3, X3, e3, st3⟩ := getF X2 hx hZ hown (host := "") (Or.inl (own_w hw 51 rfl)) Via.refl e2 fobjects_1 (g := (mkF m 8 #[VR ob, VI (0:Int32)] [(.ref ob)])) rfl rfl (hD d35_8)
  obtain ⟨T4, X4, e4, st4⟩ := getF X3 hx hZ hown (host := "") (Or.inl (own_w hw 83 rfl)) Via.refl e3 fdepth_1 (g := (mkF m 12 #[VR ob, VI (0:Int32)] [(.ref ob), (.ref oa)])) rfl rfl (hD d35_12)
  refine OwnFin.adv (B := T4.setTop (mkF m 17 #[VR ob, VI (0:Int32)] [(.int ((1:Int32) - (1:Int32))), (.ref oa)])) (fun _ k => XS.aloadN X0.here hx rfl (hD d35_0) rfl rfl (st2 _ (XS.ifNo X2.here hx rfl (hD d35_4) rfl ((if0 _ _).trans (feq hc4_3).1) (XS.aloadN X2.here hx rfl (hD d35_7) rfl rfl (st3 _ (XS.aloadN X3.here hx rfl (hD d35_11) rfl rfl (st4 _ (XS.iconst X4.here hx rfl (hD d35_15) (XS.isub X4.here hx rfl (hD d35_16) rfl k))))))))) ?_
  rw [show (((1:Int32) - (1:Int32)) : Int32) = (0:Int32) from by decide]
  obtain ⟨cl5, Ar5, ck5, S5, M5, H5, G5⟩ := id Vo1
  have hin5 : ¬ ((0:Int32) < 0 ∨ cl5.slots.size ≤ ((0:Int32)).toNatClampNeg) := inb_of S5 ⟨by decide, by decide⟩
  have hc19_12 : (0:Int32) = (0:Int32) := rfl
  obtain ⟨T6, X6, e6, st6⟩ := getF X4 hx hZ hown (host := "") (Or.inl (own_w hw 177 rfl)) Via.refl e4 fnamed_1 (g := (mkF m 23 #[VR ob, VI (0:Int32)] [(.ref ob)])) rfl rfl (hD d35_23)
  have hc26_15 : (0:Int32) = (0:Int32) := rfl
  obtain ⟨T7, X7, e7, st7⟩ := getF X6 hx hZ hown (host := "") (Or.inl (own_w hw 83 rfl)) Via.refl e6 fdepth_1 (g := (mkF m 55 #[VR ob, VI (0:Int32)] [(.ref ob), (.ref ob)])) rfl rfl (hD d35_55)
  refine OwnFin.adv (B := T7.setTop (mkF m 60 #[VR ob, VI (0:Int32)] [(.int ((1:Int32) - (1:Int32))), (.ref ob)])) (fun _ k => X4.baloadBooleans hx (j := (0:Int32)) (v := (.int 0)) (by rw [e4]; exact Ar5.1) (State.isArrayOf_alike hZ.alike Ar5.2.1) Ar5.2.2 hin5 (Has.at H5 hin5 rfl) (g := (mkF m 17 #[VR ob, VI (0:Int32)] [(.int 0), (.ref oa)])) rfl rfl (hD d35_17) _ (XS.iloadN X4.here hx rfl (hD d35_18) rfl (XS.icmpNo X4.here hx rfl (hD d35_19) rfl (teq hc19_12).2 (XS.aloadN X4.here hx rfl (hD d35_22) rfl rfl (st6 _ (XS.ifYes X6.here hx rfl (pc0 := 26) (pc' := 53) rfl (hD d35_26) rfl ((if0 _ _).trans (teq hc26_15).1) (by decide) (by decide) (XS.aloadN X6.here hx rfl (hD d35_53) rfl rfl (XS.dup X6.here hx rfl (hD d35_54) rfl rfl (st7 _ (XS.iconst X7.here hx rfl (hD d35_58) (XS.isub X7.here hx rfl (hD d35_59) rfl k))))))))))) ?_
  rw [show (((1:Int32) - (1:Int32)) : Int32) = (0:Int32) from by decide]
  obtain ⟨T8, h8, X8, e8, W8, st8⟩ := putF X7 hx hZ hown (host := "") (Or.inl (own_w hw 83 rfl)) Via.refl e7 fdepth_1 Ew1 (Or.inl (own_w hw 84 rfl)) (own_w hw 42 rfl) (ty := .int) (by decide) rfl rfl (g := (mkF m 60 #[VR ob, VI (0:Int32)] [(.int 0), (.ref ob)])) rfl rfl (hD d35_60)
  have Fw8 : Fld Z h8 ob "tramline/routes/JsonWriter" "depth" "I" (.int 0) := fdepth_1.same W8
  have sz9 : h0.size ≤ h8.size := Nat.le_of_eq W8.size.symm
  have N8 := Fr.snoc X8 N0 (by omega : n0 ≤ ob)
  have hc65_24 : (0:Int32) = (0:Int32) := rfl
  have Fv12_1 := (Ew1.wr W8)
  have Fv13_1 := (fbytes_1.other W8 (Or.inr (own_sn12 hw)))
  have Fv14_1 := (fsize_1.other W8 (Or.inr (own_sn13 hw)))
  have Fv15_1 := (fobjects_1.other W8 (Or.inr (own_sn14 hw)))
  have Fv16_1 := (fbegun_1.other W8 (Or.inr (own_sn15 hw)))
  have Fv17_1 := (fnamed_1.other W8 (Or.inr (own_sn16 hw)))
  have Fv18_1 := (fstarted_1.other W8 (Or.inr (own_sn17 hw)))
  have Fv19_1 := (Vb1.other W8 (Nat.ne_of_gt la_1))
  have Fv20_1 := (Vo1.other W8 (Nat.ne_of_gt ld_1))
  have Fv21_1 := (Vg1.other W8 (Nat.ne_of_gt le_1))
  have J11c : OwnJ Z h8 ob ba oa ga kb ko kg (T) (0:Int32) bg sd := ⟨Fv12_1, Fv13_1, Fv14_1, Fv15_1, Fv16_1, Fw8, Fv17_1, Fv18_1, Fv19_1, Fv20_1, Fv21_1, own_lt la_1, own_lt lb_1, own_lt lc_1⟩
  have Old22 : Old Z n0 h8 := (O0.wr W8 (by omega))
  obtain ⟨cq10, qp10, qp10'⟩ := Fv12_1.cell
  obtain ⟨_, _, ⟨T10, L10, k10, n10⟩, -, X10, ⟨Lc10, hQ10, l10, y10, z10⟩, st10⟩ := X8.privateBack hx (y := own_M31) hown (mvT hZ (own_w hw 152 rfl)) (mvT hZ (own_w hw 153 rfl)) (mvT hZ (own_selp_31 hw)) (Cond.privateMethod_at (mvP hZ (own_w hw 154 rfl) (args := #[]))) (mvT hZ (own_w hw 155 rfl)) (by decide) (backOf (W := 0) (own_put1 l Z a0 hw [] ob ba oa ga kb ko kg (T) (0:Int32) bg sd (93:Int32) (93:Int32) h8 n0 (by omega) Old22 (by decide) (own_leM hT (by decide)) J11c (by omega)) hZ (own_w hw 155 rfl) (own_w hw 43 rfl) (by decide) (by decide)) (g := (mkF m 75 #[VR ob, VI (0:Int32)] [(.int 93), (.ref ob)])) rfl (by rw [hml]; rfl) (Steps.refl _) (a := ob) (by rw [e8]; exact qp10) qp10' (argsL := [(.int 93)]) (rest := []) (lenOf own_pd8 rfl) rfl (by show 2 * 0 + _ ≤ _; exact Nat.le_of_eq rfl) (hD d35_75) (fun _ _ => ⟨rfl, e8, (by decide : 0 + 0 ≤ _), (by decide : 0 + 0 ≤ _)⟩)
  dsimp only [Pt.U, Pt.locs, Pt.cells, Pt.slots] at X10 l10 y10 z10 st10 hQ10
  subst l10 y10 z10
  obtain ⟨rfl, N10q, K10, FJ10⟩ := hQ10
  have N10 := Fr.app N8 N10q
  have sz23 : h8.size ≤ T10.heap.size := K10.1
  have lb10 : OwnLe ((T ++ [(93:Int32)])) 181 := own_leS hT
  obtain ⟨Ew24, fbytes_24, fsize_24, fobjects_24, fbegun_24, fdepth_24, fnamed_24, fstarted_24, Vb24, Vo24, Vg24, la_24, lb_24, lc_24⟩ := id FJ10
  have la_24 := own_lt la_24
  have lb_24 := own_lt lb_24
  have lc_24 := own_lt lc_24
  have lw24 := own_lt Ew24.lt
  have lg24 := own_lt Vg24.lt
  have ld_24 := Nat.lt_trans la_24 lb_24
  have lf_24 := Nat.lt_trans lb_24 lc_24
  have le_24 := Nat.lt_trans ld_24 lc_24
  obtain ⟨fs, hr, hrun, hended, hW, hsame⟩ := X10.leave (v := none) (fun _ => rfl)
  refine OwnFin.adv (B := T10.setTop (mkF m 78 #[VR ob, VI (0:Int32)] [])) (fun _ k => st8 _ (XS.aloadN X8.here hx rfl (hD d35_63) rfl rfl (XS.iloadN X8.here hx rfl (hD d35_64) rfl (XS.ifYes X8.here hx rfl (pc0 := 65) (pc' := 73) rfl (hD d35_65) rfl ((if0 _ _).trans (teq hc65_24).1) (by decide) (by decide) (XS.bipush X8.here hx rfl (hD d35_73) (st10.trans k)))))) ?_
  refine OwnFin.leaf hP' ⟨_, _, X10.returnOut hx Bd.returns (hD d35_78) hr, hrun, hended, _, _, rfl, ?_, ⟨_, rfl⟩, hW, hsame.mono (by decide) (by decide)⟩
  rw [show (T10.setFrames fs).heap = T10.heap from rfl]
  exact ⟨rfl, N10, (((Keep.refl h0 [ob, ba, oa, ga]).wr W8 (Or.inl (List.mem_of_getElem? (i := 0) rfl))).trans K10 (allS (Or.inl (List.mem_of_getElem? (i := 0) rfl)) (allS (Or.inl (List.mem_of_getElem? (i := 1) rfl)) (allS (Or.inl (List.mem_of_getElem? (i := 2) rfl)) (allS (Or.inl (List.mem_of_getElem? (i := 3) rfl)) all0))))), ⟨Ew24, fbytes_24, fsize_24, fobjects_24, fbegun_24, fdepth_24, fnamed_24, fstarted_24, Vb24, Vo24, Vg24, own_lt la_24, own_lt lb_24, own_lt lc_24⟩⟩
theorem d34_0 : decode B34 0 = .ok (.aload_n 0, 1) := by decide +kernel
theorem d34_1 : decode B34 1 = .ok (.iconst 0, 1) := by decide +kernel
theorem d34_2 : decode B34 2 = .ok (.invokevirtual 24, 3) := by decide +kernel
theorem own_selp_35 {Z : State} {a0 : Array Value} (hw : ∀ d ∈ tables_1, d.before a0 Z = true) : (Cond.selects "tramline/routes/JsonWriter" own_M35 own_M35).before a0 Z = true := own_selp (y := own_M35) (z := own_M11) (own_w hw 174 rfl) (own_w hw 175 rfl) (own_w hw 56 rfl) (notFace_of_selects (args := a0) (own_w hw 58 rfl)) rfl (by decide)
theorem d34_5 : decode B34 5 = .ok (.return_, 1) := by decide +kernel
theorem own_ef_wea (m : MethodId) (x0 : Addr) : entryFrame m #[(.ref x0)] 1 = mkF m 0 #[.val (.ref x0)] [] := by first | (simp [entryFrame, mkF, argsToLocals, Value.category]; done) | rfl
def own_Q_wea (Z : State) (ob ba oa ga : Addr) (kb ko kg : ClassId) (T : List Int32) (bg : Int32) (sd : Int32) (h0 : Heap) (n0 : Nat) (v : Option Value) (h : Heap) (L : List Loc) : Prop := v = none ∧ Fr n0 L ∧ Keep h0 h [ob, ba, oa, ga] ∧ OwnJ Z h ob ba oa ga kb ko kg ((T ++ [(93 : Int32)])) (0 : Int32) bg sd
set_option maxRecDepth 65536 in
set_option maxHeartbeats 40000000 in
theorem own_wea (l : Launch) (Z : State) (a0 : Array Value) (hw : ∀ d ∈ tables_1, d.before a0 Z = true) (ws : List Jvm.Cond) (ob ba oa ga : Addr) (kb ko kg : ClassId) (T : List Int32) (bg : Int32) (sd : Int32) (h0 : Heap) (n0 : Nat) (Z0 : n0 ≤ h0.size) (O0 : Old Z n0 h0) (hT : OwnLe T 170) (J : OwnJ Z h0 ob ba oa ga kb ko kg (T) (1 : Int32) bg sd) (g_ob : n0 ≤ ob) :
    MetFree l own_M34 (head1 (Jvm.Cond.code own_M34 prog_32_method_5_code 1 none :: ws) ({ frames := 3, cells := 0, slots := 0, locals := 39 } : Room)) (fun A0 U0 => A0 = #[(.ref ob)] ∧ Z.Warmed39 U0.vm ∧ U0.heap = h0) (fun _ _ _ _ _ => True) (fun _ U0 o0 U1 => ∃ v0 L0, o0 = .returned v0 ∧ own_Q_wea Z ob ba oa ga kb ko kg T bg sd h0 n0 v0 U1.heap L0 ∧ FrameEnd U0 o0 U1 L0 0 0) := by
  refine MetFree.of_bodySF (plainFor_of_name own_pn_tramline_routes_JsonWriter) hisR ?_
  intro p e s m args below meth c s₁ Bd hml0 hP hK
  obtain ⟨rfl, hZ, hh⟩ := hP
  have hZs0 := hZ
  have hZs := hZ
  have hx := Bd.exec
  have hby := Bd.bytes
  have hD : ∀ {pc : Nat} {r : Except DecodeError (Instr × Nat)}, decode prog_32_method_5_code pc = r → decode c.code pc = r := fun q => hb hby q
  have hml : c.maxLocals = 1 := hml0
  have hown : s.vm.findClass "tramline/routes/JsonWriter" = some m.cls := findClass_of_methodNamed Bd.named
  have hnm := (name_of_methodNamed Bd.named Bd.method).1
  have X0 : Stand p l e ({ frames := 3, cells := 0, slots := 0, locals := 39 } : Room) s m #[(.ref ob)] below meth c s₁ [] 0 0 := Stand.of_body Bd
  have e0 : s₁.heap = h0 := by rw [← hh, Bd.state]; rfl
  have N0 := Fr.nil n0
  refine OwnFin.entry (own_ef_wea m ob) (fun P' hP' => ?_)
  obtain ⟨Ew1, fbytes_1, fsize_1, fobjects_1, fbegun_1, fdepth_1, fnamed_1, fstarted_1, Vb1, Vo1, Vg1, la_1, lb_1, lc_1⟩ := id J
  have la_1 := own_lt la_1
  have lb_1 := own_lt lb_1
  have lc_1 := own_lt lc_1
  have lw1 := own_lt Ew1.lt
  have lg1 := own_lt Vg1.lt
  have ld_1 := Nat.lt_trans la_1 lb_1
  have lf_1 := Nat.lt_trans lb_1 lc_1
  have le_1 := Nat.lt_trans ld_1 lc_1
  have J3c : OwnJ Z h0 ob ba oa ga kb ko kg (T) (1:Int32) bg sd := ⟨Ew1, fbytes_1, fsize_1, fobjects_1, fbegun_1, fdepth_1, fnamed_1, fstarted_1, Vb1, Vo1, Vg1, own_lt la_1, own_lt lb_1, own_lt lc_1⟩
  obtain ⟨cq2, qp2, qp2'⟩ := Ew1.cell
  obtain ⟨_, _, ⟨T2, L2, k2, n2⟩, -, X2, ⟨Lc2, hQ2, l2, y2, z2⟩, st2⟩ := X0.privateBack hx (y := own_M35) hown (mvT hZ (own_w hw 173 rfl)) (mvT hZ (own_w hw 174 rfl)) (mvT hZ (own_selp_35 hw)) (Cond.privateMethod_at (mvP hZ (own_w hw 175 rfl) (args := #[]))) (mvT hZ (own_w hw 176 rfl)) (by decide) (backOf (W := 0) (own_close l Z a0 hw [] ob ba oa ga kb ko kg (T) bg sd  h0 n0 (by omega) O0  (own_leM hT (by decide)) J3c (by omega)) hZ (own_w hw 176 rfl) (own_w hw 43 rfl) (by decide) (by decide)) (g := (mkF m 2 #[VR ob] [(.int 0), (.ref ob)])) rfl (by rw [hml]; rfl) (Steps.refl _) (a := ob) (by rw [e0]; exact qp2) qp2' (argsL := [(.int 0)]) (rest := []) (lenOf own_pd10 rfl) rfl (by show 2 * 0 + _ ≤ _; exact Nat.le_of_eq rfl) (hD d34_2) (fun _ _ => ⟨rfl, e0, (by decide : 0 + 0 ≤ _), (by decide : 0 + 0 ≤ _)⟩)
  dsimp only [Pt.U, Pt.locs, Pt.cells, Pt.slots] at X2 l2 y2 z2 st2 hQ2
  subst l2 y2 z2
  obtain ⟨rfl, N2q, K2, FJ2⟩ := hQ2
  have N2 := Fr.app N0 N2q
  have sz4 : h0.size ≤ T2.heap.size := K2.1
  have lb2 : OwnLe ((T ++ [(93:Int32)])) 171 := own_leS hT
  obtain ⟨Ew5, fbytes_5, fsize_5, fobjects_5, fbegun_5, fdepth_5, fnamed_5, fstarted_5, Vb5, Vo5, Vg5, la_5, lb_5, lc_5⟩ := id FJ2
  have la_5 := own_lt la_5
  have lb_5 := own_lt lb_5
  have lc_5 := own_lt lc_5
  have lw5 := own_lt Ew5.lt
  have lg5 := own_lt Vg5.lt
  have ld_5 := Nat.lt_trans la_5 lb_5
  have lf_5 := Nat.lt_trans lb_5 lc_5
  have le_5 := Nat.lt_trans ld_5 lc_5
  obtain ⟨fs, hr, hrun, hended, hW, hsame⟩ := X2.leave (v := none) (fun _ => rfl)
  refine OwnFin.adv (B := T2.setTop (mkF m 5 #[VR ob] [])) (fun _ k => XS.aloadN X0.here hx rfl (hD d34_0) rfl rfl (XS.iconst X0.here hx rfl (hD d34_1) (st2.trans k))) ?_
  refine OwnFin.leaf hP' ⟨_, _, X2.returnOut hx Bd.returns (hD d34_5) hr, hrun, hended, _, _, rfl, ?_, ⟨_, rfl⟩, hW, hsame.mono (by decide) (by decide)⟩
  rw [show (T2.setFrames fs).heap = T2.heap from rfl]
  exact ⟨rfl, N2, ((Keep.refl h0 [ob, ba, oa, ga]).trans K2 (allS (Or.inl (List.mem_of_getElem? (i := 0) rfl)) (allS (Or.inl (List.mem_of_getElem? (i := 1) rfl)) (allS (Or.inl (List.mem_of_getElem? (i := 2) rfl)) (allS (Or.inl (List.mem_of_getElem? (i := 3) rfl)) all0))))), ⟨Ew5, fbytes_5, fsize_5, fobjects_5, fbegun_5, fdepth_5, fnamed_5, fstarted_5, Vb5, Vo5, Vg5, own_lt la_5, own_lt lb_5, own_lt lc_5⟩⟩
theorem own_padr (vs : List Value) (d : Value) : ∀ (m i : Nat), (vs ++ List.replicate m d).getD i d = vs.getD i d := fun m i => by
  simp only [List.getD_eq_getElem?_getD]
  by_cases h : i < vs.length
  · rw [List.getElem?_append_left h]
  · rw [List.getElem?_append_right (by omega), List.getElem?_eq_none (by omega : vs.length ≤ i), List.getElem?_replicate]
    split <;> rfl
theorem own_cat (T W : List Int32) : (T.map Value.int ++ List.replicate W.length (Value.int (0 : Int32))).take T.length ++ W.map Value.int ++ (T.map Value.int ++ List.replicate W.length (Value.int (0 : Int32))).drop (T.length + W.length) = (T ++ W).map Value.int := by
  rw [List.take_left' (by simp), List.drop_eq_nil_of_le (by simp), List.append_nil, List.map_append]
theorem d33_0 : decode B33 0 = .ok (.aload_n 0, 1) := by decide +kernel
theorem d33_1 : decode B33 1 = .ok (.aload_n 1, 1) := by decide +kernel
theorem d33_2 : decode B33 2 = .ok (.arraylength, 1) := by decide +kernel
theorem d33_3 : decode B33 3 = .ok (.invokevirtual 131, 3) := by decide +kernel
theorem d33_6 : decode B33 6 = .ok (.aload_n 1, 1) := by decide +kernel
theorem d33_7 : decode B33 7 = .ok (.iconst 0, 1) := by decide +kernel
theorem d33_8 : decode B33 8 = .ok (.aload_n 0, 1) := by decide +kernel
theorem d33_9 : decode B33 9 = .ok (.getfield 7, 3) := by decide +kernel
theorem d33_12 : decode B33 12 = .ok (.aload_n 0, 1) := by decide +kernel
theorem d33_13 : decode B33 13 = .ok (.getfield 106, 3) := by decide +kernel
theorem d33_16 : decode B33 16 = .ok (.aload_n 1, 1) := by decide +kernel
theorem d33_17 : decode B33 17 = .ok (.arraylength, 1) := by decide +kernel
theorem d33_18 : decode B33 18 = .ok (.invokestatic 156, 3) := by decide +kernel
theorem d33_21 : decode B33 21 = .ok (.aload_n 0, 1) := by decide +kernel
theorem d33_22 : decode B33 22 = .ok (.dup, 1) := by decide +kernel
theorem d33_23 : decode B33 23 = .ok (.getfield 106, 3) := by decide +kernel
theorem d33_26 : decode B33 26 = .ok (.aload_n 1, 1) := by decide +kernel
theorem d33_27 : decode B33 27 = .ok (.arraylength, 1) := by decide +kernel
theorem d33_28 : decode B33 28 = .ok (.iadd, 1) := by decide +kernel
theorem d33_29 : decode B33 29 = .ok (.putfield 106, 3) := by decide +kernel
theorem d33_32 : decode B33 32 = .ok (.return_, 1) := by decide +kernel
theorem own_ef_putA (m : MethodId) (x0 : Addr) (x1 : Addr) : entryFrame m #[(.ref x0), (.ref x1)] 2 = mkF m 0 #[.val (.ref x0), .val (.ref x1)] [] := by first | (simp [entryFrame, mkF, argsToLocals, Value.category]; done) | rfl
def own_Q_putA (Z : State) (ob ba oa ga : Addr) (kb ko kg : ClassId) (T : List Int32) (dp : Int32) (bg : Int32) (sd : Int32) (mo : Addr) (km : ClassId) (W : List Int32) (h0 : Heap) (n0 : Nat) (v : Option Value) (h : Heap) (L : List Loc) : Prop := v = none ∧ Fr n0 L ∧ Keep h0 h [ob, ba, oa, ga] ∧ OwnJ Z h ob ba oa ga kb ko kg ((T ++ W)) dp bg sd
set_option maxRecDepth 65536 in
set_option maxHeartbeats 40000000 in
theorem own_putA (l : Launch) (Z : State) (a0 : Array Value) (hw : ∀ d ∈ tables_1, d.before a0 Z = true) (ws : List Jvm.Cond) (ob ba oa ga : Addr) (kb ko kg : ClassId) (T : List Int32) (dp : Int32) (bg : Int32) (sd : Int32) (mo : Addr) (km : ClassId) (W : List Int32) (h0 : Heap) (n0 : Nat) (Z0 : n0 ≤ h0.size) (O0 : Old Z n0 h0) (hW : W.length ≤ 5) (Vm : Arv Z Z.heap mo km .byte (Int32.ofNat W.length) (W.map Value.int) (.int (0 : Int32))) (hT : OwnLe T 200) (J : OwnJ Z h0 ob ba oa ga kb ko kg (T) dp bg sd) (g_ob : n0 ≤ ob) :
    MetFree l own_M33 (head1 (Jvm.Cond.code own_M33 prog_32_method_25_code 2 none :: ws) ({ frames := 1, cells := 0, slots := 0, locals := 18 } : Room)) (fun A0 U0 => A0 = #[(.ref ob), (.ref mo)] ∧ Z.Warmed39 U0.vm ∧ U0.heap = h0) (fun _ _ _ _ _ => True) (fun _ U0 o0 U1 => ∃ v0 L0, o0 = .returned v0 ∧ own_Q_putA Z ob ba oa ga kb ko kg T dp bg sd mo km W h0 n0 v0 U1.heap L0 ∧ FrameEnd U0 o0 U1 L0 0 0) := by
  refine MetFree.of_bodySF (plainFor_of_name own_pn_tramline_routes_JsonWriter) hisR ?_
  intro p e s m args below meth c s₁ Bd hml0 hP hK
  obtain ⟨rfl, hZ, hh⟩ := hP
  have hZs0 := hZ
  have hZs := hZ
  have hx := Bd.exec
  have hby := Bd.bytes
  have hD : ∀ {pc : Nat} {r : Except DecodeError (Instr × Nat)}, decode prog_32_method_25_code pc = r → decode c.code pc = r := fun q => hb hby q
  have hml : c.maxLocals = 2 := hml0
  have hown : s.vm.findClass "tramline/routes/JsonWriter" = some m.cls := findClass_of_methodNamed Bd.named
  have hnm := (name_of_methodNamed Bd.named Bd.method).1
  have X0 : Stand p l e ({ frames := 1, cells := 0, slots := 0, locals := 18 } : Room) s m #[(.ref ob), (.ref mo)] below meth c s₁ [] 0 0 := Stand.of_body Bd
  have e0 : s₁.heap = h0 := by rw [← hh, Bd.state]; rfl
  have N0 := Fr.nil n0
  refine OwnFin.entry (own_ef_putA m ob mo) (fun P' hP' => ?_)
  obtain ⟨Ew1, fbytes_1, fsize_1, fobjects_1, fbegun_1, fdepth_1, fnamed_1, fstarted_1, Vb1, Vo1, Vg1, la_1, lb_1, lc_1⟩ := id J
  have la_1 := own_lt la_1
  have lb_1 := own_lt lb_1
  have lc_1 := own_lt lc_1
  have lw1 := own_lt Ew1.lt
  have lg1 := own_lt Vg1.lt
  have ld_1 := Nat.lt_trans la_1 lb_1
  have lf_1 := Nat.lt_trans lb_1 lc_1
  have le_1 := Nat.lt_trans ld_1 lc_1
  have hT' : T.length ≤ 200 := hT
  have lm := own_lt (Vm.ext O0.2).lt
  obtain ⟨cl2, Ar2, ck2, S2, M2, H2, G2⟩ := id (Vm.ext O0.2)
  refine OwnFin.adv (B := s₁.setTop (mkF m 2 #[VR ob, VR mo] [(.ref mo), (.ref ob)])) (fun _ k => XS.aloadN X0.here hx rfl (hD d33_0) rfl rfl (XS.aloadN X0.here hx rfl (hD d33_1) rfl rfl k)) ?_
  refine OwnFin.adv (B := s₁.setTop (mkF m 3 #[VR ob, VR mo] [(.int (Int32.ofNat W.length)), (.ref ob)])) (fun _ k => X0.arraylength hx (by rw [e0]; exact Ar2.1) (State.isArrayOf_alike hZ.alike Ar2.2.1) (g := (mkF m 2 #[VR ob, VR mo] [(.ref mo), (.ref ob)])) rfl rfl (hD d33_2) _ (by rw [len_of S2 M2]; exact k)) ?_
  have J4c : OwnJ Z h0 ob ba oa ga kb ko kg (T) dp bg sd := ⟨Ew1, fbytes_1, fsize_1, fobjects_1, fbegun_1, fdepth_1, fnamed_1, fstarted_1, Vb1, Vo1, Vg1, own_lt la_1, own_lt lb_1, own_lt lc_1⟩
  obtain ⟨cq3, qp3, qp3'⟩ := Ew1.cell
  obtain ⟨_, _, ⟨T3, L3, k3, n3⟩, -, X3, ⟨Lc3, hQ3, l3, y3, z3⟩, st3⟩ := X0.privateBack hx (y := own_M19) hown (mvT hZ (own_w hw 101 rfl)) (mvT hZ (own_w hw 102 rfl)) (mvT hZ (own_selp_19 hw)) (Cond.privateMethod_at (mvP hZ (own_w hw 103 rfl) (args := #[]))) (mvT hZ (own_w hw 104 rfl)) (by decide) (backOf (W := 0) (own_room l Z a0 hw [] ob ba oa ga kb ko kg (T) dp bg sd (W.length) h0 n0 (by omega) J4c (own_leM hT (by decide)) (Nat.le_trans hW (by decide))) hZ (own_w hw 104 rfl) (own_w hw 43 rfl) (by decide) (by decide)) (g := (mkF m 3 #[VR ob, VR mo] [(.int (Int32.ofNat W.length)), (.ref ob)])) rfl (by rw [hml]; rfl) (Steps.refl _) (a := ob) (by rw [e0]; exact qp3) qp3' (argsL := [(.int (Int32.ofNat W.length))]) (rest := []) (lenOf own_pd7 rfl) rfl (by show 2 * 0 + _ ≤ _; exact Nat.le_of_eq rfl) (hD d33_3) (fun _ _ => ⟨rfl, e0, (by decide : 0 + 0 ≤ _), (by decide : 0 + 0 ≤ _)⟩)
  dsimp only [Pt.U, Pt.locs, Pt.cells, Pt.slots] at X3 l3 y3 z3 st3 hQ3
  subst l3 y3 z3
  obtain ⟨rfl, N3q, eh3⟩ := hQ3
  have N3 := Fr.app N0 N3q
  obtain ⟨T5, X5, e5, st5⟩ := getF X3 hx hZ hown (host := "") (Or.inl (own_w hw 48 rfl)) Via.refl eh3 fbytes_1 (g := (mkF m 9 #[VR ob, VR mo] [(.ref ob), (.int 0), (.ref mo)])) rfl rfl (hD d33_9)
  obtain ⟨T6, X6, e6, st6⟩ := getF X5 hx hZ hown (host := "") (Or.inl (own_w hw 60 rfl)) Via.refl e5 fsize_1 (g := (mkF m 13 #[VR ob, VR mo] [(.ref ob), (.ref ba), (.int 0), (.ref mo)])) rfl rfl (hD d33_13)
  obtain ⟨cl7, Ar7, ck7, S7, M7, H7, G7⟩ := id (Vm.ext O0.2)
  refine OwnFin.adv (B := T6.setTop (mkF m 17 #[VR ob, VR mo] [(.ref mo), (.int (Int32.ofNat (T).length)), (.ref ba), (.int 0), (.ref mo)])) (fun _ k => st3.trans (XS.aloadN X3.here hx rfl (hD d33_6) rfl rfl (XS.iconst X3.here hx rfl (hD d33_7) (XS.aloadN X3.here hx rfl (hD d33_8) rfl rfl (st5 _ (XS.aloadN X5.here hx rfl (hD d33_12) rfl rfl (st6 _ (XS.aloadN X6.here hx rfl (hD d33_16) rfl rfl k)))))))) ?_
  refine OwnFin.adv (B := T6.setTop (mkF m 18 #[VR ob, VR mo] [(.int (Int32.ofNat W.length)), (.int (Int32.ofNat (T).length)), (.ref ba), (.int 0), (.ref mo)])) (fun _ k => X6.arraylength hx (by rw [e6]; exact Ar7.1) (State.isArrayOf_alike hZ.alike Ar7.2.1) (g := (mkF m 17 #[VR ob, VR mo] [(.ref mo), (.int (Int32.ofNat (T).length)), (.ref ba), (.int 0), (.ref mo)])) rfl rfl (hD d33_17) _ (by rw [len_of S7 M7]; exact k)) ?_
  have Vp8 : Arv Z h0 ba kb .byte (256:Int32) ((T).map Value.int ++ List.replicate W.length (.int 0)) (.int 0) := Arv.pad Vb1 (own_padr _ _ _)
  obtain ⟨T9, h9, L9, X9, e9, N9, K9, V9, st9⟩ := cpA X6 hx hZ hown (own_w hw 167 rfl) (own_w hw 73 rfl) (own_w hw 71 rfl) (own_w hw 72 rfl) e6 (Vm.ext O0.2) Vp8 (Or.inl ⟨rfl, rfl⟩) (by decide) (own_nn (by omega)) (own_nn (by omega)) (by rw [own_cl (by omega)]; exact Nat.le_of_eq (Nat.zero_add _)) (by rw [own_cl (by omega), own_cl (by omega)]; show T.length + W.length ≤ 256; omega) (us := (W.map Value.int)) (by rw [own_cl (by omega)]; exact own_whole _ _ _ (by simp)) (by rw [own_cl (by omega), own_cl (by omega)]; simp) N3 (by omega) (g := (mkF m 18 #[VR ob, VR mo] [(.int (Int32.ofNat W.length)), (.int (Int32.ofNat (T).length)), (.ref ba), (.int 0), (.ref mo)])) rfl (by rw [hml]; rfl) rfl (hD d33_18) (by decide) (W := 0) (by show 2 * 0 + _ ≤ _; exact Nat.le_of_eq rfl) (by decide)
  have sz10 : h0.size ≤ h9.size := K9.1
  have V9n : Arv Z h9 ba kb .byte (256:Int32) ((T ++ W).map Value.int) (.int 0) := by
    have q := V9
    rw [show _ ++ _ ++ _ = ((T ++ W).map Value.int) from by rw [own_cl (by omega), own_cl (by omega)]; exact own_cat T W] at q
    exact q
  have Fv11_1 := (fsize_1.keep K9 (ninS (Nat.ne_of_lt la_1) nin0))
  obtain ⟨T12, X12, e12, st12⟩ := getF X9 hx hZ hown (host := "") (Or.inl (own_w hw 60 rfl)) Via.refl e9 Fv11_1 (g := (mkF m 23 #[VR ob, VR mo] [(.ref ob), (.ref ob)])) rfl rfl (hD d33_23)
  have Old14 : Old Z n0 h9 := (O0.keep K9 (allS (by omega) all0))
  obtain ⟨cl13, Ar13, ck13, S13, M13, H13, G13⟩ := id (Vm.ext Old14.2)
  refine OwnFin.adv (B := T12.setTop (mkF m 27 #[VR ob, VR mo] [(.ref mo), (.int (Int32.ofNat (T).length)), (.ref ob)])) (fun _ k => st9 _ (XS.aloadN X9.here hx rfl (hD d33_21) rfl rfl (XS.dup X9.here hx rfl (hD d33_22) rfl rfl (st12 _ (XS.aloadN X12.here hx rfl (hD d33_26) rfl rfl k))))) ?_
  refine OwnFin.adv (B := T12.setTop (mkF m 28 #[VR ob, VR mo] [(.int (Int32.ofNat W.length)), (.int (Int32.ofNat (T).length)), (.ref ob)])) (fun _ k => X12.arraylength hx (by rw [e12]; exact Ar13.1) (State.isArrayOf_alike hZ.alike Ar13.2.1) (g := (mkF m 27 #[VR ob, VR mo] [(.ref mo), (.int (Int32.ofNat (T).length)), (.ref ob)])) rfl rfl (hD d33_27) _ (by rw [len_of S13 M13]; exact k)) ?_
  refine OwnFin.adv (B := T12.setTop (mkF m 29 #[VR ob, VR mo] [(.int ((Int32.ofNat (T).length) + (Int32.ofNat W.length))), (.ref ob)])) (fun _ k => XS.iadd X12.here hx rfl (hD d33_28) rfl k) ?_
  rw [show (((Int32.ofNat (T).length) + (Int32.ofNat W.length)) : Int32) = (Int32.ofNat (T ++ W).length) from by rw [List.length_append]; exact own_add _ _]
  have Fv15_1 := (Ew1.keep K9)
  obtain ⟨T16, h16, X16, e16, W16, st16⟩ := putF X12 hx hZ hown (host := "") (Or.inl (own_w hw 60 rfl)) Via.refl e12 Fv11_1 Fv15_1 (Or.inl (own_w hw 61 rfl)) (own_w hw 42 rfl) (ty := .int) (by decide) rfl rfl (g := (mkF m 29 #[VR ob, VR mo] [(.int (Int32.ofNat (T ++ W).length)), (.ref ob)])) rfl rfl (hD d33_29)
  have Fw16 : Fld Z h16 ob "tramline/routes/JsonWriter" "size" "I" (.int (Int32.ofNat (T ++ W).length)) := Fv11_1.same W16
  have sz17 : h9.size ≤ h16.size := Nat.le_of_eq W16.size.symm
  have N16 := Fr.snoc X16 N9 (by omega : n0 ≤ ob)
  obtain ⟨fs, hr, hrun, hended, hW, hsame⟩ := X16.leave (v := none) (fun _ => rfl)
  refine OwnFin.adv (B := T16.setTop (mkF m 32 #[VR ob, VR mo] [])) (fun _ k => st16 _ k) ?_
  refine OwnFin.leaf hP' ⟨_, _, X16.returnOut hx Bd.returns (hD d33_32) hr, hrun, hended, _, _, rfl, ?_, ⟨_, rfl⟩, hW, hsame.mono (by decide) (by decide)⟩
  have Fv18_2 := (Fv15_1.wr W16)
  have Fv19_2 := ((fbytes_1.keep K9 (ninS (Nat.ne_of_lt la_1) nin0)).other W16 (Or.inr (own_sn0 hw)))
  have Fv20_2 := ((fobjects_1.keep K9 (ninS (Nat.ne_of_lt la_1) nin0)).other W16 (Or.inr (own_sn1 hw)))
  have Fv21_2 := ((fbegun_1.keep K9 (ninS (Nat.ne_of_lt la_1) nin0)).other W16 (Or.inr (own_sn2 hw)))
  have Fv22_2 := ((fdepth_1.keep K9 (ninS (Nat.ne_of_lt la_1) nin0)).other W16 (Or.inr (own_sn3 hw)))
  have Fv23_2 := ((fnamed_1.keep K9 (ninS (Nat.ne_of_lt la_1) nin0)).other W16 (Or.inr (own_sn4 hw)))
  have Fv24_2 := ((fstarted_1.keep K9 (ninS (Nat.ne_of_lt la_1) nin0)).other W16 (Or.inr (own_sn5 hw)))
  have Fv25_2 := (V9n.other W16 (Nat.ne_of_gt la_1))
  have Fv26_2 := ((Vo1.keep K9 (ninS (Nat.ne_of_gt lb_1) nin0)).other W16 (Nat.ne_of_gt ld_1))
  have Fv27_2 := ((Vg1.keep K9 (ninS (Nat.ne_of_gt lf_1) nin0)).other W16 (Nat.ne_of_gt le_1))
  rw [show (T16.setFrames fs).heap = h16 from e16]
  exact ⟨rfl, N16, (((Keep.refl h0 [ob, ba, oa, ga]).trans K9 (allS (Or.inl (List.mem_of_getElem? (i := 1) rfl)) all0)).wr W16 (Or.inl (List.mem_of_getElem? (i := 0) rfl))), ⟨Fv18_2, Fv19_2, Fw16, Fv20_2, Fv21_2, Fv22_2, Fv23_2, Fv24_2, Fv25_2, Fv26_2, Fv27_2, own_lt la_1, own_lt lb_1, own_lt lc_1⟩⟩
theorem d32_0 : decode B32 0 = .ok (.aload_n 0, 1) := by decide +kernel
theorem d32_1 : decode B32 1 = .ok (.invokevirtual 54, 3) := by decide +kernel
theorem d32_4 : decode B32 4 = .ok (.aload_n 0, 1) := by decide +kernel
theorem d32_5 : decode B32 5 = .ok (.iload_n 1, 1) := by decide +kernel
theorem d32_6 : decode B32 6 = .ok (.ifCond .eq 9, 3) := by decide +kernel
theorem d32_15 : decode B32 15 = .ok (.getstatic 81, 3) := by decide +kernel
theorem own_pd11 : parseMethodDescriptor "([B)V" = some ⟨[(.array .byte)], none⟩ := by decide +kernel
theorem d32_18 : decode B32 18 = .ok (.invokevirtual 75, 3) := by decide +kernel
theorem own_selp_33 {Z : State} {a0 : Array Value} (hw : ∀ d ∈ tables_1, d.before a0 Z = true) : (Cond.selects "tramline/routes/JsonWriter" own_M33 own_M33).before a0 Z = true := own_selp (y := own_M33) (z := own_M11) (own_w hw 164 rfl) (own_w hw 165 rfl) (own_w hw 56 rfl) (notFace_of_selects (args := a0) (own_w hw 58 rfl)) rfl (by decide)
theorem d32_21 : decode B32 21 = .ok (.return_, 1) := by decide +kernel
theorem d32_9 : decode B32 9 = .ok (.getstatic 78, 3) := by decide +kernel
theorem d32_12 : decode B32 12 = .ok (.goto 6, 3) := by decide +kernel
theorem own_ef_wb (m : MethodId) (x0 : Addr) (x1 : Int32) : entryFrame m #[(.ref x0), (.int x1)] 2 = mkF m 0 #[.val (.ref x0), .val (.int x1)] [] := by first | (simp [entryFrame, mkF, argsToLocals, Value.category]; done) | rfl
def own_Q_wb (Z : State) (ob ba oa ga : Addr) (kb ko kg : ClassId) (T : List Int32) (sd : Int32) (bv : Int32) (ta fa : Addr) (kt kf : ClassId) (h0 : Heap) (n0 : Nat) (v : Option Value) (h : Heap) (L : List Loc) : Prop := v = none ∧ Fr n0 L ∧ Keep h0 h [ob, ba, oa, ga] ∧ OwnJ Z h ob ba oa ga kb ko kg ((T ++ [(44 : Int32)]) ++ (if bv = 0 then [(102 : Int32), (97 : Int32), (108 : Int32), (115 : Int32), (101 : Int32)] else [(116 : Int32), (114 : Int32), (117 : Int32), (101 : Int32)])) (1 : Int32) (1 : Int32) sd
set_option maxRecDepth 65536 in
set_option maxHeartbeats 40000000 in
theorem own_wb (l : Launch) (Z : State) (a0 : Array Value) (hw : ∀ d ∈ tables_1, d.before a0 Z = true) (ws : List Jvm.Cond) (ob ba oa ga : Addr) (kb ko kg : ClassId) (T : List Int32) (sd : Int32) (bv : Int32) (ta fa : Addr) (kt kf : ClassId) (h0 : Heap) (n0 : Nat) (Z0 : n0 ≤ h0.size) (O0 : Old Z n0 h0) (St : Sta Z Z.heap "tramline/routes/JsonWriter" "TRUE" "[B" (.ref ta)) (Sf : Sta Z Z.heap "tramline/routes/JsonWriter" "FALSE" "[B" (.ref fa)) (Vt : Arv Z Z.heap ta kt .byte (Int32.ofNat [(116 : Int32), (114 : Int32), (117 : Int32), (101 : Int32)].length) ([(116 : Int32), (114 : Int32), (117 : Int32), (101 : Int32)].map Value.int) (.int (0 : Int32))) (Vf : Arv Z Z.heap fa kf .byte (Int32.ofNat [(102 : Int32), (97 : Int32), (108 : Int32), (115 : Int32), (101 : Int32)].length) ([(102 : Int32), (97 : Int32), (108 : Int32), (115 : Int32), (101 : Int32)].map Value.int) (.int (0 : Int32))) (hT : OwnLe T 150) (J : OwnJ Z h0 ob ba oa ga kb ko kg (T) (1 : Int32) (1 : Int32) sd) (g_ob : n0 ≤ ob) :
    MetFree l own_M32 (head1 (Jvm.Cond.code own_M32 prog_32_method_9_code 2 none :: ws) ({ frames := 3, cells := 0, slots := 0, locals := 38 } : Room)) (fun A0 U0 => A0 = #[(.ref ob), (.int bv)] ∧ Z.Warmed39 U0.vm ∧ U0.heap = h0) (fun _ _ _ _ _ => True) (fun _ U0 o0 U1 => ∃ v0 L0, o0 = .returned v0 ∧ own_Q_wb Z ob ba oa ga kb ko kg T sd bv ta fa kt kf h0 n0 v0 U1.heap L0 ∧ FrameEnd U0 o0 U1 L0 0 0) := by
  refine MetFree.of_bodySF (plainFor_of_name own_pn_tramline_routes_JsonWriter) hisR ?_
  intro p e s m args below meth c s₁ Bd hml0 hP hK
  obtain ⟨rfl, hZ, hh⟩ := hP
  have hZs0 := hZ
  have hZs := hZ
  have hx := Bd.exec
  have hby := Bd.bytes
  have hD : ∀ {pc : Nat} {r : Except DecodeError (Instr × Nat)}, decode prog_32_method_9_code pc = r → decode c.code pc = r := fun q => hb hby q
  have hml : c.maxLocals = 2 := hml0
  have hown : s.vm.findClass "tramline/routes/JsonWriter" = some m.cls := findClass_of_methodNamed Bd.named
  have hnm := (name_of_methodNamed Bd.named Bd.method).1
  have X0 : Stand p l e ({ frames := 3, cells := 0, slots := 0, locals := 38 } : Room) s m #[(.ref ob), (.int bv)] below meth c s₁ [] 0 0 := Stand.of_body Bd
  have e0 : s₁.heap = h0 := by rw [← hh, Bd.state]; rfl
  have N0 := Fr.nil n0
  refine OwnFin.entry (own_ef_wb m ob bv) (fun P' hP' => ?_)
  obtain ⟨Ew1, fbytes_1, fsize_1, fobjects_1, fbegun_1, fdepth_1, fnamed_1, fstarted_1, Vb1, Vo1, Vg1, la_1, lb_1, lc_1⟩ := id J
  have la_1 := own_lt la_1
  have lb_1 := own_lt lb_1
  have lc_1 := own_lt lc_1
  have lw1 := own_lt Ew1.lt
  have lg1 := own_lt Vg1.lt
  have ld_1 := Nat.lt_trans la_1 lb_1
  have lf_1 := Nat.lt_trans lb_1 lc_1
  have le_1 := Nat.lt_trans ld_1 lc_1
  have J3c : OwnJ Z h0 ob ba oa ga kb ko kg (T) (1:Int32) (1:Int32) sd := ⟨Ew1, fbytes_1, fsize_1, fobjects_1, fbegun_1, fdepth_1, fnamed_1, fstarted_1, Vb1, Vo1, Vg1, own_lt la_1, own_lt lb_1, own_lt lc_1⟩
  obtain ⟨cq2, qp2, qp2'⟩ := Ew1.cell
  obtain ⟨_, _, ⟨T2, L2, k2, n2⟩, -, X2, ⟨Lc2, hQ2, l2, y2, z2⟩, st2⟩ := X0.privateBack hx (y := own_M15) hown (mvT hZ (own_w hw 79 rfl)) (mvT hZ (own_w hw 80 rfl)) (mvT hZ (own_selp_15 hw)) (Cond.privateMethod_at (mvP hZ (own_w hw 81 rfl) (args := #[]))) (mvT hZ (own_w hw 82 rfl)) (by decide) (backOf (W := 0) (own_bv2 l Z a0 hw [] ob ba oa ga kb ko kg (T) sd  h0 n0 (by omega) O0  (own_leM hT (by decide)) J3c (by omega)) hZ (own_w hw 82 rfl) (own_w hw 43 rfl) (by decide) (by decide)) (g := (mkF m 1 #[VR ob, VI bv] [(.ref ob)])) rfl (by rw [hml]; rfl) (Steps.refl _) (a := ob) (by rw [e0]; exact qp2) qp2' (argsL := []) (rest := []) (lenOf own_pd9 rfl) rfl (by show 2 * 0 + _ ≤ _; exact Nat.le_of_eq rfl) (hD d32_1) (fun _ _ => ⟨rfl, e0, (by decide : 0 + 0 ≤ _), (by decide : 0 + 0 ≤ _)⟩)
  dsimp only [Pt.U, Pt.locs, Pt.cells, Pt.slots] at X2 l2 y2 z2 st2 hQ2
  subst l2 y2 z2
  obtain ⟨rfl, N2q, K2, FJ2⟩ := hQ2
  have N2 := Fr.app N0 N2q
  have sz4 : h0.size ≤ T2.heap.size := K2.1
  have lb2 : OwnLe ((T ++ [(44:Int32)])) 151 := own_leS hT
  obtain ⟨Ew5, fbytes_5, fsize_5, fobjects_5, fbegun_5, fdepth_5, fnamed_5, fstarted_5, Vb5, Vo5, Vg5, la_5, lb_5, lc_5⟩ := id FJ2
  have la_5 := own_lt la_5
  have lb_5 := own_lt lb_5
  have lc_5 := own_lt lc_5
  have lw5 := own_lt Ew5.lt
  have lg5 := own_lt Vg5.lt
  have ld_5 := Nat.lt_trans la_5 lb_5
  have lf_5 := Nat.lt_trans lb_5 lc_5
  have le_5 := Nat.lt_trans ld_5 lc_5
  refine OwnFin.adv (B := T2.setTop (mkF m 6 #[VR ob, VI bv] [(.int bv), (.ref ob)])) (fun _ k => XS.aloadN X0.here hx rfl (hD d32_0) rfl rfl (st2.trans (XS.aloadN X2.here hx rfl (hD d32_4) rfl rfl (XS.iloadN X2.here hx rfl (hD d32_5) rfl k)))) ?_
  by_cases hc6 : bv = (0:Int32)
  ·
   have Old7 : Old Z n0 T2.heap := (O0.keep K2 (allS (by omega) (allS (by omega) (allS (by omega) (allS (by omega) all0)))))
   obtain ⟨T6, X6, e6, st6⟩ := getS2 X2 hx hZ hown (host := "") (Or.inl (own_w hw 214 rfl)) Via.refl rfl (own_staK Sf Old7) (g := (mkF m 15 #[VR ob, VI bv] [(.ref ob)])) rfl (hD d32_15)
   have J9c : OwnJ Z T2.heap ob ba oa ga kb ko kg ((T ++ [(44:Int32)])) (1:Int32) (1:Int32) sd := ⟨Ew5, fbytes_5, fsize_5, fobjects_5, fbegun_5, fdepth_5, fnamed_5, fstarted_5, Vb5, Vo5, Vg5, own_lt la_5, own_lt lb_5, own_lt lc_5⟩
   obtain ⟨cq8, qp8, qp8'⟩ := Ew5.cell
   obtain ⟨_, _, ⟨T8, L8, k8, n8⟩, -, X8, ⟨Lc8, hQ8, l8, y8, z8⟩, st8⟩ := X6.privateBack hx (y := own_M33) hown (mvT hZ (own_w hw 163 rfl)) (mvT hZ (own_w hw 164 rfl)) (mvT hZ (own_selp_33 hw)) (Cond.privateMethod_at (mvP hZ (own_w hw 165 rfl) (args := #[]))) (mvT hZ (own_w hw 166 rfl)) (by decide) (backOf (W := 0) (own_putA l Z a0 hw [] ob ba oa ga kb ko kg ((T ++ [(44:Int32)])) (1:Int32) (1:Int32) sd fa kf [(102:Int32), (97:Int32), (108:Int32), (115:Int32), (101:Int32)] T2.heap n0 (by omega) Old7 (by decide) Vf (own_leM lb2 (by decide)) J9c (by omega)) hZ (own_w hw 166 rfl) (own_w hw 43 rfl) (by decide) (by decide)) (g := (mkF m 18 #[VR ob, VI bv] [(.ref fa), (.ref ob)])) rfl (by rw [hml]; rfl) (Steps.refl _) (a := ob) (by rw [e6]; exact qp8) qp8' (argsL := [(.ref fa)]) (rest := []) (lenOf own_pd11 rfl) rfl (by show 2 * 0 + _ ≤ _; exact Nat.le_of_eq rfl) (hD d32_18) (fun _ _ => ⟨rfl, e6, (by decide : 0 + 0 ≤ _), (by decide : 0 + 0 ≤ _)⟩)
   dsimp only [Pt.U, Pt.locs, Pt.cells, Pt.slots] at X8 l8 y8 z8 st8 hQ8
   subst l8 y8 z8
   obtain ⟨rfl, N8q, K8, FJ8⟩ := hQ8
   have N8 := Fr.app N2 N8q
   have sz10 : T2.heap.size ≤ T8.heap.size := K8.1
   obtain ⟨Ew11, fbytes_11, fsize_11, fobjects_11, fbegun_11, fdepth_11, fnamed_11, fstarted_11, Vb11, Vo11, Vg11, la_11, lb_11, lc_11⟩ := id FJ8
   have la_11 := own_lt la_11
   have lb_11 := own_lt lb_11
   have lc_11 := own_lt lc_11
   have lw11 := own_lt Ew11.lt
   have lg11 := own_lt Vg11.lt
   have ld_11 := Nat.lt_trans la_11 lb_11
   have lf_11 := Nat.lt_trans lb_11 lc_11
   have le_11 := Nat.lt_trans ld_11 lc_11
   obtain ⟨fs, hr, hrun, hended, hW, hsame⟩ := X8.leave (v := none) (fun _ => rfl)
   refine OwnFin.adv (B := T8.setTop (mkF m 21 #[VR ob, VI bv] [])) (fun _ k => XS.ifYes X2.here hx rfl (pc0 := 6) (pc' := 15) rfl (hD d32_6) rfl ((if0 _ _).trans (teq hc6).1) (by decide) (by decide) (st6 _ (st8.trans k))) ?_
   refine OwnFin.leaf hP' ⟨_, _, X8.returnOut hx Bd.returns (hD d32_21) hr, hrun, hended, _, _, rfl, ?_, ⟨_, rfl⟩, hW, hsame.mono (by decide) (by decide)⟩
   have hTT : ((T ++ [(44:Int32)]) ++ [(102:Int32), (97:Int32), (108:Int32), (115:Int32), (101:Int32)]) = (T ++ [(44:Int32)]) ++ (if bv = 0 then [(102:Int32), (97:Int32), (108:Int32), (115:Int32), (101:Int32)] else [(116:Int32), (114:Int32), (117:Int32), (101:Int32)]) := by simp [hc6]
   rw [show (T8.setFrames fs).heap = T8.heap from rfl]
   exact ⟨rfl, N8, (((Keep.refl h0 [ob, ba, oa, ga]).trans K2 (allS (Or.inl (List.mem_of_getElem? (i := 0) rfl)) (allS (Or.inl (List.mem_of_getElem? (i := 1) rfl)) (allS (Or.inl (List.mem_of_getElem? (i := 2) rfl)) (allS (Or.inl (List.mem_of_getElem? (i := 3) rfl)) all0))))).trans K8 (allS (Or.inl (List.mem_of_getElem? (i := 0) rfl)) (allS (Or.inl (List.mem_of_getElem? (i := 1) rfl)) (allS (Or.inl (List.mem_of_getElem? (i := 2) rfl)) (allS (Or.inl (List.mem_of_getElem? (i := 3) rfl)) all0))))), by rw [← hTT]; exact ⟨Ew11, fbytes_11, fsize_11, fobjects_11, fbegun_11, fdepth_11, fnamed_11, fstarted_11, Vb11, Vo11, Vg11, own_lt la_11, own_lt lb_11, own_lt lc_11⟩⟩
  ·
   have Old13 : Old Z n0 T2.heap := (O0.keep K2 (allS (by omega) (allS (by omega) (allS (by omega) (allS (by omega) all0)))))
   obtain ⟨T12, X12, e12, st12⟩ := getS2 X2 hx hZ hown (host := "") (Or.inl (own_w hw 161 rfl)) Via.refl rfl (own_staK St Old13) (g := (mkF m 9 #[VR ob, VI bv] [(.ref ob)])) rfl (hD d32_9)
   have J15c : OwnJ Z T2.heap ob ba oa ga kb ko kg ((T ++ [(44:Int32)])) (1:Int32) (1:Int32) sd := ⟨Ew5, fbytes_5, fsize_5, fobjects_5, fbegun_5, fdepth_5, fnamed_5, fstarted_5, Vb5, Vo5, Vg5, own_lt la_5, own_lt lb_5, own_lt lc_5⟩
   obtain ⟨cq14, qp14, qp14'⟩ := Ew5.cell
   obtain ⟨_, _, ⟨T14, L14, k14, n14⟩, -, X14, ⟨Lc14, hQ14, l14, y14, z14⟩, st14⟩ := X12.privateBack hx (y := own_M33) hown (mvT hZ (own_w hw 163 rfl)) (mvT hZ (own_w hw 164 rfl)) (mvT hZ (own_selp_33 hw)) (Cond.privateMethod_at (mvP hZ (own_w hw 165 rfl) (args := #[]))) (mvT hZ (own_w hw 166 rfl)) (by decide) (backOf (W := 0) (own_putA l Z a0 hw [] ob ba oa ga kb ko kg ((T ++ [(44:Int32)])) (1:Int32) (1:Int32) sd ta kt [(116:Int32), (114:Int32), (117:Int32), (101:Int32)] T2.heap n0 (by omega) Old13 (by decide) Vt (own_leM lb2 (by decide)) J15c (by omega)) hZ (own_w hw 166 rfl) (own_w hw 43 rfl) (by decide) (by decide)) (g := (mkF m 18 #[VR ob, VI bv] [(.ref ta), (.ref ob)])) rfl (by rw [hml]; rfl) (Steps.refl _) (a := ob) (by rw [e12]; exact qp14) qp14' (argsL := [(.ref ta)]) (rest := []) (lenOf own_pd11 rfl) rfl (by show 2 * 0 + _ ≤ _; exact Nat.le_of_eq rfl) (hD d32_18) (fun _ _ => ⟨rfl, e12, (by decide : 0 + 0 ≤ _), (by decide : 0 + 0 ≤ _)⟩)
   dsimp only [Pt.U, Pt.locs, Pt.cells, Pt.slots] at X14 l14 y14 z14 st14 hQ14
   subst l14 y14 z14
   obtain ⟨rfl, N14q, K14, FJ14⟩ := hQ14
   have N14 := Fr.app N2 N14q
   have sz16 : T2.heap.size ≤ T14.heap.size := K14.1
   obtain ⟨Ew17, fbytes_17, fsize_17, fobjects_17, fbegun_17, fdepth_17, fnamed_17, fstarted_17, Vb17, Vo17, Vg17, la_17, lb_17, lc_17⟩ := id FJ14
   have la_17 := own_lt la_17
   have lb_17 := own_lt lb_17
   have lc_17 := own_lt lc_17
   have lw17 := own_lt Ew17.lt
   have lg17 := own_lt Vg17.lt
   have ld_17 := Nat.lt_trans la_17 lb_17
   have lf_17 := Nat.lt_trans lb_17 lc_17
   have le_17 := Nat.lt_trans ld_17 lc_17
   obtain ⟨fs, hr, hrun, hended, hW, hsame⟩ := X14.leave (v := none) (fun _ => rfl)
   refine OwnFin.adv (B := T14.setTop (mkF m 21 #[VR ob, VI bv] [])) (fun _ k => XS.ifNo X2.here hx rfl (hD d32_6) rfl ((if0 _ _).trans (feq hc6).1) (st12 _ (XS.goto X12.here hx rfl (pc0 := 12) (pc' := 18) rfl (hD d32_12) (by decide) (by decide) (st14.trans k)))) ?_
   refine OwnFin.leaf hP' ⟨_, _, X14.returnOut hx Bd.returns (hD d32_21) hr, hrun, hended, _, _, rfl, ?_, ⟨_, rfl⟩, hW, hsame.mono (by decide) (by decide)⟩
   have hTT : ((T ++ [(44:Int32)]) ++ [(116:Int32), (114:Int32), (117:Int32), (101:Int32)]) = (T ++ [(44:Int32)]) ++ (if bv = 0 then [(102:Int32), (97:Int32), (108:Int32), (115:Int32), (101:Int32)] else [(116:Int32), (114:Int32), (117:Int32), (101:Int32)]) := by simp [hc6]
   rw [show (T14.setFrames fs).heap = T14.heap from rfl]
   exact ⟨rfl, N14, (((Keep.refl h0 [ob, ba, oa, ga]).trans K2 (allS (Or.inl (List.mem_of_getElem? (i := 0) rfl)) (allS (Or.inl (List.mem_of_getElem? (i := 1) rfl)) (allS (Or.inl (List.mem_of_getElem? (i := 2) rfl)) (allS (Or.inl (List.mem_of_getElem? (i := 3) rfl)) all0))))).trans K14 (allS (Or.inl (List.mem_of_getElem? (i := 0) rfl)) (allS (Or.inl (List.mem_of_getElem? (i := 1) rfl)) (allS (Or.inl (List.mem_of_getElem? (i := 2) rfl)) (allS (Or.inl (List.mem_of_getElem? (i := 3) rfl)) all0))))), by rw [← hTT]; exact ⟨Ew17, fbytes_17, fsize_17, fobjects_17, fbegun_17, fdepth_17, fnamed_17, fstarted_17, Vb17, Vo17, Vg17, own_lt la_17, own_lt lb_17, own_lt lc_17⟩⟩
theorem d26_0 : decode B26 0 = .ok (.aload_n 0, 1) := by decide +kernel
theorem d26_1 : decode B26 1 = .ok (.getfield 7, 3) := by decide +kernel
theorem d26_4 : decode B26 4 = .ok (.aload_n 0, 1) := by decide +kernel
theorem d26_5 : decode B26 5 = .ok (.dup, 1) := by decide +kernel
theorem d26_6 : decode B26 6 = .ok (.getfield 106, 3) := by decide +kernel
theorem d26_9 : decode B26 9 = .ok (.dup_x1, 1) := by decide +kernel
theorem d26_10 : decode B26 10 = .ok (.iconst 1, 1) := by decide +kernel
theorem d26_11 : decode B26 11 = .ok (.iadd, 1) := by decide +kernel
theorem d26_12 : decode B26 12 = .ok (.putfield 106, 3) := by decide +kernel
theorem d26_15 : decode B26 15 = .ok (.bipush 92, 2) := by decide +kernel
theorem d26_17 : decode B26 17 = .ok (.bastore, 1) := by decide +kernel
theorem d26_120 : decode B26 120 = .ok (.istore_n 2, 1) := by decide +kernel
theorem d26_121 : decode B26 121 = .ok (.iload_n 2, 1) := by decide +kernel
theorem d26_122 : decode B26 122 = .ok (.ifCond .eq 23, 3) := by decide +kernel
theorem d26_145 : decode B26 145 = .ok (.aload_n 0, 1) := by decide +kernel
theorem d26_146 : decode B26 146 = .ok (.getfield 7, 3) := by decide +kernel
theorem d26_149 : decode B26 149 = .ok (.aload_n 0, 1) := by decide +kernel
theorem d26_150 : decode B26 150 = .ok (.dup, 1) := by decide +kernel
theorem d26_151 : decode B26 151 = .ok (.getfield 106, 3) := by decide +kernel
theorem d26_154 : decode B26 154 = .ok (.dup_x1, 1) := by decide +kernel
theorem d26_155 : decode B26 155 = .ok (.iconst 1, 1) := by decide +kernel
theorem d26_156 : decode B26 156 = .ok (.iadd, 1) := by decide +kernel
theorem d26_157 : decode B26 157 = .ok (.putfield 106, 3) := by decide +kernel
theorem d26_160 : decode B26 160 = .ok (.bipush 117, 2) := by decide +kernel
theorem d26_162 : decode B26 162 = .ok (.bastore, 1) := by decide +kernel
theorem d26_163 : decode B26 163 = .ok (.bipush 12, 2) := by decide +kernel
theorem d26_165 : decode B26 165 = .ok (.istore_n 3, 1) := by decide +kernel
theorem d26_166 : decode B26 166 = .ok (.iload_n 3, 1) := by decide +kernel
theorem d26_167 : decode B26 167 = .ok (.ifCond .lt 35, 3) := by decide +kernel
theorem d26_170 : decode B26 170 = .ok (.aload_n 0, 1) := by decide +kernel
theorem d26_171 : decode B26 171 = .ok (.getfield 7, 3) := by decide +kernel
theorem d26_174 : decode B26 174 = .ok (.aload_n 0, 1) := by decide +kernel
theorem d26_175 : decode B26 175 = .ok (.dup, 1) := by decide +kernel
theorem d26_176 : decode B26 176 = .ok (.getfield 106, 3) := by decide +kernel
theorem d26_179 : decode B26 179 = .ok (.dup_x1, 1) := by decide +kernel
theorem d26_180 : decode B26 180 = .ok (.iconst 1, 1) := by decide +kernel
theorem d26_181 : decode B26 181 = .ok (.iadd, 1) := by decide +kernel
theorem d26_182 : decode B26 182 = .ok (.putfield 106, 3) := by decide +kernel
theorem d26_185 : decode B26 185 = .ok (.getstatic 153, 3) := by decide +kernel
theorem d26_188 : decode B26 188 = .ok (.iload_n 1, 1) := by decide +kernel
theorem d26_189 : decode B26 189 = .ok (.iload_n 3, 1) := by decide +kernel
theorem d26_190 : decode B26 190 = .ok (.ishr, 1) := by decide +kernel
theorem d26_191 : decode B26 191 = .ok (.bipush 15, 2) := by decide +kernel
theorem d26_193 : decode B26 193 = .ok (.iand, 1) := by decide +kernel
theorem d26_194 : decode B26 194 = .ok (.baload, 1) := by decide +kernel
theorem d26_195 : decode B26 195 = .ok (.bastore, 1) := by decide +kernel
theorem d26_196 : decode B26 196 = .ok (.iinc 3 (-4), 3) := by decide +kernel
theorem d26_199 : decode B26 199 = .ok (.goto (-33), 3) := by decide +kernel
theorem d26_202 : decode B26 202 = .ok (.return_, 1) := by decide +kernel
theorem d26_125 : decode B26 125 = .ok (.aload_n 0, 1) := by decide +kernel
theorem d26_126 : decode B26 126 = .ok (.getfield 7, 3) := by decide +kernel
theorem d26_129 : decode B26 129 = .ok (.aload_n 0, 1) := by decide +kernel
theorem d26_130 : decode B26 130 = .ok (.dup, 1) := by decide +kernel
theorem d26_131 : decode B26 131 = .ok (.getfield 106, 3) := by decide +kernel
theorem d26_134 : decode B26 134 = .ok (.dup_x1, 1) := by decide +kernel
theorem d26_135 : decode B26 135 = .ok (.iconst 1, 1) := by decide +kernel
theorem d26_136 : decode B26 136 = .ok (.iadd, 1) := by decide +kernel
theorem d26_137 : decode B26 137 = .ok (.putfield 106, 3) := by decide +kernel
theorem d26_140 : decode B26 140 = .ok (.iload_n 2, 1) := by decide +kernel
theorem d26_141 : decode B26 141 = .ok (.bastore, 1) := by decide +kernel
theorem d26_142 : decode B26 142 = .ok (.goto 60, 3) := by decide +kernel
theorem d26_18 : decode B26 18 = .ok (.iload_n 1, 1) := by decide +kernel
theorem own_d26_19 : decode prog_32_method_23_code 19 = .ok (.lookupswitch 100 #[(8, 75), (9, 80), (10, 85), (12, 90), (13, 95), (34, 65), (92, 70)], 65) := by decide +kernel
theorem d26_94 : decode B26 94 = .ok (.bipush 98, 2) := by decide +kernel
theorem d26_96 : decode B26 96 = .ok (.goto 24, 3) := by decide +kernel
theorem d26_99 : decode B26 99 = .ok (.bipush 116, 2) := by decide +kernel
theorem d26_101 : decode B26 101 = .ok (.goto 19, 3) := by decide +kernel
theorem d26_104 : decode B26 104 = .ok (.bipush 110, 2) := by decide +kernel
theorem d26_106 : decode B26 106 = .ok (.goto 14, 3) := by decide +kernel
theorem d26_109 : decode B26 109 = .ok (.bipush 102, 2) := by decide +kernel
theorem d26_111 : decode B26 111 = .ok (.goto 9, 3) := by decide +kernel
theorem d26_114 : decode B26 114 = .ok (.bipush 114, 2) := by decide +kernel
theorem d26_116 : decode B26 116 = .ok (.goto 4, 3) := by decide +kernel
theorem d26_84 : decode B26 84 = .ok (.bipush 34, 2) := by decide +kernel
theorem d26_86 : decode B26 86 = .ok (.goto 34, 3) := by decide +kernel
theorem d26_89 : decode B26 89 = .ok (.bipush 92, 2) := by decide +kernel
theorem d26_91 : decode B26 91 = .ok (.goto 29, 3) := by decide +kernel
theorem d26_119 : decode B26 119 = .ok (.iconst 0, 1) := by decide +kernel
theorem own_ef_escape (m : MethodId) (x0 : Addr) (x1 : Int32) : entryFrame m #[(.ref x0), (.int x1)] 4 = mkF m 0 #[.val (.ref x0), .val (.int x1), .unset, .unset] [] := by first | (simp [entryFrame, mkF, argsToLocals, Value.category]; done) | rfl
def own_Q_escape (Z : State) (ob ba oa ga : Addr) (kb ko kg : ClassId) (T : List Int32) (dp : Int32) (bg : Int32) (sd : Int32) (cc : Int32) (hxa : Addr) (kx : ClassId) (h0 : Heap) (n0 : Nat) (v : Option Value) (h : Heap) (L : List Loc) : Prop := v = none ∧ Fr n0 L ∧ Keep h0 h [ob, ba, oa, ga] ∧ OwnJ Z h ob ba oa ga kb ko kg (T ++ ((92 : Int32) :: own_esc cc)) dp bg sd
set_option maxRecDepth 65536 in
set_option maxHeartbeats 40000000 in
theorem own_escape (l : Launch) (Z : State) (a0 : Array Value) (hw : ∀ d ∈ tables_1, d.before a0 Z = true) (ws : List Jvm.Cond) (ob ba oa ga : Addr) (kb ko kg : ClassId) (T : List Int32) (dp : Int32) (bg : Int32) (sd : Int32) (cc : Int32) (hxa : Addr) (kx : ClassId) (h0 : Heap) (n0 : Nat) (Z0 : n0 ≤ h0.size) (O0 : Old Z n0 h0) (Sh : Sta Z Z.heap "tramline/routes/JsonWriter" "HEX" "[B" (.ref hxa)) (Vh : Arv Z Z.heap hxa kx .byte (16 : Int32) (own_hexT.map Value.int) (.int (0 : Int32))) (hT : OwnLe T 190) (J : OwnJ Z h0 ob ba oa ga kb ko kg (T) dp bg sd) (g_ob : n0 ≤ ob) :
    MetFree l own_M26 (head1 (Jvm.Cond.code own_M26 prog_32_method_23_code 4 none :: ws) ({ frames := 0, cells := 0, slots := 0, locals := 0 } : Room)) (fun A0 U0 => A0 = #[(.ref ob), (.int cc)] ∧ Z.Warmed39 U0.vm ∧ U0.heap = h0) (fun _ _ _ _ _ => True) (fun _ U0 o0 U1 => ∃ v0 L0, o0 = .returned v0 ∧ own_Q_escape Z ob ba oa ga kb ko kg T dp bg sd cc hxa kx h0 n0 v0 U1.heap L0 ∧ FrameEnd U0 o0 U1 L0 0 0) := by
  refine MetFree.of_bodySF (plainFor_of_name own_pn_tramline_routes_JsonWriter) hisR ?_
  intro p e s m args below meth c s₁ Bd hml0 hP hK
  obtain ⟨rfl, hZ, hh⟩ := hP
  have hZs0 := hZ
  have hZs := hZ
  have hx := Bd.exec
  have hby := Bd.bytes
  have hD : ∀ {pc : Nat} {r : Except DecodeError (Instr × Nat)}, decode prog_32_method_23_code pc = r → decode c.code pc = r := fun q => hb hby q
  have hml : c.maxLocals = 4 := hml0
  have hown : s.vm.findClass "tramline/routes/JsonWriter" = some m.cls := findClass_of_methodNamed Bd.named
  have hnm := (name_of_methodNamed Bd.named Bd.method).1
  have X0 : Stand p l e ({ frames := 0, cells := 0, slots := 0, locals := 0 } : Room) s m #[(.ref ob), (.int cc)] below meth c s₁ [] 0 0 := Stand.of_body Bd
  have e0 : s₁.heap = h0 := by rw [← hh, Bd.state]; rfl
  have N0 := Fr.nil n0
  refine OwnFin.entry (own_ef_escape m ob cc) (fun P' hP' => ?_)
  obtain ⟨Ew1, fbytes_1, fsize_1, fobjects_1, fbegun_1, fdepth_1, fnamed_1, fstarted_1, Vb1, Vo1, Vg1, la_1, lb_1, lc_1⟩ := id J
  have la_1 := own_lt la_1
  have lb_1 := own_lt lb_1
  have lc_1 := own_lt lc_1
  have lw1 := own_lt Ew1.lt
  have lg1 := own_lt Vg1.lt
  have ld_1 := Nat.lt_trans la_1 lb_1
  have lf_1 := Nat.lt_trans lb_1 lc_1
  have le_1 := Nat.lt_trans ld_1 lc_1
  obtain ⟨T2, X2, e2, st2⟩ := getF X0 hx hZ hown (host := "") (Or.inl (own_w hw 48 rfl)) Via.refl e0 fbytes_1 (g := (mkF m 1 #[VR ob, VI cc, .unset, .unset] [(.ref ob)])) rfl rfl (hD d26_1)
  obtain ⟨T3, X3, e3, st3⟩ := getF X2 hx hZ hown (host := "") (Or.inl (own_w hw 60 rfl)) Via.refl e2 fsize_1 (g := (mkF m 6 #[VR ob, VI cc, .unset, .unset] [(.ref ob), (.ref ob), (.ref ba)])) rfl rfl (hD d26_6)
  obtain ⟨T4, h4, X4, e4, W4, st4⟩ := putF X3 hx hZ hown (host := "") (Or.inl (own_w hw 60 rfl)) Via.refl e3 fsize_1 Ew1 (Or.inl (own_w hw 61 rfl)) (own_w hw 42 rfl) (ty := .int) (by decide) rfl rfl (g := (mkF m 12 #[VR ob, VI cc, .unset, .unset] [(.int ((Int32.ofNat (T).length) + (1:Int32))), (.ref ob), (.int (Int32.ofNat (T).length)), (.ref ba)])) rfl rfl (hD d26_12)
  have Fw4 : Fld Z h4 ob "tramline/routes/JsonWriter" "size" "I" (.int ((Int32.ofNat (T).length) + (1:Int32))) := fsize_1.same W4
  have sz5 : h0.size ≤ h4.size := Nat.le_of_eq W4.size.symm
  have N4 := Fr.snoc X4 N0 (by omega : n0 ≤ ob)
  have Fv7_1 := (Vb1.other W4 (Nat.ne_of_gt la_1))
  obtain ⟨cl6, Ar6, ck6, S6, M6, H6, G6⟩ := id Fv7_1
  have hin6 := own_in256 (n := (T).length) S6 (own_leI hT (by decide))
  obtain ⟨T6, h6, X6, e6, W6, st6⟩ := stB X4 hx hZ e4 Ar6 (j := (Int32.ofNat (T).length)) hin6 (g := (mkF m 17 #[VR ob, VI cc, .unset, .unset] [(.int 92), (.int (Int32.ofNat (T).length)), (.ref ba)])) rfl rfl (hD d26_17)
  have V6 : Arv Z h6 ba kb .byte (256:Int32) (((T ++ [(92:Int32)])).map Value.int) (.int 0) := own_push Fv7_1 W6 (by decide) (own_leL hT (by decide))
  have lb6 : OwnLe (T ++ [(92:Int32)]) 191 := own_leS hT
  have sz8 : h4.size ≤ h6.size := Nat.le_of_eq W6.size.symm
  have N6 := Fr.snoc X6 N4 (by omega : n0 ≤ ba)
  have Fv10_2 := (Fw4.other W6 (Or.inl (Nat.ne_of_lt la_1)))
  have Fz9 : Fld Z h6 ob "tramline/routes/JsonWriter" "size" "I" (.int (Int32.ofNat ((T ++ [(92:Int32)])).length)) := by
    have q := Fv10_2
    rw [own_p1] at q
    exact q
  refine OwnFin.adv (B := T6.setTop (mkF m 18 #[VR ob, VI cc, .unset, .unset] [])) (fun _ k => XS.aloadN X0.here hx rfl (hD d26_0) rfl rfl (st2 _ (XS.aloadN X2.here hx rfl (hD d26_4) rfl rfl (XS.dup X2.here hx rfl (hD d26_5) rfl rfl (st3 _ (XS.dupX1 X3.here hx rfl (hD d26_9) rfl rfl rfl (XS.iconst X3.here hx rfl (hD d26_10) (XS.iadd X3.here hx rfl (hD d26_11) rfl (st4 _ (XS.bipush X4.here hx rfl (hD d26_15) (st6 _ k))))))))))) ?_
  have J120 : ∀ (sv : Int32) (TJ : State) (LJ : List Loc) (XJ : Stand p l e ({ frames := 0, cells := 0, slots := 0, locals := 0 } : Room) s m #[(.ref ob), (.int cc)] below meth c TJ LJ 0 0) (eJ : TJ.heap = h6) (NJ : Fr n0 LJ) (hsv : (sv = 0 ∧ own_esc cc = own_hexs cc) ∨ (¬ sv = 0 ∧ sv.toInt8.toInt32 = sv ∧ own_esc cc = [sv])), OwnFin p.tables e below P' (TJ.setTop (mkF m 120 #[VR ob, VI cc, .unset, .unset] [(.int sv)])) := by
   intro sv TJ LJ XJ eJ NJ hsv
   refine OwnFin.adv (B := TJ.setTop (mkF m 122 #[VR ob, VI cc, VI sv, .unset] [(.int sv)])) (fun _ k => XS.istoreN XJ.here hx rfl (hD d26_120) rfl (l' := #[VR ob, VI cc, VI sv, .unset]) rfl (XS.iloadN XJ.here hx rfl (hD d26_121) rfl k)) ?_
   by_cases hc122 : sv = (0:Int32)
   ·
    obtain ⟨-, hs3⟩ := hsv.resolve_right (fun q => q.1 hc122)
    have Fv12_2 := ((fbytes_1.other W4 (Or.inr (own_sn0 hw))).other W6 (Or.inl (Nat.ne_of_lt la_1)))
    obtain ⟨T13, X13, e13, st13⟩ := getF XJ hx hZ hown (host := "") (Or.inl (own_w hw 48 rfl)) Via.refl eJ Fv12_2 (g := (mkF m 146 #[VR ob, VI cc, VI sv, .unset] [(.ref ob)])) rfl rfl (hD d26_146)
    obtain ⟨T14, X14, e14, st14⟩ := getF X13 hx hZ hown (host := "") (Or.inl (own_w hw 60 rfl)) Via.refl e13 Fz9 (g := (mkF m 151 #[VR ob, VI cc, VI sv, .unset] [(.ref ob), (.ref ob), (.ref ba)])) rfl rfl (hD d26_151)
    have Fv15_2 := ((Ew1.wr W4).wr W6)
    obtain ⟨T16, h16, X16, e16, W16, st16⟩ := putF X14 hx hZ hown (host := "") (Or.inl (own_w hw 60 rfl)) Via.refl e14 Fz9 Fv15_2 (Or.inl (own_w hw 61 rfl)) (own_w hw 42 rfl) (ty := .int) (by decide) rfl rfl (g := (mkF m 157 #[VR ob, VI cc, VI sv, .unset] [(.int ((Int32.ofNat ((T ++ [(92:Int32)])).length) + (1:Int32))), (.ref ob), (.int (Int32.ofNat ((T ++ [(92:Int32)])).length)), (.ref ba)])) rfl rfl (hD d26_157)
    have Fw16 : Fld Z h16 ob "tramline/routes/JsonWriter" "size" "I" (.int ((Int32.ofNat ((T ++ [(92:Int32)])).length) + (1:Int32))) := Fz9.same W16
    have sz17 : h6.size ≤ h16.size := Nat.le_of_eq W16.size.symm
    have N16 := Fr.snoc X16 NJ (by omega : n0 ≤ ob)
    have Fv19_3 := (V6.other W16 (Nat.ne_of_gt la_1))
    obtain ⟨cl18, Ar18, ck18, S18, M18, H18, G18⟩ := id Fv19_3
    have hin18 := own_in256 (n := ((T ++ [(92:Int32)])).length) S18 (own_leI lb6 (by decide))
    obtain ⟨T18, h18, X18, e18, W18, st18⟩ := stB X16 hx hZ e16 Ar18 (j := (Int32.ofNat ((T ++ [(92:Int32)])).length)) hin18 (g := (mkF m 162 #[VR ob, VI cc, VI sv, .unset] [(.int 117), (.int (Int32.ofNat ((T ++ [(92:Int32)])).length)), (.ref ba)])) rfl rfl (hD d26_162)
    have V18 : Arv Z h18 ba kb .byte (256:Int32) ((((T ++ [(92:Int32)]) ++ [(117:Int32)])).map Value.int) (.int 0) := own_push Fv19_3 W18 (by decide) (own_leL lb6 (by decide))
    have lb18 : OwnLe ((T ++ [(92:Int32)]) ++ [(117:Int32)]) 192 := own_leS lb6
    have sz20 : h16.size ≤ h18.size := Nat.le_of_eq W18.size.symm
    have N18 := Fr.snoc X18 N16 (by omega : n0 ≤ ba)
    have Fv22_4 := (Fw16.other W18 (Or.inl (Nat.ne_of_lt la_1)))
    have Fz21 : Fld Z h18 ob "tramline/routes/JsonWriter" "size" "I" (.int (Int32.ofNat (((T ++ [(92:Int32)]) ++ [(117:Int32)])).length)) := by
      have q := Fv22_4
      rw [own_p1] at q
      exact q
    refine OwnFin.adv (B := T18.setTop (mkF m 166 #[VR ob, VI cc, VI sv, VI (12:Int32)] [])) (fun _ k => XS.ifYes XJ.here hx rfl (pc0 := 122) (pc' := 145) rfl (hD d26_122) rfl ((if0 _ _).trans (teq hc122).1) (by decide) (by decide) (XS.aloadN XJ.here hx rfl (hD d26_145) rfl rfl (st13 _ (XS.aloadN X13.here hx rfl (hD d26_149) rfl rfl (XS.dup X13.here hx rfl (hD d26_150) rfl rfl (st14 _ (XS.dupX1 X14.here hx rfl (hD d26_154) rfl rfl rfl (XS.iconst X14.here hx rfl (hD d26_155) (XS.iadd X14.here hx rfl (hD d26_156) rfl (st16 _ (XS.bipush X16.here hx rfl (hD d26_160) (st18 _ (XS.bipush X18.here hx rfl (hD d26_163) (XS.istoreN X18.here hx rfl (hD d26_165) rfl (l' := #[VR ob, VI cc, VI sv, VI (12:Int32)]) rfl k)))))))))))))) ?_
    have hc167_30 : ¬ ((12:Int32) < (0:Int32)) := by decide
    have Fv23_4 := ((Fv12_2.other W16 (Or.inr (own_sn0 hw))).other W18 (Or.inl (Nat.ne_of_lt la_1)))
    obtain ⟨T24, X24, e24, st24⟩ := getF X18 hx hZ hown (host := "") (Or.inl (own_w hw 48 rfl)) Via.refl e18 Fv23_4 (g := (mkF m 171 #[VR ob, VI cc, VI sv, VI (12:Int32)] [(.ref ob)])) rfl rfl (hD d26_171)
    obtain ⟨T25, X25, e25, st25⟩ := getF X24 hx hZ hown (host := "") (Or.inl (own_w hw 60 rfl)) Via.refl e24 Fz21 (g := (mkF m 176 #[VR ob, VI cc, VI sv, VI (12:Int32)] [(.ref ob), (.ref ob), (.ref ba)])) rfl rfl (hD d26_176)
    have Fv26_4 := ((Fv15_2.wr W16).wr W18)
    obtain ⟨T27, h27, X27, e27, W27, st27⟩ := putF X25 hx hZ hown (host := "") (Or.inl (own_w hw 60 rfl)) Via.refl e25 Fz21 Fv26_4 (Or.inl (own_w hw 61 rfl)) (own_w hw 42 rfl) (ty := .int) (by decide) rfl rfl (g := (mkF m 182 #[VR ob, VI cc, VI sv, VI (12:Int32)] [(.int ((Int32.ofNat (((T ++ [(92:Int32)]) ++ [(117:Int32)])).length) + (1:Int32))), (.ref ob), (.int (Int32.ofNat (((T ++ [(92:Int32)]) ++ [(117:Int32)])).length)), (.ref ba)])) rfl rfl (hD d26_182)
    have Fw27 : Fld Z h27 ob "tramline/routes/JsonWriter" "size" "I" (.int ((Int32.ofNat (((T ++ [(92:Int32)]) ++ [(117:Int32)])).length) + (1:Int32))) := Fz21.same W27
    have sz28 : h18.size ≤ h27.size := Nat.le_of_eq W27.size.symm
    have N27 := Fr.snoc X27 N18 (by omega : n0 ≤ ob)
    have Old30 : Old Z n0 h27 := (((((O0.wr W4 (by omega)).wr W6 (by omega)).wr W16 (by omega)).wr W18 (by omega)).wr W27 (by omega))
    obtain ⟨T29, X29, e29, st29⟩ := getS2 X27 hx hZ hown (host := "") (Or.inl (own_w hw 135 rfl)) Via.refl e27 (own_staK Sh Old30) (g := (mkF m 185 #[VR ob, VI cc, VI sv, VI (12:Int32)] [(.int (Int32.ofNat (((T ++ [(92:Int32)]) ++ [(117:Int32)])).length)), (.ref ba)])) rfl (hD d26_185)
    refine OwnFin.adv (B := T29.setTop (mkF m 190 #[VR ob, VI cc, VI sv, VI (12:Int32)] [(.int 12), (.int cc), (.ref hxa), (.int (Int32.ofNat (((T ++ [(92:Int32)]) ++ [(117:Int32)])).length)), (.ref ba)])) (fun _ k => XS.iloadN X18.here hx rfl (hD d26_166) rfl (XS.ifNo X18.here hx rfl (hD d26_167) rfl ((if0 _ _).trans (flt hc167_30).1) (XS.aloadN X18.here hx rfl (hD d26_170) rfl rfl (st24 _ (XS.aloadN X24.here hx rfl (hD d26_174) rfl rfl (XS.dup X24.here hx rfl (hD d26_175) rfl rfl (st25 _ (XS.dupX1 X25.here hx rfl (hD d26_179) rfl rfl rfl (XS.iconst X25.here hx rfl (hD d26_180) (XS.iadd X25.here hx rfl (hD d26_181) rfl (st27 _ (st29 _ (XS.iloadN X29.here hx rfl (hD d26_188) rfl (XS.iloadN X29.here hx rfl (hD d26_189) rfl k)))))))))))))) ?_
    obtain ⟨cl31, Ar31, ck31, S31, M31, H31, G31⟩ := id (Vh.ext Old30.2)
    have hin31 : ¬ (((cc >>> ((12:Int32) &&& 31)) &&& (15:Int32)) < 0 ∨ cl31.slots.size ≤ (((cc >>> ((12:Int32) &&& 31)) &&& (15:Int32))).toNatClampNeg) := inb_of S31 ⟨(own_m15 _).1, (own_m15 _).2⟩
    have Fv33_5 := (V18.other W27 (Nat.ne_of_gt la_1))
    obtain ⟨cl32, Ar32, ck32, S32, M32, H32, G32⟩ := id Fv33_5
    have hin32 := own_in256 (n := (((T ++ [(92:Int32)]) ++ [(117:Int32)])).length) S32 (own_leI lb18 (by decide))
    obtain ⟨T32, h32, X32, e32, W32, st32⟩ := stB X29 hx hZ e29 Ar32 (j := (Int32.ofNat (((T ++ [(92:Int32)]) ++ [(117:Int32)])).length)) hin32 (g := (mkF m 195 #[VR ob, VI cc, VI sv, VI (12:Int32)] [(.int (own_hx ((cc >>> ((12:Int32) &&& 31)) &&& (15:Int32)))), (.int (Int32.ofNat (((T ++ [(92:Int32)]) ++ [(117:Int32)])).length)), (.ref ba)])) rfl rfl (hD d26_195)
    have V32 : Arv Z h32 ba kb .byte (256:Int32) (((((T ++ [(92:Int32)]) ++ [(117:Int32)]) ++ [(own_hx ((cc >>> ((12:Int32) &&& 31)) &&& (15:Int32)))])).map Value.int) (.int 0) := own_push Fv33_5 W32 (own_hxb (own_m15 _)) (own_leL lb18 (by decide))
    have lb32 : OwnLe (((T ++ [(92:Int32)]) ++ [(117:Int32)]) ++ [(own_hx ((cc >>> ((12:Int32) &&& 31)) &&& (15:Int32)))]) 193 := own_leS lb18
    have sz34 : h27.size ≤ h32.size := Nat.le_of_eq W32.size.symm
    have N32 := Fr.snoc X32 N27 (by omega : n0 ≤ ba)
    have Fv36_6 := (Fw27.other W32 (Or.inl (Nat.ne_of_lt la_1)))
    have Fz35 : Fld Z h32 ob "tramline/routes/JsonWriter" "size" "I" (.int (Int32.ofNat ((((T ++ [(92:Int32)]) ++ [(117:Int32)]) ++ [(own_hx ((cc >>> ((12:Int32) &&& 31)) &&& (15:Int32)))])).length)) := by
      have q := Fv36_6
      rw [own_p1] at q
      exact q
    refine OwnFin.adv (B := T32.setTop (mkF m 166 #[VR ob, VI cc, VI sv, VI ((12:Int32) + (-4 : Int32))] [])) (fun _ k => XS.ishr X29.here hx rfl (hD d26_190) rfl (XS.bipush X29.here hx rfl (hD d26_191) (XS.iand X29.here hx rfl (hD d26_193) rfl (X29.baloadBytes hx (j := ((cc >>> ((12:Int32) &&& 31)) &&& (15:Int32))) (v := (.int (own_hx ((cc >>> ((12:Int32) &&& 31)) &&& (15:Int32))))) (by rw [e29]; exact Ar31.1) (State.isArrayOf_alike hZ.alike Ar31.2.1) Ar31.2.2 hin31 (Has.at H31 hin31 (by rw [own_mapget]; exact congrArg Value.int (own_hexg (own_m15 _)))) (g := (mkF m 194 #[VR ob, VI cc, VI sv, VI (12:Int32)] [(.int ((cc >>> ((12:Int32) &&& 31)) &&& (15:Int32))), (.ref hxa), (.int (Int32.ofNat (((T ++ [(92:Int32)]) ++ [(117:Int32)])).length)), (.ref ba)])) rfl rfl (hD d26_194) _ (st32 _ (XS.iinc X32.here hx rfl (hD d26_196) rfl (l' := #[VR ob, VI cc, VI sv, VI ((12:Int32) + (-4 : Int32))]) rfl (XS.goto X32.here hx rfl (pc0 := 199) (pc' := 166) rfl (hD d26_199) (by decide) (by decide) k))))))) ?_
    rw [show (((12:Int32) + (-4 : Int32)) : Int32) = (8:Int32) from by decide]
    have hc167_51 : ¬ ((8:Int32) < (0:Int32)) := by decide
    have Fv37_6 := ((Fv23_4.other W27 (Or.inr (own_sn0 hw))).other W32 (Or.inl (Nat.ne_of_lt la_1)))
    obtain ⟨T38, X38, e38, st38⟩ := getF X32 hx hZ hown (host := "") (Or.inl (own_w hw 48 rfl)) Via.refl e32 Fv37_6 (g := (mkF m 171 #[VR ob, VI cc, VI sv, VI (8:Int32)] [(.ref ob)])) rfl rfl (hD d26_171)
    obtain ⟨T39, X39, e39, st39⟩ := getF X38 hx hZ hown (host := "") (Or.inl (own_w hw 60 rfl)) Via.refl e38 Fz35 (g := (mkF m 176 #[VR ob, VI cc, VI sv, VI (8:Int32)] [(.ref ob), (.ref ob), (.ref ba)])) rfl rfl (hD d26_176)
    have Fv40_6 := ((Fv26_4.wr W27).wr W32)
    obtain ⟨T41, h41, X41, e41, W41, st41⟩ := putF X39 hx hZ hown (host := "") (Or.inl (own_w hw 60 rfl)) Via.refl e39 Fz35 Fv40_6 (Or.inl (own_w hw 61 rfl)) (own_w hw 42 rfl) (ty := .int) (by decide) rfl rfl (g := (mkF m 182 #[VR ob, VI cc, VI sv, VI (8:Int32)] [(.int ((Int32.ofNat ((((T ++ [(92:Int32)]) ++ [(117:Int32)]) ++ [(own_hx ((cc >>> ((12:Int32) &&& 31)) &&& (15:Int32)))])).length) + (1:Int32))), (.ref ob), (.int (Int32.ofNat ((((T ++ [(92:Int32)]) ++ [(117:Int32)]) ++ [(own_hx ((cc >>> ((12:Int32) &&& 31)) &&& (15:Int32)))])).length)), (.ref ba)])) rfl rfl (hD d26_182)
    have Fw41 : Fld Z h41 ob "tramline/routes/JsonWriter" "size" "I" (.int ((Int32.ofNat ((((T ++ [(92:Int32)]) ++ [(117:Int32)]) ++ [(own_hx ((cc >>> ((12:Int32) &&& 31)) &&& (15:Int32)))])).length) + (1:Int32))) := Fz35.same W41
    have sz42 : h32.size ≤ h41.size := Nat.le_of_eq W41.size.symm
    have N41 := Fr.snoc X41 N32 (by omega : n0 ≤ ob)
    have Old44 : Old Z n0 h41 := ((Old30.wr W32 (by omega)).wr W41 (by omega))
    obtain ⟨T43, X43, e43, st43⟩ := getS2 X41 hx hZ hown (host := "") (Or.inl (own_w hw 135 rfl)) Via.refl e41 (own_staK Sh Old44) (g := (mkF m 185 #[VR ob, VI cc, VI sv, VI (8:Int32)] [(.int (Int32.ofNat ((((T ++ [(92:Int32)]) ++ [(117:Int32)]) ++ [(own_hx ((cc >>> ((12:Int32) &&& 31)) &&& (15:Int32)))])).length)), (.ref ba)])) rfl (hD d26_185)
    refine OwnFin.adv (B := T43.setTop (mkF m 190 #[VR ob, VI cc, VI sv, VI (8:Int32)] [(.int 8), (.int cc), (.ref hxa), (.int (Int32.ofNat ((((T ++ [(92:Int32)]) ++ [(117:Int32)]) ++ [(own_hx ((cc >>> ((12:Int32) &&& 31)) &&& (15:Int32)))])).length)), (.ref ba)])) (fun _ k => XS.iloadN X32.here hx rfl (hD d26_166) rfl (XS.ifNo X32.here hx rfl (hD d26_167) rfl ((if0 _ _).trans (flt hc167_51).1) (XS.aloadN X32.here hx rfl (hD d26_170) rfl rfl (st38 _ (XS.aloadN X38.here hx rfl (hD d26_174) rfl rfl (XS.dup X38.here hx rfl (hD d26_175) rfl rfl (st39 _ (XS.dupX1 X39.here hx rfl (hD d26_179) rfl rfl rfl (XS.iconst X39.here hx rfl (hD d26_180) (XS.iadd X39.here hx rfl (hD d26_181) rfl (st41 _ (st43 _ (XS.iloadN X43.here hx rfl (hD d26_188) rfl (XS.iloadN X43.here hx rfl (hD d26_189) rfl k)))))))))))))) ?_
    obtain ⟨cl45, Ar45, ck45, S45, M45, H45, G45⟩ := id (Vh.ext Old44.2)
    have hin45 : ¬ (((cc >>> ((8:Int32) &&& 31)) &&& (15:Int32)) < 0 ∨ cl45.slots.size ≤ (((cc >>> ((8:Int32) &&& 31)) &&& (15:Int32))).toNatClampNeg) := inb_of S45 ⟨(own_m15 _).1, (own_m15 _).2⟩
    have Fv47_7 := (V32.other W41 (Nat.ne_of_gt la_1))
    obtain ⟨cl46, Ar46, ck46, S46, M46, H46, G46⟩ := id Fv47_7
    have hin46 := own_in256 (n := ((((T ++ [(92:Int32)]) ++ [(117:Int32)]) ++ [(own_hx ((cc >>> ((12:Int32) &&& 31)) &&& (15:Int32)))])).length) S46 (own_leI lb32 (by decide))
    obtain ⟨T46, h46, X46, e46, W46, st46⟩ := stB X43 hx hZ e43 Ar46 (j := (Int32.ofNat ((((T ++ [(92:Int32)]) ++ [(117:Int32)]) ++ [(own_hx ((cc >>> ((12:Int32) &&& 31)) &&& (15:Int32)))])).length)) hin46 (g := (mkF m 195 #[VR ob, VI cc, VI sv, VI (8:Int32)] [(.int (own_hx ((cc >>> ((8:Int32) &&& 31)) &&& (15:Int32)))), (.int (Int32.ofNat ((((T ++ [(92:Int32)]) ++ [(117:Int32)]) ++ [(own_hx ((cc >>> ((12:Int32) &&& 31)) &&& (15:Int32)))])).length)), (.ref ba)])) rfl rfl (hD d26_195)
    have V46 : Arv Z h46 ba kb .byte (256:Int32) ((((((T ++ [(92:Int32)]) ++ [(117:Int32)]) ++ [(own_hx ((cc >>> ((12:Int32) &&& 31)) &&& (15:Int32)))]) ++ [(own_hx ((cc >>> ((8:Int32) &&& 31)) &&& (15:Int32)))])).map Value.int) (.int 0) := own_push Fv47_7 W46 (own_hxb (own_m15 _)) (own_leL lb32 (by decide))
    have lb46 : OwnLe ((((T ++ [(92:Int32)]) ++ [(117:Int32)]) ++ [(own_hx ((cc >>> ((12:Int32) &&& 31)) &&& (15:Int32)))]) ++ [(own_hx ((cc >>> ((8:Int32) &&& 31)) &&& (15:Int32)))]) 194 := own_leS lb32
    have sz48 : h41.size ≤ h46.size := Nat.le_of_eq W46.size.symm
    have N46 := Fr.snoc X46 N41 (by omega : n0 ≤ ba)
    have Fv50_8 := (Fw41.other W46 (Or.inl (Nat.ne_of_lt la_1)))
    have Fz49 : Fld Z h46 ob "tramline/routes/JsonWriter" "size" "I" (.int (Int32.ofNat (((((T ++ [(92:Int32)]) ++ [(117:Int32)]) ++ [(own_hx ((cc >>> ((12:Int32) &&& 31)) &&& (15:Int32)))]) ++ [(own_hx ((cc >>> ((8:Int32) &&& 31)) &&& (15:Int32)))])).length)) := by
      have q := Fv50_8
      rw [own_p1] at q
      exact q
    refine OwnFin.adv (B := T46.setTop (mkF m 166 #[VR ob, VI cc, VI sv, VI ((8:Int32) + (-4 : Int32))] [])) (fun _ k => XS.ishr X43.here hx rfl (hD d26_190) rfl (XS.bipush X43.here hx rfl (hD d26_191) (XS.iand X43.here hx rfl (hD d26_193) rfl (X43.baloadBytes hx (j := ((cc >>> ((8:Int32) &&& 31)) &&& (15:Int32))) (v := (.int (own_hx ((cc >>> ((8:Int32) &&& 31)) &&& (15:Int32))))) (by rw [e43]; exact Ar45.1) (State.isArrayOf_alike hZ.alike Ar45.2.1) Ar45.2.2 hin45 (Has.at H45 hin45 (by rw [own_mapget]; exact congrArg Value.int (own_hexg (own_m15 _)))) (g := (mkF m 194 #[VR ob, VI cc, VI sv, VI (8:Int32)] [(.int ((cc >>> ((8:Int32) &&& 31)) &&& (15:Int32))), (.ref hxa), (.int (Int32.ofNat ((((T ++ [(92:Int32)]) ++ [(117:Int32)]) ++ [(own_hx ((cc >>> ((12:Int32) &&& 31)) &&& (15:Int32)))])).length)), (.ref ba)])) rfl rfl (hD d26_194) _ (st46 _ (XS.iinc X46.here hx rfl (hD d26_196) rfl (l' := #[VR ob, VI cc, VI sv, VI ((8:Int32) + (-4 : Int32))]) rfl (XS.goto X46.here hx rfl (pc0 := 199) (pc' := 166) rfl (hD d26_199) (by decide) (by decide) k))))))) ?_
    rw [show (((8:Int32) + (-4 : Int32)) : Int32) = (4:Int32) from by decide]
    have hc167_72 : ¬ ((4:Int32) < (0:Int32)) := by decide
    have Fv51_8 := ((Fv37_6.other W41 (Or.inr (own_sn0 hw))).other W46 (Or.inl (Nat.ne_of_lt la_1)))
    obtain ⟨T52, X52, e52, st52⟩ := getF X46 hx hZ hown (host := "") (Or.inl (own_w hw 48 rfl)) Via.refl e46 Fv51_8 (g := (mkF m 171 #[VR ob, VI cc, VI sv, VI (4:Int32)] [(.ref ob)])) rfl rfl (hD d26_171)
    obtain ⟨T53, X53, e53, st53⟩ := getF X52 hx hZ hown (host := "") (Or.inl (own_w hw 60 rfl)) Via.refl e52 Fz49 (g := (mkF m 176 #[VR ob, VI cc, VI sv, VI (4:Int32)] [(.ref ob), (.ref ob), (.ref ba)])) rfl rfl (hD d26_176)
    have Fv54_8 := ((Fv40_6.wr W41).wr W46)
    obtain ⟨T55, h55, X55, e55, W55, st55⟩ := putF X53 hx hZ hown (host := "") (Or.inl (own_w hw 60 rfl)) Via.refl e53 Fz49 Fv54_8 (Or.inl (own_w hw 61 rfl)) (own_w hw 42 rfl) (ty := .int) (by decide) rfl rfl (g := (mkF m 182 #[VR ob, VI cc, VI sv, VI (4:Int32)] [(.int ((Int32.ofNat (((((T ++ [(92:Int32)]) ++ [(117:Int32)]) ++ [(own_hx ((cc >>> ((12:Int32) &&& 31)) &&& (15:Int32)))]) ++ [(own_hx ((cc >>> ((8:Int32) &&& 31)) &&& (15:Int32)))])).length) + (1:Int32))), (.ref ob), (.int (Int32.ofNat (((((T ++ [(92:Int32)]) ++ [(117:Int32)]) ++ [(own_hx ((cc >>> ((12:Int32) &&& 31)) &&& (15:Int32)))]) ++ [(own_hx ((cc >>> ((8:Int32) &&& 31)) &&& (15:Int32)))])).length)), (.ref ba)])) rfl rfl (hD d26_182)
    have Fw55 : Fld Z h55 ob "tramline/routes/JsonWriter" "size" "I" (.int ((Int32.ofNat (((((T ++ [(92:Int32)]) ++ [(117:Int32)]) ++ [(own_hx ((cc >>> ((12:Int32) &&& 31)) &&& (15:Int32)))]) ++ [(own_hx ((cc >>> ((8:Int32) &&& 31)) &&& (15:Int32)))])).length) + (1:Int32))) := Fz49.same W55
    have sz56 : h46.size ≤ h55.size := Nat.le_of_eq W55.size.symm
    have N55 := Fr.snoc X55 N46 (by omega : n0 ≤ ob)
    have Old58 : Old Z n0 h55 := ((Old44.wr W46 (by omega)).wr W55 (by omega))
    obtain ⟨T57, X57, e57, st57⟩ := getS2 X55 hx hZ hown (host := "") (Or.inl (own_w hw 135 rfl)) Via.refl e55 (own_staK Sh Old58) (g := (mkF m 185 #[VR ob, VI cc, VI sv, VI (4:Int32)] [(.int (Int32.ofNat (((((T ++ [(92:Int32)]) ++ [(117:Int32)]) ++ [(own_hx ((cc >>> ((12:Int32) &&& 31)) &&& (15:Int32)))]) ++ [(own_hx ((cc >>> ((8:Int32) &&& 31)) &&& (15:Int32)))])).length)), (.ref ba)])) rfl (hD d26_185)
    refine OwnFin.adv (B := T57.setTop (mkF m 190 #[VR ob, VI cc, VI sv, VI (4:Int32)] [(.int 4), (.int cc), (.ref hxa), (.int (Int32.ofNat (((((T ++ [(92:Int32)]) ++ [(117:Int32)]) ++ [(own_hx ((cc >>> ((12:Int32) &&& 31)) &&& (15:Int32)))]) ++ [(own_hx ((cc >>> ((8:Int32) &&& 31)) &&& (15:Int32)))])).length)), (.ref ba)])) (fun _ k => XS.iloadN X46.here hx rfl (hD d26_166) rfl (XS.ifNo X46.here hx rfl (hD d26_167) rfl ((if0 _ _).trans (flt hc167_72).1) (XS.aloadN X46.here hx rfl (hD d26_170) rfl rfl (st52 _ (XS.aloadN X52.here hx rfl (hD d26_174) rfl rfl (XS.dup X52.here hx rfl (hD d26_175) rfl rfl (st53 _ (XS.dupX1 X53.here hx rfl (hD d26_179) rfl rfl rfl (XS.iconst X53.here hx rfl (hD d26_180) (XS.iadd X53.here hx rfl (hD d26_181) rfl (st55 _ (st57 _ (XS.iloadN X57.here hx rfl (hD d26_188) rfl (XS.iloadN X57.here hx rfl (hD d26_189) rfl k)))))))))))))) ?_
    obtain ⟨cl59, Ar59, ck59, S59, M59, H59, G59⟩ := id (Vh.ext Old58.2)
    have hin59 : ¬ (((cc >>> ((4:Int32) &&& 31)) &&& (15:Int32)) < 0 ∨ cl59.slots.size ≤ (((cc >>> ((4:Int32) &&& 31)) &&& (15:Int32))).toNatClampNeg) := inb_of S59 ⟨(own_m15 _).1, (own_m15 _).2⟩
    have Fv61_9 := (V46.other W55 (Nat.ne_of_gt la_1))
    obtain ⟨cl60, Ar60, ck60, S60, M60, H60, G60⟩ := id Fv61_9
    have hin60 := own_in256 (n := (((((T ++ [(92:Int32)]) ++ [(117:Int32)]) ++ [(own_hx ((cc >>> ((12:Int32) &&& 31)) &&& (15:Int32)))]) ++ [(own_hx ((cc >>> ((8:Int32) &&& 31)) &&& (15:Int32)))])).length) S60 (own_leI lb46 (by decide))
    obtain ⟨T60, h60, X60, e60, W60, st60⟩ := stB X57 hx hZ e57 Ar60 (j := (Int32.ofNat (((((T ++ [(92:Int32)]) ++ [(117:Int32)]) ++ [(own_hx ((cc >>> ((12:Int32) &&& 31)) &&& (15:Int32)))]) ++ [(own_hx ((cc >>> ((8:Int32) &&& 31)) &&& (15:Int32)))])).length)) hin60 (g := (mkF m 195 #[VR ob, VI cc, VI sv, VI (4:Int32)] [(.int (own_hx ((cc >>> ((4:Int32) &&& 31)) &&& (15:Int32)))), (.int (Int32.ofNat (((((T ++ [(92:Int32)]) ++ [(117:Int32)]) ++ [(own_hx ((cc >>> ((12:Int32) &&& 31)) &&& (15:Int32)))]) ++ [(own_hx ((cc >>> ((8:Int32) &&& 31)) &&& (15:Int32)))])).length)), (.ref ba)])) rfl rfl (hD d26_195)
    have V60 : Arv Z h60 ba kb .byte (256:Int32) (((((((T ++ [(92:Int32)]) ++ [(117:Int32)]) ++ [(own_hx ((cc >>> ((12:Int32) &&& 31)) &&& (15:Int32)))]) ++ [(own_hx ((cc >>> ((8:Int32) &&& 31)) &&& (15:Int32)))]) ++ [(own_hx ((cc >>> ((4:Int32) &&& 31)) &&& (15:Int32)))])).map Value.int) (.int 0) := own_push Fv61_9 W60 (own_hxb (own_m15 _)) (own_leL lb46 (by decide))
    have lb60 : OwnLe (((((T ++ [(92:Int32)]) ++ [(117:Int32)]) ++ [(own_hx ((cc >>> ((12:Int32) &&& 31)) &&& (15:Int32)))]) ++ [(own_hx ((cc >>> ((8:Int32) &&& 31)) &&& (15:Int32)))]) ++ [(own_hx ((cc >>> ((4:Int32) &&& 31)) &&& (15:Int32)))]) 195 := own_leS lb46
    have sz62 : h55.size ≤ h60.size := Nat.le_of_eq W60.size.symm
    have N60 := Fr.snoc X60 N55 (by omega : n0 ≤ ba)
    have Fv64_10 := (Fw55.other W60 (Or.inl (Nat.ne_of_lt la_1)))
    have Fz63 : Fld Z h60 ob "tramline/routes/JsonWriter" "size" "I" (.int (Int32.ofNat ((((((T ++ [(92:Int32)]) ++ [(117:Int32)]) ++ [(own_hx ((cc >>> ((12:Int32) &&& 31)) &&& (15:Int32)))]) ++ [(own_hx ((cc >>> ((8:Int32) &&& 31)) &&& (15:Int32)))]) ++ [(own_hx ((cc >>> ((4:Int32) &&& 31)) &&& (15:Int32)))])).length)) := by
      have q := Fv64_10
      rw [own_p1] at q
      exact q
    refine OwnFin.adv (B := T60.setTop (mkF m 166 #[VR ob, VI cc, VI sv, VI ((4:Int32) + (-4 : Int32))] [])) (fun _ k => XS.ishr X57.here hx rfl (hD d26_190) rfl (XS.bipush X57.here hx rfl (hD d26_191) (XS.iand X57.here hx rfl (hD d26_193) rfl (X57.baloadBytes hx (j := ((cc >>> ((4:Int32) &&& 31)) &&& (15:Int32))) (v := (.int (own_hx ((cc >>> ((4:Int32) &&& 31)) &&& (15:Int32))))) (by rw [e57]; exact Ar59.1) (State.isArrayOf_alike hZ.alike Ar59.2.1) Ar59.2.2 hin59 (Has.at H59 hin59 (by rw [own_mapget]; exact congrArg Value.int (own_hexg (own_m15 _)))) (g := (mkF m 194 #[VR ob, VI cc, VI sv, VI (4:Int32)] [(.int ((cc >>> ((4:Int32) &&& 31)) &&& (15:Int32))), (.ref hxa), (.int (Int32.ofNat (((((T ++ [(92:Int32)]) ++ [(117:Int32)]) ++ [(own_hx ((cc >>> ((12:Int32) &&& 31)) &&& (15:Int32)))]) ++ [(own_hx ((cc >>> ((8:Int32) &&& 31)) &&& (15:Int32)))])).length)), (.ref ba)])) rfl rfl (hD d26_194) _ (st60 _ (XS.iinc X60.here hx rfl (hD d26_196) rfl (l' := #[VR ob, VI cc, VI sv, VI ((4:Int32) + (-4 : Int32))]) rfl (XS.goto X60.here hx rfl (pc0 := 199) (pc' := 166) rfl (hD d26_199) (by decide) (by decide) k))))))) ?_
    rw [show (((4:Int32) + (-4 : Int32)) : Int32) = (0:Int32) from by decide]
    have hc167_93 : ¬ ((0:Int32) < (0:Int32)) := by decide
    have Fv65_10 := ((Fv51_8.other W55 (Or.inr (own_sn0 hw))).other W60 (Or.inl (Nat.ne_of_lt la_1)))
    obtain ⟨T66, X66, e66, st66⟩ := getF X60 hx hZ hown (host := "") (Or.inl (own_w hw 48 rfl)) Via.refl e60 Fv65_10 (g := (mkF m 171 #[VR ob, VI cc, VI sv, VI (0:Int32)] [(.ref ob)])) rfl rfl (hD d26_171)
    obtain ⟨T67, X67, e67, st67⟩ := getF X66 hx hZ hown (host := "") (Or.inl (own_w hw 60 rfl)) Via.refl e66 Fz63 (g := (mkF m 176 #[VR ob, VI cc, VI sv, VI (0:Int32)] [(.ref ob), (.ref ob), (.ref ba)])) rfl rfl (hD d26_176)
    have Fv68_10 := ((Fv54_8.wr W55).wr W60)
    obtain ⟨T69, h69, X69, e69, W69, st69⟩ := putF X67 hx hZ hown (host := "") (Or.inl (own_w hw 60 rfl)) Via.refl e67 Fz63 Fv68_10 (Or.inl (own_w hw 61 rfl)) (own_w hw 42 rfl) (ty := .int) (by decide) rfl rfl (g := (mkF m 182 #[VR ob, VI cc, VI sv, VI (0:Int32)] [(.int ((Int32.ofNat ((((((T ++ [(92:Int32)]) ++ [(117:Int32)]) ++ [(own_hx ((cc >>> ((12:Int32) &&& 31)) &&& (15:Int32)))]) ++ [(own_hx ((cc >>> ((8:Int32) &&& 31)) &&& (15:Int32)))]) ++ [(own_hx ((cc >>> ((4:Int32) &&& 31)) &&& (15:Int32)))])).length) + (1:Int32))), (.ref ob), (.int (Int32.ofNat ((((((T ++ [(92:Int32)]) ++ [(117:Int32)]) ++ [(own_hx ((cc >>> ((12:Int32) &&& 31)) &&& (15:Int32)))]) ++ [(own_hx ((cc >>> ((8:Int32) &&& 31)) &&& (15:Int32)))]) ++ [(own_hx ((cc >>> ((4:Int32) &&& 31)) &&& (15:Int32)))])).length)), (.ref ba)])) rfl rfl (hD d26_182)
    have Fw69 : Fld Z h69 ob "tramline/routes/JsonWriter" "size" "I" (.int ((Int32.ofNat ((((((T ++ [(92:Int32)]) ++ [(117:Int32)]) ++ [(own_hx ((cc >>> ((12:Int32) &&& 31)) &&& (15:Int32)))]) ++ [(own_hx ((cc >>> ((8:Int32) &&& 31)) &&& (15:Int32)))]) ++ [(own_hx ((cc >>> ((4:Int32) &&& 31)) &&& (15:Int32)))])).length) + (1:Int32))) := Fz63.same W69
    have sz70 : h60.size ≤ h69.size := Nat.le_of_eq W69.size.symm
    have N69 := Fr.snoc X69 N60 (by omega : n0 ≤ ob)
    have Old72 : Old Z n0 h69 := ((Old58.wr W60 (by omega)).wr W69 (by omega))
    obtain ⟨T71, X71, e71, st71⟩ := getS2 X69 hx hZ hown (host := "") (Or.inl (own_w hw 135 rfl)) Via.refl e69 (own_staK Sh Old72) (g := (mkF m 185 #[VR ob, VI cc, VI sv, VI (0:Int32)] [(.int (Int32.ofNat ((((((T ++ [(92:Int32)]) ++ [(117:Int32)]) ++ [(own_hx ((cc >>> ((12:Int32) &&& 31)) &&& (15:Int32)))]) ++ [(own_hx ((cc >>> ((8:Int32) &&& 31)) &&& (15:Int32)))]) ++ [(own_hx ((cc >>> ((4:Int32) &&& 31)) &&& (15:Int32)))])).length)), (.ref ba)])) rfl (hD d26_185)
    refine OwnFin.adv (B := T71.setTop (mkF m 190 #[VR ob, VI cc, VI sv, VI (0:Int32)] [(.int 0), (.int cc), (.ref hxa), (.int (Int32.ofNat ((((((T ++ [(92:Int32)]) ++ [(117:Int32)]) ++ [(own_hx ((cc >>> ((12:Int32) &&& 31)) &&& (15:Int32)))]) ++ [(own_hx ((cc >>> ((8:Int32) &&& 31)) &&& (15:Int32)))]) ++ [(own_hx ((cc >>> ((4:Int32) &&& 31)) &&& (15:Int32)))])).length)), (.ref ba)])) (fun _ k => XS.iloadN X60.here hx rfl (hD d26_166) rfl (XS.ifNo X60.here hx rfl (hD d26_167) rfl ((if0 _ _).trans (flt hc167_93).1) (XS.aloadN X60.here hx rfl (hD d26_170) rfl rfl (st66 _ (XS.aloadN X66.here hx rfl (hD d26_174) rfl rfl (XS.dup X66.here hx rfl (hD d26_175) rfl rfl (st67 _ (XS.dupX1 X67.here hx rfl (hD d26_179) rfl rfl rfl (XS.iconst X67.here hx rfl (hD d26_180) (XS.iadd X67.here hx rfl (hD d26_181) rfl (st69 _ (st71 _ (XS.iloadN X71.here hx rfl (hD d26_188) rfl (XS.iloadN X71.here hx rfl (hD d26_189) rfl k)))))))))))))) ?_
    obtain ⟨cl73, Ar73, ck73, S73, M73, H73, G73⟩ := id (Vh.ext Old72.2)
    have hin73 : ¬ (((cc >>> ((0:Int32) &&& 31)) &&& (15:Int32)) < 0 ∨ cl73.slots.size ≤ (((cc >>> ((0:Int32) &&& 31)) &&& (15:Int32))).toNatClampNeg) := inb_of S73 ⟨(own_m15 _).1, (own_m15 _).2⟩
    have Fv75_11 := (V60.other W69 (Nat.ne_of_gt la_1))
    obtain ⟨cl74, Ar74, ck74, S74, M74, H74, G74⟩ := id Fv75_11
    have hin74 := own_in256 (n := ((((((T ++ [(92:Int32)]) ++ [(117:Int32)]) ++ [(own_hx ((cc >>> ((12:Int32) &&& 31)) &&& (15:Int32)))]) ++ [(own_hx ((cc >>> ((8:Int32) &&& 31)) &&& (15:Int32)))]) ++ [(own_hx ((cc >>> ((4:Int32) &&& 31)) &&& (15:Int32)))])).length) S74 (own_leI lb60 (by decide))
    obtain ⟨T74, h74, X74, e74, W74, st74⟩ := stB X71 hx hZ e71 Ar74 (j := (Int32.ofNat ((((((T ++ [(92:Int32)]) ++ [(117:Int32)]) ++ [(own_hx ((cc >>> ((12:Int32) &&& 31)) &&& (15:Int32)))]) ++ [(own_hx ((cc >>> ((8:Int32) &&& 31)) &&& (15:Int32)))]) ++ [(own_hx ((cc >>> ((4:Int32) &&& 31)) &&& (15:Int32)))])).length)) hin74 (g := (mkF m 195 #[VR ob, VI cc, VI sv, VI (0:Int32)] [(.int (own_hx ((cc >>> ((0:Int32) &&& 31)) &&& (15:Int32)))), (.int (Int32.ofNat ((((((T ++ [(92:Int32)]) ++ [(117:Int32)]) ++ [(own_hx ((cc >>> ((12:Int32) &&& 31)) &&& (15:Int32)))]) ++ [(own_hx ((cc >>> ((8:Int32) &&& 31)) &&& (15:Int32)))]) ++ [(own_hx ((cc >>> ((4:Int32) &&& 31)) &&& (15:Int32)))])).length)), (.ref ba)])) rfl rfl (hD d26_195)
    have V74 : Arv Z h74 ba kb .byte (256:Int32) ((((((((T ++ [(92:Int32)]) ++ [(117:Int32)]) ++ [(own_hx ((cc >>> ((12:Int32) &&& 31)) &&& (15:Int32)))]) ++ [(own_hx ((cc >>> ((8:Int32) &&& 31)) &&& (15:Int32)))]) ++ [(own_hx ((cc >>> ((4:Int32) &&& 31)) &&& (15:Int32)))]) ++ [(own_hx ((cc >>> ((0:Int32) &&& 31)) &&& (15:Int32)))])).map Value.int) (.int 0) := own_push Fv75_11 W74 (own_hxb (own_m15 _)) (own_leL lb60 (by decide))
    have lb74 : OwnLe ((((((T ++ [(92:Int32)]) ++ [(117:Int32)]) ++ [(own_hx ((cc >>> ((12:Int32) &&& 31)) &&& (15:Int32)))]) ++ [(own_hx ((cc >>> ((8:Int32) &&& 31)) &&& (15:Int32)))]) ++ [(own_hx ((cc >>> ((4:Int32) &&& 31)) &&& (15:Int32)))]) ++ [(own_hx ((cc >>> ((0:Int32) &&& 31)) &&& (15:Int32)))]) 196 := own_leS lb60
    have sz76 : h69.size ≤ h74.size := Nat.le_of_eq W74.size.symm
    have N74 := Fr.snoc X74 N69 (by omega : n0 ≤ ba)
    have Fv78_12 := (Fw69.other W74 (Or.inl (Nat.ne_of_lt la_1)))
    have Fz77 : Fld Z h74 ob "tramline/routes/JsonWriter" "size" "I" (.int (Int32.ofNat (((((((T ++ [(92:Int32)]) ++ [(117:Int32)]) ++ [(own_hx ((cc >>> ((12:Int32) &&& 31)) &&& (15:Int32)))]) ++ [(own_hx ((cc >>> ((8:Int32) &&& 31)) &&& (15:Int32)))]) ++ [(own_hx ((cc >>> ((4:Int32) &&& 31)) &&& (15:Int32)))]) ++ [(own_hx ((cc >>> ((0:Int32) &&& 31)) &&& (15:Int32)))])).length)) := by
      have q := Fv78_12
      rw [own_p1] at q
      exact q
    refine OwnFin.adv (B := T74.setTop (mkF m 166 #[VR ob, VI cc, VI sv, VI ((0:Int32) + (-4 : Int32))] [])) (fun _ k => XS.ishr X71.here hx rfl (hD d26_190) rfl (XS.bipush X71.here hx rfl (hD d26_191) (XS.iand X71.here hx rfl (hD d26_193) rfl (X71.baloadBytes hx (j := ((cc >>> ((0:Int32) &&& 31)) &&& (15:Int32))) (v := (.int (own_hx ((cc >>> ((0:Int32) &&& 31)) &&& (15:Int32))))) (by rw [e71]; exact Ar73.1) (State.isArrayOf_alike hZ.alike Ar73.2.1) Ar73.2.2 hin73 (Has.at H73 hin73 (by rw [own_mapget]; exact congrArg Value.int (own_hexg (own_m15 _)))) (g := (mkF m 194 #[VR ob, VI cc, VI sv, VI (0:Int32)] [(.int ((cc >>> ((0:Int32) &&& 31)) &&& (15:Int32))), (.ref hxa), (.int (Int32.ofNat ((((((T ++ [(92:Int32)]) ++ [(117:Int32)]) ++ [(own_hx ((cc >>> ((12:Int32) &&& 31)) &&& (15:Int32)))]) ++ [(own_hx ((cc >>> ((8:Int32) &&& 31)) &&& (15:Int32)))]) ++ [(own_hx ((cc >>> ((4:Int32) &&& 31)) &&& (15:Int32)))])).length)), (.ref ba)])) rfl rfl (hD d26_194) _ (st74 _ (XS.iinc X74.here hx rfl (hD d26_196) rfl (l' := #[VR ob, VI cc, VI sv, VI ((0:Int32) + (-4 : Int32))]) rfl (XS.goto X74.here hx rfl (pc0 := 199) (pc' := 166) rfl (hD d26_199) (by decide) (by decide) k))))))) ?_
    rw [show (((0:Int32) + (-4 : Int32)) : Int32) = (-4 : Int32) from by decide]
    have hc167_114 : (-4 : Int32) < (0:Int32) := by decide
    obtain ⟨fs, hr, hrun, hended, hW, hsame⟩ := X74.leave (v := none) (fun _ => rfl)
    refine OwnFin.adv (B := T74.setTop (mkF m 202 #[VR ob, VI cc, VI sv, VI (-4 : Int32)] [])) (fun _ k => XS.iloadN X74.here hx rfl (hD d26_166) rfl (XS.ifYes X74.here hx rfl (pc0 := 167) (pc' := 202) rfl (hD d26_167) rfl ((if0 _ _).trans (tlt hc167_114).1) (by decide) (by decide) k)) ?_
    refine OwnFin.leaf hP' ⟨_, _, X74.returnOut hx Bd.returns (hD d26_202) hr, hrun, hended, _, _, rfl, ?_, ⟨_, rfl⟩, hW, hsame.mono (by decide) (by decide)⟩
    have hTT : ((((((T ++ [(92:Int32)]) ++ [(117:Int32)]) ++ [(own_hx ((cc >>> ((12:Int32) &&& 31)) &&& (15:Int32)))]) ++ [(own_hx ((cc >>> ((8:Int32) &&& 31)) &&& (15:Int32)))]) ++ [(own_hx ((cc >>> ((4:Int32) &&& 31)) &&& (15:Int32)))]) ++ [(own_hx ((cc >>> ((0:Int32) &&& 31)) &&& (15:Int32)))]) = T ++ ((92:Int32) :: own_esc cc) := by rw [hs3]; simp [own_hexs]
    have Fv79_12 := ((Fv68_10.wr W69).wr W74)
    have Fv80_12 := ((Fv65_10.other W69 (Or.inr (own_sn0 hw))).other W74 (Or.inl (Nat.ne_of_lt la_1)))
    have Fv81_12 := ((((((((((((fobjects_1.other W4 (Or.inr (own_sn1 hw))).other W6 (Or.inl (Nat.ne_of_lt la_1))).other W16 (Or.inr (own_sn1 hw))).other W18 (Or.inl (Nat.ne_of_lt la_1))).other W27 (Or.inr (own_sn1 hw))).other W32 (Or.inl (Nat.ne_of_lt la_1))).other W41 (Or.inr (own_sn1 hw))).other W46 (Or.inl (Nat.ne_of_lt la_1))).other W55 (Or.inr (own_sn1 hw))).other W60 (Or.inl (Nat.ne_of_lt la_1))).other W69 (Or.inr (own_sn1 hw))).other W74 (Or.inl (Nat.ne_of_lt la_1)))
    have Fv82_12 := ((((((((((((fbegun_1.other W4 (Or.inr (own_sn2 hw))).other W6 (Or.inl (Nat.ne_of_lt la_1))).other W16 (Or.inr (own_sn2 hw))).other W18 (Or.inl (Nat.ne_of_lt la_1))).other W27 (Or.inr (own_sn2 hw))).other W32 (Or.inl (Nat.ne_of_lt la_1))).other W41 (Or.inr (own_sn2 hw))).other W46 (Or.inl (Nat.ne_of_lt la_1))).other W55 (Or.inr (own_sn2 hw))).other W60 (Or.inl (Nat.ne_of_lt la_1))).other W69 (Or.inr (own_sn2 hw))).other W74 (Or.inl (Nat.ne_of_lt la_1)))
    have Fv83_12 := ((((((((((((fdepth_1.other W4 (Or.inr (own_sn3 hw))).other W6 (Or.inl (Nat.ne_of_lt la_1))).other W16 (Or.inr (own_sn3 hw))).other W18 (Or.inl (Nat.ne_of_lt la_1))).other W27 (Or.inr (own_sn3 hw))).other W32 (Or.inl (Nat.ne_of_lt la_1))).other W41 (Or.inr (own_sn3 hw))).other W46 (Or.inl (Nat.ne_of_lt la_1))).other W55 (Or.inr (own_sn3 hw))).other W60 (Or.inl (Nat.ne_of_lt la_1))).other W69 (Or.inr (own_sn3 hw))).other W74 (Or.inl (Nat.ne_of_lt la_1)))
    have Fv84_12 := ((((((((((((fnamed_1.other W4 (Or.inr (own_sn4 hw))).other W6 (Or.inl (Nat.ne_of_lt la_1))).other W16 (Or.inr (own_sn4 hw))).other W18 (Or.inl (Nat.ne_of_lt la_1))).other W27 (Or.inr (own_sn4 hw))).other W32 (Or.inl (Nat.ne_of_lt la_1))).other W41 (Or.inr (own_sn4 hw))).other W46 (Or.inl (Nat.ne_of_lt la_1))).other W55 (Or.inr (own_sn4 hw))).other W60 (Or.inl (Nat.ne_of_lt la_1))).other W69 (Or.inr (own_sn4 hw))).other W74 (Or.inl (Nat.ne_of_lt la_1)))
    have Fv85_12 := ((((((((((((fstarted_1.other W4 (Or.inr (own_sn5 hw))).other W6 (Or.inl (Nat.ne_of_lt la_1))).other W16 (Or.inr (own_sn5 hw))).other W18 (Or.inl (Nat.ne_of_lt la_1))).other W27 (Or.inr (own_sn5 hw))).other W32 (Or.inl (Nat.ne_of_lt la_1))).other W41 (Or.inr (own_sn5 hw))).other W46 (Or.inl (Nat.ne_of_lt la_1))).other W55 (Or.inr (own_sn5 hw))).other W60 (Or.inl (Nat.ne_of_lt la_1))).other W69 (Or.inr (own_sn5 hw))).other W74 (Or.inl (Nat.ne_of_lt la_1)))
    have Fv86_12 := ((((((((((((Vo1.other W4 (Nat.ne_of_gt ld_1)).other W6 (Nat.ne_of_gt lb_1)).other W16 (Nat.ne_of_gt ld_1)).other W18 (Nat.ne_of_gt lb_1)).other W27 (Nat.ne_of_gt ld_1)).other W32 (Nat.ne_of_gt lb_1)).other W41 (Nat.ne_of_gt ld_1)).other W46 (Nat.ne_of_gt lb_1)).other W55 (Nat.ne_of_gt ld_1)).other W60 (Nat.ne_of_gt lb_1)).other W69 (Nat.ne_of_gt ld_1)).other W74 (Nat.ne_of_gt lb_1))
    have Fv87_12 := ((((((((((((Vg1.other W4 (Nat.ne_of_gt le_1)).other W6 (Nat.ne_of_gt lf_1)).other W16 (Nat.ne_of_gt le_1)).other W18 (Nat.ne_of_gt lf_1)).other W27 (Nat.ne_of_gt le_1)).other W32 (Nat.ne_of_gt lf_1)).other W41 (Nat.ne_of_gt le_1)).other W46 (Nat.ne_of_gt lf_1)).other W55 (Nat.ne_of_gt le_1)).other W60 (Nat.ne_of_gt lf_1)).other W69 (Nat.ne_of_gt le_1)).other W74 (Nat.ne_of_gt lf_1))
    rw [show (T74.setFrames fs).heap = h74 from e74]
    exact ⟨rfl, N74, (((((((((((((Keep.refl h0 [ob, ba, oa, ga]).wr W4 (Or.inl (List.mem_of_getElem? (i := 0) rfl))).wr W6 (Or.inl (List.mem_of_getElem? (i := 1) rfl))).wr W16 (Or.inl (List.mem_of_getElem? (i := 0) rfl))).wr W18 (Or.inl (List.mem_of_getElem? (i := 1) rfl))).wr W27 (Or.inl (List.mem_of_getElem? (i := 0) rfl))).wr W32 (Or.inl (List.mem_of_getElem? (i := 1) rfl))).wr W41 (Or.inl (List.mem_of_getElem? (i := 0) rfl))).wr W46 (Or.inl (List.mem_of_getElem? (i := 1) rfl))).wr W55 (Or.inl (List.mem_of_getElem? (i := 0) rfl))).wr W60 (Or.inl (List.mem_of_getElem? (i := 1) rfl))).wr W69 (Or.inl (List.mem_of_getElem? (i := 0) rfl))).wr W74 (Or.inl (List.mem_of_getElem? (i := 1) rfl))), by rw [← hTT]; exact ⟨Fv79_12, Fv80_12, Fz77, Fv81_12, Fv82_12, Fv83_12, Fv84_12, Fv85_12, V74, Fv86_12, Fv87_12, own_lt la_1, own_lt lb_1, own_lt lc_1⟩⟩
   ·
    obtain ⟨-, hs2, hs3⟩ := hsv.resolve_left (fun q => hc122 q.1)
    have Fv88_2 := ((fbytes_1.other W4 (Or.inr (own_sn0 hw))).other W6 (Or.inl (Nat.ne_of_lt la_1)))
    obtain ⟨T89, X89, e89, st89⟩ := getF XJ hx hZ hown (host := "") (Or.inl (own_w hw 48 rfl)) Via.refl eJ Fv88_2 (g := (mkF m 126 #[VR ob, VI cc, VI sv, .unset] [(.ref ob)])) rfl rfl (hD d26_126)
    obtain ⟨T90, X90, e90, st90⟩ := getF X89 hx hZ hown (host := "") (Or.inl (own_w hw 60 rfl)) Via.refl e89 Fz9 (g := (mkF m 131 #[VR ob, VI cc, VI sv, .unset] [(.ref ob), (.ref ob), (.ref ba)])) rfl rfl (hD d26_131)
    have Fv91_2 := ((Ew1.wr W4).wr W6)
    obtain ⟨T92, h92, X92, e92, W92, st92⟩ := putF X90 hx hZ hown (host := "") (Or.inl (own_w hw 60 rfl)) Via.refl e90 Fz9 Fv91_2 (Or.inl (own_w hw 61 rfl)) (own_w hw 42 rfl) (ty := .int) (by decide) rfl rfl (g := (mkF m 137 #[VR ob, VI cc, VI sv, .unset] [(.int ((Int32.ofNat ((T ++ [(92:Int32)])).length) + (1:Int32))), (.ref ob), (.int (Int32.ofNat ((T ++ [(92:Int32)])).length)), (.ref ba)])) rfl rfl (hD d26_137)
    have Fw92 : Fld Z h92 ob "tramline/routes/JsonWriter" "size" "I" (.int ((Int32.ofNat ((T ++ [(92:Int32)])).length) + (1:Int32))) := Fz9.same W92
    have sz93 : h6.size ≤ h92.size := Nat.le_of_eq W92.size.symm
    have N92 := Fr.snoc X92 NJ (by omega : n0 ≤ ob)
    have Fv95_3 := (V6.other W92 (Nat.ne_of_gt la_1))
    obtain ⟨cl94, Ar94, ck94, S94, M94, H94, G94⟩ := id Fv95_3
    have hin94 := own_in256 (n := ((T ++ [(92:Int32)])).length) S94 (own_leI lb6 (by decide))
    obtain ⟨T94, h94, X94, e94, W94, st94⟩ := stB X92 hx hZ e92 Ar94 (j := (Int32.ofNat ((T ++ [(92:Int32)])).length)) hin94 (g := (mkF m 141 #[VR ob, VI cc, VI sv, .unset] [(.int sv), (.int (Int32.ofNat ((T ++ [(92:Int32)])).length)), (.ref ba)])) rfl rfl (hD d26_141)
    have V94 : Arv Z h94 ba kb .byte (256:Int32) ((((T ++ [(92:Int32)]) ++ [(sv.toInt8.toInt32)])).map Value.int) (.int 0) := own_push Fv95_3 W94 rfl (own_leL lb6 (by decide))
    have lb94 : OwnLe ((T ++ [(92:Int32)]) ++ [(sv.toInt8.toInt32)]) 192 := own_leS lb6
    have sz96 : h92.size ≤ h94.size := Nat.le_of_eq W94.size.symm
    have N94 := Fr.snoc X94 N92 (by omega : n0 ≤ ba)
    have Fv98_4 := (Fw92.other W94 (Or.inl (Nat.ne_of_lt la_1)))
    have Fz97 : Fld Z h94 ob "tramline/routes/JsonWriter" "size" "I" (.int (Int32.ofNat (((T ++ [(92:Int32)]) ++ [(sv.toInt8.toInt32)])).length)) := by
      have q := Fv98_4
      rw [own_p1] at q
      exact q
    obtain ⟨fs, hr, hrun, hended, hW, hsame⟩ := X94.leave (v := none) (fun _ => rfl)
    refine OwnFin.adv (B := T94.setTop (mkF m 202 #[VR ob, VI cc, VI sv, .unset] [])) (fun _ k => XS.ifNo XJ.here hx rfl (hD d26_122) rfl ((if0 _ _).trans (feq hc122).1) (XS.aloadN XJ.here hx rfl (hD d26_125) rfl rfl (st89 _ (XS.aloadN X89.here hx rfl (hD d26_129) rfl rfl (XS.dup X89.here hx rfl (hD d26_130) rfl rfl (st90 _ (XS.dupX1 X90.here hx rfl (hD d26_134) rfl rfl rfl (XS.iconst X90.here hx rfl (hD d26_135) (XS.iadd X90.here hx rfl (hD d26_136) rfl (st92 _ (XS.iloadN X92.here hx rfl (hD d26_140) rfl (st94 _ (XS.goto X94.here hx rfl (pc0 := 142) (pc' := 202) rfl (hD d26_142) (by decide) (by decide) k))))))))))))) ?_
    refine OwnFin.leaf hP' ⟨_, _, X94.returnOut hx Bd.returns (hD d26_202) hr, hrun, hended, _, _, rfl, ?_, ⟨_, rfl⟩, hW, hsame.mono (by decide) (by decide)⟩
    have hTT : ((T ++ [(92:Int32)]) ++ [(sv.toInt8.toInt32)]) = T ++ ((92:Int32) :: own_esc cc) := by rw [hs3, hs2]; simp
    have Fv99_4 := ((Fv91_2.wr W92).wr W94)
    have Fv100_4 := ((Fv88_2.other W92 (Or.inr (own_sn0 hw))).other W94 (Or.inl (Nat.ne_of_lt la_1)))
    have Fv101_4 := ((((fobjects_1.other W4 (Or.inr (own_sn1 hw))).other W6 (Or.inl (Nat.ne_of_lt la_1))).other W92 (Or.inr (own_sn1 hw))).other W94 (Or.inl (Nat.ne_of_lt la_1)))
    have Fv102_4 := ((((fbegun_1.other W4 (Or.inr (own_sn2 hw))).other W6 (Or.inl (Nat.ne_of_lt la_1))).other W92 (Or.inr (own_sn2 hw))).other W94 (Or.inl (Nat.ne_of_lt la_1)))
    have Fv103_4 := ((((fdepth_1.other W4 (Or.inr (own_sn3 hw))).other W6 (Or.inl (Nat.ne_of_lt la_1))).other W92 (Or.inr (own_sn3 hw))).other W94 (Or.inl (Nat.ne_of_lt la_1)))
    have Fv104_4 := ((((fnamed_1.other W4 (Or.inr (own_sn4 hw))).other W6 (Or.inl (Nat.ne_of_lt la_1))).other W92 (Or.inr (own_sn4 hw))).other W94 (Or.inl (Nat.ne_of_lt la_1)))
    have Fv105_4 := ((((fstarted_1.other W4 (Or.inr (own_sn5 hw))).other W6 (Or.inl (Nat.ne_of_lt la_1))).other W92 (Or.inr (own_sn5 hw))).other W94 (Or.inl (Nat.ne_of_lt la_1)))
    have Fv106_4 := ((((Vo1.other W4 (Nat.ne_of_gt ld_1)).other W6 (Nat.ne_of_gt lb_1)).other W92 (Nat.ne_of_gt ld_1)).other W94 (Nat.ne_of_gt lb_1))
    have Fv107_4 := ((((Vg1.other W4 (Nat.ne_of_gt le_1)).other W6 (Nat.ne_of_gt lf_1)).other W92 (Nat.ne_of_gt le_1)).other W94 (Nat.ne_of_gt lf_1))
    rw [show (T94.setFrames fs).heap = h94 from e94]
    exact ⟨rfl, N94, (((((Keep.refl h0 [ob, ba, oa, ga]).wr W4 (Or.inl (List.mem_of_getElem? (i := 0) rfl))).wr W6 (Or.inl (List.mem_of_getElem? (i := 1) rfl))).wr W92 (Or.inl (List.mem_of_getElem? (i := 0) rfl))).wr W94 (Or.inl (List.mem_of_getElem? (i := 1) rfl))), by rw [← hTT]; exact ⟨Fv99_4, Fv100_4, Fz97, Fv101_4, Fv102_4, Fv103_4, Fv104_4, Fv105_4, V94, Fv106_4, Fv107_4, own_lt la_1, own_lt lb_1, own_lt lc_1⟩⟩
  refine OwnFin.adv (B := T6.setTop (mkF m 19 #[VR ob, VI cc, .unset, .unset] [(.int cc)])) (fun _ k => XS.iloadN X6.here hx rfl (hD d26_18) rfl k) ?_
  by_cases hs19_8 : cc = (8:Int32)
  ·
   refine OwnFin.adv (B := T6.setTop (mkF m 120 #[VR ob, VI cc, .unset, .unset] [(.int 98)])) (fun _ k => X6.lookupswitchHit hx (g := (mkF m 19 #[VR ob, VI cc, .unset, .unset] [(.int cc)])) rfl rfl (hb hby own_d26_19) (by decide) (a := 8) (off := 75) (by rw [hs19_8]; decide) (by show (0 : Int) ≤ 19 + 75; decide) _ (XS.bipush X6.here hx rfl (hD d26_94) (XS.goto X6.here hx rfl (pc0 := 96) (pc' := 120) rfl (hD d26_96) (by decide) (by decide) k))) ?_
   exact J120 (98:Int32) T6 _ X6 e6 N6 (Or.inr ⟨by decide, by decide, own_e8 hs19_8⟩)
  by_cases hs19_9 : cc = (9:Int32)
  ·
   refine OwnFin.adv (B := T6.setTop (mkF m 120 #[VR ob, VI cc, .unset, .unset] [(.int 116)])) (fun _ k => X6.lookupswitchHit hx (g := (mkF m 19 #[VR ob, VI cc, .unset, .unset] [(.int cc)])) rfl rfl (hb hby own_d26_19) (by decide) (a := 9) (off := 80) (by rw [hs19_9]; decide) (by show (0 : Int) ≤ 19 + 80; decide) _ (XS.bipush X6.here hx rfl (hD d26_99) (XS.goto X6.here hx rfl (pc0 := 101) (pc' := 120) rfl (hD d26_101) (by decide) (by decide) k))) ?_
   exact J120 (116:Int32) T6 _ X6 e6 N6 (Or.inr ⟨by decide, by decide, own_e9 hs19_9⟩)
  by_cases hs19_10 : cc = (10:Int32)
  ·
   refine OwnFin.adv (B := T6.setTop (mkF m 120 #[VR ob, VI cc, .unset, .unset] [(.int 110)])) (fun _ k => X6.lookupswitchHit hx (g := (mkF m 19 #[VR ob, VI cc, .unset, .unset] [(.int cc)])) rfl rfl (hb hby own_d26_19) (by decide) (a := 10) (off := 85) (by rw [hs19_10]; decide) (by show (0 : Int) ≤ 19 + 85; decide) _ (XS.bipush X6.here hx rfl (hD d26_104) (XS.goto X6.here hx rfl (pc0 := 106) (pc' := 120) rfl (hD d26_106) (by decide) (by decide) k))) ?_
   exact J120 (110:Int32) T6 _ X6 e6 N6 (Or.inr ⟨by decide, by decide, own_e10 hs19_10⟩)
  by_cases hs19_12 : cc = (12:Int32)
  ·
   refine OwnFin.adv (B := T6.setTop (mkF m 120 #[VR ob, VI cc, .unset, .unset] [(.int 102)])) (fun _ k => X6.lookupswitchHit hx (g := (mkF m 19 #[VR ob, VI cc, .unset, .unset] [(.int cc)])) rfl rfl (hb hby own_d26_19) (by decide) (a := 12) (off := 90) (by rw [hs19_12]; decide) (by show (0 : Int) ≤ 19 + 90; decide) _ (XS.bipush X6.here hx rfl (hD d26_109) (XS.goto X6.here hx rfl (pc0 := 111) (pc' := 120) rfl (hD d26_111) (by decide) (by decide) k))) ?_
   exact J120 (102:Int32) T6 _ X6 e6 N6 (Or.inr ⟨by decide, by decide, own_e12 hs19_12⟩)
  by_cases hs19_13 : cc = (13:Int32)
  ·
   refine OwnFin.adv (B := T6.setTop (mkF m 120 #[VR ob, VI cc, .unset, .unset] [(.int 114)])) (fun _ k => X6.lookupswitchHit hx (g := (mkF m 19 #[VR ob, VI cc, .unset, .unset] [(.int cc)])) rfl rfl (hb hby own_d26_19) (by decide) (a := 13) (off := 95) (by rw [hs19_13]; decide) (by show (0 : Int) ≤ 19 + 95; decide) _ (XS.bipush X6.here hx rfl (hD d26_114) (XS.goto X6.here hx rfl (pc0 := 116) (pc' := 120) rfl (hD d26_116) (by decide) (by decide) k))) ?_
   exact J120 (114:Int32) T6 _ X6 e6 N6 (Or.inr ⟨by decide, by decide, own_e13 hs19_13⟩)
  by_cases hs19_34 : cc = (34:Int32)
  ·
   refine OwnFin.adv (B := T6.setTop (mkF m 120 #[VR ob, VI cc, .unset, .unset] [(.int 34)])) (fun _ k => X6.lookupswitchHit hx (g := (mkF m 19 #[VR ob, VI cc, .unset, .unset] [(.int cc)])) rfl rfl (hb hby own_d26_19) (by decide) (a := 34) (off := 65) (by rw [hs19_34]; decide) (by show (0 : Int) ≤ 19 + 65; decide) _ (XS.bipush X6.here hx rfl (hD d26_84) (XS.goto X6.here hx rfl (pc0 := 86) (pc' := 120) rfl (hD d26_86) (by decide) (by decide) k))) ?_
   exact J120 (34:Int32) T6 _ X6 e6 N6 (Or.inr ⟨by decide, by decide, own_e34 hs19_34⟩)
  by_cases hs19_92 : cc = (92:Int32)
  ·
   refine OwnFin.adv (B := T6.setTop (mkF m 120 #[VR ob, VI cc, .unset, .unset] [(.int 92)])) (fun _ k => X6.lookupswitchHit hx (g := (mkF m 19 #[VR ob, VI cc, .unset, .unset] [(.int cc)])) rfl rfl (hb hby own_d26_19) (by decide) (a := 92) (off := 70) (by rw [hs19_92]; decide) (by show (0 : Int) ≤ 19 + 70; decide) _ (XS.bipush X6.here hx rfl (hD d26_89) (XS.goto X6.here hx rfl (pc0 := 91) (pc' := 120) rfl (hD d26_91) (by decide) (by decide) k))) ?_
   exact J120 (92:Int32) T6 _ X6 e6 N6 (Or.inr ⟨by decide, by decide, own_e92 hs19_92⟩)
  refine OwnFin.adv (B := T6.setTop (mkF m 120 #[VR ob, VI cc, .unset, .unset] [(.int 0)])) (fun _ k => X6.lookupswitchMiss hx (g := (mkF m 19 #[VR ob, VI cc, .unset, .unset] [(.int cc)])) rfl rfl (hb hby own_d26_19) (by decide) (own_miss hs19_8 hs19_9 hs19_10 hs19_12 hs19_13 hs19_34 hs19_92) (by show (0 : Int) ≤ 19 + 100; decide) _ (XS.iconst X6.here hx rfl (hD d26_119) k)) ?_
  exact J120 (0:Int32) T6 _ X6 e6 N6 (Or.inl ⟨rfl, own_eX hs19_34 hs19_92 hs19_8 hs19_9 hs19_10 hs19_12 hs19_13⟩)
theorem own_57 {c : Int32} (h : ¬ c < (57344 : Int32)) : (57343 : Int32) < c := by
  rw [Int32.lt_iff_toInt_lt, show (57344 : Int32).toInt = 57344 from by decide] at h
  rw [Int32.lt_iff_toInt_lt, show (57343 : Int32).toInt = 57343 from by decide]; omega
theorem own_57n {c : Int32} (h1 : ¬ c < (55296 : Int32)) (h : c < (57344 : Int32)) : ¬ (c < 55296 ∨ 57343 < c) := by
  rw [Int32.lt_iff_toInt_lt, show (57344 : Int32).toInt = 57344 from by decide] at h
  intro q
  rcases q with q | q
  · exact h1 q
  · rw [Int32.lt_iff_toInt_lt, show (57343 : Int32).toInt = 57343 from by decide] at q; omega
theorem d44_0 : decode B44 0 = .ok (.iload_n 0, 1) := by decide +kernel
theorem d44_1 : decode B44 1 = .ok (.ldc 75, 2) := by decide +kernel
theorem d44_3 : decode B44 3 = .ok (.if_icmp .lt 13, 3) := by decide +kernel
theorem d44_16 : decode B44 16 = .ok (.iconst 0, 1) := by decide +kernel
theorem d44_17 : decode B44 17 = .ok (.ireturn, 1) := by decide +kernel
theorem d44_6 : decode B44 6 = .ok (.iload_n 0, 1) := by decide +kernel
theorem d44_7 : decode B44 7 = .ok (.ldc 77, 2) := by decide +kernel
theorem d44_9 : decode B44 9 = .ok (.if_icmp .ge 7, 3) := by decide +kernel
theorem d44_12 : decode B44 12 = .ok (.iconst 1, 1) := by decide +kernel
theorem d44_13 : decode B44 13 = .ok (.goto 4, 3) := by decide +kernel
theorem own_ef_isSur (m : MethodId) (x0 : Int32) : entryFrame m #[(.int x0)] 1 = mkF m 0 #[.val (.int x0)] [] := by first | (simp [entryFrame, mkF, argsToLocals, Value.category]; done) | rfl
theorem own_pn_java_lang_Character : plainName "java/lang/Character" = true := by first | (simp [plainName, overriddenIn]; done) | decide +kernel
def own_Q_isSur (Z : State) (cc : Int32) (h0 : Heap) (n0 : Nat) (v : Option Value) (h : Heap) (L : List Loc) : Prop := v = some (.int (if cc < 55296 ∨ 57343 < cc then (0 : Int32) else 1)) ∧ Fr n0 L ∧ h = h0
set_option maxRecDepth 65536 in
set_option maxHeartbeats 40000000 in
theorem own_isSur (l : Launch) (Z : State) (a0 : Array Value) (hw : ∀ d ∈ tables_1, d.before a0 Z = true) (ws : List Jvm.Cond) (cc : Int32) (h0 : Heap) (n0 : Nat) (Z0 : n0 ≤ h0.size) :
    MetFree l own_M44 (head1 (Jvm.Cond.code own_M44 jdk_89_method_16_code 1 (some .boolean) :: ws) ({ frames := 0, cells := 0, slots := 0, locals := 0 } : Room)) (fun A0 U0 => A0 = #[(.int cc)] ∧ Z.Warmed39 U0.vm ∧ U0.heap = h0) (fun _ _ _ _ _ => True) (fun _ U0 o0 U1 => ∃ v0 L0, o0 = .returned v0 ∧ own_Q_isSur Z cc h0 n0 v0 U1.heap L0 ∧ FrameEnd U0 o0 U1 L0 0 0) := by
  refine MetFree.of_bodySF (plainFor_of_name own_pn_java_lang_Character) hisR ?_
  intro p e s m args below meth c s₁ Bd hml0 hP hK
  obtain ⟨rfl, hZ, hh⟩ := hP
  have hZs0 := hZ
  have hZs := hZ
  have hx := Bd.exec
  have hby := Bd.bytes
  have hD : ∀ {pc : Nat} {r : Except DecodeError (Instr × Nat)}, decode jdk_89_method_16_code pc = r → decode c.code pc = r := fun q => hb hby q
  have hml : c.maxLocals = 1 := hml0
  have hown : s.vm.findClass "java/lang/Character" = some m.cls := findClass_of_methodNamed Bd.named
  have hnm := (name_of_methodNamed Bd.named Bd.method).1
  have X0 : Stand p l e ({ frames := 0, cells := 0, slots := 0, locals := 0 } : Room) s m #[(.int cc)] below meth c s₁ [] 0 0 := Stand.of_body Bd
  have e0 : s₁.heap = h0 := by rw [← hh, Bd.state]; rfl
  have N0 := Fr.nil n0
  refine OwnFin.entry (own_ef_isSur m cc) (fun P' hP' => ?_)
  refine OwnFin.adv (B := s₁.setTop (mkF m 3 #[VI cc] [(.int 55296), (.int cc)])) (fun _ k => XS.iloadN X0.here hx rfl (hD d44_0) rfl (X0.ldcInt hx hown (mvT hZ (own_w hw 213 rfl)) (g := (mkF m 1 #[VI cc] [(.int cc)])) rfl (hD d44_1) _ k)) ?_
  by_cases hc3 : cc < (55296:Int32)
  ·
   obtain ⟨fs, hr, hrun, hended, hW, hsame⟩ := X0.leave (v := some (.int 0)) (fun h => by rw [Bd.returns] at h; cases h)
   refine OwnFin.adv (B := s₁.setTop (mkF m 17 #[VI cc] [(.int 0)])) (fun _ k => XS.icmpYes X0.here hx rfl (pc0 := 3) (pc' := 16) rfl (hD d44_3) rfl (tlt hc3).1 (by decide) (by decide) (XS.iconst X0.here hx rfl (hD d44_16) k)) ?_
   refine OwnFin.leaf hP' ⟨_, _, retN X0 hx (t := .boolean) Bd.returns (by simp) (hD d44_17) hr, hrun, hended, _, _, rfl, ?_, ⟨_, rfl⟩, hW, hsame.mono (by decide) (by decide)⟩
   exact ⟨by rw [if_pos (Or.inl hc3)], N0, e0⟩
  ·
   refine OwnFin.adv (B := s₁.setTop (mkF m 9 #[VI cc] [(.int 57344), (.int cc)])) (fun _ k => XS.icmpNo X0.here hx rfl (hD d44_3) rfl (flt hc3).1 (XS.iloadN X0.here hx rfl (hD d44_6) rfl (X0.ldcInt hx hown (mvT hZ (own_w hw 217 rfl)) (g := (mkF m 7 #[VI cc] [(.int cc)])) rfl (hD d44_7) _ k))) ?_
   by_cases hc9 : cc < (57344:Int32)
   ·
    obtain ⟨fs, hr, hrun, hended, hW, hsame⟩ := X0.leave (v := some (.int 1)) (fun h => by rw [Bd.returns] at h; cases h)
    refine OwnFin.adv (B := s₁.setTop (mkF m 17 #[VI cc] [(.int 1)])) (fun _ k => XS.icmpNo X0.here hx rfl (hD d44_9) rfl (tlt hc9).2.1 (XS.iconst X0.here hx rfl (hD d44_12) (XS.goto X0.here hx rfl (pc0 := 13) (pc' := 17) rfl (hD d44_13) (by decide) (by decide) k))) ?_
    refine OwnFin.leaf hP' ⟨_, _, retN X0 hx (t := .boolean) Bd.returns (by simp) (hD d44_17) hr, hrun, hended, _, _, rfl, ?_, ⟨_, rfl⟩, hW, hsame.mono (by decide) (by decide)⟩
    exact ⟨by rw [if_neg (own_57n hc3 hc9)], N0, e0⟩
   ·
    obtain ⟨fs, hr, hrun, hended, hW, hsame⟩ := X0.leave (v := some (.int 0)) (fun h => by rw [Bd.returns] at h; cases h)
    refine OwnFin.adv (B := s₁.setTop (mkF m 17 #[VI cc] [(.int 0)])) (fun _ k => XS.icmpYes X0.here hx rfl (pc0 := 9) (pc' := 16) rfl (hD d44_9) rfl (flt hc9).2.1 (by decide) (by decide) (XS.iconst X0.here hx rfl (hD d44_16) k)) ?_
    refine OwnFin.leaf hP' ⟨_, _, retN X0 hx (t := .boolean) Bd.returns (by simp) (hD d44_17) hr, hrun, hended, _, _, rfl, ?_, ⟨_, rfl⟩, hW, hsame.mono (by decide) (by decide)⟩
    exact ⟨by rw [if_pos (Or.inr (own_57 hc9))], N0, e0⟩
theorem own_if0 {P : Prop} [Decidable P] (h : (if P then (0 : Int32) else 1) = 0) : P := by
  by_cases q : P
  · exact q
  · rw [if_neg q] at h; exact absurd h (by decide)
theorem own_if1 {P : Prop} [Decidable P] (h : ¬ (if P then (0 : Int32) else 1) = 0) : ¬ P := fun q => h (if_pos q)
theorem own_nlt {a b : Nat} (ha : a ≤ 100000) (hb : b ≤ 100000) (h : ¬ Int32.ofNat a < Int32.ofNat b) : b ≤ a := by
  rw [own_ltn ha hb] at h; omega
theorem own_tb {tP X T Y cs : List Int32} {k : Nat} (h : tP ++ own_encs X = T ++ own_encs Y) (hy : Y.length ≤ cs.length) (hc : cs.length ≤ 4) (hT : OwnLe T k) : OwnLe tP (k + 24) := by
  have q := congrArg List.length h
  have q2 := own_encslen Y
  simp only [List.length_append] at q
  unfold OwnLe at hT ⊢
  omega
theorem d25_0 : decode B25 0 = .ok (.aload_n 1, 1) := by decide +kernel
theorem own_pd12 : parseMethodDescriptor "()I" = some ⟨[], some .int⟩ := by decide +kernel
theorem d25_1 : decode B25 1 = .ok (.invokevirtual 127, 3) := by decide +kernel
theorem d25_4 : decode B25 4 = .ok (.istore_n 3, 1) := by decide +kernel
theorem d25_5 : decode B25 5 = .ok (.iload_n 2, 1) := by decide +kernel
theorem d25_6 : decode B25 6 = .ok (.iload_n 3, 1) := by decide +kernel
theorem d25_7 : decode B25 7 = .ok (.if_icmp .ge 237, 3) := by decide +kernel
theorem d25_244 : decode B25 244 = .ok (.return_, 1) := by decide +kernel
theorem d25_10 : decode B25 10 = .ok (.aload_n 1, 1) := by decide +kernel
theorem d25_11 : decode B25 11 = .ok (.iload_n 2, 1) := by decide +kernel
theorem own_pd13 : parseMethodDescriptor "(I)C" = some ⟨[.int], some .char⟩ := by decide +kernel
theorem d25_12 : decode B25 12 = .ok (.invokevirtual 135, 3) := by decide +kernel
theorem d25_15 : decode B25 15 = .ok (.istore 4, 2) := by decide +kernel
theorem d25_17 : decode B25 17 = .ok (.iload 4, 2) := by decide +kernel
theorem d25_19 : decode B25 19 = .ok (.sipush 128, 3) := by decide +kernel
theorem d25_22 : decode B25 22 = .ok (.if_icmp .ge 55, 3) := by decide +kernel
theorem d25_25 : decode B25 25 = .ok (.iload 4, 2) := by decide +kernel
theorem d25_27 : decode B25 27 = .ok (.bipush 32, 2) := by decide +kernel
theorem d25_29 : decode B25 29 = .ok (.if_icmp .lt 39, 3) := by decide +kernel
theorem d25_68 : decode B25 68 = .ok (.aload_n 0, 1) := by decide +kernel
theorem d25_69 : decode B25 69 = .ok (.iload 4, 2) := by decide +kernel
theorem own_pd14 : parseMethodDescriptor "(C)V" = some ⟨[.char], none⟩ := by decide +kernel
theorem d25_71 : decode B25 71 = .ok (.invokevirtual 143, 3) := by decide +kernel
theorem own_selp_26 {Z : State} {a0 : Array Value} (hw : ∀ d ∈ tables_1, d.before a0 Z = true) : (Cond.selects "tramline/routes/JsonWriter" own_M26 own_M26).before a0 Z = true := own_selp (y := own_M26) (z := own_M11) (own_w hw 132 rfl) (own_w hw 133 rfl) (own_w hw 56 rfl) (notFace_of_selects (args := a0) (own_w hw 58 rfl)) rfl (by decide)
theorem d25_74 : decode B25 74 = .ok (.goto 164, 3) := by decide +kernel
theorem d25_238 : decode B25 238 = .ok (.iinc 2 1, 3) := by decide +kernel
theorem d25_241 : decode B25 241 = .ok (.goto (-236), 3) := by decide +kernel
theorem d25_32 : decode B25 32 = .ok (.iload 4, 2) := by decide +kernel
theorem d25_34 : decode B25 34 = .ok (.bipush 34, 2) := by decide +kernel
theorem d25_36 : decode B25 36 = .ok (.if_icmp .eq 32, 3) := by decide +kernel
theorem d25_39 : decode B25 39 = .ok (.iload 4, 2) := by decide +kernel
theorem d25_41 : decode B25 41 = .ok (.bipush 92, 2) := by decide +kernel
theorem d25_43 : decode B25 43 = .ok (.if_icmp .eq 25, 3) := by decide +kernel
theorem d25_46 : decode B25 46 = .ok (.aload_n 0, 1) := by decide +kernel
theorem d25_47 : decode B25 47 = .ok (.getfield 7, 3) := by decide +kernel
theorem d25_50 : decode B25 50 = .ok (.aload_n 0, 1) := by decide +kernel
theorem d25_51 : decode B25 51 = .ok (.dup, 1) := by decide +kernel
theorem d25_52 : decode B25 52 = .ok (.getfield 106, 3) := by decide +kernel
theorem d25_55 : decode B25 55 = .ok (.dup_x1, 1) := by decide +kernel
theorem d25_56 : decode B25 56 = .ok (.iconst 1, 1) := by decide +kernel
theorem d25_57 : decode B25 57 = .ok (.iadd, 1) := by decide +kernel
theorem d25_58 : decode B25 58 = .ok (.putfield 106, 3) := by decide +kernel
theorem d25_61 : decode B25 61 = .ok (.iload 4, 2) := by decide +kernel
theorem d25_63 : decode B25 63 = .ok (.i2b, 1) := by decide +kernel
theorem d25_64 : decode B25 64 = .ok (.bastore, 1) := by decide +kernel
theorem d25_65 : decode B25 65 = .ok (.goto 173, 3) := by decide +kernel
theorem d25_77 : decode B25 77 = .ok (.iload 4, 2) := by decide +kernel
theorem d25_79 : decode B25 79 = .ok (.sipush 2048, 3) := by decide +kernel
theorem d25_82 : decode B25 82 = .ok (.if_icmp .ge 58, 3) := by decide +kernel
theorem d25_85 : decode B25 85 = .ok (.aload_n 0, 1) := by decide +kernel
theorem d25_86 : decode B25 86 = .ok (.getfield 7, 3) := by decide +kernel
theorem d25_89 : decode B25 89 = .ok (.aload_n 0, 1) := by decide +kernel
theorem d25_90 : decode B25 90 = .ok (.dup, 1) := by decide +kernel
theorem d25_91 : decode B25 91 = .ok (.getfield 106, 3) := by decide +kernel
theorem d25_94 : decode B25 94 = .ok (.dup_x1, 1) := by decide +kernel
theorem d25_95 : decode B25 95 = .ok (.iconst 1, 1) := by decide +kernel
theorem d25_96 : decode B25 96 = .ok (.iadd, 1) := by decide +kernel
theorem d25_97 : decode B25 97 = .ok (.putfield 106, 3) := by decide +kernel
theorem d25_100 : decode B25 100 = .ok (.sipush 192, 3) := by decide +kernel
theorem d25_103 : decode B25 103 = .ok (.iload 4, 2) := by decide +kernel
theorem d25_105 : decode B25 105 = .ok (.bipush 6, 2) := by decide +kernel
theorem d25_107 : decode B25 107 = .ok (.ishr, 1) := by decide +kernel
theorem d25_108 : decode B25 108 = .ok (.ior, 1) := by decide +kernel
theorem d25_109 : decode B25 109 = .ok (.i2b, 1) := by decide +kernel
theorem d25_110 : decode B25 110 = .ok (.bastore, 1) := by decide +kernel
theorem d25_111 : decode B25 111 = .ok (.aload_n 0, 1) := by decide +kernel
theorem d25_112 : decode B25 112 = .ok (.getfield 7, 3) := by decide +kernel
theorem d25_115 : decode B25 115 = .ok (.aload_n 0, 1) := by decide +kernel
theorem d25_116 : decode B25 116 = .ok (.dup, 1) := by decide +kernel
theorem d25_117 : decode B25 117 = .ok (.getfield 106, 3) := by decide +kernel
theorem d25_120 : decode B25 120 = .ok (.dup_x1, 1) := by decide +kernel
theorem d25_121 : decode B25 121 = .ok (.iconst 1, 1) := by decide +kernel
theorem d25_122 : decode B25 122 = .ok (.iadd, 1) := by decide +kernel
theorem d25_123 : decode B25 123 = .ok (.putfield 106, 3) := by decide +kernel
theorem d25_126 : decode B25 126 = .ok (.sipush 128, 3) := by decide +kernel
theorem d25_129 : decode B25 129 = .ok (.iload 4, 2) := by decide +kernel
theorem d25_131 : decode B25 131 = .ok (.bipush 63, 2) := by decide +kernel
theorem d25_133 : decode B25 133 = .ok (.iand, 1) := by decide +kernel
theorem d25_134 : decode B25 134 = .ok (.ior, 1) := by decide +kernel
theorem d25_135 : decode B25 135 = .ok (.i2b, 1) := by decide +kernel
theorem d25_136 : decode B25 136 = .ok (.bastore, 1) := by decide +kernel
theorem d25_137 : decode B25 137 = .ok (.goto 101, 3) := by decide +kernel
theorem d25_140 : decode B25 140 = .ok (.iload 4, 2) := by decide +kernel
theorem own_pd15 : parseMethodDescriptor "(C)Z" = some ⟨[.char], some .boolean⟩ := by decide +kernel
theorem d25_142 : decode B25 142 = .ok (.invokestatic 147, 3) := by decide +kernel
theorem d25_145 : decode B25 145 = .ok (.ifCond .eq 12, 3) := by decide +kernel
theorem d25_157 : decode B25 157 = .ok (.aload_n 0, 1) := by decide +kernel
theorem d25_158 : decode B25 158 = .ok (.getfield 7, 3) := by decide +kernel
theorem d25_161 : decode B25 161 = .ok (.aload_n 0, 1) := by decide +kernel
theorem d25_162 : decode B25 162 = .ok (.dup, 1) := by decide +kernel
theorem d25_163 : decode B25 163 = .ok (.getfield 106, 3) := by decide +kernel
theorem d25_166 : decode B25 166 = .ok (.dup_x1, 1) := by decide +kernel
theorem d25_167 : decode B25 167 = .ok (.iconst 1, 1) := by decide +kernel
theorem d25_168 : decode B25 168 = .ok (.iadd, 1) := by decide +kernel
theorem d25_169 : decode B25 169 = .ok (.putfield 106, 3) := by decide +kernel
theorem d25_172 : decode B25 172 = .ok (.sipush 224, 3) := by decide +kernel
theorem d25_175 : decode B25 175 = .ok (.iload 4, 2) := by decide +kernel
theorem d25_177 : decode B25 177 = .ok (.bipush 12, 2) := by decide +kernel
theorem d25_179 : decode B25 179 = .ok (.ishr, 1) := by decide +kernel
theorem d25_180 : decode B25 180 = .ok (.ior, 1) := by decide +kernel
theorem d25_181 : decode B25 181 = .ok (.i2b, 1) := by decide +kernel
theorem d25_182 : decode B25 182 = .ok (.bastore, 1) := by decide +kernel
theorem d25_183 : decode B25 183 = .ok (.aload_n 0, 1) := by decide +kernel
theorem d25_184 : decode B25 184 = .ok (.getfield 7, 3) := by decide +kernel
theorem d25_187 : decode B25 187 = .ok (.aload_n 0, 1) := by decide +kernel
theorem d25_188 : decode B25 188 = .ok (.dup, 1) := by decide +kernel
theorem d25_189 : decode B25 189 = .ok (.getfield 106, 3) := by decide +kernel
theorem d25_192 : decode B25 192 = .ok (.dup_x1, 1) := by decide +kernel
theorem d25_193 : decode B25 193 = .ok (.iconst 1, 1) := by decide +kernel
theorem d25_194 : decode B25 194 = .ok (.iadd, 1) := by decide +kernel
theorem d25_195 : decode B25 195 = .ok (.putfield 106, 3) := by decide +kernel
theorem d25_198 : decode B25 198 = .ok (.sipush 128, 3) := by decide +kernel
theorem d25_201 : decode B25 201 = .ok (.iload 4, 2) := by decide +kernel
theorem d25_203 : decode B25 203 = .ok (.bipush 6, 2) := by decide +kernel
theorem d25_205 : decode B25 205 = .ok (.ishr, 1) := by decide +kernel
theorem d25_206 : decode B25 206 = .ok (.bipush 63, 2) := by decide +kernel
theorem d25_208 : decode B25 208 = .ok (.iand, 1) := by decide +kernel
theorem d25_209 : decode B25 209 = .ok (.ior, 1) := by decide +kernel
theorem d25_210 : decode B25 210 = .ok (.i2b, 1) := by decide +kernel
theorem d25_211 : decode B25 211 = .ok (.bastore, 1) := by decide +kernel
theorem d25_212 : decode B25 212 = .ok (.aload_n 0, 1) := by decide +kernel
theorem d25_213 : decode B25 213 = .ok (.getfield 7, 3) := by decide +kernel
theorem d25_216 : decode B25 216 = .ok (.aload_n 0, 1) := by decide +kernel
theorem d25_217 : decode B25 217 = .ok (.dup, 1) := by decide +kernel
theorem d25_218 : decode B25 218 = .ok (.getfield 106, 3) := by decide +kernel
theorem d25_221 : decode B25 221 = .ok (.dup_x1, 1) := by decide +kernel
theorem d25_222 : decode B25 222 = .ok (.iconst 1, 1) := by decide +kernel
theorem d25_223 : decode B25 223 = .ok (.iadd, 1) := by decide +kernel
theorem d25_224 : decode B25 224 = .ok (.putfield 106, 3) := by decide +kernel
theorem d25_227 : decode B25 227 = .ok (.sipush 128, 3) := by decide +kernel
theorem d25_230 : decode B25 230 = .ok (.iload 4, 2) := by decide +kernel
theorem d25_232 : decode B25 232 = .ok (.bipush 63, 2) := by decide +kernel
theorem d25_234 : decode B25 234 = .ok (.iand, 1) := by decide +kernel
theorem d25_235 : decode B25 235 = .ok (.ior, 1) := by decide +kernel
theorem d25_236 : decode B25 236 = .ok (.i2b, 1) := by decide +kernel
theorem d25_237 : decode B25 237 = .ok (.bastore, 1) := by decide +kernel
theorem d25_148 : decode B25 148 = .ok (.aload_n 0, 1) := by decide +kernel
theorem d25_149 : decode B25 149 = .ok (.iload 4, 2) := by decide +kernel
theorem d25_151 : decode B25 151 = .ok (.invokevirtual 143, 3) := by decide +kernel
theorem d25_154 : decode B25 154 = .ok (.goto 84, 3) := by decide +kernel
theorem own_ef_rest (m : MethodId) (x0 : Addr) (x1 : Addr) (x2 : Int32) : entryFrame m #[(.ref x0), (.ref x1), (.int x2)] 5 = mkF m 0 #[.val (.ref x0), .val (.ref x1), .val (.int x2), .unset, .unset] [] := by first | (simp [entryFrame, mkF, argsToLocals, Value.category]; done) | rfl
def own_Q_rest (Z : State) (ob ba oa ga : Addr) (kb ko kg : ClassId) (T : List Int32) (dp : Int32) (bg : Int32) (sd : Int32) (so : Addr) (zc : Int32) (fm : Value) (lim ix : Nat) (cs : List Int32) (hxa : Addr) (kx : ClassId) (h0 : Heap) (n0 : Nat) (v : Option Value) (h : Heap) (L : List Loc) : Prop := v = none ∧ Fr n0 L ∧ Keep h0 h [ob, ba, oa, ga] ∧ OwnJ Z h ob ba oa ga kb ko kg (T ++ own_encs (cs.drop ix)) dp bg sd
set_option maxRecDepth 65536 in
set_option maxHeartbeats 40000000 in
theorem own_rest (l : Launch) (Z : State) (a0 : Array Value) (hw : ∀ d ∈ tables_1, d.before a0 Z = true) (ws : List Jvm.Cond) (ob ba oa ga : Addr) (kb ko kg : ClassId) (T : List Int32) (dp : Int32) (bg : Int32) (sd : Int32) (so : Addr) (zc : Int32) (fm : Value) (lim ix : Nat) (cs : List Int32) (hxa : Addr) (kx : ClassId) (h0 : Heap) (n0 : Nat) (Z0 : n0 ≤ h0.size) (O0 : Old Z n0 h0) (SCS : Sta Z Z.heap "java/lang/String" "COMPACT_STRINGS" "Z" (.int zc)) (hzc : ¬ zc = 0) (SFM : Sta Z Z.heap "jdk/internal/util/Preconditions" "SIOOBE_FORMATTER" "Ljava/util/function/BiFunction;" fm) (rfm : fm.isRef = true) (SAD : Sta Z Z.heap "java/lang/StringUTF16" "$assertionsDisabled" "Z" (.int (1 : Int32))) (SHI : Sta Z Z.heap "java/lang/StringUTF16" "HI_BYTE_SHIFT" "I" (.int (0 : Int32))) (SLO : Sta Z Z.heap "java/lang/StringUTF16" "LO_BYTE_SHIFT" "I" (.int (8 : Int32))) (Sh : Sta Z Z.heap "tramline/routes/JsonWriter" "HEX" "[B" (.ref hxa)) (Vh : Arv Z Z.heap hxa kx .byte (16 : Int32) (own_hexT.map Value.int) (.int (0 : Int32))) (Fs : OwnS Z h0 lim so cs) (hlim : lim ≤ ob) (hcs : cs.length ≤ 4) (hix : ix ≤ cs.length) (hT : OwnLe T 100) (J : OwnJ Z h0 ob ba oa ga kb ko kg (T) dp bg sd) (g_ob : n0 ≤ ob) :
    MetFree l own_M25 (head1 (Jvm.Cond.code own_M25 prog_32_method_22_code 5 none :: ws) ({ frames := 6, cells := 0, slots := 0, locals := 113 } : Room)) (fun A0 U0 => A0 = #[(.ref ob), (.ref so), (.int (Int32.ofNat ix))] ∧ Z.Warmed39 U0.vm ∧ U0.heap = h0) (fun _ _ _ _ _ => True) (fun _ U0 o0 U1 => ∃ v0 L0, o0 = .returned v0 ∧ own_Q_rest Z ob ba oa ga kb ko kg T dp bg sd so zc fm lim ix cs hxa kx h0 n0 v0 U1.heap L0 ∧ FrameEnd U0 o0 U1 L0 0 0) := by
  refine MetFree.of_bodySF (plainFor_of_name own_pn_tramline_routes_JsonWriter) hisR ?_
  intro p e s m args below meth c s₁ Bd hml0 hP hK
  obtain ⟨rfl, hZ, hh⟩ := hP
  have hZs0 := hZ
  have hZs := hZ
  have hx := Bd.exec
  have hby := Bd.bytes
  have hD : ∀ {pc : Nat} {r : Except DecodeError (Instr × Nat)}, decode prog_32_method_22_code pc = r → decode c.code pc = r := fun q => hb hby q
  have hml : c.maxLocals = 5 := hml0
  have hown : s.vm.findClass "tramline/routes/JsonWriter" = some m.cls := findClass_of_methodNamed Bd.named
  have hnm := (name_of_methodNamed Bd.named Bd.method).1
  have X0 : Stand p l e ({ frames := 6, cells := 0, slots := 0, locals := 113 } : Room) s m #[(.ref ob), (.ref so), (.int (Int32.ofNat ix))] below meth c s₁ [] 0 0 := Stand.of_body Bd
  have e0 : s₁.heap = h0 := by rw [← hh, Bd.state]; rfl
  have N0 := Fr.nil n0
  refine OwnFin.entry (own_ef_rest m ob so (Int32.ofNat ix)) (fun P' hP' => ?_)
  obtain ⟨Ew1, fbytes_1, fsize_1, fobjects_1, fbegun_1, fdepth_1, fnamed_1, fstarted_1, Vb1, Vo1, Vg1, la_1, lb_1, lc_1⟩ := id J
  have la_1 := own_lt la_1
  have lb_1 := own_lt lb_1
  have lc_1 := own_lt lc_1
  have lw1 := own_lt Ew1.lt
  have lg1 := own_lt Vg1.lt
  have ld_1 := Nat.lt_trans la_1 lb_1
  have lf_1 := Nat.lt_trans lb_1 lc_1
  have le_1 := Nat.lt_trans ld_1 lc_1
  obtain ⟨cq2, kq2, q2a, q2b, q2c⟩ := isOf hZ e0 (OwnS.exa Fs)
  obtain ⟨_, _, ⟨T2, L2, k2, n2⟩, -, X2, ⟨Lc2, hQ2, l2, y2, z2⟩, st2⟩ := X0.virtualBack hx (y := own_M17) (z := own_M17) hown (mvT hZ (own_w hw 91 rfl)) (mvT hZ (own_w hw 92 rfl)) (notFace_of_selects (args := #[]) (mvT hZ (own_w hw 94 rfl))) (mvT hZ (own_w hw 94 rfl)) (mvT hZ (own_w hw 93 rfl)) (by decide) (backOf (W := 0) (own_strLen l Z a0 hw [] so zc (lim) cs h0 n0 (by omega) O0 SCS hzc Fs) hZ (own_w hw 95 rfl) (own_w hw 4 rfl) (by decide) (by decide)) q2a q2c (g := (mkF m 1 #[VR ob, VR so, VI (Int32.ofNat ix), .unset, .unset] [(.ref so)])) rfl (by rw [hml]; rfl) (Steps.refl _) (argsL := []) (rest := []) (lenOf own_pd12 rfl) rfl (by show 2 * 0 + _ ≤ _; exact Nat.le_of_eq rfl) (hD d25_1) (fun _ _ => ⟨rfl, e0, (by decide : 0 + 0 ≤ _), (by decide : 0 + 0 ≤ _)⟩)
  dsimp only [Pt.U, Pt.locs, Pt.cells, Pt.slots] at X2 l2 y2 z2 st2 hQ2
  subst l2 y2 z2
  obtain ⟨rfl, N2q, eh2⟩ := hQ2
  have N2 := Fr.app N0 N2q
  refine OwnFin.adv (B := T2.setTop (mkF m 5 #[VR ob, VR so, VI (Int32.ofNat ix), VI (Int32.ofNat (cs).length), .unset] [])) (fun _ k => XS.aloadN X0.here hx rfl (hD d25_0) rfl rfl (st2.trans (XS.istoreN X2.here hx rfl (hD d25_4) rfl (l' := #[VR ob, VR so, VI (Int32.ofNat ix), VI (Int32.ofNat (cs).length), .unset]) rfl k))) ?_
  have L5 : ∀ (r : Nat) (i : Nat) (tP : List Int32) (s4 : Slot) (hJ : Heap) (TJ : State) (LJ : List Loc) (XJ : Stand p l e ({ frames := 6, cells := 0, slots := 0, locals := 113 } : Room) s m #[(.ref ob), (.ref so), (.int (Int32.ofNat ix))] below meth c TJ LJ 0 0) (eJ : TJ.heap = hJ) (NJ : Fr n0 LJ) (KJ : Keep h0 hJ [ob, ba, oa, ga]) (hr : i + r = cs.length) (hT1 : tP ++ own_encs (cs.drop i) = T ++ own_encs (cs.drop ix)) (FJ : OwnJ Z hJ ob ba oa ga kb ko kg (tP) dp bg sd) (Sj : OwnS Z hJ lim so cs) (hs4 : s4 = .unset ∨ ∃ x, s4 = .val (.int x)), OwnFin p.tables e below P' (TJ.setTop (mkF m 5 #[VR ob, VR so, VI (Int32.ofNat i), VI (Int32.ofNat (cs).length), s4] [])) := by
   intro r
   induction r with
   | zero =>
    intro i tP s4 hJ TJ LJ XJ eJ NJ KJ hr hT1 FJ Sj hs4
    have szJ : h0.size ≤ hJ.size := KJ.1
    have OJ : Old Z n0 hJ := O0.keep KJ (allS (by omega) (allS (by omega) (allS (by omega) (allS (by omega) all0))))
    have hbd : OwnLe tP 124 := own_tb (cs := cs) hT1 (by rw [List.length_drop]; omega) hcs hT
    obtain ⟨Ew3, fbytes_3, fsize_3, fobjects_3, fbegun_3, fdepth_3, fnamed_3, fstarted_3, Vb3, Vo3, Vg3, la_3, lb_3, lc_3⟩ := id FJ
    have la_3 := own_lt la_3
    have lb_3 := own_lt lb_3
    have lc_3 := own_lt lc_3
    have lw3 := own_lt Ew3.lt
    have lg3 := own_lt Vg3.lt
    have ld_3 := Nat.lt_trans la_3 lb_3
    have lf_3 := Nat.lt_trans lb_3 lc_3
    have le_3 := Nat.lt_trans ld_3 lc_3
    have hc7_7 : ¬ ((Int32.ofNat i) < (Int32.ofNat (cs).length)) := fun q => absurd ((own_ltn (by omega) (by omega)).mp q) (by omega)
    obtain ⟨fs, hr, hrun, hended, hW, hsame⟩ := XJ.leave (v := none) (fun _ => rfl)
    refine OwnFin.adv (B := TJ.setTop (mkF m 244 #[VR ob, VR so, VI (Int32.ofNat i), VI (Int32.ofNat (cs).length), s4] [])) (fun _ k => XS.iloadN XJ.here hx rfl (hD d25_5) rfl (XS.iloadN XJ.here hx rfl (hD d25_6) rfl (XS.icmpYes XJ.here hx rfl (pc0 := 7) (pc' := 244) rfl (hD d25_7) rfl (flt hc7_7).2.1 (by decide) (by decide) k))) ?_
    refine OwnFin.leaf hP' ⟨_, _, XJ.returnOut hx Bd.returns (hD d25_244) hr, hrun, hended, _, _, rfl, ?_, ⟨_, rfl⟩, hW, hsame.mono (by decide) (by decide)⟩
    have hTT : tP = T ++ own_encs (cs.drop ix) := by rw [← hT1, List.drop_eq_nil_of_le (by omega)]; simp [own_encs]
    rw [show (TJ.setFrames fs).heap = hJ from eJ]
    exact ⟨rfl, NJ, KJ, by rw [← hTT]; exact ⟨Ew3, fbytes_3, fsize_3, fobjects_3, fbegun_3, fdepth_3, fnamed_3, fstarted_3, Vb3, Vo3, Vg3, own_lt la_3, own_lt lb_3, own_lt lc_3⟩⟩
   | succ r ih =>
    intro i tP s4 hJ TJ LJ XJ eJ NJ KJ hr hT1 FJ Sj hs4
    have szJ : h0.size ≤ hJ.size := KJ.1
    have OJ : Old Z n0 hJ := O0.keep KJ (allS (by omega) (allS (by omega) (allS (by omega) (allS (by omega) all0))))
    have hbd : OwnLe tP 124 := own_tb (cs := cs) hT1 (by rw [List.length_drop]; omega) hcs hT
    obtain ⟨Ew4, fbytes_4, fsize_4, fobjects_4, fbegun_4, fdepth_4, fnamed_4, fstarted_4, Vb4, Vo4, Vg4, la_4, lb_4, lc_4⟩ := id FJ
    have la_4 := own_lt la_4
    have lb_4 := own_lt lb_4
    have lc_4 := own_lt lc_4
    have lw4 := own_lt Ew4.lt
    have lg4 := own_lt Vg4.lt
    have ld_4 := Nat.lt_trans la_4 lb_4
    have lf_4 := Nat.lt_trans lb_4 lc_4
    have le_4 := Nat.lt_trans ld_4 lc_4
    have hc7_7 : (Int32.ofNat i) < (Int32.ofNat (cs).length) := (own_ltn (by omega) (by omega)).mpr (by omega)
    obtain ⟨cq5, kq5, q5a, q5b, q5c⟩ := isOf hZ eJ (OwnS.exa Sj)
    obtain ⟨_, _, ⟨T5, L5, k5, n5⟩, -, X5, ⟨Lc5, hQ5, l5, y5, z5⟩, st5⟩ := XJ.virtualBack hx (y := own_M20) (z := own_M20) hown (mvT hZ (own_w hw 105 rfl)) (mvT hZ (own_w hw 106 rfl)) (notFace_of_selects (args := #[]) (mvT hZ (own_w hw 108 rfl))) (mvT hZ (own_w hw 108 rfl)) (mvT hZ (own_w hw 107 rfl)) (by decide) (backOf (W := 0) (own_strCh l Z a0 hw [] so zc fm (lim) (i) cs hJ n0 (by omega) OJ SCS hzc SFM rfm SAD SHI SLO Sj (by omega)) hZ (own_w hw 109 rfl) (own_w hw 4 rfl) (by decide) (by decide)) q5a q5c (g := (mkF m 12 #[VR ob, VR so, VI (Int32.ofNat i), VI (Int32.ofNat (cs).length), s4] [(.int (Int32.ofNat i)), (.ref so)])) rfl (by rw [hml]; rfl) (Steps.refl _) (argsL := [(.int (Int32.ofNat i))]) (rest := []) (lenOf own_pd13 rfl) rfl (by show 2 * 0 + _ ≤ _; exact Nat.le_of_eq rfl) (hD d25_12) (fun _ _ => ⟨rfl, eJ, (by decide : 0 + 0 ≤ _), (by decide : 0 + 0 ≤ _)⟩)
    dsimp only [Pt.U, Pt.locs, Pt.cells, Pt.slots] at X5 l5 y5 z5 st5 hQ5
    subst l5 y5 z5
    obtain ⟨rfl, N5q, eh5⟩ := hQ5
    have N5 := Fr.app NJ N5q
    have hi' : i < cs.length := by omega
    have hen := own_encsd hi'
    obtain ⟨cc, hcc⟩ : ∃ z, z = cs.getD i 0 := ⟨_, rfl⟩
    rw [← hcc] at hen
    refine OwnFin.adv (B := T5.setTop (mkF m 15 #[VR ob, VR so, VI (Int32.ofNat i), VI (Int32.ofNat (cs).length), s4] [(.int ((cs).getD (i) 0))])) (fun _ k => XS.iloadN XJ.here hx rfl (hD d25_5) rfl (XS.iloadN XJ.here hx rfl (hD d25_6) rfl (XS.icmpNo XJ.here hx rfl (hD d25_7) rfl (tlt hc7_7).2.1 (XS.aloadN XJ.here hx rfl (hD d25_10) rfl rfl (XS.iloadN XJ.here hx rfl (hD d25_11) rfl (st5.trans k)))))) ?_
    rw [show (((cs).getD (i) 0) : Int32) = cc from hcc.symm]
    refine OwnFin.adv (B := T5.setTop (mkF m 22 #[VR ob, VR so, VI (Int32.ofNat i), VI (Int32.ofNat (cs).length), VI cc] [(.int 128), (.int cc)])) (fun _ k => XS.istore X5.here hx rfl (hD d25_15) rfl (l' := #[VR ob, VR so, VI (Int32.ofNat i), VI (Int32.ofNat (cs).length), VI cc]) (by rcases hs4 with rfl | ⟨x, rfl⟩ <;> rfl) (XS.iload X5.here hx rfl (hD d25_17) rfl (XS.sipush X5.here hx rfl (hD d25_19) k))) ?_
    by_cases hc22 : cc < (128:Int32)
    ·
     refine OwnFin.adv (B := T5.setTop (mkF m 29 #[VR ob, VR so, VI (Int32.ofNat i), VI (Int32.ofNat (cs).length), VI cc] [(.int 32), (.int cc)])) (fun _ k => XS.icmpNo X5.here hx rfl (hD d25_22) rfl (tlt hc22).2.1 (XS.iload X5.here hx rfl (hD d25_25) rfl (XS.bipush X5.here hx rfl (hD d25_27) k))) ?_
     by_cases hc29 : cc < (32:Int32)
     ·
      have J7c : OwnJ Z hJ ob ba oa ga kb ko kg (tP) dp bg sd := ⟨Ew4, fbytes_4, fsize_4, fobjects_4, fbegun_4, fdepth_4, fnamed_4, fstarted_4, Vb4, Vo4, Vg4, own_lt la_4, own_lt lb_4, own_lt lc_4⟩
      obtain ⟨cq6, qp6, qp6'⟩ := Ew4.cell
      obtain ⟨_, _, ⟨T6, L6, k6, n6⟩, -, X6, ⟨Lc6, hQ6, l6, y6, z6⟩, st6⟩ := X5.privateBack hx (y := own_M26) hown (mvT hZ (own_w hw 131 rfl)) (mvT hZ (own_w hw 132 rfl)) (mvT hZ (own_selp_26 hw)) (Cond.privateMethod_at (mvP hZ (own_w hw 133 rfl) (args := #[]))) (mvT hZ (own_w hw 134 rfl)) (by decide) (backOf (W := 0) (own_escape l Z a0 hw [] ob ba oa ga kb ko kg (tP) dp bg sd cc hxa kx hJ n0 (by omega) OJ Sh Vh (own_leM hbd (by decide)) J7c (by omega)) hZ (own_w hw 134 rfl) (own_w hw 43 rfl) (by decide) (by decide)) (g := (mkF m 71 #[VR ob, VR so, VI (Int32.ofNat i), VI (Int32.ofNat (cs).length), VI cc] [(.int cc), (.ref ob)])) rfl (by rw [hml]; rfl) (Steps.refl _) (a := ob) (by rw [eh5]; exact qp6) qp6' (argsL := [(.int cc)]) (rest := []) (lenOf own_pd14 rfl) rfl (by show 2 * 0 + _ ≤ _; exact Nat.le_of_eq rfl) (hD d25_71) (fun _ _ => ⟨rfl, eh5, (by decide : 0 + 0 ≤ _), (by decide : 0 + 0 ≤ _)⟩)
      dsimp only [Pt.U, Pt.locs, Pt.cells, Pt.slots] at X6 l6 y6 z6 st6 hQ6
      subst l6 y6 z6
      obtain ⟨rfl, N6q, K6, FJ6⟩ := hQ6
      have N6 := Fr.app N5 N6q
      have sz8 : hJ.size ≤ T6.heap.size := K6.1
      have lb6 : OwnLe ((tP ++ ((92:Int32) :: own_esc cc))) 130 := own_leA hbd (own_escL cc)
      obtain ⟨Ew9, fbytes_9, fsize_9, fobjects_9, fbegun_9, fdepth_9, fnamed_9, fstarted_9, Vb9, Vo9, Vg9, la_9, lb_9, lc_9⟩ := id FJ6
      have la_9 := own_lt la_9
      have lb_9 := own_lt lb_9
      have lc_9 := own_lt lc_9
      have lw9 := own_lt Ew9.lt
      have lg9 := own_lt Vg9.lt
      have ld_9 := Nat.lt_trans la_9 lb_9
      have lf_9 := Nat.lt_trans lb_9 lc_9
      have le_9 := Nat.lt_trans ld_9 lc_9
      refine OwnFin.adv (B := T6.setTop (mkF m 5 #[VR ob, VR so, VI ((Int32.ofNat i) + (1:Int32)), VI (Int32.ofNat (cs).length), VI cc] [])) (fun _ k => XS.icmpYes X5.here hx rfl (pc0 := 29) (pc' := 68) rfl (hD d25_29) rfl (tlt hc29).1 (by decide) (by decide) (XS.aloadN X5.here hx rfl (hD d25_68) rfl rfl (XS.iload X5.here hx rfl (hD d25_69) rfl (st6.trans (XS.goto X6.here hx rfl (pc0 := 74) (pc' := 238) rfl (hD d25_74) (by decide) (by decide) (XS.iinc X6.here hx rfl (hD d25_238) rfl (l' := #[VR ob, VR so, VI ((Int32.ofNat i) + (1:Int32)), VI (Int32.ofNat (cs).length), VI cc]) rfl (XS.goto X6.here hx rfl (pc0 := 241) (pc' := 5) rfl (hD d25_241) (by decide) (by decide) k))))))) ?_
      rw [show (((Int32.ofNat i) + (1:Int32)) : Int32) = (Int32.ofNat (i + 1)) from own_add i 1]
      have Fv10_1 := (Sj.keep K6 (allS (by omega) (allS (by omega) (allS (by omega) (allS (by omega) all0)))))
      exact ih (i + 1) ((tP ++ ((92:Int32) :: own_esc cc))) (.val (.int cc)) T6.heap T6 _ (X6.mono (by decide) (by decide)) rfl N6 (KJ.trans K6 (allS (Or.inl (List.mem_of_getElem? (i := 0) rfl)) (allS (Or.inl (List.mem_of_getElem? (i := 1) rfl)) (allS (Or.inl (List.mem_of_getElem? (i := 2) rfl)) (allS (Or.inl (List.mem_of_getElem? (i := 3) rfl)) all0))))) (by omega) (by rw [← hT1, hen, own_encB hc22 (Or.inl hc29)]; simp) ⟨Ew9, fbytes_9, fsize_9, fobjects_9, fbegun_9, fdepth_9, fnamed_9, fstarted_9, Vb9, Vo9, Vg9, own_lt la_9, own_lt lb_9, own_lt lc_9⟩ Fv10_1 (Or.inr ⟨_, rfl⟩)
     ·
      refine OwnFin.adv (B := T5.setTop (mkF m 36 #[VR ob, VR so, VI (Int32.ofNat i), VI (Int32.ofNat (cs).length), VI cc] [(.int 34), (.int cc)])) (fun _ k => XS.icmpNo X5.here hx rfl (hD d25_29) rfl (flt hc29).1 (XS.iload X5.here hx rfl (hD d25_32) rfl (XS.bipush X5.here hx rfl (hD d25_34) k))) ?_
      by_cases hc36 : cc = (34:Int32)
      ·
       have J12c : OwnJ Z hJ ob ba oa ga kb ko kg (tP) dp bg sd := ⟨Ew4, fbytes_4, fsize_4, fobjects_4, fbegun_4, fdepth_4, fnamed_4, fstarted_4, Vb4, Vo4, Vg4, own_lt la_4, own_lt lb_4, own_lt lc_4⟩
       obtain ⟨cq11, qp11, qp11'⟩ := Ew4.cell
       obtain ⟨_, _, ⟨T11, L11, k11, n11⟩, -, X11, ⟨Lc11, hQ11, l11, y11, z11⟩, st11⟩ := X5.privateBack hx (y := own_M26) hown (mvT hZ (own_w hw 131 rfl)) (mvT hZ (own_w hw 132 rfl)) (mvT hZ (own_selp_26 hw)) (Cond.privateMethod_at (mvP hZ (own_w hw 133 rfl) (args := #[]))) (mvT hZ (own_w hw 134 rfl)) (by decide) (backOf (W := 0) (own_escape l Z a0 hw [] ob ba oa ga kb ko kg (tP) dp bg sd cc hxa kx hJ n0 (by omega) OJ Sh Vh (own_leM hbd (by decide)) J12c (by omega)) hZ (own_w hw 134 rfl) (own_w hw 43 rfl) (by decide) (by decide)) (g := (mkF m 71 #[VR ob, VR so, VI (Int32.ofNat i), VI (Int32.ofNat (cs).length), VI cc] [(.int cc), (.ref ob)])) rfl (by rw [hml]; rfl) (Steps.refl _) (a := ob) (by rw [eh5]; exact qp11) qp11' (argsL := [(.int cc)]) (rest := []) (lenOf own_pd14 rfl) rfl (by show 2 * 0 + _ ≤ _; exact Nat.le_of_eq rfl) (hD d25_71) (fun _ _ => ⟨rfl, eh5, (by decide : 0 + 0 ≤ _), (by decide : 0 + 0 ≤ _)⟩)
       dsimp only [Pt.U, Pt.locs, Pt.cells, Pt.slots] at X11 l11 y11 z11 st11 hQ11
       subst l11 y11 z11
       obtain ⟨rfl, N11q, K11, FJ11⟩ := hQ11
       have N11 := Fr.app N5 N11q
       have sz13 : hJ.size ≤ T11.heap.size := K11.1
       have lb11 : OwnLe ((tP ++ ((92:Int32) :: own_esc cc))) 130 := own_leA hbd (own_escL cc)
       obtain ⟨Ew14, fbytes_14, fsize_14, fobjects_14, fbegun_14, fdepth_14, fnamed_14, fstarted_14, Vb14, Vo14, Vg14, la_14, lb_14, lc_14⟩ := id FJ11
       have la_14 := own_lt la_14
       have lb_14 := own_lt lb_14
       have lc_14 := own_lt lc_14
       have lw14 := own_lt Ew14.lt
       have lg14 := own_lt Vg14.lt
       have ld_14 := Nat.lt_trans la_14 lb_14
       have lf_14 := Nat.lt_trans lb_14 lc_14
       have le_14 := Nat.lt_trans ld_14 lc_14
       refine OwnFin.adv (B := T11.setTop (mkF m 5 #[VR ob, VR so, VI ((Int32.ofNat i) + (1:Int32)), VI (Int32.ofNat (cs).length), VI cc] [])) (fun _ k => XS.icmpYes X5.here hx rfl (pc0 := 36) (pc' := 68) rfl (hD d25_36) rfl (teq hc36).1 (by decide) (by decide) (XS.aloadN X5.here hx rfl (hD d25_68) rfl rfl (XS.iload X5.here hx rfl (hD d25_69) rfl (st11.trans (XS.goto X11.here hx rfl (pc0 := 74) (pc' := 238) rfl (hD d25_74) (by decide) (by decide) (XS.iinc X11.here hx rfl (hD d25_238) rfl (l' := #[VR ob, VR so, VI ((Int32.ofNat i) + (1:Int32)), VI (Int32.ofNat (cs).length), VI cc]) rfl (XS.goto X11.here hx rfl (pc0 := 241) (pc' := 5) rfl (hD d25_241) (by decide) (by decide) k))))))) ?_
       rw [show (((Int32.ofNat i) + (1:Int32)) : Int32) = (Int32.ofNat (i + 1)) from own_add i 1]
       have Fv15_1 := (Sj.keep K11 (allS (by omega) (allS (by omega) (allS (by omega) (allS (by omega) all0)))))
       exact ih (i + 1) ((tP ++ ((92:Int32) :: own_esc cc))) (.val (.int cc)) T11.heap T11 _ (X11.mono (by decide) (by decide)) rfl N11 (KJ.trans K11 (allS (Or.inl (List.mem_of_getElem? (i := 0) rfl)) (allS (Or.inl (List.mem_of_getElem? (i := 1) rfl)) (allS (Or.inl (List.mem_of_getElem? (i := 2) rfl)) (allS (Or.inl (List.mem_of_getElem? (i := 3) rfl)) all0))))) (by omega) (by rw [← hT1, hen, own_encB hc22 (Or.inr (Or.inl hc36))]; simp) ⟨Ew14, fbytes_14, fsize_14, fobjects_14, fbegun_14, fdepth_14, fnamed_14, fstarted_14, Vb14, Vo14, Vg14, own_lt la_14, own_lt lb_14, own_lt lc_14⟩ Fv15_1 (Or.inr ⟨_, rfl⟩)
      ·
       refine OwnFin.adv (B := T5.setTop (mkF m 43 #[VR ob, VR so, VI (Int32.ofNat i), VI (Int32.ofNat (cs).length), VI cc] [(.int 92), (.int cc)])) (fun _ k => XS.icmpNo X5.here hx rfl (hD d25_36) rfl (feq hc36).1 (XS.iload X5.here hx rfl (hD d25_39) rfl (XS.bipush X5.here hx rfl (hD d25_41) k))) ?_
       by_cases hc43 : cc = (92:Int32)
       ·
        have J17c : OwnJ Z hJ ob ba oa ga kb ko kg (tP) dp bg sd := ⟨Ew4, fbytes_4, fsize_4, fobjects_4, fbegun_4, fdepth_4, fnamed_4, fstarted_4, Vb4, Vo4, Vg4, own_lt la_4, own_lt lb_4, own_lt lc_4⟩
        obtain ⟨cq16, qp16, qp16'⟩ := Ew4.cell
        obtain ⟨_, _, ⟨T16, L16, k16, n16⟩, -, X16, ⟨Lc16, hQ16, l16, y16, z16⟩, st16⟩ := X5.privateBack hx (y := own_M26) hown (mvT hZ (own_w hw 131 rfl)) (mvT hZ (own_w hw 132 rfl)) (mvT hZ (own_selp_26 hw)) (Cond.privateMethod_at (mvP hZ (own_w hw 133 rfl) (args := #[]))) (mvT hZ (own_w hw 134 rfl)) (by decide) (backOf (W := 0) (own_escape l Z a0 hw [] ob ba oa ga kb ko kg (tP) dp bg sd cc hxa kx hJ n0 (by omega) OJ Sh Vh (own_leM hbd (by decide)) J17c (by omega)) hZ (own_w hw 134 rfl) (own_w hw 43 rfl) (by decide) (by decide)) (g := (mkF m 71 #[VR ob, VR so, VI (Int32.ofNat i), VI (Int32.ofNat (cs).length), VI cc] [(.int cc), (.ref ob)])) rfl (by rw [hml]; rfl) (Steps.refl _) (a := ob) (by rw [eh5]; exact qp16) qp16' (argsL := [(.int cc)]) (rest := []) (lenOf own_pd14 rfl) rfl (by show 2 * 0 + _ ≤ _; exact Nat.le_of_eq rfl) (hD d25_71) (fun _ _ => ⟨rfl, eh5, (by decide : 0 + 0 ≤ _), (by decide : 0 + 0 ≤ _)⟩)
        dsimp only [Pt.U, Pt.locs, Pt.cells, Pt.slots] at X16 l16 y16 z16 st16 hQ16
        subst l16 y16 z16
        obtain ⟨rfl, N16q, K16, FJ16⟩ := hQ16
        have N16 := Fr.app N5 N16q
        have sz18 : hJ.size ≤ T16.heap.size := K16.1
        have lb16 : OwnLe ((tP ++ ((92:Int32) :: own_esc cc))) 130 := own_leA hbd (own_escL cc)
        obtain ⟨Ew19, fbytes_19, fsize_19, fobjects_19, fbegun_19, fdepth_19, fnamed_19, fstarted_19, Vb19, Vo19, Vg19, la_19, lb_19, lc_19⟩ := id FJ16
        have la_19 := own_lt la_19
        have lb_19 := own_lt lb_19
        have lc_19 := own_lt lc_19
        have lw19 := own_lt Ew19.lt
        have lg19 := own_lt Vg19.lt
        have ld_19 := Nat.lt_trans la_19 lb_19
        have lf_19 := Nat.lt_trans lb_19 lc_19
        have le_19 := Nat.lt_trans ld_19 lc_19
        refine OwnFin.adv (B := T16.setTop (mkF m 5 #[VR ob, VR so, VI ((Int32.ofNat i) + (1:Int32)), VI (Int32.ofNat (cs).length), VI cc] [])) (fun _ k => XS.icmpYes X5.here hx rfl (pc0 := 43) (pc' := 68) rfl (hD d25_43) rfl (teq hc43).1 (by decide) (by decide) (XS.aloadN X5.here hx rfl (hD d25_68) rfl rfl (XS.iload X5.here hx rfl (hD d25_69) rfl (st16.trans (XS.goto X16.here hx rfl (pc0 := 74) (pc' := 238) rfl (hD d25_74) (by decide) (by decide) (XS.iinc X16.here hx rfl (hD d25_238) rfl (l' := #[VR ob, VR so, VI ((Int32.ofNat i) + (1:Int32)), VI (Int32.ofNat (cs).length), VI cc]) rfl (XS.goto X16.here hx rfl (pc0 := 241) (pc' := 5) rfl (hD d25_241) (by decide) (by decide) k))))))) ?_
        rw [show (((Int32.ofNat i) + (1:Int32)) : Int32) = (Int32.ofNat (i + 1)) from own_add i 1]
        have Fv20_1 := (Sj.keep K16 (allS (by omega) (allS (by omega) (allS (by omega) (allS (by omega) all0)))))
        exact ih (i + 1) ((tP ++ ((92:Int32) :: own_esc cc))) (.val (.int cc)) T16.heap T16 _ (X16.mono (by decide) (by decide)) rfl N16 (KJ.trans K16 (allS (Or.inl (List.mem_of_getElem? (i := 0) rfl)) (allS (Or.inl (List.mem_of_getElem? (i := 1) rfl)) (allS (Or.inl (List.mem_of_getElem? (i := 2) rfl)) (allS (Or.inl (List.mem_of_getElem? (i := 3) rfl)) all0))))) (by omega) (by rw [← hT1, hen, own_encB hc22 (Or.inr (Or.inr hc43))]; simp) ⟨Ew19, fbytes_19, fsize_19, fobjects_19, fbegun_19, fdepth_19, fnamed_19, fstarted_19, Vb19, Vo19, Vg19, own_lt la_19, own_lt lb_19, own_lt lc_19⟩ Fv20_1 (Or.inr ⟨_, rfl⟩)
       ·
        obtain ⟨T21, X21, e21, st21⟩ := getF X5 hx hZ hown (host := "") (Or.inl (own_w hw 48 rfl)) Via.refl eh5 fbytes_4 (g := (mkF m 47 #[VR ob, VR so, VI (Int32.ofNat i), VI (Int32.ofNat (cs).length), VI cc] [(.ref ob)])) rfl rfl (hD d25_47)
        obtain ⟨T22, X22, e22, st22⟩ := getF X21 hx hZ hown (host := "") (Or.inl (own_w hw 60 rfl)) Via.refl e21 fsize_4 (g := (mkF m 52 #[VR ob, VR so, VI (Int32.ofNat i), VI (Int32.ofNat (cs).length), VI cc] [(.ref ob), (.ref ob), (.ref ba)])) rfl rfl (hD d25_52)
        obtain ⟨T23, h23, X23, e23, W23, st23⟩ := putF X22 hx hZ hown (host := "") (Or.inl (own_w hw 60 rfl)) Via.refl e22 fsize_4 Ew4 (Or.inl (own_w hw 61 rfl)) (own_w hw 42 rfl) (ty := .int) (by decide) rfl rfl (g := (mkF m 58 #[VR ob, VR so, VI (Int32.ofNat i), VI (Int32.ofNat (cs).length), VI cc] [(.int ((Int32.ofNat (tP).length) + (1:Int32))), (.ref ob), (.int (Int32.ofNat (tP).length)), (.ref ba)])) rfl rfl (hD d25_58)
        have Fw23 : Fld Z h23 ob "tramline/routes/JsonWriter" "size" "I" (.int ((Int32.ofNat (tP).length) + (1:Int32))) := fsize_4.same W23
        have sz24 : hJ.size ≤ h23.size := Nat.le_of_eq W23.size.symm
        have N23 := Fr.snoc X23 N5 (by omega : n0 ≤ ob)
        have Fv26_1 := (Vb4.other W23 (Nat.ne_of_gt la_4))
        obtain ⟨cl25, Ar25, ck25, S25, M25, H25, G25⟩ := id Fv26_1
        have hin25 := own_in256 (n := (tP).length) S25 (own_leI hbd (by decide))
        obtain ⟨T25, h25, X25, e25, W25, st25⟩ := stB X23 hx hZ e23 Ar25 (j := (Int32.ofNat (tP).length)) hin25 (g := (mkF m 64 #[VR ob, VR so, VI (Int32.ofNat i), VI (Int32.ofNat (cs).length), VI cc] [(.int (cc.toInt8.toInt32)), (.int (Int32.ofNat (tP).length)), (.ref ba)])) rfl rfl (hD d25_64)
        have V25 : Arv Z h25 ba kb .byte (256:Int32) (((tP ++ [(cc.toInt8.toInt32)])).map Value.int) (.int 0) := own_push Fv26_1 W25 (own_narb _) (own_leL hbd (by decide))
        have lb25 : OwnLe (tP ++ [(cc.toInt8.toInt32)]) 125 := own_leS hbd
        have sz27 : h23.size ≤ h25.size := Nat.le_of_eq W25.size.symm
        have N25 := Fr.snoc X25 N23 (by omega : n0 ≤ ba)
        have Fv29_2 := (Fw23.other W25 (Or.inl (Nat.ne_of_lt la_4)))
        have Fz28 : Fld Z h25 ob "tramline/routes/JsonWriter" "size" "I" (.int (Int32.ofNat ((tP ++ [(cc.toInt8.toInt32)])).length)) := by
          have q := Fv29_2
          rw [own_p1] at q
          exact q
        refine OwnFin.adv (B := T25.setTop (mkF m 238 #[VR ob, VR so, VI (Int32.ofNat i), VI (Int32.ofNat (cs).length), VI cc] [])) (fun _ k => XS.icmpNo X5.here hx rfl (hD d25_43) rfl (feq hc43).1 (XS.aloadN X5.here hx rfl (hD d25_46) rfl rfl (st21 _ (XS.aloadN X21.here hx rfl (hD d25_50) rfl rfl (XS.dup X21.here hx rfl (hD d25_51) rfl rfl (st22 _ (XS.dupX1 X22.here hx rfl (hD d25_55) rfl rfl rfl (XS.iconst X22.here hx rfl (hD d25_56) (XS.iadd X22.here hx rfl (hD d25_57) rfl (st23 _ (XS.iload X23.here hx rfl (hD d25_61) rfl (XS.i2b X23.here hx rfl (hD d25_63) rfl (st25 _ (XS.goto X25.here hx rfl (pc0 := 65) (pc' := 238) rfl (hD d25_65) (by decide) (by decide) k)))))))))))))) ?_
        refine OwnFin.adv (B := T25.setTop (mkF m 5 #[VR ob, VR so, VI ((Int32.ofNat i) + (1:Int32)), VI (Int32.ofNat (cs).length), VI cc] [])) (fun _ k => XS.iinc X25.here hx rfl (hD d25_238) rfl (l' := #[VR ob, VR so, VI ((Int32.ofNat i) + (1:Int32)), VI (Int32.ofNat (cs).length), VI cc]) rfl (XS.goto X25.here hx rfl (pc0 := 241) (pc' := 5) rfl (hD d25_241) (by decide) (by decide) k)) ?_
        rw [show (((Int32.ofNat i) + (1:Int32)) : Int32) = (Int32.ofNat (i + 1)) from own_add i 1]
        have Fv30_2 := ((Ew4.wr W23).wr W25)
        have Fv31_2 := ((fbytes_4.other W23 (Or.inr (own_sn0 hw))).other W25 (Or.inl (Nat.ne_of_lt la_4)))
        have Fv32_2 := ((fobjects_4.other W23 (Or.inr (own_sn1 hw))).other W25 (Or.inl (Nat.ne_of_lt la_4)))
        have Fv33_2 := ((fbegun_4.other W23 (Or.inr (own_sn2 hw))).other W25 (Or.inl (Nat.ne_of_lt la_4)))
        have Fv34_2 := ((fdepth_4.other W23 (Or.inr (own_sn3 hw))).other W25 (Or.inl (Nat.ne_of_lt la_4)))
        have Fv35_2 := ((fnamed_4.other W23 (Or.inr (own_sn4 hw))).other W25 (Or.inl (Nat.ne_of_lt la_4)))
        have Fv36_2 := ((fstarted_4.other W23 (Or.inr (own_sn5 hw))).other W25 (Or.inl (Nat.ne_of_lt la_4)))
        have Fv37_2 := ((Vo4.other W23 (Nat.ne_of_gt ld_4)).other W25 (Nat.ne_of_gt lb_4))
        have Fv38_2 := ((Vg4.other W23 (Nat.ne_of_gt le_4)).other W25 (Nat.ne_of_gt lf_4))
        have Fv39_2 := ((Sj.wr W23 (by omega)).wr W25 (by omega))
        exact ih (i + 1) ((tP ++ [(cc.toInt8.toInt32)])) (.val (.int cc)) h25 T25 _ (X25.mono (by decide) (by decide)) e25 N25 ((KJ.wr W23 (Or.inl (List.mem_of_getElem? (i := 0) rfl))).wr W25 (Or.inl (List.mem_of_getElem? (i := 1) rfl))) (by omega) (by rw [← hT1, hen, own_encA hc22 hc29 hc36 hc43]; simp) ⟨Fv30_2, Fv31_2, Fz28, Fv32_2, Fv33_2, Fv34_2, Fv35_2, Fv36_2, V25, Fv37_2, Fv38_2, own_lt la_4, own_lt lb_4, own_lt lc_4⟩ Fv39_2 (Or.inr ⟨_, rfl⟩)
    ·
     refine OwnFin.adv (B := T5.setTop (mkF m 82 #[VR ob, VR so, VI (Int32.ofNat i), VI (Int32.ofNat (cs).length), VI cc] [(.int 2048), (.int cc)])) (fun _ k => XS.icmpYes X5.here hx rfl (pc0 := 22) (pc' := 77) rfl (hD d25_22) rfl (flt hc22).2.1 (by decide) (by decide) (XS.iload X5.here hx rfl (hD d25_77) rfl (XS.sipush X5.here hx rfl (hD d25_79) k))) ?_
     by_cases hc82 : cc < (2048:Int32)
     ·
      obtain ⟨T40, X40, e40, st40⟩ := getF X5 hx hZ hown (host := "") (Or.inl (own_w hw 48 rfl)) Via.refl eh5 fbytes_4 (g := (mkF m 86 #[VR ob, VR so, VI (Int32.ofNat i), VI (Int32.ofNat (cs).length), VI cc] [(.ref ob)])) rfl rfl (hD d25_86)
      obtain ⟨T41, X41, e41, st41⟩ := getF X40 hx hZ hown (host := "") (Or.inl (own_w hw 60 rfl)) Via.refl e40 fsize_4 (g := (mkF m 91 #[VR ob, VR so, VI (Int32.ofNat i), VI (Int32.ofNat (cs).length), VI cc] [(.ref ob), (.ref ob), (.ref ba)])) rfl rfl (hD d25_91)
      obtain ⟨T42, h42, X42, e42, W42, st42⟩ := putF X41 hx hZ hown (host := "") (Or.inl (own_w hw 60 rfl)) Via.refl e41 fsize_4 Ew4 (Or.inl (own_w hw 61 rfl)) (own_w hw 42 rfl) (ty := .int) (by decide) rfl rfl (g := (mkF m 97 #[VR ob, VR so, VI (Int32.ofNat i), VI (Int32.ofNat (cs).length), VI cc] [(.int ((Int32.ofNat (tP).length) + (1:Int32))), (.ref ob), (.int (Int32.ofNat (tP).length)), (.ref ba)])) rfl rfl (hD d25_97)
      have Fw42 : Fld Z h42 ob "tramline/routes/JsonWriter" "size" "I" (.int ((Int32.ofNat (tP).length) + (1:Int32))) := fsize_4.same W42
      have sz43 : hJ.size ≤ h42.size := Nat.le_of_eq W42.size.symm
      have N42 := Fr.snoc X42 N5 (by omega : n0 ≤ ob)
      refine OwnFin.adv (B := T42.setTop (mkF m 108 #[VR ob, VR so, VI (Int32.ofNat i), VI (Int32.ofNat (cs).length), VI cc] [(.int (cc >>> ((6:Int32) &&& 31))), (.int 192), (.int (Int32.ofNat (tP).length)), (.ref ba)])) (fun _ k => XS.icmpNo X5.here hx rfl (hD d25_82) rfl (tlt hc82).2.1 (XS.aloadN X5.here hx rfl (hD d25_85) rfl rfl (st40 _ (XS.aloadN X40.here hx rfl (hD d25_89) rfl rfl (XS.dup X40.here hx rfl (hD d25_90) rfl rfl (st41 _ (XS.dupX1 X41.here hx rfl (hD d25_94) rfl rfl rfl (XS.iconst X41.here hx rfl (hD d25_95) (XS.iadd X41.here hx rfl (hD d25_96) rfl (st42 _ (XS.sipush X42.here hx rfl (hD d25_100) (XS.iload X42.here hx rfl (hD d25_103) rfl (XS.bipush X42.here hx rfl (hD d25_105) (XS.ishr X42.here hx rfl (hD d25_107) rfl k)))))))))))))) ?_
      have Fv45_1 := (Vb4.other W42 (Nat.ne_of_gt la_4))
      obtain ⟨cl44, Ar44, ck44, S44, M44, H44, G44⟩ := id Fv45_1
      have hin44 := own_in256 (n := (tP).length) S44 (own_leI hbd (by decide))
      obtain ⟨T44, h44, X44, e44, W44, st44⟩ := stB X42 hx hZ e42 Ar44 (j := (Int32.ofNat (tP).length)) hin44 (g := (mkF m 110 #[VR ob, VR so, VI (Int32.ofNat i), VI (Int32.ofNat (cs).length), VI cc] [(.int (((192:Int32) ||| (cc >>> ((6:Int32) &&& 31))).toInt8.toInt32)), (.int (Int32.ofNat (tP).length)), (.ref ba)])) rfl rfl (hD d25_110)
      have V44 : Arv Z h44 ba kb .byte (256:Int32) (((tP ++ [(((192:Int32) ||| (cc >>> ((6:Int32) &&& 31))).toInt8.toInt32)])).map Value.int) (.int 0) := own_push Fv45_1 W44 (own_narb _) (own_leL hbd (by decide))
      have lb44 : OwnLe (tP ++ [(((192:Int32) ||| (cc >>> ((6:Int32) &&& 31))).toInt8.toInt32)]) 125 := own_leS hbd
      have sz46 : h42.size ≤ h44.size := Nat.le_of_eq W44.size.symm
      have N44 := Fr.snoc X44 N42 (by omega : n0 ≤ ba)
      have Fv48_2 := (Fw42.other W44 (Or.inl (Nat.ne_of_lt la_4)))
      have Fz47 : Fld Z h44 ob "tramline/routes/JsonWriter" "size" "I" (.int (Int32.ofNat ((tP ++ [(((192:Int32) ||| (cc >>> ((6:Int32) &&& 31))).toInt8.toInt32)])).length)) := by
        have q := Fv48_2
        rw [own_p1] at q
        exact q
      have Fv49_2 := ((fbytes_4.other W42 (Or.inr (own_sn0 hw))).other W44 (Or.inl (Nat.ne_of_lt la_4)))
      obtain ⟨T50, X50, e50, st50⟩ := getF X44 hx hZ hown (host := "") (Or.inl (own_w hw 48 rfl)) Via.refl e44 Fv49_2 (g := (mkF m 112 #[VR ob, VR so, VI (Int32.ofNat i), VI (Int32.ofNat (cs).length), VI cc] [(.ref ob)])) rfl rfl (hD d25_112)
      obtain ⟨T51, X51, e51, st51⟩ := getF X50 hx hZ hown (host := "") (Or.inl (own_w hw 60 rfl)) Via.refl e50 Fz47 (g := (mkF m 117 #[VR ob, VR so, VI (Int32.ofNat i), VI (Int32.ofNat (cs).length), VI cc] [(.ref ob), (.ref ob), (.ref ba)])) rfl rfl (hD d25_117)
      have Fv52_2 := ((Ew4.wr W42).wr W44)
      obtain ⟨T53, h53, X53, e53, W53, st53⟩ := putF X51 hx hZ hown (host := "") (Or.inl (own_w hw 60 rfl)) Via.refl e51 Fz47 Fv52_2 (Or.inl (own_w hw 61 rfl)) (own_w hw 42 rfl) (ty := .int) (by decide) rfl rfl (g := (mkF m 123 #[VR ob, VR so, VI (Int32.ofNat i), VI (Int32.ofNat (cs).length), VI cc] [(.int ((Int32.ofNat ((tP ++ [(((192:Int32) ||| (cc >>> ((6:Int32) &&& 31))).toInt8.toInt32)])).length) + (1:Int32))), (.ref ob), (.int (Int32.ofNat ((tP ++ [(((192:Int32) ||| (cc >>> ((6:Int32) &&& 31))).toInt8.toInt32)])).length)), (.ref ba)])) rfl rfl (hD d25_123)
      have Fw53 : Fld Z h53 ob "tramline/routes/JsonWriter" "size" "I" (.int ((Int32.ofNat ((tP ++ [(((192:Int32) ||| (cc >>> ((6:Int32) &&& 31))).toInt8.toInt32)])).length) + (1:Int32))) := Fz47.same W53
      have sz54 : h44.size ≤ h53.size := Nat.le_of_eq W53.size.symm
      have N53 := Fr.snoc X53 N44 (by omega : n0 ≤ ob)
      refine OwnFin.adv (B := T53.setTop (mkF m 131 #[VR ob, VR so, VI (Int32.ofNat i), VI (Int32.ofNat (cs).length), VI cc] [(.int cc), (.int 128), (.int (Int32.ofNat ((tP ++ [(((192:Int32) ||| (cc >>> ((6:Int32) &&& 31))).toInt8.toInt32)])).length)), (.ref ba)])) (fun _ k => XS.ior X42.here hx rfl (hD d25_108) rfl (XS.i2b X42.here hx rfl (hD d25_109) rfl (st44 _ (XS.aloadN X44.here hx rfl (hD d25_111) rfl rfl (st50 _ (XS.aloadN X50.here hx rfl (hD d25_115) rfl rfl (XS.dup X50.here hx rfl (hD d25_116) rfl rfl (st51 _ (XS.dupX1 X51.here hx rfl (hD d25_120) rfl rfl rfl (XS.iconst X51.here hx rfl (hD d25_121) (XS.iadd X51.here hx rfl (hD d25_122) rfl (st53 _ (XS.sipush X53.here hx rfl (hD d25_126) (XS.iload X53.here hx rfl (hD d25_129) rfl k)))))))))))))) ?_
      have Fv56_3 := (V44.other W53 (Nat.ne_of_gt la_4))
      obtain ⟨cl55, Ar55, ck55, S55, M55, H55, G55⟩ := id Fv56_3
      have hin55 := own_in256 (n := ((tP ++ [(((192:Int32) ||| (cc >>> ((6:Int32) &&& 31))).toInt8.toInt32)])).length) S55 (own_leI lb44 (by decide))
      obtain ⟨T55, h55, X55, e55, W55, st55⟩ := stB X53 hx hZ e53 Ar55 (j := (Int32.ofNat ((tP ++ [(((192:Int32) ||| (cc >>> ((6:Int32) &&& 31))).toInt8.toInt32)])).length)) hin55 (g := (mkF m 136 #[VR ob, VR so, VI (Int32.ofNat i), VI (Int32.ofNat (cs).length), VI cc] [(.int (((128:Int32) ||| (cc &&& (63:Int32))).toInt8.toInt32)), (.int (Int32.ofNat ((tP ++ [(((192:Int32) ||| (cc >>> ((6:Int32) &&& 31))).toInt8.toInt32)])).length)), (.ref ba)])) rfl rfl (hD d25_136)
      have V55 : Arv Z h55 ba kb .byte (256:Int32) ((((tP ++ [(((192:Int32) ||| (cc >>> ((6:Int32) &&& 31))).toInt8.toInt32)]) ++ [(((128:Int32) ||| (cc &&& (63:Int32))).toInt8.toInt32)])).map Value.int) (.int 0) := own_push Fv56_3 W55 (own_narb _) (own_leL lb44 (by decide))
      have lb55 : OwnLe ((tP ++ [(((192:Int32) ||| (cc >>> ((6:Int32) &&& 31))).toInt8.toInt32)]) ++ [(((128:Int32) ||| (cc &&& (63:Int32))).toInt8.toInt32)]) 126 := own_leS lb44
      have sz57 : h53.size ≤ h55.size := Nat.le_of_eq W55.size.symm
      have N55 := Fr.snoc X55 N53 (by omega : n0 ≤ ba)
      have Fv59_4 := (Fw53.other W55 (Or.inl (Nat.ne_of_lt la_4)))
      have Fz58 : Fld Z h55 ob "tramline/routes/JsonWriter" "size" "I" (.int (Int32.ofNat (((tP ++ [(((192:Int32) ||| (cc >>> ((6:Int32) &&& 31))).toInt8.toInt32)]) ++ [(((128:Int32) ||| (cc &&& (63:Int32))).toInt8.toInt32)])).length)) := by
        have q := Fv59_4
        rw [own_p1] at q
        exact q
      refine OwnFin.adv (B := T55.setTop (mkF m 5 #[VR ob, VR so, VI ((Int32.ofNat i) + (1:Int32)), VI (Int32.ofNat (cs).length), VI cc] [])) (fun _ k => XS.bipush X53.here hx rfl (hD d25_131) (XS.iand X53.here hx rfl (hD d25_133) rfl (XS.ior X53.here hx rfl (hD d25_134) rfl (XS.i2b X53.here hx rfl (hD d25_135) rfl (st55 _ (XS.goto X55.here hx rfl (pc0 := 137) (pc' := 238) rfl (hD d25_137) (by decide) (by decide) (XS.iinc X55.here hx rfl (hD d25_238) rfl (l' := #[VR ob, VR so, VI ((Int32.ofNat i) + (1:Int32)), VI (Int32.ofNat (cs).length), VI cc]) rfl (XS.goto X55.here hx rfl (pc0 := 241) (pc' := 5) rfl (hD d25_241) (by decide) (by decide) k)))))))) ?_
      rw [show (((Int32.ofNat i) + (1:Int32)) : Int32) = (Int32.ofNat (i + 1)) from own_add i 1]
      have Fv60_4 := ((Fv52_2.wr W53).wr W55)
      have Fv61_4 := ((Fv49_2.other W53 (Or.inr (own_sn0 hw))).other W55 (Or.inl (Nat.ne_of_lt la_4)))
      have Fv62_4 := ((((fobjects_4.other W42 (Or.inr (own_sn1 hw))).other W44 (Or.inl (Nat.ne_of_lt la_4))).other W53 (Or.inr (own_sn1 hw))).other W55 (Or.inl (Nat.ne_of_lt la_4)))
      have Fv63_4 := ((((fbegun_4.other W42 (Or.inr (own_sn2 hw))).other W44 (Or.inl (Nat.ne_of_lt la_4))).other W53 (Or.inr (own_sn2 hw))).other W55 (Or.inl (Nat.ne_of_lt la_4)))
      have Fv64_4 := ((((fdepth_4.other W42 (Or.inr (own_sn3 hw))).other W44 (Or.inl (Nat.ne_of_lt la_4))).other W53 (Or.inr (own_sn3 hw))).other W55 (Or.inl (Nat.ne_of_lt la_4)))
      have Fv65_4 := ((((fnamed_4.other W42 (Or.inr (own_sn4 hw))).other W44 (Or.inl (Nat.ne_of_lt la_4))).other W53 (Or.inr (own_sn4 hw))).other W55 (Or.inl (Nat.ne_of_lt la_4)))
      have Fv66_4 := ((((fstarted_4.other W42 (Or.inr (own_sn5 hw))).other W44 (Or.inl (Nat.ne_of_lt la_4))).other W53 (Or.inr (own_sn5 hw))).other W55 (Or.inl (Nat.ne_of_lt la_4)))
      have Fv67_4 := ((((Vo4.other W42 (Nat.ne_of_gt ld_4)).other W44 (Nat.ne_of_gt lb_4)).other W53 (Nat.ne_of_gt ld_4)).other W55 (Nat.ne_of_gt lb_4))
      have Fv68_4 := ((((Vg4.other W42 (Nat.ne_of_gt le_4)).other W44 (Nat.ne_of_gt lf_4)).other W53 (Nat.ne_of_gt le_4)).other W55 (Nat.ne_of_gt lf_4))
      have Fv69_4 := ((((Sj.wr W42 (by omega)).wr W44 (by omega)).wr W53 (by omega)).wr W55 (by omega))
      exact ih (i + 1) (((tP ++ [(((192:Int32) ||| (cc >>> ((6:Int32) &&& 31))).toInt8.toInt32)]) ++ [(((128:Int32) ||| (cc &&& (63:Int32))).toInt8.toInt32)])) (.val (.int cc)) h55 T55 _ (X55.mono (by decide) (by decide)) e55 N55 ((((KJ.wr W42 (Or.inl (List.mem_of_getElem? (i := 0) rfl))).wr W44 (Or.inl (List.mem_of_getElem? (i := 1) rfl))).wr W53 (Or.inl (List.mem_of_getElem? (i := 0) rfl))).wr W55 (Or.inl (List.mem_of_getElem? (i := 1) rfl))) (by omega) (by rw [← hT1, hen, own_encC hc22 hc82]; simp) ⟨Fv60_4, Fv61_4, Fz58, Fv62_4, Fv63_4, Fv64_4, Fv65_4, Fv66_4, V55, Fv67_4, Fv68_4, own_lt la_4, own_lt lb_4, own_lt lc_4⟩ Fv69_4 (Or.inr ⟨_, rfl⟩)
     ·
      obtain ⟨_, _, ⟨T70, L70, k70, n70⟩, -, X70, ⟨Lc70, hQ70, l70, y70, z70⟩, st70⟩ := Jvm.LawKit.callS X5 hx (y := own_M44) hown (mvT hZ (own_w hw 209 rfl)) (mvT hZ (own_w hw 210 rfl)) (mvT hZ (own_w hw 211 rfl)) (mvT hZ (own_w hw 212 rfl)) (by decide) (backOf (W := 0) (own_isSur l Z a0 hw [] cc hJ n0 (by omega)) hZ (own_w hw 212 rfl) (own_w hw 211 rfl) (by decide) (by decide)) (g := (mkF m 142 #[VR ob, VR so, VI (Int32.ofNat i), VI (Int32.ofNat (cs).length), VI cc] [(.int cc)])) rfl (by rw [hml]; rfl) (argsL := [(.int cc)]) (rest := []) (lenOf own_pd15 rfl) rfl (by show 2 * 0 + _ ≤ _; exact Nat.le_of_eq rfl) (hD d25_142) (fun _ _ => ⟨rfl, eh5, (by decide : 0 + 0 ≤ _), (by decide : 0 + 0 ≤ _)⟩)
      dsimp only [Pt.U, Pt.locs, Pt.cells, Pt.slots] at X70 l70 y70 z70 st70 hQ70
      subst l70 y70 z70
      obtain ⟨rfl, N70q, eh70⟩ := hQ70
      have N70 := Fr.app N5 N70q
      refine OwnFin.adv (B := T70.setTop (mkF m 145 #[VR ob, VR so, VI (Int32.ofNat i), VI (Int32.ofNat (cs).length), VI cc] [(.int (if cc < 55296 ∨ 57343 < cc then (0:Int32) else 1))])) (fun _ k => XS.icmpYes X5.here hx rfl (pc0 := 82) (pc' := 140) rfl (hD d25_82) rfl (flt hc82).2.1 (by decide) (by decide) (XS.iload X5.here hx rfl (hD d25_140) rfl (st70 _ k))) ?_
      by_cases hc145 : (if cc < 55296 ∨ 57343 < cc then (0:Int32) else 1) = (0:Int32)
      ·
       obtain ⟨T71, X71, e71, st71⟩ := getF X70 hx hZ hown (host := "") (Or.inl (own_w hw 48 rfl)) Via.refl eh70 fbytes_4 (g := (mkF m 158 #[VR ob, VR so, VI (Int32.ofNat i), VI (Int32.ofNat (cs).length), VI cc] [(.ref ob)])) rfl rfl (hD d25_158)
       obtain ⟨T72, X72, e72, st72⟩ := getF X71 hx hZ hown (host := "") (Or.inl (own_w hw 60 rfl)) Via.refl e71 fsize_4 (g := (mkF m 163 #[VR ob, VR so, VI (Int32.ofNat i), VI (Int32.ofNat (cs).length), VI cc] [(.ref ob), (.ref ob), (.ref ba)])) rfl rfl (hD d25_163)
       obtain ⟨T73, h73, X73, e73, W73, st73⟩ := putF X72 hx hZ hown (host := "") (Or.inl (own_w hw 60 rfl)) Via.refl e72 fsize_4 Ew4 (Or.inl (own_w hw 61 rfl)) (own_w hw 42 rfl) (ty := .int) (by decide) rfl rfl (g := (mkF m 169 #[VR ob, VR so, VI (Int32.ofNat i), VI (Int32.ofNat (cs).length), VI cc] [(.int ((Int32.ofNat (tP).length) + (1:Int32))), (.ref ob), (.int (Int32.ofNat (tP).length)), (.ref ba)])) rfl rfl (hD d25_169)
       have Fw73 : Fld Z h73 ob "tramline/routes/JsonWriter" "size" "I" (.int ((Int32.ofNat (tP).length) + (1:Int32))) := fsize_4.same W73
       have sz74 : hJ.size ≤ h73.size := Nat.le_of_eq W73.size.symm
       have N73 := Fr.snoc X73 N70 (by omega : n0 ≤ ob)
       refine OwnFin.adv (B := T73.setTop (mkF m 180 #[VR ob, VR so, VI (Int32.ofNat i), VI (Int32.ofNat (cs).length), VI cc] [(.int (cc >>> ((12:Int32) &&& 31))), (.int 224), (.int (Int32.ofNat (tP).length)), (.ref ba)])) (fun _ k => XS.ifYes X70.here hx rfl (pc0 := 145) (pc' := 157) rfl (hD d25_145) rfl ((if0 _ _).trans (teq hc145).1) (by decide) (by decide) (XS.aloadN X70.here hx rfl (hD d25_157) rfl rfl (st71 _ (XS.aloadN X71.here hx rfl (hD d25_161) rfl rfl (XS.dup X71.here hx rfl (hD d25_162) rfl rfl (st72 _ (XS.dupX1 X72.here hx rfl (hD d25_166) rfl rfl rfl (XS.iconst X72.here hx rfl (hD d25_167) (XS.iadd X72.here hx rfl (hD d25_168) rfl (st73 _ (XS.sipush X73.here hx rfl (hD d25_172) (XS.iload X73.here hx rfl (hD d25_175) rfl (XS.bipush X73.here hx rfl (hD d25_177) (XS.ishr X73.here hx rfl (hD d25_179) rfl k)))))))))))))) ?_
       have Fv76_1 := (Vb4.other W73 (Nat.ne_of_gt la_4))
       obtain ⟨cl75, Ar75, ck75, S75, M75, H75, G75⟩ := id Fv76_1
       have hin75 := own_in256 (n := (tP).length) S75 (own_leI hbd (by decide))
       obtain ⟨T75, h75, X75, e75, W75, st75⟩ := stB X73 hx hZ e73 Ar75 (j := (Int32.ofNat (tP).length)) hin75 (g := (mkF m 182 #[VR ob, VR so, VI (Int32.ofNat i), VI (Int32.ofNat (cs).length), VI cc] [(.int (((224:Int32) ||| (cc >>> ((12:Int32) &&& 31))).toInt8.toInt32)), (.int (Int32.ofNat (tP).length)), (.ref ba)])) rfl rfl (hD d25_182)
       have V75 : Arv Z h75 ba kb .byte (256:Int32) (((tP ++ [(((224:Int32) ||| (cc >>> ((12:Int32) &&& 31))).toInt8.toInt32)])).map Value.int) (.int 0) := own_push Fv76_1 W75 (own_narb _) (own_leL hbd (by decide))
       have lb75 : OwnLe (tP ++ [(((224:Int32) ||| (cc >>> ((12:Int32) &&& 31))).toInt8.toInt32)]) 125 := own_leS hbd
       have sz77 : h73.size ≤ h75.size := Nat.le_of_eq W75.size.symm
       have N75 := Fr.snoc X75 N73 (by omega : n0 ≤ ba)
       have Fv79_2 := (Fw73.other W75 (Or.inl (Nat.ne_of_lt la_4)))
       have Fz78 : Fld Z h75 ob "tramline/routes/JsonWriter" "size" "I" (.int (Int32.ofNat ((tP ++ [(((224:Int32) ||| (cc >>> ((12:Int32) &&& 31))).toInt8.toInt32)])).length)) := by
         have q := Fv79_2
         rw [own_p1] at q
         exact q
       have Fv80_2 := ((fbytes_4.other W73 (Or.inr (own_sn0 hw))).other W75 (Or.inl (Nat.ne_of_lt la_4)))
       obtain ⟨T81, X81, e81, st81⟩ := getF X75 hx hZ hown (host := "") (Or.inl (own_w hw 48 rfl)) Via.refl e75 Fv80_2 (g := (mkF m 184 #[VR ob, VR so, VI (Int32.ofNat i), VI (Int32.ofNat (cs).length), VI cc] [(.ref ob)])) rfl rfl (hD d25_184)
       obtain ⟨T82, X82, e82, st82⟩ := getF X81 hx hZ hown (host := "") (Or.inl (own_w hw 60 rfl)) Via.refl e81 Fz78 (g := (mkF m 189 #[VR ob, VR so, VI (Int32.ofNat i), VI (Int32.ofNat (cs).length), VI cc] [(.ref ob), (.ref ob), (.ref ba)])) rfl rfl (hD d25_189)
       have Fv83_2 := ((Ew4.wr W73).wr W75)
       obtain ⟨T84, h84, X84, e84, W84, st84⟩ := putF X82 hx hZ hown (host := "") (Or.inl (own_w hw 60 rfl)) Via.refl e82 Fz78 Fv83_2 (Or.inl (own_w hw 61 rfl)) (own_w hw 42 rfl) (ty := .int) (by decide) rfl rfl (g := (mkF m 195 #[VR ob, VR so, VI (Int32.ofNat i), VI (Int32.ofNat (cs).length), VI cc] [(.int ((Int32.ofNat ((tP ++ [(((224:Int32) ||| (cc >>> ((12:Int32) &&& 31))).toInt8.toInt32)])).length) + (1:Int32))), (.ref ob), (.int (Int32.ofNat ((tP ++ [(((224:Int32) ||| (cc >>> ((12:Int32) &&& 31))).toInt8.toInt32)])).length)), (.ref ba)])) rfl rfl (hD d25_195)
       have Fw84 : Fld Z h84 ob "tramline/routes/JsonWriter" "size" "I" (.int ((Int32.ofNat ((tP ++ [(((224:Int32) ||| (cc >>> ((12:Int32) &&& 31))).toInt8.toInt32)])).length) + (1:Int32))) := Fz78.same W84
       have sz85 : h75.size ≤ h84.size := Nat.le_of_eq W84.size.symm
       have N84 := Fr.snoc X84 N75 (by omega : n0 ≤ ob)
       refine OwnFin.adv (B := T84.setTop (mkF m 203 #[VR ob, VR so, VI (Int32.ofNat i), VI (Int32.ofNat (cs).length), VI cc] [(.int cc), (.int 128), (.int (Int32.ofNat ((tP ++ [(((224:Int32) ||| (cc >>> ((12:Int32) &&& 31))).toInt8.toInt32)])).length)), (.ref ba)])) (fun _ k => XS.ior X73.here hx rfl (hD d25_180) rfl (XS.i2b X73.here hx rfl (hD d25_181) rfl (st75 _ (XS.aloadN X75.here hx rfl (hD d25_183) rfl rfl (st81 _ (XS.aloadN X81.here hx rfl (hD d25_187) rfl rfl (XS.dup X81.here hx rfl (hD d25_188) rfl rfl (st82 _ (XS.dupX1 X82.here hx rfl (hD d25_192) rfl rfl rfl (XS.iconst X82.here hx rfl (hD d25_193) (XS.iadd X82.here hx rfl (hD d25_194) rfl (st84 _ (XS.sipush X84.here hx rfl (hD d25_198) (XS.iload X84.here hx rfl (hD d25_201) rfl k)))))))))))))) ?_
       have Fv87_3 := (V75.other W84 (Nat.ne_of_gt la_4))
       obtain ⟨cl86, Ar86, ck86, S86, M86, H86, G86⟩ := id Fv87_3
       have hin86 := own_in256 (n := ((tP ++ [(((224:Int32) ||| (cc >>> ((12:Int32) &&& 31))).toInt8.toInt32)])).length) S86 (own_leI lb75 (by decide))
       obtain ⟨T86, h86, X86, e86, W86, st86⟩ := stB X84 hx hZ e84 Ar86 (j := (Int32.ofNat ((tP ++ [(((224:Int32) ||| (cc >>> ((12:Int32) &&& 31))).toInt8.toInt32)])).length)) hin86 (g := (mkF m 211 #[VR ob, VR so, VI (Int32.ofNat i), VI (Int32.ofNat (cs).length), VI cc] [(.int (((128:Int32) ||| ((cc >>> ((6:Int32) &&& 31)) &&& (63:Int32))).toInt8.toInt32)), (.int (Int32.ofNat ((tP ++ [(((224:Int32) ||| (cc >>> ((12:Int32) &&& 31))).toInt8.toInt32)])).length)), (.ref ba)])) rfl rfl (hD d25_211)
       have V86 : Arv Z h86 ba kb .byte (256:Int32) ((((tP ++ [(((224:Int32) ||| (cc >>> ((12:Int32) &&& 31))).toInt8.toInt32)]) ++ [(((128:Int32) ||| ((cc >>> ((6:Int32) &&& 31)) &&& (63:Int32))).toInt8.toInt32)])).map Value.int) (.int 0) := own_push Fv87_3 W86 (own_narb _) (own_leL lb75 (by decide))
       have lb86 : OwnLe ((tP ++ [(((224:Int32) ||| (cc >>> ((12:Int32) &&& 31))).toInt8.toInt32)]) ++ [(((128:Int32) ||| ((cc >>> ((6:Int32) &&& 31)) &&& (63:Int32))).toInt8.toInt32)]) 126 := own_leS lb75
       have sz88 : h84.size ≤ h86.size := Nat.le_of_eq W86.size.symm
       have N86 := Fr.snoc X86 N84 (by omega : n0 ≤ ba)
       have Fv90_4 := (Fw84.other W86 (Or.inl (Nat.ne_of_lt la_4)))
       have Fz89 : Fld Z h86 ob "tramline/routes/JsonWriter" "size" "I" (.int (Int32.ofNat (((tP ++ [(((224:Int32) ||| (cc >>> ((12:Int32) &&& 31))).toInt8.toInt32)]) ++ [(((128:Int32) ||| ((cc >>> ((6:Int32) &&& 31)) &&& (63:Int32))).toInt8.toInt32)])).length)) := by
         have q := Fv90_4
         rw [own_p1] at q
         exact q
       have Fv91_4 := ((Fv80_2.other W84 (Or.inr (own_sn0 hw))).other W86 (Or.inl (Nat.ne_of_lt la_4)))
       obtain ⟨T92, X92, e92, st92⟩ := getF X86 hx hZ hown (host := "") (Or.inl (own_w hw 48 rfl)) Via.refl e86 Fv91_4 (g := (mkF m 213 #[VR ob, VR so, VI (Int32.ofNat i), VI (Int32.ofNat (cs).length), VI cc] [(.ref ob)])) rfl rfl (hD d25_213)
       obtain ⟨T93, X93, e93, st93⟩ := getF X92 hx hZ hown (host := "") (Or.inl (own_w hw 60 rfl)) Via.refl e92 Fz89 (g := (mkF m 218 #[VR ob, VR so, VI (Int32.ofNat i), VI (Int32.ofNat (cs).length), VI cc] [(.ref ob), (.ref ob), (.ref ba)])) rfl rfl (hD d25_218)
       refine OwnFin.adv (B := T93.setTop (mkF m 223 #[VR ob, VR so, VI (Int32.ofNat i), VI (Int32.ofNat (cs).length), VI cc] [(.int 1), (.int (Int32.ofNat (((tP ++ [(((224:Int32) ||| (cc >>> ((12:Int32) &&& 31))).toInt8.toInt32)]) ++ [(((128:Int32) ||| ((cc >>> ((6:Int32) &&& 31)) &&& (63:Int32))).toInt8.toInt32)])).length)), (.ref ob), (.int (Int32.ofNat (((tP ++ [(((224:Int32) ||| (cc >>> ((12:Int32) &&& 31))).toInt8.toInt32)]) ++ [(((128:Int32) ||| ((cc >>> ((6:Int32) &&& 31)) &&& (63:Int32))).toInt8.toInt32)])).length)), (.ref ba)])) (fun _ k => XS.bipush X84.here hx rfl (hD d25_203) (XS.ishr X84.here hx rfl (hD d25_205) rfl (XS.bipush X84.here hx rfl (hD d25_206) (XS.iand X84.here hx rfl (hD d25_208) rfl (XS.ior X84.here hx rfl (hD d25_209) rfl (XS.i2b X84.here hx rfl (hD d25_210) rfl (st86 _ (XS.aloadN X86.here hx rfl (hD d25_212) rfl rfl (st92 _ (XS.aloadN X92.here hx rfl (hD d25_216) rfl rfl (XS.dup X92.here hx rfl (hD d25_217) rfl rfl (st93 _ (XS.dupX1 X93.here hx rfl (hD d25_221) rfl rfl rfl (XS.iconst X93.here hx rfl (hD d25_222) k)))))))))))))) ?_
       have Fv94_4 := ((Fv83_2.wr W84).wr W86)
       obtain ⟨T95, h95, X95, e95, W95, st95⟩ := putF X93 hx hZ hown (host := "") (Or.inl (own_w hw 60 rfl)) Via.refl e93 Fz89 Fv94_4 (Or.inl (own_w hw 61 rfl)) (own_w hw 42 rfl) (ty := .int) (by decide) rfl rfl (g := (mkF m 224 #[VR ob, VR so, VI (Int32.ofNat i), VI (Int32.ofNat (cs).length), VI cc] [(.int ((Int32.ofNat (((tP ++ [(((224:Int32) ||| (cc >>> ((12:Int32) &&& 31))).toInt8.toInt32)]) ++ [(((128:Int32) ||| ((cc >>> ((6:Int32) &&& 31)) &&& (63:Int32))).toInt8.toInt32)])).length) + (1:Int32))), (.ref ob), (.int (Int32.ofNat (((tP ++ [(((224:Int32) ||| (cc >>> ((12:Int32) &&& 31))).toInt8.toInt32)]) ++ [(((128:Int32) ||| ((cc >>> ((6:Int32) &&& 31)) &&& (63:Int32))).toInt8.toInt32)])).length)), (.ref ba)])) rfl rfl (hD d25_224)
       have Fw95 : Fld Z h95 ob "tramline/routes/JsonWriter" "size" "I" (.int ((Int32.ofNat (((tP ++ [(((224:Int32) ||| (cc >>> ((12:Int32) &&& 31))).toInt8.toInt32)]) ++ [(((128:Int32) ||| ((cc >>> ((6:Int32) &&& 31)) &&& (63:Int32))).toInt8.toInt32)])).length) + (1:Int32))) := Fz89.same W95
       have sz96 : h86.size ≤ h95.size := Nat.le_of_eq W95.size.symm
       have N95 := Fr.snoc X95 N86 (by omega : n0 ≤ ob)
       have Fv98_5 := (V86.other W95 (Nat.ne_of_gt la_4))
       obtain ⟨cl97, Ar97, ck97, S97, M97, H97, G97⟩ := id Fv98_5
       have hin97 := own_in256 (n := (((tP ++ [(((224:Int32) ||| (cc >>> ((12:Int32) &&& 31))).toInt8.toInt32)]) ++ [(((128:Int32) ||| ((cc >>> ((6:Int32) &&& 31)) &&& (63:Int32))).toInt8.toInt32)])).length) S97 (own_leI lb86 (by decide))
       obtain ⟨T97, h97, X97, e97, W97, st97⟩ := stB X95 hx hZ e95 Ar97 (j := (Int32.ofNat (((tP ++ [(((224:Int32) ||| (cc >>> ((12:Int32) &&& 31))).toInt8.toInt32)]) ++ [(((128:Int32) ||| ((cc >>> ((6:Int32) &&& 31)) &&& (63:Int32))).toInt8.toInt32)])).length)) hin97 (g := (mkF m 237 #[VR ob, VR so, VI (Int32.ofNat i), VI (Int32.ofNat (cs).length), VI cc] [(.int (((128:Int32) ||| (cc &&& (63:Int32))).toInt8.toInt32)), (.int (Int32.ofNat (((tP ++ [(((224:Int32) ||| (cc >>> ((12:Int32) &&& 31))).toInt8.toInt32)]) ++ [(((128:Int32) ||| ((cc >>> ((6:Int32) &&& 31)) &&& (63:Int32))).toInt8.toInt32)])).length)), (.ref ba)])) rfl rfl (hD d25_237)
       have V97 : Arv Z h97 ba kb .byte (256:Int32) (((((tP ++ [(((224:Int32) ||| (cc >>> ((12:Int32) &&& 31))).toInt8.toInt32)]) ++ [(((128:Int32) ||| ((cc >>> ((6:Int32) &&& 31)) &&& (63:Int32))).toInt8.toInt32)]) ++ [(((128:Int32) ||| (cc &&& (63:Int32))).toInt8.toInt32)])).map Value.int) (.int 0) := own_push Fv98_5 W97 (own_narb _) (own_leL lb86 (by decide))
       have lb97 : OwnLe (((tP ++ [(((224:Int32) ||| (cc >>> ((12:Int32) &&& 31))).toInt8.toInt32)]) ++ [(((128:Int32) ||| ((cc >>> ((6:Int32) &&& 31)) &&& (63:Int32))).toInt8.toInt32)]) ++ [(((128:Int32) ||| (cc &&& (63:Int32))).toInt8.toInt32)]) 127 := own_leS lb86
       have sz99 : h95.size ≤ h97.size := Nat.le_of_eq W97.size.symm
       have N97 := Fr.snoc X97 N95 (by omega : n0 ≤ ba)
       have Fv101_6 := (Fw95.other W97 (Or.inl (Nat.ne_of_lt la_4)))
       have Fz100 : Fld Z h97 ob "tramline/routes/JsonWriter" "size" "I" (.int (Int32.ofNat ((((tP ++ [(((224:Int32) ||| (cc >>> ((12:Int32) &&& 31))).toInt8.toInt32)]) ++ [(((128:Int32) ||| ((cc >>> ((6:Int32) &&& 31)) &&& (63:Int32))).toInt8.toInt32)]) ++ [(((128:Int32) ||| (cc &&& (63:Int32))).toInt8.toInt32)])).length)) := by
         have q := Fv101_6
         rw [own_p1] at q
         exact q
       refine OwnFin.adv (B := T97.setTop (mkF m 5 #[VR ob, VR so, VI ((Int32.ofNat i) + (1:Int32)), VI (Int32.ofNat (cs).length), VI cc] [])) (fun _ k => XS.iadd X93.here hx rfl (hD d25_223) rfl (st95 _ (XS.sipush X95.here hx rfl (hD d25_227) (XS.iload X95.here hx rfl (hD d25_230) rfl (XS.bipush X95.here hx rfl (hD d25_232) (XS.iand X95.here hx rfl (hD d25_234) rfl (XS.ior X95.here hx rfl (hD d25_235) rfl (XS.i2b X95.here hx rfl (hD d25_236) rfl (st97 _ (XS.iinc X97.here hx rfl (hD d25_238) rfl (l' := #[VR ob, VR so, VI ((Int32.ofNat i) + (1:Int32)), VI (Int32.ofNat (cs).length), VI cc]) rfl (XS.goto X97.here hx rfl (pc0 := 241) (pc' := 5) rfl (hD d25_241) (by decide) (by decide) k))))))))))) ?_
       rw [show (((Int32.ofNat i) + (1:Int32)) : Int32) = (Int32.ofNat (i + 1)) from own_add i 1]
       have Fv102_6 := ((Fv94_4.wr W95).wr W97)
       have Fv103_6 := ((Fv91_4.other W95 (Or.inr (own_sn0 hw))).other W97 (Or.inl (Nat.ne_of_lt la_4)))
       have Fv104_6 := ((((((fobjects_4.other W73 (Or.inr (own_sn1 hw))).other W75 (Or.inl (Nat.ne_of_lt la_4))).other W84 (Or.inr (own_sn1 hw))).other W86 (Or.inl (Nat.ne_of_lt la_4))).other W95 (Or.inr (own_sn1 hw))).other W97 (Or.inl (Nat.ne_of_lt la_4)))
       have Fv105_6 := ((((((fbegun_4.other W73 (Or.inr (own_sn2 hw))).other W75 (Or.inl (Nat.ne_of_lt la_4))).other W84 (Or.inr (own_sn2 hw))).other W86 (Or.inl (Nat.ne_of_lt la_4))).other W95 (Or.inr (own_sn2 hw))).other W97 (Or.inl (Nat.ne_of_lt la_4)))
       have Fv106_6 := ((((((fdepth_4.other W73 (Or.inr (own_sn3 hw))).other W75 (Or.inl (Nat.ne_of_lt la_4))).other W84 (Or.inr (own_sn3 hw))).other W86 (Or.inl (Nat.ne_of_lt la_4))).other W95 (Or.inr (own_sn3 hw))).other W97 (Or.inl (Nat.ne_of_lt la_4)))
       have Fv107_6 := ((((((fnamed_4.other W73 (Or.inr (own_sn4 hw))).other W75 (Or.inl (Nat.ne_of_lt la_4))).other W84 (Or.inr (own_sn4 hw))).other W86 (Or.inl (Nat.ne_of_lt la_4))).other W95 (Or.inr (own_sn4 hw))).other W97 (Or.inl (Nat.ne_of_lt la_4)))
       have Fv108_6 := ((((((fstarted_4.other W73 (Or.inr (own_sn5 hw))).other W75 (Or.inl (Nat.ne_of_lt la_4))).other W84 (Or.inr (own_sn5 hw))).other W86 (Or.inl (Nat.ne_of_lt la_4))).other W95 (Or.inr (own_sn5 hw))).other W97 (Or.inl (Nat.ne_of_lt la_4)))
       have Fv109_6 := ((((((Vo4.other W73 (Nat.ne_of_gt ld_4)).other W75 (Nat.ne_of_gt lb_4)).other W84 (Nat.ne_of_gt ld_4)).other W86 (Nat.ne_of_gt lb_4)).other W95 (Nat.ne_of_gt ld_4)).other W97 (Nat.ne_of_gt lb_4))
       have Fv110_6 := ((((((Vg4.other W73 (Nat.ne_of_gt le_4)).other W75 (Nat.ne_of_gt lf_4)).other W84 (Nat.ne_of_gt le_4)).other W86 (Nat.ne_of_gt lf_4)).other W95 (Nat.ne_of_gt le_4)).other W97 (Nat.ne_of_gt lf_4))
       have Fv111_6 := ((((((Sj.wr W73 (by omega)).wr W75 (by omega)).wr W84 (by omega)).wr W86 (by omega)).wr W95 (by omega)).wr W97 (by omega))
       exact ih (i + 1) ((((tP ++ [(((224:Int32) ||| (cc >>> ((12:Int32) &&& 31))).toInt8.toInt32)]) ++ [(((128:Int32) ||| ((cc >>> ((6:Int32) &&& 31)) &&& (63:Int32))).toInt8.toInt32)]) ++ [(((128:Int32) ||| (cc &&& (63:Int32))).toInt8.toInt32)])) (.val (.int cc)) h97 T97 _ (X97.mono (by decide) (by decide)) e97 N97 ((((((KJ.wr W73 (Or.inl (List.mem_of_getElem? (i := 0) rfl))).wr W75 (Or.inl (List.mem_of_getElem? (i := 1) rfl))).wr W84 (Or.inl (List.mem_of_getElem? (i := 0) rfl))).wr W86 (Or.inl (List.mem_of_getElem? (i := 1) rfl))).wr W95 (Or.inl (List.mem_of_getElem? (i := 0) rfl))).wr W97 (Or.inl (List.mem_of_getElem? (i := 1) rfl))) (by omega) (by rw [← hT1, hen, own_encE hc22 hc82 (own_if0 hc145)]; simp) ⟨Fv102_6, Fv103_6, Fz100, Fv104_6, Fv105_6, Fv106_6, Fv107_6, Fv108_6, V97, Fv109_6, Fv110_6, own_lt la_4, own_lt lb_4, own_lt lc_4⟩ Fv111_6 (Or.inr ⟨_, rfl⟩)
      ·
       have J113c : OwnJ Z hJ ob ba oa ga kb ko kg (tP) dp bg sd := ⟨Ew4, fbytes_4, fsize_4, fobjects_4, fbegun_4, fdepth_4, fnamed_4, fstarted_4, Vb4, Vo4, Vg4, own_lt la_4, own_lt lb_4, own_lt lc_4⟩
       obtain ⟨cq112, qp112, qp112'⟩ := Ew4.cell
       obtain ⟨_, _, ⟨T112, L112, k112, n112⟩, -, X112, ⟨Lc112, hQ112, l112, y112, z112⟩, st112⟩ := X70.privateBack hx (y := own_M26) hown (mvT hZ (own_w hw 131 rfl)) (mvT hZ (own_w hw 132 rfl)) (mvT hZ (own_selp_26 hw)) (Cond.privateMethod_at (mvP hZ (own_w hw 133 rfl) (args := #[]))) (mvT hZ (own_w hw 134 rfl)) (by decide) (backOf (W := 0) (own_escape l Z a0 hw [] ob ba oa ga kb ko kg (tP) dp bg sd cc hxa kx hJ n0 (by omega) OJ Sh Vh (own_leM hbd (by decide)) J113c (by omega)) hZ (own_w hw 134 rfl) (own_w hw 43 rfl) (by decide) (by decide)) (g := (mkF m 151 #[VR ob, VR so, VI (Int32.ofNat i), VI (Int32.ofNat (cs).length), VI cc] [(.int cc), (.ref ob)])) rfl (by rw [hml]; rfl) (Steps.refl _) (a := ob) (by rw [eh70]; exact qp112) qp112' (argsL := [(.int cc)]) (rest := []) (lenOf own_pd14 rfl) rfl (by show 2 * 0 + _ ≤ _; exact Nat.le_of_eq rfl) (hD d25_151) (fun _ _ => ⟨rfl, eh70, (by decide : 0 + 0 ≤ _), (by decide : 0 + 0 ≤ _)⟩)
       dsimp only [Pt.U, Pt.locs, Pt.cells, Pt.slots] at X112 l112 y112 z112 st112 hQ112
       subst l112 y112 z112
       obtain ⟨rfl, N112q, K112, FJ112⟩ := hQ112
       have N112 := Fr.app N70 N112q
       have sz114 : hJ.size ≤ T112.heap.size := K112.1
       have lb112 : OwnLe ((tP ++ ((92:Int32) :: own_esc cc))) 130 := own_leA hbd (own_escL cc)
       obtain ⟨Ew115, fbytes_115, fsize_115, fobjects_115, fbegun_115, fdepth_115, fnamed_115, fstarted_115, Vb115, Vo115, Vg115, la_115, lb_115, lc_115⟩ := id FJ112
       have la_115 := own_lt la_115
       have lb_115 := own_lt lb_115
       have lc_115 := own_lt lc_115
       have lw115 := own_lt Ew115.lt
       have lg115 := own_lt Vg115.lt
       have ld_115 := Nat.lt_trans la_115 lb_115
       have lf_115 := Nat.lt_trans lb_115 lc_115
       have le_115 := Nat.lt_trans ld_115 lc_115
       refine OwnFin.adv (B := T112.setTop (mkF m 5 #[VR ob, VR so, VI ((Int32.ofNat i) + (1:Int32)), VI (Int32.ofNat (cs).length), VI cc] [])) (fun _ k => XS.ifNo X70.here hx rfl (hD d25_145) rfl ((if0 _ _).trans (feq hc145).1) (XS.aloadN X70.here hx rfl (hD d25_148) rfl rfl (XS.iload X70.here hx rfl (hD d25_149) rfl (st112.trans (XS.goto X112.here hx rfl (pc0 := 154) (pc' := 238) rfl (hD d25_154) (by decide) (by decide) (XS.iinc X112.here hx rfl (hD d25_238) rfl (l' := #[VR ob, VR so, VI ((Int32.ofNat i) + (1:Int32)), VI (Int32.ofNat (cs).length), VI cc]) rfl (XS.goto X112.here hx rfl (pc0 := 241) (pc' := 5) rfl (hD d25_241) (by decide) (by decide) k))))))) ?_
       rw [show (((Int32.ofNat i) + (1:Int32)) : Int32) = (Int32.ofNat (i + 1)) from own_add i 1]
       have Fv116_1 := (Sj.keep K112 (allS (by omega) (allS (by omega) (allS (by omega) (allS (by omega) all0)))))
       exact ih (i + 1) ((tP ++ ((92:Int32) :: own_esc cc))) (.val (.int cc)) T112.heap T112 _ (X112.mono (by decide) (by decide)) rfl N112 (KJ.trans K112 (allS (Or.inl (List.mem_of_getElem? (i := 0) rfl)) (allS (Or.inl (List.mem_of_getElem? (i := 1) rfl)) (allS (Or.inl (List.mem_of_getElem? (i := 2) rfl)) (allS (Or.inl (List.mem_of_getElem? (i := 3) rfl)) all0))))) (by omega) (by rw [← hT1, hen, own_encD hc22 hc82 (own_if1 hc145), own_eS hc22]; simp) ⟨Ew115, fbytes_115, fsize_115, fobjects_115, fbegun_115, fdepth_115, fnamed_115, fstarted_115, Vb115, Vo115, Vg115, own_lt la_115, own_lt lb_115, own_lt lc_115⟩ Fv116_1 (Or.inr ⟨_, rfl⟩)
  exact L5 (cs.length - ix) ix T .unset h0 T2 _ (X2.mono (by decide) (by decide)) eh2 N2 (Keep.refl h0 [ob, ba, oa, ga]) (by omega) rfl ⟨Ew1, fbytes_1, fsize_1, fobjects_1, fbegun_1, fdepth_1, fnamed_1, fstarted_1, Vb1, Vo1, Vg1, own_lt la_1, own_lt lb_1, own_lt lc_1⟩ Fs (Or.inl rfl)
theorem d16_0 : decode B16 0 = .ok (.aload_n 1, 1) := by decide +kernel
theorem d16_1 : decode B16 1 = .ok (.invokevirtual 127, 3) := by decide +kernel
theorem d16_4 : decode B16 4 = .ok (.istore_n 2, 1) := by decide +kernel
theorem d16_5 : decode B16 5 = .ok (.aload_n 0, 1) := by decide +kernel
theorem d16_6 : decode B16 6 = .ok (.bipush 6, 2) := by decide +kernel
theorem d16_8 : decode B16 8 = .ok (.iload_n 2, 1) := by decide +kernel
theorem d16_9 : decode B16 9 = .ok (.imul, 1) := by decide +kernel
theorem d16_10 : decode B16 10 = .ok (.iconst 2, 1) := by decide +kernel
theorem d16_11 : decode B16 11 = .ok (.iadd, 1) := by decide +kernel
theorem d16_12 : decode B16 12 = .ok (.invokevirtual 131, 3) := by decide +kernel
theorem d16_15 : decode B16 15 = .ok (.aload_n 0, 1) := by decide +kernel
theorem d16_16 : decode B16 16 = .ok (.getfield 7, 3) := by decide +kernel
theorem d16_19 : decode B16 19 = .ok (.aload_n 0, 1) := by decide +kernel
theorem d16_20 : decode B16 20 = .ok (.dup, 1) := by decide +kernel
theorem d16_21 : decode B16 21 = .ok (.getfield 106, 3) := by decide +kernel
theorem d16_24 : decode B16 24 = .ok (.dup_x1, 1) := by decide +kernel
theorem d16_25 : decode B16 25 = .ok (.iconst 1, 1) := by decide +kernel
theorem d16_26 : decode B16 26 = .ok (.iadd, 1) := by decide +kernel
theorem d16_27 : decode B16 27 = .ok (.putfield 106, 3) := by decide +kernel
theorem d16_30 : decode B16 30 = .ok (.bipush 34, 2) := by decide +kernel
theorem d16_32 : decode B16 32 = .ok (.bastore, 1) := by decide +kernel
theorem d16_33 : decode B16 33 = .ok (.iconst 0, 1) := by decide +kernel
theorem d16_34 : decode B16 34 = .ok (.istore_n 3, 1) := by decide +kernel
theorem d16_104 : decode B16 104 = .ok (.iload_n 3, 1) := by decide +kernel
theorem d16_105 : decode B16 105 = .ok (.iload_n 2, 1) := by decide +kernel
theorem d16_106 : decode B16 106 = .ok (.if_icmp .ge 9, 3) := by decide +kernel
theorem d16_109 : decode B16 109 = .ok (.aload_n 0, 1) := by decide +kernel
theorem d16_110 : decode B16 110 = .ok (.aload_n 1, 1) := by decide +kernel
theorem d16_111 : decode B16 111 = .ok (.iload_n 3, 1) := by decide +kernel
theorem own_pd16 : parseMethodDescriptor "(Ljava/lang/String;I)V" = some ⟨[(.object "java/lang/String"), .int], none⟩ := by decide +kernel
theorem d16_112 : decode B16 112 = .ok (.invokevirtual 139, 3) := by decide +kernel
theorem own_selp_25 {Z : State} {a0 : Array Value} (hw : ∀ d ∈ tables_1, d.before a0 Z = true) : (Cond.selects "tramline/routes/JsonWriter" own_M25 own_M25).before a0 Z = true := own_selp (y := own_M25) (z := own_M11) (own_w hw 128 rfl) (own_w hw 129 rfl) (own_w hw 56 rfl) (notFace_of_selects (args := a0) (own_w hw 58 rfl)) rfl (by decide)
theorem d16_115 : decode B16 115 = .ok (.aload_n 0, 1) := by decide +kernel
theorem d16_116 : decode B16 116 = .ok (.getfield 7, 3) := by decide +kernel
theorem d16_119 : decode B16 119 = .ok (.aload_n 0, 1) := by decide +kernel
theorem d16_120 : decode B16 120 = .ok (.dup, 1) := by decide +kernel
theorem d16_121 : decode B16 121 = .ok (.getfield 106, 3) := by decide +kernel
theorem d16_124 : decode B16 124 = .ok (.dup_x1, 1) := by decide +kernel
theorem d16_125 : decode B16 125 = .ok (.iconst 1, 1) := by decide +kernel
theorem d16_126 : decode B16 126 = .ok (.iadd, 1) := by decide +kernel
theorem d16_127 : decode B16 127 = .ok (.putfield 106, 3) := by decide +kernel
theorem d16_130 : decode B16 130 = .ok (.bipush 34, 2) := by decide +kernel
theorem d16_132 : decode B16 132 = .ok (.bastore, 1) := by decide +kernel
theorem d16_133 : decode B16 133 = .ok (.return_, 1) := by decide +kernel
theorem d16_35 : decode B16 35 = .ok (.iload_n 3, 1) := by decide +kernel
theorem d16_36 : decode B16 36 = .ok (.iload_n 2, 1) := by decide +kernel
theorem d16_37 : decode B16 37 = .ok (.if_icmp .ge 67, 3) := by decide +kernel
theorem d16_40 : decode B16 40 = .ok (.aload_n 1, 1) := by decide +kernel
theorem d16_41 : decode B16 41 = .ok (.iload_n 3, 1) := by decide +kernel
theorem d16_42 : decode B16 42 = .ok (.invokevirtual 135, 3) := by decide +kernel
theorem d16_45 : decode B16 45 = .ok (.istore 4, 2) := by decide +kernel
theorem d16_47 : decode B16 47 = .ok (.iload 4, 2) := by decide +kernel
theorem d16_49 : decode B16 49 = .ok (.bipush 32, 2) := by decide +kernel
theorem d16_51 : decode B16 51 = .ok (.if_icmp .lt 53, 3) := by decide +kernel
theorem d16_54 : decode B16 54 = .ok (.iload 4, 2) := by decide +kernel
theorem d16_56 : decode B16 56 = .ok (.sipush 128, 3) := by decide +kernel
theorem d16_59 : decode B16 59 = .ok (.if_icmp .ge 45, 3) := by decide +kernel
theorem d16_62 : decode B16 62 = .ok (.iload 4, 2) := by decide +kernel
theorem d16_64 : decode B16 64 = .ok (.bipush 34, 2) := by decide +kernel
theorem d16_66 : decode B16 66 = .ok (.if_icmp .eq 38, 3) := by decide +kernel
theorem d16_69 : decode B16 69 = .ok (.iload 4, 2) := by decide +kernel
theorem d16_71 : decode B16 71 = .ok (.bipush 92, 2) := by decide +kernel
theorem d16_73 : decode B16 73 = .ok (.if_icmp .ne 6, 3) := by decide +kernel
theorem d16_76 : decode B16 76 = .ok (.goto 28, 3) := by decide +kernel
theorem d16_79 : decode B16 79 = .ok (.aload_n 0, 1) := by decide +kernel
theorem d16_80 : decode B16 80 = .ok (.getfield 7, 3) := by decide +kernel
theorem d16_83 : decode B16 83 = .ok (.aload_n 0, 1) := by decide +kernel
theorem d16_84 : decode B16 84 = .ok (.dup, 1) := by decide +kernel
theorem d16_85 : decode B16 85 = .ok (.getfield 106, 3) := by decide +kernel
theorem d16_88 : decode B16 88 = .ok (.dup_x1, 1) := by decide +kernel
theorem d16_89 : decode B16 89 = .ok (.iconst 1, 1) := by decide +kernel
theorem d16_90 : decode B16 90 = .ok (.iadd, 1) := by decide +kernel
theorem d16_91 : decode B16 91 = .ok (.putfield 106, 3) := by decide +kernel
theorem d16_94 : decode B16 94 = .ok (.iload 4, 2) := by decide +kernel
theorem d16_96 : decode B16 96 = .ok (.i2b, 1) := by decide +kernel
theorem d16_97 : decode B16 97 = .ok (.bastore, 1) := by decide +kernel
theorem d16_98 : decode B16 98 = .ok (.iinc 3 1, 3) := by decide +kernel
theorem d16_101 : decode B16 101 = .ok (.goto (-66), 3) := by decide +kernel
theorem own_ef_string (m : MethodId) (x0 : Addr) (x1 : Addr) : entryFrame m #[(.ref x0), (.ref x1)] 5 = mkF m 0 #[.val (.ref x0), .val (.ref x1), .unset, .unset, .unset] [] := by first | (simp [entryFrame, mkF, argsToLocals, Value.category]; done) | rfl
def own_Q_string (Z : State) (ob ba oa ga : Addr) (kb ko kg : ClassId) (T : List Int32) (dp : Int32) (bg : Int32) (sd : Int32) (so : Addr) (zc : Int32) (fm : Value) (lim : Nat) (cs : List Int32) (hxa : Addr) (kx : ClassId) (h0 : Heap) (n0 : Nat) (v : Option Value) (h : Heap) (L : List Loc) : Prop := v = none ∧ Fr n0 L ∧ Keep h0 h [ob, ba, oa, ga] ∧ OwnJ Z h ob ba oa ga kb ko kg (((T ++ [(34 : Int32)]) ++ own_encs cs) ++ [(34 : Int32)]) dp bg sd
set_option maxRecDepth 65536 in
set_option maxHeartbeats 40000000 in
theorem own_string (l : Launch) (Z : State) (a0 : Array Value) (hw : ∀ d ∈ tables_1, d.before a0 Z = true) (ws : List Jvm.Cond) (ob ba oa ga : Addr) (kb ko kg : ClassId) (T : List Int32) (dp : Int32) (bg : Int32) (sd : Int32) (so : Addr) (zc : Int32) (fm : Value) (lim : Nat) (cs : List Int32) (hxa : Addr) (kx : ClassId) (h0 : Heap) (n0 : Nat) (Z0 : n0 ≤ h0.size) (O0 : Old Z n0 h0) (SCS : Sta Z Z.heap "java/lang/String" "COMPACT_STRINGS" "Z" (.int zc)) (hzc : ¬ zc = 0) (SFM : Sta Z Z.heap "jdk/internal/util/Preconditions" "SIOOBE_FORMATTER" "Ljava/util/function/BiFunction;" fm) (rfm : fm.isRef = true) (SAD : Sta Z Z.heap "java/lang/StringUTF16" "$assertionsDisabled" "Z" (.int (1 : Int32))) (SHI : Sta Z Z.heap "java/lang/StringUTF16" "HI_BYTE_SHIFT" "I" (.int (0 : Int32))) (SLO : Sta Z Z.heap "java/lang/StringUTF16" "LO_BYTE_SHIFT" "I" (.int (8 : Int32))) (Sh : Sta Z Z.heap "tramline/routes/JsonWriter" "HEX" "[B" (.ref hxa)) (Vh : Arv Z Z.heap hxa kx .byte (16 : Int32) (own_hexT.map Value.int) (.int (0 : Int32))) (Fs : OwnS Z h0 lim so cs) (hlim : lim ≤ ob) (hcs : cs.length ≤ 4) (hT : OwnLe T 70) (J : OwnJ Z h0 ob ba oa ga kb ko kg (T) dp bg sd) (g_ob : n0 ≤ ob) :
    MetFree l own_M16 (head1 (Jvm.Cond.code own_M16 prog_32_method_21_code 5 none :: ws) ({ frames := 7, cells := 0, slots := 0, locals := 129 } : Room)) (fun A0 U0 => A0 = #[(.ref ob), (.ref so)] ∧ Z.Warmed39 U0.vm ∧ U0.heap = h0) (fun _ _ _ _ _ => True) (fun _ U0 o0 U1 => ∃ v0 L0, o0 = .returned v0 ∧ own_Q_string Z ob ba oa ga kb ko kg T dp bg sd so zc fm lim cs hxa kx h0 n0 v0 U1.heap L0 ∧ FrameEnd U0 o0 U1 L0 0 0) := by
  refine MetFree.of_bodySF (plainFor_of_name own_pn_tramline_routes_JsonWriter) hisR ?_
  intro p e s m args below meth c s₁ Bd hml0 hP hK
  obtain ⟨rfl, hZ, hh⟩ := hP
  have hZs0 := hZ
  have hZs := hZ
  have hx := Bd.exec
  have hby := Bd.bytes
  have hD : ∀ {pc : Nat} {r : Except DecodeError (Instr × Nat)}, decode prog_32_method_21_code pc = r → decode c.code pc = r := fun q => hb hby q
  have hml : c.maxLocals = 5 := hml0
  have hown : s.vm.findClass "tramline/routes/JsonWriter" = some m.cls := findClass_of_methodNamed Bd.named
  have hnm := (name_of_methodNamed Bd.named Bd.method).1
  have X0 : Stand p l e ({ frames := 7, cells := 0, slots := 0, locals := 129 } : Room) s m #[(.ref ob), (.ref so)] below meth c s₁ [] 0 0 := Stand.of_body Bd
  have e0 : s₁.heap = h0 := by rw [← hh, Bd.state]; rfl
  have N0 := Fr.nil n0
  refine OwnFin.entry (own_ef_string m ob so) (fun P' hP' => ?_)
  obtain ⟨Ew1, fbytes_1, fsize_1, fobjects_1, fbegun_1, fdepth_1, fnamed_1, fstarted_1, Vb1, Vo1, Vg1, la_1, lb_1, lc_1⟩ := id J
  have la_1 := own_lt la_1
  have lb_1 := own_lt lb_1
  have lc_1 := own_lt lc_1
  have lw1 := own_lt Ew1.lt
  have lg1 := own_lt Vg1.lt
  have ld_1 := Nat.lt_trans la_1 lb_1
  have lf_1 := Nat.lt_trans lb_1 lc_1
  have le_1 := Nat.lt_trans ld_1 lc_1
  have hlen4 := OwnS.len Fs
  obtain ⟨cq2, kq2, q2a, q2b, q2c⟩ := isOf hZ e0 (OwnS.exa Fs)
  obtain ⟨_, _, ⟨T2, L2, k2, n2⟩, -, X2, ⟨Lc2, hQ2, l2, y2, z2⟩, st2⟩ := X0.virtualBack hx (y := own_M17) (z := own_M17) hown (mvT hZ (own_w hw 91 rfl)) (mvT hZ (own_w hw 92 rfl)) (notFace_of_selects (args := #[]) (mvT hZ (own_w hw 94 rfl))) (mvT hZ (own_w hw 94 rfl)) (mvT hZ (own_w hw 93 rfl)) (by decide) (backOf (W := 0) (own_strLen l Z a0 hw [] so zc (lim) cs h0 n0 (by omega) O0 SCS hzc Fs) hZ (own_w hw 95 rfl) (own_w hw 4 rfl) (by decide) (by decide)) q2a q2c (g := (mkF m 1 #[VR ob, VR so, .unset, .unset, .unset] [(.ref so)])) rfl (by rw [hml]; rfl) (Steps.refl _) (argsL := []) (rest := []) (lenOf own_pd12 rfl) rfl (by show 2 * 0 + _ ≤ _; exact Nat.le_of_eq rfl) (hD d16_1) (fun _ _ => ⟨rfl, e0, (by decide : 0 + 0 ≤ _), (by decide : 0 + 0 ≤ _)⟩)
  dsimp only [Pt.U, Pt.locs, Pt.cells, Pt.slots] at X2 l2 y2 z2 st2 hQ2
  subst l2 y2 z2
  obtain ⟨rfl, N2q, eh2⟩ := hQ2
  have N2 := Fr.app N0 N2q
  refine OwnFin.adv (B := T2.setTop (mkF m 12 #[VR ob, VR so, VI (Int32.ofNat (cs).length), .unset, .unset] [(.int (((6:Int32) * (Int32.ofNat (cs).length)) + (2:Int32))), (.ref ob)])) (fun _ k => XS.aloadN X0.here hx rfl (hD d16_0) rfl rfl (st2.trans (XS.istoreN X2.here hx rfl (hD d16_4) rfl (l' := #[VR ob, VR so, VI (Int32.ofNat (cs).length), .unset, .unset]) rfl (XS.aloadN X2.here hx rfl (hD d16_5) rfl rfl (XS.bipush X2.here hx rfl (hD d16_6) (XS.iloadN X2.here hx rfl (hD d16_8) rfl (XS.imul X2.here hx rfl (hD d16_9) rfl (XS.iconst X2.here hx rfl (hD d16_10) (XS.iadd X2.here hx rfl (hD d16_11) rfl k))))))))) ?_
  rw [show ((((6:Int32) * (Int32.ofNat (cs).length)) + (2:Int32)) : Int32) = (Int32.ofNat (6 * cs.length + 2)) from by rw [show (6:Int32) = Int32.ofNat 6 from rfl, own_mulN]; exact own_add _ 2]
  have J4c : OwnJ Z h0 ob ba oa ga kb ko kg (T) dp bg sd := ⟨Ew1, fbytes_1, fsize_1, fobjects_1, fbegun_1, fdepth_1, fnamed_1, fstarted_1, Vb1, Vo1, Vg1, own_lt la_1, own_lt lb_1, own_lt lc_1⟩
  obtain ⟨cq3, qp3, qp3'⟩ := Ew1.cell
  obtain ⟨_, _, ⟨T3, L3, k3, n3⟩, -, X3, ⟨Lc3, hQ3, l3, y3, z3⟩, st3⟩ := X2.privateBack hx (y := own_M19) hown (mvT hZ (own_w hw 101 rfl)) (mvT hZ (own_w hw 102 rfl)) (mvT hZ (own_selp_19 hw)) (Cond.privateMethod_at (mvP hZ (own_w hw 103 rfl) (args := #[]))) (mvT hZ (own_w hw 104 rfl)) (by decide) (backOf (W := 0) (own_room l Z a0 hw [] ob ba oa ga kb ko kg (T) dp bg sd (6 * cs.length + 2) h0 n0 (by omega) J4c (own_leM hT (by decide)) (by omega)) hZ (own_w hw 104 rfl) (own_w hw 43 rfl) (by decide) (by decide)) (g := (mkF m 12 #[VR ob, VR so, VI (Int32.ofNat (cs).length), .unset, .unset] [(.int (Int32.ofNat (6 * cs.length + 2))), (.ref ob)])) rfl (by rw [hml]; rfl) (Steps.refl _) (a := ob) (by rw [eh2]; exact qp3) qp3' (argsL := [(.int (Int32.ofNat (6 * cs.length + 2)))]) (rest := []) (lenOf own_pd7 rfl) rfl (by show 2 * 0 + _ ≤ _; exact Nat.le_of_eq rfl) (hD d16_12) (fun _ _ => ⟨rfl, eh2, (by decide : 0 + 0 ≤ _), (by decide : 0 + 0 ≤ _)⟩)
  dsimp only [Pt.U, Pt.locs, Pt.cells, Pt.slots] at X3 l3 y3 z3 st3 hQ3
  subst l3 y3 z3
  obtain ⟨rfl, N3q, eh3⟩ := hQ3
  have N3 := Fr.app N2 N3q
  obtain ⟨T5, X5, e5, st5⟩ := getF X3 hx hZ hown (host := "") (Or.inl (own_w hw 48 rfl)) Via.refl eh3 fbytes_1 (g := (mkF m 16 #[VR ob, VR so, VI (Int32.ofNat (cs).length), .unset, .unset] [(.ref ob)])) rfl rfl (hD d16_16)
  obtain ⟨T6, X6, e6, st6⟩ := getF X5 hx hZ hown (host := "") (Or.inl (own_w hw 60 rfl)) Via.refl e5 fsize_1 (g := (mkF m 21 #[VR ob, VR so, VI (Int32.ofNat (cs).length), .unset, .unset] [(.ref ob), (.ref ob), (.ref ba)])) rfl rfl (hD d16_21)
  obtain ⟨T7, h7, X7, e7, W7, st7⟩ := putF X6 hx hZ hown (host := "") (Or.inl (own_w hw 60 rfl)) Via.refl e6 fsize_1 Ew1 (Or.inl (own_w hw 61 rfl)) (own_w hw 42 rfl) (ty := .int) (by decide) rfl rfl (g := (mkF m 27 #[VR ob, VR so, VI (Int32.ofNat (cs).length), .unset, .unset] [(.int ((Int32.ofNat (T).length) + (1:Int32))), (.ref ob), (.int (Int32.ofNat (T).length)), (.ref ba)])) rfl rfl (hD d16_27)
  have Fw7 : Fld Z h7 ob "tramline/routes/JsonWriter" "size" "I" (.int ((Int32.ofNat (T).length) + (1:Int32))) := fsize_1.same W7
  have sz8 : h0.size ≤ h7.size := Nat.le_of_eq W7.size.symm
  have N7 := Fr.snoc X7 N3 (by omega : n0 ≤ ob)
  have Fv10_1 := (Vb1.other W7 (Nat.ne_of_gt la_1))
  obtain ⟨cl9, Ar9, ck9, S9, M9, H9, G9⟩ := id Fv10_1
  have hin9 := own_in256 (n := (T).length) S9 (own_leI hT (by decide))
  obtain ⟨T9, h9, X9, e9, W9, st9⟩ := stB X7 hx hZ e7 Ar9 (j := (Int32.ofNat (T).length)) hin9 (g := (mkF m 32 #[VR ob, VR so, VI (Int32.ofNat (cs).length), .unset, .unset] [(.int 34), (.int (Int32.ofNat (T).length)), (.ref ba)])) rfl rfl (hD d16_32)
  have V9 : Arv Z h9 ba kb .byte (256:Int32) (((T ++ [(34:Int32)])).map Value.int) (.int 0) := own_push Fv10_1 W9 (by decide) (own_leL hT (by decide))
  have lb9 : OwnLe (T ++ [(34:Int32)]) 71 := own_leS hT
  have sz11 : h7.size ≤ h9.size := Nat.le_of_eq W9.size.symm
  have N9 := Fr.snoc X9 N7 (by omega : n0 ≤ ba)
  have Fv13_2 := (Fw7.other W9 (Or.inl (Nat.ne_of_lt la_1)))
  have Fz12 : Fld Z h9 ob "tramline/routes/JsonWriter" "size" "I" (.int (Int32.ofNat ((T ++ [(34:Int32)])).length)) := by
    have q := Fv13_2
    rw [own_p1] at q
    exact q
  refine OwnFin.adv (B := T9.setTop (mkF m 35 #[VR ob, VR so, VI (Int32.ofNat (cs).length), VI (0:Int32), .unset] [])) (fun _ k => st3.trans (XS.aloadN X3.here hx rfl (hD d16_15) rfl rfl (st5 _ (XS.aloadN X5.here hx rfl (hD d16_19) rfl rfl (XS.dup X5.here hx rfl (hD d16_20) rfl rfl (st6 _ (XS.dupX1 X6.here hx rfl (hD d16_24) rfl rfl rfl (XS.iconst X6.here hx rfl (hD d16_25) (XS.iadd X6.here hx rfl (hD d16_26) rfl (st7 _ (XS.bipush X7.here hx rfl (hD d16_30) (st9 _ (XS.iconst X9.here hx rfl (hD d16_33) (XS.istoreN X9.here hx rfl (hD d16_34) rfl (l' := #[VR ob, VR so, VI (Int32.ofNat (cs).length), VI (0:Int32), .unset]) rfl k)))))))))))))) ?_
  have J104 : ∀ (i : Nat) (tP : List Int32) (s4 : Slot) (hJ : Heap) (TJ : State) (LJ : List Loc) (XJ : Stand p l e ({ frames := 7, cells := 0, slots := 0, locals := 129 } : Room) s m #[(.ref ob), (.ref so)] below meth c TJ LJ 0 0) (eJ : TJ.heap = hJ) (NJ : Fr n0 LJ) (KJ : Keep h0 hJ [ob, ba, oa, ga]) (hi : i ≤ cs.length) (hT1 : tP ++ own_encs (cs.drop i) = (T ++ [(34:Int32)]) ++ own_encs cs) (FJ : OwnJ Z hJ ob ba oa ga kb ko kg (tP) dp bg sd) (Sj : OwnS Z hJ lim so cs) (hs4 : s4 = .unset ∨ ∃ x, s4 = .val (.int x)), OwnFin p.tables e below P' (TJ.setTop (mkF m 104 #[VR ob, VR so, VI (Int32.ofNat (cs).length), VI (Int32.ofNat i), s4] [])) := by
   intro i tP s4 hJ TJ LJ XJ eJ NJ KJ hi hT1 FJ Sj hs4
   have szJ : h0.size ≤ hJ.size := KJ.1
   have OJ : Old Z n0 hJ := O0.keep KJ (allS (by omega) (allS (by omega) (allS (by omega) (allS (by omega) all0))))
   have hbd : OwnLe tP 95 := own_tb (cs := cs) hT1 (Nat.le_refl _) hcs (own_leS hT)
   obtain ⟨Ew14, fbytes_14, fsize_14, fobjects_14, fbegun_14, fdepth_14, fnamed_14, fstarted_14, Vb14, Vo14, Vg14, la_14, lb_14, lc_14⟩ := id FJ
   have la_14 := own_lt la_14
   have lb_14 := own_lt lb_14
   have lc_14 := own_lt lc_14
   have lw14 := own_lt Ew14.lt
   have lg14 := own_lt Vg14.lt
   have ld_14 := Nat.lt_trans la_14 lb_14
   have lf_14 := Nat.lt_trans lb_14 lc_14
   have le_14 := Nat.lt_trans ld_14 lc_14
   refine OwnFin.adv (B := TJ.setTop (mkF m 106 #[VR ob, VR so, VI (Int32.ofNat (cs).length), VI (Int32.ofNat i), s4] [(.int (Int32.ofNat (cs).length)), (.int (Int32.ofNat i))])) (fun _ k => XS.iloadN XJ.here hx rfl (hD d16_104) rfl (XS.iloadN XJ.here hx rfl (hD d16_105) rfl k)) ?_
   by_cases hc106 : (Int32.ofNat i) < (Int32.ofNat (cs).length)
   ·
    have J16c : OwnJ Z hJ ob ba oa ga kb ko kg (tP) dp bg sd := ⟨Ew14, fbytes_14, fsize_14, fobjects_14, fbegun_14, fdepth_14, fnamed_14, fstarted_14, Vb14, Vo14, Vg14, own_lt la_14, own_lt lb_14, own_lt lc_14⟩
    obtain ⟨cq15, qp15, qp15'⟩ := Ew14.cell
    obtain ⟨_, _, ⟨T15, L15, k15, n15⟩, -, X15, ⟨Lc15, hQ15, l15, y15, z15⟩, st15⟩ := XJ.privateBack hx (y := own_M25) hown (mvT hZ (own_w hw 127 rfl)) (mvT hZ (own_w hw 128 rfl)) (mvT hZ (own_selp_25 hw)) (Cond.privateMethod_at (mvP hZ (own_w hw 129 rfl) (args := #[]))) (mvT hZ (own_w hw 130 rfl)) (by decide) (backOf (W := 0) (own_rest l Z a0 hw [] ob ba oa ga kb ko kg (tP) dp bg sd so zc fm lim i cs hxa kx hJ n0 (by omega) OJ SCS hzc SFM rfm SAD SHI SLO Sh Vh Sj hlim hcs hi (own_leM hbd (by decide)) J16c (by omega)) hZ (own_w hw 130 rfl) (own_w hw 43 rfl) (by decide) (by decide)) (g := (mkF m 112 #[VR ob, VR so, VI (Int32.ofNat (cs).length), VI (Int32.ofNat i), s4] [(.int (Int32.ofNat i)), (.ref so), (.ref ob)])) rfl (by rw [hml]; rfl) (Steps.refl _) (a := ob) (by rw [eJ]; exact qp15) qp15' (argsL := [(.ref so), (.int (Int32.ofNat i))]) (rest := []) (lenOf own_pd16 rfl) rfl (by show 2 * 0 + _ ≤ _; exact Nat.le_of_eq rfl) (hD d16_112) (fun _ _ => ⟨rfl, eJ, (by decide : 0 + 0 ≤ _), (by decide : 0 + 0 ≤ _)⟩)
    dsimp only [Pt.U, Pt.locs, Pt.cells, Pt.slots] at X15 l15 y15 z15 st15 hQ15
    subst l15 y15 z15
    obtain ⟨rfl, N15q, K15, FJ15⟩ := hQ15
    have N15 := Fr.app NJ N15q
    have sz17 : hJ.size ≤ T15.heap.size := K15.1
    have lb15 : OwnLe ((tP ++ own_encs (cs.drop i))) 119 := own_leA hbd (own_encD4 hcs)
    obtain ⟨Ew18, fbytes_18, fsize_18, fobjects_18, fbegun_18, fdepth_18, fnamed_18, fstarted_18, Vb18, Vo18, Vg18, la_18, lb_18, lc_18⟩ := id FJ15
    have la_18 := own_lt la_18
    have lb_18 := own_lt lb_18
    have lc_18 := own_lt lc_18
    have lw18 := own_lt Ew18.lt
    have lg18 := own_lt Vg18.lt
    have ld_18 := Nat.lt_trans la_18 lb_18
    have lf_18 := Nat.lt_trans lb_18 lc_18
    have le_18 := Nat.lt_trans ld_18 lc_18
    obtain ⟨T19, X19, e19, st19⟩ := getF X15 hx hZ hown (host := "") (Or.inl (own_w hw 48 rfl)) Via.refl rfl fbytes_18 (g := (mkF m 116 #[VR ob, VR so, VI (Int32.ofNat (cs).length), VI (Int32.ofNat i), s4] [(.ref ob)])) rfl rfl (hD d16_116)
    obtain ⟨T20, X20, e20, st20⟩ := getF X19 hx hZ hown (host := "") (Or.inl (own_w hw 60 rfl)) Via.refl e19 fsize_18 (g := (mkF m 121 #[VR ob, VR so, VI (Int32.ofNat (cs).length), VI (Int32.ofNat i), s4] [(.ref ob), (.ref ob), (.ref ba)])) rfl rfl (hD d16_121)
    obtain ⟨T21, h21, X21, e21, W21, st21⟩ := putF X20 hx hZ hown (host := "") (Or.inl (own_w hw 60 rfl)) Via.refl e20 fsize_18 Ew18 (Or.inl (own_w hw 61 rfl)) (own_w hw 42 rfl) (ty := .int) (by decide) rfl rfl (g := (mkF m 127 #[VR ob, VR so, VI (Int32.ofNat (cs).length), VI (Int32.ofNat i), s4] [(.int ((Int32.ofNat ((tP ++ own_encs (cs.drop i))).length) + (1:Int32))), (.ref ob), (.int (Int32.ofNat ((tP ++ own_encs (cs.drop i))).length)), (.ref ba)])) rfl rfl (hD d16_127)
    have Fw21 : Fld Z h21 ob "tramline/routes/JsonWriter" "size" "I" (.int ((Int32.ofNat ((tP ++ own_encs (cs.drop i))).length) + (1:Int32))) := fsize_18.same W21
    have sz22 : T15.heap.size ≤ h21.size := Nat.le_of_eq W21.size.symm
    have N21 := Fr.snoc X21 N15 (by omega : n0 ≤ ob)
    refine OwnFin.adv (B := T21.setTop (mkF m 130 #[VR ob, VR so, VI (Int32.ofNat (cs).length), VI (Int32.ofNat i), s4] [(.int (Int32.ofNat ((tP ++ own_encs (cs.drop i))).length)), (.ref ba)])) (fun _ k => XS.icmpNo XJ.here hx rfl (hD d16_106) rfl (tlt hc106).2.1 (XS.aloadN XJ.here hx rfl (hD d16_109) rfl rfl (XS.aloadN XJ.here hx rfl (hD d16_110) rfl rfl (XS.iloadN XJ.here hx rfl (hD d16_111) rfl (st15.trans (XS.aloadN X15.here hx rfl (hD d16_115) rfl rfl (st19 _ (XS.aloadN X19.here hx rfl (hD d16_119) rfl rfl (XS.dup X19.here hx rfl (hD d16_120) rfl rfl (st20 _ (XS.dupX1 X20.here hx rfl (hD d16_124) rfl rfl rfl (XS.iconst X20.here hx rfl (hD d16_125) (XS.iadd X20.here hx rfl (hD d16_126) rfl (st21 _ k)))))))))))))) ?_
    have Fv24_2 := (Vb18.other W21 (Nat.ne_of_gt la_18))
    obtain ⟨cl23, Ar23, ck23, S23, M23, H23, G23⟩ := id Fv24_2
    have hin23 := own_in256 (n := ((tP ++ own_encs (cs.drop i))).length) S23 (own_leI lb15 (by decide))
    obtain ⟨T23, h23, X23, e23, W23, st23⟩ := stB X21 hx hZ e21 Ar23 (j := (Int32.ofNat ((tP ++ own_encs (cs.drop i))).length)) hin23 (g := (mkF m 132 #[VR ob, VR so, VI (Int32.ofNat (cs).length), VI (Int32.ofNat i), s4] [(.int 34), (.int (Int32.ofNat ((tP ++ own_encs (cs.drop i))).length)), (.ref ba)])) rfl rfl (hD d16_132)
    have V23 : Arv Z h23 ba kb .byte (256:Int32) ((((tP ++ own_encs (cs.drop i)) ++ [(34:Int32)])).map Value.int) (.int 0) := own_push Fv24_2 W23 (by decide) (own_leL lb15 (by decide))
    have lb23 : OwnLe ((tP ++ own_encs (cs.drop i)) ++ [(34:Int32)]) 120 := own_leS lb15
    have sz25 : h21.size ≤ h23.size := Nat.le_of_eq W23.size.symm
    have N23 := Fr.snoc X23 N21 (by omega : n0 ≤ ba)
    have Fv27_3 := (Fw21.other W23 (Or.inl (Nat.ne_of_lt la_18)))
    have Fz26 : Fld Z h23 ob "tramline/routes/JsonWriter" "size" "I" (.int (Int32.ofNat (((tP ++ own_encs (cs.drop i)) ++ [(34:Int32)])).length)) := by
      have q := Fv27_3
      rw [own_p1] at q
      exact q
    obtain ⟨fs, hr, hrun, hended, hW, hsame⟩ := X23.leave (v := none) (fun _ => rfl)
    refine OwnFin.adv (B := T23.setTop (mkF m 133 #[VR ob, VR so, VI (Int32.ofNat (cs).length), VI (Int32.ofNat i), s4] [])) (fun _ k => XS.bipush X21.here hx rfl (hD d16_130) (st23 _ k)) ?_
    refine OwnFin.leaf hP' ⟨_, _, X23.returnOut hx Bd.returns (hD d16_133) hr, hrun, hended, _, _, rfl, ?_, ⟨_, rfl⟩, hW, hsame.mono (by decide) (by decide)⟩
    have hTT : ((tP ++ own_encs (cs.drop i)) ++ [(34:Int32)]) = ((T ++ [(34:Int32)]) ++ own_encs cs) ++ [(34:Int32)] := by rw [hT1]
    have Fv28_3 := ((Ew18.wr W21).wr W23)
    have Fv29_3 := ((fbytes_18.other W21 (Or.inr (own_sn0 hw))).other W23 (Or.inl (Nat.ne_of_lt la_18)))
    have Fv30_3 := ((fobjects_18.other W21 (Or.inr (own_sn1 hw))).other W23 (Or.inl (Nat.ne_of_lt la_18)))
    have Fv31_3 := ((fbegun_18.other W21 (Or.inr (own_sn2 hw))).other W23 (Or.inl (Nat.ne_of_lt la_18)))
    have Fv32_3 := ((fdepth_18.other W21 (Or.inr (own_sn3 hw))).other W23 (Or.inl (Nat.ne_of_lt la_18)))
    have Fv33_3 := ((fnamed_18.other W21 (Or.inr (own_sn4 hw))).other W23 (Or.inl (Nat.ne_of_lt la_18)))
    have Fv34_3 := ((fstarted_18.other W21 (Or.inr (own_sn5 hw))).other W23 (Or.inl (Nat.ne_of_lt la_18)))
    have Fv35_3 := ((Vo18.other W21 (Nat.ne_of_gt ld_18)).other W23 (Nat.ne_of_gt lb_18))
    have Fv36_3 := ((Vg18.other W21 (Nat.ne_of_gt le_18)).other W23 (Nat.ne_of_gt lf_18))
    rw [show (T23.setFrames fs).heap = h23 from e23]
    exact ⟨rfl, N23, (((KJ.trans K15 (allS (Or.inl (List.mem_of_getElem? (i := 0) rfl)) (allS (Or.inl (List.mem_of_getElem? (i := 1) rfl)) (allS (Or.inl (List.mem_of_getElem? (i := 2) rfl)) (allS (Or.inl (List.mem_of_getElem? (i := 3) rfl)) all0))))).wr W21 (Or.inl (List.mem_of_getElem? (i := 0) rfl))).wr W23 (Or.inl (List.mem_of_getElem? (i := 1) rfl))), by rw [← hTT]; exact ⟨Fv28_3, Fv29_3, Fz26, Fv30_3, Fv31_3, Fv32_3, Fv33_3, Fv34_3, V23, Fv35_3, Fv36_3, own_lt la_18, own_lt lb_18, own_lt lc_18⟩⟩
   ·
    obtain ⟨T37, X37, e37, st37⟩ := getF XJ hx hZ hown (host := "") (Or.inl (own_w hw 48 rfl)) Via.refl eJ fbytes_14 (g := (mkF m 116 #[VR ob, VR so, VI (Int32.ofNat (cs).length), VI (Int32.ofNat i), s4] [(.ref ob)])) rfl rfl (hD d16_116)
    obtain ⟨T38, X38, e38, st38⟩ := getF X37 hx hZ hown (host := "") (Or.inl (own_w hw 60 rfl)) Via.refl e37 fsize_14 (g := (mkF m 121 #[VR ob, VR so, VI (Int32.ofNat (cs).length), VI (Int32.ofNat i), s4] [(.ref ob), (.ref ob), (.ref ba)])) rfl rfl (hD d16_121)
    obtain ⟨T39, h39, X39, e39, W39, st39⟩ := putF X38 hx hZ hown (host := "") (Or.inl (own_w hw 60 rfl)) Via.refl e38 fsize_14 Ew14 (Or.inl (own_w hw 61 rfl)) (own_w hw 42 rfl) (ty := .int) (by decide) rfl rfl (g := (mkF m 127 #[VR ob, VR so, VI (Int32.ofNat (cs).length), VI (Int32.ofNat i), s4] [(.int ((Int32.ofNat (tP).length) + (1:Int32))), (.ref ob), (.int (Int32.ofNat (tP).length)), (.ref ba)])) rfl rfl (hD d16_127)
    have Fw39 : Fld Z h39 ob "tramline/routes/JsonWriter" "size" "I" (.int ((Int32.ofNat (tP).length) + (1:Int32))) := fsize_14.same W39
    have sz40 : hJ.size ≤ h39.size := Nat.le_of_eq W39.size.symm
    have N39 := Fr.snoc X39 NJ (by omega : n0 ≤ ob)
    have Fv42_1 := (Vb14.other W39 (Nat.ne_of_gt la_14))
    obtain ⟨cl41, Ar41, ck41, S41, M41, H41, G41⟩ := id Fv42_1
    have hin41 := own_in256 (n := (tP).length) S41 (own_leI hbd (by decide))
    obtain ⟨T41, h41, X41, e41, W41, st41⟩ := stB X39 hx hZ e39 Ar41 (j := (Int32.ofNat (tP).length)) hin41 (g := (mkF m 132 #[VR ob, VR so, VI (Int32.ofNat (cs).length), VI (Int32.ofNat i), s4] [(.int 34), (.int (Int32.ofNat (tP).length)), (.ref ba)])) rfl rfl (hD d16_132)
    have V41 : Arv Z h41 ba kb .byte (256:Int32) (((tP ++ [(34:Int32)])).map Value.int) (.int 0) := own_push Fv42_1 W41 (by decide) (own_leL hbd (by decide))
    have lb41 : OwnLe (tP ++ [(34:Int32)]) 96 := own_leS hbd
    have sz43 : h39.size ≤ h41.size := Nat.le_of_eq W41.size.symm
    have N41 := Fr.snoc X41 N39 (by omega : n0 ≤ ba)
    have Fv45_2 := (Fw39.other W41 (Or.inl (Nat.ne_of_lt la_14)))
    have Fz44 : Fld Z h41 ob "tramline/routes/JsonWriter" "size" "I" (.int (Int32.ofNat ((tP ++ [(34:Int32)])).length)) := by
      have q := Fv45_2
      rw [own_p1] at q
      exact q
    obtain ⟨fs, hr, hrun, hended, hW, hsame⟩ := X41.leave (v := none) (fun _ => rfl)
    refine OwnFin.adv (B := T41.setTop (mkF m 133 #[VR ob, VR so, VI (Int32.ofNat (cs).length), VI (Int32.ofNat i), s4] [])) (fun _ k => XS.icmpYes XJ.here hx rfl (pc0 := 106) (pc' := 115) rfl (hD d16_106) rfl (flt hc106).2.1 (by decide) (by decide) (XS.aloadN XJ.here hx rfl (hD d16_115) rfl rfl (st37 _ (XS.aloadN X37.here hx rfl (hD d16_119) rfl rfl (XS.dup X37.here hx rfl (hD d16_120) rfl rfl (st38 _ (XS.dupX1 X38.here hx rfl (hD d16_124) rfl rfl rfl (XS.iconst X38.here hx rfl (hD d16_125) (XS.iadd X38.here hx rfl (hD d16_126) rfl (st39 _ (XS.bipush X39.here hx rfl (hD d16_130) (st41 _ k)))))))))))) ?_
    refine OwnFin.leaf hP' ⟨_, _, X41.returnOut hx Bd.returns (hD d16_133) hr, hrun, hended, _, _, rfl, ?_, ⟨_, rfl⟩, hW, hsame.mono (by decide) (by decide)⟩
    have hTT : (tP ++ [(34:Int32)]) = ((T ++ [(34:Int32)]) ++ own_encs cs) ++ [(34:Int32)] := by rw [← hT1, List.drop_eq_nil_of_le (own_nlt (by omega) (by omega) hc106)]; simp [own_encs]
    have Fv46_2 := ((Ew14.wr W39).wr W41)
    have Fv47_2 := ((fbytes_14.other W39 (Or.inr (own_sn0 hw))).other W41 (Or.inl (Nat.ne_of_lt la_14)))
    have Fv48_2 := ((fobjects_14.other W39 (Or.inr (own_sn1 hw))).other W41 (Or.inl (Nat.ne_of_lt la_14)))
    have Fv49_2 := ((fbegun_14.other W39 (Or.inr (own_sn2 hw))).other W41 (Or.inl (Nat.ne_of_lt la_14)))
    have Fv50_2 := ((fdepth_14.other W39 (Or.inr (own_sn3 hw))).other W41 (Or.inl (Nat.ne_of_lt la_14)))
    have Fv51_2 := ((fnamed_14.other W39 (Or.inr (own_sn4 hw))).other W41 (Or.inl (Nat.ne_of_lt la_14)))
    have Fv52_2 := ((fstarted_14.other W39 (Or.inr (own_sn5 hw))).other W41 (Or.inl (Nat.ne_of_lt la_14)))
    have Fv53_2 := ((Vo14.other W39 (Nat.ne_of_gt ld_14)).other W41 (Nat.ne_of_gt lb_14))
    have Fv54_2 := ((Vg14.other W39 (Nat.ne_of_gt le_14)).other W41 (Nat.ne_of_gt lf_14))
    rw [show (T41.setFrames fs).heap = h41 from e41]
    exact ⟨rfl, N41, ((KJ.wr W39 (Or.inl (List.mem_of_getElem? (i := 0) rfl))).wr W41 (Or.inl (List.mem_of_getElem? (i := 1) rfl))), by rw [← hTT]; exact ⟨Fv46_2, Fv47_2, Fz44, Fv48_2, Fv49_2, Fv50_2, Fv51_2, Fv52_2, V41, Fv53_2, Fv54_2, own_lt la_14, own_lt lb_14, own_lt lc_14⟩⟩
  have L35 : ∀ (r : Nat) (i : Nat) (tP : List Int32) (s4 : Slot) (hJ : Heap) (TJ : State) (LJ : List Loc) (XJ : Stand p l e ({ frames := 7, cells := 0, slots := 0, locals := 129 } : Room) s m #[(.ref ob), (.ref so)] below meth c TJ LJ 0 0) (eJ : TJ.heap = hJ) (NJ : Fr n0 LJ) (KJ : Keep h0 hJ [ob, ba, oa, ga]) (hr : i + r = cs.length) (hT1 : tP ++ own_encs (cs.drop i) = (T ++ [(34:Int32)]) ++ own_encs cs) (FJ : OwnJ Z hJ ob ba oa ga kb ko kg (tP) dp bg sd) (Sj : OwnS Z hJ lim so cs) (hs4 : s4 = .unset ∨ ∃ x, s4 = .val (.int x)), OwnFin p.tables e below P' (TJ.setTop (mkF m 35 #[VR ob, VR so, VI (Int32.ofNat (cs).length), VI (Int32.ofNat i), s4] [])) := by
   intro r
   induction r with
   | zero =>
    intro i tP s4 hJ TJ LJ XJ eJ NJ KJ hr hT1 FJ Sj hs4
    have szJ : h0.size ≤ hJ.size := KJ.1
    have OJ : Old Z n0 hJ := O0.keep KJ (allS (by omega) (allS (by omega) (allS (by omega) (allS (by omega) all0))))
    have hbd : OwnLe tP 95 := own_tb (cs := cs) hT1 (Nat.le_refl _) hcs (own_leS hT)
    obtain ⟨Ew55, fbytes_55, fsize_55, fobjects_55, fbegun_55, fdepth_55, fnamed_55, fstarted_55, Vb55, Vo55, Vg55, la_55, lb_55, lc_55⟩ := id FJ
    have la_55 := own_lt la_55
    have lb_55 := own_lt lb_55
    have lc_55 := own_lt lc_55
    have lw55 := own_lt Ew55.lt
    have lg55 := own_lt Vg55.lt
    have ld_55 := Nat.lt_trans la_55 lb_55
    have lf_55 := Nat.lt_trans lb_55 lc_55
    have le_55 := Nat.lt_trans ld_55 lc_55
    have hc37_27 : ¬ ((Int32.ofNat i) < (Int32.ofNat (cs).length)) := fun q => absurd ((own_ltn (by omega) (by omega)).mp q) (by omega)
    refine OwnFin.adv (B := TJ.setTop (mkF m 104 #[VR ob, VR so, VI (Int32.ofNat (cs).length), VI (Int32.ofNat i), s4] [])) (fun _ k => XS.iloadN XJ.here hx rfl (hD d16_35) rfl (XS.iloadN XJ.here hx rfl (hD d16_36) rfl (XS.icmpYes XJ.here hx rfl (pc0 := 37) (pc' := 104) rfl (hD d16_37) rfl (flt hc37_27).2.1 (by decide) (by decide) k))) ?_
    exact J104 i tP s4 hJ TJ _ (XJ.mono (by decide) (by decide)) eJ NJ KJ (by omega) hT1 ⟨Ew55, fbytes_55, fsize_55, fobjects_55, fbegun_55, fdepth_55, fnamed_55, fstarted_55, Vb55, Vo55, Vg55, own_lt la_55, own_lt lb_55, own_lt lc_55⟩ Sj hs4
   | succ r ih =>
    intro i tP s4 hJ TJ LJ XJ eJ NJ KJ hr hT1 FJ Sj hs4
    have szJ : h0.size ≤ hJ.size := KJ.1
    have OJ : Old Z n0 hJ := O0.keep KJ (allS (by omega) (allS (by omega) (allS (by omega) (allS (by omega) all0))))
    have hbd : OwnLe tP 95 := own_tb (cs := cs) hT1 (Nat.le_refl _) hcs (own_leS hT)
    obtain ⟨Ew56, fbytes_56, fsize_56, fobjects_56, fbegun_56, fdepth_56, fnamed_56, fstarted_56, Vb56, Vo56, Vg56, la_56, lb_56, lc_56⟩ := id FJ
    have la_56 := own_lt la_56
    have lb_56 := own_lt lb_56
    have lc_56 := own_lt lc_56
    have lw56 := own_lt Ew56.lt
    have lg56 := own_lt Vg56.lt
    have ld_56 := Nat.lt_trans la_56 lb_56
    have lf_56 := Nat.lt_trans lb_56 lc_56
    have le_56 := Nat.lt_trans ld_56 lc_56
    have hc37_27 : (Int32.ofNat i) < (Int32.ofNat (cs).length) := (own_ltn (by omega) (by omega)).mpr (by omega)
    obtain ⟨cq57, kq57, q57a, q57b, q57c⟩ := isOf hZ eJ (OwnS.exa Sj)
    obtain ⟨_, _, ⟨T57, L57, k57, n57⟩, -, X57, ⟨Lc57, hQ57, l57, y57, z57⟩, st57⟩ := XJ.virtualBack hx (y := own_M20) (z := own_M20) hown (mvT hZ (own_w hw 105 rfl)) (mvT hZ (own_w hw 106 rfl)) (notFace_of_selects (args := #[]) (mvT hZ (own_w hw 108 rfl))) (mvT hZ (own_w hw 108 rfl)) (mvT hZ (own_w hw 107 rfl)) (by decide) (backOf (W := 0) (own_strCh l Z a0 hw [] so zc fm (lim) (i) cs hJ n0 (by omega) OJ SCS hzc SFM rfm SAD SHI SLO Sj (by omega)) hZ (own_w hw 109 rfl) (own_w hw 4 rfl) (by decide) (by decide)) q57a q57c (g := (mkF m 42 #[VR ob, VR so, VI (Int32.ofNat (cs).length), VI (Int32.ofNat i), s4] [(.int (Int32.ofNat i)), (.ref so)])) rfl (by rw [hml]; rfl) (Steps.refl _) (argsL := [(.int (Int32.ofNat i))]) (rest := []) (lenOf own_pd13 rfl) rfl (by show 2 * 0 + _ ≤ _; exact Nat.le_of_eq rfl) (hD d16_42) (fun _ _ => ⟨rfl, eJ, (by decide : 0 + 0 ≤ _), (by decide : 0 + 0 ≤ _)⟩)
    dsimp only [Pt.U, Pt.locs, Pt.cells, Pt.slots] at X57 l57 y57 z57 st57 hQ57
    subst l57 y57 z57
    obtain ⟨rfl, N57q, eh57⟩ := hQ57
    have N57 := Fr.app NJ N57q
    have hi' : i < cs.length := by omega
    have hen := own_encsd hi'
    obtain ⟨cc, hcc⟩ : ∃ z, z = cs.getD i 0 := ⟨_, rfl⟩
    rw [← hcc] at hen
    refine OwnFin.adv (B := T57.setTop (mkF m 45 #[VR ob, VR so, VI (Int32.ofNat (cs).length), VI (Int32.ofNat i), s4] [(.int ((cs).getD (i) 0))])) (fun _ k => XS.iloadN XJ.here hx rfl (hD d16_35) rfl (XS.iloadN XJ.here hx rfl (hD d16_36) rfl (XS.icmpNo XJ.here hx rfl (hD d16_37) rfl (tlt hc37_27).2.1 (XS.aloadN XJ.here hx rfl (hD d16_40) rfl rfl (XS.iloadN XJ.here hx rfl (hD d16_41) rfl (st57.trans k)))))) ?_
    rw [show (((cs).getD (i) 0) : Int32) = cc from hcc.symm]
    refine OwnFin.adv (B := T57.setTop (mkF m 51 #[VR ob, VR so, VI (Int32.ofNat (cs).length), VI (Int32.ofNat i), VI cc] [(.int 32), (.int cc)])) (fun _ k => XS.istore X57.here hx rfl (hD d16_45) rfl (l' := #[VR ob, VR so, VI (Int32.ofNat (cs).length), VI (Int32.ofNat i), VI cc]) (by rcases hs4 with rfl | ⟨x, rfl⟩ <;> rfl) (XS.iload X57.here hx rfl (hD d16_47) rfl (XS.bipush X57.here hx rfl (hD d16_49) k))) ?_
    by_cases hc51 : cc < (32:Int32)
    ·
     refine OwnFin.adv (B := T57.setTop (mkF m 104 #[VR ob, VR so, VI (Int32.ofNat (cs).length), VI (Int32.ofNat i), VI cc] [])) (fun _ k => XS.icmpYes X57.here hx rfl (pc0 := 51) (pc' := 104) rfl (hD d16_51) rfl (tlt hc51).1 (by decide) (by decide) k) ?_
     exact J104 i tP (.val (.int cc)) hJ T57 _ (X57.mono (by decide) (by decide)) eh57 N57 KJ (by omega) hT1 ⟨Ew56, fbytes_56, fsize_56, fobjects_56, fbegun_56, fdepth_56, fnamed_56, fstarted_56, Vb56, Vo56, Vg56, own_lt la_56, own_lt lb_56, own_lt lc_56⟩ Sj (Or.inr ⟨_, rfl⟩)
    ·
     refine OwnFin.adv (B := T57.setTop (mkF m 59 #[VR ob, VR so, VI (Int32.ofNat (cs).length), VI (Int32.ofNat i), VI cc] [(.int 128), (.int cc)])) (fun _ k => XS.icmpNo X57.here hx rfl (hD d16_51) rfl (flt hc51).1 (XS.iload X57.here hx rfl (hD d16_54) rfl (XS.sipush X57.here hx rfl (hD d16_56) k))) ?_
     by_cases hc59 : cc < (128:Int32)
     ·
      refine OwnFin.adv (B := T57.setTop (mkF m 66 #[VR ob, VR so, VI (Int32.ofNat (cs).length), VI (Int32.ofNat i), VI cc] [(.int 34), (.int cc)])) (fun _ k => XS.icmpNo X57.here hx rfl (hD d16_59) rfl (tlt hc59).2.1 (XS.iload X57.here hx rfl (hD d16_62) rfl (XS.bipush X57.here hx rfl (hD d16_64) k))) ?_
      by_cases hc66 : cc = (34:Int32)
      ·
       refine OwnFin.adv (B := T57.setTop (mkF m 104 #[VR ob, VR so, VI (Int32.ofNat (cs).length), VI (Int32.ofNat i), VI cc] [])) (fun _ k => XS.icmpYes X57.here hx rfl (pc0 := 66) (pc' := 104) rfl (hD d16_66) rfl (teq hc66).1 (by decide) (by decide) k) ?_
       exact J104 i tP (.val (.int cc)) hJ T57 _ (X57.mono (by decide) (by decide)) eh57 N57 KJ (by omega) hT1 ⟨Ew56, fbytes_56, fsize_56, fobjects_56, fbegun_56, fdepth_56, fnamed_56, fstarted_56, Vb56, Vo56, Vg56, own_lt la_56, own_lt lb_56, own_lt lc_56⟩ Sj (Or.inr ⟨_, rfl⟩)
      ·
       refine OwnFin.adv (B := T57.setTop (mkF m 73 #[VR ob, VR so, VI (Int32.ofNat (cs).length), VI (Int32.ofNat i), VI cc] [(.int 92), (.int cc)])) (fun _ k => XS.icmpNo X57.here hx rfl (hD d16_66) rfl (feq hc66).1 (XS.iload X57.here hx rfl (hD d16_69) rfl (XS.bipush X57.here hx rfl (hD d16_71) k))) ?_
       by_cases hc73 : cc = (92:Int32)
       ·
        refine OwnFin.adv (B := T57.setTop (mkF m 104 #[VR ob, VR so, VI (Int32.ofNat (cs).length), VI (Int32.ofNat i), VI cc] [])) (fun _ k => XS.icmpNo X57.here hx rfl (hD d16_73) rfl (teq hc73).2 (XS.goto X57.here hx rfl (pc0 := 76) (pc' := 104) rfl (hD d16_76) (by decide) (by decide) k)) ?_
        exact J104 i tP (.val (.int cc)) hJ T57 _ (X57.mono (by decide) (by decide)) eh57 N57 KJ (by omega) hT1 ⟨Ew56, fbytes_56, fsize_56, fobjects_56, fbegun_56, fdepth_56, fnamed_56, fstarted_56, Vb56, Vo56, Vg56, own_lt la_56, own_lt lb_56, own_lt lc_56⟩ Sj (Or.inr ⟨_, rfl⟩)
       ·
        obtain ⟨T58, X58, e58, st58⟩ := getF X57 hx hZ hown (host := "") (Or.inl (own_w hw 48 rfl)) Via.refl eh57 fbytes_56 (g := (mkF m 80 #[VR ob, VR so, VI (Int32.ofNat (cs).length), VI (Int32.ofNat i), VI cc] [(.ref ob)])) rfl rfl (hD d16_80)
        obtain ⟨T59, X59, e59, st59⟩ := getF X58 hx hZ hown (host := "") (Or.inl (own_w hw 60 rfl)) Via.refl e58 fsize_56 (g := (mkF m 85 #[VR ob, VR so, VI (Int32.ofNat (cs).length), VI (Int32.ofNat i), VI cc] [(.ref ob), (.ref ob), (.ref ba)])) rfl rfl (hD d16_85)
        obtain ⟨T60, h60, X60, e60, W60, st60⟩ := putF X59 hx hZ hown (host := "") (Or.inl (own_w hw 60 rfl)) Via.refl e59 fsize_56 Ew56 (Or.inl (own_w hw 61 rfl)) (own_w hw 42 rfl) (ty := .int) (by decide) rfl rfl (g := (mkF m 91 #[VR ob, VR so, VI (Int32.ofNat (cs).length), VI (Int32.ofNat i), VI cc] [(.int ((Int32.ofNat (tP).length) + (1:Int32))), (.ref ob), (.int (Int32.ofNat (tP).length)), (.ref ba)])) rfl rfl (hD d16_91)
        have Fw60 : Fld Z h60 ob "tramline/routes/JsonWriter" "size" "I" (.int ((Int32.ofNat (tP).length) + (1:Int32))) := fsize_56.same W60
        have sz61 : hJ.size ≤ h60.size := Nat.le_of_eq W60.size.symm
        have N60 := Fr.snoc X60 N57 (by omega : n0 ≤ ob)
        have Fv63_1 := (Vb56.other W60 (Nat.ne_of_gt la_56))
        obtain ⟨cl62, Ar62, ck62, S62, M62, H62, G62⟩ := id Fv63_1
        have hin62 := own_in256 (n := (tP).length) S62 (own_leI hbd (by decide))
        obtain ⟨T62, h62, X62, e62, W62, st62⟩ := stB X60 hx hZ e60 Ar62 (j := (Int32.ofNat (tP).length)) hin62 (g := (mkF m 97 #[VR ob, VR so, VI (Int32.ofNat (cs).length), VI (Int32.ofNat i), VI cc] [(.int (cc.toInt8.toInt32)), (.int (Int32.ofNat (tP).length)), (.ref ba)])) rfl rfl (hD d16_97)
        have V62 : Arv Z h62 ba kb .byte (256:Int32) (((tP ++ [(cc.toInt8.toInt32)])).map Value.int) (.int 0) := own_push Fv63_1 W62 (own_narb _) (own_leL hbd (by decide))
        have lb62 : OwnLe (tP ++ [(cc.toInt8.toInt32)]) 96 := own_leS hbd
        have sz64 : h60.size ≤ h62.size := Nat.le_of_eq W62.size.symm
        have N62 := Fr.snoc X62 N60 (by omega : n0 ≤ ba)
        have Fv66_2 := (Fw60.other W62 (Or.inl (Nat.ne_of_lt la_56)))
        have Fz65 : Fld Z h62 ob "tramline/routes/JsonWriter" "size" "I" (.int (Int32.ofNat ((tP ++ [(cc.toInt8.toInt32)])).length)) := by
          have q := Fv66_2
          rw [own_p1] at q
          exact q
        refine OwnFin.adv (B := T62.setTop (mkF m 101 #[VR ob, VR so, VI (Int32.ofNat (cs).length), VI ((Int32.ofNat i) + (1:Int32)), VI cc] [])) (fun _ k => XS.icmpYes X57.here hx rfl (pc0 := 73) (pc' := 79) rfl (hD d16_73) rfl (feq hc73).2 (by decide) (by decide) (XS.aloadN X57.here hx rfl (hD d16_79) rfl rfl (st58 _ (XS.aloadN X58.here hx rfl (hD d16_83) rfl rfl (XS.dup X58.here hx rfl (hD d16_84) rfl rfl (st59 _ (XS.dupX1 X59.here hx rfl (hD d16_88) rfl rfl rfl (XS.iconst X59.here hx rfl (hD d16_89) (XS.iadd X59.here hx rfl (hD d16_90) rfl (st60 _ (XS.iload X60.here hx rfl (hD d16_94) rfl (XS.i2b X60.here hx rfl (hD d16_96) rfl (st62 _ (XS.iinc X62.here hx rfl (hD d16_98) rfl (l' := #[VR ob, VR so, VI (Int32.ofNat (cs).length), VI ((Int32.ofNat i) + (1:Int32)), VI cc]) rfl k)))))))))))))) ?_
        refine OwnFin.adv (B := T62.setTop (mkF m 35 #[VR ob, VR so, VI (Int32.ofNat (cs).length), VI ((Int32.ofNat i) + (1:Int32)), VI cc] [])) (fun _ k => XS.goto X62.here hx rfl (pc0 := 101) (pc' := 35) rfl (hD d16_101) (by decide) (by decide) k) ?_
        rw [show (((Int32.ofNat i) + (1:Int32)) : Int32) = (Int32.ofNat (i + 1)) from own_add i 1]
        have Fv67_2 := ((Ew56.wr W60).wr W62)
        have Fv68_2 := ((fbytes_56.other W60 (Or.inr (own_sn0 hw))).other W62 (Or.inl (Nat.ne_of_lt la_56)))
        have Fv69_2 := ((fobjects_56.other W60 (Or.inr (own_sn1 hw))).other W62 (Or.inl (Nat.ne_of_lt la_56)))
        have Fv70_2 := ((fbegun_56.other W60 (Or.inr (own_sn2 hw))).other W62 (Or.inl (Nat.ne_of_lt la_56)))
        have Fv71_2 := ((fdepth_56.other W60 (Or.inr (own_sn3 hw))).other W62 (Or.inl (Nat.ne_of_lt la_56)))
        have Fv72_2 := ((fnamed_56.other W60 (Or.inr (own_sn4 hw))).other W62 (Or.inl (Nat.ne_of_lt la_56)))
        have Fv73_2 := ((fstarted_56.other W60 (Or.inr (own_sn5 hw))).other W62 (Or.inl (Nat.ne_of_lt la_56)))
        have Fv74_2 := ((Vo56.other W60 (Nat.ne_of_gt ld_56)).other W62 (Nat.ne_of_gt lb_56))
        have Fv75_2 := ((Vg56.other W60 (Nat.ne_of_gt le_56)).other W62 (Nat.ne_of_gt lf_56))
        have Fv76_2 := ((Sj.wr W60 (by omega)).wr W62 (by omega))
        exact ih (i + 1) ((tP ++ [(cc.toInt8.toInt32)])) (.val (.int cc)) h62 T62 _ (X62.mono (by decide) (by decide)) e62 N62 ((KJ.wr W60 (Or.inl (List.mem_of_getElem? (i := 0) rfl))).wr W62 (Or.inl (List.mem_of_getElem? (i := 1) rfl))) (by omega) (by rw [← hT1, hen, own_encA hc59 hc51 hc66 hc73]; simp) ⟨Fv67_2, Fv68_2, Fz65, Fv69_2, Fv70_2, Fv71_2, Fv72_2, Fv73_2, V62, Fv74_2, Fv75_2, own_lt la_56, own_lt lb_56, own_lt lc_56⟩ Fv76_2 (Or.inr ⟨_, rfl⟩)
     ·
      refine OwnFin.adv (B := T57.setTop (mkF m 104 #[VR ob, VR so, VI (Int32.ofNat (cs).length), VI (Int32.ofNat i), VI cc] [])) (fun _ k => XS.icmpYes X57.here hx rfl (pc0 := 59) (pc' := 104) rfl (hD d16_59) rfl (flt hc59).2.1 (by decide) (by decide) k) ?_
      exact J104 i tP (.val (.int cc)) hJ T57 _ (X57.mono (by decide) (by decide)) eh57 N57 KJ (by omega) hT1 ⟨Ew56, fbytes_56, fsize_56, fobjects_56, fbegun_56, fdepth_56, fnamed_56, fstarted_56, Vb56, Vo56, Vg56, own_lt la_56, own_lt lb_56, own_lt lc_56⟩ Sj (Or.inr ⟨_, rfl⟩)
  have Fv77_2 := ((Ew1.wr W7).wr W9)
  have Fv78_2 := ((fbytes_1.other W7 (Or.inr (own_sn0 hw))).other W9 (Or.inl (Nat.ne_of_lt la_1)))
  have Fv79_2 := ((fobjects_1.other W7 (Or.inr (own_sn1 hw))).other W9 (Or.inl (Nat.ne_of_lt la_1)))
  have Fv80_2 := ((fbegun_1.other W7 (Or.inr (own_sn2 hw))).other W9 (Or.inl (Nat.ne_of_lt la_1)))
  have Fv81_2 := ((fdepth_1.other W7 (Or.inr (own_sn3 hw))).other W9 (Or.inl (Nat.ne_of_lt la_1)))
  have Fv82_2 := ((fnamed_1.other W7 (Or.inr (own_sn4 hw))).other W9 (Or.inl (Nat.ne_of_lt la_1)))
  have Fv83_2 := ((fstarted_1.other W7 (Or.inr (own_sn5 hw))).other W9 (Or.inl (Nat.ne_of_lt la_1)))
  have Fv84_2 := ((Vo1.other W7 (Nat.ne_of_gt ld_1)).other W9 (Nat.ne_of_gt lb_1))
  have Fv85_2 := ((Vg1.other W7 (Nat.ne_of_gt le_1)).other W9 (Nat.ne_of_gt lf_1))
  have Fv86_2 := ((Fs.wr W7 (by omega)).wr W9 (by omega))
  exact L35 cs.length 0 (T ++ [(34:Int32)]) .unset h9 T9 _ (X9.mono (by decide) (by decide)) e9 N9 (((Keep.refl h0 [ob, ba, oa, ga]).wr W7 (Or.inl (List.mem_of_getElem? (i := 0) rfl))).wr W9 (Or.inl (List.mem_of_getElem? (i := 1) rfl))) (by omega) rfl ⟨Fv77_2, Fv78_2, Fz12, Fv79_2, Fv80_2, Fv81_2, Fv82_2, Fv83_2, V9, Fv84_2, Fv85_2, own_lt la_1, own_lt lb_1, own_lt lc_1⟩ Fv86_2 (Or.inl rfl)
theorem d14_0 : decode B14 0 = .ok (.aload_n 1, 1) := by decide +kernel
theorem d14_1 : decode B14 1 = .ok (.ifnonnull 10, 3) := by decide +kernel
theorem d14_11 : decode B14 11 = .ok (.aload_n 0, 1) := by decide +kernel
theorem d14_12 : decode B14 12 = .ok (.invokevirtual 54, 3) := by decide +kernel
theorem d14_15 : decode B14 15 = .ok (.aload_n 0, 1) := by decide +kernel
theorem d14_16 : decode B14 16 = .ok (.aload_n 1, 1) := by decide +kernel
theorem own_pd17 : parseMethodDescriptor "(Ljava/lang/String;)V" = some ⟨[(.object "java/lang/String")], none⟩ := by decide +kernel
theorem d14_17 : decode B14 17 = .ok (.invokevirtual 48, 3) := by decide +kernel
theorem own_selp_16 {Z : State} {a0 : Array Value} (hw : ∀ d ∈ tables_1, d.before a0 Z = true) : (Cond.selects "tramline/routes/JsonWriter" own_M16 own_M16).before a0 Z = true := own_selp (y := own_M16) (z := own_M11) (own_w hw 88 rfl) (own_w hw 89 rfl) (own_w hw 56 rfl) (notFace_of_selects (args := a0) (own_w hw 58 rfl)) rfl (by decide)
theorem d14_20 : decode B14 20 = .ok (.return_, 1) := by decide +kernel
theorem own_ef_ws0 (m : MethodId) (x0 : Addr) (x1 : Addr) : entryFrame m #[(.ref x0), (.ref x1)] 2 = mkF m 0 #[.val (.ref x0), .val (.ref x1)] [] := by first | (simp [entryFrame, mkF, argsToLocals, Value.category]; done) | rfl
def own_Q_ws0 (Z : State) (ob ba oa ga : Addr) (kb ko kg : ClassId) (T : List Int32) (bg : Int32) (so : Addr) (zc : Int32) (fm : Value) (lim : Nat) (cs : List Int32) (hxa : Addr) (kx : ClassId) (h0 : Heap) (n0 : Nat) (v : Option Value) (h : Heap) (L : List Loc) : Prop := v = none ∧ Fr n0 L ∧ Keep h0 h [ob, ba, oa, ga] ∧ OwnJ Z h ob ba oa ga kb ko kg (((T ++ [(34 : Int32)]) ++ own_encs cs) ++ [(34 : Int32)]) (0 : Int32) bg (1 : Int32)
set_option maxRecDepth 65536 in
set_option maxHeartbeats 40000000 in
theorem own_ws0 (l : Launch) (Z : State) (a0 : Array Value) (hw : ∀ d ∈ tables_1, d.before a0 Z = true) (ws : List Jvm.Cond) (ob ba oa ga : Addr) (kb ko kg : ClassId) (T : List Int32) (bg : Int32) (so : Addr) (zc : Int32) (fm : Value) (lim : Nat) (cs : List Int32) (hxa : Addr) (kx : ClassId) (h0 : Heap) (n0 : Nat) (Z0 : n0 ≤ h0.size) (O0 : Old Z n0 h0) (SCS : Sta Z Z.heap "java/lang/String" "COMPACT_STRINGS" "Z" (.int zc)) (hzc : ¬ zc = 0) (SFM : Sta Z Z.heap "jdk/internal/util/Preconditions" "SIOOBE_FORMATTER" "Ljava/util/function/BiFunction;" fm) (rfm : fm.isRef = true) (SAD : Sta Z Z.heap "java/lang/StringUTF16" "$assertionsDisabled" "Z" (.int (1 : Int32))) (SHI : Sta Z Z.heap "java/lang/StringUTF16" "HI_BYTE_SHIFT" "I" (.int (0 : Int32))) (SLO : Sta Z Z.heap "java/lang/StringUTF16" "LO_BYTE_SHIFT" "I" (.int (8 : Int32))) (Sh : Sta Z Z.heap "tramline/routes/JsonWriter" "HEX" "[B" (.ref hxa)) (Vh : Arv Z Z.heap hxa kx .byte (16 : Int32) (own_hexT.map Value.int) (.int (0 : Int32))) (Fs : OwnS Z h0 lim so cs) (hlim : lim ≤ ob) (hcs : cs.length ≤ 4) (hT : OwnLe T 60) (J : OwnJ Z h0 ob ba oa ga kb ko kg (T) (0 : Int32) bg (0 : Int32)) (g_ob : n0 ≤ ob) :
    MetFree l own_M14 (head1 (Jvm.Cond.code own_M14 prog_32_method_7_code 2 none :: ws) ({ frames := 8, cells := 0, slots := 0, locals := 145 } : Room)) (fun A0 U0 => A0 = #[(.ref ob), (.ref so)] ∧ Z.Warmed39 U0.vm ∧ U0.heap = h0) (fun _ _ _ _ _ => True) (fun _ U0 o0 U1 => ∃ v0 L0, o0 = .returned v0 ∧ own_Q_ws0 Z ob ba oa ga kb ko kg T bg so zc fm lim cs hxa kx h0 n0 v0 U1.heap L0 ∧ FrameEnd U0 o0 U1 L0 0 0) := by
  refine MetFree.of_bodySF (plainFor_of_name own_pn_tramline_routes_JsonWriter) hisR ?_
  intro p e s m args below meth c s₁ Bd hml0 hP hK
  obtain ⟨rfl, hZ, hh⟩ := hP
  have hZs0 := hZ
  have hZs := hZ
  have hx := Bd.exec
  have hby := Bd.bytes
  have hD : ∀ {pc : Nat} {r : Except DecodeError (Instr × Nat)}, decode prog_32_method_7_code pc = r → decode c.code pc = r := fun q => hb hby q
  have hml : c.maxLocals = 2 := hml0
  have hown : s.vm.findClass "tramline/routes/JsonWriter" = some m.cls := findClass_of_methodNamed Bd.named
  have hnm := (name_of_methodNamed Bd.named Bd.method).1
  have X0 : Stand p l e ({ frames := 8, cells := 0, slots := 0, locals := 145 } : Room) s m #[(.ref ob), (.ref so)] below meth c s₁ [] 0 0 := Stand.of_body Bd
  have e0 : s₁.heap = h0 := by rw [← hh, Bd.state]; rfl
  have N0 := Fr.nil n0
  refine OwnFin.entry (own_ef_ws0 m ob so) (fun P' hP' => ?_)
  obtain ⟨Ew1, fbytes_1, fsize_1, fobjects_1, fbegun_1, fdepth_1, fnamed_1, fstarted_1, Vb1, Vo1, Vg1, la_1, lb_1, lc_1⟩ := id J
  have la_1 := own_lt la_1
  have lb_1 := own_lt lb_1
  have lc_1 := own_lt lc_1
  have lw1 := own_lt Ew1.lt
  have lg1 := own_lt Vg1.lt
  have ld_1 := Nat.lt_trans la_1 lb_1
  have lf_1 := Nat.lt_trans lb_1 lc_1
  have le_1 := Nat.lt_trans ld_1 lc_1
  have J3c : OwnJ Z h0 ob ba oa ga kb ko kg (T) (0:Int32) bg (0:Int32) := ⟨Ew1, fbytes_1, fsize_1, fobjects_1, fbegun_1, fdepth_1, fnamed_1, fstarted_1, Vb1, Vo1, Vg1, own_lt la_1, own_lt lb_1, own_lt lc_1⟩
  obtain ⟨cq2, qp2, qp2'⟩ := Ew1.cell
  obtain ⟨_, _, ⟨T2, L2, k2, n2⟩, -, X2, ⟨Lc2, hQ2, l2, y2, z2⟩, st2⟩ := X0.privateBack hx (y := own_M15) hown (mvT hZ (own_w hw 79 rfl)) (mvT hZ (own_w hw 80 rfl)) (mvT hZ (own_selp_15 hw)) (Cond.privateMethod_at (mvP hZ (own_w hw 81 rfl) (args := #[]))) (mvT hZ (own_w hw 82 rfl)) (by decide) (backOf (W := 0) (own_bv0 l Z a0 hw [] ob ba oa ga kb ko kg (T) bg  h0 n0 (by omega) O0   J3c (by omega)) hZ (own_w hw 82 rfl) (own_w hw 43 rfl) (by decide) (by decide)) (g := (mkF m 12 #[VR ob, VR so] [(.ref ob)])) rfl (by rw [hml]; rfl) (Steps.refl _) (a := ob) (by rw [e0]; exact qp2) qp2' (argsL := []) (rest := []) (lenOf own_pd9 rfl) rfl (by show 2 * 0 + _ ≤ _; exact Nat.le_of_eq rfl) (hD d14_12) (fun _ _ => ⟨rfl, e0, (by decide : 0 + 0 ≤ _), (by decide : 0 + 0 ≤ _)⟩)
  dsimp only [Pt.U, Pt.locs, Pt.cells, Pt.slots] at X2 l2 y2 z2 st2 hQ2
  subst l2 y2 z2
  obtain ⟨rfl, N2q, K2, FJ2⟩ := hQ2
  have N2 := Fr.app N0 N2q
  have sz4 : h0.size ≤ T2.heap.size := K2.1
  obtain ⟨Ew5, fbytes_5, fsize_5, fobjects_5, fbegun_5, fdepth_5, fnamed_5, fstarted_5, Vb5, Vo5, Vg5, la_5, lb_5, lc_5⟩ := id FJ2
  have la_5 := own_lt la_5
  have lb_5 := own_lt lb_5
  have lc_5 := own_lt lc_5
  have lw5 := own_lt Ew5.lt
  have lg5 := own_lt Vg5.lt
  have ld_5 := Nat.lt_trans la_5 lb_5
  have lf_5 := Nat.lt_trans lb_5 lc_5
  have le_5 := Nat.lt_trans ld_5 lc_5
  have Fv7_1 := (Fs.keep K2 (allS (by omega) (allS (by omega) (allS (by omega) (allS (by omega) all0)))))
  have J8c : OwnJ Z T2.heap ob ba oa ga kb ko kg (T) (0:Int32) bg (1:Int32) := ⟨Ew5, fbytes_5, fsize_5, fobjects_5, fbegun_5, fdepth_5, fnamed_5, fstarted_5, Vb5, Vo5, Vg5, own_lt la_5, own_lt lb_5, own_lt lc_5⟩
  have Old9 : Old Z n0 T2.heap := (O0.keep K2 (allS (by omega) (allS (by omega) (allS (by omega) (allS (by omega) all0)))))
  obtain ⟨cq6, qp6, qp6'⟩ := Ew5.cell
  obtain ⟨_, _, ⟨T6, L6, k6, n6⟩, -, X6, ⟨Lc6, hQ6, l6, y6, z6⟩, st6⟩ := X2.privateBack hx (y := own_M16) hown (mvT hZ (own_w hw 87 rfl)) (mvT hZ (own_w hw 88 rfl)) (mvT hZ (own_selp_16 hw)) (Cond.privateMethod_at (mvP hZ (own_w hw 89 rfl) (args := #[]))) (mvT hZ (own_w hw 90 rfl)) (by decide) (backOf (W := 0) (own_string l Z a0 hw [] ob ba oa ga kb ko kg (T) (0:Int32) bg (1:Int32) so zc fm lim cs hxa kx T2.heap n0 (by omega) Old9 SCS hzc SFM rfm SAD SHI SLO Sh Vh Fv7_1 hlim hcs (own_leM hT (by decide)) J8c (by omega)) hZ (own_w hw 90 rfl) (own_w hw 43 rfl) (by decide) (by decide)) (g := (mkF m 17 #[VR ob, VR so] [(.ref so), (.ref ob)])) rfl (by rw [hml]; rfl) (Steps.refl _) (a := ob) qp6 qp6' (argsL := [(.ref so)]) (rest := []) (lenOf own_pd17 rfl) rfl (by show 2 * 0 + _ ≤ _; exact Nat.le_of_eq rfl) (hD d14_17) (fun _ _ => ⟨rfl, rfl, (by decide : 0 + 0 ≤ _), (by decide : 0 + 0 ≤ _)⟩)
  dsimp only [Pt.U, Pt.locs, Pt.cells, Pt.slots] at X6 l6 y6 z6 st6 hQ6
  subst l6 y6 z6
  obtain ⟨rfl, N6q, K6, FJ6⟩ := hQ6
  have N6 := Fr.app N2 N6q
  have sz10 : T2.heap.size ≤ T6.heap.size := K6.1
  obtain ⟨Ew11, fbytes_11, fsize_11, fobjects_11, fbegun_11, fdepth_11, fnamed_11, fstarted_11, Vb11, Vo11, Vg11, la_11, lb_11, lc_11⟩ := id FJ6
  have la_11 := own_lt la_11
  have lb_11 := own_lt lb_11
  have lc_11 := own_lt lc_11
  have lw11 := own_lt Ew11.lt
  have lg11 := own_lt Vg11.lt
  have ld_11 := Nat.lt_trans la_11 lb_11
  have lf_11 := Nat.lt_trans lb_11 lc_11
  have le_11 := Nat.lt_trans ld_11 lc_11
  obtain ⟨fs, hr, hrun, hended, hW, hsame⟩ := X6.leave (v := none) (fun _ => rfl)
  refine OwnFin.adv (B := T6.setTop (mkF m 20 #[VR ob, VR so] [])) (fun _ k => XS.aloadN X0.here hx rfl (hD d14_0) rfl rfl (XS.ifnonnullYes X0.here hx rfl (pc0 := 1) (pc' := 11) rfl (hD d14_1) rfl (by decide) (by decide) (XS.aloadN X0.here hx rfl (hD d14_11) rfl rfl (st2.trans (XS.aloadN X2.here hx rfl (hD d14_15) rfl rfl (XS.aloadN X2.here hx rfl (hD d14_16) rfl rfl (st6.trans k))))))) ?_
  refine OwnFin.leaf hP' ⟨_, _, X6.returnOut hx Bd.returns (hD d14_20) hr, hrun, hended, _, _, rfl, ?_, ⟨_, rfl⟩, hW, hsame.mono (by decide) (by decide)⟩
  rw [show (T6.setFrames fs).heap = T6.heap from rfl]
  exact ⟨rfl, N6, (((Keep.refl h0 [ob, ba, oa, ga]).trans K2 (allS (Or.inl (List.mem_of_getElem? (i := 0) rfl)) (allS (Or.inl (List.mem_of_getElem? (i := 1) rfl)) (allS (Or.inl (List.mem_of_getElem? (i := 2) rfl)) (allS (Or.inl (List.mem_of_getElem? (i := 3) rfl)) all0))))).trans K6 (allS (Or.inl (List.mem_of_getElem? (i := 0) rfl)) (allS (Or.inl (List.mem_of_getElem? (i := 1) rfl)) (allS (Or.inl (List.mem_of_getElem? (i := 2) rfl)) (allS (Or.inl (List.mem_of_getElem? (i := 3) rfl)) all0))))), ⟨Ew11, fbytes_11, fsize_11, fobjects_11, fbegun_11, fdepth_11, fnamed_11, fstarted_11, Vb11, Vo11, Vg11, own_lt la_11, own_lt lb_11, own_lt lc_11⟩⟩
theorem own_ef_ws1 (m : MethodId) (x0 : Addr) (x1 : Addr) : entryFrame m #[(.ref x0), (.ref x1)] 2 = mkF m 0 #[.val (.ref x0), .val (.ref x1)] [] := by first | (simp [entryFrame, mkF, argsToLocals, Value.category]; done) | rfl
def own_Q_ws1 (Z : State) (ob ba oa ga : Addr) (kb ko kg : ClassId) (T : List Int32) (sd : Int32) (so : Addr) (zc : Int32) (fm : Value) (lim : Nat) (cs : List Int32) (hxa : Addr) (kx : ClassId) (h0 : Heap) (n0 : Nat) (v : Option Value) (h : Heap) (L : List Loc) : Prop := v = none ∧ Fr n0 L ∧ Keep h0 h [ob, ba, oa, ga] ∧ OwnJ Z h ob ba oa ga kb ko kg (((T ++ [(34 : Int32)]) ++ own_encs cs) ++ [(34 : Int32)]) (1 : Int32) (1 : Int32) sd
set_option maxRecDepth 65536 in
set_option maxHeartbeats 40000000 in
theorem own_ws1 (l : Launch) (Z : State) (a0 : Array Value) (hw : ∀ d ∈ tables_1, d.before a0 Z = true) (ws : List Jvm.Cond) (ob ba oa ga : Addr) (kb ko kg : ClassId) (T : List Int32) (sd : Int32) (so : Addr) (zc : Int32) (fm : Value) (lim : Nat) (cs : List Int32) (hxa : Addr) (kx : ClassId) (h0 : Heap) (n0 : Nat) (Z0 : n0 ≤ h0.size) (O0 : Old Z n0 h0) (SCS : Sta Z Z.heap "java/lang/String" "COMPACT_STRINGS" "Z" (.int zc)) (hzc : ¬ zc = 0) (SFM : Sta Z Z.heap "jdk/internal/util/Preconditions" "SIOOBE_FORMATTER" "Ljava/util/function/BiFunction;" fm) (rfm : fm.isRef = true) (SAD : Sta Z Z.heap "java/lang/StringUTF16" "$assertionsDisabled" "Z" (.int (1 : Int32))) (SHI : Sta Z Z.heap "java/lang/StringUTF16" "HI_BYTE_SHIFT" "I" (.int (0 : Int32))) (SLO : Sta Z Z.heap "java/lang/StringUTF16" "LO_BYTE_SHIFT" "I" (.int (8 : Int32))) (Sh : Sta Z Z.heap "tramline/routes/JsonWriter" "HEX" "[B" (.ref hxa)) (Vh : Arv Z Z.heap hxa kx .byte (16 : Int32) (own_hexT.map Value.int) (.int (0 : Int32))) (Fs : OwnS Z h0 lim so cs) (hlim : lim ≤ ob) (hcs : cs.length ≤ 4) (hT : OwnLe T 60) (J : OwnJ Z h0 ob ba oa ga kb ko kg (T) (1 : Int32) (0 : Int32) sd) (g_ob : n0 ≤ ob) :
    MetFree l own_M14 (head1 (Jvm.Cond.code own_M14 prog_32_method_7_code 2 none :: ws) ({ frames := 8, cells := 0, slots := 0, locals := 145 } : Room)) (fun A0 U0 => A0 = #[(.ref ob), (.ref so)] ∧ Z.Warmed39 U0.vm ∧ U0.heap = h0) (fun _ _ _ _ _ => True) (fun _ U0 o0 U1 => ∃ v0 L0, o0 = .returned v0 ∧ own_Q_ws1 Z ob ba oa ga kb ko kg T sd so zc fm lim cs hxa kx h0 n0 v0 U1.heap L0 ∧ FrameEnd U0 o0 U1 L0 0 0) := by
  refine MetFree.of_bodySF (plainFor_of_name own_pn_tramline_routes_JsonWriter) hisR ?_
  intro p e s m args below meth c s₁ Bd hml0 hP hK
  obtain ⟨rfl, hZ, hh⟩ := hP
  have hZs0 := hZ
  have hZs := hZ
  have hx := Bd.exec
  have hby := Bd.bytes
  have hD : ∀ {pc : Nat} {r : Except DecodeError (Instr × Nat)}, decode prog_32_method_7_code pc = r → decode c.code pc = r := fun q => hb hby q
  have hml : c.maxLocals = 2 := hml0
  have hown : s.vm.findClass "tramline/routes/JsonWriter" = some m.cls := findClass_of_methodNamed Bd.named
  have hnm := (name_of_methodNamed Bd.named Bd.method).1
  have X0 : Stand p l e ({ frames := 8, cells := 0, slots := 0, locals := 145 } : Room) s m #[(.ref ob), (.ref so)] below meth c s₁ [] 0 0 := Stand.of_body Bd
  have e0 : s₁.heap = h0 := by rw [← hh, Bd.state]; rfl
  have N0 := Fr.nil n0
  refine OwnFin.entry (own_ef_ws1 m ob so) (fun P' hP' => ?_)
  obtain ⟨Ew1, fbytes_1, fsize_1, fobjects_1, fbegun_1, fdepth_1, fnamed_1, fstarted_1, Vb1, Vo1, Vg1, la_1, lb_1, lc_1⟩ := id J
  have la_1 := own_lt la_1
  have lb_1 := own_lt lb_1
  have lc_1 := own_lt lc_1
  have lw1 := own_lt Ew1.lt
  have lg1 := own_lt Vg1.lt
  have ld_1 := Nat.lt_trans la_1 lb_1
  have lf_1 := Nat.lt_trans lb_1 lc_1
  have le_1 := Nat.lt_trans ld_1 lc_1
  have J3c : OwnJ Z h0 ob ba oa ga kb ko kg (T) (1:Int32) (0:Int32) sd := ⟨Ew1, fbytes_1, fsize_1, fobjects_1, fbegun_1, fdepth_1, fnamed_1, fstarted_1, Vb1, Vo1, Vg1, own_lt la_1, own_lt lb_1, own_lt lc_1⟩
  obtain ⟨cq2, qp2, qp2'⟩ := Ew1.cell
  obtain ⟨_, _, ⟨T2, L2, k2, n2⟩, -, X2, ⟨Lc2, hQ2, l2, y2, z2⟩, st2⟩ := X0.privateBack hx (y := own_M15) hown (mvT hZ (own_w hw 79 rfl)) (mvT hZ (own_w hw 80 rfl)) (mvT hZ (own_selp_15 hw)) (Cond.privateMethod_at (mvP hZ (own_w hw 81 rfl) (args := #[]))) (mvT hZ (own_w hw 82 rfl)) (by decide) (backOf (W := 0) (own_bv1 l Z a0 hw [] ob ba oa ga kb ko kg (T) sd  h0 n0 (by omega) O0  (own_leM hT (by decide)) J3c (by omega)) hZ (own_w hw 82 rfl) (own_w hw 43 rfl) (by decide) (by decide)) (g := (mkF m 12 #[VR ob, VR so] [(.ref ob)])) rfl (by rw [hml]; rfl) (Steps.refl _) (a := ob) (by rw [e0]; exact qp2) qp2' (argsL := []) (rest := []) (lenOf own_pd9 rfl) rfl (by show 2 * 0 + _ ≤ _; exact Nat.le_of_eq rfl) (hD d14_12) (fun _ _ => ⟨rfl, e0, (by decide : 0 + 0 ≤ _), (by decide : 0 + 0 ≤ _)⟩)
  dsimp only [Pt.U, Pt.locs, Pt.cells, Pt.slots] at X2 l2 y2 z2 st2 hQ2
  subst l2 y2 z2
  obtain ⟨rfl, N2q, K2, FJ2⟩ := hQ2
  have N2 := Fr.app N0 N2q
  have sz4 : h0.size ≤ T2.heap.size := K2.1
  obtain ⟨Ew5, fbytes_5, fsize_5, fobjects_5, fbegun_5, fdepth_5, fnamed_5, fstarted_5, Vb5, Vo5, Vg5, la_5, lb_5, lc_5⟩ := id FJ2
  have la_5 := own_lt la_5
  have lb_5 := own_lt lb_5
  have lc_5 := own_lt lc_5
  have lw5 := own_lt Ew5.lt
  have lg5 := own_lt Vg5.lt
  have ld_5 := Nat.lt_trans la_5 lb_5
  have lf_5 := Nat.lt_trans lb_5 lc_5
  have le_5 := Nat.lt_trans ld_5 lc_5
  have Fv7_1 := (Fs.keep K2 (allS (by omega) (allS (by omega) (allS (by omega) (allS (by omega) all0)))))
  have J8c : OwnJ Z T2.heap ob ba oa ga kb ko kg (T) (1:Int32) (1:Int32) sd := ⟨Ew5, fbytes_5, fsize_5, fobjects_5, fbegun_5, fdepth_5, fnamed_5, fstarted_5, Vb5, Vo5, Vg5, own_lt la_5, own_lt lb_5, own_lt lc_5⟩
  have Old9 : Old Z n0 T2.heap := (O0.keep K2 (allS (by omega) (allS (by omega) (allS (by omega) (allS (by omega) all0)))))
  obtain ⟨cq6, qp6, qp6'⟩ := Ew5.cell
  obtain ⟨_, _, ⟨T6, L6, k6, n6⟩, -, X6, ⟨Lc6, hQ6, l6, y6, z6⟩, st6⟩ := X2.privateBack hx (y := own_M16) hown (mvT hZ (own_w hw 87 rfl)) (mvT hZ (own_w hw 88 rfl)) (mvT hZ (own_selp_16 hw)) (Cond.privateMethod_at (mvP hZ (own_w hw 89 rfl) (args := #[]))) (mvT hZ (own_w hw 90 rfl)) (by decide) (backOf (W := 0) (own_string l Z a0 hw [] ob ba oa ga kb ko kg (T) (1:Int32) (1:Int32) sd so zc fm lim cs hxa kx T2.heap n0 (by omega) Old9 SCS hzc SFM rfm SAD SHI SLO Sh Vh Fv7_1 hlim hcs (own_leM hT (by decide)) J8c (by omega)) hZ (own_w hw 90 rfl) (own_w hw 43 rfl) (by decide) (by decide)) (g := (mkF m 17 #[VR ob, VR so] [(.ref so), (.ref ob)])) rfl (by rw [hml]; rfl) (Steps.refl _) (a := ob) qp6 qp6' (argsL := [(.ref so)]) (rest := []) (lenOf own_pd17 rfl) rfl (by show 2 * 0 + _ ≤ _; exact Nat.le_of_eq rfl) (hD d14_17) (fun _ _ => ⟨rfl, rfl, (by decide : 0 + 0 ≤ _), (by decide : 0 + 0 ≤ _)⟩)
  dsimp only [Pt.U, Pt.locs, Pt.cells, Pt.slots] at X6 l6 y6 z6 st6 hQ6
  subst l6 y6 z6
  obtain ⟨rfl, N6q, K6, FJ6⟩ := hQ6
  have N6 := Fr.app N2 N6q
  have sz10 : T2.heap.size ≤ T6.heap.size := K6.1
  obtain ⟨Ew11, fbytes_11, fsize_11, fobjects_11, fbegun_11, fdepth_11, fnamed_11, fstarted_11, Vb11, Vo11, Vg11, la_11, lb_11, lc_11⟩ := id FJ6
  have la_11 := own_lt la_11
  have lb_11 := own_lt lb_11
  have lc_11 := own_lt lc_11
  have lw11 := own_lt Ew11.lt
  have lg11 := own_lt Vg11.lt
  have ld_11 := Nat.lt_trans la_11 lb_11
  have lf_11 := Nat.lt_trans lb_11 lc_11
  have le_11 := Nat.lt_trans ld_11 lc_11
  obtain ⟨fs, hr, hrun, hended, hW, hsame⟩ := X6.leave (v := none) (fun _ => rfl)
  refine OwnFin.adv (B := T6.setTop (mkF m 20 #[VR ob, VR so] [])) (fun _ k => XS.aloadN X0.here hx rfl (hD d14_0) rfl rfl (XS.ifnonnullYes X0.here hx rfl (pc0 := 1) (pc' := 11) rfl (hD d14_1) rfl (by decide) (by decide) (XS.aloadN X0.here hx rfl (hD d14_11) rfl rfl (st2.trans (XS.aloadN X2.here hx rfl (hD d14_15) rfl rfl (XS.aloadN X2.here hx rfl (hD d14_16) rfl rfl (st6.trans k))))))) ?_
  refine OwnFin.leaf hP' ⟨_, _, X6.returnOut hx Bd.returns (hD d14_20) hr, hrun, hended, _, _, rfl, ?_, ⟨_, rfl⟩, hW, hsame.mono (by decide) (by decide)⟩
  rw [show (T6.setFrames fs).heap = T6.heap from rfl]
  exact ⟨rfl, N6, (((Keep.refl h0 [ob, ba, oa, ga]).trans K2 (allS (Or.inl (List.mem_of_getElem? (i := 0) rfl)) (allS (Or.inl (List.mem_of_getElem? (i := 1) rfl)) (allS (Or.inl (List.mem_of_getElem? (i := 2) rfl)) (allS (Or.inl (List.mem_of_getElem? (i := 3) rfl)) all0))))).trans K6 (allS (Or.inl (List.mem_of_getElem? (i := 0) rfl)) (allS (Or.inl (List.mem_of_getElem? (i := 1) rfl)) (allS (Or.inl (List.mem_of_getElem? (i := 2) rfl)) (allS (Or.inl (List.mem_of_getElem? (i := 3) rfl)) all0))))), ⟨Ew11, fbytes_11, fsize_11, fobjects_11, fbegun_11, fdepth_11, fnamed_11, fstarted_11, Vb11, Vo11, Vg11, own_lt la_11, own_lt lb_11, own_lt lc_11⟩⟩
theorem d10_0 : decode B10 0 = .ok (.aload_n 0, 1) := by decide +kernel
theorem d10_1 : decode B10 1 = .ok (.invokespecial 1, 3) := by decide +kernel
theorem d10_4 : decode B10 4 = .ok (.aload_n 0, 1) := by decide +kernel
theorem d10_5 : decode B10 5 = .ok (.sipush 256, 3) := by decide +kernel
theorem d10_8 : decode B10 8 = .ok (.newarray .byte, 2) := by decide +kernel
theorem d10_10 : decode B10 10 = .ok (.putfield 7, 3) := by decide +kernel
theorem d10_13 : decode B10 13 = .ok (.aload_n 0, 1) := by decide +kernel
theorem d10_14 : decode B10 14 = .ok (.bipush 8, 2) := by decide +kernel
theorem d10_16 : decode B10 16 = .ok (.newarray .boolean, 2) := by decide +kernel
theorem own_sn18 {Z : State} {a0 : Array Value} (hw : ∀ d ∈ tables_1, d.before a0 Z = true) : Jvm.RoadKit.slotOf Z "tramline/routes/JsonWriter" "objects" "[Z" ≠ Jvm.RoadKit.slotOf Z "tramline/routes/JsonWriter" "bytes" "[B" := slot_ne (Or.inl (own_w hw 52 rfl)) (Or.inl (own_w hw 49 rfl)) (by decide) (t := (.array .boolean)) (t' := (.array .byte)) (by decide) (by decide)
theorem d10_18 : decode B10 18 = .ok (.putfield 13, 3) := by decide +kernel
theorem d10_21 : decode B10 21 = .ok (.aload_n 0, 1) := by decide +kernel
theorem d10_22 : decode B10 22 = .ok (.bipush 8, 2) := by decide +kernel
theorem d10_24 : decode B10 24 = .ok (.newarray .boolean, 2) := by decide +kernel
theorem own_sn19 {Z : State} {a0 : Array Value} (hw : ∀ d ∈ tables_1, d.before a0 Z = true) : Jvm.RoadKit.slotOf Z "tramline/routes/JsonWriter" "begun" "[Z" ≠ Jvm.RoadKit.slotOf Z "tramline/routes/JsonWriter" "bytes" "[B" := slot_ne (Or.inl (own_w hw 54 rfl)) (Or.inl (own_w hw 49 rfl)) (by decide) (t := (.array .boolean)) (t' := (.array .byte)) (by decide) (by decide)
theorem own_sn20 {Z : State} {a0 : Array Value} (hw : ∀ d ∈ tables_1, d.before a0 Z = true) : Jvm.RoadKit.slotOf Z "tramline/routes/JsonWriter" "begun" "[Z" ≠ Jvm.RoadKit.slotOf Z "tramline/routes/JsonWriter" "objects" "[Z" := slot_ne (Or.inl (own_w hw 54 rfl)) (Or.inl (own_w hw 52 rfl)) (by decide) (t := (.array .boolean)) (t' := (.array .boolean)) (by decide) (by decide)
theorem d10_26 : decode B10 26 = .ok (.putfield 17, 3) := by decide +kernel
theorem d10_29 : decode B10 29 = .ok (.return_, 1) := by decide +kernel
theorem own_sn21 {Z : State} {a0 : Array Value} (hw : ∀ d ∈ tables_1, d.before a0 Z = true) : Jvm.RoadKit.slotOf Z "tramline/routes/JsonWriter" "bytes" "[B" ≠ Jvm.RoadKit.slotOf Z "tramline/routes/JsonWriter" "objects" "[Z" := slot_ne (Or.inl (own_w hw 49 rfl)) (Or.inl (own_w hw 52 rfl)) (by decide) (t := (.array .byte)) (t' := (.array .boolean)) (by decide) (by decide)
theorem own_sn22 {Z : State} {a0 : Array Value} (hw : ∀ d ∈ tables_1, d.before a0 Z = true) : Jvm.RoadKit.slotOf Z "tramline/routes/JsonWriter" "bytes" "[B" ≠ Jvm.RoadKit.slotOf Z "tramline/routes/JsonWriter" "begun" "[Z" := slot_ne (Or.inl (own_w hw 49 rfl)) (Or.inl (own_w hw 54 rfl)) (by decide) (t := (.array .byte)) (t' := (.array .boolean)) (by decide) (by decide)
theorem own_sn23 {Z : State} {a0 : Array Value} (hw : ∀ d ∈ tables_1, d.before a0 Z = true) : Jvm.RoadKit.slotOf Z "tramline/routes/JsonWriter" "size" "I" ≠ Jvm.RoadKit.slotOf Z "tramline/routes/JsonWriter" "bytes" "[B" := slot_ne (Or.inl (own_w hw 61 rfl)) (Or.inl (own_w hw 49 rfl)) (by decide) (t := .int) (t' := (.array .byte)) (by decide) (by decide)
theorem own_sn24 {Z : State} {a0 : Array Value} (hw : ∀ d ∈ tables_1, d.before a0 Z = true) : Jvm.RoadKit.slotOf Z "tramline/routes/JsonWriter" "size" "I" ≠ Jvm.RoadKit.slotOf Z "tramline/routes/JsonWriter" "objects" "[Z" := slot_ne (Or.inl (own_w hw 61 rfl)) (Or.inl (own_w hw 52 rfl)) (by decide) (t := .int) (t' := (.array .boolean)) (by decide) (by decide)
theorem own_sn25 {Z : State} {a0 : Array Value} (hw : ∀ d ∈ tables_1, d.before a0 Z = true) : Jvm.RoadKit.slotOf Z "tramline/routes/JsonWriter" "size" "I" ≠ Jvm.RoadKit.slotOf Z "tramline/routes/JsonWriter" "begun" "[Z" := slot_ne (Or.inl (own_w hw 61 rfl)) (Or.inl (own_w hw 54 rfl)) (by decide) (t := .int) (t' := (.array .boolean)) (by decide) (by decide)
theorem own_sn26 {Z : State} {a0 : Array Value} (hw : ∀ d ∈ tables_1, d.before a0 Z = true) : Jvm.RoadKit.slotOf Z "tramline/routes/JsonWriter" "objects" "[Z" ≠ Jvm.RoadKit.slotOf Z "tramline/routes/JsonWriter" "begun" "[Z" := slot_ne (Or.inl (own_w hw 52 rfl)) (Or.inl (own_w hw 54 rfl)) (by decide) (t := (.array .boolean)) (t' := (.array .boolean)) (by decide) (by decide)
theorem own_sn27 {Z : State} {a0 : Array Value} (hw : ∀ d ∈ tables_1, d.before a0 Z = true) : Jvm.RoadKit.slotOf Z "tramline/routes/JsonWriter" "depth" "I" ≠ Jvm.RoadKit.slotOf Z "tramline/routes/JsonWriter" "bytes" "[B" := slot_ne (Or.inl (own_w hw 84 rfl)) (Or.inl (own_w hw 49 rfl)) (by decide) (t := .int) (t' := (.array .byte)) (by decide) (by decide)
theorem own_sn28 {Z : State} {a0 : Array Value} (hw : ∀ d ∈ tables_1, d.before a0 Z = true) : Jvm.RoadKit.slotOf Z "tramline/routes/JsonWriter" "depth" "I" ≠ Jvm.RoadKit.slotOf Z "tramline/routes/JsonWriter" "objects" "[Z" := slot_ne (Or.inl (own_w hw 84 rfl)) (Or.inl (own_w hw 52 rfl)) (by decide) (t := .int) (t' := (.array .boolean)) (by decide) (by decide)
theorem own_sn29 {Z : State} {a0 : Array Value} (hw : ∀ d ∈ tables_1, d.before a0 Z = true) : Jvm.RoadKit.slotOf Z "tramline/routes/JsonWriter" "depth" "I" ≠ Jvm.RoadKit.slotOf Z "tramline/routes/JsonWriter" "begun" "[Z" := slot_ne (Or.inl (own_w hw 84 rfl)) (Or.inl (own_w hw 54 rfl)) (by decide) (t := .int) (t' := (.array .boolean)) (by decide) (by decide)
theorem own_sn30 {Z : State} {a0 : Array Value} (hw : ∀ d ∈ tables_1, d.before a0 Z = true) : Jvm.RoadKit.slotOf Z "tramline/routes/JsonWriter" "named" "Z" ≠ Jvm.RoadKit.slotOf Z "tramline/routes/JsonWriter" "bytes" "[B" := slot_ne (Or.inl (own_w hw 178 rfl)) (Or.inl (own_w hw 49 rfl)) (by decide) (t := .boolean) (t' := (.array .byte)) (by decide) (by decide)
theorem own_sn31 {Z : State} {a0 : Array Value} (hw : ∀ d ∈ tables_1, d.before a0 Z = true) : Jvm.RoadKit.slotOf Z "tramline/routes/JsonWriter" "named" "Z" ≠ Jvm.RoadKit.slotOf Z "tramline/routes/JsonWriter" "objects" "[Z" := slot_ne (Or.inl (own_w hw 178 rfl)) (Or.inl (own_w hw 52 rfl)) (by decide) (t := .boolean) (t' := (.array .boolean)) (by decide) (by decide)
theorem own_sn32 {Z : State} {a0 : Array Value} (hw : ∀ d ∈ tables_1, d.before a0 Z = true) : Jvm.RoadKit.slotOf Z "tramline/routes/JsonWriter" "named" "Z" ≠ Jvm.RoadKit.slotOf Z "tramline/routes/JsonWriter" "begun" "[Z" := slot_ne (Or.inl (own_w hw 178 rfl)) (Or.inl (own_w hw 54 rfl)) (by decide) (t := .boolean) (t' := (.array .boolean)) (by decide) (by decide)
theorem own_sn33 {Z : State} {a0 : Array Value} (hw : ∀ d ∈ tables_1, d.before a0 Z = true) : Jvm.RoadKit.slotOf Z "tramline/routes/JsonWriter" "started" "Z" ≠ Jvm.RoadKit.slotOf Z "tramline/routes/JsonWriter" "bytes" "[B" := slot_ne (Or.inl (own_w hw 86 rfl)) (Or.inl (own_w hw 49 rfl)) (by decide) (t := .boolean) (t' := (.array .byte)) (by decide) (by decide)
theorem own_sn34 {Z : State} {a0 : Array Value} (hw : ∀ d ∈ tables_1, d.before a0 Z = true) : Jvm.RoadKit.slotOf Z "tramline/routes/JsonWriter" "started" "Z" ≠ Jvm.RoadKit.slotOf Z "tramline/routes/JsonWriter" "objects" "[Z" := slot_ne (Or.inl (own_w hw 86 rfl)) (Or.inl (own_w hw 52 rfl)) (by decide) (t := .boolean) (t' := (.array .boolean)) (by decide) (by decide)
theorem own_sn35 {Z : State} {a0 : Array Value} (hw : ∀ d ∈ tables_1, d.before a0 Z = true) : Jvm.RoadKit.slotOf Z "tramline/routes/JsonWriter" "started" "Z" ≠ Jvm.RoadKit.slotOf Z "tramline/routes/JsonWriter" "begun" "[Z" := slot_ne (Or.inl (own_w hw 86 rfl)) (Or.inl (own_w hw 54 rfl)) (by decide) (t := .boolean) (t' := (.array .boolean)) (by decide) (by decide)
theorem own_ef_jwInit (m : MethodId) (x0 : Addr) : entryFrame m #[(.ref x0)] 1 = mkF m 0 #[.val (.ref x0)] [] := by first | (simp [entryFrame, mkF, argsToLocals, Value.category]; done) | rfl
def own_Q_jwInit (Z : State) (ob : Addr) (h0 : Heap) (n0 : Nat) (v : Option Value) (h : Heap) (L : List Loc) : Prop := v = none ∧ Fr n0 L ∧ Keep h0 h [ob] ∧ ∃ (ba oa ga : Addr) (kb ko kg : ClassId), OwnJ Z h ob ba oa ga kb ko kg ([] : List Int32) (0 : Int32) (0 : Int32) (0 : Int32) ∧ h0.size ≤ ba
set_option maxRecDepth 65536 in
set_option maxHeartbeats 40000000 in
theorem own_jwInit (l : Launch) (Z : State) (a0 : Array Value) (hw : ∀ d ∈ tables_1, d.before a0 Z = true) (ws : List Jvm.Cond) (ob : Addr) (h0 : Heap) (n0 : Nat) (Z0 : n0 ≤ h0.size) (E : Exa Z h0 ob "tramline/routes/JsonWriter") (ibytes : Fld Z h0 ob "tramline/routes/JsonWriter" "bytes" "[B" .null) (isize : Fld Z h0 ob "tramline/routes/JsonWriter" "size" "I" (.int (0 : Int32))) (iobjects : Fld Z h0 ob "tramline/routes/JsonWriter" "objects" "[Z" .null) (ibegun : Fld Z h0 ob "tramline/routes/JsonWriter" "begun" "[Z" .null) (idepth : Fld Z h0 ob "tramline/routes/JsonWriter" "depth" "I" (.int (0 : Int32))) (inamed : Fld Z h0 ob "tramline/routes/JsonWriter" "named" "Z" (.int (0 : Int32))) (istarted : Fld Z h0 ob "tramline/routes/JsonWriter" "started" "Z" (.int (0 : Int32))) (g_ob : n0 ≤ ob) :
    MetFree l own_M10 (head1 (Jvm.Cond.code own_M10 prog_32_method_1_code 1 none :: ws) ({ frames := 1, cells := 3, slots := 272, locals := 12 } : Room)) (fun A0 U0 => A0 = #[(.ref ob)] ∧ Z.Warmed39 U0.vm ∧ U0.heap = h0) (fun _ _ _ _ _ => True) (fun _ U0 o0 U1 => ∃ v0 L0, o0 = .returned v0 ∧ own_Q_jwInit Z ob h0 n0 v0 U1.heap L0 ∧ FrameEnd U0 o0 U1 L0 3 272) := by
  refine MetFree.of_bodySF (plainFor_of_name own_pn_tramline_routes_JsonWriter) hisR ?_
  intro p e s m args below meth c s₁ Bd hml0 hP hK
  obtain ⟨rfl, hZ, hh⟩ := hP
  have hZs0 := hZ
  have hZs := hZ
  have hx := Bd.exec
  have hby := Bd.bytes
  have hD : ∀ {pc : Nat} {r : Except DecodeError (Instr × Nat)}, decode prog_32_method_1_code pc = r → decode c.code pc = r := fun q => hb hby q
  have hml : c.maxLocals = 1 := hml0
  have hown : s.vm.findClass "tramline/routes/JsonWriter" = some m.cls := findClass_of_methodNamed Bd.named
  have hnm := (name_of_methodNamed Bd.named Bd.method).1
  have X0 : Stand p l e ({ frames := 1, cells := 3, slots := 272, locals := 12 } : Room) s m #[(.ref ob)] below meth c s₁ [] 0 0 := Stand.of_body Bd
  have e0 : s₁.heap = h0 := by rw [← hh, Bd.state]; rfl
  have N0 := Fr.nil n0
  refine OwnFin.entry (own_ef_jwInit m ob) (fun P' hP' => ?_)
  have lt_ob := own_lt E.lt
  obtain ⟨T1, X1, e1, st1⟩ := initO X0 hx hZ hown (own_w hw 47 rfl) (own_w hw 13 rfl) (own_w hw 14 rfl) e0 (g := (mkF m 1 #[VR ob] [(.ref ob)])) rfl (by rw [hml]; rfl) rfl (hD d10_1) (by decide) (W := 0) (by show 2 * 0 + _ ≤ _; exact Nat.le_of_eq rfl) (by decide)
  obtain ⟨T2, h2, k2, X2, e2, E2, A2, st2⟩ := newP X1 hx hZ (own_w hw 20 rfl) e1 (g := (mkF m 8 #[VR ob] [(.int 256), (.ref ob)])) rfl (hD d10_8) rfl (by decide) (cap := 256) (by decide) (by decide) (by decide) (by decide)
  obtain ⟨b2, g2⟩ : ∃ z, z = h0.size := ⟨_, rfl⟩
  rw [← g2] at A2 st2
  have sz3 : h0.size ≤ h2.size := E2.1
  have lt_b2 := own_lt A2.lt
  have V2 : Arv Z h2 b2 k2 .byte (256:Int32) (([] : List Int32).map Value.int) (.int 0) := Arv.new A2 (by decide)
  have lb2 : OwnLe ([] : List Int32) 0 := Nat.le_refl 0
  have Fv4_1 := (E.ext E2)
  have Fv5_1 := (ibytes.ext E2)
  obtain ⟨T6, h6, X6, e6, W6, st6⟩ := putF X2 hx hZ hown (host := "") (Or.inl (own_w hw 48 rfl)) Via.refl e2 Fv5_1 Fv4_1 (Or.inl (own_w hw 49 rfl)) (own_w hw 42 rfl) (ty := (.array .byte)) (by decide) rfl rfl (g := (mkF m 10 #[VR ob] [(.ref b2), (.ref ob)])) rfl rfl (hD d10_10)
  have Fw6 : Fld Z h6 ob "tramline/routes/JsonWriter" "bytes" "[B" (.ref b2) := Fv5_1.same W6
  have sz7 : h2.size ≤ h6.size := Nat.le_of_eq W6.size.symm
  have N6 := Fr.snoc X6 N0 (by omega : n0 ≤ ob)
  obtain ⟨T8, h8, k8, X8, e8, E8, A8, st8⟩ := newP X6 hx hZ (own_w hw 50 rfl) e6 (g := (mkF m 16 #[VR ob] [(.int 8), (.ref ob)])) rfl (hD d10_16) rfl (by decide) (cap := 8) (by decide) (by decide) (by decide) (by decide)
  obtain ⟨b8, g8⟩ : ∃ z, z = h6.size := ⟨_, rfl⟩
  rw [← g8] at A8 st8
  have sz9 : h6.size ≤ h8.size := E8.1
  have lt_b8 := own_lt A8.lt
  have V8 : Arv Z h8 b8 k8 .boolean (8:Int32) [(.int 0)] (.int 0) := (show Arv Z h8 b8 k8 .boolean (8:Int32) [] (.int 0) from Arv.new A8 (by decide)).pad (fun i => by cases i <;> rfl)
  have Fv10_3 := ((Fv4_1.wr W6).ext E8)
  have Fv11_3 := (((iobjects.ext E2).other W6 (Or.inr (own_sn18 hw))).ext E8)
  obtain ⟨T12, h12, X12, e12, W12, st12⟩ := putF X8 hx hZ hown (host := "") (Or.inl (own_w hw 51 rfl)) Via.refl e8 Fv11_3 Fv10_3 (Or.inl (own_w hw 52 rfl)) (own_w hw 42 rfl) (ty := (.array .boolean)) (by decide) rfl rfl (g := (mkF m 18 #[VR ob] [(.ref b8), (.ref ob)])) rfl rfl (hD d10_18)
  have Fw12 : Fld Z h12 ob "tramline/routes/JsonWriter" "objects" "[Z" (.ref b8) := Fv11_3.same W12
  have sz13 : h8.size ≤ h12.size := Nat.le_of_eq W12.size.symm
  have N12 := Fr.snoc X12 N6 (by omega : n0 ≤ ob)
  obtain ⟨T14, h14, k14, X14, e14, E14, A14, st14⟩ := newP X12 hx hZ (own_w hw 50 rfl) e12 (g := (mkF m 24 #[VR ob] [(.int 8), (.ref ob)])) rfl (hD d10_24) rfl (by decide) (cap := 8) (by decide) (by decide) (by decide) (by decide)
  obtain ⟨b14, g14⟩ : ∃ z, z = h12.size := ⟨_, rfl⟩
  rw [← g14] at A14 st14
  have sz15 : h12.size ≤ h14.size := E14.1
  have lt_b14 := own_lt A14.lt
  have V14 : Arv Z h14 b14 k14 .boolean (8:Int32) [(.int 0)] (.int 0) := (show Arv Z h14 b14 k14 .boolean (8:Int32) [] (.int 0) from Arv.new A14 (by decide)).pad (fun i => by cases i <;> rfl)
  have Fv16_5 := ((Fv10_3.wr W12).ext E14)
  have Fv17_5 := (((((ibegun.ext E2).other W6 (Or.inr (own_sn19 hw))).ext E8).other W12 (Or.inr (own_sn20 hw))).ext E14)
  obtain ⟨T18, h18, X18, e18, W18, st18⟩ := putF X14 hx hZ hown (host := "") (Or.inl (own_w hw 53 rfl)) Via.refl e14 Fv17_5 Fv16_5 (Or.inl (own_w hw 54 rfl)) (own_w hw 42 rfl) (ty := (.array .boolean)) (by decide) rfl rfl (g := (mkF m 26 #[VR ob] [(.ref b14), (.ref ob)])) rfl rfl (hD d10_26)
  have Fw18 : Fld Z h18 ob "tramline/routes/JsonWriter" "begun" "[Z" (.ref b14) := Fv17_5.same W18
  have sz19 : h14.size ≤ h18.size := Nat.le_of_eq W18.size.symm
  have N18 := Fr.snoc X18 N12 (by omega : n0 ≤ ob)
  obtain ⟨fs, hr, hrun, hended, hW, hsame⟩ := X18.leave (v := none) (fun _ => rfl)
  refine OwnFin.adv (B := T18.setTop (mkF m 29 #[VR ob] [])) (fun _ k => XS.aloadN X0.here hx rfl (hD d10_0) rfl rfl (st1 _ (XS.aloadN X1.here hx rfl (hD d10_4) rfl rfl (XS.sipush X1.here hx rfl (hD d10_5) (st2 _ (st6 _ (XS.aloadN X6.here hx rfl (hD d10_13) rfl rfl (XS.bipush X6.here hx rfl (hD d10_14) (st8 _ (st12 _ (XS.aloadN X12.here hx rfl (hD d10_21) rfl rfl (XS.bipush X12.here hx rfl (hD d10_22) (st14 _ (st18 _ k)))))))))))))) ?_
  refine OwnFin.leaf hP' ⟨_, _, X18.returnOut hx Bd.returns (hD d10_29) hr, hrun, hended, _, _, rfl, ?_, ⟨_, rfl⟩, hW, hsame.mono (by decide) (by decide)⟩
  have Fv20_6 := (Fv16_5.wr W18)
  have Fv21_6 := ((((Fw6.ext E8).other W12 (Or.inr (own_sn21 hw))).ext E14).other W18 (Or.inr (own_sn22 hw)))
  have Fv22_6 := ((((((isize.ext E2).other W6 (Or.inr (own_sn23 hw))).ext E8).other W12 (Or.inr (own_sn24 hw))).ext E14).other W18 (Or.inr (own_sn25 hw)))
  have Fv23_6 := ((Fw12.ext E14).other W18 (Or.inr (own_sn26 hw)))
  have Fv24_6 := ((((((idepth.ext E2).other W6 (Or.inr (own_sn27 hw))).ext E8).other W12 (Or.inr (own_sn28 hw))).ext E14).other W18 (Or.inr (own_sn29 hw)))
  have Fv25_6 := ((((((inamed.ext E2).other W6 (Or.inr (own_sn30 hw))).ext E8).other W12 (Or.inr (own_sn31 hw))).ext E14).other W18 (Or.inr (own_sn32 hw)))
  have Fv26_6 := ((((((istarted.ext E2).other W6 (Or.inr (own_sn33 hw))).ext E8).other W12 (Or.inr (own_sn34 hw))).ext E14).other W18 (Or.inr (own_sn35 hw)))
  have Fv27_6 := (((((V2.other W6 (own_ne (by omega))).ext E8).other W12 (own_ne (by omega))).ext E14).other W18 (own_ne (by omega)))
  have Fv28_6 := (((V8.other W12 (own_ne (by omega))).ext E14).other W18 (own_ne (by omega)))
  have Fv29_6 := (V14.other W18 (own_ne (by omega)))
  rw [show (T18.setFrames fs).heap = h18 from e18]
  exact ⟨rfl, N18, (((((((Keep.refl h0 [ob]).ext E2).wr W6 (Or.inl (List.mem_of_getElem? (i := 0) rfl))).ext E8).wr W12 (Or.inl (List.mem_of_getElem? (i := 0) rfl))).ext E14).wr W18 (Or.inl (List.mem_of_getElem? (i := 0) rfl))), b2, b8, b14, k2, k8, k14, ⟨Fv20_6, Fv21_6, Fv22_6, Fv23_6, Fw18, Fv24_6, Fv25_6, Fv26_6, Fv27_6, Fv28_6, Fv29_6, own_lt (by omega), own_lt (by omega), own_lt (by omega)⟩, by omega⟩
theorem d13_0 : decode B13 0 = .ok (.iload_n 0, 1) := by decide +kernel
theorem d13_1 : decode B13 1 = .ok (.iload_n 1, 1) := by decide +kernel
theorem d13_2 : decode B13 2 = .ok (.if_icmp .gt 7, 3) := by decide +kernel
theorem d13_9 : decode B13 9 = .ok (.iload_n 1, 1) := by decide +kernel
theorem d13_10 : decode B13 10 = .ok (.ireturn, 1) := by decide +kernel
theorem own_ef_minR (m : MethodId) (x0 : Int32) (x1 : Int32) : entryFrame m #[(.int x0), (.int x1)] 2 = mkF m 0 #[.val (.int x0), .val (.int x1)] [] := by first | (simp [entryFrame, mkF, argsToLocals, Value.category]; done) | rfl
def own_Q_minR (Z : State) (mx my : Int32) (h0 : Heap) (n0 : Nat) (v : Option Value) (h : Heap) (L : List Loc) : Prop := v = some (.int my) ∧ Fr n0 L ∧ h = h0
set_option maxRecDepth 65536 in
set_option maxHeartbeats 40000000 in
theorem own_minR (l : Launch) (Z : State) (a0 : Array Value) (hw : ∀ d ∈ tables_1, d.before a0 Z = true) (ws : List Jvm.Cond) (mx my : Int32) (h0 : Heap) (n0 : Nat) (Z0 : n0 ≤ h0.size) (hlt : my < mx) :
    MetFree l own_M13 (head1 (Jvm.Cond.code own_M13 jdk_29_method_69_code 2 (some .int) :: ws) ({ frames := 0, cells := 0, slots := 0, locals := 0 } : Room)) (fun A0 U0 => A0 = #[(.int mx), (.int my)] ∧ Z.Warmed39 U0.vm ∧ U0.heap = h0) (fun _ _ _ _ _ => True) (fun _ U0 o0 U1 => ∃ v0 L0, o0 = .returned v0 ∧ own_Q_minR Z mx my h0 n0 v0 U1.heap L0 ∧ FrameEnd U0 o0 U1 L0 0 0) := by
  refine MetFree.of_bodySF (Jvm.Free.JP.mathPlain rfl (by decide +kernel)) hisR ?_
  intro p e s m args below meth c s₁ Bd hml0 hP hK
  obtain ⟨rfl, hZ, hh⟩ := hP
  have hZs0 := hZ
  have hZs := hZ
  have hx := Bd.exec
  have hby := Bd.bytes
  have hD : ∀ {pc : Nat} {r : Except DecodeError (Instr × Nat)}, decode jdk_29_method_69_code pc = r → decode c.code pc = r := fun q => hb hby q
  have hml : c.maxLocals = 2 := hml0
  have hown : s.vm.findClass "java/lang/Math" = some m.cls := findClass_of_methodNamed Bd.named
  have hnm := (name_of_methodNamed Bd.named Bd.method).1
  have X0 : Stand p l e ({ frames := 0, cells := 0, slots := 0, locals := 0 } : Room) s m #[(.int mx), (.int my)] below meth c s₁ [] 0 0 := Stand.of_body Bd
  have e0 : s₁.heap = h0 := by rw [← hh, Bd.state]; rfl
  have N0 := Fr.nil n0
  refine OwnFin.entry (own_ef_minR m mx my) (fun P' hP' => ?_)
  have hc2_3 : my < mx := hlt
  obtain ⟨fs, hr, hrun, hended, hW, hsame⟩ := X0.leave (v := some (.int my)) (fun h => by rw [Bd.returns] at h; cases h)
  refine OwnFin.adv (B := s₁.setTop (mkF m 10 #[VI mx, VI my] [(.int my)])) (fun _ k => XS.iloadN X0.here hx rfl (hD d13_0) rfl (XS.iloadN X0.here hx rfl (hD d13_1) rfl (XS.icmpYes X0.here hx rfl (pc0 := 2) (pc' := 9) rfl (hD d13_2) rfl (tlt hc2_3).2.2.1 (by decide) (by decide) (XS.iloadN X0.here hx rfl (hD d13_9) rfl k)))) ?_
  refine OwnFin.leaf hP' ⟨_, _, own_retI X0 hx Bd.returns (hD d13_10) hr, hrun, hended, _, _, rfl, ?_, ⟨_, rfl⟩, hW, hsame.mono (by decide) (by decide)⟩
  exact ⟨rfl, N0, e0⟩
theorem d12_0 : decode B12 0 = .ok (.iload_n 1, 1) := by decide +kernel
theorem d12_1 : decode B12 1 = .ok (.aload_n 0, 1) := by decide +kernel
theorem d12_2 : decode B12 2 = .ok (.arraylength, 1) := by decide +kernel
theorem d12_3 : decode B12 3 = .ok (.if_icmp .ne 11, 3) := by decide +kernel
theorem d12_14 : decode B12 14 = .ok (.iload_n 1, 1) := by decide +kernel
theorem d12_15 : decode B12 15 = .ok (.newarray .byte, 2) := by decide +kernel
theorem d12_17 : decode B12 17 = .ok (.astore_n 2, 1) := by decide +kernel
theorem d12_18 : decode B12 18 = .ok (.aload_n 0, 1) := by decide +kernel
theorem d12_19 : decode B12 19 = .ok (.iconst 0, 1) := by decide +kernel
theorem d12_20 : decode B12 20 = .ok (.aload_n 2, 1) := by decide +kernel
theorem d12_21 : decode B12 21 = .ok (.iconst 0, 1) := by decide +kernel
theorem d12_22 : decode B12 22 = .ok (.aload_n 0, 1) := by decide +kernel
theorem d12_23 : decode B12 23 = .ok (.arraylength, 1) := by decide +kernel
theorem d12_24 : decode B12 24 = .ok (.iload_n 1, 1) := by decide +kernel
theorem own_pd18 : parseMethodDescriptor "(II)I" = some ⟨[.int, .int], some .int⟩ := by decide +kernel
theorem d12_25 : decode B12 25 = .ok (.invokestatic 304, 3) := by decide +kernel
theorem d12_28 : decode B12 28 = .ok (.invokestatic 150, 3) := by decide +kernel
theorem d12_31 : decode B12 31 = .ok (.aload_n 2, 1) := by decide +kernel
theorem d12_32 : decode B12 32 = .ok (.areturn, 1) := by decide +kernel
theorem own_ef_copyT (m : MethodId) (x0 : Addr) (x1 : Int32) : entryFrame m #[(.ref x0), (.int x1)] 3 = mkF m 0 #[.val (.ref x0), .val (.int x1), .unset] [] := by first | (simp [entryFrame, mkF, argsToLocals, Value.category]; done) | rfl
theorem own_pn_java_util_Arrays : plainName "java/util/Arrays" = true := by first | (simp [plainName, overriddenIn]; done) | decide +kernel
def own_Q_copyT (Z : State) (ba : Addr) (kb : ClassId) (T : List Int32) (h0 : Heap) (n0 : Nat) (v : Option Value) (h : Heap) (L : List Loc) : Prop := ∃ (t : Addr) (kt : ClassId), v = some (.ref t) ∧ Fr n0 L ∧ Keep h0 h [] ∧ h0.size ≤ t ∧ Arv Z h t kt .byte (Int32.ofNat T.length) (T.map Value.int) (.int (0 : Int32))
set_option maxRecDepth 65536 in
set_option maxHeartbeats 40000000 in
theorem own_copyT (l : Launch) (Z : State) (a0 : Array Value) (hw : ∀ d ∈ tables_1, d.before a0 Z = true) (ws : List Jvm.Cond) (ba : Addr) (kb : ClassId) (T : List Int32) (h0 : Heap) (n0 : Nat) (Z0 : n0 ≤ h0.size) (Vb : Arv Z h0 ba kb .byte (256 : Int32) (T.map Value.int) (.int (0 : Int32))) (hT : OwnLe T 24) :
    MetFree l own_M12 (head1 (Jvm.Cond.code own_M12 jdk_65_method_121_code 3 (some (.array .byte)) :: ws) ({ frames := 1, cells := 1, slots := 24, locals := 18 } : Room)) (fun A0 U0 => A0 = #[(.ref ba), (.int (Int32.ofNat (T).length))] ∧ Z.Warmed39 U0.vm ∧ U0.heap = h0) (fun _ _ _ _ _ => True) (fun _ U0 o0 U1 => ∃ v0 L0, o0 = .returned v0 ∧ own_Q_copyT Z ba kb T h0 n0 v0 U1.heap L0 ∧ FrameEnd U0 o0 U1 L0 1 24) := by
  refine MetFree.of_bodySF (plainFor_of_name own_pn_java_util_Arrays) hisR ?_
  intro p e s m args below meth c s₁ Bd hml0 hP hK
  obtain ⟨rfl, hZ, hh⟩ := hP
  have hZs0 := hZ
  have hZs := hZ
  have hx := Bd.exec
  have hby := Bd.bytes
  have hD : ∀ {pc : Nat} {r : Except DecodeError (Instr × Nat)}, decode jdk_65_method_121_code pc = r → decode c.code pc = r := fun q => hb hby q
  have hml : c.maxLocals = 3 := hml0
  have hown : s.vm.findClass "java/util/Arrays" = some m.cls := findClass_of_methodNamed Bd.named
  have hnm := (name_of_methodNamed Bd.named Bd.method).1
  have X0 : Stand p l e ({ frames := 1, cells := 1, slots := 24, locals := 18 } : Room) s m #[(.ref ba), (.int (Int32.ofNat (T).length))] below meth c s₁ [] 0 0 := Stand.of_body Bd
  have e0 : s₁.heap = h0 := by rw [← hh, Bd.state]; rfl
  have N0 := Fr.nil n0
  refine OwnFin.entry (own_ef_copyT m ba (Int32.ofNat (T).length)) (fun P' hP' => ?_)
  have lt_ba := own_lt Vb.lt
  have hT' : T.length ≤ 24 := hT
  obtain ⟨cl1, Ar1, ck1, S1, M1, H1, G1⟩ := id Vb
  refine OwnFin.adv (B := s₁.setTop (mkF m 2 #[VR ba, VI (Int32.ofNat (T).length), .unset] [(.ref ba), (.int (Int32.ofNat (T).length))])) (fun _ k => XS.iloadN X0.here hx rfl (hD d12_0) rfl (XS.aloadN X0.here hx rfl (hD d12_1) rfl rfl k)) ?_
  refine OwnFin.adv (B := s₁.setTop (mkF m 3 #[VR ba, VI (Int32.ofNat (T).length), .unset] [(.int 256), (.int (Int32.ofNat (T).length))])) (fun _ k => X0.arraylength hx (by rw [e0]; exact Ar1.1) (State.isArrayOf_alike hZ.alike Ar1.2.1) (g := (mkF m 2 #[VR ba, VI (Int32.ofNat (T).length), .unset] [(.ref ba), (.int (Int32.ofNat (T).length))])) rfl rfl (hD d12_2) _ (by rw [len_of S1 M1]; exact k)) ?_
  have hc3_4 : ¬ ((Int32.ofNat (T).length) = (256:Int32)) := fun q => absurd ((own_eqn (b := 256) (by omega) (by omega)).mp q) (by omega)
  obtain ⟨T2, h2, k2, X2, e2, E2, A2, st2⟩ := newP X0 hx hZ (own_w hw 20 rfl) e0 (g := (mkF m 15 #[VR ba, VI (Int32.ofNat (T).length), .unset] [(.int (Int32.ofNat (T).length))])) rfl (hD d12_15) rfl (own_nn (by omega)) (cap := 24) (by rw [own_cl (by omega)]; omega) (by decide) (by decide) (by decide)
  obtain ⟨b2, g2⟩ : ∃ z, z = h0.size := ⟨_, rfl⟩
  rw [← g2] at A2 st2
  have sz3 : h0.size ≤ h2.size := E2.1
  have lt_b2 := own_lt A2.lt
  have V2 : Arv Z h2 b2 k2 .byte (Int32.ofNat (T).length) (List.replicate T.length (.int 0)) (.int 0) := (Arv.new A2 (own_nn (by omega))).pad (pad_rep [] (.int 0) _)
  have Fv5_1 := (Vb.ext E2)
  obtain ⟨cl4, Ar4, ck4, S4, M4, H4, G4⟩ := id Fv5_1
  refine OwnFin.adv (B := T2.setTop (mkF m 23 #[VR ba, VI (Int32.ofNat (T).length), VR b2] [(.ref ba), (.int 0), (.ref b2), (.int 0), (.ref ba)])) (fun _ k => XS.icmpYes X0.here hx rfl (pc0 := 3) (pc' := 14) rfl (hD d12_3) rfl (feq hc3_4).2 (by decide) (by decide) (XS.iloadN X0.here hx rfl (hD d12_14) rfl (st2 _ (XS.astoreN X2.here hx rfl (hD d12_17) rfl rfl (l' := #[VR ba, VI (Int32.ofNat (T).length), VR b2]) rfl (XS.aloadN X2.here hx rfl (hD d12_18) rfl rfl (XS.iconst X2.here hx rfl (hD d12_19) (XS.aloadN X2.here hx rfl (hD d12_20) rfl rfl (XS.iconst X2.here hx rfl (hD d12_21) (XS.aloadN X2.here hx rfl (hD d12_22) rfl rfl k))))))))) ?_
  refine OwnFin.adv (B := T2.setTop (mkF m 24 #[VR ba, VI (Int32.ofNat (T).length), VR b2] [(.int 256), (.int 0), (.ref b2), (.int 0), (.ref ba)])) (fun _ k => X2.arraylength hx (by rw [e2]; exact Ar4.1) (State.isArrayOf_alike hZ.alike Ar4.2.1) (g := (mkF m 23 #[VR ba, VI (Int32.ofNat (T).length), VR b2] [(.ref ba), (.int 0), (.ref b2), (.int 0), (.ref ba)])) rfl rfl (hD d12_23) _ (by rw [len_of S4 M4]; exact k)) ?_
  obtain ⟨_, _, ⟨T6, L6, k6, n6⟩, -, X6, ⟨Lc6, hQ6, l6, y6, z6⟩, st6⟩ := Jvm.LawKit.callS X2 hx (y := own_M13) hown (mvT hZ (own_w hw 66 rfl)) (mvT hZ (own_w hw 67 rfl)) (mvT hZ (own_w hw 68 rfl)) (mvT hZ (own_w hw 69 rfl)) (by decide) (backOf (W := 4) (own_minR l Z a0 hw [] (256:Int32) (Int32.ofNat (T).length) h2 n0 (by omega) ((own_ltn (b := 256) (by omega) (by omega)).mpr (by omega))) hZ (own_w hw 69 rfl) (own_w hw 68 rfl) (by decide) (by decide)) (g := (mkF m 25 #[VR ba, VI (Int32.ofNat (T).length), VR b2] [(.int (Int32.ofNat (T).length)), (.int 256), (.int 0), (.ref b2), (.int 0), (.ref ba)])) rfl (by rw [hml]; rfl) (argsL := [(.int 256), (.int (Int32.ofNat (T).length))]) (rest := [(.int 0), (.ref b2), (.int 0), (.ref ba)]) (lenOf own_pd18 rfl) rfl (by show 2 * 0 + _ ≤ _; exact Nat.le_of_eq rfl) (hD d12_25) (fun _ _ => ⟨rfl, e2, (by decide : 1 + 0 ≤ _), (by decide : 24 + 0 ≤ _)⟩)
  dsimp only [Pt.U, Pt.locs, Pt.cells, Pt.slots] at X6 l6 y6 z6 st6 hQ6
  subst l6 y6 z6
  obtain ⟨rfl, N6q, eh6⟩ := hQ6
  have N6 := Fr.app N0 N6q
  obtain ⟨T7, h7, L7, X7, e7, N7, K7, V7, st7⟩ := cpA X6 hx hZ hown (own_w hw 70 rfl) (own_w hw 73 rfl) (own_w hw 71 rfl) (own_w hw 72 rfl) eh6 Fv5_1 V2 (Or.inl ⟨rfl, rfl⟩) (by decide) (by decide) (own_nn (by omega)) (by rw [own_cl (by omega)]; show 0 + T.length ≤ 256; omega) (by rw [own_cl (by omega)]; exact Nat.le_of_eq (Nat.zero_add _)) (us := (T.map Value.int)) (by rw [own_cl (by omega)]; exact own_whole _ _ _ (by simp)) (by rw [own_cl (by omega), List.length_replicate]; exact Nat.le_of_eq (Nat.zero_add _)) N6 (by omega) (g := (mkF m 28 #[VR ba, VI (Int32.ofNat (T).length), VR b2] [(.int (Int32.ofNat (T).length)), (.int 0), (.ref b2), (.int 0), (.ref ba)])) rfl (by rw [hml]; rfl) rfl (hD d12_28) (by decide) (W := 0) (by show 2 * 0 + _ ≤ _; exact Nat.le_of_eq rfl) (by decide)
  have sz8 : h2.size ≤ h7.size := K7.1
  have V7n : Arv Z h7 b2 k2 .byte (Int32.ofNat (T).length) (T.map Value.int) (.int 0) := by
    have q := V7
    rw [show _ ++ _ ++ _ = (T.map Value.int) from by rw [show (0:Int32).toNatClampNeg = 0 from rfl, own_cl (by omega)]; simp] at q
    exact q
  obtain ⟨fs, hr, hrun, hended, hW, hsame⟩ := X7.leave (v := some (.ref b2)) (fun h => by rw [Bd.returns] at h; cases h)
  refine OwnFin.adv (B := T7.setTop (mkF m 32 #[VR ba, VI (Int32.ofNat (T).length), VR b2] [(.ref b2)])) (fun _ k => XS.iloadN X2.here hx rfl (hD d12_24) rfl (st6 _ (st7 _ (XS.aloadN X7.here hx rfl (hD d12_31) rfl rfl k)))) ?_
  refine OwnFin.leaf hP' ⟨_, _, own_retR X7 hx Bd.returns rfl rfl rfl (hD d12_32) hr, hrun, hended, _, _, rfl, ?_, ⟨_, rfl⟩, hW, hsame.mono (by decide) (by decide)⟩
  rw [show (T7.setFrames fs).heap = h7 from e7]
  exact ⟨b2, _, rfl, N7, (((Keep.refl h0 []).ext E2).trans K7 (allS (Or.inr (by omega)) all0)), by omega, V7n⟩
theorem d11_0 : decode B11 0 = .ok (.aload_n 0, 1) := by decide +kernel
theorem d11_1 : decode B11 1 = .ok (.getfield 7, 3) := by decide +kernel
theorem d11_4 : decode B11 4 = .ok (.aload_n 0, 1) := by decide +kernel
theorem d11_5 : decode B11 5 = .ok (.getfield 106, 3) := by decide +kernel
theorem own_pd19 : parseMethodDescriptor "([BI)[B" = some ⟨[(.array .byte), .int], some (.array .byte)⟩ := by decide +kernel
theorem d11_8 : decode B11 8 = .ok (.invokestatic 109, 3) := by decide +kernel
theorem d11_11 : decode B11 11 = .ok (.areturn, 1) := by decide +kernel
theorem own_ef_toBA (m : MethodId) (x0 : Addr) : entryFrame m #[(.ref x0)] 1 = mkF m 0 #[.val (.ref x0)] [] := by first | (simp [entryFrame, mkF, argsToLocals, Value.category]; done) | rfl
def own_Q_toBA (Z : State) (ob ba oa ga : Addr) (kb ko kg : ClassId) (T : List Int32) (dp bg sd : Int32) (h0 : Heap) (n0 : Nat) (v : Option Value) (h : Heap) (L : List Loc) : Prop := ∃ (t : Addr) (kt : ClassId), v = some (.ref t) ∧ Fr n0 L ∧ Keep h0 h [] ∧ h0.size ≤ t ∧ Arv Z h t kt .byte (Int32.ofNat T.length) (T.map Value.int) (.int (0 : Int32))
set_option maxRecDepth 65536 in
set_option maxHeartbeats 40000000 in
theorem own_toBA (l : Launch) (Z : State) (a0 : Array Value) (hw : ∀ d ∈ tables_1, d.before a0 Z = true) (ws : List Jvm.Cond) (ob ba oa ga : Addr) (kb ko kg : ClassId) (T : List Int32) (dp bg sd : Int32) (h0 : Heap) (n0 : Nat) (Z0 : n0 ≤ h0.size) (J : OwnJ Z h0 ob ba oa ga kb ko kg (T) dp bg sd) (hT : OwnLe T 24) :
    MetFree l own_M11 (head1 (Jvm.Cond.code own_M11 prog_32_method_17_code 1 (some (.array .byte)) :: ws) ({ frames := 2, cells := 1, slots := 24, locals := 32 } : Room)) (fun A0 U0 => A0 = #[(.ref ob)] ∧ Z.Warmed39 U0.vm ∧ U0.heap = h0) (fun _ _ _ _ _ => True) (fun _ U0 o0 U1 => ∃ v0 L0, o0 = .returned v0 ∧ own_Q_toBA Z ob ba oa ga kb ko kg T dp bg sd h0 n0 v0 U1.heap L0 ∧ FrameEnd U0 o0 U1 L0 1 24) := by
  refine MetFree.of_bodySF (plainFor_of_name own_pn_tramline_routes_JsonWriter) hisR ?_
  intro p e s m args below meth c s₁ Bd hml0 hP hK
  obtain ⟨rfl, hZ, hh⟩ := hP
  have hZs0 := hZ
  have hZs := hZ
  have hx := Bd.exec
  have hby := Bd.bytes
  have hD : ∀ {pc : Nat} {r : Except DecodeError (Instr × Nat)}, decode prog_32_method_17_code pc = r → decode c.code pc = r := fun q => hb hby q
  have hml : c.maxLocals = 1 := hml0
  have hown : s.vm.findClass "tramline/routes/JsonWriter" = some m.cls := findClass_of_methodNamed Bd.named
  have hnm := (name_of_methodNamed Bd.named Bd.method).1
  have X0 : Stand p l e ({ frames := 2, cells := 1, slots := 24, locals := 32 } : Room) s m #[(.ref ob)] below meth c s₁ [] 0 0 := Stand.of_body Bd
  have e0 : s₁.heap = h0 := by rw [← hh, Bd.state]; rfl
  have N0 := Fr.nil n0
  refine OwnFin.entry (own_ef_toBA m ob) (fun P' hP' => ?_)
  obtain ⟨Ew1, fbytes_1, fsize_1, fobjects_1, fbegun_1, fdepth_1, fnamed_1, fstarted_1, Vb1, Vo1, Vg1, la_1, lb_1, lc_1⟩ := id J
  have la_1 := own_lt la_1
  have lb_1 := own_lt lb_1
  have lc_1 := own_lt lc_1
  have lw1 := own_lt Ew1.lt
  have lg1 := own_lt Vg1.lt
  have ld_1 := Nat.lt_trans la_1 lb_1
  have lf_1 := Nat.lt_trans lb_1 lc_1
  have le_1 := Nat.lt_trans ld_1 lc_1
  obtain ⟨T2, X2, e2, st2⟩ := getF X0 hx hZ hown (host := "") (Or.inl (own_w hw 48 rfl)) Via.refl e0 fbytes_1 (g := (mkF m 1 #[VR ob] [(.ref ob)])) rfl rfl (hD d11_1)
  obtain ⟨T3, X3, e3, st3⟩ := getF X2 hx hZ hown (host := "") (Or.inl (own_w hw 60 rfl)) Via.refl e2 fsize_1 (g := (mkF m 5 #[VR ob] [(.ref ob), (.ref ba)])) rfl rfl (hD d11_5)
  obtain ⟨_, _, ⟨T4, L4, k4, n4⟩, -, X4, ⟨Lc4, hQ4, l4, y4, z4⟩, st4⟩ := Jvm.LawKit.callS X3 hx (y := own_M12) hown (mvT hZ (own_w hw 62 rfl)) (mvT hZ (own_w hw 63 rfl)) (mvT hZ (own_w hw 64 rfl)) (mvT hZ (own_w hw 65 rfl)) (by decide) (backOf (W := 0) (own_copyT l Z a0 hw [] ba kb T h0 n0 (by omega) Vb1 hT) hZ (own_w hw 65 rfl) (own_w hw 64 rfl) (by decide) (by decide)) (g := (mkF m 8 #[VR ob] [(.int (Int32.ofNat (T).length)), (.ref ba)])) rfl (by rw [hml]; rfl) (argsL := [(.ref ba), (.int (Int32.ofNat (T).length))]) (rest := []) (lenOf own_pd19 rfl) rfl (by show 2 * 0 + _ ≤ _; exact Nat.le_of_eq rfl) (hD d11_8) (fun _ _ => ⟨rfl, e3, (by decide : 0 + 1 ≤ _), (by decide : 0 + 24 ≤ _)⟩)
  dsimp only [Pt.U, Pt.locs, Pt.cells, Pt.slots] at X4 l4 y4 z4 st4 hQ4
  subst l4 y4 z4
  obtain ⟨t4, kt4, rfl, N4q, K4, ge4, Vt4⟩ := hQ4
  have N4 := Fr.app N0 N4q
  have sz5 : h0.size ≤ T4.heap.size := K4.1
  have lt_t4 := own_lt Vt4.lt
  obtain ⟨fs, hr, hrun, hended, hW, hsame⟩ := X4.leave (v := some (.ref t4)) (fun h => by rw [Bd.returns] at h; cases h)
  refine OwnFin.adv (B := T4.setTop (mkF m 11 #[VR ob] [(.ref t4)])) (fun _ k => XS.aloadN X0.here hx rfl (hD d11_0) rfl rfl (st2 _ (XS.aloadN X2.here hx rfl (hD d11_4) rfl rfl (st3 _ (st4 _ k))))) ?_
  refine OwnFin.leaf hP' ⟨_, _, own_retR X4 hx Bd.returns rfl rfl rfl (hD d11_11) hr, hrun, hended, _, _, rfl, ?_, ⟨_, rfl⟩, hW, hsame.mono (by decide) (by decide)⟩
  rw [show (T4.setFrames fs).heap = T4.heap from rfl]
  exact ⟨t4, _, rfl, N4, ((Keep.refl h0 []).trans K4 all0), by omega, Vt4⟩
theorem d9_0 : decode B9 0 = .ok (.iload_n 0, 1) := by decide +kernel
theorem d9_1 : decode B9 1 = .ok (.bipush 10, 2) := by decide +kernel
theorem d9_3 : decode B9 3 = .ok (.if_icmp .ge 10, 3) := by decide +kernel
theorem d9_6 : decode B9 6 = .ok (.bipush 48, 2) := by decide +kernel
theorem d9_8 : decode B9 8 = .ok (.iload_n 0, 1) := by decide +kernel
theorem d9_9 : decode B9 9 = .ok (.iadd, 1) := by decide +kernel
theorem d9_10 : decode B9 10 = .ok (.goto 10, 3) := by decide +kernel
theorem d9_20 : decode B9 20 = .ok (.i2b, 1) := by decide +kernel
theorem d9_21 : decode B9 21 = .ok (.ireturn, 1) := by decide +kernel
theorem d9_13 : decode B9 13 = .ok (.bipush 65, 2) := by decide +kernel
theorem d9_15 : decode B9 15 = .ok (.iload_n 0, 1) := by decide +kernel
theorem d9_16 : decode B9 16 = .ok (.iadd, 1) := by decide +kernel
theorem d9_17 : decode B9 17 = .ok (.bipush 10, 2) := by decide +kernel
theorem d9_19 : decode B9 19 = .ok (.isub, 1) := by decide +kernel
theorem own_ef_hex (m : MethodId) (x0 : Int32) : entryFrame m #[(.int x0)] 1 = mkF m 0 #[.val (.int x0)] [] := by first | (simp [entryFrame, mkF, argsToLocals, Value.category]; done) | rfl
theorem own_pn_tramline_routes_JsonWriterToByteArrayPinLaw : plainName "tramline/routes/JsonWriterToByteArrayPinLaw" = true := by first | (simp [plainName, overriddenIn]; done) | decide +kernel
def own_Q_hex (Z : State) (dv : Int32) (h0 : Heap) (n0 : Nat) (v : Option Value) (h : Heap) (L : List Loc) : Prop := v = some (.int (own_hx dv)) ∧ Fr n0 L ∧ h = h0
set_option maxRecDepth 65536 in
set_option maxHeartbeats 40000000 in
theorem own_hex (l : Launch) (Z : State) (a0 : Array Value) (hw : ∀ d ∈ tables_1, d.before a0 Z = true) (ws : List Jvm.Cond) (dv : Int32) (h0 : Heap) (n0 : Nat) (Z0 : n0 ≤ h0.size) (hdv : ¬ dv < 0 ∧ dv < 16) :
    MetFree l own_M9 (head1 (Jvm.Cond.code own_M9 method_2_code 1 (some .byte) :: ws) ({ frames := 0, cells := 0, slots := 0, locals := 0 } : Room)) (fun A0 U0 => A0 = #[(.int dv)] ∧ Z.Warmed39 U0.vm ∧ U0.heap = h0) (fun _ _ _ _ _ => True) (fun _ U0 o0 U1 => ∃ v0 L0, o0 = .returned v0 ∧ own_Q_hex Z dv h0 n0 v0 U1.heap L0 ∧ FrameEnd U0 o0 U1 L0 0 0) := by
  refine MetFree.of_bodySF (plainFor_of_name own_pn_tramline_routes_JsonWriterToByteArrayPinLaw) hisR ?_
  intro p e s m args below meth c s₁ Bd hml0 hP hK
  obtain ⟨rfl, hZ, hh⟩ := hP
  have hZs0 := hZ
  have hZs := hZ
  have hx := Bd.exec
  have hby := Bd.bytes
  have hD : ∀ {pc : Nat} {r : Except DecodeError (Instr × Nat)}, decode method_2_code pc = r → decode c.code pc = r := fun q => hb hby q
  have hml : c.maxLocals = 1 := hml0
  have hown : s.vm.findClass "tramline/routes/JsonWriterToByteArrayPinLaw" = some m.cls := findClass_of_methodNamed Bd.named
  have hnm := (name_of_methodNamed Bd.named Bd.method).1
  have X0 : Stand p l e ({ frames := 0, cells := 0, slots := 0, locals := 0 } : Room) s m #[(.int dv)] below meth c s₁ [] 0 0 := Stand.of_body Bd
  have e0 : s₁.heap = h0 := by rw [← hh, Bd.state]; rfl
  have N0 := Fr.nil n0
  refine OwnFin.entry (own_ef_hex m dv) (fun P' hP' => ?_)
  refine OwnFin.adv (B := s₁.setTop (mkF m 3 #[VI dv] [(.int 10), (.int dv)])) (fun _ k => XS.iloadN X0.here hx rfl (hD d9_0) rfl (XS.bipush X0.here hx rfl (hD d9_1) k)) ?_
  by_cases hc3 : dv < (10:Int32)
  ·
   obtain ⟨fs, hr, hrun, hended, hW, hsame⟩ := X0.leave (v := some (.int (nar .byte (((48:Int32) + dv).toInt8.toInt32)))) (fun h => by rw [Bd.returns] at h; cases h)
   refine OwnFin.adv (B := s₁.setTop (mkF m 21 #[VI dv] [(.int (((48:Int32) + dv).toInt8.toInt32))])) (fun _ k => XS.icmpNo X0.here hx rfl (hD d9_3) rfl (tlt hc3).2.1 (XS.bipush X0.here hx rfl (hD d9_6) (XS.iloadN X0.here hx rfl (hD d9_8) rfl (XS.iadd X0.here hx rfl (hD d9_9) rfl (XS.goto X0.here hx rfl (pc0 := 10) (pc' := 20) rfl (hD d9_10) (by decide) (by decide) (XS.i2b X0.here hx rfl (hD d9_20) rfl k)))))) ?_
   refine OwnFin.leaf hP' ⟨_, _, retN X0 hx (t := .byte) Bd.returns (by simp) (hD d9_21) hr, hrun, hended, _, _, rfl, ?_, ⟨_, rfl⟩, hW, hsame.mono (by decide) (by decide)⟩
   exact ⟨congrArg (fun z => some (Value.int z)) (own_hx1 hdv hc3), N0, e0⟩
  ·
   obtain ⟨fs, hr, hrun, hended, hW, hsame⟩ := X0.leave (v := some (.int (nar .byte ((((65:Int32) + dv) - (10:Int32)).toInt8.toInt32)))) (fun h => by rw [Bd.returns] at h; cases h)
   refine OwnFin.adv (B := s₁.setTop (mkF m 21 #[VI dv] [(.int ((((65:Int32) + dv) - (10:Int32)).toInt8.toInt32))])) (fun _ k => XS.icmpYes X0.here hx rfl (pc0 := 3) (pc' := 13) rfl (hD d9_3) rfl (flt hc3).2.1 (by decide) (by decide) (XS.bipush X0.here hx rfl (hD d9_13) (XS.iloadN X0.here hx rfl (hD d9_15) rfl (XS.iadd X0.here hx rfl (hD d9_16) rfl (XS.bipush X0.here hx rfl (hD d9_17) (XS.isub X0.here hx rfl (hD d9_19) rfl (XS.i2b X0.here hx rfl (hD d9_20) rfl k))))))) ?_
   refine OwnFin.leaf hP' ⟨_, _, retN X0 hx (t := .byte) Bd.returns (by simp) (hD d9_21) hr, hrun, hended, _, _, rfl, ?_, ⟨_, rfl⟩, hW, hsame.mono (by decide) (by decide)⟩
   exact ⟨congrArg (fun z => some (Value.int z)) (own_hx2 hdv hc3), N0, e0⟩
theorem d8_0 : decode B8 0 = .ok (.aload_n 0, 1) := by decide +kernel
theorem d8_1 : decode B8 1 = .ok (.iload_n 1, 1) := by decide +kernel
theorem d8_2 : decode B8 2 = .ok (.bipush 117, 2) := by decide +kernel
theorem d8_4 : decode B8 4 = .ok (.bastore, 1) := by decide +kernel
theorem d8_5 : decode B8 5 = .ok (.aload_n 0, 1) := by decide +kernel
theorem d8_6 : decode B8 6 = .ok (.iload_n 1, 1) := by decide +kernel
theorem d8_7 : decode B8 7 = .ok (.iconst 1, 1) := by decide +kernel
theorem d8_8 : decode B8 8 = .ok (.iadd, 1) := by decide +kernel
theorem d8_9 : decode B8 9 = .ok (.iload_n 2, 1) := by decide +kernel
theorem d8_10 : decode B8 10 = .ok (.bipush 12, 2) := by decide +kernel
theorem d8_12 : decode B8 12 = .ok (.ishr, 1) := by decide +kernel
theorem d8_13 : decode B8 13 = .ok (.bipush 15, 2) := by decide +kernel
theorem d8_15 : decode B8 15 = .ok (.iand, 1) := by decide +kernel
theorem own_pd20 : parseMethodDescriptor "(I)B" = some ⟨[.int], some .byte⟩ := by decide +kernel
theorem d8_16 : decode B8 16 = .ok (.invokestatic 7, 3) := by decide +kernel
theorem d8_19 : decode B8 19 = .ok (.bastore, 1) := by decide +kernel
theorem d8_20 : decode B8 20 = .ok (.aload_n 0, 1) := by decide +kernel
theorem d8_21 : decode B8 21 = .ok (.iload_n 1, 1) := by decide +kernel
theorem d8_22 : decode B8 22 = .ok (.iconst 2, 1) := by decide +kernel
theorem d8_23 : decode B8 23 = .ok (.iadd, 1) := by decide +kernel
theorem d8_24 : decode B8 24 = .ok (.iload_n 2, 1) := by decide +kernel
theorem d8_25 : decode B8 25 = .ok (.bipush 8, 2) := by decide +kernel
theorem d8_27 : decode B8 27 = .ok (.ishr, 1) := by decide +kernel
theorem d8_28 : decode B8 28 = .ok (.bipush 15, 2) := by decide +kernel
theorem d8_30 : decode B8 30 = .ok (.iand, 1) := by decide +kernel
theorem d8_31 : decode B8 31 = .ok (.invokestatic 7, 3) := by decide +kernel
theorem d8_34 : decode B8 34 = .ok (.bastore, 1) := by decide +kernel
theorem d8_35 : decode B8 35 = .ok (.aload_n 0, 1) := by decide +kernel
theorem d8_36 : decode B8 36 = .ok (.iload_n 1, 1) := by decide +kernel
theorem d8_37 : decode B8 37 = .ok (.iconst 3, 1) := by decide +kernel
theorem d8_38 : decode B8 38 = .ok (.iadd, 1) := by decide +kernel
theorem d8_39 : decode B8 39 = .ok (.iload_n 2, 1) := by decide +kernel
theorem d8_40 : decode B8 40 = .ok (.iconst 4, 1) := by decide +kernel
theorem d8_41 : decode B8 41 = .ok (.ishr, 1) := by decide +kernel
theorem d8_42 : decode B8 42 = .ok (.bipush 15, 2) := by decide +kernel
theorem d8_44 : decode B8 44 = .ok (.iand, 1) := by decide +kernel
theorem d8_45 : decode B8 45 = .ok (.invokestatic 7, 3) := by decide +kernel
theorem d8_48 : decode B8 48 = .ok (.bastore, 1) := by decide +kernel
theorem d8_49 : decode B8 49 = .ok (.aload_n 0, 1) := by decide +kernel
theorem d8_50 : decode B8 50 = .ok (.iload_n 1, 1) := by decide +kernel
theorem d8_51 : decode B8 51 = .ok (.iconst 4, 1) := by decide +kernel
theorem d8_52 : decode B8 52 = .ok (.iadd, 1) := by decide +kernel
theorem d8_53 : decode B8 53 = .ok (.iload_n 2, 1) := by decide +kernel
theorem d8_54 : decode B8 54 = .ok (.bipush 15, 2) := by decide +kernel
theorem d8_56 : decode B8 56 = .ok (.iand, 1) := by decide +kernel
theorem d8_57 : decode B8 57 = .ok (.invokestatic 7, 3) := by decide +kernel
theorem d8_60 : decode B8 60 = .ok (.bastore, 1) := by decide +kernel
theorem d8_61 : decode B8 61 = .ok (.iload_n 1, 1) := by decide +kernel
theorem d8_62 : decode B8 62 = .ok (.iconst 5, 1) := by decide +kernel
theorem d8_63 : decode B8 63 = .ok (.iadd, 1) := by decide +kernel
theorem d8_64 : decode B8 64 = .ok (.ireturn, 1) := by decide +kernel
theorem own_ef_hexE (m : MethodId) (x0 : Addr) (x1 : Int32) (x2 : Int32) : entryFrame m #[(.ref x0), (.int x1), (.int x2)] 3 = mkF m 0 #[.val (.ref x0), .val (.int x1), .val (.int x2)] [] := by first | (simp [entryFrame, mkF, argsToLocals, Value.category]; done) | rfl
def own_Q_hexE (Z : State) (ea : Addr) (ke : ClassId) (T : List Int32) (cc : Int32) (h0 : Heap) (n0 : Nat) (v : Option Value) (h : Heap) (L : List Loc) : Prop := v = some (.int (Int32.ofNat (T ++ own_hexs cc).length)) ∧ Fr n0 L ∧ Keep h0 h [ea] ∧ Arv Z h ea ke .byte (24 : Int32) ((T ++ own_hexs cc).map Value.int) (.int (0 : Int32))
set_option maxRecDepth 65536 in
set_option maxHeartbeats 40000000 in
theorem own_hexE (l : Launch) (Z : State) (a0 : Array Value) (hw : ∀ d ∈ tables_1, d.before a0 Z = true) (ws : List Jvm.Cond) (ea : Addr) (ke : ClassId) (T : List Int32) (cc : Int32) (h0 : Heap) (n0 : Nat) (Z0 : n0 ≤ h0.size) (Ve : Arv Z h0 ea ke .byte (24 : Int32) (T.map Value.int) (.int (0 : Int32))) (g_ea : n0 ≤ ea) (hT : OwnLe T 19) :
    MetFree l own_M8 (head1 (Jvm.Cond.code own_M8 method_3_code 3 (some .int) :: ws) ({ frames := 1, cells := 0, slots := 0, locals := 14 } : Room)) (fun A0 U0 => A0 = #[(.ref ea), (.int (Int32.ofNat (T).length)), (.int cc)] ∧ Z.Warmed39 U0.vm ∧ U0.heap = h0) (fun _ _ _ _ _ => True) (fun _ U0 o0 U1 => ∃ v0 L0, o0 = .returned v0 ∧ own_Q_hexE Z ea ke T cc h0 n0 v0 U1.heap L0 ∧ FrameEnd U0 o0 U1 L0 0 0) := by
  refine MetFree.of_bodySF (plainFor_of_name own_pn_tramline_routes_JsonWriterToByteArrayPinLaw) hisR ?_
  intro p e s m args below meth c s₁ Bd hml0 hP hK
  obtain ⟨rfl, hZ, hh⟩ := hP
  have hZs0 := hZ
  have hZs := hZ
  have hx := Bd.exec
  have hby := Bd.bytes
  have hD : ∀ {pc : Nat} {r : Except DecodeError (Instr × Nat)}, decode method_3_code pc = r → decode c.code pc = r := fun q => hb hby q
  have hml : c.maxLocals = 3 := hml0
  have hown : s.vm.findClass "tramline/routes/JsonWriterToByteArrayPinLaw" = some m.cls := findClass_of_methodNamed Bd.named
  have hnm := (name_of_methodNamed Bd.named Bd.method).1
  have X0 : Stand p l e ({ frames := 1, cells := 0, slots := 0, locals := 14 } : Room) s m #[(.ref ea), (.int (Int32.ofNat (T).length)), (.int cc)] below meth c s₁ [] 0 0 := Stand.of_body Bd
  have e0 : s₁.heap = h0 := by rw [← hh, Bd.state]; rfl
  have N0 := Fr.nil n0
  refine OwnFin.entry (own_ef_hexE m ea (Int32.ofNat (T).length) cc) (fun P' hP' => ?_)
  have lt_ea := own_lt Ve.lt
  obtain ⟨cl1, Ar1, ck1, S1, M1, H1, G1⟩ := id Ve
  have hin1 := own_in24 (n := (T).length) S1 (own_leI hT (by decide))
  obtain ⟨T1, h1, X1, e1, W1, st1⟩ := stB X0 hx hZ e0 Ar1 (j := (Int32.ofNat (T).length)) hin1 (g := (mkF m 4 #[VR ea, VI (Int32.ofNat (T).length), VI cc] [(.int 117), (.int (Int32.ofNat (T).length)), (.ref ea)])) rfl rfl (hD d8_4)
  have V1 : Arv Z h1 ea ke .byte (24:Int32) (((T ++ [(117:Int32)])).map Value.int) (.int 0) := own_push Ve W1 (by decide) (own_leL hT (by decide))
  have lb1 : OwnLe (T ++ [(117:Int32)]) 20 := own_leS hT
  have sz2 : h0.size ≤ h1.size := Nat.le_of_eq W1.size.symm
  have N1 := Fr.snoc X1 N0 (by omega : n0 ≤ ea)
  obtain ⟨_, _, ⟨T3, L3, k3, n3⟩, -, X3, ⟨Lc3, hQ3, l3, y3, z3⟩, st3⟩ := Jvm.LawKit.callS X1 hx (y := own_M9) hown (mvT hZ (own_w hw 38 rfl)) (mvT hZ (own_w hw 39 rfl)) (mvT hZ (own_w hw 33 rfl)) (mvT hZ (own_w hw 40 rfl)) (by decide) (backOf (W := 2) (own_hex l Z a0 hw [] ((cc >>> ((12:Int32) &&& 31)) &&& (15:Int32)) h1 n0 (by omega) (own_m15 _)) hZ (own_w hw 40 rfl) (own_w hw 33 rfl) (by decide) (by decide)) (g := (mkF m 16 #[VR ea, VI (Int32.ofNat (T).length), VI cc] [(.int ((cc >>> ((12:Int32) &&& 31)) &&& (15:Int32))), (.int ((Int32.ofNat (T).length) + (1:Int32))), (.ref ea)])) rfl (by rw [hml]; rfl) (argsL := [(.int ((cc >>> ((12:Int32) &&& 31)) &&& (15:Int32)))]) (rest := [(.int ((Int32.ofNat (T).length) + (1:Int32))), (.ref ea)]) (lenOf own_pd20 rfl) rfl (by show 2 * 0 + _ ≤ _; exact Nat.le_of_eq rfl) (hD d8_16) (fun _ _ => ⟨rfl, e1, (by decide : 0 + 0 ≤ _), (by decide : 0 + 0 ≤ _)⟩)
  dsimp only [Pt.U, Pt.locs, Pt.cells, Pt.slots] at X3 l3 y3 z3 st3 hQ3
  subst l3 y3 z3
  obtain ⟨rfl, N3q, eh3⟩ := hQ3
  have N3 := Fr.app N1 N3q
  refine OwnFin.adv (B := T3.setTop (mkF m 19 #[VR ea, VI (Int32.ofNat (T).length), VI cc] [(.int (own_hx ((cc >>> ((12:Int32) &&& 31)) &&& (15:Int32)))), (.int ((Int32.ofNat (T).length) + (1:Int32))), (.ref ea)])) (fun _ k => XS.aloadN X0.here hx rfl (hD d8_0) rfl rfl (XS.iloadN X0.here hx rfl (hD d8_1) rfl (XS.bipush X0.here hx rfl (hD d8_2) (st1 _ (XS.aloadN X1.here hx rfl (hD d8_5) rfl rfl (XS.iloadN X1.here hx rfl (hD d8_6) rfl (XS.iconst X1.here hx rfl (hD d8_7) (XS.iadd X1.here hx rfl (hD d8_8) rfl (XS.iloadN X1.here hx rfl (hD d8_9) rfl (XS.bipush X1.here hx rfl (hD d8_10) (XS.ishr X1.here hx rfl (hD d8_12) rfl (XS.bipush X1.here hx rfl (hD d8_13) (XS.iand X1.here hx rfl (hD d8_15) rfl (st3 _ k)))))))))))))) ?_
  rw [show (((Int32.ofNat (T).length) + (1:Int32)) : Int32) = (Int32.ofNat ((T ++ [(117:Int32)])).length) from own_pk (by simp)]
  obtain ⟨cl4, Ar4, ck4, S4, M4, H4, G4⟩ := id V1
  have hin4 := own_in24 (n := ((T ++ [(117:Int32)])).length) S4 (own_leI lb1 (by decide))
  obtain ⟨T4, h4, X4, e4, W4, st4⟩ := stB X3 hx hZ eh3 Ar4 (j := (Int32.ofNat ((T ++ [(117:Int32)])).length)) hin4 (g := (mkF m 19 #[VR ea, VI (Int32.ofNat (T).length), VI cc] [(.int (own_hx ((cc >>> ((12:Int32) &&& 31)) &&& (15:Int32)))), (.int (Int32.ofNat ((T ++ [(117:Int32)])).length)), (.ref ea)])) rfl rfl (hD d8_19)
  have V4 : Arv Z h4 ea ke .byte (24:Int32) ((((T ++ [(117:Int32)]) ++ [(own_hx ((cc >>> ((12:Int32) &&& 31)) &&& (15:Int32)))])).map Value.int) (.int 0) := own_push V1 W4 (own_hxb (own_m15 _)) (own_leL lb1 (by decide))
  have lb4 : OwnLe ((T ++ [(117:Int32)]) ++ [(own_hx ((cc >>> ((12:Int32) &&& 31)) &&& (15:Int32)))]) 21 := own_leS lb1
  have sz5 : h1.size ≤ h4.size := Nat.le_of_eq W4.size.symm
  have N4 := Fr.snoc X4 N3 (by omega : n0 ≤ ea)
  obtain ⟨_, _, ⟨T6, L6, k6, n6⟩, -, X6, ⟨Lc6, hQ6, l6, y6, z6⟩, st6⟩ := Jvm.LawKit.callS X4 hx (y := own_M9) hown (mvT hZ (own_w hw 38 rfl)) (mvT hZ (own_w hw 39 rfl)) (mvT hZ (own_w hw 33 rfl)) (mvT hZ (own_w hw 40 rfl)) (by decide) (backOf (W := 2) (own_hex l Z a0 hw [] ((cc >>> ((8:Int32) &&& 31)) &&& (15:Int32)) h4 n0 (by omega) (own_m15 _)) hZ (own_w hw 40 rfl) (own_w hw 33 rfl) (by decide) (by decide)) (g := (mkF m 31 #[VR ea, VI (Int32.ofNat (T).length), VI cc] [(.int ((cc >>> ((8:Int32) &&& 31)) &&& (15:Int32))), (.int ((Int32.ofNat (T).length) + (2:Int32))), (.ref ea)])) rfl (by rw [hml]; rfl) (argsL := [(.int ((cc >>> ((8:Int32) &&& 31)) &&& (15:Int32)))]) (rest := [(.int ((Int32.ofNat (T).length) + (2:Int32))), (.ref ea)]) (lenOf own_pd20 rfl) rfl (by show 2 * 0 + _ ≤ _; exact Nat.le_of_eq rfl) (hD d8_31) (fun _ _ => ⟨rfl, e4, (by decide : 0 + 0 ≤ _), (by decide : 0 + 0 ≤ _)⟩)
  dsimp only [Pt.U, Pt.locs, Pt.cells, Pt.slots] at X6 l6 y6 z6 st6 hQ6
  subst l6 y6 z6
  obtain ⟨rfl, N6q, eh6⟩ := hQ6
  have N6 := Fr.app N4 N6q
  refine OwnFin.adv (B := T6.setTop (mkF m 34 #[VR ea, VI (Int32.ofNat (T).length), VI cc] [(.int (own_hx ((cc >>> ((8:Int32) &&& 31)) &&& (15:Int32)))), (.int ((Int32.ofNat (T).length) + (2:Int32))), (.ref ea)])) (fun _ k => st4 _ (XS.aloadN X4.here hx rfl (hD d8_20) rfl rfl (XS.iloadN X4.here hx rfl (hD d8_21) rfl (XS.iconst X4.here hx rfl (hD d8_22) (XS.iadd X4.here hx rfl (hD d8_23) rfl (XS.iloadN X4.here hx rfl (hD d8_24) rfl (XS.bipush X4.here hx rfl (hD d8_25) (XS.ishr X4.here hx rfl (hD d8_27) rfl (XS.bipush X4.here hx rfl (hD d8_28) (XS.iand X4.here hx rfl (hD d8_30) rfl (st6 _ k))))))))))) ?_
  rw [show (((Int32.ofNat (T).length) + (2:Int32)) : Int32) = (Int32.ofNat (((T ++ [(117:Int32)]) ++ [(own_hx ((cc >>> ((12:Int32) &&& 31)) &&& (15:Int32)))])).length) from own_pk (by simp)]
  obtain ⟨cl7, Ar7, ck7, S7, M7, H7, G7⟩ := id V4
  have hin7 := own_in24 (n := (((T ++ [(117:Int32)]) ++ [(own_hx ((cc >>> ((12:Int32) &&& 31)) &&& (15:Int32)))])).length) S7 (own_leI lb4 (by decide))
  obtain ⟨T7, h7, X7, e7, W7, st7⟩ := stB X6 hx hZ eh6 Ar7 (j := (Int32.ofNat (((T ++ [(117:Int32)]) ++ [(own_hx ((cc >>> ((12:Int32) &&& 31)) &&& (15:Int32)))])).length)) hin7 (g := (mkF m 34 #[VR ea, VI (Int32.ofNat (T).length), VI cc] [(.int (own_hx ((cc >>> ((8:Int32) &&& 31)) &&& (15:Int32)))), (.int (Int32.ofNat (((T ++ [(117:Int32)]) ++ [(own_hx ((cc >>> ((12:Int32) &&& 31)) &&& (15:Int32)))])).length)), (.ref ea)])) rfl rfl (hD d8_34)
  have V7 : Arv Z h7 ea ke .byte (24:Int32) (((((T ++ [(117:Int32)]) ++ [(own_hx ((cc >>> ((12:Int32) &&& 31)) &&& (15:Int32)))]) ++ [(own_hx ((cc >>> ((8:Int32) &&& 31)) &&& (15:Int32)))])).map Value.int) (.int 0) := own_push V4 W7 (own_hxb (own_m15 _)) (own_leL lb4 (by decide))
  have lb7 : OwnLe (((T ++ [(117:Int32)]) ++ [(own_hx ((cc >>> ((12:Int32) &&& 31)) &&& (15:Int32)))]) ++ [(own_hx ((cc >>> ((8:Int32) &&& 31)) &&& (15:Int32)))]) 22 := own_leS lb4
  have sz8 : h4.size ≤ h7.size := Nat.le_of_eq W7.size.symm
  have N7 := Fr.snoc X7 N6 (by omega : n0 ≤ ea)
  obtain ⟨_, _, ⟨T9, L9, k9, n9⟩, -, X9, ⟨Lc9, hQ9, l9, y9, z9⟩, st9⟩ := Jvm.LawKit.callS X7 hx (y := own_M9) hown (mvT hZ (own_w hw 38 rfl)) (mvT hZ (own_w hw 39 rfl)) (mvT hZ (own_w hw 33 rfl)) (mvT hZ (own_w hw 40 rfl)) (by decide) (backOf (W := 2) (own_hex l Z a0 hw [] ((cc >>> ((4:Int32) &&& 31)) &&& (15:Int32)) h7 n0 (by omega) (own_m15 _)) hZ (own_w hw 40 rfl) (own_w hw 33 rfl) (by decide) (by decide)) (g := (mkF m 45 #[VR ea, VI (Int32.ofNat (T).length), VI cc] [(.int ((cc >>> ((4:Int32) &&& 31)) &&& (15:Int32))), (.int ((Int32.ofNat (T).length) + (3:Int32))), (.ref ea)])) rfl (by rw [hml]; rfl) (argsL := [(.int ((cc >>> ((4:Int32) &&& 31)) &&& (15:Int32)))]) (rest := [(.int ((Int32.ofNat (T).length) + (3:Int32))), (.ref ea)]) (lenOf own_pd20 rfl) rfl (by show 2 * 0 + _ ≤ _; exact Nat.le_of_eq rfl) (hD d8_45) (fun _ _ => ⟨rfl, e7, (by decide : 0 + 0 ≤ _), (by decide : 0 + 0 ≤ _)⟩)
  dsimp only [Pt.U, Pt.locs, Pt.cells, Pt.slots] at X9 l9 y9 z9 st9 hQ9
  subst l9 y9 z9
  obtain ⟨rfl, N9q, eh9⟩ := hQ9
  have N9 := Fr.app N7 N9q
  refine OwnFin.adv (B := T9.setTop (mkF m 48 #[VR ea, VI (Int32.ofNat (T).length), VI cc] [(.int (own_hx ((cc >>> ((4:Int32) &&& 31)) &&& (15:Int32)))), (.int ((Int32.ofNat (T).length) + (3:Int32))), (.ref ea)])) (fun _ k => st7 _ (XS.aloadN X7.here hx rfl (hD d8_35) rfl rfl (XS.iloadN X7.here hx rfl (hD d8_36) rfl (XS.iconst X7.here hx rfl (hD d8_37) (XS.iadd X7.here hx rfl (hD d8_38) rfl (XS.iloadN X7.here hx rfl (hD d8_39) rfl (XS.iconst X7.here hx rfl (hD d8_40) (XS.ishr X7.here hx rfl (hD d8_41) rfl (XS.bipush X7.here hx rfl (hD d8_42) (XS.iand X7.here hx rfl (hD d8_44) rfl (st9 _ k))))))))))) ?_
  rw [show (((Int32.ofNat (T).length) + (3:Int32)) : Int32) = (Int32.ofNat ((((T ++ [(117:Int32)]) ++ [(own_hx ((cc >>> ((12:Int32) &&& 31)) &&& (15:Int32)))]) ++ [(own_hx ((cc >>> ((8:Int32) &&& 31)) &&& (15:Int32)))])).length) from own_pk (by simp)]
  obtain ⟨cl10, Ar10, ck10, S10, M10, H10, G10⟩ := id V7
  have hin10 := own_in24 (n := ((((T ++ [(117:Int32)]) ++ [(own_hx ((cc >>> ((12:Int32) &&& 31)) &&& (15:Int32)))]) ++ [(own_hx ((cc >>> ((8:Int32) &&& 31)) &&& (15:Int32)))])).length) S10 (own_leI lb7 (by decide))
  obtain ⟨T10, h10, X10, e10, W10, st10⟩ := stB X9 hx hZ eh9 Ar10 (j := (Int32.ofNat ((((T ++ [(117:Int32)]) ++ [(own_hx ((cc >>> ((12:Int32) &&& 31)) &&& (15:Int32)))]) ++ [(own_hx ((cc >>> ((8:Int32) &&& 31)) &&& (15:Int32)))])).length)) hin10 (g := (mkF m 48 #[VR ea, VI (Int32.ofNat (T).length), VI cc] [(.int (own_hx ((cc >>> ((4:Int32) &&& 31)) &&& (15:Int32)))), (.int (Int32.ofNat ((((T ++ [(117:Int32)]) ++ [(own_hx ((cc >>> ((12:Int32) &&& 31)) &&& (15:Int32)))]) ++ [(own_hx ((cc >>> ((8:Int32) &&& 31)) &&& (15:Int32)))])).length)), (.ref ea)])) rfl rfl (hD d8_48)
  have V10 : Arv Z h10 ea ke .byte (24:Int32) ((((((T ++ [(117:Int32)]) ++ [(own_hx ((cc >>> ((12:Int32) &&& 31)) &&& (15:Int32)))]) ++ [(own_hx ((cc >>> ((8:Int32) &&& 31)) &&& (15:Int32)))]) ++ [(own_hx ((cc >>> ((4:Int32) &&& 31)) &&& (15:Int32)))])).map Value.int) (.int 0) := own_push V7 W10 (own_hxb (own_m15 _)) (own_leL lb7 (by decide))
  have lb10 : OwnLe ((((T ++ [(117:Int32)]) ++ [(own_hx ((cc >>> ((12:Int32) &&& 31)) &&& (15:Int32)))]) ++ [(own_hx ((cc >>> ((8:Int32) &&& 31)) &&& (15:Int32)))]) ++ [(own_hx ((cc >>> ((4:Int32) &&& 31)) &&& (15:Int32)))]) 23 := own_leS lb7
  have sz11 : h7.size ≤ h10.size := Nat.le_of_eq W10.size.symm
  have N10 := Fr.snoc X10 N9 (by omega : n0 ≤ ea)
  refine OwnFin.adv (B := T10.setTop (mkF m 57 #[VR ea, VI (Int32.ofNat (T).length), VI cc] [(.int (cc &&& (15:Int32))), (.int ((Int32.ofNat (T).length) + (4:Int32))), (.ref ea)])) (fun _ k => st10 _ (XS.aloadN X10.here hx rfl (hD d8_49) rfl rfl (XS.iloadN X10.here hx rfl (hD d8_50) rfl (XS.iconst X10.here hx rfl (hD d8_51) (XS.iadd X10.here hx rfl (hD d8_52) rfl (XS.iloadN X10.here hx rfl (hD d8_53) rfl (XS.bipush X10.here hx rfl (hD d8_54) (XS.iand X10.here hx rfl (hD d8_56) rfl k)))))))) ?_
  rw [show ((cc &&& (15:Int32)) : Int32) = ((cc >>> ((0:Int32) &&& 31)) &&& (15:Int32)) from by rw [own_s0]]
  obtain ⟨_, _, ⟨T12, L12, k12, n12⟩, -, X12, ⟨Lc12, hQ12, l12, y12, z12⟩, st12⟩ := Jvm.LawKit.callS X10 hx (y := own_M9) hown (mvT hZ (own_w hw 38 rfl)) (mvT hZ (own_w hw 39 rfl)) (mvT hZ (own_w hw 33 rfl)) (mvT hZ (own_w hw 40 rfl)) (by decide) (backOf (W := 2) (own_hex l Z a0 hw [] ((cc >>> ((0:Int32) &&& 31)) &&& (15:Int32)) h10 n0 (by omega) (own_m15 _)) hZ (own_w hw 40 rfl) (own_w hw 33 rfl) (by decide) (by decide)) (g := (mkF m 57 #[VR ea, VI (Int32.ofNat (T).length), VI cc] [(.int ((cc >>> ((0:Int32) &&& 31)) &&& (15:Int32))), (.int ((Int32.ofNat (T).length) + (4:Int32))), (.ref ea)])) rfl (by rw [hml]; rfl) (argsL := [(.int ((cc >>> ((0:Int32) &&& 31)) &&& (15:Int32)))]) (rest := [(.int ((Int32.ofNat (T).length) + (4:Int32))), (.ref ea)]) (lenOf own_pd20 rfl) rfl (by show 2 * 0 + _ ≤ _; exact Nat.le_of_eq rfl) (hD d8_57) (fun _ _ => ⟨rfl, e10, (by decide : 0 + 0 ≤ _), (by decide : 0 + 0 ≤ _)⟩)
  dsimp only [Pt.U, Pt.locs, Pt.cells, Pt.slots] at X12 l12 y12 z12 st12 hQ12
  subst l12 y12 z12
  obtain ⟨rfl, N12q, eh12⟩ := hQ12
  have N12 := Fr.app N10 N12q
  refine OwnFin.adv (B := T12.setTop (mkF m 60 #[VR ea, VI (Int32.ofNat (T).length), VI cc] [(.int (own_hx ((cc >>> ((0:Int32) &&& 31)) &&& (15:Int32)))), (.int ((Int32.ofNat (T).length) + (4:Int32))), (.ref ea)])) (fun _ k => st12 _ k) ?_
  rw [show (((Int32.ofNat (T).length) + (4:Int32)) : Int32) = (Int32.ofNat (((((T ++ [(117:Int32)]) ++ [(own_hx ((cc >>> ((12:Int32) &&& 31)) &&& (15:Int32)))]) ++ [(own_hx ((cc >>> ((8:Int32) &&& 31)) &&& (15:Int32)))]) ++ [(own_hx ((cc >>> ((4:Int32) &&& 31)) &&& (15:Int32)))])).length) from own_pk (by simp)]
  obtain ⟨cl13, Ar13, ck13, S13, M13, H13, G13⟩ := id V10
  have hin13 := own_in24 (n := (((((T ++ [(117:Int32)]) ++ [(own_hx ((cc >>> ((12:Int32) &&& 31)) &&& (15:Int32)))]) ++ [(own_hx ((cc >>> ((8:Int32) &&& 31)) &&& (15:Int32)))]) ++ [(own_hx ((cc >>> ((4:Int32) &&& 31)) &&& (15:Int32)))])).length) S13 (own_leI lb10 (by decide))
  obtain ⟨T13, h13, X13, e13, W13, st13⟩ := stB X12 hx hZ eh12 Ar13 (j := (Int32.ofNat (((((T ++ [(117:Int32)]) ++ [(own_hx ((cc >>> ((12:Int32) &&& 31)) &&& (15:Int32)))]) ++ [(own_hx ((cc >>> ((8:Int32) &&& 31)) &&& (15:Int32)))]) ++ [(own_hx ((cc >>> ((4:Int32) &&& 31)) &&& (15:Int32)))])).length)) hin13 (g := (mkF m 60 #[VR ea, VI (Int32.ofNat (T).length), VI cc] [(.int (own_hx ((cc >>> ((0:Int32) &&& 31)) &&& (15:Int32)))), (.int (Int32.ofNat (((((T ++ [(117:Int32)]) ++ [(own_hx ((cc >>> ((12:Int32) &&& 31)) &&& (15:Int32)))]) ++ [(own_hx ((cc >>> ((8:Int32) &&& 31)) &&& (15:Int32)))]) ++ [(own_hx ((cc >>> ((4:Int32) &&& 31)) &&& (15:Int32)))])).length)), (.ref ea)])) rfl rfl (hD d8_60)
  have V13 : Arv Z h13 ea ke .byte (24:Int32) (((((((T ++ [(117:Int32)]) ++ [(own_hx ((cc >>> ((12:Int32) &&& 31)) &&& (15:Int32)))]) ++ [(own_hx ((cc >>> ((8:Int32) &&& 31)) &&& (15:Int32)))]) ++ [(own_hx ((cc >>> ((4:Int32) &&& 31)) &&& (15:Int32)))]) ++ [(own_hx ((cc >>> ((0:Int32) &&& 31)) &&& (15:Int32)))])).map Value.int) (.int 0) := own_push V10 W13 (own_hxb (own_m15 _)) (own_leL lb10 (by decide))
  have lb13 : OwnLe (((((T ++ [(117:Int32)]) ++ [(own_hx ((cc >>> ((12:Int32) &&& 31)) &&& (15:Int32)))]) ++ [(own_hx ((cc >>> ((8:Int32) &&& 31)) &&& (15:Int32)))]) ++ [(own_hx ((cc >>> ((4:Int32) &&& 31)) &&& (15:Int32)))]) ++ [(own_hx ((cc >>> ((0:Int32) &&& 31)) &&& (15:Int32)))]) 24 := own_leS lb10
  have sz14 : h10.size ≤ h13.size := Nat.le_of_eq W13.size.symm
  have N13 := Fr.snoc X13 N12 (by omega : n0 ≤ ea)
  obtain ⟨fs, hr, hrun, hended, hW, hsame⟩ := X13.leave (v := some (.int ((Int32.ofNat (T).length) + (5:Int32)))) (fun h => by rw [Bd.returns] at h; cases h)
  refine OwnFin.adv (B := T13.setTop (mkF m 64 #[VR ea, VI (Int32.ofNat (T).length), VI cc] [(.int ((Int32.ofNat (T).length) + (5:Int32)))])) (fun _ k => st13 _ (XS.iloadN X13.here hx rfl (hD d8_61) rfl (XS.iconst X13.here hx rfl (hD d8_62) (XS.iadd X13.here hx rfl (hD d8_63) rfl k)))) ?_
  refine OwnFin.leaf hP' ⟨_, _, own_retI X13 hx Bd.returns (hD d8_64) hr, hrun, hended, _, _, rfl, ?_, ⟨_, rfl⟩, hW, hsame.mono (by decide) (by decide)⟩
  have hTT : (((((T ++ [(117:Int32)]) ++ [(own_hx ((cc >>> ((12:Int32) &&& 31)) &&& (15:Int32)))]) ++ [(own_hx ((cc >>> ((8:Int32) &&& 31)) &&& (15:Int32)))]) ++ [(own_hx ((cc >>> ((4:Int32) &&& 31)) &&& (15:Int32)))]) ++ [(own_hx ((cc >>> ((0:Int32) &&& 31)) &&& (15:Int32)))]) = T ++ own_hexs cc := by simp [own_hexs]
  rw [show (T13.setFrames fs).heap = h13 from e13]
  exact ⟨by rw [← hTT]; exact congrArg (fun z => some (Value.int z)) (own_pk (by simp)), N13, ((((((Keep.refl h0 [ea]).wr W1 (Or.inl (List.mem_of_getElem? (i := 0) rfl))).wr W4 (Or.inl (List.mem_of_getElem? (i := 0) rfl))).wr W7 (Or.inl (List.mem_of_getElem? (i := 0) rfl))).wr W10 (Or.inl (List.mem_of_getElem? (i := 0) rfl))).wr W13 (Or.inl (List.mem_of_getElem? (i := 0) rfl))), by rw [← hTT]; exact V13⟩
theorem d7_0 : decode B7 0 = .ok (.iload_n 2, 1) := by decide +kernel
theorem d7_1 : decode B7 1 = .ok (.sipush 128, 3) := by decide +kernel
theorem d7_4 : decode B7 4 = .ok (.if_icmp .ge 151, 3) := by decide +kernel
theorem d7_34 : decode B7 34 = .ok (.aload_n 0, 1) := by decide +kernel
theorem d7_35 : decode B7 35 = .ok (.iload_n 1, 1) := by decide +kernel
theorem d7_36 : decode B7 36 = .ok (.bipush 92, 2) := by decide +kernel
theorem d7_38 : decode B7 38 = .ok (.bastore, 1) := by decide +kernel
theorem d7_39 : decode B7 39 = .ok (.iload_n 1, 1) := by decide +kernel
theorem d7_40 : decode B7 40 = .ok (.iconst 1, 1) := by decide +kernel
theorem d7_41 : decode B7 41 = .ok (.iadd, 1) := by decide +kernel
theorem d7_42 : decode B7 42 = .ok (.istore_n 1, 1) := by decide +kernel
theorem d7_43 : decode B7 43 = .ok (.iload_n 2, 1) := by decide +kernel
theorem d7_44 : decode B7 44 = .ok (.bipush 34, 2) := by decide +kernel
theorem d7_46 : decode B7 46 = .ok (.if_icmp .ne 12, 3) := by decide +kernel
theorem d7_49 : decode B7 49 = .ok (.aload_n 0, 1) := by decide +kernel
theorem d7_50 : decode B7 50 = .ok (.iload_n 1, 1) := by decide +kernel
theorem d7_51 : decode B7 51 = .ok (.bipush 34, 2) := by decide +kernel
theorem d7_53 : decode B7 53 = .ok (.bastore, 1) := by decide +kernel
theorem d7_54 : decode B7 54 = .ok (.iload_n 1, 1) := by decide +kernel
theorem d7_55 : decode B7 55 = .ok (.iconst 1, 1) := by decide +kernel
theorem d7_56 : decode B7 56 = .ok (.iadd, 1) := by decide +kernel
theorem d7_57 : decode B7 57 = .ok (.ireturn, 1) := by decide +kernel
theorem d7_58 : decode B7 58 = .ok (.iload_n 2, 1) := by decide +kernel
theorem d7_59 : decode B7 59 = .ok (.bipush 92, 2) := by decide +kernel
theorem d7_61 : decode B7 61 = .ok (.if_icmp .ne 12, 3) := by decide +kernel
theorem d7_64 : decode B7 64 = .ok (.aload_n 0, 1) := by decide +kernel
theorem d7_65 : decode B7 65 = .ok (.iload_n 1, 1) := by decide +kernel
theorem d7_66 : decode B7 66 = .ok (.bipush 92, 2) := by decide +kernel
theorem d7_68 : decode B7 68 = .ok (.bastore, 1) := by decide +kernel
theorem d7_69 : decode B7 69 = .ok (.iload_n 1, 1) := by decide +kernel
theorem d7_70 : decode B7 70 = .ok (.iconst 1, 1) := by decide +kernel
theorem d7_71 : decode B7 71 = .ok (.iadd, 1) := by decide +kernel
theorem d7_72 : decode B7 72 = .ok (.ireturn, 1) := by decide +kernel
theorem d7_73 : decode B7 73 = .ok (.iload_n 2, 1) := by decide +kernel
theorem d7_74 : decode B7 74 = .ok (.bipush 8, 2) := by decide +kernel
theorem d7_76 : decode B7 76 = .ok (.if_icmp .ne 12, 3) := by decide +kernel
theorem d7_79 : decode B7 79 = .ok (.aload_n 0, 1) := by decide +kernel
theorem d7_80 : decode B7 80 = .ok (.iload_n 1, 1) := by decide +kernel
theorem d7_81 : decode B7 81 = .ok (.bipush 98, 2) := by decide +kernel
theorem d7_83 : decode B7 83 = .ok (.bastore, 1) := by decide +kernel
theorem d7_84 : decode B7 84 = .ok (.iload_n 1, 1) := by decide +kernel
theorem d7_85 : decode B7 85 = .ok (.iconst 1, 1) := by decide +kernel
theorem d7_86 : decode B7 86 = .ok (.iadd, 1) := by decide +kernel
theorem d7_87 : decode B7 87 = .ok (.ireturn, 1) := by decide +kernel
theorem d7_88 : decode B7 88 = .ok (.iload_n 2, 1) := by decide +kernel
theorem d7_89 : decode B7 89 = .ok (.bipush 9, 2) := by decide +kernel
theorem d7_91 : decode B7 91 = .ok (.if_icmp .ne 12, 3) := by decide +kernel
theorem d7_94 : decode B7 94 = .ok (.aload_n 0, 1) := by decide +kernel
theorem d7_95 : decode B7 95 = .ok (.iload_n 1, 1) := by decide +kernel
theorem d7_96 : decode B7 96 = .ok (.bipush 116, 2) := by decide +kernel
theorem d7_98 : decode B7 98 = .ok (.bastore, 1) := by decide +kernel
theorem d7_99 : decode B7 99 = .ok (.iload_n 1, 1) := by decide +kernel
theorem d7_100 : decode B7 100 = .ok (.iconst 1, 1) := by decide +kernel
theorem d7_101 : decode B7 101 = .ok (.iadd, 1) := by decide +kernel
theorem d7_102 : decode B7 102 = .ok (.ireturn, 1) := by decide +kernel
theorem d7_103 : decode B7 103 = .ok (.iload_n 2, 1) := by decide +kernel
theorem d7_104 : decode B7 104 = .ok (.bipush 10, 2) := by decide +kernel
theorem d7_106 : decode B7 106 = .ok (.if_icmp .ne 12, 3) := by decide +kernel
theorem d7_109 : decode B7 109 = .ok (.aload_n 0, 1) := by decide +kernel
theorem d7_110 : decode B7 110 = .ok (.iload_n 1, 1) := by decide +kernel
theorem d7_111 : decode B7 111 = .ok (.bipush 110, 2) := by decide +kernel
theorem d7_113 : decode B7 113 = .ok (.bastore, 1) := by decide +kernel
theorem d7_114 : decode B7 114 = .ok (.iload_n 1, 1) := by decide +kernel
theorem d7_115 : decode B7 115 = .ok (.iconst 1, 1) := by decide +kernel
theorem d7_116 : decode B7 116 = .ok (.iadd, 1) := by decide +kernel
theorem d7_117 : decode B7 117 = .ok (.ireturn, 1) := by decide +kernel
theorem d7_118 : decode B7 118 = .ok (.iload_n 2, 1) := by decide +kernel
theorem d7_119 : decode B7 119 = .ok (.bipush 12, 2) := by decide +kernel
theorem d7_121 : decode B7 121 = .ok (.if_icmp .ne 12, 3) := by decide +kernel
theorem d7_124 : decode B7 124 = .ok (.aload_n 0, 1) := by decide +kernel
theorem d7_125 : decode B7 125 = .ok (.iload_n 1, 1) := by decide +kernel
theorem d7_126 : decode B7 126 = .ok (.bipush 102, 2) := by decide +kernel
theorem d7_128 : decode B7 128 = .ok (.bastore, 1) := by decide +kernel
theorem d7_129 : decode B7 129 = .ok (.iload_n 1, 1) := by decide +kernel
theorem d7_130 : decode B7 130 = .ok (.iconst 1, 1) := by decide +kernel
theorem d7_131 : decode B7 131 = .ok (.iadd, 1) := by decide +kernel
theorem d7_132 : decode B7 132 = .ok (.ireturn, 1) := by decide +kernel
theorem d7_133 : decode B7 133 = .ok (.iload_n 2, 1) := by decide +kernel
theorem d7_134 : decode B7 134 = .ok (.bipush 13, 2) := by decide +kernel
theorem d7_136 : decode B7 136 = .ok (.if_icmp .ne 12, 3) := by decide +kernel
theorem d7_139 : decode B7 139 = .ok (.aload_n 0, 1) := by decide +kernel
theorem d7_140 : decode B7 140 = .ok (.iload_n 1, 1) := by decide +kernel
theorem d7_141 : decode B7 141 = .ok (.bipush 114, 2) := by decide +kernel
theorem d7_143 : decode B7 143 = .ok (.bastore, 1) := by decide +kernel
theorem d7_144 : decode B7 144 = .ok (.iload_n 1, 1) := by decide +kernel
theorem d7_145 : decode B7 145 = .ok (.iconst 1, 1) := by decide +kernel
theorem d7_146 : decode B7 146 = .ok (.iadd, 1) := by decide +kernel
theorem d7_147 : decode B7 147 = .ok (.ireturn, 1) := by decide +kernel
theorem d7_148 : decode B7 148 = .ok (.aload_n 0, 1) := by decide +kernel
theorem d7_149 : decode B7 149 = .ok (.iload_n 1, 1) := by decide +kernel
theorem d7_150 : decode B7 150 = .ok (.iload_n 2, 1) := by decide +kernel
theorem own_pd21 : parseMethodDescriptor "([BIC)I" = some ⟨[(.array .byte), .int, .char], some .int⟩ := by decide +kernel
theorem d7_151 : decode B7 151 = .ok (.invokestatic 13, 3) := by decide +kernel
theorem d7_154 : decode B7 154 = .ok (.ireturn, 1) := by decide +kernel
theorem d7_7 : decode B7 7 = .ok (.iload_n 2, 1) := by decide +kernel
theorem d7_8 : decode B7 8 = .ok (.bipush 32, 2) := by decide +kernel
theorem d7_10 : decode B7 10 = .ok (.if_icmp .lt 24, 3) := by decide +kernel
theorem d7_13 : decode B7 13 = .ok (.iload_n 2, 1) := by decide +kernel
theorem d7_14 : decode B7 14 = .ok (.bipush 34, 2) := by decide +kernel
theorem d7_16 : decode B7 16 = .ok (.if_icmp .eq 18, 3) := by decide +kernel
theorem d7_19 : decode B7 19 = .ok (.iload_n 2, 1) := by decide +kernel
theorem d7_20 : decode B7 20 = .ok (.bipush 92, 2) := by decide +kernel
theorem d7_22 : decode B7 22 = .ok (.if_icmp .eq 12, 3) := by decide +kernel
theorem d7_25 : decode B7 25 = .ok (.aload_n 0, 1) := by decide +kernel
theorem d7_26 : decode B7 26 = .ok (.iload_n 1, 1) := by decide +kernel
theorem d7_27 : decode B7 27 = .ok (.iload_n 2, 1) := by decide +kernel
theorem d7_28 : decode B7 28 = .ok (.i2b, 1) := by decide +kernel
theorem d7_29 : decode B7 29 = .ok (.bastore, 1) := by decide +kernel
theorem d7_30 : decode B7 30 = .ok (.iload_n 1, 1) := by decide +kernel
theorem d7_31 : decode B7 31 = .ok (.iconst 1, 1) := by decide +kernel
theorem d7_32 : decode B7 32 = .ok (.iadd, 1) := by decide +kernel
theorem d7_33 : decode B7 33 = .ok (.ireturn, 1) := by decide +kernel
theorem d7_155 : decode B7 155 = .ok (.iload_n 2, 1) := by decide +kernel
theorem d7_156 : decode B7 156 = .ok (.sipush 2048, 3) := by decide +kernel
theorem d7_159 : decode B7 159 = .ok (.if_icmp .ge 33, 3) := by decide +kernel
theorem d7_162 : decode B7 162 = .ok (.aload_n 0, 1) := by decide +kernel
theorem d7_163 : decode B7 163 = .ok (.iload_n 1, 1) := by decide +kernel
theorem d7_164 : decode B7 164 = .ok (.sipush 192, 3) := by decide +kernel
theorem d7_167 : decode B7 167 = .ok (.iload_n 2, 1) := by decide +kernel
theorem d7_168 : decode B7 168 = .ok (.bipush 6, 2) := by decide +kernel
theorem d7_170 : decode B7 170 = .ok (.ishr, 1) := by decide +kernel
theorem d7_171 : decode B7 171 = .ok (.ior, 1) := by decide +kernel
theorem d7_172 : decode B7 172 = .ok (.i2b, 1) := by decide +kernel
theorem d7_173 : decode B7 173 = .ok (.bastore, 1) := by decide +kernel
theorem d7_174 : decode B7 174 = .ok (.aload_n 0, 1) := by decide +kernel
theorem d7_175 : decode B7 175 = .ok (.iload_n 1, 1) := by decide +kernel
theorem d7_176 : decode B7 176 = .ok (.iconst 1, 1) := by decide +kernel
theorem d7_177 : decode B7 177 = .ok (.iadd, 1) := by decide +kernel
theorem d7_178 : decode B7 178 = .ok (.sipush 128, 3) := by decide +kernel
theorem d7_181 : decode B7 181 = .ok (.iload_n 2, 1) := by decide +kernel
theorem d7_182 : decode B7 182 = .ok (.bipush 63, 2) := by decide +kernel
theorem d7_184 : decode B7 184 = .ok (.iand, 1) := by decide +kernel
theorem d7_185 : decode B7 185 = .ok (.ior, 1) := by decide +kernel
theorem d7_186 : decode B7 186 = .ok (.i2b, 1) := by decide +kernel
theorem d7_187 : decode B7 187 = .ok (.bastore, 1) := by decide +kernel
theorem d7_188 : decode B7 188 = .ok (.iload_n 1, 1) := by decide +kernel
theorem d7_189 : decode B7 189 = .ok (.iconst 2, 1) := by decide +kernel
theorem d7_190 : decode B7 190 = .ok (.iadd, 1) := by decide +kernel
theorem d7_191 : decode B7 191 = .ok (.ireturn, 1) := by decide +kernel
theorem d7_218 : decode B7 218 = .ok (.aload_n 0, 1) := by decide +kernel
theorem d7_219 : decode B7 219 = .ok (.iload_n 1, 1) := by decide +kernel
theorem d7_220 : decode B7 220 = .ok (.sipush 224, 3) := by decide +kernel
theorem d7_223 : decode B7 223 = .ok (.iload_n 2, 1) := by decide +kernel
theorem d7_224 : decode B7 224 = .ok (.bipush 12, 2) := by decide +kernel
theorem d7_226 : decode B7 226 = .ok (.ishr, 1) := by decide +kernel
theorem d7_227 : decode B7 227 = .ok (.ior, 1) := by decide +kernel
theorem d7_228 : decode B7 228 = .ok (.i2b, 1) := by decide +kernel
theorem d7_229 : decode B7 229 = .ok (.bastore, 1) := by decide +kernel
theorem d7_230 : decode B7 230 = .ok (.aload_n 0, 1) := by decide +kernel
theorem d7_231 : decode B7 231 = .ok (.iload_n 1, 1) := by decide +kernel
theorem d7_232 : decode B7 232 = .ok (.iconst 1, 1) := by decide +kernel
theorem d7_233 : decode B7 233 = .ok (.iadd, 1) := by decide +kernel
theorem d7_234 : decode B7 234 = .ok (.sipush 128, 3) := by decide +kernel
theorem d7_237 : decode B7 237 = .ok (.iload_n 2, 1) := by decide +kernel
theorem d7_238 : decode B7 238 = .ok (.bipush 6, 2) := by decide +kernel
theorem d7_240 : decode B7 240 = .ok (.ishr, 1) := by decide +kernel
theorem d7_241 : decode B7 241 = .ok (.bipush 63, 2) := by decide +kernel
theorem d7_243 : decode B7 243 = .ok (.iand, 1) := by decide +kernel
theorem d7_244 : decode B7 244 = .ok (.ior, 1) := by decide +kernel
theorem d7_245 : decode B7 245 = .ok (.i2b, 1) := by decide +kernel
theorem d7_246 : decode B7 246 = .ok (.bastore, 1) := by decide +kernel
theorem d7_247 : decode B7 247 = .ok (.aload_n 0, 1) := by decide +kernel
theorem d7_248 : decode B7 248 = .ok (.iload_n 1, 1) := by decide +kernel
theorem d7_249 : decode B7 249 = .ok (.iconst 2, 1) := by decide +kernel
theorem d7_250 : decode B7 250 = .ok (.iadd, 1) := by decide +kernel
theorem d7_251 : decode B7 251 = .ok (.sipush 128, 3) := by decide +kernel
theorem d7_254 : decode B7 254 = .ok (.iload_n 2, 1) := by decide +kernel
theorem d7_255 : decode B7 255 = .ok (.bipush 63, 2) := by decide +kernel
theorem d7_257 : decode B7 257 = .ok (.iand, 1) := by decide +kernel
theorem d7_258 : decode B7 258 = .ok (.ior, 1) := by decide +kernel
theorem d7_259 : decode B7 259 = .ok (.i2b, 1) := by decide +kernel
theorem d7_260 : decode B7 260 = .ok (.bastore, 1) := by decide +kernel
theorem d7_261 : decode B7 261 = .ok (.iload_n 1, 1) := by decide +kernel
theorem d7_262 : decode B7 262 = .ok (.iconst 3, 1) := by decide +kernel
theorem d7_263 : decode B7 263 = .ok (.iadd, 1) := by decide +kernel
theorem d7_264 : decode B7 264 = .ok (.ireturn, 1) := by decide +kernel
theorem d7_192 : decode B7 192 = .ok (.iload_n 2, 1) := by decide +kernel
theorem d7_193 : decode B7 193 = .ok (.ldc 17, 2) := by decide +kernel
theorem d7_195 : decode B7 195 = .ok (.if_icmp .lt 23, 3) := by decide +kernel
theorem d7_198 : decode B7 198 = .ok (.iload_n 2, 1) := by decide +kernel
theorem d7_199 : decode B7 199 = .ok (.ldc 18, 2) := by decide +kernel
theorem d7_201 : decode B7 201 = .ok (.if_icmp .gt 17, 3) := by decide +kernel
theorem d7_204 : decode B7 204 = .ok (.aload_n 0, 1) := by decide +kernel
theorem d7_205 : decode B7 205 = .ok (.iload_n 1, 1) := by decide +kernel
theorem d7_206 : decode B7 206 = .ok (.bipush 92, 2) := by decide +kernel
theorem d7_208 : decode B7 208 = .ok (.bastore, 1) := by decide +kernel
theorem d7_209 : decode B7 209 = .ok (.aload_n 0, 1) := by decide +kernel
theorem d7_210 : decode B7 210 = .ok (.iload_n 1, 1) := by decide +kernel
theorem d7_211 : decode B7 211 = .ok (.iconst 1, 1) := by decide +kernel
theorem d7_212 : decode B7 212 = .ok (.iadd, 1) := by decide +kernel
theorem d7_213 : decode B7 213 = .ok (.iload_n 2, 1) := by decide +kernel
theorem d7_214 : decode B7 214 = .ok (.invokestatic 13, 3) := by decide +kernel
theorem d7_217 : decode B7 217 = .ok (.ireturn, 1) := by decide +kernel
theorem own_ef_enc0 (m : MethodId) (x0 : Addr) (x1 : Int32) (x2 : Int32) : entryFrame m #[(.ref x0), (.int x1), (.int x2)] 3 = mkF m 0 #[.val (.ref x0), .val (.int x1), .val (.int x2)] [] := by first | (simp [entryFrame, mkF, argsToLocals, Value.category]; done) | rfl
def own_Q_enc0 (Z : State) (ea : Addr) (ke : ClassId) (T : List Int32) (cc : Int32) (h0 : Heap) (n0 : Nat) (v : Option Value) (h : Heap) (L : List Loc) : Prop := v = some (.int (Int32.ofNat (T ++ own_enc cc).length)) ∧ Fr n0 L ∧ Keep h0 h [ea] ∧ Arv Z h ea ke .byte (24 : Int32) ((T ++ own_enc cc).map Value.int) (.int (0 : Int32))
set_option maxRecDepth 65536 in
set_option maxHeartbeats 40000000 in
theorem own_enc0 (l : Launch) (Z : State) (a0 : Array Value) (hw : ∀ d ∈ tables_1, d.before a0 Z = true) (ws : List Jvm.Cond) (ea : Addr) (ke : ClassId) (T : List Int32) (cc : Int32) (h0 : Heap) (n0 : Nat) (Z0 : n0 ≤ h0.size) (Ve : Arv Z h0 ea ke .byte (24 : Int32) (T.map Value.int) (.int (0 : Int32))) (g_ea : n0 ≤ ea) (hT : OwnLe T 18) :
    MetFree l own_M7 (head1 (Jvm.Cond.code own_M7 method_4_code 3 (some .int) :: ws) ({ frames := 2, cells := 0, slots := 0, locals := 28 } : Room)) (fun A0 U0 => A0 = #[(.ref ea), (.int (Int32.ofNat (T).length)), (.int cc)] ∧ Z.Warmed39 U0.vm ∧ U0.heap = h0) (fun _ _ _ _ _ => True) (fun _ U0 o0 U1 => ∃ v0 L0, o0 = .returned v0 ∧ own_Q_enc0 Z ea ke T cc h0 n0 v0 U1.heap L0 ∧ FrameEnd U0 o0 U1 L0 0 0) := by
  refine MetFree.of_bodySF (plainFor_of_name own_pn_tramline_routes_JsonWriterToByteArrayPinLaw) hisR ?_
  intro p e s m args below meth c s₁ Bd hml0 hP hK
  obtain ⟨rfl, hZ, hh⟩ := hP
  have hZs0 := hZ
  have hZs := hZ
  have hx := Bd.exec
  have hby := Bd.bytes
  have hD : ∀ {pc : Nat} {r : Except DecodeError (Instr × Nat)}, decode method_4_code pc = r → decode c.code pc = r := fun q => hb hby q
  have hml : c.maxLocals = 3 := hml0
  have hown : s.vm.findClass "tramline/routes/JsonWriterToByteArrayPinLaw" = some m.cls := findClass_of_methodNamed Bd.named
  have hnm := (name_of_methodNamed Bd.named Bd.method).1
  have X0 : Stand p l e ({ frames := 2, cells := 0, slots := 0, locals := 28 } : Room) s m #[(.ref ea), (.int (Int32.ofNat (T).length)), (.int cc)] below meth c s₁ [] 0 0 := Stand.of_body Bd
  have e0 : s₁.heap = h0 := by rw [← hh, Bd.state]; rfl
  have N0 := Fr.nil n0
  refine OwnFin.entry (own_ef_enc0 m ea (Int32.ofNat (T).length) cc) (fun P' hP' => ?_)
  have lt_ea := own_lt Ve.lt
  refine OwnFin.adv (B := s₁.setTop (mkF m 4 #[VR ea, VI (Int32.ofNat (T).length), VI cc] [(.int 128), (.int cc)])) (fun _ k => XS.iloadN X0.here hx rfl (hD d7_0) rfl (XS.sipush X0.here hx rfl (hD d7_1) k)) ?_
  by_cases hc4 : cc < (128:Int32)
  ·
   refine OwnFin.adv (B := s₁.setTop (mkF m 7 #[VR ea, VI (Int32.ofNat (T).length), VI cc] [])) (fun _ k => XS.icmpNo X0.here hx rfl (hD d7_4) rfl (tlt hc4).2.1 k) ?_
   have J34 : ∀  (TJ : State) (LJ : List Loc) (XJ : Stand p l e ({ frames := 2, cells := 0, slots := 0, locals := 28 } : Room) s m #[(.ref ea), (.int (Int32.ofNat (T).length)), (.int cc)] below meth c TJ LJ 0 0) (eJ : TJ.heap = h0) (NJ : Fr n0 LJ) (hbq : cc < 32 ∨ cc = 34 ∨ cc = 92), OwnFin p.tables e below P' (TJ.setTop (mkF m 34 #[VR ea, VI (Int32.ofNat (T).length), VI cc] [])) := by
    intro  TJ LJ XJ eJ NJ hbq
    obtain ⟨cl2, Ar2, ck2, S2, M2, H2, G2⟩ := id Ve
    have hin2 := own_in24 (n := (T).length) S2 (own_leI hT (by decide))
    obtain ⟨T2, h2, X2, e2, W2, st2⟩ := stB XJ hx hZ eJ Ar2 (j := (Int32.ofNat (T).length)) hin2 (g := (mkF m 38 #[VR ea, VI (Int32.ofNat (T).length), VI cc] [(.int 92), (.int (Int32.ofNat (T).length)), (.ref ea)])) rfl rfl (hD d7_38)
    have V2 : Arv Z h2 ea ke .byte (24:Int32) (((T ++ [(92:Int32)])).map Value.int) (.int 0) := own_push Ve W2 (by decide) (own_leL hT (by decide))
    have lb2 : OwnLe (T ++ [(92:Int32)]) 19 := own_leS hT
    have sz3 : h0.size ≤ h2.size := Nat.le_of_eq W2.size.symm
    have N2 := Fr.snoc X2 NJ (by omega : n0 ≤ ea)
    refine OwnFin.adv (B := T2.setTop (mkF m 43 #[VR ea, VI ((Int32.ofNat (T).length) + (1:Int32)), VI cc] [])) (fun _ k => XS.aloadN XJ.here hx rfl (hD d7_34) rfl rfl (XS.iloadN XJ.here hx rfl (hD d7_35) rfl (XS.bipush XJ.here hx rfl (hD d7_36) (st2 _ (XS.iloadN X2.here hx rfl (hD d7_39) rfl (XS.iconst X2.here hx rfl (hD d7_40) (XS.iadd X2.here hx rfl (hD d7_41) rfl (XS.istoreN X2.here hx rfl (hD d7_42) rfl (l' := #[VR ea, VI ((Int32.ofNat (T).length) + (1:Int32)), VI cc]) rfl k)))))))) ?_
    rw [show (((Int32.ofNat (T).length) + (1:Int32)) : Int32) = (Int32.ofNat ((T ++ [(92:Int32)])).length) from own_pk (by simp)]
    refine OwnFin.adv (B := T2.setTop (mkF m 46 #[VR ea, VI (Int32.ofNat ((T ++ [(92:Int32)])).length), VI cc] [(.int 34), (.int cc)])) (fun _ k => XS.iloadN X2.here hx rfl (hD d7_43) rfl (XS.bipush X2.here hx rfl (hD d7_44) k)) ?_
    by_cases hc46 : cc = (34:Int32)
    ·
     obtain ⟨cl4, Ar4, ck4, S4, M4, H4, G4⟩ := id V2
     have hin4 := own_in24 (n := ((T ++ [(92:Int32)])).length) S4 (own_leI lb2 (by decide))
     obtain ⟨T4, h4, X4, e4, W4, st4⟩ := stB X2 hx hZ e2 Ar4 (j := (Int32.ofNat ((T ++ [(92:Int32)])).length)) hin4 (g := (mkF m 53 #[VR ea, VI (Int32.ofNat ((T ++ [(92:Int32)])).length), VI cc] [(.int 34), (.int (Int32.ofNat ((T ++ [(92:Int32)])).length)), (.ref ea)])) rfl rfl (hD d7_53)
     have V4 : Arv Z h4 ea ke .byte (24:Int32) ((((T ++ [(92:Int32)]) ++ [(34:Int32)])).map Value.int) (.int 0) := own_push V2 W4 (by decide) (own_leL lb2 (by decide))
     have lb4 : OwnLe ((T ++ [(92:Int32)]) ++ [(34:Int32)]) 20 := own_leS lb2
     have sz5 : h2.size ≤ h4.size := Nat.le_of_eq W4.size.symm
     have N4 := Fr.snoc X4 N2 (by omega : n0 ≤ ea)
     obtain ⟨fs, hr, hrun, hended, hW, hsame⟩ := X4.leave (v := some (.int ((Int32.ofNat ((T ++ [(92:Int32)])).length) + (1:Int32)))) (fun h => by rw [Bd.returns] at h; cases h)
     refine OwnFin.adv (B := T4.setTop (mkF m 57 #[VR ea, VI (Int32.ofNat ((T ++ [(92:Int32)])).length), VI cc] [(.int ((Int32.ofNat ((T ++ [(92:Int32)])).length) + (1:Int32)))])) (fun _ k => XS.icmpNo X2.here hx rfl (hD d7_46) rfl (teq hc46).2 (XS.aloadN X2.here hx rfl (hD d7_49) rfl rfl (XS.iloadN X2.here hx rfl (hD d7_50) rfl (XS.bipush X2.here hx rfl (hD d7_51) (st4 _ (XS.iloadN X4.here hx rfl (hD d7_54) rfl (XS.iconst X4.here hx rfl (hD d7_55) (XS.iadd X4.here hx rfl (hD d7_56) rfl k)))))))) ?_
     refine OwnFin.leaf hP' ⟨_, _, own_retI X4 hx Bd.returns (hD d7_57) hr, hrun, hended, _, _, rfl, ?_, ⟨_, rfl⟩, hW, hsame.mono (by decide) (by decide)⟩
     have hTT : ((T ++ [(92:Int32)]) ++ [(34:Int32)]) = T ++ own_enc cc := by rw [own_encB hc4 hbq, own_e34 hc46] <;> simp
     rw [show (T4.setFrames fs).heap = h4 from e4]
     exact ⟨by rw [← hTT]; exact congrArg (fun z => some (Value.int z)) (own_pk (by simp)), N4, (((Keep.refl h0 [ea]).wr W2 (Or.inl (List.mem_of_getElem? (i := 0) rfl))).wr W4 (Or.inl (List.mem_of_getElem? (i := 0) rfl))), by rw [← hTT]; exact V4⟩
    ·
     refine OwnFin.adv (B := T2.setTop (mkF m 61 #[VR ea, VI (Int32.ofNat ((T ++ [(92:Int32)])).length), VI cc] [(.int 92), (.int cc)])) (fun _ k => XS.icmpYes X2.here hx rfl (pc0 := 46) (pc' := 58) rfl (hD d7_46) rfl (feq hc46).2 (by decide) (by decide) (XS.iloadN X2.here hx rfl (hD d7_58) rfl (XS.bipush X2.here hx rfl (hD d7_59) k))) ?_
     by_cases hc61 : cc = (92:Int32)
     ·
      obtain ⟨cl6, Ar6, ck6, S6, M6, H6, G6⟩ := id V2
      have hin6 := own_in24 (n := ((T ++ [(92:Int32)])).length) S6 (own_leI lb2 (by decide))
      obtain ⟨T6, h6, X6, e6, W6, st6⟩ := stB X2 hx hZ e2 Ar6 (j := (Int32.ofNat ((T ++ [(92:Int32)])).length)) hin6 (g := (mkF m 68 #[VR ea, VI (Int32.ofNat ((T ++ [(92:Int32)])).length), VI cc] [(.int 92), (.int (Int32.ofNat ((T ++ [(92:Int32)])).length)), (.ref ea)])) rfl rfl (hD d7_68)
      have V6 : Arv Z h6 ea ke .byte (24:Int32) ((((T ++ [(92:Int32)]) ++ [(92:Int32)])).map Value.int) (.int 0) := own_push V2 W6 (by decide) (own_leL lb2 (by decide))
      have lb6 : OwnLe ((T ++ [(92:Int32)]) ++ [(92:Int32)]) 20 := own_leS lb2
      have sz7 : h2.size ≤ h6.size := Nat.le_of_eq W6.size.symm
      have N6 := Fr.snoc X6 N2 (by omega : n0 ≤ ea)
      obtain ⟨fs, hr, hrun, hended, hW, hsame⟩ := X6.leave (v := some (.int ((Int32.ofNat ((T ++ [(92:Int32)])).length) + (1:Int32)))) (fun h => by rw [Bd.returns] at h; cases h)
      refine OwnFin.adv (B := T6.setTop (mkF m 72 #[VR ea, VI (Int32.ofNat ((T ++ [(92:Int32)])).length), VI cc] [(.int ((Int32.ofNat ((T ++ [(92:Int32)])).length) + (1:Int32)))])) (fun _ k => XS.icmpNo X2.here hx rfl (hD d7_61) rfl (teq hc61).2 (XS.aloadN X2.here hx rfl (hD d7_64) rfl rfl (XS.iloadN X2.here hx rfl (hD d7_65) rfl (XS.bipush X2.here hx rfl (hD d7_66) (st6 _ (XS.iloadN X6.here hx rfl (hD d7_69) rfl (XS.iconst X6.here hx rfl (hD d7_70) (XS.iadd X6.here hx rfl (hD d7_71) rfl k)))))))) ?_
      refine OwnFin.leaf hP' ⟨_, _, own_retI X6 hx Bd.returns (hD d7_72) hr, hrun, hended, _, _, rfl, ?_, ⟨_, rfl⟩, hW, hsame.mono (by decide) (by decide)⟩
      have hTT : ((T ++ [(92:Int32)]) ++ [(92:Int32)]) = T ++ own_enc cc := by rw [own_encB hc4 hbq, own_e92 hc61] <;> simp
      rw [show (T6.setFrames fs).heap = h6 from e6]
      exact ⟨by rw [← hTT]; exact congrArg (fun z => some (Value.int z)) (own_pk (by simp)), N6, (((Keep.refl h0 [ea]).wr W2 (Or.inl (List.mem_of_getElem? (i := 0) rfl))).wr W6 (Or.inl (List.mem_of_getElem? (i := 0) rfl))), by rw [← hTT]; exact V6⟩
     ·
      refine OwnFin.adv (B := T2.setTop (mkF m 76 #[VR ea, VI (Int32.ofNat ((T ++ [(92:Int32)])).length), VI cc] [(.int 8), (.int cc)])) (fun _ k => XS.icmpYes X2.here hx rfl (pc0 := 61) (pc' := 73) rfl (hD d7_61) rfl (feq hc61).2 (by decide) (by decide) (XS.iloadN X2.here hx rfl (hD d7_73) rfl (XS.bipush X2.here hx rfl (hD d7_74) k))) ?_
      by_cases hc76 : cc = (8:Int32)
      ·
       obtain ⟨cl8, Ar8, ck8, S8, M8, H8, G8⟩ := id V2
       have hin8 := own_in24 (n := ((T ++ [(92:Int32)])).length) S8 (own_leI lb2 (by decide))
       obtain ⟨T8, h8, X8, e8, W8, st8⟩ := stB X2 hx hZ e2 Ar8 (j := (Int32.ofNat ((T ++ [(92:Int32)])).length)) hin8 (g := (mkF m 83 #[VR ea, VI (Int32.ofNat ((T ++ [(92:Int32)])).length), VI cc] [(.int 98), (.int (Int32.ofNat ((T ++ [(92:Int32)])).length)), (.ref ea)])) rfl rfl (hD d7_83)
       have V8 : Arv Z h8 ea ke .byte (24:Int32) ((((T ++ [(92:Int32)]) ++ [(98:Int32)])).map Value.int) (.int 0) := own_push V2 W8 (by decide) (own_leL lb2 (by decide))
       have lb8 : OwnLe ((T ++ [(92:Int32)]) ++ [(98:Int32)]) 20 := own_leS lb2
       have sz9 : h2.size ≤ h8.size := Nat.le_of_eq W8.size.symm
       have N8 := Fr.snoc X8 N2 (by omega : n0 ≤ ea)
       obtain ⟨fs, hr, hrun, hended, hW, hsame⟩ := X8.leave (v := some (.int ((Int32.ofNat ((T ++ [(92:Int32)])).length) + (1:Int32)))) (fun h => by rw [Bd.returns] at h; cases h)
       refine OwnFin.adv (B := T8.setTop (mkF m 87 #[VR ea, VI (Int32.ofNat ((T ++ [(92:Int32)])).length), VI cc] [(.int ((Int32.ofNat ((T ++ [(92:Int32)])).length) + (1:Int32)))])) (fun _ k => XS.icmpNo X2.here hx rfl (hD d7_76) rfl (teq hc76).2 (XS.aloadN X2.here hx rfl (hD d7_79) rfl rfl (XS.iloadN X2.here hx rfl (hD d7_80) rfl (XS.bipush X2.here hx rfl (hD d7_81) (st8 _ (XS.iloadN X8.here hx rfl (hD d7_84) rfl (XS.iconst X8.here hx rfl (hD d7_85) (XS.iadd X8.here hx rfl (hD d7_86) rfl k)))))))) ?_
       refine OwnFin.leaf hP' ⟨_, _, own_retI X8 hx Bd.returns (hD d7_87) hr, hrun, hended, _, _, rfl, ?_, ⟨_, rfl⟩, hW, hsame.mono (by decide) (by decide)⟩
       have hTT : ((T ++ [(92:Int32)]) ++ [(98:Int32)]) = T ++ own_enc cc := by rw [own_encB hc4 hbq, own_e8 hc76] <;> simp
       rw [show (T8.setFrames fs).heap = h8 from e8]
       exact ⟨by rw [← hTT]; exact congrArg (fun z => some (Value.int z)) (own_pk (by simp)), N8, (((Keep.refl h0 [ea]).wr W2 (Or.inl (List.mem_of_getElem? (i := 0) rfl))).wr W8 (Or.inl (List.mem_of_getElem? (i := 0) rfl))), by rw [← hTT]; exact V8⟩
      ·
       refine OwnFin.adv (B := T2.setTop (mkF m 91 #[VR ea, VI (Int32.ofNat ((T ++ [(92:Int32)])).length), VI cc] [(.int 9), (.int cc)])) (fun _ k => XS.icmpYes X2.here hx rfl (pc0 := 76) (pc' := 88) rfl (hD d7_76) rfl (feq hc76).2 (by decide) (by decide) (XS.iloadN X2.here hx rfl (hD d7_88) rfl (XS.bipush X2.here hx rfl (hD d7_89) k))) ?_
       by_cases hc91 : cc = (9:Int32)
       ·
        obtain ⟨cl10, Ar10, ck10, S10, M10, H10, G10⟩ := id V2
        have hin10 := own_in24 (n := ((T ++ [(92:Int32)])).length) S10 (own_leI lb2 (by decide))
        obtain ⟨T10, h10, X10, e10, W10, st10⟩ := stB X2 hx hZ e2 Ar10 (j := (Int32.ofNat ((T ++ [(92:Int32)])).length)) hin10 (g := (mkF m 98 #[VR ea, VI (Int32.ofNat ((T ++ [(92:Int32)])).length), VI cc] [(.int 116), (.int (Int32.ofNat ((T ++ [(92:Int32)])).length)), (.ref ea)])) rfl rfl (hD d7_98)
        have V10 : Arv Z h10 ea ke .byte (24:Int32) ((((T ++ [(92:Int32)]) ++ [(116:Int32)])).map Value.int) (.int 0) := own_push V2 W10 (by decide) (own_leL lb2 (by decide))
        have lb10 : OwnLe ((T ++ [(92:Int32)]) ++ [(116:Int32)]) 20 := own_leS lb2
        have sz11 : h2.size ≤ h10.size := Nat.le_of_eq W10.size.symm
        have N10 := Fr.snoc X10 N2 (by omega : n0 ≤ ea)
        obtain ⟨fs, hr, hrun, hended, hW, hsame⟩ := X10.leave (v := some (.int ((Int32.ofNat ((T ++ [(92:Int32)])).length) + (1:Int32)))) (fun h => by rw [Bd.returns] at h; cases h)
        refine OwnFin.adv (B := T10.setTop (mkF m 102 #[VR ea, VI (Int32.ofNat ((T ++ [(92:Int32)])).length), VI cc] [(.int ((Int32.ofNat ((T ++ [(92:Int32)])).length) + (1:Int32)))])) (fun _ k => XS.icmpNo X2.here hx rfl (hD d7_91) rfl (teq hc91).2 (XS.aloadN X2.here hx rfl (hD d7_94) rfl rfl (XS.iloadN X2.here hx rfl (hD d7_95) rfl (XS.bipush X2.here hx rfl (hD d7_96) (st10 _ (XS.iloadN X10.here hx rfl (hD d7_99) rfl (XS.iconst X10.here hx rfl (hD d7_100) (XS.iadd X10.here hx rfl (hD d7_101) rfl k)))))))) ?_
        refine OwnFin.leaf hP' ⟨_, _, own_retI X10 hx Bd.returns (hD d7_102) hr, hrun, hended, _, _, rfl, ?_, ⟨_, rfl⟩, hW, hsame.mono (by decide) (by decide)⟩
        have hTT : ((T ++ [(92:Int32)]) ++ [(116:Int32)]) = T ++ own_enc cc := by rw [own_encB hc4 hbq, own_e9 hc91] <;> simp
        rw [show (T10.setFrames fs).heap = h10 from e10]
        exact ⟨by rw [← hTT]; exact congrArg (fun z => some (Value.int z)) (own_pk (by simp)), N10, (((Keep.refl h0 [ea]).wr W2 (Or.inl (List.mem_of_getElem? (i := 0) rfl))).wr W10 (Or.inl (List.mem_of_getElem? (i := 0) rfl))), by rw [← hTT]; exact V10⟩
       ·
        refine OwnFin.adv (B := T2.setTop (mkF m 106 #[VR ea, VI (Int32.ofNat ((T ++ [(92:Int32)])).length), VI cc] [(.int 10), (.int cc)])) (fun _ k => XS.icmpYes X2.here hx rfl (pc0 := 91) (pc' := 103) rfl (hD d7_91) rfl (feq hc91).2 (by decide) (by decide) (XS.iloadN X2.here hx rfl (hD d7_103) rfl (XS.bipush X2.here hx rfl (hD d7_104) k))) ?_
        by_cases hc106 : cc = (10:Int32)
        ·
         obtain ⟨cl12, Ar12, ck12, S12, M12, H12, G12⟩ := id V2
         have hin12 := own_in24 (n := ((T ++ [(92:Int32)])).length) S12 (own_leI lb2 (by decide))
         obtain ⟨T12, h12, X12, e12, W12, st12⟩ := stB X2 hx hZ e2 Ar12 (j := (Int32.ofNat ((T ++ [(92:Int32)])).length)) hin12 (g := (mkF m 113 #[VR ea, VI (Int32.ofNat ((T ++ [(92:Int32)])).length), VI cc] [(.int 110), (.int (Int32.ofNat ((T ++ [(92:Int32)])).length)), (.ref ea)])) rfl rfl (hD d7_113)
         have V12 : Arv Z h12 ea ke .byte (24:Int32) ((((T ++ [(92:Int32)]) ++ [(110:Int32)])).map Value.int) (.int 0) := own_push V2 W12 (by decide) (own_leL lb2 (by decide))
         have lb12 : OwnLe ((T ++ [(92:Int32)]) ++ [(110:Int32)]) 20 := own_leS lb2
         have sz13 : h2.size ≤ h12.size := Nat.le_of_eq W12.size.symm
         have N12 := Fr.snoc X12 N2 (by omega : n0 ≤ ea)
         obtain ⟨fs, hr, hrun, hended, hW, hsame⟩ := X12.leave (v := some (.int ((Int32.ofNat ((T ++ [(92:Int32)])).length) + (1:Int32)))) (fun h => by rw [Bd.returns] at h; cases h)
         refine OwnFin.adv (B := T12.setTop (mkF m 117 #[VR ea, VI (Int32.ofNat ((T ++ [(92:Int32)])).length), VI cc] [(.int ((Int32.ofNat ((T ++ [(92:Int32)])).length) + (1:Int32)))])) (fun _ k => XS.icmpNo X2.here hx rfl (hD d7_106) rfl (teq hc106).2 (XS.aloadN X2.here hx rfl (hD d7_109) rfl rfl (XS.iloadN X2.here hx rfl (hD d7_110) rfl (XS.bipush X2.here hx rfl (hD d7_111) (st12 _ (XS.iloadN X12.here hx rfl (hD d7_114) rfl (XS.iconst X12.here hx rfl (hD d7_115) (XS.iadd X12.here hx rfl (hD d7_116) rfl k)))))))) ?_
         refine OwnFin.leaf hP' ⟨_, _, own_retI X12 hx Bd.returns (hD d7_117) hr, hrun, hended, _, _, rfl, ?_, ⟨_, rfl⟩, hW, hsame.mono (by decide) (by decide)⟩
         have hTT : ((T ++ [(92:Int32)]) ++ [(110:Int32)]) = T ++ own_enc cc := by rw [own_encB hc4 hbq, own_e10 hc106] <;> simp
         rw [show (T12.setFrames fs).heap = h12 from e12]
         exact ⟨by rw [← hTT]; exact congrArg (fun z => some (Value.int z)) (own_pk (by simp)), N12, (((Keep.refl h0 [ea]).wr W2 (Or.inl (List.mem_of_getElem? (i := 0) rfl))).wr W12 (Or.inl (List.mem_of_getElem? (i := 0) rfl))), by rw [← hTT]; exact V12⟩
        ·
         refine OwnFin.adv (B := T2.setTop (mkF m 121 #[VR ea, VI (Int32.ofNat ((T ++ [(92:Int32)])).length), VI cc] [(.int 12), (.int cc)])) (fun _ k => XS.icmpYes X2.here hx rfl (pc0 := 106) (pc' := 118) rfl (hD d7_106) rfl (feq hc106).2 (by decide) (by decide) (XS.iloadN X2.here hx rfl (hD d7_118) rfl (XS.bipush X2.here hx rfl (hD d7_119) k))) ?_
         by_cases hc121 : cc = (12:Int32)
         ·
          obtain ⟨cl14, Ar14, ck14, S14, M14, H14, G14⟩ := id V2
          have hin14 := own_in24 (n := ((T ++ [(92:Int32)])).length) S14 (own_leI lb2 (by decide))
          obtain ⟨T14, h14, X14, e14, W14, st14⟩ := stB X2 hx hZ e2 Ar14 (j := (Int32.ofNat ((T ++ [(92:Int32)])).length)) hin14 (g := (mkF m 128 #[VR ea, VI (Int32.ofNat ((T ++ [(92:Int32)])).length), VI cc] [(.int 102), (.int (Int32.ofNat ((T ++ [(92:Int32)])).length)), (.ref ea)])) rfl rfl (hD d7_128)
          have V14 : Arv Z h14 ea ke .byte (24:Int32) ((((T ++ [(92:Int32)]) ++ [(102:Int32)])).map Value.int) (.int 0) := own_push V2 W14 (by decide) (own_leL lb2 (by decide))
          have lb14 : OwnLe ((T ++ [(92:Int32)]) ++ [(102:Int32)]) 20 := own_leS lb2
          have sz15 : h2.size ≤ h14.size := Nat.le_of_eq W14.size.symm
          have N14 := Fr.snoc X14 N2 (by omega : n0 ≤ ea)
          obtain ⟨fs, hr, hrun, hended, hW, hsame⟩ := X14.leave (v := some (.int ((Int32.ofNat ((T ++ [(92:Int32)])).length) + (1:Int32)))) (fun h => by rw [Bd.returns] at h; cases h)
          refine OwnFin.adv (B := T14.setTop (mkF m 132 #[VR ea, VI (Int32.ofNat ((T ++ [(92:Int32)])).length), VI cc] [(.int ((Int32.ofNat ((T ++ [(92:Int32)])).length) + (1:Int32)))])) (fun _ k => XS.icmpNo X2.here hx rfl (hD d7_121) rfl (teq hc121).2 (XS.aloadN X2.here hx rfl (hD d7_124) rfl rfl (XS.iloadN X2.here hx rfl (hD d7_125) rfl (XS.bipush X2.here hx rfl (hD d7_126) (st14 _ (XS.iloadN X14.here hx rfl (hD d7_129) rfl (XS.iconst X14.here hx rfl (hD d7_130) (XS.iadd X14.here hx rfl (hD d7_131) rfl k)))))))) ?_
          refine OwnFin.leaf hP' ⟨_, _, own_retI X14 hx Bd.returns (hD d7_132) hr, hrun, hended, _, _, rfl, ?_, ⟨_, rfl⟩, hW, hsame.mono (by decide) (by decide)⟩
          have hTT : ((T ++ [(92:Int32)]) ++ [(102:Int32)]) = T ++ own_enc cc := by rw [own_encB hc4 hbq, own_e12 hc121] <;> simp
          rw [show (T14.setFrames fs).heap = h14 from e14]
          exact ⟨by rw [← hTT]; exact congrArg (fun z => some (Value.int z)) (own_pk (by simp)), N14, (((Keep.refl h0 [ea]).wr W2 (Or.inl (List.mem_of_getElem? (i := 0) rfl))).wr W14 (Or.inl (List.mem_of_getElem? (i := 0) rfl))), by rw [← hTT]; exact V14⟩
         ·
          refine OwnFin.adv (B := T2.setTop (mkF m 136 #[VR ea, VI (Int32.ofNat ((T ++ [(92:Int32)])).length), VI cc] [(.int 13), (.int cc)])) (fun _ k => XS.icmpYes X2.here hx rfl (pc0 := 121) (pc' := 133) rfl (hD d7_121) rfl (feq hc121).2 (by decide) (by decide) (XS.iloadN X2.here hx rfl (hD d7_133) rfl (XS.bipush X2.here hx rfl (hD d7_134) k))) ?_
          by_cases hc136 : cc = (13:Int32)
          ·
           obtain ⟨cl16, Ar16, ck16, S16, M16, H16, G16⟩ := id V2
           have hin16 := own_in24 (n := ((T ++ [(92:Int32)])).length) S16 (own_leI lb2 (by decide))
           obtain ⟨T16, h16, X16, e16, W16, st16⟩ := stB X2 hx hZ e2 Ar16 (j := (Int32.ofNat ((T ++ [(92:Int32)])).length)) hin16 (g := (mkF m 143 #[VR ea, VI (Int32.ofNat ((T ++ [(92:Int32)])).length), VI cc] [(.int 114), (.int (Int32.ofNat ((T ++ [(92:Int32)])).length)), (.ref ea)])) rfl rfl (hD d7_143)
           have V16 : Arv Z h16 ea ke .byte (24:Int32) ((((T ++ [(92:Int32)]) ++ [(114:Int32)])).map Value.int) (.int 0) := own_push V2 W16 (by decide) (own_leL lb2 (by decide))
           have lb16 : OwnLe ((T ++ [(92:Int32)]) ++ [(114:Int32)]) 20 := own_leS lb2
           have sz17 : h2.size ≤ h16.size := Nat.le_of_eq W16.size.symm
           have N16 := Fr.snoc X16 N2 (by omega : n0 ≤ ea)
           obtain ⟨fs, hr, hrun, hended, hW, hsame⟩ := X16.leave (v := some (.int ((Int32.ofNat ((T ++ [(92:Int32)])).length) + (1:Int32)))) (fun h => by rw [Bd.returns] at h; cases h)
           refine OwnFin.adv (B := T16.setTop (mkF m 147 #[VR ea, VI (Int32.ofNat ((T ++ [(92:Int32)])).length), VI cc] [(.int ((Int32.ofNat ((T ++ [(92:Int32)])).length) + (1:Int32)))])) (fun _ k => XS.icmpNo X2.here hx rfl (hD d7_136) rfl (teq hc136).2 (XS.aloadN X2.here hx rfl (hD d7_139) rfl rfl (XS.iloadN X2.here hx rfl (hD d7_140) rfl (XS.bipush X2.here hx rfl (hD d7_141) (st16 _ (XS.iloadN X16.here hx rfl (hD d7_144) rfl (XS.iconst X16.here hx rfl (hD d7_145) (XS.iadd X16.here hx rfl (hD d7_146) rfl k)))))))) ?_
           refine OwnFin.leaf hP' ⟨_, _, own_retI X16 hx Bd.returns (hD d7_147) hr, hrun, hended, _, _, rfl, ?_, ⟨_, rfl⟩, hW, hsame.mono (by decide) (by decide)⟩
           have hTT : ((T ++ [(92:Int32)]) ++ [(114:Int32)]) = T ++ own_enc cc := by rw [own_encB hc4 hbq, own_e13 hc136] <;> simp
           rw [show (T16.setFrames fs).heap = h16 from e16]
           exact ⟨by rw [← hTT]; exact congrArg (fun z => some (Value.int z)) (own_pk (by simp)), N16, (((Keep.refl h0 [ea]).wr W2 (Or.inl (List.mem_of_getElem? (i := 0) rfl))).wr W16 (Or.inl (List.mem_of_getElem? (i := 0) rfl))), by rw [← hTT]; exact V16⟩
          ·
           obtain ⟨_, _, ⟨T18, L18, k18, n18⟩, -, X18, ⟨Lc18, hQ18, l18, y18, z18⟩, st18⟩ := Jvm.LawKit.callS X2 hx (y := own_M8) hown (mvT hZ (own_w hw 35 rfl)) (mvT hZ (own_w hw 36 rfl)) (mvT hZ (own_w hw 33 rfl)) (mvT hZ (own_w hw 37 rfl)) (by decide) (backOf (W := 0) (own_hexE l Z a0 hw [] ea ke ((T ++ [(92:Int32)])) cc h2 n0 (by omega) V2 g_ea (own_leM lb2 (by decide))) hZ (own_w hw 37 rfl) (own_w hw 33 rfl) (by decide) (by decide)) (g := (mkF m 151 #[VR ea, VI (Int32.ofNat ((T ++ [(92:Int32)])).length), VI cc] [(.int cc), (.int (Int32.ofNat ((T ++ [(92:Int32)])).length)), (.ref ea)])) rfl (by rw [hml]; rfl) (argsL := [(.ref ea), (.int (Int32.ofNat ((T ++ [(92:Int32)])).length)), (.int cc)]) (rest := []) (lenOf own_pd21 rfl) rfl (by show 2 * 0 + _ ≤ _; exact Nat.le_of_eq rfl) (hD d7_151) (fun _ _ => ⟨rfl, e2, (by decide : 0 + 0 ≤ _), (by decide : 0 + 0 ≤ _)⟩)
           dsimp only [Pt.U, Pt.locs, Pt.cells, Pt.slots] at X18 l18 y18 z18 st18 hQ18
           subst l18 y18 z18
           obtain ⟨rfl, N18q, K18, Ve18⟩ := hQ18
           have N18 := Fr.app N2 N18q
           have sz19 : h2.size ≤ T18.heap.size := K18.1
           obtain ⟨fs, hr, hrun, hended, hW, hsame⟩ := X18.leave (v := some (.int (Int32.ofNat (((T ++ [(92:Int32)]) ++ own_hexs cc)).length))) (fun h => by rw [Bd.returns] at h; cases h)
           refine OwnFin.adv (B := T18.setTop (mkF m 154 #[VR ea, VI (Int32.ofNat ((T ++ [(92:Int32)])).length), VI cc] [(.int (Int32.ofNat (((T ++ [(92:Int32)]) ++ own_hexs cc)).length))])) (fun _ k => XS.icmpYes X2.here hx rfl (pc0 := 136) (pc' := 148) rfl (hD d7_136) rfl (feq hc136).2 (by decide) (by decide) (XS.aloadN X2.here hx rfl (hD d7_148) rfl rfl (XS.iloadN X2.here hx rfl (hD d7_149) rfl (XS.iloadN X2.here hx rfl (hD d7_150) rfl (st18 _ k))))) ?_
           refine OwnFin.leaf hP' ⟨_, _, own_retI X18 hx Bd.returns (hD d7_154) hr, hrun, hended, _, _, rfl, ?_, ⟨_, rfl⟩, hW, hsame.mono (by decide) (by decide)⟩
           have hTT : ((T ++ [(92:Int32)]) ++ own_hexs cc) = T ++ own_enc cc := by rw [own_encB hc4 hbq, own_eX hc46 hc61 hc76 hc91 hc106 hc121 hc136] <;> simp
           rw [show (T18.setFrames fs).heap = T18.heap from rfl]
           exact ⟨by rw [← hTT], N18, (((Keep.refl h0 [ea]).wr W2 (Or.inl (List.mem_of_getElem? (i := 0) rfl))).trans K18 (allS (Or.inl (List.mem_of_getElem? (i := 0) rfl)) all0)), by rw [← hTT]; exact Ve18⟩
   refine OwnFin.adv (B := s₁.setTop (mkF m 10 #[VR ea, VI (Int32.ofNat (T).length), VI cc] [(.int 32), (.int cc)])) (fun _ k => XS.iloadN X0.here hx rfl (hD d7_7) rfl (XS.bipush X0.here hx rfl (hD d7_8) k)) ?_
   by_cases hc10 : cc < (32:Int32)
   ·
    refine OwnFin.adv (B := s₁.setTop (mkF m 34 #[VR ea, VI (Int32.ofNat (T).length), VI cc] [])) (fun _ k => XS.icmpYes X0.here hx rfl (pc0 := 10) (pc' := 34) rfl (hD d7_10) rfl (tlt hc10).1 (by decide) (by decide) k) ?_
    exact J34 s₁ _ X0 e0 N0 (Or.inl hc10)
   ·
    refine OwnFin.adv (B := s₁.setTop (mkF m 16 #[VR ea, VI (Int32.ofNat (T).length), VI cc] [(.int 34), (.int cc)])) (fun _ k => XS.icmpNo X0.here hx rfl (hD d7_10) rfl (flt hc10).1 (XS.iloadN X0.here hx rfl (hD d7_13) rfl (XS.bipush X0.here hx rfl (hD d7_14) k))) ?_
    by_cases hc16 : cc = (34:Int32)
    ·
     refine OwnFin.adv (B := s₁.setTop (mkF m 34 #[VR ea, VI (Int32.ofNat (T).length), VI cc] [])) (fun _ k => XS.icmpYes X0.here hx rfl (pc0 := 16) (pc' := 34) rfl (hD d7_16) rfl (teq hc16).1 (by decide) (by decide) k) ?_
     exact J34 s₁ _ X0 e0 N0 (Or.inr (Or.inl hc16))
    ·
     refine OwnFin.adv (B := s₁.setTop (mkF m 22 #[VR ea, VI (Int32.ofNat (T).length), VI cc] [(.int 92), (.int cc)])) (fun _ k => XS.icmpNo X0.here hx rfl (hD d7_16) rfl (feq hc16).1 (XS.iloadN X0.here hx rfl (hD d7_19) rfl (XS.bipush X0.here hx rfl (hD d7_20) k))) ?_
     by_cases hc22 : cc = (92:Int32)
     ·
      refine OwnFin.adv (B := s₁.setTop (mkF m 34 #[VR ea, VI (Int32.ofNat (T).length), VI cc] [])) (fun _ k => XS.icmpYes X0.here hx rfl (pc0 := 22) (pc' := 34) rfl (hD d7_22) rfl (teq hc22).1 (by decide) (by decide) k) ?_
      exact J34 s₁ _ X0 e0 N0 (Or.inr (Or.inr hc22))
     ·
      obtain ⟨cl20, Ar20, ck20, S20, M20, H20, G20⟩ := id Ve
      have hin20 := own_in24 (n := (T).length) S20 (own_leI hT (by decide))
      obtain ⟨T20, h20, X20, e20, W20, st20⟩ := stB X0 hx hZ e0 Ar20 (j := (Int32.ofNat (T).length)) hin20 (g := (mkF m 29 #[VR ea, VI (Int32.ofNat (T).length), VI cc] [(.int (cc.toInt8.toInt32)), (.int (Int32.ofNat (T).length)), (.ref ea)])) rfl rfl (hD d7_29)
      have V20 : Arv Z h20 ea ke .byte (24:Int32) (((T ++ [(cc.toInt8.toInt32)])).map Value.int) (.int 0) := own_push Ve W20 (own_narb _) (own_leL hT (by decide))
      have lb20 : OwnLe (T ++ [(cc.toInt8.toInt32)]) 19 := own_leS hT
      have sz21 : h0.size ≤ h20.size := Nat.le_of_eq W20.size.symm
      have N20 := Fr.snoc X20 N0 (by omega : n0 ≤ ea)
      obtain ⟨fs, hr, hrun, hended, hW, hsame⟩ := X20.leave (v := some (.int ((Int32.ofNat (T).length) + (1:Int32)))) (fun h => by rw [Bd.returns] at h; cases h)
      refine OwnFin.adv (B := T20.setTop (mkF m 33 #[VR ea, VI (Int32.ofNat (T).length), VI cc] [(.int ((Int32.ofNat (T).length) + (1:Int32)))])) (fun _ k => XS.icmpNo X0.here hx rfl (hD d7_22) rfl (feq hc22).1 (XS.aloadN X0.here hx rfl (hD d7_25) rfl rfl (XS.iloadN X0.here hx rfl (hD d7_26) rfl (XS.iloadN X0.here hx rfl (hD d7_27) rfl (XS.i2b X0.here hx rfl (hD d7_28) rfl (st20 _ (XS.iloadN X20.here hx rfl (hD d7_30) rfl (XS.iconst X20.here hx rfl (hD d7_31) (XS.iadd X20.here hx rfl (hD d7_32) rfl k))))))))) ?_
      refine OwnFin.leaf hP' ⟨_, _, own_retI X20 hx Bd.returns (hD d7_33) hr, hrun, hended, _, _, rfl, ?_, ⟨_, rfl⟩, hW, hsame.mono (by decide) (by decide)⟩
      have hTT : (T ++ [(cc.toInt8.toInt32)]) = T ++ own_enc cc := by rw [own_encA hc4 hc10 hc16 hc22]
      rw [show (T20.setFrames fs).heap = h20 from e20]
      exact ⟨by rw [← hTT]; exact congrArg (fun z => some (Value.int z)) (own_pk (by simp)), N20, ((Keep.refl h0 [ea]).wr W20 (Or.inl (List.mem_of_getElem? (i := 0) rfl))), by rw [← hTT]; exact V20⟩
  ·
   refine OwnFin.adv (B := s₁.setTop (mkF m 159 #[VR ea, VI (Int32.ofNat (T).length), VI cc] [(.int 2048), (.int cc)])) (fun _ k => XS.icmpYes X0.here hx rfl (pc0 := 4) (pc' := 155) rfl (hD d7_4) rfl (flt hc4).2.1 (by decide) (by decide) (XS.iloadN X0.here hx rfl (hD d7_155) rfl (XS.sipush X0.here hx rfl (hD d7_156) k))) ?_
   by_cases hc159 : cc < (2048:Int32)
   ·
    obtain ⟨cl22, Ar22, ck22, S22, M22, H22, G22⟩ := id Ve
    have hin22 := own_in24 (n := (T).length) S22 (own_leI hT (by decide))
    obtain ⟨T22, h22, X22, e22, W22, st22⟩ := stB X0 hx hZ e0 Ar22 (j := (Int32.ofNat (T).length)) hin22 (g := (mkF m 173 #[VR ea, VI (Int32.ofNat (T).length), VI cc] [(.int (((192:Int32) ||| (cc >>> ((6:Int32) &&& 31))).toInt8.toInt32)), (.int (Int32.ofNat (T).length)), (.ref ea)])) rfl rfl (hD d7_173)
    have V22 : Arv Z h22 ea ke .byte (24:Int32) (((T ++ [(((192:Int32) ||| (cc >>> ((6:Int32) &&& 31))).toInt8.toInt32)])).map Value.int) (.int 0) := own_push Ve W22 (own_narb _) (own_leL hT (by decide))
    have lb22 : OwnLe (T ++ [(((192:Int32) ||| (cc >>> ((6:Int32) &&& 31))).toInt8.toInt32)]) 19 := own_leS hT
    have sz23 : h0.size ≤ h22.size := Nat.le_of_eq W22.size.symm
    have N22 := Fr.snoc X22 N0 (by omega : n0 ≤ ea)
    refine OwnFin.adv (B := T22.setTop (mkF m 178 #[VR ea, VI (Int32.ofNat (T).length), VI cc] [(.int ((Int32.ofNat (T).length) + (1:Int32))), (.ref ea)])) (fun _ k => XS.icmpNo X0.here hx rfl (hD d7_159) rfl (tlt hc159).2.1 (XS.aloadN X0.here hx rfl (hD d7_162) rfl rfl (XS.iloadN X0.here hx rfl (hD d7_163) rfl (XS.sipush X0.here hx rfl (hD d7_164) (XS.iloadN X0.here hx rfl (hD d7_167) rfl (XS.bipush X0.here hx rfl (hD d7_168) (XS.ishr X0.here hx rfl (hD d7_170) rfl (XS.ior X0.here hx rfl (hD d7_171) rfl (XS.i2b X0.here hx rfl (hD d7_172) rfl (st22 _ (XS.aloadN X22.here hx rfl (hD d7_174) rfl rfl (XS.iloadN X22.here hx rfl (hD d7_175) rfl (XS.iconst X22.here hx rfl (hD d7_176) (XS.iadd X22.here hx rfl (hD d7_177) rfl k)))))))))))))) ?_
    refine OwnFin.adv (B := T22.setTop (mkF m 187 #[VR ea, VI (Int32.ofNat (T).length), VI cc] [(.int (((128:Int32) ||| (cc &&& (63:Int32))).toInt8.toInt32)), (.int ((Int32.ofNat (T).length) + (1:Int32))), (.ref ea)])) (fun _ k => XS.sipush X22.here hx rfl (hD d7_178) (XS.iloadN X22.here hx rfl (hD d7_181) rfl (XS.bipush X22.here hx rfl (hD d7_182) (XS.iand X22.here hx rfl (hD d7_184) rfl (XS.ior X22.here hx rfl (hD d7_185) rfl (XS.i2b X22.here hx rfl (hD d7_186) rfl k)))))) ?_
    rw [show (((Int32.ofNat (T).length) + (1:Int32)) : Int32) = (Int32.ofNat ((T ++ [(((192:Int32) ||| (cc >>> ((6:Int32) &&& 31))).toInt8.toInt32)])).length) from own_pk (by simp)]
    obtain ⟨cl24, Ar24, ck24, S24, M24, H24, G24⟩ := id V22
    have hin24 := own_in24 (n := ((T ++ [(((192:Int32) ||| (cc >>> ((6:Int32) &&& 31))).toInt8.toInt32)])).length) S24 (own_leI lb22 (by decide))
    obtain ⟨T24, h24, X24, e24, W24, st24⟩ := stB X22 hx hZ e22 Ar24 (j := (Int32.ofNat ((T ++ [(((192:Int32) ||| (cc >>> ((6:Int32) &&& 31))).toInt8.toInt32)])).length)) hin24 (g := (mkF m 187 #[VR ea, VI (Int32.ofNat (T).length), VI cc] [(.int (((128:Int32) ||| (cc &&& (63:Int32))).toInt8.toInt32)), (.int (Int32.ofNat ((T ++ [(((192:Int32) ||| (cc >>> ((6:Int32) &&& 31))).toInt8.toInt32)])).length)), (.ref ea)])) rfl rfl (hD d7_187)
    have V24 : Arv Z h24 ea ke .byte (24:Int32) ((((T ++ [(((192:Int32) ||| (cc >>> ((6:Int32) &&& 31))).toInt8.toInt32)]) ++ [(((128:Int32) ||| (cc &&& (63:Int32))).toInt8.toInt32)])).map Value.int) (.int 0) := own_push V22 W24 (own_narb _) (own_leL lb22 (by decide))
    have lb24 : OwnLe ((T ++ [(((192:Int32) ||| (cc >>> ((6:Int32) &&& 31))).toInt8.toInt32)]) ++ [(((128:Int32) ||| (cc &&& (63:Int32))).toInt8.toInt32)]) 20 := own_leS lb22
    have sz25 : h22.size ≤ h24.size := Nat.le_of_eq W24.size.symm
    have N24 := Fr.snoc X24 N22 (by omega : n0 ≤ ea)
    obtain ⟨fs, hr, hrun, hended, hW, hsame⟩ := X24.leave (v := some (.int ((Int32.ofNat (T).length) + (2:Int32)))) (fun h => by rw [Bd.returns] at h; cases h)
    refine OwnFin.adv (B := T24.setTop (mkF m 191 #[VR ea, VI (Int32.ofNat (T).length), VI cc] [(.int ((Int32.ofNat (T).length) + (2:Int32)))])) (fun _ k => st24 _ (XS.iloadN X24.here hx rfl (hD d7_188) rfl (XS.iconst X24.here hx rfl (hD d7_189) (XS.iadd X24.here hx rfl (hD d7_190) rfl k)))) ?_
    refine OwnFin.leaf hP' ⟨_, _, own_retI X24 hx Bd.returns (hD d7_191) hr, hrun, hended, _, _, rfl, ?_, ⟨_, rfl⟩, hW, hsame.mono (by decide) (by decide)⟩
    have hTT : ((T ++ [(((192:Int32) ||| (cc >>> ((6:Int32) &&& 31))).toInt8.toInt32)]) ++ [(((128:Int32) ||| (cc &&& (63:Int32))).toInt8.toInt32)]) = T ++ own_enc cc := by rw [own_encC hc4 hc159] <;> simp
    rw [show (T24.setFrames fs).heap = h24 from e24]
    exact ⟨by rw [← hTT]; exact congrArg (fun z => some (Value.int z)) (own_pk (by simp)), N24, (((Keep.refl h0 [ea]).wr W22 (Or.inl (List.mem_of_getElem? (i := 0) rfl))).wr W24 (Or.inl (List.mem_of_getElem? (i := 0) rfl))), by rw [← hTT]; exact V24⟩
   ·
    refine OwnFin.adv (B := s₁.setTop (mkF m 192 #[VR ea, VI (Int32.ofNat (T).length), VI cc] [])) (fun _ k => XS.icmpYes X0.here hx rfl (pc0 := 159) (pc' := 192) rfl (hD d7_159) rfl (flt hc159).2.1 (by decide) (by decide) k) ?_
    have J218 : ∀  (TJ : State) (LJ : List Loc) (XJ : Stand p l e ({ frames := 2, cells := 0, slots := 0, locals := 28 } : Room) s m #[(.ref ea), (.int (Int32.ofNat (T).length)), (.int cc)] below meth c TJ LJ 0 0) (eJ : TJ.heap = h0) (NJ : Fr n0 LJ) (hsu : cc < 55296 ∨ 57343 < cc), OwnFin p.tables e below P' (TJ.setTop (mkF m 218 #[VR ea, VI (Int32.ofNat (T).length), VI cc] [])) := by
     intro  TJ LJ XJ eJ NJ hsu
     obtain ⟨cl27, Ar27, ck27, S27, M27, H27, G27⟩ := id Ve
     have hin27 := own_in24 (n := (T).length) S27 (own_leI hT (by decide))
     obtain ⟨T27, h27, X27, e27, W27, st27⟩ := stB XJ hx hZ eJ Ar27 (j := (Int32.ofNat (T).length)) hin27 (g := (mkF m 229 #[VR ea, VI (Int32.ofNat (T).length), VI cc] [(.int (((224:Int32) ||| (cc >>> ((12:Int32) &&& 31))).toInt8.toInt32)), (.int (Int32.ofNat (T).length)), (.ref ea)])) rfl rfl (hD d7_229)
     have V27 : Arv Z h27 ea ke .byte (24:Int32) (((T ++ [(((224:Int32) ||| (cc >>> ((12:Int32) &&& 31))).toInt8.toInt32)])).map Value.int) (.int 0) := own_push Ve W27 (own_narb _) (own_leL hT (by decide))
     have lb27 : OwnLe (T ++ [(((224:Int32) ||| (cc >>> ((12:Int32) &&& 31))).toInt8.toInt32)]) 19 := own_leS hT
     have sz28 : h0.size ≤ h27.size := Nat.le_of_eq W27.size.symm
     have N27 := Fr.snoc X27 NJ (by omega : n0 ≤ ea)
     refine OwnFin.adv (B := T27.setTop (mkF m 237 #[VR ea, VI (Int32.ofNat (T).length), VI cc] [(.int 128), (.int ((Int32.ofNat (T).length) + (1:Int32))), (.ref ea)])) (fun _ k => XS.aloadN XJ.here hx rfl (hD d7_218) rfl rfl (XS.iloadN XJ.here hx rfl (hD d7_219) rfl (XS.sipush XJ.here hx rfl (hD d7_220) (XS.iloadN XJ.here hx rfl (hD d7_223) rfl (XS.bipush XJ.here hx rfl (hD d7_224) (XS.ishr XJ.here hx rfl (hD d7_226) rfl (XS.ior XJ.here hx rfl (hD d7_227) rfl (XS.i2b XJ.here hx rfl (hD d7_228) rfl (st27 _ (XS.aloadN X27.here hx rfl (hD d7_230) rfl rfl (XS.iloadN X27.here hx rfl (hD d7_231) rfl (XS.iconst X27.here hx rfl (hD d7_232) (XS.iadd X27.here hx rfl (hD d7_233) rfl (XS.sipush X27.here hx rfl (hD d7_234) k)))))))))))))) ?_
     refine OwnFin.adv (B := T27.setTop (mkF m 246 #[VR ea, VI (Int32.ofNat (T).length), VI cc] [(.int (((128:Int32) ||| ((cc >>> ((6:Int32) &&& 31)) &&& (63:Int32))).toInt8.toInt32)), (.int ((Int32.ofNat (T).length) + (1:Int32))), (.ref ea)])) (fun _ k => XS.iloadN X27.here hx rfl (hD d7_237) rfl (XS.bipush X27.here hx rfl (hD d7_238) (XS.ishr X27.here hx rfl (hD d7_240) rfl (XS.bipush X27.here hx rfl (hD d7_241) (XS.iand X27.here hx rfl (hD d7_243) rfl (XS.ior X27.here hx rfl (hD d7_244) rfl (XS.i2b X27.here hx rfl (hD d7_245) rfl k))))))) ?_
     rw [show (((Int32.ofNat (T).length) + (1:Int32)) : Int32) = (Int32.ofNat ((T ++ [(((224:Int32) ||| (cc >>> ((12:Int32) &&& 31))).toInt8.toInt32)])).length) from own_pk (by simp)]
     obtain ⟨cl29, Ar29, ck29, S29, M29, H29, G29⟩ := id V27
     have hin29 := own_in24 (n := ((T ++ [(((224:Int32) ||| (cc >>> ((12:Int32) &&& 31))).toInt8.toInt32)])).length) S29 (own_leI lb27 (by decide))
     obtain ⟨T29, h29, X29, e29, W29, st29⟩ := stB X27 hx hZ e27 Ar29 (j := (Int32.ofNat ((T ++ [(((224:Int32) ||| (cc >>> ((12:Int32) &&& 31))).toInt8.toInt32)])).length)) hin29 (g := (mkF m 246 #[VR ea, VI (Int32.ofNat (T).length), VI cc] [(.int (((128:Int32) ||| ((cc >>> ((6:Int32) &&& 31)) &&& (63:Int32))).toInt8.toInt32)), (.int (Int32.ofNat ((T ++ [(((224:Int32) ||| (cc >>> ((12:Int32) &&& 31))).toInt8.toInt32)])).length)), (.ref ea)])) rfl rfl (hD d7_246)
     have V29 : Arv Z h29 ea ke .byte (24:Int32) ((((T ++ [(((224:Int32) ||| (cc >>> ((12:Int32) &&& 31))).toInt8.toInt32)]) ++ [(((128:Int32) ||| ((cc >>> ((6:Int32) &&& 31)) &&& (63:Int32))).toInt8.toInt32)])).map Value.int) (.int 0) := own_push V27 W29 (own_narb _) (own_leL lb27 (by decide))
     have lb29 : OwnLe ((T ++ [(((224:Int32) ||| (cc >>> ((12:Int32) &&& 31))).toInt8.toInt32)]) ++ [(((128:Int32) ||| ((cc >>> ((6:Int32) &&& 31)) &&& (63:Int32))).toInt8.toInt32)]) 20 := own_leS lb27
     have sz30 : h27.size ≤ h29.size := Nat.le_of_eq W29.size.symm
     have N29 := Fr.snoc X29 N27 (by omega : n0 ≤ ea)
     refine OwnFin.adv (B := T29.setTop (mkF m 260 #[VR ea, VI (Int32.ofNat (T).length), VI cc] [(.int (((128:Int32) ||| (cc &&& (63:Int32))).toInt8.toInt32)), (.int ((Int32.ofNat (T).length) + (2:Int32))), (.ref ea)])) (fun _ k => st29 _ (XS.aloadN X29.here hx rfl (hD d7_247) rfl rfl (XS.iloadN X29.here hx rfl (hD d7_248) rfl (XS.iconst X29.here hx rfl (hD d7_249) (XS.iadd X29.here hx rfl (hD d7_250) rfl (XS.sipush X29.here hx rfl (hD d7_251) (XS.iloadN X29.here hx rfl (hD d7_254) rfl (XS.bipush X29.here hx rfl (hD d7_255) (XS.iand X29.here hx rfl (hD d7_257) rfl (XS.ior X29.here hx rfl (hD d7_258) rfl (XS.i2b X29.here hx rfl (hD d7_259) rfl k))))))))))) ?_
     rw [show (((Int32.ofNat (T).length) + (2:Int32)) : Int32) = (Int32.ofNat (((T ++ [(((224:Int32) ||| (cc >>> ((12:Int32) &&& 31))).toInt8.toInt32)]) ++ [(((128:Int32) ||| ((cc >>> ((6:Int32) &&& 31)) &&& (63:Int32))).toInt8.toInt32)])).length) from own_pk (by simp)]
     obtain ⟨cl31, Ar31, ck31, S31, M31, H31, G31⟩ := id V29
     have hin31 := own_in24 (n := (((T ++ [(((224:Int32) ||| (cc >>> ((12:Int32) &&& 31))).toInt8.toInt32)]) ++ [(((128:Int32) ||| ((cc >>> ((6:Int32) &&& 31)) &&& (63:Int32))).toInt8.toInt32)])).length) S31 (own_leI lb29 (by decide))
     obtain ⟨T31, h31, X31, e31, W31, st31⟩ := stB X29 hx hZ e29 Ar31 (j := (Int32.ofNat (((T ++ [(((224:Int32) ||| (cc >>> ((12:Int32) &&& 31))).toInt8.toInt32)]) ++ [(((128:Int32) ||| ((cc >>> ((6:Int32) &&& 31)) &&& (63:Int32))).toInt8.toInt32)])).length)) hin31 (g := (mkF m 260 #[VR ea, VI (Int32.ofNat (T).length), VI cc] [(.int (((128:Int32) ||| (cc &&& (63:Int32))).toInt8.toInt32)), (.int (Int32.ofNat (((T ++ [(((224:Int32) ||| (cc >>> ((12:Int32) &&& 31))).toInt8.toInt32)]) ++ [(((128:Int32) ||| ((cc >>> ((6:Int32) &&& 31)) &&& (63:Int32))).toInt8.toInt32)])).length)), (.ref ea)])) rfl rfl (hD d7_260)
     have V31 : Arv Z h31 ea ke .byte (24:Int32) (((((T ++ [(((224:Int32) ||| (cc >>> ((12:Int32) &&& 31))).toInt8.toInt32)]) ++ [(((128:Int32) ||| ((cc >>> ((6:Int32) &&& 31)) &&& (63:Int32))).toInt8.toInt32)]) ++ [(((128:Int32) ||| (cc &&& (63:Int32))).toInt8.toInt32)])).map Value.int) (.int 0) := own_push V29 W31 (own_narb _) (own_leL lb29 (by decide))
     have lb31 : OwnLe (((T ++ [(((224:Int32) ||| (cc >>> ((12:Int32) &&& 31))).toInt8.toInt32)]) ++ [(((128:Int32) ||| ((cc >>> ((6:Int32) &&& 31)) &&& (63:Int32))).toInt8.toInt32)]) ++ [(((128:Int32) ||| (cc &&& (63:Int32))).toInt8.toInt32)]) 21 := own_leS lb29
     have sz32 : h29.size ≤ h31.size := Nat.le_of_eq W31.size.symm
     have N31 := Fr.snoc X31 N29 (by omega : n0 ≤ ea)
     obtain ⟨fs, hr, hrun, hended, hW, hsame⟩ := X31.leave (v := some (.int ((Int32.ofNat (T).length) + (3:Int32)))) (fun h => by rw [Bd.returns] at h; cases h)
     refine OwnFin.adv (B := T31.setTop (mkF m 264 #[VR ea, VI (Int32.ofNat (T).length), VI cc] [(.int ((Int32.ofNat (T).length) + (3:Int32)))])) (fun _ k => st31 _ (XS.iloadN X31.here hx rfl (hD d7_261) rfl (XS.iconst X31.here hx rfl (hD d7_262) (XS.iadd X31.here hx rfl (hD d7_263) rfl k)))) ?_
     refine OwnFin.leaf hP' ⟨_, _, own_retI X31 hx Bd.returns (hD d7_264) hr, hrun, hended, _, _, rfl, ?_, ⟨_, rfl⟩, hW, hsame.mono (by decide) (by decide)⟩
     have hTT : (((T ++ [(((224:Int32) ||| (cc >>> ((12:Int32) &&& 31))).toInt8.toInt32)]) ++ [(((128:Int32) ||| ((cc >>> ((6:Int32) &&& 31)) &&& (63:Int32))).toInt8.toInt32)]) ++ [(((128:Int32) ||| (cc &&& (63:Int32))).toInt8.toInt32)]) = T ++ own_enc cc := by rw [own_encE hc4 hc159 hsu] <;> simp
     rw [show (T31.setFrames fs).heap = h31 from e31]
     exact ⟨by rw [← hTT]; exact congrArg (fun z => some (Value.int z)) (own_pk (by simp)), N31, ((((Keep.refl h0 [ea]).wr W27 (Or.inl (List.mem_of_getElem? (i := 0) rfl))).wr W29 (Or.inl (List.mem_of_getElem? (i := 0) rfl))).wr W31 (Or.inl (List.mem_of_getElem? (i := 0) rfl))), by rw [← hTT]; exact V31⟩
    refine OwnFin.adv (B := s₁.setTop (mkF m 195 #[VR ea, VI (Int32.ofNat (T).length), VI cc] [(.int 55296), (.int cc)])) (fun _ k => XS.iloadN X0.here hx rfl (hD d7_192) rfl (X0.ldcInt hx hown (mvT hZ (own_w hw 198 rfl)) (g := (mkF m 193 #[VR ea, VI (Int32.ofNat (T).length), VI cc] [(.int cc)])) rfl (hD d7_193) _ k)) ?_
    by_cases hc195 : cc < (55296:Int32)
    ·
     refine OwnFin.adv (B := s₁.setTop (mkF m 218 #[VR ea, VI (Int32.ofNat (T).length), VI cc] [])) (fun _ k => XS.icmpYes X0.here hx rfl (pc0 := 195) (pc' := 218) rfl (hD d7_195) rfl (tlt hc195).1 (by decide) (by decide) k) ?_
     exact J218 s₁ _ X0 e0 N0 (Or.inl hc195)
    ·
     refine OwnFin.adv (B := s₁.setTop (mkF m 201 #[VR ea, VI (Int32.ofNat (T).length), VI cc] [(.int 57343), (.int cc)])) (fun _ k => XS.icmpNo X0.here hx rfl (hD d7_195) rfl (flt hc195).1 (XS.iloadN X0.here hx rfl (hD d7_198) rfl (X0.ldcInt hx hown (mvT hZ (own_w hw 216 rfl)) (g := (mkF m 199 #[VR ea, VI (Int32.ofNat (T).length), VI cc] [(.int cc)])) rfl (hD d7_199) _ k))) ?_
     by_cases hc201 : (57343:Int32) < cc
     ·
      refine OwnFin.adv (B := s₁.setTop (mkF m 218 #[VR ea, VI (Int32.ofNat (T).length), VI cc] [])) (fun _ k => XS.icmpYes X0.here hx rfl (pc0 := 201) (pc' := 218) rfl (hD d7_201) rfl (tlt hc201).2.2.1 (by decide) (by decide) k) ?_
      exact J218 s₁ _ X0 e0 N0 (Or.inr hc201)
     ·
      obtain ⟨cl33, Ar33, ck33, S33, M33, H33, G33⟩ := id Ve
      have hin33 := own_in24 (n := (T).length) S33 (own_leI hT (by decide))
      obtain ⟨T33, h33, X33, e33, W33, st33⟩ := stB X0 hx hZ e0 Ar33 (j := (Int32.ofNat (T).length)) hin33 (g := (mkF m 208 #[VR ea, VI (Int32.ofNat (T).length), VI cc] [(.int 92), (.int (Int32.ofNat (T).length)), (.ref ea)])) rfl rfl (hD d7_208)
      have V33 : Arv Z h33 ea ke .byte (24:Int32) (((T ++ [(92:Int32)])).map Value.int) (.int 0) := own_push Ve W33 (by decide) (own_leL hT (by decide))
      have lb33 : OwnLe (T ++ [(92:Int32)]) 19 := own_leS hT
      have sz34 : h0.size ≤ h33.size := Nat.le_of_eq W33.size.symm
      have N33 := Fr.snoc X33 N0 (by omega : n0 ≤ ea)
      refine OwnFin.adv (B := T33.setTop (mkF m 214 #[VR ea, VI (Int32.ofNat (T).length), VI cc] [(.int cc), (.int ((Int32.ofNat (T).length) + (1:Int32))), (.ref ea)])) (fun _ k => XS.icmpNo X0.here hx rfl (hD d7_201) rfl (flt hc201).2.2.1 (XS.aloadN X0.here hx rfl (hD d7_204) rfl rfl (XS.iloadN X0.here hx rfl (hD d7_205) rfl (XS.bipush X0.here hx rfl (hD d7_206) (st33 _ (XS.aloadN X33.here hx rfl (hD d7_209) rfl rfl (XS.iloadN X33.here hx rfl (hD d7_210) rfl (XS.iconst X33.here hx rfl (hD d7_211) (XS.iadd X33.here hx rfl (hD d7_212) rfl (XS.iloadN X33.here hx rfl (hD d7_213) rfl k)))))))))) ?_
      rw [show (((Int32.ofNat (T).length) + (1:Int32)) : Int32) = (Int32.ofNat ((T ++ [(92:Int32)])).length) from own_pk (by simp)]
      obtain ⟨_, _, ⟨T35, L35, k35, n35⟩, -, X35, ⟨Lc35, hQ35, l35, y35, z35⟩, st35⟩ := Jvm.LawKit.callS X33 hx (y := own_M8) hown (mvT hZ (own_w hw 35 rfl)) (mvT hZ (own_w hw 36 rfl)) (mvT hZ (own_w hw 33 rfl)) (mvT hZ (own_w hw 37 rfl)) (by decide) (backOf (W := 0) (own_hexE l Z a0 hw [] ea ke ((T ++ [(92:Int32)])) cc h33 n0 (by omega) V33 g_ea (own_leM lb33 (by decide))) hZ (own_w hw 37 rfl) (own_w hw 33 rfl) (by decide) (by decide)) (g := (mkF m 214 #[VR ea, VI (Int32.ofNat (T).length), VI cc] [(.int cc), (.int (Int32.ofNat ((T ++ [(92:Int32)])).length)), (.ref ea)])) rfl (by rw [hml]; rfl) (argsL := [(.ref ea), (.int (Int32.ofNat ((T ++ [(92:Int32)])).length)), (.int cc)]) (rest := []) (lenOf own_pd21 rfl) rfl (by show 2 * 0 + _ ≤ _; exact Nat.le_of_eq rfl) (hD d7_214) (fun _ _ => ⟨rfl, e33, (by decide : 0 + 0 ≤ _), (by decide : 0 + 0 ≤ _)⟩)
      dsimp only [Pt.U, Pt.locs, Pt.cells, Pt.slots] at X35 l35 y35 z35 st35 hQ35
      subst l35 y35 z35
      obtain ⟨rfl, N35q, K35, Ve35⟩ := hQ35
      have N35 := Fr.app N33 N35q
      have sz36 : h33.size ≤ T35.heap.size := K35.1
      obtain ⟨fs, hr, hrun, hended, hW, hsame⟩ := X35.leave (v := some (.int (Int32.ofNat (((T ++ [(92:Int32)]) ++ own_hexs cc)).length))) (fun h => by rw [Bd.returns] at h; cases h)
      refine OwnFin.adv (B := T35.setTop (mkF m 217 #[VR ea, VI (Int32.ofNat (T).length), VI cc] [(.int (Int32.ofNat (((T ++ [(92:Int32)]) ++ own_hexs cc)).length))])) (fun _ k => st35 _ k) ?_
      refine OwnFin.leaf hP' ⟨_, _, own_retI X35 hx Bd.returns (hD d7_217) hr, hrun, hended, _, _, rfl, ?_, ⟨_, rfl⟩, hW, hsame.mono (by decide) (by decide)⟩
      have hTT : ((T ++ [(92:Int32)]) ++ own_hexs cc) = T ++ own_enc cc := by rw [own_encD hc4 hc159 (fun q => q.elim hc195 hc201)] <;> simp
      rw [show (T35.setFrames fs).heap = T35.heap from rfl]
      exact ⟨by rw [← hTT], N35, (((Keep.refl h0 [ea]).wr W33 (Or.inl (List.mem_of_getElem? (i := 0) rfl))).trans K35 (allS (Or.inl (List.mem_of_getElem? (i := 0) rfl)) all0)), by rw [← hTT]; exact Ve35⟩
theorem own_getz {T : List Int32} {i : Nat} (h : T.length ≤ i) : T.getD i 0 = 0 := by
  simp [List.getD_eq_getElem?_getD, List.getElem?_eq_none h]
theorem d28_0 : decode B28 0 = .ok (.iload_n 2, 1) := by decide +kernel
theorem d28_1 : decode B28 1 = .ok (.aload_n 0, 1) := by decide +kernel
theorem d28_2 : decode B28 2 = .ok (.arraylength, 1) := by decide +kernel
theorem d28_3 : decode B28 3 = .ok (.if_icmp .ge 9, 3) := by decide +kernel
theorem d28_6 : decode B28 6 = .ok (.aload_n 0, 1) := by decide +kernel
theorem d28_7 : decode B28 7 = .ok (.iload_n 2, 1) := by decide +kernel
theorem d28_8 : decode B28 8 = .ok (.baload, 1) := by decide +kernel
theorem d28_9 : decode B28 9 = .ok (.goto 4, 3) := by decide +kernel
theorem d28_13 : decode B28 13 = .ok (.aload_n 1, 1) := by decide +kernel
theorem d28_14 : decode B28 14 = .ok (.iload_n 2, 1) := by decide +kernel
theorem d28_15 : decode B28 15 = .ok (.baload, 1) := by decide +kernel
theorem d28_16 : decode B28 16 = .ok (.if_icmp .ne 7, 3) := by decide +kernel
theorem d28_19 : decode B28 19 = .ok (.iconst 1, 1) := by decide +kernel
theorem d28_20 : decode B28 20 = .ok (.goto 4, 3) := by decide +kernel
theorem d28_24 : decode B28 24 = .ok (.ireturn, 1) := by decide +kernel
theorem d28_12 : decode B28 12 = .ok (.iconst 0, 1) := by decide +kernel
theorem own_ef_eqAt (m : MethodId) (x0 : Addr) (x1 : Addr) (x2 : Int32) : entryFrame m #[(.ref x0), (.ref x1), (.int x2)] 3 = mkF m 0 #[.val (.ref x0), .val (.ref x1), .val (.int x2)] [] := by first | (simp [entryFrame, mkF, argsToLocals, Value.category]; done) | rfl
def own_Q_eqAt (Z : State) (xa ea : Addr) (kx ke : ClassId) (T : List Int32) (ix : Nat) (h0 : Heap) (n0 : Nat) (v : Option Value) (h : Heap) (L : List Loc) : Prop := v = some (.int (1 : Int32)) ∧ Fr n0 L ∧ h = h0
set_option maxRecDepth 65536 in
set_option maxHeartbeats 40000000 in
theorem own_eqAt (l : Launch) (Z : State) (a0 : Array Value) (hw : ∀ d ∈ tables_1, d.before a0 Z = true) (ws : List Jvm.Cond) (xa ea : Addr) (kx ke : ClassId) (T : List Int32) (ix : Nat) (h0 : Heap) (n0 : Nat) (Z0 : n0 ≤ h0.size) (Vx : Arv Z h0 xa kx .byte (Int32.ofNat (T).length) (T.map Value.int) (.int (0 : Int32))) (Ve : Arv Z h0 ea ke .byte (24 : Int32) (T.map Value.int) (.int (0 : Int32))) (hT : OwnLe T 24) (hix : ix < 24) :
    MetFree l own_M28 (head1 (Jvm.Cond.code own_M28 method_5_code 3 (some .boolean) :: ws) ({ frames := 0, cells := 0, slots := 0, locals := 0 } : Room)) (fun A0 U0 => A0 = #[(.ref xa), (.ref ea), (.int (Int32.ofNat ix))] ∧ Z.Warmed39 U0.vm ∧ U0.heap = h0) (fun _ _ _ _ _ => True) (fun _ U0 o0 U1 => ∃ v0 L0, o0 = .returned v0 ∧ own_Q_eqAt Z xa ea kx ke T ix h0 n0 v0 U1.heap L0 ∧ FrameEnd U0 o0 U1 L0 0 0) := by
  refine MetFree.of_bodySF (plainFor_of_name own_pn_tramline_routes_JsonWriterToByteArrayPinLaw) hisR ?_
  intro p e s m args below meth c s₁ Bd hml0 hP hK
  obtain ⟨rfl, hZ, hh⟩ := hP
  have hZs0 := hZ
  have hZs := hZ
  have hx := Bd.exec
  have hby := Bd.bytes
  have hD : ∀ {pc : Nat} {r : Except DecodeError (Instr × Nat)}, decode method_5_code pc = r → decode c.code pc = r := fun q => hb hby q
  have hml : c.maxLocals = 3 := hml0
  have hown : s.vm.findClass "tramline/routes/JsonWriterToByteArrayPinLaw" = some m.cls := findClass_of_methodNamed Bd.named
  have hnm := (name_of_methodNamed Bd.named Bd.method).1
  have X0 : Stand p l e ({ frames := 0, cells := 0, slots := 0, locals := 0 } : Room) s m #[(.ref xa), (.ref ea), (.int (Int32.ofNat ix))] below meth c s₁ [] 0 0 := Stand.of_body Bd
  have e0 : s₁.heap = h0 := by rw [← hh, Bd.state]; rfl
  have N0 := Fr.nil n0
  refine OwnFin.entry (own_ef_eqAt m xa ea (Int32.ofNat ix)) (fun P' hP' => ?_)
  have hT' : T.length ≤ 24 := hT
  obtain ⟨cl1, Ar1, ck1, S1, M1, H1, G1⟩ := id Vx
  refine OwnFin.adv (B := s₁.setTop (mkF m 2 #[VR xa, VR ea, VI (Int32.ofNat ix)] [(.ref xa), (.int (Int32.ofNat ix))])) (fun _ k => XS.iloadN X0.here hx rfl (hD d28_0) rfl (XS.aloadN X0.here hx rfl (hD d28_1) rfl rfl k)) ?_
  refine OwnFin.adv (B := s₁.setTop (mkF m 3 #[VR xa, VR ea, VI (Int32.ofNat ix)] [(.int (Int32.ofNat (T).length)), (.int (Int32.ofNat ix))])) (fun _ k => X0.arraylength hx (by rw [e0]; exact Ar1.1) (State.isArrayOf_alike hZ.alike Ar1.2.1) (g := (mkF m 2 #[VR xa, VR ea, VI (Int32.ofNat ix)] [(.ref xa), (.int (Int32.ofNat ix))])) rfl rfl (hD d28_2) _ (by rw [len_of S1 M1]; exact k)) ?_
  by_cases hc3 : (Int32.ofNat ix) < (Int32.ofNat (T).length)
  ·
   obtain ⟨cl2, Ar2, ck2, S2, M2, H2, G2⟩ := id Vx
   have hin2 : ¬ ((Int32.ofNat ix) < 0 ∨ cl2.slots.size ≤ ((Int32.ofNat ix)).toNatClampNeg) := inb_of S2 ⟨own_nn (by omega), hc3⟩
   obtain ⟨cl3, Ar3, ck3, S3, M3, H3, G3⟩ := id Ve
   have hin3 : ¬ ((Int32.ofNat ix) < 0 ∨ cl3.slots.size ≤ ((Int32.ofNat ix)).toNatClampNeg) := inb_of S3 ⟨own_nn (by omega), (own_ltn (b := 24) (by omega) (by omega)).mpr hix⟩
   have hc16_12 : (T.getD ix 0) = (T.getD ix 0) := rfl
   obtain ⟨fs, hr, hrun, hended, hW, hsame⟩ := X0.leave (v := some (.int 1)) (fun h => by rw [Bd.returns] at h; cases h)
   refine OwnFin.adv (B := s₁.setTop (mkF m 24 #[VR xa, VR ea, VI (Int32.ofNat ix)] [(.int 1)])) (fun _ k => XS.icmpNo X0.here hx rfl (hD d28_3) rfl (tlt hc3).2.1 (XS.aloadN X0.here hx rfl (hD d28_6) rfl rfl (XS.iloadN X0.here hx rfl (hD d28_7) rfl (X0.baloadBytes hx (j := (Int32.ofNat ix)) (v := (.int (T.getD ix 0))) (by rw [e0]; exact Ar2.1) (State.isArrayOf_alike hZ.alike Ar2.2.1) Ar2.2.2 hin2 (Has.at H2 hin2 (by rw [own_cl (by omega)]; exact own_mapget T ix)) (g := (mkF m 8 #[VR xa, VR ea, VI (Int32.ofNat ix)] [(.int (Int32.ofNat ix)), (.ref xa)])) rfl rfl (hD d28_8) _ (XS.goto X0.here hx rfl (pc0 := 9) (pc' := 13) rfl (hD d28_9) (by decide) (by decide) (XS.aloadN X0.here hx rfl (hD d28_13) rfl rfl (XS.iloadN X0.here hx rfl (hD d28_14) rfl (X0.baloadBytes hx (j := (Int32.ofNat ix)) (v := (.int (T.getD ix 0))) (by rw [e0]; exact Ar3.1) (State.isArrayOf_alike hZ.alike Ar3.2.1) Ar3.2.2 hin3 (Has.at H3 hin3 (by rw [own_cl (by omega)]; exact own_mapget T ix)) (g := (mkF m 15 #[VR xa, VR ea, VI (Int32.ofNat ix)] [(.int (Int32.ofNat ix)), (.ref ea), (.int (T.getD ix 0))])) rfl rfl (hD d28_15) _ (XS.icmpNo X0.here hx rfl (hD d28_16) rfl (teq hc16_12).2 (XS.iconst X0.here hx rfl (hD d28_19) (XS.goto X0.here hx rfl (pc0 := 20) (pc' := 24) rfl (hD d28_20) (by decide) (by decide) k))))))))))) ?_
   refine OwnFin.leaf hP' ⟨_, _, retN X0 hx (t := .boolean) Bd.returns (by simp) (hD d28_24) hr, hrun, hended, _, _, rfl, ?_, ⟨_, rfl⟩, hW, hsame.mono (by decide) (by decide)⟩
   exact ⟨rfl, N0, e0⟩
  ·
   obtain ⟨cl4, Ar4, ck4, S4, M4, H4, G4⟩ := id Ve
   have hin4 : ¬ ((Int32.ofNat ix) < 0 ∨ cl4.slots.size ≤ ((Int32.ofNat ix)).toNatClampNeg) := inb_of S4 ⟨own_nn (by omega), (own_ltn (b := 24) (by omega) (by omega)).mpr hix⟩
   have hc16_9 : (0:Int32) = (T.getD ix 0) := (own_getz (own_nlt (by omega) (by omega) hc3)).symm
   obtain ⟨fs, hr, hrun, hended, hW, hsame⟩ := X0.leave (v := some (.int 1)) (fun h => by rw [Bd.returns] at h; cases h)
   refine OwnFin.adv (B := s₁.setTop (mkF m 24 #[VR xa, VR ea, VI (Int32.ofNat ix)] [(.int 1)])) (fun _ k => XS.icmpYes X0.here hx rfl (pc0 := 3) (pc' := 12) rfl (hD d28_3) rfl (flt hc3).2.1 (by decide) (by decide) (XS.iconst X0.here hx rfl (hD d28_12) (XS.aloadN X0.here hx rfl (hD d28_13) rfl rfl (XS.iloadN X0.here hx rfl (hD d28_14) rfl (X0.baloadBytes hx (j := (Int32.ofNat ix)) (v := (.int (T.getD ix 0))) (by rw [e0]; exact Ar4.1) (State.isArrayOf_alike hZ.alike Ar4.2.1) Ar4.2.2 hin4 (Has.at H4 hin4 (by rw [own_cl (by omega)]; exact own_mapget T ix)) (g := (mkF m 15 #[VR xa, VR ea, VI (Int32.ofNat ix)] [(.int (Int32.ofNat ix)), (.ref ea), (.int 0)])) rfl rfl (hD d28_15) _ (XS.icmpNo X0.here hx rfl (hD d28_16) rfl (teq hc16_9).2 (XS.iconst X0.here hx rfl (hD d28_19) (XS.goto X0.here hx rfl (pc0 := 20) (pc' := 24) rfl (hD d28_20) (by decide) (by decide) k)))))))) ?_
   refine OwnFin.leaf hP' ⟨_, _, retN X0 hx (t := .boolean) Bd.returns (by simp) (hD d28_24) hr, hrun, hended, _, _, rfl, ?_, ⟨_, rfl⟩, hW, hsame.mono (by decide) (by decide)⟩
   exact ⟨rfl, N0, e0⟩
theorem d27_240 : decode B27 240 = .ok (.iconst 1, 1) := by decide +kernel
theorem d27_241 : decode B27 241 = .ok (.goto 4, 3) := by decide +kernel
theorem d27_245 : decode B27 245 = .ok (.ireturn, 1) := by decide +kernel
theorem d27_230 : decode B27 230 = .ok (.aload_n 0, 1) := by decide +kernel
theorem d27_231 : decode B27 231 = .ok (.aload_n 1, 1) := by decide +kernel
theorem d27_232 : decode B27 232 = .ok (.bipush 23, 2) := by decide +kernel
theorem own_pd22 : parseMethodDescriptor "([B[BI)Z" = some ⟨[(.array .byte), (.array .byte), .int], some .boolean⟩ := by decide +kernel
theorem d27_234 : decode B27 234 = .ok (.invokestatic 19, 3) := by decide +kernel
theorem d27_237 : decode B27 237 = .ok (.ifCond .eq 7, 3) := by decide +kernel
theorem d27_220 : decode B27 220 = .ok (.aload_n 0, 1) := by decide +kernel
theorem d27_221 : decode B27 221 = .ok (.aload_n 1, 1) := by decide +kernel
theorem d27_222 : decode B27 222 = .ok (.bipush 22, 2) := by decide +kernel
theorem d27_224 : decode B27 224 = .ok (.invokestatic 19, 3) := by decide +kernel
theorem d27_227 : decode B27 227 = .ok (.ifCond .eq 17, 3) := by decide +kernel
theorem d27_210 : decode B27 210 = .ok (.aload_n 0, 1) := by decide +kernel
theorem d27_211 : decode B27 211 = .ok (.aload_n 1, 1) := by decide +kernel
theorem d27_212 : decode B27 212 = .ok (.bipush 21, 2) := by decide +kernel
theorem d27_214 : decode B27 214 = .ok (.invokestatic 19, 3) := by decide +kernel
theorem d27_217 : decode B27 217 = .ok (.ifCond .eq 27, 3) := by decide +kernel
theorem d27_200 : decode B27 200 = .ok (.aload_n 0, 1) := by decide +kernel
theorem d27_201 : decode B27 201 = .ok (.aload_n 1, 1) := by decide +kernel
theorem d27_202 : decode B27 202 = .ok (.bipush 20, 2) := by decide +kernel
theorem d27_204 : decode B27 204 = .ok (.invokestatic 19, 3) := by decide +kernel
theorem d27_207 : decode B27 207 = .ok (.ifCond .eq 37, 3) := by decide +kernel
theorem d27_190 : decode B27 190 = .ok (.aload_n 0, 1) := by decide +kernel
theorem d27_191 : decode B27 191 = .ok (.aload_n 1, 1) := by decide +kernel
theorem d27_192 : decode B27 192 = .ok (.bipush 19, 2) := by decide +kernel
theorem d27_194 : decode B27 194 = .ok (.invokestatic 19, 3) := by decide +kernel
theorem d27_197 : decode B27 197 = .ok (.ifCond .eq 47, 3) := by decide +kernel
theorem d27_180 : decode B27 180 = .ok (.aload_n 0, 1) := by decide +kernel
theorem d27_181 : decode B27 181 = .ok (.aload_n 1, 1) := by decide +kernel
theorem d27_182 : decode B27 182 = .ok (.bipush 18, 2) := by decide +kernel
theorem d27_184 : decode B27 184 = .ok (.invokestatic 19, 3) := by decide +kernel
theorem d27_187 : decode B27 187 = .ok (.ifCond .eq 57, 3) := by decide +kernel
theorem d27_170 : decode B27 170 = .ok (.aload_n 0, 1) := by decide +kernel
theorem d27_171 : decode B27 171 = .ok (.aload_n 1, 1) := by decide +kernel
theorem d27_172 : decode B27 172 = .ok (.bipush 17, 2) := by decide +kernel
theorem d27_174 : decode B27 174 = .ok (.invokestatic 19, 3) := by decide +kernel
theorem d27_177 : decode B27 177 = .ok (.ifCond .eq 67, 3) := by decide +kernel
theorem d27_160 : decode B27 160 = .ok (.aload_n 0, 1) := by decide +kernel
theorem d27_161 : decode B27 161 = .ok (.aload_n 1, 1) := by decide +kernel
theorem d27_162 : decode B27 162 = .ok (.bipush 16, 2) := by decide +kernel
theorem d27_164 : decode B27 164 = .ok (.invokestatic 19, 3) := by decide +kernel
theorem d27_167 : decode B27 167 = .ok (.ifCond .eq 77, 3) := by decide +kernel
theorem d27_150 : decode B27 150 = .ok (.aload_n 0, 1) := by decide +kernel
theorem d27_151 : decode B27 151 = .ok (.aload_n 1, 1) := by decide +kernel
theorem d27_152 : decode B27 152 = .ok (.bipush 15, 2) := by decide +kernel
theorem d27_154 : decode B27 154 = .ok (.invokestatic 19, 3) := by decide +kernel
theorem d27_157 : decode B27 157 = .ok (.ifCond .eq 87, 3) := by decide +kernel
theorem d27_140 : decode B27 140 = .ok (.aload_n 0, 1) := by decide +kernel
theorem d27_141 : decode B27 141 = .ok (.aload_n 1, 1) := by decide +kernel
theorem d27_142 : decode B27 142 = .ok (.bipush 14, 2) := by decide +kernel
theorem d27_144 : decode B27 144 = .ok (.invokestatic 19, 3) := by decide +kernel
theorem d27_147 : decode B27 147 = .ok (.ifCond .eq 97, 3) := by decide +kernel
theorem d27_130 : decode B27 130 = .ok (.aload_n 0, 1) := by decide +kernel
theorem d27_131 : decode B27 131 = .ok (.aload_n 1, 1) := by decide +kernel
theorem d27_132 : decode B27 132 = .ok (.bipush 13, 2) := by decide +kernel
theorem d27_134 : decode B27 134 = .ok (.invokestatic 19, 3) := by decide +kernel
theorem d27_137 : decode B27 137 = .ok (.ifCond .eq 107, 3) := by decide +kernel
theorem d27_120 : decode B27 120 = .ok (.aload_n 0, 1) := by decide +kernel
theorem d27_121 : decode B27 121 = .ok (.aload_n 1, 1) := by decide +kernel
theorem d27_122 : decode B27 122 = .ok (.bipush 12, 2) := by decide +kernel
theorem d27_124 : decode B27 124 = .ok (.invokestatic 19, 3) := by decide +kernel
theorem d27_127 : decode B27 127 = .ok (.ifCond .eq 117, 3) := by decide +kernel
theorem d27_110 : decode B27 110 = .ok (.aload_n 0, 1) := by decide +kernel
theorem d27_111 : decode B27 111 = .ok (.aload_n 1, 1) := by decide +kernel
theorem d27_112 : decode B27 112 = .ok (.bipush 11, 2) := by decide +kernel
theorem d27_114 : decode B27 114 = .ok (.invokestatic 19, 3) := by decide +kernel
theorem d27_117 : decode B27 117 = .ok (.ifCond .eq 127, 3) := by decide +kernel
theorem d27_100 : decode B27 100 = .ok (.aload_n 0, 1) := by decide +kernel
theorem d27_101 : decode B27 101 = .ok (.aload_n 1, 1) := by decide +kernel
theorem d27_102 : decode B27 102 = .ok (.bipush 10, 2) := by decide +kernel
theorem d27_104 : decode B27 104 = .ok (.invokestatic 19, 3) := by decide +kernel
theorem d27_107 : decode B27 107 = .ok (.ifCond .eq 137, 3) := by decide +kernel
theorem d27_90 : decode B27 90 = .ok (.aload_n 0, 1) := by decide +kernel
theorem d27_91 : decode B27 91 = .ok (.aload_n 1, 1) := by decide +kernel
theorem d27_92 : decode B27 92 = .ok (.bipush 9, 2) := by decide +kernel
theorem d27_94 : decode B27 94 = .ok (.invokestatic 19, 3) := by decide +kernel
theorem d27_97 : decode B27 97 = .ok (.ifCond .eq 147, 3) := by decide +kernel
theorem d27_80 : decode B27 80 = .ok (.aload_n 0, 1) := by decide +kernel
theorem d27_81 : decode B27 81 = .ok (.aload_n 1, 1) := by decide +kernel
theorem d27_82 : decode B27 82 = .ok (.bipush 8, 2) := by decide +kernel
theorem d27_84 : decode B27 84 = .ok (.invokestatic 19, 3) := by decide +kernel
theorem d27_87 : decode B27 87 = .ok (.ifCond .eq 157, 3) := by decide +kernel
theorem d27_70 : decode B27 70 = .ok (.aload_n 0, 1) := by decide +kernel
theorem d27_71 : decode B27 71 = .ok (.aload_n 1, 1) := by decide +kernel
theorem d27_72 : decode B27 72 = .ok (.bipush 7, 2) := by decide +kernel
theorem d27_74 : decode B27 74 = .ok (.invokestatic 19, 3) := by decide +kernel
theorem d27_77 : decode B27 77 = .ok (.ifCond .eq 167, 3) := by decide +kernel
theorem d27_60 : decode B27 60 = .ok (.aload_n 0, 1) := by decide +kernel
theorem d27_61 : decode B27 61 = .ok (.aload_n 1, 1) := by decide +kernel
theorem d27_62 : decode B27 62 = .ok (.bipush 6, 2) := by decide +kernel
theorem d27_64 : decode B27 64 = .ok (.invokestatic 19, 3) := by decide +kernel
theorem d27_67 : decode B27 67 = .ok (.ifCond .eq 177, 3) := by decide +kernel
theorem d27_51 : decode B27 51 = .ok (.aload_n 0, 1) := by decide +kernel
theorem d27_52 : decode B27 52 = .ok (.aload_n 1, 1) := by decide +kernel
theorem d27_53 : decode B27 53 = .ok (.iconst 5, 1) := by decide +kernel
theorem d27_54 : decode B27 54 = .ok (.invokestatic 19, 3) := by decide +kernel
theorem d27_57 : decode B27 57 = .ok (.ifCond .eq 187, 3) := by decide +kernel
theorem d27_42 : decode B27 42 = .ok (.aload_n 0, 1) := by decide +kernel
theorem d27_43 : decode B27 43 = .ok (.aload_n 1, 1) := by decide +kernel
theorem d27_44 : decode B27 44 = .ok (.iconst 4, 1) := by decide +kernel
theorem d27_45 : decode B27 45 = .ok (.invokestatic 19, 3) := by decide +kernel
theorem d27_48 : decode B27 48 = .ok (.ifCond .eq 196, 3) := by decide +kernel
theorem d27_33 : decode B27 33 = .ok (.aload_n 0, 1) := by decide +kernel
theorem d27_34 : decode B27 34 = .ok (.aload_n 1, 1) := by decide +kernel
theorem d27_35 : decode B27 35 = .ok (.iconst 3, 1) := by decide +kernel
theorem d27_36 : decode B27 36 = .ok (.invokestatic 19, 3) := by decide +kernel
theorem d27_39 : decode B27 39 = .ok (.ifCond .eq 205, 3) := by decide +kernel
theorem d27_24 : decode B27 24 = .ok (.aload_n 0, 1) := by decide +kernel
theorem d27_25 : decode B27 25 = .ok (.aload_n 1, 1) := by decide +kernel
theorem d27_26 : decode B27 26 = .ok (.iconst 2, 1) := by decide +kernel
theorem d27_27 : decode B27 27 = .ok (.invokestatic 19, 3) := by decide +kernel
theorem d27_30 : decode B27 30 = .ok (.ifCond .eq 214, 3) := by decide +kernel
theorem d27_15 : decode B27 15 = .ok (.aload_n 0, 1) := by decide +kernel
theorem d27_16 : decode B27 16 = .ok (.aload_n 1, 1) := by decide +kernel
theorem d27_17 : decode B27 17 = .ok (.iconst 1, 1) := by decide +kernel
theorem d27_18 : decode B27 18 = .ok (.invokestatic 19, 3) := by decide +kernel
theorem d27_21 : decode B27 21 = .ok (.ifCond .eq 223, 3) := by decide +kernel
theorem d27_0 : decode B27 0 = .ok (.aload_n 0, 1) := by decide +kernel
theorem d27_1 : decode B27 1 = .ok (.arraylength, 1) := by decide +kernel
theorem d27_2 : decode B27 2 = .ok (.iload_n 2, 1) := by decide +kernel
theorem d27_3 : decode B27 3 = .ok (.if_icmp .ne 241, 3) := by decide +kernel
theorem d27_6 : decode B27 6 = .ok (.aload_n 0, 1) := by decide +kernel
theorem d27_7 : decode B27 7 = .ok (.aload_n 1, 1) := by decide +kernel
theorem d27_8 : decode B27 8 = .ok (.iconst 0, 1) := by decide +kernel
theorem d27_9 : decode B27 9 = .ok (.invokestatic 19, 3) := by decide +kernel
theorem d27_12 : decode B27 12 = .ok (.ifCond .eq 232, 3) := by decide +kernel
theorem own_ef_same0 (m : MethodId) (x0 : Addr) (x1 : Addr) (x2 : Int32) : entryFrame m #[(.ref x0), (.ref x1), (.int x2)] 3 = mkF m 0 #[.val (.ref x0), .val (.ref x1), .val (.int x2)] [] := by first | (simp [entryFrame, mkF, argsToLocals, Value.category]; done) | rfl
def own_Q_same0 (Z : State) (xa ea : Addr) (kx ke : ClassId) (T : List Int32) (h0 : Heap) (n0 : Nat) (v : Option Value) (h : Heap) (L : List Loc) : Prop := v = some (.int (1 : Int32)) ∧ Fr n0 L ∧ h = h0
set_option maxRecDepth 65536 in
set_option maxHeartbeats 40000000 in
theorem own_same0 (l : Launch) (Z : State) (a0 : Array Value) (hw : ∀ d ∈ tables_1, d.before a0 Z = true) (ws : List Jvm.Cond) (xa ea : Addr) (kx ke : ClassId) (T : List Int32) (h0 : Heap) (n0 : Nat) (Z0 : n0 ≤ h0.size) (Vx : Arv Z h0 xa kx .byte (Int32.ofNat (T).length) (T.map Value.int) (.int (0 : Int32))) (Ve : Arv Z h0 ea ke .byte (24 : Int32) (T.map Value.int) (.int (0 : Int32))) (hT : OwnLe T 24) :
    MetFree l own_M27 (head1 (Jvm.Cond.code own_M27 method_6_code 3 (some .boolean) :: ws) ({ frames := 1, cells := 0, slots := 0, locals := 14 } : Room)) (fun A0 U0 => A0 = #[(.ref xa), (.ref ea), (.int (Int32.ofNat (T).length))] ∧ Z.Warmed39 U0.vm ∧ U0.heap = h0) (fun _ _ _ _ _ => True) (fun _ U0 o0 U1 => ∃ v0 L0, o0 = .returned v0 ∧ own_Q_same0 Z xa ea kx ke T h0 n0 v0 U1.heap L0 ∧ FrameEnd U0 o0 U1 L0 0 0) := by
  refine MetFree.of_bodySF (plainFor_of_name own_pn_tramline_routes_JsonWriterToByteArrayPinLaw) hisR ?_
  intro p e s m args below meth c s₁ Bd hml0 hP hK
  obtain ⟨rfl, hZ, hh⟩ := hP
  have hZs0 := hZ
  have hZs := hZ
  have hx := Bd.exec
  have hby := Bd.bytes
  have hD : ∀ {pc : Nat} {r : Except DecodeError (Instr × Nat)}, decode method_6_code pc = r → decode c.code pc = r := fun q => hb hby q
  have hml : c.maxLocals = 3 := hml0
  have hown : s.vm.findClass "tramline/routes/JsonWriterToByteArrayPinLaw" = some m.cls := findClass_of_methodNamed Bd.named
  have hnm := (name_of_methodNamed Bd.named Bd.method).1
  have X0 : Stand p l e ({ frames := 1, cells := 0, slots := 0, locals := 14 } : Room) s m #[(.ref xa), (.ref ea), (.int (Int32.ofNat (T).length))] below meth c s₁ [] 0 0 := Stand.of_body Bd
  have e0 : s₁.heap = h0 := by rw [← hh, Bd.state]; rfl
  have N0 := Fr.nil n0
  refine OwnFin.entry (own_ef_same0 m xa ea (Int32.ofNat (T).length)) (fun P' hP' => ?_)
  have hT' : T.length ≤ 24 := hT
  have J240 : ∀  (TJ : State) (LJ : List Loc) (XJ : Stand p l e ({ frames := 1, cells := 0, slots := 0, locals := 14 } : Room) s m #[(.ref xa), (.ref ea), (.int (Int32.ofNat (T).length))] below meth c TJ LJ 0 0) (eJ : TJ.heap = h0) (NJ : Fr n0 LJ), OwnFin p.tables e below P' (TJ.setTop (mkF m 240 #[VR xa, VR ea, VI (Int32.ofNat (T).length)] [])) := by
   intro  TJ LJ XJ eJ NJ 
   obtain ⟨fs, hr, hrun, hended, hW, hsame⟩ := XJ.leave (v := some (.int 1)) (fun h => by rw [Bd.returns] at h; cases h)
   refine OwnFin.adv (B := TJ.setTop (mkF m 245 #[VR xa, VR ea, VI (Int32.ofNat (T).length)] [(.int 1)])) (fun _ k => XS.iconst XJ.here hx rfl (hD d27_240) (XS.goto XJ.here hx rfl (pc0 := 241) (pc' := 245) rfl (hD d27_241) (by decide) (by decide) k)) ?_
   refine OwnFin.leaf hP' ⟨_, _, retN XJ hx (t := .boolean) Bd.returns (by simp) (hD d27_245) hr, hrun, hended, _, _, rfl, ?_, ⟨_, rfl⟩, hW, hsame.mono (by decide) (by decide)⟩
   exact ⟨rfl, NJ, eJ⟩
  have J230 : ∀  (TJ : State) (LJ : List Loc) (XJ : Stand p l e ({ frames := 1, cells := 0, slots := 0, locals := 14 } : Room) s m #[(.ref xa), (.ref ea), (.int (Int32.ofNat (T).length))] below meth c TJ LJ 0 0) (eJ : TJ.heap = h0) (NJ : Fr n0 LJ), OwnFin p.tables e below P' (TJ.setTop (mkF m 230 #[VR xa, VR ea, VI (Int32.ofNat (T).length)] [])) := by
   intro  TJ LJ XJ eJ NJ 
   obtain ⟨_, _, ⟨T3, L3, k3, n3⟩, -, X3, ⟨Lc3, hQ3, l3, y3, z3⟩, st3⟩ := Jvm.LawKit.callS XJ hx (y := own_M28) hown (mvT hZ (own_w hw 140 rfl)) (mvT hZ (own_w hw 141 rfl)) (mvT hZ (own_w hw 33 rfl)) (mvT hZ (own_w hw 142 rfl)) (by decide) (backOf (W := 0) (own_eqAt l Z a0 hw [] xa ea kx ke T 23 h0 n0 (by omega) Vx Ve hT (by decide)) hZ (own_w hw 142 rfl) (own_w hw 33 rfl) (by decide) (by decide)) (g := (mkF m 234 #[VR xa, VR ea, VI (Int32.ofNat (T).length)] [(.int 23), (.ref ea), (.ref xa)])) rfl (by rw [hml]; rfl) (argsL := [(.ref xa), (.ref ea), (.int 23)]) (rest := []) (lenOf own_pd22 rfl) rfl (by show 2 * 0 + _ ≤ _; exact Nat.le_of_eq rfl) (hD d27_234) (fun _ _ => ⟨rfl, eJ, (by decide : 0 + 0 ≤ _), (by decide : 0 + 0 ≤ _)⟩)
   dsimp only [Pt.U, Pt.locs, Pt.cells, Pt.slots] at X3 l3 y3 z3 st3 hQ3
   subst l3 y3 z3
   obtain ⟨rfl, N3q, eh3⟩ := hQ3
   have N3 := Fr.app NJ N3q
   have hc237_5 : ¬ ((1:Int32) = (0:Int32)) := by decide
   refine OwnFin.adv (B := T3.setTop (mkF m 240 #[VR xa, VR ea, VI (Int32.ofNat (T).length)] [])) (fun _ k => XS.aloadN XJ.here hx rfl (hD d27_230) rfl rfl (XS.aloadN XJ.here hx rfl (hD d27_231) rfl rfl (XS.bipush XJ.here hx rfl (hD d27_232) (st3 _ (XS.ifNo X3.here hx rfl (hD d27_237) rfl ((if0 _ _).trans (feq hc237_5).1) k))))) ?_
   exact J240 T3 _ X3 eh3 N3
  have J220 : ∀  (TJ : State) (LJ : List Loc) (XJ : Stand p l e ({ frames := 1, cells := 0, slots := 0, locals := 14 } : Room) s m #[(.ref xa), (.ref ea), (.int (Int32.ofNat (T).length))] below meth c TJ LJ 0 0) (eJ : TJ.heap = h0) (NJ : Fr n0 LJ), OwnFin p.tables e below P' (TJ.setTop (mkF m 220 #[VR xa, VR ea, VI (Int32.ofNat (T).length)] [])) := by
   intro  TJ LJ XJ eJ NJ 
   obtain ⟨_, _, ⟨T5, L5, k5, n5⟩, -, X5, ⟨Lc5, hQ5, l5, y5, z5⟩, st5⟩ := Jvm.LawKit.callS XJ hx (y := own_M28) hown (mvT hZ (own_w hw 140 rfl)) (mvT hZ (own_w hw 141 rfl)) (mvT hZ (own_w hw 33 rfl)) (mvT hZ (own_w hw 142 rfl)) (by decide) (backOf (W := 0) (own_eqAt l Z a0 hw [] xa ea kx ke T 22 h0 n0 (by omega) Vx Ve hT (by decide)) hZ (own_w hw 142 rfl) (own_w hw 33 rfl) (by decide) (by decide)) (g := (mkF m 224 #[VR xa, VR ea, VI (Int32.ofNat (T).length)] [(.int 22), (.ref ea), (.ref xa)])) rfl (by rw [hml]; rfl) (argsL := [(.ref xa), (.ref ea), (.int 22)]) (rest := []) (lenOf own_pd22 rfl) rfl (by show 2 * 0 + _ ≤ _; exact Nat.le_of_eq rfl) (hD d27_224) (fun _ _ => ⟨rfl, eJ, (by decide : 0 + 0 ≤ _), (by decide : 0 + 0 ≤ _)⟩)
   dsimp only [Pt.U, Pt.locs, Pt.cells, Pt.slots] at X5 l5 y5 z5 st5 hQ5
   subst l5 y5 z5
   obtain ⟨rfl, N5q, eh5⟩ := hQ5
   have N5 := Fr.app NJ N5q
   have hc227_5 : ¬ ((1:Int32) = (0:Int32)) := by decide
   refine OwnFin.adv (B := T5.setTop (mkF m 230 #[VR xa, VR ea, VI (Int32.ofNat (T).length)] [])) (fun _ k => XS.aloadN XJ.here hx rfl (hD d27_220) rfl rfl (XS.aloadN XJ.here hx rfl (hD d27_221) rfl rfl (XS.bipush XJ.here hx rfl (hD d27_222) (st5 _ (XS.ifNo X5.here hx rfl (hD d27_227) rfl ((if0 _ _).trans (feq hc227_5).1) k))))) ?_
   exact J230 T5 _ X5 eh5 N5
  have J210 : ∀  (TJ : State) (LJ : List Loc) (XJ : Stand p l e ({ frames := 1, cells := 0, slots := 0, locals := 14 } : Room) s m #[(.ref xa), (.ref ea), (.int (Int32.ofNat (T).length))] below meth c TJ LJ 0 0) (eJ : TJ.heap = h0) (NJ : Fr n0 LJ), OwnFin p.tables e below P' (TJ.setTop (mkF m 210 #[VR xa, VR ea, VI (Int32.ofNat (T).length)] [])) := by
   intro  TJ LJ XJ eJ NJ 
   obtain ⟨_, _, ⟨T7, L7, k7, n7⟩, -, X7, ⟨Lc7, hQ7, l7, y7, z7⟩, st7⟩ := Jvm.LawKit.callS XJ hx (y := own_M28) hown (mvT hZ (own_w hw 140 rfl)) (mvT hZ (own_w hw 141 rfl)) (mvT hZ (own_w hw 33 rfl)) (mvT hZ (own_w hw 142 rfl)) (by decide) (backOf (W := 0) (own_eqAt l Z a0 hw [] xa ea kx ke T 21 h0 n0 (by omega) Vx Ve hT (by decide)) hZ (own_w hw 142 rfl) (own_w hw 33 rfl) (by decide) (by decide)) (g := (mkF m 214 #[VR xa, VR ea, VI (Int32.ofNat (T).length)] [(.int 21), (.ref ea), (.ref xa)])) rfl (by rw [hml]; rfl) (argsL := [(.ref xa), (.ref ea), (.int 21)]) (rest := []) (lenOf own_pd22 rfl) rfl (by show 2 * 0 + _ ≤ _; exact Nat.le_of_eq rfl) (hD d27_214) (fun _ _ => ⟨rfl, eJ, (by decide : 0 + 0 ≤ _), (by decide : 0 + 0 ≤ _)⟩)
   dsimp only [Pt.U, Pt.locs, Pt.cells, Pt.slots] at X7 l7 y7 z7 st7 hQ7
   subst l7 y7 z7
   obtain ⟨rfl, N7q, eh7⟩ := hQ7
   have N7 := Fr.app NJ N7q
   have hc217_5 : ¬ ((1:Int32) = (0:Int32)) := by decide
   refine OwnFin.adv (B := T7.setTop (mkF m 220 #[VR xa, VR ea, VI (Int32.ofNat (T).length)] [])) (fun _ k => XS.aloadN XJ.here hx rfl (hD d27_210) rfl rfl (XS.aloadN XJ.here hx rfl (hD d27_211) rfl rfl (XS.bipush XJ.here hx rfl (hD d27_212) (st7 _ (XS.ifNo X7.here hx rfl (hD d27_217) rfl ((if0 _ _).trans (feq hc217_5).1) k))))) ?_
   exact J220 T7 _ X7 eh7 N7
  have J200 : ∀  (TJ : State) (LJ : List Loc) (XJ : Stand p l e ({ frames := 1, cells := 0, slots := 0, locals := 14 } : Room) s m #[(.ref xa), (.ref ea), (.int (Int32.ofNat (T).length))] below meth c TJ LJ 0 0) (eJ : TJ.heap = h0) (NJ : Fr n0 LJ), OwnFin p.tables e below P' (TJ.setTop (mkF m 200 #[VR xa, VR ea, VI (Int32.ofNat (T).length)] [])) := by
   intro  TJ LJ XJ eJ NJ 
   obtain ⟨_, _, ⟨T9, L9, k9, n9⟩, -, X9, ⟨Lc9, hQ9, l9, y9, z9⟩, st9⟩ := Jvm.LawKit.callS XJ hx (y := own_M28) hown (mvT hZ (own_w hw 140 rfl)) (mvT hZ (own_w hw 141 rfl)) (mvT hZ (own_w hw 33 rfl)) (mvT hZ (own_w hw 142 rfl)) (by decide) (backOf (W := 0) (own_eqAt l Z a0 hw [] xa ea kx ke T 20 h0 n0 (by omega) Vx Ve hT (by decide)) hZ (own_w hw 142 rfl) (own_w hw 33 rfl) (by decide) (by decide)) (g := (mkF m 204 #[VR xa, VR ea, VI (Int32.ofNat (T).length)] [(.int 20), (.ref ea), (.ref xa)])) rfl (by rw [hml]; rfl) (argsL := [(.ref xa), (.ref ea), (.int 20)]) (rest := []) (lenOf own_pd22 rfl) rfl (by show 2 * 0 + _ ≤ _; exact Nat.le_of_eq rfl) (hD d27_204) (fun _ _ => ⟨rfl, eJ, (by decide : 0 + 0 ≤ _), (by decide : 0 + 0 ≤ _)⟩)
   dsimp only [Pt.U, Pt.locs, Pt.cells, Pt.slots] at X9 l9 y9 z9 st9 hQ9
   subst l9 y9 z9
   obtain ⟨rfl, N9q, eh9⟩ := hQ9
   have N9 := Fr.app NJ N9q
   have hc207_5 : ¬ ((1:Int32) = (0:Int32)) := by decide
   refine OwnFin.adv (B := T9.setTop (mkF m 210 #[VR xa, VR ea, VI (Int32.ofNat (T).length)] [])) (fun _ k => XS.aloadN XJ.here hx rfl (hD d27_200) rfl rfl (XS.aloadN XJ.here hx rfl (hD d27_201) rfl rfl (XS.bipush XJ.here hx rfl (hD d27_202) (st9 _ (XS.ifNo X9.here hx rfl (hD d27_207) rfl ((if0 _ _).trans (feq hc207_5).1) k))))) ?_
   exact J210 T9 _ X9 eh9 N9
  have J190 : ∀  (TJ : State) (LJ : List Loc) (XJ : Stand p l e ({ frames := 1, cells := 0, slots := 0, locals := 14 } : Room) s m #[(.ref xa), (.ref ea), (.int (Int32.ofNat (T).length))] below meth c TJ LJ 0 0) (eJ : TJ.heap = h0) (NJ : Fr n0 LJ), OwnFin p.tables e below P' (TJ.setTop (mkF m 190 #[VR xa, VR ea, VI (Int32.ofNat (T).length)] [])) := by
   intro  TJ LJ XJ eJ NJ 
   obtain ⟨_, _, ⟨T11, L11, k11, n11⟩, -, X11, ⟨Lc11, hQ11, l11, y11, z11⟩, st11⟩ := Jvm.LawKit.callS XJ hx (y := own_M28) hown (mvT hZ (own_w hw 140 rfl)) (mvT hZ (own_w hw 141 rfl)) (mvT hZ (own_w hw 33 rfl)) (mvT hZ (own_w hw 142 rfl)) (by decide) (backOf (W := 0) (own_eqAt l Z a0 hw [] xa ea kx ke T 19 h0 n0 (by omega) Vx Ve hT (by decide)) hZ (own_w hw 142 rfl) (own_w hw 33 rfl) (by decide) (by decide)) (g := (mkF m 194 #[VR xa, VR ea, VI (Int32.ofNat (T).length)] [(.int 19), (.ref ea), (.ref xa)])) rfl (by rw [hml]; rfl) (argsL := [(.ref xa), (.ref ea), (.int 19)]) (rest := []) (lenOf own_pd22 rfl) rfl (by show 2 * 0 + _ ≤ _; exact Nat.le_of_eq rfl) (hD d27_194) (fun _ _ => ⟨rfl, eJ, (by decide : 0 + 0 ≤ _), (by decide : 0 + 0 ≤ _)⟩)
   dsimp only [Pt.U, Pt.locs, Pt.cells, Pt.slots] at X11 l11 y11 z11 st11 hQ11
   subst l11 y11 z11
   obtain ⟨rfl, N11q, eh11⟩ := hQ11
   have N11 := Fr.app NJ N11q
   have hc197_5 : ¬ ((1:Int32) = (0:Int32)) := by decide
   refine OwnFin.adv (B := T11.setTop (mkF m 200 #[VR xa, VR ea, VI (Int32.ofNat (T).length)] [])) (fun _ k => XS.aloadN XJ.here hx rfl (hD d27_190) rfl rfl (XS.aloadN XJ.here hx rfl (hD d27_191) rfl rfl (XS.bipush XJ.here hx rfl (hD d27_192) (st11 _ (XS.ifNo X11.here hx rfl (hD d27_197) rfl ((if0 _ _).trans (feq hc197_5).1) k))))) ?_
   exact J200 T11 _ X11 eh11 N11
  have J180 : ∀  (TJ : State) (LJ : List Loc) (XJ : Stand p l e ({ frames := 1, cells := 0, slots := 0, locals := 14 } : Room) s m #[(.ref xa), (.ref ea), (.int (Int32.ofNat (T).length))] below meth c TJ LJ 0 0) (eJ : TJ.heap = h0) (NJ : Fr n0 LJ), OwnFin p.tables e below P' (TJ.setTop (mkF m 180 #[VR xa, VR ea, VI (Int32.ofNat (T).length)] [])) := by
   intro  TJ LJ XJ eJ NJ 
   obtain ⟨_, _, ⟨T13, L13, k13, n13⟩, -, X13, ⟨Lc13, hQ13, l13, y13, z13⟩, st13⟩ := Jvm.LawKit.callS XJ hx (y := own_M28) hown (mvT hZ (own_w hw 140 rfl)) (mvT hZ (own_w hw 141 rfl)) (mvT hZ (own_w hw 33 rfl)) (mvT hZ (own_w hw 142 rfl)) (by decide) (backOf (W := 0) (own_eqAt l Z a0 hw [] xa ea kx ke T 18 h0 n0 (by omega) Vx Ve hT (by decide)) hZ (own_w hw 142 rfl) (own_w hw 33 rfl) (by decide) (by decide)) (g := (mkF m 184 #[VR xa, VR ea, VI (Int32.ofNat (T).length)] [(.int 18), (.ref ea), (.ref xa)])) rfl (by rw [hml]; rfl) (argsL := [(.ref xa), (.ref ea), (.int 18)]) (rest := []) (lenOf own_pd22 rfl) rfl (by show 2 * 0 + _ ≤ _; exact Nat.le_of_eq rfl) (hD d27_184) (fun _ _ => ⟨rfl, eJ, (by decide : 0 + 0 ≤ _), (by decide : 0 + 0 ≤ _)⟩)
   dsimp only [Pt.U, Pt.locs, Pt.cells, Pt.slots] at X13 l13 y13 z13 st13 hQ13
   subst l13 y13 z13
   obtain ⟨rfl, N13q, eh13⟩ := hQ13
   have N13 := Fr.app NJ N13q
   have hc187_5 : ¬ ((1:Int32) = (0:Int32)) := by decide
   refine OwnFin.adv (B := T13.setTop (mkF m 190 #[VR xa, VR ea, VI (Int32.ofNat (T).length)] [])) (fun _ k => XS.aloadN XJ.here hx rfl (hD d27_180) rfl rfl (XS.aloadN XJ.here hx rfl (hD d27_181) rfl rfl (XS.bipush XJ.here hx rfl (hD d27_182) (st13 _ (XS.ifNo X13.here hx rfl (hD d27_187) rfl ((if0 _ _).trans (feq hc187_5).1) k))))) ?_
   exact J190 T13 _ X13 eh13 N13
  have J170 : ∀  (TJ : State) (LJ : List Loc) (XJ : Stand p l e ({ frames := 1, cells := 0, slots := 0, locals := 14 } : Room) s m #[(.ref xa), (.ref ea), (.int (Int32.ofNat (T).length))] below meth c TJ LJ 0 0) (eJ : TJ.heap = h0) (NJ : Fr n0 LJ), OwnFin p.tables e below P' (TJ.setTop (mkF m 170 #[VR xa, VR ea, VI (Int32.ofNat (T).length)] [])) := by
   intro  TJ LJ XJ eJ NJ 
   obtain ⟨_, _, ⟨T15, L15, k15, n15⟩, -, X15, ⟨Lc15, hQ15, l15, y15, z15⟩, st15⟩ := Jvm.LawKit.callS XJ hx (y := own_M28) hown (mvT hZ (own_w hw 140 rfl)) (mvT hZ (own_w hw 141 rfl)) (mvT hZ (own_w hw 33 rfl)) (mvT hZ (own_w hw 142 rfl)) (by decide) (backOf (W := 0) (own_eqAt l Z a0 hw [] xa ea kx ke T 17 h0 n0 (by omega) Vx Ve hT (by decide)) hZ (own_w hw 142 rfl) (own_w hw 33 rfl) (by decide) (by decide)) (g := (mkF m 174 #[VR xa, VR ea, VI (Int32.ofNat (T).length)] [(.int 17), (.ref ea), (.ref xa)])) rfl (by rw [hml]; rfl) (argsL := [(.ref xa), (.ref ea), (.int 17)]) (rest := []) (lenOf own_pd22 rfl) rfl (by show 2 * 0 + _ ≤ _; exact Nat.le_of_eq rfl) (hD d27_174) (fun _ _ => ⟨rfl, eJ, (by decide : 0 + 0 ≤ _), (by decide : 0 + 0 ≤ _)⟩)
   dsimp only [Pt.U, Pt.locs, Pt.cells, Pt.slots] at X15 l15 y15 z15 st15 hQ15
   subst l15 y15 z15
   obtain ⟨rfl, N15q, eh15⟩ := hQ15
   have N15 := Fr.app NJ N15q
   have hc177_5 : ¬ ((1:Int32) = (0:Int32)) := by decide
   refine OwnFin.adv (B := T15.setTop (mkF m 180 #[VR xa, VR ea, VI (Int32.ofNat (T).length)] [])) (fun _ k => XS.aloadN XJ.here hx rfl (hD d27_170) rfl rfl (XS.aloadN XJ.here hx rfl (hD d27_171) rfl rfl (XS.bipush XJ.here hx rfl (hD d27_172) (st15 _ (XS.ifNo X15.here hx rfl (hD d27_177) rfl ((if0 _ _).trans (feq hc177_5).1) k))))) ?_
   exact J180 T15 _ X15 eh15 N15
  have J160 : ∀  (TJ : State) (LJ : List Loc) (XJ : Stand p l e ({ frames := 1, cells := 0, slots := 0, locals := 14 } : Room) s m #[(.ref xa), (.ref ea), (.int (Int32.ofNat (T).length))] below meth c TJ LJ 0 0) (eJ : TJ.heap = h0) (NJ : Fr n0 LJ), OwnFin p.tables e below P' (TJ.setTop (mkF m 160 #[VR xa, VR ea, VI (Int32.ofNat (T).length)] [])) := by
   intro  TJ LJ XJ eJ NJ 
   obtain ⟨_, _, ⟨T17, L17, k17, n17⟩, -, X17, ⟨Lc17, hQ17, l17, y17, z17⟩, st17⟩ := Jvm.LawKit.callS XJ hx (y := own_M28) hown (mvT hZ (own_w hw 140 rfl)) (mvT hZ (own_w hw 141 rfl)) (mvT hZ (own_w hw 33 rfl)) (mvT hZ (own_w hw 142 rfl)) (by decide) (backOf (W := 0) (own_eqAt l Z a0 hw [] xa ea kx ke T 16 h0 n0 (by omega) Vx Ve hT (by decide)) hZ (own_w hw 142 rfl) (own_w hw 33 rfl) (by decide) (by decide)) (g := (mkF m 164 #[VR xa, VR ea, VI (Int32.ofNat (T).length)] [(.int 16), (.ref ea), (.ref xa)])) rfl (by rw [hml]; rfl) (argsL := [(.ref xa), (.ref ea), (.int 16)]) (rest := []) (lenOf own_pd22 rfl) rfl (by show 2 * 0 + _ ≤ _; exact Nat.le_of_eq rfl) (hD d27_164) (fun _ _ => ⟨rfl, eJ, (by decide : 0 + 0 ≤ _), (by decide : 0 + 0 ≤ _)⟩)
   dsimp only [Pt.U, Pt.locs, Pt.cells, Pt.slots] at X17 l17 y17 z17 st17 hQ17
   subst l17 y17 z17
   obtain ⟨rfl, N17q, eh17⟩ := hQ17
   have N17 := Fr.app NJ N17q
   have hc167_5 : ¬ ((1:Int32) = (0:Int32)) := by decide
   refine OwnFin.adv (B := T17.setTop (mkF m 170 #[VR xa, VR ea, VI (Int32.ofNat (T).length)] [])) (fun _ k => XS.aloadN XJ.here hx rfl (hD d27_160) rfl rfl (XS.aloadN XJ.here hx rfl (hD d27_161) rfl rfl (XS.bipush XJ.here hx rfl (hD d27_162) (st17 _ (XS.ifNo X17.here hx rfl (hD d27_167) rfl ((if0 _ _).trans (feq hc167_5).1) k))))) ?_
   exact J170 T17 _ X17 eh17 N17
  have J150 : ∀  (TJ : State) (LJ : List Loc) (XJ : Stand p l e ({ frames := 1, cells := 0, slots := 0, locals := 14 } : Room) s m #[(.ref xa), (.ref ea), (.int (Int32.ofNat (T).length))] below meth c TJ LJ 0 0) (eJ : TJ.heap = h0) (NJ : Fr n0 LJ), OwnFin p.tables e below P' (TJ.setTop (mkF m 150 #[VR xa, VR ea, VI (Int32.ofNat (T).length)] [])) := by
   intro  TJ LJ XJ eJ NJ 
   obtain ⟨_, _, ⟨T19, L19, k19, n19⟩, -, X19, ⟨Lc19, hQ19, l19, y19, z19⟩, st19⟩ := Jvm.LawKit.callS XJ hx (y := own_M28) hown (mvT hZ (own_w hw 140 rfl)) (mvT hZ (own_w hw 141 rfl)) (mvT hZ (own_w hw 33 rfl)) (mvT hZ (own_w hw 142 rfl)) (by decide) (backOf (W := 0) (own_eqAt l Z a0 hw [] xa ea kx ke T 15 h0 n0 (by omega) Vx Ve hT (by decide)) hZ (own_w hw 142 rfl) (own_w hw 33 rfl) (by decide) (by decide)) (g := (mkF m 154 #[VR xa, VR ea, VI (Int32.ofNat (T).length)] [(.int 15), (.ref ea), (.ref xa)])) rfl (by rw [hml]; rfl) (argsL := [(.ref xa), (.ref ea), (.int 15)]) (rest := []) (lenOf own_pd22 rfl) rfl (by show 2 * 0 + _ ≤ _; exact Nat.le_of_eq rfl) (hD d27_154) (fun _ _ => ⟨rfl, eJ, (by decide : 0 + 0 ≤ _), (by decide : 0 + 0 ≤ _)⟩)
   dsimp only [Pt.U, Pt.locs, Pt.cells, Pt.slots] at X19 l19 y19 z19 st19 hQ19
   subst l19 y19 z19
   obtain ⟨rfl, N19q, eh19⟩ := hQ19
   have N19 := Fr.app NJ N19q
   have hc157_5 : ¬ ((1:Int32) = (0:Int32)) := by decide
   refine OwnFin.adv (B := T19.setTop (mkF m 160 #[VR xa, VR ea, VI (Int32.ofNat (T).length)] [])) (fun _ k => XS.aloadN XJ.here hx rfl (hD d27_150) rfl rfl (XS.aloadN XJ.here hx rfl (hD d27_151) rfl rfl (XS.bipush XJ.here hx rfl (hD d27_152) (st19 _ (XS.ifNo X19.here hx rfl (hD d27_157) rfl ((if0 _ _).trans (feq hc157_5).1) k))))) ?_
   exact J160 T19 _ X19 eh19 N19
  have J140 : ∀  (TJ : State) (LJ : List Loc) (XJ : Stand p l e ({ frames := 1, cells := 0, slots := 0, locals := 14 } : Room) s m #[(.ref xa), (.ref ea), (.int (Int32.ofNat (T).length))] below meth c TJ LJ 0 0) (eJ : TJ.heap = h0) (NJ : Fr n0 LJ), OwnFin p.tables e below P' (TJ.setTop (mkF m 140 #[VR xa, VR ea, VI (Int32.ofNat (T).length)] [])) := by
   intro  TJ LJ XJ eJ NJ 
   obtain ⟨_, _, ⟨T21, L21, k21, n21⟩, -, X21, ⟨Lc21, hQ21, l21, y21, z21⟩, st21⟩ := Jvm.LawKit.callS XJ hx (y := own_M28) hown (mvT hZ (own_w hw 140 rfl)) (mvT hZ (own_w hw 141 rfl)) (mvT hZ (own_w hw 33 rfl)) (mvT hZ (own_w hw 142 rfl)) (by decide) (backOf (W := 0) (own_eqAt l Z a0 hw [] xa ea kx ke T 14 h0 n0 (by omega) Vx Ve hT (by decide)) hZ (own_w hw 142 rfl) (own_w hw 33 rfl) (by decide) (by decide)) (g := (mkF m 144 #[VR xa, VR ea, VI (Int32.ofNat (T).length)] [(.int 14), (.ref ea), (.ref xa)])) rfl (by rw [hml]; rfl) (argsL := [(.ref xa), (.ref ea), (.int 14)]) (rest := []) (lenOf own_pd22 rfl) rfl (by show 2 * 0 + _ ≤ _; exact Nat.le_of_eq rfl) (hD d27_144) (fun _ _ => ⟨rfl, eJ, (by decide : 0 + 0 ≤ _), (by decide : 0 + 0 ≤ _)⟩)
   dsimp only [Pt.U, Pt.locs, Pt.cells, Pt.slots] at X21 l21 y21 z21 st21 hQ21
   subst l21 y21 z21
   obtain ⟨rfl, N21q, eh21⟩ := hQ21
   have N21 := Fr.app NJ N21q
   have hc147_5 : ¬ ((1:Int32) = (0:Int32)) := by decide
   refine OwnFin.adv (B := T21.setTop (mkF m 150 #[VR xa, VR ea, VI (Int32.ofNat (T).length)] [])) (fun _ k => XS.aloadN XJ.here hx rfl (hD d27_140) rfl rfl (XS.aloadN XJ.here hx rfl (hD d27_141) rfl rfl (XS.bipush XJ.here hx rfl (hD d27_142) (st21 _ (XS.ifNo X21.here hx rfl (hD d27_147) rfl ((if0 _ _).trans (feq hc147_5).1) k))))) ?_
   exact J150 T21 _ X21 eh21 N21
  have J130 : ∀  (TJ : State) (LJ : List Loc) (XJ : Stand p l e ({ frames := 1, cells := 0, slots := 0, locals := 14 } : Room) s m #[(.ref xa), (.ref ea), (.int (Int32.ofNat (T).length))] below meth c TJ LJ 0 0) (eJ : TJ.heap = h0) (NJ : Fr n0 LJ), OwnFin p.tables e below P' (TJ.setTop (mkF m 130 #[VR xa, VR ea, VI (Int32.ofNat (T).length)] [])) := by
   intro  TJ LJ XJ eJ NJ 
   obtain ⟨_, _, ⟨T23, L23, k23, n23⟩, -, X23, ⟨Lc23, hQ23, l23, y23, z23⟩, st23⟩ := Jvm.LawKit.callS XJ hx (y := own_M28) hown (mvT hZ (own_w hw 140 rfl)) (mvT hZ (own_w hw 141 rfl)) (mvT hZ (own_w hw 33 rfl)) (mvT hZ (own_w hw 142 rfl)) (by decide) (backOf (W := 0) (own_eqAt l Z a0 hw [] xa ea kx ke T 13 h0 n0 (by omega) Vx Ve hT (by decide)) hZ (own_w hw 142 rfl) (own_w hw 33 rfl) (by decide) (by decide)) (g := (mkF m 134 #[VR xa, VR ea, VI (Int32.ofNat (T).length)] [(.int 13), (.ref ea), (.ref xa)])) rfl (by rw [hml]; rfl) (argsL := [(.ref xa), (.ref ea), (.int 13)]) (rest := []) (lenOf own_pd22 rfl) rfl (by show 2 * 0 + _ ≤ _; exact Nat.le_of_eq rfl) (hD d27_134) (fun _ _ => ⟨rfl, eJ, (by decide : 0 + 0 ≤ _), (by decide : 0 + 0 ≤ _)⟩)
   dsimp only [Pt.U, Pt.locs, Pt.cells, Pt.slots] at X23 l23 y23 z23 st23 hQ23
   subst l23 y23 z23
   obtain ⟨rfl, N23q, eh23⟩ := hQ23
   have N23 := Fr.app NJ N23q
   have hc137_5 : ¬ ((1:Int32) = (0:Int32)) := by decide
   refine OwnFin.adv (B := T23.setTop (mkF m 140 #[VR xa, VR ea, VI (Int32.ofNat (T).length)] [])) (fun _ k => XS.aloadN XJ.here hx rfl (hD d27_130) rfl rfl (XS.aloadN XJ.here hx rfl (hD d27_131) rfl rfl (XS.bipush XJ.here hx rfl (hD d27_132) (st23 _ (XS.ifNo X23.here hx rfl (hD d27_137) rfl ((if0 _ _).trans (feq hc137_5).1) k))))) ?_
   exact J140 T23 _ X23 eh23 N23
  have J120 : ∀  (TJ : State) (LJ : List Loc) (XJ : Stand p l e ({ frames := 1, cells := 0, slots := 0, locals := 14 } : Room) s m #[(.ref xa), (.ref ea), (.int (Int32.ofNat (T).length))] below meth c TJ LJ 0 0) (eJ : TJ.heap = h0) (NJ : Fr n0 LJ), OwnFin p.tables e below P' (TJ.setTop (mkF m 120 #[VR xa, VR ea, VI (Int32.ofNat (T).length)] [])) := by
   intro  TJ LJ XJ eJ NJ 
   obtain ⟨_, _, ⟨T25, L25, k25, n25⟩, -, X25, ⟨Lc25, hQ25, l25, y25, z25⟩, st25⟩ := Jvm.LawKit.callS XJ hx (y := own_M28) hown (mvT hZ (own_w hw 140 rfl)) (mvT hZ (own_w hw 141 rfl)) (mvT hZ (own_w hw 33 rfl)) (mvT hZ (own_w hw 142 rfl)) (by decide) (backOf (W := 0) (own_eqAt l Z a0 hw [] xa ea kx ke T 12 h0 n0 (by omega) Vx Ve hT (by decide)) hZ (own_w hw 142 rfl) (own_w hw 33 rfl) (by decide) (by decide)) (g := (mkF m 124 #[VR xa, VR ea, VI (Int32.ofNat (T).length)] [(.int 12), (.ref ea), (.ref xa)])) rfl (by rw [hml]; rfl) (argsL := [(.ref xa), (.ref ea), (.int 12)]) (rest := []) (lenOf own_pd22 rfl) rfl (by show 2 * 0 + _ ≤ _; exact Nat.le_of_eq rfl) (hD d27_124) (fun _ _ => ⟨rfl, eJ, (by decide : 0 + 0 ≤ _), (by decide : 0 + 0 ≤ _)⟩)
   dsimp only [Pt.U, Pt.locs, Pt.cells, Pt.slots] at X25 l25 y25 z25 st25 hQ25
   subst l25 y25 z25
   obtain ⟨rfl, N25q, eh25⟩ := hQ25
   have N25 := Fr.app NJ N25q
   have hc127_5 : ¬ ((1:Int32) = (0:Int32)) := by decide
   refine OwnFin.adv (B := T25.setTop (mkF m 130 #[VR xa, VR ea, VI (Int32.ofNat (T).length)] [])) (fun _ k => XS.aloadN XJ.here hx rfl (hD d27_120) rfl rfl (XS.aloadN XJ.here hx rfl (hD d27_121) rfl rfl (XS.bipush XJ.here hx rfl (hD d27_122) (st25 _ (XS.ifNo X25.here hx rfl (hD d27_127) rfl ((if0 _ _).trans (feq hc127_5).1) k))))) ?_
   exact J130 T25 _ X25 eh25 N25
  have J110 : ∀  (TJ : State) (LJ : List Loc) (XJ : Stand p l e ({ frames := 1, cells := 0, slots := 0, locals := 14 } : Room) s m #[(.ref xa), (.ref ea), (.int (Int32.ofNat (T).length))] below meth c TJ LJ 0 0) (eJ : TJ.heap = h0) (NJ : Fr n0 LJ), OwnFin p.tables e below P' (TJ.setTop (mkF m 110 #[VR xa, VR ea, VI (Int32.ofNat (T).length)] [])) := by
   intro  TJ LJ XJ eJ NJ 
   obtain ⟨_, _, ⟨T27, L27, k27, n27⟩, -, X27, ⟨Lc27, hQ27, l27, y27, z27⟩, st27⟩ := Jvm.LawKit.callS XJ hx (y := own_M28) hown (mvT hZ (own_w hw 140 rfl)) (mvT hZ (own_w hw 141 rfl)) (mvT hZ (own_w hw 33 rfl)) (mvT hZ (own_w hw 142 rfl)) (by decide) (backOf (W := 0) (own_eqAt l Z a0 hw [] xa ea kx ke T 11 h0 n0 (by omega) Vx Ve hT (by decide)) hZ (own_w hw 142 rfl) (own_w hw 33 rfl) (by decide) (by decide)) (g := (mkF m 114 #[VR xa, VR ea, VI (Int32.ofNat (T).length)] [(.int 11), (.ref ea), (.ref xa)])) rfl (by rw [hml]; rfl) (argsL := [(.ref xa), (.ref ea), (.int 11)]) (rest := []) (lenOf own_pd22 rfl) rfl (by show 2 * 0 + _ ≤ _; exact Nat.le_of_eq rfl) (hD d27_114) (fun _ _ => ⟨rfl, eJ, (by decide : 0 + 0 ≤ _), (by decide : 0 + 0 ≤ _)⟩)
   dsimp only [Pt.U, Pt.locs, Pt.cells, Pt.slots] at X27 l27 y27 z27 st27 hQ27
   subst l27 y27 z27
   obtain ⟨rfl, N27q, eh27⟩ := hQ27
   have N27 := Fr.app NJ N27q
   have hc117_5 : ¬ ((1:Int32) = (0:Int32)) := by decide
   refine OwnFin.adv (B := T27.setTop (mkF m 120 #[VR xa, VR ea, VI (Int32.ofNat (T).length)] [])) (fun _ k => XS.aloadN XJ.here hx rfl (hD d27_110) rfl rfl (XS.aloadN XJ.here hx rfl (hD d27_111) rfl rfl (XS.bipush XJ.here hx rfl (hD d27_112) (st27 _ (XS.ifNo X27.here hx rfl (hD d27_117) rfl ((if0 _ _).trans (feq hc117_5).1) k))))) ?_
   exact J120 T27 _ X27 eh27 N27
  have J100 : ∀  (TJ : State) (LJ : List Loc) (XJ : Stand p l e ({ frames := 1, cells := 0, slots := 0, locals := 14 } : Room) s m #[(.ref xa), (.ref ea), (.int (Int32.ofNat (T).length))] below meth c TJ LJ 0 0) (eJ : TJ.heap = h0) (NJ : Fr n0 LJ), OwnFin p.tables e below P' (TJ.setTop (mkF m 100 #[VR xa, VR ea, VI (Int32.ofNat (T).length)] [])) := by
   intro  TJ LJ XJ eJ NJ 
   obtain ⟨_, _, ⟨T29, L29, k29, n29⟩, -, X29, ⟨Lc29, hQ29, l29, y29, z29⟩, st29⟩ := Jvm.LawKit.callS XJ hx (y := own_M28) hown (mvT hZ (own_w hw 140 rfl)) (mvT hZ (own_w hw 141 rfl)) (mvT hZ (own_w hw 33 rfl)) (mvT hZ (own_w hw 142 rfl)) (by decide) (backOf (W := 0) (own_eqAt l Z a0 hw [] xa ea kx ke T 10 h0 n0 (by omega) Vx Ve hT (by decide)) hZ (own_w hw 142 rfl) (own_w hw 33 rfl) (by decide) (by decide)) (g := (mkF m 104 #[VR xa, VR ea, VI (Int32.ofNat (T).length)] [(.int 10), (.ref ea), (.ref xa)])) rfl (by rw [hml]; rfl) (argsL := [(.ref xa), (.ref ea), (.int 10)]) (rest := []) (lenOf own_pd22 rfl) rfl (by show 2 * 0 + _ ≤ _; exact Nat.le_of_eq rfl) (hD d27_104) (fun _ _ => ⟨rfl, eJ, (by decide : 0 + 0 ≤ _), (by decide : 0 + 0 ≤ _)⟩)
   dsimp only [Pt.U, Pt.locs, Pt.cells, Pt.slots] at X29 l29 y29 z29 st29 hQ29
   subst l29 y29 z29
   obtain ⟨rfl, N29q, eh29⟩ := hQ29
   have N29 := Fr.app NJ N29q
   have hc107_5 : ¬ ((1:Int32) = (0:Int32)) := by decide
   refine OwnFin.adv (B := T29.setTop (mkF m 110 #[VR xa, VR ea, VI (Int32.ofNat (T).length)] [])) (fun _ k => XS.aloadN XJ.here hx rfl (hD d27_100) rfl rfl (XS.aloadN XJ.here hx rfl (hD d27_101) rfl rfl (XS.bipush XJ.here hx rfl (hD d27_102) (st29 _ (XS.ifNo X29.here hx rfl (hD d27_107) rfl ((if0 _ _).trans (feq hc107_5).1) k))))) ?_
   exact J110 T29 _ X29 eh29 N29
  have J90 : ∀  (TJ : State) (LJ : List Loc) (XJ : Stand p l e ({ frames := 1, cells := 0, slots := 0, locals := 14 } : Room) s m #[(.ref xa), (.ref ea), (.int (Int32.ofNat (T).length))] below meth c TJ LJ 0 0) (eJ : TJ.heap = h0) (NJ : Fr n0 LJ), OwnFin p.tables e below P' (TJ.setTop (mkF m 90 #[VR xa, VR ea, VI (Int32.ofNat (T).length)] [])) := by
   intro  TJ LJ XJ eJ NJ 
   obtain ⟨_, _, ⟨T31, L31, k31, n31⟩, -, X31, ⟨Lc31, hQ31, l31, y31, z31⟩, st31⟩ := Jvm.LawKit.callS XJ hx (y := own_M28) hown (mvT hZ (own_w hw 140 rfl)) (mvT hZ (own_w hw 141 rfl)) (mvT hZ (own_w hw 33 rfl)) (mvT hZ (own_w hw 142 rfl)) (by decide) (backOf (W := 0) (own_eqAt l Z a0 hw [] xa ea kx ke T 9 h0 n0 (by omega) Vx Ve hT (by decide)) hZ (own_w hw 142 rfl) (own_w hw 33 rfl) (by decide) (by decide)) (g := (mkF m 94 #[VR xa, VR ea, VI (Int32.ofNat (T).length)] [(.int 9), (.ref ea), (.ref xa)])) rfl (by rw [hml]; rfl) (argsL := [(.ref xa), (.ref ea), (.int 9)]) (rest := []) (lenOf own_pd22 rfl) rfl (by show 2 * 0 + _ ≤ _; exact Nat.le_of_eq rfl) (hD d27_94) (fun _ _ => ⟨rfl, eJ, (by decide : 0 + 0 ≤ _), (by decide : 0 + 0 ≤ _)⟩)
   dsimp only [Pt.U, Pt.locs, Pt.cells, Pt.slots] at X31 l31 y31 z31 st31 hQ31
   subst l31 y31 z31
   obtain ⟨rfl, N31q, eh31⟩ := hQ31
   have N31 := Fr.app NJ N31q
   have hc97_5 : ¬ ((1:Int32) = (0:Int32)) := by decide
   refine OwnFin.adv (B := T31.setTop (mkF m 100 #[VR xa, VR ea, VI (Int32.ofNat (T).length)] [])) (fun _ k => XS.aloadN XJ.here hx rfl (hD d27_90) rfl rfl (XS.aloadN XJ.here hx rfl (hD d27_91) rfl rfl (XS.bipush XJ.here hx rfl (hD d27_92) (st31 _ (XS.ifNo X31.here hx rfl (hD d27_97) rfl ((if0 _ _).trans (feq hc97_5).1) k))))) ?_
   exact J100 T31 _ X31 eh31 N31
  have J80 : ∀  (TJ : State) (LJ : List Loc) (XJ : Stand p l e ({ frames := 1, cells := 0, slots := 0, locals := 14 } : Room) s m #[(.ref xa), (.ref ea), (.int (Int32.ofNat (T).length))] below meth c TJ LJ 0 0) (eJ : TJ.heap = h0) (NJ : Fr n0 LJ), OwnFin p.tables e below P' (TJ.setTop (mkF m 80 #[VR xa, VR ea, VI (Int32.ofNat (T).length)] [])) := by
   intro  TJ LJ XJ eJ NJ 
   obtain ⟨_, _, ⟨T33, L33, k33, n33⟩, -, X33, ⟨Lc33, hQ33, l33, y33, z33⟩, st33⟩ := Jvm.LawKit.callS XJ hx (y := own_M28) hown (mvT hZ (own_w hw 140 rfl)) (mvT hZ (own_w hw 141 rfl)) (mvT hZ (own_w hw 33 rfl)) (mvT hZ (own_w hw 142 rfl)) (by decide) (backOf (W := 0) (own_eqAt l Z a0 hw [] xa ea kx ke T 8 h0 n0 (by omega) Vx Ve hT (by decide)) hZ (own_w hw 142 rfl) (own_w hw 33 rfl) (by decide) (by decide)) (g := (mkF m 84 #[VR xa, VR ea, VI (Int32.ofNat (T).length)] [(.int 8), (.ref ea), (.ref xa)])) rfl (by rw [hml]; rfl) (argsL := [(.ref xa), (.ref ea), (.int 8)]) (rest := []) (lenOf own_pd22 rfl) rfl (by show 2 * 0 + _ ≤ _; exact Nat.le_of_eq rfl) (hD d27_84) (fun _ _ => ⟨rfl, eJ, (by decide : 0 + 0 ≤ _), (by decide : 0 + 0 ≤ _)⟩)
   dsimp only [Pt.U, Pt.locs, Pt.cells, Pt.slots] at X33 l33 y33 z33 st33 hQ33
   subst l33 y33 z33
   obtain ⟨rfl, N33q, eh33⟩ := hQ33
   have N33 := Fr.app NJ N33q
   have hc87_5 : ¬ ((1:Int32) = (0:Int32)) := by decide
   refine OwnFin.adv (B := T33.setTop (mkF m 90 #[VR xa, VR ea, VI (Int32.ofNat (T).length)] [])) (fun _ k => XS.aloadN XJ.here hx rfl (hD d27_80) rfl rfl (XS.aloadN XJ.here hx rfl (hD d27_81) rfl rfl (XS.bipush XJ.here hx rfl (hD d27_82) (st33 _ (XS.ifNo X33.here hx rfl (hD d27_87) rfl ((if0 _ _).trans (feq hc87_5).1) k))))) ?_
   exact J90 T33 _ X33 eh33 N33
  have J70 : ∀  (TJ : State) (LJ : List Loc) (XJ : Stand p l e ({ frames := 1, cells := 0, slots := 0, locals := 14 } : Room) s m #[(.ref xa), (.ref ea), (.int (Int32.ofNat (T).length))] below meth c TJ LJ 0 0) (eJ : TJ.heap = h0) (NJ : Fr n0 LJ), OwnFin p.tables e below P' (TJ.setTop (mkF m 70 #[VR xa, VR ea, VI (Int32.ofNat (T).length)] [])) := by
   intro  TJ LJ XJ eJ NJ 
   obtain ⟨_, _, ⟨T35, L35, k35, n35⟩, -, X35, ⟨Lc35, hQ35, l35, y35, z35⟩, st35⟩ := Jvm.LawKit.callS XJ hx (y := own_M28) hown (mvT hZ (own_w hw 140 rfl)) (mvT hZ (own_w hw 141 rfl)) (mvT hZ (own_w hw 33 rfl)) (mvT hZ (own_w hw 142 rfl)) (by decide) (backOf (W := 0) (own_eqAt l Z a0 hw [] xa ea kx ke T 7 h0 n0 (by omega) Vx Ve hT (by decide)) hZ (own_w hw 142 rfl) (own_w hw 33 rfl) (by decide) (by decide)) (g := (mkF m 74 #[VR xa, VR ea, VI (Int32.ofNat (T).length)] [(.int 7), (.ref ea), (.ref xa)])) rfl (by rw [hml]; rfl) (argsL := [(.ref xa), (.ref ea), (.int 7)]) (rest := []) (lenOf own_pd22 rfl) rfl (by show 2 * 0 + _ ≤ _; exact Nat.le_of_eq rfl) (hD d27_74) (fun _ _ => ⟨rfl, eJ, (by decide : 0 + 0 ≤ _), (by decide : 0 + 0 ≤ _)⟩)
   dsimp only [Pt.U, Pt.locs, Pt.cells, Pt.slots] at X35 l35 y35 z35 st35 hQ35
   subst l35 y35 z35
   obtain ⟨rfl, N35q, eh35⟩ := hQ35
   have N35 := Fr.app NJ N35q
   have hc77_5 : ¬ ((1:Int32) = (0:Int32)) := by decide
   refine OwnFin.adv (B := T35.setTop (mkF m 80 #[VR xa, VR ea, VI (Int32.ofNat (T).length)] [])) (fun _ k => XS.aloadN XJ.here hx rfl (hD d27_70) rfl rfl (XS.aloadN XJ.here hx rfl (hD d27_71) rfl rfl (XS.bipush XJ.here hx rfl (hD d27_72) (st35 _ (XS.ifNo X35.here hx rfl (hD d27_77) rfl ((if0 _ _).trans (feq hc77_5).1) k))))) ?_
   exact J80 T35 _ X35 eh35 N35
  have J60 : ∀  (TJ : State) (LJ : List Loc) (XJ : Stand p l e ({ frames := 1, cells := 0, slots := 0, locals := 14 } : Room) s m #[(.ref xa), (.ref ea), (.int (Int32.ofNat (T).length))] below meth c TJ LJ 0 0) (eJ : TJ.heap = h0) (NJ : Fr n0 LJ), OwnFin p.tables e below P' (TJ.setTop (mkF m 60 #[VR xa, VR ea, VI (Int32.ofNat (T).length)] [])) := by
   intro  TJ LJ XJ eJ NJ 
   obtain ⟨_, _, ⟨T37, L37, k37, n37⟩, -, X37, ⟨Lc37, hQ37, l37, y37, z37⟩, st37⟩ := Jvm.LawKit.callS XJ hx (y := own_M28) hown (mvT hZ (own_w hw 140 rfl)) (mvT hZ (own_w hw 141 rfl)) (mvT hZ (own_w hw 33 rfl)) (mvT hZ (own_w hw 142 rfl)) (by decide) (backOf (W := 0) (own_eqAt l Z a0 hw [] xa ea kx ke T 6 h0 n0 (by omega) Vx Ve hT (by decide)) hZ (own_w hw 142 rfl) (own_w hw 33 rfl) (by decide) (by decide)) (g := (mkF m 64 #[VR xa, VR ea, VI (Int32.ofNat (T).length)] [(.int 6), (.ref ea), (.ref xa)])) rfl (by rw [hml]; rfl) (argsL := [(.ref xa), (.ref ea), (.int 6)]) (rest := []) (lenOf own_pd22 rfl) rfl (by show 2 * 0 + _ ≤ _; exact Nat.le_of_eq rfl) (hD d27_64) (fun _ _ => ⟨rfl, eJ, (by decide : 0 + 0 ≤ _), (by decide : 0 + 0 ≤ _)⟩)
   dsimp only [Pt.U, Pt.locs, Pt.cells, Pt.slots] at X37 l37 y37 z37 st37 hQ37
   subst l37 y37 z37
   obtain ⟨rfl, N37q, eh37⟩ := hQ37
   have N37 := Fr.app NJ N37q
   have hc67_5 : ¬ ((1:Int32) = (0:Int32)) := by decide
   refine OwnFin.adv (B := T37.setTop (mkF m 70 #[VR xa, VR ea, VI (Int32.ofNat (T).length)] [])) (fun _ k => XS.aloadN XJ.here hx rfl (hD d27_60) rfl rfl (XS.aloadN XJ.here hx rfl (hD d27_61) rfl rfl (XS.bipush XJ.here hx rfl (hD d27_62) (st37 _ (XS.ifNo X37.here hx rfl (hD d27_67) rfl ((if0 _ _).trans (feq hc67_5).1) k))))) ?_
   exact J70 T37 _ X37 eh37 N37
  have J51 : ∀  (TJ : State) (LJ : List Loc) (XJ : Stand p l e ({ frames := 1, cells := 0, slots := 0, locals := 14 } : Room) s m #[(.ref xa), (.ref ea), (.int (Int32.ofNat (T).length))] below meth c TJ LJ 0 0) (eJ : TJ.heap = h0) (NJ : Fr n0 LJ), OwnFin p.tables e below P' (TJ.setTop (mkF m 51 #[VR xa, VR ea, VI (Int32.ofNat (T).length)] [])) := by
   intro  TJ LJ XJ eJ NJ 
   obtain ⟨_, _, ⟨T39, L39, k39, n39⟩, -, X39, ⟨Lc39, hQ39, l39, y39, z39⟩, st39⟩ := Jvm.LawKit.callS XJ hx (y := own_M28) hown (mvT hZ (own_w hw 140 rfl)) (mvT hZ (own_w hw 141 rfl)) (mvT hZ (own_w hw 33 rfl)) (mvT hZ (own_w hw 142 rfl)) (by decide) (backOf (W := 0) (own_eqAt l Z a0 hw [] xa ea kx ke T 5 h0 n0 (by omega) Vx Ve hT (by decide)) hZ (own_w hw 142 rfl) (own_w hw 33 rfl) (by decide) (by decide)) (g := (mkF m 54 #[VR xa, VR ea, VI (Int32.ofNat (T).length)] [(.int 5), (.ref ea), (.ref xa)])) rfl (by rw [hml]; rfl) (argsL := [(.ref xa), (.ref ea), (.int 5)]) (rest := []) (lenOf own_pd22 rfl) rfl (by show 2 * 0 + _ ≤ _; exact Nat.le_of_eq rfl) (hD d27_54) (fun _ _ => ⟨rfl, eJ, (by decide : 0 + 0 ≤ _), (by decide : 0 + 0 ≤ _)⟩)
   dsimp only [Pt.U, Pt.locs, Pt.cells, Pt.slots] at X39 l39 y39 z39 st39 hQ39
   subst l39 y39 z39
   obtain ⟨rfl, N39q, eh39⟩ := hQ39
   have N39 := Fr.app NJ N39q
   have hc57_5 : ¬ ((1:Int32) = (0:Int32)) := by decide
   refine OwnFin.adv (B := T39.setTop (mkF m 60 #[VR xa, VR ea, VI (Int32.ofNat (T).length)] [])) (fun _ k => XS.aloadN XJ.here hx rfl (hD d27_51) rfl rfl (XS.aloadN XJ.here hx rfl (hD d27_52) rfl rfl (XS.iconst XJ.here hx rfl (hD d27_53) (st39 _ (XS.ifNo X39.here hx rfl (hD d27_57) rfl ((if0 _ _).trans (feq hc57_5).1) k))))) ?_
   exact J60 T39 _ X39 eh39 N39
  have J42 : ∀  (TJ : State) (LJ : List Loc) (XJ : Stand p l e ({ frames := 1, cells := 0, slots := 0, locals := 14 } : Room) s m #[(.ref xa), (.ref ea), (.int (Int32.ofNat (T).length))] below meth c TJ LJ 0 0) (eJ : TJ.heap = h0) (NJ : Fr n0 LJ), OwnFin p.tables e below P' (TJ.setTop (mkF m 42 #[VR xa, VR ea, VI (Int32.ofNat (T).length)] [])) := by
   intro  TJ LJ XJ eJ NJ 
   obtain ⟨_, _, ⟨T41, L41, k41, n41⟩, -, X41, ⟨Lc41, hQ41, l41, y41, z41⟩, st41⟩ := Jvm.LawKit.callS XJ hx (y := own_M28) hown (mvT hZ (own_w hw 140 rfl)) (mvT hZ (own_w hw 141 rfl)) (mvT hZ (own_w hw 33 rfl)) (mvT hZ (own_w hw 142 rfl)) (by decide) (backOf (W := 0) (own_eqAt l Z a0 hw [] xa ea kx ke T 4 h0 n0 (by omega) Vx Ve hT (by decide)) hZ (own_w hw 142 rfl) (own_w hw 33 rfl) (by decide) (by decide)) (g := (mkF m 45 #[VR xa, VR ea, VI (Int32.ofNat (T).length)] [(.int 4), (.ref ea), (.ref xa)])) rfl (by rw [hml]; rfl) (argsL := [(.ref xa), (.ref ea), (.int 4)]) (rest := []) (lenOf own_pd22 rfl) rfl (by show 2 * 0 + _ ≤ _; exact Nat.le_of_eq rfl) (hD d27_45) (fun _ _ => ⟨rfl, eJ, (by decide : 0 + 0 ≤ _), (by decide : 0 + 0 ≤ _)⟩)
   dsimp only [Pt.U, Pt.locs, Pt.cells, Pt.slots] at X41 l41 y41 z41 st41 hQ41
   subst l41 y41 z41
   obtain ⟨rfl, N41q, eh41⟩ := hQ41
   have N41 := Fr.app NJ N41q
   have hc48_5 : ¬ ((1:Int32) = (0:Int32)) := by decide
   refine OwnFin.adv (B := T41.setTop (mkF m 51 #[VR xa, VR ea, VI (Int32.ofNat (T).length)] [])) (fun _ k => XS.aloadN XJ.here hx rfl (hD d27_42) rfl rfl (XS.aloadN XJ.here hx rfl (hD d27_43) rfl rfl (XS.iconst XJ.here hx rfl (hD d27_44) (st41 _ (XS.ifNo X41.here hx rfl (hD d27_48) rfl ((if0 _ _).trans (feq hc48_5).1) k))))) ?_
   exact J51 T41 _ X41 eh41 N41
  have J33 : ∀  (TJ : State) (LJ : List Loc) (XJ : Stand p l e ({ frames := 1, cells := 0, slots := 0, locals := 14 } : Room) s m #[(.ref xa), (.ref ea), (.int (Int32.ofNat (T).length))] below meth c TJ LJ 0 0) (eJ : TJ.heap = h0) (NJ : Fr n0 LJ), OwnFin p.tables e below P' (TJ.setTop (mkF m 33 #[VR xa, VR ea, VI (Int32.ofNat (T).length)] [])) := by
   intro  TJ LJ XJ eJ NJ 
   obtain ⟨_, _, ⟨T43, L43, k43, n43⟩, -, X43, ⟨Lc43, hQ43, l43, y43, z43⟩, st43⟩ := Jvm.LawKit.callS XJ hx (y := own_M28) hown (mvT hZ (own_w hw 140 rfl)) (mvT hZ (own_w hw 141 rfl)) (mvT hZ (own_w hw 33 rfl)) (mvT hZ (own_w hw 142 rfl)) (by decide) (backOf (W := 0) (own_eqAt l Z a0 hw [] xa ea kx ke T 3 h0 n0 (by omega) Vx Ve hT (by decide)) hZ (own_w hw 142 rfl) (own_w hw 33 rfl) (by decide) (by decide)) (g := (mkF m 36 #[VR xa, VR ea, VI (Int32.ofNat (T).length)] [(.int 3), (.ref ea), (.ref xa)])) rfl (by rw [hml]; rfl) (argsL := [(.ref xa), (.ref ea), (.int 3)]) (rest := []) (lenOf own_pd22 rfl) rfl (by show 2 * 0 + _ ≤ _; exact Nat.le_of_eq rfl) (hD d27_36) (fun _ _ => ⟨rfl, eJ, (by decide : 0 + 0 ≤ _), (by decide : 0 + 0 ≤ _)⟩)
   dsimp only [Pt.U, Pt.locs, Pt.cells, Pt.slots] at X43 l43 y43 z43 st43 hQ43
   subst l43 y43 z43
   obtain ⟨rfl, N43q, eh43⟩ := hQ43
   have N43 := Fr.app NJ N43q
   have hc39_5 : ¬ ((1:Int32) = (0:Int32)) := by decide
   refine OwnFin.adv (B := T43.setTop (mkF m 42 #[VR xa, VR ea, VI (Int32.ofNat (T).length)] [])) (fun _ k => XS.aloadN XJ.here hx rfl (hD d27_33) rfl rfl (XS.aloadN XJ.here hx rfl (hD d27_34) rfl rfl (XS.iconst XJ.here hx rfl (hD d27_35) (st43 _ (XS.ifNo X43.here hx rfl (hD d27_39) rfl ((if0 _ _).trans (feq hc39_5).1) k))))) ?_
   exact J42 T43 _ X43 eh43 N43
  have J24 : ∀  (TJ : State) (LJ : List Loc) (XJ : Stand p l e ({ frames := 1, cells := 0, slots := 0, locals := 14 } : Room) s m #[(.ref xa), (.ref ea), (.int (Int32.ofNat (T).length))] below meth c TJ LJ 0 0) (eJ : TJ.heap = h0) (NJ : Fr n0 LJ), OwnFin p.tables e below P' (TJ.setTop (mkF m 24 #[VR xa, VR ea, VI (Int32.ofNat (T).length)] [])) := by
   intro  TJ LJ XJ eJ NJ 
   obtain ⟨_, _, ⟨T45, L45, k45, n45⟩, -, X45, ⟨Lc45, hQ45, l45, y45, z45⟩, st45⟩ := Jvm.LawKit.callS XJ hx (y := own_M28) hown (mvT hZ (own_w hw 140 rfl)) (mvT hZ (own_w hw 141 rfl)) (mvT hZ (own_w hw 33 rfl)) (mvT hZ (own_w hw 142 rfl)) (by decide) (backOf (W := 0) (own_eqAt l Z a0 hw [] xa ea kx ke T 2 h0 n0 (by omega) Vx Ve hT (by decide)) hZ (own_w hw 142 rfl) (own_w hw 33 rfl) (by decide) (by decide)) (g := (mkF m 27 #[VR xa, VR ea, VI (Int32.ofNat (T).length)] [(.int 2), (.ref ea), (.ref xa)])) rfl (by rw [hml]; rfl) (argsL := [(.ref xa), (.ref ea), (.int 2)]) (rest := []) (lenOf own_pd22 rfl) rfl (by show 2 * 0 + _ ≤ _; exact Nat.le_of_eq rfl) (hD d27_27) (fun _ _ => ⟨rfl, eJ, (by decide : 0 + 0 ≤ _), (by decide : 0 + 0 ≤ _)⟩)
   dsimp only [Pt.U, Pt.locs, Pt.cells, Pt.slots] at X45 l45 y45 z45 st45 hQ45
   subst l45 y45 z45
   obtain ⟨rfl, N45q, eh45⟩ := hQ45
   have N45 := Fr.app NJ N45q
   have hc30_5 : ¬ ((1:Int32) = (0:Int32)) := by decide
   refine OwnFin.adv (B := T45.setTop (mkF m 33 #[VR xa, VR ea, VI (Int32.ofNat (T).length)] [])) (fun _ k => XS.aloadN XJ.here hx rfl (hD d27_24) rfl rfl (XS.aloadN XJ.here hx rfl (hD d27_25) rfl rfl (XS.iconst XJ.here hx rfl (hD d27_26) (st45 _ (XS.ifNo X45.here hx rfl (hD d27_30) rfl ((if0 _ _).trans (feq hc30_5).1) k))))) ?_
   exact J33 T45 _ X45 eh45 N45
  have J15 : ∀  (TJ : State) (LJ : List Loc) (XJ : Stand p l e ({ frames := 1, cells := 0, slots := 0, locals := 14 } : Room) s m #[(.ref xa), (.ref ea), (.int (Int32.ofNat (T).length))] below meth c TJ LJ 0 0) (eJ : TJ.heap = h0) (NJ : Fr n0 LJ), OwnFin p.tables e below P' (TJ.setTop (mkF m 15 #[VR xa, VR ea, VI (Int32.ofNat (T).length)] [])) := by
   intro  TJ LJ XJ eJ NJ 
   obtain ⟨_, _, ⟨T47, L47, k47, n47⟩, -, X47, ⟨Lc47, hQ47, l47, y47, z47⟩, st47⟩ := Jvm.LawKit.callS XJ hx (y := own_M28) hown (mvT hZ (own_w hw 140 rfl)) (mvT hZ (own_w hw 141 rfl)) (mvT hZ (own_w hw 33 rfl)) (mvT hZ (own_w hw 142 rfl)) (by decide) (backOf (W := 0) (own_eqAt l Z a0 hw [] xa ea kx ke T 1 h0 n0 (by omega) Vx Ve hT (by decide)) hZ (own_w hw 142 rfl) (own_w hw 33 rfl) (by decide) (by decide)) (g := (mkF m 18 #[VR xa, VR ea, VI (Int32.ofNat (T).length)] [(.int 1), (.ref ea), (.ref xa)])) rfl (by rw [hml]; rfl) (argsL := [(.ref xa), (.ref ea), (.int 1)]) (rest := []) (lenOf own_pd22 rfl) rfl (by show 2 * 0 + _ ≤ _; exact Nat.le_of_eq rfl) (hD d27_18) (fun _ _ => ⟨rfl, eJ, (by decide : 0 + 0 ≤ _), (by decide : 0 + 0 ≤ _)⟩)
   dsimp only [Pt.U, Pt.locs, Pt.cells, Pt.slots] at X47 l47 y47 z47 st47 hQ47
   subst l47 y47 z47
   obtain ⟨rfl, N47q, eh47⟩ := hQ47
   have N47 := Fr.app NJ N47q
   have hc21_5 : ¬ ((1:Int32) = (0:Int32)) := by decide
   refine OwnFin.adv (B := T47.setTop (mkF m 24 #[VR xa, VR ea, VI (Int32.ofNat (T).length)] [])) (fun _ k => XS.aloadN XJ.here hx rfl (hD d27_15) rfl rfl (XS.aloadN XJ.here hx rfl (hD d27_16) rfl rfl (XS.iconst XJ.here hx rfl (hD d27_17) (st47 _ (XS.ifNo X47.here hx rfl (hD d27_21) rfl ((if0 _ _).trans (feq hc21_5).1) k))))) ?_
   exact J24 T47 _ X47 eh47 N47
  obtain ⟨cl48, Ar48, ck48, S48, M48, H48, G48⟩ := id Vx
  refine OwnFin.adv (B := s₁.setTop (mkF m 1 #[VR xa, VR ea, VI (Int32.ofNat (T).length)] [(.ref xa)])) (fun _ k => XS.aloadN X0.here hx rfl (hD d27_0) rfl rfl k) ?_
  refine OwnFin.adv (B := s₁.setTop (mkF m 2 #[VR xa, VR ea, VI (Int32.ofNat (T).length)] [(.int (Int32.ofNat (T).length))])) (fun _ k => X0.arraylength hx (by rw [e0]; exact Ar48.1) (State.isArrayOf_alike hZ.alike Ar48.2.1) (g := (mkF m 1 #[VR xa, VR ea, VI (Int32.ofNat (T).length)] [(.ref xa)])) rfl rfl (hD d27_1) _ (by rw [len_of S48 M48]; exact k)) ?_
  have hc3_4 : (Int32.ofNat (T).length) = (Int32.ofNat (T).length) := rfl
  obtain ⟨_, _, ⟨T49, L49, k49, n49⟩, -, X49, ⟨Lc49, hQ49, l49, y49, z49⟩, st49⟩ := Jvm.LawKit.callS X0 hx (y := own_M28) hown (mvT hZ (own_w hw 140 rfl)) (mvT hZ (own_w hw 141 rfl)) (mvT hZ (own_w hw 33 rfl)) (mvT hZ (own_w hw 142 rfl)) (by decide) (backOf (W := 0) (own_eqAt l Z a0 hw [] xa ea kx ke T 0 h0 n0 (by omega) Vx Ve hT (by decide)) hZ (own_w hw 142 rfl) (own_w hw 33 rfl) (by decide) (by decide)) (g := (mkF m 9 #[VR xa, VR ea, VI (Int32.ofNat (T).length)] [(.int 0), (.ref ea), (.ref xa)])) rfl (by rw [hml]; rfl) (argsL := [(.ref xa), (.ref ea), (.int 0)]) (rest := []) (lenOf own_pd22 rfl) rfl (by show 2 * 0 + _ ≤ _; exact Nat.le_of_eq rfl) (hD d27_9) (fun _ _ => ⟨rfl, e0, (by decide : 0 + 0 ≤ _), (by decide : 0 + 0 ≤ _)⟩)
  dsimp only [Pt.U, Pt.locs, Pt.cells, Pt.slots] at X49 l49 y49 z49 st49 hQ49
  subst l49 y49 z49
  obtain ⟨rfl, N49q, eh49⟩ := hQ49
  have N49 := Fr.app N0 N49q
  have hc12_9 : ¬ ((1:Int32) = (0:Int32)) := by decide
  refine OwnFin.adv (B := T49.setTop (mkF m 15 #[VR xa, VR ea, VI (Int32.ofNat (T).length)] [])) (fun _ k => XS.iloadN X0.here hx rfl (hD d27_2) rfl (XS.icmpNo X0.here hx rfl (hD d27_3) rfl (teq hc3_4).2 (XS.aloadN X0.here hx rfl (hD d27_6) rfl rfl (XS.aloadN X0.here hx rfl (hD d27_7) rfl rfl (XS.iconst X0.here hx rfl (hD d27_8) (st49 _ (XS.ifNo X49.here hx rfl (hD d27_12) rfl ((if0 _ _).trans (feq hc12_9).1) k))))))) ?_
  exact J15 T49 _ X49 eh49 N49
theorem d38_0 : decode B38 0 = .ok (.iload_n 0, 1) := by decide +kernel
theorem d38_1 : decode B38 1 = .ok (.ifCond .ge 11, 3) := by decide +kernel
theorem d38_12 : decode B38 12 = .ok (.iload_n 0, 1) := by decide +kernel
theorem d38_13 : decode B38 13 = .ok (.ldc 20, 2) := by decide +kernel
theorem d38_15 : decode B38 15 = .ok (.if_icmp .lt 40, 3) := by decide +kernel
theorem d38_55 : decode B38 55 = .ok (.iload_n 0, 1) := by decide +kernel
theorem d38_56 : decode B38 56 = .ok (.iconst 1, 1) := by decide +kernel
theorem d38_57 : decode B38 57 = .ok (.ishl, 1) := by decide +kernel
theorem d38_58 : decode B38 58 = .ok (.ireturn, 1) := by decide +kernel
theorem own_ef_nbl1 (m : MethodId) (x0 : Int32) : entryFrame m #[(.int x0)] 1 = mkF m 0 #[.val (.int x0)] [] := by first | (simp [entryFrame, mkF, argsToLocals, Value.category]; done) | rfl
def own_Q_nbl1 (Z : State)  (h0 : Heap) (n0 : Nat) (v : Option Value) (h : Heap) (L : List Loc) : Prop := v = some (.int (2 : Int32)) ∧ Fr n0 L ∧ h = h0
set_option maxRecDepth 65536 in
set_option maxHeartbeats 40000000 in
theorem own_nbl1 (l : Launch) (Z : State) (a0 : Array Value) (hw : ∀ d ∈ tables_1, d.before a0 Z = true) (ws : List Jvm.Cond)  (h0 : Heap) (n0 : Nat) (Z0 : n0 ≤ h0.size) :
    MetFree l own_M38 (head1 (Jvm.Cond.code own_M38 jdk_52_method_3_code 1 (some .int) :: ws) ({ frames := 0, cells := 0, slots := 0, locals := 0 } : Room)) (fun A0 U0 => A0 = #[(.int (1 : Int32))] ∧ Z.Warmed39 U0.vm ∧ U0.heap = h0) (fun _ _ _ _ _ => True) (fun _ U0 o0 U1 => ∃ v0 L0, o0 = .returned v0 ∧ own_Q_nbl1 Z  h0 n0 v0 U1.heap L0 ∧ FrameEnd U0 o0 U1 L0 0 0) := by
  refine MetFree.of_bodySF (plainFor_of_name own_pn_java_lang_StringUTF16) hisR ?_
  intro p e s m args below meth c s₁ Bd hml0 hP hK
  obtain ⟨rfl, hZ, hh⟩ := hP
  have hZs0 := hZ
  have hZs := hZ
  have hx := Bd.exec
  have hby := Bd.bytes
  have hD : ∀ {pc : Nat} {r : Except DecodeError (Instr × Nat)}, decode jdk_52_method_3_code pc = r → decode c.code pc = r := fun q => hb hby q
  have hml : c.maxLocals = 1 := hml0
  have hown : s.vm.findClass "java/lang/StringUTF16" = some m.cls := findClass_of_methodNamed Bd.named
  have hnm := (name_of_methodNamed Bd.named Bd.method).1
  have X0 : Stand p l e ({ frames := 0, cells := 0, slots := 0, locals := 0 } : Room) s m #[(.int (1 : Int32))] below meth c s₁ [] 0 0 := Stand.of_body Bd
  have e0 : s₁.heap = h0 := by rw [← hh, Bd.state]; rfl
  have N0 := Fr.nil n0
  refine OwnFin.entry (own_ef_nbl1 m (1 : Int32)) (fun P' hP' => ?_)
  have hc1_2 : ¬ ((1:Int32) < (0:Int32)) := by decide
  have hc15_5 : (1:Int32) < (1073741823:Int32) := by decide
  obtain ⟨fs, hr, hrun, hended, hW, hsame⟩ := X0.leave (v := some (.int ((1:Int32) <<< ((1:Int32) &&& 31)))) (fun h => by rw [Bd.returns] at h; cases h)
  refine OwnFin.adv (B := s₁.setTop (mkF m 58 #[VI (1:Int32)] [(.int ((1:Int32) <<< ((1:Int32) &&& 31)))])) (fun _ k => XS.iloadN X0.here hx rfl (hD d38_0) rfl (XS.ifYes X0.here hx rfl (pc0 := 1) (pc' := 12) rfl (hD d38_1) rfl ((if0 _ _).trans (flt hc1_2).2.1) (by decide) (by decide) (XS.iloadN X0.here hx rfl (hD d38_12) rfl (X0.ldcInt hx hown (mvT hZ (own_w hw 188 rfl)) (g := (mkF m 13 #[VI (1:Int32)] [(.int 1)])) rfl (hD d38_13) _ (XS.icmpYes X0.here hx rfl (pc0 := 15) (pc' := 55) rfl (hD d38_15) rfl (tlt hc15_5).1 (by decide) (by decide) (XS.iloadN X0.here hx rfl (hD d38_55) rfl (XS.iconst X0.here hx rfl (hD d38_56) (XS.ishl X0.here hx rfl (hD d38_57) rfl k)))))))) ?_
  refine OwnFin.leaf hP' ⟨_, _, own_retI X0 hx Bd.returns (hD d38_58) hr, hrun, hended, _, _, rfl, ?_, ⟨_, rfl⟩, hW, hsame.mono (by decide) (by decide)⟩
  exact ⟨congrArg (fun z => some (Value.int z)) (by decide), N0, e0⟩
theorem d37_0 : decode B37 0 = .ok (.iload_n 0, 1) := by decide +kernel
theorem own_pd23 : parseMethodDescriptor "(I)I" = some ⟨[.int], some .int⟩ := by decide +kernel
theorem d37_1 : decode B37 1 = .ok (.invokestatic 11, 3) := by decide +kernel
theorem d37_4 : decode B37 4 = .ok (.newarray .byte, 2) := by decide +kernel
theorem d37_6 : decode B37 6 = .ok (.areturn, 1) := by decide +kernel
theorem own_ef_nbf1 (m : MethodId) (x0 : Int32) : entryFrame m #[(.int x0)] 1 = mkF m 0 #[.val (.int x0)] [] := by first | (simp [entryFrame, mkF, argsToLocals, Value.category]; done) | rfl
def own_Q_nbf1 (Z : State)  (h0 : Heap) (n0 : Nat) (v : Option Value) (h : Heap) (L : List Loc) : Prop := ∃ (t : Addr) (kt : ClassId), v = some (.ref t) ∧ Fr n0 L ∧ Keep h0 h [] ∧ h0.size ≤ t ∧ Arv Z h t kt .byte (2 : Int32) [(.int (0 : Int32)), (.int (0 : Int32))] (.int (0 : Int32))
set_option maxRecDepth 65536 in
set_option maxHeartbeats 40000000 in
theorem own_nbf1 (l : Launch) (Z : State) (a0 : Array Value) (hw : ∀ d ∈ tables_1, d.before a0 Z = true) (ws : List Jvm.Cond)  (h0 : Heap) (n0 : Nat) (Z0 : n0 ≤ h0.size) :
    MetFree l own_M37 (head1 (Jvm.Cond.code own_M37 jdk_52_method_2_code 1 (some (.array .byte)) :: ws) ({ frames := 1, cells := 1, slots := 2, locals := 12 } : Room)) (fun A0 U0 => A0 = #[(.int (1 : Int32))] ∧ Z.Warmed39 U0.vm ∧ U0.heap = h0) (fun _ _ _ _ _ => True) (fun _ U0 o0 U1 => ∃ v0 L0, o0 = .returned v0 ∧ own_Q_nbf1 Z  h0 n0 v0 U1.heap L0 ∧ FrameEnd U0 o0 U1 L0 1 2) := by
  refine MetFree.of_bodySF (plainFor_of_name own_pn_java_lang_StringUTF16) hisR ?_
  intro p e s m args below meth c s₁ Bd hml0 hP hK
  obtain ⟨rfl, hZ, hh⟩ := hP
  have hZs0 := hZ
  have hZs := hZ
  have hx := Bd.exec
  have hby := Bd.bytes
  have hD : ∀ {pc : Nat} {r : Except DecodeError (Instr × Nat)}, decode jdk_52_method_2_code pc = r → decode c.code pc = r := fun q => hb hby q
  have hml : c.maxLocals = 1 := hml0
  have hown : s.vm.findClass "java/lang/StringUTF16" = some m.cls := findClass_of_methodNamed Bd.named
  have hnm := (name_of_methodNamed Bd.named Bd.method).1
  have X0 : Stand p l e ({ frames := 1, cells := 1, slots := 2, locals := 12 } : Room) s m #[(.int (1 : Int32))] below meth c s₁ [] 0 0 := Stand.of_body Bd
  have e0 : s₁.heap = h0 := by rw [← hh, Bd.state]; rfl
  have N0 := Fr.nil n0
  refine OwnFin.entry (own_ef_nbf1 m (1 : Int32)) (fun P' hP' => ?_)
  obtain ⟨_, _, ⟨T1, L1, k1, n1⟩, -, X1, ⟨Lc1, hQ1, l1, y1, z1⟩, st1⟩ := Jvm.LawKit.callS X0 hx (y := own_M38) hown (mvT hZ (own_w hw 185 rfl)) (mvT hZ (own_w hw 186 rfl)) (mvT hZ (own_w hw 18 rfl)) (mvT hZ (own_w hw 187 rfl)) (by decide) (backOf (W := 0) (own_nbl1 l Z a0 hw [] h0 n0 (by omega)) hZ (own_w hw 187 rfl) (own_w hw 18 rfl) (by decide) (by decide)) (g := (mkF m 1 #[VI (1:Int32)] [(.int 1)])) rfl (by rw [hml]; rfl) (argsL := [(.int 1)]) (rest := []) (lenOf own_pd23 rfl) rfl (by show 2 * 0 + _ ≤ _; exact Nat.le_of_eq rfl) (hD d37_1) (fun _ _ => ⟨rfl, e0, (by decide : 0 + 0 ≤ _), (by decide : 0 + 0 ≤ _)⟩)
  dsimp only [Pt.U, Pt.locs, Pt.cells, Pt.slots] at X1 l1 y1 z1 st1 hQ1
  subst l1 y1 z1
  obtain ⟨rfl, N1q, eh1⟩ := hQ1
  have N1 := Fr.app N0 N1q
  obtain ⟨T2, h2, k2, X2, e2, E2, A2, st2⟩ := newP X1 hx hZ (own_w hw 20 rfl) eh1 (g := (mkF m 4 #[VI (1:Int32)] [(.int 2)])) rfl (hD d37_4) rfl (by decide) (cap := 2) (by decide) (by decide) (by decide) (by decide)
  obtain ⟨b2, g2⟩ : ∃ z, z = h0.size := ⟨_, rfl⟩
  rw [← g2] at A2 st2
  have sz3 : h0.size ≤ h2.size := E2.1
  have lt_b2 := own_lt A2.lt
  have V2 : Arv Z h2 b2 k2 .byte (2:Int32) [(.int 0), (.int 0)] (.int 0) := (Arv.new A2 (by decide)).pad (pad_rep [] (.int 0) 2)
  obtain ⟨fs, hr, hrun, hended, hW, hsame⟩ := X2.leave (v := some (.ref b2)) (fun h => by rw [Bd.returns] at h; cases h)
  refine OwnFin.adv (B := T2.setTop (mkF m 6 #[VI (1:Int32)] [(.ref b2)])) (fun _ k => XS.iloadN X0.here hx rfl (hD d37_0) rfl (st1 _ (st2 _ k))) ?_
  refine OwnFin.leaf hP' ⟨_, _, own_retR X2 hx Bd.returns rfl rfl rfl (hD d37_6) hr, hrun, hended, _, _, rfl, ?_, ⟨_, rfl⟩, hW, hsame.mono (by decide) (by decide)⟩
  rw [show (T2.setFrames fs).heap = h2 from e2]
  exact ⟨b2, _, rfl, N1, ((Keep.refl h0 []).ext E2), by omega, V2⟩
theorem d39_0 : decode B39 0 = .ok (.getstatic 44, 3) := by decide +kernel
theorem d39_3 : decode B39 3 = .ok (.ifCond .ne 25, 3) := by decide +kernel
theorem d39_28 : decode B39 28 = .ok (.iload_n 1, 1) := by decide +kernel
theorem d39_29 : decode B39 29 = .ok (.iconst 1, 1) := by decide +kernel
theorem d39_30 : decode B39 30 = .ok (.ishl, 1) := by decide +kernel
theorem d39_31 : decode B39 31 = .ok (.istore_n 1, 1) := by decide +kernel
theorem d39_32 : decode B39 32 = .ok (.aload_n 0, 1) := by decide +kernel
theorem d39_33 : decode B39 33 = .ok (.iload_n 1, 1) := by decide +kernel
theorem d39_34 : decode B39 34 = .ok (.iinc 1 1, 3) := by decide +kernel
theorem d39_37 : decode B39 37 = .ok (.iload_n 2, 1) := by decide +kernel
theorem d39_38 : decode B39 38 = .ok (.getstatic 59, 3) := by decide +kernel
theorem d39_41 : decode B39 41 = .ok (.ishr, 1) := by decide +kernel
theorem d39_42 : decode B39 42 = .ok (.i2b, 1) := by decide +kernel
theorem d39_43 : decode B39 43 = .ok (.bastore, 1) := by decide +kernel
theorem d39_44 : decode B39 44 = .ok (.aload_n 0, 1) := by decide +kernel
theorem d39_45 : decode B39 45 = .ok (.iload_n 1, 1) := by decide +kernel
theorem d39_46 : decode B39 46 = .ok (.iload_n 2, 1) := by decide +kernel
theorem d39_47 : decode B39 47 = .ok (.getstatic 63, 3) := by decide +kernel
theorem d39_50 : decode B39 50 = .ok (.ishr, 1) := by decide +kernel
theorem d39_51 : decode B39 51 = .ok (.i2b, 1) := by decide +kernel
theorem d39_52 : decode B39 52 = .ok (.bastore, 1) := by decide +kernel
theorem d39_53 : decode B39 53 = .ok (.return_, 1) := by decide +kernel
theorem own_ef_pc10 (m : MethodId) (x0 : Addr) (x1 : Int32) (x2 : Int32) : entryFrame m #[(.ref x0), (.int x1), (.int x2)] 3 = mkF m 0 #[.val (.ref x0), .val (.int x1), .val (.int x2)] [] := by first | (simp [entryFrame, mkF, argsToLocals, Value.category]; done) | rfl
def own_Q_pc10 (Z : State) (da : Addr) (kd : ClassId) (cc : Int32) (wx wy : Value) (h0 : Heap) (n0 : Nat) (v : Option Value) (h : Heap) (L : List Loc) : Prop := v = none ∧ Fr n0 L ∧ Keep h0 h [da] ∧ Arv Z h da kd .byte (2 : Int32) [(.int ((cc >>> ((0 : Int32) &&& 31)).toInt8.toInt32)), (.int ((cc >>> ((8 : Int32) &&& 31)).toInt8.toInt32))] (.int (0 : Int32))
set_option maxRecDepth 65536 in
set_option maxHeartbeats 40000000 in
theorem own_pc10 (l : Launch) (Z : State) (a0 : Array Value) (hw : ∀ d ∈ tables_1, d.before a0 Z = true) (ws : List Jvm.Cond) (da : Addr) (kd : ClassId) (cc : Int32) (wx wy : Value) (h0 : Heap) (n0 : Nat) (Z0 : n0 ≤ h0.size) (O0 : Old Z n0 h0) (SAD : Sta Z Z.heap "java/lang/StringUTF16" "$assertionsDisabled" "Z" (.int (1 : Int32))) (SHI : Sta Z Z.heap "java/lang/StringUTF16" "HI_BYTE_SHIFT" "I" (.int (0 : Int32))) (SLO : Sta Z Z.heap "java/lang/StringUTF16" "LO_BYTE_SHIFT" "I" (.int (8 : Int32))) (Va : Arv Z h0 da kd .byte (2 : Int32) [wx, wy] (.int (0 : Int32))) (g_da : n0 ≤ da) :
    MetFree l own_M39 (head1 (Jvm.Cond.code own_M39 jdk_52_method_4_code 3 none :: ws) ({ frames := 0, cells := 0, slots := 0, locals := 0 } : Room)) (fun A0 U0 => A0 = #[(.ref da), (.int (0 : Int32)), (.int cc)] ∧ Z.Warmed39 U0.vm ∧ U0.heap = h0) (fun _ _ _ _ _ => True) (fun _ U0 o0 U1 => ∃ v0 L0, o0 = .returned v0 ∧ own_Q_pc10 Z da kd cc wx wy h0 n0 v0 U1.heap L0 ∧ FrameEnd U0 o0 U1 L0 0 0) := by
  refine MetFree.of_bodySF (plainFor_of_name own_pn_java_lang_StringUTF16) hisR ?_
  intro p e s m args below meth c s₁ Bd hml0 hP hK
  obtain ⟨rfl, hZ, hh⟩ := hP
  have hZs0 := hZ
  have hZs := hZ
  have hx := Bd.exec
  have hby := Bd.bytes
  have hD : ∀ {pc : Nat} {r : Except DecodeError (Instr × Nat)}, decode jdk_52_method_4_code pc = r → decode c.code pc = r := fun q => hb hby q
  have hml : c.maxLocals = 3 := hml0
  have hown : s.vm.findClass "java/lang/StringUTF16" = some m.cls := findClass_of_methodNamed Bd.named
  have hnm := (name_of_methodNamed Bd.named Bd.method).1
  have X0 : Stand p l e ({ frames := 0, cells := 0, slots := 0, locals := 0 } : Room) s m #[(.ref da), (.int (0 : Int32)), (.int cc)] below meth c s₁ [] 0 0 := Stand.of_body Bd
  have e0 : s₁.heap = h0 := by rw [← hh, Bd.state]; rfl
  have N0 := Fr.nil n0
  refine OwnFin.entry (own_ef_pc10 m da (0 : Int32) cc) (fun P' hP' => ?_)
  have lt_da := own_lt Va.lt
  obtain ⟨T1, X1, e1, st1⟩ := getS2 X0 hx hZ hown (host := "") (Or.inl (own_w hw 192 rfl)) Via.refl e0 (own_staK SAD O0) (g := (mkF m 0 #[VR da, VI (0:Int32), VI cc] [])) rfl (hD d39_0)
  have hc3_2 : ¬ ((1:Int32) = (0:Int32)) := by decide
  refine OwnFin.adv (B := T1.setTop (mkF m 31 #[VR da, VI (0:Int32), VI cc] [(.int ((0:Int32) <<< ((1:Int32) &&& 31)))])) (fun _ k => st1 _ (XS.ifYes X1.here hx rfl (pc0 := 3) (pc' := 28) rfl (hD d39_3) rfl ((if0 _ _).trans (feq hc3_2).2) (by decide) (by decide) (XS.iloadN X1.here hx rfl (hD d39_28) rfl (XS.iconst X1.here hx rfl (hD d39_29) (XS.ishl X1.here hx rfl (hD d39_30) rfl k))))) ?_
  rw [show (((0:Int32) <<< ((1:Int32) &&& 31)) : Int32) = (0:Int32) from by decide]
  obtain ⟨T2, X2, e2, st2⟩ := getS2 X1 hx hZ hown (host := "") (Or.inl (own_w hw 193 rfl)) Via.refl e1 (own_staK SHI O0) (g := (mkF m 38 #[VR da, VI ((0:Int32) + (1:Int32)), VI cc] [(.int cc), (.int 0), (.ref da)])) rfl (hD d39_38)
  obtain ⟨cl3, Ar3, ck3, S3, M3, H3, G3⟩ := id Va
  have hin3 : ¬ ((0:Int32) < 0 ∨ cl3.slots.size ≤ ((0:Int32)).toNatClampNeg) := inb_of S3 ⟨by decide, by decide⟩
  obtain ⟨T3, h3, X3, e3, W3, st3⟩ := stB X2 hx hZ e2 Ar3 (j := (0:Int32)) hin3 (g := (mkF m 43 #[VR da, VI ((0:Int32) + (1:Int32)), VI cc] [(.int ((cc >>> ((0:Int32) &&& 31)).toInt8.toInt32)), (.int 0), (.ref da)])) rfl rfl (hD d39_43)
  have V3 : Arv Z h3 da kd .byte (2:Int32) [(.int ((cc >>> ((0:Int32) &&& 31)).toInt8.toInt32).toInt8.toInt32), wy] (.int 0) := Arv.set Ar3 ck3 S3 M3 H3 G3 (fits_nar_byte _) W3 0 rfl (Nat.le_of_ble_eq_true rfl)
  have V3s : Arv Z h3 da kd .byte (2:Int32) [(.int ((cc >>> ((0:Int32) &&& 31)).toInt8.toInt32)), wy] (.int 0) := by
    have q := V3
    rw [show ((.int ((cc >>> ((0:Int32) &&& 31)).toInt8.toInt32).toInt8.toInt32) : Value) = (.int ((cc >>> ((0:Int32) &&& 31)).toInt8.toInt32)) from congrArg Value.int (own_narb _)] at q
    exact q
  have sz4 : h0.size ≤ h3.size := Nat.le_of_eq W3.size.symm
  have N3 := Fr.snoc X3 N0 (by omega : n0 ≤ da)
  refine OwnFin.adv (B := T3.setTop (mkF m 46 #[VR da, VI ((0:Int32) + (1:Int32)), VI cc] [(.int ((0:Int32) + (1:Int32))), (.ref da)])) (fun _ k => XS.istoreN X1.here hx rfl (hD d39_31) rfl (l' := #[VR da, VI (0:Int32), VI cc]) rfl (XS.aloadN X1.here hx rfl (hD d39_32) rfl rfl (XS.iloadN X1.here hx rfl (hD d39_33) rfl (XS.iinc X1.here hx rfl (hD d39_34) rfl (l' := #[VR da, VI ((0:Int32) + (1:Int32)), VI cc]) rfl (XS.iloadN X1.here hx rfl (hD d39_37) rfl (st2 _ (XS.ishr X2.here hx rfl (hD d39_41) rfl (XS.i2b X2.here hx rfl (hD d39_42) rfl (st3 _ (XS.aloadN X3.here hx rfl (hD d39_44) rfl rfl (XS.iloadN X3.here hx rfl (hD d39_45) rfl k))))))))))) ?_
  rw [show (((0:Int32) + (1:Int32)) : Int32) = (1:Int32) from by decide]
  have Old6 : Old Z n0 h3 := (O0.wr W3 (by omega))
  obtain ⟨T5, X5, e5, st5⟩ := getS2 X3 hx hZ hown (host := "") (Or.inl (own_w hw 194 rfl)) Via.refl e3 (own_staK SLO Old6) (g := (mkF m 47 #[VR da, VI (1:Int32), VI cc] [(.int cc), (.int 1), (.ref da)])) rfl (hD d39_47)
  obtain ⟨cl7, Ar7, ck7, S7, M7, H7, G7⟩ := id V3s
  have hin7 : ¬ ((1:Int32) < 0 ∨ cl7.slots.size ≤ ((1:Int32)).toNatClampNeg) := inb_of S7 ⟨by decide, by decide⟩
  obtain ⟨T7, h7, X7, e7, W7, st7⟩ := stB X5 hx hZ e5 Ar7 (j := (1:Int32)) hin7 (g := (mkF m 52 #[VR da, VI (1:Int32), VI cc] [(.int ((cc >>> ((8:Int32) &&& 31)).toInt8.toInt32)), (.int 1), (.ref da)])) rfl rfl (hD d39_52)
  have V7 : Arv Z h7 da kd .byte (2:Int32) [(.int ((cc >>> ((0:Int32) &&& 31)).toInt8.toInt32)), (.int ((cc >>> ((8:Int32) &&& 31)).toInt8.toInt32).toInt8.toInt32)] (.int 0) := Arv.set Ar7 ck7 S7 M7 H7 G7 (fits_nar_byte _) W7 1 rfl (Nat.le_of_ble_eq_true rfl)
  have V7s : Arv Z h7 da kd .byte (2:Int32) [(.int ((cc >>> ((0:Int32) &&& 31)).toInt8.toInt32)), (.int ((cc >>> ((8:Int32) &&& 31)).toInt8.toInt32))] (.int 0) := by
    have q := V7
    rw [show ((.int ((cc >>> ((8:Int32) &&& 31)).toInt8.toInt32).toInt8.toInt32) : Value) = (.int ((cc >>> ((8:Int32) &&& 31)).toInt8.toInt32)) from congrArg Value.int (own_narb _)] at q
    exact q
  have sz8 : h3.size ≤ h7.size := Nat.le_of_eq W7.size.symm
  have N7 := Fr.snoc X7 N3 (by omega : n0 ≤ da)
  obtain ⟨fs, hr, hrun, hended, hW, hsame⟩ := X7.leave (v := none) (fun _ => rfl)
  refine OwnFin.adv (B := T7.setTop (mkF m 53 #[VR da, VI (1:Int32), VI cc] [])) (fun _ k => XS.iloadN X3.here hx rfl (hD d39_46) rfl (st5 _ (XS.ishr X5.here hx rfl (hD d39_50) rfl (XS.i2b X5.here hx rfl (hD d39_51) rfl (st7 _ k))))) ?_
  refine OwnFin.leaf hP' ⟨_, _, X7.returnOut hx Bd.returns (hD d39_53) hr, hrun, hended, _, _, rfl, ?_, ⟨_, rfl⟩, hW, hsame.mono (by decide) (by decide)⟩
  rw [show (T7.setFrames fs).heap = h7 from e7]
  exact ⟨rfl, N7, (((Keep.refl h0 [da]).wr W3 (Or.inl (List.mem_of_getElem? (i := 0) rfl))).wr W7 (Or.inl (List.mem_of_getElem? (i := 0) rfl))), V7s⟩
theorem d36_0 : decode B36 0 = .ok (.iload_n 2, 1) := by decide +kernel
theorem own_pd24 : parseMethodDescriptor "(I)[B" = some ⟨[.int], some (.array .byte)⟩ := by decide +kernel
theorem d36_1 : decode B36 1 = .ok (.invokestatic 107, 3) := by decide +kernel
theorem d36_4 : decode B36 4 = .ok (.astore_n 3, 1) := by decide +kernel
theorem d36_5 : decode B36 5 = .ok (.iconst 0, 1) := by decide +kernel
theorem d36_6 : decode B36 6 = .ok (.istore 4, 2) := by decide +kernel
theorem d36_8 : decode B36 8 = .ok (.iload 4, 2) := by decide +kernel
theorem d36_10 : decode B36 10 = .ok (.iload_n 2, 1) := by decide +kernel
theorem d36_11 : decode B36 11 = .ok (.if_icmp .ge 21, 3) := by decide +kernel
theorem d36_14 : decode B36 14 = .ok (.aload_n 3, 1) := by decide +kernel
theorem d36_15 : decode B36 15 = .ok (.iload 4, 2) := by decide +kernel
theorem d36_17 : decode B36 17 = .ok (.aload_n 0, 1) := by decide +kernel
theorem d36_18 : decode B36 18 = .ok (.iload_n 1, 1) := by decide +kernel
theorem d36_19 : decode B36 19 = .ok (.caload, 1) := by decide +kernel
theorem own_pd25 : parseMethodDescriptor "([BII)V" = some ⟨[(.array .byte), .int, .int], none⟩ := by decide +kernel
theorem d36_20 : decode B36 20 = .ok (.invokestatic 111, 3) := by decide +kernel
theorem d36_23 : decode B36 23 = .ok (.iinc 1 1, 3) := by decide +kernel
theorem d36_26 : decode B36 26 = .ok (.iinc 4 1, 3) := by decide +kernel
theorem d36_29 : decode B36 29 = .ok (.goto (-21), 3) := by decide +kernel
theorem d36_32 : decode B36 32 = .ok (.aload_n 3, 1) := by decide +kernel
theorem d36_33 : decode B36 33 = .ok (.areturn, 1) := by decide +kernel
theorem own_ef_toB1 (m : MethodId) (x0 : Addr) (x1 : Int32) (x2 : Int32) : entryFrame m #[(.ref x0), (.int x1), (.int x2)] 5 = mkF m 0 #[.val (.ref x0), .val (.int x1), .val (.int x2), .unset, .unset] [] := by first | (simp [entryFrame, mkF, argsToLocals, Value.category]; done) | rfl
def own_Q_toB1 (Z : State) (vc : Addr) (kc : ClassId) (cA : Int32) (h0 : Heap) (n0 : Nat) (v : Option Value) (h : Heap) (L : List Loc) : Prop := ∃ (t : Addr) (kt : ClassId), v = some (.ref t) ∧ Fr n0 L ∧ Keep h0 h [] ∧ h0.size ≤ t ∧ Arv Z h t kt .byte (2 : Int32) [(.int ((cA >>> ((0 : Int32) &&& 31)).toInt8.toInt32)), (.int ((cA >>> ((8 : Int32) &&& 31)).toInt8.toInt32))] (.int (0 : Int32))
set_option maxRecDepth 65536 in
set_option maxHeartbeats 40000000 in
theorem own_toB1 (l : Launch) (Z : State) (a0 : Array Value) (hw : ∀ d ∈ tables_1, d.before a0 Z = true) (ws : List Jvm.Cond) (vc : Addr) (kc : ClassId) (cA : Int32) (h0 : Heap) (n0 : Nat) (Z0 : n0 ≤ h0.size) (O0 : Old Z n0 h0) (SAD : Sta Z Z.heap "java/lang/StringUTF16" "$assertionsDisabled" "Z" (.int (1 : Int32))) (SHI : Sta Z Z.heap "java/lang/StringUTF16" "HI_BYTE_SHIFT" "I" (.int (0 : Int32))) (SLO : Sta Z Z.heap "java/lang/StringUTF16" "LO_BYTE_SHIFT" "I" (.int (8 : Int32))) (Vc : Arv Z h0 vc kc .char (1 : Int32) [(.int cA)] (.int (0 : Int32))) :
    MetFree l own_M36 (head1 (Jvm.Cond.code own_M36 jdk_52_method_14_code 5 (some (.array .byte)) :: ws) ({ frames := 2, cells := 1, slots := 2, locals := 24 } : Room)) (fun A0 U0 => A0 = #[(.ref vc), (.int (0 : Int32)), (.int (1 : Int32))] ∧ Z.Warmed39 U0.vm ∧ U0.heap = h0) (fun _ _ _ _ _ => True) (fun _ U0 o0 U1 => ∃ v0 L0, o0 = .returned v0 ∧ own_Q_toB1 Z vc kc cA h0 n0 v0 U1.heap L0 ∧ FrameEnd U0 o0 U1 L0 1 2) := by
  refine MetFree.of_bodySF (plainFor_of_name own_pn_java_lang_StringUTF16) hisR ?_
  intro p e s m args below meth c s₁ Bd hml0 hP hK
  obtain ⟨rfl, hZ, hh⟩ := hP
  have hZs0 := hZ
  have hZs := hZ
  have hx := Bd.exec
  have hby := Bd.bytes
  have hD : ∀ {pc : Nat} {r : Except DecodeError (Instr × Nat)}, decode jdk_52_method_14_code pc = r → decode c.code pc = r := fun q => hb hby q
  have hml : c.maxLocals = 5 := hml0
  have hown : s.vm.findClass "java/lang/StringUTF16" = some m.cls := findClass_of_methodNamed Bd.named
  have hnm := (name_of_methodNamed Bd.named Bd.method).1
  have X0 : Stand p l e ({ frames := 2, cells := 1, slots := 2, locals := 24 } : Room) s m #[(.ref vc), (.int (0 : Int32)), (.int (1 : Int32))] below meth c s₁ [] 0 0 := Stand.of_body Bd
  have e0 : s₁.heap = h0 := by rw [← hh, Bd.state]; rfl
  have N0 := Fr.nil n0
  refine OwnFin.entry (own_ef_toB1 m vc (0 : Int32) (1 : Int32)) (fun P' hP' => ?_)
  have lt_vc := own_lt Vc.lt
  obtain ⟨_, _, ⟨T1, L1, k1, n1⟩, -, X1, ⟨Lc1, hQ1, l1, y1, z1⟩, st1⟩ := Jvm.LawKit.callS X0 hx (y := own_M37) hown (mvT hZ (own_w hw 182 rfl)) (mvT hZ (own_w hw 183 rfl)) (mvT hZ (own_w hw 18 rfl)) (mvT hZ (own_w hw 184 rfl)) (by decide) (backOf (W := 0) (own_nbf1 l Z a0 hw [] h0 n0 (by omega)) hZ (own_w hw 184 rfl) (own_w hw 18 rfl) (by decide) (by decide)) (g := (mkF m 1 #[VR vc, VI (0:Int32), VI (1:Int32), .unset, .unset] [(.int 1)])) rfl (by rw [hml]; rfl) (argsL := [(.int 1)]) (rest := []) (lenOf own_pd24 rfl) rfl (by show 2 * 0 + _ ≤ _; exact Nat.le_of_eq rfl) (hD d36_1) (fun _ _ => ⟨rfl, e0, (by decide : 0 + 1 ≤ _), (by decide : 0 + 2 ≤ _)⟩)
  dsimp only [Pt.U, Pt.locs, Pt.cells, Pt.slots] at X1 l1 y1 z1 st1 hQ1
  subst l1 y1 z1
  obtain ⟨t1, kt1, rfl, N1q, K1, ge1, Vt1⟩ := hQ1
  have N1 := Fr.app N0 N1q
  have sz2 : h0.size ≤ T1.heap.size := K1.1
  have lt_t1 := own_lt Vt1.lt
  have hc11_8 : (0:Int32) < (1:Int32) := by decide
  have Fv4_1 := (Vc.keep K1 nin0)
  obtain ⟨cl3, Ar3, ck3, S3, M3, H3, G3⟩ := id Fv4_1
  have hin3 : ¬ ((0:Int32) < 0 ∨ cl3.slots.size ≤ ((0:Int32)).toNatClampNeg) := inb_of S3 ⟨by decide, by decide⟩
  have Old6 : Old Z n0 T1.heap := (O0.keep K1 all0)
  obtain ⟨_, _, ⟨T5, L5, k5, n5⟩, -, X5, ⟨Lc5, hQ5, l5, y5, z5⟩, st5⟩ := Jvm.LawKit.callS X1 hx (y := own_M39) hown (mvT hZ (own_w hw 189 rfl)) (mvT hZ (own_w hw 190 rfl)) (mvT hZ (own_w hw 18 rfl)) (mvT hZ (own_w hw 191 rfl)) (by decide) (backOf (W := 0) (own_pc10 l Z a0 hw [] t1 kt1 cA (.int 0) (.int 0) T1.heap n0 (by omega) Old6 SAD SHI SLO Vt1 (by omega)) hZ (own_w hw 191 rfl) (own_w hw 18 rfl) (by decide) (by decide)) (g := (mkF m 20 #[VR vc, VI (0:Int32), VI (1:Int32), VR t1, VI (0:Int32)] [(.int cA), (.int 0), (.ref t1)])) rfl (by rw [hml]; rfl) (argsL := [(.ref t1), (.int 0), (.int cA)]) (rest := []) (lenOf own_pd25 rfl) rfl (by show 2 * 0 + _ ≤ _; exact Nat.le_of_eq rfl) (hD d36_20) (fun _ _ => ⟨rfl, rfl, (by decide : 1 + 0 ≤ _), (by decide : 2 + 0 ≤ _)⟩)
  dsimp only [Pt.U, Pt.locs, Pt.cells, Pt.slots] at X5 l5 y5 z5 st5 hQ5
  subst l5 y5 z5
  obtain ⟨rfl, N5q, K5, V5⟩ := hQ5
  have N5 := Fr.app N1 N5q
  have sz7 : T1.heap.size ≤ T5.heap.size := K5.1
  refine OwnFin.adv (B := T5.setTop (mkF m 23 #[VR vc, VI (0:Int32), VI (1:Int32), VR t1, VI (0:Int32)] [])) (fun _ k => XS.iloadN X0.here hx rfl (hD d36_0) rfl (st1 _ (XS.astoreN X1.here hx rfl (hD d36_4) rfl rfl (l' := #[VR vc, VI (0:Int32), VI (1:Int32), VR t1, .unset]) rfl (XS.iconst X1.here hx rfl (hD d36_5) (XS.istore X1.here hx rfl (hD d36_6) rfl (l' := #[VR vc, VI (0:Int32), VI (1:Int32), VR t1, VI (0:Int32)]) rfl (XS.iload X1.here hx rfl (hD d36_8) rfl (XS.iloadN X1.here hx rfl (hD d36_10) rfl (XS.icmpNo X1.here hx rfl (hD d36_11) rfl (tlt hc11_8).2.1 (XS.aloadN X1.here hx rfl (hD d36_14) rfl rfl (XS.iload X1.here hx rfl (hD d36_15) rfl (XS.aloadN X1.here hx rfl (hD d36_17) rfl rfl (XS.iloadN X1.here hx rfl (hD d36_18) rfl (X1.caload hx (j := (0:Int32)) (v := (.int cA)) Ar3.1 (State.isArrayOf_alike hZ.alike Ar3.2.1) Ar3.2.2 hin3 (Has.at H3 hin3 rfl) (g := (mkF m 19 #[VR vc, VI (0:Int32), VI (1:Int32), VR t1, VI (0:Int32)] [(.int 0), (.ref vc), (.int 0), (.ref t1)])) rfl rfl (hD d36_19) _ (st5 _ k)))))))))))))) ?_
  refine OwnFin.adv (B := T5.setTop (mkF m 8 #[VR vc, VI ((0:Int32) + (1:Int32)), VI (1:Int32), VR t1, VI ((0:Int32) + (1:Int32))] [])) (fun _ k => XS.iinc X5.here hx rfl (hD d36_23) rfl (l' := #[VR vc, VI ((0:Int32) + (1:Int32)), VI (1:Int32), VR t1, VI (0:Int32)]) rfl (XS.iinc X5.here hx rfl (hD d36_26) rfl (l' := #[VR vc, VI ((0:Int32) + (1:Int32)), VI (1:Int32), VR t1, VI ((0:Int32) + (1:Int32))]) rfl (XS.goto X5.here hx rfl (pc0 := 29) (pc' := 8) rfl (hD d36_29) (by decide) (by decide) k))) ?_
  rw [show (((0:Int32) + (1:Int32)) : Int32) = (1:Int32) from by decide]
  have hc11_20 : ¬ ((1:Int32) < (1:Int32)) := by decide
  obtain ⟨fs, hr, hrun, hended, hW, hsame⟩ := X5.leave (v := some (.ref t1)) (fun h => by rw [Bd.returns] at h; cases h)
  refine OwnFin.adv (B := T5.setTop (mkF m 33 #[VR vc, VI (1:Int32), VI (1:Int32), VR t1, VI (1:Int32)] [(.ref t1)])) (fun _ k => XS.iload X5.here hx rfl (hD d36_8) rfl (XS.iloadN X5.here hx rfl (hD d36_10) rfl (XS.icmpYes X5.here hx rfl (pc0 := 11) (pc' := 32) rfl (hD d36_11) rfl (flt hc11_20).2.1 (by decide) (by decide) (XS.aloadN X5.here hx rfl (hD d36_32) rfl rfl k)))) ?_
  refine OwnFin.leaf hP' ⟨_, _, own_retR X5 hx Bd.returns rfl rfl rfl (hD d36_33) hr, hrun, hended, _, _, rfl, ?_, ⟨_, rfl⟩, hW, hsame.mono (by decide) (by decide)⟩
  rw [show (T5.setFrames fs).heap = T5.heap from rfl]
  exact ⟨t1, _, rfl, N5, (((Keep.refl h0 []).trans K1 all0).trans K5 (allS (Or.inr (by omega)) all0)), by omega, V5⟩
theorem own_ef_nbl2 (m : MethodId) (x0 : Int32) : entryFrame m #[(.int x0)] 1 = mkF m 0 #[.val (.int x0)] [] := by first | (simp [entryFrame, mkF, argsToLocals, Value.category]; done) | rfl
def own_Q_nbl2 (Z : State)  (h0 : Heap) (n0 : Nat) (v : Option Value) (h : Heap) (L : List Loc) : Prop := v = some (.int (4 : Int32)) ∧ Fr n0 L ∧ h = h0
set_option maxRecDepth 65536 in
set_option maxHeartbeats 40000000 in
theorem own_nbl2 (l : Launch) (Z : State) (a0 : Array Value) (hw : ∀ d ∈ tables_1, d.before a0 Z = true) (ws : List Jvm.Cond)  (h0 : Heap) (n0 : Nat) (Z0 : n0 ≤ h0.size) :
    MetFree l own_M38 (head1 (Jvm.Cond.code own_M38 jdk_52_method_3_code 1 (some .int) :: ws) ({ frames := 0, cells := 0, slots := 0, locals := 0 } : Room)) (fun A0 U0 => A0 = #[(.int (2 : Int32))] ∧ Z.Warmed39 U0.vm ∧ U0.heap = h0) (fun _ _ _ _ _ => True) (fun _ U0 o0 U1 => ∃ v0 L0, o0 = .returned v0 ∧ own_Q_nbl2 Z  h0 n0 v0 U1.heap L0 ∧ FrameEnd U0 o0 U1 L0 0 0) := by
  refine MetFree.of_bodySF (plainFor_of_name own_pn_java_lang_StringUTF16) hisR ?_
  intro p e s m args below meth c s₁ Bd hml0 hP hK
  obtain ⟨rfl, hZ, hh⟩ := hP
  have hZs0 := hZ
  have hZs := hZ
  have hx := Bd.exec
  have hby := Bd.bytes
  have hD : ∀ {pc : Nat} {r : Except DecodeError (Instr × Nat)}, decode jdk_52_method_3_code pc = r → decode c.code pc = r := fun q => hb hby q
  have hml : c.maxLocals = 1 := hml0
  have hown : s.vm.findClass "java/lang/StringUTF16" = some m.cls := findClass_of_methodNamed Bd.named
  have hnm := (name_of_methodNamed Bd.named Bd.method).1
  have X0 : Stand p l e ({ frames := 0, cells := 0, slots := 0, locals := 0 } : Room) s m #[(.int (2 : Int32))] below meth c s₁ [] 0 0 := Stand.of_body Bd
  have e0 : s₁.heap = h0 := by rw [← hh, Bd.state]; rfl
  have N0 := Fr.nil n0
  refine OwnFin.entry (own_ef_nbl2 m (2 : Int32)) (fun P' hP' => ?_)
  have hc1_2 : ¬ ((2:Int32) < (0:Int32)) := by decide
  have hc15_5 : (2:Int32) < (1073741823:Int32) := by decide
  obtain ⟨fs, hr, hrun, hended, hW, hsame⟩ := X0.leave (v := some (.int ((2:Int32) <<< ((1:Int32) &&& 31)))) (fun h => by rw [Bd.returns] at h; cases h)
  refine OwnFin.adv (B := s₁.setTop (mkF m 58 #[VI (2:Int32)] [(.int ((2:Int32) <<< ((1:Int32) &&& 31)))])) (fun _ k => XS.iloadN X0.here hx rfl (hD d38_0) rfl (XS.ifYes X0.here hx rfl (pc0 := 1) (pc' := 12) rfl (hD d38_1) rfl ((if0 _ _).trans (flt hc1_2).2.1) (by decide) (by decide) (XS.iloadN X0.here hx rfl (hD d38_12) rfl (X0.ldcInt hx hown (mvT hZ (own_w hw 188 rfl)) (g := (mkF m 13 #[VI (2:Int32)] [(.int 2)])) rfl (hD d38_13) _ (XS.icmpYes X0.here hx rfl (pc0 := 15) (pc' := 55) rfl (hD d38_15) rfl (tlt hc15_5).1 (by decide) (by decide) (XS.iloadN X0.here hx rfl (hD d38_55) rfl (XS.iconst X0.here hx rfl (hD d38_56) (XS.ishl X0.here hx rfl (hD d38_57) rfl k)))))))) ?_
  refine OwnFin.leaf hP' ⟨_, _, own_retI X0 hx Bd.returns (hD d38_58) hr, hrun, hended, _, _, rfl, ?_, ⟨_, rfl⟩, hW, hsame.mono (by decide) (by decide)⟩
  exact ⟨congrArg (fun z => some (Value.int z)) (by decide), N0, e0⟩
theorem own_ef_nbf2 (m : MethodId) (x0 : Int32) : entryFrame m #[(.int x0)] 1 = mkF m 0 #[.val (.int x0)] [] := by first | (simp [entryFrame, mkF, argsToLocals, Value.category]; done) | rfl
def own_Q_nbf2 (Z : State)  (h0 : Heap) (n0 : Nat) (v : Option Value) (h : Heap) (L : List Loc) : Prop := ∃ (t : Addr) (kt : ClassId), v = some (.ref t) ∧ Fr n0 L ∧ Keep h0 h [] ∧ h0.size ≤ t ∧ Arv Z h t kt .byte (4 : Int32) [(.int (0 : Int32)), (.int (0 : Int32)), (.int (0 : Int32)), (.int (0 : Int32))] (.int (0 : Int32))
set_option maxRecDepth 65536 in
set_option maxHeartbeats 40000000 in
theorem own_nbf2 (l : Launch) (Z : State) (a0 : Array Value) (hw : ∀ d ∈ tables_1, d.before a0 Z = true) (ws : List Jvm.Cond)  (h0 : Heap) (n0 : Nat) (Z0 : n0 ≤ h0.size) :
    MetFree l own_M37 (head1 (Jvm.Cond.code own_M37 jdk_52_method_2_code 1 (some (.array .byte)) :: ws) ({ frames := 1, cells := 1, slots := 4, locals := 12 } : Room)) (fun A0 U0 => A0 = #[(.int (2 : Int32))] ∧ Z.Warmed39 U0.vm ∧ U0.heap = h0) (fun _ _ _ _ _ => True) (fun _ U0 o0 U1 => ∃ v0 L0, o0 = .returned v0 ∧ own_Q_nbf2 Z  h0 n0 v0 U1.heap L0 ∧ FrameEnd U0 o0 U1 L0 1 4) := by
  refine MetFree.of_bodySF (plainFor_of_name own_pn_java_lang_StringUTF16) hisR ?_
  intro p e s m args below meth c s₁ Bd hml0 hP hK
  obtain ⟨rfl, hZ, hh⟩ := hP
  have hZs0 := hZ
  have hZs := hZ
  have hx := Bd.exec
  have hby := Bd.bytes
  have hD : ∀ {pc : Nat} {r : Except DecodeError (Instr × Nat)}, decode jdk_52_method_2_code pc = r → decode c.code pc = r := fun q => hb hby q
  have hml : c.maxLocals = 1 := hml0
  have hown : s.vm.findClass "java/lang/StringUTF16" = some m.cls := findClass_of_methodNamed Bd.named
  have hnm := (name_of_methodNamed Bd.named Bd.method).1
  have X0 : Stand p l e ({ frames := 1, cells := 1, slots := 4, locals := 12 } : Room) s m #[(.int (2 : Int32))] below meth c s₁ [] 0 0 := Stand.of_body Bd
  have e0 : s₁.heap = h0 := by rw [← hh, Bd.state]; rfl
  have N0 := Fr.nil n0
  refine OwnFin.entry (own_ef_nbf2 m (2 : Int32)) (fun P' hP' => ?_)
  obtain ⟨_, _, ⟨T1, L1, k1, n1⟩, -, X1, ⟨Lc1, hQ1, l1, y1, z1⟩, st1⟩ := Jvm.LawKit.callS X0 hx (y := own_M38) hown (mvT hZ (own_w hw 185 rfl)) (mvT hZ (own_w hw 186 rfl)) (mvT hZ (own_w hw 18 rfl)) (mvT hZ (own_w hw 187 rfl)) (by decide) (backOf (W := 0) (own_nbl2 l Z a0 hw [] h0 n0 (by omega)) hZ (own_w hw 187 rfl) (own_w hw 18 rfl) (by decide) (by decide)) (g := (mkF m 1 #[VI (2:Int32)] [(.int 2)])) rfl (by rw [hml]; rfl) (argsL := [(.int 2)]) (rest := []) (lenOf own_pd23 rfl) rfl (by show 2 * 0 + _ ≤ _; exact Nat.le_of_eq rfl) (hD d37_1) (fun _ _ => ⟨rfl, e0, (by decide : 0 + 0 ≤ _), (by decide : 0 + 0 ≤ _)⟩)
  dsimp only [Pt.U, Pt.locs, Pt.cells, Pt.slots] at X1 l1 y1 z1 st1 hQ1
  subst l1 y1 z1
  obtain ⟨rfl, N1q, eh1⟩ := hQ1
  have N1 := Fr.app N0 N1q
  obtain ⟨T2, h2, k2, X2, e2, E2, A2, st2⟩ := newP X1 hx hZ (own_w hw 20 rfl) eh1 (g := (mkF m 4 #[VI (2:Int32)] [(.int 4)])) rfl (hD d37_4) rfl (by decide) (cap := 4) (by decide) (by decide) (by decide) (by decide)
  obtain ⟨b2, g2⟩ : ∃ z, z = h0.size := ⟨_, rfl⟩
  rw [← g2] at A2 st2
  have sz3 : h0.size ≤ h2.size := E2.1
  have lt_b2 := own_lt A2.lt
  have V2 : Arv Z h2 b2 k2 .byte (4:Int32) [(.int 0), (.int 0), (.int 0), (.int 0)] (.int 0) := (Arv.new A2 (by decide)).pad (pad_rep [] (.int 0) 4)
  obtain ⟨fs, hr, hrun, hended, hW, hsame⟩ := X2.leave (v := some (.ref b2)) (fun h => by rw [Bd.returns] at h; cases h)
  refine OwnFin.adv (B := T2.setTop (mkF m 6 #[VI (2:Int32)] [(.ref b2)])) (fun _ k => XS.iloadN X0.here hx rfl (hD d37_0) rfl (st1 _ (st2 _ k))) ?_
  refine OwnFin.leaf hP' ⟨_, _, own_retR X2 hx Bd.returns rfl rfl rfl (hD d37_6) hr, hrun, hended, _, _, rfl, ?_, ⟨_, rfl⟩, hW, hsame.mono (by decide) (by decide)⟩
  rw [show (T2.setFrames fs).heap = h2 from e2]
  exact ⟨b2, _, rfl, N1, ((Keep.refl h0 []).ext E2), by omega, V2⟩
theorem own_ef_pc20 (m : MethodId) (x0 : Addr) (x1 : Int32) (x2 : Int32) : entryFrame m #[(.ref x0), (.int x1), (.int x2)] 3 = mkF m 0 #[.val (.ref x0), .val (.int x1), .val (.int x2)] [] := by first | (simp [entryFrame, mkF, argsToLocals, Value.category]; done) | rfl
def own_Q_pc20 (Z : State) (da : Addr) (kd : ClassId) (cc : Int32) (wx wy wz wu : Value) (h0 : Heap) (n0 : Nat) (v : Option Value) (h : Heap) (L : List Loc) : Prop := v = none ∧ Fr n0 L ∧ Keep h0 h [da] ∧ Arv Z h da kd .byte (4 : Int32) [(.int ((cc >>> ((0 : Int32) &&& 31)).toInt8.toInt32)), (.int ((cc >>> ((8 : Int32) &&& 31)).toInt8.toInt32)), wz, wu] (.int (0 : Int32))
set_option maxRecDepth 65536 in
set_option maxHeartbeats 40000000 in
theorem own_pc20 (l : Launch) (Z : State) (a0 : Array Value) (hw : ∀ d ∈ tables_1, d.before a0 Z = true) (ws : List Jvm.Cond) (da : Addr) (kd : ClassId) (cc : Int32) (wx wy wz wu : Value) (h0 : Heap) (n0 : Nat) (Z0 : n0 ≤ h0.size) (O0 : Old Z n0 h0) (SAD : Sta Z Z.heap "java/lang/StringUTF16" "$assertionsDisabled" "Z" (.int (1 : Int32))) (SHI : Sta Z Z.heap "java/lang/StringUTF16" "HI_BYTE_SHIFT" "I" (.int (0 : Int32))) (SLO : Sta Z Z.heap "java/lang/StringUTF16" "LO_BYTE_SHIFT" "I" (.int (8 : Int32))) (Va : Arv Z h0 da kd .byte (4 : Int32) [wx, wy, wz, wu] (.int (0 : Int32))) (g_da : n0 ≤ da) :
    MetFree l own_M39 (head1 (Jvm.Cond.code own_M39 jdk_52_method_4_code 3 none :: ws) ({ frames := 0, cells := 0, slots := 0, locals := 0 } : Room)) (fun A0 U0 => A0 = #[(.ref da), (.int (0 : Int32)), (.int cc)] ∧ Z.Warmed39 U0.vm ∧ U0.heap = h0) (fun _ _ _ _ _ => True) (fun _ U0 o0 U1 => ∃ v0 L0, o0 = .returned v0 ∧ own_Q_pc20 Z da kd cc wx wy wz wu h0 n0 v0 U1.heap L0 ∧ FrameEnd U0 o0 U1 L0 0 0) := by
  refine MetFree.of_bodySF (plainFor_of_name own_pn_java_lang_StringUTF16) hisR ?_
  intro p e s m args below meth c s₁ Bd hml0 hP hK
  obtain ⟨rfl, hZ, hh⟩ := hP
  have hZs0 := hZ
  have hZs := hZ
  have hx := Bd.exec
  have hby := Bd.bytes
  have hD : ∀ {pc : Nat} {r : Except DecodeError (Instr × Nat)}, decode jdk_52_method_4_code pc = r → decode c.code pc = r := fun q => hb hby q
  have hml : c.maxLocals = 3 := hml0
  have hown : s.vm.findClass "java/lang/StringUTF16" = some m.cls := findClass_of_methodNamed Bd.named
  have hnm := (name_of_methodNamed Bd.named Bd.method).1
  have X0 : Stand p l e ({ frames := 0, cells := 0, slots := 0, locals := 0 } : Room) s m #[(.ref da), (.int (0 : Int32)), (.int cc)] below meth c s₁ [] 0 0 := Stand.of_body Bd
  have e0 : s₁.heap = h0 := by rw [← hh, Bd.state]; rfl
  have N0 := Fr.nil n0
  refine OwnFin.entry (own_ef_pc20 m da (0 : Int32) cc) (fun P' hP' => ?_)
  have lt_da := own_lt Va.lt
  obtain ⟨T1, X1, e1, st1⟩ := getS2 X0 hx hZ hown (host := "") (Or.inl (own_w hw 192 rfl)) Via.refl e0 (own_staK SAD O0) (g := (mkF m 0 #[VR da, VI (0:Int32), VI cc] [])) rfl (hD d39_0)
  have hc3_2 : ¬ ((1:Int32) = (0:Int32)) := by decide
  refine OwnFin.adv (B := T1.setTop (mkF m 31 #[VR da, VI (0:Int32), VI cc] [(.int ((0:Int32) <<< ((1:Int32) &&& 31)))])) (fun _ k => st1 _ (XS.ifYes X1.here hx rfl (pc0 := 3) (pc' := 28) rfl (hD d39_3) rfl ((if0 _ _).trans (feq hc3_2).2) (by decide) (by decide) (XS.iloadN X1.here hx rfl (hD d39_28) rfl (XS.iconst X1.here hx rfl (hD d39_29) (XS.ishl X1.here hx rfl (hD d39_30) rfl k))))) ?_
  rw [show (((0:Int32) <<< ((1:Int32) &&& 31)) : Int32) = (0:Int32) from by decide]
  obtain ⟨T2, X2, e2, st2⟩ := getS2 X1 hx hZ hown (host := "") (Or.inl (own_w hw 193 rfl)) Via.refl e1 (own_staK SHI O0) (g := (mkF m 38 #[VR da, VI ((0:Int32) + (1:Int32)), VI cc] [(.int cc), (.int 0), (.ref da)])) rfl (hD d39_38)
  obtain ⟨cl3, Ar3, ck3, S3, M3, H3, G3⟩ := id Va
  have hin3 : ¬ ((0:Int32) < 0 ∨ cl3.slots.size ≤ ((0:Int32)).toNatClampNeg) := inb_of S3 ⟨by decide, by decide⟩
  obtain ⟨T3, h3, X3, e3, W3, st3⟩ := stB X2 hx hZ e2 Ar3 (j := (0:Int32)) hin3 (g := (mkF m 43 #[VR da, VI ((0:Int32) + (1:Int32)), VI cc] [(.int ((cc >>> ((0:Int32) &&& 31)).toInt8.toInt32)), (.int 0), (.ref da)])) rfl rfl (hD d39_43)
  have V3 : Arv Z h3 da kd .byte (4:Int32) [(.int ((cc >>> ((0:Int32) &&& 31)).toInt8.toInt32).toInt8.toInt32), wy, wz, wu] (.int 0) := Arv.set Ar3 ck3 S3 M3 H3 G3 (fits_nar_byte _) W3 0 rfl (Nat.le_of_ble_eq_true rfl)
  have V3s : Arv Z h3 da kd .byte (4:Int32) [(.int ((cc >>> ((0:Int32) &&& 31)).toInt8.toInt32)), wy, wz, wu] (.int 0) := by
    have q := V3
    rw [show ((.int ((cc >>> ((0:Int32) &&& 31)).toInt8.toInt32).toInt8.toInt32) : Value) = (.int ((cc >>> ((0:Int32) &&& 31)).toInt8.toInt32)) from congrArg Value.int (own_narb _)] at q
    exact q
  have sz4 : h0.size ≤ h3.size := Nat.le_of_eq W3.size.symm
  have N3 := Fr.snoc X3 N0 (by omega : n0 ≤ da)
  refine OwnFin.adv (B := T3.setTop (mkF m 46 #[VR da, VI ((0:Int32) + (1:Int32)), VI cc] [(.int ((0:Int32) + (1:Int32))), (.ref da)])) (fun _ k => XS.istoreN X1.here hx rfl (hD d39_31) rfl (l' := #[VR da, VI (0:Int32), VI cc]) rfl (XS.aloadN X1.here hx rfl (hD d39_32) rfl rfl (XS.iloadN X1.here hx rfl (hD d39_33) rfl (XS.iinc X1.here hx rfl (hD d39_34) rfl (l' := #[VR da, VI ((0:Int32) + (1:Int32)), VI cc]) rfl (XS.iloadN X1.here hx rfl (hD d39_37) rfl (st2 _ (XS.ishr X2.here hx rfl (hD d39_41) rfl (XS.i2b X2.here hx rfl (hD d39_42) rfl (st3 _ (XS.aloadN X3.here hx rfl (hD d39_44) rfl rfl (XS.iloadN X3.here hx rfl (hD d39_45) rfl k))))))))))) ?_
  rw [show (((0:Int32) + (1:Int32)) : Int32) = (1:Int32) from by decide]
  have Old6 : Old Z n0 h3 := (O0.wr W3 (by omega))
  obtain ⟨T5, X5, e5, st5⟩ := getS2 X3 hx hZ hown (host := "") (Or.inl (own_w hw 194 rfl)) Via.refl e3 (own_staK SLO Old6) (g := (mkF m 47 #[VR da, VI (1:Int32), VI cc] [(.int cc), (.int 1), (.ref da)])) rfl (hD d39_47)
  obtain ⟨cl7, Ar7, ck7, S7, M7, H7, G7⟩ := id V3s
  have hin7 : ¬ ((1:Int32) < 0 ∨ cl7.slots.size ≤ ((1:Int32)).toNatClampNeg) := inb_of S7 ⟨by decide, by decide⟩
  obtain ⟨T7, h7, X7, e7, W7, st7⟩ := stB X5 hx hZ e5 Ar7 (j := (1:Int32)) hin7 (g := (mkF m 52 #[VR da, VI (1:Int32), VI cc] [(.int ((cc >>> ((8:Int32) &&& 31)).toInt8.toInt32)), (.int 1), (.ref da)])) rfl rfl (hD d39_52)
  have V7 : Arv Z h7 da kd .byte (4:Int32) [(.int ((cc >>> ((0:Int32) &&& 31)).toInt8.toInt32)), (.int ((cc >>> ((8:Int32) &&& 31)).toInt8.toInt32).toInt8.toInt32), wz, wu] (.int 0) := Arv.set Ar7 ck7 S7 M7 H7 G7 (fits_nar_byte _) W7 1 rfl (Nat.le_of_ble_eq_true rfl)
  have V7s : Arv Z h7 da kd .byte (4:Int32) [(.int ((cc >>> ((0:Int32) &&& 31)).toInt8.toInt32)), (.int ((cc >>> ((8:Int32) &&& 31)).toInt8.toInt32)), wz, wu] (.int 0) := by
    have q := V7
    rw [show ((.int ((cc >>> ((8:Int32) &&& 31)).toInt8.toInt32).toInt8.toInt32) : Value) = (.int ((cc >>> ((8:Int32) &&& 31)).toInt8.toInt32)) from congrArg Value.int (own_narb _)] at q
    exact q
  have sz8 : h3.size ≤ h7.size := Nat.le_of_eq W7.size.symm
  have N7 := Fr.snoc X7 N3 (by omega : n0 ≤ da)
  obtain ⟨fs, hr, hrun, hended, hW, hsame⟩ := X7.leave (v := none) (fun _ => rfl)
  refine OwnFin.adv (B := T7.setTop (mkF m 53 #[VR da, VI (1:Int32), VI cc] [])) (fun _ k => XS.iloadN X3.here hx rfl (hD d39_46) rfl (st5 _ (XS.ishr X5.here hx rfl (hD d39_50) rfl (XS.i2b X5.here hx rfl (hD d39_51) rfl (st7 _ k))))) ?_
  refine OwnFin.leaf hP' ⟨_, _, X7.returnOut hx Bd.returns (hD d39_53) hr, hrun, hended, _, _, rfl, ?_, ⟨_, rfl⟩, hW, hsame.mono (by decide) (by decide)⟩
  rw [show (T7.setFrames fs).heap = h7 from e7]
  exact ⟨rfl, N7, (((Keep.refl h0 [da]).wr W3 (Or.inl (List.mem_of_getElem? (i := 0) rfl))).wr W7 (Or.inl (List.mem_of_getElem? (i := 0) rfl))), V7s⟩
theorem own_ef_pc21 (m : MethodId) (x0 : Addr) (x1 : Int32) (x2 : Int32) : entryFrame m #[(.ref x0), (.int x1), (.int x2)] 3 = mkF m 0 #[.val (.ref x0), .val (.int x1), .val (.int x2)] [] := by first | (simp [entryFrame, mkF, argsToLocals, Value.category]; done) | rfl
def own_Q_pc21 (Z : State) (da : Addr) (kd : ClassId) (cc : Int32) (wx wy wz wu : Value) (h0 : Heap) (n0 : Nat) (v : Option Value) (h : Heap) (L : List Loc) : Prop := v = none ∧ Fr n0 L ∧ Keep h0 h [da] ∧ Arv Z h da kd .byte (4 : Int32) [wx, wy, (.int ((cc >>> ((0 : Int32) &&& 31)).toInt8.toInt32)), (.int ((cc >>> ((8 : Int32) &&& 31)).toInt8.toInt32))] (.int (0 : Int32))
set_option maxRecDepth 65536 in
set_option maxHeartbeats 40000000 in
theorem own_pc21 (l : Launch) (Z : State) (a0 : Array Value) (hw : ∀ d ∈ tables_1, d.before a0 Z = true) (ws : List Jvm.Cond) (da : Addr) (kd : ClassId) (cc : Int32) (wx wy wz wu : Value) (h0 : Heap) (n0 : Nat) (Z0 : n0 ≤ h0.size) (O0 : Old Z n0 h0) (SAD : Sta Z Z.heap "java/lang/StringUTF16" "$assertionsDisabled" "Z" (.int (1 : Int32))) (SHI : Sta Z Z.heap "java/lang/StringUTF16" "HI_BYTE_SHIFT" "I" (.int (0 : Int32))) (SLO : Sta Z Z.heap "java/lang/StringUTF16" "LO_BYTE_SHIFT" "I" (.int (8 : Int32))) (Va : Arv Z h0 da kd .byte (4 : Int32) [wx, wy, wz, wu] (.int (0 : Int32))) (g_da : n0 ≤ da) :
    MetFree l own_M39 (head1 (Jvm.Cond.code own_M39 jdk_52_method_4_code 3 none :: ws) ({ frames := 0, cells := 0, slots := 0, locals := 0 } : Room)) (fun A0 U0 => A0 = #[(.ref da), (.int (1 : Int32)), (.int cc)] ∧ Z.Warmed39 U0.vm ∧ U0.heap = h0) (fun _ _ _ _ _ => True) (fun _ U0 o0 U1 => ∃ v0 L0, o0 = .returned v0 ∧ own_Q_pc21 Z da kd cc wx wy wz wu h0 n0 v0 U1.heap L0 ∧ FrameEnd U0 o0 U1 L0 0 0) := by
  refine MetFree.of_bodySF (plainFor_of_name own_pn_java_lang_StringUTF16) hisR ?_
  intro p e s m args below meth c s₁ Bd hml0 hP hK
  obtain ⟨rfl, hZ, hh⟩ := hP
  have hZs0 := hZ
  have hZs := hZ
  have hx := Bd.exec
  have hby := Bd.bytes
  have hD : ∀ {pc : Nat} {r : Except DecodeError (Instr × Nat)}, decode jdk_52_method_4_code pc = r → decode c.code pc = r := fun q => hb hby q
  have hml : c.maxLocals = 3 := hml0
  have hown : s.vm.findClass "java/lang/StringUTF16" = some m.cls := findClass_of_methodNamed Bd.named
  have hnm := (name_of_methodNamed Bd.named Bd.method).1
  have X0 : Stand p l e ({ frames := 0, cells := 0, slots := 0, locals := 0 } : Room) s m #[(.ref da), (.int (1 : Int32)), (.int cc)] below meth c s₁ [] 0 0 := Stand.of_body Bd
  have e0 : s₁.heap = h0 := by rw [← hh, Bd.state]; rfl
  have N0 := Fr.nil n0
  refine OwnFin.entry (own_ef_pc21 m da (1 : Int32) cc) (fun P' hP' => ?_)
  have lt_da := own_lt Va.lt
  obtain ⟨T1, X1, e1, st1⟩ := getS2 X0 hx hZ hown (host := "") (Or.inl (own_w hw 192 rfl)) Via.refl e0 (own_staK SAD O0) (g := (mkF m 0 #[VR da, VI (1:Int32), VI cc] [])) rfl (hD d39_0)
  have hc3_2 : ¬ ((1:Int32) = (0:Int32)) := by decide
  refine OwnFin.adv (B := T1.setTop (mkF m 31 #[VR da, VI (1:Int32), VI cc] [(.int ((1:Int32) <<< ((1:Int32) &&& 31)))])) (fun _ k => st1 _ (XS.ifYes X1.here hx rfl (pc0 := 3) (pc' := 28) rfl (hD d39_3) rfl ((if0 _ _).trans (feq hc3_2).2) (by decide) (by decide) (XS.iloadN X1.here hx rfl (hD d39_28) rfl (XS.iconst X1.here hx rfl (hD d39_29) (XS.ishl X1.here hx rfl (hD d39_30) rfl k))))) ?_
  rw [show (((1:Int32) <<< ((1:Int32) &&& 31)) : Int32) = (2:Int32) from by decide]
  obtain ⟨T2, X2, e2, st2⟩ := getS2 X1 hx hZ hown (host := "") (Or.inl (own_w hw 193 rfl)) Via.refl e1 (own_staK SHI O0) (g := (mkF m 38 #[VR da, VI ((2:Int32) + (1:Int32)), VI cc] [(.int cc), (.int 2), (.ref da)])) rfl (hD d39_38)
  obtain ⟨cl3, Ar3, ck3, S3, M3, H3, G3⟩ := id Va
  have hin3 : ¬ ((2:Int32) < 0 ∨ cl3.slots.size ≤ ((2:Int32)).toNatClampNeg) := inb_of S3 ⟨by decide, by decide⟩
  obtain ⟨T3, h3, X3, e3, W3, st3⟩ := stB X2 hx hZ e2 Ar3 (j := (2:Int32)) hin3 (g := (mkF m 43 #[VR da, VI ((2:Int32) + (1:Int32)), VI cc] [(.int ((cc >>> ((0:Int32) &&& 31)).toInt8.toInt32)), (.int 2), (.ref da)])) rfl rfl (hD d39_43)
  have V3 : Arv Z h3 da kd .byte (4:Int32) [wx, wy, (.int ((cc >>> ((0:Int32) &&& 31)).toInt8.toInt32).toInt8.toInt32), wu] (.int 0) := Arv.set Ar3 ck3 S3 M3 H3 G3 (fits_nar_byte _) W3 2 rfl (Nat.le_of_ble_eq_true rfl)
  have V3s : Arv Z h3 da kd .byte (4:Int32) [wx, wy, (.int ((cc >>> ((0:Int32) &&& 31)).toInt8.toInt32)), wu] (.int 0) := by
    have q := V3
    rw [show ((.int ((cc >>> ((0:Int32) &&& 31)).toInt8.toInt32).toInt8.toInt32) : Value) = (.int ((cc >>> ((0:Int32) &&& 31)).toInt8.toInt32)) from congrArg Value.int (own_narb _)] at q
    exact q
  have sz4 : h0.size ≤ h3.size := Nat.le_of_eq W3.size.symm
  have N3 := Fr.snoc X3 N0 (by omega : n0 ≤ da)
  refine OwnFin.adv (B := T3.setTop (mkF m 46 #[VR da, VI ((2:Int32) + (1:Int32)), VI cc] [(.int ((2:Int32) + (1:Int32))), (.ref da)])) (fun _ k => XS.istoreN X1.here hx rfl (hD d39_31) rfl (l' := #[VR da, VI (2:Int32), VI cc]) rfl (XS.aloadN X1.here hx rfl (hD d39_32) rfl rfl (XS.iloadN X1.here hx rfl (hD d39_33) rfl (XS.iinc X1.here hx rfl (hD d39_34) rfl (l' := #[VR da, VI ((2:Int32) + (1:Int32)), VI cc]) rfl (XS.iloadN X1.here hx rfl (hD d39_37) rfl (st2 _ (XS.ishr X2.here hx rfl (hD d39_41) rfl (XS.i2b X2.here hx rfl (hD d39_42) rfl (st3 _ (XS.aloadN X3.here hx rfl (hD d39_44) rfl rfl (XS.iloadN X3.here hx rfl (hD d39_45) rfl k))))))))))) ?_
  rw [show (((2:Int32) + (1:Int32)) : Int32) = (3:Int32) from by decide]
  have Old6 : Old Z n0 h3 := (O0.wr W3 (by omega))
  obtain ⟨T5, X5, e5, st5⟩ := getS2 X3 hx hZ hown (host := "") (Or.inl (own_w hw 194 rfl)) Via.refl e3 (own_staK SLO Old6) (g := (mkF m 47 #[VR da, VI (3:Int32), VI cc] [(.int cc), (.int 3), (.ref da)])) rfl (hD d39_47)
  obtain ⟨cl7, Ar7, ck7, S7, M7, H7, G7⟩ := id V3s
  have hin7 : ¬ ((3:Int32) < 0 ∨ cl7.slots.size ≤ ((3:Int32)).toNatClampNeg) := inb_of S7 ⟨by decide, by decide⟩
  obtain ⟨T7, h7, X7, e7, W7, st7⟩ := stB X5 hx hZ e5 Ar7 (j := (3:Int32)) hin7 (g := (mkF m 52 #[VR da, VI (3:Int32), VI cc] [(.int ((cc >>> ((8:Int32) &&& 31)).toInt8.toInt32)), (.int 3), (.ref da)])) rfl rfl (hD d39_52)
  have V7 : Arv Z h7 da kd .byte (4:Int32) [wx, wy, (.int ((cc >>> ((0:Int32) &&& 31)).toInt8.toInt32)), (.int ((cc >>> ((8:Int32) &&& 31)).toInt8.toInt32).toInt8.toInt32)] (.int 0) := Arv.set Ar7 ck7 S7 M7 H7 G7 (fits_nar_byte _) W7 3 rfl (Nat.le_of_ble_eq_true rfl)
  have V7s : Arv Z h7 da kd .byte (4:Int32) [wx, wy, (.int ((cc >>> ((0:Int32) &&& 31)).toInt8.toInt32)), (.int ((cc >>> ((8:Int32) &&& 31)).toInt8.toInt32))] (.int 0) := by
    have q := V7
    rw [show ((.int ((cc >>> ((8:Int32) &&& 31)).toInt8.toInt32).toInt8.toInt32) : Value) = (.int ((cc >>> ((8:Int32) &&& 31)).toInt8.toInt32)) from congrArg Value.int (own_narb _)] at q
    exact q
  have sz8 : h3.size ≤ h7.size := Nat.le_of_eq W7.size.symm
  have N7 := Fr.snoc X7 N3 (by omega : n0 ≤ da)
  obtain ⟨fs, hr, hrun, hended, hW, hsame⟩ := X7.leave (v := none) (fun _ => rfl)
  refine OwnFin.adv (B := T7.setTop (mkF m 53 #[VR da, VI (3:Int32), VI cc] [])) (fun _ k => XS.iloadN X3.here hx rfl (hD d39_46) rfl (st5 _ (XS.ishr X5.here hx rfl (hD d39_50) rfl (XS.i2b X5.here hx rfl (hD d39_51) rfl (st7 _ k))))) ?_
  refine OwnFin.leaf hP' ⟨_, _, X7.returnOut hx Bd.returns (hD d39_53) hr, hrun, hended, _, _, rfl, ?_, ⟨_, rfl⟩, hW, hsame.mono (by decide) (by decide)⟩
  rw [show (T7.setFrames fs).heap = h7 from e7]
  exact ⟨rfl, N7, (((Keep.refl h0 [da]).wr W3 (Or.inl (List.mem_of_getElem? (i := 0) rfl))).wr W7 (Or.inl (List.mem_of_getElem? (i := 0) rfl))), V7s⟩
theorem own_ef_toB2 (m : MethodId) (x0 : Addr) (x1 : Int32) (x2 : Int32) : entryFrame m #[(.ref x0), (.int x1), (.int x2)] 5 = mkF m 0 #[.val (.ref x0), .val (.int x1), .val (.int x2), .unset, .unset] [] := by first | (simp [entryFrame, mkF, argsToLocals, Value.category]; done) | rfl
def own_Q_toB2 (Z : State) (vc : Addr) (kc : ClassId) (cA cB : Int32) (h0 : Heap) (n0 : Nat) (v : Option Value) (h : Heap) (L : List Loc) : Prop := ∃ (t : Addr) (kt : ClassId), v = some (.ref t) ∧ Fr n0 L ∧ Keep h0 h [] ∧ h0.size ≤ t ∧ Arv Z h t kt .byte (4 : Int32) [(.int ((cA >>> ((0 : Int32) &&& 31)).toInt8.toInt32)), (.int ((cA >>> ((8 : Int32) &&& 31)).toInt8.toInt32)), (.int ((cB >>> ((0 : Int32) &&& 31)).toInt8.toInt32)), (.int ((cB >>> ((8 : Int32) &&& 31)).toInt8.toInt32))] (.int (0 : Int32))
set_option maxRecDepth 65536 in
set_option maxHeartbeats 40000000 in
theorem own_toB2 (l : Launch) (Z : State) (a0 : Array Value) (hw : ∀ d ∈ tables_1, d.before a0 Z = true) (ws : List Jvm.Cond) (vc : Addr) (kc : ClassId) (cA cB : Int32) (h0 : Heap) (n0 : Nat) (Z0 : n0 ≤ h0.size) (O0 : Old Z n0 h0) (SAD : Sta Z Z.heap "java/lang/StringUTF16" "$assertionsDisabled" "Z" (.int (1 : Int32))) (SHI : Sta Z Z.heap "java/lang/StringUTF16" "HI_BYTE_SHIFT" "I" (.int (0 : Int32))) (SLO : Sta Z Z.heap "java/lang/StringUTF16" "LO_BYTE_SHIFT" "I" (.int (8 : Int32))) (Vc : Arv Z h0 vc kc .char (2 : Int32) [(.int cA), (.int cB)] (.int (0 : Int32))) :
    MetFree l own_M36 (head1 (Jvm.Cond.code own_M36 jdk_52_method_14_code 5 (some (.array .byte)) :: ws) ({ frames := 2, cells := 1, slots := 4, locals := 24 } : Room)) (fun A0 U0 => A0 = #[(.ref vc), (.int (0 : Int32)), (.int (2 : Int32))] ∧ Z.Warmed39 U0.vm ∧ U0.heap = h0) (fun _ _ _ _ _ => True) (fun _ U0 o0 U1 => ∃ v0 L0, o0 = .returned v0 ∧ own_Q_toB2 Z vc kc cA cB h0 n0 v0 U1.heap L0 ∧ FrameEnd U0 o0 U1 L0 1 4) := by
  refine MetFree.of_bodySF (plainFor_of_name own_pn_java_lang_StringUTF16) hisR ?_
  intro p e s m args below meth c s₁ Bd hml0 hP hK
  obtain ⟨rfl, hZ, hh⟩ := hP
  have hZs0 := hZ
  have hZs := hZ
  have hx := Bd.exec
  have hby := Bd.bytes
  have hD : ∀ {pc : Nat} {r : Except DecodeError (Instr × Nat)}, decode jdk_52_method_14_code pc = r → decode c.code pc = r := fun q => hb hby q
  have hml : c.maxLocals = 5 := hml0
  have hown : s.vm.findClass "java/lang/StringUTF16" = some m.cls := findClass_of_methodNamed Bd.named
  have hnm := (name_of_methodNamed Bd.named Bd.method).1
  have X0 : Stand p l e ({ frames := 2, cells := 1, slots := 4, locals := 24 } : Room) s m #[(.ref vc), (.int (0 : Int32)), (.int (2 : Int32))] below meth c s₁ [] 0 0 := Stand.of_body Bd
  have e0 : s₁.heap = h0 := by rw [← hh, Bd.state]; rfl
  have N0 := Fr.nil n0
  refine OwnFin.entry (own_ef_toB2 m vc (0 : Int32) (2 : Int32)) (fun P' hP' => ?_)
  have lt_vc := own_lt Vc.lt
  obtain ⟨_, _, ⟨T1, L1, k1, n1⟩, -, X1, ⟨Lc1, hQ1, l1, y1, z1⟩, st1⟩ := Jvm.LawKit.callS X0 hx (y := own_M37) hown (mvT hZ (own_w hw 182 rfl)) (mvT hZ (own_w hw 183 rfl)) (mvT hZ (own_w hw 18 rfl)) (mvT hZ (own_w hw 184 rfl)) (by decide) (backOf (W := 0) (own_nbf2 l Z a0 hw [] h0 n0 (by omega)) hZ (own_w hw 184 rfl) (own_w hw 18 rfl) (by decide) (by decide)) (g := (mkF m 1 #[VR vc, VI (0:Int32), VI (2:Int32), .unset, .unset] [(.int 2)])) rfl (by rw [hml]; rfl) (argsL := [(.int 2)]) (rest := []) (lenOf own_pd24 rfl) rfl (by show 2 * 0 + _ ≤ _; exact Nat.le_of_eq rfl) (hD d36_1) (fun _ _ => ⟨rfl, e0, (by decide : 0 + 1 ≤ _), (by decide : 0 + 4 ≤ _)⟩)
  dsimp only [Pt.U, Pt.locs, Pt.cells, Pt.slots] at X1 l1 y1 z1 st1 hQ1
  subst l1 y1 z1
  obtain ⟨t1, kt1, rfl, N1q, K1, ge1, Vt1⟩ := hQ1
  have N1 := Fr.app N0 N1q
  have sz2 : h0.size ≤ T1.heap.size := K1.1
  have lt_t1 := own_lt Vt1.lt
  have hc11_8 : (0:Int32) < (2:Int32) := by decide
  have Fv4_1 := (Vc.keep K1 nin0)
  obtain ⟨cl3, Ar3, ck3, S3, M3, H3, G3⟩ := id Fv4_1
  have hin3 : ¬ ((0:Int32) < 0 ∨ cl3.slots.size ≤ ((0:Int32)).toNatClampNeg) := inb_of S3 ⟨by decide, by decide⟩
  have Old6 : Old Z n0 T1.heap := (O0.keep K1 all0)
  obtain ⟨_, _, ⟨T5, L5, k5, n5⟩, -, X5, ⟨Lc5, hQ5, l5, y5, z5⟩, st5⟩ := Jvm.LawKit.callS X1 hx (y := own_M39) hown (mvT hZ (own_w hw 189 rfl)) (mvT hZ (own_w hw 190 rfl)) (mvT hZ (own_w hw 18 rfl)) (mvT hZ (own_w hw 191 rfl)) (by decide) (backOf (W := 0) (own_pc20 l Z a0 hw [] t1 kt1 cA (.int 0) (.int 0) (.int 0) (.int 0) T1.heap n0 (by omega) Old6 SAD SHI SLO Vt1 (by omega)) hZ (own_w hw 191 rfl) (own_w hw 18 rfl) (by decide) (by decide)) (g := (mkF m 20 #[VR vc, VI (0:Int32), VI (2:Int32), VR t1, VI (0:Int32)] [(.int cA), (.int 0), (.ref t1)])) rfl (by rw [hml]; rfl) (argsL := [(.ref t1), (.int 0), (.int cA)]) (rest := []) (lenOf own_pd25 rfl) rfl (by show 2 * 0 + _ ≤ _; exact Nat.le_of_eq rfl) (hD d36_20) (fun _ _ => ⟨rfl, rfl, (by decide : 1 + 0 ≤ _), (by decide : 4 + 0 ≤ _)⟩)
  dsimp only [Pt.U, Pt.locs, Pt.cells, Pt.slots] at X5 l5 y5 z5 st5 hQ5
  subst l5 y5 z5
  obtain ⟨rfl, N5q, K5, V5⟩ := hQ5
  have N5 := Fr.app N1 N5q
  have sz7 : T1.heap.size ≤ T5.heap.size := K5.1
  refine OwnFin.adv (B := T5.setTop (mkF m 23 #[VR vc, VI (0:Int32), VI (2:Int32), VR t1, VI (0:Int32)] [])) (fun _ k => XS.iloadN X0.here hx rfl (hD d36_0) rfl (st1 _ (XS.astoreN X1.here hx rfl (hD d36_4) rfl rfl (l' := #[VR vc, VI (0:Int32), VI (2:Int32), VR t1, .unset]) rfl (XS.iconst X1.here hx rfl (hD d36_5) (XS.istore X1.here hx rfl (hD d36_6) rfl (l' := #[VR vc, VI (0:Int32), VI (2:Int32), VR t1, VI (0:Int32)]) rfl (XS.iload X1.here hx rfl (hD d36_8) rfl (XS.iloadN X1.here hx rfl (hD d36_10) rfl (XS.icmpNo X1.here hx rfl (hD d36_11) rfl (tlt hc11_8).2.1 (XS.aloadN X1.here hx rfl (hD d36_14) rfl rfl (XS.iload X1.here hx rfl (hD d36_15) rfl (XS.aloadN X1.here hx rfl (hD d36_17) rfl rfl (XS.iloadN X1.here hx rfl (hD d36_18) rfl (X1.caload hx (j := (0:Int32)) (v := (.int cA)) Ar3.1 (State.isArrayOf_alike hZ.alike Ar3.2.1) Ar3.2.2 hin3 (Has.at H3 hin3 rfl) (g := (mkF m 19 #[VR vc, VI (0:Int32), VI (2:Int32), VR t1, VI (0:Int32)] [(.int 0), (.ref vc), (.int 0), (.ref t1)])) rfl rfl (hD d36_19) _ (st5 _ k)))))))))))))) ?_
  refine OwnFin.adv (B := T5.setTop (mkF m 8 #[VR vc, VI ((0:Int32) + (1:Int32)), VI (2:Int32), VR t1, VI ((0:Int32) + (1:Int32))] [])) (fun _ k => XS.iinc X5.here hx rfl (hD d36_23) rfl (l' := #[VR vc, VI ((0:Int32) + (1:Int32)), VI (2:Int32), VR t1, VI (0:Int32)]) rfl (XS.iinc X5.here hx rfl (hD d36_26) rfl (l' := #[VR vc, VI ((0:Int32) + (1:Int32)), VI (2:Int32), VR t1, VI ((0:Int32) + (1:Int32))]) rfl (XS.goto X5.here hx rfl (pc0 := 29) (pc' := 8) rfl (hD d36_29) (by decide) (by decide) k))) ?_
  rw [show (((0:Int32) + (1:Int32)) : Int32) = (1:Int32) from by decide]
  have hc11_20 : (1:Int32) < (2:Int32) := by decide
  have Fv9_2 := (Fv4_1.keep K5 (ninS (own_ne (by omega)) nin0))
  obtain ⟨cl8, Ar8, ck8, S8, M8, H8, G8⟩ := id Fv9_2
  have hin8 : ¬ ((1:Int32) < 0 ∨ cl8.slots.size ≤ ((1:Int32)).toNatClampNeg) := inb_of S8 ⟨by decide, by decide⟩
  have Old11 : Old Z n0 T5.heap := (Old6.keep K5 (allS (by omega) all0))
  obtain ⟨_, _, ⟨T10, L10, k10, n10⟩, -, X10, ⟨Lc10, hQ10, l10, y10, z10⟩, st10⟩ := Jvm.LawKit.callS X5 hx (y := own_M39) hown (mvT hZ (own_w hw 189 rfl)) (mvT hZ (own_w hw 190 rfl)) (mvT hZ (own_w hw 18 rfl)) (mvT hZ (own_w hw 191 rfl)) (by decide) (backOf (W := 0) (own_pc21 l Z a0 hw [] t1 kt1 cB (.int ((cA >>> ((0:Int32) &&& 31)).toInt8.toInt32)) (.int ((cA >>> ((8:Int32) &&& 31)).toInt8.toInt32)) (.int 0) (.int 0) T5.heap n0 (by omega) Old11 SAD SHI SLO V5 (by omega)) hZ (own_w hw 191 rfl) (own_w hw 18 rfl) (by decide) (by decide)) (g := (mkF m 20 #[VR vc, VI (1:Int32), VI (2:Int32), VR t1, VI (1:Int32)] [(.int cB), (.int 1), (.ref t1)])) rfl (by rw [hml]; rfl) (argsL := [(.ref t1), (.int 1), (.int cB)]) (rest := []) (lenOf own_pd25 rfl) rfl (by show 2 * 0 + _ ≤ _; exact Nat.le_of_eq rfl) (hD d36_20) (fun _ _ => ⟨rfl, rfl, (by decide : 1 + 0 ≤ _), (by decide : 4 + 0 ≤ _)⟩)
  dsimp only [Pt.U, Pt.locs, Pt.cells, Pt.slots] at X10 l10 y10 z10 st10 hQ10
  subst l10 y10 z10
  obtain ⟨rfl, N10q, K10, V10⟩ := hQ10
  have N10 := Fr.app N5 N10q
  have sz12 : T5.heap.size ≤ T10.heap.size := K10.1
  refine OwnFin.adv (B := T10.setTop (mkF m 8 #[VR vc, VI ((1:Int32) + (1:Int32)), VI (2:Int32), VR t1, VI ((1:Int32) + (1:Int32))] [])) (fun _ k => XS.iload X5.here hx rfl (hD d36_8) rfl (XS.iloadN X5.here hx rfl (hD d36_10) rfl (XS.icmpNo X5.here hx rfl (hD d36_11) rfl (tlt hc11_20).2.1 (XS.aloadN X5.here hx rfl (hD d36_14) rfl rfl (XS.iload X5.here hx rfl (hD d36_15) rfl (XS.aloadN X5.here hx rfl (hD d36_17) rfl rfl (XS.iloadN X5.here hx rfl (hD d36_18) rfl (X5.caload hx (j := (1:Int32)) (v := (.int cB)) Ar8.1 (State.isArrayOf_alike hZ.alike Ar8.2.1) Ar8.2.2 hin8 (Has.at H8 hin8 rfl) (g := (mkF m 19 #[VR vc, VI (1:Int32), VI (2:Int32), VR t1, VI (1:Int32)] [(.int 1), (.ref vc), (.int 1), (.ref t1)])) rfl rfl (hD d36_19) _ (st10 _ (XS.iinc X10.here hx rfl (hD d36_23) rfl (l' := #[VR vc, VI ((1:Int32) + (1:Int32)), VI (2:Int32), VR t1, VI (1:Int32)]) rfl (XS.iinc X10.here hx rfl (hD d36_26) rfl (l' := #[VR vc, VI ((1:Int32) + (1:Int32)), VI (2:Int32), VR t1, VI ((1:Int32) + (1:Int32))]) rfl (XS.goto X10.here hx rfl (pc0 := 29) (pc' := 8) rfl (hD d36_29) (by decide) (by decide) k)))))))))))) ?_
  rw [show (((1:Int32) + (1:Int32)) : Int32) = (2:Int32) from by decide]
  have hc11_32 : ¬ ((2:Int32) < (2:Int32)) := by decide
  obtain ⟨fs, hr, hrun, hended, hW, hsame⟩ := X10.leave (v := some (.ref t1)) (fun h => by rw [Bd.returns] at h; cases h)
  refine OwnFin.adv (B := T10.setTop (mkF m 33 #[VR vc, VI (2:Int32), VI (2:Int32), VR t1, VI (2:Int32)] [(.ref t1)])) (fun _ k => XS.iload X10.here hx rfl (hD d36_8) rfl (XS.iloadN X10.here hx rfl (hD d36_10) rfl (XS.icmpYes X10.here hx rfl (pc0 := 11) (pc' := 32) rfl (hD d36_11) rfl (flt hc11_32).2.1 (by decide) (by decide) (XS.aloadN X10.here hx rfl (hD d36_32) rfl rfl k)))) ?_
  refine OwnFin.leaf hP' ⟨_, _, own_retR X10 hx Bd.returns rfl rfl rfl (hD d36_33) hr, hrun, hended, _, _, rfl, ?_, ⟨_, rfl⟩, hW, hsame.mono (by decide) (by decide)⟩
  rw [show (T10.setFrames fs).heap = T10.heap from rfl]
  exact ⟨t1, _, rfl, N10, ((((Keep.refl h0 []).trans K1 all0).trans K5 (allS (Or.inr (by omega)) all0)).trans K10 (allS (Or.inr (by omega)) all0)), by omega, V10⟩
theorem d5_0 : decode B5 0 = .ok (.iconst 0, 1) := by decide +kernel
theorem d5_1 : decode B5 1 = .ok (.istore 5, 2) := by decide +kernel
theorem d5_3 : decode B5 3 = .ok (.iload 5, 2) := by decide +kernel
theorem d5_5 : decode B5 5 = .ok (.iload 4, 2) := by decide +kernel
theorem d5_7 : decode B5 7 = .ok (.if_icmp .ge 37, 3) := by decide +kernel
theorem d5_10 : decode B5 10 = .ok (.aload_n 0, 1) := by decide +kernel
theorem d5_11 : decode B5 11 = .ok (.iload_n 1, 1) := by decide +kernel
theorem d5_12 : decode B5 12 = .ok (.caload, 1) := by decide +kernel
theorem d5_13 : decode B5 13 = .ok (.istore 6, 2) := by decide +kernel
theorem d5_15 : decode B5 15 = .ok (.iload 6, 2) := by decide +kernel
theorem d5_17 : decode B5 17 = .ok (.sipush 255, 3) := by decide +kernel
theorem d5_20 : decode B5 20 = .ok (.if_icmp .le 6, 3) := by decide +kernel
theorem d5_23 : decode B5 23 = .ok (.iload 5, 2) := by decide +kernel
theorem d5_25 : decode B5 25 = .ok (.ireturn, 1) := by decide +kernel
theorem d5_26 : decode B5 26 = .ok (.aload_n 2, 1) := by decide +kernel
theorem d5_27 : decode B5 27 = .ok (.iload_n 3, 1) := by decide +kernel
theorem d5_28 : decode B5 28 = .ok (.iload 6, 2) := by decide +kernel
theorem d5_30 : decode B5 30 = .ok (.i2b, 1) := by decide +kernel
theorem d5_31 : decode B5 31 = .ok (.bastore, 1) := by decide +kernel
theorem d5_32 : decode B5 32 = .ok (.iinc 1 1, 3) := by decide +kernel
theorem d5_35 : decode B5 35 = .ok (.iinc 3 1, 3) := by decide +kernel
theorem d5_38 : decode B5 38 = .ok (.iinc 5 1, 3) := by decide +kernel
theorem d5_41 : decode B5 41 = .ok (.goto (-38), 3) := by decide +kernel
theorem d5_44 : decode B5 44 = .ok (.iload 4, 2) := by decide +kernel
theorem d5_46 : decode B5 46 = .ok (.ireturn, 1) := by decide +kernel
theorem own_ef_cm5_1 (m : MethodId) (x0 : Addr) (x1 : Int32) (x2 : Addr) (x3 : Int32) (x4 : Int32) : entryFrame m #[(.ref x0), (.int x1), (.ref x2), (.int x3), (.int x4)] 7 = mkF m 0 #[.val (.ref x0), .val (.int x1), .val (.ref x2), .val (.int x3), .val (.int x4), .unset, .unset] [] := by first | (simp [entryFrame, mkF, argsToLocals, Value.category]; done) | rfl
def own_Q_cm5_1 (Z : State) (vc da : Addr) (kc kd : ClassId) (cA : Int32) (h0 : Heap) (n0 : Nat) (v : Option Value) (h : Heap) (L : List Loc) : Prop := ∃ kk : Nat, v = some (.int (Int32.ofNat kk)) ∧ Fr n0 L ∧ Keep h0 h [da] ∧ ((kk = 1 ∧ (∀ c ∈ ([cA] : List Int32), ¬ (255 : Int32) < c) ∧ Arv Z h da kd .byte (1 : Int32) [(.int (cA.toInt8.toInt32))] (.int (0 : Int32))) ∨ (kk < 1 ∧ (255 : Int32) < ([cA] : List Int32).getD kk 0))
set_option maxRecDepth 65536 in
set_option maxHeartbeats 40000000 in
theorem own_cm5_1 (l : Launch) (Z : State) (a0 : Array Value) (hw : ∀ d ∈ tables_1, d.before a0 Z = true) (ws : List Jvm.Cond) (vc da : Addr) (kc kd : ClassId) (cA : Int32) (h0 : Heap) (n0 : Nat) (Z0 : n0 ≤ h0.size) (Vc : Arv Z h0 vc kc .char (1 : Int32) [(.int cA)] (.int (0 : Int32))) (Va : Arv Z h0 da kd .byte (1 : Int32) [(.int (0 : Int32))] (.int (0 : Int32))) (g_da : n0 ≤ da) (ne0 : vc ≠ da) :
    MetFree l own_M5 (head1 (Jvm.Cond.code own_M5 jdk_52_method_21_code 7 (some .int) :: ws) ({ frames := 0, cells := 0, slots := 0, locals := 0 } : Room)) (fun A0 U0 => A0 = #[(.ref vc), (.int (0 : Int32)), (.ref da), (.int (0 : Int32)), (.int (1 : Int32))] ∧ Z.Warmed39 U0.vm ∧ U0.heap = h0) (fun _ _ _ _ _ => True) (fun _ U0 o0 U1 => ∃ v0 L0, o0 = .returned v0 ∧ own_Q_cm5_1 Z vc da kc kd cA h0 n0 v0 U1.heap L0 ∧ FrameEnd U0 o0 U1 L0 0 0) := by
  refine MetFree.of_bodySF (plainFor_of_name own_pn_java_lang_StringUTF16) hisR ?_
  intro p e s m args below meth c s₁ Bd hml0 hP hK
  obtain ⟨rfl, hZ, hh⟩ := hP
  have hZs0 := hZ
  have hZs := hZ
  have hx := Bd.exec
  have hby := Bd.bytes
  have hD : ∀ {pc : Nat} {r : Except DecodeError (Instr × Nat)}, decode jdk_52_method_21_code pc = r → decode c.code pc = r := fun q => hb hby q
  have hml : c.maxLocals = 7 := hml0
  have hown : s.vm.findClass "java/lang/StringUTF16" = some m.cls := findClass_of_methodNamed Bd.named
  have hnm := (name_of_methodNamed Bd.named Bd.method).1
  have X0 : Stand p l e ({ frames := 0, cells := 0, slots := 0, locals := 0 } : Room) s m #[(.ref vc), (.int (0 : Int32)), (.ref da), (.int (0 : Int32)), (.int (1 : Int32))] below meth c s₁ [] 0 0 := Stand.of_body Bd
  have e0 : s₁.heap = h0 := by rw [← hh, Bd.state]; rfl
  have N0 := Fr.nil n0
  refine OwnFin.entry (own_ef_cm5_1 m vc (0 : Int32) da (0 : Int32) (1 : Int32)) (fun P' hP' => ?_)
  have lt_vc := own_lt Vc.lt
  have lt_da := own_lt Va.lt
  have ne_cd := own_nee ne0
  have hc7_5 : (0:Int32) < (1:Int32) := by decide
  obtain ⟨cl1, Ar1, ck1, S1, M1, H1, G1⟩ := id Vc
  have hin1 : ¬ ((0:Int32) < 0 ∨ cl1.slots.size ≤ ((0:Int32)).toNatClampNeg) := inb_of S1 ⟨by decide, by decide⟩
  refine OwnFin.adv (B := s₁.setTop (mkF m 15 #[VR vc, VI (0:Int32), VR da, VI (0:Int32), VI (1:Int32), VI (0:Int32), VI cA] [])) (fun _ k => XS.iconst X0.here hx rfl (hD d5_0) (XS.istore X0.here hx rfl (hD d5_1) rfl (l' := #[VR vc, VI (0:Int32), VR da, VI (0:Int32), VI (1:Int32), VI (0:Int32), .unset]) rfl (XS.iload X0.here hx rfl (hD d5_3) rfl (XS.iload X0.here hx rfl (hD d5_5) rfl (XS.icmpNo X0.here hx rfl (hD d5_7) rfl (tlt hc7_5).2.1 (XS.aloadN X0.here hx rfl (hD d5_10) rfl rfl (XS.iloadN X0.here hx rfl (hD d5_11) rfl (X0.caload hx (j := (0:Int32)) (v := (.int cA)) (by rw [e0]; exact Ar1.1) (State.isArrayOf_alike hZ.alike Ar1.2.1) Ar1.2.2 hin1 (Has.at H1 hin1 rfl) (g := (mkF m 12 #[VR vc, VI (0:Int32), VR da, VI (0:Int32), VI (1:Int32), VI (0:Int32), .unset] [(.int 0), (.ref vc)])) rfl rfl (hD d5_12) _ (XS.istore X0.here hx rfl (hD d5_13) rfl (l' := #[VR vc, VI (0:Int32), VR da, VI (0:Int32), VI (1:Int32), VI (0:Int32), VI cA]) rfl k))))))))) ?_
  by_cases hA : (255:Int32) < cA
  ·
   have hc20_13 : (255:Int32) < cA := hA
   obtain ⟨fs, hr, hrun, hended, hW, hsame⟩ := X0.leave (v := some (.int 0)) (fun h => by rw [Bd.returns] at h; cases h)
   refine OwnFin.adv (B := s₁.setTop (mkF m 25 #[VR vc, VI (0:Int32), VR da, VI (0:Int32), VI (1:Int32), VI (0:Int32), VI cA] [(.int 0)])) (fun _ k => XS.iload X0.here hx rfl (hD d5_15) rfl (XS.sipush X0.here hx rfl (hD d5_17) (XS.icmpNo X0.here hx rfl (hD d5_20) rfl (tlt hc20_13).2.2.2 (XS.iload X0.here hx rfl (hD d5_23) rfl k)))) ?_
   refine OwnFin.leaf hP' ⟨_, _, own_retI X0 hx Bd.returns (hD d5_25) hr, hrun, hended, _, _, rfl, ?_, ⟨_, rfl⟩, hW, hsame.mono (by decide) (by decide)⟩
   rw [show (s₁.setFrames fs).heap = h0 from e0]
   exact ⟨0, rfl, N0, (Keep.refl h0 [da]), Or.inr ⟨by decide, hA⟩⟩
  ·
   have hc20_13 : ¬ ((255:Int32) < cA) := hA
   obtain ⟨cl2, Ar2, ck2, S2, M2, H2, G2⟩ := id Va
   have hin2 : ¬ ((0:Int32) < 0 ∨ cl2.slots.size ≤ ((0:Int32)).toNatClampNeg) := inb_of S2 ⟨by decide, by decide⟩
   obtain ⟨T2, h2, X2, e2, W2, st2⟩ := stB X0 hx hZ e0 Ar2 (j := (0:Int32)) hin2 (g := (mkF m 31 #[VR vc, VI (0:Int32), VR da, VI (0:Int32), VI (1:Int32), VI (0:Int32), VI cA] [(.int (cA.toInt8.toInt32)), (.int 0), (.ref da)])) rfl rfl (hD d5_31)
   have V2 : Arv Z h2 da kd .byte (1:Int32) [(.int (cA.toInt8.toInt32).toInt8.toInt32)] (.int 0) := Arv.set Ar2 ck2 S2 M2 H2 G2 (fits_nar_byte _) W2 0 rfl (Nat.le_of_ble_eq_true rfl)
   have V2s : Arv Z h2 da kd .byte (1:Int32) [(.int (cA.toInt8.toInt32))] (.int 0) := by
     have q := V2
     rw [show ((.int (cA.toInt8.toInt32).toInt8.toInt32) : Value) = (.int (cA.toInt8.toInt32)) from congrArg Value.int (own_narb _)] at q
     exact q
   have sz3 : h0.size ≤ h2.size := Nat.le_of_eq W2.size.symm
   have N2 := Fr.snoc X2 N0 (by omega : n0 ≤ da)
   refine OwnFin.adv (B := T2.setTop (mkF m 3 #[VR vc, VI ((0:Int32) + (1:Int32)), VR da, VI ((0:Int32) + (1:Int32)), VI (1:Int32), VI ((0:Int32) + (1:Int32)), VI cA] [])) (fun _ k => XS.iload X0.here hx rfl (hD d5_15) rfl (XS.sipush X0.here hx rfl (hD d5_17) (XS.icmpYes X0.here hx rfl (pc0 := 20) (pc' := 26) rfl (hD d5_20) rfl (flt hc20_13).2.2.2 (by decide) (by decide) (XS.aloadN X0.here hx rfl (hD d5_26) rfl rfl (XS.iloadN X0.here hx rfl (hD d5_27) rfl (XS.iload X0.here hx rfl (hD d5_28) rfl (XS.i2b X0.here hx rfl (hD d5_30) rfl (st2 _ (XS.iinc X2.here hx rfl (hD d5_32) rfl (l' := #[VR vc, VI ((0:Int32) + (1:Int32)), VR da, VI (0:Int32), VI (1:Int32), VI (0:Int32), VI cA]) rfl (XS.iinc X2.here hx rfl (hD d5_35) rfl (l' := #[VR vc, VI ((0:Int32) + (1:Int32)), VR da, VI ((0:Int32) + (1:Int32)), VI (1:Int32), VI (0:Int32), VI cA]) rfl (XS.iinc X2.here hx rfl (hD d5_38) rfl (l' := #[VR vc, VI ((0:Int32) + (1:Int32)), VR da, VI ((0:Int32) + (1:Int32)), VI (1:Int32), VI ((0:Int32) + (1:Int32)), VI cA]) rfl (XS.goto X2.here hx rfl (pc0 := 41) (pc' := 3) rfl (hD d5_41) (by decide) (by decide) k)))))))))))) ?_
   rw [show (((0:Int32) + (1:Int32)) : Int32) = (1:Int32) from by decide]
   have hc7_25 : ¬ ((1:Int32) < (1:Int32)) := by decide
   obtain ⟨fs, hr, hrun, hended, hW, hsame⟩ := X2.leave (v := some (.int 1)) (fun h => by rw [Bd.returns] at h; cases h)
   refine OwnFin.adv (B := T2.setTop (mkF m 46 #[VR vc, VI (1:Int32), VR da, VI (1:Int32), VI (1:Int32), VI (1:Int32), VI cA] [(.int 1)])) (fun _ k => XS.iload X2.here hx rfl (hD d5_3) rfl (XS.iload X2.here hx rfl (hD d5_5) rfl (XS.icmpYes X2.here hx rfl (pc0 := 7) (pc' := 44) rfl (hD d5_7) rfl (flt hc7_25).2.1 (by decide) (by decide) (XS.iload X2.here hx rfl (hD d5_44) rfl k)))) ?_
   refine OwnFin.leaf hP' ⟨_, _, own_retI X2 hx Bd.returns (hD d5_46) hr, hrun, hended, _, _, rfl, ?_, ⟨_, rfl⟩, hW, hsame.mono (by decide) (by decide)⟩
   rw [show (T2.setFrames fs).heap = h2 from e2]
   exact ⟨1, rfl, N2, ((Keep.refl h0 [da]).wr W2 (Or.inl (List.mem_of_getElem? (i := 0) rfl))), Or.inl ⟨rfl, (by
         intro c hc
         simp only [List.mem_cons, List.not_mem_nil, or_false] at hc
         rcases hc with rfl
         · exact hA), V2s⟩⟩
theorem d4_0 : decode B4 0 = .ok (.iload_n 2, 1) := by decide +kernel
theorem d4_1 : decode B4 1 = .ok (.newarray .byte, 2) := by decide +kernel
theorem d4_3 : decode B4 3 = .ok (.astore_n 3, 1) := by decide +kernel
theorem d4_4 : decode B4 4 = .ok (.aload_n 0, 1) := by decide +kernel
theorem d4_5 : decode B4 5 = .ok (.iload_n 1, 1) := by decide +kernel
theorem d4_6 : decode B4 6 = .ok (.aload_n 3, 1) := by decide +kernel
theorem d4_7 : decode B4 7 = .ok (.iconst 0, 1) := by decide +kernel
theorem d4_8 : decode B4 8 = .ok (.iload_n 2, 1) := by decide +kernel
theorem own_pd26 : parseMethodDescriptor "([CI[BII)I" = some ⟨[(.array .char), .int, (.array .byte), .int, .int], some .int⟩ := by decide +kernel
theorem d4_9 : decode B4 9 = .ok (.invokestatic 115, 3) := by decide +kernel
theorem d4_12 : decode B4 12 = .ok (.istore 4, 2) := by decide +kernel
theorem d4_14 : decode B4 14 = .ok (.iload 4, 2) := by decide +kernel
theorem d4_16 : decode B4 16 = .ok (.iload_n 2, 1) := by decide +kernel
theorem d4_17 : decode B4 17 = .ok (.if_icmp .eq 40, 3) := by decide +kernel
theorem d4_57 : decode B4 57 = .ok (.aload_n 3, 1) := by decide +kernel
theorem d4_58 : decode B4 58 = .ok (.areturn, 1) := by decide +kernel
theorem d4_20 : decode B4 20 = .ok (.aload_n 0, 1) := by decide +kernel
theorem d4_21 : decode B4 21 = .ok (.iload_n 1, 1) := by decide +kernel
theorem d4_22 : decode B4 22 = .ok (.iload_n 2, 1) := by decide +kernel
theorem own_pd27 : parseMethodDescriptor "([CII)[B" = some ⟨[(.array .char), .int, .int], some (.array .byte)⟩ := by decide +kernel
theorem d4_23 : decode B4 23 = .ok (.invokestatic 119, 3) := by decide +kernel
theorem d4_26 : decode B4 26 = .ok (.astore 5, 2) := by decide +kernel
theorem d4_28 : decode B4 28 = .ok (.aload 5, 2) := by decide +kernel
theorem d4_30 : decode B4 30 = .ok (.iload 4, 2) := by decide +kernel
theorem d4_32 : decode B4 32 = .ok (.invokestatic 71, 3) := by decide +kernel
theorem d4_35 : decode B4 35 = .ok (.sipush 255, 3) := by decide +kernel
theorem d4_38 : decode B4 38 = .ok (.if_icmp .gt 16, 3) := by decide +kernel
theorem d4_54 : decode B4 54 = .ok (.aload 5, 2) := by decide +kernel
theorem d4_56 : decode B4 56 = .ok (.areturn, 1) := by decide +kernel
theorem own_ef_cm3_1 (m : MethodId) (x0 : Addr) (x1 : Int32) (x2 : Int32) : entryFrame m #[(.ref x0), (.int x1), (.int x2)] 6 = mkF m 0 #[.val (.ref x0), .val (.int x1), .val (.int x2), .unset, .unset, .unset] [] := by first | (simp [entryFrame, mkF, argsToLocals, Value.category]; done) | rfl
def own_Q_cm3_1 (Z : State) (vc : Addr) (kc : ClassId) (cA : Int32) (h0 : Heap) (n0 : Nat) (v : Option Value) (h : Heap) (L : List Loc) : Prop := ∃ (t : Addr) (kt : ClassId) (cd : Int32) (bs : List Int32), v = some (.ref t) ∧ Fr n0 L ∧ Keep h0 h [] ∧ h0.size ≤ t ∧ Arv Z h t kt .byte (Int32.ofNat bs.length) (bs.map Value.int) (.int (0 : Int32)) ∧ ((cd = 0 ∧ bs = ([cA] : List Int32).map (fun c => c.toInt8.toInt32) ∧ ∀ c ∈ ([cA] : List Int32), ¬ (255 : Int32) < c) ∨ (cd = 1 ∧ bs = own_wide [cA]))
set_option maxRecDepth 65536 in
set_option maxHeartbeats 40000000 in
theorem own_cm3_1 (l : Launch) (Z : State) (a0 : Array Value) (hw : ∀ d ∈ tables_1, d.before a0 Z = true) (ws : List Jvm.Cond) (vc : Addr) (kc : ClassId) (cA : Int32) (h0 : Heap) (n0 : Nat) (Z0 : n0 ≤ h0.size) (O0 : Old Z n0 h0) (SAD : Sta Z Z.heap "java/lang/StringUTF16" "$assertionsDisabled" "Z" (.int (1 : Int32))) (SHI : Sta Z Z.heap "java/lang/StringUTF16" "HI_BYTE_SHIFT" "I" (.int (0 : Int32))) (SLO : Sta Z Z.heap "java/lang/StringUTF16" "LO_BYTE_SHIFT" "I" (.int (8 : Int32))) (Vc : Arv Z h0 vc kc .char (1 : Int32) [(.int cA)] (.int (0 : Int32))) (rA : ¬ cA < 0 ∧ ¬ (65535 : Int32) < cA) :
    MetFree l own_M4 (head1 (Jvm.Cond.code own_M4 jdk_52_method_16_code 6 (some (.array .byte)) :: ws) ({ frames := 3, cells := 2, slots := 3, locals := 40 } : Room)) (fun A0 U0 => A0 = #[(.ref vc), (.int (0 : Int32)), (.int (1 : Int32))] ∧ Z.Warmed39 U0.vm ∧ U0.heap = h0) (fun _ _ _ _ _ => True) (fun _ U0 o0 U1 => ∃ v0 L0, o0 = .returned v0 ∧ own_Q_cm3_1 Z vc kc cA h0 n0 v0 U1.heap L0 ∧ FrameEnd U0 o0 U1 L0 2 3) := by
  refine MetFree.of_bodySF (plainFor_of_name own_pn_java_lang_StringUTF16) hisR ?_
  intro p e s m args below meth c s₁ Bd hml0 hP hK
  obtain ⟨rfl, hZ, hh⟩ := hP
  have hZs0 := hZ
  have hZs := hZ
  have hx := Bd.exec
  have hby := Bd.bytes
  have hD : ∀ {pc : Nat} {r : Except DecodeError (Instr × Nat)}, decode jdk_52_method_16_code pc = r → decode c.code pc = r := fun q => hb hby q
  have hml : c.maxLocals = 6 := hml0
  have hown : s.vm.findClass "java/lang/StringUTF16" = some m.cls := findClass_of_methodNamed Bd.named
  have hnm := (name_of_methodNamed Bd.named Bd.method).1
  have X0 : Stand p l e ({ frames := 3, cells := 2, slots := 3, locals := 40 } : Room) s m #[(.ref vc), (.int (0 : Int32)), (.int (1 : Int32))] below meth c s₁ [] 0 0 := Stand.of_body Bd
  have e0 : s₁.heap = h0 := by rw [← hh, Bd.state]; rfl
  have N0 := Fr.nil n0
  refine OwnFin.entry (own_ef_cm3_1 m vc (0 : Int32) (1 : Int32)) (fun P' hP' => ?_)
  have lt_vc := own_lt Vc.lt
  obtain ⟨T1, h1, k1, X1, e1, E1, A1, st1⟩ := newP X0 hx hZ (own_w hw 20 rfl) e0 (g := (mkF m 1 #[VR vc, VI (0:Int32), VI (1:Int32), .unset, .unset, .unset] [(.int 1)])) rfl (hD d4_1) rfl (by decide) (cap := 1) (by decide) (by decide) (by decide) (by decide)
  obtain ⟨b1, g1⟩ : ∃ z, z = h0.size := ⟨_, rfl⟩
  rw [← g1] at A1 st1
  have sz2 : h0.size ≤ h1.size := E1.1
  have lt_b1 := own_lt A1.lt
  have V1 : Arv Z h1 b1 k1 .byte (1:Int32) [(.int 0)] (.int 0) := (Arv.new A1 (by decide)).pad (pad_rep [] (.int 0) 1)
  have Fv4_1 := (Vc.ext E1)
  obtain ⟨_, _, ⟨T3, L3, k3, n3⟩, -, X3, ⟨Lc3, hQ3, l3, y3, z3⟩, st3⟩ := Jvm.LawKit.callS X1 hx (y := own_M5) hown (mvT hZ (own_w hw 21 rfl)) (mvT hZ (own_w hw 22 rfl)) (mvT hZ (own_w hw 18 rfl)) (mvT hZ (own_w hw 23 rfl)) (by decide) (backOf (W := 0) (own_cm5_1 l Z a0 hw [] vc b1 kc k1 cA h1 n0 (by omega) Fv4_1 V1 (by omega) (own_ne (by omega))) hZ (own_w hw 23 rfl) (own_w hw 18 rfl) (by decide) (by decide)) (g := (mkF m 9 #[VR vc, VI (0:Int32), VI (1:Int32), VR b1, .unset, .unset] [(.int 1), (.int 0), (.ref b1), (.int 0), (.ref vc)])) rfl (by rw [hml]; rfl) (argsL := [(.ref vc), (.int 0), (.ref b1), (.int 0), (.int 1)]) (rest := []) (lenOf own_pd26 rfl) rfl (by show 2 * 0 + _ ≤ _; exact Nat.le_of_eq rfl) (hD d4_9) (fun _ _ => ⟨rfl, e1, (by decide : 1 + 0 ≤ _), (by decide : 1 + 0 ≤ _)⟩)
  dsimp only [Pt.U, Pt.locs, Pt.cells, Pt.slots] at X3 l3 y3 z3 st3 hQ3
  subst l3 y3 z3
  obtain ⟨kk, rfl, N3q, K3, hdj⟩ := hQ3
  have N3 := Fr.app N0 N3q
  have sz5 : h1.size ≤ T3.heap.size := K3.1
  refine OwnFin.adv (B := T3.setTop (mkF m 12 #[VR vc, VI (0:Int32), VI (1:Int32), VR b1, .unset, .unset] [(.int (Int32.ofNat kk))])) (fun _ k => XS.iloadN X0.here hx rfl (hD d4_0) rfl (st1 _ (XS.astoreN X1.here hx rfl (hD d4_3) rfl rfl (l' := #[VR vc, VI (0:Int32), VI (1:Int32), VR b1, .unset, .unset]) rfl (XS.aloadN X1.here hx rfl (hD d4_4) rfl rfl (XS.iloadN X1.here hx rfl (hD d4_5) rfl (XS.aloadN X1.here hx rfl (hD d4_6) rfl rfl (XS.iconst X1.here hx rfl (hD d4_7) (XS.iloadN X1.here hx rfl (hD d4_8) rfl (st3 _ k))))))))) ?_
  rcases hdj with ⟨rfl, hall, Vl⟩ | ⟨hkn, hgt⟩
  ·
   have hc17_14 : (Int32.ofNat 1) = (1:Int32) := rfl
   obtain ⟨fs, hr, hrun, hended, hW, hsame⟩ := X3.leave (v := some (.ref b1)) (fun h => by rw [Bd.returns] at h; cases h)
   refine OwnFin.adv (B := T3.setTop (mkF m 58 #[VR vc, VI (0:Int32), VI (1:Int32), VR b1, VI (Int32.ofNat 1), .unset] [(.ref b1)])) (fun _ k => XS.istore X3.here hx rfl (hD d4_12) rfl (l' := #[VR vc, VI (0:Int32), VI (1:Int32), VR b1, VI (Int32.ofNat 1), .unset]) rfl (XS.iload X3.here hx rfl (hD d4_14) rfl (XS.iloadN X3.here hx rfl (hD d4_16) rfl (XS.icmpYes X3.here hx rfl (pc0 := 17) (pc' := 57) rfl (hD d4_17) rfl (teq hc17_14).1 (by decide) (by decide) (XS.aloadN X3.here hx rfl (hD d4_57) rfl rfl k))))) ?_
   refine OwnFin.leaf hP' ⟨_, _, own_retR X3 hx Bd.returns rfl rfl rfl (hD d4_58) hr, hrun, hended, _, _, rfl, ?_, ⟨_, rfl⟩, hW, hsame.mono (by decide) (by decide)⟩
   rw [show (T3.setFrames fs).heap = T3.heap from rfl]
   exact ⟨b1, _, 0, [cA].map (fun c => c.toInt8.toInt32), rfl, N3, (((Keep.refl h0 []).ext E1).trans K3 (allS (Or.inr (by omega)) all0)), by omega, Vl, Or.inl ⟨rfl, rfl, hall⟩⟩
  ·
   have hc17_14 : ¬ ((Int32.ofNat kk) = (1:Int32)) := fun q => absurd ((own_eqn (b := 1) (by omega) (by omega)).mp q) (by omega)
   have Old7 : Old Z n0 T3.heap := ((O0.ext E1).keep K3 (allS (by omega) all0))
   have Fv8_2 := (Fv4_1.keep K3 (ninS (own_ne (by omega)) nin0))
   obtain ⟨_, _, ⟨T6, L6, k6, n6⟩, -, X6, ⟨Lc6, hQ6, l6, y6, z6⟩, st6⟩ := Jvm.LawKit.callS X3 hx (y := own_M36) hown (mvT hZ (own_w hw 179 rfl)) (mvT hZ (own_w hw 180 rfl)) (mvT hZ (own_w hw 18 rfl)) (mvT hZ (own_w hw 181 rfl)) (by decide) (backOf (W := 0) (own_toB1 l Z a0 hw [] vc kc cA T3.heap n0 (by omega) Old7 SAD SHI SLO Fv8_2) hZ (own_w hw 181 rfl) (own_w hw 18 rfl) (by decide) (by decide)) (g := (mkF m 23 #[VR vc, VI (0:Int32), VI (1:Int32), VR b1, VI (Int32.ofNat kk), .unset] [(.int 1), (.int 0), (.ref vc)])) rfl (by rw [hml]; rfl) (argsL := [(.ref vc), (.int 0), (.int 1)]) (rest := []) (lenOf own_pd27 rfl) rfl (by show 2 * 0 + _ ≤ _; exact Nat.le_of_eq rfl) (hD d4_23) (fun _ _ => ⟨rfl, rfl, (by decide : 1 + 1 ≤ _), (by decide : 1 + 2 ≤ _)⟩)
   dsimp only [Pt.U, Pt.locs, Pt.cells, Pt.slots] at X6 l6 y6 z6 st6 hQ6
   subst l6 y6 z6
   obtain ⟨t6, kt6, rfl, N6q, K6, ge6, Vt6⟩ := hQ6
   have N6 := Fr.app N3 N6q
   have sz9 : T3.heap.size ≤ T6.heap.size := K6.1
   have lt_t6 := own_lt Vt6.lt
   have Vw11 : Arv Z T6.heap t6 kt6 .byte (Int32.ofNat (own_wide [cA]).length) ((own_wide [cA]).map Value.int) (.int 0) := Vt6
   have hrg11 : ∀ c ∈ ([cA] : List Int32), ¬ c < 0 ∧ ¬ (65535:Int32) < c := by
     intro c hc
     simp only [List.mem_cons, List.not_mem_nil, or_false] at hc
     rcases hc with rfl
     · exact rA
   have Old12 : Old Z n0 T6.heap := (Old7.keep K6 all0)
   obtain ⟨_, _, ⟨T10, L10, k10, n10⟩, -, X10, ⟨Lc10, hQ10, l10, y10, z10⟩, st10⟩ := Jvm.LawKit.callS X6 hx (y := own_M40) hown (mvT hZ (own_w hw 195 rfl)) (mvT hZ (own_w hw 196 rfl)) (mvT hZ (own_w hw 18 rfl)) (mvT hZ (own_w hw 197 rfl)) (by decide) (backOf (W := 0) (own_getChar l Z a0 hw [] t6 kt6 [cA] kk T6.heap n0 (by omega) Old12 SAD SHI SLO Vw11 (by simp) hkn hrg11) hZ (own_w hw 197 rfl) (own_w hw 18 rfl) (by decide) (by decide)) (g := (mkF m 32 #[VR vc, VI (0:Int32), VI (1:Int32), VR b1, VI (Int32.ofNat kk), VR t6] [(.int (Int32.ofNat kk)), (.ref t6)])) rfl (by rw [hml]; rfl) (argsL := [(.ref t6), (.int (Int32.ofNat kk))]) (rest := []) (lenOf own_pd5 rfl) rfl (by show 2 * 0 + _ ≤ _; exact Nat.le_of_eq rfl) (hD d4_32) (fun _ _ => ⟨rfl, rfl, (by decide : 2 + 0 ≤ _), (by decide : 3 + 0 ≤ _)⟩)
   dsimp only [Pt.U, Pt.locs, Pt.cells, Pt.slots] at X10 l10 y10 z10 st10 hQ10
   subst l10 y10 z10
   obtain ⟨rfl, N10q, eh10⟩ := hQ10
   have N10 := Fr.app N6 N10q
   have hc38_24 : (255:Int32) < ([cA].getD kk 0) := hgt
   refine OwnFin.adv (B := T10.setTop (mkF m 54 #[VR vc, VI (0:Int32), VI (1:Int32), VR b1, VI (Int32.ofNat kk), VR t6] [])) (fun _ k => XS.istore X3.here hx rfl (hD d4_12) rfl (l' := #[VR vc, VI (0:Int32), VI (1:Int32), VR b1, VI (Int32.ofNat kk), .unset]) rfl (XS.iload X3.here hx rfl (hD d4_14) rfl (XS.iloadN X3.here hx rfl (hD d4_16) rfl (XS.icmpNo X3.here hx rfl (hD d4_17) rfl (feq hc17_14).1 (XS.aloadN X3.here hx rfl (hD d4_20) rfl rfl (XS.iloadN X3.here hx rfl (hD d4_21) rfl (XS.iloadN X3.here hx rfl (hD d4_22) rfl (st6 _ (XS.astore X6.here hx rfl (hD d4_26) rfl rfl (l' := #[VR vc, VI (0:Int32), VI (1:Int32), VR b1, VI (Int32.ofNat kk), VR t6]) rfl (XS.aload X6.here hx rfl (hD d4_28) rfl rfl (XS.iload X6.here hx rfl (hD d4_30) rfl (st10 _ (XS.sipush X10.here hx rfl (hD d4_35) (XS.icmpYes X10.here hx rfl (pc0 := 38) (pc' := 54) rfl (hD d4_38) rfl (tlt hc38_24).2.2.1 (by decide) (by decide) k)))))))))))))) ?_
   obtain ⟨fs, hr, hrun, hended, hW, hsame⟩ := X10.leave (v := some (.ref t6)) (fun h => by rw [Bd.returns] at h; cases h)
   refine OwnFin.adv (B := T10.setTop (mkF m 56 #[VR vc, VI (0:Int32), VI (1:Int32), VR b1, VI (Int32.ofNat kk), VR t6] [(.ref t6)])) (fun _ k => XS.aload X10.here hx rfl (hD d4_54) rfl rfl k) ?_
   refine OwnFin.leaf hP' ⟨_, _, own_retR X10 hx Bd.returns rfl rfl rfl (hD d4_56) hr, hrun, hended, _, _, rfl, ?_, ⟨_, rfl⟩, hW, hsame.mono (by decide) (by decide)⟩
   rw [show (T10.setFrames fs).heap = T6.heap from eh10]
   exact ⟨t6, _, 1, own_wide [cA], rfl, N10, ((((Keep.refl h0 []).ext E1).trans K3 (allS (Or.inr (by omega)) all0)).trans K6 all0), by omega, Vt6, Or.inr ⟨rfl, rfl⟩⟩
theorem d6_0 : decode B6 0 = .ok (.iload_n 1, 1) := by decide +kernel
theorem d6_1 : decode B6 1 = .ok (.aload_n 0, 1) := by decide +kernel
theorem d6_2 : decode B6 2 = .ok (.arraylength, 1) := by decide +kernel
theorem d6_3 : decode B6 3 = .ok (.isub, 1) := by decide +kernel
theorem d6_4 : decode B6 4 = .ok (.bipush 31, 2) := by decide +kernel
theorem d6_6 : decode B6 6 = .ok (.iushr, 1) := by decide +kernel
theorem d6_7 : decode B6 7 = .ok (.i2b, 1) := by decide +kernel
theorem d6_8 : decode B6 8 = .ok (.ireturn, 1) := by decide +kernel
theorem own_ef_cfa1 (m : MethodId) (x0 : Addr) (x1 : Int32) : entryFrame m #[(.ref x0), (.int x1)] 2 = mkF m 0 #[.val (.ref x0), .val (.int x1)] [] := by first | (simp [entryFrame, mkF, argsToLocals, Value.category]; done) | rfl
def own_Q_cfa1 (Z : State) (da : Addr) (kd : ClassId) (cd : Int32) (bs : List Int32) (cA : Int32) (h0 : Heap) (n0 : Nat) (v : Option Value) (h : Heap) (L : List Loc) : Prop := v = some (.int cd) ∧ Fr n0 L ∧ h = h0
set_option maxRecDepth 65536 in
set_option maxHeartbeats 40000000 in
theorem own_cfa1 (l : Launch) (Z : State) (a0 : Array Value) (hw : ∀ d ∈ tables_1, d.before a0 Z = true) (ws : List Jvm.Cond) (da : Addr) (kd : ClassId) (cd : Int32) (bs : List Int32) (cA : Int32) (h0 : Heap) (n0 : Nat) (Z0 : n0 ≤ h0.size) (Va : Arv Z h0 da kd .byte (Int32.ofNat bs.length) (bs.map Value.int) (.int (0 : Int32))) (hcb : ((cd = 0 ∧ bs = ([cA] : List Int32).map (fun c => c.toInt8.toInt32) ∧ ∀ c ∈ ([cA] : List Int32), ¬ (255 : Int32) < c) ∨ (cd = 1 ∧ bs = own_wide [cA]))) :
    MetFree l own_M6 (head1 (Jvm.Cond.code own_M6 jdk_52_method_15_code 2 (some .byte) :: ws) ({ frames := 0, cells := 0, slots := 0, locals := 0 } : Room)) (fun A0 U0 => A0 = #[(.ref da), (.int (1 : Int32))] ∧ Z.Warmed39 U0.vm ∧ U0.heap = h0) (fun _ _ _ _ _ => True) (fun _ U0 o0 U1 => ∃ v0 L0, o0 = .returned v0 ∧ own_Q_cfa1 Z da kd cd bs cA h0 n0 v0 U1.heap L0 ∧ FrameEnd U0 o0 U1 L0 0 0) := by
  refine MetFree.of_bodySF (plainFor_of_name own_pn_java_lang_StringUTF16) hisR ?_
  intro p e s m args below meth c s₁ Bd hml0 hP hK
  obtain ⟨rfl, hZ, hh⟩ := hP
  have hZs0 := hZ
  have hZs := hZ
  have hx := Bd.exec
  have hby := Bd.bytes
  have hD : ∀ {pc : Nat} {r : Except DecodeError (Instr × Nat)}, decode jdk_52_method_15_code pc = r → decode c.code pc = r := fun q => hb hby q
  have hml : c.maxLocals = 2 := hml0
  have hown : s.vm.findClass "java/lang/StringUTF16" = some m.cls := findClass_of_methodNamed Bd.named
  have hnm := (name_of_methodNamed Bd.named Bd.method).1
  have X0 : Stand p l e ({ frames := 0, cells := 0, slots := 0, locals := 0 } : Room) s m #[(.ref da), (.int (1 : Int32))] below meth c s₁ [] 0 0 := Stand.of_body Bd
  have e0 : s₁.heap = h0 := by rw [← hh, Bd.state]; rfl
  have N0 := Fr.nil n0
  refine OwnFin.entry (own_ef_cfa1 m da (1 : Int32)) (fun P' hP' => ?_)
  obtain ⟨cl1, Ar1, ck1, S1, M1, H1, G1⟩ := id Va
  refine OwnFin.adv (B := s₁.setTop (mkF m 2 #[VR da, VI (1:Int32)] [(.ref da), (.int 1)])) (fun _ k => XS.iloadN X0.here hx rfl (hD d6_0) rfl (XS.aloadN X0.here hx rfl (hD d6_1) rfl rfl k)) ?_
  refine OwnFin.adv (B := s₁.setTop (mkF m 3 #[VR da, VI (1:Int32)] [(.int (Int32.ofNat (bs).length)), (.int 1)])) (fun _ k => X0.arraylength hx (by rw [e0]; exact Ar1.1) (State.isArrayOf_alike hZ.alike Ar1.2.1) (g := (mkF m 2 #[VR da, VI (1:Int32)] [(.ref da), (.int 1)])) rfl rfl (hD d6_2) _ (by rw [len_of S1 M1]; exact k)) ?_
  obtain ⟨fs, hr, hrun, hended, hW, hsame⟩ := X0.leave (v := some (.int (nar .byte (((((1:Int32) - (Int32.ofNat (bs).length)).toUInt32 >>> ((31:Int32) &&& 31).toUInt32).toInt32).toInt8.toInt32)))) (fun h => by rw [Bd.returns] at h; cases h)
  refine OwnFin.adv (B := s₁.setTop (mkF m 8 #[VR da, VI (1:Int32)] [(.int (((((1:Int32) - (Int32.ofNat (bs).length)).toUInt32 >>> ((31:Int32) &&& 31).toUInt32).toInt32).toInt8.toInt32))])) (fun _ k => XS.isub X0.here hx rfl (hD d6_3) rfl (XS.bipush X0.here hx rfl (hD d6_4) (XS.iushr X0.here hx rfl (hD d6_6) rfl (XS.i2b X0.here hx rfl (hD d6_7) rfl k)))) ?_
  refine OwnFin.leaf hP' ⟨_, _, retN X0 hx (t := .byte) Bd.returns (by simp) (hD d6_8) hr, hrun, hended, _, _, rfl, ?_, ⟨_, rfl⟩, hW, hsame.mono (by decide) (by decide)⟩
  rcases hcb with ⟨rfl, rfl, -⟩ | ⟨rfl, rfl⟩
  · rw [show Int32.ofNat (([cA] : List Int32).map (fun c => c.toInt8.toInt32)).length = (1:Int32) from rfl]
    exact ⟨congrArg (fun z => some (Value.int z)) (by decide), N0, e0⟩
  · rw [show Int32.ofNat (own_wide [cA]).length = (2:Int32) from rfl]
    exact ⟨congrArg (fun z => some (Value.int z)) (by decide), N0, e0⟩
theorem d2_0 : decode B2 0 = .ok (.aload_n 0, 1) := by decide +kernel
theorem d2_1 : decode B2 1 = .ok (.invokespecial 1, 3) := by decide +kernel
theorem d2_4 : decode B2 4 = .ok (.iload_n 3, 1) := by decide +kernel
theorem d2_5 : decode B2 5 = .ok (.ifCond .ne 22, 3) := by decide +kernel
theorem d2_27 : decode B2 27 = .ok (.getstatic 38, 3) := by decide +kernel
theorem d2_30 : decode B2 30 = .ok (.ifCond .eq 28, 3) := by decide +kernel
theorem d2_33 : decode B2 33 = .ok (.aload_n 1, 1) := by decide +kernel
theorem d2_34 : decode B2 34 = .ok (.iload_n 2, 1) := by decide +kernel
theorem d2_35 : decode B2 35 = .ok (.iload_n 3, 1) := by decide +kernel
theorem d2_36 : decode B2 36 = .ok (.invokestatic 177, 3) := by decide +kernel
theorem d2_39 : decode B2 39 = .ok (.astore 5, 2) := by decide +kernel
theorem d2_41 : decode B2 41 = .ok (.aload_n 0, 1) := by decide +kernel
theorem d2_42 : decode B2 42 = .ok (.aload 5, 2) := by decide +kernel
theorem d2_44 : decode B2 44 = .ok (.iload_n 3, 1) := by decide +kernel
theorem own_pd28 : parseMethodDescriptor "([BI)B" = some ⟨[(.array .byte), .int], some .byte⟩ := by decide +kernel
theorem d2_45 : decode B2 45 = .ok (.invokestatic 47, 3) := by decide +kernel
theorem d2_48 : decode B2 48 = .ok (.putfield 15, 3) := by decide +kernel
theorem d2_51 : decode B2 51 = .ok (.aload_n 0, 1) := by decide +kernel
theorem d2_52 : decode B2 52 = .ok (.aload 5, 2) := by decide +kernel
theorem own_sn36 {Z : State} {a0 : Array Value} (hw : ∀ d ∈ tables_1, d.before a0 Z = true) : Jvm.RoadKit.slotOf Z "java/lang/String" "value" "[B" ≠ Jvm.RoadKit.slotOf Z "java/lang/String" "coder" "B" := slot_ne (Or.inr (own_w hw 30 rfl)) (Or.inr (own_w hw 28 rfl)) (by decide) (t := (.array .byte)) (t' := .byte) (by decide) (by decide)
theorem d2_54 : decode B2 54 = .ok (.putfield 9, 3) := by decide +kernel
theorem d2_57 : decode B2 57 = .ok (.return_, 1) := by decide +kernel
theorem own_sn37 {Z : State} {a0 : Array Value} (hw : ∀ d ∈ tables_1, d.before a0 Z = true) : Jvm.RoadKit.slotOf Z "java/lang/String" "coder" "B" ≠ Jvm.RoadKit.slotOf Z "java/lang/String" "value" "[B" := slot_ne (Or.inr (own_w hw 28 rfl)) (Or.inr (own_w hw 30 rfl)) (by decide) (t := .byte) (t' := (.array .byte)) (by decide) (by decide)
theorem own_ef_si5_1 (m : MethodId) (x0 : Addr) (x1 : Addr) (x2 : Int32) (x3 : Int32) : entryFrame m #[(.ref x0), (.ref x1), (.int x2), (.int x3), .null] 6 = mkF m 0 #[.val (.ref x0), .val (.ref x1), .val (.int x2), .val (.int x3), .val .null, .unset] [] := by first | (simp [entryFrame, mkF, argsToLocals, Value.category]; done) | rfl
def own_Q_si5_1 (Z : State) (ob vc : Addr) (kc : ClassId) (zc : Int32) (u0 u1 : Value) (cA : Int32) (h0 : Heap) (n0 : Nat) (v : Option Value) (h : Heap) (L : List Loc) : Prop := v = none ∧ Fr n0 L ∧ Keep h0 h [ob] ∧ OwnS Z h h.size ob [cA]
set_option maxRecDepth 65536 in
set_option maxHeartbeats 40000000 in
theorem own_si5_1 (l : Launch) (Z : State) (a0 : Array Value) (hw : ∀ d ∈ tables_1, d.before a0 Z = true) (ws : List Jvm.Cond) (ob vc : Addr) (kc : ClassId) (zc : Int32) (u0 u1 : Value) (cA : Int32) (h0 : Heap) (n0 : Nat) (Z0 : n0 ≤ h0.size) (O0 : Old Z n0 h0) (SCS : Sta Z Z.heap "java/lang/String" "COMPACT_STRINGS" "Z" (.int zc)) (hzc : ¬ zc = 0) (SAD : Sta Z Z.heap "java/lang/StringUTF16" "$assertionsDisabled" "Z" (.int (1 : Int32))) (SHI : Sta Z Z.heap "java/lang/StringUTF16" "HI_BYTE_SHIFT" "I" (.int (0 : Int32))) (SLO : Sta Z Z.heap "java/lang/StringUTF16" "LO_BYTE_SHIFT" "I" (.int (8 : Int32))) (E : Exa Z h0 ob "java/lang/String") (Fv : Fld Z h0 ob "java/lang/String" "value" "[B" u0) (Fc : Fld Z h0 ob "java/lang/String" "coder" "B" u1) (g_ob : n0 ≤ ob) (Vc : Arv Z h0 vc kc .char (1 : Int32) [(.int cA)] (.int (0 : Int32))) (rA : ¬ cA < 0 ∧ ¬ (65535 : Int32) < cA) :
    MetFree l own_M2 (head1 (Jvm.Cond.code own_M2 jdk_42_method_149_code 6 none :: ws) ({ frames := 4, cells := 2, slots := 3, locals := 57 } : Room)) (fun A0 U0 => A0 = #[(.ref ob), (.ref vc), (.int (0 : Int32)), (.int (1 : Int32)), .null] ∧ Z.Warmed39 U0.vm ∧ U0.heap = h0) (fun _ _ _ _ _ => True) (fun _ U0 o0 U1 => ∃ v0 L0, o0 = .returned v0 ∧ own_Q_si5_1 Z ob vc kc zc u0 u1 cA h0 n0 v0 U1.heap L0 ∧ FrameEnd U0 o0 U1 L0 2 3) := by
  refine MetFree.of_bodySF (plainFor_of_name own_pn_java_lang_String) hisR ?_
  intro p e s m args below meth c s₁ Bd hml0 hP hK
  obtain ⟨rfl, hZ, hh⟩ := hP
  have hZs0 := hZ
  have hZs := hZ
  have hx := Bd.exec
  have hby := Bd.bytes
  have hD : ∀ {pc : Nat} {r : Except DecodeError (Instr × Nat)}, decode jdk_42_method_149_code pc = r → decode c.code pc = r := fun q => hb hby q
  have hml : c.maxLocals = 6 := hml0
  have hown : s.vm.findClass "java/lang/String" = some m.cls := findClass_of_methodNamed Bd.named
  have hnm := (name_of_methodNamed Bd.named Bd.method).1
  have X0 : Stand p l e ({ frames := 4, cells := 2, slots := 3, locals := 57 } : Room) s m #[(.ref ob), (.ref vc), (.int (0 : Int32)), (.int (1 : Int32)), .null] below meth c s₁ [] 0 0 := Stand.of_body Bd
  have e0 : s₁.heap = h0 := by rw [← hh, Bd.state]; rfl
  have N0 := Fr.nil n0
  refine OwnFin.entry (own_ef_si5_1 m ob vc (0 : Int32) (1 : Int32)) (fun P' hP' => ?_)
  have lt_ob := own_lt E.lt
  have lt_vc := own_lt Vc.lt
  obtain ⟨T1, X1, e1, st1⟩ := initO X0 hx hZ hown (own_w hw 12 rfl) (own_w hw 13 rfl) (own_w hw 14 rfl) e0 (g := (mkF m 1 #[VR ob, VR vc, VI (0:Int32), VI (1:Int32), .val .null, .unset] [(.ref ob)])) rfl (by rw [hml]; rfl) rfl (hD d2_1) (by decide) (W := 0) (by show 2 * 0 + _ ≤ _; exact Nat.le_of_eq rfl) (by decide)
  have hc5_4 : ¬ ((1:Int32) = (0:Int32)) := by decide
  obtain ⟨T2, X2, e2, st2⟩ := getS2 X1 hx hZ hown (host := "") (Or.inl (own_w hw 15 rfl)) Via.refl e1 (own_staK SCS O0) (g := (mkF m 27 #[VR ob, VR vc, VI (0:Int32), VI (1:Int32), .val .null, .unset] [])) rfl (hD d2_27)
  have hc30_6 : ¬ (zc = (0:Int32)) := hzc
  obtain ⟨_, _, ⟨T3, L3, k3, n3⟩, -, X3, ⟨Lc3, hQ3, l3, y3, z3⟩, st3⟩ := Jvm.LawKit.callS X2 hx (y := own_M4) hown (mvT hZ (own_w hw 16 rfl)) (mvT hZ (own_w hw 17 rfl)) (mvT hZ (own_w hw 18 rfl)) (mvT hZ (own_w hw 19 rfl)) (by decide) (backOf (W := 0) (own_cm3_1 l Z a0 hw [] vc kc cA h0 n0 (by omega) O0 SAD SHI SLO Vc rA) hZ (own_w hw 19 rfl) (own_w hw 18 rfl) (by decide) (by decide)) (g := (mkF m 36 #[VR ob, VR vc, VI (0:Int32), VI (1:Int32), .val .null, .unset] [(.int 1), (.int 0), (.ref vc)])) rfl (by rw [hml]; rfl) (argsL := [(.ref vc), (.int 0), (.int 1)]) (rest := []) (lenOf own_pd27 rfl) rfl (by show 2 * 0 + _ ≤ _; exact Nat.le_of_eq rfl) (hD d2_36) (fun _ _ => ⟨rfl, e2, (by decide : 0 + 2 ≤ _), (by decide : 0 + 3 ≤ _)⟩)
  dsimp only [Pt.U, Pt.locs, Pt.cells, Pt.slots] at X3 l3 y3 z3 st3 hQ3
  subst l3 y3 z3
  obtain ⟨t3, kt3, cd, bs, rfl, N3q, K3, ge3, Vt3, hcb⟩ := hQ3
  have N3 := Fr.app N0 N3q
  have sz4 : h0.size ≤ T3.heap.size := K3.1
  have lt_t3 := own_lt Vt3.lt
  obtain ⟨_, _, ⟨T5, L5, k5, n5⟩, -, X5, ⟨Lc5, hQ5, l5, y5, z5⟩, st5⟩ := Jvm.LawKit.callS X3 hx (y := own_M6) hown (mvT hZ (own_w hw 24 rfl)) (mvT hZ (own_w hw 25 rfl)) (mvT hZ (own_w hw 18 rfl)) (mvT hZ (own_w hw 26 rfl)) (by decide) (backOf (W := 1) (own_cfa1 l Z a0 hw [] t3 kt3 cd bs cA T3.heap n0 (by omega) Vt3 hcb) hZ (own_w hw 26 rfl) (own_w hw 18 rfl) (by decide) (by decide)) (g := (mkF m 45 #[VR ob, VR vc, VI (0:Int32), VI (1:Int32), .val .null, VR t3] [(.int 1), (.ref t3), (.ref ob)])) rfl (by rw [hml]; rfl) (argsL := [(.ref t3), (.int 1)]) (rest := [(.ref ob)]) (lenOf own_pd28 rfl) rfl (by show 2 * 0 + _ ≤ _; exact Nat.le_of_eq rfl) (hD d2_45) (fun _ _ => ⟨rfl, rfl, (by decide : 2 + 0 ≤ _), (by decide : 3 + 0 ≤ _)⟩)
  dsimp only [Pt.U, Pt.locs, Pt.cells, Pt.slots] at X5 l5 y5 z5 st5 hQ5
  subst l5 y5 z5
  obtain ⟨rfl, N5q, eh5⟩ := hQ5
  have N5 := Fr.app N3 N5q
  refine OwnFin.adv (B := T3.setTop (mkF m 45 #[VR ob, VR vc, VI (0:Int32), VI (1:Int32), .val .null, VR t3] [(.int 1), (.ref t3), (.ref ob)])) (fun _ k => XS.aloadN X0.here hx rfl (hD d2_0) rfl rfl (st1 _ (XS.iloadN X1.here hx rfl (hD d2_4) rfl (XS.ifYes X1.here hx rfl (pc0 := 5) (pc' := 27) rfl (hD d2_5) rfl ((if0 _ _).trans (feq hc5_4).2) (by decide) (by decide) (st2 _ (XS.ifNo X2.here hx rfl (hD d2_30) rfl ((if0 _ _).trans (feq hc30_6).1) (XS.aloadN X2.here hx rfl (hD d2_33) rfl rfl (XS.iloadN X2.here hx rfl (hD d2_34) rfl (XS.iloadN X2.here hx rfl (hD d2_35) rfl (st3 _ (XS.astore X3.here hx rfl (hD d2_39) rfl rfl (l' := #[VR ob, VR vc, VI (0:Int32), VI (1:Int32), .val .null, VR t3]) rfl (XS.aloadN X3.here hx rfl (hD d2_41) rfl rfl (XS.aload X3.here hx rfl (hD d2_42) rfl rfl (XS.iloadN X3.here hx rfl (hD d2_44) rfl k)))))))))))))) ?_
  have Fv6_1 := (E.keep K3)
  have Fv7_1 := (Fc.keep K3 nin0)
  obtain ⟨T8, h8, X8, e8, W8, st8⟩ := putFN X5 hx hZ hown (own_w hw 27 rfl) Via.refl eh5 Fv7_1 Fv6_1 (Or.inr ⟨(own_w hw 28 rfl), rfl, hnm⟩) (own_w hw 3 rfl) (ty := .byte) (v' := .int (nar .byte cd)) (by decide) rfl (fits_nar_byte _) (g := (mkF m 48 #[VR ob, VR vc, VI (0:Int32), VI (1:Int32), .val .null, VR t3] [(.int cd), (.ref ob)])) rfl rfl (hD d2_48)
  have Fw8 : Fld Z h8 ob "java/lang/String" "coder" "B" (.int (nar .byte cd)) := Fv7_1.same W8
  have sz9 : T3.heap.size ≤ h8.size := Nat.le_of_eq W8.size.symm
  have N8 := Fr.snoc X8 N5 (by omega : n0 ≤ ob)
  have Fv10_2 := (Fv6_1.wr W8)
  have Fv11_2 := ((Fv.keep K3 nin0).other W8 (Or.inr (own_sn36 hw)))
  obtain ⟨T12, h12, X12, e12, W12, st12⟩ := putF X8 hx hZ hown (host := "") (Or.inl (own_w hw 29 rfl)) Via.refl e8 Fv11_2 Fv10_2 (Or.inr ⟨(own_w hw 30 rfl), rfl, hnm⟩) (own_w hw 3 rfl) (ty := (.array .byte)) (by decide) rfl rfl (g := (mkF m 54 #[VR ob, VR vc, VI (0:Int32), VI (1:Int32), .val .null, VR t3] [(.ref t3), (.ref ob)])) rfl rfl (hD d2_54)
  have Fw12 : Fld Z h12 ob "java/lang/String" "value" "[B" (.ref t3) := Fv11_2.same W12
  have sz13 : h8.size ≤ h12.size := Nat.le_of_eq W12.size.symm
  have N12 := Fr.snoc X12 N8 (by omega : n0 ≤ ob)
  obtain ⟨fs, hr, hrun, hended, hW, hsame⟩ := X12.leave (v := none) (fun _ => rfl)
  refine OwnFin.adv (B := T12.setTop (mkF m 57 #[VR ob, VR vc, VI (0:Int32), VI (1:Int32), .val .null, VR t3] [])) (fun _ k => st5 _ (st8 _ (XS.aloadN X8.here hx rfl (hD d2_51) rfl rfl (XS.aload X8.here hx rfl (hD d2_52) rfl rfl (st12 _ k))))) ?_
  refine OwnFin.leaf hP' ⟨_, _, X12.returnOut hx Bd.returns (hD d2_57) hr, hrun, hended, _, _, rfl, ?_, ⟨_, rfl⟩, hW, hsame.mono (by decide) (by decide)⟩
  have Fv14_3 := (Fv10_2.wr W12)
  have Fv15_3 := (Fw8.other W12 (Or.inr (own_sn37 hw)))
  have Fv16_3 := ((Vt3.other W8 (own_ne (by omega))).other W12 (own_ne (by omega)))
  have Fcd : Fld Z h12 ob "java/lang/String" "coder" "B" (.int cd) := by
    have q := Fv15_3
    rw [own_nb01 (own_cd01 hcb)] at q
    exact q
  rw [show (T12.setFrames fs).heap = h12 from e12]
  exact ⟨rfl, N12, ((((Keep.refl h0 [ob]).trans K3 all0).wr W8 (Or.inl (List.mem_of_getElem? (i := 0) rfl))).wr W12 (Or.inl (List.mem_of_getElem? (i := 0) rfl))), t3, kt3, cd, bs, Fv14_3, Fw12, Fcd, Fv16_3, own_lt (a := ob) (b := h12.size) (by omega), own_lt (a := t3) (b := h12.size) (by omega), hcb, (by
        intro c hc
        simp only [List.mem_cons, List.not_mem_nil, or_false] at hc
        rcases hc with rfl
        · exact rA), by simp⟩
theorem d1_0 : decode B1 0 = .ok (.aload_n 0, 1) := by decide +kernel
theorem d1_1 : decode B1 1 = .ok (.aload_n 1, 1) := by decide +kernel
theorem d1_2 : decode B1 2 = .ok (.iconst 0, 1) := by decide +kernel
theorem d1_3 : decode B1 3 = .ok (.aload_n 1, 1) := by decide +kernel
theorem d1_4 : decode B1 4 = .ok (.arraylength, 1) := by decide +kernel
theorem d1_5 : decode B1 5 = .ok (.aconst_null, 1) := by decide +kernel
theorem own_pd29 : parseMethodDescriptor "([CIILjava/lang/Void;)V" = some ⟨[(.array .char), .int, .int, (.object "java/lang/Void")], none⟩ := by decide +kernel
theorem d1_6 : decode B1 6 = .ok (.invokespecial 27, 3) := by decide +kernel
theorem d1_9 : decode B1 9 = .ok (.return_, 1) := by decide +kernel
theorem own_ef_si_1 (m : MethodId) (x0 : Addr) (x1 : Addr) : entryFrame m #[(.ref x0), (.ref x1)] 2 = mkF m 0 #[.val (.ref x0), .val (.ref x1)] [] := by first | (simp [entryFrame, mkF, argsToLocals, Value.category]; done) | rfl
def own_Q_si_1 (Z : State) (ob vc : Addr) (kc : ClassId) (zc : Int32) (u0 u1 : Value) (cA : Int32) (h0 : Heap) (n0 : Nat) (v : Option Value) (h : Heap) (L : List Loc) : Prop := v = none ∧ Fr n0 L ∧ Keep h0 h [ob] ∧ OwnS Z h h.size ob [cA]
set_option maxRecDepth 65536 in
set_option maxHeartbeats 40000000 in
theorem own_si_1 (l : Launch) (Z : State) (a0 : Array Value) (hw : ∀ d ∈ tables_1, d.before a0 Z = true) (ws : List Jvm.Cond) (ob vc : Addr) (kc : ClassId) (zc : Int32) (u0 u1 : Value) (cA : Int32) (h0 : Heap) (n0 : Nat) (Z0 : n0 ≤ h0.size) (O0 : Old Z n0 h0) (SCS : Sta Z Z.heap "java/lang/String" "COMPACT_STRINGS" "Z" (.int zc)) (hzc : ¬ zc = 0) (SAD : Sta Z Z.heap "java/lang/StringUTF16" "$assertionsDisabled" "Z" (.int (1 : Int32))) (SHI : Sta Z Z.heap "java/lang/StringUTF16" "HI_BYTE_SHIFT" "I" (.int (0 : Int32))) (SLO : Sta Z Z.heap "java/lang/StringUTF16" "LO_BYTE_SHIFT" "I" (.int (8 : Int32))) (E : Exa Z h0 ob "java/lang/String") (Fv : Fld Z h0 ob "java/lang/String" "value" "[B" u0) (Fc : Fld Z h0 ob "java/lang/String" "coder" "B" u1) (g_ob : n0 ≤ ob) (Vc : Arv Z h0 vc kc .char (1 : Int32) [(.int cA)] (.int (0 : Int32))) (rA : ¬ cA < 0 ∧ ¬ (65535 : Int32) < cA) :
    MetFree l own_M1 (head1 (Jvm.Cond.code own_M1 jdk_42_method_3_code 2 none :: ws) ({ frames := 5, cells := 2, slots := 3, locals := 74 } : Room)) (fun A0 U0 => A0 = #[(.ref ob), (.ref vc)] ∧ Z.Warmed39 U0.vm ∧ U0.heap = h0) (fun _ _ _ _ _ => True) (fun _ U0 o0 U1 => ∃ v0 L0, o0 = .returned v0 ∧ own_Q_si_1 Z ob vc kc zc u0 u1 cA h0 n0 v0 U1.heap L0 ∧ FrameEnd U0 o0 U1 L0 2 3) := by
  refine MetFree.of_bodySF (plainFor_of_name own_pn_java_lang_String) hisR ?_
  intro p e s m args below meth c s₁ Bd hml0 hP hK
  obtain ⟨rfl, hZ, hh⟩ := hP
  have hZs0 := hZ
  have hZs := hZ
  have hx := Bd.exec
  have hby := Bd.bytes
  have hD : ∀ {pc : Nat} {r : Except DecodeError (Instr × Nat)}, decode jdk_42_method_3_code pc = r → decode c.code pc = r := fun q => hb hby q
  have hml : c.maxLocals = 2 := hml0
  have hown : s.vm.findClass "java/lang/String" = some m.cls := findClass_of_methodNamed Bd.named
  have hnm := (name_of_methodNamed Bd.named Bd.method).1
  have X0 : Stand p l e ({ frames := 5, cells := 2, slots := 3, locals := 74 } : Room) s m #[(.ref ob), (.ref vc)] below meth c s₁ [] 0 0 := Stand.of_body Bd
  have e0 : s₁.heap = h0 := by rw [← hh, Bd.state]; rfl
  have N0 := Fr.nil n0
  refine OwnFin.entry (own_ef_si_1 m ob vc) (fun P' hP' => ?_)
  have lt_ob := own_lt E.lt
  have lt_vc := own_lt Vc.lt
  obtain ⟨cl1, Ar1, ck1, S1, M1, H1, G1⟩ := id Vc
  refine OwnFin.adv (B := s₁.setTop (mkF m 4 #[VR ob, VR vc] [(.ref vc), (.int 0), (.ref vc), (.ref ob)])) (fun _ k => XS.aloadN X0.here hx rfl (hD d1_0) rfl rfl (XS.aloadN X0.here hx rfl (hD d1_1) rfl rfl (XS.iconst X0.here hx rfl (hD d1_2) (XS.aloadN X0.here hx rfl (hD d1_3) rfl rfl k)))) ?_
  refine OwnFin.adv (B := s₁.setTop (mkF m 5 #[VR ob, VR vc] [(.int 1), (.int 0), (.ref vc), (.ref ob)])) (fun _ k => X0.arraylength hx (by rw [e0]; exact Ar1.1) (State.isArrayOf_alike hZ.alike Ar1.2.1) (g := (mkF m 4 #[VR ob, VR vc] [(.ref vc), (.int 0), (.ref vc), (.ref ob)])) rfl rfl (hD d1_4) _ (by rw [len_of S1 M1]; exact k)) ?_
  obtain ⟨_, _, ⟨T2, L2, k2, n2⟩, -, X2, ⟨Lc2, hQ2, l2, y2, z2⟩, st2⟩ := X0.specialBack hx (y := own_M2) rfl hown (mvT hZ (own_w hw 8 rfl)) (mvT hZ (own_w hw 9 rfl)) (mvT hZ (own_w hw 11 rfl)) (by decide) (backOf (W := 0) (own_si5_1 l Z a0 hw [] ob vc kc zc _ _ cA h0 n0 (by omega) O0 SCS hzc SAD SHI SLO E Fv Fc (by omega) Vc rA) hZ (own_w hw 11 rfl) (own_w hw 4 rfl) (by decide) (by decide)) (g := (mkF m 6 #[VR ob, VR vc] [.null, (.int 1), (.int 0), (.ref vc), (.ref ob)])) rfl (by rw [hml]; rfl) (Steps.refl _) (a := ob) (argsL := [(.ref vc), (.int 0), (.int 1), .null]) (rest := []) (lenOf own_pd29 rfl) rfl (by show 2 * 0 + _ ≤ _; exact Nat.le_of_eq rfl) (hD d1_6) (fun _ _ => ⟨rfl, e0, (by decide : 0 + 2 ≤ _), (by decide : 0 + 3 ≤ _)⟩)
  dsimp only [Pt.U, Pt.locs, Pt.cells, Pt.slots] at X2 l2 y2 z2 st2 hQ2
  subst l2 y2 z2
  obtain ⟨rfl, N2q, K2, Fs2⟩ := hQ2
  have N2 := Fr.app N0 N2q
  have sz3 : h0.size ≤ T2.heap.size := K2.1
  obtain ⟨fs, hr, hrun, hended, hW, hsame⟩ := X2.leave (v := none) (fun _ => rfl)
  refine OwnFin.adv (B := T2.setTop (mkF m 9 #[VR ob, VR vc] [])) (fun _ k => XS.aconstNull X0.here hx rfl (hD d1_5) (st2.trans k)) ?_
  refine OwnFin.leaf hP' ⟨_, _, X2.returnOut hx Bd.returns (hD d1_9) hr, hrun, hended, _, _, rfl, ?_, ⟨_, rfl⟩, hW, hsame.mono (by decide) (by decide)⟩
  rw [show (T2.setFrames fs).heap = T2.heap from rfl]
  exact ⟨rfl, N2, ((Keep.refl h0 [ob]).trans K2 (allS (Or.inl (List.mem_of_getElem? (i := 0) rfl)) all0)), Fs2⟩
theorem own_ef_cm5_2 (m : MethodId) (x0 : Addr) (x1 : Int32) (x2 : Addr) (x3 : Int32) (x4 : Int32) : entryFrame m #[(.ref x0), (.int x1), (.ref x2), (.int x3), (.int x4)] 7 = mkF m 0 #[.val (.ref x0), .val (.int x1), .val (.ref x2), .val (.int x3), .val (.int x4), .unset, .unset] [] := by first | (simp [entryFrame, mkF, argsToLocals, Value.category]; done) | rfl
def own_Q_cm5_2 (Z : State) (vc da : Addr) (kc kd : ClassId) (cA cB : Int32) (h0 : Heap) (n0 : Nat) (v : Option Value) (h : Heap) (L : List Loc) : Prop := ∃ kk : Nat, v = some (.int (Int32.ofNat kk)) ∧ Fr n0 L ∧ Keep h0 h [da] ∧ ((kk = 2 ∧ (∀ c ∈ ([cA, cB] : List Int32), ¬ (255 : Int32) < c) ∧ Arv Z h da kd .byte (2 : Int32) [(.int (cA.toInt8.toInt32)), (.int (cB.toInt8.toInt32))] (.int (0 : Int32))) ∨ (kk < 2 ∧ (255 : Int32) < ([cA, cB] : List Int32).getD kk 0))
set_option maxRecDepth 65536 in
set_option maxHeartbeats 40000000 in
theorem own_cm5_2 (l : Launch) (Z : State) (a0 : Array Value) (hw : ∀ d ∈ tables_1, d.before a0 Z = true) (ws : List Jvm.Cond) (vc da : Addr) (kc kd : ClassId) (cA cB : Int32) (h0 : Heap) (n0 : Nat) (Z0 : n0 ≤ h0.size) (Vc : Arv Z h0 vc kc .char (2 : Int32) [(.int cA), (.int cB)] (.int (0 : Int32))) (Va : Arv Z h0 da kd .byte (2 : Int32) [(.int (0 : Int32)), (.int (0 : Int32))] (.int (0 : Int32))) (g_da : n0 ≤ da) (ne0 : vc ≠ da) :
    MetFree l own_M5 (head1 (Jvm.Cond.code own_M5 jdk_52_method_21_code 7 (some .int) :: ws) ({ frames := 0, cells := 0, slots := 0, locals := 0 } : Room)) (fun A0 U0 => A0 = #[(.ref vc), (.int (0 : Int32)), (.ref da), (.int (0 : Int32)), (.int (2 : Int32))] ∧ Z.Warmed39 U0.vm ∧ U0.heap = h0) (fun _ _ _ _ _ => True) (fun _ U0 o0 U1 => ∃ v0 L0, o0 = .returned v0 ∧ own_Q_cm5_2 Z vc da kc kd cA cB h0 n0 v0 U1.heap L0 ∧ FrameEnd U0 o0 U1 L0 0 0) := by
  refine MetFree.of_bodySF (plainFor_of_name own_pn_java_lang_StringUTF16) hisR ?_
  intro p e s m args below meth c s₁ Bd hml0 hP hK
  obtain ⟨rfl, hZ, hh⟩ := hP
  have hZs0 := hZ
  have hZs := hZ
  have hx := Bd.exec
  have hby := Bd.bytes
  have hD : ∀ {pc : Nat} {r : Except DecodeError (Instr × Nat)}, decode jdk_52_method_21_code pc = r → decode c.code pc = r := fun q => hb hby q
  have hml : c.maxLocals = 7 := hml0
  have hown : s.vm.findClass "java/lang/StringUTF16" = some m.cls := findClass_of_methodNamed Bd.named
  have hnm := (name_of_methodNamed Bd.named Bd.method).1
  have X0 : Stand p l e ({ frames := 0, cells := 0, slots := 0, locals := 0 } : Room) s m #[(.ref vc), (.int (0 : Int32)), (.ref da), (.int (0 : Int32)), (.int (2 : Int32))] below meth c s₁ [] 0 0 := Stand.of_body Bd
  have e0 : s₁.heap = h0 := by rw [← hh, Bd.state]; rfl
  have N0 := Fr.nil n0
  refine OwnFin.entry (own_ef_cm5_2 m vc (0 : Int32) da (0 : Int32) (2 : Int32)) (fun P' hP' => ?_)
  have lt_vc := own_lt Vc.lt
  have lt_da := own_lt Va.lt
  have ne_cd := own_nee ne0
  have hc7_5 : (0:Int32) < (2:Int32) := by decide
  obtain ⟨cl1, Ar1, ck1, S1, M1, H1, G1⟩ := id Vc
  have hin1 : ¬ ((0:Int32) < 0 ∨ cl1.slots.size ≤ ((0:Int32)).toNatClampNeg) := inb_of S1 ⟨by decide, by decide⟩
  refine OwnFin.adv (B := s₁.setTop (mkF m 15 #[VR vc, VI (0:Int32), VR da, VI (0:Int32), VI (2:Int32), VI (0:Int32), VI cA] [])) (fun _ k => XS.iconst X0.here hx rfl (hD d5_0) (XS.istore X0.here hx rfl (hD d5_1) rfl (l' := #[VR vc, VI (0:Int32), VR da, VI (0:Int32), VI (2:Int32), VI (0:Int32), .unset]) rfl (XS.iload X0.here hx rfl (hD d5_3) rfl (XS.iload X0.here hx rfl (hD d5_5) rfl (XS.icmpNo X0.here hx rfl (hD d5_7) rfl (tlt hc7_5).2.1 (XS.aloadN X0.here hx rfl (hD d5_10) rfl rfl (XS.iloadN X0.here hx rfl (hD d5_11) rfl (X0.caload hx (j := (0:Int32)) (v := (.int cA)) (by rw [e0]; exact Ar1.1) (State.isArrayOf_alike hZ.alike Ar1.2.1) Ar1.2.2 hin1 (Has.at H1 hin1 rfl) (g := (mkF m 12 #[VR vc, VI (0:Int32), VR da, VI (0:Int32), VI (2:Int32), VI (0:Int32), .unset] [(.int 0), (.ref vc)])) rfl rfl (hD d5_12) _ (XS.istore X0.here hx rfl (hD d5_13) rfl (l' := #[VR vc, VI (0:Int32), VR da, VI (0:Int32), VI (2:Int32), VI (0:Int32), VI cA]) rfl k))))))))) ?_
  by_cases hA : (255:Int32) < cA
  ·
   have hc20_13 : (255:Int32) < cA := hA
   obtain ⟨fs, hr, hrun, hended, hW, hsame⟩ := X0.leave (v := some (.int 0)) (fun h => by rw [Bd.returns] at h; cases h)
   refine OwnFin.adv (B := s₁.setTop (mkF m 25 #[VR vc, VI (0:Int32), VR da, VI (0:Int32), VI (2:Int32), VI (0:Int32), VI cA] [(.int 0)])) (fun _ k => XS.iload X0.here hx rfl (hD d5_15) rfl (XS.sipush X0.here hx rfl (hD d5_17) (XS.icmpNo X0.here hx rfl (hD d5_20) rfl (tlt hc20_13).2.2.2 (XS.iload X0.here hx rfl (hD d5_23) rfl k)))) ?_
   refine OwnFin.leaf hP' ⟨_, _, own_retI X0 hx Bd.returns (hD d5_25) hr, hrun, hended, _, _, rfl, ?_, ⟨_, rfl⟩, hW, hsame.mono (by decide) (by decide)⟩
   rw [show (s₁.setFrames fs).heap = h0 from e0]
   exact ⟨0, rfl, N0, (Keep.refl h0 [da]), Or.inr ⟨by decide, hA⟩⟩
  ·
   have hc20_13 : ¬ ((255:Int32) < cA) := hA
   obtain ⟨cl2, Ar2, ck2, S2, M2, H2, G2⟩ := id Va
   have hin2 : ¬ ((0:Int32) < 0 ∨ cl2.slots.size ≤ ((0:Int32)).toNatClampNeg) := inb_of S2 ⟨by decide, by decide⟩
   obtain ⟨T2, h2, X2, e2, W2, st2⟩ := stB X0 hx hZ e0 Ar2 (j := (0:Int32)) hin2 (g := (mkF m 31 #[VR vc, VI (0:Int32), VR da, VI (0:Int32), VI (2:Int32), VI (0:Int32), VI cA] [(.int (cA.toInt8.toInt32)), (.int 0), (.ref da)])) rfl rfl (hD d5_31)
   have V2 : Arv Z h2 da kd .byte (2:Int32) [(.int (cA.toInt8.toInt32).toInt8.toInt32), (.int 0)] (.int 0) := Arv.set Ar2 ck2 S2 M2 H2 G2 (fits_nar_byte _) W2 0 rfl (Nat.le_of_ble_eq_true rfl)
   have V2s : Arv Z h2 da kd .byte (2:Int32) [(.int (cA.toInt8.toInt32)), (.int 0)] (.int 0) := by
     have q := V2
     rw [show ((.int (cA.toInt8.toInt32).toInt8.toInt32) : Value) = (.int (cA.toInt8.toInt32)) from congrArg Value.int (own_narb _)] at q
     exact q
   have sz3 : h0.size ≤ h2.size := Nat.le_of_eq W2.size.symm
   have N2 := Fr.snoc X2 N0 (by omega : n0 ≤ da)
   refine OwnFin.adv (B := T2.setTop (mkF m 3 #[VR vc, VI ((0:Int32) + (1:Int32)), VR da, VI ((0:Int32) + (1:Int32)), VI (2:Int32), VI ((0:Int32) + (1:Int32)), VI cA] [])) (fun _ k => XS.iload X0.here hx rfl (hD d5_15) rfl (XS.sipush X0.here hx rfl (hD d5_17) (XS.icmpYes X0.here hx rfl (pc0 := 20) (pc' := 26) rfl (hD d5_20) rfl (flt hc20_13).2.2.2 (by decide) (by decide) (XS.aloadN X0.here hx rfl (hD d5_26) rfl rfl (XS.iloadN X0.here hx rfl (hD d5_27) rfl (XS.iload X0.here hx rfl (hD d5_28) rfl (XS.i2b X0.here hx rfl (hD d5_30) rfl (st2 _ (XS.iinc X2.here hx rfl (hD d5_32) rfl (l' := #[VR vc, VI ((0:Int32) + (1:Int32)), VR da, VI (0:Int32), VI (2:Int32), VI (0:Int32), VI cA]) rfl (XS.iinc X2.here hx rfl (hD d5_35) rfl (l' := #[VR vc, VI ((0:Int32) + (1:Int32)), VR da, VI ((0:Int32) + (1:Int32)), VI (2:Int32), VI (0:Int32), VI cA]) rfl (XS.iinc X2.here hx rfl (hD d5_38) rfl (l' := #[VR vc, VI ((0:Int32) + (1:Int32)), VR da, VI ((0:Int32) + (1:Int32)), VI (2:Int32), VI ((0:Int32) + (1:Int32)), VI cA]) rfl (XS.goto X2.here hx rfl (pc0 := 41) (pc' := 3) rfl (hD d5_41) (by decide) (by decide) k)))))))))))) ?_
   rw [show (((0:Int32) + (1:Int32)) : Int32) = (1:Int32) from by decide]
   have hc7_25 : (1:Int32) < (2:Int32) := by decide
   have Fv5_1 := (Vc.other W2 (own_ne (by omega)))
   obtain ⟨cl4, Ar4, ck4, S4, M4, H4, G4⟩ := id Fv5_1
   have hin4 : ¬ ((1:Int32) < 0 ∨ cl4.slots.size ≤ ((1:Int32)).toNatClampNeg) := inb_of S4 ⟨by decide, by decide⟩
   refine OwnFin.adv (B := T2.setTop (mkF m 15 #[VR vc, VI (1:Int32), VR da, VI (1:Int32), VI (2:Int32), VI (1:Int32), VI cB] [])) (fun _ k => XS.iload X2.here hx rfl (hD d5_3) rfl (XS.iload X2.here hx rfl (hD d5_5) rfl (XS.icmpNo X2.here hx rfl (hD d5_7) rfl (tlt hc7_25).2.1 (XS.aloadN X2.here hx rfl (hD d5_10) rfl rfl (XS.iloadN X2.here hx rfl (hD d5_11) rfl (X2.caload hx (j := (1:Int32)) (v := (.int cB)) (by rw [e2]; exact Ar4.1) (State.isArrayOf_alike hZ.alike Ar4.2.1) Ar4.2.2 hin4 (Has.at H4 hin4 rfl) (g := (mkF m 12 #[VR vc, VI (1:Int32), VR da, VI (1:Int32), VI (2:Int32), VI (1:Int32), VI cA] [(.int 1), (.ref vc)])) rfl rfl (hD d5_12) _ (XS.istore X2.here hx rfl (hD d5_13) rfl (l' := #[VR vc, VI (1:Int32), VR da, VI (1:Int32), VI (2:Int32), VI (1:Int32), VI cB]) rfl k))))))) ?_
   by_cases hB : (255:Int32) < cB
   ·
    have hc20_33 : (255:Int32) < cB := hB
    obtain ⟨fs, hr, hrun, hended, hW, hsame⟩ := X2.leave (v := some (.int 1)) (fun h => by rw [Bd.returns] at h; cases h)
    refine OwnFin.adv (B := T2.setTop (mkF m 25 #[VR vc, VI (1:Int32), VR da, VI (1:Int32), VI (2:Int32), VI (1:Int32), VI cB] [(.int 1)])) (fun _ k => XS.iload X2.here hx rfl (hD d5_15) rfl (XS.sipush X2.here hx rfl (hD d5_17) (XS.icmpNo X2.here hx rfl (hD d5_20) rfl (tlt hc20_33).2.2.2 (XS.iload X2.here hx rfl (hD d5_23) rfl k)))) ?_
    refine OwnFin.leaf hP' ⟨_, _, own_retI X2 hx Bd.returns (hD d5_25) hr, hrun, hended, _, _, rfl, ?_, ⟨_, rfl⟩, hW, hsame.mono (by decide) (by decide)⟩
    rw [show (T2.setFrames fs).heap = h2 from e2]
    exact ⟨1, rfl, N2, ((Keep.refl h0 [da]).wr W2 (Or.inl (List.mem_of_getElem? (i := 0) rfl))), Or.inr ⟨by decide, hB⟩⟩
   ·
    have hc20_33 : ¬ ((255:Int32) < cB) := hB
    obtain ⟨cl6, Ar6, ck6, S6, M6, H6, G6⟩ := id V2s
    have hin6 : ¬ ((1:Int32) < 0 ∨ cl6.slots.size ≤ ((1:Int32)).toNatClampNeg) := inb_of S6 ⟨by decide, by decide⟩
    obtain ⟨T6, h6, X6, e6, W6, st6⟩ := stB X2 hx hZ e2 Ar6 (j := (1:Int32)) hin6 (g := (mkF m 31 #[VR vc, VI (1:Int32), VR da, VI (1:Int32), VI (2:Int32), VI (1:Int32), VI cB] [(.int (cB.toInt8.toInt32)), (.int 1), (.ref da)])) rfl rfl (hD d5_31)
    have V6 : Arv Z h6 da kd .byte (2:Int32) [(.int (cA.toInt8.toInt32)), (.int (cB.toInt8.toInt32).toInt8.toInt32)] (.int 0) := Arv.set Ar6 ck6 S6 M6 H6 G6 (fits_nar_byte _) W6 1 rfl (Nat.le_of_ble_eq_true rfl)
    have V6s : Arv Z h6 da kd .byte (2:Int32) [(.int (cA.toInt8.toInt32)), (.int (cB.toInt8.toInt32))] (.int 0) := by
      have q := V6
      rw [show ((.int (cB.toInt8.toInt32).toInt8.toInt32) : Value) = (.int (cB.toInt8.toInt32)) from congrArg Value.int (own_narb _)] at q
      exact q
    have sz7 : h2.size ≤ h6.size := Nat.le_of_eq W6.size.symm
    have N6 := Fr.snoc X6 N2 (by omega : n0 ≤ da)
    refine OwnFin.adv (B := T6.setTop (mkF m 3 #[VR vc, VI ((1:Int32) + (1:Int32)), VR da, VI ((1:Int32) + (1:Int32)), VI (2:Int32), VI ((1:Int32) + (1:Int32)), VI cB] [])) (fun _ k => XS.iload X2.here hx rfl (hD d5_15) rfl (XS.sipush X2.here hx rfl (hD d5_17) (XS.icmpYes X2.here hx rfl (pc0 := 20) (pc' := 26) rfl (hD d5_20) rfl (flt hc20_33).2.2.2 (by decide) (by decide) (XS.aloadN X2.here hx rfl (hD d5_26) rfl rfl (XS.iloadN X2.here hx rfl (hD d5_27) rfl (XS.iload X2.here hx rfl (hD d5_28) rfl (XS.i2b X2.here hx rfl (hD d5_30) rfl (st6 _ (XS.iinc X6.here hx rfl (hD d5_32) rfl (l' := #[VR vc, VI ((1:Int32) + (1:Int32)), VR da, VI (1:Int32), VI (2:Int32), VI (1:Int32), VI cB]) rfl (XS.iinc X6.here hx rfl (hD d5_35) rfl (l' := #[VR vc, VI ((1:Int32) + (1:Int32)), VR da, VI ((1:Int32) + (1:Int32)), VI (2:Int32), VI (1:Int32), VI cB]) rfl (XS.iinc X6.here hx rfl (hD d5_38) rfl (l' := #[VR vc, VI ((1:Int32) + (1:Int32)), VR da, VI ((1:Int32) + (1:Int32)), VI (2:Int32), VI ((1:Int32) + (1:Int32)), VI cB]) rfl (XS.goto X6.here hx rfl (pc0 := 41) (pc' := 3) rfl (hD d5_41) (by decide) (by decide) k)))))))))))) ?_
    rw [show (((1:Int32) + (1:Int32)) : Int32) = (2:Int32) from by decide]
    have hc7_45 : ¬ ((2:Int32) < (2:Int32)) := by decide
    obtain ⟨fs, hr, hrun, hended, hW, hsame⟩ := X6.leave (v := some (.int 2)) (fun h => by rw [Bd.returns] at h; cases h)
    refine OwnFin.adv (B := T6.setTop (mkF m 46 #[VR vc, VI (2:Int32), VR da, VI (2:Int32), VI (2:Int32), VI (2:Int32), VI cB] [(.int 2)])) (fun _ k => XS.iload X6.here hx rfl (hD d5_3) rfl (XS.iload X6.here hx rfl (hD d5_5) rfl (XS.icmpYes X6.here hx rfl (pc0 := 7) (pc' := 44) rfl (hD d5_7) rfl (flt hc7_45).2.1 (by decide) (by decide) (XS.iload X6.here hx rfl (hD d5_44) rfl k)))) ?_
    refine OwnFin.leaf hP' ⟨_, _, own_retI X6 hx Bd.returns (hD d5_46) hr, hrun, hended, _, _, rfl, ?_, ⟨_, rfl⟩, hW, hsame.mono (by decide) (by decide)⟩
    rw [show (T6.setFrames fs).heap = h6 from e6]
    exact ⟨2, rfl, N6, (((Keep.refl h0 [da]).wr W2 (Or.inl (List.mem_of_getElem? (i := 0) rfl))).wr W6 (Or.inl (List.mem_of_getElem? (i := 0) rfl))), Or.inl ⟨rfl, (by
          intro c hc
          simp only [List.mem_cons, List.not_mem_nil, or_false] at hc
          rcases hc with rfl | rfl
          · exact hA
          · exact hB), V6s⟩⟩
theorem own_ef_cm3_2 (m : MethodId) (x0 : Addr) (x1 : Int32) (x2 : Int32) : entryFrame m #[(.ref x0), (.int x1), (.int x2)] 6 = mkF m 0 #[.val (.ref x0), .val (.int x1), .val (.int x2), .unset, .unset, .unset] [] := by first | (simp [entryFrame, mkF, argsToLocals, Value.category]; done) | rfl
def own_Q_cm3_2 (Z : State) (vc : Addr) (kc : ClassId) (cA cB : Int32) (h0 : Heap) (n0 : Nat) (v : Option Value) (h : Heap) (L : List Loc) : Prop := ∃ (t : Addr) (kt : ClassId) (cd : Int32) (bs : List Int32), v = some (.ref t) ∧ Fr n0 L ∧ Keep h0 h [] ∧ h0.size ≤ t ∧ Arv Z h t kt .byte (Int32.ofNat bs.length) (bs.map Value.int) (.int (0 : Int32)) ∧ ((cd = 0 ∧ bs = ([cA, cB] : List Int32).map (fun c => c.toInt8.toInt32) ∧ ∀ c ∈ ([cA, cB] : List Int32), ¬ (255 : Int32) < c) ∨ (cd = 1 ∧ bs = own_wide [cA, cB]))
set_option maxRecDepth 65536 in
set_option maxHeartbeats 40000000 in
theorem own_cm3_2 (l : Launch) (Z : State) (a0 : Array Value) (hw : ∀ d ∈ tables_1, d.before a0 Z = true) (ws : List Jvm.Cond) (vc : Addr) (kc : ClassId) (cA cB : Int32) (h0 : Heap) (n0 : Nat) (Z0 : n0 ≤ h0.size) (O0 : Old Z n0 h0) (SAD : Sta Z Z.heap "java/lang/StringUTF16" "$assertionsDisabled" "Z" (.int (1 : Int32))) (SHI : Sta Z Z.heap "java/lang/StringUTF16" "HI_BYTE_SHIFT" "I" (.int (0 : Int32))) (SLO : Sta Z Z.heap "java/lang/StringUTF16" "LO_BYTE_SHIFT" "I" (.int (8 : Int32))) (Vc : Arv Z h0 vc kc .char (2 : Int32) [(.int cA), (.int cB)] (.int (0 : Int32))) (rA : ¬ cA < 0 ∧ ¬ (65535 : Int32) < cA) (rB : ¬ cB < 0 ∧ ¬ (65535 : Int32) < cB) :
    MetFree l own_M4 (head1 (Jvm.Cond.code own_M4 jdk_52_method_16_code 6 (some (.array .byte)) :: ws) ({ frames := 3, cells := 2, slots := 6, locals := 40 } : Room)) (fun A0 U0 => A0 = #[(.ref vc), (.int (0 : Int32)), (.int (2 : Int32))] ∧ Z.Warmed39 U0.vm ∧ U0.heap = h0) (fun _ _ _ _ _ => True) (fun _ U0 o0 U1 => ∃ v0 L0, o0 = .returned v0 ∧ own_Q_cm3_2 Z vc kc cA cB h0 n0 v0 U1.heap L0 ∧ FrameEnd U0 o0 U1 L0 2 6) := by
  refine MetFree.of_bodySF (plainFor_of_name own_pn_java_lang_StringUTF16) hisR ?_
  intro p e s m args below meth c s₁ Bd hml0 hP hK
  obtain ⟨rfl, hZ, hh⟩ := hP
  have hZs0 := hZ
  have hZs := hZ
  have hx := Bd.exec
  have hby := Bd.bytes
  have hD : ∀ {pc : Nat} {r : Except DecodeError (Instr × Nat)}, decode jdk_52_method_16_code pc = r → decode c.code pc = r := fun q => hb hby q
  have hml : c.maxLocals = 6 := hml0
  have hown : s.vm.findClass "java/lang/StringUTF16" = some m.cls := findClass_of_methodNamed Bd.named
  have hnm := (name_of_methodNamed Bd.named Bd.method).1
  have X0 : Stand p l e ({ frames := 3, cells := 2, slots := 6, locals := 40 } : Room) s m #[(.ref vc), (.int (0 : Int32)), (.int (2 : Int32))] below meth c s₁ [] 0 0 := Stand.of_body Bd
  have e0 : s₁.heap = h0 := by rw [← hh, Bd.state]; rfl
  have N0 := Fr.nil n0
  refine OwnFin.entry (own_ef_cm3_2 m vc (0 : Int32) (2 : Int32)) (fun P' hP' => ?_)
  have lt_vc := own_lt Vc.lt
  obtain ⟨T1, h1, k1, X1, e1, E1, A1, st1⟩ := newP X0 hx hZ (own_w hw 20 rfl) e0 (g := (mkF m 1 #[VR vc, VI (0:Int32), VI (2:Int32), .unset, .unset, .unset] [(.int 2)])) rfl (hD d4_1) rfl (by decide) (cap := 2) (by decide) (by decide) (by decide) (by decide)
  obtain ⟨b1, g1⟩ : ∃ z, z = h0.size := ⟨_, rfl⟩
  rw [← g1] at A1 st1
  have sz2 : h0.size ≤ h1.size := E1.1
  have lt_b1 := own_lt A1.lt
  have V1 : Arv Z h1 b1 k1 .byte (2:Int32) [(.int 0), (.int 0)] (.int 0) := (Arv.new A1 (by decide)).pad (pad_rep [] (.int 0) 2)
  have Fv4_1 := (Vc.ext E1)
  obtain ⟨_, _, ⟨T3, L3, k3, n3⟩, -, X3, ⟨Lc3, hQ3, l3, y3, z3⟩, st3⟩ := Jvm.LawKit.callS X1 hx (y := own_M5) hown (mvT hZ (own_w hw 21 rfl)) (mvT hZ (own_w hw 22 rfl)) (mvT hZ (own_w hw 18 rfl)) (mvT hZ (own_w hw 23 rfl)) (by decide) (backOf (W := 0) (own_cm5_2 l Z a0 hw [] vc b1 kc k1 cA cB h1 n0 (by omega) Fv4_1 V1 (by omega) (own_ne (by omega))) hZ (own_w hw 23 rfl) (own_w hw 18 rfl) (by decide) (by decide)) (g := (mkF m 9 #[VR vc, VI (0:Int32), VI (2:Int32), VR b1, .unset, .unset] [(.int 2), (.int 0), (.ref b1), (.int 0), (.ref vc)])) rfl (by rw [hml]; rfl) (argsL := [(.ref vc), (.int 0), (.ref b1), (.int 0), (.int 2)]) (rest := []) (lenOf own_pd26 rfl) rfl (by show 2 * 0 + _ ≤ _; exact Nat.le_of_eq rfl) (hD d4_9) (fun _ _ => ⟨rfl, e1, (by decide : 1 + 0 ≤ _), (by decide : 2 + 0 ≤ _)⟩)
  dsimp only [Pt.U, Pt.locs, Pt.cells, Pt.slots] at X3 l3 y3 z3 st3 hQ3
  subst l3 y3 z3
  obtain ⟨kk, rfl, N3q, K3, hdj⟩ := hQ3
  have N3 := Fr.app N0 N3q
  have sz5 : h1.size ≤ T3.heap.size := K3.1
  refine OwnFin.adv (B := T3.setTop (mkF m 12 #[VR vc, VI (0:Int32), VI (2:Int32), VR b1, .unset, .unset] [(.int (Int32.ofNat kk))])) (fun _ k => XS.iloadN X0.here hx rfl (hD d4_0) rfl (st1 _ (XS.astoreN X1.here hx rfl (hD d4_3) rfl rfl (l' := #[VR vc, VI (0:Int32), VI (2:Int32), VR b1, .unset, .unset]) rfl (XS.aloadN X1.here hx rfl (hD d4_4) rfl rfl (XS.iloadN X1.here hx rfl (hD d4_5) rfl (XS.aloadN X1.here hx rfl (hD d4_6) rfl rfl (XS.iconst X1.here hx rfl (hD d4_7) (XS.iloadN X1.here hx rfl (hD d4_8) rfl (st3 _ k))))))))) ?_
  rcases hdj with ⟨rfl, hall, Vl⟩ | ⟨hkn, hgt⟩
  ·
   have hc17_14 : (Int32.ofNat 2) = (2:Int32) := rfl
   obtain ⟨fs, hr, hrun, hended, hW, hsame⟩ := X3.leave (v := some (.ref b1)) (fun h => by rw [Bd.returns] at h; cases h)
   refine OwnFin.adv (B := T3.setTop (mkF m 58 #[VR vc, VI (0:Int32), VI (2:Int32), VR b1, VI (Int32.ofNat 2), .unset] [(.ref b1)])) (fun _ k => XS.istore X3.here hx rfl (hD d4_12) rfl (l' := #[VR vc, VI (0:Int32), VI (2:Int32), VR b1, VI (Int32.ofNat 2), .unset]) rfl (XS.iload X3.here hx rfl (hD d4_14) rfl (XS.iloadN X3.here hx rfl (hD d4_16) rfl (XS.icmpYes X3.here hx rfl (pc0 := 17) (pc' := 57) rfl (hD d4_17) rfl (teq hc17_14).1 (by decide) (by decide) (XS.aloadN X3.here hx rfl (hD d4_57) rfl rfl k))))) ?_
   refine OwnFin.leaf hP' ⟨_, _, own_retR X3 hx Bd.returns rfl rfl rfl (hD d4_58) hr, hrun, hended, _, _, rfl, ?_, ⟨_, rfl⟩, hW, hsame.mono (by decide) (by decide)⟩
   rw [show (T3.setFrames fs).heap = T3.heap from rfl]
   exact ⟨b1, _, 0, [cA, cB].map (fun c => c.toInt8.toInt32), rfl, N3, (((Keep.refl h0 []).ext E1).trans K3 (allS (Or.inr (by omega)) all0)), by omega, Vl, Or.inl ⟨rfl, rfl, hall⟩⟩
  ·
   have hc17_14 : ¬ ((Int32.ofNat kk) = (2:Int32)) := fun q => absurd ((own_eqn (b := 2) (by omega) (by omega)).mp q) (by omega)
   have Old7 : Old Z n0 T3.heap := ((O0.ext E1).keep K3 (allS (by omega) all0))
   have Fv8_2 := (Fv4_1.keep K3 (ninS (own_ne (by omega)) nin0))
   obtain ⟨_, _, ⟨T6, L6, k6, n6⟩, -, X6, ⟨Lc6, hQ6, l6, y6, z6⟩, st6⟩ := Jvm.LawKit.callS X3 hx (y := own_M36) hown (mvT hZ (own_w hw 179 rfl)) (mvT hZ (own_w hw 180 rfl)) (mvT hZ (own_w hw 18 rfl)) (mvT hZ (own_w hw 181 rfl)) (by decide) (backOf (W := 0) (own_toB2 l Z a0 hw [] vc kc cA cB T3.heap n0 (by omega) Old7 SAD SHI SLO Fv8_2) hZ (own_w hw 181 rfl) (own_w hw 18 rfl) (by decide) (by decide)) (g := (mkF m 23 #[VR vc, VI (0:Int32), VI (2:Int32), VR b1, VI (Int32.ofNat kk), .unset] [(.int 2), (.int 0), (.ref vc)])) rfl (by rw [hml]; rfl) (argsL := [(.ref vc), (.int 0), (.int 2)]) (rest := []) (lenOf own_pd27 rfl) rfl (by show 2 * 0 + _ ≤ _; exact Nat.le_of_eq rfl) (hD d4_23) (fun _ _ => ⟨rfl, rfl, (by decide : 1 + 1 ≤ _), (by decide : 2 + 4 ≤ _)⟩)
   dsimp only [Pt.U, Pt.locs, Pt.cells, Pt.slots] at X6 l6 y6 z6 st6 hQ6
   subst l6 y6 z6
   obtain ⟨t6, kt6, rfl, N6q, K6, ge6, Vt6⟩ := hQ6
   have N6 := Fr.app N3 N6q
   have sz9 : T3.heap.size ≤ T6.heap.size := K6.1
   have lt_t6 := own_lt Vt6.lt
   have Vw11 : Arv Z T6.heap t6 kt6 .byte (Int32.ofNat (own_wide [cA, cB]).length) ((own_wide [cA, cB]).map Value.int) (.int 0) := Vt6
   have hrg11 : ∀ c ∈ ([cA, cB] : List Int32), ¬ c < 0 ∧ ¬ (65535:Int32) < c := by
     intro c hc
     simp only [List.mem_cons, List.not_mem_nil, or_false] at hc
     rcases hc with rfl | rfl
     · exact rA
     · exact rB
   have Old12 : Old Z n0 T6.heap := (Old7.keep K6 all0)
   obtain ⟨_, _, ⟨T10, L10, k10, n10⟩, -, X10, ⟨Lc10, hQ10, l10, y10, z10⟩, st10⟩ := Jvm.LawKit.callS X6 hx (y := own_M40) hown (mvT hZ (own_w hw 195 rfl)) (mvT hZ (own_w hw 196 rfl)) (mvT hZ (own_w hw 18 rfl)) (mvT hZ (own_w hw 197 rfl)) (by decide) (backOf (W := 0) (own_getChar l Z a0 hw [] t6 kt6 [cA, cB] kk T6.heap n0 (by omega) Old12 SAD SHI SLO Vw11 (by simp) hkn hrg11) hZ (own_w hw 197 rfl) (own_w hw 18 rfl) (by decide) (by decide)) (g := (mkF m 32 #[VR vc, VI (0:Int32), VI (2:Int32), VR b1, VI (Int32.ofNat kk), VR t6] [(.int (Int32.ofNat kk)), (.ref t6)])) rfl (by rw [hml]; rfl) (argsL := [(.ref t6), (.int (Int32.ofNat kk))]) (rest := []) (lenOf own_pd5 rfl) rfl (by show 2 * 0 + _ ≤ _; exact Nat.le_of_eq rfl) (hD d4_32) (fun _ _ => ⟨rfl, rfl, (by decide : 2 + 0 ≤ _), (by decide : 6 + 0 ≤ _)⟩)
   dsimp only [Pt.U, Pt.locs, Pt.cells, Pt.slots] at X10 l10 y10 z10 st10 hQ10
   subst l10 y10 z10
   obtain ⟨rfl, N10q, eh10⟩ := hQ10
   have N10 := Fr.app N6 N10q
   have hc38_24 : (255:Int32) < ([cA, cB].getD kk 0) := hgt
   refine OwnFin.adv (B := T10.setTop (mkF m 54 #[VR vc, VI (0:Int32), VI (2:Int32), VR b1, VI (Int32.ofNat kk), VR t6] [])) (fun _ k => XS.istore X3.here hx rfl (hD d4_12) rfl (l' := #[VR vc, VI (0:Int32), VI (2:Int32), VR b1, VI (Int32.ofNat kk), .unset]) rfl (XS.iload X3.here hx rfl (hD d4_14) rfl (XS.iloadN X3.here hx rfl (hD d4_16) rfl (XS.icmpNo X3.here hx rfl (hD d4_17) rfl (feq hc17_14).1 (XS.aloadN X3.here hx rfl (hD d4_20) rfl rfl (XS.iloadN X3.here hx rfl (hD d4_21) rfl (XS.iloadN X3.here hx rfl (hD d4_22) rfl (st6 _ (XS.astore X6.here hx rfl (hD d4_26) rfl rfl (l' := #[VR vc, VI (0:Int32), VI (2:Int32), VR b1, VI (Int32.ofNat kk), VR t6]) rfl (XS.aload X6.here hx rfl (hD d4_28) rfl rfl (XS.iload X6.here hx rfl (hD d4_30) rfl (st10 _ (XS.sipush X10.here hx rfl (hD d4_35) (XS.icmpYes X10.here hx rfl (pc0 := 38) (pc' := 54) rfl (hD d4_38) rfl (tlt hc38_24).2.2.1 (by decide) (by decide) k)))))))))))))) ?_
   obtain ⟨fs, hr, hrun, hended, hW, hsame⟩ := X10.leave (v := some (.ref t6)) (fun h => by rw [Bd.returns] at h; cases h)
   refine OwnFin.adv (B := T10.setTop (mkF m 56 #[VR vc, VI (0:Int32), VI (2:Int32), VR b1, VI (Int32.ofNat kk), VR t6] [(.ref t6)])) (fun _ k => XS.aload X10.here hx rfl (hD d4_54) rfl rfl k) ?_
   refine OwnFin.leaf hP' ⟨_, _, own_retR X10 hx Bd.returns rfl rfl rfl (hD d4_56) hr, hrun, hended, _, _, rfl, ?_, ⟨_, rfl⟩, hW, hsame.mono (by decide) (by decide)⟩
   rw [show (T10.setFrames fs).heap = T6.heap from eh10]
   exact ⟨t6, _, 1, own_wide [cA, cB], rfl, N10, ((((Keep.refl h0 []).ext E1).trans K3 (allS (Or.inr (by omega)) all0)).trans K6 all0), by omega, Vt6, Or.inr ⟨rfl, rfl⟩⟩
theorem own_ef_cfa2 (m : MethodId) (x0 : Addr) (x1 : Int32) : entryFrame m #[(.ref x0), (.int x1)] 2 = mkF m 0 #[.val (.ref x0), .val (.int x1)] [] := by first | (simp [entryFrame, mkF, argsToLocals, Value.category]; done) | rfl
def own_Q_cfa2 (Z : State) (da : Addr) (kd : ClassId) (cd : Int32) (bs : List Int32) (cA cB : Int32) (h0 : Heap) (n0 : Nat) (v : Option Value) (h : Heap) (L : List Loc) : Prop := v = some (.int cd) ∧ Fr n0 L ∧ h = h0
set_option maxRecDepth 65536 in
set_option maxHeartbeats 40000000 in
theorem own_cfa2 (l : Launch) (Z : State) (a0 : Array Value) (hw : ∀ d ∈ tables_1, d.before a0 Z = true) (ws : List Jvm.Cond) (da : Addr) (kd : ClassId) (cd : Int32) (bs : List Int32) (cA cB : Int32) (h0 : Heap) (n0 : Nat) (Z0 : n0 ≤ h0.size) (Va : Arv Z h0 da kd .byte (Int32.ofNat bs.length) (bs.map Value.int) (.int (0 : Int32))) (hcb : ((cd = 0 ∧ bs = ([cA, cB] : List Int32).map (fun c => c.toInt8.toInt32) ∧ ∀ c ∈ ([cA, cB] : List Int32), ¬ (255 : Int32) < c) ∨ (cd = 1 ∧ bs = own_wide [cA, cB]))) :
    MetFree l own_M6 (head1 (Jvm.Cond.code own_M6 jdk_52_method_15_code 2 (some .byte) :: ws) ({ frames := 0, cells := 0, slots := 0, locals := 0 } : Room)) (fun A0 U0 => A0 = #[(.ref da), (.int (2 : Int32))] ∧ Z.Warmed39 U0.vm ∧ U0.heap = h0) (fun _ _ _ _ _ => True) (fun _ U0 o0 U1 => ∃ v0 L0, o0 = .returned v0 ∧ own_Q_cfa2 Z da kd cd bs cA cB h0 n0 v0 U1.heap L0 ∧ FrameEnd U0 o0 U1 L0 0 0) := by
  refine MetFree.of_bodySF (plainFor_of_name own_pn_java_lang_StringUTF16) hisR ?_
  intro p e s m args below meth c s₁ Bd hml0 hP hK
  obtain ⟨rfl, hZ, hh⟩ := hP
  have hZs0 := hZ
  have hZs := hZ
  have hx := Bd.exec
  have hby := Bd.bytes
  have hD : ∀ {pc : Nat} {r : Except DecodeError (Instr × Nat)}, decode jdk_52_method_15_code pc = r → decode c.code pc = r := fun q => hb hby q
  have hml : c.maxLocals = 2 := hml0
  have hown : s.vm.findClass "java/lang/StringUTF16" = some m.cls := findClass_of_methodNamed Bd.named
  have hnm := (name_of_methodNamed Bd.named Bd.method).1
  have X0 : Stand p l e ({ frames := 0, cells := 0, slots := 0, locals := 0 } : Room) s m #[(.ref da), (.int (2 : Int32))] below meth c s₁ [] 0 0 := Stand.of_body Bd
  have e0 : s₁.heap = h0 := by rw [← hh, Bd.state]; rfl
  have N0 := Fr.nil n0
  refine OwnFin.entry (own_ef_cfa2 m da (2 : Int32)) (fun P' hP' => ?_)
  obtain ⟨cl1, Ar1, ck1, S1, M1, H1, G1⟩ := id Va
  refine OwnFin.adv (B := s₁.setTop (mkF m 2 #[VR da, VI (2:Int32)] [(.ref da), (.int 2)])) (fun _ k => XS.iloadN X0.here hx rfl (hD d6_0) rfl (XS.aloadN X0.here hx rfl (hD d6_1) rfl rfl k)) ?_
  refine OwnFin.adv (B := s₁.setTop (mkF m 3 #[VR da, VI (2:Int32)] [(.int (Int32.ofNat (bs).length)), (.int 2)])) (fun _ k => X0.arraylength hx (by rw [e0]; exact Ar1.1) (State.isArrayOf_alike hZ.alike Ar1.2.1) (g := (mkF m 2 #[VR da, VI (2:Int32)] [(.ref da), (.int 2)])) rfl rfl (hD d6_2) _ (by rw [len_of S1 M1]; exact k)) ?_
  obtain ⟨fs, hr, hrun, hended, hW, hsame⟩ := X0.leave (v := some (.int (nar .byte (((((2:Int32) - (Int32.ofNat (bs).length)).toUInt32 >>> ((31:Int32) &&& 31).toUInt32).toInt32).toInt8.toInt32)))) (fun h => by rw [Bd.returns] at h; cases h)
  refine OwnFin.adv (B := s₁.setTop (mkF m 8 #[VR da, VI (2:Int32)] [(.int (((((2:Int32) - (Int32.ofNat (bs).length)).toUInt32 >>> ((31:Int32) &&& 31).toUInt32).toInt32).toInt8.toInt32))])) (fun _ k => XS.isub X0.here hx rfl (hD d6_3) rfl (XS.bipush X0.here hx rfl (hD d6_4) (XS.iushr X0.here hx rfl (hD d6_6) rfl (XS.i2b X0.here hx rfl (hD d6_7) rfl k)))) ?_
  refine OwnFin.leaf hP' ⟨_, _, retN X0 hx (t := .byte) Bd.returns (by simp) (hD d6_8) hr, hrun, hended, _, _, rfl, ?_, ⟨_, rfl⟩, hW, hsame.mono (by decide) (by decide)⟩
  rcases hcb with ⟨rfl, rfl, -⟩ | ⟨rfl, rfl⟩
  · rw [show Int32.ofNat (([cA, cB] : List Int32).map (fun c => c.toInt8.toInt32)).length = (2:Int32) from rfl]
    exact ⟨congrArg (fun z => some (Value.int z)) (by decide), N0, e0⟩
  · rw [show Int32.ofNat (own_wide [cA, cB]).length = (4:Int32) from rfl]
    exact ⟨congrArg (fun z => some (Value.int z)) (by decide), N0, e0⟩
theorem own_ef_si5_2 (m : MethodId) (x0 : Addr) (x1 : Addr) (x2 : Int32) (x3 : Int32) : entryFrame m #[(.ref x0), (.ref x1), (.int x2), (.int x3), .null] 6 = mkF m 0 #[.val (.ref x0), .val (.ref x1), .val (.int x2), .val (.int x3), .val .null, .unset] [] := by first | (simp [entryFrame, mkF, argsToLocals, Value.category]; done) | rfl
def own_Q_si5_2 (Z : State) (ob vc : Addr) (kc : ClassId) (zc : Int32) (u0 u1 : Value) (cA cB : Int32) (h0 : Heap) (n0 : Nat) (v : Option Value) (h : Heap) (L : List Loc) : Prop := v = none ∧ Fr n0 L ∧ Keep h0 h [ob] ∧ OwnS Z h h.size ob [cA, cB]
set_option maxRecDepth 65536 in
set_option maxHeartbeats 40000000 in
theorem own_si5_2 (l : Launch) (Z : State) (a0 : Array Value) (hw : ∀ d ∈ tables_1, d.before a0 Z = true) (ws : List Jvm.Cond) (ob vc : Addr) (kc : ClassId) (zc : Int32) (u0 u1 : Value) (cA cB : Int32) (h0 : Heap) (n0 : Nat) (Z0 : n0 ≤ h0.size) (O0 : Old Z n0 h0) (SCS : Sta Z Z.heap "java/lang/String" "COMPACT_STRINGS" "Z" (.int zc)) (hzc : ¬ zc = 0) (SAD : Sta Z Z.heap "java/lang/StringUTF16" "$assertionsDisabled" "Z" (.int (1 : Int32))) (SHI : Sta Z Z.heap "java/lang/StringUTF16" "HI_BYTE_SHIFT" "I" (.int (0 : Int32))) (SLO : Sta Z Z.heap "java/lang/StringUTF16" "LO_BYTE_SHIFT" "I" (.int (8 : Int32))) (E : Exa Z h0 ob "java/lang/String") (Fv : Fld Z h0 ob "java/lang/String" "value" "[B" u0) (Fc : Fld Z h0 ob "java/lang/String" "coder" "B" u1) (g_ob : n0 ≤ ob) (Vc : Arv Z h0 vc kc .char (2 : Int32) [(.int cA), (.int cB)] (.int (0 : Int32))) (rA : ¬ cA < 0 ∧ ¬ (65535 : Int32) < cA) (rB : ¬ cB < 0 ∧ ¬ (65535 : Int32) < cB) :
    MetFree l own_M2 (head1 (Jvm.Cond.code own_M2 jdk_42_method_149_code 6 none :: ws) ({ frames := 4, cells := 2, slots := 6, locals := 57 } : Room)) (fun A0 U0 => A0 = #[(.ref ob), (.ref vc), (.int (0 : Int32)), (.int (2 : Int32)), .null] ∧ Z.Warmed39 U0.vm ∧ U0.heap = h0) (fun _ _ _ _ _ => True) (fun _ U0 o0 U1 => ∃ v0 L0, o0 = .returned v0 ∧ own_Q_si5_2 Z ob vc kc zc u0 u1 cA cB h0 n0 v0 U1.heap L0 ∧ FrameEnd U0 o0 U1 L0 2 6) := by
  refine MetFree.of_bodySF (plainFor_of_name own_pn_java_lang_String) hisR ?_
  intro p e s m args below meth c s₁ Bd hml0 hP hK
  obtain ⟨rfl, hZ, hh⟩ := hP
  have hZs0 := hZ
  have hZs := hZ
  have hx := Bd.exec
  have hby := Bd.bytes
  have hD : ∀ {pc : Nat} {r : Except DecodeError (Instr × Nat)}, decode jdk_42_method_149_code pc = r → decode c.code pc = r := fun q => hb hby q
  have hml : c.maxLocals = 6 := hml0
  have hown : s.vm.findClass "java/lang/String" = some m.cls := findClass_of_methodNamed Bd.named
  have hnm := (name_of_methodNamed Bd.named Bd.method).1
  have X0 : Stand p l e ({ frames := 4, cells := 2, slots := 6, locals := 57 } : Room) s m #[(.ref ob), (.ref vc), (.int (0 : Int32)), (.int (2 : Int32)), .null] below meth c s₁ [] 0 0 := Stand.of_body Bd
  have e0 : s₁.heap = h0 := by rw [← hh, Bd.state]; rfl
  have N0 := Fr.nil n0
  refine OwnFin.entry (own_ef_si5_2 m ob vc (0 : Int32) (2 : Int32)) (fun P' hP' => ?_)
  have lt_ob := own_lt E.lt
  have lt_vc := own_lt Vc.lt
  obtain ⟨T1, X1, e1, st1⟩ := initO X0 hx hZ hown (own_w hw 12 rfl) (own_w hw 13 rfl) (own_w hw 14 rfl) e0 (g := (mkF m 1 #[VR ob, VR vc, VI (0:Int32), VI (2:Int32), .val .null, .unset] [(.ref ob)])) rfl (by rw [hml]; rfl) rfl (hD d2_1) (by decide) (W := 0) (by show 2 * 0 + _ ≤ _; exact Nat.le_of_eq rfl) (by decide)
  have hc5_4 : ¬ ((2:Int32) = (0:Int32)) := by decide
  obtain ⟨T2, X2, e2, st2⟩ := getS2 X1 hx hZ hown (host := "") (Or.inl (own_w hw 15 rfl)) Via.refl e1 (own_staK SCS O0) (g := (mkF m 27 #[VR ob, VR vc, VI (0:Int32), VI (2:Int32), .val .null, .unset] [])) rfl (hD d2_27)
  have hc30_6 : ¬ (zc = (0:Int32)) := hzc
  obtain ⟨_, _, ⟨T3, L3, k3, n3⟩, -, X3, ⟨Lc3, hQ3, l3, y3, z3⟩, st3⟩ := Jvm.LawKit.callS X2 hx (y := own_M4) hown (mvT hZ (own_w hw 16 rfl)) (mvT hZ (own_w hw 17 rfl)) (mvT hZ (own_w hw 18 rfl)) (mvT hZ (own_w hw 19 rfl)) (by decide) (backOf (W := 0) (own_cm3_2 l Z a0 hw [] vc kc cA cB h0 n0 (by omega) O0 SAD SHI SLO Vc rA rB) hZ (own_w hw 19 rfl) (own_w hw 18 rfl) (by decide) (by decide)) (g := (mkF m 36 #[VR ob, VR vc, VI (0:Int32), VI (2:Int32), .val .null, .unset] [(.int 2), (.int 0), (.ref vc)])) rfl (by rw [hml]; rfl) (argsL := [(.ref vc), (.int 0), (.int 2)]) (rest := []) (lenOf own_pd27 rfl) rfl (by show 2 * 0 + _ ≤ _; exact Nat.le_of_eq rfl) (hD d2_36) (fun _ _ => ⟨rfl, e2, (by decide : 0 + 2 ≤ _), (by decide : 0 + 6 ≤ _)⟩)
  dsimp only [Pt.U, Pt.locs, Pt.cells, Pt.slots] at X3 l3 y3 z3 st3 hQ3
  subst l3 y3 z3
  obtain ⟨t3, kt3, cd, bs, rfl, N3q, K3, ge3, Vt3, hcb⟩ := hQ3
  have N3 := Fr.app N0 N3q
  have sz4 : h0.size ≤ T3.heap.size := K3.1
  have lt_t3 := own_lt Vt3.lt
  obtain ⟨_, _, ⟨T5, L5, k5, n5⟩, -, X5, ⟨Lc5, hQ5, l5, y5, z5⟩, st5⟩ := Jvm.LawKit.callS X3 hx (y := own_M6) hown (mvT hZ (own_w hw 24 rfl)) (mvT hZ (own_w hw 25 rfl)) (mvT hZ (own_w hw 18 rfl)) (mvT hZ (own_w hw 26 rfl)) (by decide) (backOf (W := 1) (own_cfa2 l Z a0 hw [] t3 kt3 cd bs cA cB T3.heap n0 (by omega) Vt3 hcb) hZ (own_w hw 26 rfl) (own_w hw 18 rfl) (by decide) (by decide)) (g := (mkF m 45 #[VR ob, VR vc, VI (0:Int32), VI (2:Int32), .val .null, VR t3] [(.int 2), (.ref t3), (.ref ob)])) rfl (by rw [hml]; rfl) (argsL := [(.ref t3), (.int 2)]) (rest := [(.ref ob)]) (lenOf own_pd28 rfl) rfl (by show 2 * 0 + _ ≤ _; exact Nat.le_of_eq rfl) (hD d2_45) (fun _ _ => ⟨rfl, rfl, (by decide : 2 + 0 ≤ _), (by decide : 6 + 0 ≤ _)⟩)
  dsimp only [Pt.U, Pt.locs, Pt.cells, Pt.slots] at X5 l5 y5 z5 st5 hQ5
  subst l5 y5 z5
  obtain ⟨rfl, N5q, eh5⟩ := hQ5
  have N5 := Fr.app N3 N5q
  refine OwnFin.adv (B := T3.setTop (mkF m 45 #[VR ob, VR vc, VI (0:Int32), VI (2:Int32), .val .null, VR t3] [(.int 2), (.ref t3), (.ref ob)])) (fun _ k => XS.aloadN X0.here hx rfl (hD d2_0) rfl rfl (st1 _ (XS.iloadN X1.here hx rfl (hD d2_4) rfl (XS.ifYes X1.here hx rfl (pc0 := 5) (pc' := 27) rfl (hD d2_5) rfl ((if0 _ _).trans (feq hc5_4).2) (by decide) (by decide) (st2 _ (XS.ifNo X2.here hx rfl (hD d2_30) rfl ((if0 _ _).trans (feq hc30_6).1) (XS.aloadN X2.here hx rfl (hD d2_33) rfl rfl (XS.iloadN X2.here hx rfl (hD d2_34) rfl (XS.iloadN X2.here hx rfl (hD d2_35) rfl (st3 _ (XS.astore X3.here hx rfl (hD d2_39) rfl rfl (l' := #[VR ob, VR vc, VI (0:Int32), VI (2:Int32), .val .null, VR t3]) rfl (XS.aloadN X3.here hx rfl (hD d2_41) rfl rfl (XS.aload X3.here hx rfl (hD d2_42) rfl rfl (XS.iloadN X3.here hx rfl (hD d2_44) rfl k)))))))))))))) ?_
  have Fv6_1 := (E.keep K3)
  have Fv7_1 := (Fc.keep K3 nin0)
  obtain ⟨T8, h8, X8, e8, W8, st8⟩ := putFN X5 hx hZ hown (own_w hw 27 rfl) Via.refl eh5 Fv7_1 Fv6_1 (Or.inr ⟨(own_w hw 28 rfl), rfl, hnm⟩) (own_w hw 3 rfl) (ty := .byte) (v' := .int (nar .byte cd)) (by decide) rfl (fits_nar_byte _) (g := (mkF m 48 #[VR ob, VR vc, VI (0:Int32), VI (2:Int32), .val .null, VR t3] [(.int cd), (.ref ob)])) rfl rfl (hD d2_48)
  have Fw8 : Fld Z h8 ob "java/lang/String" "coder" "B" (.int (nar .byte cd)) := Fv7_1.same W8
  have sz9 : T3.heap.size ≤ h8.size := Nat.le_of_eq W8.size.symm
  have N8 := Fr.snoc X8 N5 (by omega : n0 ≤ ob)
  have Fv10_2 := (Fv6_1.wr W8)
  have Fv11_2 := ((Fv.keep K3 nin0).other W8 (Or.inr (own_sn36 hw)))
  obtain ⟨T12, h12, X12, e12, W12, st12⟩ := putF X8 hx hZ hown (host := "") (Or.inl (own_w hw 29 rfl)) Via.refl e8 Fv11_2 Fv10_2 (Or.inr ⟨(own_w hw 30 rfl), rfl, hnm⟩) (own_w hw 3 rfl) (ty := (.array .byte)) (by decide) rfl rfl (g := (mkF m 54 #[VR ob, VR vc, VI (0:Int32), VI (2:Int32), .val .null, VR t3] [(.ref t3), (.ref ob)])) rfl rfl (hD d2_54)
  have Fw12 : Fld Z h12 ob "java/lang/String" "value" "[B" (.ref t3) := Fv11_2.same W12
  have sz13 : h8.size ≤ h12.size := Nat.le_of_eq W12.size.symm
  have N12 := Fr.snoc X12 N8 (by omega : n0 ≤ ob)
  obtain ⟨fs, hr, hrun, hended, hW, hsame⟩ := X12.leave (v := none) (fun _ => rfl)
  refine OwnFin.adv (B := T12.setTop (mkF m 57 #[VR ob, VR vc, VI (0:Int32), VI (2:Int32), .val .null, VR t3] [])) (fun _ k => st5 _ (st8 _ (XS.aloadN X8.here hx rfl (hD d2_51) rfl rfl (XS.aload X8.here hx rfl (hD d2_52) rfl rfl (st12 _ k))))) ?_
  refine OwnFin.leaf hP' ⟨_, _, X12.returnOut hx Bd.returns (hD d2_57) hr, hrun, hended, _, _, rfl, ?_, ⟨_, rfl⟩, hW, hsame.mono (by decide) (by decide)⟩
  have Fv14_3 := (Fv10_2.wr W12)
  have Fv15_3 := (Fw8.other W12 (Or.inr (own_sn37 hw)))
  have Fv16_3 := ((Vt3.other W8 (own_ne (by omega))).other W12 (own_ne (by omega)))
  have Fcd : Fld Z h12 ob "java/lang/String" "coder" "B" (.int cd) := by
    have q := Fv15_3
    rw [own_nb01 (own_cd01 hcb)] at q
    exact q
  rw [show (T12.setFrames fs).heap = h12 from e12]
  exact ⟨rfl, N12, ((((Keep.refl h0 [ob]).trans K3 all0).wr W8 (Or.inl (List.mem_of_getElem? (i := 0) rfl))).wr W12 (Or.inl (List.mem_of_getElem? (i := 0) rfl))), t3, kt3, cd, bs, Fv14_3, Fw12, Fcd, Fv16_3, own_lt (a := ob) (b := h12.size) (by omega), own_lt (a := t3) (b := h12.size) (by omega), hcb, (by
        intro c hc
        simp only [List.mem_cons, List.not_mem_nil, or_false] at hc
        rcases hc with rfl | rfl
        · exact rA
        · exact rB), by simp⟩
theorem own_ef_si_2 (m : MethodId) (x0 : Addr) (x1 : Addr) : entryFrame m #[(.ref x0), (.ref x1)] 2 = mkF m 0 #[.val (.ref x0), .val (.ref x1)] [] := by first | (simp [entryFrame, mkF, argsToLocals, Value.category]; done) | rfl
def own_Q_si_2 (Z : State) (ob vc : Addr) (kc : ClassId) (zc : Int32) (u0 u1 : Value) (cA cB : Int32) (h0 : Heap) (n0 : Nat) (v : Option Value) (h : Heap) (L : List Loc) : Prop := v = none ∧ Fr n0 L ∧ Keep h0 h [ob] ∧ OwnS Z h h.size ob [cA, cB]
set_option maxRecDepth 65536 in
set_option maxHeartbeats 40000000 in
theorem own_si_2 (l : Launch) (Z : State) (a0 : Array Value) (hw : ∀ d ∈ tables_1, d.before a0 Z = true) (ws : List Jvm.Cond) (ob vc : Addr) (kc : ClassId) (zc : Int32) (u0 u1 : Value) (cA cB : Int32) (h0 : Heap) (n0 : Nat) (Z0 : n0 ≤ h0.size) (O0 : Old Z n0 h0) (SCS : Sta Z Z.heap "java/lang/String" "COMPACT_STRINGS" "Z" (.int zc)) (hzc : ¬ zc = 0) (SAD : Sta Z Z.heap "java/lang/StringUTF16" "$assertionsDisabled" "Z" (.int (1 : Int32))) (SHI : Sta Z Z.heap "java/lang/StringUTF16" "HI_BYTE_SHIFT" "I" (.int (0 : Int32))) (SLO : Sta Z Z.heap "java/lang/StringUTF16" "LO_BYTE_SHIFT" "I" (.int (8 : Int32))) (E : Exa Z h0 ob "java/lang/String") (Fv : Fld Z h0 ob "java/lang/String" "value" "[B" u0) (Fc : Fld Z h0 ob "java/lang/String" "coder" "B" u1) (g_ob : n0 ≤ ob) (Vc : Arv Z h0 vc kc .char (2 : Int32) [(.int cA), (.int cB)] (.int (0 : Int32))) (rA : ¬ cA < 0 ∧ ¬ (65535 : Int32) < cA) (rB : ¬ cB < 0 ∧ ¬ (65535 : Int32) < cB) :
    MetFree l own_M1 (head1 (Jvm.Cond.code own_M1 jdk_42_method_3_code 2 none :: ws) ({ frames := 5, cells := 2, slots := 6, locals := 74 } : Room)) (fun A0 U0 => A0 = #[(.ref ob), (.ref vc)] ∧ Z.Warmed39 U0.vm ∧ U0.heap = h0) (fun _ _ _ _ _ => True) (fun _ U0 o0 U1 => ∃ v0 L0, o0 = .returned v0 ∧ own_Q_si_2 Z ob vc kc zc u0 u1 cA cB h0 n0 v0 U1.heap L0 ∧ FrameEnd U0 o0 U1 L0 2 6) := by
  refine MetFree.of_bodySF (plainFor_of_name own_pn_java_lang_String) hisR ?_
  intro p e s m args below meth c s₁ Bd hml0 hP hK
  obtain ⟨rfl, hZ, hh⟩ := hP
  have hZs0 := hZ
  have hZs := hZ
  have hx := Bd.exec
  have hby := Bd.bytes
  have hD : ∀ {pc : Nat} {r : Except DecodeError (Instr × Nat)}, decode jdk_42_method_3_code pc = r → decode c.code pc = r := fun q => hb hby q
  have hml : c.maxLocals = 2 := hml0
  have hown : s.vm.findClass "java/lang/String" = some m.cls := findClass_of_methodNamed Bd.named
  have hnm := (name_of_methodNamed Bd.named Bd.method).1
  have X0 : Stand p l e ({ frames := 5, cells := 2, slots := 6, locals := 74 } : Room) s m #[(.ref ob), (.ref vc)] below meth c s₁ [] 0 0 := Stand.of_body Bd
  have e0 : s₁.heap = h0 := by rw [← hh, Bd.state]; rfl
  have N0 := Fr.nil n0
  refine OwnFin.entry (own_ef_si_2 m ob vc) (fun P' hP' => ?_)
  have lt_ob := own_lt E.lt
  have lt_vc := own_lt Vc.lt
  obtain ⟨cl1, Ar1, ck1, S1, M1, H1, G1⟩ := id Vc
  refine OwnFin.adv (B := s₁.setTop (mkF m 4 #[VR ob, VR vc] [(.ref vc), (.int 0), (.ref vc), (.ref ob)])) (fun _ k => XS.aloadN X0.here hx rfl (hD d1_0) rfl rfl (XS.aloadN X0.here hx rfl (hD d1_1) rfl rfl (XS.iconst X0.here hx rfl (hD d1_2) (XS.aloadN X0.here hx rfl (hD d1_3) rfl rfl k)))) ?_
  refine OwnFin.adv (B := s₁.setTop (mkF m 5 #[VR ob, VR vc] [(.int 2), (.int 0), (.ref vc), (.ref ob)])) (fun _ k => X0.arraylength hx (by rw [e0]; exact Ar1.1) (State.isArrayOf_alike hZ.alike Ar1.2.1) (g := (mkF m 4 #[VR ob, VR vc] [(.ref vc), (.int 0), (.ref vc), (.ref ob)])) rfl rfl (hD d1_4) _ (by rw [len_of S1 M1]; exact k)) ?_
  obtain ⟨_, _, ⟨T2, L2, k2, n2⟩, -, X2, ⟨Lc2, hQ2, l2, y2, z2⟩, st2⟩ := X0.specialBack hx (y := own_M2) rfl hown (mvT hZ (own_w hw 8 rfl)) (mvT hZ (own_w hw 9 rfl)) (mvT hZ (own_w hw 11 rfl)) (by decide) (backOf (W := 0) (own_si5_2 l Z a0 hw [] ob vc kc zc _ _ cA cB h0 n0 (by omega) O0 SCS hzc SAD SHI SLO E Fv Fc (by omega) Vc rA rB) hZ (own_w hw 11 rfl) (own_w hw 4 rfl) (by decide) (by decide)) (g := (mkF m 6 #[VR ob, VR vc] [.null, (.int 2), (.int 0), (.ref vc), (.ref ob)])) rfl (by rw [hml]; rfl) (Steps.refl _) (a := ob) (argsL := [(.ref vc), (.int 0), (.int 2), .null]) (rest := []) (lenOf own_pd29 rfl) rfl (by show 2 * 0 + _ ≤ _; exact Nat.le_of_eq rfl) (hD d1_6) (fun _ _ => ⟨rfl, e0, (by decide : 0 + 2 ≤ _), (by decide : 0 + 6 ≤ _)⟩)
  dsimp only [Pt.U, Pt.locs, Pt.cells, Pt.slots] at X2 l2 y2 z2 st2 hQ2
  subst l2 y2 z2
  obtain ⟨rfl, N2q, K2, Fs2⟩ := hQ2
  have N2 := Fr.app N0 N2q
  have sz3 : h0.size ≤ T2.heap.size := K2.1
  obtain ⟨fs, hr, hrun, hended, hW, hsame⟩ := X2.leave (v := none) (fun _ => rfl)
  refine OwnFin.adv (B := T2.setTop (mkF m 9 #[VR ob, VR vc] [])) (fun _ k => XS.aconstNull X0.here hx rfl (hD d1_5) (st2.trans k)) ?_
  refine OwnFin.leaf hP' ⟨_, _, X2.returnOut hx Bd.returns (hD d1_9) hr, hrun, hended, _, _, rfl, ?_, ⟨_, rfl⟩, hW, hsame.mono (by decide) (by decide)⟩
  rw [show (T2.setFrames fs).heap = T2.heap from rfl]
  exact ⟨rfl, N2, ((Keep.refl h0 [ob]).trans K2 (allS (Or.inl (List.mem_of_getElem? (i := 0) rfl)) all0)), Fs2⟩
theorem own_btL (g : Int32) : OwnLe (if g = 0 then [(102 : Int32), (97 : Int32), (108 : Int32), (115 : Int32), (101 : Int32)] else [(116 : Int32), (114 : Int32), (117 : Int32), (101 : Int32)]) 5 := by
  unfold OwnLe
  split <;> decide
theorem own_tAL (g : Int32) : OwnLe (if g = 0 then ([] : List Int32) else [(91 : Int32)]) 1 := by
  unfold OwnLe
  split <;> decide
theorem own_m1 (T : List Int32) (x : Int32) : Int32.ofNat (T ++ [x]).length - (1 : Int32) = Int32.ofNat T.length := by
  rw [own_lenA]; exact own_sub (a := T.length + 1) (b := 1) (by omega)
theorem own_last (T : List Int32) (x : Int32) : (T ++ [x]).getD T.length 0 = x := by simp [List.getD_eq_getElem?_getD]
theorem own_hd (T X : List Int32) (x : Int32) : ((T ++ [x]) ++ X).getD 0 0 = (T ++ [x]).getD 0 0 := by
  simp only [List.getD_eq_getElem?_getD]
  rw [List.getElem?_append_left (by simp)]
theorem own_pd30 : parseMethodDescriptor "()[B" = some ⟨[], some (.array .byte)⟩ := by decide +kernel
theorem own_pd31 : parseMethodDescriptor "([C)V" = some ⟨[(.array .char)], none⟩ := by decide +kernel
theorem own_ef_rm0 (m : MethodId) (x0 : Int32) (x1 : Int32) (x2 : Int32) : entryFrame m #[(.int x0), (.int x1), (.int x2)] maxLocals = mkF m 0 #[.val (.int x0), .val (.int x1), .val (.int x2), .unset, .unset, .unset, .unset, .unset, .unset, .unset, .unset, .unset, .unset, .unset, .unset, .unset, .unset, .unset, .unset] [] := by first | (simp [entryFrame, mkF, argsToLocals, Value.category, maxLocals]; done) | rfl
def own_Q_rm0 (Z : State) (va vb vf zc : Int32) (fm : Value) (hxa : Addr) (kx : ClassId) (ta fa : Addr) (kt kf : ClassId) (h0 : Heap) (n0 : Nat) (v : Option Value) (h : Heap) (L : List Loc) : Prop := v = some (.int (1 : Int32)) ∧ Fr n0 L
set_option maxRecDepth 65536 in
set_option maxHeartbeats 40000000 in
theorem own_rm0 (l : Launch) (Z : State) (a0 : Array Value) (hw : ∀ d ∈ tables_1, d.before a0 Z = true) (ws : List Jvm.Cond) (va vb vf zc : Int32) (fm : Value) (hxa : Addr) (kx : ClassId) (ta fa : Addr) (kt kf : ClassId) (h0 : Heap) (n0 : Nat) (Z0 : n0 ≤ h0.size) (O0 : Old Z n0 h0) (SCS : Sta Z Z.heap "java/lang/String" "COMPACT_STRINGS" "Z" (.int zc)) (hzc : ¬ zc = 0) (SFM : Sta Z Z.heap "jdk/internal/util/Preconditions" "SIOOBE_FORMATTER" "Ljava/util/function/BiFunction;" fm) (rfm : fm.isRef = true) (SAD : Sta Z Z.heap "java/lang/StringUTF16" "$assertionsDisabled" "Z" (.int (1 : Int32))) (SHI : Sta Z Z.heap "java/lang/StringUTF16" "HI_BYTE_SHIFT" "I" (.int (0 : Int32))) (SLO : Sta Z Z.heap "java/lang/StringUTF16" "LO_BYTE_SHIFT" "I" (.int (8 : Int32))) (Sh : Sta Z Z.heap "tramline/routes/JsonWriter" "HEX" "[B" (.ref hxa)) (Vh : Arv Z Z.heap hxa kx .byte (16 : Int32) (own_hexT.map Value.int) (.int (0 : Int32))) (St : Sta Z Z.heap "tramline/routes/JsonWriter" "TRUE" "[B" (.ref ta)) (Sf : Sta Z Z.heap "tramline/routes/JsonWriter" "FALSE" "[B" (.ref fa)) (Vt : Arv Z Z.heap ta kt .byte (Int32.ofNat [(116 : Int32), (114 : Int32), (117 : Int32), (101 : Int32)].length) ([(116 : Int32), (114 : Int32), (117 : Int32), (101 : Int32)].map Value.int) (.int (0 : Int32))) (Vf : Arv Z Z.heap fa kf .byte (Int32.ofNat [(102 : Int32), (97 : Int32), (108 : Int32), (115 : Int32), (101 : Int32)].length) ([(102 : Int32), (97 : Int32), (108 : Int32), (115 : Int32), (101 : Int32)].map Value.int) (.int (0 : Int32))) :
    MetFree l x (head1 (Jvm.Cond.code x code maxLocals ret :: ws) room_1) (fun A0 U0 => A0 = #[(.int va), (.int vb), (.int vf)] ∧ Z.Warmed39 U0.vm ∧ U0.heap = h0) (fun _ _ _ _ _ => True) (fun _ U0 o0 U1 => ∃ v0 L0, o0 = .returned v0 ∧ own_Q_rm0 Z va vb vf zc fm hxa kx ta fa kt kf h0 n0 v0 U1.heap L0 ∧ FrameEnd U0 o0 U1 L0 room_1.cells room_1.slots) := by
  refine MetFree.of_bodySF (plainFor_of_name own_pn_tramline_routes_JsonWriterToByteArrayPinLaw) hisR ?_
  intro p e s m args below meth c s₁ Bd hml0 hP hK
  obtain ⟨rfl, hZ, hh⟩ := hP
  have hZs0 := hZ
  have hZs := hZ
  have hx := Bd.exec
  have hby := Bd.bytes
  have hD : ∀ {pc : Nat} {r : Except DecodeError (Instr × Nat)}, decode code pc = r → decode c.code pc = r := fun q => hb hby q
  have hml : c.maxLocals = 19 := hml0
  have hown : s.vm.findClass "tramline/routes/JsonWriterToByteArrayPinLaw" = some m.cls := findClass_of_methodNamed Bd.named
  have hnm := (name_of_methodNamed Bd.named Bd.method).1
  have X0 : Stand p l e room_1 s m #[(.int va), (.int vb), (.int vf)] below meth c s₁ [] 0 0 := Stand.of_body Bd
  have e0 : s₁.heap = h0 := by rw [← hh, Bd.state]; rfl
  have N0 := Fr.nil n0
  refine OwnFin.entry (own_ef_rm0 m va vb vf) (fun P' hP' => ?_)
  obtain ⟨cA, ecA⟩ : ∃ z, z = (va &&& (65535:Int32)) := ⟨_, rfl⟩
  have rA := own_m16 va
  rw [← ecA] at rA
  refine OwnFin.adv (B := s₁.setTop (mkF m 5 #[VI va, VI vb, VI vf, .unset, .unset, .unset, .unset, .unset, .unset, .unset, .unset, .unset, .unset, .unset, .unset, .unset, .unset, .unset, .unset] [(.int ((va &&& (65535:Int32)).toUInt32.toUInt16.toUInt32.toInt32))])) (fun _ k => XS.iloadN X0.here hx rfl (hD at_0) rfl (X0.ldcInt hx hown (mvT hZ (own_w hw 0 rfl)) (g := (mkF m 1 #[VI va, VI vb, VI vf, .unset, .unset, .unset, .unset, .unset, .unset, .unset, .unset, .unset, .unset, .unset, .unset, .unset, .unset, .unset, .unset] [(.int va)])) rfl (hD at_1) _ (XS.iand X0.here hx rfl (hD at_3) rfl (XS.i2c X0.here hx rfl (hD at_4) rfl k)))) ?_
  rw [show (((va &&& (65535:Int32)).toUInt32.toUInt16.toUInt32.toInt32) : Int32) = cA from by rw [← ecA]; exact own_i2cC rA]
  obtain ⟨cB, ecB⟩ : ∃ z, z = (vb &&& (65535:Int32)) := ⟨_, rfl⟩
  have rB := own_m16 vb
  rw [← ecB] at rB
  refine OwnFin.adv (B := s₁.setTop (mkF m 11 #[VI va, VI vb, VI vf, VI cA, .unset, .unset, .unset, .unset, .unset, .unset, .unset, .unset, .unset, .unset, .unset, .unset, .unset, .unset, .unset] [(.int ((vb &&& (65535:Int32)).toUInt32.toUInt16.toUInt32.toInt32))])) (fun _ k => XS.istoreN X0.here hx rfl (hD at_5) rfl (l' := #[VI va, VI vb, VI vf, VI cA, .unset, .unset, .unset, .unset, .unset, .unset, .unset, .unset, .unset, .unset, .unset, .unset, .unset, .unset, .unset]) rfl (XS.iloadN X0.here hx rfl (hD at_6) rfl (X0.ldcInt hx hown (mvT hZ (own_w hw 0 rfl)) (g := (mkF m 7 #[VI va, VI vb, VI vf, VI cA, .unset, .unset, .unset, .unset, .unset, .unset, .unset, .unset, .unset, .unset, .unset, .unset, .unset, .unset, .unset] [(.int vb)])) rfl (hD at_7) _ (XS.iand X0.here hx rfl (hD at_9) rfl (XS.i2c X0.here hx rfl (hD at_10) rfl k))))) ?_
  rw [show (((vb &&& (65535:Int32)).toUInt32.toUInt16.toUInt32.toInt32) : Int32) = cB from by rw [← ecB]; exact own_i2cC rB]
  refine OwnFin.adv (B := s₁.setTop (mkF m 16 #[VI va, VI vb, VI vf, VI cA, VI cB, .unset, .unset, .unset, .unset, .unset, .unset, .unset, .unset, .unset, .unset, .unset, .unset, .unset, .unset] [(.int (vf &&& (1:Int32)))])) (fun _ k => XS.istore X0.here hx rfl (hD at_11) rfl (l' := #[VI va, VI vb, VI vf, VI cA, VI cB, .unset, .unset, .unset, .unset, .unset, .unset, .unset, .unset, .unset, .unset, .unset, .unset, .unset, .unset]) rfl (XS.iloadN X0.here hx rfl (hD at_13) rfl (XS.iconst X0.here hx rfl (hD at_14) (XS.iand X0.here hx rfl (hD at_15) rfl k)))) ?_
  have J24 : ∀ (bA : Int32) (TJ : State) (LJ : List Loc) (XJ : Stand p l e room_1 s m #[(.int va), (.int vb), (.int vf)] below meth c TJ LJ 0 0) (eJ : TJ.heap = h0) (NJ : Fr n0 LJ), OwnFin p.tables e below P' (TJ.setTop (mkF m 24 #[VI va, VI vb, VI vf, VI cA, VI cB, .unset, .unset, .unset, .unset, .unset, .unset, .unset, .unset, .unset, .unset, .unset, .unset, .unset, .unset] [(.int bA)])) := by
   intro bA TJ LJ XJ eJ NJ 
   refine OwnFin.adv (B := TJ.setTop (mkF m 29 #[VI va, VI vb, VI vf, VI cA, VI cB, VI bA, .unset, .unset, .unset, .unset, .unset, .unset, .unset, .unset, .unset, .unset, .unset, .unset, .unset] [(.int (vf &&& (2:Int32)))])) (fun _ k => XS.istore XJ.here hx rfl (hD at_24) rfl (l' := #[VI va, VI vb, VI vf, VI cA, VI cB, VI bA, .unset, .unset, .unset, .unset, .unset, .unset, .unset, .unset, .unset, .unset, .unset, .unset, .unset]) rfl (XS.iloadN XJ.here hx rfl (hD at_26) rfl (XS.iconst XJ.here hx rfl (hD at_27) (XS.iand XJ.here hx rfl (hD at_28) rfl k)))) ?_
   have J37 : ∀ (bB : Int32) (TJ : State) (LJ : List Loc) (XJ : Stand p l e room_1 s m #[(.int va), (.int vb), (.int vf)] below meth c TJ LJ 0 0) (eJ : TJ.heap = h0) (NJ : Fr n0 LJ), OwnFin p.tables e below P' (TJ.setTop (mkF m 37 #[VI va, VI vb, VI vf, VI cA, VI cB, VI bA, .unset, .unset, .unset, .unset, .unset, .unset, .unset, .unset, .unset, .unset, .unset, .unset, .unset] [(.int bB)])) := by
    intro bB TJ LJ XJ eJ NJ 
    refine OwnFin.adv (B := TJ.setTop (mkF m 42 #[VI va, VI vb, VI vf, VI cA, VI cB, VI bA, VI bB, .unset, .unset, .unset, .unset, .unset, .unset, .unset, .unset, .unset, .unset, .unset, .unset] [(.int (vf &&& (4:Int32)))])) (fun _ k => XS.istore XJ.here hx rfl (hD at_37) rfl (l' := #[VI va, VI vb, VI vf, VI cA, VI cB, VI bA, VI bB, .unset, .unset, .unset, .unset, .unset, .unset, .unset, .unset, .unset, .unset, .unset, .unset]) rfl (XS.iloadN XJ.here hx rfl (hD at_39) rfl (XS.iconst XJ.here hx rfl (hD at_40) (XS.iand XJ.here hx rfl (hD at_41) rfl k)))) ?_
    have J50 : ∀ (bC : Int32) (TJ : State) (LJ : List Loc) (XJ : Stand p l e room_1 s m #[(.int va), (.int vb), (.int vf)] below meth c TJ LJ 0 0) (eJ : TJ.heap = h0) (NJ : Fr n0 LJ), OwnFin p.tables e below P' (TJ.setTop (mkF m 50 #[VI va, VI vb, VI vf, VI cA, VI cB, VI bA, VI bB, .unset, .unset, .unset, .unset, .unset, .unset, .unset, .unset, .unset, .unset, .unset, .unset] [(.int bC)])) := by
     intro bC TJ LJ XJ eJ NJ 
     refine OwnFin.adv (B := TJ.setTop (mkF m 54 #[VI va, VI vb, VI vf, VI cA, VI cB, VI bA, VI bB, VI bC, .unset, .unset, .unset, .unset, .unset, .unset, .unset, .unset, .unset, .unset, .unset] [(.int bC)])) (fun _ k => XS.istore XJ.here hx rfl (hD at_50) rfl (l' := #[VI va, VI vb, VI vf, VI cA, VI cB, VI bA, VI bB, VI bC, .unset, .unset, .unset, .unset, .unset, .unset, .unset, .unset, .unset, .unset, .unset]) rfl (XS.iload XJ.here hx rfl (hD at_52) rfl k)) ?_
     have J90 : ∀ (ca8 so : Addr) (cl : List Int32) (hJ : Heap) (TJ : State) (LJ : List Loc) (XJ : Stand p l e room_1 s m #[(.int va), (.int vb), (.int vf)] below meth c TJ LJ 4 16) (eJ : TJ.heap = hJ) (NJ : Fr n0 LJ) (KJ : Keep h0 hJ []) (hcl : cl = (if bC = 0 then [cA, cB] else [cA])) (Sj : OwnS Z hJ hJ.size so cl) (gso : h0.size ≤ so), OwnFin p.tables e below P' (TJ.setTop (mkF m 90 #[VI va, VI vb, VI vf, VI cA, VI cB, VI bA, VI bB, VI bC, VR ca8, .unset, .unset, .unset, .unset, .unset, .unset, .unset, .unset, .unset, .unset] [(.ref so)])) := by
      intro ca8 so cl hJ TJ LJ XJ eJ NJ KJ hcl Sj gso
      have szJ : h0.size ≤ hJ.size := KJ.1
      have OJ : Old Z n0 hJ := O0.keep KJ all0
      obtain ⟨lim, hlm⟩ : ∃ z, z = hJ.size := ⟨_, rfl⟩
      rw [← hlm] at Sj
      have hcs : cl.length ≤ 4 := by rw [hcl]; split <;> simp
      obtain ⟨T4, h4, k4, X4, e4, E4, A4, st4⟩ := newP XJ hx hZ (own_w hw 20 rfl) eJ (g := (mkF m 94 #[VI va, VI vb, VI vf, VI cA, VI cB, VI bA, VI bB, VI bC, VR ca8, VR so, .unset, .unset, .unset, .unset, .unset, .unset, .unset, .unset, .unset] [(.int 24)])) rfl (hD at_94) rfl (by decide) (cap := 24) (by decide) (by decide) (by decide) (by decide)
      obtain ⟨b4, g4⟩ : ∃ z, z = hJ.size := ⟨_, rfl⟩
      rw [← g4] at A4 st4
      have sz5 : hJ.size ≤ h4.size := E4.1
      have lt_b4 := own_lt A4.lt
      have V4 : Arv Z h4 b4 k4 .byte (24:Int32) (([] : List Int32).map Value.int) (.int 0) := Arv.new A4 (by decide)
      have lb4 : OwnLe ([] : List Int32) 0 := Nat.le_refl 0
      obtain ⟨ea, hea⟩ : ∃ z, z = b4 := ⟨_, rfl⟩
      obtain ⟨ke, hke⟩ : ∃ z, z = k4 := ⟨_, rfl⟩
      have Vn6 := V4
      rw [← hea, ← hke] at Vn6
      have gea : h0.size ≤ ea := by omega
      have lea : lim ≤ ea := by omega
      have lt_ea := own_lt Vn6.lt
      refine OwnFin.adv (B := T4.setTop (mkF m 96 #[VI va, VI vb, VI vf, VI cA, VI cB, VI bA, VI bB, VI bC, VR ca8, VR so, .unset, .unset, .unset, .unset, .unset, .unset, .unset, .unset, .unset] [(.ref b4)])) (fun _ k => XS.astore XJ.here hx rfl (hD at_90) rfl rfl (l' := #[VI va, VI vb, VI vf, VI cA, VI cB, VI bA, VI bB, VI bC, VR ca8, VR so, .unset, .unset, .unset, .unset, .unset, .unset, .unset, .unset, .unset]) rfl (XS.bipush XJ.here hx rfl (hD at_92) (st4 _ k))) ?_
      rw [← hea]
      refine OwnFin.adv (B := T4.setTop (mkF m 103 #[VI va, VI vb, VI vf, VI cA, VI cB, VI bA, VI bB, VI bC, VR ca8, VR so, VR ea, VI (0:Int32), .unset, .unset, .unset, .unset, .unset, .unset, .unset] [(.int bA)])) (fun _ k => XS.astore X4.here hx rfl (hD at_96) rfl rfl (l' := #[VI va, VI vb, VI vf, VI cA, VI cB, VI bA, VI bB, VI bC, VR ca8, VR so, VR ea, .unset, .unset, .unset, .unset, .unset, .unset, .unset, .unset]) rfl (XS.iconst X4.here hx rfl (hD at_98) (XS.istore X4.here hx rfl (hD at_99) rfl (l' := #[VI va, VI vb, VI vf, VI cA, VI cB, VI bA, VI bB, VI bC, VR ca8, VR so, VR ea, VI (0:Int32), .unset, .unset, .unset, .unset, .unset, .unset, .unset]) rfl (XS.iload X4.here hx rfl (hD at_101) rfl k)))) ?_
      have J119 : ∀ (tA : List Int32) (hJ : Heap) (TJ : State) (LJ : List Loc) (XJ : Stand p l e room_1 s m #[(.int va), (.int vb), (.int vf)] below meth c TJ LJ 5 40) (eJ : TJ.heap = hJ) (NJ : Fr n0 LJ) (KJ : Keep h0 hJ []) (hT1 : tA = (if bA = 0 then ([] : List Int32) else [(91:Int32)])) (Sj : OwnS Z hJ lim so cl) (Vj : Arv Z hJ ea ke .byte (24:Int32) ((tA).map Value.int) (.int 0)), OwnFin p.tables e below P' (TJ.setTop (mkF m 119 #[VI va, VI vb, VI vf, VI cA, VI cB, VI bA, VI bB, VI bC, VR ca8, VR so, VR ea, VI (Int32.ofNat (tA).length), .unset, .unset, .unset, .unset, .unset, .unset, .unset] [])) := by
       intro tA hJ TJ LJ XJ eJ NJ KJ hT1 Sj Vj
       have szJ : h0.size ≤ hJ.size := KJ.1
       have OJ : Old Z n0 hJ := O0.keep KJ all0
       have lb_tA : OwnLe tA 1 := by rw [hT1]; exact own_tAL bA
       have lt_ea := own_lt Vj.lt
       obtain ⟨cl7, Ar7, ck7, S7, M7, H7, G7⟩ := id Vj
       have hin7 := own_in24 (n := (tA).length) S7 (own_leI lb_tA (by decide))
       obtain ⟨T7, h7, X7, e7, W7, st7⟩ := stB XJ hx hZ eJ Ar7 (j := (Int32.ofNat (tA).length)) hin7 (g := (mkF m 125 #[VI va, VI vb, VI vf, VI cA, VI cB, VI bA, VI bB, VI bC, VR ca8, VR so, VR ea, VI (Int32.ofNat (tA).length), .unset, .unset, .unset, .unset, .unset, .unset, .unset] [(.int 34), (.int (Int32.ofNat (tA).length)), (.ref ea)])) rfl rfl (hD at_125)
       have V7 : Arv Z h7 ea ke .byte (24:Int32) (((tA ++ [(34:Int32)])).map Value.int) (.int 0) := own_push Vj W7 (by decide) (own_leL lb_tA (by decide))
       have lb7 : OwnLe (tA ++ [(34:Int32)]) 2 := own_leS lb_tA
       have sz8 : hJ.size ≤ h7.size := Nat.le_of_eq W7.size.symm
       have N7 := Fr.snoc X7 NJ (by omega : n0 ≤ ea)
       refine OwnFin.adv (B := T7.setTop (mkF m 132 #[VI va, VI vb, VI vf, VI cA, VI cB, VI bA, VI bB, VI bC, VR ca8, VR so, VR ea, VI ((Int32.ofNat (tA).length) + (1:Int32)), .unset, .unset, .unset, .unset, .unset, .unset, .unset] [])) (fun _ k => XS.aload XJ.here hx rfl (hD at_119) rfl rfl (XS.iload XJ.here hx rfl (hD at_121) rfl (XS.bipush XJ.here hx rfl (hD at_123) (st7 _ (XS.iload X7.here hx rfl (hD at_126) rfl (XS.iconst X7.here hx rfl (hD at_128) (XS.iadd X7.here hx rfl (hD at_129) rfl (XS.istore X7.here hx rfl (hD at_130) rfl (l' := #[VI va, VI vb, VI vf, VI cA, VI cB, VI bA, VI bB, VI bC, VR ca8, VR so, VR ea, VI ((Int32.ofNat (tA).length) + (1:Int32)), .unset, .unset, .unset, .unset, .unset, .unset, .unset]) rfl k)))))))) ?_
       rw [show (((Int32.ofNat (tA).length) + (1:Int32)) : Int32) = (Int32.ofNat ((tA ++ [(34:Int32)])).length) from own_pk (by simp)]
       obtain ⟨_, _, ⟨T9, L9, k9, n9⟩, -, X9, ⟨Lc9, hQ9, l9, y9, z9⟩, st9⟩ := Jvm.LawKit.callS X7 hx (y := own_M7) hown (mvT hZ (own_w hw 31 rfl)) (mvT hZ (own_w hw 32 rfl)) (mvT hZ (own_w hw 33 rfl)) (mvT hZ (own_w hw 34 rfl)) (by decide) (backOf (W := 0) (own_enc0 l Z a0 hw [] ea ke ((tA ++ [(34:Int32)])) cA h7 n0 (by omega) V7 (by omega) (own_leM lb7 (by decide))) hZ (own_w hw 34 rfl) (own_w hw 33 rfl) (by decide) (by decide)) (g := (mkF m 137 #[VI va, VI vb, VI vf, VI cA, VI cB, VI bA, VI bB, VI bC, VR ca8, VR so, VR ea, VI (Int32.ofNat ((tA ++ [(34:Int32)])).length), .unset, .unset, .unset, .unset, .unset, .unset, .unset] [(.int cA), (.int (Int32.ofNat ((tA ++ [(34:Int32)])).length)), (.ref ea)])) rfl (by rw [hml]; rfl) (argsL := [(.ref ea), (.int (Int32.ofNat ((tA ++ [(34:Int32)])).length)), (.int cA)]) (rest := []) (lenOf own_pd21 rfl) rfl (by show 2 * 0 + _ ≤ _; exact Nat.le_of_eq rfl) (hD at_137) (fun _ _ => ⟨rfl, e7, (by decide : 5 + 0 ≤ _), (by decide : 40 + 0 ≤ _)⟩)
       dsimp only [Pt.U, Pt.locs, Pt.cells, Pt.slots] at X9 l9 y9 z9 st9 hQ9
       subst l9 y9 z9
       obtain ⟨rfl, N9q, K9, Ve9⟩ := hQ9
       have N9 := Fr.app N7 N9q
       have sz10 : h7.size ≤ T9.heap.size := K9.1
       refine OwnFin.adv (B := T9.setTop (mkF m 144 #[VI va, VI vb, VI vf, VI cA, VI cB, VI bA, VI bB, VI bC, VR ca8, VR so, VR ea, VI (Int32.ofNat (((tA ++ [(34:Int32)]) ++ own_enc cA)).length), .unset, .unset, .unset, .unset, .unset, .unset, .unset] [(.int bC)])) (fun _ k => XS.aload X7.here hx rfl (hD at_132) rfl rfl (XS.iload X7.here hx rfl (hD at_134) rfl (XS.iloadN X7.here hx rfl (hD at_136) rfl (st9 _ (XS.istore X9.here hx rfl (hD at_140) rfl (l' := #[VI va, VI vb, VI vf, VI cA, VI cB, VI bA, VI bB, VI bC, VR ca8, VR so, VR ea, VI (Int32.ofNat (((tA ++ [(34:Int32)]) ++ own_enc cA)).length), .unset, .unset, .unset, .unset, .unset, .unset, .unset]) rfl (XS.iload X9.here hx rfl (hD at_142) rfl k)))))) ?_
       have J158 : ∀ (tB : List Int32) (hJ : Heap) (TJ : State) (LJ : List Loc) (XJ : Stand p l e room_1 s m #[(.int va), (.int vb), (.int vf)] below meth c TJ LJ 5 40) (eJ : TJ.heap = hJ) (NJ : Fr n0 LJ) (KJ : Keep h0 hJ []) (hT2 : tB = (if bC = 0 then ((tA ++ [(34:Int32)]) ++ own_enc cA) ++ own_enc cB else ((tA ++ [(34:Int32)]) ++ own_enc cA))) (Sj : OwnS Z hJ lim so cl) (Vj : Arv Z hJ ea ke .byte (24:Int32) ((tB).map Value.int) (.int 0)), OwnFin p.tables e below P' (TJ.setTop (mkF m 158 #[VI va, VI vb, VI vf, VI cA, VI cB, VI bA, VI bB, VI bC, VR ca8, VR so, VR ea, VI (Int32.ofNat (tB).length), .unset, .unset, .unset, .unset, .unset, .unset, .unset] [])) := by
        intro tB hJ TJ LJ XJ eJ NJ KJ hT2 Sj Vj
        have szJ : h0.size ≤ hJ.size := KJ.1
        have OJ : Old Z n0 hJ := O0.keep KJ all0
        have lb_tB : OwnLe tB 14 := by rw [hT2]; exact own_leIf (own_leA (own_leA (own_leS lb_tA) (own_encL cA)) (own_encL cB)) (own_leM (own_leA (own_leS lb_tA) (own_encL cA)) (by decide))
        have lt_ea := own_lt Vj.lt
        obtain ⟨cl11, Ar11, ck11, S11, M11, H11, G11⟩ := id Vj
        have hin11 := own_in24 (n := (tB).length) S11 (own_leI lb_tB (by decide))
        obtain ⟨T11, h11, X11, e11, W11, st11⟩ := stB XJ hx hZ eJ Ar11 (j := (Int32.ofNat (tB).length)) hin11 (g := (mkF m 164 #[VI va, VI vb, VI vf, VI cA, VI cB, VI bA, VI bB, VI bC, VR ca8, VR so, VR ea, VI (Int32.ofNat (tB).length), .unset, .unset, .unset, .unset, .unset, .unset, .unset] [(.int 34), (.int (Int32.ofNat (tB).length)), (.ref ea)])) rfl rfl (hD at_164)
        have V11 : Arv Z h11 ea ke .byte (24:Int32) (((tB ++ [(34:Int32)])).map Value.int) (.int 0) := own_push Vj W11 (by decide) (own_leL lb_tB (by decide))
        have lb11 : OwnLe (tB ++ [(34:Int32)]) 15 := own_leS lb_tB
        have sz12 : hJ.size ≤ h11.size := Nat.le_of_eq W11.size.symm
        have N11 := Fr.snoc X11 NJ (by omega : n0 ≤ ea)
        refine OwnFin.adv (B := T11.setTop (mkF m 171 #[VI va, VI vb, VI vf, VI cA, VI cB, VI bA, VI bB, VI bC, VR ca8, VR so, VR ea, VI ((Int32.ofNat (tB).length) + (1:Int32)), .unset, .unset, .unset, .unset, .unset, .unset, .unset] [])) (fun _ k => XS.aload XJ.here hx rfl (hD at_158) rfl rfl (XS.iload XJ.here hx rfl (hD at_160) rfl (XS.bipush XJ.here hx rfl (hD at_162) (st11 _ (XS.iload X11.here hx rfl (hD at_165) rfl (XS.iconst X11.here hx rfl (hD at_167) (XS.iadd X11.here hx rfl (hD at_168) rfl (XS.istore X11.here hx rfl (hD at_169) rfl (l' := #[VI va, VI vb, VI vf, VI cA, VI cB, VI bA, VI bB, VI bC, VR ca8, VR so, VR ea, VI ((Int32.ofNat (tB).length) + (1:Int32)), .unset, .unset, .unset, .unset, .unset, .unset, .unset]) rfl k)))))))) ?_
        rw [show (((Int32.ofNat (tB).length) + (1:Int32)) : Int32) = (Int32.ofNat ((tB ++ [(34:Int32)])).length) from own_pk (by simp)]
        refine OwnFin.adv (B := T11.setTop (mkF m 177 #[VI va, VI vb, VI vf, VI cA, VI cB, VI bA, VI bB, VI bC, VR ca8, VR so, VR ea, VI (Int32.ofNat ((tB ++ [(34:Int32)])).length), VI (Int32.ofNat ((tB ++ [(34:Int32)])).length), .unset, .unset, .unset, .unset, .unset, .unset] [(.int bA)])) (fun _ k => XS.iload X11.here hx rfl (hD at_171) rfl (XS.istore X11.here hx rfl (hD at_173) rfl (l' := #[VI va, VI vb, VI vf, VI cA, VI cB, VI bA, VI bB, VI bC, VR ca8, VR so, VR ea, VI (Int32.ofNat ((tB ++ [(34:Int32)])).length), VI (Int32.ofNat ((tB ++ [(34:Int32)])).length), .unset, .unset, .unset, .unset, .unset, .unset]) rfl (XS.iload X11.here hx rfl (hD at_175) rfl k))) ?_
        have J303 : ∀ (tD : List Int32) (hJ : Heap) (TJ : State) (LJ : List Loc) (XJ : Stand p l e room_1 s m #[(.int va), (.int vb), (.int vf)] below meth c TJ LJ 5 40) (eJ : TJ.heap = hJ) (NJ : Fr n0 LJ) (KJ : Keep h0 hJ []) (hT4 : tD = (if bA = 0 then (tB ++ [(34:Int32)]) else (((tB ++ [(34:Int32)]) ++ [(44:Int32)]) ++ (if bB = 0 then [(102:Int32), (97:Int32), (108:Int32), (115:Int32), (101:Int32)] else [(116:Int32), (114:Int32), (117:Int32), (101:Int32)])) ++ [(93:Int32)])) (Sj : OwnS Z hJ lim so cl) (Vj : Arv Z hJ ea ke .byte (24:Int32) ((tD).map Value.int) (.int 0)), OwnFin p.tables e below P' (TJ.setTop (mkF m 303 #[VI va, VI vb, VI vf, VI cA, VI cB, VI bA, VI bB, VI bC, VR ca8, VR so, VR ea, VI (Int32.ofNat (tD).length), VI (Int32.ofNat ((tB ++ [(34:Int32)])).length), .unset, .unset, .unset, .unset, .unset, .unset] [])) := by
         intro tD hJ TJ LJ XJ eJ NJ KJ hT4 Sj Vj
         have szJ : h0.size ≤ hJ.size := KJ.1
         have OJ : Old Z n0 hJ := O0.keep KJ all0
         have lb_tD : OwnLe tD 22 := by rw [hT4]; exact own_leIf (own_leM (own_leS lb_tB) (by decide)) (own_leS (own_leA (own_leS (own_leS lb_tB)) (own_btL bB)))
         have lt_ea := own_lt Vj.lt
         have hposD : tD ≠ [] := by rw [hT4]; split <;> simp
         obtain ⟨T13, h13, X13, e13, E13, A13, D13, U13, st13⟩ := newO XJ hx hZ hown (own_w hw 41 rfl) (own_w hw 42 rfl) (own_w hw 43 rfl) eJ (g := (mkF m 303 #[VI va, VI vb, VI vf, VI cA, VI cB, VI bA, VI bB, VI bC, VR ca8, VR so, VR ea, VI (Int32.ofNat (tD).length), VI (Int32.ofNat ((tB ++ [(34:Int32)])).length), .unset, .unset, .unset, .unset, .unset, .unset] [])) rfl (hD at_303) (by decide) (by decide)
         obtain ⟨ob, g13⟩ : ∃ z, z = hJ.size := ⟨_, rfl⟩
         rw [← g13] at A13 D13 U13 st13
         have sz14 : hJ.size ≤ h13.size := E13.1
         have lt_ob := own_lt A13.lt
         have F13_bytes : Fld Z h13 ob "tramline/routes/JsonWriter" "bytes" "[B" .null := D13 (Or.inl (own_w hw 49 rfl)) (ty := (.array .byte)) (by decide)
         have F13_objects : Fld Z h13 ob "tramline/routes/JsonWriter" "objects" "[Z" .null := D13 (Or.inl (own_w hw 52 rfl)) (ty := (.array .boolean)) (by decide)
         have F13_begun : Fld Z h13 ob "tramline/routes/JsonWriter" "begun" "[Z" .null := D13 (Or.inl (own_w hw 54 rfl)) (ty := (.array .boolean)) (by decide)
         have F13_size : Fld Z h13 ob "tramline/routes/JsonWriter" "size" "I" (.int 0) := D13 (Or.inl (own_w hw 61 rfl)) (ty := .int) (by decide)
         have F13_depth : Fld Z h13 ob "tramline/routes/JsonWriter" "depth" "I" (.int 0) := D13 (Or.inl (own_w hw 84 rfl)) (ty := .int) (by decide)
         have F13_started : Fld Z h13 ob "tramline/routes/JsonWriter" "started" "Z" (.int 0) := D13 (Or.inl (own_w hw 86 rfl)) (ty := .boolean) (by decide)
         have F13_named : Fld Z h13 ob "tramline/routes/JsonWriter" "named" "Z" (.int 0) := D13 (Or.inl (own_w hw 178 rfl)) (ty := .boolean) (by decide)
         obtain ⟨_, _, ⟨T15, L15, k15, n15⟩, -, X15, ⟨Lc15, hQ15, l15, y15, z15⟩, st15⟩ := X13.specialBack hx (y := own_M10) rfl hown (mvT hZ (own_w hw 44 rfl)) (mvT hZ (own_w hw 45 rfl)) (mvT hZ (own_w hw 46 rfl)) (by decide) (backOf (W := 1) (own_jwInit l Z a0 hw [] ob h13 n0 (by omega) A13 F13_bytes F13_size F13_objects F13_begun F13_depth F13_named F13_started (by omega)) hZ (own_w hw 46 rfl) (own_w hw 43 rfl) (by decide) (by decide)) (g := (mkF m 307 #[VI va, VI vb, VI vf, VI cA, VI cB, VI bA, VI bB, VI bC, VR ca8, VR so, VR ea, VI (Int32.ofNat (tD).length), VI (Int32.ofNat ((tB ++ [(34:Int32)])).length), .unset, .unset, .unset, .unset, .unset, .unset] [(.ref ob), (.ref ob)])) rfl (by rw [hml]; rfl) (Steps.refl _) (a := ob) (argsL := []) (rest := [(.ref ob)]) (lenOf own_pd9 rfl) rfl (by show 2 * 0 + _ ≤ _; exact Nat.le_of_eq rfl) (hD at_307) (fun _ _ => ⟨rfl, e13, (by decide : 6 + 3 ≤ _), (by decide : 47 + 272 ≤ _)⟩)
         dsimp only [Pt.U, Pt.locs, Pt.cells, Pt.slots] at X15 l15 y15 z15 st15 hQ15
         subst l15 y15 z15
         obtain ⟨rfl, N15q, K15, ba, oa, ga, kb, ko, kg, FJ15, ge15⟩ := hQ15
         have N15 := Fr.app NJ N15q
         have sz16 : h13.size ≤ T15.heap.size := K15.1
         have lb15 : OwnLe ([] : List Int32) 0 := Nat.le_refl 0
         obtain ⟨Ew17, fbytes_17, fsize_17, fobjects_17, fbegun_17, fdepth_17, fnamed_17, fstarted_17, Vb17, Vo17, Vg17, la_17, lb_17, lc_17⟩ := id FJ15
         have la_17 := own_lt la_17
         have lb_17 := own_lt lb_17
         have lc_17 := own_lt lc_17
         have lw17 := own_lt Ew17.lt
         have lg17 := own_lt Vg17.lt
         have ld_17 := Nat.lt_trans la_17 lb_17
         have lf_17 := Nat.lt_trans lb_17 lc_17
         have le_17 := Nat.lt_trans ld_17 lc_17
         have J19c : OwnJ Z T15.heap ob ba oa ga kb ko kg (([] : List Int32)) (0:Int32) (0:Int32) (0:Int32) := ⟨Ew17, fbytes_17, fsize_17, fobjects_17, fbegun_17, fdepth_17, fnamed_17, fstarted_17, Vb17, Vo17, Vg17, own_lt la_17, own_lt lb_17, own_lt lc_17⟩
         obtain ⟨cq18, kq18, q18a, q18b, q18c⟩ := isOf hZ rfl Ew17
         obtain ⟨_, _, ⟨T18, L18, k18, n18⟩, -, X18, ⟨Lc18, hQ18, l18, y18, z18⟩, st18⟩ := X15.virtualBack hx (y := own_M11) (z := own_M11) hown (mvT hZ (own_w hw 55 rfl)) (mvT hZ (own_w hw 56 rfl)) (notFace_of_selects (args := #[]) (mvT hZ (own_w hw 58 rfl))) (mvT hZ (own_w hw 58 rfl)) (mvT hZ (own_w hw 57 rfl)) (by decide) (backOf (W := 0) (own_toBA l Z a0 hw [] ob ba oa ga kb ko kg (([] : List Int32)) (0:Int32) (0:Int32) (0:Int32) T15.heap n0 (by omega) J19c (own_leM lb15 (by decide))) hZ (own_w hw 59 rfl) (own_w hw 43 rfl) (by decide) (by decide)) q18a q18c (g := (mkF m 314 #[VI va, VI vb, VI vf, VI cA, VI cB, VI bA, VI bB, VI bC, VR ca8, VR so, VR ea, VI (Int32.ofNat (tD).length), VI (Int32.ofNat ((tB ++ [(34:Int32)])).length), VR ob, .unset, .unset, .unset, .unset, .unset] [(.ref ob)])) rfl (by rw [hml]; rfl) (Steps.refl _) (argsL := []) (rest := []) (lenOf own_pd30 rfl) rfl (by show 2 * 0 + _ ≤ _; exact Nat.le_of_eq rfl) (hD at_314) (fun _ _ => ⟨rfl, rfl, (by decide : 9 + 1 ≤ _), (by decide : 319 + 24 ≤ _)⟩)
         dsimp only [Pt.U, Pt.locs, Pt.cells, Pt.slots] at X18 l18 y18 z18 st18 hQ18
         subst l18 y18 z18
         obtain ⟨t18, kt18, rfl, N18q, K18, ge18, Vt18⟩ := hQ18
         have N18 := Fr.app N15 N18q
         have sz20 : T15.heap.size ≤ T18.heap.size := K18.1
         have lt_t18 := own_lt Vt18.lt
         obtain ⟨cl21, Ar21, ck21, S21, M21, H21, G21⟩ := id Vt18
         refine OwnFin.adv (B := T18.setTop (mkF m 321 #[VI va, VI vb, VI vf, VI cA, VI cB, VI bA, VI bB, VI bC, VR ca8, VR so, VR ea, VI (Int32.ofNat (tD).length), VI (Int32.ofNat ((tB ++ [(34:Int32)])).length), VR ob, VR t18, .unset, .unset, .unset, .unset] [(.ref t18)])) (fun _ k => st13 _ (XS.dup X13.here hx rfl (hD at_306) rfl rfl (st15.trans (XS.astore X15.here hx rfl (hD at_310) rfl rfl (l' := #[VI va, VI vb, VI vf, VI cA, VI cB, VI bA, VI bB, VI bC, VR ca8, VR so, VR ea, VI (Int32.ofNat (tD).length), VI (Int32.ofNat ((tB ++ [(34:Int32)])).length), VR ob, .unset, .unset, .unset, .unset, .unset]) rfl (XS.aload X15.here hx rfl (hD at_312) rfl rfl (st18.trans (XS.astore X18.here hx rfl (hD at_317) rfl rfl (l' := #[VI va, VI vb, VI vf, VI cA, VI cB, VI bA, VI bB, VI bC, VR ca8, VR so, VR ea, VI (Int32.ofNat (tD).length), VI (Int32.ofNat ((tB ++ [(34:Int32)])).length), VR ob, VR t18, .unset, .unset, .unset, .unset]) rfl (XS.aload X18.here hx rfl (hD at_319) rfl rfl k)))))))) ?_
         refine OwnFin.adv (B := T18.setTop (mkF m 322 #[VI va, VI vb, VI vf, VI cA, VI cB, VI bA, VI bB, VI bC, VR ca8, VR so, VR ea, VI (Int32.ofNat (tD).length), VI (Int32.ofNat ((tB ++ [(34:Int32)])).length), VR ob, VR t18, .unset, .unset, .unset, .unset] [(.int (Int32.ofNat (([] : List Int32)).length))])) (fun _ k => X18.arraylength hx Ar21.1 (State.isArrayOf_alike hZ.alike Ar21.2.1) (g := (mkF m 321 #[VI va, VI vb, VI vf, VI cA, VI cB, VI bA, VI bB, VI bC, VR ca8, VR so, VR ea, VI (Int32.ofNat (tD).length), VI (Int32.ofNat ((tB ++ [(34:Int32)])).length), VR ob, VR t18, .unset, .unset, .unset, .unset] [(.ref t18)])) rfl rfl (hD at_321) _ (by rw [len_of S21 M21]; exact k)) ?_
         have hc322_72 : (Int32.ofNat (([] : List Int32)).length) = (0:Int32) := rfl
         refine OwnFin.adv (B := T18.setTop (mkF m 334 #[VI va, VI vb, VI vf, VI cA, VI cB, VI bA, VI bB, VI bC, VR ca8, VR so, VR ea, VI (Int32.ofNat (tD).length), VI (Int32.ofNat ((tB ++ [(34:Int32)])).length), VR ob, VR t18, VI (1:Int32), .unset, .unset, .unset] [(.int bA)])) (fun _ k => XS.ifNo X18.here hx rfl (hD at_322) rfl ((if0 _ _).trans (teq hc322_72).2) (XS.iconst X18.here hx rfl (hD at_325) (XS.goto X18.here hx rfl (pc0 := 326) (pc' := 330) rfl (hD at_326) (by decide) (by decide) (XS.istore X18.here hx rfl (hD at_330) rfl (l' := #[VI va, VI vb, VI vf, VI cA, VI cB, VI bA, VI bB, VI bC, VR ca8, VR so, VR ea, VI (Int32.ofNat (tD).length), VI (Int32.ofNat ((tB ++ [(34:Int32)])).length), VR ob, VR t18, VI (1:Int32), .unset, .unset, .unset]) rfl (XS.iload X18.here hx rfl (hD at_332) rfl k))))) ?_
         have J349 : ∀ (dp bg : Int32) (hJ : Heap) (TJ : State) (LJ : List Loc) (XJ : Stand p l e room_1 s m #[(.int va), (.int vb), (.int vf)] below meth c TJ LJ 10 343) (eJ : TJ.heap = hJ) (NJ : Fr n0 LJ) (KJ : Keep h0 hJ []) (hd : ¬ bA = 0 → dp = 1 ∧ bg = 1) (FJ : OwnJ Z hJ ob ba oa ga kb ko kg ((tB ++ [(34:Int32)])) dp bg (1:Int32)) (Vj : Arv Z hJ ea ke .byte (24:Int32) ((tD).map Value.int) (.int 0)), OwnFin p.tables e below P' (TJ.setTop (mkF m 349 #[VI va, VI vb, VI vf, VI cA, VI cB, VI bA, VI bB, VI bC, VR ca8, VR so, VR ea, VI (Int32.ofNat (tD).length), VI (Int32.ofNat ((tB ++ [(34:Int32)])).length), VR ob, VR t18, VI (1:Int32), .unset, .unset, .unset] [])) := by
          intro dp bg hJ TJ LJ XJ eJ NJ KJ hd FJ Vj
          have szJ : h0.size ≤ hJ.size := KJ.1
          have OJ : Old Z n0 hJ := O0.keep KJ all0
          obtain ⟨Ew22, fbytes_22, fsize_22, fobjects_22, fbegun_22, fdepth_22, fnamed_22, fstarted_22, Vb22, Vo22, Vg22, la_22, lb_22, lc_22⟩ := id FJ
          have la_22 := own_lt la_22
          have lb_22 := own_lt lb_22
          have lc_22 := own_lt lc_22
          have lw22 := own_lt Ew22.lt
          have lg22 := own_lt Vg22.lt
          have ld_22 := Nat.lt_trans la_22 lb_22
          have lf_22 := Nat.lt_trans lb_22 lc_22
          have le_22 := Nat.lt_trans ld_22 lc_22
          have lt_ea := own_lt Vj.lt
          have J24c : OwnJ Z hJ ob ba oa ga kb ko kg ((tB ++ [(34:Int32)])) dp bg (1:Int32) := ⟨Ew22, fbytes_22, fsize_22, fobjects_22, fbegun_22, fdepth_22, fnamed_22, fstarted_22, Vb22, Vo22, Vg22, own_lt la_22, own_lt lb_22, own_lt lc_22⟩
          obtain ⟨cq23, kq23, q23a, q23b, q23c⟩ := isOf hZ eJ Ew22
          obtain ⟨_, _, ⟨T23, L23, k23, n23⟩, -, X23, ⟨Lc23, hQ23, l23, y23, z23⟩, st23⟩ := XJ.virtualBack hx (y := own_M11) (z := own_M11) hown (mvT hZ (own_w hw 55 rfl)) (mvT hZ (own_w hw 56 rfl)) (notFace_of_selects (args := #[]) (mvT hZ (own_w hw 58 rfl))) (mvT hZ (own_w hw 58 rfl)) (mvT hZ (own_w hw 57 rfl)) (by decide) (backOf (W := 0) (own_toBA l Z a0 hw [] ob ba oa ga kb ko kg ((tB ++ [(34:Int32)])) dp bg (1:Int32) hJ n0 (by omega) J24c (own_leM (own_leS lb_tB) (by decide))) hZ (own_w hw 59 rfl) (own_w hw 43 rfl) (by decide) (by decide)) q23a q23c (g := (mkF m 351 #[VI va, VI vb, VI vf, VI cA, VI cB, VI bA, VI bB, VI bC, VR ca8, VR so, VR ea, VI (Int32.ofNat (tD).length), VI (Int32.ofNat ((tB ++ [(34:Int32)])).length), VR ob, VR t18, VI (1:Int32), .unset, .unset, .unset] [(.ref ob)])) rfl (by rw [hml]; rfl) (Steps.refl _) (argsL := []) (rest := []) (lenOf own_pd30 rfl) rfl (by show 2 * 0 + _ ≤ _; exact Nat.le_of_eq rfl) (hD at_351) (fun _ _ => ⟨rfl, eJ, (by decide : 10 + 1 ≤ _), (by decide : 343 + 24 ≤ _)⟩)
          dsimp only [Pt.U, Pt.locs, Pt.cells, Pt.slots] at X23 l23 y23 z23 st23 hQ23
          subst l23 y23 z23
          obtain ⟨t23, kt23, rfl, N23q, K23, ge23, Vt23⟩ := hQ23
          have N23 := Fr.app NJ N23q
          have sz25 : hJ.size ≤ T23.heap.size := K23.1
          have lt_t23 := own_lt Vt23.lt
          have hc358_82 : ¬ ((1:Int32) = (0:Int32)) := by decide
          obtain ⟨cl26, Ar26, ck26, S26, M26, H26, G26⟩ := id Vt23
          refine OwnFin.adv (B := T23.setTop (mkF m 363 #[VI va, VI vb, VI vf, VI cA, VI cB, VI bA, VI bB, VI bC, VR ca8, VR so, VR ea, VI (Int32.ofNat (tD).length), VI (Int32.ofNat ((tB ++ [(34:Int32)])).length), VR ob, VR t18, VI (1:Int32), VR t23, .unset, .unset] [(.ref t23)])) (fun _ k => XS.aload XJ.here hx rfl (hD at_349) rfl rfl (st23.trans (XS.astore X23.here hx rfl (hD at_354) rfl rfl (l' := #[VI va, VI vb, VI vf, VI cA, VI cB, VI bA, VI bB, VI bC, VR ca8, VR so, VR ea, VI (Int32.ofNat (tD).length), VI (Int32.ofNat ((tB ++ [(34:Int32)])).length), VR ob, VR t18, VI (1:Int32), VR t23, .unset, .unset]) rfl (XS.iload X23.here hx rfl (hD at_356) rfl (XS.ifNo X23.here hx rfl (hD at_358) rfl ((if0 _ _).trans (feq hc358_82).1) (XS.aload X23.here hx rfl (hD at_361) rfl rfl k)))))) ?_
          refine OwnFin.adv (B := T23.setTop (mkF m 364 #[VI va, VI vb, VI vf, VI cA, VI cB, VI bA, VI bB, VI bC, VR ca8, VR so, VR ea, VI (Int32.ofNat (tD).length), VI (Int32.ofNat ((tB ++ [(34:Int32)])).length), VR ob, VR t18, VI (1:Int32), VR t23, .unset, .unset] [(.int (Int32.ofNat ((tB ++ [(34:Int32)])).length))])) (fun _ k => X23.arraylength hx Ar26.1 (State.isArrayOf_alike hZ.alike Ar26.2.1) (g := (mkF m 363 #[VI va, VI vb, VI vf, VI cA, VI cB, VI bA, VI bB, VI bC, VR ca8, VR so, VR ea, VI (Int32.ofNat (tD).length), VI (Int32.ofNat ((tB ++ [(34:Int32)])).length), VR ob, VR t18, VI (1:Int32), VR t23, .unset, .unset] [(.ref t23)])) rfl rfl (hD at_363) _ (by rw [len_of S26 M26]; exact k)) ?_
          have hc366_86 : (Int32.ofNat ((tB ++ [(34:Int32)])).length) = (Int32.ofNat ((tB ++ [(34:Int32)])).length) := rfl
          refine OwnFin.adv (B := T23.setTop (mkF m 375 #[VI va, VI vb, VI vf, VI cA, VI cB, VI bA, VI bB, VI bC, VR ca8, VR so, VR ea, VI (Int32.ofNat (tD).length), VI (Int32.ofNat ((tB ++ [(34:Int32)])).length), VR ob, VR t18, VI (1:Int32), VR t23, .unset, .unset] [(.int ((Int32.ofNat ((tB ++ [(34:Int32)])).length) - (1:Int32))), (.ref t23)])) (fun _ k => XS.iload X23.here hx rfl (hD at_364) rfl (XS.icmpNo X23.here hx rfl (hD at_366) rfl (teq hc366_86).2 (XS.aload X23.here hx rfl (hD at_369) rfl rfl (XS.iload X23.here hx rfl (hD at_371) rfl (XS.iconst X23.here hx rfl (hD at_373) (XS.isub X23.here hx rfl (hD at_374) rfl k)))))) ?_
          rw [show (((Int32.ofNat ((tB ++ [(34:Int32)])).length) - (1:Int32)) : Int32) = (Int32.ofNat (tB).length) from own_m1 _ _]
          obtain ⟨cl27, Ar27, ck27, S27, M27, H27, G27⟩ := id Vt23
          have hin27 : ¬ ((Int32.ofNat (tB).length) < 0 ∨ cl27.slots.size ≤ ((Int32.ofNat (tB).length)).toNatClampNeg) := inb_of S27 ⟨own_nnL lb_tB (by decide), own_ltA lb_tB (by decide)⟩
          have hc378_93 : (34:Int32) = (34:Int32) := rfl
          obtain ⟨cl28, Ar28, ck28, S28, M28, H28, G28⟩ := id Vt23
          have hin28 : ¬ ((0:Int32) < 0 ∨ cl28.slots.size ≤ ((0:Int32)).toNatClampNeg) := inb_of S28 ⟨by decide, own_lt0 (own_leS lb_tB) (by decide) (by simp)⟩
          have Fv30_1 := (Vj.keep K23 nin0)
          obtain ⟨cl29, Ar29, ck29, S29, M29, H29, G29⟩ := id Fv30_1
          have hin29 : ¬ ((0:Int32) < 0 ∨ cl29.slots.size ≤ ((0:Int32)).toNatClampNeg) := inb_of S29 ⟨by decide, by decide⟩
          have hc389_100 : (((tB ++ [(34:Int32)])).getD 0 0) = ((tD).getD 0 0) := by rw [hT4]; split <;> first | rfl | (rw [List.append_assoc, List.append_assoc]; exact (own_hd _ _ _).symm)
          refine OwnFin.adv (B := T23.setTop (mkF m 401 #[VI va, VI vb, VI vf, VI cA, VI cB, VI bA, VI bB, VI bC, VR ca8, VR so, VR ea, VI (Int32.ofNat (tD).length), VI (Int32.ofNat ((tB ++ [(34:Int32)])).length), VR ob, VR t18, VI (1:Int32), VR t23, .unset, .unset] [(.int bA)])) (fun _ k => X23.baloadBytes hx (j := (Int32.ofNat (tB).length)) (v := (.int 34)) Ar27.1 (State.isArrayOf_alike hZ.alike Ar27.2.1) Ar27.2.2 hin27 (Has.at H27 hin27 (by rw [own_clL lb_tB (by decide), own_mapget]; exact congrArg Value.int (own_last _ _))) (g := (mkF m 375 #[VI va, VI vb, VI vf, VI cA, VI cB, VI bA, VI bB, VI bC, VR ca8, VR so, VR ea, VI (Int32.ofNat (tD).length), VI (Int32.ofNat ((tB ++ [(34:Int32)])).length), VR ob, VR t18, VI (1:Int32), VR t23, .unset, .unset] [(.int (Int32.ofNat (tB).length)), (.ref t23)])) rfl rfl (hD at_375) _ (XS.bipush X23.here hx rfl (hD at_376) (XS.icmpNo X23.here hx rfl (hD at_378) rfl (teq hc378_93).2 (XS.aload X23.here hx rfl (hD at_381) rfl rfl (XS.iconst X23.here hx rfl (hD at_383) (X23.baloadBytes hx (j := (0:Int32)) (v := (.int (((tB ++ [(34:Int32)])).getD 0 0))) Ar28.1 (State.isArrayOf_alike hZ.alike Ar28.2.1) Ar28.2.2 hin28 (Has.at H28 hin28 (own_mapget _ 0)) (g := (mkF m 384 #[VI va, VI vb, VI vf, VI cA, VI cB, VI bA, VI bB, VI bC, VR ca8, VR so, VR ea, VI (Int32.ofNat (tD).length), VI (Int32.ofNat ((tB ++ [(34:Int32)])).length), VR ob, VR t18, VI (1:Int32), VR t23, .unset, .unset] [(.int 0), (.ref t23)])) rfl rfl (hD at_384) _ (XS.aload X23.here hx rfl (hD at_385) rfl rfl (XS.iconst X23.here hx rfl (hD at_387) (X23.baloadBytes hx (j := (0:Int32)) (v := (.int ((tD).getD 0 0))) Ar29.1 (State.isArrayOf_alike hZ.alike Ar29.2.1) Ar29.2.2 hin29 (Has.at H29 hin29 (own_mapget _ 0)) (g := (mkF m 388 #[VI va, VI vb, VI vf, VI cA, VI cB, VI bA, VI bB, VI bC, VR ca8, VR so, VR ea, VI (Int32.ofNat (tD).length), VI (Int32.ofNat ((tB ++ [(34:Int32)])).length), VR ob, VR t18, VI (1:Int32), VR t23, .unset, .unset] [(.int 0), (.ref ea), (.int (((tB ++ [(34:Int32)])).getD 0 0))])) rfl rfl (hD at_388) _ (XS.icmpNo X23.here hx rfl (hD at_389) rfl (teq hc389_100).2 (XS.iconst X23.here hx rfl (hD at_392) (XS.goto X23.here hx rfl (pc0 := 393) (pc' := 397) rfl (hD at_393) (by decide) (by decide) (XS.istore X23.here hx rfl (hD at_397) rfl (l' := #[VI va, VI vb, VI vf, VI cA, VI cB, VI bA, VI bB, VI bC, VR ca8, VR so, VR ea, VI (Int32.ofNat (tD).length), VI (Int32.ofNat ((tB ++ [(34:Int32)])).length), VR ob, VR t18, VI (1:Int32), VR t23, .unset, .unset]) rfl (XS.iload X23.here hx rfl (hD at_399) rfl k)))))))))))))) ?_
          have J416 : ∀ (dp bg : Int32) (hJ : Heap) (TJ : State) (LJ : List Loc) (XJ : Stand p l e room_1 s m #[(.int va), (.int vb), (.int vf)] below meth c TJ LJ 11 367) (eJ : TJ.heap = hJ) (NJ : Fr n0 LJ) (KJ : Keep h0 hJ []) (FJ : OwnJ Z hJ ob ba oa ga kb ko kg (tD) dp bg (1:Int32)) (Vj : Arv Z hJ ea ke .byte (24:Int32) ((tD).map Value.int) (.int 0)), OwnFin p.tables e below P' (TJ.setTop (mkF m 416 #[VI va, VI vb, VI vf, VI cA, VI cB, VI bA, VI bB, VI bC, VR ca8, VR so, VR ea, VI (Int32.ofNat (tD).length), VI (Int32.ofNat ((tB ++ [(34:Int32)])).length), VR ob, VR t18, VI (1:Int32), VR t23, .unset, .unset] [])) := by
           intro dp bg hJ TJ LJ XJ eJ NJ KJ FJ Vj
           have szJ : h0.size ≤ hJ.size := KJ.1
           have OJ : Old Z n0 hJ := O0.keep KJ all0
           obtain ⟨Ew31, fbytes_31, fsize_31, fobjects_31, fbegun_31, fdepth_31, fnamed_31, fstarted_31, Vb31, Vo31, Vg31, la_31, lb_31, lc_31⟩ := id FJ
           have la_31 := own_lt la_31
           have lb_31 := own_lt lb_31
           have lc_31 := own_lt lc_31
           have lw31 := own_lt Ew31.lt
           have lg31 := own_lt Vg31.lt
           have ld_31 := Nat.lt_trans la_31 lb_31
           have lf_31 := Nat.lt_trans lb_31 lc_31
           have le_31 := Nat.lt_trans ld_31 lc_31
           have lt_ea := own_lt Vj.lt
           have J33c : OwnJ Z hJ ob ba oa ga kb ko kg (tD) dp bg (1:Int32) := ⟨Ew31, fbytes_31, fsize_31, fobjects_31, fbegun_31, fdepth_31, fnamed_31, fstarted_31, Vb31, Vo31, Vg31, own_lt la_31, own_lt lb_31, own_lt lc_31⟩
           obtain ⟨cq32, kq32, q32a, q32b, q32c⟩ := isOf hZ eJ Ew31
           obtain ⟨_, _, ⟨T32, L32, k32, n32⟩, -, X32, ⟨Lc32, hQ32, l32, y32, z32⟩, st32⟩ := XJ.virtualBack hx (y := own_M11) (z := own_M11) hown (mvT hZ (own_w hw 55 rfl)) (mvT hZ (own_w hw 56 rfl)) (notFace_of_selects (args := #[]) (mvT hZ (own_w hw 58 rfl))) (mvT hZ (own_w hw 58 rfl)) (mvT hZ (own_w hw 57 rfl)) (by decide) (backOf (W := 0) (own_toBA l Z a0 hw [] ob ba oa ga kb ko kg (tD) dp bg (1:Int32) hJ n0 (by omega) J33c (own_leM lb_tD (by decide))) hZ (own_w hw 59 rfl) (own_w hw 43 rfl) (by decide) (by decide)) q32a q32c (g := (mkF m 418 #[VI va, VI vb, VI vf, VI cA, VI cB, VI bA, VI bB, VI bC, VR ca8, VR so, VR ea, VI (Int32.ofNat (tD).length), VI (Int32.ofNat ((tB ++ [(34:Int32)])).length), VR ob, VR t18, VI (1:Int32), VR t23, .unset, .unset] [(.ref ob)])) rfl (by rw [hml]; rfl) (Steps.refl _) (argsL := []) (rest := []) (lenOf own_pd30 rfl) rfl (by show 2 * 0 + _ ≤ _; exact Nat.le_of_eq rfl) (hD at_418) (fun _ _ => ⟨rfl, eJ, (by decide : 11 + 1 ≤ _), (by decide : 367 + 24 ≤ _)⟩)
           dsimp only [Pt.U, Pt.locs, Pt.cells, Pt.slots] at X32 l32 y32 z32 st32 hQ32
           subst l32 y32 z32
           obtain ⟨t32, kt32, rfl, N32q, K32, ge32, Vt32⟩ := hQ32
           have N32 := Fr.app NJ N32q
           have sz34 : hJ.size ≤ T32.heap.size := K32.1
           have lt_t32 := own_lt Vt32.lt
           have hc425_110 : ¬ ((1:Int32) = (0:Int32)) := by decide
           have Fv36_1 := (Vj.keep K32 nin0)
           obtain ⟨_, _, ⟨T35, L35, k35, n35⟩, -, X35, ⟨Lc35, hQ35, l35, y35, z35⟩, st35⟩ := Jvm.LawKit.callS X32 hx (y := own_M27) hown (mvT hZ (own_w hw 137 rfl)) (mvT hZ (own_w hw 138 rfl)) (mvT hZ (own_w hw 33 rfl)) (mvT hZ (own_w hw 139 rfl)) (by decide) (backOf (W := 0) (own_same0 l Z a0 hw [] t32 ea kt32 ke tD T32.heap n0 (by omega) Vt32 Fv36_1 (own_leM lb_tD (by decide))) hZ (own_w hw 139 rfl) (own_w hw 33 rfl) (by decide) (by decide)) (g := (mkF m 434 #[VI va, VI vb, VI vf, VI cA, VI cB, VI bA, VI bB, VI bC, VR ca8, VR so, VR ea, VI (Int32.ofNat (tD).length), VI (Int32.ofNat ((tB ++ [(34:Int32)])).length), VR ob, VR t18, VI (1:Int32), VR t23, VR t32, .unset] [(.int (Int32.ofNat (tD).length)), (.ref ea), (.ref t32)])) rfl (by rw [hml]; rfl) (argsL := [(.ref t32), (.ref ea), (.int (Int32.ofNat (tD).length))]) (rest := []) (lenOf own_pd22 rfl) rfl (by show 2 * 0 + _ ≤ _; exact Nat.le_of_eq rfl) (hD at_434) (fun _ _ => ⟨rfl, rfl, (by decide : 12 + 0 ≤ _), (by decide : 391 + 0 ≤ _)⟩)
           dsimp only [Pt.U, Pt.locs, Pt.cells, Pt.slots] at X35 l35 y35 z35 st35 hQ35
           subst l35 y35 z35
           obtain ⟨rfl, N35q, eh35⟩ := hQ35
           have N35 := Fr.app N32 N35q
           have hc437_115 : ¬ ((1:Int32) = (0:Int32)) := by decide
           refine OwnFin.adv (B := T35.setTop (mkF m 449 #[VI va, VI vb, VI vf, VI cA, VI cB, VI bA, VI bB, VI bC, VR ca8, VR so, VR ea, VI (Int32.ofNat (tD).length), VI (Int32.ofNat ((tB ++ [(34:Int32)])).length), VR ob, VR t18, VI (1:Int32), VR t23, VR t32, .unset] [(.ref t32)])) (fun _ k => XS.aload XJ.here hx rfl (hD at_416) rfl rfl (st32.trans (XS.astore X32.here hx rfl (hD at_421) rfl rfl (l' := #[VI va, VI vb, VI vf, VI cA, VI cB, VI bA, VI bB, VI bC, VR ca8, VR so, VR ea, VI (Int32.ofNat (tD).length), VI (Int32.ofNat ((tB ++ [(34:Int32)])).length), VR ob, VR t18, VI (1:Int32), VR t23, VR t32, .unset]) rfl (XS.iload X32.here hx rfl (hD at_423) rfl (XS.ifNo X32.here hx rfl (hD at_425) rfl ((if0 _ _).trans (feq hc425_110).1) (XS.aload X32.here hx rfl (hD at_428) rfl rfl (XS.aload X32.here hx rfl (hD at_430) rfl rfl (XS.iload X32.here hx rfl (hD at_432) rfl (st35 _ (XS.ifNo X35.here hx rfl (hD at_437) rfl ((if0 _ _).trans (feq hc437_115).1) (XS.iconst X35.here hx rfl (hD at_440) (XS.goto X35.here hx rfl (pc0 := 441) (pc' := 445) rfl (hD at_441) (by decide) (by decide) (XS.istore X35.here hx rfl (hD at_445) rfl (l' := #[VI va, VI vb, VI vf, VI cA, VI cB, VI bA, VI bB, VI bC, VR ca8, VR so, VR ea, VI (Int32.ofNat (tD).length), VI (Int32.ofNat ((tB ++ [(34:Int32)])).length), VR ob, VR t18, VI (1:Int32), VR t23, VR t32, .unset]) rfl (XS.aload X35.here hx rfl (hD at_447) rfl rfl k)))))))))))))) ?_
           obtain ⟨cl37, Ar37, ck37, S37, M37, H37, G37⟩ := id Vt32
           have hin37 : ¬ ((0:Int32) < 0 ∨ cl37.slots.size ≤ ((0:Int32)).toNatClampNeg) := inb_of S37 ⟨by decide, own_lt0 lb_tD (by decide) hposD⟩
           obtain ⟨T37, h37, X37, e37, W37, st37⟩ := stB X35 hx hZ eh35 Ar37 (j := (0:Int32)) hin37 (g := (mkF m 452 #[VI va, VI vb, VI vf, VI cA, VI cB, VI bA, VI bB, VI bC, VR ca8, VR so, VR ea, VI (Int32.ofNat (tD).length), VI (Int32.ofNat ((tB ++ [(34:Int32)])).length), VR ob, VR t18, VI (1:Int32), VR t23, VR t32, .unset] [(.int 120), (.int 0), (.ref t32)])) rfl rfl (hD at_452)
           have sz38 : T32.heap.size ≤ h37.size := Nat.le_of_eq W37.size.symm
           have N37 := Fr.snoc X37 N35 (by omega : n0 ≤ t32)
           have Fv41_2 := ((Ew31.keep K32).wr W37)
           have Fv42_2 := ((fbytes_31.keep K32 nin0).other W37 (Or.inl (own_ne (by omega))))
           have Fv43_2 := ((fsize_31.keep K32 nin0).other W37 (Or.inl (own_ne (by omega))))
           have Fv44_2 := ((fobjects_31.keep K32 nin0).other W37 (Or.inl (own_ne (by omega))))
           have Fv45_2 := ((fbegun_31.keep K32 nin0).other W37 (Or.inl (own_ne (by omega))))
           have Fv46_2 := ((fdepth_31.keep K32 nin0).other W37 (Or.inl (own_ne (by omega))))
           have Fv47_2 := ((fnamed_31.keep K32 nin0).other W37 (Or.inl (own_ne (by omega))))
           have Fv48_2 := ((fstarted_31.keep K32 nin0).other W37 (Or.inl (own_ne (by omega))))
           have Fv49_2 := ((Vb31.keep K32 nin0).other W37 (own_ne (by omega)))
           have Fv50_2 := ((Vo31.keep K32 nin0).other W37 (own_ne (by omega)))
           have Fv51_2 := ((Vg31.keep K32 nin0).other W37 (own_ne (by omega)))
           have J40c : OwnJ Z h37 ob ba oa ga kb ko kg (tD) dp bg (1:Int32) := ⟨Fv41_2, Fv42_2, Fv43_2, Fv44_2, Fv45_2, Fv46_2, Fv47_2, Fv48_2, Fv49_2, Fv50_2, Fv51_2, own_lt la_31, own_lt lb_31, own_lt lc_31⟩
           obtain ⟨cq39, kq39, q39a, q39b, q39c⟩ := isOf hZ e37 Fv41_2
           obtain ⟨_, _, ⟨T39, L39, k39, n39⟩, -, X39, ⟨Lc39, hQ39, l39, y39, z39⟩, st39⟩ := X37.virtualBack hx (y := own_M11) (z := own_M11) hown (mvT hZ (own_w hw 55 rfl)) (mvT hZ (own_w hw 56 rfl)) (notFace_of_selects (args := #[]) (mvT hZ (own_w hw 58 rfl))) (mvT hZ (own_w hw 58 rfl)) (mvT hZ (own_w hw 57 rfl)) (by decide) (backOf (W := 0) (own_toBA l Z a0 hw [] ob ba oa ga kb ko kg (tD) dp bg (1:Int32) h37 n0 (by omega) J40c (own_leM lb_tD (by decide))) hZ (own_w hw 59 rfl) (own_w hw 43 rfl) (by decide) (by decide)) q39a q39c (g := (mkF m 455 #[VI va, VI vb, VI vf, VI cA, VI cB, VI bA, VI bB, VI bC, VR ca8, VR so, VR ea, VI (Int32.ofNat (tD).length), VI (Int32.ofNat ((tB ++ [(34:Int32)])).length), VR ob, VR t18, VI (1:Int32), VR t23, VR t32, .unset] [(.ref ob)])) rfl (by rw [hml]; rfl) (Steps.refl _) (argsL := []) (rest := []) (lenOf own_pd30 rfl) rfl (by show 2 * 0 + _ ≤ _; exact Nat.le_of_eq rfl) (hD at_455) (fun _ _ => ⟨rfl, e37, (by decide : 12 + 1 ≤ _), (by decide : 391 + 24 ≤ _)⟩)
           dsimp only [Pt.U, Pt.locs, Pt.cells, Pt.slots] at X39 l39 y39 z39 st39 hQ39
           subst l39 y39 z39
           obtain ⟨t39, kt39, rfl, N39q, K39, ge39, Vt39⟩ := hQ39
           have N39 := Fr.app N37 N39q
           have sz52 : h37.size ≤ T39.heap.size := K39.1
           have lt_t39 := own_lt Vt39.lt
           have hc462_127 : ¬ ((1:Int32) = (0:Int32)) := by decide
           have Fv54_3 := ((Fv36_1.other W37 (own_ne (by omega))).keep K39 nin0)
           obtain ⟨_, _, ⟨T53, L53, k53, n53⟩, -, X53, ⟨Lc53, hQ53, l53, y53, z53⟩, st53⟩ := Jvm.LawKit.callS X39 hx (y := own_M27) hown (mvT hZ (own_w hw 137 rfl)) (mvT hZ (own_w hw 138 rfl)) (mvT hZ (own_w hw 33 rfl)) (mvT hZ (own_w hw 139 rfl)) (by decide) (backOf (W := 0) (own_same0 l Z a0 hw [] t39 ea kt39 ke tD T39.heap n0 (by omega) Vt39 Fv54_3 (own_leM lb_tD (by decide))) hZ (own_w hw 139 rfl) (own_w hw 33 rfl) (by decide) (by decide)) (g := (mkF m 471 #[VI va, VI vb, VI vf, VI cA, VI cB, VI bA, VI bB, VI bC, VR ca8, VR so, VR ea, VI (Int32.ofNat (tD).length), VI (Int32.ofNat ((tB ++ [(34:Int32)])).length), VR ob, VR t18, VI (1:Int32), VR t23, VR t32, VR t39] [(.int (Int32.ofNat (tD).length)), (.ref ea), (.ref t39)])) rfl (by rw [hml]; rfl) (argsL := [(.ref t39), (.ref ea), (.int (Int32.ofNat (tD).length))]) (rest := []) (lenOf own_pd22 rfl) rfl (by show 2 * 0 + _ ≤ _; exact Nat.le_of_eq rfl) (hD at_471) (fun _ _ => ⟨rfl, rfl, (by decide : 13 + 0 ≤ _), (by decide : 415 + 0 ≤ _)⟩)
           dsimp only [Pt.U, Pt.locs, Pt.cells, Pt.slots] at X53 l53 y53 z53 st53 hQ53
           subst l53 y53 z53
           obtain ⟨rfl, N53q, eh53⟩ := hQ53
           have N53 := Fr.app N39 N53q
           have hc474_132 : ¬ ((1:Int32) = (0:Int32)) := by decide
           refine OwnFin.adv (B := T53.setTop (mkF m 478 #[VI va, VI vb, VI vf, VI cA, VI cB, VI bA, VI bB, VI bC, VR ca8, VR so, VR ea, VI (Int32.ofNat (tD).length), VI (Int32.ofNat ((tB ++ [(34:Int32)])).length), VR ob, VR t18, VI (1:Int32), VR t23, VR t32, VR t39] [(.int 1)])) (fun _ k => XS.iconst X35.here hx rfl (hD at_449) (XS.bipush X35.here hx rfl (hD at_450) (st37 _ (XS.aload X37.here hx rfl (hD at_453) rfl rfl (st39.trans (XS.astore X39.here hx rfl (hD at_458) rfl rfl (l' := #[VI va, VI vb, VI vf, VI cA, VI cB, VI bA, VI bB, VI bC, VR ca8, VR so, VR ea, VI (Int32.ofNat (tD).length), VI (Int32.ofNat ((tB ++ [(34:Int32)])).length), VR ob, VR t18, VI (1:Int32), VR t23, VR t32, VR t39]) rfl (XS.iload X39.here hx rfl (hD at_460) rfl (XS.ifNo X39.here hx rfl (hD at_462) rfl ((if0 _ _).trans (feq hc462_127).1) (XS.aload X39.here hx rfl (hD at_465) rfl rfl (XS.aload X39.here hx rfl (hD at_467) rfl rfl (XS.iload X39.here hx rfl (hD at_469) rfl (st53 _ (XS.ifNo X53.here hx rfl (hD at_474) rfl ((if0 _ _).trans (feq hc474_132).1) (XS.iconst X53.here hx rfl (hD at_477) k)))))))))))))) ?_
           obtain ⟨fs, hr, hrun, hended, hW, hsame⟩ := X53.leave (v := some (.int 1)) (fun h => by rw [Bd.returns] at h; cases h)
           refine OwnFin.adv (B := T53.setTop (mkF m 486 #[VI va, VI vb, VI vf, VI cA, VI cB, VI bA, VI bB, VI bC, VR ca8, VR so, VR ea, VI (Int32.ofNat (tD).length), VI (Int32.ofNat ((tB ++ [(34:Int32)])).length), VR ob, VR t18, VI (1:Int32), VR t23, VR t32, VR t39] [(.int 1)])) (fun _ k => XS.goto X53.here hx rfl (pc0 := 478) (pc' := 482) rfl (hD at_478) (by decide) (by decide) (XS.istore X53.here hx rfl (hD at_482) rfl (l' := #[VI va, VI vb, VI vf, VI cA, VI cB, VI bA, VI bB, VI bC, VR ca8, VR so, VR ea, VI (Int32.ofNat (tD).length), VI (Int32.ofNat ((tB ++ [(34:Int32)])).length), VR ob, VR t18, VI (1:Int32), VR t23, VR t32, VR t39]) rfl (XS.iload X53.here hx rfl (hD at_484) rfl k))) ?_
           refine OwnFin.leaf hP' ⟨_, _, retN X53 hx (t := .boolean) Bd.returns (by simp) (hD at_486) hr, hrun, hended, _, _, rfl, ?_, ⟨_, rfl⟩, hW, hsame.mono (by decide) (by decide)⟩
           exact ⟨rfl, N53⟩
          by_cases hc401 : bA = (0:Int32)
          ·
           have hTT55 : (tB ++ [(34:Int32)]) = tD := by rw [hT4, if_pos hc401]
           have Fv56_1 := (Ew22.keep K23)
           have Fv57_1 := (fbytes_22.keep K23 nin0)
           have Fv58_1 := (fsize_22.keep K23 nin0)
           have Fv59_1 := (fobjects_22.keep K23 nin0)
           have Fv60_1 := (fbegun_22.keep K23 nin0)
           have Fv61_1 := (fdepth_22.keep K23 nin0)
           have Fv62_1 := (fnamed_22.keep K23 nin0)
           have Fv63_1 := (fstarted_22.keep K23 nin0)
           have Fv64_1 := (Vb22.keep K23 nin0)
           have Fv65_1 := (Vo22.keep K23 nin0)
           have Fv66_1 := (Vg22.keep K23 nin0)
           have FJ55 : OwnJ Z T23.heap ob ba oa ga kb ko kg (tD) dp bg (1:Int32) := by rw [← hTT55]; exact ⟨Fv56_1, Fv57_1, Fv58_1, Fv59_1, Fv60_1, Fv61_1, Fv62_1, Fv63_1, Fv64_1, Fv65_1, Fv66_1, own_lt la_22, own_lt lb_22, own_lt lc_22⟩
           refine OwnFin.adv (B := T23.setTop (mkF m 416 #[VI va, VI vb, VI vf, VI cA, VI cB, VI bA, VI bB, VI bC, VR ca8, VR so, VR ea, VI (Int32.ofNat (tD).length), VI (Int32.ofNat ((tB ++ [(34:Int32)])).length), VR ob, VR t18, VI (1:Int32), VR t23, .unset, .unset] [])) (fun _ k => XS.ifYes X23.here hx rfl (pc0 := 401) (pc' := 416) rfl (hD at_401) rfl ((if0 _ _).trans (teq hc401).1) (by decide) (by decide) k) ?_
           exact J416 dp bg T23.heap T23 _ (X23.mono (by decide) (by decide)) rfl N23 (KJ.trans K23 all0) FJ55 Fv30_1
          ·
           obtain ⟨rfl, rfl⟩ := hd hc401
           have Fv67_1 := (fdepth_22.keep K23 nin0)
           have Fv68_1 := (Vg22.keep K23 nin0)
           have Fv71_1 := (Ew22.keep K23)
           have Fv72_1 := (fbytes_22.keep K23 nin0)
           have Fv73_1 := (fsize_22.keep K23 nin0)
           have Fv74_1 := (fobjects_22.keep K23 nin0)
           have Fv75_1 := (fbegun_22.keep K23 nin0)
           have Fv76_1 := (fnamed_22.keep K23 nin0)
           have Fv77_1 := (fstarted_22.keep K23 nin0)
           have Fv78_1 := (Vb22.keep K23 nin0)
           have Fv79_1 := (Vo22.keep K23 nin0)
           have J70c : OwnJ Z T23.heap ob ba oa ga kb ko kg ((tB ++ [(34:Int32)])) (1:Int32) (1:Int32) (1:Int32) := ⟨Fv71_1, Fv72_1, Fv73_1, Fv74_1, Fv75_1, Fv67_1, Fv76_1, Fv77_1, Fv78_1, Fv79_1, Fv68_1, own_lt la_22, own_lt lb_22, own_lt lc_22⟩
           have Old80 : Old Z n0 T23.heap := (OJ.keep K23 all0)
           obtain ⟨cq69, kq69, q69a, q69b, q69c⟩ := isOf hZ rfl Fv71_1
           obtain ⟨_, _, ⟨T69, L69, k69, n69⟩, -, X69, ⟨Lc69, hQ69, l69, y69, z69⟩, st69⟩ := X23.virtualBack hx (y := own_M32) (z := own_M32) hown (mvT hZ (own_w hw 156 rfl)) (mvT hZ (own_w hw 157 rfl)) (notFace_of_selects (args := #[]) (mvT hZ (own_w hw 159 rfl))) (mvT hZ (own_w hw 159 rfl)) (mvT hZ (own_w hw 158 rfl)) (by decide) (backOf (W := 0) (own_wb l Z a0 hw [] ob ba oa ga kb ko kg ((tB ++ [(34:Int32)])) (1:Int32) bB ta fa kt kf T23.heap n0 (by omega) Old80 St Sf Vt Vf (own_leM (own_leS lb_tB) (by decide)) J70c (by omega)) hZ (own_w hw 160 rfl) (own_w hw 43 rfl) (by decide) (by decide)) q69a q69c (g := (mkF m 408 #[VI va, VI vb, VI vf, VI cA, VI cB, VI bA, VI bB, VI bC, VR ca8, VR so, VR ea, VI (Int32.ofNat (tD).length), VI (Int32.ofNat ((tB ++ [(34:Int32)])).length), VR ob, VR t18, VI (1:Int32), VR t23, .unset, .unset] [(.int bB), (.ref ob)])) rfl (by rw [hml]; rfl) (Steps.refl _) (argsL := [(.int bB)]) (rest := []) (lenOf own_pd10 rfl) rfl (by show 2 * 0 + _ ≤ _; exact Nat.le_of_eq rfl) (hD at_408) (fun _ _ => ⟨rfl, rfl, (by decide : 11 + 0 ≤ _), (by decide : 367 + 0 ≤ _)⟩)
           dsimp only [Pt.U, Pt.locs, Pt.cells, Pt.slots] at X69 l69 y69 z69 st69 hQ69
           subst l69 y69 z69
           obtain ⟨rfl, N69q, K69, FJ69⟩ := hQ69
           have N69 := Fr.app N23 N69q
           have sz81 : T23.heap.size ≤ T69.heap.size := K69.1
           obtain ⟨Ew82, fbytes_82, fsize_82, fobjects_82, fbegun_82, fdepth_82, fnamed_82, fstarted_82, Vb82, Vo82, Vg82, la_82, lb_82, lc_82⟩ := id FJ69
           have la_82 := own_lt la_82
           have lb_82 := own_lt lb_82
           have lc_82 := own_lt lc_82
           have lw82 := own_lt Ew82.lt
           have lg82 := own_lt Vg82.lt
           have ld_82 := Nat.lt_trans la_82 lb_82
           have lf_82 := Nat.lt_trans lb_82 lc_82
           have le_82 := Nat.lt_trans ld_82 lc_82
           have J84c : OwnJ Z T69.heap ob ba oa ga kb ko kg (((tB ++ [(34:Int32)]) ++ [(44:Int32)]) ++ (if bB = 0 then [(102:Int32), (97:Int32), (108:Int32), (115:Int32), (101:Int32)] else [(116:Int32), (114:Int32), (117:Int32), (101:Int32)])) (1:Int32) (1:Int32) (1:Int32) := ⟨Ew82, fbytes_82, fsize_82, fobjects_82, fbegun_82, fdepth_82, fnamed_82, fstarted_82, Vb82, Vo82, Vg82, own_lt la_82, own_lt lb_82, own_lt lc_82⟩
           have Old85 : Old Z n0 T69.heap := (Old80.keep K69 (allS (by omega) (allS (by omega) (allS (by omega) (allS (by omega) all0)))))
           obtain ⟨cq83, kq83, q83a, q83b, q83c⟩ := isOf hZ rfl Ew82
           obtain ⟨_, _, ⟨T83, L83, k83, n83⟩, -, X83, ⟨Lc83, hQ83, l83, y83, z83⟩, st83⟩ := X69.virtualBack hx (y := own_M34) (z := own_M34) hown (mvT hZ (own_w hw 168 rfl)) (mvT hZ (own_w hw 169 rfl)) (notFace_of_selects (args := #[]) (mvT hZ (own_w hw 171 rfl))) (mvT hZ (own_w hw 171 rfl)) (mvT hZ (own_w hw 170 rfl)) (by decide) (backOf (W := 0) (own_wea l Z a0 hw [] ob ba oa ga kb ko kg (((tB ++ [(34:Int32)]) ++ [(44:Int32)]) ++ (if bB = 0 then [(102:Int32), (97:Int32), (108:Int32), (115:Int32), (101:Int32)] else [(116:Int32), (114:Int32), (117:Int32), (101:Int32)])) (1:Int32) (1:Int32)  T69.heap n0 (by omega) Old85  (own_leM (own_leA (own_leS (own_leS lb_tB)) (own_btL bB)) (by decide)) J84c (by omega)) hZ (own_w hw 172 rfl) (own_w hw 43 rfl) (by decide) (by decide)) q83a q83c (g := (mkF m 413 #[VI va, VI vb, VI vf, VI cA, VI cB, VI bA, VI bB, VI bC, VR ca8, VR so, VR ea, VI (Int32.ofNat (tD).length), VI (Int32.ofNat ((tB ++ [(34:Int32)])).length), VR ob, VR t18, VI (1:Int32), VR t23, .unset, .unset] [(.ref ob)])) rfl (by rw [hml]; rfl) (Steps.refl _) (argsL := []) (rest := []) (lenOf own_pd9 rfl) rfl (by show 2 * 0 + _ ≤ _; exact Nat.le_of_eq rfl) (hD at_413) (fun _ _ => ⟨rfl, rfl, (by decide : 11 + 0 ≤ _), (by decide : 367 + 0 ≤ _)⟩)
           dsimp only [Pt.U, Pt.locs, Pt.cells, Pt.slots] at X83 l83 y83 z83 st83 hQ83
           subst l83 y83 z83
           obtain ⟨rfl, N83q, K83, FJ83⟩ := hQ83
           have N83 := Fr.app N69 N83q
           have sz86 : T69.heap.size ≤ T83.heap.size := K83.1
           have lb83 : OwnLe ((((tB ++ [(34:Int32)]) ++ [(44:Int32)]) ++ (if bB = 0 then [(102:Int32), (97:Int32), (108:Int32), (115:Int32), (101:Int32)] else [(116:Int32), (114:Int32), (117:Int32), (101:Int32)])) ++ [(93:Int32)]) 22 := own_leS (own_leA (own_leS (own_leS lb_tB)) (own_btL bB))
           obtain ⟨Ew87, fbytes_87, fsize_87, fobjects_87, fbegun_87, fdepth_87, fnamed_87, fstarted_87, Vb87, Vo87, Vg87, la_87, lb_87, lc_87⟩ := id FJ83
           have la_87 := own_lt la_87
           have lb_87 := own_lt lb_87
           have lc_87 := own_lt lc_87
           have lw87 := own_lt Ew87.lt
           have lg87 := own_lt Vg87.lt
           have ld_87 := Nat.lt_trans la_87 lb_87
           have lf_87 := Nat.lt_trans lb_87 lc_87
           have le_87 := Nat.lt_trans ld_87 lc_87
           have hTT88 : (((tB ++ [(34:Int32)]) ++ [(44:Int32)]) ++ (if bB = 0 then [(102:Int32), (97:Int32), (108:Int32), (115:Int32), (101:Int32)] else [(116:Int32), (114:Int32), (117:Int32), (101:Int32)])) ++ [(93:Int32)] = tD := by rw [hT4, if_neg hc401]
           have FJ88 : OwnJ Z T83.heap ob ba oa ga kb ko kg (tD) (0:Int32) (1:Int32) (1:Int32) := by rw [← hTT88]; exact ⟨Ew87, fbytes_87, fsize_87, fobjects_87, fbegun_87, fdepth_87, fnamed_87, fstarted_87, Vb87, Vo87, Vg87, own_lt la_87, own_lt lb_87, own_lt lc_87⟩
           have Fv89_3 := ((Fv30_1.keep K69 (ninS (own_ne (by omega)) (ninS (own_ne (by omega)) (ninS (own_ne (by omega)) (ninS (own_ne (by omega)) nin0))))).keep K83 (ninS (own_ne (by omega)) (ninS (own_ne (by omega)) (ninS (own_ne (by omega)) (ninS (own_ne (by omega)) nin0)))))
           refine OwnFin.adv (B := T83.setTop (mkF m 416 #[VI va, VI vb, VI vf, VI cA, VI cB, VI bA, VI bB, VI bC, VR ca8, VR so, VR ea, VI (Int32.ofNat (tD).length), VI (Int32.ofNat ((tB ++ [(34:Int32)])).length), VR ob, VR t18, VI (1:Int32), VR t23, .unset, .unset] [])) (fun _ k => XS.ifNo X23.here hx rfl (hD at_401) rfl ((if0 _ _).trans (feq hc401).1) (XS.aload X23.here hx rfl (hD at_404) rfl rfl (XS.iload X23.here hx rfl (hD at_406) rfl (st69.trans (XS.aload X69.here hx rfl (hD at_411) rfl rfl (st83.trans k)))))) ?_
           exact J416 (0:Int32) (1:Int32) T83.heap T83 _ (X83.mono (by decide) (by decide)) rfl N83 (((KJ.trans K23 all0).trans K69 (allS (Or.inr (by omega)) (allS (Or.inr (by omega)) (allS (Or.inr (by omega)) (allS (Or.inr (by omega)) all0))))).trans K83 (allS (Or.inr (by omega)) (allS (Or.inr (by omega)) (allS (Or.inr (by omega)) (allS (Or.inr (by omega)) all0))))) FJ88 Fv89_3
         by_cases hc334 : bA = (0:Int32)
         ·
          have Fv91_3 := (((Sj.ext E13).keep K15 (allS (by omega) all0)).keep K18 all0)
          have Fv93_3 := (Ew17.keep K18)
          have Fv94_3 := (fbytes_17.keep K18 nin0)
          have Fv95_3 := (fsize_17.keep K18 nin0)
          have Fv96_3 := (fobjects_17.keep K18 nin0)
          have Fv97_3 := (fbegun_17.keep K18 nin0)
          have Fv98_3 := (fdepth_17.keep K18 nin0)
          have Fv99_3 := (fnamed_17.keep K18 nin0)
          have Fv100_3 := (fstarted_17.keep K18 nin0)
          have Fv101_3 := (Vb17.keep K18 nin0)
          have Fv102_3 := (Vo17.keep K18 nin0)
          have Fv103_3 := (Vg17.keep K18 nin0)
          have J92c : OwnJ Z T18.heap ob ba oa ga kb ko kg (([] : List Int32)) (0:Int32) (0:Int32) (0:Int32) := ⟨Fv93_3, Fv94_3, Fv95_3, Fv96_3, Fv97_3, Fv98_3, Fv99_3, Fv100_3, Fv101_3, Fv102_3, Fv103_3, own_lt la_17, own_lt lb_17, own_lt lc_17⟩
          have Old104 : Old Z n0 T18.heap := (((OJ.ext E13).keep K15 (allS (by omega) all0)).keep K18 all0)
          obtain ⟨cq90, kq90, q90a, q90b, q90c⟩ := isOf hZ rfl Fv93_3
          obtain ⟨_, _, ⟨T90, L90, k90, n90⟩, -, X90, ⟨Lc90, hQ90, l90, y90, z90⟩, st90⟩ := X18.virtualBack hx (y := own_M14) (z := own_M14) hown (mvT hZ (own_w hw 74 rfl)) (mvT hZ (own_w hw 75 rfl)) (notFace_of_selects (args := #[]) (mvT hZ (own_w hw 77 rfl))) (mvT hZ (own_w hw 77 rfl)) (mvT hZ (own_w hw 76 rfl)) (by decide) (backOf (W := 0) (own_ws0 l Z a0 hw [] ob ba oa ga kb ko kg (([] : List Int32)) (0:Int32) so zc fm lim cl hxa kx T18.heap n0 (by omega) Old104 SCS hzc SFM rfm SAD SHI SLO Sh Vh Fv91_3 (by omega) hcs (own_leM lb15 (by decide)) J92c (by omega)) hZ (own_w hw 78 rfl) (own_w hw 43 rfl) (by decide) (by decide)) q90a q90c (g := (mkF m 346 #[VI va, VI vb, VI vf, VI cA, VI cB, VI bA, VI bB, VI bC, VR ca8, VR so, VR ea, VI (Int32.ofNat (tD).length), VI (Int32.ofNat ((tB ++ [(34:Int32)])).length), VR ob, VR t18, VI (1:Int32), .unset, .unset, .unset] [(.ref so), (.ref ob)])) rfl (by rw [hml]; rfl) (Steps.refl _) (argsL := [(.ref so)]) (rest := []) (lenOf own_pd17 rfl) rfl (by show 2 * 0 + _ ≤ _; exact Nat.le_of_eq rfl) (hD at_346) (fun _ _ => ⟨rfl, rfl, (by decide : 10 + 0 ≤ _), (by decide : 343 + 0 ≤ _)⟩)
          dsimp only [Pt.U, Pt.locs, Pt.cells, Pt.slots] at X90 l90 y90 z90 st90 hQ90
          subst l90 y90 z90
          obtain ⟨rfl, N90q, K90, FJ90⟩ := hQ90
          have N90 := Fr.app N18 N90q
          have sz105 : T18.heap.size ≤ T90.heap.size := K90.1
          obtain ⟨Ew106, fbytes_106, fsize_106, fobjects_106, fbegun_106, fdepth_106, fnamed_106, fstarted_106, Vb106, Vo106, Vg106, la_106, lb_106, lc_106⟩ := id FJ90
          have la_106 := own_lt la_106
          have lb_106 := own_lt lb_106
          have lc_106 := own_lt lc_106
          have lw106 := own_lt Ew106.lt
          have lg106 := own_lt Vg106.lt
          have ld_106 := Nat.lt_trans la_106 lb_106
          have lf_106 := Nat.lt_trans lb_106 lc_106
          have le_106 := Nat.lt_trans ld_106 lc_106
          have hTT107 : ((([] : List Int32) ++ [(34:Int32)]) ++ own_encs cl) ++ [(34:Int32)] = (tB ++ [(34:Int32)]) := by
            rw [hT2, hT1, hcl, if_pos hc334]
            split <;> simp [own_encs]
          have FJ107 : OwnJ Z T90.heap ob ba oa ga kb ko kg ((tB ++ [(34:Int32)])) (0:Int32) (0:Int32) (1:Int32) := by rw [← hTT107]; exact ⟨Ew106, fbytes_106, fsize_106, fobjects_106, fbegun_106, fdepth_106, fnamed_106, fstarted_106, Vb106, Vo106, Vg106, own_lt la_106, own_lt lb_106, own_lt lc_106⟩
          have Fv108_4 := ((((Vj.ext E13).keep K15 (ninS (own_ne (by omega)) nin0)).keep K18 nin0).keep K90 (ninS (own_ne (by omega)) (ninS (own_ne (by omega)) (ninS (own_ne (by omega)) (ninS (own_ne (by omega)) nin0)))))
          refine OwnFin.adv (B := T90.setTop (mkF m 349 #[VI va, VI vb, VI vf, VI cA, VI cB, VI bA, VI bB, VI bC, VR ca8, VR so, VR ea, VI (Int32.ofNat (tD).length), VI (Int32.ofNat ((tB ++ [(34:Int32)])).length), VR ob, VR t18, VI (1:Int32), .unset, .unset, .unset] [])) (fun _ k => XS.ifYes X18.here hx rfl (pc0 := 334) (pc' := 342) rfl (hD at_334) rfl ((if0 _ _).trans (teq hc334).1) (by decide) (by decide) (XS.aload X18.here hx rfl (hD at_342) rfl rfl (XS.aload X18.here hx rfl (hD at_344) rfl rfl (st90.trans k)))) ?_
          exact J349 (0:Int32) (0:Int32) T90.heap T90 _ (X90.mono (by decide) (by decide)) rfl N90 ((((KJ.ext E13).trans K15 (allS (Or.inr (by omega)) all0)).trans K18 all0).trans K90 (allS (Or.inr (by omega)) (allS (Or.inr (by omega)) (allS (Or.inr (by omega)) (allS (Or.inr (by omega)) all0))))) (fun q => absurd hc334 q) FJ107 Fv108_4
         ·
          have Fv111_3 := (Ew17.keep K18)
          have Fv112_3 := (fbytes_17.keep K18 nin0)
          have Fv113_3 := (fsize_17.keep K18 nin0)
          have Fv114_3 := (fobjects_17.keep K18 nin0)
          have Fv115_3 := (fbegun_17.keep K18 nin0)
          have Fv116_3 := (fdepth_17.keep K18 nin0)
          have Fv117_3 := (fnamed_17.keep K18 nin0)
          have Fv118_3 := (fstarted_17.keep K18 nin0)
          have Fv119_3 := (Vb17.keep K18 nin0)
          have Fv120_3 := (Vo17.keep K18 nin0)
          have Fv121_3 := (Vg17.keep K18 nin0)
          have J110c : OwnJ Z T18.heap ob ba oa ga kb ko kg (([] : List Int32)) (0:Int32) (0:Int32) (0:Int32) := ⟨Fv111_3, Fv112_3, Fv113_3, Fv114_3, Fv115_3, Fv116_3, Fv117_3, Fv118_3, Fv119_3, Fv120_3, Fv121_3, own_lt la_17, own_lt lb_17, own_lt lc_17⟩
          have Old122 : Old Z n0 T18.heap := (((OJ.ext E13).keep K15 (allS (by omega) all0)).keep K18 all0)
          obtain ⟨cq109, kq109, q109a, q109b, q109c⟩ := isOf hZ rfl Fv111_3
          obtain ⟨_, _, ⟨T109, L109, k109, n109⟩, -, X109, ⟨Lc109, hQ109, l109, y109, z109⟩, st109⟩ := X18.virtualBack hx (y := own_M29) (z := own_M29) hown (mvT hZ (own_w hw 143 rfl)) (mvT hZ (own_w hw 144 rfl)) (notFace_of_selects (args := #[]) (mvT hZ (own_w hw 146 rfl))) (mvT hZ (own_w hw 146 rfl)) (mvT hZ (own_w hw 145 rfl)) (by decide) (backOf (W := 0) (own_wsa l Z a0 hw [] ob ba oa ga kb ko kg (([] : List Int32)) (0:Int32)  T18.heap n0 (by omega) Old122  (own_leM lb15 (by decide)) J110c (by omega)) hZ (own_w hw 147 rfl) (own_w hw 43 rfl) (by decide) (by decide)) q109a q109c (g := (mkF m 339 #[VI va, VI vb, VI vf, VI cA, VI cB, VI bA, VI bB, VI bC, VR ca8, VR so, VR ea, VI (Int32.ofNat (tD).length), VI (Int32.ofNat ((tB ++ [(34:Int32)])).length), VR ob, VR t18, VI (1:Int32), .unset, .unset, .unset] [(.ref ob)])) rfl (by rw [hml]; rfl) (Steps.refl _) (argsL := []) (rest := []) (lenOf own_pd9 rfl) rfl (by show 2 * 0 + _ ≤ _; exact Nat.le_of_eq rfl) (hD at_339) (fun _ _ => ⟨rfl, rfl, (by decide : 10 + 0 ≤ _), (by decide : 343 + 0 ≤ _)⟩)
          dsimp only [Pt.U, Pt.locs, Pt.cells, Pt.slots] at X109 l109 y109 z109 st109 hQ109
          subst l109 y109 z109
          obtain ⟨rfl, N109q, K109, FJ109⟩ := hQ109
          have N109 := Fr.app N18 N109q
          have sz123 : T18.heap.size ≤ T109.heap.size := K109.1
          have lb109 : OwnLe ((([] : List Int32) ++ [(91:Int32)])) 1 := own_leS lb15
          obtain ⟨Ew124, fbytes_124, fsize_124, fobjects_124, fbegun_124, fdepth_124, fnamed_124, fstarted_124, Vb124, Vo124, Vg124, la_124, lb_124, lc_124⟩ := id FJ109
          have la_124 := own_lt la_124
          have lb_124 := own_lt lb_124
          have lc_124 := own_lt lc_124
          have lw124 := own_lt Ew124.lt
          have lg124 := own_lt Vg124.lt
          have ld_124 := Nat.lt_trans la_124 lb_124
          have lf_124 := Nat.lt_trans lb_124 lc_124
          have le_124 := Nat.lt_trans ld_124 lc_124
          have Fv126_4 := ((((Sj.ext E13).keep K15 (allS (by omega) all0)).keep K18 all0).keep K109 (allS (by omega) (allS (by omega) (allS (by omega) (allS (by omega) all0)))))
          have J127c : OwnJ Z T109.heap ob ba oa ga kb ko kg ((([] : List Int32) ++ [(91:Int32)])) (1:Int32) (0:Int32) (1:Int32) := ⟨Ew124, fbytes_124, fsize_124, fobjects_124, fbegun_124, fdepth_124, fnamed_124, fstarted_124, Vb124, Vo124, Vg124, own_lt la_124, own_lt lb_124, own_lt lc_124⟩
          have Old128 : Old Z n0 T109.heap := (Old122.keep K109 (allS (by omega) (allS (by omega) (allS (by omega) (allS (by omega) all0)))))
          obtain ⟨cq125, kq125, q125a, q125b, q125c⟩ := isOf hZ rfl Ew124
          obtain ⟨_, _, ⟨T125, L125, k125, n125⟩, -, X125, ⟨Lc125, hQ125, l125, y125, z125⟩, st125⟩ := X109.virtualBack hx (y := own_M14) (z := own_M14) hown (mvT hZ (own_w hw 74 rfl)) (mvT hZ (own_w hw 75 rfl)) (notFace_of_selects (args := #[]) (mvT hZ (own_w hw 77 rfl))) (mvT hZ (own_w hw 77 rfl)) (mvT hZ (own_w hw 76 rfl)) (by decide) (backOf (W := 0) (own_ws1 l Z a0 hw [] ob ba oa ga kb ko kg ((([] : List Int32) ++ [(91:Int32)])) (1:Int32) so zc fm lim cl hxa kx T109.heap n0 (by omega) Old128 SCS hzc SFM rfm SAD SHI SLO Sh Vh Fv126_4 (by omega) hcs (own_leM lb109 (by decide)) J127c (by omega)) hZ (own_w hw 78 rfl) (own_w hw 43 rfl) (by decide) (by decide)) q125a q125c (g := (mkF m 346 #[VI va, VI vb, VI vf, VI cA, VI cB, VI bA, VI bB, VI bC, VR ca8, VR so, VR ea, VI (Int32.ofNat (tD).length), VI (Int32.ofNat ((tB ++ [(34:Int32)])).length), VR ob, VR t18, VI (1:Int32), .unset, .unset, .unset] [(.ref so), (.ref ob)])) rfl (by rw [hml]; rfl) (Steps.refl _) (argsL := [(.ref so)]) (rest := []) (lenOf own_pd17 rfl) rfl (by show 2 * 0 + _ ≤ _; exact Nat.le_of_eq rfl) (hD at_346) (fun _ _ => ⟨rfl, rfl, (by decide : 10 + 0 ≤ _), (by decide : 343 + 0 ≤ _)⟩)
          dsimp only [Pt.U, Pt.locs, Pt.cells, Pt.slots] at X125 l125 y125 z125 st125 hQ125
          subst l125 y125 z125
          obtain ⟨rfl, N125q, K125, FJ125⟩ := hQ125
          have N125 := Fr.app N109 N125q
          have sz129 : T109.heap.size ≤ T125.heap.size := K125.1
          obtain ⟨Ew130, fbytes_130, fsize_130, fobjects_130, fbegun_130, fdepth_130, fnamed_130, fstarted_130, Vb130, Vo130, Vg130, la_130, lb_130, lc_130⟩ := id FJ125
          have la_130 := own_lt la_130
          have lb_130 := own_lt lb_130
          have lc_130 := own_lt lc_130
          have lw130 := own_lt Ew130.lt
          have lg130 := own_lt Vg130.lt
          have ld_130 := Nat.lt_trans la_130 lb_130
          have lf_130 := Nat.lt_trans lb_130 lc_130
          have le_130 := Nat.lt_trans ld_130 lc_130
          have hTT131 : (((([] : List Int32) ++ [(91:Int32)]) ++ [(34:Int32)]) ++ own_encs cl) ++ [(34:Int32)] = (tB ++ [(34:Int32)]) := by
            rw [hT2, hT1, hcl, if_neg hc334]
            split <;> simp [own_encs]
          have FJ131 : OwnJ Z T125.heap ob ba oa ga kb ko kg ((tB ++ [(34:Int32)])) (1:Int32) (1:Int32) (1:Int32) := by rw [← hTT131]; exact ⟨Ew130, fbytes_130, fsize_130, fobjects_130, fbegun_130, fdepth_130, fnamed_130, fstarted_130, Vb130, Vo130, Vg130, own_lt la_130, own_lt lb_130, own_lt lc_130⟩
          have Fv132_5 := (((((Vj.ext E13).keep K15 (ninS (own_ne (by omega)) nin0)).keep K18 nin0).keep K109 (ninS (own_ne (by omega)) (ninS (own_ne (by omega)) (ninS (own_ne (by omega)) (ninS (own_ne (by omega)) nin0))))).keep K125 (ninS (own_ne (by omega)) (ninS (own_ne (by omega)) (ninS (own_ne (by omega)) (ninS (own_ne (by omega)) nin0)))))
          refine OwnFin.adv (B := T125.setTop (mkF m 349 #[VI va, VI vb, VI vf, VI cA, VI cB, VI bA, VI bB, VI bC, VR ca8, VR so, VR ea, VI (Int32.ofNat (tD).length), VI (Int32.ofNat ((tB ++ [(34:Int32)])).length), VR ob, VR t18, VI (1:Int32), .unset, .unset, .unset] [])) (fun _ k => XS.ifNo X18.here hx rfl (hD at_334) rfl ((if0 _ _).trans (feq hc334).1) (XS.aload X18.here hx rfl (hD at_337) rfl rfl (st109.trans (XS.aload X109.here hx rfl (hD at_342) rfl rfl (XS.aload X109.here hx rfl (hD at_344) rfl rfl (st125.trans k)))))) ?_
          exact J349 (1:Int32) (1:Int32) T125.heap T125 _ (X125.mono (by decide) (by decide)) rfl N125 (((((KJ.ext E13).trans K15 (allS (Or.inr (by omega)) all0)).trans K18 all0).trans K109 (allS (Or.inr (by omega)) (allS (Or.inr (by omega)) (allS (Or.inr (by omega)) (allS (Or.inr (by omega)) all0))))).trans K125 (allS (Or.inr (by omega)) (allS (Or.inr (by omega)) (allS (Or.inr (by omega)) (allS (Or.inr (by omega)) all0))))) (fun _ => ⟨rfl, rfl⟩) FJ131 Fv132_5
        by_cases hc177 : bA = (0:Int32)
        ·
         have Fv133_1 := (Sj.wr W11 (by omega))
         refine OwnFin.adv (B := T11.setTop (mkF m 303 #[VI va, VI vb, VI vf, VI cA, VI cB, VI bA, VI bB, VI bC, VR ca8, VR so, VR ea, VI (Int32.ofNat ((tB ++ [(34:Int32)])).length), VI (Int32.ofNat ((tB ++ [(34:Int32)])).length), .unset, .unset, .unset, .unset, .unset, .unset] [])) (fun _ k => XS.ifYes X11.here hx rfl (pc0 := 177) (pc' := 303) rfl (hD at_177) rfl ((if0 _ _).trans (teq hc177).1) (by decide) (by decide) k) ?_
         exact J303 ((tB ++ [(34:Int32)])) h11 T11 _ (X11.mono (by decide) (by decide)) e11 N11 (KJ.wr W11 (Or.inr (by omega))) (by rw [if_pos hc177]) Fv133_1 V11
        ·
         obtain ⟨cl134, Ar134, ck134, S134, M134, H134, G134⟩ := id V11
         have hin134 := own_in24 (n := ((tB ++ [(34:Int32)])).length) S134 (own_leI lb11 (by decide))
         obtain ⟨T134, h134, X134, e134, W134, st134⟩ := stB X11 hx hZ e11 Ar134 (j := (Int32.ofNat ((tB ++ [(34:Int32)])).length)) hin134 (g := (mkF m 186 #[VI va, VI vb, VI vf, VI cA, VI cB, VI bA, VI bB, VI bC, VR ca8, VR so, VR ea, VI (Int32.ofNat ((tB ++ [(34:Int32)])).length), VI (Int32.ofNat ((tB ++ [(34:Int32)])).length), .unset, .unset, .unset, .unset, .unset, .unset] [(.int 44), (.int (Int32.ofNat ((tB ++ [(34:Int32)])).length)), (.ref ea)])) rfl rfl (hD at_186)
         have V134 : Arv Z h134 ea ke .byte (24:Int32) ((((tB ++ [(34:Int32)]) ++ [(44:Int32)])).map Value.int) (.int 0) := own_push V11 W134 (by decide) (own_leL lb11 (by decide))
         have lb134 : OwnLe ((tB ++ [(34:Int32)]) ++ [(44:Int32)]) 16 := own_leS lb11
         have sz135 : h11.size ≤ h134.size := Nat.le_of_eq W134.size.symm
         have N134 := Fr.snoc X134 N11 (by omega : n0 ≤ ea)
         refine OwnFin.adv (B := T134.setTop (mkF m 193 #[VI va, VI vb, VI vf, VI cA, VI cB, VI bA, VI bB, VI bC, VR ca8, VR so, VR ea, VI ((Int32.ofNat ((tB ++ [(34:Int32)])).length) + (1:Int32)), VI (Int32.ofNat ((tB ++ [(34:Int32)])).length), .unset, .unset, .unset, .unset, .unset, .unset] [])) (fun _ k => XS.ifNo X11.here hx rfl (hD at_177) rfl ((if0 _ _).trans (feq hc177).1) (XS.aload X11.here hx rfl (hD at_180) rfl rfl (XS.iload X11.here hx rfl (hD at_182) rfl (XS.bipush X11.here hx rfl (hD at_184) (st134 _ (XS.iload X134.here hx rfl (hD at_187) rfl (XS.iconst X134.here hx rfl (hD at_189) (XS.iadd X134.here hx rfl (hD at_190) rfl (XS.istore X134.here hx rfl (hD at_191) rfl (l' := #[VI va, VI vb, VI vf, VI cA, VI cB, VI bA, VI bB, VI bC, VR ca8, VR so, VR ea, VI ((Int32.ofNat ((tB ++ [(34:Int32)])).length) + (1:Int32)), VI (Int32.ofNat ((tB ++ [(34:Int32)])).length), .unset, .unset, .unset, .unset, .unset, .unset]) rfl k))))))))) ?_
         rw [show (((Int32.ofNat ((tB ++ [(34:Int32)])).length) + (1:Int32)) : Int32) = (Int32.ofNat (((tB ++ [(34:Int32)]) ++ [(44:Int32)])).length) from own_pk (by simp)]
         refine OwnFin.adv (B := T134.setTop (mkF m 195 #[VI va, VI vb, VI vf, VI cA, VI cB, VI bA, VI bB, VI bC, VR ca8, VR so, VR ea, VI (Int32.ofNat (((tB ++ [(34:Int32)]) ++ [(44:Int32)])).length), VI (Int32.ofNat ((tB ++ [(34:Int32)])).length), .unset, .unset, .unset, .unset, .unset, .unset] [(.int bB)])) (fun _ k => XS.iload X134.here hx rfl (hD at_193) rfl k) ?_
         have J290 : ∀ (tC : List Int32) (hJ : Heap) (TJ : State) (LJ : List Loc) (XJ : Stand p l e room_1 s m #[(.int va), (.int vb), (.int vf)] below meth c TJ LJ 5 40) (eJ : TJ.heap = hJ) (NJ : Fr n0 LJ) (KJ : Keep h0 hJ []) (hT3 : tC = ((tB ++ [(34:Int32)]) ++ [(44:Int32)]) ++ (if bB = 0 then [(102:Int32), (97:Int32), (108:Int32), (115:Int32), (101:Int32)] else [(116:Int32), (114:Int32), (117:Int32), (101:Int32)])) (Sj : OwnS Z hJ lim so cl) (Vj : Arv Z hJ ea ke .byte (24:Int32) ((tC).map Value.int) (.int 0)), OwnFin p.tables e below P' (TJ.setTop (mkF m 290 #[VI va, VI vb, VI vf, VI cA, VI cB, VI bA, VI bB, VI bC, VR ca8, VR so, VR ea, VI (Int32.ofNat (tC).length), VI (Int32.ofNat ((tB ++ [(34:Int32)])).length), .unset, .unset, .unset, .unset, .unset, .unset] [])) := by
          intro tC hJ TJ LJ XJ eJ NJ KJ hT3 Sj Vj
          have szJ : h0.size ≤ hJ.size := KJ.1
          have OJ : Old Z n0 hJ := O0.keep KJ all0
          have lb_tC : OwnLe tC 21 := by rw [hT3]; exact own_leA (own_leS (own_leS lb_tB)) (own_btL bB)
          have lt_ea := own_lt Vj.lt
          obtain ⟨cl136, Ar136, ck136, S136, M136, H136, G136⟩ := id Vj
          have hin136 := own_in24 (n := (tC).length) S136 (own_leI lb_tC (by decide))
          obtain ⟨T136, h136, X136, e136, W136, st136⟩ := stB XJ hx hZ eJ Ar136 (j := (Int32.ofNat (tC).length)) hin136 (g := (mkF m 296 #[VI va, VI vb, VI vf, VI cA, VI cB, VI bA, VI bB, VI bC, VR ca8, VR so, VR ea, VI (Int32.ofNat (tC).length), VI (Int32.ofNat ((tB ++ [(34:Int32)])).length), .unset, .unset, .unset, .unset, .unset, .unset] [(.int 93), (.int (Int32.ofNat (tC).length)), (.ref ea)])) rfl rfl (hD at_296)
          have V136 : Arv Z h136 ea ke .byte (24:Int32) (((tC ++ [(93:Int32)])).map Value.int) (.int 0) := own_push Vj W136 (by decide) (own_leL lb_tC (by decide))
          have lb136 : OwnLe (tC ++ [(93:Int32)]) 22 := own_leS lb_tC
          have sz137 : hJ.size ≤ h136.size := Nat.le_of_eq W136.size.symm
          have N136 := Fr.snoc X136 NJ (by omega : n0 ≤ ea)
          refine OwnFin.adv (B := T136.setTop (mkF m 303 #[VI va, VI vb, VI vf, VI cA, VI cB, VI bA, VI bB, VI bC, VR ca8, VR so, VR ea, VI ((Int32.ofNat (tC).length) + (1:Int32)), VI (Int32.ofNat ((tB ++ [(34:Int32)])).length), .unset, .unset, .unset, .unset, .unset, .unset] [])) (fun _ k => XS.aload XJ.here hx rfl (hD at_290) rfl rfl (XS.iload XJ.here hx rfl (hD at_292) rfl (XS.bipush XJ.here hx rfl (hD at_294) (st136 _ (XS.iload X136.here hx rfl (hD at_297) rfl (XS.iconst X136.here hx rfl (hD at_299) (XS.iadd X136.here hx rfl (hD at_300) rfl (XS.istore X136.here hx rfl (hD at_301) rfl (l' := #[VI va, VI vb, VI vf, VI cA, VI cB, VI bA, VI bB, VI bC, VR ca8, VR so, VR ea, VI ((Int32.ofNat (tC).length) + (1:Int32)), VI (Int32.ofNat ((tB ++ [(34:Int32)])).length), .unset, .unset, .unset, .unset, .unset, .unset]) rfl k)))))))) ?_
          rw [show (((Int32.ofNat (tC).length) + (1:Int32)) : Int32) = (Int32.ofNat ((tC ++ [(93:Int32)])).length) from own_pk (by simp)]
          have Fv138_1 := (Sj.wr W136 (by omega))
          exact J303 ((tC ++ [(93:Int32)])) h136 T136 _ (X136.mono (by decide) (by decide)) e136 N136 (KJ.wr W136 (Or.inr (by omega))) (by rw [if_neg hc177, hT3]) Fv138_1 V136
         by_cases hc195 : bB = (0:Int32)
         ·
          obtain ⟨cl139, Ar139, ck139, S139, M139, H139, G139⟩ := id V134
          have hin139 := own_in24 (n := (((tB ++ [(34:Int32)]) ++ [(44:Int32)])).length) S139 (own_leI lb134 (by decide))
          obtain ⟨T139, h139, X139, e139, W139, st139⟩ := stB X134 hx hZ e134 Ar139 (j := (Int32.ofNat (((tB ++ [(34:Int32)]) ++ [(44:Int32)])).length)) hin139 (g := (mkF m 247 #[VI va, VI vb, VI vf, VI cA, VI cB, VI bA, VI bB, VI bC, VR ca8, VR so, VR ea, VI (Int32.ofNat (((tB ++ [(34:Int32)]) ++ [(44:Int32)])).length), VI (Int32.ofNat ((tB ++ [(34:Int32)])).length), .unset, .unset, .unset, .unset, .unset, .unset] [(.int 102), (.int (Int32.ofNat (((tB ++ [(34:Int32)]) ++ [(44:Int32)])).length)), (.ref ea)])) rfl rfl (hD at_247)
          have V139 : Arv Z h139 ea ke .byte (24:Int32) (((((tB ++ [(34:Int32)]) ++ [(44:Int32)]) ++ [(102:Int32)])).map Value.int) (.int 0) := own_push V134 W139 (by decide) (own_leL lb134 (by decide))
          have lb139 : OwnLe (((tB ++ [(34:Int32)]) ++ [(44:Int32)]) ++ [(102:Int32)]) 17 := own_leS lb134
          have sz140 : h134.size ≤ h139.size := Nat.le_of_eq W139.size.symm
          have N139 := Fr.snoc X139 N134 (by omega : n0 ≤ ea)
          refine OwnFin.adv (B := T139.setTop (mkF m 256 #[VI va, VI vb, VI vf, VI cA, VI cB, VI bA, VI bB, VI bC, VR ca8, VR so, VR ea, VI (Int32.ofNat (((tB ++ [(34:Int32)]) ++ [(44:Int32)])).length), VI (Int32.ofNat ((tB ++ [(34:Int32)])).length), .unset, .unset, .unset, .unset, .unset, .unset] [(.int 97), (.int ((Int32.ofNat (((tB ++ [(34:Int32)]) ++ [(44:Int32)])).length) + (1:Int32))), (.ref ea)])) (fun _ k => XS.ifYes X134.here hx rfl (pc0 := 195) (pc' := 241) rfl (hD at_195) rfl ((if0 _ _).trans (teq hc195).1) (by decide) (by decide) (XS.aload X134.here hx rfl (hD at_241) rfl rfl (XS.iload X134.here hx rfl (hD at_243) rfl (XS.bipush X134.here hx rfl (hD at_245) (st139 _ (XS.aload X139.here hx rfl (hD at_248) rfl rfl (XS.iload X139.here hx rfl (hD at_250) rfl (XS.iconst X139.here hx rfl (hD at_252) (XS.iadd X139.here hx rfl (hD at_253) rfl (XS.bipush X139.here hx rfl (hD at_254) k)))))))))) ?_
          rw [show (((Int32.ofNat (((tB ++ [(34:Int32)]) ++ [(44:Int32)])).length) + (1:Int32)) : Int32) = (Int32.ofNat ((((tB ++ [(34:Int32)]) ++ [(44:Int32)]) ++ [(102:Int32)])).length) from own_pk (by simp)]
          obtain ⟨cl141, Ar141, ck141, S141, M141, H141, G141⟩ := id V139
          have hin141 := own_in24 (n := ((((tB ++ [(34:Int32)]) ++ [(44:Int32)]) ++ [(102:Int32)])).length) S141 (own_leI lb139 (by decide))
          obtain ⟨T141, h141, X141, e141, W141, st141⟩ := stB X139 hx hZ e139 Ar141 (j := (Int32.ofNat ((((tB ++ [(34:Int32)]) ++ [(44:Int32)]) ++ [(102:Int32)])).length)) hin141 (g := (mkF m 256 #[VI va, VI vb, VI vf, VI cA, VI cB, VI bA, VI bB, VI bC, VR ca8, VR so, VR ea, VI (Int32.ofNat (((tB ++ [(34:Int32)]) ++ [(44:Int32)])).length), VI (Int32.ofNat ((tB ++ [(34:Int32)])).length), .unset, .unset, .unset, .unset, .unset, .unset] [(.int 97), (.int (Int32.ofNat ((((tB ++ [(34:Int32)]) ++ [(44:Int32)]) ++ [(102:Int32)])).length)), (.ref ea)])) rfl rfl (hD at_256)
          have V141 : Arv Z h141 ea ke .byte (24:Int32) ((((((tB ++ [(34:Int32)]) ++ [(44:Int32)]) ++ [(102:Int32)]) ++ [(97:Int32)])).map Value.int) (.int 0) := own_push V139 W141 (by decide) (own_leL lb139 (by decide))
          have lb141 : OwnLe ((((tB ++ [(34:Int32)]) ++ [(44:Int32)]) ++ [(102:Int32)]) ++ [(97:Int32)]) 18 := own_leS lb139
          have sz142 : h139.size ≤ h141.size := Nat.le_of_eq W141.size.symm
          have N141 := Fr.snoc X141 N139 (by omega : n0 ≤ ea)
          refine OwnFin.adv (B := T141.setTop (mkF m 265 #[VI va, VI vb, VI vf, VI cA, VI cB, VI bA, VI bB, VI bC, VR ca8, VR so, VR ea, VI (Int32.ofNat (((tB ++ [(34:Int32)]) ++ [(44:Int32)])).length), VI (Int32.ofNat ((tB ++ [(34:Int32)])).length), .unset, .unset, .unset, .unset, .unset, .unset] [(.int 108), (.int ((Int32.ofNat (((tB ++ [(34:Int32)]) ++ [(44:Int32)])).length) + (2:Int32))), (.ref ea)])) (fun _ k => st141 _ (XS.aload X141.here hx rfl (hD at_257) rfl rfl (XS.iload X141.here hx rfl (hD at_259) rfl (XS.iconst X141.here hx rfl (hD at_261) (XS.iadd X141.here hx rfl (hD at_262) rfl (XS.bipush X141.here hx rfl (hD at_263) k)))))) ?_
          rw [show (((Int32.ofNat (((tB ++ [(34:Int32)]) ++ [(44:Int32)])).length) + (2:Int32)) : Int32) = (Int32.ofNat (((((tB ++ [(34:Int32)]) ++ [(44:Int32)]) ++ [(102:Int32)]) ++ [(97:Int32)])).length) from own_pk (by simp)]
          obtain ⟨cl143, Ar143, ck143, S143, M143, H143, G143⟩ := id V141
          have hin143 := own_in24 (n := (((((tB ++ [(34:Int32)]) ++ [(44:Int32)]) ++ [(102:Int32)]) ++ [(97:Int32)])).length) S143 (own_leI lb141 (by decide))
          obtain ⟨T143, h143, X143, e143, W143, st143⟩ := stB X141 hx hZ e141 Ar143 (j := (Int32.ofNat (((((tB ++ [(34:Int32)]) ++ [(44:Int32)]) ++ [(102:Int32)]) ++ [(97:Int32)])).length)) hin143 (g := (mkF m 265 #[VI va, VI vb, VI vf, VI cA, VI cB, VI bA, VI bB, VI bC, VR ca8, VR so, VR ea, VI (Int32.ofNat (((tB ++ [(34:Int32)]) ++ [(44:Int32)])).length), VI (Int32.ofNat ((tB ++ [(34:Int32)])).length), .unset, .unset, .unset, .unset, .unset, .unset] [(.int 108), (.int (Int32.ofNat (((((tB ++ [(34:Int32)]) ++ [(44:Int32)]) ++ [(102:Int32)]) ++ [(97:Int32)])).length)), (.ref ea)])) rfl rfl (hD at_265)
          have V143 : Arv Z h143 ea ke .byte (24:Int32) (((((((tB ++ [(34:Int32)]) ++ [(44:Int32)]) ++ [(102:Int32)]) ++ [(97:Int32)]) ++ [(108:Int32)])).map Value.int) (.int 0) := own_push V141 W143 (by decide) (own_leL lb141 (by decide))
          have lb143 : OwnLe (((((tB ++ [(34:Int32)]) ++ [(44:Int32)]) ++ [(102:Int32)]) ++ [(97:Int32)]) ++ [(108:Int32)]) 19 := own_leS lb141
          have sz144 : h141.size ≤ h143.size := Nat.le_of_eq W143.size.symm
          have N143 := Fr.snoc X143 N141 (by omega : n0 ≤ ea)
          refine OwnFin.adv (B := T143.setTop (mkF m 274 #[VI va, VI vb, VI vf, VI cA, VI cB, VI bA, VI bB, VI bC, VR ca8, VR so, VR ea, VI (Int32.ofNat (((tB ++ [(34:Int32)]) ++ [(44:Int32)])).length), VI (Int32.ofNat ((tB ++ [(34:Int32)])).length), .unset, .unset, .unset, .unset, .unset, .unset] [(.int 115), (.int ((Int32.ofNat (((tB ++ [(34:Int32)]) ++ [(44:Int32)])).length) + (3:Int32))), (.ref ea)])) (fun _ k => st143 _ (XS.aload X143.here hx rfl (hD at_266) rfl rfl (XS.iload X143.here hx rfl (hD at_268) rfl (XS.iconst X143.here hx rfl (hD at_270) (XS.iadd X143.here hx rfl (hD at_271) rfl (XS.bipush X143.here hx rfl (hD at_272) k)))))) ?_
          rw [show (((Int32.ofNat (((tB ++ [(34:Int32)]) ++ [(44:Int32)])).length) + (3:Int32)) : Int32) = (Int32.ofNat ((((((tB ++ [(34:Int32)]) ++ [(44:Int32)]) ++ [(102:Int32)]) ++ [(97:Int32)]) ++ [(108:Int32)])).length) from own_pk (by simp)]
          obtain ⟨cl145, Ar145, ck145, S145, M145, H145, G145⟩ := id V143
          have hin145 := own_in24 (n := ((((((tB ++ [(34:Int32)]) ++ [(44:Int32)]) ++ [(102:Int32)]) ++ [(97:Int32)]) ++ [(108:Int32)])).length) S145 (own_leI lb143 (by decide))
          obtain ⟨T145, h145, X145, e145, W145, st145⟩ := stB X143 hx hZ e143 Ar145 (j := (Int32.ofNat ((((((tB ++ [(34:Int32)]) ++ [(44:Int32)]) ++ [(102:Int32)]) ++ [(97:Int32)]) ++ [(108:Int32)])).length)) hin145 (g := (mkF m 274 #[VI va, VI vb, VI vf, VI cA, VI cB, VI bA, VI bB, VI bC, VR ca8, VR so, VR ea, VI (Int32.ofNat (((tB ++ [(34:Int32)]) ++ [(44:Int32)])).length), VI (Int32.ofNat ((tB ++ [(34:Int32)])).length), .unset, .unset, .unset, .unset, .unset, .unset] [(.int 115), (.int (Int32.ofNat ((((((tB ++ [(34:Int32)]) ++ [(44:Int32)]) ++ [(102:Int32)]) ++ [(97:Int32)]) ++ [(108:Int32)])).length)), (.ref ea)])) rfl rfl (hD at_274)
          have V145 : Arv Z h145 ea ke .byte (24:Int32) ((((((((tB ++ [(34:Int32)]) ++ [(44:Int32)]) ++ [(102:Int32)]) ++ [(97:Int32)]) ++ [(108:Int32)]) ++ [(115:Int32)])).map Value.int) (.int 0) := own_push V143 W145 (by decide) (own_leL lb143 (by decide))
          have lb145 : OwnLe ((((((tB ++ [(34:Int32)]) ++ [(44:Int32)]) ++ [(102:Int32)]) ++ [(97:Int32)]) ++ [(108:Int32)]) ++ [(115:Int32)]) 20 := own_leS lb143
          have sz146 : h143.size ≤ h145.size := Nat.le_of_eq W145.size.symm
          have N145 := Fr.snoc X145 N143 (by omega : n0 ≤ ea)
          refine OwnFin.adv (B := T145.setTop (mkF m 283 #[VI va, VI vb, VI vf, VI cA, VI cB, VI bA, VI bB, VI bC, VR ca8, VR so, VR ea, VI (Int32.ofNat (((tB ++ [(34:Int32)]) ++ [(44:Int32)])).length), VI (Int32.ofNat ((tB ++ [(34:Int32)])).length), .unset, .unset, .unset, .unset, .unset, .unset] [(.int 101), (.int ((Int32.ofNat (((tB ++ [(34:Int32)]) ++ [(44:Int32)])).length) + (4:Int32))), (.ref ea)])) (fun _ k => st145 _ (XS.aload X145.here hx rfl (hD at_275) rfl rfl (XS.iload X145.here hx rfl (hD at_277) rfl (XS.iconst X145.here hx rfl (hD at_279) (XS.iadd X145.here hx rfl (hD at_280) rfl (XS.bipush X145.here hx rfl (hD at_281) k)))))) ?_
          rw [show (((Int32.ofNat (((tB ++ [(34:Int32)]) ++ [(44:Int32)])).length) + (4:Int32)) : Int32) = (Int32.ofNat (((((((tB ++ [(34:Int32)]) ++ [(44:Int32)]) ++ [(102:Int32)]) ++ [(97:Int32)]) ++ [(108:Int32)]) ++ [(115:Int32)])).length) from own_pk (by simp)]
          obtain ⟨cl147, Ar147, ck147, S147, M147, H147, G147⟩ := id V145
          have hin147 := own_in24 (n := (((((((tB ++ [(34:Int32)]) ++ [(44:Int32)]) ++ [(102:Int32)]) ++ [(97:Int32)]) ++ [(108:Int32)]) ++ [(115:Int32)])).length) S147 (own_leI lb145 (by decide))
          obtain ⟨T147, h147, X147, e147, W147, st147⟩ := stB X145 hx hZ e145 Ar147 (j := (Int32.ofNat (((((((tB ++ [(34:Int32)]) ++ [(44:Int32)]) ++ [(102:Int32)]) ++ [(97:Int32)]) ++ [(108:Int32)]) ++ [(115:Int32)])).length)) hin147 (g := (mkF m 283 #[VI va, VI vb, VI vf, VI cA, VI cB, VI bA, VI bB, VI bC, VR ca8, VR so, VR ea, VI (Int32.ofNat (((tB ++ [(34:Int32)]) ++ [(44:Int32)])).length), VI (Int32.ofNat ((tB ++ [(34:Int32)])).length), .unset, .unset, .unset, .unset, .unset, .unset] [(.int 101), (.int (Int32.ofNat (((((((tB ++ [(34:Int32)]) ++ [(44:Int32)]) ++ [(102:Int32)]) ++ [(97:Int32)]) ++ [(108:Int32)]) ++ [(115:Int32)])).length)), (.ref ea)])) rfl rfl (hD at_283)
          have V147 : Arv Z h147 ea ke .byte (24:Int32) (((((((((tB ++ [(34:Int32)]) ++ [(44:Int32)]) ++ [(102:Int32)]) ++ [(97:Int32)]) ++ [(108:Int32)]) ++ [(115:Int32)]) ++ [(101:Int32)])).map Value.int) (.int 0) := own_push V145 W147 (by decide) (own_leL lb145 (by decide))
          have lb147 : OwnLe (((((((tB ++ [(34:Int32)]) ++ [(44:Int32)]) ++ [(102:Int32)]) ++ [(97:Int32)]) ++ [(108:Int32)]) ++ [(115:Int32)]) ++ [(101:Int32)]) 21 := own_leS lb145
          have sz148 : h145.size ≤ h147.size := Nat.le_of_eq W147.size.symm
          have N147 := Fr.snoc X147 N145 (by omega : n0 ≤ ea)
          refine OwnFin.adv (B := T147.setTop (mkF m 290 #[VI va, VI vb, VI vf, VI cA, VI cB, VI bA, VI bB, VI bC, VR ca8, VR so, VR ea, VI ((Int32.ofNat (((tB ++ [(34:Int32)]) ++ [(44:Int32)])).length) + (5:Int32)), VI (Int32.ofNat ((tB ++ [(34:Int32)])).length), .unset, .unset, .unset, .unset, .unset, .unset] [])) (fun _ k => st147 _ (XS.iload X147.here hx rfl (hD at_284) rfl (XS.iconst X147.here hx rfl (hD at_286) (XS.iadd X147.here hx rfl (hD at_287) rfl (XS.istore X147.here hx rfl (hD at_288) rfl (l' := #[VI va, VI vb, VI vf, VI cA, VI cB, VI bA, VI bB, VI bC, VR ca8, VR so, VR ea, VI ((Int32.ofNat (((tB ++ [(34:Int32)]) ++ [(44:Int32)])).length) + (5:Int32)), VI (Int32.ofNat ((tB ++ [(34:Int32)])).length), .unset, .unset, .unset, .unset, .unset, .unset]) rfl k))))) ?_
          rw [show (((Int32.ofNat (((tB ++ [(34:Int32)]) ++ [(44:Int32)])).length) + (5:Int32)) : Int32) = (Int32.ofNat ((((((((tB ++ [(34:Int32)]) ++ [(44:Int32)]) ++ [(102:Int32)]) ++ [(97:Int32)]) ++ [(108:Int32)]) ++ [(115:Int32)]) ++ [(101:Int32)])).length) from own_pk (by simp)]
          have Fv149_7 := (((((((Sj.wr W11 (by omega)).wr W134 (by omega)).wr W139 (by omega)).wr W141 (by omega)).wr W143 (by omega)).wr W145 (by omega)).wr W147 (by omega))
          exact J290 ((((((((tB ++ [(34:Int32)]) ++ [(44:Int32)]) ++ [(102:Int32)]) ++ [(97:Int32)]) ++ [(108:Int32)]) ++ [(115:Int32)]) ++ [(101:Int32)])) h147 T147 _ (X147.mono (by decide) (by decide)) e147 N147 (((((((KJ.wr W11 (Or.inr (by omega))).wr W134 (Or.inr (by omega))).wr W139 (Or.inr (by omega))).wr W141 (Or.inr (by omega))).wr W143 (Or.inr (by omega))).wr W145 (Or.inr (by omega))).wr W147 (Or.inr (by omega))) (by rw [if_pos hc195]; simp) Fv149_7 V147
         ·
          obtain ⟨cl150, Ar150, ck150, S150, M150, H150, G150⟩ := id V134
          have hin150 := own_in24 (n := (((tB ++ [(34:Int32)]) ++ [(44:Int32)])).length) S150 (own_leI lb134 (by decide))
          obtain ⟨T150, h150, X150, e150, W150, st150⟩ := stB X134 hx hZ e134 Ar150 (j := (Int32.ofNat (((tB ++ [(34:Int32)]) ++ [(44:Int32)])).length)) hin150 (g := (mkF m 204 #[VI va, VI vb, VI vf, VI cA, VI cB, VI bA, VI bB, VI bC, VR ca8, VR so, VR ea, VI (Int32.ofNat (((tB ++ [(34:Int32)]) ++ [(44:Int32)])).length), VI (Int32.ofNat ((tB ++ [(34:Int32)])).length), .unset, .unset, .unset, .unset, .unset, .unset] [(.int 116), (.int (Int32.ofNat (((tB ++ [(34:Int32)]) ++ [(44:Int32)])).length)), (.ref ea)])) rfl rfl (hD at_204)
          have V150 : Arv Z h150 ea ke .byte (24:Int32) (((((tB ++ [(34:Int32)]) ++ [(44:Int32)]) ++ [(116:Int32)])).map Value.int) (.int 0) := own_push V134 W150 (by decide) (own_leL lb134 (by decide))
          have lb150 : OwnLe (((tB ++ [(34:Int32)]) ++ [(44:Int32)]) ++ [(116:Int32)]) 17 := own_leS lb134
          have sz151 : h134.size ≤ h150.size := Nat.le_of_eq W150.size.symm
          have N150 := Fr.snoc X150 N134 (by omega : n0 ≤ ea)
          refine OwnFin.adv (B := T150.setTop (mkF m 213 #[VI va, VI vb, VI vf, VI cA, VI cB, VI bA, VI bB, VI bC, VR ca8, VR so, VR ea, VI (Int32.ofNat (((tB ++ [(34:Int32)]) ++ [(44:Int32)])).length), VI (Int32.ofNat ((tB ++ [(34:Int32)])).length), .unset, .unset, .unset, .unset, .unset, .unset] [(.int 114), (.int ((Int32.ofNat (((tB ++ [(34:Int32)]) ++ [(44:Int32)])).length) + (1:Int32))), (.ref ea)])) (fun _ k => XS.ifNo X134.here hx rfl (hD at_195) rfl ((if0 _ _).trans (feq hc195).1) (XS.aload X134.here hx rfl (hD at_198) rfl rfl (XS.iload X134.here hx rfl (hD at_200) rfl (XS.bipush X134.here hx rfl (hD at_202) (st150 _ (XS.aload X150.here hx rfl (hD at_205) rfl rfl (XS.iload X150.here hx rfl (hD at_207) rfl (XS.iconst X150.here hx rfl (hD at_209) (XS.iadd X150.here hx rfl (hD at_210) rfl (XS.bipush X150.here hx rfl (hD at_211) k)))))))))) ?_
          rw [show (((Int32.ofNat (((tB ++ [(34:Int32)]) ++ [(44:Int32)])).length) + (1:Int32)) : Int32) = (Int32.ofNat ((((tB ++ [(34:Int32)]) ++ [(44:Int32)]) ++ [(116:Int32)])).length) from own_pk (by simp)]
          obtain ⟨cl152, Ar152, ck152, S152, M152, H152, G152⟩ := id V150
          have hin152 := own_in24 (n := ((((tB ++ [(34:Int32)]) ++ [(44:Int32)]) ++ [(116:Int32)])).length) S152 (own_leI lb150 (by decide))
          obtain ⟨T152, h152, X152, e152, W152, st152⟩ := stB X150 hx hZ e150 Ar152 (j := (Int32.ofNat ((((tB ++ [(34:Int32)]) ++ [(44:Int32)]) ++ [(116:Int32)])).length)) hin152 (g := (mkF m 213 #[VI va, VI vb, VI vf, VI cA, VI cB, VI bA, VI bB, VI bC, VR ca8, VR so, VR ea, VI (Int32.ofNat (((tB ++ [(34:Int32)]) ++ [(44:Int32)])).length), VI (Int32.ofNat ((tB ++ [(34:Int32)])).length), .unset, .unset, .unset, .unset, .unset, .unset] [(.int 114), (.int (Int32.ofNat ((((tB ++ [(34:Int32)]) ++ [(44:Int32)]) ++ [(116:Int32)])).length)), (.ref ea)])) rfl rfl (hD at_213)
          have V152 : Arv Z h152 ea ke .byte (24:Int32) ((((((tB ++ [(34:Int32)]) ++ [(44:Int32)]) ++ [(116:Int32)]) ++ [(114:Int32)])).map Value.int) (.int 0) := own_push V150 W152 (by decide) (own_leL lb150 (by decide))
          have lb152 : OwnLe ((((tB ++ [(34:Int32)]) ++ [(44:Int32)]) ++ [(116:Int32)]) ++ [(114:Int32)]) 18 := own_leS lb150
          have sz153 : h150.size ≤ h152.size := Nat.le_of_eq W152.size.symm
          have N152 := Fr.snoc X152 N150 (by omega : n0 ≤ ea)
          refine OwnFin.adv (B := T152.setTop (mkF m 222 #[VI va, VI vb, VI vf, VI cA, VI cB, VI bA, VI bB, VI bC, VR ca8, VR so, VR ea, VI (Int32.ofNat (((tB ++ [(34:Int32)]) ++ [(44:Int32)])).length), VI (Int32.ofNat ((tB ++ [(34:Int32)])).length), .unset, .unset, .unset, .unset, .unset, .unset] [(.int 117), (.int ((Int32.ofNat (((tB ++ [(34:Int32)]) ++ [(44:Int32)])).length) + (2:Int32))), (.ref ea)])) (fun _ k => st152 _ (XS.aload X152.here hx rfl (hD at_214) rfl rfl (XS.iload X152.here hx rfl (hD at_216) rfl (XS.iconst X152.here hx rfl (hD at_218) (XS.iadd X152.here hx rfl (hD at_219) rfl (XS.bipush X152.here hx rfl (hD at_220) k)))))) ?_
          rw [show (((Int32.ofNat (((tB ++ [(34:Int32)]) ++ [(44:Int32)])).length) + (2:Int32)) : Int32) = (Int32.ofNat (((((tB ++ [(34:Int32)]) ++ [(44:Int32)]) ++ [(116:Int32)]) ++ [(114:Int32)])).length) from own_pk (by simp)]
          obtain ⟨cl154, Ar154, ck154, S154, M154, H154, G154⟩ := id V152
          have hin154 := own_in24 (n := (((((tB ++ [(34:Int32)]) ++ [(44:Int32)]) ++ [(116:Int32)]) ++ [(114:Int32)])).length) S154 (own_leI lb152 (by decide))
          obtain ⟨T154, h154, X154, e154, W154, st154⟩ := stB X152 hx hZ e152 Ar154 (j := (Int32.ofNat (((((tB ++ [(34:Int32)]) ++ [(44:Int32)]) ++ [(116:Int32)]) ++ [(114:Int32)])).length)) hin154 (g := (mkF m 222 #[VI va, VI vb, VI vf, VI cA, VI cB, VI bA, VI bB, VI bC, VR ca8, VR so, VR ea, VI (Int32.ofNat (((tB ++ [(34:Int32)]) ++ [(44:Int32)])).length), VI (Int32.ofNat ((tB ++ [(34:Int32)])).length), .unset, .unset, .unset, .unset, .unset, .unset] [(.int 117), (.int (Int32.ofNat (((((tB ++ [(34:Int32)]) ++ [(44:Int32)]) ++ [(116:Int32)]) ++ [(114:Int32)])).length)), (.ref ea)])) rfl rfl (hD at_222)
          have V154 : Arv Z h154 ea ke .byte (24:Int32) (((((((tB ++ [(34:Int32)]) ++ [(44:Int32)]) ++ [(116:Int32)]) ++ [(114:Int32)]) ++ [(117:Int32)])).map Value.int) (.int 0) := own_push V152 W154 (by decide) (own_leL lb152 (by decide))
          have lb154 : OwnLe (((((tB ++ [(34:Int32)]) ++ [(44:Int32)]) ++ [(116:Int32)]) ++ [(114:Int32)]) ++ [(117:Int32)]) 19 := own_leS lb152
          have sz155 : h152.size ≤ h154.size := Nat.le_of_eq W154.size.symm
          have N154 := Fr.snoc X154 N152 (by omega : n0 ≤ ea)
          refine OwnFin.adv (B := T154.setTop (mkF m 231 #[VI va, VI vb, VI vf, VI cA, VI cB, VI bA, VI bB, VI bC, VR ca8, VR so, VR ea, VI (Int32.ofNat (((tB ++ [(34:Int32)]) ++ [(44:Int32)])).length), VI (Int32.ofNat ((tB ++ [(34:Int32)])).length), .unset, .unset, .unset, .unset, .unset, .unset] [(.int 101), (.int ((Int32.ofNat (((tB ++ [(34:Int32)]) ++ [(44:Int32)])).length) + (3:Int32))), (.ref ea)])) (fun _ k => st154 _ (XS.aload X154.here hx rfl (hD at_223) rfl rfl (XS.iload X154.here hx rfl (hD at_225) rfl (XS.iconst X154.here hx rfl (hD at_227) (XS.iadd X154.here hx rfl (hD at_228) rfl (XS.bipush X154.here hx rfl (hD at_229) k)))))) ?_
          rw [show (((Int32.ofNat (((tB ++ [(34:Int32)]) ++ [(44:Int32)])).length) + (3:Int32)) : Int32) = (Int32.ofNat ((((((tB ++ [(34:Int32)]) ++ [(44:Int32)]) ++ [(116:Int32)]) ++ [(114:Int32)]) ++ [(117:Int32)])).length) from own_pk (by simp)]
          obtain ⟨cl156, Ar156, ck156, S156, M156, H156, G156⟩ := id V154
          have hin156 := own_in24 (n := ((((((tB ++ [(34:Int32)]) ++ [(44:Int32)]) ++ [(116:Int32)]) ++ [(114:Int32)]) ++ [(117:Int32)])).length) S156 (own_leI lb154 (by decide))
          obtain ⟨T156, h156, X156, e156, W156, st156⟩ := stB X154 hx hZ e154 Ar156 (j := (Int32.ofNat ((((((tB ++ [(34:Int32)]) ++ [(44:Int32)]) ++ [(116:Int32)]) ++ [(114:Int32)]) ++ [(117:Int32)])).length)) hin156 (g := (mkF m 231 #[VI va, VI vb, VI vf, VI cA, VI cB, VI bA, VI bB, VI bC, VR ca8, VR so, VR ea, VI (Int32.ofNat (((tB ++ [(34:Int32)]) ++ [(44:Int32)])).length), VI (Int32.ofNat ((tB ++ [(34:Int32)])).length), .unset, .unset, .unset, .unset, .unset, .unset] [(.int 101), (.int (Int32.ofNat ((((((tB ++ [(34:Int32)]) ++ [(44:Int32)]) ++ [(116:Int32)]) ++ [(114:Int32)]) ++ [(117:Int32)])).length)), (.ref ea)])) rfl rfl (hD at_231)
          have V156 : Arv Z h156 ea ke .byte (24:Int32) ((((((((tB ++ [(34:Int32)]) ++ [(44:Int32)]) ++ [(116:Int32)]) ++ [(114:Int32)]) ++ [(117:Int32)]) ++ [(101:Int32)])).map Value.int) (.int 0) := own_push V154 W156 (by decide) (own_leL lb154 (by decide))
          have lb156 : OwnLe ((((((tB ++ [(34:Int32)]) ++ [(44:Int32)]) ++ [(116:Int32)]) ++ [(114:Int32)]) ++ [(117:Int32)]) ++ [(101:Int32)]) 20 := own_leS lb154
          have sz157 : h154.size ≤ h156.size := Nat.le_of_eq W156.size.symm
          have N156 := Fr.snoc X156 N154 (by omega : n0 ≤ ea)
          refine OwnFin.adv (B := T156.setTop (mkF m 290 #[VI va, VI vb, VI vf, VI cA, VI cB, VI bA, VI bB, VI bC, VR ca8, VR so, VR ea, VI ((Int32.ofNat (((tB ++ [(34:Int32)]) ++ [(44:Int32)])).length) + (4:Int32)), VI (Int32.ofNat ((tB ++ [(34:Int32)])).length), .unset, .unset, .unset, .unset, .unset, .unset] [])) (fun _ k => st156 _ (XS.iload X156.here hx rfl (hD at_232) rfl (XS.iconst X156.here hx rfl (hD at_234) (XS.iadd X156.here hx rfl (hD at_235) rfl (XS.istore X156.here hx rfl (hD at_236) rfl (l' := #[VI va, VI vb, VI vf, VI cA, VI cB, VI bA, VI bB, VI bC, VR ca8, VR so, VR ea, VI ((Int32.ofNat (((tB ++ [(34:Int32)]) ++ [(44:Int32)])).length) + (4:Int32)), VI (Int32.ofNat ((tB ++ [(34:Int32)])).length), .unset, .unset, .unset, .unset, .unset, .unset]) rfl (XS.goto X156.here hx rfl (pc0 := 238) (pc' := 290) rfl (hD at_238) (by decide) (by decide) k)))))) ?_
          rw [show (((Int32.ofNat (((tB ++ [(34:Int32)]) ++ [(44:Int32)])).length) + (4:Int32)) : Int32) = (Int32.ofNat (((((((tB ++ [(34:Int32)]) ++ [(44:Int32)]) ++ [(116:Int32)]) ++ [(114:Int32)]) ++ [(117:Int32)]) ++ [(101:Int32)])).length) from own_pk (by simp)]
          have Fv158_6 := ((((((Sj.wr W11 (by omega)).wr W134 (by omega)).wr W150 (by omega)).wr W152 (by omega)).wr W154 (by omega)).wr W156 (by omega))
          exact J290 (((((((tB ++ [(34:Int32)]) ++ [(44:Int32)]) ++ [(116:Int32)]) ++ [(114:Int32)]) ++ [(117:Int32)]) ++ [(101:Int32)])) h156 T156 _ (X156.mono (by decide) (by decide)) e156 N156 ((((((KJ.wr W11 (Or.inr (by omega))).wr W134 (Or.inr (by omega))).wr W150 (Or.inr (by omega))).wr W152 (Or.inr (by omega))).wr W154 (Or.inr (by omega))).wr W156 (Or.inr (by omega))) (by rw [if_neg hc195]; simp) Fv158_6 V156
       by_cases hc144 : bC = (0:Int32)
       ·
        obtain ⟨_, _, ⟨T159, L159, k159, n159⟩, -, X159, ⟨Lc159, hQ159, l159, y159, z159⟩, st159⟩ := Jvm.LawKit.callS X9 hx (y := own_M7) hown (mvT hZ (own_w hw 31 rfl)) (mvT hZ (own_w hw 32 rfl)) (mvT hZ (own_w hw 33 rfl)) (mvT hZ (own_w hw 34 rfl)) (by decide) (backOf (W := 0) (own_enc0 l Z a0 hw [] ea ke (((tA ++ [(34:Int32)]) ++ own_enc cA)) cB T9.heap n0 (by omega) Ve9 (by omega) (own_leM (own_leA lb7 (own_encL cA)) (by decide))) hZ (own_w hw 34 rfl) (own_w hw 33 rfl) (by decide) (by decide)) (g := (mkF m 153 #[VI va, VI vb, VI vf, VI cA, VI cB, VI bA, VI bB, VI bC, VR ca8, VR so, VR ea, VI (Int32.ofNat (((tA ++ [(34:Int32)]) ++ own_enc cA)).length), .unset, .unset, .unset, .unset, .unset, .unset, .unset] [(.int cB), (.int (Int32.ofNat (((tA ++ [(34:Int32)]) ++ own_enc cA)).length)), (.ref ea)])) rfl (by rw [hml]; rfl) (argsL := [(.ref ea), (.int (Int32.ofNat (((tA ++ [(34:Int32)]) ++ own_enc cA)).length)), (.int cB)]) (rest := []) (lenOf own_pd21 rfl) rfl (by show 2 * 0 + _ ≤ _; exact Nat.le_of_eq rfl) (hD at_153) (fun _ _ => ⟨rfl, rfl, (by decide : 5 + 0 ≤ _), (by decide : 40 + 0 ≤ _)⟩)
        dsimp only [Pt.U, Pt.locs, Pt.cells, Pt.slots] at X159 l159 y159 z159 st159 hQ159
        subst l159 y159 z159
        obtain ⟨rfl, N159q, K159, Ve159⟩ := hQ159
        have N159 := Fr.app N9 N159q
        have sz160 : T9.heap.size ≤ T159.heap.size := K159.1
        have Fv161_3 := (((Sj.wr W7 (by omega)).keep K9 (allS (by omega) all0)).keep K159 (allS (by omega) all0))
        refine OwnFin.adv (B := T159.setTop (mkF m 158 #[VI va, VI vb, VI vf, VI cA, VI cB, VI bA, VI bB, VI bC, VR ca8, VR so, VR ea, VI (Int32.ofNat ((((tA ++ [(34:Int32)]) ++ own_enc cA) ++ own_enc cB)).length), .unset, .unset, .unset, .unset, .unset, .unset, .unset] [])) (fun _ k => XS.ifNo X9.here hx rfl (hD at_144) rfl ((if0 _ _).trans (teq hc144).2) (XS.aload X9.here hx rfl (hD at_147) rfl rfl (XS.iload X9.here hx rfl (hD at_149) rfl (XS.iload X9.here hx rfl (hD at_151) rfl (st159 _ (XS.istore X159.here hx rfl (hD at_156) rfl (l' := #[VI va, VI vb, VI vf, VI cA, VI cB, VI bA, VI bB, VI bC, VR ca8, VR so, VR ea, VI (Int32.ofNat ((((tA ++ [(34:Int32)]) ++ own_enc cA) ++ own_enc cB)).length), .unset, .unset, .unset, .unset, .unset, .unset, .unset]) rfl k)))))) ?_
        exact J158 ((((tA ++ [(34:Int32)]) ++ own_enc cA) ++ own_enc cB)) T159.heap T159 _ (X159.mono (by decide) (by decide)) rfl N159 (((KJ.wr W7 (Or.inr (by omega))).trans K9 (allS (Or.inr (by omega)) all0)).trans K159 (allS (Or.inr (by omega)) all0)) (by rw [if_pos hc144]) Fv161_3 Ve159
       ·
        have Fv162_2 := ((Sj.wr W7 (by omega)).keep K9 (allS (by omega) all0))
        refine OwnFin.adv (B := T9.setTop (mkF m 158 #[VI va, VI vb, VI vf, VI cA, VI cB, VI bA, VI bB, VI bC, VR ca8, VR so, VR ea, VI (Int32.ofNat (((tA ++ [(34:Int32)]) ++ own_enc cA)).length), .unset, .unset, .unset, .unset, .unset, .unset, .unset] [])) (fun _ k => XS.ifYes X9.here hx rfl (pc0 := 144) (pc' := 158) rfl (hD at_144) rfl ((if0 _ _).trans (feq hc144).2) (by decide) (by decide) k) ?_
        exact J158 (((tA ++ [(34:Int32)]) ++ own_enc cA)) T9.heap T9 _ (X9.mono (by decide) (by decide)) rfl N9 ((KJ.wr W7 (Or.inr (by omega))).trans K9 (allS (Or.inr (by omega)) all0)) (by rw [if_neg hc144]) Fv162_2 Ve9
      by_cases hc103 : bA = (0:Int32)
      ·
       have Fv163_1 := (Sj.ext E4)
       refine OwnFin.adv (B := T4.setTop (mkF m 119 #[VI va, VI vb, VI vf, VI cA, VI cB, VI bA, VI bB, VI bC, VR ca8, VR so, VR ea, VI (0:Int32), .unset, .unset, .unset, .unset, .unset, .unset, .unset] [])) (fun _ k => XS.ifYes X4.here hx rfl (pc0 := 103) (pc' := 119) rfl (hD at_103) rfl ((if0 _ _).trans (teq hc103).1) (by decide) (by decide) k) ?_
       exact J119 (([] : List Int32)) h4 T4 _ (X4.mono (by decide) (by decide)) e4 NJ (KJ.ext E4) (by simp [hc103]) Fv163_1 Vn6
      ·
       obtain ⟨cl164, Ar164, ck164, S164, M164, H164, G164⟩ := id Vn6
       have hin164 : ¬ ((0:Int32) < 0 ∨ cl164.slots.size ≤ ((0:Int32)).toNatClampNeg) := inb_of S164 ⟨by decide, by decide⟩
       obtain ⟨T164, h164, X164, e164, W164, st164⟩ := stB X4 hx hZ e4 Ar164 (j := (0:Int32)) hin164 (g := (mkF m 112 #[VI va, VI vb, VI vf, VI cA, VI cB, VI bA, VI bB, VI bC, VR ca8, VR so, VR ea, VI (0:Int32), .unset, .unset, .unset, .unset, .unset, .unset, .unset] [(.int 91), (.int 0), (.ref ea)])) rfl rfl (hD at_112)
       have V164 : Arv Z h164 ea ke .byte (24:Int32) (((([] : List Int32) ++ [(91:Int32)])).map Value.int) (.int 0) := own_push Vn6 W164 (by decide) (own_leL lb4 (by decide))
       have lb164 : OwnLe (([] : List Int32) ++ [(91:Int32)]) 1 := own_leS lb4
       have sz165 : h4.size ≤ h164.size := Nat.le_of_eq W164.size.symm
       have N164 := Fr.snoc X164 NJ (by omega : n0 ≤ ea)
       refine OwnFin.adv (B := T164.setTop (mkF m 119 #[VI va, VI vb, VI vf, VI cA, VI cB, VI bA, VI bB, VI bC, VR ca8, VR so, VR ea, VI ((0:Int32) + (1:Int32)), .unset, .unset, .unset, .unset, .unset, .unset, .unset] [])) (fun _ k => XS.ifNo X4.here hx rfl (hD at_103) rfl ((if0 _ _).trans (feq hc103).1) (XS.aload X4.here hx rfl (hD at_106) rfl rfl (XS.iload X4.here hx rfl (hD at_108) rfl (XS.bipush X4.here hx rfl (hD at_110) (st164 _ (XS.iload X164.here hx rfl (hD at_113) rfl (XS.iconst X164.here hx rfl (hD at_115) (XS.iadd X164.here hx rfl (hD at_116) rfl (XS.istore X164.here hx rfl (hD at_117) rfl (l' := #[VI va, VI vb, VI vf, VI cA, VI cB, VI bA, VI bB, VI bC, VR ca8, VR so, VR ea, VI ((0:Int32) + (1:Int32)), .unset, .unset, .unset, .unset, .unset, .unset, .unset]) rfl k))))))))) ?_
       rw [show (((0:Int32) + (1:Int32)) : Int32) = (Int32.ofNat ((([] : List Int32) ++ [(91:Int32)])).length) from by decide]
       have Fv166_2 := ((Sj.ext E4).wr W164 (by omega))
       exact J119 ((([] : List Int32) ++ [(91:Int32)])) h164 T164 _ (X164.mono (by decide) (by decide)) e164 N164 ((KJ.ext E4).wr W164 (Or.inr (by omega))) (by simp [hc103]) Fv166_2 V164
     by_cases hc54 : bC = (0:Int32)
     ·
      obtain ⟨T167, h167, k167, X167, e167, E167, A167, st167⟩ := newP XJ hx hZ (own_w hw 1 rfl) eJ (g := (mkF m 68 #[VI va, VI vb, VI vf, VI cA, VI cB, VI bA, VI bB, VI bC, .unset, .unset, .unset, .unset, .unset, .unset, .unset, .unset, .unset, .unset, .unset] [(.int 2)])) rfl (hD at_68) rfl (by decide) (cap := 2) (by decide) (by decide) (by decide) (by decide)
      obtain ⟨b167, g167⟩ : ∃ z, z = h0.size := ⟨_, rfl⟩
      rw [← g167] at A167 st167
      have sz168 : h0.size ≤ h167.size := E167.1
      have lt_b167 := own_lt A167.lt
      have V167 : Arv Z h167 b167 k167 .char (2:Int32) [(.int 0), (.int 0)] (.int 0) := (Arv.new A167 (by decide)).pad (pad_rep [] (.int 0) 2)
      obtain ⟨cl169, Ar169, ck169, S169, M169, H169, G169⟩ := id V167
      have hin169 : ¬ ((0:Int32) < 0 ∨ cl169.slots.size ≤ ((0:Int32)).toNatClampNeg) := inb_of S169 ⟨by decide, by decide⟩
      obtain ⟨T169, h169, X169, e169, W169, st169⟩ := stC X167 hx hZ e167 Ar169 (j := (0:Int32)) hin169 (g := (mkF m 73 #[VI va, VI vb, VI vf, VI cA, VI cB, VI bA, VI bB, VI bC, .unset, .unset, .unset, .unset, .unset, .unset, .unset, .unset, .unset, .unset, .unset] [(.int cA), (.int 0), (.ref b167), (.ref b167)])) rfl rfl (hD at_73)
      have V169 : Arv Z h169 b167 k167 .char (2:Int32) [(.int (nar .char cA)), (.int 0)] (.int 0) := Arv.set Ar169 ck169 S169 M169 H169 G169 (fits_nar_char _) W169 0 rfl (Nat.le_of_ble_eq_true rfl)
      have V169s : Arv Z h169 b167 k167 .char (2:Int32) [(.int cA), (.int 0)] (.int 0) := by
        have q := V169
        rw [show ((.int (nar .char cA)) : Value) = (.int cA) from congrArg Value.int (own_narC rA)] at q
        exact q
      have sz170 : h167.size ≤ h169.size := Nat.le_of_eq W169.size.symm
      have N169 := Fr.snoc X169 NJ (by omega : n0 ≤ b167)
      obtain ⟨cl171, Ar171, ck171, S171, M171, H171, G171⟩ := id V169s
      have hin171 : ¬ ((1:Int32) < 0 ∨ cl171.slots.size ≤ ((1:Int32)).toNatClampNeg) := inb_of S171 ⟨by decide, by decide⟩
      obtain ⟨T171, h171, X171, e171, W171, st171⟩ := stC X169 hx hZ e169 Ar171 (j := (1:Int32)) hin171 (g := (mkF m 78 #[VI va, VI vb, VI vf, VI cA, VI cB, VI bA, VI bB, VI bC, .unset, .unset, .unset, .unset, .unset, .unset, .unset, .unset, .unset, .unset, .unset] [(.int cB), (.int 1), (.ref b167), (.ref b167)])) rfl rfl (hD at_78)
      have V171 : Arv Z h171 b167 k167 .char (2:Int32) [(.int cA), (.int (nar .char cB))] (.int 0) := Arv.set Ar171 ck171 S171 M171 H171 G171 (fits_nar_char _) W171 1 rfl (Nat.le_of_ble_eq_true rfl)
      have V171s : Arv Z h171 b167 k167 .char (2:Int32) [(.int cA), (.int cB)] (.int 0) := by
        have q := V171
        rw [show ((.int (nar .char cB)) : Value) = (.int cB) from congrArg Value.int (own_narC rB)] at q
        exact q
      have sz172 : h169.size ≤ h171.size := Nat.le_of_eq W171.size.symm
      have N171 := Fr.snoc X171 N169 (by omega : n0 ≤ b167)
      obtain ⟨T173, h173, X173, e173, E173, A173, D173, U173, st173⟩ := newO X171 hx hZ hown (own_w hw 2 rfl) (own_w hw 3 rfl) (own_w hw 4 rfl) e171 (g := (mkF m 81 #[VI va, VI vb, VI vf, VI cA, VI cB, VI bA, VI bB, VI bC, VR b167, .unset, .unset, .unset, .unset, .unset, .unset, .unset, .unset, .unset, .unset] [])) rfl (hD at_81) (by decide) (by decide)
      obtain ⟨b173, g173⟩ : ∃ z, z = h171.size := ⟨_, rfl⟩
      rw [← g173] at A173 D173 U173 st173
      have sz174 : h171.size ≤ h173.size := E173.1
      have lt_b173 := own_lt A173.lt
      have F173_coder : Fld Z h173 b173 "java/lang/String" "coder" "B" (.int 0) := D173 (Or.inr (own_w hw 28 rfl)) (ty := .byte) (by decide)
      have F173_value : Fld Z h173 b173 "java/lang/String" "value" "[B" .null := D173 (Or.inr (own_w hw 30 rfl)) (ty := (.array .byte)) (by decide)
      refine OwnFin.adv (B := T173.setTop (mkF m 85 #[VI va, VI vb, VI vf, VI cA, VI cB, VI bA, VI bB, VI bC, VR b167, .unset, .unset, .unset, .unset, .unset, .unset, .unset, .unset, .unset, .unset] [(.ref b173), (.ref b173)])) (fun _ k => XS.ifYes XJ.here hx rfl (pc0 := 54) (pc' := 67) rfl (hD at_54) rfl ((if0 _ _).trans (teq hc54).1) (by decide) (by decide) (XS.iconst XJ.here hx rfl (hD at_67) (st167 _ (XS.dup X167.here hx rfl (hD at_70) rfl rfl (XS.iconst X167.here hx rfl (hD at_71) (XS.iloadN X167.here hx rfl (hD at_72) rfl (st169 _ (XS.dup X169.here hx rfl (hD at_74) rfl rfl (XS.iconst X169.here hx rfl (hD at_75) (XS.iload X169.here hx rfl (hD at_76) rfl (st171 _ (XS.astore X171.here hx rfl (hD at_79) rfl rfl (l' := #[VI va, VI vb, VI vf, VI cA, VI cB, VI bA, VI bB, VI bC, VR b167, .unset, .unset, .unset, .unset, .unset, .unset, .unset, .unset, .unset, .unset]) rfl (st173 _ (XS.dup X173.here hx rfl (hD at_84) rfl rfl k)))))))))))))) ?_
      have Old176 : Old Z n0 h173 := ((((O0.ext E167).wr W169 (by omega)).wr W171 (by omega)).ext E173)
      have Fv177_4 := (V171s.ext E173)
      obtain ⟨_, _, ⟨T175, L175, k175, n175⟩, -, X175, ⟨Lc175, hQ175, l175, y175, z175⟩, st175⟩ := X173.specialBack hx (y := own_M1) rfl hown (mvT hZ (own_w hw 5 rfl)) (mvT hZ (own_w hw 6 rfl)) (mvT hZ (own_w hw 7 rfl)) (by decide) (backOf (W := 1) (own_si_2 l Z a0 hw [] b173 b167 k167 zc _ _ cA cB h173 n0 (by omega) Old176 SCS hzc SAD SHI SLO A173 F173_value F173_coder (by omega) Fv177_4 rA rB) hZ (own_w hw 7 rfl) (own_w hw 4 rfl) (by decide) (by decide)) (g := (mkF m 87 #[VI va, VI vb, VI vf, VI cA, VI cB, VI bA, VI bB, VI bC, VR b167, .unset, .unset, .unset, .unset, .unset, .unset, .unset, .unset, .unset, .unset] [(.ref b167), (.ref b173), (.ref b173)])) rfl (by rw [hml]; rfl) (Steps.refl _) (a := b173) (argsL := [(.ref b167)]) (rest := [(.ref b173)]) (lenOf own_pd31 rfl) rfl (by show 2 * 0 + _ ≤ _; exact Nat.le_of_eq rfl) (hD at_87) (fun _ _ => ⟨rfl, e173, (by decide : 2 + 2 ≤ _), (by decide : 6 + 6 ≤ _)⟩)
      dsimp only [Pt.U, Pt.locs, Pt.cells, Pt.slots] at X175 l175 y175 z175 st175 hQ175
      subst l175 y175 z175
      obtain ⟨rfl, N175q, K175, Fs175⟩ := hQ175
      have N175 := Fr.app N171 N175q
      have sz178 : h173.size ≤ T175.heap.size := K175.1
      refine OwnFin.adv (B := T175.setTop (mkF m 90 #[VI va, VI vb, VI vf, VI cA, VI cB, VI bA, VI bB, VI bC, VR b167, .unset, .unset, .unset, .unset, .unset, .unset, .unset, .unset, .unset, .unset] [(.ref b173)])) (fun _ k => XS.aload X173.here hx rfl (hD at_85) rfl rfl (st175.trans k)) ?_
      exact J90 b167 b173 _ T175.heap T175 _ (X175.mono (by decide) (by decide)) rfl N175 ((((((Keep.refl h0 []).ext E167).wr W169 (Or.inr (by omega))).wr W171 (Or.inr (by omega))).ext E173).trans K175 (allS (Or.inr (by omega)) all0)) (by rw [if_pos hc54]) Fs175 (by omega)
     ·
      obtain ⟨T179, h179, k179, X179, e179, E179, A179, st179⟩ := newP XJ hx hZ (own_w hw 1 rfl) eJ (g := (mkF m 58 #[VI va, VI vb, VI vf, VI cA, VI cB, VI bA, VI bB, VI bC, .unset, .unset, .unset, .unset, .unset, .unset, .unset, .unset, .unset, .unset, .unset] [(.int 1)])) rfl (hD at_58) rfl (by decide) (cap := 1) (by decide) (by decide) (by decide) (by decide)
      obtain ⟨b179, g179⟩ : ∃ z, z = h0.size := ⟨_, rfl⟩
      rw [← g179] at A179 st179
      have sz180 : h0.size ≤ h179.size := E179.1
      have lt_b179 := own_lt A179.lt
      have V179 : Arv Z h179 b179 k179 .char (1:Int32) [(.int 0)] (.int 0) := (Arv.new A179 (by decide)).pad (pad_rep [] (.int 0) 1)
      obtain ⟨cl181, Ar181, ck181, S181, M181, H181, G181⟩ := id V179
      have hin181 : ¬ ((0:Int32) < 0 ∨ cl181.slots.size ≤ ((0:Int32)).toNatClampNeg) := inb_of S181 ⟨by decide, by decide⟩
      obtain ⟨T181, h181, X181, e181, W181, st181⟩ := stC X179 hx hZ e179 Ar181 (j := (0:Int32)) hin181 (g := (mkF m 63 #[VI va, VI vb, VI vf, VI cA, VI cB, VI bA, VI bB, VI bC, .unset, .unset, .unset, .unset, .unset, .unset, .unset, .unset, .unset, .unset, .unset] [(.int cA), (.int 0), (.ref b179), (.ref b179)])) rfl rfl (hD at_63)
      have V181 : Arv Z h181 b179 k179 .char (1:Int32) [(.int (nar .char cA))] (.int 0) := Arv.set Ar181 ck181 S181 M181 H181 G181 (fits_nar_char _) W181 0 rfl (Nat.le_of_ble_eq_true rfl)
      have V181s : Arv Z h181 b179 k179 .char (1:Int32) [(.int cA)] (.int 0) := by
        have q := V181
        rw [show ((.int (nar .char cA)) : Value) = (.int cA) from congrArg Value.int (own_narC rA)] at q
        exact q
      have sz182 : h179.size ≤ h181.size := Nat.le_of_eq W181.size.symm
      have N181 := Fr.snoc X181 NJ (by omega : n0 ≤ b179)
      obtain ⟨T183, h183, X183, e183, E183, A183, D183, U183, st183⟩ := newO X181 hx hZ hown (own_w hw 2 rfl) (own_w hw 3 rfl) (own_w hw 4 rfl) e181 (g := (mkF m 81 #[VI va, VI vb, VI vf, VI cA, VI cB, VI bA, VI bB, VI bC, VR b179, .unset, .unset, .unset, .unset, .unset, .unset, .unset, .unset, .unset, .unset] [])) rfl (hD at_81) (by decide) (by decide)
      obtain ⟨b183, g183⟩ : ∃ z, z = h181.size := ⟨_, rfl⟩
      rw [← g183] at A183 D183 U183 st183
      have sz184 : h181.size ≤ h183.size := E183.1
      have lt_b183 := own_lt A183.lt
      have F183_coder : Fld Z h183 b183 "java/lang/String" "coder" "B" (.int 0) := D183 (Or.inr (own_w hw 28 rfl)) (ty := .byte) (by decide)
      have F183_value : Fld Z h183 b183 "java/lang/String" "value" "[B" .null := D183 (Or.inr (own_w hw 30 rfl)) (ty := (.array .byte)) (by decide)
      have Old186 : Old Z n0 h183 := (((O0.ext E179).wr W181 (by omega)).ext E183)
      have Fv187_3 := (V181s.ext E183)
      obtain ⟨_, _, ⟨T185, L185, k185, n185⟩, -, X185, ⟨Lc185, hQ185, l185, y185, z185⟩, st185⟩ := X183.specialBack hx (y := own_M1) rfl hown (mvT hZ (own_w hw 5 rfl)) (mvT hZ (own_w hw 6 rfl)) (mvT hZ (own_w hw 7 rfl)) (by decide) (backOf (W := 1) (own_si_1 l Z a0 hw [] b183 b179 k179 zc _ _ cA h183 n0 (by omega) Old186 SCS hzc SAD SHI SLO A183 F183_value F183_coder (by omega) Fv187_3 rA) hZ (own_w hw 7 rfl) (own_w hw 4 rfl) (by decide) (by decide)) (g := (mkF m 87 #[VI va, VI vb, VI vf, VI cA, VI cB, VI bA, VI bB, VI bC, VR b179, .unset, .unset, .unset, .unset, .unset, .unset, .unset, .unset, .unset, .unset] [(.ref b179), (.ref b183), (.ref b183)])) rfl (by rw [hml]; rfl) (Steps.refl _) (a := b183) (argsL := [(.ref b179)]) (rest := [(.ref b183)]) (lenOf own_pd31 rfl) rfl (by show 2 * 0 + _ ≤ _; exact Nat.le_of_eq rfl) (hD at_87) (fun _ _ => ⟨rfl, e183, (by decide : 2 + 2 ≤ _), (by decide : 5 + 3 ≤ _)⟩)
      dsimp only [Pt.U, Pt.locs, Pt.cells, Pt.slots] at X185 l185 y185 z185 st185 hQ185
      subst l185 y185 z185
      obtain ⟨rfl, N185q, K185, Fs185⟩ := hQ185
      have N185 := Fr.app N181 N185q
      have sz188 : h183.size ≤ T185.heap.size := K185.1
      refine OwnFin.adv (B := T185.setTop (mkF m 90 #[VI va, VI vb, VI vf, VI cA, VI cB, VI bA, VI bB, VI bC, VR b179, .unset, .unset, .unset, .unset, .unset, .unset, .unset, .unset, .unset, .unset] [(.ref b183)])) (fun _ k => XS.ifNo XJ.here hx rfl (hD at_54) rfl ((if0 _ _).trans (feq hc54).1) (XS.iconst XJ.here hx rfl (hD at_57) (st179 _ (XS.dup X179.here hx rfl (hD at_60) rfl rfl (XS.iconst X179.here hx rfl (hD at_61) (XS.iloadN X179.here hx rfl (hD at_62) rfl (st181 _ (XS.goto X181.here hx rfl (pc0 := 64) (pc' := 79) rfl (hD at_64) (by decide) (by decide) (XS.astore X181.here hx rfl (hD at_79) rfl rfl (l' := #[VI va, VI vb, VI vf, VI cA, VI cB, VI bA, VI bB, VI bC, VR b179, .unset, .unset, .unset, .unset, .unset, .unset, .unset, .unset, .unset, .unset]) rfl (st183 _ (XS.dup X183.here hx rfl (hD at_84) rfl rfl (XS.aload X183.here hx rfl (hD at_85) rfl rfl (st185.trans k))))))))))))) ?_
      exact J90 b179 b183 _ T185.heap T185 _ (X185.mono (by decide) (by decide)) rfl N185 (((((Keep.refl h0 []).ext E179).wr W181 (Or.inr (by omega))).ext E183).trans K185 (allS (Or.inr (by omega)) all0)) (by rw [if_neg hc54]) Fs185 (by omega)
    by_cases hc42 : (vf &&& (4:Int32)) = (0:Int32)
    ·
     refine OwnFin.adv (B := TJ.setTop (mkF m 50 #[VI va, VI vb, VI vf, VI cA, VI cB, VI bA, VI bB, .unset, .unset, .unset, .unset, .unset, .unset, .unset, .unset, .unset, .unset, .unset, .unset] [(.int 0)])) (fun _ k => XS.ifYes XJ.here hx rfl (pc0 := 42) (pc' := 49) rfl (hD at_42) rfl ((if0 _ _).trans (teq hc42).1) (by decide) (by decide) (XS.iconst XJ.here hx rfl (hD at_49) k)) ?_
     exact J50 (0:Int32) TJ _ XJ eJ NJ
    ·
     refine OwnFin.adv (B := TJ.setTop (mkF m 50 #[VI va, VI vb, VI vf, VI cA, VI cB, VI bA, VI bB, .unset, .unset, .unset, .unset, .unset, .unset, .unset, .unset, .unset, .unset, .unset, .unset] [(.int 1)])) (fun _ k => XS.ifNo XJ.here hx rfl (hD at_42) rfl ((if0 _ _).trans (feq hc42).1) (XS.iconst XJ.here hx rfl (hD at_45) (XS.goto XJ.here hx rfl (pc0 := 46) (pc' := 50) rfl (hD at_46) (by decide) (by decide) k))) ?_
     exact J50 (1:Int32) TJ _ XJ eJ NJ
   by_cases hc29 : (vf &&& (2:Int32)) = (0:Int32)
   ·
    refine OwnFin.adv (B := TJ.setTop (mkF m 37 #[VI va, VI vb, VI vf, VI cA, VI cB, VI bA, .unset, .unset, .unset, .unset, .unset, .unset, .unset, .unset, .unset, .unset, .unset, .unset, .unset] [(.int 0)])) (fun _ k => XS.ifYes XJ.here hx rfl (pc0 := 29) (pc' := 36) rfl (hD at_29) rfl ((if0 _ _).trans (teq hc29).1) (by decide) (by decide) (XS.iconst XJ.here hx rfl (hD at_36) k)) ?_
    exact J37 (0:Int32) TJ _ XJ eJ NJ
   ·
    refine OwnFin.adv (B := TJ.setTop (mkF m 37 #[VI va, VI vb, VI vf, VI cA, VI cB, VI bA, .unset, .unset, .unset, .unset, .unset, .unset, .unset, .unset, .unset, .unset, .unset, .unset, .unset] [(.int 1)])) (fun _ k => XS.ifNo XJ.here hx rfl (hD at_29) rfl ((if0 _ _).trans (feq hc29).1) (XS.iconst XJ.here hx rfl (hD at_32) (XS.goto XJ.here hx rfl (pc0 := 33) (pc' := 37) rfl (hD at_33) (by decide) (by decide) k))) ?_
    exact J37 (1:Int32) TJ _ XJ eJ NJ
  by_cases hc16 : (vf &&& (1:Int32)) = (0:Int32)
  ·
   refine OwnFin.adv (B := s₁.setTop (mkF m 24 #[VI va, VI vb, VI vf, VI cA, VI cB, .unset, .unset, .unset, .unset, .unset, .unset, .unset, .unset, .unset, .unset, .unset, .unset, .unset, .unset] [(.int 0)])) (fun _ k => XS.ifYes X0.here hx rfl (pc0 := 16) (pc' := 23) rfl (hD at_16) rfl ((if0 _ _).trans (teq hc16).1) (by decide) (by decide) (XS.iconst X0.here hx rfl (hD at_23) k)) ?_
   exact J24 (0:Int32) s₁ _ X0 e0 N0
  ·
   refine OwnFin.adv (B := s₁.setTop (mkF m 24 #[VI va, VI vb, VI vf, VI cA, VI cB, .unset, .unset, .unset, .unset, .unset, .unset, .unset, .unset, .unset, .unset, .unset, .unset, .unset, .unset] [(.int 1)])) (fun _ k => XS.ifNo X0.here hx rfl (hD at_16) rfl ((if0 _ _).trans (feq hc16).1) (XS.iconst X0.here hx rfl (hD at_19) (XS.goto X0.here hx rfl (pc0 := 20) (pc' := 24) rfl (hD at_20) (by decide) (by decide) k))) ?_
   exact J24 (1:Int32) s₁ _ X0 e0 N0
theorem own_eqLu {args : Array Value} {first s : State} {o : Option Outcome} {idx : List Nat} {t u : Term} {k : Int64} (hu : u.eval args first o idx s = some (.long k)) (h : (Cond.eq t u).value args first o s idx = some true) : t.eval args first o idx s = some (.long k) := by
  simp only [Cond.value, hu] at h
  cases ht : t.eval args first o idx s with
  | none => simp [ht] at h
  | some x => cases x <;> simp [ht] at h ⊢; exact h
theorem own_or0 {args : Array Value} {first s : State} {o : Option Outcome} {idx : List Nat} {c d : Cond} (h1 : c.value args first o s idx = some false) (h : (Cond.or c d).value args first o s idx = some true) : d.value args first o s idx = some true := by
  simp only [Cond.value, h1] at h; exact h
theorem own_hexel {Z : State} {args : Array Value} {t : Term} {a : Addr} {cl : Cell} {k b : Nat} (ev : ∀ idx, t.eval args Z none idx Z = some (.ref a)) (A : Arr Z Z.heap a cl .byte) (hk : k < 16) (hb : b < 100)
    (h : (Cond.eq (Term.op1 Jvm.Unary.i2l (Term.elem t (Term.index 0))) (Term.op2 Jvm.Binary.ladd (Term.op1 Jvm.Unary.i2l (Term.index 0)) (Term.long (Int64.ofNat b)))).value args Z none Z [k] = some true) : cl.slots[k]? = some (.int (Int32.ofNat (k + b))) := by
  have hr : (Term.op2 Jvm.Binary.ladd (Term.op1 Jvm.Unary.i2l (Term.index 0)) (Term.long (Int64.ofNat b))).eval args Z none [k] Z = some (.long ((Int32.ofNat k).toInt64 + Int64.ofNat b)) := rfl
  obtain ⟨x, hx, hy⟩ := op1_v (own_eqLu hr h)
  have hz : ∃ z, x = .int z ∧ z.toInt64 = (Int32.ofNat k).toInt64 + Int64.ofNat b := by
    cases x <;> simp [Jvm.Unary.apply] at hy
    exact ⟨_, rfl, hy⟩
  obtain ⟨z, rfl, hz⟩ := hz
  have q := congrArg Int64.toInt hz
  have e1 := c_ladd (Int32.ofNat k).toInt64 (Int64.ofNat b)
  have r1 := rng64 ((Int32.ofNat k).toInt64 + Int64.ofNat b)
  rw [c_i2l, own_toInt (by omega), show (Int64.ofNat b).toInt = (b : Int) from Int64.toInt_ofNat_of_lt (by omega)] at e1
  rw [c_i2l] at q
  have e2 : z = Int32.ofNat (k + b) := by
    apply Int32.toInt_inj.mp; rw [own_toInt (by omega)]; omega
  have g := (elem_in hx (ev [k]) (show (Term.index 0).eval args Z none [k] Z = some (.int (Int32.ofNat k)) from rfl) A.1).2
  rw [own_cl (by omega)] at g
  rw [g, e2]
theorem own_hexV {Z : State} {args : Array Value} {t : Term} {a : Addr} {cl : Cell} (ev : ∀ idx, t.eval args Z none idx Z = some (.ref a)) (A : Arr Z Z.heap a cl .byte) (q : cl.slots.size < 2 ^ 31) (hs : cl.slots.size.toInt32 = (16 : Int32))
    (h1 : (Cond.all t (Cond.or (Cond.le (Term.int (10 : Int32)) (Term.index 0)) (Cond.eq (Term.op1 Jvm.Unary.i2l (Term.elem t (Term.index 0))) (Term.op2 Jvm.Binary.ladd (Term.op1 Jvm.Unary.i2l (Term.index 0)) (Term.long (48 : Int64)))))).value args Z none Z [] = some true)
    (h2 : (Cond.all t (Cond.or (Cond.lt (Term.index 0) (Term.int (10 : Int32))) (Cond.eq (Term.op1 Jvm.Unary.i2l (Term.elem t (Term.index 0))) (Term.op2 Jvm.Binary.ladd (Term.op1 Jvm.Unary.i2l (Term.index 0)) (Term.long (55 : Int64)))))).value args Z none Z [] = some true) :
    Arv Z Z.heap a cl.cls .byte (16 : Int32) (own_hexT.map Value.int) (.int (0 : Int32)) := by
  have S : cl.slots.size = 16 := by
    have z := congrArg Int32.toInt hs
    rw [show cl.slots.size.toInt32 = Int32.ofNat cl.slots.size from rfl, Int32.toInt_ofNat_of_lt q, show (16 : Int32).toInt = 16 from by decide] at z
    omega
  have hat := A.fin (U := Z) (Vm.Alike.refl _)
  refine ⟨cl, A, rfl, S, by decide, fun k hk => ?_, fun i hi => ?_⟩
  · rw [S] at hk
    rw [own_mapget]
    by_cases g : k < 10
    · have z := Cond.all_elim (ev []) hat h1 k (by rw [S]; exact hk)
      have w := own_or0 (by rw [Cond.le_ints (Term.int_eval _) (show (Term.index 0).eval args Z none [k] Z = some (.int (Int32.ofNat k)) from rfl)]; exact congrArg some (decide_eq_false ((by decide : ∀ k, k < 10 → ¬ (10 : Int32) ≤ Int32.ofNat k) k g))) z
      rw [own_hexel (b := 48) ev A hk (by decide) w]
      exact congrArg some (congrArg Value.int ((by decide : ∀ k, k < 10 → Int32.ofNat (k + 48) = own_hexT.getD k 0) k g))
    · have z := Cond.all_elim (ev []) hat h2 k (by rw [S]; exact hk)
      have w := own_or0 (by rw [Cond.lt_ints (show (Term.index 0).eval args Z none [k] Z = some (.int (Int32.ofNat k)) from rfl) (Term.int_eval _)]; exact congrArg some (decide_eq_false ((by decide : ∀ k, k < 16 → ¬ k < 10 → ¬ Int32.ofNat k < (10 : Int32)) k hk g))) z
      rw [own_hexel (b := 55) ev A hk (by decide) w]
      exact congrArg some (congrArg Value.int ((by decide : ∀ k, k < 16 → ¬ k < 10 → Int32.ofNat (k + 55) = own_hexT.getD k 0) k hk g))
  · rw [S] at hi
    exact (by decide : ∀ i, i < 16 → fits .byte ((own_hexT.map Value.int).getD i (.int (0 : Int32))) = true) i hi

set_option maxRecDepth 65536 in
set_option maxHeartbeats 40000000 in
theorem own_comes {Post : Tables → Env → Array Value → State → Outcome → State → Prop} (hpost : ∀ tb e args s v u, (limb_1_1.after args s (.returned v) u = true ∧ limb_1_2.after args s (.returned v) u = true ∧ True) → FrameEnd s (.returned v) u (Jvm.fieldLocs frame_1_writes args s ++ Jvm.arrayLocs frame_1_arrays args s ++ Jvm.staticLocs frame_1_statics s) 40 832 → Post tb e args s (.returned v) u) :
    ArmFor flags0 classFile x code maxLocals ret World_1 tables_1 room_1 Calls_1 rest_1 Pre_1 Post := by
  intro l hfl _ _ p e ha hc hk s m args below hf hA hF happ hP
  obtain ⟨hcalls, hrest, hpre⟩ := hP
  obtain ⟨-, -, -, hnamed, -, -, -, hat⟩ := (Spec.applies_iff hf).mp happ
  obtain ⟨hg, hn⟩ := and_e (Cond.before_iff.mp (show (Jvm.Cond.and given_1 narrow_1).before args s = true from hpre))
  obtain ⟨u1, u2⟩ := and_e hg
  obtain ⟨u3, u4⟩ := and_e u2
  obtain ⟨u5, u6⟩ := and_e u4
  obtain ⟨u7, u8⟩ := and_e hn
  obtain ⟨u9, u10⟩ := and_e u8
  obtain ⟨u11, u12⟩ := and_e u10
  obtain ⟨u13, u14⟩ := and_e u12
  obtain ⟨u15, u16⟩ := and_e u14
  obtain ⟨u17, u18⟩ := and_e u16
  obtain ⟨u19, u20⟩ := and_e u18
  obtain ⟨u21, u22⟩ := and_e u20
  obtain ⟨u23, u24⟩ := and_e u22
  obtain ⟨u25, u26⟩ := and_e u24
  obtain ⟨u27, u28⟩ := and_e u26
  obtain ⟨u29, u30⟩ := and_e u28
  obtain ⟨u31, u32⟩ := and_e u30
  obtain ⟨u33, u34⟩ := and_e u32
  obtain ⟨u35, u36⟩ := and_e u34
  obtain ⟨u37, u38⟩ := and_e u36
  obtain ⟨u39, u40⟩ := and_e u38
  obtain ⟨u41, u42⟩ := and_e u40
  obtain ⟨w0, w1, w2, rfl⟩ : ∃ w0 w1 w2 : Value, args = #[w0, w1, w2] := by
    have hs : args.size = 3 := by simpa [Cond.value, given_1] using u1
    obtain ⟨L⟩ := args
    match L, hs with
    | [w0, w1, w2], _ => exact ⟨w0, w1, w2, rfl⟩
  have hw := fun d (hd : d ∈ tables_1) => atoms_spec (ws := Jvm.Cond.code x code maxLocals ret :: tables_1) hat d (List.mem_cons_of_mem _ hd)
  have hfit : Fit s := fun {y c} hc i hi => by
    obtain ⟨ha, rfl⟩ := Array.getElem?_eq_some_iff.mp hc
    have q := List.all_eq_true.mp ((Array.all_eq_true_iff_forall_mem.mp hF) _ (Array.getElem_mem ha)) i (List.mem_range.mpr hi)
    simpa [Array.getElem?_eq_getElem hi] using q
  obtain ⟨hsets, hown0⟩ := atoms_of _ (rest_1_c_eq ▸ (show rest_1_c.before _ s = true from hrest))
  have hr0 := Cond.before_iff.mp hown0
  obtain ⟨i0, ei0⟩ := is_v u3
  obtain rfl : w0 = (.int i0) := Option.some.inj ei0
  obtain ⟨i1, ei1⟩ := is_v u5
  obtain rfl : w1 = (.int i1) := Option.some.inj ei1
  obtain ⟨i2, ei2⟩ := is_v u6
  obtain rfl : w2 = (.int i2) := Option.some.inj ei2
  obtain ⟨zc, ezc⟩ := is_v (Cond.before_iff.mp (hsets _ (List.mem_of_getElem? (i := 1) rfl)))
  have SCS := Sta.start ezc (Or.inl (hsets _ (List.mem_of_getElem? (i := 0) rfl)))
  have hzc : ¬ zc = 0 := fun q => by
    have h := not_v (Cond.before_iff.mp (hsets _ (List.mem_of_getElem? (i := 2) rfl)))
    rw [Cond.eq_ints ezc (Term.int_eval _), q] at h
    simp at h
  obtain ⟨fm, efm, rfm⟩ := isR_v (Cond.before_iff.mp (hsets _ (List.mem_of_getElem? (i := 8) rfl)))
  have SFM := Sta.start efm (Or.inl (hsets _ (List.mem_of_getElem? (i := 7) rfl)))
  have SAD := Sta.start (own_eqI (Cond.before_iff.mp (hsets _ (List.mem_of_getElem? (i := 12) rfl)))) (Or.inl (hsets _ (List.mem_of_getElem? (i := 11) rfl)))
  have SHI := Sta.start (own_eqI (Cond.before_iff.mp (hsets _ (List.mem_of_getElem? (i := 15) rfl)))) (Or.inl (hsets _ (List.mem_of_getElem? (i := 14) rfl)))
  have SLO := Sta.start (own_eqI (Cond.before_iff.mp (hsets _ (List.mem_of_getElem? (i := 18) rfl)))) (Or.inl (hsets _ (List.mem_of_getElem? (i := 17) rfl)))
  obtain ⟨hxa, ev_hxa⟩ := arr_v u7
  obtain ⟨cl_hxa, A_hxa⟩ := Arr.start ev_hxa u7
  obtain ⟨q_hxa, z_hxa⟩ := own_len ev_hxa (A_hxa.fin (Vm.Alike.refl _)) u9
  have S_hxa := Sta.start ev_hxa (Or.inr ⟨(own_w hw 43 rfl), (own_w hw 136 rfl)⟩)
  have V_hxa := own_hexV (fun idx => (show ((Jvm.Term.static "tramline/routes/JsonWriter" "HEX" "[B")).eval _ s none idx s = ((Jvm.Term.static "tramline/routes/JsonWriter" "HEX" "[B")).eval _ s none [] s from by simp only [Term.eval]).trans ev_hxa) A_hxa q_hxa z_hxa u31 u33
  obtain ⟨ta, ev_ta⟩ := arr_v u11
  obtain ⟨cl_ta, A_ta⟩ := Arr.start ev_ta u11
  obtain ⟨q_ta, z_ta⟩ := own_len ev_ta (A_ta.fin (Vm.Alike.refl _)) u15
  have S_ta := Sta.start ev_ta (Or.inr ⟨(own_w hw 43 rfl), (own_w hw 162 rfl)⟩)
  have V_ta : Arv s s.heap ta cl_ta.cls .byte (Int32.ofNat [(116 : Int32), (114 : Int32), (117 : Int32), (101 : Int32)].length) ([(116 : Int32), (114 : Int32), (117 : Int32), (101 : Int32)].map Value.int) (.int (0 : Int32)) := Arv.start (z := (4 : Int32)) (vs := [(.int (116 : Int32)), (.int (114 : Int32)), (.int (117 : Int32)), (.int (101 : Int32))]) hfit A_ta q_ta z_ta (by decide) (by decide) ⟨(elem_in (own_eqI u17) ev_ta (Term.int_eval _) A_ta.1).2, (elem_in (own_eqI u19) ev_ta (Term.int_eval _) A_ta.1).2, (elem_in (own_eqI u21) ev_ta (Term.int_eval _) A_ta.1).2, (elem_in (own_eqI u23) ev_ta (Term.int_eval _) A_ta.1).2, trivial⟩
  obtain ⟨fa, ev_fa⟩ := arr_v u25
  obtain ⟨cl_fa, A_fa⟩ := Arr.start ev_fa u25
  obtain ⟨q_fa, z_fa⟩ := own_len ev_fa (A_fa.fin (Vm.Alike.refl _)) u29
  have S_fa := Sta.start ev_fa (Or.inr ⟨(own_w hw 43 rfl), (own_w hw 215 rfl)⟩)
  have V_fa : Arv s s.heap fa cl_fa.cls .byte (Int32.ofNat [(102 : Int32), (97 : Int32), (108 : Int32), (115 : Int32), (101 : Int32)].length) ([(102 : Int32), (97 : Int32), (108 : Int32), (115 : Int32), (101 : Int32)].map Value.int) (.int (0 : Int32)) := Arv.start (z := (5 : Int32)) (vs := [(.int (102 : Int32)), (.int (97 : Int32)), (.int (108 : Int32)), (.int (115 : Int32)), (.int (101 : Int32))]) hfit A_fa q_fa z_fa (by decide) (by decide) ⟨(elem_in (own_eqI u35) ev_fa (Term.int_eval _) A_fa.1).2, (elem_in (own_eqI u37) ev_fa (Term.int_eval _) A_fa.1).2, (elem_in (own_eqI u39) ev_fa (Term.int_eval _) A_fa.1).2, (elem_in (own_eqI u41) ev_fa (Term.int_eval _) A_fa.1).2, (elem_in (own_eqI u42) ev_fa (Term.int_eval _) A_fa.1).2, trivial⟩
  obtain ⟨n, o, h1, h2, h3, _, L, rfl, ⟨rfl, N⟩, hq⟩ := own_rm0 l s _ hw tables_1 i0 i1 i2 zc fm hxa cl_hxa.cls ta fa cl_ta.cls cl_fa.cls s.heap s.heap.size (Nat.le_refl _) (Old.start s) SCS hzc SFM rfm SAD SHI SLO S_hxa V_hxa S_ta S_fa V_ta V_fa p e ha hc hk s m _ below hf ((Spec.applies_iff_loose hf).mp happ).1 ⟨rfl, State.Warmed39.refl s, rfl⟩ trivial
  refine ⟨n, _, h1, h2, h3, hpost _ _ _ _ _ _ ⟨Cond.after_iff.mpr rfl, Cond.after_iff.mpr (eq_i res_at (Term.int_eval (1)) rfl), trivial⟩ ⟨hq.1, hq.2.1, (hq.2.2.sift fun y hy => Or.inr (N y hy)).mono (by decide) (by decide)⟩⟩
theorem main_1_1 : Claimed_1_1 := own_comes fun _ _ _ _ _ _ h hF => ⟨h.1, hF⟩
theorem main_1_2 : Claimed_1_2 := own_comes fun _ _ _ _ _ _ h hF => ⟨h.2.1, hF⟩
end Jvm.Pilot.@@N@@
namespace Jvm.Pilot.@@N@@
open Jvm Jvm.ClassFile Sem Op Lib Jvm.Free Jvm.Stand Jvm.Pilot.@@N@@.Jvm.D
/-! MADE BY PROGRAM (witnessworld.py) out of the Statement's table words and the real class files: 26 classes; the members and pool entries that the words name. The judged class is class 1, her method 6. -/
namespace start1
open Jvm.ClassFile
def u (s : String) : CpInfo := .utf8 (stringToUtf16 s)
/-- a pool by its gaps: so many unusable entries, then the entry; so many at the end -/
def gap : Nat → List CpInfo → List CpInfo
  | 0, r => r
  | n + 1, r => .unusable :: gap n r
def poolList (es : List (Nat × CpInfo)) (last : Nat) : List CpInfo := es.foldr (fun e r => gap e.1 (e.2 :: r)) (gap last [])
def pool (es : List (Nat × CpInfo)) (last : Nat) : Array CpInfo := ⟨poolList es last⟩
def fileOf (pool : Array CpInfo) (this : Nat) (attrs : Array Attribute := #[]) (ms : Array MethodInfo := #[]) (fl : Nat := 33) (sup : Nat := 0) (ifs : Array Nat := #[]) (fds : Array FieldInfo := #[]) : ClassFile where
  minorVersion := 0
  majorVersion := 65
  constantPool := pool
  accessFlags := fl
  thisClass := this
  superClass := sup
  interfaces := ifs
  fields := fds
  methods := ms
  attributes := attrs
def plain (name : String) (sup : Option ClassId) : Class where
  name := name
  kind := .ordinary
  loader := none
  accessFlags := 33
  super := sup
  interfaces := #[]
  cf := none
  fields := #[]
  methods := #[]
  instanceTypes := #[]
  staticTypes := #[]
  resolved := #[]
  callSites := []
  init := .initialized
  statics := none
  mirror := none

def pool0 : Array CpInfo := pool [(5, u "<init>"), (0, u "()V"), (1, .class_ 10), (1, u "java/lang/Object")] 113

def k0c0 : Code := { maxStack := 0, maxLocals := 1, code := object_method_1_code, exceptionTable := #[], attributes := #[] }
def k0m0 : Method := { name := "<init>", desc := "()V", sig := { parameters := [], returnType := none }, accessFlags := 1, code := some k0c0 }
/-- java/lang/Object -/
def k0 : Class := { plain "java/lang/Object" none with
  accessFlags := 33
  interfaces := #[]
  cf := some (fileOf pool0 8 #[] #[{ accessFlags := 1, nameIndex := 5, descriptorIndex := 6, attributes := #[] }] 33 0 #[] #[])
  fields := #[]
  methods := #[k0m0]
  instanceTypes := #[]
  staticTypes := #[]
  resolved := Array.replicate 124 none
  statics := none }

def pool1 : Array CpInfo := pool [(2, .class_ 4), (0, .nameAndType 5 6), (0, u "java/lang/Object"), (0, u "<init>"), (0, u "()V"), (0, .methodref 8 9), (0, .class_ 10), (0, .nameAndType 11 12), (0, u "tramline/routes/JsonWriterToByteArrayPinLaw"), (0, u "hex"), (0, u "(I)B"), (0, .methodref 8 14), (0, .nameAndType 15 16), (0, u "hexEscape"), (0, u "([BIC)I"), (0, .integer 55296), (0, .integer 57343), (0, .methodref 8 20), (0, .nameAndType 21 22), (0, u "eqAt"), (0, u "([B[BI)Z"), (0, .integer 65535), (0, .class_ 25), (0, u "java/lang/String"), (0, .methodref 24 27), (0, .nameAndType 5 28), (0, u "([C)V"), (0, .methodref 8 30), (0, .nameAndType 31 16), (0, u "enc"), (0, .class_ 33), (0, u "tramline/routes/JsonWriter"), (0, .methodref 32 3), (0, .methodref 32 36), (0, .nameAndType 37 38), (0, u "toByteArray"), (0, u "()[B"), (0, .methodref 32 40), (0, .nameAndType 41 6), (0, u "writeStartArray"), (0, .methodref 32 43), (0, .nameAndType 44 45), (0, u "writeString"), (0, u "(Ljava/lang/String;)V"), (0, .methodref 32 47), (0, .nameAndType 48 49), (0, u "writeBoolean"), (0, u "(Z)V"), (0, .methodref 32 51), (0, .nameAndType 52 6), (0, u "writeEndArray"), (0, .methodref 8 54), (0, .nameAndType 55 22), (0, u "same"), (3, u "law"), (0, u "(III)Z")] 6

def k1m0 : Method := { name := "<init>", desc := "()V", sig := { parameters := [], returnType := none }, accessFlags := 2, code := none }
def k1c1 : Code := { maxStack := 2, maxLocals := 1, code := method_2_code, exceptionTable := #[], attributes := #[] }
def k1m1 : Method := { name := "hex", desc := "(I)B", sig := { parameters := [.int], returnType := some .byte }, accessFlags := 10, code := some k1c1 }
def k1c2 : Code := { maxStack := 4, maxLocals := 3, code := method_3_code, exceptionTable := #[], attributes := #[] }
def k1m2 : Method := { name := "hexEscape", desc := "([BIC)I", sig := { parameters := [(.array .byte), .int, .char], returnType := some .int }, accessFlags := 10, code := some k1c2 }
def k1c3 : Code := { maxStack := 5, maxLocals := 3, code := method_4_code, exceptionTable := #[], attributes := #[] }
def k1m3 : Method := { name := "enc", desc := "([BIC)I", sig := { parameters := [(.array .byte), .int, .char], returnType := some .int }, accessFlags := 10, code := some k1c3 }
def k1c4 : Code := { maxStack := 3, maxLocals := 3, code := method_5_code, exceptionTable := #[], attributes := #[] }
def k1m4 : Method := { name := "eqAt", desc := "([B[BI)Z", sig := { parameters := [(.array .byte), (.array .byte), .int], returnType := some .boolean }, accessFlags := 10, code := some k1c4 }
def k1c5 : Code := { maxStack := 3, maxLocals := 3, code := method_6_code, exceptionTable := #[], attributes := #[] }
def k1m5 : Method := { name := "same", desc := "([B[BI)Z", sig := { parameters := [(.array .byte), (.array .byte), .int], returnType := some .boolean }, accessFlags := 10, code := some k1c5 }
def k1c6 : Code := { maxStack := 4, maxLocals := 19, code := code, exceptionTable := #[], attributes := #[] }
def k1m6 : Method := { name := "law", desc := "(III)Z", sig := { parameters := [.int, .int, .int], returnType := some .boolean }, accessFlags := 9, code := some k1c6 }
/-- tramline/routes/JsonWriterToByteArrayPinLaw -/
def k1 : Class := { plain "tramline/routes/JsonWriterToByteArrayPinLaw" (some 0) with
  accessFlags := 49
  interfaces := #[]
  cf := some (fileOf pool1 8 #[] #[{ accessFlags := 2, nameIndex := 5, descriptorIndex := 6, attributes := #[] }, { accessFlags := 10, nameIndex := 11, descriptorIndex := 12, attributes := #[] }, { accessFlags := 10, nameIndex := 15, descriptorIndex := 16, attributes := #[] }, { accessFlags := 10, nameIndex := 31, descriptorIndex := 16, attributes := #[] }, { accessFlags := 10, nameIndex := 21, descriptorIndex := 22, attributes := #[] }, { accessFlags := 10, nameIndex := 55, descriptorIndex := 22, attributes := #[] }, { accessFlags := 9, nameIndex := 59, descriptorIndex := 60, attributes := #[] }] 49 2 #[] #[])
  fields := #[]
  methods := #[k1m0, k1m1, k1m2, k1m3, k1m4, k1m5, k1m6]
  instanceTypes := #[]
  staticTypes := #[]
  resolved := Array.replicate 67 none
  statics := none }

def pool2 : Array CpInfo := pool [(1, .class_ 2), (0, u "java/io/Serializable"), (0, .class_ 4), (0, u "java/lang/Object")] 2

/-- java/io/Serializable -/
def k2 : Class := { plain "java/io/Serializable" (some 0) with
  accessFlags := 1537
  interfaces := #[]
  cf := some (fileOf pool2 1 #[] #[] 1537 3 #[] #[])
  fields := #[]
  methods := #[]
  instanceTypes := #[]
  staticTypes := #[]
  resolved := Array.replicate 7 none
  statics := none }

def pool3 : Array CpInfo := pool [(1, .class_ 2), (0, u "java/lang/Comparable"), (0, .class_ 4), (0, u "java/lang/Object")] 7

/-- java/lang/Comparable -/
def k3 : Class := { plain "java/lang/Comparable" (some 0) with
  accessFlags := 1537
  interfaces := #[]
  cf := some (fileOf pool3 1 #[] #[] 1537 3 #[] #[])
  fields := #[]
  methods := #[]
  instanceTypes := #[]
  staticTypes := #[]
  resolved := Array.replicate 12 none
  statics := none }

def pool4 : Array CpInfo := pool [(2, .class_ 4), (1, u "java/lang/CharSequence"), (42, .class_ 48), (0, u "java/lang/CharSequence$1CodePointIterator"), (10, .class_ 60), (0, u "java/lang/CharSequence$1CharIterator"), (5, .class_ 67), (0, u "java/lang/Object")] 63

/-- java/lang/CharSequence -/
def k4 : Class := { plain "java/lang/CharSequence" (some 0) with
  accessFlags := 1537
  interfaces := #[]
  cf := some (fileOf pool4 2 #[.nestMembers #[47, 59]] #[] 1537 66 #[] #[])
  fields := #[]
  methods := #[]
  instanceTypes := #[]
  staticTypes := #[]
  resolved := Array.replicate 131 none
  statics := none }

def pool5 : Array CpInfo := pool [(1, .class_ 2), (0, u "java/lang/constant/Constable"), (0, .class_ 4), (0, u "java/lang/Object")] 6

/-- java/lang/constant/Constable -/
def k5 : Class := { plain "java/lang/constant/Constable" (some 0) with
  accessFlags := 1537
  interfaces := #[]
  cf := some (fileOf pool5 1 #[] #[] 1537 3 #[] #[])
  fields := #[]
  methods := #[]
  instanceTypes := #[]
  staticTypes := #[]
  resolved := Array.replicate 11 none
  statics := none }

def pool6 : Array CpInfo := pool [(1, .class_ 2), (0, u "java/lang/constant/ConstantDesc"), (0, .class_ 4), (0, u "java/lang/Object")] 32

/-- java/lang/constant/ConstantDesc -/
def k6 : Class := { plain "java/lang/constant/ConstantDesc" (some 0) with
  accessFlags := 1537
  interfaces := #[]
  cf := some (fileOf pool6 1 #[] #[] 1537 3 #[] #[])
  fields := #[]
  methods := #[]
  instanceTypes := #[]
  staticTypes := #[]
  resolved := Array.replicate 37 none
  statics := none }

def pool7 : Array CpInfo := pool [(1, .methodref 2 3), (0, .class_ 4), (0, .nameAndType 5 6), (0, u "java/lang/Object"), (0, u "<init>"), (0, u "()V"), (2, .fieldref 10 11), (0, .class_ 12), (0, .nameAndType 13 14), (0, u "java/lang/String"), (0, u "value"), (0, u "[B"), (0, .fieldref 10 16), (0, .nameAndType 17 18), (0, u "coder"), (0, u "B"), (2, u "hash"), (0, u "I"), (2, u "hashIsZero"), (0, u "Z"), (0, .methodref 10 28), (0, .nameAndType 5 29), (0, u "([CIILjava/lang/Void;)V"), (8, .fieldref 10 39), (0, .nameAndType 40 26), (0, u "COMPACT_STRINGS"), (1, .class_ 44), (1, u "java/lang/StringUTF16"), (0, u "compress"), (1, .methodref 42 48), (0, .nameAndType 49 50), (0, u "coderFromArrayLen"), (0, u "([BI)B"), (56, .class_ 109), (1, u "java/lang/StringLatin1"), (32, u "()Z"), (34, .methodref 42 178), (0, .nameAndType 45 179), (0, u "([CII)[B"), (154, u "()I"), (0, .methodref 10 336), (0, .nameAndType 17 337), (0, u "()B"), (25, u "([BI)C"), (27, u "(II)V"), (35, u "(I)C"), (64, .methodref 10 493), (0, .nameAndType 494 142), (0, u "isLatin1"), (0, .methodref 107 496), (0, .nameAndType 497 363), (0, u "charAt"), (0, .methodref 42 496), (2, u "checkIndex"), (5, u "length"), (67, .class_ 576), (0, u "java/lang/CharSequence"), (22, u "CASE_INSENSITIVE_ORDER"), (0, u "Ljava/util/Comparator;"), (409, u "([C)V"), (42, .fieldref 1054 1055), (0, .class_ 1056), (0, .nameAndType 1057 1058), (0, u "jdk/internal/util/Preconditions"), (0, u "SIOOBE_FORMATTER"), (0, u "Ljava/util/function/BiFunction;"), (0, .methodref 1054 1060), (0, .nameAndType 501 1061), (0, u "(IILjava/util/function/BiFunction;)I"), (39, u "serialPersistentFields"), (0, u "[Ljava/io/ObjectStreamField;"), (0, .class_ 1104), (0, u "java/lang/String$CaseInsensitiveComparator"), (1, .class_ 1107), (0, u "java/io/Serializable"), (0, .class_ 1109), (0, u "java/lang/Comparable"), (0, .class_ 1111), (0, u "java/lang/constant/Constable"), (0, .class_ 1113), (0, u "java/lang/constant/ConstantDesc"), (2, u "serialVersionUID"), (0, u "J"), (3, u "REPL"), (0, u "C"), (2, u "LATIN1"), (1, u "UTF16")] 323

def k7m0 : Method := { name := "<init>", desc := "()V", sig := { parameters := [], returnType := none }, accessFlags := 1, code := none }
def k7c1 : Code := { maxStack := 5, maxLocals := 2, code := jdk_42_method_3_code, exceptionTable := #[], attributes := #[] }
def k7m1 : Method := { name := "<init>", desc := "([C)V", sig := { parameters := [(.array .char)], returnType := none }, accessFlags := 1, code := some k7c1 }
def k7c2 : Code := { maxStack := 2, maxLocals := 1, code := jdk_42_method_54_code, exceptionTable := #[], attributes := #[] }
def k7m2 : Method := { name := "length", desc := "()I", sig := { parameters := [], returnType := some .int }, accessFlags := 1, code := some k7c2 }
def k7c3 : Code := { maxStack := 2, maxLocals := 2, code := jdk_42_method_56_code, exceptionTable := #[], attributes := #[] }
def k7m3 : Method := { name := "charAt", desc := "(I)C", sig := { parameters := [.int], returnType := some .char }, accessFlags := 1, code := some k7c3 }
def k7c4 : Code := { maxStack := 4, maxLocals := 6, code := jdk_42_method_149_code, exceptionTable := #[], attributes := #[] }
def k7m4 : Method := { name := "<init>", desc := "([CIILjava/lang/Void;)V", sig := { parameters := [(.array .char), .int, .int, (.object "java/lang/Void")], returnType := none }, accessFlags := 2, code := some k7c4 }
def k7c5 : Code := { maxStack := 1, maxLocals := 1, code := jdk_42_method_152_code, exceptionTable := #[], attributes := #[] }
def k7m5 : Method := { name := "coder", desc := "()B", sig := { parameters := [], returnType := some .byte }, accessFlags := 0, code := some k7c5 }
def k7c6 : Code := { maxStack := 1, maxLocals := 1, code := jdk_42_method_154_code, exceptionTable := #[], attributes := #[] }
def k7m6 : Method := { name := "isLatin1", desc := "()Z", sig := { parameters := [], returnType := some .boolean }, accessFlags := 0, code := some k7c6 }
def k7c7 : Code := { maxStack := 3, maxLocals := 2, code := jdk_42_method_155_code, exceptionTable := #[], attributes := #[] }
def k7m7 : Method := { name := "checkIndex", desc := "(II)V", sig := { parameters := [.int, .int], returnType := none }, accessFlags := 8, code := some k7c7 }
/-- java/lang/String -/
def k7 : Class := { plain "java/lang/String" (some 0) with
  accessFlags := 49
  interfaces := #[2, 3, 4, 5, 6]
  cf := some (fileOf pool7 10 #[.nestMembers #[1103]] #[{ accessFlags := 1, nameIndex := 5, descriptorIndex := 6, attributes := #[] }, { accessFlags := 1, nameIndex := 5, descriptorIndex := 1010, attributes := #[] }, { accessFlags := 1, nameIndex := 507, descriptorIndex := 334, attributes := #[] }, { accessFlags := 1, nameIndex := 497, descriptorIndex := 427, attributes := #[] }, { accessFlags := 2, nameIndex := 5, descriptorIndex := 29, attributes := #[] }, { accessFlags := 0, nameIndex := 17, descriptorIndex := 337, attributes := #[] }, { accessFlags := 0, nameIndex := 494, descriptorIndex := 142, attributes := #[] }, { accessFlags := 8, nameIndex := 501, descriptorIndex := 391, attributes := #[] }] 49 2 #[1106, 1108, 575, 1110, 1112] #[{ accessFlags := 18, nameIndex := 13, descriptorIndex := 14, attributes := #[] }, { accessFlags := 18, nameIndex := 17, descriptorIndex := 18, attributes := #[] }, { accessFlags := 2, nameIndex := 21, descriptorIndex := 22, attributes := #[] }, { accessFlags := 2, nameIndex := 25, descriptorIndex := 26, attributes := #[] }, { accessFlags := 26, nameIndex := 1116, descriptorIndex := 1117, attributes := #[] }, { accessFlags := 24, nameIndex := 40, descriptorIndex := 26, attributes := #[] }, { accessFlags := 26, nameIndex := 1101, descriptorIndex := 1102, attributes := #[] }, { accessFlags := 26, nameIndex := 1121, descriptorIndex := 1122, attributes := #[] }, { accessFlags := 25, nameIndex := 599, descriptorIndex := 600, attributes := #[] }, { accessFlags := 24, nameIndex := 1125, descriptorIndex := 18, attributes := #[] }, { accessFlags := 24, nameIndex := 1127, descriptorIndex := 18, attributes := #[] }])
  fields := #[{ name := "value", type := (.array .byte), accessFlags := 18, slot := 0, constantValue := 0 }, { name := "coder", type := .byte, accessFlags := 18, slot := 1, constantValue := 0 }, { name := "hash", type := .int, accessFlags := 2, slot := 2, constantValue := 0 }, { name := "hashIsZero", type := .boolean, accessFlags := 2, slot := 3, constantValue := 0 }, { name := "serialVersionUID", type := .long, accessFlags := 26, slot := 0, constantValue := 0 }, { name := "COMPACT_STRINGS", type := .boolean, accessFlags := 24, slot := 1, constantValue := 0 }, { name := "serialPersistentFields", type := (.array (.object "java/io/ObjectStreamField")), accessFlags := 26, slot := 2, constantValue := 0 }, { name := "REPL", type := .char, accessFlags := 26, slot := 3, constantValue := 0 }, { name := "CASE_INSENSITIVE_ORDER", type := (.object "java/util/Comparator"), accessFlags := 25, slot := 4, constantValue := 0 }, { name := "LATIN1", type := .byte, accessFlags := 24, slot := 5, constantValue := 0 }, { name := "UTF16", type := .byte, accessFlags := 24, slot := 6, constantValue := 0 }]
  methods := #[k7m0, k7m1, k7m2, k7m3, k7m4, k7m5, k7m6, k7m7]
  instanceTypes := #[(.array .byte), .byte, .int, .boolean]
  staticTypes := #[.long, .boolean, (.array (.object "java/io/ObjectStreamField")), .char, (.object "java/util/Comparator"), .byte, .byte]
  resolved := Array.replicate 1451 none
  statics := some 0 }

def pool8 : Array CpInfo := pool [(3, .class_ 4), (0, u "java/lang/String"), (1, .class_ 8), (1, u "java/lang/Object"), (0, u "<init>"), (0, u "()V"), (0, .methodref 12 13), (0, .class_ 14), (0, .nameAndType 15 16), (0, u "java/lang/StringUTF16"), (0, u "newBytesLength"), (0, u "(I)I"), (3, .integer 1073741823), (23, .fieldref 12 45), (0, .nameAndType 46 47), (0, u "$assertionsDisabled"), (0, u "Z"), (0, .methodref 12 49), (0, .nameAndType 50 51), (0, u "length"), (0, u "([B)I"), (7, .fieldref 12 60), (0, .nameAndType 61 62), (0, u "HI_BYTE_SHIFT"), (0, u "I"), (0, .fieldref 12 64), (0, .nameAndType 65 62), (0, u "LO_BYTE_SHIFT"), (1, .methodref 12 68), (0, .nameAndType 69 70), (0, u "checkIndex"), (0, u "(I[B)V"), (0, .methodref 12 72), (0, .nameAndType 73 74), (0, u "getChar"), (0, u "([BI)C"), (32, .methodref 12 108), (0, .nameAndType 109 110), (0, u "newBytesFor"), (0, u "(I)[B"), (0, .methodref 12 112), (0, .nameAndType 113 114), (0, u "putChar"), (0, u "([BII)V"), (0, .methodref 12 116), (0, .nameAndType 117 118), (0, u "compress"), (0, u "([CI[BII)I"), (0, .methodref 12 120), (0, .nameAndType 121 122), (0, u "toBytes"), (0, u "([CII)[B"), (138, u "coderFromArrayLen"), (0, u "([BI)B"), (106, .class_ 371), (1, u "java/lang/StringUTF16$LinesSpliterator"), (20, u "charAt"), (21, .methodref 3 415), (0, .nameAndType 69 416), (0, u "(II)V"), (13, u "MAX_LENGTH"), (196, .class_ 628), (0, u "java/lang/StringUTF16$CodePointsSpliterator"), (0, .class_ 630), (0, u "java/lang/StringUTF16$CharsSpliterator")] 4

def k8m0 : Method := { name := "<init>", desc := "()V", sig := { parameters := [], returnType := none }, accessFlags := 0, code := none }
def k8c1 : Code := { maxStack := 1, maxLocals := 1, code := jdk_52_method_2_code, exceptionTable := #[], attributes := #[] }
def k8m1 : Method := { name := "newBytesFor", desc := "(I)[B", sig := { parameters := [.int], returnType := some (.array .byte) }, accessFlags := 9, code := some k8c1 }
def k8c2 : Code := { maxStack := 4, maxLocals := 1, code := jdk_52_method_3_code, exceptionTable := #[], attributes := #[] }
def k8m2 : Method := { name := "newBytesLength", desc := "(I)I", sig := { parameters := [.int], returnType := some .int }, accessFlags := 9, code := some k8c2 }
def k8c3 : Code := { maxStack := 4, maxLocals := 3, code := jdk_52_method_4_code, exceptionTable := #[], attributes := #[] }
def k8m3 : Method := { name := "putChar", desc := "([BII)V", sig := { parameters := [(.array .byte), .int, .int], returnType := none }, accessFlags := 8, code := some k8c3 }
def k8c4 : Code := { maxStack := 3, maxLocals := 2, code := jdk_52_method_5_code, exceptionTable := #[], attributes := #[] }
def k8m4 : Method := { name := "getChar", desc := "([BI)C", sig := { parameters := [(.array .byte), .int], returnType := some .char }, accessFlags := 8, code := some k8c4 }
def k8c5 : Code := { maxStack := 2, maxLocals := 1, code := jdk_52_method_6_code, exceptionTable := #[], attributes := #[] }
def k8m5 : Method := { name := "length", desc := "([B)I", sig := { parameters := [(.array .byte)], returnType := some .int }, accessFlags := 9, code := some k8c5 }
def k8c6 : Code := { maxStack := 4, maxLocals := 5, code := jdk_52_method_14_code, exceptionTable := #[], attributes := #[] }
def k8m6 : Method := { name := "toBytes", desc := "([CII)[B", sig := { parameters := [(.array .char), .int, .int], returnType := some (.array .byte) }, accessFlags := 9, code := some k8c6 }
def k8c7 : Code := { maxStack := 2, maxLocals := 2, code := jdk_52_method_15_code, exceptionTable := #[], attributes := #[] }
def k8m7 : Method := { name := "coderFromArrayLen", desc := "([BI)B", sig := { parameters := [(.array .byte), .int], returnType := some .byte }, accessFlags := 8, code := some k8c7 }
def k8c8 : Code := { maxStack := 5, maxLocals := 6, code := jdk_52_method_16_code, exceptionTable := #[], attributes := #[] }
def k8m8 : Method := { name := "compress", desc := "([CII)[B", sig := { parameters := [(.array .char), .int, .int], returnType := some (.array .byte) }, accessFlags := 9, code := some k8c8 }
def k8c9 : Code := { maxStack := 3, maxLocals := 7, code := jdk_52_method_21_code, exceptionTable := #[], attributes := #[] }
def k8m9 : Method := { name := "compress", desc := "([CI[BII)I", sig := { parameters := [(.array .char), .int, (.array .byte), .int, .int], returnType := some .int }, accessFlags := 9, code := some k8c9 }
def k8c10 : Code := { maxStack := 2, maxLocals := 2, code := jdk_52_method_83_code, exceptionTable := #[], attributes := #[] }
def k8m10 : Method := { name := "charAt", desc := "([BI)C", sig := { parameters := [(.array .byte), .int], returnType := some .char }, accessFlags := 9, code := some k8c10 }
def k8c11 : Code := { maxStack := 2, maxLocals := 2, code := jdk_52_method_91_code, exceptionTable := #[], attributes := #[] }
def k8m11 : Method := { name := "checkIndex", desc := "(I[B)V", sig := { parameters := [.int, (.array .byte)], returnType := none }, accessFlags := 9, code := some k8c11 }
/-- java/lang/StringUTF16 -/
def k8 : Class := { plain "java/lang/StringUTF16" (some 0) with
  accessFlags := 48
  interfaces := #[]
  cf := some (fileOf pool8 12 #[.nestMembers #[627, 629, 369]] #[{ accessFlags := 0, nameIndex := 9, descriptorIndex := 10, attributes := #[] }, { accessFlags := 9, nameIndex := 109, descriptorIndex := 110, attributes := #[] }, { accessFlags := 9, nameIndex := 15, descriptorIndex := 16, attributes := #[] }, { accessFlags := 8, nameIndex := 113, descriptorIndex := 114, attributes := #[] }, { accessFlags := 8, nameIndex := 73, descriptorIndex := 74, attributes := #[] }, { accessFlags := 9, nameIndex := 50, descriptorIndex := 51, attributes := #[] }, { accessFlags := 9, nameIndex := 121, descriptorIndex := 122, attributes := #[] }, { accessFlags := 8, nameIndex := 261, descriptorIndex := 262, attributes := #[] }, { accessFlags := 9, nameIndex := 117, descriptorIndex := 122, attributes := #[] }, { accessFlags := 9, nameIndex := 117, descriptorIndex := 118, attributes := #[] }, { accessFlags := 9, nameIndex := 392, descriptorIndex := 74, attributes := #[] }, { accessFlags := 9, nameIndex := 69, descriptorIndex := 70, attributes := #[] }] 48 6 #[] #[{ accessFlags := 26, nameIndex := 61, descriptorIndex := 62, attributes := #[] }, { accessFlags := 26, nameIndex := 65, descriptorIndex := 62, attributes := #[] }, { accessFlags := 24, nameIndex := 430, descriptorIndex := 62, attributes := #[] }, { accessFlags := 4120, nameIndex := 46, descriptorIndex := 47, attributes := #[] }])
  fields := #[{ name := "HI_BYTE_SHIFT", type := .int, accessFlags := 26, slot := 0, constantValue := 0 }, { name := "LO_BYTE_SHIFT", type := .int, accessFlags := 26, slot := 1, constantValue := 0 }, { name := "MAX_LENGTH", type := .int, accessFlags := 24, slot := 2, constantValue := 0 }, { name := "$assertionsDisabled", type := .boolean, accessFlags := 4120, slot := 3, constantValue := 0 }]
  methods := #[k8m0, k8m1, k8m2, k8m3, k8m4, k8m5, k8m6, k8m7, k8m8, k8m9, k8m10, k8m11]
  instanceTypes := #[]
  staticTypes := #[.int, .int, .int, .boolean]
  resolved := Array.replicate 635 none
  statics := some 1 }

def pool9 : Array CpInfo := pool [(1, .methodref 2 3), (0, .class_ 4), (0, .nameAndType 5 6), (0, u "java/lang/Object"), (0, u "<init>"), (0, u "()V"), (0, .fieldref 8 9), (0, .class_ 10), (0, .nameAndType 11 12), (0, u "tramline/routes/JsonWriter"), (0, u "bytes"), (0, u "[B"), (0, .fieldref 8 14), (0, .nameAndType 15 16), (0, u "objects"), (0, u "[Z"), (0, .fieldref 8 18), (0, .nameAndType 19 16), (0, u "begun"), (0, .methodref 8 21), (0, .nameAndType 22 23), (0, u "open"), (0, u "(Z)V"), (0, .methodref 8 25), (0, .nameAndType 26 23), (0, u "close"), (0, .fieldref 8 28), (0, .nameAndType 29 30), (0, u "depth"), (0, u "I"), (0, .fieldref 8 32), (0, .nameAndType 33 34), (0, u "named"), (0, u "Z"), (8, u "(Ljava/lang/String;)V"), (0, .methodref 8 45), (0, .nameAndType 46 47), (0, u "put"), (0, u "(B)V"), (0, .methodref 8 49), (0, .nameAndType 50 43), (0, u "string"), (3, .methodref 8 55), (0, .nameAndType 56 6), (0, u "beforeValue"), (13, .class_ 72), (1, u "java/lang/String"), (2, .methodref 8 76), (0, .nameAndType 46 77), (0, u "([B)V"), (0, .fieldref 8 79), (0, .nameAndType 80 12), (0, u "TRUE"), (0, .fieldref 8 82), (0, .nameAndType 83 12), (0, u "FALSE"), (2, u "NULL"), (5, u "writeString"), (6, u "writeBoolean"), (2, u "writeStartArray"), (0, .fieldref 8 104), (0, .nameAndType 105 34), (0, u "started"), (0, .fieldref 8 107), (0, .nameAndType 108 30), (0, u "size"), (0, .methodref 110 111), (0, .class_ 112), (0, .nameAndType 113 114), (0, u "java/util/Arrays"), (0, u "copyOf"), (0, u "([BI)[B"), (12, .methodref 70 128), (0, .nameAndType 129 130), (0, u "length"), (0, u "()I"), (0, .methodref 8 132), (0, .nameAndType 133 134), (0, u "room"), (0, u "(I)V"), (0, .methodref 70 136), (0, .nameAndType 137 138), (0, u "charAt"), (0, u "(I)C"), (0, .methodref 8 140), (0, .nameAndType 141 142), (0, u "rest"), (0, u "(Ljava/lang/String;I)V"), (0, .methodref 8 144), (0, .nameAndType 145 146), (0, u "escape"), (0, u "(C)V"), (0, .methodref 148 149), (0, .class_ 150), (0, .nameAndType 151 152), (0, u "java/lang/Character"), (0, u "isSurrogate"), (0, u "(C)Z"), (0, .fieldref 8 154), (0, .nameAndType 155 12), (0, u "HEX"), (0, .methodref 157 158), (0, .class_ 159), (0, .nameAndType 160 161), (0, u "java/lang/System"), (0, u "arraycopy"), (0, u "(Ljava/lang/Object;ILjava/lang/Object;II)V"), (8, u "MOST_BYTES_PER_CHAR"), (6, u "writeEndArray"), (12, u "toByteArray"), (0, u "()[B")] 20

def k9c0 : Code := { maxStack := 2, maxLocals := 1, code := prog_32_method_1_code, exceptionTable := #[], attributes := #[] }
def k9m0 : Method := { name := "<init>", desc := "()V", sig := { parameters := [], returnType := none }, accessFlags := 1, code := some k9c0 }
def k9c1 : Code := { maxStack := 2, maxLocals := 1, code := prog_32_method_4_code, exceptionTable := #[], attributes := #[] }
def k9m1 : Method := { name := "writeStartArray", desc := "()V", sig := { parameters := [], returnType := none }, accessFlags := 1, code := some k9c1 }
def k9c2 : Code := { maxStack := 2, maxLocals := 1, code := prog_32_method_5_code, exceptionTable := #[], attributes := #[] }
def k9m2 : Method := { name := "writeEndArray", desc := "()V", sig := { parameters := [], returnType := none }, accessFlags := 1, code := some k9c2 }
def k9c3 : Code := { maxStack := 2, maxLocals := 2, code := prog_32_method_7_code, exceptionTable := #[], attributes := #[] }
def k9m3 : Method := { name := "writeString", desc := "(Ljava/lang/String;)V", sig := { parameters := [(.object "java/lang/String")], returnType := none }, accessFlags := 1, code := some k9c3 }
def k9c4 : Code := { maxStack := 2, maxLocals := 2, code := prog_32_method_9_code, exceptionTable := #[], attributes := #[] }
def k9m4 : Method := { name := "writeBoolean", desc := "(Z)V", sig := { parameters := [.boolean], returnType := none }, accessFlags := 1, code := some k9c4 }
def k9c5 : Code := { maxStack := 2, maxLocals := 1, code := prog_32_method_17_code, exceptionTable := #[], attributes := #[] }
def k9m5 : Method := { name := "toByteArray", desc := "()[B", sig := { parameters := [], returnType := some (.array .byte) }, accessFlags := 0, code := some k9c5 }
def k9c6 : Code := { maxStack := 4, maxLocals := 2, code := prog_32_method_18_code, exceptionTable := #[], attributes := #[] }
def k9m6 : Method := { name := "open", desc := "(Z)V", sig := { parameters := [.boolean], returnType := none }, accessFlags := 2, code := some k9c6 }
def k9c7 : Code := { maxStack := 3, maxLocals := 2, code := prog_32_method_19_code, exceptionTable := #[], attributes := #[] }
def k9m7 : Method := { name := "close", desc := "(Z)V", sig := { parameters := [.boolean], returnType := none }, accessFlags := 2, code := some k9c7 }
def k9c8 : Code := { maxStack := 3, maxLocals := 1, code := prog_32_method_20_code, exceptionTable := #[], attributes := #[] }
def k9m8 : Method := { name := "beforeValue", desc := "()V", sig := { parameters := [], returnType := none }, accessFlags := 2, code := some k9c8 }
def k9c9 : Code := { maxStack := 5, maxLocals := 5, code := prog_32_method_21_code, exceptionTable := #[], attributes := #[] }
def k9m9 : Method := { name := "string", desc := "(Ljava/lang/String;)V", sig := { parameters := [(.object "java/lang/String")], returnType := none }, accessFlags := 2, code := some k9c9 }
def k9c10 : Code := { maxStack := 5, maxLocals := 5, code := prog_32_method_22_code, exceptionTable := #[], attributes := #[] }
def k9m10 : Method := { name := "rest", desc := "(Ljava/lang/String;I)V", sig := { parameters := [(.object "java/lang/String"), .int], returnType := none }, accessFlags := 2, code := some k9c10 }
def k9c11 : Code := { maxStack := 5, maxLocals := 4, code := prog_32_method_23_code, exceptionTable := #[], attributes := #[] }
def k9m11 : Method := { name := "escape", desc := "(C)V", sig := { parameters := [.char], returnType := none }, accessFlags := 2, code := some k9c11 }
def k9c12 : Code := { maxStack := 5, maxLocals := 2, code := prog_32_method_24_code, exceptionTable := #[], attributes := #[] }
def k9m12 : Method := { name := "put", desc := "(B)V", sig := { parameters := [.byte], returnType := none }, accessFlags := 2, code := some k9c12 }
def k9c13 : Code := { maxStack := 5, maxLocals := 2, code := prog_32_method_25_code, exceptionTable := #[], attributes := #[] }
def k9m13 : Method := { name := "put", desc := "([B)V", sig := { parameters := [(.array .byte)], returnType := none }, accessFlags := 2, code := some k9c13 }
def k9c14 : Code := { maxStack := 5, maxLocals := 2, code := prog_32_method_26_code, exceptionTable := #[], attributes := #[] }
def k9m14 : Method := { name := "room", desc := "(I)V", sig := { parameters := [.int], returnType := none }, accessFlags := 2, code := some k9c14 }
/-- tramline/routes/JsonWriter -/
def k9 : Class := { plain "tramline/routes/JsonWriter" (some 0) with
  accessFlags := 49
  interfaces := #[]
  cf := some (fileOf pool9 8 #[] #[{ accessFlags := 1, nameIndex := 5, descriptorIndex := 6, attributes := #[] }, { accessFlags := 1, nameIndex := 102, descriptorIndex := 6, attributes := #[] }, { accessFlags := 1, nameIndex := 177, descriptorIndex := 6, attributes := #[] }, { accessFlags := 1, nameIndex := 92, descriptorIndex := 43, attributes := #[] }, { accessFlags := 1, nameIndex := 99, descriptorIndex := 23, attributes := #[] }, { accessFlags := 0, nameIndex := 190, descriptorIndex := 191, attributes := #[] }, { accessFlags := 2, nameIndex := 22, descriptorIndex := 23, attributes := #[] }, { accessFlags := 2, nameIndex := 26, descriptorIndex := 23, attributes := #[] }, { accessFlags := 2, nameIndex := 56, descriptorIndex := 6, attributes := #[] }, { accessFlags := 2, nameIndex := 50, descriptorIndex := 43, attributes := #[] }, { accessFlags := 2, nameIndex := 141, descriptorIndex := 142, attributes := #[] }, { accessFlags := 2, nameIndex := 145, descriptorIndex := 146, attributes := #[] }, { accessFlags := 2, nameIndex := 46, descriptorIndex := 47, attributes := #[] }, { accessFlags := 2, nameIndex := 46, descriptorIndex := 77, attributes := #[] }, { accessFlags := 2, nameIndex := 133, descriptorIndex := 134, attributes := #[] }] 49 2 #[] #[{ accessFlags := 26, nameIndex := 155, descriptorIndex := 12, attributes := #[] }, { accessFlags := 26, nameIndex := 80, descriptorIndex := 12, attributes := #[] }, { accessFlags := 26, nameIndex := 83, descriptorIndex := 12, attributes := #[] }, { accessFlags := 26, nameIndex := 86, descriptorIndex := 12, attributes := #[] }, { accessFlags := 26, nameIndex := 170, descriptorIndex := 30, attributes := #[] }, { accessFlags := 2, nameIndex := 11, descriptorIndex := 12, attributes := #[] }, { accessFlags := 2, nameIndex := 108, descriptorIndex := 30, attributes := #[] }, { accessFlags := 2, nameIndex := 15, descriptorIndex := 16, attributes := #[] }, { accessFlags := 2, nameIndex := 19, descriptorIndex := 16, attributes := #[] }, { accessFlags := 2, nameIndex := 29, descriptorIndex := 30, attributes := #[] }, { accessFlags := 2, nameIndex := 33, descriptorIndex := 34, attributes := #[] }, { accessFlags := 2, nameIndex := 105, descriptorIndex := 34, attributes := #[] }])
  fields := #[{ name := "HEX", type := (.array .byte), accessFlags := 26, slot := 0, constantValue := 0 }, { name := "TRUE", type := (.array .byte), accessFlags := 26, slot := 1, constantValue := 0 }, { name := "FALSE", type := (.array .byte), accessFlags := 26, slot := 2, constantValue := 0 }, { name := "NULL", type := (.array .byte), accessFlags := 26, slot := 3, constantValue := 0 }, { name := "MOST_BYTES_PER_CHAR", type := .int, accessFlags := 26, slot := 4, constantValue := 0 }, { name := "bytes", type := (.array .byte), accessFlags := 2, slot := 0, constantValue := 0 }, { name := "size", type := .int, accessFlags := 2, slot := 1, constantValue := 0 }, { name := "objects", type := (.array .boolean), accessFlags := 2, slot := 2, constantValue := 0 }, { name := "begun", type := (.array .boolean), accessFlags := 2, slot := 3, constantValue := 0 }, { name := "depth", type := .int, accessFlags := 2, slot := 4, constantValue := 0 }, { name := "named", type := .boolean, accessFlags := 2, slot := 5, constantValue := 0 }, { name := "started", type := .boolean, accessFlags := 2, slot := 6, constantValue := 0 }]
  methods := #[k9m0, k9m1, k9m2, k9m3, k9m4, k9m5, k9m6, k9m7, k9m8, k9m9, k9m10, k9m11, k9m12, k9m13, k9m14]
  instanceTypes := #[(.array .byte), .int, (.array .boolean), (.array .boolean), .int, .boolean, .boolean]
  staticTypes := #[(.array .byte), (.array .byte), (.array .byte), (.array .byte), .int]
  resolved := Array.replicate 212 none
  statics := some 2 }

def pool10 : Array CpInfo := pool [(2, .class_ 4), (1, u "java/lang/Object"), (0, u "<init>"), (0, u "()V"), (7, .class_ 16), (1, u "java/util/Arrays"), (57, .class_ 76), (1, u "java/util/Arrays$NaturalOrder"), (36, .class_ 115), (1, u "java/util/Arrays$LegacyMergeSort"), (1, u "Z"), (32, .methodref 151 152), (0, .class_ 153), (0, .nameAndType 154 155), (0, u "java/lang/System"), (0, u "arraycopy"), (0, u "(Ljava/lang/Object;ILjava/lang/Object;II)V"), (146, u "copyOf"), (1, .methodref 305 306), (0, .class_ 307), (0, .nameAndType 308 309), (0, u "java/lang/Math"), (0, u "min"), (0, u "(II)I"), (65, .class_ 376), (0, u "java/util/Arrays$ArrayList"), (68, u "$assertionsDisabled"), (269, u "MIN_ARRAY_SORT_GRAN"), (0, u "I"), (2, u "INSERTIONSORT_THRESHOLD"), (149, u "([BI)[B"), (105, .class_ 976), (0, u "java/util/Arrays$ArrayItr")] 52

def k10m0 : Method := { name := "<init>", desc := "()V", sig := { parameters := [], returnType := none }, accessFlags := 2, code := none }
def k10c1 : Code := { maxStack := 6, maxLocals := 3, code := jdk_65_method_121_code, exceptionTable := #[], attributes := #[] }
def k10m1 : Method := { name := "copyOf", desc := "([BI)[B", sig := { parameters := [(.array .byte), .int], returnType := some (.array .byte) }, accessFlags := 9, code := some k10c1 }
/-- java/util/Arrays -/
def k10 : Class := { plain "java/util/Arrays" (some 0) with
  accessFlags := 49
  interfaces := #[]
  cf := some (fileOf pool10 14 #[.nestMembers #[975, 375, 113, 74]] #[{ accessFlags := 2, nameIndex := 5, descriptorIndex := 6, attributes := #[] }, { accessFlags := 9, nameIndex := 302, descriptorIndex := 869, attributes := #[] }] 49 2 #[] #[{ accessFlags := 26, nameIndex := 715, descriptorIndex := 716, attributes := #[] }, { accessFlags := 26, nameIndex := 719, descriptorIndex := 716, attributes := #[] }, { accessFlags := 4120, nameIndex := 445, descriptorIndex := 117, attributes := #[] }])
  fields := #[{ name := "MIN_ARRAY_SORT_GRAN", type := .int, accessFlags := 26, slot := 0, constantValue := 0 }, { name := "INSERTIONSORT_THRESHOLD", type := .int, accessFlags := 26, slot := 1, constantValue := 0 }, { name := "$assertionsDisabled", type := .boolean, accessFlags := 4120, slot := 2, constantValue := 0 }]
  methods := #[k10m0, k10m1]
  instanceTypes := #[]
  staticTypes := #[.int, .int, .boolean]
  resolved := Array.replicate 1029 none
  statics := none }

def pool11 : Array CpInfo := pool [(1, .class_ 2), (0, u "java/lang/Math"), (1, .class_ 6), (1, u "java/lang/Object"), (0, u "<init>"), (0, u "()V"), (89, .class_ 100), (1, u "java/lang/Math$RandomNumberGeneratorHolder"), (71, u "negativeZeroFloatBits"), (0, u "J"), (2, u "negativeZeroDoubleBits"), (24, u "min"), (43, u "$assertionsDisabled"), (0, u "Z"), (88, u "(II)I"), (2, u "twoToTheDoubleScaleDown"), (0, u "D"), (4, u "twoToTheDoubleScaleUp"), (9, u "E"), (3, u "PI"), (2, u "TAU"), (2, u "DEGREES_TO_RADIANS"), (0, u "RADIANS_TO_DEGREES")] 94

def k11m0 : Method := { name := "<init>", desc := "()V", sig := { parameters := [], returnType := none }, accessFlags := 2, code := none }
def k11c1 : Code := { maxStack := 2, maxLocals := 2, code := jdk_29_method_69_code, exceptionTable := #[], attributes := #[] }
def k11m1 : Method := { name := "min", desc := "(II)I", sig := { parameters := [.int, .int], returnType := some .int }, accessFlags := 9, code := some k11c1 }
/-- java/lang/Math -/
def k11 : Class := { plain "java/lang/Math" (some 0) with
  accessFlags := 49
  interfaces := #[]
  cf := some (fileOf pool11 1 #[.nestMembers #[98]] #[{ accessFlags := 2, nameIndex := 7, descriptorIndex := 8, attributes := #[] }, { accessFlags := 9, nameIndex := 201, descriptorIndex := 335, attributes := #[] }] 49 4 #[] #[{ accessFlags := 25, nameIndex := 354, descriptorIndex := 339, attributes := #[] }, { accessFlags := 25, nameIndex := 358, descriptorIndex := 339, attributes := #[] }, { accessFlags := 25, nameIndex := 361, descriptorIndex := 339, attributes := #[] }, { accessFlags := 26, nameIndex := 364, descriptorIndex := 339, attributes := #[] }, { accessFlags := 26, nameIndex := 365, descriptorIndex := 339, attributes := #[] }, { accessFlags := 26, nameIndex := 172, descriptorIndex := 173, attributes := #[] }, { accessFlags := 26, nameIndex := 176, descriptorIndex := 173, attributes := #[] }, { accessFlags := 8, nameIndex := 344, descriptorIndex := 339, attributes := #[] }, { accessFlags := 8, nameIndex := 338, descriptorIndex := 339, attributes := #[] }, { accessFlags := 4120, nameIndex := 245, descriptorIndex := 246, attributes := #[] }])
  fields := #[{ name := "E", type := .double, accessFlags := 25, slot := 0, constantValue := 0 }, { name := "PI", type := .double, accessFlags := 25, slot := 1, constantValue := 0 }, { name := "TAU", type := .double, accessFlags := 25, slot := 2, constantValue := 0 }, { name := "DEGREES_TO_RADIANS", type := .double, accessFlags := 26, slot := 3, constantValue := 0 }, { name := "RADIANS_TO_DEGREES", type := .double, accessFlags := 26, slot := 4, constantValue := 0 }, { name := "negativeZeroFloatBits", type := .long, accessFlags := 26, slot := 5, constantValue := 0 }, { name := "negativeZeroDoubleBits", type := .long, accessFlags := 26, slot := 6, constantValue := 0 }, { name := "twoToTheDoubleScaleUp", type := .double, accessFlags := 8, slot := 7, constantValue := 0 }, { name := "twoToTheDoubleScaleDown", type := .double, accessFlags := 8, slot := 8, constantValue := 0 }, { name := "$assertionsDisabled", type := .boolean, accessFlags := 4120, slot := 9, constantValue := 0 }]
  methods := #[k11m0, k11m1]
  instanceTypes := #[]
  staticTypes := #[.double, .double, .double, .double, .double, .long, .long, .double, .double, .boolean]
  resolved := Array.replicate 460 none
  statics := none }

def pool12 : Array CpInfo := pool [(2, .class_ 4), (1, u "java/lang/Object"), (0, u "<init>"), (0, u "()V"), (1, .class_ 10), (1, u "java/lang/System"), (0, u "allowSecurityManager"), (0, u "I"), (16, u "cons"), (0, u "Ljava/io/Console;"), (77, .class_ 110), (1, u "java/lang/System$CallersHolder"), (43, u "initialErrStream"), (0, u "Ljava/io/PrintStream;"), (19, u "security"), (0, u "Ljava/lang/SecurityManager;"), (31, .class_ 209), (0, u "java/lang/System$1"), (7, u "props"), (0, u "Ljava/util/Properties;"), (2, u "lineSeparator"), (0, u "Ljava/lang/String;"), (96, .class_ 321), (1, u "java/lang/System$LoggerFinder"), (5, .class_ 328), (0, u "java/lang/System$Logger"), (67, u "err"), (2, u "out"), (91, u "notSupportedJnuEncoding"), (15, u "in"), (17, u "initialIn"), (0, u "Ljava/io/InputStream;"), (35, u "bootLayer"), (0, u "Ljava/lang/ModuleLayer;"), (99, .class_ 664), (0, u "java/lang/System$2"), (9, u "NEVER"), (2, u "MAYBE"), (49, u "arraycopy"), (0, u "(Ljava/lang/Object;ILjava/lang/Object;II)V"), (72, .class_ 802), (0, u "java/lang/System$Logger$Level")] 31

def k12m0 : Method := { name := "<init>", desc := "()V", sig := { parameters := [], returnType := none }, accessFlags := 2, code := none }
def k12m1 : Method := { name := "arraycopy", desc := "(Ljava/lang/Object;ILjava/lang/Object;II)V", sig := { parameters := [(.object "java/lang/Object"), .int, (.object "java/lang/Object"), .int, .int], returnType := none }, accessFlags := 265, code := none }
/-- java/lang/System -/
def k12 : Class := { plain "java/lang/System" (some 0) with
  accessFlags := 49
  interfaces := #[]
  cf := some (fileOf pool12 8 #[.nestMembers #[319, 327, 801, 108, 663, 208]] #[{ accessFlags := 2, nameIndex := 5, descriptorIndex := 6, attributes := #[] }, { accessFlags := 265, nameIndex := 727, descriptorIndex := 728, attributes := #[] }] 49 2 #[] #[{ accessFlags := 25, nameIndex := 507, descriptorIndex := 526, attributes := #[] }, { accessFlags := 25, nameIndex := 399, descriptorIndex := 155, attributes := #[] }, { accessFlags := 25, nameIndex := 396, descriptorIndex := 155, attributes := #[] }, { accessFlags := 10, nameIndex := 525, descriptorIndex := 526, attributes := #[] }, { accessFlags := 26, nameIndex := 674, descriptorIndex := 12, attributes := #[] }, { accessFlags := 26, nameIndex := 677, descriptorIndex := 12, attributes := #[] }, { accessFlags := 10, nameIndex := 11, descriptorIndex := 12, attributes := #[] }, { accessFlags := 74, nameIndex := 175, descriptorIndex := 176, attributes := #[] }, { accessFlags := 10, nameIndex := 491, descriptorIndex := 222, attributes := #[] }, { accessFlags := 74, nameIndex := 29, descriptorIndex := 30, attributes := #[] }, { accessFlags := 74, nameIndex := 154, descriptorIndex := 155, attributes := #[] }, { accessFlags := 10, nameIndex := 217, descriptorIndex := 218, attributes := #[] }, { accessFlags := 10, nameIndex := 221, descriptorIndex := 222, attributes := #[] }, { accessFlags := 8, nameIndex := 562, descriptorIndex := 563, attributes := #[] }])
  fields := #[{ name := "in", type := (.object "java/io/InputStream"), accessFlags := 25, slot := 0, constantValue := 0 }, { name := "out", type := (.object "java/io/PrintStream"), accessFlags := 25, slot := 1, constantValue := 0 }, { name := "err", type := (.object "java/io/PrintStream"), accessFlags := 25, slot := 2, constantValue := 0 }, { name := "initialIn", type := (.object "java/io/InputStream"), accessFlags := 10, slot := 3, constantValue := 0 }, { name := "NEVER", type := .int, accessFlags := 26, slot := 4, constantValue := 0 }, { name := "MAYBE", type := .int, accessFlags := 26, slot := 5, constantValue := 0 }, { name := "allowSecurityManager", type := .int, accessFlags := 10, slot := 6, constantValue := 0 }, { name := "security", type := (.object "java/lang/SecurityManager"), accessFlags := 74, slot := 7, constantValue := 0 }, { name := "notSupportedJnuEncoding", type := (.object "java/lang/String"), accessFlags := 10, slot := 8, constantValue := 0 }, { name := "cons", type := (.object "java/io/Console"), accessFlags := 74, slot := 9, constantValue := 0 }, { name := "initialErrStream", type := (.object "java/io/PrintStream"), accessFlags := 74, slot := 10, constantValue := 0 }, { name := "props", type := (.object "java/util/Properties"), accessFlags := 10, slot := 11, constantValue := 0 }, { name := "lineSeparator", type := (.object "java/lang/String"), accessFlags := 10, slot := 12, constantValue := 0 }, { name := "bootLayer", type := (.object "java/lang/ModuleLayer"), accessFlags := 8, slot := 13, constantValue := 0 }]
  methods := #[k12m0, k12m1]
  instanceTypes := #[]
  staticTypes := #[(.object "java/io/InputStream"), (.object "java/io/PrintStream"), (.object "java/io/PrintStream"), (.object "java/io/InputStream"), .int, .int, .int, (.object "java/lang/SecurityManager"), (.object "java/lang/String"), (.object "java/io/Console"), (.object "java/io/PrintStream"), (.object "java/util/Properties"), (.object "java/lang/String"), (.object "java/lang/ModuleLayer")]
  resolved := Array.replicate 834 none
  statics := none }

def pool13 : Array CpInfo := pool [(1, .class_ 2), (0, u "java/lang/String"), (1, .class_ 6), (1, u "java/lang/Object"), (0, u "<init>"), (0, u "()V"), (0, .methodref 1 10), (0, .nameAndType 11 12), (0, u "checkIndex"), (0, u "(II)V"), (1, .class_ 16), (1, u "java/lang/StringLatin1"), (36, u "([BI)C"), (67, u "$assertionsDisabled"), (0, u "Z"), (98, .class_ 223), (1, u "java/lang/StringLatin1$LinesSpliterator"), (28, u "charAt"), (137, .class_ 391), (0, u "java/lang/StringLatin1$CharsSpliterator")] 3

def k13m0 : Method := { name := "<init>", desc := "()V", sig := { parameters := [], returnType := none }, accessFlags := 0, code := none }
def k13c1 : Code := { maxStack := 2, maxLocals := 2, code := jdk_43_method_2_code, exceptionTable := #[], attributes := #[] }
def k13m1 : Method := { name := "charAt", desc := "([BI)C", sig := { parameters := [(.array .byte), .int], returnType := some .char }, accessFlags := 9, code := some k13c1 }
/-- java/lang/StringLatin1 -/
def k13 : Class := { plain "java/lang/StringLatin1" (some 0) with
  accessFlags := 48
  interfaces := #[]
  cf := some (fileOf pool13 14 #[.nestMembers #[390, 221]] #[{ accessFlags := 0, nameIndex := 7, descriptorIndex := 8, attributes := #[] }, { accessFlags := 9, nameIndex := 252, descriptorIndex := 53, attributes := #[] }] 48 4 #[] #[{ accessFlags := 4120, nameIndex := 121, descriptorIndex := 122, attributes := #[] }])
  fields := #[{ name := "$assertionsDisabled", type := .boolean, accessFlags := 4120, slot := 0, constantValue := 0 }]
  methods := #[k13m0, k13m1]
  instanceTypes := #[]
  staticTypes := #[.boolean]
  resolved := Array.replicate 395 none
  statics := none }

def pool14 : Array CpInfo := pool [(2, .class_ 4), (1, u "java/lang/Object"), (0, u "<init>"), (0, u "()V"), (17, .class_ 26), (1, u "jdk/internal/util/Preconditions"), (6, u "checkIndex"), (21, .class_ 56), (0, u "jdk/internal/util/Preconditions$4"), (57, .class_ 115), (0, u "jdk/internal/util/Preconditions$1"), (7, u "SIOOBE_FORMATTER"), (0, u "Ljava/util/function/BiFunction;"), (0, .class_ 126), (0, u "jdk/internal/util/Preconditions$2"), (3, u "AIOOBE_FORMATTER"), (0, .class_ 132), (0, u "jdk/internal/util/Preconditions$3"), (3, u "IOOBE_FORMATTER"), (41, u "(IILjava/util/function/BiFunction;)I")] 15

def k14m0 : Method := { name := "<init>", desc := "()V", sig := { parameters := [], returnType := none }, accessFlags := 1, code := none }
def k14c1 : Code := { maxStack := 3, maxLocals := 3, code := jdk_41_method_11_code, exceptionTable := #[], attributes := #[] }
def k14m1 : Method := { name := "checkIndex", desc := "(IILjava/util/function/BiFunction;)I", sig := { parameters := [.int, .int, (.object "java/util/function/BiFunction")], returnType := some .int }, accessFlags := 9, code := some k14c1 }
/-- jdk/internal/util/Preconditions -/
def k14 : Class := { plain "jdk/internal/util/Preconditions" (some 0) with
  accessFlags := 33
  interfaces := #[]
  cf := some (fileOf pool14 24 #[.nestMembers #[55, 131, 125, 114]] #[{ accessFlags := 1, nameIndex := 5, descriptorIndex := 6, attributes := #[] }, { accessFlags := 9, nameIndex := 33, descriptorIndex := 178, attributes := #[] }] 33 2 #[] #[{ accessFlags := 25, nameIndex := 123, descriptorIndex := 124, attributes := #[] }, { accessFlags := 25, nameIndex := 130, descriptorIndex := 124, attributes := #[] }, { accessFlags := 25, nameIndex := 136, descriptorIndex := 124, attributes := #[] }])
  fields := #[{ name := "SIOOBE_FORMATTER", type := (.object "java/util/function/BiFunction"), accessFlags := 25, slot := 0, constantValue := 0 }, { name := "AIOOBE_FORMATTER", type := (.object "java/util/function/BiFunction"), accessFlags := 25, slot := 1, constantValue := 0 }, { name := "IOOBE_FORMATTER", type := (.object "java/util/function/BiFunction"), accessFlags := 25, slot := 2, constantValue := 0 }]
  methods := #[k14m0, k14m1]
  instanceTypes := #[]
  staticTypes := #[(.object "java/util/function/BiFunction"), (.object "java/util/function/BiFunction"), (.object "java/util/function/BiFunction")]
  resolved := Array.replicate 194 none
  statics := some 3 }

def pool15 : Array CpInfo := pool [(1, .class_ 2), (0, u "java/lang/Character"), (18, u "value"), (0, u "C"), (19, .class_ 44), (1, u "java/lang/Object"), (3, .class_ 50), (1, u "java/lang/Character$CharacterCache"), (24, .integer 55296), (1, .integer 57344), (3, u "(C)Z"), (202, u "$assertionsDisabled"), (0, u "Z"), (21, .class_ 309), (1, u "java/lang/Character$UnicodeBlock"), (73, u "TYPE"), (0, u "Ljava/lang/Class;"), (0, .class_ 386), (0, u "java/io/Serializable"), (0, .class_ 388), (0, u "java/lang/Comparable"), (0, .class_ 390), (0, u "java/lang/constant/Constable"), (0, u "MIN_RADIX"), (0, u "I"), (2, u "MAX_RADIX"), (1, u "MIN_VALUE"), (1, u "MAX_VALUE"), (3, u "UNASSIGNED"), (0, u "B"), (0, u "UPPERCASE_LETTER"), (1, u "LOWERCASE_LETTER"), (0, u "TITLECASE_LETTER"), (1, u "MODIFIER_LETTER"), (1, u "OTHER_LETTER"), (1, u "NON_SPACING_MARK"), (1, u "ENCLOSING_MARK"), (1, u "COMBINING_SPACING_MARK"), (1, u "DECIMAL_DIGIT_NUMBER"), (1, u "LETTER_NUMBER"), (1, u "OTHER_NUMBER"), (1, u "SPACE_SEPARATOR"), (1, u "LINE_SEPARATOR"), (1, u "PARAGRAPH_SEPARATOR"), (1, u "CONTROL"), (1, u "FORMAT"), (1, u "PRIVATE_USE"), (1, u "SURROGATE"), (1, u "DASH_PUNCTUATION"), (1, u "START_PUNCTUATION"), (1, u "END_PUNCTUATION"), (1, u "CONNECTOR_PUNCTUATION"), (1, u "OTHER_PUNCTUATION"), (1, u "MATH_SYMBOL"), (1, u "CURRENCY_SYMBOL"), (1, u "MODIFIER_SYMBOL"), (1, u "OTHER_SYMBOL"), (1, u "INITIAL_QUOTE_PUNCTUATION"), (1, u "FINAL_QUOTE_PUNCTUATION"), (1, u "ERROR"), (1, u "DIRECTIONALITY_UNDEFINED"), (0, u "DIRECTIONALITY_LEFT_TO_RIGHT"), (0, u "DIRECTIONALITY_RIGHT_TO_LEFT"), (0, u "DIRECTIONALITY_RIGHT_TO_LEFT_ARABIC"), (0, u "DIRECTIONALITY_EUROPEAN_NUMBER"), (0, u "DIRECTIONALITY_EUROPEAN_NUMBER_SEPARATOR"), (0, u "DIRECTIONALITY_EUROPEAN_NUMBER_TERMINATOR"), (0, u "DIRECTIONALITY_ARABIC_NUMBER"), (0, u "DIRECTIONALITY_COMMON_NUMBER_SEPARATOR"), (0, u "DIRECTIONALITY_NONSPACING_MARK"), (0, u "DIRECTIONALITY_BOUNDARY_NEUTRAL"), (0, u "DIRECTIONALITY_PARAGRAPH_SEPARATOR"), (0, u "DIRECTIONALITY_SEGMENT_SEPARATOR"), (0, u "DIRECTIONALITY_WHITESPACE"), (0, u "DIRECTIONALITY_OTHER_NEUTRALS"), (0, u "DIRECTIONALITY_LEFT_TO_RIGHT_EMBEDDING"), (0, u "DIRECTIONALITY_LEFT_TO_RIGHT_OVERRIDE"), (0, u "DIRECTIONALITY_RIGHT_TO_LEFT_EMBEDDING"), (0, u "DIRECTIONALITY_RIGHT_TO_LEFT_OVERRIDE"), (1, u "DIRECTIONALITY_POP_DIRECTIONAL_FORMAT"), (0, u "DIRECTIONALITY_LEFT_TO_RIGHT_ISOLATE"), (0, u "DIRECTIONALITY_RIGHT_TO_LEFT_ISOLATE"), (0, u "DIRECTIONALITY_FIRST_STRONG_ISOLATE"), (0, u "DIRECTIONALITY_POP_DIRECTIONAL_ISOLATE"), (0, u "MIN_HIGH_SURROGATE"), (0, u "MAX_HIGH_SURROGATE"), (1, u "MIN_LOW_SURROGATE"), (0, u "MAX_LOW_SURROGATE"), (1, u "MIN_SURROGATE"), (0, u "MAX_SURROGATE"), (0, u "MIN_SUPPLEMENTARY_CODE_POINT"), (0, u "MIN_CODE_POINT"), (0, u "MAX_CODE_POINT"), (1, u "serialVersionUID"), (0, u "J"), (2, u "SIZE"), (0, u "BYTES"), (24, u "isSurrogate"), (63, .class_ 596), (0, u "java/lang/Character$UnicodeScript"), (0, .class_ 598), (0, u "java/lang/Character$Subset")] 5

def k15c0 : Code := { maxStack := 2, maxLocals := 1, code := jdk_89_method_16_code, exceptionTable := #[], attributes := #[] }
def k15m0 : Method := { name := "isSurrogate", desc := "(C)Z", sig := { parameters := [.char], returnType := some .boolean }, accessFlags := 9, code := some k15c0 }
/-- java/lang/Character -/
def k15 : Class := { plain "java/lang/Character" (some 0) with
  accessFlags := 49
  interfaces := #[2, 3, 5]
  cf := some (fileOf pool15 1 #[.nestMembers #[48, 595, 307, 597]] #[{ accessFlags := 9, nameIndex := 531, descriptorIndex := 81, attributes := #[] }] 49 42 #[385, 387, 389] #[{ accessFlags := 25, nameIndex := 391, descriptorIndex := 392, attributes := #[] }, { accessFlags := 25, nameIndex := 395, descriptorIndex := 392, attributes := #[] }, { accessFlags := 25, nameIndex := 397, descriptorIndex := 22, attributes := #[] }, { accessFlags := 25, nameIndex := 399, descriptorIndex := 22, attributes := #[] }, { accessFlags := 25, nameIndex := 383, descriptorIndex := 384, attributes := #[] }, { accessFlags := 25, nameIndex := 403, descriptorIndex := 404, attributes := #[] }, { accessFlags := 25, nameIndex := 405, descriptorIndex := 404, attributes := #[] }, { accessFlags := 25, nameIndex := 407, descriptorIndex := 404, attributes := #[] }, { accessFlags := 25, nameIndex := 408, descriptorIndex := 404, attributes := #[] }, { accessFlags := 25, nameIndex := 410, descriptorIndex := 404, attributes := #[] }, { accessFlags := 25, nameIndex := 412, descriptorIndex := 404, attributes := #[] }, { accessFlags := 25, nameIndex := 414, descriptorIndex := 404, attributes := #[] }, { accessFlags := 25, nameIndex := 416, descriptorIndex := 404, attributes := #[] }, { accessFlags := 25, nameIndex := 418, descriptorIndex := 404, attributes := #[] }, { accessFlags := 25, nameIndex := 420, descriptorIndex := 404, attributes := #[] }, { accessFlags := 25, nameIndex := 422, descriptorIndex := 404, attributes := #[] }, { accessFlags := 25, nameIndex := 424, descriptorIndex := 404, attributes := #[] }, { accessFlags := 25, nameIndex := 426, descriptorIndex := 404, attributes := #[] }, { accessFlags := 25, nameIndex := 428, descriptorIndex := 404, attributes := #[] }, { accessFlags := 25, nameIndex := 430, descriptorIndex := 404, attributes := #[] }, { accessFlags := 25, nameIndex := 432, descriptorIndex := 404, attributes := #[] }, { accessFlags := 25, nameIndex := 434, descriptorIndex := 404, attributes := #[] }, { accessFlags := 25, nameIndex := 436, descriptorIndex := 404, attributes := #[] }, { accessFlags := 25, nameIndex := 438, descriptorIndex := 404, attributes := #[] }, { accessFlags := 25, nameIndex := 440, descriptorIndex := 404, attributes := #[] }, { accessFlags := 25, nameIndex := 442, descriptorIndex := 404, attributes := #[] }, { accessFlags := 25, nameIndex := 444, descriptorIndex := 404, attributes := #[] }, { accessFlags := 25, nameIndex := 446, descriptorIndex := 404, attributes := #[] }, { accessFlags := 25, nameIndex := 448, descriptorIndex := 404, attributes := #[] }, { accessFlags := 25, nameIndex := 450, descriptorIndex := 404, attributes := #[] }, { accessFlags := 25, nameIndex := 452, descriptorIndex := 404, attributes := #[] }, { accessFlags := 25, nameIndex := 454, descriptorIndex := 404, attributes := #[] }, { accessFlags := 25, nameIndex := 456, descriptorIndex := 404, attributes := #[] }, { accessFlags := 25, nameIndex := 458, descriptorIndex := 404, attributes := #[] }, { accessFlags := 25, nameIndex := 460, descriptorIndex := 404, attributes := #[] }, { accessFlags := 24, nameIndex := 462, descriptorIndex := 392, attributes := #[] }, { accessFlags := 25, nameIndex := 464, descriptorIndex := 404, attributes := #[] }, { accessFlags := 25, nameIndex := 465, descriptorIndex := 404, attributes := #[] }, { accessFlags := 25, nameIndex := 466, descriptorIndex := 404, attributes := #[] }, { accessFlags := 25, nameIndex := 467, descriptorIndex := 404, attributes := #[] }, { accessFlags := 25, nameIndex := 468, descriptorIndex := 404, attributes := #[] }, { accessFlags := 25, nameIndex := 469, descriptorIndex := 404, attributes := #[] }, { accessFlags := 25, nameIndex := 470, descriptorIndex := 404, attributes := #[] }, { accessFlags := 25, nameIndex := 471, descriptorIndex := 404, attributes := #[] }, { accessFlags := 25, nameIndex := 472, descriptorIndex := 404, attributes := #[] }, { accessFlags := 25, nameIndex := 473, descriptorIndex := 404, attributes := #[] }, { accessFlags := 25, nameIndex := 474, descriptorIndex := 404, attributes := #[] }, { accessFlags := 25, nameIndex := 475, descriptorIndex := 404, attributes := #[] }, { accessFlags := 25, nameIndex := 476, descriptorIndex := 404, attributes := #[] }, { accessFlags := 25, nameIndex := 477, descriptorIndex := 404, attributes := #[] }, { accessFlags := 25, nameIndex := 478, descriptorIndex := 404, attributes := #[] }, { accessFlags := 25, nameIndex := 479, descriptorIndex := 404, attributes := #[] }, { accessFlags := 25, nameIndex := 480, descriptorIndex := 404, attributes := #[] }, { accessFlags := 25, nameIndex := 481, descriptorIndex := 404, attributes := #[] }, { accessFlags := 25, nameIndex := 482, descriptorIndex := 404, attributes := #[] }, { accessFlags := 25, nameIndex := 484, descriptorIndex := 404, attributes := #[] }, { accessFlags := 25, nameIndex := 485, descriptorIndex := 404, attributes := #[] }, { accessFlags := 25, nameIndex := 486, descriptorIndex := 404, attributes := #[] }, { accessFlags := 25, nameIndex := 487, descriptorIndex := 404, attributes := #[] }, { accessFlags := 25, nameIndex := 488, descriptorIndex := 404, attributes := #[] }, { accessFlags := 25, nameIndex := 489, descriptorIndex := 22, attributes := #[] }, { accessFlags := 25, nameIndex := 490, descriptorIndex := 22, attributes := #[] }, { accessFlags := 25, nameIndex := 492, descriptorIndex := 22, attributes := #[] }, { accessFlags := 25, nameIndex := 493, descriptorIndex := 22, attributes := #[] }, { accessFlags := 25, nameIndex := 495, descriptorIndex := 22, attributes := #[] }, { accessFlags := 25, nameIndex := 496, descriptorIndex := 22, attributes := #[] }, { accessFlags := 25, nameIndex := 497, descriptorIndex := 392, attributes := #[] }, { accessFlags := 25, nameIndex := 498, descriptorIndex := 392, attributes := #[] }, { accessFlags := 25, nameIndex := 499, descriptorIndex := 392, attributes := #[] }, { accessFlags := 18, nameIndex := 21, descriptorIndex := 22, attributes := #[] }, { accessFlags := 26, nameIndex := 501, descriptorIndex := 502, attributes := #[] }, { accessFlags := 25, nameIndex := 505, descriptorIndex := 392, attributes := #[] }, { accessFlags := 25, nameIndex := 506, descriptorIndex := 392, attributes := #[] }, { accessFlags := 4120, nameIndex := 284, descriptorIndex := 285, attributes := #[] }])
  fields := #[{ name := "MIN_RADIX", type := .int, accessFlags := 25, slot := 0, constantValue := 0 }, { name := "MAX_RADIX", type := .int, accessFlags := 25, slot := 1, constantValue := 0 }, { name := "MIN_VALUE", type := .char, accessFlags := 25, slot := 2, constantValue := 0 }, { name := "MAX_VALUE", type := .char, accessFlags := 25, slot := 3, constantValue := 0 }, { name := "TYPE", type := (.object "java/lang/Class"), accessFlags := 25, slot := 4, constantValue := 0 }, { name := "UNASSIGNED", type := .byte, accessFlags := 25, slot := 5, constantValue := 0 }, { name := "UPPERCASE_LETTER", type := .byte, accessFlags := 25, slot := 6, constantValue := 0 }, { name := "LOWERCASE_LETTER", type := .byte, accessFlags := 25, slot := 7, constantValue := 0 }, { name := "TITLECASE_LETTER", type := .byte, accessFlags := 25, slot := 8, constantValue := 0 }, { name := "MODIFIER_LETTER", type := .byte, accessFlags := 25, slot := 9, constantValue := 0 }, { name := "OTHER_LETTER", type := .byte, accessFlags := 25, slot := 10, constantValue := 0 }, { name := "NON_SPACING_MARK", type := .byte, accessFlags := 25, slot := 11, constantValue := 0 }, { name := "ENCLOSING_MARK", type := .byte, accessFlags := 25, slot := 12, constantValue := 0 }, { name := "COMBINING_SPACING_MARK", type := .byte, accessFlags := 25, slot := 13, constantValue := 0 }, { name := "DECIMAL_DIGIT_NUMBER", type := .byte, accessFlags := 25, slot := 14, constantValue := 0 }, { name := "LETTER_NUMBER", type := .byte, accessFlags := 25, slot := 15, constantValue := 0 }, { name := "OTHER_NUMBER", type := .byte, accessFlags := 25, slot := 16, constantValue := 0 }, { name := "SPACE_SEPARATOR", type := .byte, accessFlags := 25, slot := 17, constantValue := 0 }, { name := "LINE_SEPARATOR", type := .byte, accessFlags := 25, slot := 18, constantValue := 0 }, { name := "PARAGRAPH_SEPARATOR", type := .byte, accessFlags := 25, slot := 19, constantValue := 0 }, { name := "CONTROL", type := .byte, accessFlags := 25, slot := 20, constantValue := 0 }, { name := "FORMAT", type := .byte, accessFlags := 25, slot := 21, constantValue := 0 }, { name := "PRIVATE_USE", type := .byte, accessFlags := 25, slot := 22, constantValue := 0 }, { name := "SURROGATE", type := .byte, accessFlags := 25, slot := 23, constantValue := 0 }, { name := "DASH_PUNCTUATION", type := .byte, accessFlags := 25, slot := 24, constantValue := 0 }, { name := "START_PUNCTUATION", type := .byte, accessFlags := 25, slot := 25, constantValue := 0 }, { name := "END_PUNCTUATION", type := .byte, accessFlags := 25, slot := 26, constantValue := 0 }, { name := "CONNECTOR_PUNCTUATION", type := .byte, accessFlags := 25, slot := 27, constantValue := 0 }, { name := "OTHER_PUNCTUATION", type := .byte, accessFlags := 25, slot := 28, constantValue := 0 }, { name := "MATH_SYMBOL", type := .byte, accessFlags := 25, slot := 29, constantValue := 0 }, { name := "CURRENCY_SYMBOL", type := .byte, accessFlags := 25, slot := 30, constantValue := 0 }, { name := "MODIFIER_SYMBOL", type := .byte, accessFlags := 25, slot := 31, constantValue := 0 }, { name := "OTHER_SYMBOL", type := .byte, accessFlags := 25, slot := 32, constantValue := 0 }, { name := "INITIAL_QUOTE_PUNCTUATION", type := .byte, accessFlags := 25, slot := 33, constantValue := 0 }, { name := "FINAL_QUOTE_PUNCTUATION", type := .byte, accessFlags := 25, slot := 34, constantValue := 0 }, { name := "ERROR", type := .int, accessFlags := 24, slot := 35, constantValue := 0 }, { name := "DIRECTIONALITY_UNDEFINED", type := .byte, accessFlags := 25, slot := 36, constantValue := 0 }, { name := "DIRECTIONALITY_LEFT_TO_RIGHT", type := .byte, accessFlags := 25, slot := 37, constantValue := 0 }, { name := "DIRECTIONALITY_RIGHT_TO_LEFT", type := .byte, accessFlags := 25, slot := 38, constantValue := 0 }, { name := "DIRECTIONALITY_RIGHT_TO_LEFT_ARABIC", type := .byte, accessFlags := 25, slot := 39, constantValue := 0 }, { name := "DIRECTIONALITY_EUROPEAN_NUMBER", type := .byte, accessFlags := 25, slot := 40, constantValue := 0 }, { name := "DIRECTIONALITY_EUROPEAN_NUMBER_SEPARATOR", type := .byte, accessFlags := 25, slot := 41, constantValue := 0 }, { name := "DIRECTIONALITY_EUROPEAN_NUMBER_TERMINATOR", type := .byte, accessFlags := 25, slot := 42, constantValue := 0 }, { name := "DIRECTIONALITY_ARABIC_NUMBER", type := .byte, accessFlags := 25, slot := 43, constantValue := 0 }, { name := "DIRECTIONALITY_COMMON_NUMBER_SEPARATOR", type := .byte, accessFlags := 25, slot := 44, constantValue := 0 }, { name := "DIRECTIONALITY_NONSPACING_MARK", type := .byte, accessFlags := 25, slot := 45, constantValue := 0 }, { name := "DIRECTIONALITY_BOUNDARY_NEUTRAL", type := .byte, accessFlags := 25, slot := 46, constantValue := 0 }, { name := "DIRECTIONALITY_PARAGRAPH_SEPARATOR", type := .byte, accessFlags := 25, slot := 47, constantValue := 0 }, { name := "DIRECTIONALITY_SEGMENT_SEPARATOR", type := .byte, accessFlags := 25, slot := 48, constantValue := 0 }, { name := "DIRECTIONALITY_WHITESPACE", type := .byte, accessFlags := 25, slot := 49, constantValue := 0 }, { name := "DIRECTIONALITY_OTHER_NEUTRALS", type := .byte, accessFlags := 25, slot := 50, constantValue := 0 }, { name := "DIRECTIONALITY_LEFT_TO_RIGHT_EMBEDDING", type := .byte, accessFlags := 25, slot := 51, constantValue := 0 }, { name := "DIRECTIONALITY_LEFT_TO_RIGHT_OVERRIDE", type := .byte, accessFlags := 25, slot := 52, constantValue := 0 }, { name := "DIRECTIONALITY_RIGHT_TO_LEFT_EMBEDDING", type := .byte, accessFlags := 25, slot := 53, constantValue := 0 }, { name := "DIRECTIONALITY_RIGHT_TO_LEFT_OVERRIDE", type := .byte, accessFlags := 25, slot := 54, constantValue := 0 }, { name := "DIRECTIONALITY_POP_DIRECTIONAL_FORMAT", type := .byte, accessFlags := 25, slot := 55, constantValue := 0 }, { name := "DIRECTIONALITY_LEFT_TO_RIGHT_ISOLATE", type := .byte, accessFlags := 25, slot := 56, constantValue := 0 }, { name := "DIRECTIONALITY_RIGHT_TO_LEFT_ISOLATE", type := .byte, accessFlags := 25, slot := 57, constantValue := 0 }, { name := "DIRECTIONALITY_FIRST_STRONG_ISOLATE", type := .byte, accessFlags := 25, slot := 58, constantValue := 0 }, { name := "DIRECTIONALITY_POP_DIRECTIONAL_ISOLATE", type := .byte, accessFlags := 25, slot := 59, constantValue := 0 }, { name := "MIN_HIGH_SURROGATE", type := .char, accessFlags := 25, slot := 60, constantValue := 0 }, { name := "MAX_HIGH_SURROGATE", type := .char, accessFlags := 25, slot := 61, constantValue := 0 }, { name := "MIN_LOW_SURROGATE", type := .char, accessFlags := 25, slot := 62, constantValue := 0 }, { name := "MAX_LOW_SURROGATE", type := .char, accessFlags := 25, slot := 63, constantValue := 0 }, { name := "MIN_SURROGATE", type := .char, accessFlags := 25, slot := 64, constantValue := 0 }, { name := "MAX_SURROGATE", type := .char, accessFlags := 25, slot := 65, constantValue := 0 }, { name := "MIN_SUPPLEMENTARY_CODE_POINT", type := .int, accessFlags := 25, slot := 66, constantValue := 0 }, { name := "MIN_CODE_POINT", type := .int, accessFlags := 25, slot := 67, constantValue := 0 }, { name := "MAX_CODE_POINT", type := .int, accessFlags := 25, slot := 68, constantValue := 0 }, { name := "value", type := .char, accessFlags := 18, slot := 0, constantValue := 0 }, { name := "serialVersionUID", type := .long, accessFlags := 26, slot := 69, constantValue := 0 }, { name := "SIZE", type := .int, accessFlags := 25, slot := 70, constantValue := 0 }, { name := "BYTES", type := .int, accessFlags := 25, slot := 71, constantValue := 0 }, { name := "$assertionsDisabled", type := .boolean, accessFlags := 4120, slot := 72, constantValue := 0 }]
  methods := #[k15m0]
  instanceTypes := #[.char]
  staticTypes := #[.int, .int, .char, .char, (.object "java/lang/Class"), .byte, .byte, .byte, .byte, .byte, .byte, .byte, .byte, .byte, .byte, .byte, .byte, .byte, .byte, .byte, .byte, .byte, .byte, .byte, .byte, .byte, .byte, .byte, .byte, .byte, .byte, .byte, .byte, .byte, .byte, .int, .byte, .byte, .byte, .byte, .byte, .byte, .byte, .byte, .byte, .byte, .byte, .byte, .byte, .byte, .byte, .byte, .byte, .byte, .byte, .byte, .byte, .byte, .byte, .byte, .char, .char, .char, .char, .char, .char, .int, .int, .int, .long, .int, .int, .boolean]
  resolved := Array.replicate 604 none
  statics := none }

def pool16 : Array CpInfo := pool [(9, u "<init>"), (6, .class_ 18), (1, u "java/lang/Object"), (0, u "()V"), (1, .class_ 23), (1, u "jdk/internal/util/ArraysSupport"), (0, u "LOG2_ARRAY_LONG_INDEX_SCALE"), (0, u "I"), (2, u "U"), (0, u "Ljdk/internal/misc/Unsafe;"), (8, u "BIG_ENDIAN"), (0, u "Z"), (8, u "LOG2_BYTE_BIT_SIZE"), (4, u "LOG2_ARRAY_INT_INDEX_SCALE"), (54, u "JLA"), (0, u "Ljdk/internal/access/JavaLangAccess;"), (11, u "LOG2_ARRAY_BOOLEAN_INDEX_SCALE"), (9, u "LOG2_ARRAY_BYTE_INDEX_SCALE"), (5, u "LOG2_ARRAY_CHAR_INDEX_SCALE"), (5, u "LOG2_ARRAY_SHORT_INDEX_SCALE"), (18, u "LOG2_ARRAY_FLOAT_INDEX_SCALE"), (24, u "LOG2_ARRAY_DOUBLE_INDEX_SCALE"), (89, u "T_BOOLEAN"), (2, u "T_CHAR"), (1, u "T_FLOAT"), (1, u "T_DOUBLE"), (1, u "T_BYTE"), (1, u "T_SHORT"), (1, u "T_INT"), (1, u "T_LONG"), (1, u "SOFT_MAX_ARRAY_LENGTH")] 83

def k16m0 : Method := { name := "<init>", desc := "()V", sig := { parameters := [], returnType := none }, accessFlags := 2, code := none }
/-- jdk/internal/util/ArraysSupport -/
def k16 : Class := { plain "jdk/internal/util/ArraysSupport" (some 0) with
  accessFlags := 33
  interfaces := #[]
  cf := some (fileOf pool16 21 #[] #[{ accessFlags := 2, nameIndex := 9, descriptorIndex := 19, attributes := #[] }] 33 16 #[] #[{ accessFlags := 24, nameIndex := 28, descriptorIndex := 29, attributes := #[] }, { accessFlags := 26, nameIndex := 38, descriptorIndex := 39, attributes := #[] }, { accessFlags := 25, nameIndex := 121, descriptorIndex := 25, attributes := #[] }, { accessFlags := 25, nameIndex := 131, descriptorIndex := 25, attributes := #[] }, { accessFlags := 25, nameIndex := 137, descriptorIndex := 25, attributes := #[] }, { accessFlags := 25, nameIndex := 143, descriptorIndex := 25, attributes := #[] }, { accessFlags := 25, nameIndex := 53, descriptorIndex := 25, attributes := #[] }, { accessFlags := 25, nameIndex := 24, descriptorIndex := 25, attributes := #[] }, { accessFlags := 25, nameIndex := 162, descriptorIndex := 25, attributes := #[] }, { accessFlags := 25, nameIndex := 187, descriptorIndex := 25, attributes := #[] }, { accessFlags := 26, nameIndex := 48, descriptorIndex := 25, attributes := #[] }, { accessFlags := 25, nameIndex := 277, descriptorIndex := 25, attributes := #[] }, { accessFlags := 25, nameIndex := 280, descriptorIndex := 25, attributes := #[] }, { accessFlags := 25, nameIndex := 282, descriptorIndex := 25, attributes := #[] }, { accessFlags := 25, nameIndex := 284, descriptorIndex := 25, attributes := #[] }, { accessFlags := 25, nameIndex := 286, descriptorIndex := 25, attributes := #[] }, { accessFlags := 25, nameIndex := 288, descriptorIndex := 25, attributes := #[] }, { accessFlags := 25, nameIndex := 290, descriptorIndex := 25, attributes := #[] }, { accessFlags := 25, nameIndex := 292, descriptorIndex := 25, attributes := #[] }, { accessFlags := 26, nameIndex := 108, descriptorIndex := 109, attributes := #[] }, { accessFlags := 25, nameIndex := 294, descriptorIndex := 25, attributes := #[] }])
  fields := #[{ name := "U", type := (.object "jdk/internal/misc/Unsafe"), accessFlags := 24, slot := 0, constantValue := 0 }, { name := "BIG_ENDIAN", type := .boolean, accessFlags := 26, slot := 1, constantValue := 0 }, { name := "LOG2_ARRAY_BOOLEAN_INDEX_SCALE", type := .int, accessFlags := 25, slot := 2, constantValue := 0 }, { name := "LOG2_ARRAY_BYTE_INDEX_SCALE", type := .int, accessFlags := 25, slot := 3, constantValue := 0 }, { name := "LOG2_ARRAY_CHAR_INDEX_SCALE", type := .int, accessFlags := 25, slot := 4, constantValue := 0 }, { name := "LOG2_ARRAY_SHORT_INDEX_SCALE", type := .int, accessFlags := 25, slot := 5, constantValue := 0 }, { name := "LOG2_ARRAY_INT_INDEX_SCALE", type := .int, accessFlags := 25, slot := 6, constantValue := 0 }, { name := "LOG2_ARRAY_LONG_INDEX_SCALE", type := .int, accessFlags := 25, slot := 7, constantValue := 0 }, { name := "LOG2_ARRAY_FLOAT_INDEX_SCALE", type := .int, accessFlags := 25, slot := 8, constantValue := 0 }, { name := "LOG2_ARRAY_DOUBLE_INDEX_SCALE", type := .int, accessFlags := 25, slot := 9, constantValue := 0 }, { name := "LOG2_BYTE_BIT_SIZE", type := .int, accessFlags := 26, slot := 10, constantValue := 0 }, { name := "T_BOOLEAN", type := .int, accessFlags := 25, slot := 11, constantValue := 0 }, { name := "T_CHAR", type := .int, accessFlags := 25, slot := 12, constantValue := 0 }, { name := "T_FLOAT", type := .int, accessFlags := 25, slot := 13, constantValue := 0 }, { name := "T_DOUBLE", type := .int, accessFlags := 25, slot := 14, constantValue := 0 }, { name := "T_BYTE", type := .int, accessFlags := 25, slot := 15, constantValue := 0 }, { name := "T_SHORT", type := .int, accessFlags := 25, slot := 16, constantValue := 0 }, { name := "T_INT", type := .int, accessFlags := 25, slot := 17, constantValue := 0 }, { name := "T_LONG", type := .int, accessFlags := 25, slot := 18, constantValue := 0 }, { name := "JLA", type := (.object "jdk/internal/access/JavaLangAccess"), accessFlags := 26, slot := 19, constantValue := 0 }, { name := "SOFT_MAX_ARRAY_LENGTH", type := .int, accessFlags := 25, slot := 20, constantValue := 0 }]
  methods := #[k16m0]
  instanceTypes := #[]
  staticTypes := #[(.object "jdk/internal/misc/Unsafe"), .boolean, .int, .int, .int, .int, .int, .int, .int, .int, .int, .int, .int, .int, .int, .int, .int, .int, .int, (.object "jdk/internal/access/JavaLangAccess"), .int]
  resolved := Array.replicate 378 none
  statics := none }

def pool17 : Array CpInfo := pool [(1, u "java/lang/Cloneable"), (0, .class_ 1), (0, u "java/lang/Object"), (0, .class_ 3)] 3

/-- java/lang/Cloneable -/
def k17 : Class := { plain "java/lang/Cloneable" (some 0) with
  accessFlags := 1537
  interfaces := #[]
  cf := some (fileOf pool17 2 #[] #[] 1537 4 #[] #[])
  fields := #[]
  methods := #[]
  instanceTypes := #[]
  staticTypes := #[]
  resolved := Array.replicate 8 none
  statics := none }

/-- the primitive boolean -/
def k18 : Class := { plain "boolean" none with kind := .primitive 'Z', accessFlags := 0x411 }
/-- [Z -/
def k19 : Class := { plain "[Z" (some 0) with kind := .array 18 .boolean, interfaces := #[17, 2], accessFlags := 1041 }

/-- the primitive byte -/
def k20 : Class := { plain "byte" none with kind := .primitive 'B', accessFlags := 0x411 }
/-- [B -/
def k21 : Class := { plain "[B" (some 0) with kind := .array 20 .byte, interfaces := #[17, 2], accessFlags := 1041 }

/-- the primitive char -/
def k22 : Class := { plain "char" none with kind := .primitive 'C', accessFlags := 0x411 }
/-- [C -/
def k23 : Class := { plain "[C" (some 0) with kind := .array 22 .char, interfaces := #[17, 2], accessFlags := 1041 }

/-- the primitive int -/
def k24 : Class := { plain "int" none with kind := .primitive 'I', accessFlags := 0x411 }
/-- [I -/
def k25 : Class := { plain "[I" (some 0) with kind := .array 24 .int, interfaces := #[17, 2], accessFlags := 1041 }

def heap : Heap := #[{ cls := 7, slots := #[.long 0, .int 1, .null, .int 0, .null, .int 0, .int 0], vm := .statics 7 },
  { cls := 8, slots := #[.int 0, .int 8, .int 0, .int 1], vm := .statics 8 },
  { cls := 9, slots := #[.ref 4, .ref 5, .ref 6, .null, .int 0], vm := .statics 9 },
  { cls := 14, slots := #[.null, .null, .null], vm := .statics 14 },
  { cls := 21, slots := #[.int 48, .int 49, .int 50, .int 51, .int 52, .int 53, .int 54, .int 55, .int 56, .int 57, .int 65, .int 66, .int 67, .int 68, .int 69, .int 70], vm := .none },
  { cls := 21, slots := #[.int 116, .int 114, .int 117, .int 101], vm := .none },
  { cls := 21, slots := #[.int 102, .int 97, .int 108, .int 115, .int 101], vm := .none }]
def classes : Array Class := #[k0, k1, k2, k3, k4, k5, k6, k7, k8, k9, k10, k11, k12, k13, k14, k15, k16, k17, k18, k19, k20, k21, k22, k23, k24, k25]
def interned : List (Array UInt16 × Addr) := []
def slotsUsed : Nat := 44
def theMethod : MethodId := ⟨1, 6⟩
def args0 : Array Value := #[.int 5, .int 6, .int 7]
def aboutOver (below : List Frame) : State where
  vm := { classes := classes, interned := interned.toArray }
  heap := heap
  slotsUsed := slotsUsed
  threads := #[{ frames := .invoking theMethod args0 :: below }]
def below0 : List Frame := [.native { method := ⟨0, 0⟩, args := #[] }]
def about1 : State := aboutOver below0
def p0 : Program := .bare "" "" ""
def e0 : Env := launch0.env 0 0 0
theorem w_frames : about1.frames = Frame.invoking theMethod args0 :: below0 := rfl
set_option maxRecDepth 65536 in
theorem w_args : argsFit about1.vm theMethod args0 = true := by decide +kernel
set_option maxRecDepth 65536 in
theorem w_heap : heapFits about1 = true := by decide +kernel
set_option maxRecDepth 65536 in
theorem w_runnable : about1.curStatus? = some .runnable := by decide +kernel
set_option maxRecDepth 65536 in
theorem w_alone : about1.alone = true := by decide +kernel
set_option maxRecDepth 65536 in
theorem w_named : about1.methodNamed? x = some theMethod := by decide +kernel
set_option maxRecDepth 65536 in
theorem w_hears : about1.hears theMethod below0 = true := by decide +kernel
set_option maxRecDepth 65536 in
theorem w_ripe : about1.ripe theMethod args0 below0 = true := by decide +kernel
theorem w_running : about1.status = .running := rfl
set_option maxRecDepth 65536 in
theorem w_room : about1.hasRoom e0.platform room_1 = true :=
  launch0.hasRoom_least _ room_1 (by decide +kernel) (by decide +kernel) (by decide +kernel) (by decide +kernel) (by decide +kernel) (by decide +kernel)
theorem allAtoms_all (ts : List Jvm.Cond) (a : Array Jvm.Value) (st : Jvm.State) : (allAtoms ts).before a st = ts.all (fun c => c.before a st) := by
  induction ts with
  | nil => rfl
  | cons c t ih =>
    show (Jvm.Cond.and c (allAtoms t)).before a st = _
    rw [Jvm.Cond.before_and, ih, List.all_cons]
def words1 : List Jvm.Cond := Jvm.Cond.code x code maxLocals ret :: tables_1
/-- a 'code' word, met by the world's own term for the bytes: nothing is compared byte by byte -/
theorem code_word {y : MethodName} {bytes : ByteArray} {mx : Nat} {rt : Option FieldType} {a : Array Value} {s : State} {m : MethodId} {meth : Method} {c : Code} (h1 : s.methodNamed? y = some m) (h2 : s.vm.method? m = some meth) (h3 : meth.code = some c) (h4 : c.code = bytes)
    (h5 : (c.maxLocals == mx && c.exceptionTable.isEmpty && decide (c.maxStack ≤ mostOperands) && decide (meth.sig.returnType = rt) && !meth.locks && decide (parseMethodDescriptor y.desc = some meth.sig)) = true) : (Jvm.Cond.code y bytes mx rt).before a s = true := by
  simp only [Bool.and_eq_true, beq_iff_eq, Bool.not_eq_true', decide_eq_true_eq] at h5
  obtain ⟨⟨⟨⟨⟨g1, g2⟩, g3⟩, g4⟩, g5⟩, g6⟩ := h5
  simp [Cond.before, Cond.holds, Cond.value, h1, h2, h3, h4, g1, g2, g3, g4, g5, g6]
def isCode : Jvm.Cond → Bool
  | .code _ _ _ _ => true
  | _ => false
theorem all_split {L : List Jvm.Cond} {P : Jvm.Cond → Bool} (h1 : L.all (fun c => isCode c || P c) = true) (h2 : ∀ c ∈ L.filter isCode, P c = true) : L.all P = true := by
  refine List.all_eq_true.mpr fun c hc => ?_
  have h := List.all_eq_true.mp h1 c hc
  rcases Bool.eq_false_or_eq_true (isCode c) with hi | hi
  · exact h2 c (List.mem_filter.mpr ⟨hc, hi⟩)
  · simpa [hi] using h
set_option maxRecDepth 65536 in
theorem w_c0 : (Jvm.Cond.code x code maxLocals ret).before args0 about1 = true := code_word (m := ⟨1, 6⟩) (meth := k1m6) (c := k1c6) (by decide +kernel) rfl rfl rfl (by decide +kernel)
set_option maxRecDepth 65536 in
theorem w_c1 : (Jvm.Cond.code ({ cls := "java/lang/String", name := "<init>", desc := "([C)V" } : Jvm.MethodName) jdk_42_method_3_code (2 : Nat) (Option.none : Option Jvm.ClassFile.FieldType)).before args0 about1 = true := code_word (m := ⟨7, 1⟩) (meth := k7m1) (c := k7c1) (by decide +kernel) rfl rfl rfl (by decide +kernel)
set_option maxRecDepth 65536 in
theorem w_c2 : (Jvm.Cond.code ({ cls := "java/lang/String", name := "<init>", desc := "([CIILjava/lang/Void;)V" } : Jvm.MethodName) jdk_42_method_149_code (6 : Nat) (Option.none : Option Jvm.ClassFile.FieldType)).before args0 about1 = true := code_word (m := ⟨7, 4⟩) (meth := k7m4) (c := k7c4) (by decide +kernel) rfl rfl rfl (by decide +kernel)
set_option maxRecDepth 65536 in
theorem w_c3 : (Jvm.Cond.code ({ cls := "java/lang/Object", name := "<init>", desc := "()V" } : Jvm.MethodName) object_method_1_code (1 : Nat) (Option.none : Option Jvm.ClassFile.FieldType)).before args0 about1 = true := code_word (m := ⟨0, 0⟩) (meth := k0m0) (c := k0c0) (by decide +kernel) rfl rfl rfl (by decide +kernel)
set_option maxRecDepth 65536 in
theorem w_c4 : (Jvm.Cond.code ({ cls := "java/lang/StringUTF16", name := "compress", desc := "([CII)[B" } : Jvm.MethodName) jdk_52_method_16_code (6 : Nat) (Option.some (Jvm.ClassFile.FieldType.array Jvm.ClassFile.FieldType.byte))).before args0 about1 = true := code_word (m := ⟨8, 8⟩) (meth := k8m8) (c := k8c8) (by decide +kernel) rfl rfl rfl (by decide +kernel)
set_option maxRecDepth 65536 in
theorem w_c5 : (Jvm.Cond.code ({ cls := "java/lang/StringUTF16", name := "compress", desc := "([CI[BII)I" } : Jvm.MethodName) jdk_52_method_21_code (7 : Nat) (Option.some Jvm.ClassFile.FieldType.int)).before args0 about1 = true := code_word (m := ⟨8, 9⟩) (meth := k8m9) (c := k8c9) (by decide +kernel) rfl rfl rfl (by decide +kernel)
set_option maxRecDepth 65536 in
theorem w_c6 : (Jvm.Cond.code ({ cls := "java/lang/StringUTF16", name := "coderFromArrayLen", desc := "([BI)B" } : Jvm.MethodName) jdk_52_method_15_code (2 : Nat) (Option.some Jvm.ClassFile.FieldType.byte)).before args0 about1 = true := code_word (m := ⟨8, 7⟩) (meth := k8m7) (c := k8c7) (by decide +kernel) rfl rfl rfl (by decide +kernel)
set_option maxRecDepth 65536 in
theorem w_c7 : (Jvm.Cond.code ({ cls := "tramline/routes/JsonWriterToByteArrayPinLaw", name := "enc", desc := "([BIC)I" } : Jvm.MethodName) method_4_code (3 : Nat) (Option.some Jvm.ClassFile.FieldType.int)).before args0 about1 = true := code_word (m := ⟨1, 3⟩) (meth := k1m3) (c := k1c3) (by decide +kernel) rfl rfl rfl (by decide +kernel)
set_option maxRecDepth 65536 in
theorem w_c8 : (Jvm.Cond.code ({ cls := "tramline/routes/JsonWriterToByteArrayPinLaw", name := "hexEscape", desc := "([BIC)I" } : Jvm.MethodName) method_3_code (3 : Nat) (Option.some Jvm.ClassFile.FieldType.int)).before args0 about1 = true := code_word (m := ⟨1, 2⟩) (meth := k1m2) (c := k1c2) (by decide +kernel) rfl rfl rfl (by decide +kernel)
set_option maxRecDepth 65536 in
theorem w_c9 : (Jvm.Cond.code ({ cls := "tramline/routes/JsonWriterToByteArrayPinLaw", name := "hex", desc := "(I)B" } : Jvm.MethodName) method_2_code (1 : Nat) (Option.some Jvm.ClassFile.FieldType.byte)).before args0 about1 = true := code_word (m := ⟨1, 1⟩) (meth := k1m1) (c := k1c1) (by decide +kernel) rfl rfl rfl (by decide +kernel)
set_option maxRecDepth 65536 in
theorem w_c10 : (Jvm.Cond.code ({ cls := "tramline/routes/JsonWriter", name := "<init>", desc := "()V" } : Jvm.MethodName) prog_32_method_1_code (1 : Nat) (Option.none : Option Jvm.ClassFile.FieldType)).before args0 about1 = true := code_word (m := ⟨9, 0⟩) (meth := k9m0) (c := k9c0) (by decide +kernel) rfl rfl rfl (by decide +kernel)
set_option maxRecDepth 65536 in
theorem w_c11 : (Jvm.Cond.code ({ cls := "tramline/routes/JsonWriter", name := "toByteArray", desc := "()[B" } : Jvm.MethodName) prog_32_method_17_code (1 : Nat) (Option.some (Jvm.ClassFile.FieldType.array Jvm.ClassFile.FieldType.byte))).before args0 about1 = true := code_word (m := ⟨9, 5⟩) (meth := k9m5) (c := k9c5) (by decide +kernel) rfl rfl rfl (by decide +kernel)
set_option maxRecDepth 65536 in
theorem w_c12 : (Jvm.Cond.code ({ cls := "java/util/Arrays", name := "copyOf", desc := "([BI)[B" } : Jvm.MethodName) jdk_65_method_121_code (3 : Nat) (Option.some (Jvm.ClassFile.FieldType.array Jvm.ClassFile.FieldType.byte))).before args0 about1 = true := code_word (m := ⟨10, 1⟩) (meth := k10m1) (c := k10c1) (by decide +kernel) rfl rfl rfl (by decide +kernel)
set_option maxRecDepth 65536 in
theorem w_c13 : (Jvm.Cond.code ({ cls := "java/lang/Math", name := "min", desc := "(II)I" } : Jvm.MethodName) jdk_29_method_69_code (2 : Nat) (Option.some Jvm.ClassFile.FieldType.int)).before args0 about1 = true := code_word (m := ⟨11, 1⟩) (meth := k11m1) (c := k11c1) (by decide +kernel) rfl rfl rfl (by decide +kernel)
set_option maxRecDepth 65536 in
theorem w_c14 : (Jvm.Cond.code ({ cls := "tramline/routes/JsonWriter", name := "writeString", desc := "(Ljava/lang/String;)V" } : Jvm.MethodName) prog_32_method_7_code (2 : Nat) (Option.none : Option Jvm.ClassFile.FieldType)).before args0 about1 = true := code_word (m := ⟨9, 3⟩) (meth := k9m3) (c := k9c3) (by decide +kernel) rfl rfl rfl (by decide +kernel)
set_option maxRecDepth 65536 in
theorem w_c15 : (Jvm.Cond.code ({ cls := "tramline/routes/JsonWriter", name := "beforeValue", desc := "()V" } : Jvm.MethodName) prog_32_method_20_code (1 : Nat) (Option.none : Option Jvm.ClassFile.FieldType)).before args0 about1 = true := code_word (m := ⟨9, 8⟩) (meth := k9m8) (c := k9c8) (by decide +kernel) rfl rfl rfl (by decide +kernel)
set_option maxRecDepth 65536 in
theorem w_c16 : (Jvm.Cond.code ({ cls := "tramline/routes/JsonWriter", name := "string", desc := "(Ljava/lang/String;)V" } : Jvm.MethodName) prog_32_method_21_code (5 : Nat) (Option.none : Option Jvm.ClassFile.FieldType)).before args0 about1 = true := code_word (m := ⟨9, 9⟩) (meth := k9m9) (c := k9c9) (by decide +kernel) rfl rfl rfl (by decide +kernel)
set_option maxRecDepth 65536 in
theorem w_c17 : (Jvm.Cond.code ({ cls := "java/lang/String", name := "length", desc := "()I" } : Jvm.MethodName) jdk_42_method_54_code (1 : Nat) (Option.some Jvm.ClassFile.FieldType.int)).before args0 about1 = true := code_word (m := ⟨7, 2⟩) (meth := k7m2) (c := k7c2) (by decide +kernel) rfl rfl rfl (by decide +kernel)
set_option maxRecDepth 65536 in
theorem w_c18 : (Jvm.Cond.code ({ cls := "java/lang/String", name := "coder", desc := "()B" } : Jvm.MethodName) jdk_42_method_152_code (1 : Nat) (Option.some Jvm.ClassFile.FieldType.byte)).before args0 about1 = true := code_word (m := ⟨7, 5⟩) (meth := k7m5) (c := k7c5) (by decide +kernel) rfl rfl rfl (by decide +kernel)
set_option maxRecDepth 65536 in
theorem w_c19 : (Jvm.Cond.code ({ cls := "tramline/routes/JsonWriter", name := "room", desc := "(I)V" } : Jvm.MethodName) prog_32_method_26_code (2 : Nat) (Option.none : Option Jvm.ClassFile.FieldType)).before args0 about1 = true := code_word (m := ⟨9, 14⟩) (meth := k9m14) (c := k9c14) (by decide +kernel) rfl rfl rfl (by decide +kernel)
set_option maxRecDepth 65536 in
theorem w_c20 : (Jvm.Cond.code ({ cls := "java/lang/String", name := "charAt", desc := "(I)C" } : Jvm.MethodName) jdk_42_method_56_code (2 : Nat) (Option.some Jvm.ClassFile.FieldType.char)).before args0 about1 = true := code_word (m := ⟨7, 3⟩) (meth := k7m3) (c := k7c3) (by decide +kernel) rfl rfl rfl (by decide +kernel)
set_option maxRecDepth 65536 in
theorem w_c21 : (Jvm.Cond.code ({ cls := "java/lang/String", name := "isLatin1", desc := "()Z" } : Jvm.MethodName) jdk_42_method_154_code (1 : Nat) (Option.some Jvm.ClassFile.FieldType.boolean)).before args0 about1 = true := code_word (m := ⟨7, 6⟩) (meth := k7m6) (c := k7c6) (by decide +kernel) rfl rfl rfl (by decide +kernel)
set_option maxRecDepth 65536 in
theorem w_c22 : (Jvm.Cond.code ({ cls := "java/lang/StringLatin1", name := "charAt", desc := "([BI)C" } : Jvm.MethodName) jdk_43_method_2_code (2 : Nat) (Option.some Jvm.ClassFile.FieldType.char)).before args0 about1 = true := code_word (m := ⟨13, 1⟩) (meth := k13m1) (c := k13c1) (by decide +kernel) rfl rfl rfl (by decide +kernel)
set_option maxRecDepth 65536 in
theorem w_c23 : (Jvm.Cond.code ({ cls := "java/lang/String", name := "checkIndex", desc := "(II)V" } : Jvm.MethodName) jdk_42_method_155_code (2 : Nat) (Option.none : Option Jvm.ClassFile.FieldType)).before args0 about1 = true := code_word (m := ⟨7, 7⟩) (meth := k7m7) (c := k7c7) (by decide +kernel) rfl rfl rfl (by decide +kernel)
set_option maxRecDepth 65536 in
theorem w_c24 : (Jvm.Cond.code ({ cls := "jdk/internal/util/Preconditions", name := "checkIndex", desc := "(IILjava/util/function/BiFunction;)I" } : Jvm.MethodName) jdk_41_method_11_code (3 : Nat) (Option.some Jvm.ClassFile.FieldType.int)).before args0 about1 = true := code_word (m := ⟨14, 1⟩) (meth := k14m1) (c := k14c1) (by decide +kernel) rfl rfl rfl (by decide +kernel)
set_option maxRecDepth 65536 in
theorem w_c25 : (Jvm.Cond.code ({ cls := "tramline/routes/JsonWriter", name := "rest", desc := "(Ljava/lang/String;I)V" } : Jvm.MethodName) prog_32_method_22_code (5 : Nat) (Option.none : Option Jvm.ClassFile.FieldType)).before args0 about1 = true := code_word (m := ⟨9, 10⟩) (meth := k9m10) (c := k9c10) (by decide +kernel) rfl rfl rfl (by decide +kernel)
set_option maxRecDepth 65536 in
theorem w_c26 : (Jvm.Cond.code ({ cls := "tramline/routes/JsonWriter", name := "escape", desc := "(C)V" } : Jvm.MethodName) prog_32_method_23_code (4 : Nat) (Option.none : Option Jvm.ClassFile.FieldType)).before args0 about1 = true := code_word (m := ⟨9, 11⟩) (meth := k9m11) (c := k9c11) (by decide +kernel) rfl rfl rfl (by decide +kernel)
set_option maxRecDepth 65536 in
theorem w_c27 : (Jvm.Cond.code ({ cls := "tramline/routes/JsonWriterToByteArrayPinLaw", name := "same", desc := "([B[BI)Z" } : Jvm.MethodName) method_6_code (3 : Nat) (Option.some Jvm.ClassFile.FieldType.boolean)).before args0 about1 = true := code_word (m := ⟨1, 5⟩) (meth := k1m5) (c := k1c5) (by decide +kernel) rfl rfl rfl (by decide +kernel)
set_option maxRecDepth 65536 in
theorem w_c28 : (Jvm.Cond.code ({ cls := "tramline/routes/JsonWriterToByteArrayPinLaw", name := "eqAt", desc := "([B[BI)Z" } : Jvm.MethodName) method_5_code (3 : Nat) (Option.some Jvm.ClassFile.FieldType.boolean)).before args0 about1 = true := code_word (m := ⟨1, 4⟩) (meth := k1m4) (c := k1c4) (by decide +kernel) rfl rfl rfl (by decide +kernel)
set_option maxRecDepth 65536 in
theorem w_c29 : (Jvm.Cond.code ({ cls := "tramline/routes/JsonWriter", name := "writeStartArray", desc := "()V" } : Jvm.MethodName) prog_32_method_4_code (1 : Nat) (Option.none : Option Jvm.ClassFile.FieldType)).before args0 about1 = true := code_word (m := ⟨9, 1⟩) (meth := k9m1) (c := k9c1) (by decide +kernel) rfl rfl rfl (by decide +kernel)
set_option maxRecDepth 65536 in
theorem w_c30 : (Jvm.Cond.code ({ cls := "tramline/routes/JsonWriter", name := "open", desc := "(Z)V" } : Jvm.MethodName) prog_32_method_18_code (2 : Nat) (Option.none : Option Jvm.ClassFile.FieldType)).before args0 about1 = true := code_word (m := ⟨9, 6⟩) (meth := k9m6) (c := k9c6) (by decide +kernel) rfl rfl rfl (by decide +kernel)
set_option maxRecDepth 65536 in
theorem w_c31 : (Jvm.Cond.code ({ cls := "tramline/routes/JsonWriter", name := "put", desc := "(B)V" } : Jvm.MethodName) prog_32_method_24_code (2 : Nat) (Option.none : Option Jvm.ClassFile.FieldType)).before args0 about1 = true := code_word (m := ⟨9, 12⟩) (meth := k9m12) (c := k9c12) (by decide +kernel) rfl rfl rfl (by decide +kernel)
set_option maxRecDepth 65536 in
theorem w_c32 : (Jvm.Cond.code ({ cls := "tramline/routes/JsonWriter", name := "writeBoolean", desc := "(Z)V" } : Jvm.MethodName) prog_32_method_9_code (2 : Nat) (Option.none : Option Jvm.ClassFile.FieldType)).before args0 about1 = true := code_word (m := ⟨9, 4⟩) (meth := k9m4) (c := k9c4) (by decide +kernel) rfl rfl rfl (by decide +kernel)
set_option maxRecDepth 65536 in
theorem w_c33 : (Jvm.Cond.code ({ cls := "tramline/routes/JsonWriter", name := "put", desc := "([B)V" } : Jvm.MethodName) prog_32_method_25_code (2 : Nat) (Option.none : Option Jvm.ClassFile.FieldType)).before args0 about1 = true := code_word (m := ⟨9, 13⟩) (meth := k9m13) (c := k9c13) (by decide +kernel) rfl rfl rfl (by decide +kernel)
set_option maxRecDepth 65536 in
theorem w_c34 : (Jvm.Cond.code ({ cls := "tramline/routes/JsonWriter", name := "writeEndArray", desc := "()V" } : Jvm.MethodName) prog_32_method_5_code (1 : Nat) (Option.none : Option Jvm.ClassFile.FieldType)).before args0 about1 = true := code_word (m := ⟨9, 2⟩) (meth := k9m2) (c := k9c2) (by decide +kernel) rfl rfl rfl (by decide +kernel)
set_option maxRecDepth 65536 in
theorem w_c35 : (Jvm.Cond.code ({ cls := "tramline/routes/JsonWriter", name := "close", desc := "(Z)V" } : Jvm.MethodName) prog_32_method_19_code (2 : Nat) (Option.none : Option Jvm.ClassFile.FieldType)).before args0 about1 = true := code_word (m := ⟨9, 7⟩) (meth := k9m7) (c := k9c7) (by decide +kernel) rfl rfl rfl (by decide +kernel)
set_option maxRecDepth 65536 in
theorem w_c36 : (Jvm.Cond.code ({ cls := "java/lang/StringUTF16", name := "toBytes", desc := "([CII)[B" } : Jvm.MethodName) jdk_52_method_14_code (5 : Nat) (Option.some (Jvm.ClassFile.FieldType.array Jvm.ClassFile.FieldType.byte))).before args0 about1 = true := code_word (m := ⟨8, 6⟩) (meth := k8m6) (c := k8c6) (by decide +kernel) rfl rfl rfl (by decide +kernel)
set_option maxRecDepth 65536 in
theorem w_c37 : (Jvm.Cond.code ({ cls := "java/lang/StringUTF16", name := "newBytesFor", desc := "(I)[B" } : Jvm.MethodName) jdk_52_method_2_code (1 : Nat) (Option.some (Jvm.ClassFile.FieldType.array Jvm.ClassFile.FieldType.byte))).before args0 about1 = true := code_word (m := ⟨8, 1⟩) (meth := k8m1) (c := k8c1) (by decide +kernel) rfl rfl rfl (by decide +kernel)
set_option maxRecDepth 65536 in
theorem w_c38 : (Jvm.Cond.code ({ cls := "java/lang/StringUTF16", name := "newBytesLength", desc := "(I)I" } : Jvm.MethodName) jdk_52_method_3_code (1 : Nat) (Option.some Jvm.ClassFile.FieldType.int)).before args0 about1 = true := code_word (m := ⟨8, 2⟩) (meth := k8m2) (c := k8c2) (by decide +kernel) rfl rfl rfl (by decide +kernel)
set_option maxRecDepth 65536 in
theorem w_c39 : (Jvm.Cond.code ({ cls := "java/lang/StringUTF16", name := "putChar", desc := "([BII)V" } : Jvm.MethodName) jdk_52_method_4_code (3 : Nat) (Option.none : Option Jvm.ClassFile.FieldType)).before args0 about1 = true := code_word (m := ⟨8, 3⟩) (meth := k8m3) (c := k8c3) (by decide +kernel) rfl rfl rfl (by decide +kernel)
set_option maxRecDepth 65536 in
theorem w_c40 : (Jvm.Cond.code ({ cls := "java/lang/StringUTF16", name := "getChar", desc := "([BI)C" } : Jvm.MethodName) jdk_52_method_5_code (2 : Nat) (Option.some Jvm.ClassFile.FieldType.char)).before args0 about1 = true := code_word (m := ⟨8, 4⟩) (meth := k8m4) (c := k8c4) (by decide +kernel) rfl rfl rfl (by decide +kernel)
set_option maxRecDepth 65536 in
theorem w_c41 : (Jvm.Cond.code ({ cls := "java/lang/StringUTF16", name := "charAt", desc := "([BI)C" } : Jvm.MethodName) jdk_52_method_83_code (2 : Nat) (Option.some Jvm.ClassFile.FieldType.char)).before args0 about1 = true := code_word (m := ⟨8, 10⟩) (meth := k8m10) (c := k8c10) (by decide +kernel) rfl rfl rfl (by decide +kernel)
set_option maxRecDepth 65536 in
theorem w_c42 : (Jvm.Cond.code ({ cls := "java/lang/StringUTF16", name := "checkIndex", desc := "(I[B)V" } : Jvm.MethodName) jdk_52_method_91_code (2 : Nat) (Option.none : Option Jvm.ClassFile.FieldType)).before args0 about1 = true := code_word (m := ⟨8, 11⟩) (meth := k8m11) (c := k8c11) (by decide +kernel) rfl rfl rfl (by decide +kernel)
set_option maxRecDepth 65536 in
theorem w_c43 : (Jvm.Cond.code ({ cls := "java/lang/StringUTF16", name := "length", desc := "([B)I" } : Jvm.MethodName) jdk_52_method_6_code (1 : Nat) (Option.some Jvm.ClassFile.FieldType.int)).before args0 about1 = true := code_word (m := ⟨8, 5⟩) (meth := k8m5) (c := k8c5) (by decide +kernel) rfl rfl rfl (by decide +kernel)
set_option maxRecDepth 65536 in
theorem w_c44 : (Jvm.Cond.code ({ cls := "java/lang/Character", name := "isSurrogate", desc := "(C)Z" } : Jvm.MethodName) jdk_89_method_16_code (1 : Nat) (Option.some Jvm.ClassFile.FieldType.boolean)).before args0 about1 = true := code_word (m := ⟨15, 0⟩) (meth := k15m0) (c := k15c0) (by decide +kernel) rfl rfl rfl (by decide +kernel)
def codes1 : List Jvm.Cond := [Jvm.Cond.code x code maxLocals ret, Jvm.Cond.code ({ cls := "java/lang/String", name := "<init>", desc := "([C)V" } : Jvm.MethodName) jdk_42_method_3_code (2 : Nat) (Option.none : Option Jvm.ClassFile.FieldType), Jvm.Cond.code ({ cls := "java/lang/String", name := "<init>", desc := "([CIILjava/lang/Void;)V" } : Jvm.MethodName) jdk_42_method_149_code (6 : Nat) (Option.none : Option Jvm.ClassFile.FieldType), Jvm.Cond.code ({ cls := "java/lang/Object", name := "<init>", desc := "()V" } : Jvm.MethodName) object_method_1_code (1 : Nat) (Option.none : Option Jvm.ClassFile.FieldType), Jvm.Cond.code ({ cls := "java/lang/StringUTF16", name := "compress", desc := "([CII)[B" } : Jvm.MethodName) jdk_52_method_16_code (6 : Nat) (Option.some (Jvm.ClassFile.FieldType.array Jvm.ClassFile.FieldType.byte)), Jvm.Cond.code ({ cls := "java/lang/StringUTF16", name := "compress", desc := "([CI[BII)I" } : Jvm.MethodName) jdk_52_method_21_code (7 : Nat) (Option.some Jvm.ClassFile.FieldType.int), Jvm.Cond.code ({ cls := "java/lang/StringUTF16", name := "coderFromArrayLen", desc := "([BI)B" } : Jvm.MethodName) jdk_52_method_15_code (2 : Nat) (Option.some Jvm.ClassFile.FieldType.byte), Jvm.Cond.code ({ cls := "tramline/routes/JsonWriterToByteArrayPinLaw", name := "enc", desc := "([BIC)I" } : Jvm.MethodName) method_4_code (3 : Nat) (Option.some Jvm.ClassFile.FieldType.int), Jvm.Cond.code ({ cls := "tramline/routes/JsonWriterToByteArrayPinLaw", name := "hexEscape", desc := "([BIC)I" } : Jvm.MethodName) method_3_code (3 : Nat) (Option.some Jvm.ClassFile.FieldType.int), Jvm.Cond.code ({ cls := "tramline/routes/JsonWriterToByteArrayPinLaw", name := "hex", desc := "(I)B" } : Jvm.MethodName) method_2_code (1 : Nat) (Option.some Jvm.ClassFile.FieldType.byte), Jvm.Cond.code ({ cls := "tramline/routes/JsonWriter", name := "<init>", desc := "()V" } : Jvm.MethodName) prog_32_method_1_code (1 : Nat) (Option.none : Option Jvm.ClassFile.FieldType), Jvm.Cond.code ({ cls := "tramline/routes/JsonWriter", name := "toByteArray", desc := "()[B" } : Jvm.MethodName) prog_32_method_17_code (1 : Nat) (Option.some (Jvm.ClassFile.FieldType.array Jvm.ClassFile.FieldType.byte)), Jvm.Cond.code ({ cls := "java/util/Arrays", name := "copyOf", desc := "([BI)[B" } : Jvm.MethodName) jdk_65_method_121_code (3 : Nat) (Option.some (Jvm.ClassFile.FieldType.array Jvm.ClassFile.FieldType.byte)), Jvm.Cond.code ({ cls := "java/lang/Math", name := "min", desc := "(II)I" } : Jvm.MethodName) jdk_29_method_69_code (2 : Nat) (Option.some Jvm.ClassFile.FieldType.int), Jvm.Cond.code ({ cls := "tramline/routes/JsonWriter", name := "writeString", desc := "(Ljava/lang/String;)V" } : Jvm.MethodName) prog_32_method_7_code (2 : Nat) (Option.none : Option Jvm.ClassFile.FieldType), Jvm.Cond.code ({ cls := "tramline/routes/JsonWriter", name := "beforeValue", desc := "()V" } : Jvm.MethodName) prog_32_method_20_code (1 : Nat) (Option.none : Option Jvm.ClassFile.FieldType), Jvm.Cond.code ({ cls := "tramline/routes/JsonWriter", name := "string", desc := "(Ljava/lang/String;)V" } : Jvm.MethodName) prog_32_method_21_code (5 : Nat) (Option.none : Option Jvm.ClassFile.FieldType), Jvm.Cond.code ({ cls := "java/lang/String", name := "length", desc := "()I" } : Jvm.MethodName) jdk_42_method_54_code (1 : Nat) (Option.some Jvm.ClassFile.FieldType.int), Jvm.Cond.code ({ cls := "java/lang/String", name := "coder", desc := "()B" } : Jvm.MethodName) jdk_42_method_152_code (1 : Nat) (Option.some Jvm.ClassFile.FieldType.byte), Jvm.Cond.code ({ cls := "tramline/routes/JsonWriter", name := "room", desc := "(I)V" } : Jvm.MethodName) prog_32_method_26_code (2 : Nat) (Option.none : Option Jvm.ClassFile.FieldType), Jvm.Cond.code ({ cls := "java/lang/String", name := "charAt", desc := "(I)C" } : Jvm.MethodName) jdk_42_method_56_code (2 : Nat) (Option.some Jvm.ClassFile.FieldType.char), Jvm.Cond.code ({ cls := "java/lang/String", name := "isLatin1", desc := "()Z" } : Jvm.MethodName) jdk_42_method_154_code (1 : Nat) (Option.some Jvm.ClassFile.FieldType.boolean), Jvm.Cond.code ({ cls := "java/lang/StringLatin1", name := "charAt", desc := "([BI)C" } : Jvm.MethodName) jdk_43_method_2_code (2 : Nat) (Option.some Jvm.ClassFile.FieldType.char), Jvm.Cond.code ({ cls := "java/lang/String", name := "checkIndex", desc := "(II)V" } : Jvm.MethodName) jdk_42_method_155_code (2 : Nat) (Option.none : Option Jvm.ClassFile.FieldType), Jvm.Cond.code ({ cls := "jdk/internal/util/Preconditions", name := "checkIndex", desc := "(IILjava/util/function/BiFunction;)I" } : Jvm.MethodName) jdk_41_method_11_code (3 : Nat) (Option.some Jvm.ClassFile.FieldType.int), Jvm.Cond.code ({ cls := "tramline/routes/JsonWriter", name := "rest", desc := "(Ljava/lang/String;I)V" } : Jvm.MethodName) prog_32_method_22_code (5 : Nat) (Option.none : Option Jvm.ClassFile.FieldType), Jvm.Cond.code ({ cls := "tramline/routes/JsonWriter", name := "escape", desc := "(C)V" } : Jvm.MethodName) prog_32_method_23_code (4 : Nat) (Option.none : Option Jvm.ClassFile.FieldType), Jvm.Cond.code ({ cls := "tramline/routes/JsonWriterToByteArrayPinLaw", name := "same", desc := "([B[BI)Z" } : Jvm.MethodName) method_6_code (3 : Nat) (Option.some Jvm.ClassFile.FieldType.boolean), Jvm.Cond.code ({ cls := "tramline/routes/JsonWriterToByteArrayPinLaw", name := "eqAt", desc := "([B[BI)Z" } : Jvm.MethodName) method_5_code (3 : Nat) (Option.some Jvm.ClassFile.FieldType.boolean), Jvm.Cond.code ({ cls := "tramline/routes/JsonWriter", name := "writeStartArray", desc := "()V" } : Jvm.MethodName) prog_32_method_4_code (1 : Nat) (Option.none : Option Jvm.ClassFile.FieldType), Jvm.Cond.code ({ cls := "tramline/routes/JsonWriter", name := "open", desc := "(Z)V" } : Jvm.MethodName) prog_32_method_18_code (2 : Nat) (Option.none : Option Jvm.ClassFile.FieldType), Jvm.Cond.code ({ cls := "tramline/routes/JsonWriter", name := "put", desc := "(B)V" } : Jvm.MethodName) prog_32_method_24_code (2 : Nat) (Option.none : Option Jvm.ClassFile.FieldType), Jvm.Cond.code ({ cls := "tramline/routes/JsonWriter", name := "writeBoolean", desc := "(Z)V" } : Jvm.MethodName) prog_32_method_9_code (2 : Nat) (Option.none : Option Jvm.ClassFile.FieldType), Jvm.Cond.code ({ cls := "tramline/routes/JsonWriter", name := "put", desc := "([B)V" } : Jvm.MethodName) prog_32_method_25_code (2 : Nat) (Option.none : Option Jvm.ClassFile.FieldType), Jvm.Cond.code ({ cls := "tramline/routes/JsonWriter", name := "writeEndArray", desc := "()V" } : Jvm.MethodName) prog_32_method_5_code (1 : Nat) (Option.none : Option Jvm.ClassFile.FieldType), Jvm.Cond.code ({ cls := "tramline/routes/JsonWriter", name := "close", desc := "(Z)V" } : Jvm.MethodName) prog_32_method_19_code (2 : Nat) (Option.none : Option Jvm.ClassFile.FieldType), Jvm.Cond.code ({ cls := "java/lang/StringUTF16", name := "toBytes", desc := "([CII)[B" } : Jvm.MethodName) jdk_52_method_14_code (5 : Nat) (Option.some (Jvm.ClassFile.FieldType.array Jvm.ClassFile.FieldType.byte)), Jvm.Cond.code ({ cls := "java/lang/StringUTF16", name := "newBytesFor", desc := "(I)[B" } : Jvm.MethodName) jdk_52_method_2_code (1 : Nat) (Option.some (Jvm.ClassFile.FieldType.array Jvm.ClassFile.FieldType.byte)), Jvm.Cond.code ({ cls := "java/lang/StringUTF16", name := "newBytesLength", desc := "(I)I" } : Jvm.MethodName) jdk_52_method_3_code (1 : Nat) (Option.some Jvm.ClassFile.FieldType.int), Jvm.Cond.code ({ cls := "java/lang/StringUTF16", name := "putChar", desc := "([BII)V" } : Jvm.MethodName) jdk_52_method_4_code (3 : Nat) (Option.none : Option Jvm.ClassFile.FieldType), Jvm.Cond.code ({ cls := "java/lang/StringUTF16", name := "getChar", desc := "([BI)C" } : Jvm.MethodName) jdk_52_method_5_code (2 : Nat) (Option.some Jvm.ClassFile.FieldType.char), Jvm.Cond.code ({ cls := "java/lang/StringUTF16", name := "charAt", desc := "([BI)C" } : Jvm.MethodName) jdk_52_method_83_code (2 : Nat) (Option.some Jvm.ClassFile.FieldType.char), Jvm.Cond.code ({ cls := "java/lang/StringUTF16", name := "checkIndex", desc := "(I[B)V" } : Jvm.MethodName) jdk_52_method_91_code (2 : Nat) (Option.none : Option Jvm.ClassFile.FieldType), Jvm.Cond.code ({ cls := "java/lang/StringUTF16", name := "length", desc := "([B)I" } : Jvm.MethodName) jdk_52_method_6_code (1 : Nat) (Option.some Jvm.ClassFile.FieldType.int), Jvm.Cond.code ({ cls := "java/lang/Character", name := "isSurrogate", desc := "(C)Z" } : Jvm.MethodName) jdk_89_method_16_code (1 : Nat) (Option.some Jvm.ClassFile.FieldType.boolean)]
set_option maxRecDepth 65536 in
theorem codes_eq : words1.filter isCode = codes1 := rfl
theorem w_codes : ∀ c ∈ words1.filter isCode, c.before args0 about1 = true := by
  rw [codes_eq]
  intro c hc
  simp only [codes1, List.mem_cons, List.not_mem_nil, or_false] at hc
  rcases hc with rfl | rfl | rfl | rfl | rfl | rfl | rfl | rfl | rfl | rfl | rfl | rfl | rfl | rfl | rfl | rfl | rfl | rfl | rfl | rfl | rfl | rfl | rfl | rfl | rfl | rfl | rfl | rfl | rfl | rfl | rfl | rfl | rfl | rfl | rfl | rfl | rfl | rfl | rfl | rfl | rfl | rfl | rfl | rfl | rfl
  · exact w_c0
  · exact w_c1
  · exact w_c2
  · exact w_c3
  · exact w_c4
  · exact w_c5
  · exact w_c6
  · exact w_c7
  · exact w_c8
  · exact w_c9
  · exact w_c10
  · exact w_c11
  · exact w_c12
  · exact w_c13
  · exact w_c14
  · exact w_c15
  · exact w_c16
  · exact w_c17
  · exact w_c18
  · exact w_c19
  · exact w_c20
  · exact w_c21
  · exact w_c22
  · exact w_c23
  · exact w_c24
  · exact w_c25
  · exact w_c26
  · exact w_c27
  · exact w_c28
  · exact w_c29
  · exact w_c30
  · exact w_c31
  · exact w_c32
  · exact w_c33
  · exact w_c34
  · exact w_c35
  · exact w_c36
  · exact w_c37
  · exact w_c38
  · exact w_c39
  · exact w_c40
  · exact w_c41
  · exact w_c42
  · exact w_c43
  · exact w_c44
set_option maxRecDepth 65536 in
theorem w_t1 : (words1.take 24).all (fun c => isCode c || c.before args0 about1) = true := by decide +kernel
set_option maxRecDepth 65536 in
theorem w_t2 : ((words1.drop 24).take 24).all (fun c => isCode c || c.before args0 about1) = true := by decide +kernel
set_option maxRecDepth 65536 in
theorem w_t3 : (((words1.drop 24).drop 24).take 24).all (fun c => isCode c || c.before args0 about1) = true := by decide +kernel
set_option maxRecDepth 65536 in
theorem w_t4 : ((((words1.drop 24).drop 24).drop 24).take 24).all (fun c => isCode c || c.before args0 about1) = true := by decide +kernel
set_option maxRecDepth 65536 in
theorem w_t5 : (((((words1.drop 24).drop 24).drop 24).drop 24).take 24).all (fun c => isCode c || c.before args0 about1) = true := by decide +kernel
set_option maxRecDepth 65536 in
theorem w_t6 : ((((((words1.drop 24).drop 24).drop 24).drop 24).drop 24).take 24).all (fun c => isCode c || c.before args0 about1) = true := by decide +kernel
set_option maxRecDepth 65536 in
theorem w_t7 : (((((((words1.drop 24).drop 24).drop 24).drop 24).drop 24).drop 24).take 24).all (fun c => isCode c || c.before args0 about1) = true := by decide +kernel
set_option maxRecDepth 65536 in
theorem w_t8 : ((((((((words1.drop 24).drop 24).drop 24).drop 24).drop 24).drop 24).drop 24).take 24).all (fun c => isCode c || c.before args0 about1) = true := by decide +kernel
set_option maxRecDepth 65536 in
theorem w_t9 : (((((((((words1.drop 24).drop 24).drop 24).drop 24).drop 24).drop 24).drop 24).drop 24).take 24).all (fun c => isCode c || c.before args0 about1) = true := by decide +kernel
set_option maxRecDepth 65536 in
theorem w_t10 : (((((((((words1.drop 24).drop 24).drop 24).drop 24).drop 24).drop 24).drop 24).drop 24).drop 24).all (fun c => isCode c || c.before args0 about1) = true := by decide +kernel
theorem w_tables : (allAtoms (Jvm.Cond.code x code maxLocals ret :: tables_1)).before args0 about1 = true := by
  rw [allAtoms_all]
  show words1.all (fun c => c.before args0 about1) = true
  refine all_split ?_ w_codes
  rw [← List.take_append_drop 24 words1, List.all_append, w_t1, ← List.take_append_drop 24 (words1.drop 24), List.all_append, w_t2, ← List.take_append_drop 24 ((words1.drop 24).drop 24), List.all_append, w_t3, ← List.take_append_drop 24 (((words1.drop 24).drop 24).drop 24), List.all_append, w_t4, ← List.take_append_drop 24 ((((words1.drop 24).drop 24).drop 24).drop 24), List.all_append, w_t5, ← List.take_append_drop 24 (((((words1.drop 24).drop 24).drop 24).drop 24).drop 24), List.all_append, w_t6, ← List.take_append_drop 24 ((((((words1.drop 24).drop 24).drop 24).drop 24).drop 24).drop 24), List.all_append, w_t7, ← List.take_append_drop 24 (((((((words1.drop 24).drop 24).drop 24).drop 24).drop 24).drop 24).drop 24), List.all_append, w_t8, ← List.take_append_drop 24 ((((((((words1.drop 24).drop 24).drop 24).drop 24).drop 24).drop 24).drop 24).drop 24), List.all_append, w_t9, w_t10]
  rfl
set_option maxRecDepth 65536 in
theorem w_rest : rest_1_c.before args0 about1 = true := by decide +kernel
set_option maxRecDepth 65536 in
theorem w_case : (Jvm.Cond.and given_1 narrow_1).before args0 about1 = true := by decide +kernel
theorem w_applies : (headSpec (Jvm.Cond.code x code maxLocals ret :: tables_1) room_1).applies x e0.platform about1 = true :=
  (Spec.applies_iff w_frames).mpr ⟨w_running, w_runnable, w_alone, w_named, w_hears, w_ripe, w_room, w_tables⟩
theorem atStart : AtStart classFile x code maxLocals ret World_1 tables_1 room_1 Calls_1 rest_1 Pre_1 launch0 p0 e0 about1 theMethod args0 below0 :=
  ⟨lists_1, trivial, launch0.admits_env _ _ _, launch0.least_env, fairChoices_fair.cas, fairChoices_fair.clock, w_frames, w_args, w_heap, w_applies, trivial, w_rest, w_case⟩
end start1
theorem witness_1 : WitnessClaimed_1 := ⟨start1.p0, start1.e0, start1.about1, start1.theMethod, start1.args0, start1.below0, start1.atStart⟩
end Jvm.Pilot.@@N@@
