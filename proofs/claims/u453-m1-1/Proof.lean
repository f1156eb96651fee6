import JvmDerived
import JvmDerived.Pilot.@@N@@Statement
import JvmDerived.Pilot.@@N@@Code
set_option linter.unusedVariables false
set_option linter.unusedSimpArgs false
namespace Jvm.Pilot.@@N@@
open Jvm Jvm.ClassFile Sem Op Lib Jvm.Free Jvm.Stand Jvm.LawKit Jvm.RoadKit Bundle Jvm.Pilot.@@N@@.Jvm.D
/-- the walk's goal, seen from a state: it comes to an end of which P holds -/
def OwnFin (tb : Tables) (e : Env) (below : List Frame) (P : State → Outcome → Prop) (S : State) : Prop := ∃ t o, Steps tb e below S t ∧ P t o
theorem OwnFin.adv {tb : Tables} {e : Env} {below : List Frame} {P : State → Outcome → Prop} {A B : State} (h : ∀ t, Steps tb e below B t → Steps tb e below A t) (k : OwnFin tb e below P B) : OwnFin tb e below P A := by
  obtain ⟨t, o, h1, h2⟩ := k
  exact ⟨t, o, h t h1, h2⟩
theorem OwnFin.entry {tb : Tables} {e : Env} {below : List Frame} {P : State → Outcome → Prop} {T : State} {g g' : JFrame} (q : g = g') (k : ∀ P', P' = P → OwnFin tb e below P' (T.setTop g')) : ∃ t o, Steps tb e below (T.setTop g) t ∧ P t o := by
  subst q; exact k P rfl
theorem OwnFin.leaf {tb : Tables} {e : Env} {below : List Frame} {P P' : State → Outcome → Prop} {S : State} (q : P' = P) (k : ∃ t o, Steps tb e below S t ∧ P t o) : OwnFin tb e below P' S := by
  subst q; exact k
theorem own_ne {a b : Nat} (h : a < b ∨ b < a) : a ≠ b := by omega
theorem own_monoW {s t : State} {o : Outcome} {L : List Loc} {k n k' n' : Nat} (h : ReturnedEndW s o t L k n) (hk : k ≤ k') (hn : n ≤ n') : ReturnedEndW s o t L k' n' := ⟨h.1, h.2.1, h.2.2.1, h.2.2.2.mono hk hn⟩
theorem own_chend {Z : State} {EL : List (String × Nat)} {vm0 vm1 vm2 : Vm} {U0 U1 : State} {h0 h1 : Heap} (A : CHr Z EL U0.vm h0 vm1 h1) (B : CHr Z EL vm1 h1 vm2 h1) (e0 : U0.heap = h0) (e1 : U1.heap = h1) : CHr Z EL U0.vm U0.heap vm2 U1.heap := by
  rw [e0, e1]; exact A.trans B
theorem own_staK {Z : State} {n0 : Nat} {h : Heap} {C n d : String} {v : Value} (S : Sta Z Z.heap C n d v) (O : Old Z n0 h) : Sta Z h C n d v := S.ext O.2
section OwnRet
variable {p : Program} {l : Launch} {e : Env} {R : Room} {s : State} {m : MethodId} {args : Array Value} {below : List Frame} {meth : Method} {c : Code} {T : State} {locs : List Loc} {cells slots : Nat}
theorem own_retI (X : Stand p l e R s m args below meth c T locs cells slots) (hx : p.tables.exec = Jvm.exec) {pc : Nat} {Ls : Array Slot} {z : Int32} {rest : List Value} (hret : meth.sig.returnType = some .int) (hd : decode c.code pc = .ok (.ireturn, 1)) {fs : List Frame}
    (hl : ∀ (f : JFrame) (acts : List Action), f.method = m → f.locked = none → f.entered = [] → (doReturn e (T.setTop f) acts (some (.int z))).1 = T.setFrames fs) : Steps p.tables e below (T.setTop (mkF m pc Ls (.int z :: rest))) (T.setFrames fs) :=
  retOut X hx hret rfl (Or.inl ⟨rfl, Or.inl rfl, z, rfl⟩) hd hl
theorem own_retL (X : Stand p l e R s m args below meth c T locs cells slots) (hx : p.tables.exec = Jvm.exec) {pc : Nat} {Ls : Array Slot} {z : Int64} {rest : List Value} (hret : meth.sig.returnType = some .long) (hd : decode c.code pc = .ok (.lreturn, 1)) {fs : List Frame}
    (hl : ∀ (f : JFrame) (acts : List Action), f.method = m → f.locked = none → f.entered = [] → (doReturn e (T.setTop f) acts (some (.long z))).1 = T.setFrames fs) : Steps p.tables e below (T.setTop (mkF m pc Ls (.long z :: rest))) (T.setFrames fs) :=
  retOut X hx hret rfl (Or.inr (Or.inl ⟨rfl, rfl, z, rfl⟩)) hd hl
theorem own_retR (X : Stand p l e R s m args below meth c T locs cells slots) (hx : p.tables.exec = Jvm.exec) {pc : Nat} {Ls : Array Slot} {w : Value} {t : FieldType} {rest : List Value} (hret : meth.sig.returnType = some t) (ht : t.isReference = true) (hn : narrow t w = w) (hw : w.isRef = true) (hd : decode c.code pc = .ok (.areturn, 1)) {fs : List Frame}
    (hl : ∀ (f : JFrame) (acts : List Action), f.method = m → f.locked = none → f.entered = [] → (doReturn e (T.setTop f) acts (some w)).1 = T.setFrames fs) : Steps p.tables e below (T.setTop (mkF m pc Ls (w :: rest))) (T.setFrames fs) :=
  retOut X hx hret hn (Or.inr (Or.inr (Or.inr (Or.inr ⟨rfl, ht, hw⟩)))) hd hl
end OwnRet
theorem own_eqI {args : Array Value} {first s : State} {o : Option Outcome} {idx : List Nat} {t : Term} {k : Int32} (h : (Cond.eq t (Term.int k)).value args first o s idx = some true) : t.eval args first o idx s = some (.int k) := by
  simp only [Cond.value, Term.eval] at h
  cases ht : t.eval args first o idx s with
  | none => simp [ht] at h
  | some x => cases x <;> simp [ht] at h ⊢; exact h
theorem own_fldI {Z : State} {args : Array Value} {t : Term} {a : Addr} {C n d : String} {k : Int32} (ht : t.eval args Z none [] Z = some (.ref a)) (h : (Cond.eq (Term.field t C n d) (Term.int k)).value args Z none Z [] = some true) : Fld Z Z.heap a C n d (.int k) :=
  Fld.start ((fld_at ht).symm.trans (own_eqI h))
theorem own_eqRef {args : Array Value} {first s : State} {o : Option Outcome} {idx : List Nat} {t u : Term} {r : Addr} (hu : u.eval args first o idx s = some (.ref r)) (h : (Cond.eq t u).value args first o s idx = some true) : t.eval args first o idx s = some (.ref r) := by
  obtain ⟨x, y, e1, e2, k1, k2⟩ := cmp_v (Or.inl h)
  cases hu.symm.trans e2
  have hx : x.isRef = true := by cases x <;> simp [Kin, Value.isRef] at k1 k2 ⊢
  have := gotT (eq_R e1 e2 hx rfl) h
  rw [e1, this]
theorem own_fldR {Z : State} {args : Array Value} {t u : Term} {a r : Addr} {C n d : String} (ht : t.eval args Z none [] Z = some (.ref a)) (hu : u.eval args Z none [] Z = some (.ref r)) (h : (Cond.eq (Term.field t C n d) u).value args Z none Z [] = some true) : Fld Z Z.heap a C n d (.ref r) :=
  Fld.start ((fld_at ht).symm.trans (own_eqRef hu h))
theorem own_fldN {Z : State} {args : Array Value} {t : Term} {a : Addr} {C n d : String} (ht : t.eval args Z none [] Z = some (.ref a)) (h : (Cond.eq (Term.field t C n d) Term.null).value args Z none Z [] = some true) : Fld Z Z.heap a C n d .null :=
  Fld.start ((fld_at ht).symm.trans (null_v h))
theorem own_m7 (x : Int32) : (x &&& (7 : Int32)) = 0 ∨ (x &&& (7 : Int32)) = 1 ∨ (x &&& (7 : Int32)) = 2 ∨ (x &&& (7 : Int32)) = 3 ∨ (x &&& (7 : Int32)) = 4 ∨ (x &&& (7 : Int32)) = 5 ∨ (x &&& (7 : Int32)) = 6 ∨ (x &&& (7 : Int32)) = 7 := by
  have h := c_mask x 7 3 (by decide) (by decide)
  have h8 : (x &&& (7 : Int32)).toInt = 0 ∨ (x &&& (7 : Int32)).toInt = 1 ∨ (x &&& (7 : Int32)).toInt = 2 ∨ (x &&& (7 : Int32)).toInt = 3 ∨ (x &&& (7 : Int32)).toInt = 4 ∨ (x &&& (7 : Int32)).toInt = 5 ∨ (x &&& (7 : Int32)).toInt = 6 ∨ (x &&& (7 : Int32)).toInt = 7 := by omega
  rcases h8 with q | q | q | q | q | q | q | q
  · exact Or.inl (Int32.toInt_inj.mp q)
  · exact Or.inr (Or.inl (Int32.toInt_inj.mp q))
  · exact Or.inr (Or.inr (Or.inl (Int32.toInt_inj.mp q)))
  · exact Or.inr (Or.inr (Or.inr (Or.inl (Int32.toInt_inj.mp q))))
  · exact Or.inr (Or.inr (Or.inr (Or.inr (Or.inl (Int32.toInt_inj.mp q)))))
  · exact Or.inr (Or.inr (Or.inr (Or.inr (Or.inr (Or.inl (Int32.toInt_inj.mp q))))))
  · exact Or.inr (Or.inr (Or.inr (Or.inr (Or.inr (Or.inr (Or.inl (Int32.toInt_inj.mp q)))))))
  · exact Or.inr (Or.inr (Or.inr (Or.inr (Or.inr (Or.inr (Or.inr (Int32.toInt_inj.mp q)))))))
def own_pick (k : Int32) (q0 q1 q2 q3 q4 q5 q6 q7 : Addr) : Addr := if k = 0 then q0 else if k = 1 then q1 else if k = 2 then q2 else if k = 3 then q3 else if k = 4 then q4 else if k = 5 then q5 else if k = 6 then q6 else q7

theorem own_d1_0 : decode method_2_code 0 = .ok (.iload_n 0, 1) := by decide +kernel
theorem own_d1_1 : decode method_2_code 1 = .ok (.ifCond .ne 7, 3) := by decide +kernel
theorem own_d1_4 : decode method_2_code 4 = .ok (.getstatic 7, 3) := by decide +kernel
theorem own_d1_7 : decode method_2_code 7 = .ok (.areturn, 1) := by decide +kernel
theorem own_d1_8 : decode method_2_code 8 = .ok (.iload_n 0, 1) := by decide +kernel
theorem own_d1_9 : decode method_2_code 9 = .ok (.iconst 1, 1) := by decide +kernel
theorem own_d1_10 : decode method_2_code 10 = .ok (.if_icmp .ne 7, 3) := by decide +kernel
theorem own_d1_13 : decode method_2_code 13 = .ok (.getstatic 13, 3) := by decide +kernel
theorem own_d1_16 : decode method_2_code 16 = .ok (.areturn, 1) := by decide +kernel
theorem own_d1_17 : decode method_2_code 17 = .ok (.iload_n 0, 1) := by decide +kernel
theorem own_d1_18 : decode method_2_code 18 = .ok (.iconst 2, 1) := by decide +kernel
theorem own_d1_19 : decode method_2_code 19 = .ok (.if_icmp .ne 7, 3) := by decide +kernel
theorem own_d1_22 : decode method_2_code 22 = .ok (.getstatic 16, 3) := by decide +kernel
theorem own_d1_25 : decode method_2_code 25 = .ok (.areturn, 1) := by decide +kernel
theorem own_d1_26 : decode method_2_code 26 = .ok (.iload_n 0, 1) := by decide +kernel
theorem own_d1_27 : decode method_2_code 27 = .ok (.iconst 3, 1) := by decide +kernel
theorem own_d1_28 : decode method_2_code 28 = .ok (.if_icmp .ne 7, 3) := by decide +kernel
theorem own_d1_31 : decode method_2_code 31 = .ok (.getstatic 19, 3) := by decide +kernel
theorem own_d1_34 : decode method_2_code 34 = .ok (.areturn, 1) := by decide +kernel
theorem own_d1_35 : decode method_2_code 35 = .ok (.iload_n 0, 1) := by decide +kernel
theorem own_d1_36 : decode method_2_code 36 = .ok (.iconst 4, 1) := by decide +kernel
theorem own_d1_37 : decode method_2_code 37 = .ok (.if_icmp .ne 7, 3) := by decide +kernel
theorem own_d1_40 : decode method_2_code 40 = .ok (.getstatic 22, 3) := by decide +kernel
theorem own_d1_43 : decode method_2_code 43 = .ok (.areturn, 1) := by decide +kernel
theorem own_d1_44 : decode method_2_code 44 = .ok (.iload_n 0, 1) := by decide +kernel
theorem own_d1_45 : decode method_2_code 45 = .ok (.iconst 5, 1) := by decide +kernel
theorem own_d1_46 : decode method_2_code 46 = .ok (.if_icmp .ne 7, 3) := by decide +kernel
theorem own_d1_49 : decode method_2_code 49 = .ok (.getstatic 25, 3) := by decide +kernel
theorem own_d1_52 : decode method_2_code 52 = .ok (.areturn, 1) := by decide +kernel
theorem own_d1_53 : decode method_2_code 53 = .ok (.iload_n 0, 1) := by decide +kernel
theorem own_d1_54 : decode method_2_code 54 = .ok (.bipush 6, 2) := by decide +kernel
theorem own_d1_56 : decode method_2_code 56 = .ok (.if_icmp .ne 7, 3) := by decide +kernel
theorem own_d1_59 : decode method_2_code 59 = .ok (.getstatic 28, 3) := by decide +kernel
theorem own_d1_62 : decode method_2_code 62 = .ok (.areturn, 1) := by decide +kernel
theorem own_d1_63 : decode method_2_code 63 = .ok (.getstatic 31, 3) := by decide +kernel
theorem own_d1_66 : decode method_2_code 66 = .ok (.areturn, 1) := by decide +kernel
theorem own_ef_rm1 (m : MethodId) (x0 : Int32) : entryFrame m #[(.int x0)] 1 = mkF m 0 #[.val (.int x0)] [] := by first | (simp [entryFrame, mkF, argsToLocals, Value.category]; done) | rfl
theorem own_pn_com_example_klotho_klotho_InstanceStatusIsWaitingPinLaw : plainName "com/example/klotho/klotho/InstanceStatusIsWaitingPinLaw" = true := by first | (simp [plainName, overriddenIn]; done) | decide +kernel
def own_Q_rm1 (Z : State) (kv : Int32) (q0 q1 q2 q3 q4 q5 q6 q7 : Addr) (r : Addr) (hk : own_pick kv q0 q1 q2 q3 q4 q5 q6 q7 = r) (h0 : Heap) (n0 : Nat) (v : Option Value) (h : Heap) (L : List Loc) : Prop := v = some (.ref r) ∧ Fr n0 L ∧ h = h0
set_option maxRecDepth 65536 in
set_option maxHeartbeats 40000000 in
theorem own_rm1 (l : Launch) (Z : State) (a0 : Array Value) (hw : ∀ d ∈ tables_1, d.before a0 Z = true) (ws : List Jvm.Cond) (kv : Int32) (q0 q1 q2 q3 q4 q5 q6 q7 : Addr) (r : Addr) (hk : own_pick kv q0 q1 q2 q3 q4 q5 q6 q7 = r) (h0 : Heap) (n0 : Nat) (Z0 : n0 ≤ h0.size) (S_q0 : Sta Z h0 "com/example/klotho/klotho/InstanceStatus" "RUNNING" "Lcom/example/klotho/klotho/InstanceStatus;" (.ref q0)) (S_q1 : Sta Z h0 "com/example/klotho/klotho/InstanceStatus" "COMPLETED" "Lcom/example/klotho/klotho/InstanceStatus;" (.ref q1)) (S_q2 : Sta Z h0 "com/example/klotho/klotho/InstanceStatus" "FAILED" "Lcom/example/klotho/klotho/InstanceStatus;" (.ref q2)) (S_q3 : Sta Z h0 "com/example/klotho/klotho/InstanceStatus" "COMPENSATING" "Lcom/example/klotho/klotho/InstanceStatus;" (.ref q3)) (S_q4 : Sta Z h0 "com/example/klotho/klotho/InstanceStatus" "CANCELLED" "Lcom/example/klotho/klotho/InstanceStatus;" (.ref q4)) (S_q5 : Sta Z h0 "com/example/klotho/klotho/InstanceStatus" "WAITING_FOR_EVENT" "Lcom/example/klotho/klotho/InstanceStatus;" (.ref q5)) (S_q6 : Sta Z h0 "com/example/klotho/klotho/InstanceStatus" "WAITING_FOR_TIMER" "Lcom/example/klotho/klotho/InstanceStatus;" (.ref q6)) (S_q7 : Sta Z h0 "com/example/klotho/klotho/InstanceStatus" "WAITING_TO_COMPENSATE" "Lcom/example/klotho/klotho/InstanceStatus;" (.ref q7)) :
    MetFree l (⟨"com/example/klotho/klotho/InstanceStatusIsWaitingPinLaw", "pick", "(I)Lcom/example/klotho/klotho/InstanceStatus;"⟩ : MethodName) (head1 (Jvm.Cond.code (⟨"com/example/klotho/klotho/InstanceStatusIsWaitingPinLaw", "pick", "(I)Lcom/example/klotho/klotho/InstanceStatus;"⟩ : MethodName) method_2_code 1 (some (.object "com/example/klotho/klotho/InstanceStatus")) :: ws) ({ frames := 0, cells := 0, slots := 0, locals := 0 } : Room)) (fun A0 U0 => A0 = #[(.int kv)] ∧ Z.Warmed39 U0.vm ∧ U0.heap = h0) (fun _ _ _ _ _ => True) (fun _ U0 o0 U1 => ∃ v0 L0, o0 = .returned v0 ∧ own_Q_rm1 Z kv q0 q1 q2 q3 q4 q5 q6 q7 r hk h0 n0 v0 U1.heap L0 ∧ FrameEnd U0 o0 U1 L0 ({ frames := 0, cells := 0, slots := 0, locals := 0 } : Room).cells ({ frames := 0, cells := 0, slots := 0, locals := 0 } : Room).slots) := by
  refine MetFree.of_bodySF (plainFor_of_name own_pn_com_example_klotho_klotho_InstanceStatusIsWaitingPinLaw) hisR ?_
  intro p e s m args below meth c s₁ Bd hml0 hP hK
  obtain ⟨rfl, hZ, hh⟩ := hP
  have hx := Bd.exec
  have hby := Bd.bytes
  have hml : c.maxLocals = 1 := hml0
  have hown : s.vm.findClass "com/example/klotho/klotho/InstanceStatusIsWaitingPinLaw" = some m.cls := findClass_of_methodNamed Bd.named
  have hnm := (name_of_methodNamed Bd.named Bd.method).1
  have X0 : Stand p l e ({ frames := 0, cells := 0, slots := 0, locals := 0 } : Room) s m #[(.int kv)] below meth c s₁ [] 0 0 := Stand.of_body Bd
  have e0 : s₁.heap = h0 := by rw [← hh, Bd.state]; rfl
  have N0 := Fr.nil n0
  refine OwnFin.entry (own_ef_rm1 m kv) (fun P' hP' => ?_)
  refine OwnFin.adv (B := s₁.setTop (mkF m 1 #[.val (.int kv)] [(.int kv)])) (fun _ k => XS.iloadN X0.here hx rfl (hb hby own_d1_0) rfl k) ?_
  by_cases hc1 : kv = (0 : Int32)
  ·
    refine OwnFin.adv (B := s₁.setTop (mkF m 4 #[.val (.int kv)] [])) (fun _ k => XS.ifNo X0.here hx rfl (hb hby own_d1_1) rfl ((if0 _ _).trans (teq hc1).2) k) ?_
    obtain ⟨T1, X1, e1, st1⟩ := getS2 X0 hx hZ hown (host := "") (Or.inl (hw _ (List.mem_of_getElem? (i := 4) rfl))) Via.refl e0 S_q0 (g := (mkF m 4 #[.val (.int kv)] [])) rfl (hb hby own_d1_4)
    refine OwnFin.adv (B := T1.setTop (mkF m 7 #[.val (.int kv)] [(.ref q0)])) (fun _ k => st1 _ k) ?_
    obtain ⟨fs, hr, hrun, hended, hW, hsame⟩ := X1.leave (v := some (.ref q0)) (fun h => by rw [Bd.returns] at h; cases h)
    refine OwnFin.leaf hP' ⟨_, _, own_retR X1 hx Bd.returns rfl rfl rfl (hb hby own_d1_7) hr, hrun, hended, _, _, rfl, ?_, ⟨_, rfl⟩, hW, hsame.mono (by decide) (by decide)⟩
    exact ⟨by rw [← hk]; simp [own_pick, *], N0, e1⟩
  ·
    refine OwnFin.adv (B := s₁.setTop (mkF m 8 #[.val (.int kv)] [])) (fun _ k => XS.ifYes X0.here hx rfl (pc0 := 1) (pc' := 8) rfl (hb hby own_d1_1) rfl ((if0 _ _).trans (feq hc1).2) (by decide) (by decide) k) ?_
    refine OwnFin.adv (B := s₁.setTop (mkF m 9 #[.val (.int kv)] [(.int kv)])) (fun _ k => XS.iloadN X0.here hx rfl (hb hby own_d1_8) rfl k) ?_
    refine OwnFin.adv (B := s₁.setTop (mkF m 10 #[.val (.int kv)] [(.int (1 : Int32)), (.int kv)])) (fun _ k => XS.iconst X0.here hx rfl (hb hby own_d1_9) k) ?_
    by_cases hc10 : kv = (1 : Int32)
    ·
      refine OwnFin.adv (B := s₁.setTop (mkF m 13 #[.val (.int kv)] [])) (fun _ k => XS.icmpNo X0.here hx rfl (hb hby own_d1_10) rfl (teq hc10).2 k) ?_
      obtain ⟨T2, X2, e2, st2⟩ := getS2 X0 hx hZ hown (host := "") (Or.inl (hw _ (List.mem_of_getElem? (i := 29) rfl))) Via.refl e0 S_q1 (g := (mkF m 13 #[.val (.int kv)] [])) rfl (hb hby own_d1_13)
      refine OwnFin.adv (B := T2.setTop (mkF m 16 #[.val (.int kv)] [(.ref q1)])) (fun _ k => st2 _ k) ?_
      obtain ⟨fs, hr, hrun, hended, hW, hsame⟩ := X2.leave (v := some (.ref q1)) (fun h => by rw [Bd.returns] at h; cases h)
      refine OwnFin.leaf hP' ⟨_, _, own_retR X2 hx Bd.returns rfl rfl rfl (hb hby own_d1_16) hr, hrun, hended, _, _, rfl, ?_, ⟨_, rfl⟩, hW, hsame.mono (by decide) (by decide)⟩
      exact ⟨by rw [← hk]; simp [own_pick, *], N0, e2⟩
    ·
      refine OwnFin.adv (B := s₁.setTop (mkF m 17 #[.val (.int kv)] [])) (fun _ k => XS.icmpYes X0.here hx rfl (pc0 := 10) (pc' := 17) rfl (hb hby own_d1_10) rfl (feq hc10).2 (by decide) (by decide) k) ?_
      refine OwnFin.adv (B := s₁.setTop (mkF m 18 #[.val (.int kv)] [(.int kv)])) (fun _ k => XS.iloadN X0.here hx rfl (hb hby own_d1_17) rfl k) ?_
      refine OwnFin.adv (B := s₁.setTop (mkF m 19 #[.val (.int kv)] [(.int (2 : Int32)), (.int kv)])) (fun _ k => XS.iconst X0.here hx rfl (hb hby own_d1_18) k) ?_
      by_cases hc19 : kv = (2 : Int32)
      ·
        refine OwnFin.adv (B := s₁.setTop (mkF m 22 #[.val (.int kv)] [])) (fun _ k => XS.icmpNo X0.here hx rfl (hb hby own_d1_19) rfl (teq hc19).2 k) ?_
        obtain ⟨T3, X3, e3, st3⟩ := getS2 X0 hx hZ hown (host := "") (Or.inl (hw _ (List.mem_of_getElem? (i := 27) rfl))) Via.refl e0 S_q2 (g := (mkF m 22 #[.val (.int kv)] [])) rfl (hb hby own_d1_22)
        refine OwnFin.adv (B := T3.setTop (mkF m 25 #[.val (.int kv)] [(.ref q2)])) (fun _ k => st3 _ k) ?_
        obtain ⟨fs, hr, hrun, hended, hW, hsame⟩ := X3.leave (v := some (.ref q2)) (fun h => by rw [Bd.returns] at h; cases h)
        refine OwnFin.leaf hP' ⟨_, _, own_retR X3 hx Bd.returns rfl rfl rfl (hb hby own_d1_25) hr, hrun, hended, _, _, rfl, ?_, ⟨_, rfl⟩, hW, hsame.mono (by decide) (by decide)⟩
        exact ⟨by rw [← hk]; simp [own_pick, *], N0, e3⟩
      ·
        refine OwnFin.adv (B := s₁.setTop (mkF m 26 #[.val (.int kv)] [])) (fun _ k => XS.icmpYes X0.here hx rfl (pc0 := 19) (pc' := 26) rfl (hb hby own_d1_19) rfl (feq hc19).2 (by decide) (by decide) k) ?_
        refine OwnFin.adv (B := s₁.setTop (mkF m 27 #[.val (.int kv)] [(.int kv)])) (fun _ k => XS.iloadN X0.here hx rfl (hb hby own_d1_26) rfl k) ?_
        refine OwnFin.adv (B := s₁.setTop (mkF m 28 #[.val (.int kv)] [(.int (3 : Int32)), (.int kv)])) (fun _ k => XS.iconst X0.here hx rfl (hb hby own_d1_27) k) ?_
        by_cases hc28 : kv = (3 : Int32)
        ·
          refine OwnFin.adv (B := s₁.setTop (mkF m 31 #[.val (.int kv)] [])) (fun _ k => XS.icmpNo X0.here hx rfl (hb hby own_d1_28) rfl (teq hc28).2 k) ?_
          obtain ⟨T4, X4, e4, st4⟩ := getS2 X0 hx hZ hown (host := "") (Or.inl (hw _ (List.mem_of_getElem? (i := 14) rfl))) Via.refl e0 S_q3 (g := (mkF m 31 #[.val (.int kv)] [])) rfl (hb hby own_d1_31)
          refine OwnFin.adv (B := T4.setTop (mkF m 34 #[.val (.int kv)] [(.ref q3)])) (fun _ k => st4 _ k) ?_
          obtain ⟨fs, hr, hrun, hended, hW, hsame⟩ := X4.leave (v := some (.ref q3)) (fun h => by rw [Bd.returns] at h; cases h)
          refine OwnFin.leaf hP' ⟨_, _, own_retR X4 hx Bd.returns rfl rfl rfl (hb hby own_d1_34) hr, hrun, hended, _, _, rfl, ?_, ⟨_, rfl⟩, hW, hsame.mono (by decide) (by decide)⟩
          exact ⟨by rw [← hk]; simp [own_pick, *], N0, e4⟩
        ·
          refine OwnFin.adv (B := s₁.setTop (mkF m 35 #[.val (.int kv)] [])) (fun _ k => XS.icmpYes X0.here hx rfl (pc0 := 28) (pc' := 35) rfl (hb hby own_d1_28) rfl (feq hc28).2 (by decide) (by decide) k) ?_
          refine OwnFin.adv (B := s₁.setTop (mkF m 36 #[.val (.int kv)] [(.int kv)])) (fun _ k => XS.iloadN X0.here hx rfl (hb hby own_d1_35) rfl k) ?_
          refine OwnFin.adv (B := s₁.setTop (mkF m 37 #[.val (.int kv)] [(.int (4 : Int32)), (.int kv)])) (fun _ k => XS.iconst X0.here hx rfl (hb hby own_d1_36) k) ?_
          by_cases hc37 : kv = (4 : Int32)
          ·
            refine OwnFin.adv (B := s₁.setTop (mkF m 40 #[.val (.int kv)] [])) (fun _ k => XS.icmpNo X0.here hx rfl (hb hby own_d1_37) rfl (teq hc37).2 k) ?_
            obtain ⟨T5, X5, e5, st5⟩ := getS2 X0 hx hZ hown (host := "") (Or.inl (hw _ (List.mem_of_getElem? (i := 31) rfl))) Via.refl e0 S_q4 (g := (mkF m 40 #[.val (.int kv)] [])) rfl (hb hby own_d1_40)
            refine OwnFin.adv (B := T5.setTop (mkF m 43 #[.val (.int kv)] [(.ref q4)])) (fun _ k => st5 _ k) ?_
            obtain ⟨fs, hr, hrun, hended, hW, hsame⟩ := X5.leave (v := some (.ref q4)) (fun h => by rw [Bd.returns] at h; cases h)
            refine OwnFin.leaf hP' ⟨_, _, own_retR X5 hx Bd.returns rfl rfl rfl (hb hby own_d1_43) hr, hrun, hended, _, _, rfl, ?_, ⟨_, rfl⟩, hW, hsame.mono (by decide) (by decide)⟩
            exact ⟨by rw [← hk]; simp [own_pick, *], N0, e5⟩
          ·
            refine OwnFin.adv (B := s₁.setTop (mkF m 44 #[.val (.int kv)] [])) (fun _ k => XS.icmpYes X0.here hx rfl (pc0 := 37) (pc' := 44) rfl (hb hby own_d1_37) rfl (feq hc37).2 (by decide) (by decide) k) ?_
            refine OwnFin.adv (B := s₁.setTop (mkF m 45 #[.val (.int kv)] [(.int kv)])) (fun _ k => XS.iloadN X0.here hx rfl (hb hby own_d1_44) rfl k) ?_
            refine OwnFin.adv (B := s₁.setTop (mkF m 46 #[.val (.int kv)] [(.int (5 : Int32)), (.int kv)])) (fun _ k => XS.iconst X0.here hx rfl (hb hby own_d1_45) k) ?_
            by_cases hc46 : kv = (5 : Int32)
            ·
              refine OwnFin.adv (B := s₁.setTop (mkF m 49 #[.val (.int kv)] [])) (fun _ k => XS.icmpNo X0.here hx rfl (hb hby own_d1_46) rfl (teq hc46).2 k) ?_
              obtain ⟨T6, X6, e6, st6⟩ := getS2 X0 hx hZ hown (host := "") (Or.inl (hw _ (List.mem_of_getElem? (i := 33) rfl))) Via.refl e0 S_q5 (g := (mkF m 49 #[.val (.int kv)] [])) rfl (hb hby own_d1_49)
              refine OwnFin.adv (B := T6.setTop (mkF m 52 #[.val (.int kv)] [(.ref q5)])) (fun _ k => st6 _ k) ?_
              obtain ⟨fs, hr, hrun, hended, hW, hsame⟩ := X6.leave (v := some (.ref q5)) (fun h => by rw [Bd.returns] at h; cases h)
              refine OwnFin.leaf hP' ⟨_, _, own_retR X6 hx Bd.returns rfl rfl rfl (hb hby own_d1_52) hr, hrun, hended, _, _, rfl, ?_, ⟨_, rfl⟩, hW, hsame.mono (by decide) (by decide)⟩
              exact ⟨by rw [← hk]; simp [own_pick, *], N0, e6⟩
            ·
              refine OwnFin.adv (B := s₁.setTop (mkF m 53 #[.val (.int kv)] [])) (fun _ k => XS.icmpYes X0.here hx rfl (pc0 := 46) (pc' := 53) rfl (hb hby own_d1_46) rfl (feq hc46).2 (by decide) (by decide) k) ?_
              refine OwnFin.adv (B := s₁.setTop (mkF m 54 #[.val (.int kv)] [(.int kv)])) (fun _ k => XS.iloadN X0.here hx rfl (hb hby own_d1_53) rfl k) ?_
              refine OwnFin.adv (B := s₁.setTop (mkF m 56 #[.val (.int kv)] [(.int (6 : Int32)), (.int kv)])) (fun _ k => XS.bipush X0.here hx rfl (hb hby own_d1_54) k) ?_
              by_cases hc56 : kv = (6 : Int32)
              ·
                refine OwnFin.adv (B := s₁.setTop (mkF m 59 #[.val (.int kv)] [])) (fun _ k => XS.icmpNo X0.here hx rfl (hb hby own_d1_56) rfl (teq hc56).2 k) ?_
                obtain ⟨T7, X7, e7, st7⟩ := getS2 X0 hx hZ hown (host := "") (Or.inl (hw _ (List.mem_of_getElem? (i := 16) rfl))) Via.refl e0 S_q6 (g := (mkF m 59 #[.val (.int kv)] [])) rfl (hb hby own_d1_59)
                refine OwnFin.adv (B := T7.setTop (mkF m 62 #[.val (.int kv)] [(.ref q6)])) (fun _ k => st7 _ k) ?_
                obtain ⟨fs, hr, hrun, hended, hW, hsame⟩ := X7.leave (v := some (.ref q6)) (fun h => by rw [Bd.returns] at h; cases h)
                refine OwnFin.leaf hP' ⟨_, _, own_retR X7 hx Bd.returns rfl rfl rfl (hb hby own_d1_62) hr, hrun, hended, _, _, rfl, ?_, ⟨_, rfl⟩, hW, hsame.mono (by decide) (by decide)⟩
                exact ⟨by rw [← hk]; simp [own_pick, *], N0, e7⟩
              ·
                refine OwnFin.adv (B := s₁.setTop (mkF m 63 #[.val (.int kv)] [])) (fun _ k => XS.icmpYes X0.here hx rfl (pc0 := 56) (pc' := 63) rfl (hb hby own_d1_56) rfl (feq hc56).2 (by decide) (by decide) k) ?_
                obtain ⟨T8, X8, e8, st8⟩ := getS2 X0 hx hZ hown (host := "") (Or.inl (hw _ (List.mem_of_getElem? (i := 25) rfl))) Via.refl e0 S_q7 (g := (mkF m 63 #[.val (.int kv)] [])) rfl (hb hby own_d1_63)
                refine OwnFin.adv (B := T8.setTop (mkF m 66 #[.val (.int kv)] [(.ref q7)])) (fun _ k => st8 _ k) ?_
                obtain ⟨fs, hr, hrun, hended, hW, hsame⟩ := X8.leave (v := some (.ref q7)) (fun h => by rw [Bd.returns] at h; cases h)
                refine OwnFin.leaf hP' ⟨_, _, own_retR X8 hx Bd.returns rfl rfl rfl (hb hby own_d1_66) hr, hrun, hended, _, _, rfl, ?_, ⟨_, rfl⟩, hW, hsame.mono (by decide) (by decide)⟩
                exact ⟨by rw [← hk]; simp [own_pick, *], N0, e8⟩
theorem own_d2_0 : decode prog_19_method_7_code 0 = .ok (.aload_n 0, 1) := by decide +kernel
theorem own_d2_1 : decode prog_19_method_7_code 1 = .ok (.getfield 58, 3) := by decide +kernel
theorem own_d2_4 : decode prog_19_method_7_code 4 = .ok (.ifnull 7, 3) := by decide +kernel
theorem own_d2_11 : decode prog_19_method_7_code 11 = .ok (.iconst 0, 1) := by decide +kernel
theorem own_d2_12 : decode prog_19_method_7_code 12 = .ok (.ireturn, 1) := by decide +kernel
theorem own_ef_rm2n (m : MethodId) (x0 : Addr) : entryFrame m #[(.ref x0)] 1 = mkF m 0 #[.val (.ref x0)] [] := by first | (simp [entryFrame, mkF, argsToLocals, Value.category]; done) | rfl
theorem own_pn_com_example_klotho_klotho_InstanceStatus : plainName "com/example/klotho/klotho/InstanceStatus" = true := by first | (simp [plainName, overriddenIn]; done) | decide +kernel
def own_Q_rm2n (Z : State) (ob : Addr) (h0 : Heap) (n0 : Nat) (v : Option Value) (h : Heap) (L : List Loc) : Prop := v = some (.int (0 : Int32)) ∧ Fr n0 L ∧ h = h0
set_option maxRecDepth 65536 in
set_option maxHeartbeats 40000000 in
theorem own_rm2n (l : Launch) (Z : State) (a0 : Array Value) (hw : ∀ d ∈ tables_1, d.before a0 Z = true) (ws : List Jvm.Cond) (ob : Addr) (h0 : Heap) (n0 : Nat) (Z0 : n0 ≤ h0.size) (F : Fld Z h0 ob "com/example/klotho/klotho/InstanceStatus" "resumesIn" "Lcom/example/klotho/klotho/InstanceStatus;" .null) :
    MetFree l (⟨"com/example/klotho/klotho/InstanceStatus", "isWaiting", "()Z"⟩ : MethodName) (head1 (Jvm.Cond.code (⟨"com/example/klotho/klotho/InstanceStatus", "isWaiting", "()Z"⟩ : MethodName) prog_19_method_7_code 1 (some .boolean) :: ws) ({ frames := 0, cells := 0, slots := 0, locals := 0 } : Room)) (fun A0 U0 => A0 = #[(.ref ob)] ∧ Z.Warmed39 U0.vm ∧ U0.heap = h0) (fun _ _ _ _ _ => True) (fun _ U0 o0 U1 => ∃ v0 L0, o0 = .returned v0 ∧ own_Q_rm2n Z ob h0 n0 v0 U1.heap L0 ∧ FrameEnd U0 o0 U1 L0 ({ frames := 0, cells := 0, slots := 0, locals := 0 } : Room).cells ({ frames := 0, cells := 0, slots := 0, locals := 0 } : Room).slots) := by
  refine MetFree.of_bodySF (plainFor_of_name own_pn_com_example_klotho_klotho_InstanceStatus) hisR ?_
  intro p e s m args below meth c s₁ Bd hml0 hP hK
  obtain ⟨rfl, hZ, hh⟩ := hP
  have hx := Bd.exec
  have hby := Bd.bytes
  have hml : c.maxLocals = 1 := hml0
  have hown : s.vm.findClass "com/example/klotho/klotho/InstanceStatus" = some m.cls := findClass_of_methodNamed Bd.named
  have hnm := (name_of_methodNamed Bd.named Bd.method).1
  have X0 : Stand p l e ({ frames := 0, cells := 0, slots := 0, locals := 0 } : Room) s m #[(.ref ob)] below meth c s₁ [] 0 0 := Stand.of_body Bd
  have e0 : s₁.heap = h0 := by rw [← hh, Bd.state]; rfl
  have N0 := Fr.nil n0
  refine OwnFin.entry (own_ef_rm2n m ob) (fun P' hP' => ?_)
  refine OwnFin.adv (B := s₁.setTop (mkF m 1 #[.val (.ref ob)] [(.ref ob)])) (fun _ k => XS.aloadN X0.here hx rfl (hb hby own_d2_0) rfl rfl k) ?_
  obtain ⟨T1, X1, e1, st1⟩ := getF X0 hx hZ hown (host := "") (Or.inl (hw _ (List.mem_of_getElem? (i := 12) rfl))) Via.refl e0 F (g := (mkF m 1 #[.val (.ref ob)] [(.ref ob)])) rfl rfl (hb hby own_d2_1)
  refine OwnFin.adv (B := T1.setTop (mkF m 4 #[.val (.ref ob)] [.null])) (fun _ k => st1 _ k) ?_
  refine OwnFin.adv (B := T1.setTop (mkF m 11 #[.val (.ref ob)] [])) (fun _ k => XS.ifnullYes X1.here hx rfl (pc0 := 4) (pc' := 11) rfl (hb hby own_d2_4) rfl (by decide) (by decide) k) ?_
  refine OwnFin.adv (B := T1.setTop (mkF m 12 #[.val (.ref ob)] [(.int (0 : Int32))])) (fun _ k => XS.iconst X1.here hx rfl (hb hby own_d2_11) k) ?_
  obtain ⟨fs, hr, hrun, hended, hW, hsame⟩ := X1.leave (v := some (.int (0 : Int32))) (fun h => by rw [Bd.returns] at h; cases h)
  refine OwnFin.leaf hP' ⟨_, _, retN X1 hx (t := .boolean) Bd.returns (by simp) (hb hby own_d2_12) hr, hrun, hended, _, _, rfl, ?_, ⟨_, rfl⟩, hW, hsame.mono (by decide) (by decide)⟩
  exact ⟨rfl, N0, e1⟩
theorem own_d2_7 : decode prog_19_method_7_code 7 = .ok (.iconst 1, 1) := by decide +kernel
theorem own_d2_8 : decode prog_19_method_7_code 8 = .ok (.goto 4, 3) := by decide +kernel
theorem own_ef_rm2r (m : MethodId) (x0 : Addr) : entryFrame m #[(.ref x0)] 1 = mkF m 0 #[.val (.ref x0)] [] := by first | (simp [entryFrame, mkF, argsToLocals, Value.category]; done) | rfl
def own_Q_rm2r (Z : State) (ob rs : Addr) (h0 : Heap) (n0 : Nat) (v : Option Value) (h : Heap) (L : List Loc) : Prop := v = some (.int (1 : Int32)) ∧ Fr n0 L ∧ h = h0
set_option maxRecDepth 65536 in
set_option maxHeartbeats 40000000 in
theorem own_rm2r (l : Launch) (Z : State) (a0 : Array Value) (hw : ∀ d ∈ tables_1, d.before a0 Z = true) (ws : List Jvm.Cond) (ob rs : Addr) (h0 : Heap) (n0 : Nat) (Z0 : n0 ≤ h0.size) (F : Fld Z h0 ob "com/example/klotho/klotho/InstanceStatus" "resumesIn" "Lcom/example/klotho/klotho/InstanceStatus;" (.ref rs)) :
    MetFree l (⟨"com/example/klotho/klotho/InstanceStatus", "isWaiting", "()Z"⟩ : MethodName) (head1 (Jvm.Cond.code (⟨"com/example/klotho/klotho/InstanceStatus", "isWaiting", "()Z"⟩ : MethodName) prog_19_method_7_code 1 (some .boolean) :: ws) ({ frames := 0, cells := 0, slots := 0, locals := 0 } : Room)) (fun A0 U0 => A0 = #[(.ref ob)] ∧ Z.Warmed39 U0.vm ∧ U0.heap = h0) (fun _ _ _ _ _ => True) (fun _ U0 o0 U1 => ∃ v0 L0, o0 = .returned v0 ∧ own_Q_rm2r Z ob rs h0 n0 v0 U1.heap L0 ∧ FrameEnd U0 o0 U1 L0 ({ frames := 0, cells := 0, slots := 0, locals := 0 } : Room).cells ({ frames := 0, cells := 0, slots := 0, locals := 0 } : Room).slots) := by
  refine MetFree.of_bodySF (plainFor_of_name own_pn_com_example_klotho_klotho_InstanceStatus) hisR ?_
  intro p e s m args below meth c s₁ Bd hml0 hP hK
  obtain ⟨rfl, hZ, hh⟩ := hP
  have hx := Bd.exec
  have hby := Bd.bytes
  have hml : c.maxLocals = 1 := hml0
  have hown : s.vm.findClass "com/example/klotho/klotho/InstanceStatus" = some m.cls := findClass_of_methodNamed Bd.named
  have hnm := (name_of_methodNamed Bd.named Bd.method).1
  have X0 : Stand p l e ({ frames := 0, cells := 0, slots := 0, locals := 0 } : Room) s m #[(.ref ob)] below meth c s₁ [] 0 0 := Stand.of_body Bd
  have e0 : s₁.heap = h0 := by rw [← hh, Bd.state]; rfl
  have N0 := Fr.nil n0
  refine OwnFin.entry (own_ef_rm2r m ob) (fun P' hP' => ?_)
  refine OwnFin.adv (B := s₁.setTop (mkF m 1 #[.val (.ref ob)] [(.ref ob)])) (fun _ k => XS.aloadN X0.here hx rfl (hb hby own_d2_0) rfl rfl k) ?_
  obtain ⟨T1, X1, e1, st1⟩ := getF X0 hx hZ hown (host := "") (Or.inl (hw _ (List.mem_of_getElem? (i := 12) rfl))) Via.refl e0 F (g := (mkF m 1 #[.val (.ref ob)] [(.ref ob)])) rfl rfl (hb hby own_d2_1)
  refine OwnFin.adv (B := T1.setTop (mkF m 4 #[.val (.ref ob)] [(.ref rs)])) (fun _ k => st1 _ k) ?_
  refine OwnFin.adv (B := T1.setTop (mkF m 7 #[.val (.ref ob)] [])) (fun _ k => XS.ifnullNo X1.here hx rfl (hb hby own_d2_4) rfl k) ?_
  refine OwnFin.adv (B := T1.setTop (mkF m 8 #[.val (.ref ob)] [(.int (1 : Int32))])) (fun _ k => XS.iconst X1.here hx rfl (hb hby own_d2_7) k) ?_
  refine OwnFin.adv (B := T1.setTop (mkF m 12 #[.val (.ref ob)] [(.int (1 : Int32))])) (fun _ k => XS.goto X1.here hx rfl (pc0 := 8) (pc' := 12) rfl (hb hby own_d2_8) (by decide) (by decide) k) ?_
  obtain ⟨fs, hr, hrun, hended, hW, hsame⟩ := X1.leave (v := some (.int (1 : Int32))) (fun h => by rw [Bd.returns] at h; cases h)
  refine OwnFin.leaf hP' ⟨_, _, retN X1 hx (t := .boolean) Bd.returns (by simp) (hb hby own_d2_12) hr, hrun, hended, _, _, rfl, ?_, ⟨_, rfl⟩, hW, hsame.mono (by decide) (by decide)⟩
  exact ⟨rfl, N0, e1⟩
theorem own_d3_0 : decode prog_19_method_9_code 0 = .ok (.aload_n 0, 1) := by decide +kernel
theorem own_d3_1 : decode prog_19_method_9_code 1 = .ok (.getfield 61, 3) := by decide +kernel
theorem own_d3_4 : decode prog_19_method_9_code 4 = .ok (.ireturn, 1) := by decide +kernel
theorem own_ef_rm3 (m : MethodId) (x0 : Addr) : entryFrame m #[(.ref x0)] 1 = mkF m 0 #[.val (.ref x0)] [] := by first | (simp [entryFrame, mkF, argsToLocals, Value.category]; done) | rfl
def own_Q_rm3 (Z : State) (ob : Addr) (h0 : Heap) (n0 : Nat) (v : Option Value) (h : Heap) (L : List Loc) : Prop := v = some (.int (0 : Int32)) ∧ Fr n0 L ∧ h = h0
set_option maxRecDepth 65536 in
set_option maxHeartbeats 40000000 in
theorem own_rm3 (l : Launch) (Z : State) (a0 : Array Value) (hw : ∀ d ∈ tables_1, d.before a0 Z = true) (ws : List Jvm.Cond) (ob : Addr) (h0 : Heap) (n0 : Nat) (Z0 : n0 ≤ h0.size) (F : Fld Z h0 ob "com/example/klotho/klotho/InstanceStatus" "runsUnderLock" "Z" (.int (0 : Int32))) :
    MetFree l (⟨"com/example/klotho/klotho/InstanceStatus", "runsUnderLock", "()Z"⟩ : MethodName) (head1 (Jvm.Cond.code (⟨"com/example/klotho/klotho/InstanceStatus", "runsUnderLock", "()Z"⟩ : MethodName) prog_19_method_9_code 1 (some .boolean) :: ws) ({ frames := 0, cells := 0, slots := 0, locals := 0 } : Room)) (fun A0 U0 => A0 = #[(.ref ob)] ∧ Z.Warmed39 U0.vm ∧ U0.heap = h0) (fun _ _ _ _ _ => True) (fun _ U0 o0 U1 => ∃ v0 L0, o0 = .returned v0 ∧ own_Q_rm3 Z ob h0 n0 v0 U1.heap L0 ∧ FrameEnd U0 o0 U1 L0 ({ frames := 0, cells := 0, slots := 0, locals := 0 } : Room).cells ({ frames := 0, cells := 0, slots := 0, locals := 0 } : Room).slots) := by
  refine MetFree.of_bodySF (plainFor_of_name own_pn_com_example_klotho_klotho_InstanceStatus) hisR ?_
  intro p e s m args below meth c s₁ Bd hml0 hP hK
  obtain ⟨rfl, hZ, hh⟩ := hP
  have hx := Bd.exec
  have hby := Bd.bytes
  have hml : c.maxLocals = 1 := hml0
  have hown : s.vm.findClass "com/example/klotho/klotho/InstanceStatus" = some m.cls := findClass_of_methodNamed Bd.named
  have hnm := (name_of_methodNamed Bd.named Bd.method).1
  have X0 : Stand p l e ({ frames := 0, cells := 0, slots := 0, locals := 0 } : Room) s m #[(.ref ob)] below meth c s₁ [] 0 0 := Stand.of_body Bd
  have e0 : s₁.heap = h0 := by rw [← hh, Bd.state]; rfl
  have N0 := Fr.nil n0
  refine OwnFin.entry (own_ef_rm3 m ob) (fun P' hP' => ?_)
  refine OwnFin.adv (B := s₁.setTop (mkF m 1 #[.val (.ref ob)] [(.ref ob)])) (fun _ k => XS.aloadN X0.here hx rfl (hb hby own_d3_0) rfl rfl k) ?_
  obtain ⟨T1, X1, e1, st1⟩ := getF X0 hx hZ hown (host := "") (Or.inl (hw _ (List.mem_of_getElem? (i := 23) rfl))) Via.refl e0 F (g := (mkF m 1 #[.val (.ref ob)] [(.ref ob)])) rfl rfl (hb hby own_d3_1)
  refine OwnFin.adv (B := T1.setTop (mkF m 4 #[.val (.ref ob)] [(.int (0 : Int32))])) (fun _ k => st1 _ k) ?_
  obtain ⟨fs, hr, hrun, hended, hW, hsame⟩ := X1.leave (v := some (.int (0 : Int32))) (fun h => by rw [Bd.returns] at h; cases h)
  refine OwnFin.leaf hP' ⟨_, _, retN X1 hx (t := .boolean) Bd.returns (by simp) (hb hby own_d3_4) hr, hrun, hended, _, _, rfl, ?_, ⟨_, rfl⟩, hW, hsame.mono (by decide) (by decide)⟩
  exact ⟨rfl, N0, e1⟩
theorem own_pd_x28Ix29Lcomx2fexamplex2fklothox2fklothox2fInstanceStatusx3b : parseMethodDescriptor "(I)Lcom/example/klotho/klotho/InstanceStatus;" = some ⟨[.int], some (.object "com/example/klotho/klotho/InstanceStatus")⟩ := by decide +kernel
theorem own_pd_x28x29Z : parseMethodDescriptor "()Z" = some ⟨[], some .boolean⟩ := by decide +kernel
theorem own_ef_rm0 (m : MethodId) (x0 : Int32) : entryFrame m #[(.int x0)] maxLocals = mkF m 0 #[.val (.int x0), .unset, .unset, .unset, .unset] [] := by first | (simp [entryFrame, mkF, argsToLocals, Value.category, maxLocals]; done) | rfl
def own_Q_rm0 (Z : State) (xx : Int32) (q0 q1 q2 q3 q4 q5 q6 q7 : Addr) (h0 : Heap) (n0 : Nat) (v : Option Value) (h : Heap) (L : List Loc) : Prop := v = some (.int (1 : Int32)) ∧ Fr n0 L
set_option maxRecDepth 65536 in
set_option maxHeartbeats 40000000 in
theorem own_rm0 (l : Launch) (Z : State) (a0 : Array Value) (hw : ∀ d ∈ tables_1, d.before a0 Z = true) (ws : List Jvm.Cond) (xx : Int32) (q0 q1 q2 q3 q4 q5 q6 q7 : Addr) (h0 : Heap) (n0 : Nat) (Z0 : n0 ≤ h0.size) (S_q0 : Sta Z h0 "com/example/klotho/klotho/InstanceStatus" "RUNNING" "Lcom/example/klotho/klotho/InstanceStatus;" (.ref q0)) (S_q1 : Sta Z h0 "com/example/klotho/klotho/InstanceStatus" "COMPLETED" "Lcom/example/klotho/klotho/InstanceStatus;" (.ref q1)) (S_q2 : Sta Z h0 "com/example/klotho/klotho/InstanceStatus" "FAILED" "Lcom/example/klotho/klotho/InstanceStatus;" (.ref q2)) (S_q3 : Sta Z h0 "com/example/klotho/klotho/InstanceStatus" "COMPENSATING" "Lcom/example/klotho/klotho/InstanceStatus;" (.ref q3)) (S_q4 : Sta Z h0 "com/example/klotho/klotho/InstanceStatus" "CANCELLED" "Lcom/example/klotho/klotho/InstanceStatus;" (.ref q4)) (S_q5 : Sta Z h0 "com/example/klotho/klotho/InstanceStatus" "WAITING_FOR_EVENT" "Lcom/example/klotho/klotho/InstanceStatus;" (.ref q5)) (S_q6 : Sta Z h0 "com/example/klotho/klotho/InstanceStatus" "WAITING_FOR_TIMER" "Lcom/example/klotho/klotho/InstanceStatus;" (.ref q6)) (S_q7 : Sta Z h0 "com/example/klotho/klotho/InstanceStatus" "WAITING_TO_COMPENSATE" "Lcom/example/klotho/klotho/InstanceStatus;" (.ref q7)) (E_q0 : Exa Z h0 q0 "com/example/klotho/klotho/InstanceStatus") (E_q1 : Exa Z h0 q1 "com/example/klotho/klotho/InstanceStatus") (E_q2 : Exa Z h0 q2 "com/example/klotho/klotho/InstanceStatus") (E_q3 : Exa Z h0 q3 "com/example/klotho/klotho/InstanceStatus") (E_q4 : Exa Z h0 q4 "com/example/klotho/klotho/InstanceStatus") (E_q5 : Exa Z h0 q5 "com/example/klotho/klotho/InstanceStatus") (E_q6 : Exa Z h0 q6 "com/example/klotho/klotho/InstanceStatus") (E_q7 : Exa Z h0 q7 "com/example/klotho/klotho/InstanceStatus") (F_q0 : Fld Z h0 q0 "com/example/klotho/klotho/InstanceStatus" "resumesIn" "Lcom/example/klotho/klotho/InstanceStatus;" .null) (F_q1 : Fld Z h0 q1 "com/example/klotho/klotho/InstanceStatus" "resumesIn" "Lcom/example/klotho/klotho/InstanceStatus;" .null) (F_q2 : Fld Z h0 q2 "com/example/klotho/klotho/InstanceStatus" "resumesIn" "Lcom/example/klotho/klotho/InstanceStatus;" .null) (F_q3 : Fld Z h0 q3 "com/example/klotho/klotho/InstanceStatus" "resumesIn" "Lcom/example/klotho/klotho/InstanceStatus;" .null) (F_q4 : Fld Z h0 q4 "com/example/klotho/klotho/InstanceStatus" "resumesIn" "Lcom/example/klotho/klotho/InstanceStatus;" .null) (F_q5 : Fld Z h0 q5 "com/example/klotho/klotho/InstanceStatus" "resumesIn" "Lcom/example/klotho/klotho/InstanceStatus;" (.ref q0)) (F_q6 : Fld Z h0 q6 "com/example/klotho/klotho/InstanceStatus" "resumesIn" "Lcom/example/klotho/klotho/InstanceStatus;" (.ref q0)) (F_q7 : Fld Z h0 q7 "com/example/klotho/klotho/InstanceStatus" "resumesIn" "Lcom/example/klotho/klotho/InstanceStatus;" (.ref q3)) (U_q5 : Fld Z h0 q5 "com/example/klotho/klotho/InstanceStatus" "runsUnderLock" "Z" (.int (0 : Int32))) (U_q6 : Fld Z h0 q6 "com/example/klotho/klotho/InstanceStatus" "runsUnderLock" "Z" (.int (0 : Int32))) (U_q7 : Fld Z h0 q7 "com/example/klotho/klotho/InstanceStatus" "runsUnderLock" "Z" (.int (0 : Int32))) :
    MetFree l x (head1 (Jvm.Cond.code x code maxLocals ret :: ws) room_1) (fun A0 U0 => A0 = #[(.int xx)] ∧ Z.Warmed39 U0.vm ∧ U0.heap = h0) (fun _ _ _ _ _ => True) (fun _ U0 o0 U1 => ∃ v0 L0, o0 = .returned v0 ∧ own_Q_rm0 Z xx q0 q1 q2 q3 q4 q5 q6 q7 h0 n0 v0 U1.heap L0 ∧ FrameEnd U0 o0 U1 L0 room_1.cells room_1.slots) := by
  refine MetFree.of_bodySF (plainFor_of_name own_pn_com_example_klotho_klotho_InstanceStatusIsWaitingPinLaw) hisR ?_
  intro p e s m args below meth c s₁ Bd hml0 hP hK
  obtain ⟨rfl, hZ, hh⟩ := hP
  have hx := Bd.exec
  have hby := Bd.bytes
  have hml : c.maxLocals = 5 := hml0
  have hown : s.vm.findClass "com/example/klotho/klotho/InstanceStatusIsWaitingPinLaw" = some m.cls := findClass_of_methodNamed Bd.named
  have hnm := (name_of_methodNamed Bd.named Bd.method).1
  have X0 : Stand p l e room_1 s m #[(.int xx)] below meth c s₁ [] 0 0 := Stand.of_body Bd
  have e0 : s₁.heap = h0 := by rw [← hh, Bd.state]; rfl
  have N0 := Fr.nil n0
  refine OwnFin.entry (own_ef_rm0 m xx) (fun P' hP' => ?_)
  refine OwnFin.adv (B := s₁.setTop (mkF m 1 #[.val (.int xx), .unset, .unset, .unset, .unset] [(.int xx)])) (fun _ k => XS.iloadN X0.here hx rfl (hb hby at_0) rfl k) ?_
  refine OwnFin.adv (B := s₁.setTop (mkF m 3 #[.val (.int xx), .unset, .unset, .unset, .unset] [(.int (7 : Int32)), (.int xx)])) (fun _ k => XS.bipush X0.here hx rfl (hb hby at_1) k) ?_
  refine OwnFin.adv (B := s₁.setTop (mkF m 4 #[.val (.int xx), .unset, .unset, .unset, .unset] [(.int (xx &&& (7 : Int32)))])) (fun _ k => XS.iand X0.here hx rfl (hb hby at_3) rfl k) ?_
  refine OwnFin.adv (B := s₁.setTop (mkF m 5 #[.val (.int xx), .val (.int (xx &&& (7 : Int32))), .unset, .unset, .unset] [])) (fun _ k => XS.istoreN X0.here hx rfl (hb hby at_4) rfl (l' := #[.val (.int xx), .val (.int (xx &&& (7 : Int32))), .unset, .unset, .unset]) rfl k) ?_
  refine OwnFin.adv (B := s₁.setTop (mkF m 6 #[.val (.int xx), .val (.int (xx &&& (7 : Int32))), .unset, .unset, .unset] [(.int (xx &&& (7 : Int32)))])) (fun _ k => XS.iloadN X0.here hx rfl (hb hby at_5) rfl k) ?_
  rcases own_m7 xx with hk | hk | hk | hk | hk | hk | hk | hk
  ·
    obtain ⟨_, _, ⟨T1, L1, k1, n1⟩, -, X1, ⟨Lc1, hQ1, l1, y1, z1⟩, st1⟩ := Jvm.LawKit.callS X0 hx (y := (⟨"com/example/klotho/klotho/InstanceStatusIsWaitingPinLaw", "pick", "(I)Lcom/example/klotho/klotho/InstanceStatus;"⟩ : MethodName)) hown (mvT hZ (hw _ (List.mem_of_getElem? (i := 0) rfl))) (mvT hZ (hw _ (List.mem_of_getElem? (i := 1) rfl))) (mvT hZ (hw _ (List.mem_of_getElem? (i := 2) rfl))) (mvT hZ (hw _ (List.mem_of_getElem? (i := 3) rfl))) (by decide) (backOf (W := 0) (own_rm1 l Z a0 hw [] (xx &&& (7 : Int32)) q0 q1 q2 q3 q4 q5 q6 q7 q0 (by simp [own_pick, hk]) h0 n0 Z0 S_q0 S_q1 S_q2 S_q3 S_q4 S_q5 S_q6 S_q7) hZ (hw _ (List.mem_of_getElem? (i := 3) rfl)) (hw _ (List.mem_of_getElem? (i := 2) rfl)) (by decide) (by decide)) (g := (mkF m 6 #[.val (.int xx), .val (.int (xx &&& (7 : Int32))), .unset, .unset, .unset] [(.int (xx &&& (7 : Int32)))])) rfl (by rw [hml]; rfl) (argsL := [(.int (xx &&& (7 : Int32)))]) (rest := []) (lenOf own_pd_x28Ix29Lcomx2fexamplex2fklothox2fklothox2fInstanceStatusx3b rfl) rfl (by show 2 * 0 + _ ≤ _; exact Nat.le_of_eq rfl) (hb hby at_6) (fun _ _ => ⟨rfl, e0, (by decide : 0 + 0 ≤ _), (by decide : 0 + 0 ≤ _)⟩)
    dsimp only [Pt.U, Pt.locs, Pt.cells, Pt.slots] at X1 l1 y1 z1 st1 hQ1
    subst l1 y1 z1
    obtain ⟨rfl, N1q, eh1⟩ := hQ1
    have N1 := Fr.app N0 N1q
    refine OwnFin.adv (B := T1.setTop (mkF m 9 #[.val (.int xx), .val (.int (xx &&& (7 : Int32))), .unset, .unset, .unset] [(.ref q0)])) (fun _ k => st1 _ k) ?_
    refine OwnFin.adv (B := T1.setTop (mkF m 10 #[.val (.int xx), .val (.int (xx &&& (7 : Int32))), .val (.ref q0), .unset, .unset] [])) (fun _ k => XS.astoreN X1.here hx rfl (hb hby at_9) rfl rfl (l' := #[.val (.int xx), .val (.int (xx &&& (7 : Int32))), .val (.ref q0), .unset, .unset]) rfl k) ?_
    refine OwnFin.adv (B := T1.setTop (mkF m 11 #[.val (.int xx), .val (.int (xx &&& (7 : Int32))), .val (.ref q0), .unset, .unset] [(.int (xx &&& (7 : Int32)))])) (fun _ k => XS.iloadN X1.here hx rfl (hb hby at_10) rfl k) ?_
    refine OwnFin.adv (B := T1.setTop (mkF m 12 #[.val (.int xx), .val (.int (xx &&& (7 : Int32))), .val (.ref q0), .unset, .unset] [(.int (5 : Int32)), (.int (xx &&& (7 : Int32)))])) (fun _ k => XS.iconst X1.here hx rfl (hb hby at_11) k) ?_
    have hc12_11 : ¬ ((xx &&& (7 : Int32)) = (5 : Int32)) := by first | decide | (rw [hk]; decide) | rw [hk]
    refine OwnFin.adv (B := T1.setTop (mkF m 15 #[.val (.int xx), .val (.int (xx &&& (7 : Int32))), .val (.ref q0), .unset, .unset] [])) (fun _ k => XS.icmpNo X1.here hx rfl (hb hby at_12) rfl (feq hc12_11).1 k) ?_
    refine OwnFin.adv (B := T1.setTop (mkF m 16 #[.val (.int xx), .val (.int (xx &&& (7 : Int32))), .val (.ref q0), .unset, .unset] [(.int (xx &&& (7 : Int32)))])) (fun _ k => XS.iloadN X1.here hx rfl (hb hby at_15) rfl k) ?_
    refine OwnFin.adv (B := T1.setTop (mkF m 18 #[.val (.int xx), .val (.int (xx &&& (7 : Int32))), .val (.ref q0), .unset, .unset] [(.int (6 : Int32)), (.int (xx &&& (7 : Int32)))])) (fun _ k => XS.bipush X1.here hx rfl (hb hby at_16) k) ?_
    have hc18_14 : ¬ ((xx &&& (7 : Int32)) = (6 : Int32)) := by first | decide | (rw [hk]; decide) | rw [hk]
    refine OwnFin.adv (B := T1.setTop (mkF m 21 #[.val (.int xx), .val (.int (xx &&& (7 : Int32))), .val (.ref q0), .unset, .unset] [])) (fun _ k => XS.icmpNo X1.here hx rfl (hb hby at_18) rfl (feq hc18_14).1 k) ?_
    refine OwnFin.adv (B := T1.setTop (mkF m 22 #[.val (.int xx), .val (.int (xx &&& (7 : Int32))), .val (.ref q0), .unset, .unset] [(.int (xx &&& (7 : Int32)))])) (fun _ k => XS.iloadN X1.here hx rfl (hb hby at_21) rfl k) ?_
    refine OwnFin.adv (B := T1.setTop (mkF m 24 #[.val (.int xx), .val (.int (xx &&& (7 : Int32))), .val (.ref q0), .unset, .unset] [(.int (7 : Int32)), (.int (xx &&& (7 : Int32)))])) (fun _ k => XS.bipush X1.here hx rfl (hb hby at_22) k) ?_
    have hc24_17 : ¬ ((xx &&& (7 : Int32)) = (7 : Int32)) := by first | decide | (rw [hk]; decide) | rw [hk]
    refine OwnFin.adv (B := T1.setTop (mkF m 31 #[.val (.int xx), .val (.int (xx &&& (7 : Int32))), .val (.ref q0), .unset, .unset] [])) (fun _ k => XS.icmpYes X1.here hx rfl (pc0 := 24) (pc' := 31) rfl (hb hby at_24) rfl (feq hc24_17).2 (by decide) (by decide) k) ?_
    refine OwnFin.adv (B := T1.setTop (mkF m 32 #[.val (.int xx), .val (.int (xx &&& (7 : Int32))), .val (.ref q0), .unset, .unset] [(.int (0 : Int32))])) (fun _ k => XS.iconst X1.here hx rfl (hb hby at_31) k) ?_
    refine OwnFin.adv (B := T1.setTop (mkF m 33 #[.val (.int xx), .val (.int (xx &&& (7 : Int32))), .val (.ref q0), .val (.int (0 : Int32)), .unset] [])) (fun _ k => XS.istoreN X1.here hx rfl (hb hby at_32) rfl (l' := #[.val (.int xx), .val (.int (xx &&& (7 : Int32))), .val (.ref q0), .val (.int (0 : Int32)), .unset]) rfl k) ?_
    refine OwnFin.adv (B := T1.setTop (mkF m 34 #[.val (.int xx), .val (.int (xx &&& (7 : Int32))), .val (.ref q0), .val (.int (0 : Int32)), .unset] [(.ref q0)])) (fun _ k => XS.aloadN X1.here hx rfl (hb hby at_33) rfl rfl k) ?_
    obtain ⟨cq2, kq2, q2a, q2b, q2c⟩ := isOf hZ eh1 E_q0
    obtain ⟨_, _, ⟨T2, L2, k2, n2⟩, -, X2, ⟨Lc2, hQ2, l2, y2, z2⟩, st2⟩ := X1.virtualBack hx (y := (⟨"com/example/klotho/klotho/InstanceStatus", "isWaiting", "()Z"⟩ : MethodName)) (z := (⟨"com/example/klotho/klotho/InstanceStatus", "isWaiting", "()Z"⟩ : MethodName)) hown (mvT hZ (hw _ (List.mem_of_getElem? (i := 7) rfl))) (mvT hZ (hw _ (List.mem_of_getElem? (i := 8) rfl))) (notFace_of_selects (args := #[]) (mvT hZ (hw _ (List.mem_of_getElem? (i := 10) rfl)))) (mvT hZ (hw _ (List.mem_of_getElem? (i := 10) rfl))) (mvT hZ (hw _ (List.mem_of_getElem? (i := 9) rfl))) (by decide) (backOf (W := 0) (own_rm2n l Z a0 hw [] q0 h0 n0 Z0 F_q0) hZ (hw _ (List.mem_of_getElem? (i := 11) rfl)) (hw _ (List.mem_of_getElem? (i := 5) rfl)) (by decide) (by decide)) q2a q2c (g := (mkF m 34 #[.val (.int xx), .val (.int (xx &&& (7 : Int32))), .val (.ref q0), .val (.int (0 : Int32)), .unset] [(.ref q0)])) rfl (by rw [hml]; rfl) (Steps.refl _) (argsL := []) (rest := []) (lenOf own_pd_x28x29Z rfl) rfl (by show 2 * 0 + _ ≤ _; exact Nat.le_of_eq rfl) (hb hby at_34) (fun _ _ => ⟨rfl, eh1, (by decide : 0 + 0 ≤ _), (by decide : 0 + 0 ≤ _)⟩)
    dsimp only [Pt.U, Pt.locs, Pt.cells, Pt.slots] at X2 l2 y2 z2 st2 hQ2
    subst l2 y2 z2
    obtain ⟨rfl, N2q, eh2⟩ := hQ2
    have N2 := Fr.app N1 N2q
    refine OwnFin.adv (B := T2.setTop (mkF m 37 #[.val (.int xx), .val (.int (xx &&& (7 : Int32))), .val (.ref q0), .val (.int (0 : Int32)), .unset] [(.int (0 : Int32))])) (fun _ k => st2.trans k) ?_
    refine OwnFin.adv (B := T2.setTop (mkF m 39 #[.val (.int xx), .val (.int (xx &&& (7 : Int32))), .val (.ref q0), .val (.int (0 : Int32)), .val (.int (0 : Int32))] [])) (fun _ k => XS.istore X2.here hx rfl (hb hby at_37) rfl (l' := #[.val (.int xx), .val (.int (xx &&& (7 : Int32))), .val (.ref q0), .val (.int (0 : Int32)), .val (.int (0 : Int32))]) rfl k) ?_
    refine OwnFin.adv (B := T2.setTop (mkF m 41 #[.val (.int xx), .val (.int (xx &&& (7 : Int32))), .val (.ref q0), .val (.int (0 : Int32)), .val (.int (0 : Int32))] [(.int (0 : Int32))])) (fun _ k => XS.iload X2.here hx rfl (hb hby at_39) rfl k) ?_
    refine OwnFin.adv (B := T2.setTop (mkF m 42 #[.val (.int xx), .val (.int (xx &&& (7 : Int32))), .val (.ref q0), .val (.int (0 : Int32)), .val (.int (0 : Int32))] [(.int (0 : Int32)), (.int (0 : Int32))])) (fun _ k => XS.iloadN X2.here hx rfl (hb hby at_41) rfl k) ?_
    have hc42_25 : (0 : Int32) = (0 : Int32) := by first | decide | (rw [hk]; decide) | rw [hk]
    refine OwnFin.adv (B := T2.setTop (mkF m 47 #[.val (.int xx), .val (.int (xx &&& (7 : Int32))), .val (.ref q0), .val (.int (0 : Int32)), .val (.int (0 : Int32))] [])) (fun _ k => XS.icmpYes X2.here hx rfl (pc0 := 42) (pc' := 47) rfl (hb hby at_42) rfl (teq hc42_25).1 (by decide) (by decide) k) ?_
    refine OwnFin.adv (B := T2.setTop (mkF m 49 #[.val (.int xx), .val (.int (xx &&& (7 : Int32))), .val (.ref q0), .val (.int (0 : Int32)), .val (.int (0 : Int32))] [(.int (0 : Int32))])) (fun _ k => XS.iload X2.here hx rfl (hb hby at_47) rfl k) ?_
    have hc49_27 : (0 : Int32) = (0 : Int32) := by first | decide | (rw [hk]; decide) | rw [hk]
    refine OwnFin.adv (B := T2.setTop (mkF m 61 #[.val (.int xx), .val (.int (xx &&& (7 : Int32))), .val (.ref q0), .val (.int (0 : Int32)), .val (.int (0 : Int32))] [])) (fun _ k => XS.ifYes X2.here hx rfl (pc0 := 49) (pc' := 61) rfl (hb hby at_49) rfl ((if0 _ _).trans (teq hc49_27).1) (by decide) (by decide) k) ?_
    refine OwnFin.adv (B := T2.setTop (mkF m 62 #[.val (.int xx), .val (.int (xx &&& (7 : Int32))), .val (.ref q0), .val (.int (0 : Int32)), .val (.int (0 : Int32))] [(.int (1 : Int32))])) (fun _ k => XS.iconst X2.here hx rfl (hb hby at_61) k) ?_
    obtain ⟨fs, hr, hrun, hended, hW, hsame⟩ := X2.leave (v := some (.int (1 : Int32))) (fun h => by rw [Bd.returns] at h; cases h)
    refine OwnFin.leaf hP' ⟨_, _, retN X2 hx (t := .boolean) Bd.returns (by simp) (hb hby at_62) hr, hrun, hended, _, _, rfl, ?_, ⟨_, rfl⟩, hW, hsame.mono (by decide) (by decide)⟩
    exact ⟨rfl, N2⟩
  ·
    obtain ⟨_, _, ⟨T3, L3, k3, n3⟩, -, X3, ⟨Lc3, hQ3, l3, y3, z3⟩, st3⟩ := Jvm.LawKit.callS X0 hx (y := (⟨"com/example/klotho/klotho/InstanceStatusIsWaitingPinLaw", "pick", "(I)Lcom/example/klotho/klotho/InstanceStatus;"⟩ : MethodName)) hown (mvT hZ (hw _ (List.mem_of_getElem? (i := 0) rfl))) (mvT hZ (hw _ (List.mem_of_getElem? (i := 1) rfl))) (mvT hZ (hw _ (List.mem_of_getElem? (i := 2) rfl))) (mvT hZ (hw _ (List.mem_of_getElem? (i := 3) rfl))) (by decide) (backOf (W := 0) (own_rm1 l Z a0 hw [] (xx &&& (7 : Int32)) q0 q1 q2 q3 q4 q5 q6 q7 q1 (by simp [own_pick, hk]) h0 n0 Z0 S_q0 S_q1 S_q2 S_q3 S_q4 S_q5 S_q6 S_q7) hZ (hw _ (List.mem_of_getElem? (i := 3) rfl)) (hw _ (List.mem_of_getElem? (i := 2) rfl)) (by decide) (by decide)) (g := (mkF m 6 #[.val (.int xx), .val (.int (xx &&& (7 : Int32))), .unset, .unset, .unset] [(.int (xx &&& (7 : Int32)))])) rfl (by rw [hml]; rfl) (argsL := [(.int (xx &&& (7 : Int32)))]) (rest := []) (lenOf own_pd_x28Ix29Lcomx2fexamplex2fklothox2fklothox2fInstanceStatusx3b rfl) rfl (by show 2 * 0 + _ ≤ _; exact Nat.le_of_eq rfl) (hb hby at_6) (fun _ _ => ⟨rfl, e0, (by decide : 0 + 0 ≤ _), (by decide : 0 + 0 ≤ _)⟩)
    dsimp only [Pt.U, Pt.locs, Pt.cells, Pt.slots] at X3 l3 y3 z3 st3 hQ3
    subst l3 y3 z3
    obtain ⟨rfl, N3q, eh3⟩ := hQ3
    have N3 := Fr.app N0 N3q
    refine OwnFin.adv (B := T3.setTop (mkF m 9 #[.val (.int xx), .val (.int (xx &&& (7 : Int32))), .unset, .unset, .unset] [(.ref q1)])) (fun _ k => st3 _ k) ?_
    refine OwnFin.adv (B := T3.setTop (mkF m 10 #[.val (.int xx), .val (.int (xx &&& (7 : Int32))), .val (.ref q1), .unset, .unset] [])) (fun _ k => XS.astoreN X3.here hx rfl (hb hby at_9) rfl rfl (l' := #[.val (.int xx), .val (.int (xx &&& (7 : Int32))), .val (.ref q1), .unset, .unset]) rfl k) ?_
    refine OwnFin.adv (B := T3.setTop (mkF m 11 #[.val (.int xx), .val (.int (xx &&& (7 : Int32))), .val (.ref q1), .unset, .unset] [(.int (xx &&& (7 : Int32)))])) (fun _ k => XS.iloadN X3.here hx rfl (hb hby at_10) rfl k) ?_
    refine OwnFin.adv (B := T3.setTop (mkF m 12 #[.val (.int xx), .val (.int (xx &&& (7 : Int32))), .val (.ref q1), .unset, .unset] [(.int (5 : Int32)), (.int (xx &&& (7 : Int32)))])) (fun _ k => XS.iconst X3.here hx rfl (hb hby at_11) k) ?_
    have hc12_11 : ¬ ((xx &&& (7 : Int32)) = (5 : Int32)) := by first | decide | (rw [hk]; decide) | rw [hk]
    refine OwnFin.adv (B := T3.setTop (mkF m 15 #[.val (.int xx), .val (.int (xx &&& (7 : Int32))), .val (.ref q1), .unset, .unset] [])) (fun _ k => XS.icmpNo X3.here hx rfl (hb hby at_12) rfl (feq hc12_11).1 k) ?_
    refine OwnFin.adv (B := T3.setTop (mkF m 16 #[.val (.int xx), .val (.int (xx &&& (7 : Int32))), .val (.ref q1), .unset, .unset] [(.int (xx &&& (7 : Int32)))])) (fun _ k => XS.iloadN X3.here hx rfl (hb hby at_15) rfl k) ?_
    refine OwnFin.adv (B := T3.setTop (mkF m 18 #[.val (.int xx), .val (.int (xx &&& (7 : Int32))), .val (.ref q1), .unset, .unset] [(.int (6 : Int32)), (.int (xx &&& (7 : Int32)))])) (fun _ k => XS.bipush X3.here hx rfl (hb hby at_16) k) ?_
    have hc18_14 : ¬ ((xx &&& (7 : Int32)) = (6 : Int32)) := by first | decide | (rw [hk]; decide) | rw [hk]
    refine OwnFin.adv (B := T3.setTop (mkF m 21 #[.val (.int xx), .val (.int (xx &&& (7 : Int32))), .val (.ref q1), .unset, .unset] [])) (fun _ k => XS.icmpNo X3.here hx rfl (hb hby at_18) rfl (feq hc18_14).1 k) ?_
    refine OwnFin.adv (B := T3.setTop (mkF m 22 #[.val (.int xx), .val (.int (xx &&& (7 : Int32))), .val (.ref q1), .unset, .unset] [(.int (xx &&& (7 : Int32)))])) (fun _ k => XS.iloadN X3.here hx rfl (hb hby at_21) rfl k) ?_
    refine OwnFin.adv (B := T3.setTop (mkF m 24 #[.val (.int xx), .val (.int (xx &&& (7 : Int32))), .val (.ref q1), .unset, .unset] [(.int (7 : Int32)), (.int (xx &&& (7 : Int32)))])) (fun _ k => XS.bipush X3.here hx rfl (hb hby at_22) k) ?_
    have hc24_17 : ¬ ((xx &&& (7 : Int32)) = (7 : Int32)) := by first | decide | (rw [hk]; decide) | rw [hk]
    refine OwnFin.adv (B := T3.setTop (mkF m 31 #[.val (.int xx), .val (.int (xx &&& (7 : Int32))), .val (.ref q1), .unset, .unset] [])) (fun _ k => XS.icmpYes X3.here hx rfl (pc0 := 24) (pc' := 31) rfl (hb hby at_24) rfl (feq hc24_17).2 (by decide) (by decide) k) ?_
    refine OwnFin.adv (B := T3.setTop (mkF m 32 #[.val (.int xx), .val (.int (xx &&& (7 : Int32))), .val (.ref q1), .unset, .unset] [(.int (0 : Int32))])) (fun _ k => XS.iconst X3.here hx rfl (hb hby at_31) k) ?_
    refine OwnFin.adv (B := T3.setTop (mkF m 33 #[.val (.int xx), .val (.int (xx &&& (7 : Int32))), .val (.ref q1), .val (.int (0 : Int32)), .unset] [])) (fun _ k => XS.istoreN X3.here hx rfl (hb hby at_32) rfl (l' := #[.val (.int xx), .val (.int (xx &&& (7 : Int32))), .val (.ref q1), .val (.int (0 : Int32)), .unset]) rfl k) ?_
    refine OwnFin.adv (B := T3.setTop (mkF m 34 #[.val (.int xx), .val (.int (xx &&& (7 : Int32))), .val (.ref q1), .val (.int (0 : Int32)), .unset] [(.ref q1)])) (fun _ k => XS.aloadN X3.here hx rfl (hb hby at_33) rfl rfl k) ?_
    obtain ⟨cq4, kq4, q4a, q4b, q4c⟩ := isOf hZ eh3 E_q1
    obtain ⟨_, _, ⟨T4, L4, k4, n4⟩, -, X4, ⟨Lc4, hQ4, l4, y4, z4⟩, st4⟩ := X3.virtualBack hx (y := (⟨"com/example/klotho/klotho/InstanceStatus", "isWaiting", "()Z"⟩ : MethodName)) (z := (⟨"com/example/klotho/klotho/InstanceStatus", "isWaiting", "()Z"⟩ : MethodName)) hown (mvT hZ (hw _ (List.mem_of_getElem? (i := 7) rfl))) (mvT hZ (hw _ (List.mem_of_getElem? (i := 8) rfl))) (notFace_of_selects (args := #[]) (mvT hZ (hw _ (List.mem_of_getElem? (i := 10) rfl)))) (mvT hZ (hw _ (List.mem_of_getElem? (i := 10) rfl))) (mvT hZ (hw _ (List.mem_of_getElem? (i := 9) rfl))) (by decide) (backOf (W := 0) (own_rm2n l Z a0 hw [] q1 h0 n0 Z0 F_q1) hZ (hw _ (List.mem_of_getElem? (i := 11) rfl)) (hw _ (List.mem_of_getElem? (i := 5) rfl)) (by decide) (by decide)) q4a q4c (g := (mkF m 34 #[.val (.int xx), .val (.int (xx &&& (7 : Int32))), .val (.ref q1), .val (.int (0 : Int32)), .unset] [(.ref q1)])) rfl (by rw [hml]; rfl) (Steps.refl _) (argsL := []) (rest := []) (lenOf own_pd_x28x29Z rfl) rfl (by show 2 * 0 + _ ≤ _; exact Nat.le_of_eq rfl) (hb hby at_34) (fun _ _ => ⟨rfl, eh3, (by decide : 0 + 0 ≤ _), (by decide : 0 + 0 ≤ _)⟩)
    dsimp only [Pt.U, Pt.locs, Pt.cells, Pt.slots] at X4 l4 y4 z4 st4 hQ4
    subst l4 y4 z4
    obtain ⟨rfl, N4q, eh4⟩ := hQ4
    have N4 := Fr.app N3 N4q
    refine OwnFin.adv (B := T4.setTop (mkF m 37 #[.val (.int xx), .val (.int (xx &&& (7 : Int32))), .val (.ref q1), .val (.int (0 : Int32)), .unset] [(.int (0 : Int32))])) (fun _ k => st4.trans k) ?_
    refine OwnFin.adv (B := T4.setTop (mkF m 39 #[.val (.int xx), .val (.int (xx &&& (7 : Int32))), .val (.ref q1), .val (.int (0 : Int32)), .val (.int (0 : Int32))] [])) (fun _ k => XS.istore X4.here hx rfl (hb hby at_37) rfl (l' := #[.val (.int xx), .val (.int (xx &&& (7 : Int32))), .val (.ref q1), .val (.int (0 : Int32)), .val (.int (0 : Int32))]) rfl k) ?_
    refine OwnFin.adv (B := T4.setTop (mkF m 41 #[.val (.int xx), .val (.int (xx &&& (7 : Int32))), .val (.ref q1), .val (.int (0 : Int32)), .val (.int (0 : Int32))] [(.int (0 : Int32))])) (fun _ k => XS.iload X4.here hx rfl (hb hby at_39) rfl k) ?_
    refine OwnFin.adv (B := T4.setTop (mkF m 42 #[.val (.int xx), .val (.int (xx &&& (7 : Int32))), .val (.ref q1), .val (.int (0 : Int32)), .val (.int (0 : Int32))] [(.int (0 : Int32)), (.int (0 : Int32))])) (fun _ k => XS.iloadN X4.here hx rfl (hb hby at_41) rfl k) ?_
    have hc42_25 : (0 : Int32) = (0 : Int32) := by first | decide | (rw [hk]; decide) | rw [hk]
    refine OwnFin.adv (B := T4.setTop (mkF m 47 #[.val (.int xx), .val (.int (xx &&& (7 : Int32))), .val (.ref q1), .val (.int (0 : Int32)), .val (.int (0 : Int32))] [])) (fun _ k => XS.icmpYes X4.here hx rfl (pc0 := 42) (pc' := 47) rfl (hb hby at_42) rfl (teq hc42_25).1 (by decide) (by decide) k) ?_
    refine OwnFin.adv (B := T4.setTop (mkF m 49 #[.val (.int xx), .val (.int (xx &&& (7 : Int32))), .val (.ref q1), .val (.int (0 : Int32)), .val (.int (0 : Int32))] [(.int (0 : Int32))])) (fun _ k => XS.iload X4.here hx rfl (hb hby at_47) rfl k) ?_
    have hc49_27 : (0 : Int32) = (0 : Int32) := by first | decide | (rw [hk]; decide) | rw [hk]
    refine OwnFin.adv (B := T4.setTop (mkF m 61 #[.val (.int xx), .val (.int (xx &&& (7 : Int32))), .val (.ref q1), .val (.int (0 : Int32)), .val (.int (0 : Int32))] [])) (fun _ k => XS.ifYes X4.here hx rfl (pc0 := 49) (pc' := 61) rfl (hb hby at_49) rfl ((if0 _ _).trans (teq hc49_27).1) (by decide) (by decide) k) ?_
    refine OwnFin.adv (B := T4.setTop (mkF m 62 #[.val (.int xx), .val (.int (xx &&& (7 : Int32))), .val (.ref q1), .val (.int (0 : Int32)), .val (.int (0 : Int32))] [(.int (1 : Int32))])) (fun _ k => XS.iconst X4.here hx rfl (hb hby at_61) k) ?_
    obtain ⟨fs, hr, hrun, hended, hW, hsame⟩ := X4.leave (v := some (.int (1 : Int32))) (fun h => by rw [Bd.returns] at h; cases h)
    refine OwnFin.leaf hP' ⟨_, _, retN X4 hx (t := .boolean) Bd.returns (by simp) (hb hby at_62) hr, hrun, hended, _, _, rfl, ?_, ⟨_, rfl⟩, hW, hsame.mono (by decide) (by decide)⟩
    exact ⟨rfl, N4⟩
  ·
    obtain ⟨_, _, ⟨T5, L5, k5, n5⟩, -, X5, ⟨Lc5, hQ5, l5, y5, z5⟩, st5⟩ := Jvm.LawKit.callS X0 hx (y := (⟨"com/example/klotho/klotho/InstanceStatusIsWaitingPinLaw", "pick", "(I)Lcom/example/klotho/klotho/InstanceStatus;"⟩ : MethodName)) hown (mvT hZ (hw _ (List.mem_of_getElem? (i := 0) rfl))) (mvT hZ (hw _ (List.mem_of_getElem? (i := 1) rfl))) (mvT hZ (hw _ (List.mem_of_getElem? (i := 2) rfl))) (mvT hZ (hw _ (List.mem_of_getElem? (i := 3) rfl))) (by decide) (backOf (W := 0) (own_rm1 l Z a0 hw [] (xx &&& (7 : Int32)) q0 q1 q2 q3 q4 q5 q6 q7 q2 (by simp [own_pick, hk]) h0 n0 Z0 S_q0 S_q1 S_q2 S_q3 S_q4 S_q5 S_q6 S_q7) hZ (hw _ (List.mem_of_getElem? (i := 3) rfl)) (hw _ (List.mem_of_getElem? (i := 2) rfl)) (by decide) (by decide)) (g := (mkF m 6 #[.val (.int xx), .val (.int (xx &&& (7 : Int32))), .unset, .unset, .unset] [(.int (xx &&& (7 : Int32)))])) rfl (by rw [hml]; rfl) (argsL := [(.int (xx &&& (7 : Int32)))]) (rest := []) (lenOf own_pd_x28Ix29Lcomx2fexamplex2fklothox2fklothox2fInstanceStatusx3b rfl) rfl (by show 2 * 0 + _ ≤ _; exact Nat.le_of_eq rfl) (hb hby at_6) (fun _ _ => ⟨rfl, e0, (by decide : 0 + 0 ≤ _), (by decide : 0 + 0 ≤ _)⟩)
    dsimp only [Pt.U, Pt.locs, Pt.cells, Pt.slots] at X5 l5 y5 z5 st5 hQ5
    subst l5 y5 z5
    obtain ⟨rfl, N5q, eh5⟩ := hQ5
    have N5 := Fr.app N0 N5q
    refine OwnFin.adv (B := T5.setTop (mkF m 9 #[.val (.int xx), .val (.int (xx &&& (7 : Int32))), .unset, .unset, .unset] [(.ref q2)])) (fun _ k => st5 _ k) ?_
    refine OwnFin.adv (B := T5.setTop (mkF m 10 #[.val (.int xx), .val (.int (xx &&& (7 : Int32))), .val (.ref q2), .unset, .unset] [])) (fun _ k => XS.astoreN X5.here hx rfl (hb hby at_9) rfl rfl (l' := #[.val (.int xx), .val (.int (xx &&& (7 : Int32))), .val (.ref q2), .unset, .unset]) rfl k) ?_
    refine OwnFin.adv (B := T5.setTop (mkF m 11 #[.val (.int xx), .val (.int (xx &&& (7 : Int32))), .val (.ref q2), .unset, .unset] [(.int (xx &&& (7 : Int32)))])) (fun _ k => XS.iloadN X5.here hx rfl (hb hby at_10) rfl k) ?_
    refine OwnFin.adv (B := T5.setTop (mkF m 12 #[.val (.int xx), .val (.int (xx &&& (7 : Int32))), .val (.ref q2), .unset, .unset] [(.int (5 : Int32)), (.int (xx &&& (7 : Int32)))])) (fun _ k => XS.iconst X5.here hx rfl (hb hby at_11) k) ?_
    have hc12_11 : ¬ ((xx &&& (7 : Int32)) = (5 : Int32)) := by first | decide | (rw [hk]; decide) | rw [hk]
    refine OwnFin.adv (B := T5.setTop (mkF m 15 #[.val (.int xx), .val (.int (xx &&& (7 : Int32))), .val (.ref q2), .unset, .unset] [])) (fun _ k => XS.icmpNo X5.here hx rfl (hb hby at_12) rfl (feq hc12_11).1 k) ?_
    refine OwnFin.adv (B := T5.setTop (mkF m 16 #[.val (.int xx), .val (.int (xx &&& (7 : Int32))), .val (.ref q2), .unset, .unset] [(.int (xx &&& (7 : Int32)))])) (fun _ k => XS.iloadN X5.here hx rfl (hb hby at_15) rfl k) ?_
    refine OwnFin.adv (B := T5.setTop (mkF m 18 #[.val (.int xx), .val (.int (xx &&& (7 : Int32))), .val (.ref q2), .unset, .unset] [(.int (6 : Int32)), (.int (xx &&& (7 : Int32)))])) (fun _ k => XS.bipush X5.here hx rfl (hb hby at_16) k) ?_
    have hc18_14 : ¬ ((xx &&& (7 : Int32)) = (6 : Int32)) := by first | decide | (rw [hk]; decide) | rw [hk]
    refine OwnFin.adv (B := T5.setTop (mkF m 21 #[.val (.int xx), .val (.int (xx &&& (7 : Int32))), .val (.ref q2), .unset, .unset] [])) (fun _ k => XS.icmpNo X5.here hx rfl (hb hby at_18) rfl (feq hc18_14).1 k) ?_
    refine OwnFin.adv (B := T5.setTop (mkF m 22 #[.val (.int xx), .val (.int (xx &&& (7 : Int32))), .val (.ref q2), .unset, .unset] [(.int (xx &&& (7 : Int32)))])) (fun _ k => XS.iloadN X5.here hx rfl (hb hby at_21) rfl k) ?_
    refine OwnFin.adv (B := T5.setTop (mkF m 24 #[.val (.int xx), .val (.int (xx &&& (7 : Int32))), .val (.ref q2), .unset, .unset] [(.int (7 : Int32)), (.int (xx &&& (7 : Int32)))])) (fun _ k => XS.bipush X5.here hx rfl (hb hby at_22) k) ?_
    have hc24_17 : ¬ ((xx &&& (7 : Int32)) = (7 : Int32)) := by first | decide | (rw [hk]; decide) | rw [hk]
    refine OwnFin.adv (B := T5.setTop (mkF m 31 #[.val (.int xx), .val (.int (xx &&& (7 : Int32))), .val (.ref q2), .unset, .unset] [])) (fun _ k => XS.icmpYes X5.here hx rfl (pc0 := 24) (pc' := 31) rfl (hb hby at_24) rfl (feq hc24_17).2 (by decide) (by decide) k) ?_
    refine OwnFin.adv (B := T5.setTop (mkF m 32 #[.val (.int xx), .val (.int (xx &&& (7 : Int32))), .val (.ref q2), .unset, .unset] [(.int (0 : Int32))])) (fun _ k => XS.iconst X5.here hx rfl (hb hby at_31) k) ?_
    refine OwnFin.adv (B := T5.setTop (mkF m 33 #[.val (.int xx), .val (.int (xx &&& (7 : Int32))), .val (.ref q2), .val (.int (0 : Int32)), .unset] [])) (fun _ k => XS.istoreN X5.here hx rfl (hb hby at_32) rfl (l' := #[.val (.int xx), .val (.int (xx &&& (7 : Int32))), .val (.ref q2), .val (.int (0 : Int32)), .unset]) rfl k) ?_
    refine OwnFin.adv (B := T5.setTop (mkF m 34 #[.val (.int xx), .val (.int (xx &&& (7 : Int32))), .val (.ref q2), .val (.int (0 : Int32)), .unset] [(.ref q2)])) (fun _ k => XS.aloadN X5.here hx rfl (hb hby at_33) rfl rfl k) ?_
    obtain ⟨cq6, kq6, q6a, q6b, q6c⟩ := isOf hZ eh5 E_q2
    obtain ⟨_, _, ⟨T6, L6, k6, n6⟩, -, X6, ⟨Lc6, hQ6, l6, y6, z6⟩, st6⟩ := X5.virtualBack hx (y := (⟨"com/example/klotho/klotho/InstanceStatus", "isWaiting", "()Z"⟩ : MethodName)) (z := (⟨"com/example/klotho/klotho/InstanceStatus", "isWaiting", "()Z"⟩ : MethodName)) hown (mvT hZ (hw _ (List.mem_of_getElem? (i := 7) rfl))) (mvT hZ (hw _ (List.mem_of_getElem? (i := 8) rfl))) (notFace_of_selects (args := #[]) (mvT hZ (hw _ (List.mem_of_getElem? (i := 10) rfl)))) (mvT hZ (hw _ (List.mem_of_getElem? (i := 10) rfl))) (mvT hZ (hw _ (List.mem_of_getElem? (i := 9) rfl))) (by decide) (backOf (W := 0) (own_rm2n l Z a0 hw [] q2 h0 n0 Z0 F_q2) hZ (hw _ (List.mem_of_getElem? (i := 11) rfl)) (hw _ (List.mem_of_getElem? (i := 5) rfl)) (by decide) (by decide)) q6a q6c (g := (mkF m 34 #[.val (.int xx), .val (.int (xx &&& (7 : Int32))), .val (.ref q2), .val (.int (0 : Int32)), .unset] [(.ref q2)])) rfl (by rw [hml]; rfl) (Steps.refl _) (argsL := []) (rest := []) (lenOf own_pd_x28x29Z rfl) rfl (by show 2 * 0 + _ ≤ _; exact Nat.le_of_eq rfl) (hb hby at_34) (fun _ _ => ⟨rfl, eh5, (by decide : 0 + 0 ≤ _), (by decide : 0 + 0 ≤ _)⟩)
    dsimp only [Pt.U, Pt.locs, Pt.cells, Pt.slots] at X6 l6 y6 z6 st6 hQ6
    subst l6 y6 z6
    obtain ⟨rfl, N6q, eh6⟩ := hQ6
    have N6 := Fr.app N5 N6q
    refine OwnFin.adv (B := T6.setTop (mkF m 37 #[.val (.int xx), .val (.int (xx &&& (7 : Int32))), .val (.ref q2), .val (.int (0 : Int32)), .unset] [(.int (0 : Int32))])) (fun _ k => st6.trans k) ?_
    refine OwnFin.adv (B := T6.setTop (mkF m 39 #[.val (.int xx), .val (.int (xx &&& (7 : Int32))), .val (.ref q2), .val (.int (0 : Int32)), .val (.int (0 : Int32))] [])) (fun _ k => XS.istore X6.here hx rfl (hb hby at_37) rfl (l' := #[.val (.int xx), .val (.int (xx &&& (7 : Int32))), .val (.ref q2), .val (.int (0 : Int32)), .val (.int (0 : Int32))]) rfl k) ?_
    refine OwnFin.adv (B := T6.setTop (mkF m 41 #[.val (.int xx), .val (.int (xx &&& (7 : Int32))), .val (.ref q2), .val (.int (0 : Int32)), .val (.int (0 : Int32))] [(.int (0 : Int32))])) (fun _ k => XS.iload X6.here hx rfl (hb hby at_39) rfl k) ?_
    refine OwnFin.adv (B := T6.setTop (mkF m 42 #[.val (.int xx), .val (.int (xx &&& (7 : Int32))), .val (.ref q2), .val (.int (0 : Int32)), .val (.int (0 : Int32))] [(.int (0 : Int32)), (.int (0 : Int32))])) (fun _ k => XS.iloadN X6.here hx rfl (hb hby at_41) rfl k) ?_
    have hc42_25 : (0 : Int32) = (0 : Int32) := by first | decide | (rw [hk]; decide) | rw [hk]
    refine OwnFin.adv (B := T6.setTop (mkF m 47 #[.val (.int xx), .val (.int (xx &&& (7 : Int32))), .val (.ref q2), .val (.int (0 : Int32)), .val (.int (0 : Int32))] [])) (fun _ k => XS.icmpYes X6.here hx rfl (pc0 := 42) (pc' := 47) rfl (hb hby at_42) rfl (teq hc42_25).1 (by decide) (by decide) k) ?_
    refine OwnFin.adv (B := T6.setTop (mkF m 49 #[.val (.int xx), .val (.int (xx &&& (7 : Int32))), .val (.ref q2), .val (.int (0 : Int32)), .val (.int (0 : Int32))] [(.int (0 : Int32))])) (fun _ k => XS.iload X6.here hx rfl (hb hby at_47) rfl k) ?_
    have hc49_27 : (0 : Int32) = (0 : Int32) := by first | decide | (rw [hk]; decide) | rw [hk]
    refine OwnFin.adv (B := T6.setTop (mkF m 61 #[.val (.int xx), .val (.int (xx &&& (7 : Int32))), .val (.ref q2), .val (.int (0 : Int32)), .val (.int (0 : Int32))] [])) (fun _ k => XS.ifYes X6.here hx rfl (pc0 := 49) (pc' := 61) rfl (hb hby at_49) rfl ((if0 _ _).trans (teq hc49_27).1) (by decide) (by decide) k) ?_
    refine OwnFin.adv (B := T6.setTop (mkF m 62 #[.val (.int xx), .val (.int (xx &&& (7 : Int32))), .val (.ref q2), .val (.int (0 : Int32)), .val (.int (0 : Int32))] [(.int (1 : Int32))])) (fun _ k => XS.iconst X6.here hx rfl (hb hby at_61) k) ?_
    obtain ⟨fs, hr, hrun, hended, hW, hsame⟩ := X6.leave (v := some (.int (1 : Int32))) (fun h => by rw [Bd.returns] at h; cases h)
    refine OwnFin.leaf hP' ⟨_, _, retN X6 hx (t := .boolean) Bd.returns (by simp) (hb hby at_62) hr, hrun, hended, _, _, rfl, ?_, ⟨_, rfl⟩, hW, hsame.mono (by decide) (by decide)⟩
    exact ⟨rfl, N6⟩
  ·
    obtain ⟨_, _, ⟨T7, L7, k7, n7⟩, -, X7, ⟨Lc7, hQ7, l7, y7, z7⟩, st7⟩ := Jvm.LawKit.callS X0 hx (y := (⟨"com/example/klotho/klotho/InstanceStatusIsWaitingPinLaw", "pick", "(I)Lcom/example/klotho/klotho/InstanceStatus;"⟩ : MethodName)) hown (mvT hZ (hw _ (List.mem_of_getElem? (i := 0) rfl))) (mvT hZ (hw _ (List.mem_of_getElem? (i := 1) rfl))) (mvT hZ (hw _ (List.mem_of_getElem? (i := 2) rfl))) (mvT hZ (hw _ (List.mem_of_getElem? (i := 3) rfl))) (by decide) (backOf (W := 0) (own_rm1 l Z a0 hw [] (xx &&& (7 : Int32)) q0 q1 q2 q3 q4 q5 q6 q7 q3 (by simp [own_pick, hk]) h0 n0 Z0 S_q0 S_q1 S_q2 S_q3 S_q4 S_q5 S_q6 S_q7) hZ (hw _ (List.mem_of_getElem? (i := 3) rfl)) (hw _ (List.mem_of_getElem? (i := 2) rfl)) (by decide) (by decide)) (g := (mkF m 6 #[.val (.int xx), .val (.int (xx &&& (7 : Int32))), .unset, .unset, .unset] [(.int (xx &&& (7 : Int32)))])) rfl (by rw [hml]; rfl) (argsL := [(.int (xx &&& (7 : Int32)))]) (rest := []) (lenOf own_pd_x28Ix29Lcomx2fexamplex2fklothox2fklothox2fInstanceStatusx3b rfl) rfl (by show 2 * 0 + _ ≤ _; exact Nat.le_of_eq rfl) (hb hby at_6) (fun _ _ => ⟨rfl, e0, (by decide : 0 + 0 ≤ _), (by decide : 0 + 0 ≤ _)⟩)
    dsimp only [Pt.U, Pt.locs, Pt.cells, Pt.slots] at X7 l7 y7 z7 st7 hQ7
    subst l7 y7 z7
    obtain ⟨rfl, N7q, eh7⟩ := hQ7
    have N7 := Fr.app N0 N7q
    refine OwnFin.adv (B := T7.setTop (mkF m 9 #[.val (.int xx), .val (.int (xx &&& (7 : Int32))), .unset, .unset, .unset] [(.ref q3)])) (fun _ k => st7 _ k) ?_
    refine OwnFin.adv (B := T7.setTop (mkF m 10 #[.val (.int xx), .val (.int (xx &&& (7 : Int32))), .val (.ref q3), .unset, .unset] [])) (fun _ k => XS.astoreN X7.here hx rfl (hb hby at_9) rfl rfl (l' := #[.val (.int xx), .val (.int (xx &&& (7 : Int32))), .val (.ref q3), .unset, .unset]) rfl k) ?_
    refine OwnFin.adv (B := T7.setTop (mkF m 11 #[.val (.int xx), .val (.int (xx &&& (7 : Int32))), .val (.ref q3), .unset, .unset] [(.int (xx &&& (7 : Int32)))])) (fun _ k => XS.iloadN X7.here hx rfl (hb hby at_10) rfl k) ?_
    refine OwnFin.adv (B := T7.setTop (mkF m 12 #[.val (.int xx), .val (.int (xx &&& (7 : Int32))), .val (.ref q3), .unset, .unset] [(.int (5 : Int32)), (.int (xx &&& (7 : Int32)))])) (fun _ k => XS.iconst X7.here hx rfl (hb hby at_11) k) ?_
    have hc12_11 : ¬ ((xx &&& (7 : Int32)) = (5 : Int32)) := by first | decide | (rw [hk]; decide) | rw [hk]
    refine OwnFin.adv (B := T7.setTop (mkF m 15 #[.val (.int xx), .val (.int (xx &&& (7 : Int32))), .val (.ref q3), .unset, .unset] [])) (fun _ k => XS.icmpNo X7.here hx rfl (hb hby at_12) rfl (feq hc12_11).1 k) ?_
    refine OwnFin.adv (B := T7.setTop (mkF m 16 #[.val (.int xx), .val (.int (xx &&& (7 : Int32))), .val (.ref q3), .unset, .unset] [(.int (xx &&& (7 : Int32)))])) (fun _ k => XS.iloadN X7.here hx rfl (hb hby at_15) rfl k) ?_
    refine OwnFin.adv (B := T7.setTop (mkF m 18 #[.val (.int xx), .val (.int (xx &&& (7 : Int32))), .val (.ref q3), .unset, .unset] [(.int (6 : Int32)), (.int (xx &&& (7 : Int32)))])) (fun _ k => XS.bipush X7.here hx rfl (hb hby at_16) k) ?_
    have hc18_14 : ¬ ((xx &&& (7 : Int32)) = (6 : Int32)) := by first | decide | (rw [hk]; decide) | rw [hk]
    refine OwnFin.adv (B := T7.setTop (mkF m 21 #[.val (.int xx), .val (.int (xx &&& (7 : Int32))), .val (.ref q3), .unset, .unset] [])) (fun _ k => XS.icmpNo X7.here hx rfl (hb hby at_18) rfl (feq hc18_14).1 k) ?_
    refine OwnFin.adv (B := T7.setTop (mkF m 22 #[.val (.int xx), .val (.int (xx &&& (7 : Int32))), .val (.ref q3), .unset, .unset] [(.int (xx &&& (7 : Int32)))])) (fun _ k => XS.iloadN X7.here hx rfl (hb hby at_21) rfl k) ?_
    refine OwnFin.adv (B := T7.setTop (mkF m 24 #[.val (.int xx), .val (.int (xx &&& (7 : Int32))), .val (.ref q3), .unset, .unset] [(.int (7 : Int32)), (.int (xx &&& (7 : Int32)))])) (fun _ k => XS.bipush X7.here hx rfl (hb hby at_22) k) ?_
    have hc24_17 : ¬ ((xx &&& (7 : Int32)) = (7 : Int32)) := by first | decide | (rw [hk]; decide) | rw [hk]
    refine OwnFin.adv (B := T7.setTop (mkF m 31 #[.val (.int xx), .val (.int (xx &&& (7 : Int32))), .val (.ref q3), .unset, .unset] [])) (fun _ k => XS.icmpYes X7.here hx rfl (pc0 := 24) (pc' := 31) rfl (hb hby at_24) rfl (feq hc24_17).2 (by decide) (by decide) k) ?_
    refine OwnFin.adv (B := T7.setTop (mkF m 32 #[.val (.int xx), .val (.int (xx &&& (7 : Int32))), .val (.ref q3), .unset, .unset] [(.int (0 : Int32))])) (fun _ k => XS.iconst X7.here hx rfl (hb hby at_31) k) ?_
    refine OwnFin.adv (B := T7.setTop (mkF m 33 #[.val (.int xx), .val (.int (xx &&& (7 : Int32))), .val (.ref q3), .val (.int (0 : Int32)), .unset] [])) (fun _ k => XS.istoreN X7.here hx rfl (hb hby at_32) rfl (l' := #[.val (.int xx), .val (.int (xx &&& (7 : Int32))), .val (.ref q3), .val (.int (0 : Int32)), .unset]) rfl k) ?_
    refine OwnFin.adv (B := T7.setTop (mkF m 34 #[.val (.int xx), .val (.int (xx &&& (7 : Int32))), .val (.ref q3), .val (.int (0 : Int32)), .unset] [(.ref q3)])) (fun _ k => XS.aloadN X7.here hx rfl (hb hby at_33) rfl rfl k) ?_
    obtain ⟨cq8, kq8, q8a, q8b, q8c⟩ := isOf hZ eh7 E_q3
    obtain ⟨_, _, ⟨T8, L8, k8, n8⟩, -, X8, ⟨Lc8, hQ8, l8, y8, z8⟩, st8⟩ := X7.virtualBack hx (y := (⟨"com/example/klotho/klotho/InstanceStatus", "isWaiting", "()Z"⟩ : MethodName)) (z := (⟨"com/example/klotho/klotho/InstanceStatus", "isWaiting", "()Z"⟩ : MethodName)) hown (mvT hZ (hw _ (List.mem_of_getElem? (i := 7) rfl))) (mvT hZ (hw _ (List.mem_of_getElem? (i := 8) rfl))) (notFace_of_selects (args := #[]) (mvT hZ (hw _ (List.mem_of_getElem? (i := 10) rfl)))) (mvT hZ (hw _ (List.mem_of_getElem? (i := 10) rfl))) (mvT hZ (hw _ (List.mem_of_getElem? (i := 9) rfl))) (by decide) (backOf (W := 0) (own_rm2n l Z a0 hw [] q3 h0 n0 Z0 F_q3) hZ (hw _ (List.mem_of_getElem? (i := 11) rfl)) (hw _ (List.mem_of_getElem? (i := 5) rfl)) (by decide) (by decide)) q8a q8c (g := (mkF m 34 #[.val (.int xx), .val (.int (xx &&& (7 : Int32))), .val (.ref q3), .val (.int (0 : Int32)), .unset] [(.ref q3)])) rfl (by rw [hml]; rfl) (Steps.refl _) (argsL := []) (rest := []) (lenOf own_pd_x28x29Z rfl) rfl (by show 2 * 0 + _ ≤ _; exact Nat.le_of_eq rfl) (hb hby at_34) (fun _ _ => ⟨rfl, eh7, (by decide : 0 + 0 ≤ _), (by decide : 0 + 0 ≤ _)⟩)
    dsimp only [Pt.U, Pt.locs, Pt.cells, Pt.slots] at X8 l8 y8 z8 st8 hQ8
    subst l8 y8 z8
    obtain ⟨rfl, N8q, eh8⟩ := hQ8
    have N8 := Fr.app N7 N8q
    refine OwnFin.adv (B := T8.setTop (mkF m 37 #[.val (.int xx), .val (.int (xx &&& (7 : Int32))), .val (.ref q3), .val (.int (0 : Int32)), .unset] [(.int (0 : Int32))])) (fun _ k => st8.trans k) ?_
    refine OwnFin.adv (B := T8.setTop (mkF m 39 #[.val (.int xx), .val (.int (xx &&& (7 : Int32))), .val (.ref q3), .val (.int (0 : Int32)), .val (.int (0 : Int32))] [])) (fun _ k => XS.istore X8.here hx rfl (hb hby at_37) rfl (l' := #[.val (.int xx), .val (.int (xx &&& (7 : Int32))), .val (.ref q3), .val (.int (0 : Int32)), .val (.int (0 : Int32))]) rfl k) ?_
    refine OwnFin.adv (B := T8.setTop (mkF m 41 #[.val (.int xx), .val (.int (xx &&& (7 : Int32))), .val (.ref q3), .val (.int (0 : Int32)), .val (.int (0 : Int32))] [(.int (0 : Int32))])) (fun _ k => XS.iload X8.here hx rfl (hb hby at_39) rfl k) ?_
    refine OwnFin.adv (B := T8.setTop (mkF m 42 #[.val (.int xx), .val (.int (xx &&& (7 : Int32))), .val (.ref q3), .val (.int (0 : Int32)), .val (.int (0 : Int32))] [(.int (0 : Int32)), (.int (0 : Int32))])) (fun _ k => XS.iloadN X8.here hx rfl (hb hby at_41) rfl k) ?_
    have hc42_25 : (0 : Int32) = (0 : Int32) := by first | decide | (rw [hk]; decide) | rw [hk]
    refine OwnFin.adv (B := T8.setTop (mkF m 47 #[.val (.int xx), .val (.int (xx &&& (7 : Int32))), .val (.ref q3), .val (.int (0 : Int32)), .val (.int (0 : Int32))] [])) (fun _ k => XS.icmpYes X8.here hx rfl (pc0 := 42) (pc' := 47) rfl (hb hby at_42) rfl (teq hc42_25).1 (by decide) (by decide) k) ?_
    refine OwnFin.adv (B := T8.setTop (mkF m 49 #[.val (.int xx), .val (.int (xx &&& (7 : Int32))), .val (.ref q3), .val (.int (0 : Int32)), .val (.int (0 : Int32))] [(.int (0 : Int32))])) (fun _ k => XS.iload X8.here hx rfl (hb hby at_47) rfl k) ?_
    have hc49_27 : (0 : Int32) = (0 : Int32) := by first | decide | (rw [hk]; decide) | rw [hk]
    refine OwnFin.adv (B := T8.setTop (mkF m 61 #[.val (.int xx), .val (.int (xx &&& (7 : Int32))), .val (.ref q3), .val (.int (0 : Int32)), .val (.int (0 : Int32))] [])) (fun _ k => XS.ifYes X8.here hx rfl (pc0 := 49) (pc' := 61) rfl (hb hby at_49) rfl ((if0 _ _).trans (teq hc49_27).1) (by decide) (by decide) k) ?_
    refine OwnFin.adv (B := T8.setTop (mkF m 62 #[.val (.int xx), .val (.int (xx &&& (7 : Int32))), .val (.ref q3), .val (.int (0 : Int32)), .val (.int (0 : Int32))] [(.int (1 : Int32))])) (fun _ k => XS.iconst X8.here hx rfl (hb hby at_61) k) ?_
    obtain ⟨fs, hr, hrun, hended, hW, hsame⟩ := X8.leave (v := some (.int (1 : Int32))) (fun h => by rw [Bd.returns] at h; cases h)
    refine OwnFin.leaf hP' ⟨_, _, retN X8 hx (t := .boolean) Bd.returns (by simp) (hb hby at_62) hr, hrun, hended, _, _, rfl, ?_, ⟨_, rfl⟩, hW, hsame.mono (by decide) (by decide)⟩
    exact ⟨rfl, N8⟩
  ·
    obtain ⟨_, _, ⟨T9, L9, k9, n9⟩, -, X9, ⟨Lc9, hQ9, l9, y9, z9⟩, st9⟩ := Jvm.LawKit.callS X0 hx (y := (⟨"com/example/klotho/klotho/InstanceStatusIsWaitingPinLaw", "pick", "(I)Lcom/example/klotho/klotho/InstanceStatus;"⟩ : MethodName)) hown (mvT hZ (hw _ (List.mem_of_getElem? (i := 0) rfl))) (mvT hZ (hw _ (List.mem_of_getElem? (i := 1) rfl))) (mvT hZ (hw _ (List.mem_of_getElem? (i := 2) rfl))) (mvT hZ (hw _ (List.mem_of_getElem? (i := 3) rfl))) (by decide) (backOf (W := 0) (own_rm1 l Z a0 hw [] (xx &&& (7 : Int32)) q0 q1 q2 q3 q4 q5 q6 q7 q4 (by simp [own_pick, hk]) h0 n0 Z0 S_q0 S_q1 S_q2 S_q3 S_q4 S_q5 S_q6 S_q7) hZ (hw _ (List.mem_of_getElem? (i := 3) rfl)) (hw _ (List.mem_of_getElem? (i := 2) rfl)) (by decide) (by decide)) (g := (mkF m 6 #[.val (.int xx), .val (.int (xx &&& (7 : Int32))), .unset, .unset, .unset] [(.int (xx &&& (7 : Int32)))])) rfl (by rw [hml]; rfl) (argsL := [(.int (xx &&& (7 : Int32)))]) (rest := []) (lenOf own_pd_x28Ix29Lcomx2fexamplex2fklothox2fklothox2fInstanceStatusx3b rfl) rfl (by show 2 * 0 + _ ≤ _; exact Nat.le_of_eq rfl) (hb hby at_6) (fun _ _ => ⟨rfl, e0, (by decide : 0 + 0 ≤ _), (by decide : 0 + 0 ≤ _)⟩)
    dsimp only [Pt.U, Pt.locs, Pt.cells, Pt.slots] at X9 l9 y9 z9 st9 hQ9
    subst l9 y9 z9
    obtain ⟨rfl, N9q, eh9⟩ := hQ9
    have N9 := Fr.app N0 N9q
    refine OwnFin.adv (B := T9.setTop (mkF m 9 #[.val (.int xx), .val (.int (xx &&& (7 : Int32))), .unset, .unset, .unset] [(.ref q4)])) (fun _ k => st9 _ k) ?_
    refine OwnFin.adv (B := T9.setTop (mkF m 10 #[.val (.int xx), .val (.int (xx &&& (7 : Int32))), .val (.ref q4), .unset, .unset] [])) (fun _ k => XS.astoreN X9.here hx rfl (hb hby at_9) rfl rfl (l' := #[.val (.int xx), .val (.int (xx &&& (7 : Int32))), .val (.ref q4), .unset, .unset]) rfl k) ?_
    refine OwnFin.adv (B := T9.setTop (mkF m 11 #[.val (.int xx), .val (.int (xx &&& (7 : Int32))), .val (.ref q4), .unset, .unset] [(.int (xx &&& (7 : Int32)))])) (fun _ k => XS.iloadN X9.here hx rfl (hb hby at_10) rfl k) ?_
    refine OwnFin.adv (B := T9.setTop (mkF m 12 #[.val (.int xx), .val (.int (xx &&& (7 : Int32))), .val (.ref q4), .unset, .unset] [(.int (5 : Int32)), (.int (xx &&& (7 : Int32)))])) (fun _ k => XS.iconst X9.here hx rfl (hb hby at_11) k) ?_
    have hc12_11 : ¬ ((xx &&& (7 : Int32)) = (5 : Int32)) := by first | decide | (rw [hk]; decide) | rw [hk]
    refine OwnFin.adv (B := T9.setTop (mkF m 15 #[.val (.int xx), .val (.int (xx &&& (7 : Int32))), .val (.ref q4), .unset, .unset] [])) (fun _ k => XS.icmpNo X9.here hx rfl (hb hby at_12) rfl (feq hc12_11).1 k) ?_
    refine OwnFin.adv (B := T9.setTop (mkF m 16 #[.val (.int xx), .val (.int (xx &&& (7 : Int32))), .val (.ref q4), .unset, .unset] [(.int (xx &&& (7 : Int32)))])) (fun _ k => XS.iloadN X9.here hx rfl (hb hby at_15) rfl k) ?_
    refine OwnFin.adv (B := T9.setTop (mkF m 18 #[.val (.int xx), .val (.int (xx &&& (7 : Int32))), .val (.ref q4), .unset, .unset] [(.int (6 : Int32)), (.int (xx &&& (7 : Int32)))])) (fun _ k => XS.bipush X9.here hx rfl (hb hby at_16) k) ?_
    have hc18_14 : ¬ ((xx &&& (7 : Int32)) = (6 : Int32)) := by first | decide | (rw [hk]; decide) | rw [hk]
    refine OwnFin.adv (B := T9.setTop (mkF m 21 #[.val (.int xx), .val (.int (xx &&& (7 : Int32))), .val (.ref q4), .unset, .unset] [])) (fun _ k => XS.icmpNo X9.here hx rfl (hb hby at_18) rfl (feq hc18_14).1 k) ?_
    refine OwnFin.adv (B := T9.setTop (mkF m 22 #[.val (.int xx), .val (.int (xx &&& (7 : Int32))), .val (.ref q4), .unset, .unset] [(.int (xx &&& (7 : Int32)))])) (fun _ k => XS.iloadN X9.here hx rfl (hb hby at_21) rfl k) ?_
    refine OwnFin.adv (B := T9.setTop (mkF m 24 #[.val (.int xx), .val (.int (xx &&& (7 : Int32))), .val (.ref q4), .unset, .unset] [(.int (7 : Int32)), (.int (xx &&& (7 : Int32)))])) (fun _ k => XS.bipush X9.here hx rfl (hb hby at_22) k) ?_
    have hc24_17 : ¬ ((xx &&& (7 : Int32)) = (7 : Int32)) := by first | decide | (rw [hk]; decide) | rw [hk]
    refine OwnFin.adv (B := T9.setTop (mkF m 31 #[.val (.int xx), .val (.int (xx &&& (7 : Int32))), .val (.ref q4), .unset, .unset] [])) (fun _ k => XS.icmpYes X9.here hx rfl (pc0 := 24) (pc' := 31) rfl (hb hby at_24) rfl (feq hc24_17).2 (by decide) (by decide) k) ?_
    refine OwnFin.adv (B := T9.setTop (mkF m 32 #[.val (.int xx), .val (.int (xx &&& (7 : Int32))), .val (.ref q4), .unset, .unset] [(.int (0 : Int32))])) (fun _ k => XS.iconst X9.here hx rfl (hb hby at_31) k) ?_
    refine OwnFin.adv (B := T9.setTop (mkF m 33 #[.val (.int xx), .val (.int (xx &&& (7 : Int32))), .val (.ref q4), .val (.int (0 : Int32)), .unset] [])) (fun _ k => XS.istoreN X9.here hx rfl (hb hby at_32) rfl (l' := #[.val (.int xx), .val (.int (xx &&& (7 : Int32))), .val (.ref q4), .val (.int (0 : Int32)), .unset]) rfl k) ?_
    refine OwnFin.adv (B := T9.setTop (mkF m 34 #[.val (.int xx), .val (.int (xx &&& (7 : Int32))), .val (.ref q4), .val (.int (0 : Int32)), .unset] [(.ref q4)])) (fun _ k => XS.aloadN X9.here hx rfl (hb hby at_33) rfl rfl k) ?_
    obtain ⟨cq10, kq10, q10a, q10b, q10c⟩ := isOf hZ eh9 E_q4
    obtain ⟨_, _, ⟨T10, L10, k10, n10⟩, -, X10, ⟨Lc10, hQ10, l10, y10, z10⟩, st10⟩ := X9.virtualBack hx (y := (⟨"com/example/klotho/klotho/InstanceStatus", "isWaiting", "()Z"⟩ : MethodName)) (z := (⟨"com/example/klotho/klotho/InstanceStatus", "isWaiting", "()Z"⟩ : MethodName)) hown (mvT hZ (hw _ (List.mem_of_getElem? (i := 7) rfl))) (mvT hZ (hw _ (List.mem_of_getElem? (i := 8) rfl))) (notFace_of_selects (args := #[]) (mvT hZ (hw _ (List.mem_of_getElem? (i := 10) rfl)))) (mvT hZ (hw _ (List.mem_of_getElem? (i := 10) rfl))) (mvT hZ (hw _ (List.mem_of_getElem? (i := 9) rfl))) (by decide) (backOf (W := 0) (own_rm2n l Z a0 hw [] q4 h0 n0 Z0 F_q4) hZ (hw _ (List.mem_of_getElem? (i := 11) rfl)) (hw _ (List.mem_of_getElem? (i := 5) rfl)) (by decide) (by decide)) q10a q10c (g := (mkF m 34 #[.val (.int xx), .val (.int (xx &&& (7 : Int32))), .val (.ref q4), .val (.int (0 : Int32)), .unset] [(.ref q4)])) rfl (by rw [hml]; rfl) (Steps.refl _) (argsL := []) (rest := []) (lenOf own_pd_x28x29Z rfl) rfl (by show 2 * 0 + _ ≤ _; exact Nat.le_of_eq rfl) (hb hby at_34) (fun _ _ => ⟨rfl, eh9, (by decide : 0 + 0 ≤ _), (by decide : 0 + 0 ≤ _)⟩)
    dsimp only [Pt.U, Pt.locs, Pt.cells, Pt.slots] at X10 l10 y10 z10 st10 hQ10
    subst l10 y10 z10
    obtain ⟨rfl, N10q, eh10⟩ := hQ10
    have N10 := Fr.app N9 N10q
    refine OwnFin.adv (B := T10.setTop (mkF m 37 #[.val (.int xx), .val (.int (xx &&& (7 : Int32))), .val (.ref q4), .val (.int (0 : Int32)), .unset] [(.int (0 : Int32))])) (fun _ k => st10.trans k) ?_
    refine OwnFin.adv (B := T10.setTop (mkF m 39 #[.val (.int xx), .val (.int (xx &&& (7 : Int32))), .val (.ref q4), .val (.int (0 : Int32)), .val (.int (0 : Int32))] [])) (fun _ k => XS.istore X10.here hx rfl (hb hby at_37) rfl (l' := #[.val (.int xx), .val (.int (xx &&& (7 : Int32))), .val (.ref q4), .val (.int (0 : Int32)), .val (.int (0 : Int32))]) rfl k) ?_
    refine OwnFin.adv (B := T10.setTop (mkF m 41 #[.val (.int xx), .val (.int (xx &&& (7 : Int32))), .val (.ref q4), .val (.int (0 : Int32)), .val (.int (0 : Int32))] [(.int (0 : Int32))])) (fun _ k => XS.iload X10.here hx rfl (hb hby at_39) rfl k) ?_
    refine OwnFin.adv (B := T10.setTop (mkF m 42 #[.val (.int xx), .val (.int (xx &&& (7 : Int32))), .val (.ref q4), .val (.int (0 : Int32)), .val (.int (0 : Int32))] [(.int (0 : Int32)), (.int (0 : Int32))])) (fun _ k => XS.iloadN X10.here hx rfl (hb hby at_41) rfl k) ?_
    have hc42_25 : (0 : Int32) = (0 : Int32) := by first | decide | (rw [hk]; decide) | rw [hk]
    refine OwnFin.adv (B := T10.setTop (mkF m 47 #[.val (.int xx), .val (.int (xx &&& (7 : Int32))), .val (.ref q4), .val (.int (0 : Int32)), .val (.int (0 : Int32))] [])) (fun _ k => XS.icmpYes X10.here hx rfl (pc0 := 42) (pc' := 47) rfl (hb hby at_42) rfl (teq hc42_25).1 (by decide) (by decide) k) ?_
    refine OwnFin.adv (B := T10.setTop (mkF m 49 #[.val (.int xx), .val (.int (xx &&& (7 : Int32))), .val (.ref q4), .val (.int (0 : Int32)), .val (.int (0 : Int32))] [(.int (0 : Int32))])) (fun _ k => XS.iload X10.here hx rfl (hb hby at_47) rfl k) ?_
    have hc49_27 : (0 : Int32) = (0 : Int32) := by first | decide | (rw [hk]; decide) | rw [hk]
    refine OwnFin.adv (B := T10.setTop (mkF m 61 #[.val (.int xx), .val (.int (xx &&& (7 : Int32))), .val (.ref q4), .val (.int (0 : Int32)), .val (.int (0 : Int32))] [])) (fun _ k => XS.ifYes X10.here hx rfl (pc0 := 49) (pc' := 61) rfl (hb hby at_49) rfl ((if0 _ _).trans (teq hc49_27).1) (by decide) (by decide) k) ?_
    refine OwnFin.adv (B := T10.setTop (mkF m 62 #[.val (.int xx), .val (.int (xx &&& (7 : Int32))), .val (.ref q4), .val (.int (0 : Int32)), .val (.int (0 : Int32))] [(.int (1 : Int32))])) (fun _ k => XS.iconst X10.here hx rfl (hb hby at_61) k) ?_
    obtain ⟨fs, hr, hrun, hended, hW, hsame⟩ := X10.leave (v := some (.int (1 : Int32))) (fun h => by rw [Bd.returns] at h; cases h)
    refine OwnFin.leaf hP' ⟨_, _, retN X10 hx (t := .boolean) Bd.returns (by simp) (hb hby at_62) hr, hrun, hended, _, _, rfl, ?_, ⟨_, rfl⟩, hW, hsame.mono (by decide) (by decide)⟩
    exact ⟨rfl, N10⟩
  ·
    obtain ⟨_, _, ⟨T11, L11, k11, n11⟩, -, X11, ⟨Lc11, hQ11, l11, y11, z11⟩, st11⟩ := Jvm.LawKit.callS X0 hx (y := (⟨"com/example/klotho/klotho/InstanceStatusIsWaitingPinLaw", "pick", "(I)Lcom/example/klotho/klotho/InstanceStatus;"⟩ : MethodName)) hown (mvT hZ (hw _ (List.mem_of_getElem? (i := 0) rfl))) (mvT hZ (hw _ (List.mem_of_getElem? (i := 1) rfl))) (mvT hZ (hw _ (List.mem_of_getElem? (i := 2) rfl))) (mvT hZ (hw _ (List.mem_of_getElem? (i := 3) rfl))) (by decide) (backOf (W := 0) (own_rm1 l Z a0 hw [] (xx &&& (7 : Int32)) q0 q1 q2 q3 q4 q5 q6 q7 q5 (by simp [own_pick, hk]) h0 n0 Z0 S_q0 S_q1 S_q2 S_q3 S_q4 S_q5 S_q6 S_q7) hZ (hw _ (List.mem_of_getElem? (i := 3) rfl)) (hw _ (List.mem_of_getElem? (i := 2) rfl)) (by decide) (by decide)) (g := (mkF m 6 #[.val (.int xx), .val (.int (xx &&& (7 : Int32))), .unset, .unset, .unset] [(.int (xx &&& (7 : Int32)))])) rfl (by rw [hml]; rfl) (argsL := [(.int (xx &&& (7 : Int32)))]) (rest := []) (lenOf own_pd_x28Ix29Lcomx2fexamplex2fklothox2fklothox2fInstanceStatusx3b rfl) rfl (by show 2 * 0 + _ ≤ _; exact Nat.le_of_eq rfl) (hb hby at_6) (fun _ _ => ⟨rfl, e0, (by decide : 0 + 0 ≤ _), (by decide : 0 + 0 ≤ _)⟩)
    dsimp only [Pt.U, Pt.locs, Pt.cells, Pt.slots] at X11 l11 y11 z11 st11 hQ11
    subst l11 y11 z11
    obtain ⟨rfl, N11q, eh11⟩ := hQ11
    have N11 := Fr.app N0 N11q
    refine OwnFin.adv (B := T11.setTop (mkF m 9 #[.val (.int xx), .val (.int (xx &&& (7 : Int32))), .unset, .unset, .unset] [(.ref q5)])) (fun _ k => st11 _ k) ?_
    refine OwnFin.adv (B := T11.setTop (mkF m 10 #[.val (.int xx), .val (.int (xx &&& (7 : Int32))), .val (.ref q5), .unset, .unset] [])) (fun _ k => XS.astoreN X11.here hx rfl (hb hby at_9) rfl rfl (l' := #[.val (.int xx), .val (.int (xx &&& (7 : Int32))), .val (.ref q5), .unset, .unset]) rfl k) ?_
    refine OwnFin.adv (B := T11.setTop (mkF m 11 #[.val (.int xx), .val (.int (xx &&& (7 : Int32))), .val (.ref q5), .unset, .unset] [(.int (xx &&& (7 : Int32)))])) (fun _ k => XS.iloadN X11.here hx rfl (hb hby at_10) rfl k) ?_
    refine OwnFin.adv (B := T11.setTop (mkF m 12 #[.val (.int xx), .val (.int (xx &&& (7 : Int32))), .val (.ref q5), .unset, .unset] [(.int (5 : Int32)), (.int (xx &&& (7 : Int32)))])) (fun _ k => XS.iconst X11.here hx rfl (hb hby at_11) k) ?_
    have hc12_11 : (xx &&& (7 : Int32)) = (5 : Int32) := by first | decide | (rw [hk]; decide) | rw [hk]
    refine OwnFin.adv (B := T11.setTop (mkF m 27 #[.val (.int xx), .val (.int (xx &&& (7 : Int32))), .val (.ref q5), .unset, .unset] [])) (fun _ k => XS.icmpYes X11.here hx rfl (pc0 := 12) (pc' := 27) rfl (hb hby at_12) rfl (teq hc12_11).1 (by decide) (by decide) k) ?_
    refine OwnFin.adv (B := T11.setTop (mkF m 28 #[.val (.int xx), .val (.int (xx &&& (7 : Int32))), .val (.ref q5), .unset, .unset] [(.int (1 : Int32))])) (fun _ k => XS.iconst X11.here hx rfl (hb hby at_27) k) ?_
    refine OwnFin.adv (B := T11.setTop (mkF m 32 #[.val (.int xx), .val (.int (xx &&& (7 : Int32))), .val (.ref q5), .unset, .unset] [(.int (1 : Int32))])) (fun _ k => XS.goto X11.here hx rfl (pc0 := 28) (pc' := 32) rfl (hb hby at_28) (by decide) (by decide) k) ?_
    refine OwnFin.adv (B := T11.setTop (mkF m 33 #[.val (.int xx), .val (.int (xx &&& (7 : Int32))), .val (.ref q5), .val (.int (1 : Int32)), .unset] [])) (fun _ k => XS.istoreN X11.here hx rfl (hb hby at_32) rfl (l' := #[.val (.int xx), .val (.int (xx &&& (7 : Int32))), .val (.ref q5), .val (.int (1 : Int32)), .unset]) rfl k) ?_
    refine OwnFin.adv (B := T11.setTop (mkF m 34 #[.val (.int xx), .val (.int (xx &&& (7 : Int32))), .val (.ref q5), .val (.int (1 : Int32)), .unset] [(.ref q5)])) (fun _ k => XS.aloadN X11.here hx rfl (hb hby at_33) rfl rfl k) ?_
    obtain ⟨cq12, kq12, q12a, q12b, q12c⟩ := isOf hZ eh11 E_q5
    obtain ⟨_, _, ⟨T12, L12, k12, n12⟩, -, X12, ⟨Lc12, hQ12, l12, y12, z12⟩, st12⟩ := X11.virtualBack hx (y := (⟨"com/example/klotho/klotho/InstanceStatus", "isWaiting", "()Z"⟩ : MethodName)) (z := (⟨"com/example/klotho/klotho/InstanceStatus", "isWaiting", "()Z"⟩ : MethodName)) hown (mvT hZ (hw _ (List.mem_of_getElem? (i := 7) rfl))) (mvT hZ (hw _ (List.mem_of_getElem? (i := 8) rfl))) (notFace_of_selects (args := #[]) (mvT hZ (hw _ (List.mem_of_getElem? (i := 10) rfl)))) (mvT hZ (hw _ (List.mem_of_getElem? (i := 10) rfl))) (mvT hZ (hw _ (List.mem_of_getElem? (i := 9) rfl))) (by decide) (backOf (W := 0) (own_rm2r l Z a0 hw [] q5 q0 h0 n0 Z0 F_q5) hZ (hw _ (List.mem_of_getElem? (i := 11) rfl)) (hw _ (List.mem_of_getElem? (i := 5) rfl)) (by decide) (by decide)) q12a q12c (g := (mkF m 34 #[.val (.int xx), .val (.int (xx &&& (7 : Int32))), .val (.ref q5), .val (.int (1 : Int32)), .unset] [(.ref q5)])) rfl (by rw [hml]; rfl) (Steps.refl _) (argsL := []) (rest := []) (lenOf own_pd_x28x29Z rfl) rfl (by show 2 * 0 + _ ≤ _; exact Nat.le_of_eq rfl) (hb hby at_34) (fun _ _ => ⟨rfl, eh11, (by decide : 0 + 0 ≤ _), (by decide : 0 + 0 ≤ _)⟩)
    dsimp only [Pt.U, Pt.locs, Pt.cells, Pt.slots] at X12 l12 y12 z12 st12 hQ12
    subst l12 y12 z12
    obtain ⟨rfl, N12q, eh12⟩ := hQ12
    have N12 := Fr.app N11 N12q
    refine OwnFin.adv (B := T12.setTop (mkF m 37 #[.val (.int xx), .val (.int (xx &&& (7 : Int32))), .val (.ref q5), .val (.int (1 : Int32)), .unset] [(.int (1 : Int32))])) (fun _ k => st12.trans k) ?_
    refine OwnFin.adv (B := T12.setTop (mkF m 39 #[.val (.int xx), .val (.int (xx &&& (7 : Int32))), .val (.ref q5), .val (.int (1 : Int32)), .val (.int (1 : Int32))] [])) (fun _ k => XS.istore X12.here hx rfl (hb hby at_37) rfl (l' := #[.val (.int xx), .val (.int (xx &&& (7 : Int32))), .val (.ref q5), .val (.int (1 : Int32)), .val (.int (1 : Int32))]) rfl k) ?_
    refine OwnFin.adv (B := T12.setTop (mkF m 41 #[.val (.int xx), .val (.int (xx &&& (7 : Int32))), .val (.ref q5), .val (.int (1 : Int32)), .val (.int (1 : Int32))] [(.int (1 : Int32))])) (fun _ k => XS.iload X12.here hx rfl (hb hby at_39) rfl k) ?_
    refine OwnFin.adv (B := T12.setTop (mkF m 42 #[.val (.int xx), .val (.int (xx &&& (7 : Int32))), .val (.ref q5), .val (.int (1 : Int32)), .val (.int (1 : Int32))] [(.int (1 : Int32)), (.int (1 : Int32))])) (fun _ k => XS.iloadN X12.here hx rfl (hb hby at_41) rfl k) ?_
    have hc42_20 : (1 : Int32) = (1 : Int32) := by first | decide | (rw [hk]; decide) | rw [hk]
    refine OwnFin.adv (B := T12.setTop (mkF m 47 #[.val (.int xx), .val (.int (xx &&& (7 : Int32))), .val (.ref q5), .val (.int (1 : Int32)), .val (.int (1 : Int32))] [])) (fun _ k => XS.icmpYes X12.here hx rfl (pc0 := 42) (pc' := 47) rfl (hb hby at_42) rfl (teq hc42_20).1 (by decide) (by decide) k) ?_
    refine OwnFin.adv (B := T12.setTop (mkF m 49 #[.val (.int xx), .val (.int (xx &&& (7 : Int32))), .val (.ref q5), .val (.int (1 : Int32)), .val (.int (1 : Int32))] [(.int (1 : Int32))])) (fun _ k => XS.iload X12.here hx rfl (hb hby at_47) rfl k) ?_
    have hc49_22 : ¬ ((1 : Int32) = (0 : Int32)) := by first | decide | (rw [hk]; decide) | rw [hk]
    refine OwnFin.adv (B := T12.setTop (mkF m 52 #[.val (.int xx), .val (.int (xx &&& (7 : Int32))), .val (.ref q5), .val (.int (1 : Int32)), .val (.int (1 : Int32))] [])) (fun _ k => XS.ifNo X12.here hx rfl (hb hby at_49) rfl ((if0 _ _).trans (feq hc49_22).1) k) ?_
    refine OwnFin.adv (B := T12.setTop (mkF m 53 #[.val (.int xx), .val (.int (xx &&& (7 : Int32))), .val (.ref q5), .val (.int (1 : Int32)), .val (.int (1 : Int32))] [(.ref q5)])) (fun _ k => XS.aloadN X12.here hx rfl (hb hby at_52) rfl rfl k) ?_
    obtain ⟨cq13, kq13, q13a, q13b, q13c⟩ := isOf hZ eh12 E_q5
    obtain ⟨_, _, ⟨T13, L13, k13, n13⟩, -, X13, ⟨Lc13, hQ13, l13, y13, z13⟩, st13⟩ := X12.virtualBack hx (y := (⟨"com/example/klotho/klotho/InstanceStatus", "runsUnderLock", "()Z"⟩ : MethodName)) (z := (⟨"com/example/klotho/klotho/InstanceStatus", "runsUnderLock", "()Z"⟩ : MethodName)) hown (mvT hZ (hw _ (List.mem_of_getElem? (i := 18) rfl))) (mvT hZ (hw _ (List.mem_of_getElem? (i := 19) rfl))) (notFace_of_selects (args := #[]) (mvT hZ (hw _ (List.mem_of_getElem? (i := 21) rfl)))) (mvT hZ (hw _ (List.mem_of_getElem? (i := 21) rfl))) (mvT hZ (hw _ (List.mem_of_getElem? (i := 20) rfl))) (by decide) (backOf (W := 0) (own_rm3 l Z a0 hw [] q5 h0 n0 Z0 U_q5) hZ (hw _ (List.mem_of_getElem? (i := 22) rfl)) (hw _ (List.mem_of_getElem? (i := 5) rfl)) (by decide) (by decide)) q13a q13c (g := (mkF m 53 #[.val (.int xx), .val (.int (xx &&& (7 : Int32))), .val (.ref q5), .val (.int (1 : Int32)), .val (.int (1 : Int32))] [(.ref q5)])) rfl (by rw [hml]; rfl) (Steps.refl _) (argsL := []) (rest := []) (lenOf own_pd_x28x29Z rfl) rfl (by show 2 * 0 + _ ≤ _; exact Nat.le_of_eq rfl) (hb hby at_53) (fun _ _ => ⟨rfl, eh12, (by decide : 0 + 0 ≤ _), (by decide : 0 + 0 ≤ _)⟩)
    dsimp only [Pt.U, Pt.locs, Pt.cells, Pt.slots] at X13 l13 y13 z13 st13 hQ13
    subst l13 y13 z13
    obtain ⟨rfl, N13q, eh13⟩ := hQ13
    have N13 := Fr.app N12 N13q
    refine OwnFin.adv (B := T13.setTop (mkF m 56 #[.val (.int xx), .val (.int (xx &&& (7 : Int32))), .val (.ref q5), .val (.int (1 : Int32)), .val (.int (1 : Int32))] [(.int (0 : Int32))])) (fun _ k => st13.trans k) ?_
    have hc56_25 : (0 : Int32) = (0 : Int32) := by first | decide | (rw [hk]; decide) | rw [hk]
    refine OwnFin.adv (B := T13.setTop (mkF m 61 #[.val (.int xx), .val (.int (xx &&& (7 : Int32))), .val (.ref q5), .val (.int (1 : Int32)), .val (.int (1 : Int32))] [])) (fun _ k => XS.ifYes X13.here hx rfl (pc0 := 56) (pc' := 61) rfl (hb hby at_56) rfl ((if0 _ _).trans (teq hc56_25).1) (by decide) (by decide) k) ?_
    refine OwnFin.adv (B := T13.setTop (mkF m 62 #[.val (.int xx), .val (.int (xx &&& (7 : Int32))), .val (.ref q5), .val (.int (1 : Int32)), .val (.int (1 : Int32))] [(.int (1 : Int32))])) (fun _ k => XS.iconst X13.here hx rfl (hb hby at_61) k) ?_
    obtain ⟨fs, hr, hrun, hended, hW, hsame⟩ := X13.leave (v := some (.int (1 : Int32))) (fun h => by rw [Bd.returns] at h; cases h)
    refine OwnFin.leaf hP' ⟨_, _, retN X13 hx (t := .boolean) Bd.returns (by simp) (hb hby at_62) hr, hrun, hended, _, _, rfl, ?_, ⟨_, rfl⟩, hW, hsame.mono (by decide) (by decide)⟩
    exact ⟨rfl, N13⟩
  ·
    obtain ⟨_, _, ⟨T14, L14, k14, n14⟩, -, X14, ⟨Lc14, hQ14, l14, y14, z14⟩, st14⟩ := Jvm.LawKit.callS X0 hx (y := (⟨"com/example/klotho/klotho/InstanceStatusIsWaitingPinLaw", "pick", "(I)Lcom/example/klotho/klotho/InstanceStatus;"⟩ : MethodName)) hown (mvT hZ (hw _ (List.mem_of_getElem? (i := 0) rfl))) (mvT hZ (hw _ (List.mem_of_getElem? (i := 1) rfl))) (mvT hZ (hw _ (List.mem_of_getElem? (i := 2) rfl))) (mvT hZ (hw _ (List.mem_of_getElem? (i := 3) rfl))) (by decide) (backOf (W := 0) (own_rm1 l Z a0 hw [] (xx &&& (7 : Int32)) q0 q1 q2 q3 q4 q5 q6 q7 q6 (by simp [own_pick, hk]) h0 n0 Z0 S_q0 S_q1 S_q2 S_q3 S_q4 S_q5 S_q6 S_q7) hZ (hw _ (List.mem_of_getElem? (i := 3) rfl)) (hw _ (List.mem_of_getElem? (i := 2) rfl)) (by decide) (by decide)) (g := (mkF m 6 #[.val (.int xx), .val (.int (xx &&& (7 : Int32))), .unset, .unset, .unset] [(.int (xx &&& (7 : Int32)))])) rfl (by rw [hml]; rfl) (argsL := [(.int (xx &&& (7 : Int32)))]) (rest := []) (lenOf own_pd_x28Ix29Lcomx2fexamplex2fklothox2fklothox2fInstanceStatusx3b rfl) rfl (by show 2 * 0 + _ ≤ _; exact Nat.le_of_eq rfl) (hb hby at_6) (fun _ _ => ⟨rfl, e0, (by decide : 0 + 0 ≤ _), (by decide : 0 + 0 ≤ _)⟩)
    dsimp only [Pt.U, Pt.locs, Pt.cells, Pt.slots] at X14 l14 y14 z14 st14 hQ14
    subst l14 y14 z14
    obtain ⟨rfl, N14q, eh14⟩ := hQ14
    have N14 := Fr.app N0 N14q
    refine OwnFin.adv (B := T14.setTop (mkF m 9 #[.val (.int xx), .val (.int (xx &&& (7 : Int32))), .unset, .unset, .unset] [(.ref q6)])) (fun _ k => st14 _ k) ?_
    refine OwnFin.adv (B := T14.setTop (mkF m 10 #[.val (.int xx), .val (.int (xx &&& (7 : Int32))), .val (.ref q6), .unset, .unset] [])) (fun _ k => XS.astoreN X14.here hx rfl (hb hby at_9) rfl rfl (l' := #[.val (.int xx), .val (.int (xx &&& (7 : Int32))), .val (.ref q6), .unset, .unset]) rfl k) ?_
    refine OwnFin.adv (B := T14.setTop (mkF m 11 #[.val (.int xx), .val (.int (xx &&& (7 : Int32))), .val (.ref q6), .unset, .unset] [(.int (xx &&& (7 : Int32)))])) (fun _ k => XS.iloadN X14.here hx rfl (hb hby at_10) rfl k) ?_
    refine OwnFin.adv (B := T14.setTop (mkF m 12 #[.val (.int xx), .val (.int (xx &&& (7 : Int32))), .val (.ref q6), .unset, .unset] [(.int (5 : Int32)), (.int (xx &&& (7 : Int32)))])) (fun _ k => XS.iconst X14.here hx rfl (hb hby at_11) k) ?_
    have hc12_11 : ¬ ((xx &&& (7 : Int32)) = (5 : Int32)) := by first | decide | (rw [hk]; decide) | rw [hk]
    refine OwnFin.adv (B := T14.setTop (mkF m 15 #[.val (.int xx), .val (.int (xx &&& (7 : Int32))), .val (.ref q6), .unset, .unset] [])) (fun _ k => XS.icmpNo X14.here hx rfl (hb hby at_12) rfl (feq hc12_11).1 k) ?_
    refine OwnFin.adv (B := T14.setTop (mkF m 16 #[.val (.int xx), .val (.int (xx &&& (7 : Int32))), .val (.ref q6), .unset, .unset] [(.int (xx &&& (7 : Int32)))])) (fun _ k => XS.iloadN X14.here hx rfl (hb hby at_15) rfl k) ?_
    refine OwnFin.adv (B := T14.setTop (mkF m 18 #[.val (.int xx), .val (.int (xx &&& (7 : Int32))), .val (.ref q6), .unset, .unset] [(.int (6 : Int32)), (.int (xx &&& (7 : Int32)))])) (fun _ k => XS.bipush X14.here hx rfl (hb hby at_16) k) ?_
    have hc18_14 : (xx &&& (7 : Int32)) = (6 : Int32) := by first | decide | (rw [hk]; decide) | rw [hk]
    refine OwnFin.adv (B := T14.setTop (mkF m 27 #[.val (.int xx), .val (.int (xx &&& (7 : Int32))), .val (.ref q6), .unset, .unset] [])) (fun _ k => XS.icmpYes X14.here hx rfl (pc0 := 18) (pc' := 27) rfl (hb hby at_18) rfl (teq hc18_14).1 (by decide) (by decide) k) ?_
    refine OwnFin.adv (B := T14.setTop (mkF m 28 #[.val (.int xx), .val (.int (xx &&& (7 : Int32))), .val (.ref q6), .unset, .unset] [(.int (1 : Int32))])) (fun _ k => XS.iconst X14.here hx rfl (hb hby at_27) k) ?_
    refine OwnFin.adv (B := T14.setTop (mkF m 32 #[.val (.int xx), .val (.int (xx &&& (7 : Int32))), .val (.ref q6), .unset, .unset] [(.int (1 : Int32))])) (fun _ k => XS.goto X14.here hx rfl (pc0 := 28) (pc' := 32) rfl (hb hby at_28) (by decide) (by decide) k) ?_
    refine OwnFin.adv (B := T14.setTop (mkF m 33 #[.val (.int xx), .val (.int (xx &&& (7 : Int32))), .val (.ref q6), .val (.int (1 : Int32)), .unset] [])) (fun _ k => XS.istoreN X14.here hx rfl (hb hby at_32) rfl (l' := #[.val (.int xx), .val (.int (xx &&& (7 : Int32))), .val (.ref q6), .val (.int (1 : Int32)), .unset]) rfl k) ?_
    refine OwnFin.adv (B := T14.setTop (mkF m 34 #[.val (.int xx), .val (.int (xx &&& (7 : Int32))), .val (.ref q6), .val (.int (1 : Int32)), .unset] [(.ref q6)])) (fun _ k => XS.aloadN X14.here hx rfl (hb hby at_33) rfl rfl k) ?_
    obtain ⟨cq15, kq15, q15a, q15b, q15c⟩ := isOf hZ eh14 E_q6
    obtain ⟨_, _, ⟨T15, L15, k15, n15⟩, -, X15, ⟨Lc15, hQ15, l15, y15, z15⟩, st15⟩ := X14.virtualBack hx (y := (⟨"com/example/klotho/klotho/InstanceStatus", "isWaiting", "()Z"⟩ : MethodName)) (z := (⟨"com/example/klotho/klotho/InstanceStatus", "isWaiting", "()Z"⟩ : MethodName)) hown (mvT hZ (hw _ (List.mem_of_getElem? (i := 7) rfl))) (mvT hZ (hw _ (List.mem_of_getElem? (i := 8) rfl))) (notFace_of_selects (args := #[]) (mvT hZ (hw _ (List.mem_of_getElem? (i := 10) rfl)))) (mvT hZ (hw _ (List.mem_of_getElem? (i := 10) rfl))) (mvT hZ (hw _ (List.mem_of_getElem? (i := 9) rfl))) (by decide) (backOf (W := 0) (own_rm2r l Z a0 hw [] q6 q0 h0 n0 Z0 F_q6) hZ (hw _ (List.mem_of_getElem? (i := 11) rfl)) (hw _ (List.mem_of_getElem? (i := 5) rfl)) (by decide) (by decide)) q15a q15c (g := (mkF m 34 #[.val (.int xx), .val (.int (xx &&& (7 : Int32))), .val (.ref q6), .val (.int (1 : Int32)), .unset] [(.ref q6)])) rfl (by rw [hml]; rfl) (Steps.refl _) (argsL := []) (rest := []) (lenOf own_pd_x28x29Z rfl) rfl (by show 2 * 0 + _ ≤ _; exact Nat.le_of_eq rfl) (hb hby at_34) (fun _ _ => ⟨rfl, eh14, (by decide : 0 + 0 ≤ _), (by decide : 0 + 0 ≤ _)⟩)
    dsimp only [Pt.U, Pt.locs, Pt.cells, Pt.slots] at X15 l15 y15 z15 st15 hQ15
    subst l15 y15 z15
    obtain ⟨rfl, N15q, eh15⟩ := hQ15
    have N15 := Fr.app N14 N15q
    refine OwnFin.adv (B := T15.setTop (mkF m 37 #[.val (.int xx), .val (.int (xx &&& (7 : Int32))), .val (.ref q6), .val (.int (1 : Int32)), .unset] [(.int (1 : Int32))])) (fun _ k => st15.trans k) ?_
    refine OwnFin.adv (B := T15.setTop (mkF m 39 #[.val (.int xx), .val (.int (xx &&& (7 : Int32))), .val (.ref q6), .val (.int (1 : Int32)), .val (.int (1 : Int32))] [])) (fun _ k => XS.istore X15.here hx rfl (hb hby at_37) rfl (l' := #[.val (.int xx), .val (.int (xx &&& (7 : Int32))), .val (.ref q6), .val (.int (1 : Int32)), .val (.int (1 : Int32))]) rfl k) ?_
    refine OwnFin.adv (B := T15.setTop (mkF m 41 #[.val (.int xx), .val (.int (xx &&& (7 : Int32))), .val (.ref q6), .val (.int (1 : Int32)), .val (.int (1 : Int32))] [(.int (1 : Int32))])) (fun _ k => XS.iload X15.here hx rfl (hb hby at_39) rfl k) ?_
    refine OwnFin.adv (B := T15.setTop (mkF m 42 #[.val (.int xx), .val (.int (xx &&& (7 : Int32))), .val (.ref q6), .val (.int (1 : Int32)), .val (.int (1 : Int32))] [(.int (1 : Int32)), (.int (1 : Int32))])) (fun _ k => XS.iloadN X15.here hx rfl (hb hby at_41) rfl k) ?_
    have hc42_23 : (1 : Int32) = (1 : Int32) := by first | decide | (rw [hk]; decide) | rw [hk]
    refine OwnFin.adv (B := T15.setTop (mkF m 47 #[.val (.int xx), .val (.int (xx &&& (7 : Int32))), .val (.ref q6), .val (.int (1 : Int32)), .val (.int (1 : Int32))] [])) (fun _ k => XS.icmpYes X15.here hx rfl (pc0 := 42) (pc' := 47) rfl (hb hby at_42) rfl (teq hc42_23).1 (by decide) (by decide) k) ?_
    refine OwnFin.adv (B := T15.setTop (mkF m 49 #[.val (.int xx), .val (.int (xx &&& (7 : Int32))), .val (.ref q6), .val (.int (1 : Int32)), .val (.int (1 : Int32))] [(.int (1 : Int32))])) (fun _ k => XS.iload X15.here hx rfl (hb hby at_47) rfl k) ?_
    have hc49_25 : ¬ ((1 : Int32) = (0 : Int32)) := by first | decide | (rw [hk]; decide) | rw [hk]
    refine OwnFin.adv (B := T15.setTop (mkF m 52 #[.val (.int xx), .val (.int (xx &&& (7 : Int32))), .val (.ref q6), .val (.int (1 : Int32)), .val (.int (1 : Int32))] [])) (fun _ k => XS.ifNo X15.here hx rfl (hb hby at_49) rfl ((if0 _ _).trans (feq hc49_25).1) k) ?_
    refine OwnFin.adv (B := T15.setTop (mkF m 53 #[.val (.int xx), .val (.int (xx &&& (7 : Int32))), .val (.ref q6), .val (.int (1 : Int32)), .val (.int (1 : Int32))] [(.ref q6)])) (fun _ k => XS.aloadN X15.here hx rfl (hb hby at_52) rfl rfl k) ?_
    obtain ⟨cq16, kq16, q16a, q16b, q16c⟩ := isOf hZ eh15 E_q6
    obtain ⟨_, _, ⟨T16, L16, k16, n16⟩, -, X16, ⟨Lc16, hQ16, l16, y16, z16⟩, st16⟩ := X15.virtualBack hx (y := (⟨"com/example/klotho/klotho/InstanceStatus", "runsUnderLock", "()Z"⟩ : MethodName)) (z := (⟨"com/example/klotho/klotho/InstanceStatus", "runsUnderLock", "()Z"⟩ : MethodName)) hown (mvT hZ (hw _ (List.mem_of_getElem? (i := 18) rfl))) (mvT hZ (hw _ (List.mem_of_getElem? (i := 19) rfl))) (notFace_of_selects (args := #[]) (mvT hZ (hw _ (List.mem_of_getElem? (i := 21) rfl)))) (mvT hZ (hw _ (List.mem_of_getElem? (i := 21) rfl))) (mvT hZ (hw _ (List.mem_of_getElem? (i := 20) rfl))) (by decide) (backOf (W := 0) (own_rm3 l Z a0 hw [] q6 h0 n0 Z0 U_q6) hZ (hw _ (List.mem_of_getElem? (i := 22) rfl)) (hw _ (List.mem_of_getElem? (i := 5) rfl)) (by decide) (by decide)) q16a q16c (g := (mkF m 53 #[.val (.int xx), .val (.int (xx &&& (7 : Int32))), .val (.ref q6), .val (.int (1 : Int32)), .val (.int (1 : Int32))] [(.ref q6)])) rfl (by rw [hml]; rfl) (Steps.refl _) (argsL := []) (rest := []) (lenOf own_pd_x28x29Z rfl) rfl (by show 2 * 0 + _ ≤ _; exact Nat.le_of_eq rfl) (hb hby at_53) (fun _ _ => ⟨rfl, eh15, (by decide : 0 + 0 ≤ _), (by decide : 0 + 0 ≤ _)⟩)
    dsimp only [Pt.U, Pt.locs, Pt.cells, Pt.slots] at X16 l16 y16 z16 st16 hQ16
    subst l16 y16 z16
    obtain ⟨rfl, N16q, eh16⟩ := hQ16
    have N16 := Fr.app N15 N16q
    refine OwnFin.adv (B := T16.setTop (mkF m 56 #[.val (.int xx), .val (.int (xx &&& (7 : Int32))), .val (.ref q6), .val (.int (1 : Int32)), .val (.int (1 : Int32))] [(.int (0 : Int32))])) (fun _ k => st16.trans k) ?_
    have hc56_28 : (0 : Int32) = (0 : Int32) := by first | decide | (rw [hk]; decide) | rw [hk]
    refine OwnFin.adv (B := T16.setTop (mkF m 61 #[.val (.int xx), .val (.int (xx &&& (7 : Int32))), .val (.ref q6), .val (.int (1 : Int32)), .val (.int (1 : Int32))] [])) (fun _ k => XS.ifYes X16.here hx rfl (pc0 := 56) (pc' := 61) rfl (hb hby at_56) rfl ((if0 _ _).trans (teq hc56_28).1) (by decide) (by decide) k) ?_
    refine OwnFin.adv (B := T16.setTop (mkF m 62 #[.val (.int xx), .val (.int (xx &&& (7 : Int32))), .val (.ref q6), .val (.int (1 : Int32)), .val (.int (1 : Int32))] [(.int (1 : Int32))])) (fun _ k => XS.iconst X16.here hx rfl (hb hby at_61) k) ?_
    obtain ⟨fs, hr, hrun, hended, hW, hsame⟩ := X16.leave (v := some (.int (1 : Int32))) (fun h => by rw [Bd.returns] at h; cases h)
    refine OwnFin.leaf hP' ⟨_, _, retN X16 hx (t := .boolean) Bd.returns (by simp) (hb hby at_62) hr, hrun, hended, _, _, rfl, ?_, ⟨_, rfl⟩, hW, hsame.mono (by decide) (by decide)⟩
    exact ⟨rfl, N16⟩
  ·
    obtain ⟨_, _, ⟨T17, L17, k17, n17⟩, -, X17, ⟨Lc17, hQ17, l17, y17, z17⟩, st17⟩ := Jvm.LawKit.callS X0 hx (y := (⟨"com/example/klotho/klotho/InstanceStatusIsWaitingPinLaw", "pick", "(I)Lcom/example/klotho/klotho/InstanceStatus;"⟩ : MethodName)) hown (mvT hZ (hw _ (List.mem_of_getElem? (i := 0) rfl))) (mvT hZ (hw _ (List.mem_of_getElem? (i := 1) rfl))) (mvT hZ (hw _ (List.mem_of_getElem? (i := 2) rfl))) (mvT hZ (hw _ (List.mem_of_getElem? (i := 3) rfl))) (by decide) (backOf (W := 0) (own_rm1 l Z a0 hw [] (xx &&& (7 : Int32)) q0 q1 q2 q3 q4 q5 q6 q7 q7 (by simp [own_pick, hk]) h0 n0 Z0 S_q0 S_q1 S_q2 S_q3 S_q4 S_q5 S_q6 S_q7) hZ (hw _ (List.mem_of_getElem? (i := 3) rfl)) (hw _ (List.mem_of_getElem? (i := 2) rfl)) (by decide) (by decide)) (g := (mkF m 6 #[.val (.int xx), .val (.int (xx &&& (7 : Int32))), .unset, .unset, .unset] [(.int (xx &&& (7 : Int32)))])) rfl (by rw [hml]; rfl) (argsL := [(.int (xx &&& (7 : Int32)))]) (rest := []) (lenOf own_pd_x28Ix29Lcomx2fexamplex2fklothox2fklothox2fInstanceStatusx3b rfl) rfl (by show 2 * 0 + _ ≤ _; exact Nat.le_of_eq rfl) (hb hby at_6) (fun _ _ => ⟨rfl, e0, (by decide : 0 + 0 ≤ _), (by decide : 0 + 0 ≤ _)⟩)
    dsimp only [Pt.U, Pt.locs, Pt.cells, Pt.slots] at X17 l17 y17 z17 st17 hQ17
    subst l17 y17 z17
    obtain ⟨rfl, N17q, eh17⟩ := hQ17
    have N17 := Fr.app N0 N17q
    refine OwnFin.adv (B := T17.setTop (mkF m 9 #[.val (.int xx), .val (.int (xx &&& (7 : Int32))), .unset, .unset, .unset] [(.ref q7)])) (fun _ k => st17 _ k) ?_
    refine OwnFin.adv (B := T17.setTop (mkF m 10 #[.val (.int xx), .val (.int (xx &&& (7 : Int32))), .val (.ref q7), .unset, .unset] [])) (fun _ k => XS.astoreN X17.here hx rfl (hb hby at_9) rfl rfl (l' := #[.val (.int xx), .val (.int (xx &&& (7 : Int32))), .val (.ref q7), .unset, .unset]) rfl k) ?_
    refine OwnFin.adv (B := T17.setTop (mkF m 11 #[.val (.int xx), .val (.int (xx &&& (7 : Int32))), .val (.ref q7), .unset, .unset] [(.int (xx &&& (7 : Int32)))])) (fun _ k => XS.iloadN X17.here hx rfl (hb hby at_10) rfl k) ?_
    refine OwnFin.adv (B := T17.setTop (mkF m 12 #[.val (.int xx), .val (.int (xx &&& (7 : Int32))), .val (.ref q7), .unset, .unset] [(.int (5 : Int32)), (.int (xx &&& (7 : Int32)))])) (fun _ k => XS.iconst X17.here hx rfl (hb hby at_11) k) ?_
    have hc12_11 : ¬ ((xx &&& (7 : Int32)) = (5 : Int32)) := by first | decide | (rw [hk]; decide) | rw [hk]
    refine OwnFin.adv (B := T17.setTop (mkF m 15 #[.val (.int xx), .val (.int (xx &&& (7 : Int32))), .val (.ref q7), .unset, .unset] [])) (fun _ k => XS.icmpNo X17.here hx rfl (hb hby at_12) rfl (feq hc12_11).1 k) ?_
    refine OwnFin.adv (B := T17.setTop (mkF m 16 #[.val (.int xx), .val (.int (xx &&& (7 : Int32))), .val (.ref q7), .unset, .unset] [(.int (xx &&& (7 : Int32)))])) (fun _ k => XS.iloadN X17.here hx rfl (hb hby at_15) rfl k) ?_
    refine OwnFin.adv (B := T17.setTop (mkF m 18 #[.val (.int xx), .val (.int (xx &&& (7 : Int32))), .val (.ref q7), .unset, .unset] [(.int (6 : Int32)), (.int (xx &&& (7 : Int32)))])) (fun _ k => XS.bipush X17.here hx rfl (hb hby at_16) k) ?_
    have hc18_14 : ¬ ((xx &&& (7 : Int32)) = (6 : Int32)) := by first | decide | (rw [hk]; decide) | rw [hk]
    refine OwnFin.adv (B := T17.setTop (mkF m 21 #[.val (.int xx), .val (.int (xx &&& (7 : Int32))), .val (.ref q7), .unset, .unset] [])) (fun _ k => XS.icmpNo X17.here hx rfl (hb hby at_18) rfl (feq hc18_14).1 k) ?_
    refine OwnFin.adv (B := T17.setTop (mkF m 22 #[.val (.int xx), .val (.int (xx &&& (7 : Int32))), .val (.ref q7), .unset, .unset] [(.int (xx &&& (7 : Int32)))])) (fun _ k => XS.iloadN X17.here hx rfl (hb hby at_21) rfl k) ?_
    refine OwnFin.adv (B := T17.setTop (mkF m 24 #[.val (.int xx), .val (.int (xx &&& (7 : Int32))), .val (.ref q7), .unset, .unset] [(.int (7 : Int32)), (.int (xx &&& (7 : Int32)))])) (fun _ k => XS.bipush X17.here hx rfl (hb hby at_22) k) ?_
    have hc24_17 : (xx &&& (7 : Int32)) = (7 : Int32) := by first | decide | (rw [hk]; decide) | rw [hk]
    refine OwnFin.adv (B := T17.setTop (mkF m 27 #[.val (.int xx), .val (.int (xx &&& (7 : Int32))), .val (.ref q7), .unset, .unset] [])) (fun _ k => XS.icmpNo X17.here hx rfl (hb hby at_24) rfl (teq hc24_17).2 k) ?_
    refine OwnFin.adv (B := T17.setTop (mkF m 28 #[.val (.int xx), .val (.int (xx &&& (7 : Int32))), .val (.ref q7), .unset, .unset] [(.int (1 : Int32))])) (fun _ k => XS.iconst X17.here hx rfl (hb hby at_27) k) ?_
    refine OwnFin.adv (B := T17.setTop (mkF m 32 #[.val (.int xx), .val (.int (xx &&& (7 : Int32))), .val (.ref q7), .unset, .unset] [(.int (1 : Int32))])) (fun _ k => XS.goto X17.here hx rfl (pc0 := 28) (pc' := 32) rfl (hb hby at_28) (by decide) (by decide) k) ?_
    refine OwnFin.adv (B := T17.setTop (mkF m 33 #[.val (.int xx), .val (.int (xx &&& (7 : Int32))), .val (.ref q7), .val (.int (1 : Int32)), .unset] [])) (fun _ k => XS.istoreN X17.here hx rfl (hb hby at_32) rfl (l' := #[.val (.int xx), .val (.int (xx &&& (7 : Int32))), .val (.ref q7), .val (.int (1 : Int32)), .unset]) rfl k) ?_
    refine OwnFin.adv (B := T17.setTop (mkF m 34 #[.val (.int xx), .val (.int (xx &&& (7 : Int32))), .val (.ref q7), .val (.int (1 : Int32)), .unset] [(.ref q7)])) (fun _ k => XS.aloadN X17.here hx rfl (hb hby at_33) rfl rfl k) ?_
    obtain ⟨cq18, kq18, q18a, q18b, q18c⟩ := isOf hZ eh17 E_q7
    obtain ⟨_, _, ⟨T18, L18, k18, n18⟩, -, X18, ⟨Lc18, hQ18, l18, y18, z18⟩, st18⟩ := X17.virtualBack hx (y := (⟨"com/example/klotho/klotho/InstanceStatus", "isWaiting", "()Z"⟩ : MethodName)) (z := (⟨"com/example/klotho/klotho/InstanceStatus", "isWaiting", "()Z"⟩ : MethodName)) hown (mvT hZ (hw _ (List.mem_of_getElem? (i := 7) rfl))) (mvT hZ (hw _ (List.mem_of_getElem? (i := 8) rfl))) (notFace_of_selects (args := #[]) (mvT hZ (hw _ (List.mem_of_getElem? (i := 10) rfl)))) (mvT hZ (hw _ (List.mem_of_getElem? (i := 10) rfl))) (mvT hZ (hw _ (List.mem_of_getElem? (i := 9) rfl))) (by decide) (backOf (W := 0) (own_rm2r l Z a0 hw [] q7 q3 h0 n0 Z0 F_q7) hZ (hw _ (List.mem_of_getElem? (i := 11) rfl)) (hw _ (List.mem_of_getElem? (i := 5) rfl)) (by decide) (by decide)) q18a q18c (g := (mkF m 34 #[.val (.int xx), .val (.int (xx &&& (7 : Int32))), .val (.ref q7), .val (.int (1 : Int32)), .unset] [(.ref q7)])) rfl (by rw [hml]; rfl) (Steps.refl _) (argsL := []) (rest := []) (lenOf own_pd_x28x29Z rfl) rfl (by show 2 * 0 + _ ≤ _; exact Nat.le_of_eq rfl) (hb hby at_34) (fun _ _ => ⟨rfl, eh17, (by decide : 0 + 0 ≤ _), (by decide : 0 + 0 ≤ _)⟩)
    dsimp only [Pt.U, Pt.locs, Pt.cells, Pt.slots] at X18 l18 y18 z18 st18 hQ18
    subst l18 y18 z18
    obtain ⟨rfl, N18q, eh18⟩ := hQ18
    have N18 := Fr.app N17 N18q
    refine OwnFin.adv (B := T18.setTop (mkF m 37 #[.val (.int xx), .val (.int (xx &&& (7 : Int32))), .val (.ref q7), .val (.int (1 : Int32)), .unset] [(.int (1 : Int32))])) (fun _ k => st18.trans k) ?_
    refine OwnFin.adv (B := T18.setTop (mkF m 39 #[.val (.int xx), .val (.int (xx &&& (7 : Int32))), .val (.ref q7), .val (.int (1 : Int32)), .val (.int (1 : Int32))] [])) (fun _ k => XS.istore X18.here hx rfl (hb hby at_37) rfl (l' := #[.val (.int xx), .val (.int (xx &&& (7 : Int32))), .val (.ref q7), .val (.int (1 : Int32)), .val (.int (1 : Int32))]) rfl k) ?_
    refine OwnFin.adv (B := T18.setTop (mkF m 41 #[.val (.int xx), .val (.int (xx &&& (7 : Int32))), .val (.ref q7), .val (.int (1 : Int32)), .val (.int (1 : Int32))] [(.int (1 : Int32))])) (fun _ k => XS.iload X18.here hx rfl (hb hby at_39) rfl k) ?_
    refine OwnFin.adv (B := T18.setTop (mkF m 42 #[.val (.int xx), .val (.int (xx &&& (7 : Int32))), .val (.ref q7), .val (.int (1 : Int32)), .val (.int (1 : Int32))] [(.int (1 : Int32)), (.int (1 : Int32))])) (fun _ k => XS.iloadN X18.here hx rfl (hb hby at_41) rfl k) ?_
    have hc42_26 : (1 : Int32) = (1 : Int32) := by first | decide | (rw [hk]; decide) | rw [hk]
    refine OwnFin.adv (B := T18.setTop (mkF m 47 #[.val (.int xx), .val (.int (xx &&& (7 : Int32))), .val (.ref q7), .val (.int (1 : Int32)), .val (.int (1 : Int32))] [])) (fun _ k => XS.icmpYes X18.here hx rfl (pc0 := 42) (pc' := 47) rfl (hb hby at_42) rfl (teq hc42_26).1 (by decide) (by decide) k) ?_
    refine OwnFin.adv (B := T18.setTop (mkF m 49 #[.val (.int xx), .val (.int (xx &&& (7 : Int32))), .val (.ref q7), .val (.int (1 : Int32)), .val (.int (1 : Int32))] [(.int (1 : Int32))])) (fun _ k => XS.iload X18.here hx rfl (hb hby at_47) rfl k) ?_
    have hc49_28 : ¬ ((1 : Int32) = (0 : Int32)) := by first | decide | (rw [hk]; decide) | rw [hk]
    refine OwnFin.adv (B := T18.setTop (mkF m 52 #[.val (.int xx), .val (.int (xx &&& (7 : Int32))), .val (.ref q7), .val (.int (1 : Int32)), .val (.int (1 : Int32))] [])) (fun _ k => XS.ifNo X18.here hx rfl (hb hby at_49) rfl ((if0 _ _).trans (feq hc49_28).1) k) ?_
    refine OwnFin.adv (B := T18.setTop (mkF m 53 #[.val (.int xx), .val (.int (xx &&& (7 : Int32))), .val (.ref q7), .val (.int (1 : Int32)), .val (.int (1 : Int32))] [(.ref q7)])) (fun _ k => XS.aloadN X18.here hx rfl (hb hby at_52) rfl rfl k) ?_
    obtain ⟨cq19, kq19, q19a, q19b, q19c⟩ := isOf hZ eh18 E_q7
    obtain ⟨_, _, ⟨T19, L19, k19, n19⟩, -, X19, ⟨Lc19, hQ19, l19, y19, z19⟩, st19⟩ := X18.virtualBack hx (y := (⟨"com/example/klotho/klotho/InstanceStatus", "runsUnderLock", "()Z"⟩ : MethodName)) (z := (⟨"com/example/klotho/klotho/InstanceStatus", "runsUnderLock", "()Z"⟩ : MethodName)) hown (mvT hZ (hw _ (List.mem_of_getElem? (i := 18) rfl))) (mvT hZ (hw _ (List.mem_of_getElem? (i := 19) rfl))) (notFace_of_selects (args := #[]) (mvT hZ (hw _ (List.mem_of_getElem? (i := 21) rfl)))) (mvT hZ (hw _ (List.mem_of_getElem? (i := 21) rfl))) (mvT hZ (hw _ (List.mem_of_getElem? (i := 20) rfl))) (by decide) (backOf (W := 0) (own_rm3 l Z a0 hw [] q7 h0 n0 Z0 U_q7) hZ (hw _ (List.mem_of_getElem? (i := 22) rfl)) (hw _ (List.mem_of_getElem? (i := 5) rfl)) (by decide) (by decide)) q19a q19c (g := (mkF m 53 #[.val (.int xx), .val (.int (xx &&& (7 : Int32))), .val (.ref q7), .val (.int (1 : Int32)), .val (.int (1 : Int32))] [(.ref q7)])) rfl (by rw [hml]; rfl) (Steps.refl _) (argsL := []) (rest := []) (lenOf own_pd_x28x29Z rfl) rfl (by show 2 * 0 + _ ≤ _; exact Nat.le_of_eq rfl) (hb hby at_53) (fun _ _ => ⟨rfl, eh18, (by decide : 0 + 0 ≤ _), (by decide : 0 + 0 ≤ _)⟩)
    dsimp only [Pt.U, Pt.locs, Pt.cells, Pt.slots] at X19 l19 y19 z19 st19 hQ19
    subst l19 y19 z19
    obtain ⟨rfl, N19q, eh19⟩ := hQ19
    have N19 := Fr.app N18 N19q
    refine OwnFin.adv (B := T19.setTop (mkF m 56 #[.val (.int xx), .val (.int (xx &&& (7 : Int32))), .val (.ref q7), .val (.int (1 : Int32)), .val (.int (1 : Int32))] [(.int (0 : Int32))])) (fun _ k => st19.trans k) ?_
    have hc56_31 : (0 : Int32) = (0 : Int32) := by first | decide | (rw [hk]; decide) | rw [hk]
    refine OwnFin.adv (B := T19.setTop (mkF m 61 #[.val (.int xx), .val (.int (xx &&& (7 : Int32))), .val (.ref q7), .val (.int (1 : Int32)), .val (.int (1 : Int32))] [])) (fun _ k => XS.ifYes X19.here hx rfl (pc0 := 56) (pc' := 61) rfl (hb hby at_56) rfl ((if0 _ _).trans (teq hc56_31).1) (by decide) (by decide) k) ?_
    refine OwnFin.adv (B := T19.setTop (mkF m 62 #[.val (.int xx), .val (.int (xx &&& (7 : Int32))), .val (.ref q7), .val (.int (1 : Int32)), .val (.int (1 : Int32))] [(.int (1 : Int32))])) (fun _ k => XS.iconst X19.here hx rfl (hb hby at_61) k) ?_
    obtain ⟨fs, hr, hrun, hended, hW, hsame⟩ := X19.leave (v := some (.int (1 : Int32))) (fun h => by rw [Bd.returns] at h; cases h)
    refine OwnFin.leaf hP' ⟨_, _, retN X19 hx (t := .boolean) Bd.returns (by simp) (hb hby at_62) hr, hrun, hended, _, _, rfl, ?_, ⟨_, rfl⟩, hW, hsame.mono (by decide) (by decide)⟩
    exact ⟨rfl, N19⟩
set_option maxRecDepth 65536 in
set_option maxHeartbeats 40000000 in
theorem own_comes {Post : Tables → Env → Array Value → State → Outcome → State → Prop} (hpost : ∀ tb e args s v u, (limb_1_1.after args s (.returned v) u = true ∧ limb_1_2.after args s (.returned v) u = true ∧ True) → FrameEnd s (.returned v) u (Jvm.fieldLocs frame_1_writes args s ++ Jvm.arrayLocs frame_1_arrays args s ++ Jvm.staticLocs frame_1_statics s) 0 0 → Post tb e args s (.returned v) u) :
    ArmFor flags0 classFile x code maxLocals ret World_1 tables_1 room_1 Calls_1 rest_1 Pre_1 Post := by
  intro l hfl _ _ p e ha hc hk s m args below hf hA hF happ hP
  obtain ⟨hcalls, hrest, hpre⟩ := hP
  obtain ⟨-, -, -, hnamed, -, -, -, hat⟩ := (Spec.applies_iff hf).mp happ
  obtain ⟨hg, hn⟩ := and_e (Cond.before_iff.mp (show (Jvm.Cond.and given_1 narrow_1).before args s = true from hpre))
  obtain ⟨u1, u2⟩ := and_e hg
  obtain ⟨u3, u4⟩ := and_e hn
  obtain ⟨u5, u6⟩ := and_e u4
  obtain ⟨u7, u8⟩ := and_e u6
  obtain ⟨u9, u10⟩ := and_e u8
  obtain ⟨u11, u12⟩ := and_e u10
  obtain ⟨u13, u14⟩ := and_e u12
  obtain ⟨u15, u16⟩ := and_e u14
  obtain ⟨u17, u18⟩ := and_e u16
  obtain ⟨u19, u20⟩ := and_e u18
  obtain ⟨u21, u22⟩ := and_e u20
  obtain ⟨u23, u24⟩ := and_e u22
  obtain ⟨u25, u26⟩ := and_e u24
  obtain ⟨u27, u28⟩ := and_e u26
  obtain ⟨u29, u30⟩ := and_e u28
  obtain ⟨u31, u32⟩ := and_e u30
  obtain ⟨u33, u34⟩ := and_e u32
  obtain ⟨u35, u36⟩ := and_e u34
  obtain ⟨u37, u38⟩ := and_e u36
  obtain ⟨u39, u40⟩ := and_e u38
  obtain ⟨u41, u42⟩ := and_e u40
  obtain ⟨u43, u44⟩ := and_e u42
  obtain ⟨u45, u46⟩ := and_e u44
  obtain ⟨u47, u48⟩ := and_e u46
  obtain ⟨w0, rfl⟩ : ∃ w0 : Value, args = #[w0] := by
    have hs : args.size = 1 := by simpa [Cond.value, given_1] using u1
    obtain ⟨L⟩ := args
    match L, hs with
    | [w0], _ => exact ⟨w0, rfl⟩
  have hw := fun d (hd : d ∈ tables_1) => atoms_spec (ws := Jvm.Cond.code x code maxLocals ret :: tables_1) hat d (List.mem_cons_of_mem _ hd)
  have hfit : Fit s := fun {y c} hc i hi => by
    obtain ⟨ha, rfl⟩ := Array.getElem?_eq_some_iff.mp hc
    have q := List.all_eq_true.mp ((Array.all_eq_true_iff_forall_mem.mp hF) _ (Array.getElem_mem ha)) i (List.mem_range.mpr hi)
    simpa [Array.getElem?_eq_getElem hi] using q
  obtain ⟨i0, ei0⟩ := is_v u2
  obtain rfl : w0 = (.int i0) := Option.some.inj ei0
  obtain ⟨q0, ev_q0⟩ := exa_v u3
  have E_q0 := Exa.start ev_q0 u3
  have S_q0 := Sta.start ev_q0 (Or.inr ⟨(hw _ (List.mem_of_getElem? (i := 5) rfl)), (hw _ (List.mem_of_getElem? (i := 6) rfl))⟩)
  obtain ⟨q1, ev_q1⟩ := exa_v u27
  have E_q1 := Exa.start ev_q1 u27
  have S_q1 := Sta.start ev_q1 (Or.inr ⟨(hw _ (List.mem_of_getElem? (i := 5) rfl)), (hw _ (List.mem_of_getElem? (i := 30) rfl))⟩)
  obtain ⟨q2, ev_q2⟩ := exa_v u23
  have E_q2 := Exa.start ev_q2 u23
  have S_q2 := Sta.start ev_q2 (Or.inr ⟨(hw _ (List.mem_of_getElem? (i := 5) rfl)), (hw _ (List.mem_of_getElem? (i := 28) rfl))⟩)
  obtain ⟨q3, ev_q3⟩ := exa_v u7
  have E_q3 := Exa.start ev_q3 u7
  have S_q3 := Sta.start ev_q3 (Or.inr ⟨(hw _ (List.mem_of_getElem? (i := 5) rfl)), (hw _ (List.mem_of_getElem? (i := 15) rfl))⟩)
  obtain ⟨q4, ev_q4⟩ := exa_v u31
  have E_q4 := Exa.start ev_q4 u31
  have S_q4 := Sta.start ev_q4 (Or.inr ⟨(hw _ (List.mem_of_getElem? (i := 5) rfl)), (hw _ (List.mem_of_getElem? (i := 32) rfl))⟩)
  obtain ⟨q5, ev_q5⟩ := exa_v u35
  have E_q5 := Exa.start ev_q5 u35
  have S_q5 := Sta.start ev_q5 (Or.inr ⟨(hw _ (List.mem_of_getElem? (i := 5) rfl)), (hw _ (List.mem_of_getElem? (i := 34) rfl))⟩)
  obtain ⟨q6, ev_q6⟩ := exa_v u11
  have E_q6 := Exa.start ev_q6 u11
  have S_q6 := Sta.start ev_q6 (Or.inr ⟨(hw _ (List.mem_of_getElem? (i := 5) rfl)), (hw _ (List.mem_of_getElem? (i := 17) rfl))⟩)
  obtain ⟨q7, ev_q7⟩ := exa_v u17
  have E_q7 := Exa.start ev_q7 u17
  have S_q7 := Sta.start ev_q7 (Or.inr ⟨(hw _ (List.mem_of_getElem? (i := 5) rfl)), (hw _ (List.mem_of_getElem? (i := 26) rfl))⟩)
  have F_q0 := own_fldN ev_q0 u5
  have F_q1 := own_fldN ev_q1 u29
  have F_q2 := own_fldN ev_q2 u25
  have F_q3 := own_fldN ev_q3 u9
  have F_q4 := own_fldN ev_q4 u33
  have F_q5 := own_fldR ev_q5 ev_q0 u37
  have F_q6 := own_fldR ev_q6 ev_q0 u13
  have F_q7 := own_fldR ev_q7 ev_q3 u19
  have U_q5 := own_fldI ev_q5 u39
  have U_q6 := own_fldI ev_q6 u15
  have U_q7 := own_fldI ev_q7 u21
  obtain ⟨n, o, h1, h2, h3, _, L, rfl, ⟨rfl, N⟩, hq⟩ := own_rm0 l s _ hw tables_1 i0 q0 q1 q2 q3 q4 q5 q6 q7 s.heap s.heap.size (Nat.le_refl _) S_q0 S_q1 S_q2 S_q3 S_q4 S_q5 S_q6 S_q7 E_q0 E_q1 E_q2 E_q3 E_q4 E_q5 E_q6 E_q7 F_q0 F_q1 F_q2 F_q3 F_q4 F_q5 F_q6 F_q7 U_q5 U_q6 U_q7 p e ha hc hk s m _ below hf ((Spec.applies_iff_loose hf).mp happ).1 ⟨rfl, State.Warmed39.refl s, rfl⟩ trivial
  refine ⟨n, _, h1, h2, h3, hpost _ _ _ _ _ _ ⟨Cond.after_iff.mpr rfl, Cond.after_iff.mpr (eq_i res_at (Term.int_eval (1)) rfl), trivial⟩ ⟨hq.1, hq.2.1, (hq.2.2.sift fun y hy => Or.inr (N y hy)).mono (by decide) (by decide)⟩⟩
theorem main_1_1 : Claimed_1_1 := own_comes fun _ _ _ _ _ _ h hF => ⟨h.1, hF⟩
theorem main_1_2 : Claimed_1_2 := own_comes fun _ _ _ _ _ _ h hF => ⟨h.2.1, hF⟩
end Jvm.Pilot.@@N@@
namespace Jvm.Pilot.@@N@@
open Jvm Jvm.ClassFile Sem Op Lib Jvm.Free Jvm.Stand Jvm.Pilot.@@N@@.Jvm.D
/-! MADE BY PROGRAM (witnessworld.py) out of the Statement's table words and the real class files: 12 classes; the members and pool entries that the words name. The judged class is class 1, her method 2. -/
namespace start1
open Jvm.ClassFile
def u (s : String) : CpInfo := .utf8 (stringToUtf16 s)
/-- a pool by its gaps: so many unusable entries, then the entry; so many at the end -/
def gap : Nat → List CpInfo → List CpInfo
  | 0, r => r
  | n + 1, r => .unusable :: gap n r
def poolList (es : List (Nat × CpInfo)) (last : Nat) : List CpInfo := es.foldr (fun e r => gap e.1 (e.2 :: r)) (gap last [])
def pool (es : List (Nat × CpInfo)) (last : Nat) : Array CpInfo := ⟨poolList es last⟩
def fileOf (pool : Array CpInfo) (this : Nat) (attrs : Array Attribute := #[]) (ms : Array MethodInfo := #[]) (fl : Nat := 33) (sup : Nat := 0) (ifs : Array Nat := #[]) (fds : Array FieldInfo := #[]) : ClassFile where
  minorVersion := 0
  majorVersion := 65
  constantPool := pool
  accessFlags := fl
  thisClass := this
  superClass := sup
  interfaces := ifs
  fields := fds
  methods := ms
  attributes := attrs
def plain (name : String) (sup : Option ClassId) : Class where
  name := name
  kind := .ordinary
  loader := none
  accessFlags := 33
  super := sup
  interfaces := #[]
  cf := none
  fields := #[]
  methods := #[]
  instanceTypes := #[]
  staticTypes := #[]
  resolved := #[]
  callSites := []
  init := .initialized
  statics := none
  mirror := none

def pool0 : Array CpInfo := pool [(5, u "<init>"), (0, u "()V"), (1, .class_ 10), (1, u "java/lang/Object")] 113

def k0m0 : Method := { name := "<init>", desc := "()V", sig := { parameters := [], returnType := none }, accessFlags := 1, code := none }
/-- java/lang/Object -/
def k0 : Class := { plain "java/lang/Object" none with
  accessFlags := 33
  interfaces := #[]
  cf := some (fileOf pool0 8 #[] #[{ accessFlags := 1, nameIndex := 5, descriptorIndex := 6, attributes := #[] }] 33 0 #[] #[])
  fields := #[]
  methods := #[k0m0]
  instanceTypes := #[]
  staticTypes := #[]
  resolved := Array.replicate 124 none
  statics := none }

def pool1 : Array CpInfo := pool [(2, .class_ 4), (1, u "java/lang/Object"), (0, u "<init>"), (0, u "()V"), (0, .fieldref 8 9), (0, .class_ 10), (0, .nameAndType 11 12), (0, u "com/example/klotho/klotho/InstanceStatus"), (0, u "RUNNING"), (0, u "Lcom/example/klotho/klotho/InstanceStatus;"), (0, .fieldref 8 14), (0, .nameAndType 15 12), (0, u "COMPLETED"), (0, .fieldref 8 17), (0, .nameAndType 18 12), (0, u "FAILED"), (0, .fieldref 8 20), (0, .nameAndType 21 12), (0, u "COMPENSATING"), (0, .fieldref 8 23), (0, .nameAndType 24 12), (0, u "CANCELLED"), (0, .fieldref 8 26), (0, .nameAndType 27 12), (0, u "WAITING_FOR_EVENT"), (0, .fieldref 8 29), (0, .nameAndType 30 12), (0, u "WAITING_FOR_TIMER"), (0, .fieldref 8 32), (0, .nameAndType 33 12), (0, u "WAITING_TO_COMPENSATE"), (0, .methodref 35 36), (0, .class_ 37), (0, .nameAndType 38 39), (0, u "com/example/klotho/klotho/InstanceStatusIsWaitingPinLaw"), (0, u "pick"), (0, u "(I)Lcom/example/klotho/klotho/InstanceStatus;"), (0, .methodref 8 41), (0, .nameAndType 42 43), (0, u "isWaiting"), (0, u "()Z"), (0, .methodref 8 45), (0, .nameAndType 46 43), (0, u "runsUnderLock"), (3, u "law"), (0, u "(I)Z")] 2

def k1m0 : Method := { name := "<init>", desc := "()V", sig := { parameters := [], returnType := none }, accessFlags := 2, code := none }
def k1c1 : Code := { maxStack := 2, maxLocals := 1, code := method_2_code, exceptionTable := #[], attributes := #[] }
def k1m1 : Method := { name := "pick", desc := "(I)Lcom/example/klotho/klotho/InstanceStatus;", sig := { parameters := [.int], returnType := some (.object "com/example/klotho/klotho/InstanceStatus") }, accessFlags := 10, code := some k1c1 }
def k1c2 : Code := { maxStack := 2, maxLocals := 5, code := code, exceptionTable := #[], attributes := #[] }
def k1m2 : Method := { name := "law", desc := "(I)Z", sig := { parameters := [.int], returnType := some .boolean }, accessFlags := 9, code := some k1c2 }
/-- com/example/klotho/klotho/InstanceStatusIsWaitingPinLaw -/
def k1 : Class := { plain "com/example/klotho/klotho/InstanceStatusIsWaitingPinLaw" (some 0) with
  accessFlags := 49
  interfaces := #[]
  cf := some (fileOf pool1 35 #[] #[{ accessFlags := 2, nameIndex := 5, descriptorIndex := 6, attributes := #[] }, { accessFlags := 10, nameIndex := 38, descriptorIndex := 39, attributes := #[] }, { accessFlags := 9, nameIndex := 50, descriptorIndex := 51, attributes := #[] }] 49 2 #[] #[])
  fields := #[]
  methods := #[k1m0, k1m1, k1m2]
  instanceTypes := #[]
  staticTypes := #[]
  resolved := Array.replicate 54 none
  statics := none }

def pool2 : Array CpInfo := pool [(1, .class_ 2), (0, u "java/lang/constant/Constable"), (0, .class_ 4), (0, u "java/lang/Object")] 6

/-- java/lang/constant/Constable -/
def k2 : Class := { plain "java/lang/constant/Constable" (some 0) with
  accessFlags := 1537
  interfaces := #[]
  cf := some (fileOf pool2 1 #[] #[] 1537 3 #[] #[])
  fields := #[]
  methods := #[]
  instanceTypes := #[]
  staticTypes := #[]
  resolved := Array.replicate 11 none
  statics := none }

def pool3 : Array CpInfo := pool [(1, .class_ 2), (0, u "java/lang/Comparable"), (0, .class_ 4), (0, u "java/lang/Object")] 7

/-- java/lang/Comparable -/
def k3 : Class := { plain "java/lang/Comparable" (some 0) with
  accessFlags := 1537
  interfaces := #[]
  cf := some (fileOf pool3 1 #[] #[] 1537 3 #[] #[])
  fields := #[]
  methods := #[]
  instanceTypes := #[]
  staticTypes := #[]
  resolved := Array.replicate 12 none
  statics := none }

def pool4 : Array CpInfo := pool [(1, .class_ 2), (0, u "java/io/Serializable"), (0, .class_ 4), (0, u "java/lang/Object")] 2

/-- java/io/Serializable -/
def k4 : Class := { plain "java/io/Serializable" (some 0) with
  accessFlags := 1537
  interfaces := #[]
  cf := some (fileOf pool4 1 #[] #[] 1537 3 #[] #[])
  fields := #[]
  methods := #[]
  instanceTypes := #[]
  staticTypes := #[]
  resolved := Array.replicate 7 none
  statics := none }

def pool5 : Array CpInfo := pool [(2, .class_ 4), (1, u "java/lang/Enum"), (0, u "name"), (0, u "Ljava/lang/String;"), (2, u "ordinal"), (0, u "I"), (1, .class_ 14), (1, u "java/lang/Object"), (4, u "hash"), (86, .class_ 108), (1, u "java/lang/Enum$EnumDesc"), (2, .class_ 112), (0, u "java/lang/constant/Constable"), (0, .class_ 114), (0, u "java/lang/Comparable"), (0, .class_ 116), (0, u "java/io/Serializable")] 87

/-- java/lang/Enum -/
def k5 : Class := { plain "java/lang/Enum" (some 0) with
  accessFlags := 1057
  interfaces := #[2, 3, 4]
  cf := some (fileOf pool5 2 #[.nestMembers #[106]] #[] 1057 12 #[111, 113, 115] #[{ accessFlags := 18, nameIndex := 5, descriptorIndex := 6, attributes := #[] }, { accessFlags := 18, nameIndex := 9, descriptorIndex := 10, attributes := #[] }, { accessFlags := 2, nameIndex := 19, descriptorIndex := 10, attributes := #[] }])
  fields := #[{ name := "name", type := (.object "java/lang/String"), accessFlags := 18, slot := 0, constantValue := 0 }, { name := "ordinal", type := .int, accessFlags := 18, slot := 1, constantValue := 0 }, { name := "hash", type := .int, accessFlags := 2, slot := 2, constantValue := 0 }]
  methods := #[]
  instanceTypes := #[(.object "java/lang/String"), .int, .int]
  staticTypes := #[]
  resolved := Array.replicate 204 none
  statics := none }

def pool6 : Array CpInfo := pool [(1, .class_ 2), (0, u "com/example/klotho/klotho/InstanceStatus"), (2, u "RUNNING"), (0, u "Lcom/example/klotho/klotho/InstanceStatus;"), (2, u "COMPLETED"), (2, u "FAILED"), (2, u "COMPENSATING"), (2, u "CANCELLED"), (2, u "WAITING_FOR_EVENT"), (2, u "WAITING_FOR_TIMER"), (2, u "WAITING_TO_COMPENSATE"), (2, u "$VALUES"), (0, u "[Lcom/example/klotho/klotho/InstanceStatus;"), (6, .class_ 40), (1, u "java/lang/Enum"), (8, u "storedName"), (0, u "Ljava/lang/String;"), (2, u "cancellable"), (0, u "Z"), (2, u "acceptsEvents"), (0, .fieldref 1 59), (0, .nameAndType 60 6), (0, u "resumesIn"), (0, .fieldref 1 62), (0, .nameAndType 63 54), (0, u "runsUnderLock"), (2, u "isWaiting"), (0, u "()Z")] 81

def k6c0 : Code := { maxStack := 1, maxLocals := 1, code := prog_19_method_7_code, exceptionTable := #[], attributes := #[] }
def k6m0 : Method := { name := "isWaiting", desc := "()Z", sig := { parameters := [], returnType := some .boolean }, accessFlags := 1, code := some k6c0 }
def k6c1 : Code := { maxStack := 1, maxLocals := 1, code := prog_19_method_9_code, exceptionTable := #[], attributes := #[] }
def k6m1 : Method := { name := "runsUnderLock", desc := "()Z", sig := { parameters := [], returnType := some .boolean }, accessFlags := 1, code := some k6c1 }
/-- com/example/klotho/klotho/InstanceStatus -/
def k6 : Class := { plain "com/example/klotho/klotho/InstanceStatus" (some 5) with
  accessFlags := 16433
  interfaces := #[]
  cf := some (fileOf pool6 1 #[] #[{ accessFlags := 1, nameIndex := 66, descriptorIndex := 67, attributes := #[] }, { accessFlags := 1, nameIndex := 63, descriptorIndex := 67, attributes := #[] }] 16433 38 #[] #[{ accessFlags := 16409, nameIndex := 5, descriptorIndex := 6, attributes := #[] }, { accessFlags := 16409, nameIndex := 9, descriptorIndex := 6, attributes := #[] }, { accessFlags := 16409, nameIndex := 12, descriptorIndex := 6, attributes := #[] }, { accessFlags := 16409, nameIndex := 15, descriptorIndex := 6, attributes := #[] }, { accessFlags := 16409, nameIndex := 18, descriptorIndex := 6, attributes := #[] }, { accessFlags := 16409, nameIndex := 21, descriptorIndex := 6, attributes := #[] }, { accessFlags := 16409, nameIndex := 24, descriptorIndex := 6, attributes := #[] }, { accessFlags := 16409, nameIndex := 27, descriptorIndex := 6, attributes := #[] }, { accessFlags := 18, nameIndex := 49, descriptorIndex := 50, attributes := #[] }, { accessFlags := 18, nameIndex := 53, descriptorIndex := 54, attributes := #[] }, { accessFlags := 18, nameIndex := 57, descriptorIndex := 54, attributes := #[] }, { accessFlags := 18, nameIndex := 60, descriptorIndex := 6, attributes := #[] }, { accessFlags := 18, nameIndex := 63, descriptorIndex := 54, attributes := #[] }, { accessFlags := 4122, nameIndex := 30, descriptorIndex := 31, attributes := #[] }])
  fields := #[{ name := "RUNNING", type := (.object "com/example/klotho/klotho/InstanceStatus"), accessFlags := 16409, slot := 0, constantValue := 0 }, { name := "COMPLETED", type := (.object "com/example/klotho/klotho/InstanceStatus"), accessFlags := 16409, slot := 1, constantValue := 0 }, { name := "FAILED", type := (.object "com/example/klotho/klotho/InstanceStatus"), accessFlags := 16409, slot := 2, constantValue := 0 }, { name := "COMPENSATING", type := (.object "com/example/klotho/klotho/InstanceStatus"), accessFlags := 16409, slot := 3, constantValue := 0 }, { name := "CANCELLED", type := (.object "com/example/klotho/klotho/InstanceStatus"), accessFlags := 16409, slot := 4, constantValue := 0 }, { name := "WAITING_FOR_EVENT", type := (.object "com/example/klotho/klotho/InstanceStatus"), accessFlags := 16409, slot := 5, constantValue := 0 }, { name := "WAITING_FOR_TIMER", type := (.object "com/example/klotho/klotho/InstanceStatus"), accessFlags := 16409, slot := 6, constantValue := 0 }, { name := "WAITING_TO_COMPENSATE", type := (.object "com/example/klotho/klotho/InstanceStatus"), accessFlags := 16409, slot := 7, constantValue := 0 }, { name := "storedName", type := (.object "java/lang/String"), accessFlags := 18, slot := 3, constantValue := 0 }, { name := "cancellable", type := .boolean, accessFlags := 18, slot := 4, constantValue := 0 }, { name := "acceptsEvents", type := .boolean, accessFlags := 18, slot := 5, constantValue := 0 }, { name := "resumesIn", type := (.object "com/example/klotho/klotho/InstanceStatus"), accessFlags := 18, slot := 6, constantValue := 0 }, { name := "runsUnderLock", type := .boolean, accessFlags := 18, slot := 7, constantValue := 0 }, { name := "$VALUES", type := (.array (.object "com/example/klotho/klotho/InstanceStatus")), accessFlags := 4122, slot := 8, constantValue := 0 }]
  methods := #[k6m0, k6m1]
  instanceTypes := #[(.object "java/lang/String"), .int, .int, (.object "java/lang/String"), .boolean, .boolean, (.object "com/example/klotho/klotho/InstanceStatus"), .boolean]
  staticTypes := #[(.object "com/example/klotho/klotho/InstanceStatus"), (.object "com/example/klotho/klotho/InstanceStatus"), (.object "com/example/klotho/klotho/InstanceStatus"), (.object "com/example/klotho/klotho/InstanceStatus"), (.object "com/example/klotho/klotho/InstanceStatus"), (.object "com/example/klotho/klotho/InstanceStatus"), (.object "com/example/klotho/klotho/InstanceStatus"), (.object "com/example/klotho/klotho/InstanceStatus"), (.array (.object "com/example/klotho/klotho/InstanceStatus"))]
  resolved := Array.replicate 149 none
  statics := some 0 }

def pool7 : Array CpInfo := pool [(1, u "java/lang/Cloneable"), (0, .class_ 1), (0, u "java/lang/Object"), (0, .class_ 3)] 3

/-- java/lang/Cloneable -/
def k7 : Class := { plain "java/lang/Cloneable" (some 0) with
  accessFlags := 1537
  interfaces := #[]
  cf := some (fileOf pool7 2 #[] #[] 1537 4 #[] #[])
  fields := #[]
  methods := #[]
  instanceTypes := #[]
  staticTypes := #[]
  resolved := Array.replicate 8 none
  statics := none }

/-- the primitive byte -/
def k8 : Class := { plain "byte" none with kind := .primitive 'B', accessFlags := 0x411 }
/-- [B -/
def k9 : Class := { plain "[B" (some 0) with kind := .array 8 .byte, interfaces := #[7, 4], accessFlags := 1041 }

/-- the primitive int -/
def k10 : Class := { plain "int" none with kind := .primitive 'I', accessFlags := 0x411 }
/-- [I -/
def k11 : Class := { plain "[I" (some 0) with kind := .array 10 .int, interfaces := #[7, 4], accessFlags := 1041 }

def heap : Heap := #[{ cls := 6, slots := #[.ref 1, .ref 2, .ref 3, .ref 4, .ref 5, .ref 6, .ref 7, .ref 8, .null], vm := .statics 6 },
  { cls := 6, slots := #[.null, .int 0, .int 0, .null, .int 0, .int 0, .null, .int 1], vm := .none },
  { cls := 6, slots := #[.null, .int 1, .int 0, .null, .int 0, .int 0, .null, .int 0], vm := .none },
  { cls := 6, slots := #[.null, .int 2, .int 0, .null, .int 0, .int 0, .null, .int 0], vm := .none },
  { cls := 6, slots := #[.null, .int 3, .int 0, .null, .int 0, .int 0, .null, .int 1], vm := .none },
  { cls := 6, slots := #[.null, .int 4, .int 0, .null, .int 0, .int 0, .null, .int 0], vm := .none },
  { cls := 6, slots := #[.null, .int 5, .int 0, .null, .int 0, .int 0, .ref 1, .int 0], vm := .none },
  { cls := 6, slots := #[.null, .int 6, .int 0, .null, .int 0, .int 0, .ref 1, .int 0], vm := .none },
  { cls := 6, slots := #[.null, .int 7, .int 0, .null, .int 0, .int 0, .ref 4, .int 0], vm := .none }]
def classes : Array Class := #[k0, k1, k2, k3, k4, k5, k6, k7, k8, k9, k10, k11]
def interned : List (Array UInt16 × Addr) := []
def slotsUsed : Nat := 73
def theMethod : MethodId := ⟨1, 2⟩
def args0 : Array Value := #[.int 5]
def aboutOver (below : List Frame) : State where
  vm := { classes := classes, interned := interned.toArray }
  heap := heap
  slotsUsed := slotsUsed
  threads := #[{ frames := .invoking theMethod args0 :: below }]
def below0 : List Frame := [.native { method := ⟨0, 0⟩, args := #[] }]
def about1 : State := aboutOver below0
def p0 : Program := .bare "" "" ""
def e0 : Env := launch0.env 0 0 0
theorem w_frames : about1.frames = Frame.invoking theMethod args0 :: below0 := rfl
set_option maxRecDepth 65536 in
theorem w_args : argsFit about1.vm theMethod args0 = true := by decide +kernel
set_option maxRecDepth 65536 in
theorem w_heap : heapFits about1 = true := by decide +kernel
set_option maxRecDepth 65536 in
theorem w_runnable : about1.curStatus? = some .runnable := by decide +kernel
set_option maxRecDepth 65536 in
theorem w_alone : about1.alone = true := by decide +kernel
set_option maxRecDepth 65536 in
theorem w_named : about1.methodNamed? x = some theMethod := by decide +kernel
set_option maxRecDepth 65536 in
theorem w_hears : about1.hears theMethod below0 = true := by decide +kernel
set_option maxRecDepth 65536 in
theorem w_ripe : about1.ripe theMethod args0 below0 = true := by decide +kernel
theorem w_running : about1.status = .running := rfl
set_option maxRecDepth 65536 in
theorem w_room : about1.hasRoom e0.platform room_1 = true :=
  launch0.hasRoom_least _ room_1 (by decide +kernel) (by decide +kernel) (by decide +kernel) (by decide +kernel) (by decide +kernel) (by decide +kernel)
theorem allAtoms_all (ts : List Jvm.Cond) (a : Array Jvm.Value) (st : Jvm.State) : (allAtoms ts).before a st = ts.all (fun c => c.before a st) := by
  induction ts with
  | nil => rfl
  | cons c t ih =>
    show (Jvm.Cond.and c (allAtoms t)).before a st = _
    rw [Jvm.Cond.before_and, ih, List.all_cons]
def words1 : List Jvm.Cond := Jvm.Cond.code x code maxLocals ret :: tables_1
/-- a 'code' word, met by the world's own term for the bytes: nothing is compared byte by byte -/
theorem code_word {y : MethodName} {bytes : ByteArray} {mx : Nat} {rt : Option FieldType} {a : Array Value} {s : State} {m : MethodId} {meth : Method} {c : Code} (h1 : s.methodNamed? y = some m) (h2 : s.vm.method? m = some meth) (h3 : meth.code = some c) (h4 : c.code = bytes)
    (h5 : (c.maxLocals == mx && c.exceptionTable.isEmpty && decide (c.maxStack ≤ mostOperands) && decide (meth.sig.returnType = rt) && !meth.locks && decide (parseMethodDescriptor y.desc = some meth.sig)) = true) : (Jvm.Cond.code y bytes mx rt).before a s = true := by
  simp only [Bool.and_eq_true, beq_iff_eq, Bool.not_eq_true', decide_eq_true_eq] at h5
  obtain ⟨⟨⟨⟨⟨g1, g2⟩, g3⟩, g4⟩, g5⟩, g6⟩ := h5
  simp [Cond.before, Cond.holds, Cond.value, h1, h2, h3, h4, g1, g2, g3, g4, g5, g6]
def isCode : Jvm.Cond → Bool
  | .code _ _ _ _ => true
  | _ => false
theorem all_split {L : List Jvm.Cond} {P : Jvm.Cond → Bool} (h1 : L.all (fun c => isCode c || P c) = true) (h2 : ∀ c ∈ L.filter isCode, P c = true) : L.all P = true := by
  refine List.all_eq_true.mpr fun c hc => ?_
  have h := List.all_eq_true.mp h1 c hc
  rcases Bool.eq_false_or_eq_true (isCode c) with hi | hi
  · exact h2 c (List.mem_filter.mpr ⟨hc, hi⟩)
  · simpa [hi] using h
set_option maxRecDepth 65536 in
theorem w_c0 : (Jvm.Cond.code x code maxLocals ret).before args0 about1 = true := code_word (m := ⟨1, 2⟩) (meth := k1m2) (c := k1c2) (by decide +kernel) rfl rfl rfl (by decide +kernel)
set_option maxRecDepth 65536 in
theorem w_c1 : (Jvm.Cond.code ({ cls := "com/example/klotho/klotho/InstanceStatusIsWaitingPinLaw", name := "pick", desc := "(I)Lcom/example/klotho/klotho/InstanceStatus;" } : Jvm.MethodName) method_2_code (1 : Nat) (Option.some (Jvm.ClassFile.FieldType.object "com/example/klotho/klotho/InstanceStatus"))).before args0 about1 = true := code_word (m := ⟨1, 1⟩) (meth := k1m1) (c := k1c1) (by decide +kernel) rfl rfl rfl (by decide +kernel)
set_option maxRecDepth 65536 in
theorem w_c2 : (Jvm.Cond.code ({ cls := "com/example/klotho/klotho/InstanceStatus", name := "isWaiting", desc := "()Z" } : Jvm.MethodName) prog_19_method_7_code (1 : Nat) (Option.some Jvm.ClassFile.FieldType.boolean)).before args0 about1 = true := code_word (m := ⟨6, 0⟩) (meth := k6m0) (c := k6c0) (by decide +kernel) rfl rfl rfl (by decide +kernel)
set_option maxRecDepth 65536 in
theorem w_c3 : (Jvm.Cond.code ({ cls := "com/example/klotho/klotho/InstanceStatus", name := "runsUnderLock", desc := "()Z" } : Jvm.MethodName) prog_19_method_9_code (1 : Nat) (Option.some Jvm.ClassFile.FieldType.boolean)).before args0 about1 = true := code_word (m := ⟨6, 1⟩) (meth := k6m1) (c := k6c1) (by decide +kernel) rfl rfl rfl (by decide +kernel)
def codes1 : List Jvm.Cond := [Jvm.Cond.code x code maxLocals ret, Jvm.Cond.code ({ cls := "com/example/klotho/klotho/InstanceStatusIsWaitingPinLaw", name := "pick", desc := "(I)Lcom/example/klotho/klotho/InstanceStatus;" } : Jvm.MethodName) method_2_code (1 : Nat) (Option.some (Jvm.ClassFile.FieldType.object "com/example/klotho/klotho/InstanceStatus")), Jvm.Cond.code ({ cls := "com/example/klotho/klotho/InstanceStatus", name := "isWaiting", desc := "()Z" } : Jvm.MethodName) prog_19_method_7_code (1 : Nat) (Option.some Jvm.ClassFile.FieldType.boolean), Jvm.Cond.code ({ cls := "com/example/klotho/klotho/InstanceStatus", name := "runsUnderLock", desc := "()Z" } : Jvm.MethodName) prog_19_method_9_code (1 : Nat) (Option.some Jvm.ClassFile.FieldType.boolean)]
set_option maxRecDepth 65536 in
theorem codes_eq : words1.filter isCode = codes1 := rfl
theorem w_codes : ∀ c ∈ words1.filter isCode, c.before args0 about1 = true := by
  rw [codes_eq]
  intro c hc
  simp only [codes1, List.mem_cons, List.not_mem_nil, or_false] at hc
  rcases hc with rfl | rfl | rfl | rfl
  · exact w_c0
  · exact w_c1
  · exact w_c2
  · exact w_c3
set_option maxRecDepth 65536 in
theorem w_t1 : (words1.take 24).all (fun c => isCode c || c.before args0 about1) = true := by decide +kernel
set_option maxRecDepth 65536 in
theorem w_t2 : (words1.drop 24).all (fun c => isCode c || c.before args0 about1) = true := by decide +kernel
theorem w_tables : (allAtoms (Jvm.Cond.code x code maxLocals ret :: tables_1)).before args0 about1 = true := by
  rw [allAtoms_all]
  show words1.all (fun c => c.before args0 about1) = true
  refine all_split ?_ w_codes
  rw [← List.take_append_drop 24 words1, List.all_append, w_t1, w_t2]
  rfl
set_option maxRecDepth 65536 in
theorem w_case : (Jvm.Cond.and given_1 narrow_1).before args0 about1 = true := by decide +kernel
theorem w_applies : (headSpec (Jvm.Cond.code x code maxLocals ret :: tables_1) room_1).applies x e0.platform about1 = true :=
  (Spec.applies_iff w_frames).mpr ⟨w_running, w_runnable, w_alone, w_named, w_hears, w_ripe, w_room, w_tables⟩
theorem atStart : AtStart classFile x code maxLocals ret World_1 tables_1 room_1 Calls_1 rest_1 Pre_1 launch0 p0 e0 about1 theMethod args0 below0 :=
  ⟨lists_1, trivial, launch0.admits_env _ _ _, launch0.least_env, fairChoices_fair.cas, fairChoices_fair.clock, w_frames, w_args, w_heap, w_applies, trivial, trivial, w_case⟩
end start1
theorem witness_1 : WitnessClaimed_1 := ⟨start1.p0, start1.e0, start1.about1, start1.theMethod, start1.args0, start1.below0, start1.atStart⟩
end Jvm.Pilot.@@N@@
