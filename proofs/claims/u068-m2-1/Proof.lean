import JvmDerived
import JvmDerived.Pilot.@@N@@Statement
import JvmDerived.Pilot.@@N@@Code
set_option linter.unusedVariables false
set_option linter.unusedSimpArgs false
namespace Jvm.Pilot.@@N@@
open Jvm Jvm.ClassFile Sem Op Lib Jvm.Free Jvm.Stand Jvm.LawKit Jvm.RoadKit Bundle Jvm.Pilot.@@N@@.Jvm.D
/-- the walk's goal, seen from a state: it comes to an end of which P holds -/
def OwnFin (tb : Tables) (e : Env) (below : List Frame) (P : State → Outcome → Prop) (S : State) : Prop := ∃ t o, Steps tb e below S t ∧ P t o
theorem OwnFin.adv {tb : Tables} {e : Env} {below : List Frame} {P : State → Outcome → Prop} {A B : State} (h : ∀ t, Steps tb e below B t → Steps tb e below A t) (k : OwnFin tb e below P B) : OwnFin tb e below P A := by
  obtain ⟨t, o, h1, h2⟩ := k
  exact ⟨t, o, h t h1, h2⟩
theorem OwnFin.entry {tb : Tables} {e : Env} {below : List Frame} {P : State → Outcome → Prop} {T : State} {g g' : JFrame} (q : g = g') (k : ∀ P', P' = P → OwnFin tb e below P' (T.setTop g')) : ∃ t o, Steps tb e below (T.setTop g) t ∧ P t o := by
  subst q; exact k P rfl
theorem OwnFin.leaf {tb : Tables} {e : Env} {below : List Frame} {P P' : State → Outcome → Prop} {S : State} (q : P' = P) (k : ∃ t o, Steps tb e below S t ∧ P t o) : OwnFin tb e below P' S := by
  subst q; exact k
theorem own_monoW {s t : State} {o : Outcome} {L : List Loc} {k n k' n' : Nat} (h : ReturnedEndW s o t L k n) (hk : k ≤ k') (hn : n ≤ n') : ReturnedEndW s o t L k' n' := ⟨h.1, h.2.1, h.2.2.1, h.2.2.2.mono hk hn⟩
theorem own_chend {Z : State} {EL : List (String × Nat)} {vm0 vm1 vm2 : Vm} {U0 U1 : State} {h0 h1 : Heap} (A : CHr Z EL U0.vm h0 vm1 h1) (B : CHr Z EL vm1 h1 vm2 h1) (e0 : U0.heap = h0) (e1 : U1.heap = h1) : CHr Z EL U0.vm U0.heap vm2 U1.heap := by
  rw [e0, e1]; exact A.trans B
theorem own_staK {Z : State} {n0 : Nat} {h : Heap} {C n d : String} {v : Value} (S : Sta Z Z.heap C n d v) (O : Old Z n0 h) : Sta Z h C n d v := S.ext O.2
section OwnRet
variable {p : Program} {l : Launch} {e : Env} {R : Room} {s : State} {m : MethodId} {args : Array Value} {below : List Frame} {meth : Method} {c : Code} {T : State} {locs : List Loc} {cells slots : Nat}
theorem own_retI (X : Stand p l e R s m args below meth c T locs cells slots) (hx : p.tables.exec = Jvm.exec) {pc : Nat} {Ls : Array Slot} {z : Int32} {rest : List Value} (hret : meth.sig.returnType = some .int) (hd : decode c.code pc = .ok (.ireturn, 1)) {fs : List Frame}
    (hl : ∀ (f : JFrame) (acts : List Action), f.method = m → f.locked = none → f.entered = [] → (doReturn e (T.setTop f) acts (some (.int z))).1 = T.setFrames fs) : Steps p.tables e below (T.setTop (mkF m pc Ls (.int z :: rest))) (T.setFrames fs) :=
  retOut X hx hret rfl (Or.inl ⟨rfl, Or.inl rfl, z, rfl⟩) hd hl
theorem own_retL (X : Stand p l e R s m args below meth c T locs cells slots) (hx : p.tables.exec = Jvm.exec) {pc : Nat} {Ls : Array Slot} {z : Int64} {rest : List Value} (hret : meth.sig.returnType = some .long) (hd : decode c.code pc = .ok (.lreturn, 1)) {fs : List Frame}
    (hl : ∀ (f : JFrame) (acts : List Action), f.method = m → f.locked = none → f.entered = [] → (doReturn e (T.setTop f) acts (some (.long z))).1 = T.setFrames fs) : Steps p.tables e below (T.setTop (mkF m pc Ls (.long z :: rest))) (T.setFrames fs) :=
  retOut X hx hret rfl (Or.inr (Or.inl ⟨rfl, rfl, z, rfl⟩)) hd hl
theorem own_retR (X : Stand p l e R s m args below meth c T locs cells slots) (hx : p.tables.exec = Jvm.exec) {pc : Nat} {Ls : Array Slot} {w : Value} {t : FieldType} {rest : List Value} (hret : meth.sig.returnType = some t) (ht : t.isReference = true) (hn : narrow t w = w) (hw : w.isRef = true) (hd : decode c.code pc = .ok (.areturn, 1)) {fs : List Frame}
    (hl : ∀ (f : JFrame) (acts : List Action), f.method = m → f.locked = none → f.entered = [] → (doReturn e (T.setTop f) acts (some w)).1 = T.setFrames fs) : Steps p.tables e below (T.setTop (mkF m pc Ls (w :: rest))) (T.setFrames fs) :=
  retOut X hx hret hn (Or.inr (Or.inr (Or.inr (Or.inr ⟨rfl, ht, hw⟩)))) hd hl
end OwnRet
theorem own_eqI {args : Array Value} {first s : State} {o : Option Outcome} {idx : List Nat} {t : Term} {k : Int32} (h : (Cond.eq t (Term.int k)).value args first o s idx = some true) : t.eval args first o idx s = some (.int k) := by
  simp only [Cond.value, Term.eval] at h
  cases ht : t.eval args first o idx s with
  | none => simp [ht] at h
  | some x => cases x <;> simp [ht] at h ⊢; exact h
theorem own_fldI {Z : State} {args : Array Value} {t : Term} {a : Addr} {C n d : String} {k : Int32} (ht : t.eval args Z none [] Z = some (.ref a)) (h : (Cond.eq (Term.field t C n d) (Term.int k)).value args Z none Z [] = some true) : Fld Z Z.heap a C n d (.int k) :=
  Fld.start ((fld_at ht).symm.trans (own_eqI h))

theorem own_d1_0 : decode prog_50_method_5_code 0 = .ok (.iload_n 1, 1) := by decide +kernel
theorem own_d1_1 : decode prog_50_method_5_code 1 = .ok (.aload_n 0, 1) := by decide +kernel
theorem own_d1_2 : decode prog_50_method_5_code 2 = .ok (.getfield 35, 3) := by decide +kernel
theorem own_d1_5 : decode prog_50_method_5_code 5 = .ok (.if_icmp .lt 7, 3) := by decide +kernel
theorem own_d1_12 : decode prog_50_method_5_code 12 = .ok (.iconst 0, 1) := by decide +kernel
theorem own_d1_13 : decode prog_50_method_5_code 13 = .ok (.ireturn, 1) := by decide +kernel
theorem own_d1_8 : decode prog_50_method_5_code 8 = .ok (.iconst 1, 1) := by decide +kernel
theorem own_d1_9 : decode prog_50_method_5_code 9 = .ok (.goto 4, 3) := by decide +kernel
theorem own_ef_rm1 (m : MethodId) (x0 : Addr) (x1 : Int32) : entryFrame m #[(.ref x0), (.int x1)] 2 = mkF m 0 #[.val (.ref x0), .val (.int x1)] [] := by first | (simp [entryFrame, mkF, argsToLocals, Value.category]; done) | rfl
theorem own_pn_com_example_oleaster_oleaster_model_CropYears : plainName "com/example/oleaster/oleaster/model/CropYears" = true := by first | (simp [plainName, overriddenIn]; done) | decide +kernel
def own_Q_rm1 (Z : State) (ob : Addr) (yr f0 : Int32) (h0 : Heap) (n0 : Nat) (v : Option Value) (h : Heap) (L : List Loc) : Prop := v = some (.int (if yr < f0 then (0 : Int32) else 1)) ∧ Fr n0 L ∧ h = h0
set_option maxRecDepth 65536 in
set_option maxHeartbeats 40000000 in
theorem own_rm1 (l : Launch) (Z : State) (a0 : Array Value) (hw : ∀ d ∈ tables_1, d.before a0 Z = true) (ws : List Jvm.Cond) (ob : Addr) (yr f0 : Int32) (h0 : Heap) (n0 : Nat) (Z0 : n0 ≤ h0.size) (F_first : Fld Z h0 ob "com/example/oleaster/oleaster/model/CropYears" "first" "I" (.int f0)) :
    MetFree l (⟨"com/example/oleaster/oleaster/model/CropYears", "holds", "(I)Z"⟩ : MethodName) (head1 (Jvm.Cond.code (⟨"com/example/oleaster/oleaster/model/CropYears", "holds", "(I)Z"⟩ : MethodName) prog_50_method_5_code 2 (some .boolean) :: ws) ({ frames := 0, cells := 0, slots := 0, locals := 0 } : Room)) (fun A0 U0 => A0 = #[(.ref ob), (.int yr)] ∧ Z.Warmed39 U0.vm ∧ U0.heap = h0) (fun _ _ _ _ _ => True) (fun _ U0 o0 U1 => ∃ v0 L0, o0 = .returned v0 ∧ own_Q_rm1 Z ob yr f0 h0 n0 v0 U1.heap L0 ∧ FrameEnd U0 o0 U1 L0 ({ frames := 0, cells := 0, slots := 0, locals := 0 } : Room).cells ({ frames := 0, cells := 0, slots := 0, locals := 0 } : Room).slots) := by
  refine MetFree.of_bodySF (plainFor_of_name own_pn_com_example_oleaster_oleaster_model_CropYears) hisR ?_
  intro p e s m args below meth c s₁ Bd hml0 hP hK
  obtain ⟨rfl, hZ, hh⟩ := hP
  have hx := Bd.exec
  have hby := Bd.bytes
  have hml : c.maxLocals = 2 := hml0
  have hown : s.vm.findClass "com/example/oleaster/oleaster/model/CropYears" = some m.cls := findClass_of_methodNamed Bd.named
  have hnm := (name_of_methodNamed Bd.named Bd.method).1
  have X0 : Stand p l e ({ frames := 0, cells := 0, slots := 0, locals := 0 } : Room) s m #[(.ref ob), (.int yr)] below meth c s₁ [] 0 0 := Stand.of_body Bd
  have e0 : s₁.heap = h0 := by rw [← hh, Bd.state]; rfl
  have N0 := Fr.nil n0
  refine OwnFin.entry (own_ef_rm1 m ob yr) (fun P' hP' => ?_)
  refine OwnFin.adv (B := s₁.setTop (mkF m 1 #[.val (.ref ob), .val (.int yr)] [(.int yr)])) (fun _ k => XS.iloadN X0.here hx rfl (hb hby own_d1_0) rfl k) ?_
  refine OwnFin.adv (B := s₁.setTop (mkF m 2 #[.val (.ref ob), .val (.int yr)] [(.ref ob), (.int yr)])) (fun _ k => XS.aloadN X0.here hx rfl (hb hby own_d1_1) rfl rfl k) ?_
  obtain ⟨T1, X1, e1, st1⟩ := getF X0 hx hZ hown (host := "") (Or.inl (hw _ (List.mem_of_getElem? (i := 8) rfl))) Via.refl e0 F_first (g := (mkF m 2 #[.val (.ref ob), .val (.int yr)] [(.ref ob), (.int yr)])) rfl rfl (hb hby own_d1_2)
  refine OwnFin.adv (B := T1.setTop (mkF m 5 #[.val (.ref ob), .val (.int yr)] [(.int f0), (.int yr)])) (fun _ k => st1 _ k) ?_
  by_cases hc5 : yr < f0
  ·
    refine OwnFin.adv (B := T1.setTop (mkF m 12 #[.val (.ref ob), .val (.int yr)] [])) (fun _ k => XS.icmpYes X1.here hx rfl (pc0 := 5) (pc' := 12) rfl (hb hby own_d1_5) rfl (tlt hc5).1 (by decide) (by decide) k) ?_
    refine OwnFin.adv (B := T1.setTop (mkF m 13 #[.val (.ref ob), .val (.int yr)] [(.int (0 : Int32))])) (fun _ k => XS.iconst X1.here hx rfl (hb hby own_d1_12) k) ?_
    obtain ⟨fs, hr, hrun, hended, hW, hsame⟩ := X1.leave (v := some (.int (0 : Int32))) (fun h => by rw [Bd.returns] at h; cases h)
    refine OwnFin.leaf hP' ⟨_, _, retN X1 hx (t := .boolean) Bd.returns (by simp) (hb hby own_d1_13) hr, hrun, hended, _, _, rfl, ?_, ⟨_, rfl⟩, hW, hsame.mono (by decide) (by decide)⟩
    exact ⟨by simp [hc5], N0, e1⟩
  ·
    refine OwnFin.adv (B := T1.setTop (mkF m 8 #[.val (.ref ob), .val (.int yr)] [])) (fun _ k => XS.icmpNo X1.here hx rfl (hb hby own_d1_5) rfl (flt hc5).1 k) ?_
    refine OwnFin.adv (B := T1.setTop (mkF m 9 #[.val (.ref ob), .val (.int yr)] [(.int (1 : Int32))])) (fun _ k => XS.iconst X1.here hx rfl (hb hby own_d1_8) k) ?_
    refine OwnFin.adv (B := T1.setTop (mkF m 13 #[.val (.ref ob), .val (.int yr)] [(.int (1 : Int32))])) (fun _ k => XS.goto X1.here hx rfl (pc0 := 9) (pc' := 13) rfl (hb hby own_d1_9) (by decide) (by decide) k) ?_
    obtain ⟨fs, hr, hrun, hended, hW, hsame⟩ := X1.leave (v := some (.int (1 : Int32))) (fun h => by rw [Bd.returns] at h; cases h)
    refine OwnFin.leaf hP' ⟨_, _, retN X1 hx (t := .boolean) Bd.returns (by simp) (hb hby own_d1_13) hr, hrun, hended, _, _, rfl, ?_, ⟨_, rfl⟩, hW, hsame.mono (by decide) (by decide)⟩
    exact ⟨by simp [hc5], N0, e1⟩
theorem own_pd_x28Ix29Z : parseMethodDescriptor "(I)Z" = some ⟨[.int], some .boolean⟩ := by decide +kernel
theorem own_ef_rm0 (m : MethodId) (x0 : Int32) (x1 : Int32) (x2 : Int32) : entryFrame m #[(.int x0), (.int x1), (.int x2)] maxLocals = mkF m 0 #[.val (.int x0), .val (.int x1), .val (.int x2), .unset, .unset, .unset, .unset, .unset] [] := by first | (simp [entryFrame, mkF, argsToLocals, Value.category, maxLocals]; done) | rfl
theorem own_pn_com_example_oleaster_oleaster_model_CropYearsHoldsPinLaw : plainName "com/example/oleaster/oleaster/model/CropYearsHoldsPinLaw" = true := by first | (simp [plainName, overriddenIn]; done) | decide +kernel
def own_Q_rm0 (Z : State) (wh yr md : Int32) (q0 q1 q2 q3 : Addr) (h0 : Heap) (n0 : Nat) (v : Option Value) (h : Heap) (L : List Loc) : Prop := v = some (.int (1 : Int32)) ∧ Fr n0 L
set_option maxRecDepth 65536 in
set_option maxHeartbeats 40000000 in
theorem own_rm0 (l : Launch) (Z : State) (a0 : Array Value) (hw : ∀ d ∈ tables_1, d.before a0 Z = true) (ws : List Jvm.Cond) (wh yr md : Int32) (q0 q1 q2 q3 : Addr) (h0 : Heap) (n0 : Nat) (Z0 : n0 ≤ h0.size) (S_q0 : Sta Z h0 "com/example/oleaster/oleaster/model/CropYears" "CROP_PROVISIONS" "Lcom/example/oleaster/oleaster/model/CropYears;" (.ref q0)) (S_q1 : Sta Z h0 "com/example/oleaster/oleaster/model/CropYears" "PREMIUM_TABLES" "Lcom/example/oleaster/oleaster/model/CropYears;" (.ref q1)) (S_q2 : Sta Z h0 "com/example/oleaster/oleaster/model/CropYears" "INSURABILITY_REQUIREMENTS" "Lcom/example/oleaster/oleaster/model/CropYears;" (.ref q2)) (S_q3 : Sta Z h0 "com/example/oleaster/oleaster/model/CropYears" "LOSS_ADJUSTMENT_HANDBOOK" "Lcom/example/oleaster/oleaster/model/CropYears;" (.ref q3)) (E_q0 : Exa Z h0 q0 "com/example/oleaster/oleaster/model/CropYears") (E_q1 : Exa Z h0 q1 "com/example/oleaster/oleaster/model/CropYears") (E_q2 : Exa Z h0 q2 "com/example/oleaster/oleaster/model/CropYears") (E_q3 : Exa Z h0 q3 "com/example/oleaster/oleaster/model/CropYears") (F_q0 : Fld Z h0 q0 "com/example/oleaster/oleaster/model/CropYears" "first" "I" (.int (2012 : Int32))) (F_q1 : Fld Z h0 q1 "com/example/oleaster/oleaster/model/CropYears" "first" "I" (.int (2015 : Int32))) (F_q2 : Fld Z h0 q2 "com/example/oleaster/oleaster/model/CropYears" "first" "I" (.int (2016 : Int32))) (F_q3 : Fld Z h0 q3 "com/example/oleaster/oleaster/model/CropYears" "first" "I" (.int (2018 : Int32))) :
    MetFree l x (head1 (Jvm.Cond.code x code maxLocals ret :: ws) room_1) (fun A0 U0 => A0 = #[(.int wh), (.int yr), (.int md)] ∧ Z.Warmed39 U0.vm ∧ U0.heap = h0) (fun _ _ _ _ _ => True) (fun _ U0 o0 U1 => ∃ v0 L0, o0 = .returned v0 ∧ own_Q_rm0 Z wh yr md q0 q1 q2 q3 h0 n0 v0 U1.heap L0 ∧ FrameEnd U0 o0 U1 L0 room_1.cells room_1.slots) := by
  refine MetFree.of_bodySF (plainFor_of_name own_pn_com_example_oleaster_oleaster_model_CropYearsHoldsPinLaw) hisR ?_
  intro p e s m args below meth c s₁ Bd hml0 hP hK
  obtain ⟨rfl, hZ, hh⟩ := hP
  have hx := Bd.exec
  have hby := Bd.bytes
  have hml : c.maxLocals = 8 := hml0
  have hown : s.vm.findClass "com/example/oleaster/oleaster/model/CropYearsHoldsPinLaw" = some m.cls := findClass_of_methodNamed Bd.named
  have hnm := (name_of_methodNamed Bd.named Bd.method).1
  have X0 : Stand p l e room_1 s m #[(.int wh), (.int yr), (.int md)] below meth c s₁ [] 0 0 := Stand.of_body Bd
  have e0 : s₁.heap = h0 := by rw [← hh, Bd.state]; rfl
  have N0 := Fr.nil n0
  refine OwnFin.entry (own_ef_rm0 m wh yr md) (fun P' hP' => ?_)
  refine OwnFin.adv (B := s₁.setTop (mkF m 1 #[.val (.int wh), .val (.int yr), .val (.int md), .unset, .unset, .unset, .unset, .unset] [(.int wh)])) (fun _ k => XS.iloadN X0.here hx rfl (hb hby at_0) rfl k) ?_
  refine OwnFin.adv (B := s₁.setTop (mkF m 2 #[.val (.int wh), .val (.int yr), .val (.int md), .unset, .unset, .unset, .unset, .unset] [(.int (3 : Int32)), (.int wh)])) (fun _ k => XS.iconst X0.here hx rfl (hb hby at_1) k) ?_
  refine OwnFin.adv (B := s₁.setTop (mkF m 3 #[.val (.int wh), .val (.int yr), .val (.int md), .unset, .unset, .unset, .unset, .unset] [(.int (wh &&& (3 : Int32)))])) (fun _ k => XS.iand X0.here hx rfl (hb hby at_2) rfl k) ?_
  refine OwnFin.adv (B := s₁.setTop (mkF m 4 #[.val (.int wh), .val (.int yr), .val (.int md), .val (.int (wh &&& (3 : Int32))), .unset, .unset, .unset, .unset] [])) (fun _ k => XS.istoreN X0.here hx rfl (hb hby at_3) rfl (l' := #[.val (.int wh), .val (.int yr), .val (.int md), .val (.int (wh &&& (3 : Int32))), .unset, .unset, .unset, .unset]) rfl k) ?_
  refine OwnFin.adv (B := s₁.setTop (mkF m 5 #[.val (.int wh), .val (.int yr), .val (.int md), .val (.int (wh &&& (3 : Int32))), .unset, .unset, .unset, .unset] [(.int (wh &&& (3 : Int32)))])) (fun _ k => XS.iloadN X0.here hx rfl (hb hby at_4) rfl k) ?_
  by_cases hc5 : (wh &&& (3 : Int32)) = (0 : Int32)
  ·
    refine OwnFin.adv (B := s₁.setTop (mkF m 8 #[.val (.int wh), .val (.int yr), .val (.int md), .val (.int (wh &&& (3 : Int32))), .unset, .unset, .unset, .unset] [])) (fun _ k => XS.ifNo X0.here hx rfl (hb hby at_5) rfl ((if0 _ _).trans (teq hc5).2) k) ?_
    obtain ⟨T1, X1, e1, st1⟩ := getS2 X0 hx hZ hown (host := "") (Or.inl (hw _ (List.mem_of_getElem? (i := 0) rfl))) Via.refl e0 S_q0 (g := (mkF m 8 #[.val (.int wh), .val (.int yr), .val (.int md), .val (.int (wh &&& (3 : Int32))), .unset, .unset, .unset, .unset] [])) rfl (hb hby at_8)
    refine OwnFin.adv (B := T1.setTop (mkF m 11 #[.val (.int wh), .val (.int yr), .val (.int md), .val (.int (wh &&& (3 : Int32))), .unset, .unset, .unset, .unset] [(.ref q0)])) (fun _ k => st1 _ k) ?_
    refine OwnFin.adv (B := T1.setTop (mkF m 13 #[.val (.int wh), .val (.int yr), .val (.int md), .val (.int (wh &&& (3 : Int32))), .val (.ref q0), .unset, .unset, .unset] [])) (fun _ k => XS.astore X1.here hx rfl (hb hby at_11) rfl rfl (l' := #[.val (.int wh), .val (.int yr), .val (.int md), .val (.int (wh &&& (3 : Int32))), .val (.ref q0), .unset, .unset, .unset]) rfl k) ?_
    refine OwnFin.adv (B := T1.setTop (mkF m 16 #[.val (.int wh), .val (.int yr), .val (.int md), .val (.int (wh &&& (3 : Int32))), .val (.ref q0), .unset, .unset, .unset] [(.int (2012 : Int32))])) (fun _ k => XS.sipush X1.here hx rfl (hb hby at_13) k) ?_
    refine OwnFin.adv (B := T1.setTop (mkF m 18 #[.val (.int wh), .val (.int yr), .val (.int md), .val (.int (wh &&& (3 : Int32))), .val (.ref q0), .val (.int (2012 : Int32)), .unset, .unset] [])) (fun _ k => XS.istore X1.here hx rfl (hb hby at_16) rfl (l' := #[.val (.int wh), .val (.int yr), .val (.int md), .val (.int (wh &&& (3 : Int32))), .val (.ref q0), .val (.int (2012 : Int32)), .unset, .unset]) rfl k) ?_
    refine OwnFin.adv (B := T1.setTop (mkF m 67 #[.val (.int wh), .val (.int yr), .val (.int md), .val (.int (wh &&& (3 : Int32))), .val (.ref q0), .val (.int (2012 : Int32)), .unset, .unset] [])) (fun _ k => XS.goto X1.here hx rfl (pc0 := 18) (pc' := 67) rfl (hb hby at_18) (by decide) (by decide) k) ?_
    refine OwnFin.adv (B := T1.setTop (mkF m 68 #[.val (.int wh), .val (.int yr), .val (.int md), .val (.int (wh &&& (3 : Int32))), .val (.ref q0), .val (.int (2012 : Int32)), .unset, .unset] [(.int md)])) (fun _ k => XS.iloadN X1.here hx rfl (hb hby at_67) rfl k) ?_
    refine OwnFin.adv (B := T1.setTop (mkF m 69 #[.val (.int wh), .val (.int yr), .val (.int md), .val (.int (wh &&& (3 : Int32))), .val (.ref q0), .val (.int (2012 : Int32)), .unset, .unset] [(.int (1 : Int32)), (.int md)])) (fun _ k => XS.iconst X1.here hx rfl (hb hby at_68) k) ?_
    refine OwnFin.adv (B := T1.setTop (mkF m 70 #[.val (.int wh), .val (.int yr), .val (.int md), .val (.int (wh &&& (3 : Int32))), .val (.ref q0), .val (.int (2012 : Int32)), .unset, .unset] [(.int (md &&& (1 : Int32)))])) (fun _ k => XS.iand X1.here hx rfl (hb hby at_69) rfl k) ?_
    by_cases hc70 : (md &&& (1 : Int32)) = (0 : Int32)
    ·
      refine OwnFin.adv (B := T1.setTop (mkF m 84 #[.val (.int wh), .val (.int yr), .val (.int md), .val (.int (wh &&& (3 : Int32))), .val (.ref q0), .val (.int (2012 : Int32)), .unset, .unset] [])) (fun _ k => XS.ifYes X1.here hx rfl (pc0 := 70) (pc' := 84) rfl (hb hby at_70) rfl ((if0 _ _).trans (teq hc70).1) (by decide) (by decide) k) ?_
      refine OwnFin.adv (B := T1.setTop (mkF m 85 #[.val (.int wh), .val (.int yr), .val (.int md), .val (.int (wh &&& (3 : Int32))), .val (.ref q0), .val (.int (2012 : Int32)), .unset, .unset] [(.int yr)])) (fun _ k => XS.iloadN X1.here hx rfl (hb hby at_84) rfl k) ?_
      refine OwnFin.adv (B := T1.setTop (mkF m 87 #[.val (.int wh), .val (.int yr), .val (.int md), .val (.int (wh &&& (3 : Int32))), .val (.ref q0), .val (.int (2012 : Int32)), .val (.int yr), .unset] [])) (fun _ k => XS.istore X1.here hx rfl (hb hby at_85) rfl (l' := #[.val (.int wh), .val (.int yr), .val (.int md), .val (.int (wh &&& (3 : Int32))), .val (.ref q0), .val (.int (2012 : Int32)), .val (.int yr), .unset]) rfl k) ?_
      refine OwnFin.adv (B := T1.setTop (mkF m 89 #[.val (.int wh), .val (.int yr), .val (.int md), .val (.int (wh &&& (3 : Int32))), .val (.ref q0), .val (.int (2012 : Int32)), .val (.int yr), .unset] [(.int yr)])) (fun _ k => XS.iload X1.here hx rfl (hb hby at_87) rfl k) ?_
      refine OwnFin.adv (B := T1.setTop (mkF m 91 #[.val (.int wh), .val (.int yr), .val (.int md), .val (.int (wh &&& (3 : Int32))), .val (.ref q0), .val (.int (2012 : Int32)), .val (.int yr), .unset] [(.int (2012 : Int32)), (.int yr)])) (fun _ k => XS.iload X1.here hx rfl (hb hby at_89) rfl k) ?_
      by_cases hc91 : yr < (2012 : Int32)
      ·
        refine OwnFin.adv (B := T1.setTop (mkF m 94 #[.val (.int wh), .val (.int yr), .val (.int md), .val (.int (wh &&& (3 : Int32))), .val (.ref q0), .val (.int (2012 : Int32)), .val (.int yr), .unset] [])) (fun _ k => XS.icmpNo X1.here hx rfl (hb hby at_91) rfl (tlt hc91).2.1 k) ?_
        refine OwnFin.adv (B := T1.setTop (mkF m 95 #[.val (.int wh), .val (.int yr), .val (.int md), .val (.int (wh &&& (3 : Int32))), .val (.ref q0), .val (.int (2012 : Int32)), .val (.int yr), .unset] [(.int (0 : Int32))])) (fun _ k => XS.iconst X1.here hx rfl (hb hby at_94) k) ?_
        refine OwnFin.adv (B := T1.setTop (mkF m 97 #[.val (.int wh), .val (.int yr), .val (.int md), .val (.int (wh &&& (3 : Int32))), .val (.ref q0), .val (.int (2012 : Int32)), .val (.int yr), .val (.int (0 : Int32))] [])) (fun _ k => XS.istore X1.here hx rfl (hb hby at_95) rfl (l' := #[.val (.int wh), .val (.int yr), .val (.int md), .val (.int (wh &&& (3 : Int32))), .val (.ref q0), .val (.int (2012 : Int32)), .val (.int yr), .val (.int (0 : Int32))]) rfl k) ?_
        refine OwnFin.adv (B := T1.setTop (mkF m 103 #[.val (.int wh), .val (.int yr), .val (.int md), .val (.int (wh &&& (3 : Int32))), .val (.ref q0), .val (.int (2012 : Int32)), .val (.int yr), .val (.int (0 : Int32))] [])) (fun _ k => XS.goto X1.here hx rfl (pc0 := 97) (pc' := 103) rfl (hb hby at_97) (by decide) (by decide) k) ?_
        refine OwnFin.adv (B := T1.setTop (mkF m 105 #[.val (.int wh), .val (.int yr), .val (.int md), .val (.int (wh &&& (3 : Int32))), .val (.ref q0), .val (.int (2012 : Int32)), .val (.int yr), .val (.int (0 : Int32))] [(.ref q0)])) (fun _ k => XS.aload X1.here hx rfl (hb hby at_103) rfl rfl k) ?_
        refine OwnFin.adv (B := T1.setTop (mkF m 107 #[.val (.int wh), .val (.int yr), .val (.int md), .val (.int (wh &&& (3 : Int32))), .val (.ref q0), .val (.int (2012 : Int32)), .val (.int yr), .val (.int (0 : Int32))] [(.int yr), (.ref q0)])) (fun _ k => XS.iload X1.here hx rfl (hb hby at_105) rfl k) ?_
        obtain ⟨cq2, kq2, q2a, q2b, q2c⟩ := isOf hZ e1 E_q0
        obtain ⟨_, _, ⟨T2, L2, k2, n2⟩, -, X2, ⟨Lc2, hQ2, l2, y2, z2⟩, st2⟩ := X1.virtualBack hx (y := (⟨"com/example/oleaster/oleaster/model/CropYears", "holds", "(I)Z"⟩ : MethodName)) (z := (⟨"com/example/oleaster/oleaster/model/CropYears", "holds", "(I)Z"⟩ : MethodName)) hown (mvT hZ (hw _ (List.mem_of_getElem? (i := 3) rfl))) (mvT hZ (hw _ (List.mem_of_getElem? (i := 4) rfl))) (notFace_of_selects (args := #[]) (mvT hZ (hw _ (List.mem_of_getElem? (i := 6) rfl)))) (mvT hZ (hw _ (List.mem_of_getElem? (i := 6) rfl))) (mvT hZ (hw _ (List.mem_of_getElem? (i := 5) rfl))) (by decide) (backOf (W := 0) (own_rm1 l Z a0 hw [] q0 yr (2012 : Int32) h0 n0 Z0 F_q0) hZ (hw _ (List.mem_of_getElem? (i := 7) rfl)) (hw _ (List.mem_of_getElem? (i := 1) rfl)) (by decide) (by decide)) q2a q2c (g := (mkF m 107 #[.val (.int wh), .val (.int yr), .val (.int md), .val (.int (wh &&& (3 : Int32))), .val (.ref q0), .val (.int (2012 : Int32)), .val (.int yr), .val (.int (0 : Int32))] [(.int yr), (.ref q0)])) rfl (by rw [hml]; rfl) (Steps.refl _) (argsL := [(.int yr)]) (rest := []) (lenOf own_pd_x28Ix29Z rfl) rfl (by show 2 * 0 + _ ≤ _; exact Nat.le_of_eq rfl) (hb hby at_107) (fun _ _ => ⟨rfl, e1, (by decide : 0 + 0 ≤ _), (by decide : 0 + 0 ≤ _)⟩)
        dsimp only [Pt.U, Pt.locs, Pt.cells, Pt.slots] at X2 l2 y2 z2 st2 hQ2
        subst l2 y2 z2
        obtain ⟨rfl, N2q, eh2⟩ := hQ2
        have N2 := Fr.app N0 N2q
        refine OwnFin.adv (B := T2.setTop (mkF m 110 #[.val (.int wh), .val (.int yr), .val (.int md), .val (.int (wh &&& (3 : Int32))), .val (.ref q0), .val (.int (2012 : Int32)), .val (.int yr), .val (.int (0 : Int32))] [(.int (if yr < (2012 : Int32) then (0 : Int32) else 1))])) (fun _ k => st2.trans k) ?_
        refine OwnFin.adv (B := T2.setTop (mkF m 112 #[.val (.int wh), .val (.int yr), .val (.int md), .val (.int (wh &&& (3 : Int32))), .val (.ref q0), .val (.int (2012 : Int32)), .val (.int yr), .val (.int (0 : Int32))] [(.int (0 : Int32)), (.int (if yr < (2012 : Int32) then (0 : Int32) else 1))])) (fun _ k => XS.iload X2.here hx rfl (hb hby at_110) rfl k) ?_
        have hc112_28 : (if yr < (2012 : Int32) then (0 : Int32) else 1) = (0 : Int32) := by simp [hc91]
        refine OwnFin.adv (B := T2.setTop (mkF m 115 #[.val (.int wh), .val (.int yr), .val (.int md), .val (.int (wh &&& (3 : Int32))), .val (.ref q0), .val (.int (2012 : Int32)), .val (.int yr), .val (.int (0 : Int32))] [])) (fun _ k => XS.icmpNo X2.here hx rfl (hb hby at_112) rfl (teq hc112_28).2 k) ?_
        refine OwnFin.adv (B := T2.setTop (mkF m 116 #[.val (.int wh), .val (.int yr), .val (.int md), .val (.int (wh &&& (3 : Int32))), .val (.ref q0), .val (.int (2012 : Int32)), .val (.int yr), .val (.int (0 : Int32))] [(.int (1 : Int32))])) (fun _ k => XS.iconst X2.here hx rfl (hb hby at_115) k) ?_
        refine OwnFin.adv (B := T2.setTop (mkF m 120 #[.val (.int wh), .val (.int yr), .val (.int md), .val (.int (wh &&& (3 : Int32))), .val (.ref q0), .val (.int (2012 : Int32)), .val (.int yr), .val (.int (0 : Int32))] [(.int (1 : Int32))])) (fun _ k => XS.goto X2.here hx rfl (pc0 := 116) (pc' := 120) rfl (hb hby at_116) (by decide) (by decide) k) ?_
        obtain ⟨fs, hr, hrun, hended, hW, hsame⟩ := X2.leave (v := some (.int (1 : Int32))) (fun h => by rw [Bd.returns] at h; cases h)
        refine OwnFin.leaf hP' ⟨_, _, retN X2 hx (t := .boolean) Bd.returns (by simp) (hb hby at_120) hr, hrun, hended, _, _, rfl, ?_, ⟨_, rfl⟩, hW, hsame.mono (by decide) (by decide)⟩
        exact ⟨rfl, N2⟩
      ·
        refine OwnFin.adv (B := T1.setTop (mkF m 100 #[.val (.int wh), .val (.int yr), .val (.int md), .val (.int (wh &&& (3 : Int32))), .val (.ref q0), .val (.int (2012 : Int32)), .val (.int yr), .unset] [])) (fun _ k => XS.icmpYes X1.here hx rfl (pc0 := 91) (pc' := 100) rfl (hb hby at_91) rfl (flt hc91).2.1 (by decide) (by decide) k) ?_
        refine OwnFin.adv (B := T1.setTop (mkF m 101 #[.val (.int wh), .val (.int yr), .val (.int md), .val (.int (wh &&& (3 : Int32))), .val (.ref q0), .val (.int (2012 : Int32)), .val (.int yr), .unset] [(.int (1 : Int32))])) (fun _ k => XS.iconst X1.here hx rfl (hb hby at_100) k) ?_
        refine OwnFin.adv (B := T1.setTop (mkF m 103 #[.val (.int wh), .val (.int yr), .val (.int md), .val (.int (wh &&& (3 : Int32))), .val (.ref q0), .val (.int (2012 : Int32)), .val (.int yr), .val (.int (1 : Int32))] [])) (fun _ k => XS.istore X1.here hx rfl (hb hby at_101) rfl (l' := #[.val (.int wh), .val (.int yr), .val (.int md), .val (.int (wh &&& (3 : Int32))), .val (.ref q0), .val (.int (2012 : Int32)), .val (.int yr), .val (.int (1 : Int32))]) rfl k) ?_
        refine OwnFin.adv (B := T1.setTop (mkF m 105 #[.val (.int wh), .val (.int yr), .val (.int md), .val (.int (wh &&& (3 : Int32))), .val (.ref q0), .val (.int (2012 : Int32)), .val (.int yr), .val (.int (1 : Int32))] [(.ref q0)])) (fun _ k => XS.aload X1.here hx rfl (hb hby at_103) rfl rfl k) ?_
        refine OwnFin.adv (B := T1.setTop (mkF m 107 #[.val (.int wh), .val (.int yr), .val (.int md), .val (.int (wh &&& (3 : Int32))), .val (.ref q0), .val (.int (2012 : Int32)), .val (.int yr), .val (.int (1 : Int32))] [(.int yr), (.ref q0)])) (fun _ k => XS.iload X1.here hx rfl (hb hby at_105) rfl k) ?_
        obtain ⟨cq3, kq3, q3a, q3b, q3c⟩ := isOf hZ e1 E_q0
        obtain ⟨_, _, ⟨T3, L3, k3, n3⟩, -, X3, ⟨Lc3, hQ3, l3, y3, z3⟩, st3⟩ := X1.virtualBack hx (y := (⟨"com/example/oleaster/oleaster/model/CropYears", "holds", "(I)Z"⟩ : MethodName)) (z := (⟨"com/example/oleaster/oleaster/model/CropYears", "holds", "(I)Z"⟩ : MethodName)) hown (mvT hZ (hw _ (List.mem_of_getElem? (i := 3) rfl))) (mvT hZ (hw _ (List.mem_of_getElem? (i := 4) rfl))) (notFace_of_selects (args := #[]) (mvT hZ (hw _ (List.mem_of_getElem? (i := 6) rfl)))) (mvT hZ (hw _ (List.mem_of_getElem? (i := 6) rfl))) (mvT hZ (hw _ (List.mem_of_getElem? (i := 5) rfl))) (by decide) (backOf (W := 0) (own_rm1 l Z a0 hw [] q0 yr (2012 : Int32) h0 n0 Z0 F_q0) hZ (hw _ (List.mem_of_getElem? (i := 7) rfl)) (hw _ (List.mem_of_getElem? (i := 1) rfl)) (by decide) (by decide)) q3a q3c (g := (mkF m 107 #[.val (.int wh), .val (.int yr), .val (.int md), .val (.int (wh &&& (3 : Int32))), .val (.ref q0), .val (.int (2012 : Int32)), .val (.int yr), .val (.int (1 : Int32))] [(.int yr), (.ref q0)])) rfl (by rw [hml]; rfl) (Steps.refl _) (argsL := [(.int yr)]) (rest := []) (lenOf own_pd_x28Ix29Z rfl) rfl (by show 2 * 0 + _ ≤ _; exact Nat.le_of_eq rfl) (hb hby at_107) (fun _ _ => ⟨rfl, e1, (by decide : 0 + 0 ≤ _), (by decide : 0 + 0 ≤ _)⟩)
        dsimp only [Pt.U, Pt.locs, Pt.cells, Pt.slots] at X3 l3 y3 z3 st3 hQ3
        subst l3 y3 z3
        obtain ⟨rfl, N3q, eh3⟩ := hQ3
        have N3 := Fr.app N0 N3q
        refine OwnFin.adv (B := T3.setTop (mkF m 110 #[.val (.int wh), .val (.int yr), .val (.int md), .val (.int (wh &&& (3 : Int32))), .val (.ref q0), .val (.int (2012 : Int32)), .val (.int yr), .val (.int (1 : Int32))] [(.int (if yr < (2012 : Int32) then (0 : Int32) else 1))])) (fun _ k => st3.trans k) ?_
        refine OwnFin.adv (B := T3.setTop (mkF m 112 #[.val (.int wh), .val (.int yr), .val (.int md), .val (.int (wh &&& (3 : Int32))), .val (.ref q0), .val (.int (2012 : Int32)), .val (.int yr), .val (.int (1 : Int32))] [(.int (1 : Int32)), (.int (if yr < (2012 : Int32) then (0 : Int32) else 1))])) (fun _ k => XS.iload X3.here hx rfl (hb hby at_110) rfl k) ?_
        have hc112_27 : (if yr < (2012 : Int32) then (0 : Int32) else 1) = (1 : Int32) := by simp [hc91]
        refine OwnFin.adv (B := T3.setTop (mkF m 115 #[.val (.int wh), .val (.int yr), .val (.int md), .val (.int (wh &&& (3 : Int32))), .val (.ref q0), .val (.int (2012 : Int32)), .val (.int yr), .val (.int (1 : Int32))] [])) (fun _ k => XS.icmpNo X3.here hx rfl (hb hby at_112) rfl (teq hc112_27).2 k) ?_
        refine OwnFin.adv (B := T3.setTop (mkF m 116 #[.val (.int wh), .val (.int yr), .val (.int md), .val (.int (wh &&& (3 : Int32))), .val (.ref q0), .val (.int (2012 : Int32)), .val (.int yr), .val (.int (1 : Int32))] [(.int (1 : Int32))])) (fun _ k => XS.iconst X3.here hx rfl (hb hby at_115) k) ?_
        refine OwnFin.adv (B := T3.setTop (mkF m 120 #[.val (.int wh), .val (.int yr), .val (.int md), .val (.int (wh &&& (3 : Int32))), .val (.ref q0), .val (.int (2012 : Int32)), .val (.int yr), .val (.int (1 : Int32))] [(.int (1 : Int32))])) (fun _ k => XS.goto X3.here hx rfl (pc0 := 116) (pc' := 120) rfl (hb hby at_116) (by decide) (by decide) k) ?_
        obtain ⟨fs, hr, hrun, hended, hW, hsame⟩ := X3.leave (v := some (.int (1 : Int32))) (fun h => by rw [Bd.returns] at h; cases h)
        refine OwnFin.leaf hP' ⟨_, _, retN X3 hx (t := .boolean) Bd.returns (by simp) (hb hby at_120) hr, hrun, hended, _, _, rfl, ?_, ⟨_, rfl⟩, hW, hsame.mono (by decide) (by decide)⟩
        exact ⟨rfl, N3⟩
    ·
      refine OwnFin.adv (B := T1.setTop (mkF m 73 #[.val (.int wh), .val (.int yr), .val (.int md), .val (.int (wh &&& (3 : Int32))), .val (.ref q0), .val (.int (2012 : Int32)), .unset, .unset] [])) (fun _ k => XS.ifNo X1.here hx rfl (hb hby at_70) rfl ((if0 _ _).trans (feq hc70).1) k) ?_
      refine OwnFin.adv (B := T1.setTop (mkF m 75 #[.val (.int wh), .val (.int yr), .val (.int md), .val (.int (wh &&& (3 : Int32))), .val (.ref q0), .val (.int (2012 : Int32)), .unset, .unset] [(.int (2012 : Int32))])) (fun _ k => XS.iload X1.here hx rfl (hb hby at_73) rfl k) ?_
      refine OwnFin.adv (B := T1.setTop (mkF m 76 #[.val (.int wh), .val (.int yr), .val (.int md), .val (.int (wh &&& (3 : Int32))), .val (.ref q0), .val (.int (2012 : Int32)), .unset, .unset] [(.int yr), (.int (2012 : Int32))])) (fun _ k => XS.iloadN X1.here hx rfl (hb hby at_75) rfl k) ?_
      refine OwnFin.adv (B := T1.setTop (mkF m 77 #[.val (.int wh), .val (.int yr), .val (.int md), .val (.int (wh &&& (3 : Int32))), .val (.ref q0), .val (.int (2012 : Int32)), .unset, .unset] [(.int (4 : Int32)), (.int yr), (.int (2012 : Int32))])) (fun _ k => XS.iconst X1.here hx rfl (hb hby at_76) k) ?_
      refine OwnFin.adv (B := T1.setTop (mkF m 78 #[.val (.int wh), .val (.int yr), .val (.int md), .val (.int (wh &&& (3 : Int32))), .val (.ref q0), .val (.int (2012 : Int32)), .unset, .unset] [(.int (yr % (4 : Int32))), (.int (2012 : Int32))])) (fun _ k => iremM (g := (mkF m 77 #[.val (.int wh), .val (.int yr), .val (.int md), .val (.int (wh &&& (3 : Int32))), .val (.ref q0), .val (.int (2012 : Int32)), .unset, .unset] [(.int (4 : Int32)), (.int yr), (.int (2012 : Int32))])) X1 hx rfl (hb hby at_77) rfl (by decide) k) ?_
      refine OwnFin.adv (B := T1.setTop (mkF m 79 #[.val (.int wh), .val (.int yr), .val (.int md), .val (.int (wh &&& (3 : Int32))), .val (.ref q0), .val (.int (2012 : Int32)), .unset, .unset] [(.int ((2012 : Int32) + (yr % (4 : Int32))))])) (fun _ k => XS.iadd X1.here hx rfl (hb hby at_78) rfl k) ?_
      refine OwnFin.adv (B := T1.setTop (mkF m 81 #[.val (.int wh), .val (.int yr), .val (.int md), .val (.int (wh &&& (3 : Int32))), .val (.ref q0), .val (.int (2012 : Int32)), .val (.int ((2012 : Int32) + (yr % (4 : Int32)))), .unset] [])) (fun _ k => XS.istore X1.here hx rfl (hb hby at_79) rfl (l' := #[.val (.int wh), .val (.int yr), .val (.int md), .val (.int (wh &&& (3 : Int32))), .val (.ref q0), .val (.int (2012 : Int32)), .val (.int ((2012 : Int32) + (yr % (4 : Int32)))), .unset]) rfl k) ?_
      refine OwnFin.adv (B := T1.setTop (mkF m 87 #[.val (.int wh), .val (.int yr), .val (.int md), .val (.int (wh &&& (3 : Int32))), .val (.ref q0), .val (.int (2012 : Int32)), .val (.int ((2012 : Int32) + (yr % (4 : Int32)))), .unset] [])) (fun _ k => XS.goto X1.here hx rfl (pc0 := 81) (pc' := 87) rfl (hb hby at_81) (by decide) (by decide) k) ?_
      refine OwnFin.adv (B := T1.setTop (mkF m 89 #[.val (.int wh), .val (.int yr), .val (.int md), .val (.int (wh &&& (3 : Int32))), .val (.ref q0), .val (.int (2012 : Int32)), .val (.int ((2012 : Int32) + (yr % (4 : Int32)))), .unset] [(.int ((2012 : Int32) + (yr % (4 : Int32))))])) (fun _ k => XS.iload X1.here hx rfl (hb hby at_87) rfl k) ?_
      refine OwnFin.adv (B := T1.setTop (mkF m 91 #[.val (.int wh), .val (.int yr), .val (.int md), .val (.int (wh &&& (3 : Int32))), .val (.ref q0), .val (.int (2012 : Int32)), .val (.int ((2012 : Int32) + (yr % (4 : Int32)))), .unset] [(.int (2012 : Int32)), (.int ((2012 : Int32) + (yr % (4 : Int32))))])) (fun _ k => XS.iload X1.here hx rfl (hb hby at_89) rfl k) ?_
      by_cases hc91 : ((2012 : Int32) + (yr % (4 : Int32))) < (2012 : Int32)
      ·
        refine OwnFin.adv (B := T1.setTop (mkF m 94 #[.val (.int wh), .val (.int yr), .val (.int md), .val (.int (wh &&& (3 : Int32))), .val (.ref q0), .val (.int (2012 : Int32)), .val (.int ((2012 : Int32) + (yr % (4 : Int32)))), .unset] [])) (fun _ k => XS.icmpNo X1.here hx rfl (hb hby at_91) rfl (tlt hc91).2.1 k) ?_
        refine OwnFin.adv (B := T1.setTop (mkF m 95 #[.val (.int wh), .val (.int yr), .val (.int md), .val (.int (wh &&& (3 : Int32))), .val (.ref q0), .val (.int (2012 : Int32)), .val (.int ((2012 : Int32) + (yr % (4 : Int32)))), .unset] [(.int (0 : Int32))])) (fun _ k => XS.iconst X1.here hx rfl (hb hby at_94) k) ?_
        refine OwnFin.adv (B := T1.setTop (mkF m 97 #[.val (.int wh), .val (.int yr), .val (.int md), .val (.int (wh &&& (3 : Int32))), .val (.ref q0), .val (.int (2012 : Int32)), .val (.int ((2012 : Int32) + (yr % (4 : Int32)))), .val (.int (0 : Int32))] [])) (fun _ k => XS.istore X1.here hx rfl (hb hby at_95) rfl (l' := #[.val (.int wh), .val (.int yr), .val (.int md), .val (.int (wh &&& (3 : Int32))), .val (.ref q0), .val (.int (2012 : Int32)), .val (.int ((2012 : Int32) + (yr % (4 : Int32)))), .val (.int (0 : Int32))]) rfl k) ?_
        refine OwnFin.adv (B := T1.setTop (mkF m 103 #[.val (.int wh), .val (.int yr), .val (.int md), .val (.int (wh &&& (3 : Int32))), .val (.ref q0), .val (.int (2012 : Int32)), .val (.int ((2012 : Int32) + (yr % (4 : Int32)))), .val (.int (0 : Int32))] [])) (fun _ k => XS.goto X1.here hx rfl (pc0 := 97) (pc' := 103) rfl (hb hby at_97) (by decide) (by decide) k) ?_
        refine OwnFin.adv (B := T1.setTop (mkF m 105 #[.val (.int wh), .val (.int yr), .val (.int md), .val (.int (wh &&& (3 : Int32))), .val (.ref q0), .val (.int (2012 : Int32)), .val (.int ((2012 : Int32) + (yr % (4 : Int32)))), .val (.int (0 : Int32))] [(.ref q0)])) (fun _ k => XS.aload X1.here hx rfl (hb hby at_103) rfl rfl k) ?_
        refine OwnFin.adv (B := T1.setTop (mkF m 107 #[.val (.int wh), .val (.int yr), .val (.int md), .val (.int (wh &&& (3 : Int32))), .val (.ref q0), .val (.int (2012 : Int32)), .val (.int ((2012 : Int32) + (yr % (4 : Int32)))), .val (.int (0 : Int32))] [(.int ((2012 : Int32) + (yr % (4 : Int32)))), (.ref q0)])) (fun _ k => XS.iload X1.here hx rfl (hb hby at_105) rfl k) ?_
        obtain ⟨cq4, kq4, q4a, q4b, q4c⟩ := isOf hZ e1 E_q0
        obtain ⟨_, _, ⟨T4, L4, k4, n4⟩, -, X4, ⟨Lc4, hQ4, l4, y4, z4⟩, st4⟩ := X1.virtualBack hx (y := (⟨"com/example/oleaster/oleaster/model/CropYears", "holds", "(I)Z"⟩ : MethodName)) (z := (⟨"com/example/oleaster/oleaster/model/CropYears", "holds", "(I)Z"⟩ : MethodName)) hown (mvT hZ (hw _ (List.mem_of_getElem? (i := 3) rfl))) (mvT hZ (hw _ (List.mem_of_getElem? (i := 4) rfl))) (notFace_of_selects (args := #[]) (mvT hZ (hw _ (List.mem_of_getElem? (i := 6) rfl)))) (mvT hZ (hw _ (List.mem_of_getElem? (i := 6) rfl))) (mvT hZ (hw _ (List.mem_of_getElem? (i := 5) rfl))) (by decide) (backOf (W := 0) (own_rm1 l Z a0 hw [] q0 ((2012 : Int32) + (yr % (4 : Int32))) (2012 : Int32) h0 n0 Z0 F_q0) hZ (hw _ (List.mem_of_getElem? (i := 7) rfl)) (hw _ (List.mem_of_getElem? (i := 1) rfl)) (by decide) (by decide)) q4a q4c (g := (mkF m 107 #[.val (.int wh), .val (.int yr), .val (.int md), .val (.int (wh &&& (3 : Int32))), .val (.ref q0), .val (.int (2012 : Int32)), .val (.int ((2012 : Int32) + (yr % (4 : Int32)))), .val (.int (0 : Int32))] [(.int ((2012 : Int32) + (yr % (4 : Int32)))), (.ref q0)])) rfl (by rw [hml]; rfl) (Steps.refl _) (argsL := [(.int ((2012 : Int32) + (yr % (4 : Int32))))]) (rest := []) (lenOf own_pd_x28Ix29Z rfl) rfl (by show 2 * 0 + _ ≤ _; exact Nat.le_of_eq rfl) (hb hby at_107) (fun _ _ => ⟨rfl, e1, (by decide : 0 + 0 ≤ _), (by decide : 0 + 0 ≤ _)⟩)
        dsimp only [Pt.U, Pt.locs, Pt.cells, Pt.slots] at X4 l4 y4 z4 st4 hQ4
        subst l4 y4 z4
        obtain ⟨rfl, N4q, eh4⟩ := hQ4
        have N4 := Fr.app N0 N4q
        refine OwnFin.adv (B := T4.setTop (mkF m 110 #[.val (.int wh), .val (.int yr), .val (.int md), .val (.int (wh &&& (3 : Int32))), .val (.ref q0), .val (.int (2012 : Int32)), .val (.int ((2012 : Int32) + (yr % (4 : Int32)))), .val (.int (0 : Int32))] [(.int (if ((2012 : Int32) + (yr % (4 : Int32))) < (2012 : Int32) then (0 : Int32) else 1))])) (fun _ k => st4.trans k) ?_
        refine OwnFin.adv (B := T4.setTop (mkF m 112 #[.val (.int wh), .val (.int yr), .val (.int md), .val (.int (wh &&& (3 : Int32))), .val (.ref q0), .val (.int (2012 : Int32)), .val (.int ((2012 : Int32) + (yr % (4 : Int32)))), .val (.int (0 : Int32))] [(.int (0 : Int32)), (.int (if ((2012 : Int32) + (yr % (4 : Int32))) < (2012 : Int32) then (0 : Int32) else 1))])) (fun _ k => XS.iload X4.here hx rfl (hb hby at_110) rfl k) ?_
        have hc112_33 : (if ((2012 : Int32) + (yr % (4 : Int32))) < (2012 : Int32) then (0 : Int32) else 1) = (0 : Int32) := by simp [hc91]
        refine OwnFin.adv (B := T4.setTop (mkF m 115 #[.val (.int wh), .val (.int yr), .val (.int md), .val (.int (wh &&& (3 : Int32))), .val (.ref q0), .val (.int (2012 : Int32)), .val (.int ((2012 : Int32) + (yr % (4 : Int32)))), .val (.int (0 : Int32))] [])) (fun _ k => XS.icmpNo X4.here hx rfl (hb hby at_112) rfl (teq hc112_33).2 k) ?_
        refine OwnFin.adv (B := T4.setTop (mkF m 116 #[.val (.int wh), .val (.int yr), .val (.int md), .val (.int (wh &&& (3 : Int32))), .val (.ref q0), .val (.int (2012 : Int32)), .val (.int ((2012 : Int32) + (yr % (4 : Int32)))), .val (.int (0 : Int32))] [(.int (1 : Int32))])) (fun _ k => XS.iconst X4.here hx rfl (hb hby at_115) k) ?_
        refine OwnFin.adv (B := T4.setTop (mkF m 120 #[.val (.int wh), .val (.int yr), .val (.int md), .val (.int (wh &&& (3 : Int32))), .val (.ref q0), .val (.int (2012 : Int32)), .val (.int ((2012 : Int32) + (yr % (4 : Int32)))), .val (.int (0 : Int32))] [(.int (1 : Int32))])) (fun _ k => XS.goto X4.here hx rfl (pc0 := 116) (pc' := 120) rfl (hb hby at_116) (by decide) (by decide) k) ?_
        obtain ⟨fs, hr, hrun, hended, hW, hsame⟩ := X4.leave (v := some (.int (1 : Int32))) (fun h => by rw [Bd.returns] at h; cases h)
        refine OwnFin.leaf hP' ⟨_, _, retN X4 hx (t := .boolean) Bd.returns (by simp) (hb hby at_120) hr, hrun, hended, _, _, rfl, ?_, ⟨_, rfl⟩, hW, hsame.mono (by decide) (by decide)⟩
        exact ⟨rfl, N4⟩
      ·
        refine OwnFin.adv (B := T1.setTop (mkF m 100 #[.val (.int wh), .val (.int yr), .val (.int md), .val (.int (wh &&& (3 : Int32))), .val (.ref q0), .val (.int (2012 : Int32)), .val (.int ((2012 : Int32) + (yr % (4 : Int32)))), .unset] [])) (fun _ k => XS.icmpYes X1.here hx rfl (pc0 := 91) (pc' := 100) rfl (hb hby at_91) rfl (flt hc91).2.1 (by decide) (by decide) k) ?_
        refine OwnFin.adv (B := T1.setTop (mkF m 101 #[.val (.int wh), .val (.int yr), .val (.int md), .val (.int (wh &&& (3 : Int32))), .val (.ref q0), .val (.int (2012 : Int32)), .val (.int ((2012 : Int32) + (yr % (4 : Int32)))), .unset] [(.int (1 : Int32))])) (fun _ k => XS.iconst X1.here hx rfl (hb hby at_100) k) ?_
        refine OwnFin.adv (B := T1.setTop (mkF m 103 #[.val (.int wh), .val (.int yr), .val (.int md), .val (.int (wh &&& (3 : Int32))), .val (.ref q0), .val (.int (2012 : Int32)), .val (.int ((2012 : Int32) + (yr % (4 : Int32)))), .val (.int (1 : Int32))] [])) (fun _ k => XS.istore X1.here hx rfl (hb hby at_101) rfl (l' := #[.val (.int wh), .val (.int yr), .val (.int md), .val (.int (wh &&& (3 : Int32))), .val (.ref q0), .val (.int (2012 : Int32)), .val (.int ((2012 : Int32) + (yr % (4 : Int32)))), .val (.int (1 : Int32))]) rfl k) ?_
        refine OwnFin.adv (B := T1.setTop (mkF m 105 #[.val (.int wh), .val (.int yr), .val (.int md), .val (.int (wh &&& (3 : Int32))), .val (.ref q0), .val (.int (2012 : Int32)), .val (.int ((2012 : Int32) + (yr % (4 : Int32)))), .val (.int (1 : Int32))] [(.ref q0)])) (fun _ k => XS.aload X1.here hx rfl (hb hby at_103) rfl rfl k) ?_
        refine OwnFin.adv (B := T1.setTop (mkF m 107 #[.val (.int wh), .val (.int yr), .val (.int md), .val (.int (wh &&& (3 : Int32))), .val (.ref q0), .val (.int (2012 : Int32)), .val (.int ((2012 : Int32) + (yr % (4 : Int32)))), .val (.int (1 : Int32))] [(.int ((2012 : Int32) + (yr % (4 : Int32)))), (.ref q0)])) (fun _ k => XS.iload X1.here hx rfl (hb hby at_105) rfl k) ?_
        obtain ⟨cq5, kq5, q5a, q5b, q5c⟩ := isOf hZ e1 E_q0
        obtain ⟨_, _, ⟨T5, L5, k5, n5⟩, -, X5, ⟨Lc5, hQ5, l5, y5, z5⟩, st5⟩ := X1.virtualBack hx (y := (⟨"com/example/oleaster/oleaster/model/CropYears", "holds", "(I)Z"⟩ : MethodName)) (z := (⟨"com/example/oleaster/oleaster/model/CropYears", "holds", "(I)Z"⟩ : MethodName)) hown (mvT hZ (hw _ (List.mem_of_getElem? (i := 3) rfl))) (mvT hZ (hw _ (List.mem_of_getElem? (i := 4) rfl))) (notFace_of_selects (args := #[]) (mvT hZ (hw _ (List.mem_of_getElem? (i := 6) rfl)))) (mvT hZ (hw _ (List.mem_of_getElem? (i := 6) rfl))) (mvT hZ (hw _ (List.mem_of_getElem? (i := 5) rfl))) (by decide) (backOf (W := 0) (own_rm1 l Z a0 hw [] q0 ((2012 : Int32) + (yr % (4 : Int32))) (2012 : Int32) h0 n0 Z0 F_q0) hZ (hw _ (List.mem_of_getElem? (i := 7) rfl)) (hw _ (List.mem_of_getElem? (i := 1) rfl)) (by decide) (by decide)) q5a q5c (g := (mkF m 107 #[.val (.int wh), .val (.int yr), .val (.int md), .val (.int (wh &&& (3 : Int32))), .val (.ref q0), .val (.int (2012 : Int32)), .val (.int ((2012 : Int32) + (yr % (4 : Int32)))), .val (.int (1 : Int32))] [(.int ((2012 : Int32) + (yr % (4 : Int32)))), (.ref q0)])) rfl (by rw [hml]; rfl) (Steps.refl _) (argsL := [(.int ((2012 : Int32) + (yr % (4 : Int32))))]) (rest := []) (lenOf own_pd_x28Ix29Z rfl) rfl (by show 2 * 0 + _ ≤ _; exact Nat.le_of_eq rfl) (hb hby at_107) (fun _ _ => ⟨rfl, e1, (by decide : 0 + 0 ≤ _), (by decide : 0 + 0 ≤ _)⟩)
        dsimp only [Pt.U, Pt.locs, Pt.cells, Pt.slots] at X5 l5 y5 z5 st5 hQ5
        subst l5 y5 z5
        obtain ⟨rfl, N5q, eh5⟩ := hQ5
        have N5 := Fr.app N0 N5q
        refine OwnFin.adv (B := T5.setTop (mkF m 110 #[.val (.int wh), .val (.int yr), .val (.int md), .val (.int (wh &&& (3 : Int32))), .val (.ref q0), .val (.int (2012 : Int32)), .val (.int ((2012 : Int32) + (yr % (4 : Int32)))), .val (.int (1 : Int32))] [(.int (if ((2012 : Int32) + (yr % (4 : Int32))) < (2012 : Int32) then (0 : Int32) else 1))])) (fun _ k => st5.trans k) ?_
        refine OwnFin.adv (B := T5.setTop (mkF m 112 #[.val (.int wh), .val (.int yr), .val (.int md), .val (.int (wh &&& (3 : Int32))), .val (.ref q0), .val (.int (2012 : Int32)), .val (.int ((2012 : Int32) + (yr % (4 : Int32)))), .val (.int (1 : Int32))] [(.int (1 : Int32)), (.int (if ((2012 : Int32) + (yr % (4 : Int32))) < (2012 : Int32) then (0 : Int32) else 1))])) (fun _ k => XS.iload X5.here hx rfl (hb hby at_110) rfl k) ?_
        have hc112_32 : (if ((2012 : Int32) + (yr % (4 : Int32))) < (2012 : Int32) then (0 : Int32) else 1) = (1 : Int32) := by simp [hc91]
        refine OwnFin.adv (B := T5.setTop (mkF m 115 #[.val (.int wh), .val (.int yr), .val (.int md), .val (.int (wh &&& (3 : Int32))), .val (.ref q0), .val (.int (2012 : Int32)), .val (.int ((2012 : Int32) + (yr % (4 : Int32)))), .val (.int (1 : Int32))] [])) (fun _ k => XS.icmpNo X5.here hx rfl (hb hby at_112) rfl (teq hc112_32).2 k) ?_
        refine OwnFin.adv (B := T5.setTop (mkF m 116 #[.val (.int wh), .val (.int yr), .val (.int md), .val (.int (wh &&& (3 : Int32))), .val (.ref q0), .val (.int (2012 : Int32)), .val (.int ((2012 : Int32) + (yr % (4 : Int32)))), .val (.int (1 : Int32))] [(.int (1 : Int32))])) (fun _ k => XS.iconst X5.here hx rfl (hb hby at_115) k) ?_
        refine OwnFin.adv (B := T5.setTop (mkF m 120 #[.val (.int wh), .val (.int yr), .val (.int md), .val (.int (wh &&& (3 : Int32))), .val (.ref q0), .val (.int (2012 : Int32)), .val (.int ((2012 : Int32) + (yr % (4 : Int32)))), .val (.int (1 : Int32))] [(.int (1 : Int32))])) (fun _ k => XS.goto X5.here hx rfl (pc0 := 116) (pc' := 120) rfl (hb hby at_116) (by decide) (by decide) k) ?_
        obtain ⟨fs, hr, hrun, hended, hW, hsame⟩ := X5.leave (v := some (.int (1 : Int32))) (fun h => by rw [Bd.returns] at h; cases h)
        refine OwnFin.leaf hP' ⟨_, _, retN X5 hx (t := .boolean) Bd.returns (by simp) (hb hby at_120) hr, hrun, hended, _, _, rfl, ?_, ⟨_, rfl⟩, hW, hsame.mono (by decide) (by decide)⟩
        exact ⟨rfl, N5⟩
  ·
    refine OwnFin.adv (B := s₁.setTop (mkF m 21 #[.val (.int wh), .val (.int yr), .val (.int md), .val (.int (wh &&& (3 : Int32))), .unset, .unset, .unset, .unset] [])) (fun _ k => XS.ifYes X0.here hx rfl (pc0 := 5) (pc' := 21) rfl (hb hby at_5) rfl ((if0 _ _).trans (feq hc5).2) (by decide) (by decide) k) ?_
    refine OwnFin.adv (B := s₁.setTop (mkF m 22 #[.val (.int wh), .val (.int yr), .val (.int md), .val (.int (wh &&& (3 : Int32))), .unset, .unset, .unset, .unset] [(.int (wh &&& (3 : Int32)))])) (fun _ k => XS.iloadN X0.here hx rfl (hb hby at_21) rfl k) ?_
    refine OwnFin.adv (B := s₁.setTop (mkF m 23 #[.val (.int wh), .val (.int yr), .val (.int md), .val (.int (wh &&& (3 : Int32))), .unset, .unset, .unset, .unset] [(.int (1 : Int32)), (.int (wh &&& (3 : Int32)))])) (fun _ k => XS.iconst X0.here hx rfl (hb hby at_22) k) ?_
    by_cases hc23 : (wh &&& (3 : Int32)) = (1 : Int32)
    ·
      refine OwnFin.adv (B := s₁.setTop (mkF m 26 #[.val (.int wh), .val (.int yr), .val (.int md), .val (.int (wh &&& (3 : Int32))), .unset, .unset, .unset, .unset] [])) (fun _ k => XS.icmpNo X0.here hx rfl (hb hby at_23) rfl (teq hc23).2 k) ?_
      obtain ⟨T6, X6, e6, st6⟩ := getS2 X0 hx hZ hown (host := "") (Or.inl (hw _ (List.mem_of_getElem? (i := 10) rfl))) Via.refl e0 S_q1 (g := (mkF m 26 #[.val (.int wh), .val (.int yr), .val (.int md), .val (.int (wh &&& (3 : Int32))), .unset, .unset, .unset, .unset] [])) rfl (hb hby at_26)
      refine OwnFin.adv (B := T6.setTop (mkF m 29 #[.val (.int wh), .val (.int yr), .val (.int md), .val (.int (wh &&& (3 : Int32))), .unset, .unset, .unset, .unset] [(.ref q1)])) (fun _ k => st6 _ k) ?_
      refine OwnFin.adv (B := T6.setTop (mkF m 31 #[.val (.int wh), .val (.int yr), .val (.int md), .val (.int (wh &&& (3 : Int32))), .val (.ref q1), .unset, .unset, .unset] [])) (fun _ k => XS.astore X6.here hx rfl (hb hby at_29) rfl rfl (l' := #[.val (.int wh), .val (.int yr), .val (.int md), .val (.int (wh &&& (3 : Int32))), .val (.ref q1), .unset, .unset, .unset]) rfl k) ?_
      refine OwnFin.adv (B := T6.setTop (mkF m 34 #[.val (.int wh), .val (.int yr), .val (.int md), .val (.int (wh &&& (3 : Int32))), .val (.ref q1), .unset, .unset, .unset] [(.int (2015 : Int32))])) (fun _ k => XS.sipush X6.here hx rfl (hb hby at_31) k) ?_
      refine OwnFin.adv (B := T6.setTop (mkF m 36 #[.val (.int wh), .val (.int yr), .val (.int md), .val (.int (wh &&& (3 : Int32))), .val (.ref q1), .val (.int (2015 : Int32)), .unset, .unset] [])) (fun _ k => XS.istore X6.here hx rfl (hb hby at_34) rfl (l' := #[.val (.int wh), .val (.int yr), .val (.int md), .val (.int (wh &&& (3 : Int32))), .val (.ref q1), .val (.int (2015 : Int32)), .unset, .unset]) rfl k) ?_
      refine OwnFin.adv (B := T6.setTop (mkF m 67 #[.val (.int wh), .val (.int yr), .val (.int md), .val (.int (wh &&& (3 : Int32))), .val (.ref q1), .val (.int (2015 : Int32)), .unset, .unset] [])) (fun _ k => XS.goto X6.here hx rfl (pc0 := 36) (pc' := 67) rfl (hb hby at_36) (by decide) (by decide) k) ?_
      refine OwnFin.adv (B := T6.setTop (mkF m 68 #[.val (.int wh), .val (.int yr), .val (.int md), .val (.int (wh &&& (3 : Int32))), .val (.ref q1), .val (.int (2015 : Int32)), .unset, .unset] [(.int md)])) (fun _ k => XS.iloadN X6.here hx rfl (hb hby at_67) rfl k) ?_
      refine OwnFin.adv (B := T6.setTop (mkF m 69 #[.val (.int wh), .val (.int yr), .val (.int md), .val (.int (wh &&& (3 : Int32))), .val (.ref q1), .val (.int (2015 : Int32)), .unset, .unset] [(.int (1 : Int32)), (.int md)])) (fun _ k => XS.iconst X6.here hx rfl (hb hby at_68) k) ?_
      refine OwnFin.adv (B := T6.setTop (mkF m 70 #[.val (.int wh), .val (.int yr), .val (.int md), .val (.int (wh &&& (3 : Int32))), .val (.ref q1), .val (.int (2015 : Int32)), .unset, .unset] [(.int (md &&& (1 : Int32)))])) (fun _ k => XS.iand X6.here hx rfl (hb hby at_69) rfl k) ?_
      by_cases hc70 : (md &&& (1 : Int32)) = (0 : Int32)
      ·
        refine OwnFin.adv (B := T6.setTop (mkF m 84 #[.val (.int wh), .val (.int yr), .val (.int md), .val (.int (wh &&& (3 : Int32))), .val (.ref q1), .val (.int (2015 : Int32)), .unset, .unset] [])) (fun _ k => XS.ifYes X6.here hx rfl (pc0 := 70) (pc' := 84) rfl (hb hby at_70) rfl ((if0 _ _).trans (teq hc70).1) (by decide) (by decide) k) ?_
        refine OwnFin.adv (B := T6.setTop (mkF m 85 #[.val (.int wh), .val (.int yr), .val (.int md), .val (.int (wh &&& (3 : Int32))), .val (.ref q1), .val (.int (2015 : Int32)), .unset, .unset] [(.int yr)])) (fun _ k => XS.iloadN X6.here hx rfl (hb hby at_84) rfl k) ?_
        refine OwnFin.adv (B := T6.setTop (mkF m 87 #[.val (.int wh), .val (.int yr), .val (.int md), .val (.int (wh &&& (3 : Int32))), .val (.ref q1), .val (.int (2015 : Int32)), .val (.int yr), .unset] [])) (fun _ k => XS.istore X6.here hx rfl (hb hby at_85) rfl (l' := #[.val (.int wh), .val (.int yr), .val (.int md), .val (.int (wh &&& (3 : Int32))), .val (.ref q1), .val (.int (2015 : Int32)), .val (.int yr), .unset]) rfl k) ?_
        refine OwnFin.adv (B := T6.setTop (mkF m 89 #[.val (.int wh), .val (.int yr), .val (.int md), .val (.int (wh &&& (3 : Int32))), .val (.ref q1), .val (.int (2015 : Int32)), .val (.int yr), .unset] [(.int yr)])) (fun _ k => XS.iload X6.here hx rfl (hb hby at_87) rfl k) ?_
        refine OwnFin.adv (B := T6.setTop (mkF m 91 #[.val (.int wh), .val (.int yr), .val (.int md), .val (.int (wh &&& (3 : Int32))), .val (.ref q1), .val (.int (2015 : Int32)), .val (.int yr), .unset] [(.int (2015 : Int32)), (.int yr)])) (fun _ k => XS.iload X6.here hx rfl (hb hby at_89) rfl k) ?_
        by_cases hc91 : yr < (2015 : Int32)
        ·
          refine OwnFin.adv (B := T6.setTop (mkF m 94 #[.val (.int wh), .val (.int yr), .val (.int md), .val (.int (wh &&& (3 : Int32))), .val (.ref q1), .val (.int (2015 : Int32)), .val (.int yr), .unset] [])) (fun _ k => XS.icmpNo X6.here hx rfl (hb hby at_91) rfl (tlt hc91).2.1 k) ?_
          refine OwnFin.adv (B := T6.setTop (mkF m 95 #[.val (.int wh), .val (.int yr), .val (.int md), .val (.int (wh &&& (3 : Int32))), .val (.ref q1), .val (.int (2015 : Int32)), .val (.int yr), .unset] [(.int (0 : Int32))])) (fun _ k => XS.iconst X6.here hx rfl (hb hby at_94) k) ?_
          refine OwnFin.adv (B := T6.setTop (mkF m 97 #[.val (.int wh), .val (.int yr), .val (.int md), .val (.int (wh &&& (3 : Int32))), .val (.ref q1), .val (.int (2015 : Int32)), .val (.int yr), .val (.int (0 : Int32))] [])) (fun _ k => XS.istore X6.here hx rfl (hb hby at_95) rfl (l' := #[.val (.int wh), .val (.int yr), .val (.int md), .val (.int (wh &&& (3 : Int32))), .val (.ref q1), .val (.int (2015 : Int32)), .val (.int yr), .val (.int (0 : Int32))]) rfl k) ?_
          refine OwnFin.adv (B := T6.setTop (mkF m 103 #[.val (.int wh), .val (.int yr), .val (.int md), .val (.int (wh &&& (3 : Int32))), .val (.ref q1), .val (.int (2015 : Int32)), .val (.int yr), .val (.int (0 : Int32))] [])) (fun _ k => XS.goto X6.here hx rfl (pc0 := 97) (pc' := 103) rfl (hb hby at_97) (by decide) (by decide) k) ?_
          refine OwnFin.adv (B := T6.setTop (mkF m 105 #[.val (.int wh), .val (.int yr), .val (.int md), .val (.int (wh &&& (3 : Int32))), .val (.ref q1), .val (.int (2015 : Int32)), .val (.int yr), .val (.int (0 : Int32))] [(.ref q1)])) (fun _ k => XS.aload X6.here hx rfl (hb hby at_103) rfl rfl k) ?_
          refine OwnFin.adv (B := T6.setTop (mkF m 107 #[.val (.int wh), .val (.int yr), .val (.int md), .val (.int (wh &&& (3 : Int32))), .val (.ref q1), .val (.int (2015 : Int32)), .val (.int yr), .val (.int (0 : Int32))] [(.int yr), (.ref q1)])) (fun _ k => XS.iload X6.here hx rfl (hb hby at_105) rfl k) ?_
          obtain ⟨cq7, kq7, q7a, q7b, q7c⟩ := isOf hZ e6 E_q1
          obtain ⟨_, _, ⟨T7, L7, k7, n7⟩, -, X7, ⟨Lc7, hQ7, l7, y7, z7⟩, st7⟩ := X6.virtualBack hx (y := (⟨"com/example/oleaster/oleaster/model/CropYears", "holds", "(I)Z"⟩ : MethodName)) (z := (⟨"com/example/oleaster/oleaster/model/CropYears", "holds", "(I)Z"⟩ : MethodName)) hown (mvT hZ (hw _ (List.mem_of_getElem? (i := 3) rfl))) (mvT hZ (hw _ (List.mem_of_getElem? (i := 4) rfl))) (notFace_of_selects (args := #[]) (mvT hZ (hw _ (List.mem_of_getElem? (i := 6) rfl)))) (mvT hZ (hw _ (List.mem_of_getElem? (i := 6) rfl))) (mvT hZ (hw _ (List.mem_of_getElem? (i := 5) rfl))) (by decide) (backOf (W := 0) (own_rm1 l Z a0 hw [] q1 yr (2015 : Int32) h0 n0 Z0 F_q1) hZ (hw _ (List.mem_of_getElem? (i := 7) rfl)) (hw _ (List.mem_of_getElem? (i := 1) rfl)) (by decide) (by decide)) q7a q7c (g := (mkF m 107 #[.val (.int wh), .val (.int yr), .val (.int md), .val (.int (wh &&& (3 : Int32))), .val (.ref q1), .val (.int (2015 : Int32)), .val (.int yr), .val (.int (0 : Int32))] [(.int yr), (.ref q1)])) rfl (by rw [hml]; rfl) (Steps.refl _) (argsL := [(.int yr)]) (rest := []) (lenOf own_pd_x28Ix29Z rfl) rfl (by show 2 * 0 + _ ≤ _; exact Nat.le_of_eq rfl) (hb hby at_107) (fun _ _ => ⟨rfl, e6, (by decide : 0 + 0 ≤ _), (by decide : 0 + 0 ≤ _)⟩)
          dsimp only [Pt.U, Pt.locs, Pt.cells, Pt.slots] at X7 l7 y7 z7 st7 hQ7
          subst l7 y7 z7
          obtain ⟨rfl, N7q, eh7⟩ := hQ7
          have N7 := Fr.app N0 N7q
          refine OwnFin.adv (B := T7.setTop (mkF m 110 #[.val (.int wh), .val (.int yr), .val (.int md), .val (.int (wh &&& (3 : Int32))), .val (.ref q1), .val (.int (2015 : Int32)), .val (.int yr), .val (.int (0 : Int32))] [(.int (if yr < (2015 : Int32) then (0 : Int32) else 1))])) (fun _ k => st7.trans k) ?_
          refine OwnFin.adv (B := T7.setTop (mkF m 112 #[.val (.int wh), .val (.int yr), .val (.int md), .val (.int (wh &&& (3 : Int32))), .val (.ref q1), .val (.int (2015 : Int32)), .val (.int yr), .val (.int (0 : Int32))] [(.int (0 : Int32)), (.int (if yr < (2015 : Int32) then (0 : Int32) else 1))])) (fun _ k => XS.iload X7.here hx rfl (hb hby at_110) rfl k) ?_
          have hc112_31 : (if yr < (2015 : Int32) then (0 : Int32) else 1) = (0 : Int32) := by simp [hc91]
          refine OwnFin.adv (B := T7.setTop (mkF m 115 #[.val (.int wh), .val (.int yr), .val (.int md), .val (.int (wh &&& (3 : Int32))), .val (.ref q1), .val (.int (2015 : Int32)), .val (.int yr), .val (.int (0 : Int32))] [])) (fun _ k => XS.icmpNo X7.here hx rfl (hb hby at_112) rfl (teq hc112_31).2 k) ?_
          refine OwnFin.adv (B := T7.setTop (mkF m 116 #[.val (.int wh), .val (.int yr), .val (.int md), .val (.int (wh &&& (3 : Int32))), .val (.ref q1), .val (.int (2015 : Int32)), .val (.int yr), .val (.int (0 : Int32))] [(.int (1 : Int32))])) (fun _ k => XS.iconst X7.here hx rfl (hb hby at_115) k) ?_
          refine OwnFin.adv (B := T7.setTop (mkF m 120 #[.val (.int wh), .val (.int yr), .val (.int md), .val (.int (wh &&& (3 : Int32))), .val (.ref q1), .val (.int (2015 : Int32)), .val (.int yr), .val (.int (0 : Int32))] [(.int (1 : Int32))])) (fun _ k => XS.goto X7.here hx rfl (pc0 := 116) (pc' := 120) rfl (hb hby at_116) (by decide) (by decide) k) ?_
          obtain ⟨fs, hr, hrun, hended, hW, hsame⟩ := X7.leave (v := some (.int (1 : Int32))) (fun h => by rw [Bd.returns] at h; cases h)
          refine OwnFin.leaf hP' ⟨_, _, retN X7 hx (t := .boolean) Bd.returns (by simp) (hb hby at_120) hr, hrun, hended, _, _, rfl, ?_, ⟨_, rfl⟩, hW, hsame.mono (by decide) (by decide)⟩
          exact ⟨rfl, N7⟩
        ·
          refine OwnFin.adv (B := T6.setTop (mkF m 100 #[.val (.int wh), .val (.int yr), .val (.int md), .val (.int (wh &&& (3 : Int32))), .val (.ref q1), .val (.int (2015 : Int32)), .val (.int yr), .unset] [])) (fun _ k => XS.icmpYes X6.here hx rfl (pc0 := 91) (pc' := 100) rfl (hb hby at_91) rfl (flt hc91).2.1 (by decide) (by decide) k) ?_
          refine OwnFin.adv (B := T6.setTop (mkF m 101 #[.val (.int wh), .val (.int yr), .val (.int md), .val (.int (wh &&& (3 : Int32))), .val (.ref q1), .val (.int (2015 : Int32)), .val (.int yr), .unset] [(.int (1 : Int32))])) (fun _ k => XS.iconst X6.here hx rfl (hb hby at_100) k) ?_
          refine OwnFin.adv (B := T6.setTop (mkF m 103 #[.val (.int wh), .val (.int yr), .val (.int md), .val (.int (wh &&& (3 : Int32))), .val (.ref q1), .val (.int (2015 : Int32)), .val (.int yr), .val (.int (1 : Int32))] [])) (fun _ k => XS.istore X6.here hx rfl (hb hby at_101) rfl (l' := #[.val (.int wh), .val (.int yr), .val (.int md), .val (.int (wh &&& (3 : Int32))), .val (.ref q1), .val (.int (2015 : Int32)), .val (.int yr), .val (.int (1 : Int32))]) rfl k) ?_
          refine OwnFin.adv (B := T6.setTop (mkF m 105 #[.val (.int wh), .val (.int yr), .val (.int md), .val (.int (wh &&& (3 : Int32))), .val (.ref q1), .val (.int (2015 : Int32)), .val (.int yr), .val (.int (1 : Int32))] [(.ref q1)])) (fun _ k => XS.aload X6.here hx rfl (hb hby at_103) rfl rfl k) ?_
          refine OwnFin.adv (B := T6.setTop (mkF m 107 #[.val (.int wh), .val (.int yr), .val (.int md), .val (.int (wh &&& (3 : Int32))), .val (.ref q1), .val (.int (2015 : Int32)), .val (.int yr), .val (.int (1 : Int32))] [(.int yr), (.ref q1)])) (fun _ k => XS.iload X6.here hx rfl (hb hby at_105) rfl k) ?_
          obtain ⟨cq8, kq8, q8a, q8b, q8c⟩ := isOf hZ e6 E_q1
          obtain ⟨_, _, ⟨T8, L8, k8, n8⟩, -, X8, ⟨Lc8, hQ8, l8, y8, z8⟩, st8⟩ := X6.virtualBack hx (y := (⟨"com/example/oleaster/oleaster/model/CropYears", "holds", "(I)Z"⟩ : MethodName)) (z := (⟨"com/example/oleaster/oleaster/model/CropYears", "holds", "(I)Z"⟩ : MethodName)) hown (mvT hZ (hw _ (List.mem_of_getElem? (i := 3) rfl))) (mvT hZ (hw _ (List.mem_of_getElem? (i := 4) rfl))) (notFace_of_selects (args := #[]) (mvT hZ (hw _ (List.mem_of_getElem? (i := 6) rfl)))) (mvT hZ (hw _ (List.mem_of_getElem? (i := 6) rfl))) (mvT hZ (hw _ (List.mem_of_getElem? (i := 5) rfl))) (by decide) (backOf (W := 0) (own_rm1 l Z a0 hw [] q1 yr (2015 : Int32) h0 n0 Z0 F_q1) hZ (hw _ (List.mem_of_getElem? (i := 7) rfl)) (hw _ (List.mem_of_getElem? (i := 1) rfl)) (by decide) (by decide)) q8a q8c (g := (mkF m 107 #[.val (.int wh), .val (.int yr), .val (.int md), .val (.int (wh &&& (3 : Int32))), .val (.ref q1), .val (.int (2015 : Int32)), .val (.int yr), .val (.int (1 : Int32))] [(.int yr), (.ref q1)])) rfl (by rw [hml]; rfl) (Steps.refl _) (argsL := [(.int yr)]) (rest := []) (lenOf own_pd_x28Ix29Z rfl) rfl (by show 2 * 0 + _ ≤ _; exact Nat.le_of_eq rfl) (hb hby at_107) (fun _ _ => ⟨rfl, e6, (by decide : 0 + 0 ≤ _), (by decide : 0 + 0 ≤ _)⟩)
          dsimp only [Pt.U, Pt.locs, Pt.cells, Pt.slots] at X8 l8 y8 z8 st8 hQ8
          subst l8 y8 z8
          obtain ⟨rfl, N8q, eh8⟩ := hQ8
          have N8 := Fr.app N0 N8q
          refine OwnFin.adv (B := T8.setTop (mkF m 110 #[.val (.int wh), .val (.int yr), .val (.int md), .val (.int (wh &&& (3 : Int32))), .val (.ref q1), .val (.int (2015 : Int32)), .val (.int yr), .val (.int (1 : Int32))] [(.int (if yr < (2015 : Int32) then (0 : Int32) else 1))])) (fun _ k => st8.trans k) ?_
          refine OwnFin.adv (B := T8.setTop (mkF m 112 #[.val (.int wh), .val (.int yr), .val (.int md), .val (.int (wh &&& (3 : Int32))), .val (.ref q1), .val (.int (2015 : Int32)), .val (.int yr), .val (.int (1 : Int32))] [(.int (1 : Int32)), (.int (if yr < (2015 : Int32) then (0 : Int32) else 1))])) (fun _ k => XS.iload X8.here hx rfl (hb hby at_110) rfl k) ?_
          have hc112_30 : (if yr < (2015 : Int32) then (0 : Int32) else 1) = (1 : Int32) := by simp [hc91]
          refine OwnFin.adv (B := T8.setTop (mkF m 115 #[.val (.int wh), .val (.int yr), .val (.int md), .val (.int (wh &&& (3 : Int32))), .val (.ref q1), .val (.int (2015 : Int32)), .val (.int yr), .val (.int (1 : Int32))] [])) (fun _ k => XS.icmpNo X8.here hx rfl (hb hby at_112) rfl (teq hc112_30).2 k) ?_
          refine OwnFin.adv (B := T8.setTop (mkF m 116 #[.val (.int wh), .val (.int yr), .val (.int md), .val (.int (wh &&& (3 : Int32))), .val (.ref q1), .val (.int (2015 : Int32)), .val (.int yr), .val (.int (1 : Int32))] [(.int (1 : Int32))])) (fun _ k => XS.iconst X8.here hx rfl (hb hby at_115) k) ?_
          refine OwnFin.adv (B := T8.setTop (mkF m 120 #[.val (.int wh), .val (.int yr), .val (.int md), .val (.int (wh &&& (3 : Int32))), .val (.ref q1), .val (.int (2015 : Int32)), .val (.int yr), .val (.int (1 : Int32))] [(.int (1 : Int32))])) (fun _ k => XS.goto X8.here hx rfl (pc0 := 116) (pc' := 120) rfl (hb hby at_116) (by decide) (by decide) k) ?_
          obtain ⟨fs, hr, hrun, hended, hW, hsame⟩ := X8.leave (v := some (.int (1 : Int32))) (fun h => by rw [Bd.returns] at h; cases h)
          refine OwnFin.leaf hP' ⟨_, _, retN X8 hx (t := .boolean) Bd.returns (by simp) (hb hby at_120) hr, hrun, hended, _, _, rfl, ?_, ⟨_, rfl⟩, hW, hsame.mono (by decide) (by decide)⟩
          exact ⟨rfl, N8⟩
      ·
        refine OwnFin.adv (B := T6.setTop (mkF m 73 #[.val (.int wh), .val (.int yr), .val (.int md), .val (.int (wh &&& (3 : Int32))), .val (.ref q1), .val (.int (2015 : Int32)), .unset, .unset] [])) (fun _ k => XS.ifNo X6.here hx rfl (hb hby at_70) rfl ((if0 _ _).trans (feq hc70).1) k) ?_
        refine OwnFin.adv (B := T6.setTop (mkF m 75 #[.val (.int wh), .val (.int yr), .val (.int md), .val (.int (wh &&& (3 : Int32))), .val (.ref q1), .val (.int (2015 : Int32)), .unset, .unset] [(.int (2015 : Int32))])) (fun _ k => XS.iload X6.here hx rfl (hb hby at_73) rfl k) ?_
        refine OwnFin.adv (B := T6.setTop (mkF m 76 #[.val (.int wh), .val (.int yr), .val (.int md), .val (.int (wh &&& (3 : Int32))), .val (.ref q1), .val (.int (2015 : Int32)), .unset, .unset] [(.int yr), (.int (2015 : Int32))])) (fun _ k => XS.iloadN X6.here hx rfl (hb hby at_75) rfl k) ?_
        refine OwnFin.adv (B := T6.setTop (mkF m 77 #[.val (.int wh), .val (.int yr), .val (.int md), .val (.int (wh &&& (3 : Int32))), .val (.ref q1), .val (.int (2015 : Int32)), .unset, .unset] [(.int (4 : Int32)), (.int yr), (.int (2015 : Int32))])) (fun _ k => XS.iconst X6.here hx rfl (hb hby at_76) k) ?_
        refine OwnFin.adv (B := T6.setTop (mkF m 78 #[.val (.int wh), .val (.int yr), .val (.int md), .val (.int (wh &&& (3 : Int32))), .val (.ref q1), .val (.int (2015 : Int32)), .unset, .unset] [(.int (yr % (4 : Int32))), (.int (2015 : Int32))])) (fun _ k => iremM (g := (mkF m 77 #[.val (.int wh), .val (.int yr), .val (.int md), .val (.int (wh &&& (3 : Int32))), .val (.ref q1), .val (.int (2015 : Int32)), .unset, .unset] [(.int (4 : Int32)), (.int yr), (.int (2015 : Int32))])) X6 hx rfl (hb hby at_77) rfl (by decide) k) ?_
        refine OwnFin.adv (B := T6.setTop (mkF m 79 #[.val (.int wh), .val (.int yr), .val (.int md), .val (.int (wh &&& (3 : Int32))), .val (.ref q1), .val (.int (2015 : Int32)), .unset, .unset] [(.int ((2015 : Int32) + (yr % (4 : Int32))))])) (fun _ k => XS.iadd X6.here hx rfl (hb hby at_78) rfl k) ?_
        refine OwnFin.adv (B := T6.setTop (mkF m 81 #[.val (.int wh), .val (.int yr), .val (.int md), .val (.int (wh &&& (3 : Int32))), .val (.ref q1), .val (.int (2015 : Int32)), .val (.int ((2015 : Int32) + (yr % (4 : Int32)))), .unset] [])) (fun _ k => XS.istore X6.here hx rfl (hb hby at_79) rfl (l' := #[.val (.int wh), .val (.int yr), .val (.int md), .val (.int (wh &&& (3 : Int32))), .val (.ref q1), .val (.int (2015 : Int32)), .val (.int ((2015 : Int32) + (yr % (4 : Int32)))), .unset]) rfl k) ?_
        refine OwnFin.adv (B := T6.setTop (mkF m 87 #[.val (.int wh), .val (.int yr), .val (.int md), .val (.int (wh &&& (3 : Int32))), .val (.ref q1), .val (.int (2015 : Int32)), .val (.int ((2015 : Int32) + (yr % (4 : Int32)))), .unset] [])) (fun _ k => XS.goto X6.here hx rfl (pc0 := 81) (pc' := 87) rfl (hb hby at_81) (by decide) (by decide) k) ?_
        refine OwnFin.adv (B := T6.setTop (mkF m 89 #[.val (.int wh), .val (.int yr), .val (.int md), .val (.int (wh &&& (3 : Int32))), .val (.ref q1), .val (.int (2015 : Int32)), .val (.int ((2015 : Int32) + (yr % (4 : Int32)))), .unset] [(.int ((2015 : Int32) + (yr % (4 : Int32))))])) (fun _ k => XS.iload X6.here hx rfl (hb hby at_87) rfl k) ?_
        refine OwnFin.adv (B := T6.setTop (mkF m 91 #[.val (.int wh), .val (.int yr), .val (.int md), .val (.int (wh &&& (3 : Int32))), .val (.ref q1), .val (.int (2015 : Int32)), .val (.int ((2015 : Int32) + (yr % (4 : Int32)))), .unset] [(.int (2015 : Int32)), (.int ((2015 : Int32) + (yr % (4 : Int32))))])) (fun _ k => XS.iload X6.here hx rfl (hb hby at_89) rfl k) ?_
        by_cases hc91 : ((2015 : Int32) + (yr % (4 : Int32))) < (2015 : Int32)
        ·
          refine OwnFin.adv (B := T6.setTop (mkF m 94 #[.val (.int wh), .val (.int yr), .val (.int md), .val (.int (wh &&& (3 : Int32))), .val (.ref q1), .val (.int (2015 : Int32)), .val (.int ((2015 : Int32) + (yr % (4 : Int32)))), .unset] [])) (fun _ k => XS.icmpNo X6.here hx rfl (hb hby at_91) rfl (tlt hc91).2.1 k) ?_
          refine OwnFin.adv (B := T6.setTop (mkF m 95 #[.val (.int wh), .val (.int yr), .val (.int md), .val (.int (wh &&& (3 : Int32))), .val (.ref q1), .val (.int (2015 : Int32)), .val (.int ((2015 : Int32) + (yr % (4 : Int32)))), .unset] [(.int (0 : Int32))])) (fun _ k => XS.iconst X6.here hx rfl (hb hby at_94) k) ?_
          refine OwnFin.adv (B := T6.setTop (mkF m 97 #[.val (.int wh), .val (.int yr), .val (.int md), .val (.int (wh &&& (3 : Int32))), .val (.ref q1), .val (.int (2015 : Int32)), .val (.int ((2015 : Int32) + (yr % (4 : Int32)))), .val (.int (0 : Int32))] [])) (fun _ k => XS.istore X6.here hx rfl (hb hby at_95) rfl (l' := #[.val (.int wh), .val (.int yr), .val (.int md), .val (.int (wh &&& (3 : Int32))), .val (.ref q1), .val (.int (2015 : Int32)), .val (.int ((2015 : Int32) + (yr % (4 : Int32)))), .val (.int (0 : Int32))]) rfl k) ?_
          refine OwnFin.adv (B := T6.setTop (mkF m 103 #[.val (.int wh), .val (.int yr), .val (.int md), .val (.int (wh &&& (3 : Int32))), .val (.ref q1), .val (.int (2015 : Int32)), .val (.int ((2015 : Int32) + (yr % (4 : Int32)))), .val (.int (0 : Int32))] [])) (fun _ k => XS.goto X6.here hx rfl (pc0 := 97) (pc' := 103) rfl (hb hby at_97) (by decide) (by decide) k) ?_
          refine OwnFin.adv (B := T6.setTop (mkF m 105 #[.val (.int wh), .val (.int yr), .val (.int md), .val (.int (wh &&& (3 : Int32))), .val (.ref q1), .val (.int (2015 : Int32)), .val (.int ((2015 : Int32) + (yr % (4 : Int32)))), .val (.int (0 : Int32))] [(.ref q1)])) (fun _ k => XS.aload X6.here hx rfl (hb hby at_103) rfl rfl k) ?_
          refine OwnFin.adv (B := T6.setTop (mkF m 107 #[.val (.int wh), .val (.int yr), .val (.int md), .val (.int (wh &&& (3 : Int32))), .val (.ref q1), .val (.int (2015 : Int32)), .val (.int ((2015 : Int32) + (yr % (4 : Int32)))), .val (.int (0 : Int32))] [(.int ((2015 : Int32) + (yr % (4 : Int32)))), (.ref q1)])) (fun _ k => XS.iload X6.here hx rfl (hb hby at_105) rfl k) ?_
          obtain ⟨cq9, kq9, q9a, q9b, q9c⟩ := isOf hZ e6 E_q1
          obtain ⟨_, _, ⟨T9, L9, k9, n9⟩, -, X9, ⟨Lc9, hQ9, l9, y9, z9⟩, st9⟩ := X6.virtualBack hx (y := (⟨"com/example/oleaster/oleaster/model/CropYears", "holds", "(I)Z"⟩ : MethodName)) (z := (⟨"com/example/oleaster/oleaster/model/CropYears", "holds", "(I)Z"⟩ : MethodName)) hown (mvT hZ (hw _ (List.mem_of_getElem? (i := 3) rfl))) (mvT hZ (hw _ (List.mem_of_getElem? (i := 4) rfl))) (notFace_of_selects (args := #[]) (mvT hZ (hw _ (List.mem_of_getElem? (i := 6) rfl)))) (mvT hZ (hw _ (List.mem_of_getElem? (i := 6) rfl))) (mvT hZ (hw _ (List.mem_of_getElem? (i := 5) rfl))) (by decide) (backOf (W := 0) (own_rm1 l Z a0 hw [] q1 ((2015 : Int32) + (yr % (4 : Int32))) (2015 : Int32) h0 n0 Z0 F_q1) hZ (hw _ (List.mem_of_getElem? (i := 7) rfl)) (hw _ (List.mem_of_getElem? (i := 1) rfl)) (by decide) (by decide)) q9a q9c (g := (mkF m 107 #[.val (.int wh), .val (.int yr), .val (.int md), .val (.int (wh &&& (3 : Int32))), .val (.ref q1), .val (.int (2015 : Int32)), .val (.int ((2015 : Int32) + (yr % (4 : Int32)))), .val (.int (0 : Int32))] [(.int ((2015 : Int32) + (yr % (4 : Int32)))), (.ref q1)])) rfl (by rw [hml]; rfl) (Steps.refl _) (argsL := [(.int ((2015 : Int32) + (yr % (4 : Int32))))]) (rest := []) (lenOf own_pd_x28Ix29Z rfl) rfl (by show 2 * 0 + _ ≤ _; exact Nat.le_of_eq rfl) (hb hby at_107) (fun _ _ => ⟨rfl, e6, (by decide : 0 + 0 ≤ _), (by decide : 0 + 0 ≤ _)⟩)
          dsimp only [Pt.U, Pt.locs, Pt.cells, Pt.slots] at X9 l9 y9 z9 st9 hQ9
          subst l9 y9 z9
          obtain ⟨rfl, N9q, eh9⟩ := hQ9
          have N9 := Fr.app N0 N9q
          refine OwnFin.adv (B := T9.setTop (mkF m 110 #[.val (.int wh), .val (.int yr), .val (.int md), .val (.int (wh &&& (3 : Int32))), .val (.ref q1), .val (.int (2015 : Int32)), .val (.int ((2015 : Int32) + (yr % (4 : Int32)))), .val (.int (0 : Int32))] [(.int (if ((2015 : Int32) + (yr % (4 : Int32))) < (2015 : Int32) then (0 : Int32) else 1))])) (fun _ k => st9.trans k) ?_
          refine OwnFin.adv (B := T9.setTop (mkF m 112 #[.val (.int wh), .val (.int yr), .val (.int md), .val (.int (wh &&& (3 : Int32))), .val (.ref q1), .val (.int (2015 : Int32)), .val (.int ((2015 : Int32) + (yr % (4 : Int32)))), .val (.int (0 : Int32))] [(.int (0 : Int32)), (.int (if ((2015 : Int32) + (yr % (4 : Int32))) < (2015 : Int32) then (0 : Int32) else 1))])) (fun _ k => XS.iload X9.here hx rfl (hb hby at_110) rfl k) ?_
          have hc112_36 : (if ((2015 : Int32) + (yr % (4 : Int32))) < (2015 : Int32) then (0 : Int32) else 1) = (0 : Int32) := by simp [hc91]
          refine OwnFin.adv (B := T9.setTop (mkF m 115 #[.val (.int wh), .val (.int yr), .val (.int md), .val (.int (wh &&& (3 : Int32))), .val (.ref q1), .val (.int (2015 : Int32)), .val (.int ((2015 : Int32) + (yr % (4 : Int32)))), .val (.int (0 : Int32))] [])) (fun _ k => XS.icmpNo X9.here hx rfl (hb hby at_112) rfl (teq hc112_36).2 k) ?_
          refine OwnFin.adv (B := T9.setTop (mkF m 116 #[.val (.int wh), .val (.int yr), .val (.int md), .val (.int (wh &&& (3 : Int32))), .val (.ref q1), .val (.int (2015 : Int32)), .val (.int ((2015 : Int32) + (yr % (4 : Int32)))), .val (.int (0 : Int32))] [(.int (1 : Int32))])) (fun _ k => XS.iconst X9.here hx rfl (hb hby at_115) k) ?_
          refine OwnFin.adv (B := T9.setTop (mkF m 120 #[.val (.int wh), .val (.int yr), .val (.int md), .val (.int (wh &&& (3 : Int32))), .val (.ref q1), .val (.int (2015 : Int32)), .val (.int ((2015 : Int32) + (yr % (4 : Int32)))), .val (.int (0 : Int32))] [(.int (1 : Int32))])) (fun _ k => XS.goto X9.here hx rfl (pc0 := 116) (pc' := 120) rfl (hb hby at_116) (by decide) (by decide) k) ?_
          obtain ⟨fs, hr, hrun, hended, hW, hsame⟩ := X9.leave (v := some (.int (1 : Int32))) (fun h => by rw [Bd.returns] at h; cases h)
          refine OwnFin.leaf hP' ⟨_, _, retN X9 hx (t := .boolean) Bd.returns (by simp) (hb hby at_120) hr, hrun, hended, _, _, rfl, ?_, ⟨_, rfl⟩, hW, hsame.mono (by decide) (by decide)⟩
          exact ⟨rfl, N9⟩
        ·
          refine OwnFin.adv (B := T6.setTop (mkF m 100 #[.val (.int wh), .val (.int yr), .val (.int md), .val (.int (wh &&& (3 : Int32))), .val (.ref q1), .val (.int (2015 : Int32)), .val (.int ((2015 : Int32) + (yr % (4 : Int32)))), .unset] [])) (fun _ k => XS.icmpYes X6.here hx rfl (pc0 := 91) (pc' := 100) rfl (hb hby at_91) rfl (flt hc91).2.1 (by decide) (by decide) k) ?_
          refine OwnFin.adv (B := T6.setTop (mkF m 101 #[.val (.int wh), .val (.int yr), .val (.int md), .val (.int (wh &&& (3 : Int32))), .val (.ref q1), .val (.int (2015 : Int32)), .val (.int ((2015 : Int32) + (yr % (4 : Int32)))), .unset] [(.int (1 : Int32))])) (fun _ k => XS.iconst X6.here hx rfl (hb hby at_100) k) ?_
          refine OwnFin.adv (B := T6.setTop (mkF m 103 #[.val (.int wh), .val (.int yr), .val (.int md), .val (.int (wh &&& (3 : Int32))), .val (.ref q1), .val (.int (2015 : Int32)), .val (.int ((2015 : Int32) + (yr % (4 : Int32)))), .val (.int (1 : Int32))] [])) (fun _ k => XS.istore X6.here hx rfl (hb hby at_101) rfl (l' := #[.val (.int wh), .val (.int yr), .val (.int md), .val (.int (wh &&& (3 : Int32))), .val (.ref q1), .val (.int (2015 : Int32)), .val (.int ((2015 : Int32) + (yr % (4 : Int32)))), .val (.int (1 : Int32))]) rfl k) ?_
          refine OwnFin.adv (B := T6.setTop (mkF m 105 #[.val (.int wh), .val (.int yr), .val (.int md), .val (.int (wh &&& (3 : Int32))), .val (.ref q1), .val (.int (2015 : Int32)), .val (.int ((2015 : Int32) + (yr % (4 : Int32)))), .val (.int (1 : Int32))] [(.ref q1)])) (fun _ k => XS.aload X6.here hx rfl (hb hby at_103) rfl rfl k) ?_
          refine OwnFin.adv (B := T6.setTop (mkF m 107 #[.val (.int wh), .val (.int yr), .val (.int md), .val (.int (wh &&& (3 : Int32))), .val (.ref q1), .val (.int (2015 : Int32)), .val (.int ((2015 : Int32) + (yr % (4 : Int32)))), .val (.int (1 : Int32))] [(.int ((2015 : Int32) + (yr % (4 : Int32)))), (.ref q1)])) (fun _ k => XS.iload X6.here hx rfl (hb hby at_105) rfl k) ?_
          obtain ⟨cq10, kq10, q10a, q10b, q10c⟩ := isOf hZ e6 E_q1
          obtain ⟨_, _, ⟨T10, L10, k10, n10⟩, -, X10, ⟨Lc10, hQ10, l10, y10, z10⟩, st10⟩ := X6.virtualBack hx (y := (⟨"com/example/oleaster/oleaster/model/CropYears", "holds", "(I)Z"⟩ : MethodName)) (z := (⟨"com/example/oleaster/oleaster/model/CropYears", "holds", "(I)Z"⟩ : MethodName)) hown (mvT hZ (hw _ (List.mem_of_getElem? (i := 3) rfl))) (mvT hZ (hw _ (List.mem_of_getElem? (i := 4) rfl))) (notFace_of_selects (args := #[]) (mvT hZ (hw _ (List.mem_of_getElem? (i := 6) rfl)))) (mvT hZ (hw _ (List.mem_of_getElem? (i := 6) rfl))) (mvT hZ (hw _ (List.mem_of_getElem? (i := 5) rfl))) (by decide) (backOf (W := 0) (own_rm1 l Z a0 hw [] q1 ((2015 : Int32) + (yr % (4 : Int32))) (2015 : Int32) h0 n0 Z0 F_q1) hZ (hw _ (List.mem_of_getElem? (i := 7) rfl)) (hw _ (List.mem_of_getElem? (i := 1) rfl)) (by decide) (by decide)) q10a q10c (g := (mkF m 107 #[.val (.int wh), .val (.int yr), .val (.int md), .val (.int (wh &&& (3 : Int32))), .val (.ref q1), .val (.int (2015 : Int32)), .val (.int ((2015 : Int32) + (yr % (4 : Int32)))), .val (.int (1 : Int32))] [(.int ((2015 : Int32) + (yr % (4 : Int32)))), (.ref q1)])) rfl (by rw [hml]; rfl) (Steps.refl _) (argsL := [(.int ((2015 : Int32) + (yr % (4 : Int32))))]) (rest := []) (lenOf own_pd_x28Ix29Z rfl) rfl (by show 2 * 0 + _ ≤ _; exact Nat.le_of_eq rfl) (hb hby at_107) (fun _ _ => ⟨rfl, e6, (by decide : 0 + 0 ≤ _), (by decide : 0 + 0 ≤ _)⟩)
          dsimp only [Pt.U, Pt.locs, Pt.cells, Pt.slots] at X10 l10 y10 z10 st10 hQ10
          subst l10 y10 z10
          obtain ⟨rfl, N10q, eh10⟩ := hQ10
          have N10 := Fr.app N0 N10q
          refine OwnFin.adv (B := T10.setTop (mkF m 110 #[.val (.int wh), .val (.int yr), .val (.int md), .val (.int (wh &&& (3 : Int32))), .val (.ref q1), .val (.int (2015 : Int32)), .val (.int ((2015 : Int32) + (yr % (4 : Int32)))), .val (.int (1 : Int32))] [(.int (if ((2015 : Int32) + (yr % (4 : Int32))) < (2015 : Int32) then (0 : Int32) else 1))])) (fun _ k => st10.trans k) ?_
          refine OwnFin.adv (B := T10.setTop (mkF m 112 #[.val (.int wh), .val (.int yr), .val (.int md), .val (.int (wh &&& (3 : Int32))), .val (.ref q1), .val (.int (2015 : Int32)), .val (.int ((2015 : Int32) + (yr % (4 : Int32)))), .val (.int (1 : Int32))] [(.int (1 : Int32)), (.int (if ((2015 : Int32) + (yr % (4 : Int32))) < (2015 : Int32) then (0 : Int32) else 1))])) (fun _ k => XS.iload X10.here hx rfl (hb hby at_110) rfl k) ?_
          have hc112_35 : (if ((2015 : Int32) + (yr % (4 : Int32))) < (2015 : Int32) then (0 : Int32) else 1) = (1 : Int32) := by simp [hc91]
          refine OwnFin.adv (B := T10.setTop (mkF m 115 #[.val (.int wh), .val (.int yr), .val (.int md), .val (.int (wh &&& (3 : Int32))), .val (.ref q1), .val (.int (2015 : Int32)), .val (.int ((2015 : Int32) + (yr % (4 : Int32)))), .val (.int (1 : Int32))] [])) (fun _ k => XS.icmpNo X10.here hx rfl (hb hby at_112) rfl (teq hc112_35).2 k) ?_
          refine OwnFin.adv (B := T10.setTop (mkF m 116 #[.val (.int wh), .val (.int yr), .val (.int md), .val (.int (wh &&& (3 : Int32))), .val (.ref q1), .val (.int (2015 : Int32)), .val (.int ((2015 : Int32) + (yr % (4 : Int32)))), .val (.int (1 : Int32))] [(.int (1 : Int32))])) (fun _ k => XS.iconst X10.here hx rfl (hb hby at_115) k) ?_
          refine OwnFin.adv (B := T10.setTop (mkF m 120 #[.val (.int wh), .val (.int yr), .val (.int md), .val (.int (wh &&& (3 : Int32))), .val (.ref q1), .val (.int (2015 : Int32)), .val (.int ((2015 : Int32) + (yr % (4 : Int32)))), .val (.int (1 : Int32))] [(.int (1 : Int32))])) (fun _ k => XS.goto X10.here hx rfl (pc0 := 116) (pc' := 120) rfl (hb hby at_116) (by decide) (by decide) k) ?_
          obtain ⟨fs, hr, hrun, hended, hW, hsame⟩ := X10.leave (v := some (.int (1 : Int32))) (fun h => by rw [Bd.returns] at h; cases h)
          refine OwnFin.leaf hP' ⟨_, _, retN X10 hx (t := .boolean) Bd.returns (by simp) (hb hby at_120) hr, hrun, hended, _, _, rfl, ?_, ⟨_, rfl⟩, hW, hsame.mono (by decide) (by decide)⟩
          exact ⟨rfl, N10⟩
    ·
      refine OwnFin.adv (B := s₁.setTop (mkF m 39 #[.val (.int wh), .val (.int yr), .val (.int md), .val (.int (wh &&& (3 : Int32))), .unset, .unset, .unset, .unset] [])) (fun _ k => XS.icmpYes X0.here hx rfl (pc0 := 23) (pc' := 39) rfl (hb hby at_23) rfl (feq hc23).2 (by decide) (by decide) k) ?_
      refine OwnFin.adv (B := s₁.setTop (mkF m 40 #[.val (.int wh), .val (.int yr), .val (.int md), .val (.int (wh &&& (3 : Int32))), .unset, .unset, .unset, .unset] [(.int (wh &&& (3 : Int32)))])) (fun _ k => XS.iloadN X0.here hx rfl (hb hby at_39) rfl k) ?_
      refine OwnFin.adv (B := s₁.setTop (mkF m 41 #[.val (.int wh), .val (.int yr), .val (.int md), .val (.int (wh &&& (3 : Int32))), .unset, .unset, .unset, .unset] [(.int (2 : Int32)), (.int (wh &&& (3 : Int32)))])) (fun _ k => XS.iconst X0.here hx rfl (hb hby at_40) k) ?_
      by_cases hc41 : (wh &&& (3 : Int32)) = (2 : Int32)
      ·
        refine OwnFin.adv (B := s₁.setTop (mkF m 44 #[.val (.int wh), .val (.int yr), .val (.int md), .val (.int (wh &&& (3 : Int32))), .unset, .unset, .unset, .unset] [])) (fun _ k => XS.icmpNo X0.here hx rfl (hb hby at_41) rfl (teq hc41).2 k) ?_
        obtain ⟨T11, X11, e11, st11⟩ := getS2 X0 hx hZ hown (host := "") (Or.inl (hw _ (List.mem_of_getElem? (i := 14) rfl))) Via.refl e0 S_q2 (g := (mkF m 44 #[.val (.int wh), .val (.int yr), .val (.int md), .val (.int (wh &&& (3 : Int32))), .unset, .unset, .unset, .unset] [])) rfl (hb hby at_44)
        refine OwnFin.adv (B := T11.setTop (mkF m 47 #[.val (.int wh), .val (.int yr), .val (.int md), .val (.int (wh &&& (3 : Int32))), .unset, .unset, .unset, .unset] [(.ref q2)])) (fun _ k => st11 _ k) ?_
        refine OwnFin.adv (B := T11.setTop (mkF m 49 #[.val (.int wh), .val (.int yr), .val (.int md), .val (.int (wh &&& (3 : Int32))), .val (.ref q2), .unset, .unset, .unset] [])) (fun _ k => XS.astore X11.here hx rfl (hb hby at_47) rfl rfl (l' := #[.val (.int wh), .val (.int yr), .val (.int md), .val (.int (wh &&& (3 : Int32))), .val (.ref q2), .unset, .unset, .unset]) rfl k) ?_
        refine OwnFin.adv (B := T11.setTop (mkF m 52 #[.val (.int wh), .val (.int yr), .val (.int md), .val (.int (wh &&& (3 : Int32))), .val (.ref q2), .unset, .unset, .unset] [(.int (2016 : Int32))])) (fun _ k => XS.sipush X11.here hx rfl (hb hby at_49) k) ?_
        refine OwnFin.adv (B := T11.setTop (mkF m 54 #[.val (.int wh), .val (.int yr), .val (.int md), .val (.int (wh &&& (3 : Int32))), .val (.ref q2), .val (.int (2016 : Int32)), .unset, .unset] [])) (fun _ k => XS.istore X11.here hx rfl (hb hby at_52) rfl (l' := #[.val (.int wh), .val (.int yr), .val (.int md), .val (.int (wh &&& (3 : Int32))), .val (.ref q2), .val (.int (2016 : Int32)), .unset, .unset]) rfl k) ?_
        refine OwnFin.adv (B := T11.setTop (mkF m 67 #[.val (.int wh), .val (.int yr), .val (.int md), .val (.int (wh &&& (3 : Int32))), .val (.ref q2), .val (.int (2016 : Int32)), .unset, .unset] [])) (fun _ k => XS.goto X11.here hx rfl (pc0 := 54) (pc' := 67) rfl (hb hby at_54) (by decide) (by decide) k) ?_
        refine OwnFin.adv (B := T11.setTop (mkF m 68 #[.val (.int wh), .val (.int yr), .val (.int md), .val (.int (wh &&& (3 : Int32))), .val (.ref q2), .val (.int (2016 : Int32)), .unset, .unset] [(.int md)])) (fun _ k => XS.iloadN X11.here hx rfl (hb hby at_67) rfl k) ?_
        refine OwnFin.adv (B := T11.setTop (mkF m 69 #[.val (.int wh), .val (.int yr), .val (.int md), .val (.int (wh &&& (3 : Int32))), .val (.ref q2), .val (.int (2016 : Int32)), .unset, .unset] [(.int (1 : Int32)), (.int md)])) (fun _ k => XS.iconst X11.here hx rfl (hb hby at_68) k) ?_
        refine OwnFin.adv (B := T11.setTop (mkF m 70 #[.val (.int wh), .val (.int yr), .val (.int md), .val (.int (wh &&& (3 : Int32))), .val (.ref q2), .val (.int (2016 : Int32)), .unset, .unset] [(.int (md &&& (1 : Int32)))])) (fun _ k => XS.iand X11.here hx rfl (hb hby at_69) rfl k) ?_
        by_cases hc70 : (md &&& (1 : Int32)) = (0 : Int32)
        ·
          refine OwnFin.adv (B := T11.setTop (mkF m 84 #[.val (.int wh), .val (.int yr), .val (.int md), .val (.int (wh &&& (3 : Int32))), .val (.ref q2), .val (.int (2016 : Int32)), .unset, .unset] [])) (fun _ k => XS.ifYes X11.here hx rfl (pc0 := 70) (pc' := 84) rfl (hb hby at_70) rfl ((if0 _ _).trans (teq hc70).1) (by decide) (by decide) k) ?_
          refine OwnFin.adv (B := T11.setTop (mkF m 85 #[.val (.int wh), .val (.int yr), .val (.int md), .val (.int (wh &&& (3 : Int32))), .val (.ref q2), .val (.int (2016 : Int32)), .unset, .unset] [(.int yr)])) (fun _ k => XS.iloadN X11.here hx rfl (hb hby at_84) rfl k) ?_
          refine OwnFin.adv (B := T11.setTop (mkF m 87 #[.val (.int wh), .val (.int yr), .val (.int md), .val (.int (wh &&& (3 : Int32))), .val (.ref q2), .val (.int (2016 : Int32)), .val (.int yr), .unset] [])) (fun _ k => XS.istore X11.here hx rfl (hb hby at_85) rfl (l' := #[.val (.int wh), .val (.int yr), .val (.int md), .val (.int (wh &&& (3 : Int32))), .val (.ref q2), .val (.int (2016 : Int32)), .val (.int yr), .unset]) rfl k) ?_
          refine OwnFin.adv (B := T11.setTop (mkF m 89 #[.val (.int wh), .val (.int yr), .val (.int md), .val (.int (wh &&& (3 : Int32))), .val (.ref q2), .val (.int (2016 : Int32)), .val (.int yr), .unset] [(.int yr)])) (fun _ k => XS.iload X11.here hx rfl (hb hby at_87) rfl k) ?_
          refine OwnFin.adv (B := T11.setTop (mkF m 91 #[.val (.int wh), .val (.int yr), .val (.int md), .val (.int (wh &&& (3 : Int32))), .val (.ref q2), .val (.int (2016 : Int32)), .val (.int yr), .unset] [(.int (2016 : Int32)), (.int yr)])) (fun _ k => XS.iload X11.here hx rfl (hb hby at_89) rfl k) ?_
          by_cases hc91 : yr < (2016 : Int32)
          ·
            refine OwnFin.adv (B := T11.setTop (mkF m 94 #[.val (.int wh), .val (.int yr), .val (.int md), .val (.int (wh &&& (3 : Int32))), .val (.ref q2), .val (.int (2016 : Int32)), .val (.int yr), .unset] [])) (fun _ k => XS.icmpNo X11.here hx rfl (hb hby at_91) rfl (tlt hc91).2.1 k) ?_
            refine OwnFin.adv (B := T11.setTop (mkF m 95 #[.val (.int wh), .val (.int yr), .val (.int md), .val (.int (wh &&& (3 : Int32))), .val (.ref q2), .val (.int (2016 : Int32)), .val (.int yr), .unset] [(.int (0 : Int32))])) (fun _ k => XS.iconst X11.here hx rfl (hb hby at_94) k) ?_
            refine OwnFin.adv (B := T11.setTop (mkF m 97 #[.val (.int wh), .val (.int yr), .val (.int md), .val (.int (wh &&& (3 : Int32))), .val (.ref q2), .val (.int (2016 : Int32)), .val (.int yr), .val (.int (0 : Int32))] [])) (fun _ k => XS.istore X11.here hx rfl (hb hby at_95) rfl (l' := #[.val (.int wh), .val (.int yr), .val (.int md), .val (.int (wh &&& (3 : Int32))), .val (.ref q2), .val (.int (2016 : Int32)), .val (.int yr), .val (.int (0 : Int32))]) rfl k) ?_
            refine OwnFin.adv (B := T11.setTop (mkF m 103 #[.val (.int wh), .val (.int yr), .val (.int md), .val (.int (wh &&& (3 : Int32))), .val (.ref q2), .val (.int (2016 : Int32)), .val (.int yr), .val (.int (0 : Int32))] [])) (fun _ k => XS.goto X11.here hx rfl (pc0 := 97) (pc' := 103) rfl (hb hby at_97) (by decide) (by decide) k) ?_
            refine OwnFin.adv (B := T11.setTop (mkF m 105 #[.val (.int wh), .val (.int yr), .val (.int md), .val (.int (wh &&& (3 : Int32))), .val (.ref q2), .val (.int (2016 : Int32)), .val (.int yr), .val (.int (0 : Int32))] [(.ref q2)])) (fun _ k => XS.aload X11.here hx rfl (hb hby at_103) rfl rfl k) ?_
            refine OwnFin.adv (B := T11.setTop (mkF m 107 #[.val (.int wh), .val (.int yr), .val (.int md), .val (.int (wh &&& (3 : Int32))), .val (.ref q2), .val (.int (2016 : Int32)), .val (.int yr), .val (.int (0 : Int32))] [(.int yr), (.ref q2)])) (fun _ k => XS.iload X11.here hx rfl (hb hby at_105) rfl k) ?_
            obtain ⟨cq12, kq12, q12a, q12b, q12c⟩ := isOf hZ e11 E_q2
            obtain ⟨_, _, ⟨T12, L12, k12, n12⟩, -, X12, ⟨Lc12, hQ12, l12, y12, z12⟩, st12⟩ := X11.virtualBack hx (y := (⟨"com/example/oleaster/oleaster/model/CropYears", "holds", "(I)Z"⟩ : MethodName)) (z := (⟨"com/example/oleaster/oleaster/model/CropYears", "holds", "(I)Z"⟩ : MethodName)) hown (mvT hZ (hw _ (List.mem_of_getElem? (i := 3) rfl))) (mvT hZ (hw _ (List.mem_of_getElem? (i := 4) rfl))) (notFace_of_selects (args := #[]) (mvT hZ (hw _ (List.mem_of_getElem? (i := 6) rfl)))) (mvT hZ (hw _ (List.mem_of_getElem? (i := 6) rfl))) (mvT hZ (hw _ (List.mem_of_getElem? (i := 5) rfl))) (by decide) (backOf (W := 0) (own_rm1 l Z a0 hw [] q2 yr (2016 : Int32) h0 n0 Z0 F_q2) hZ (hw _ (List.mem_of_getElem? (i := 7) rfl)) (hw _ (List.mem_of_getElem? (i := 1) rfl)) (by decide) (by decide)) q12a q12c (g := (mkF m 107 #[.val (.int wh), .val (.int yr), .val (.int md), .val (.int (wh &&& (3 : Int32))), .val (.ref q2), .val (.int (2016 : Int32)), .val (.int yr), .val (.int (0 : Int32))] [(.int yr), (.ref q2)])) rfl (by rw [hml]; rfl) (Steps.refl _) (argsL := [(.int yr)]) (rest := []) (lenOf own_pd_x28Ix29Z rfl) rfl (by show 2 * 0 + _ ≤ _; exact Nat.le_of_eq rfl) (hb hby at_107) (fun _ _ => ⟨rfl, e11, (by decide : 0 + 0 ≤ _), (by decide : 0 + 0 ≤ _)⟩)
            dsimp only [Pt.U, Pt.locs, Pt.cells, Pt.slots] at X12 l12 y12 z12 st12 hQ12
            subst l12 y12 z12
            obtain ⟨rfl, N12q, eh12⟩ := hQ12
            have N12 := Fr.app N0 N12q
            refine OwnFin.adv (B := T12.setTop (mkF m 110 #[.val (.int wh), .val (.int yr), .val (.int md), .val (.int (wh &&& (3 : Int32))), .val (.ref q2), .val (.int (2016 : Int32)), .val (.int yr), .val (.int (0 : Int32))] [(.int (if yr < (2016 : Int32) then (0 : Int32) else 1))])) (fun _ k => st12.trans k) ?_
            refine OwnFin.adv (B := T12.setTop (mkF m 112 #[.val (.int wh), .val (.int yr), .val (.int md), .val (.int (wh &&& (3 : Int32))), .val (.ref q2), .val (.int (2016 : Int32)), .val (.int yr), .val (.int (0 : Int32))] [(.int (0 : Int32)), (.int (if yr < (2016 : Int32) then (0 : Int32) else 1))])) (fun _ k => XS.iload X12.here hx rfl (hb hby at_110) rfl k) ?_
            have hc112_34 : (if yr < (2016 : Int32) then (0 : Int32) else 1) = (0 : Int32) := by simp [hc91]
            refine OwnFin.adv (B := T12.setTop (mkF m 115 #[.val (.int wh), .val (.int yr), .val (.int md), .val (.int (wh &&& (3 : Int32))), .val (.ref q2), .val (.int (2016 : Int32)), .val (.int yr), .val (.int (0 : Int32))] [])) (fun _ k => XS.icmpNo X12.here hx rfl (hb hby at_112) rfl (teq hc112_34).2 k) ?_
            refine OwnFin.adv (B := T12.setTop (mkF m 116 #[.val (.int wh), .val (.int yr), .val (.int md), .val (.int (wh &&& (3 : Int32))), .val (.ref q2), .val (.int (2016 : Int32)), .val (.int yr), .val (.int (0 : Int32))] [(.int (1 : Int32))])) (fun _ k => XS.iconst X12.here hx rfl (hb hby at_115) k) ?_
            refine OwnFin.adv (B := T12.setTop (mkF m 120 #[.val (.int wh), .val (.int yr), .val (.int md), .val (.int (wh &&& (3 : Int32))), .val (.ref q2), .val (.int (2016 : Int32)), .val (.int yr), .val (.int (0 : Int32))] [(.int (1 : Int32))])) (fun _ k => XS.goto X12.here hx rfl (pc0 := 116) (pc' := 120) rfl (hb hby at_116) (by decide) (by decide) k) ?_
            obtain ⟨fs, hr, hrun, hended, hW, hsame⟩ := X12.leave (v := some (.int (1 : Int32))) (fun h => by rw [Bd.returns] at h; cases h)
            refine OwnFin.leaf hP' ⟨_, _, retN X12 hx (t := .boolean) Bd.returns (by simp) (hb hby at_120) hr, hrun, hended, _, _, rfl, ?_, ⟨_, rfl⟩, hW, hsame.mono (by decide) (by decide)⟩
            exact ⟨rfl, N12⟩
          ·
            refine OwnFin.adv (B := T11.setTop (mkF m 100 #[.val (.int wh), .val (.int yr), .val (.int md), .val (.int (wh &&& (3 : Int32))), .val (.ref q2), .val (.int (2016 : Int32)), .val (.int yr), .unset] [])) (fun _ k => XS.icmpYes X11.here hx rfl (pc0 := 91) (pc' := 100) rfl (hb hby at_91) rfl (flt hc91).2.1 (by decide) (by decide) k) ?_
            refine OwnFin.adv (B := T11.setTop (mkF m 101 #[.val (.int wh), .val (.int yr), .val (.int md), .val (.int (wh &&& (3 : Int32))), .val (.ref q2), .val (.int (2016 : Int32)), .val (.int yr), .unset] [(.int (1 : Int32))])) (fun _ k => XS.iconst X11.here hx rfl (hb hby at_100) k) ?_
            refine OwnFin.adv (B := T11.setTop (mkF m 103 #[.val (.int wh), .val (.int yr), .val (.int md), .val (.int (wh &&& (3 : Int32))), .val (.ref q2), .val (.int (2016 : Int32)), .val (.int yr), .val (.int (1 : Int32))] [])) (fun _ k => XS.istore X11.here hx rfl (hb hby at_101) rfl (l' := #[.val (.int wh), .val (.int yr), .val (.int md), .val (.int (wh &&& (3 : Int32))), .val (.ref q2), .val (.int (2016 : Int32)), .val (.int yr), .val (.int (1 : Int32))]) rfl k) ?_
            refine OwnFin.adv (B := T11.setTop (mkF m 105 #[.val (.int wh), .val (.int yr), .val (.int md), .val (.int (wh &&& (3 : Int32))), .val (.ref q2), .val (.int (2016 : Int32)), .val (.int yr), .val (.int (1 : Int32))] [(.ref q2)])) (fun _ k => XS.aload X11.here hx rfl (hb hby at_103) rfl rfl k) ?_
            refine OwnFin.adv (B := T11.setTop (mkF m 107 #[.val (.int wh), .val (.int yr), .val (.int md), .val (.int (wh &&& (3 : Int32))), .val (.ref q2), .val (.int (2016 : Int32)), .val (.int yr), .val (.int (1 : Int32))] [(.int yr), (.ref q2)])) (fun _ k => XS.iload X11.here hx rfl (hb hby at_105) rfl k) ?_
            obtain ⟨cq13, kq13, q13a, q13b, q13c⟩ := isOf hZ e11 E_q2
            obtain ⟨_, _, ⟨T13, L13, k13, n13⟩, -, X13, ⟨Lc13, hQ13, l13, y13, z13⟩, st13⟩ := X11.virtualBack hx (y := (⟨"com/example/oleaster/oleaster/model/CropYears", "holds", "(I)Z"⟩ : MethodName)) (z := (⟨"com/example/oleaster/oleaster/model/CropYears", "holds", "(I)Z"⟩ : MethodName)) hown (mvT hZ (hw _ (List.mem_of_getElem? (i := 3) rfl))) (mvT hZ (hw _ (List.mem_of_getElem? (i := 4) rfl))) (notFace_of_selects (args := #[]) (mvT hZ (hw _ (List.mem_of_getElem? (i := 6) rfl)))) (mvT hZ (hw _ (List.mem_of_getElem? (i := 6) rfl))) (mvT hZ (hw _ (List.mem_of_getElem? (i := 5) rfl))) (by decide) (backOf (W := 0) (own_rm1 l Z a0 hw [] q2 yr (2016 : Int32) h0 n0 Z0 F_q2) hZ (hw _ (List.mem_of_getElem? (i := 7) rfl)) (hw _ (List.mem_of_getElem? (i := 1) rfl)) (by decide) (by decide)) q13a q13c (g := (mkF m 107 #[.val (.int wh), .val (.int yr), .val (.int md), .val (.int (wh &&& (3 : Int32))), .val (.ref q2), .val (.int (2016 : Int32)), .val (.int yr), .val (.int (1 : Int32))] [(.int yr), (.ref q2)])) rfl (by rw [hml]; rfl) (Steps.refl _) (argsL := [(.int yr)]) (rest := []) (lenOf own_pd_x28Ix29Z rfl) rfl (by show 2 * 0 + _ ≤ _; exact Nat.le_of_eq rfl) (hb hby at_107) (fun _ _ => ⟨rfl, e11, (by decide : 0 + 0 ≤ _), (by decide : 0 + 0 ≤ _)⟩)
            dsimp only [Pt.U, Pt.locs, Pt.cells, Pt.slots] at X13 l13 y13 z13 st13 hQ13
            subst l13 y13 z13
            obtain ⟨rfl, N13q, eh13⟩ := hQ13
            have N13 := Fr.app N0 N13q
            refine OwnFin.adv (B := T13.setTop (mkF m 110 #[.val (.int wh), .val (.int yr), .val (.int md), .val (.int (wh &&& (3 : Int32))), .val (.ref q2), .val (.int (2016 : Int32)), .val (.int yr), .val (.int (1 : Int32))] [(.int (if yr < (2016 : Int32) then (0 : Int32) else 1))])) (fun _ k => st13.trans k) ?_
            refine OwnFin.adv (B := T13.setTop (mkF m 112 #[.val (.int wh), .val (.int yr), .val (.int md), .val (.int (wh &&& (3 : Int32))), .val (.ref q2), .val (.int (2016 : Int32)), .val (.int yr), .val (.int (1 : Int32))] [(.int (1 : Int32)), (.int (if yr < (2016 : Int32) then (0 : Int32) else 1))])) (fun _ k => XS.iload X13.here hx rfl (hb hby at_110) rfl k) ?_
            have hc112_33 : (if yr < (2016 : Int32) then (0 : Int32) else 1) = (1 : Int32) := by simp [hc91]
            refine OwnFin.adv (B := T13.setTop (mkF m 115 #[.val (.int wh), .val (.int yr), .val (.int md), .val (.int (wh &&& (3 : Int32))), .val (.ref q2), .val (.int (2016 : Int32)), .val (.int yr), .val (.int (1 : Int32))] [])) (fun _ k => XS.icmpNo X13.here hx rfl (hb hby at_112) rfl (teq hc112_33).2 k) ?_
            refine OwnFin.adv (B := T13.setTop (mkF m 116 #[.val (.int wh), .val (.int yr), .val (.int md), .val (.int (wh &&& (3 : Int32))), .val (.ref q2), .val (.int (2016 : Int32)), .val (.int yr), .val (.int (1 : Int32))] [(.int (1 : Int32))])) (fun _ k => XS.iconst X13.here hx rfl (hb hby at_115) k) ?_
            refine OwnFin.adv (B := T13.setTop (mkF m 120 #[.val (.int wh), .val (.int yr), .val (.int md), .val (.int (wh &&& (3 : Int32))), .val (.ref q2), .val (.int (2016 : Int32)), .val (.int yr), .val (.int (1 : Int32))] [(.int (1 : Int32))])) (fun _ k => XS.goto X13.here hx rfl (pc0 := 116) (pc' := 120) rfl (hb hby at_116) (by decide) (by decide) k) ?_
            obtain ⟨fs, hr, hrun, hended, hW, hsame⟩ := X13.leave (v := some (.int (1 : Int32))) (fun h => by rw [Bd.returns] at h; cases h)
            refine OwnFin.leaf hP' ⟨_, _, retN X13 hx (t := .boolean) Bd.returns (by simp) (hb hby at_120) hr, hrun, hended, _, _, rfl, ?_, ⟨_, rfl⟩, hW, hsame.mono (by decide) (by decide)⟩
            exact ⟨rfl, N13⟩
        ·
          refine OwnFin.adv (B := T11.setTop (mkF m 73 #[.val (.int wh), .val (.int yr), .val (.int md), .val (.int (wh &&& (3 : Int32))), .val (.ref q2), .val (.int (2016 : Int32)), .unset, .unset] [])) (fun _ k => XS.ifNo X11.here hx rfl (hb hby at_70) rfl ((if0 _ _).trans (feq hc70).1) k) ?_
          refine OwnFin.adv (B := T11.setTop (mkF m 75 #[.val (.int wh), .val (.int yr), .val (.int md), .val (.int (wh &&& (3 : Int32))), .val (.ref q2), .val (.int (2016 : Int32)), .unset, .unset] [(.int (2016 : Int32))])) (fun _ k => XS.iload X11.here hx rfl (hb hby at_73) rfl k) ?_
          refine OwnFin.adv (B := T11.setTop (mkF m 76 #[.val (.int wh), .val (.int yr), .val (.int md), .val (.int (wh &&& (3 : Int32))), .val (.ref q2), .val (.int (2016 : Int32)), .unset, .unset] [(.int yr), (.int (2016 : Int32))])) (fun _ k => XS.iloadN X11.here hx rfl (hb hby at_75) rfl k) ?_
          refine OwnFin.adv (B := T11.setTop (mkF m 77 #[.val (.int wh), .val (.int yr), .val (.int md), .val (.int (wh &&& (3 : Int32))), .val (.ref q2), .val (.int (2016 : Int32)), .unset, .unset] [(.int (4 : Int32)), (.int yr), (.int (2016 : Int32))])) (fun _ k => XS.iconst X11.here hx rfl (hb hby at_76) k) ?_
          refine OwnFin.adv (B := T11.setTop (mkF m 78 #[.val (.int wh), .val (.int yr), .val (.int md), .val (.int (wh &&& (3 : Int32))), .val (.ref q2), .val (.int (2016 : Int32)), .unset, .unset] [(.int (yr % (4 : Int32))), (.int (2016 : Int32))])) (fun _ k => iremM (g := (mkF m 77 #[.val (.int wh), .val (.int yr), .val (.int md), .val (.int (wh &&& (3 : Int32))), .val (.ref q2), .val (.int (2016 : Int32)), .unset, .unset] [(.int (4 : Int32)), (.int yr), (.int (2016 : Int32))])) X11 hx rfl (hb hby at_77) rfl (by decide) k) ?_
          refine OwnFin.adv (B := T11.setTop (mkF m 79 #[.val (.int wh), .val (.int yr), .val (.int md), .val (.int (wh &&& (3 : Int32))), .val (.ref q2), .val (.int (2016 : Int32)), .unset, .unset] [(.int ((2016 : Int32) + (yr % (4 : Int32))))])) (fun _ k => XS.iadd X11.here hx rfl (hb hby at_78) rfl k) ?_
          refine OwnFin.adv (B := T11.setTop (mkF m 81 #[.val (.int wh), .val (.int yr), .val (.int md), .val (.int (wh &&& (3 : Int32))), .val (.ref q2), .val (.int (2016 : Int32)), .val (.int ((2016 : Int32) + (yr % (4 : Int32)))), .unset] [])) (fun _ k => XS.istore X11.here hx rfl (hb hby at_79) rfl (l' := #[.val (.int wh), .val (.int yr), .val (.int md), .val (.int (wh &&& (3 : Int32))), .val (.ref q2), .val (.int (2016 : Int32)), .val (.int ((2016 : Int32) + (yr % (4 : Int32)))), .unset]) rfl k) ?_
          refine OwnFin.adv (B := T11.setTop (mkF m 87 #[.val (.int wh), .val (.int yr), .val (.int md), .val (.int (wh &&& (3 : Int32))), .val (.ref q2), .val (.int (2016 : Int32)), .val (.int ((2016 : Int32) + (yr % (4 : Int32)))), .unset] [])) (fun _ k => XS.goto X11.here hx rfl (pc0 := 81) (pc' := 87) rfl (hb hby at_81) (by decide) (by decide) k) ?_
          refine OwnFin.adv (B := T11.setTop (mkF m 89 #[.val (.int wh), .val (.int yr), .val (.int md), .val (.int (wh &&& (3 : Int32))), .val (.ref q2), .val (.int (2016 : Int32)), .val (.int ((2016 : Int32) + (yr % (4 : Int32)))), .unset] [(.int ((2016 : Int32) + (yr % (4 : Int32))))])) (fun _ k => XS.iload X11.here hx rfl (hb hby at_87) rfl k) ?_
          refine OwnFin.adv (B := T11.setTop (mkF m 91 #[.val (.int wh), .val (.int yr), .val (.int md), .val (.int (wh &&& (3 : Int32))), .val (.ref q2), .val (.int (2016 : Int32)), .val (.int ((2016 : Int32) + (yr % (4 : Int32)))), .unset] [(.int (2016 : Int32)), (.int ((2016 : Int32) + (yr % (4 : Int32))))])) (fun _ k => XS.iload X11.here hx rfl (hb hby at_89) rfl k) ?_
          by_cases hc91 : ((2016 : Int32) + (yr % (4 : Int32))) < (2016 : Int32)
          ·
            refine OwnFin.adv (B := T11.setTop (mkF m 94 #[.val (.int wh), .val (.int yr), .val (.int md), .val (.int (wh &&& (3 : Int32))), .val (.ref q2), .val (.int (2016 : Int32)), .val (.int ((2016 : Int32) + (yr % (4 : Int32)))), .unset] [])) (fun _ k => XS.icmpNo X11.here hx rfl (hb hby at_91) rfl (tlt hc91).2.1 k) ?_
            refine OwnFin.adv (B := T11.setTop (mkF m 95 #[.val (.int wh), .val (.int yr), .val (.int md), .val (.int (wh &&& (3 : Int32))), .val (.ref q2), .val (.int (2016 : Int32)), .val (.int ((2016 : Int32) + (yr % (4 : Int32)))), .unset] [(.int (0 : Int32))])) (fun _ k => XS.iconst X11.here hx rfl (hb hby at_94) k) ?_
            refine OwnFin.adv (B := T11.setTop (mkF m 97 #[.val (.int wh), .val (.int yr), .val (.int md), .val (.int (wh &&& (3 : Int32))), .val (.ref q2), .val (.int (2016 : Int32)), .val (.int ((2016 : Int32) + (yr % (4 : Int32)))), .val (.int (0 : Int32))] [])) (fun _ k => XS.istore X11.here hx rfl (hb hby at_95) rfl (l' := #[.val (.int wh), .val (.int yr), .val (.int md), .val (.int (wh &&& (3 : Int32))), .val (.ref q2), .val (.int (2016 : Int32)), .val (.int ((2016 : Int32) + (yr % (4 : Int32)))), .val (.int (0 : Int32))]) rfl k) ?_
            refine OwnFin.adv (B := T11.setTop (mkF m 103 #[.val (.int wh), .val (.int yr), .val (.int md), .val (.int (wh &&& (3 : Int32))), .val (.ref q2), .val (.int (2016 : Int32)), .val (.int ((2016 : Int32) + (yr % (4 : Int32)))), .val (.int (0 : Int32))] [])) (fun _ k => XS.goto X11.here hx rfl (pc0 := 97) (pc' := 103) rfl (hb hby at_97) (by decide) (by decide) k) ?_
            refine OwnFin.adv (B := T11.setTop (mkF m 105 #[.val (.int wh), .val (.int yr), .val (.int md), .val (.int (wh &&& (3 : Int32))), .val (.ref q2), .val (.int (2016 : Int32)), .val (.int ((2016 : Int32) + (yr % (4 : Int32)))), .val (.int (0 : Int32))] [(.ref q2)])) (fun _ k => XS.aload X11.here hx rfl (hb hby at_103) rfl rfl k) ?_
            refine OwnFin.adv (B := T11.setTop (mkF m 107 #[.val (.int wh), .val (.int yr), .val (.int md), .val (.int (wh &&& (3 : Int32))), .val (.ref q2), .val (.int (2016 : Int32)), .val (.int ((2016 : Int32) + (yr % (4 : Int32)))), .val (.int (0 : Int32))] [(.int ((2016 : Int32) + (yr % (4 : Int32)))), (.ref q2)])) (fun _ k => XS.iload X11.here hx rfl (hb hby at_105) rfl k) ?_
            obtain ⟨cq14, kq14, q14a, q14b, q14c⟩ := isOf hZ e11 E_q2
            obtain ⟨_, _, ⟨T14, L14, k14, n14⟩, -, X14, ⟨Lc14, hQ14, l14, y14, z14⟩, st14⟩ := X11.virtualBack hx (y := (⟨"com/example/oleaster/oleaster/model/CropYears", "holds", "(I)Z"⟩ : MethodName)) (z := (⟨"com/example/oleaster/oleaster/model/CropYears", "holds", "(I)Z"⟩ : MethodName)) hown (mvT hZ (hw _ (List.mem_of_getElem? (i := 3) rfl))) (mvT hZ (hw _ (List.mem_of_getElem? (i := 4) rfl))) (notFace_of_selects (args := #[]) (mvT hZ (hw _ (List.mem_of_getElem? (i := 6) rfl)))) (mvT hZ (hw _ (List.mem_of_getElem? (i := 6) rfl))) (mvT hZ (hw _ (List.mem_of_getElem? (i := 5) rfl))) (by decide) (backOf (W := 0) (own_rm1 l Z a0 hw [] q2 ((2016 : Int32) + (yr % (4 : Int32))) (2016 : Int32) h0 n0 Z0 F_q2) hZ (hw _ (List.mem_of_getElem? (i := 7) rfl)) (hw _ (List.mem_of_getElem? (i := 1) rfl)) (by decide) (by decide)) q14a q14c (g := (mkF m 107 #[.val (.int wh), .val (.int yr), .val (.int md), .val (.int (wh &&& (3 : Int32))), .val (.ref q2), .val (.int (2016 : Int32)), .val (.int ((2016 : Int32) + (yr % (4 : Int32)))), .val (.int (0 : Int32))] [(.int ((2016 : Int32) + (yr % (4 : Int32)))), (.ref q2)])) rfl (by rw [hml]; rfl) (Steps.refl _) (argsL := [(.int ((2016 : Int32) + (yr % (4 : Int32))))]) (rest := []) (lenOf own_pd_x28Ix29Z rfl) rfl (by show 2 * 0 + _ ≤ _; exact Nat.le_of_eq rfl) (hb hby at_107) (fun _ _ => ⟨rfl, e11, (by decide : 0 + 0 ≤ _), (by decide : 0 + 0 ≤ _)⟩)
            dsimp only [Pt.U, Pt.locs, Pt.cells, Pt.slots] at X14 l14 y14 z14 st14 hQ14
            subst l14 y14 z14
            obtain ⟨rfl, N14q, eh14⟩ := hQ14
            have N14 := Fr.app N0 N14q
            refine OwnFin.adv (B := T14.setTop (mkF m 110 #[.val (.int wh), .val (.int yr), .val (.int md), .val (.int (wh &&& (3 : Int32))), .val (.ref q2), .val (.int (2016 : Int32)), .val (.int ((2016 : Int32) + (yr % (4 : Int32)))), .val (.int (0 : Int32))] [(.int (if ((2016 : Int32) + (yr % (4 : Int32))) < (2016 : Int32) then (0 : Int32) else 1))])) (fun _ k => st14.trans k) ?_
            refine OwnFin.adv (B := T14.setTop (mkF m 112 #[.val (.int wh), .val (.int yr), .val (.int md), .val (.int (wh &&& (3 : Int32))), .val (.ref q2), .val (.int (2016 : Int32)), .val (.int ((2016 : Int32) + (yr % (4 : Int32)))), .val (.int (0 : Int32))] [(.int (0 : Int32)), (.int (if ((2016 : Int32) + (yr % (4 : Int32))) < (2016 : Int32) then (0 : Int32) else 1))])) (fun _ k => XS.iload X14.here hx rfl (hb hby at_110) rfl k) ?_
            have hc112_39 : (if ((2016 : Int32) + (yr % (4 : Int32))) < (2016 : Int32) then (0 : Int32) else 1) = (0 : Int32) := by simp [hc91]
            refine OwnFin.adv (B := T14.setTop (mkF m 115 #[.val (.int wh), .val (.int yr), .val (.int md), .val (.int (wh &&& (3 : Int32))), .val (.ref q2), .val (.int (2016 : Int32)), .val (.int ((2016 : Int32) + (yr % (4 : Int32)))), .val (.int (0 : Int32))] [])) (fun _ k => XS.icmpNo X14.here hx rfl (hb hby at_112) rfl (teq hc112_39).2 k) ?_
            refine OwnFin.adv (B := T14.setTop (mkF m 116 #[.val (.int wh), .val (.int yr), .val (.int md), .val (.int (wh &&& (3 : Int32))), .val (.ref q2), .val (.int (2016 : Int32)), .val (.int ((2016 : Int32) + (yr % (4 : Int32)))), .val (.int (0 : Int32))] [(.int (1 : Int32))])) (fun _ k => XS.iconst X14.here hx rfl (hb hby at_115) k) ?_
            refine OwnFin.adv (B := T14.setTop (mkF m 120 #[.val (.int wh), .val (.int yr), .val (.int md), .val (.int (wh &&& (3 : Int32))), .val (.ref q2), .val (.int (2016 : Int32)), .val (.int ((2016 : Int32) + (yr % (4 : Int32)))), .val (.int (0 : Int32))] [(.int (1 : Int32))])) (fun _ k => XS.goto X14.here hx rfl (pc0 := 116) (pc' := 120) rfl (hb hby at_116) (by decide) (by decide) k) ?_
            obtain ⟨fs, hr, hrun, hended, hW, hsame⟩ := X14.leave (v := some (.int (1 : Int32))) (fun h => by rw [Bd.returns] at h; cases h)
            refine OwnFin.leaf hP' ⟨_, _, retN X14 hx (t := .boolean) Bd.returns (by simp) (hb hby at_120) hr, hrun, hended, _, _, rfl, ?_, ⟨_, rfl⟩, hW, hsame.mono (by decide) (by decide)⟩
            exact ⟨rfl, N14⟩
          ·
            refine OwnFin.adv (B := T11.setTop (mkF m 100 #[.val (.int wh), .val (.int yr), .val (.int md), .val (.int (wh &&& (3 : Int32))), .val (.ref q2), .val (.int (2016 : Int32)), .val (.int ((2016 : Int32) + (yr % (4 : Int32)))), .unset] [])) (fun _ k => XS.icmpYes X11.here hx rfl (pc0 := 91) (pc' := 100) rfl (hb hby at_91) rfl (flt hc91).2.1 (by decide) (by decide) k) ?_
            refine OwnFin.adv (B := T11.setTop (mkF m 101 #[.val (.int wh), .val (.int yr), .val (.int md), .val (.int (wh &&& (3 : Int32))), .val (.ref q2), .val (.int (2016 : Int32)), .val (.int ((2016 : Int32) + (yr % (4 : Int32)))), .unset] [(.int (1 : Int32))])) (fun _ k => XS.iconst X11.here hx rfl (hb hby at_100) k) ?_
            refine OwnFin.adv (B := T11.setTop (mkF m 103 #[.val (.int wh), .val (.int yr), .val (.int md), .val (.int (wh &&& (3 : Int32))), .val (.ref q2), .val (.int (2016 : Int32)), .val (.int ((2016 : Int32) + (yr % (4 : Int32)))), .val (.int (1 : Int32))] [])) (fun _ k => XS.istore X11.here hx rfl (hb hby at_101) rfl (l' := #[.val (.int wh), .val (.int yr), .val (.int md), .val (.int (wh &&& (3 : Int32))), .val (.ref q2), .val (.int (2016 : Int32)), .val (.int ((2016 : Int32) + (yr % (4 : Int32)))), .val (.int (1 : Int32))]) rfl k) ?_
            refine OwnFin.adv (B := T11.setTop (mkF m 105 #[.val (.int wh), .val (.int yr), .val (.int md), .val (.int (wh &&& (3 : Int32))), .val (.ref q2), .val (.int (2016 : Int32)), .val (.int ((2016 : Int32) + (yr % (4 : Int32)))), .val (.int (1 : Int32))] [(.ref q2)])) (fun _ k => XS.aload X11.here hx rfl (hb hby at_103) rfl rfl k) ?_
            refine OwnFin.adv (B := T11.setTop (mkF m 107 #[.val (.int wh), .val (.int yr), .val (.int md), .val (.int (wh &&& (3 : Int32))), .val (.ref q2), .val (.int (2016 : Int32)), .val (.int ((2016 : Int32) + (yr % (4 : Int32)))), .val (.int (1 : Int32))] [(.int ((2016 : Int32) + (yr % (4 : Int32)))), (.ref q2)])) (fun _ k => XS.iload X11.here hx rfl (hb hby at_105) rfl k) ?_
            obtain ⟨cq15, kq15, q15a, q15b, q15c⟩ := isOf hZ e11 E_q2
            obtain ⟨_, _, ⟨T15, L15, k15, n15⟩, -, X15, ⟨Lc15, hQ15, l15, y15, z15⟩, st15⟩ := X11.virtualBack hx (y := (⟨"com/example/oleaster/oleaster/model/CropYears", "holds", "(I)Z"⟩ : MethodName)) (z := (⟨"com/example/oleaster/oleaster/model/CropYears", "holds", "(I)Z"⟩ : MethodName)) hown (mvT hZ (hw _ (List.mem_of_getElem? (i := 3) rfl))) (mvT hZ (hw _ (List.mem_of_getElem? (i := 4) rfl))) (notFace_of_selects (args := #[]) (mvT hZ (hw _ (List.mem_of_getElem? (i := 6) rfl)))) (mvT hZ (hw _ (List.mem_of_getElem? (i := 6) rfl))) (mvT hZ (hw _ (List.mem_of_getElem? (i := 5) rfl))) (by decide) (backOf (W := 0) (own_rm1 l Z a0 hw [] q2 ((2016 : Int32) + (yr % (4 : Int32))) (2016 : Int32) h0 n0 Z0 F_q2) hZ (hw _ (List.mem_of_getElem? (i := 7) rfl)) (hw _ (List.mem_of_getElem? (i := 1) rfl)) (by decide) (by decide)) q15a q15c (g := (mkF m 107 #[.val (.int wh), .val (.int yr), .val (.int md), .val (.int (wh &&& (3 : Int32))), .val (.ref q2), .val (.int (2016 : Int32)), .val (.int ((2016 : Int32) + (yr % (4 : Int32)))), .val (.int (1 : Int32))] [(.int ((2016 : Int32) + (yr % (4 : Int32)))), (.ref q2)])) rfl (by rw [hml]; rfl) (Steps.refl _) (argsL := [(.int ((2016 : Int32) + (yr % (4 : Int32))))]) (rest := []) (lenOf own_pd_x28Ix29Z rfl) rfl (by show 2 * 0 + _ ≤ _; exact Nat.le_of_eq rfl) (hb hby at_107) (fun _ _ => ⟨rfl, e11, (by decide : 0 + 0 ≤ _), (by decide : 0 + 0 ≤ _)⟩)
            dsimp only [Pt.U, Pt.locs, Pt.cells, Pt.slots] at X15 l15 y15 z15 st15 hQ15
            subst l15 y15 z15
            obtain ⟨rfl, N15q, eh15⟩ := hQ15
            have N15 := Fr.app N0 N15q
            refine OwnFin.adv (B := T15.setTop (mkF m 110 #[.val (.int wh), .val (.int yr), .val (.int md), .val (.int (wh &&& (3 : Int32))), .val (.ref q2), .val (.int (2016 : Int32)), .val (.int ((2016 : Int32) + (yr % (4 : Int32)))), .val (.int (1 : Int32))] [(.int (if ((2016 : Int32) + (yr % (4 : Int32))) < (2016 : Int32) then (0 : Int32) else 1))])) (fun _ k => st15.trans k) ?_
            refine OwnFin.adv (B := T15.setTop (mkF m 112 #[.val (.int wh), .val (.int yr), .val (.int md), .val (.int (wh &&& (3 : Int32))), .val (.ref q2), .val (.int (2016 : Int32)), .val (.int ((2016 : Int32) + (yr % (4 : Int32)))), .val (.int (1 : Int32))] [(.int (1 : Int32)), (.int (if ((2016 : Int32) + (yr % (4 : Int32))) < (2016 : Int32) then (0 : Int32) else 1))])) (fun _ k => XS.iload X15.here hx rfl (hb hby at_110) rfl k) ?_
            have hc112_38 : (if ((2016 : Int32) + (yr % (4 : Int32))) < (2016 : Int32) then (0 : Int32) else 1) = (1 : Int32) := by simp [hc91]
            refine OwnFin.adv (B := T15.setTop (mkF m 115 #[.val (.int wh), .val (.int yr), .val (.int md), .val (.int (wh &&& (3 : Int32))), .val (.ref q2), .val (.int (2016 : Int32)), .val (.int ((2016 : Int32) + (yr % (4 : Int32)))), .val (.int (1 : Int32))] [])) (fun _ k => XS.icmpNo X15.here hx rfl (hb hby at_112) rfl (teq hc112_38).2 k) ?_
            refine OwnFin.adv (B := T15.setTop (mkF m 116 #[.val (.int wh), .val (.int yr), .val (.int md), .val (.int (wh &&& (3 : Int32))), .val (.ref q2), .val (.int (2016 : Int32)), .val (.int ((2016 : Int32) + (yr % (4 : Int32)))), .val (.int (1 : Int32))] [(.int (1 : Int32))])) (fun _ k => XS.iconst X15.here hx rfl (hb hby at_115) k) ?_
            refine OwnFin.adv (B := T15.setTop (mkF m 120 #[.val (.int wh), .val (.int yr), .val (.int md), .val (.int (wh &&& (3 : Int32))), .val (.ref q2), .val (.int (2016 : Int32)), .val (.int ((2016 : Int32) + (yr % (4 : Int32)))), .val (.int (1 : Int32))] [(.int (1 : Int32))])) (fun _ k => XS.goto X15.here hx rfl (pc0 := 116) (pc' := 120) rfl (hb hby at_116) (by decide) (by decide) k) ?_
            obtain ⟨fs, hr, hrun, hended, hW, hsame⟩ := X15.leave (v := some (.int (1 : Int32))) (fun h => by rw [Bd.returns] at h; cases h)
            refine OwnFin.leaf hP' ⟨_, _, retN X15 hx (t := .boolean) Bd.returns (by simp) (hb hby at_120) hr, hrun, hended, _, _, rfl, ?_, ⟨_, rfl⟩, hW, hsame.mono (by decide) (by decide)⟩
            exact ⟨rfl, N15⟩
      ·
        refine OwnFin.adv (B := s₁.setTop (mkF m 57 #[.val (.int wh), .val (.int yr), .val (.int md), .val (.int (wh &&& (3 : Int32))), .unset, .unset, .unset, .unset] [])) (fun _ k => XS.icmpYes X0.here hx rfl (pc0 := 41) (pc' := 57) rfl (hb hby at_41) rfl (feq hc41).2 (by decide) (by decide) k) ?_
        obtain ⟨T16, X16, e16, st16⟩ := getS2 X0 hx hZ hown (host := "") (Or.inl (hw _ (List.mem_of_getElem? (i := 12) rfl))) Via.refl e0 S_q3 (g := (mkF m 57 #[.val (.int wh), .val (.int yr), .val (.int md), .val (.int (wh &&& (3 : Int32))), .unset, .unset, .unset, .unset] [])) rfl (hb hby at_57)
        refine OwnFin.adv (B := T16.setTop (mkF m 60 #[.val (.int wh), .val (.int yr), .val (.int md), .val (.int (wh &&& (3 : Int32))), .unset, .unset, .unset, .unset] [(.ref q3)])) (fun _ k => st16 _ k) ?_
        refine OwnFin.adv (B := T16.setTop (mkF m 62 #[.val (.int wh), .val (.int yr), .val (.int md), .val (.int (wh &&& (3 : Int32))), .val (.ref q3), .unset, .unset, .unset] [])) (fun _ k => XS.astore X16.here hx rfl (hb hby at_60) rfl rfl (l' := #[.val (.int wh), .val (.int yr), .val (.int md), .val (.int (wh &&& (3 : Int32))), .val (.ref q3), .unset, .unset, .unset]) rfl k) ?_
        refine OwnFin.adv (B := T16.setTop (mkF m 65 #[.val (.int wh), .val (.int yr), .val (.int md), .val (.int (wh &&& (3 : Int32))), .val (.ref q3), .unset, .unset, .unset] [(.int (2018 : Int32))])) (fun _ k => XS.sipush X16.here hx rfl (hb hby at_62) k) ?_
        refine OwnFin.adv (B := T16.setTop (mkF m 67 #[.val (.int wh), .val (.int yr), .val (.int md), .val (.int (wh &&& (3 : Int32))), .val (.ref q3), .val (.int (2018 : Int32)), .unset, .unset] [])) (fun _ k => XS.istore X16.here hx rfl (hb hby at_65) rfl (l' := #[.val (.int wh), .val (.int yr), .val (.int md), .val (.int (wh &&& (3 : Int32))), .val (.ref q3), .val (.int (2018 : Int32)), .unset, .unset]) rfl k) ?_
        refine OwnFin.adv (B := T16.setTop (mkF m 68 #[.val (.int wh), .val (.int yr), .val (.int md), .val (.int (wh &&& (3 : Int32))), .val (.ref q3), .val (.int (2018 : Int32)), .unset, .unset] [(.int md)])) (fun _ k => XS.iloadN X16.here hx rfl (hb hby at_67) rfl k) ?_
        refine OwnFin.adv (B := T16.setTop (mkF m 69 #[.val (.int wh), .val (.int yr), .val (.int md), .val (.int (wh &&& (3 : Int32))), .val (.ref q3), .val (.int (2018 : Int32)), .unset, .unset] [(.int (1 : Int32)), (.int md)])) (fun _ k => XS.iconst X16.here hx rfl (hb hby at_68) k) ?_
        refine OwnFin.adv (B := T16.setTop (mkF m 70 #[.val (.int wh), .val (.int yr), .val (.int md), .val (.int (wh &&& (3 : Int32))), .val (.ref q3), .val (.int (2018 : Int32)), .unset, .unset] [(.int (md &&& (1 : Int32)))])) (fun _ k => XS.iand X16.here hx rfl (hb hby at_69) rfl k) ?_
        by_cases hc70 : (md &&& (1 : Int32)) = (0 : Int32)
        ·
          refine OwnFin.adv (B := T16.setTop (mkF m 84 #[.val (.int wh), .val (.int yr), .val (.int md), .val (.int (wh &&& (3 : Int32))), .val (.ref q3), .val (.int (2018 : Int32)), .unset, .unset] [])) (fun _ k => XS.ifYes X16.here hx rfl (pc0 := 70) (pc' := 84) rfl (hb hby at_70) rfl ((if0 _ _).trans (teq hc70).1) (by decide) (by decide) k) ?_
          refine OwnFin.adv (B := T16.setTop (mkF m 85 #[.val (.int wh), .val (.int yr), .val (.int md), .val (.int (wh &&& (3 : Int32))), .val (.ref q3), .val (.int (2018 : Int32)), .unset, .unset] [(.int yr)])) (fun _ k => XS.iloadN X16.here hx rfl (hb hby at_84) rfl k) ?_
          refine OwnFin.adv (B := T16.setTop (mkF m 87 #[.val (.int wh), .val (.int yr), .val (.int md), .val (.int (wh &&& (3 : Int32))), .val (.ref q3), .val (.int (2018 : Int32)), .val (.int yr), .unset] [])) (fun _ k => XS.istore X16.here hx rfl (hb hby at_85) rfl (l' := #[.val (.int wh), .val (.int yr), .val (.int md), .val (.int (wh &&& (3 : Int32))), .val (.ref q3), .val (.int (2018 : Int32)), .val (.int yr), .unset]) rfl k) ?_
          refine OwnFin.adv (B := T16.setTop (mkF m 89 #[.val (.int wh), .val (.int yr), .val (.int md), .val (.int (wh &&& (3 : Int32))), .val (.ref q3), .val (.int (2018 : Int32)), .val (.int yr), .unset] [(.int yr)])) (fun _ k => XS.iload X16.here hx rfl (hb hby at_87) rfl k) ?_
          refine OwnFin.adv (B := T16.setTop (mkF m 91 #[.val (.int wh), .val (.int yr), .val (.int md), .val (.int (wh &&& (3 : Int32))), .val (.ref q3), .val (.int (2018 : Int32)), .val (.int yr), .unset] [(.int (2018 : Int32)), (.int yr)])) (fun _ k => XS.iload X16.here hx rfl (hb hby at_89) rfl k) ?_
          by_cases hc91 : yr < (2018 : Int32)
          ·
            refine OwnFin.adv (B := T16.setTop (mkF m 94 #[.val (.int wh), .val (.int yr), .val (.int md), .val (.int (wh &&& (3 : Int32))), .val (.ref q3), .val (.int (2018 : Int32)), .val (.int yr), .unset] [])) (fun _ k => XS.icmpNo X16.here hx rfl (hb hby at_91) rfl (tlt hc91).2.1 k) ?_
            refine OwnFin.adv (B := T16.setTop (mkF m 95 #[.val (.int wh), .val (.int yr), .val (.int md), .val (.int (wh &&& (3 : Int32))), .val (.ref q3), .val (.int (2018 : Int32)), .val (.int yr), .unset] [(.int (0 : Int32))])) (fun _ k => XS.iconst X16.here hx rfl (hb hby at_94) k) ?_
            refine OwnFin.adv (B := T16.setTop (mkF m 97 #[.val (.int wh), .val (.int yr), .val (.int md), .val (.int (wh &&& (3 : Int32))), .val (.ref q3), .val (.int (2018 : Int32)), .val (.int yr), .val (.int (0 : Int32))] [])) (fun _ k => XS.istore X16.here hx rfl (hb hby at_95) rfl (l' := #[.val (.int wh), .val (.int yr), .val (.int md), .val (.int (wh &&& (3 : Int32))), .val (.ref q3), .val (.int (2018 : Int32)), .val (.int yr), .val (.int (0 : Int32))]) rfl k) ?_
            refine OwnFin.adv (B := T16.setTop (mkF m 103 #[.val (.int wh), .val (.int yr), .val (.int md), .val (.int (wh &&& (3 : Int32))), .val (.ref q3), .val (.int (2018 : Int32)), .val (.int yr), .val (.int (0 : Int32))] [])) (fun _ k => XS.goto X16.here hx rfl (pc0 := 97) (pc' := 103) rfl (hb hby at_97) (by decide) (by decide) k) ?_
            refine OwnFin.adv (B := T16.setTop (mkF m 105 #[.val (.int wh), .val (.int yr), .val (.int md), .val (.int (wh &&& (3 : Int32))), .val (.ref q3), .val (.int (2018 : Int32)), .val (.int yr), .val (.int (0 : Int32))] [(.ref q3)])) (fun _ k => XS.aload X16.here hx rfl (hb hby at_103) rfl rfl k) ?_
            refine OwnFin.adv (B := T16.setTop (mkF m 107 #[.val (.int wh), .val (.int yr), .val (.int md), .val (.int (wh &&& (3 : Int32))), .val (.ref q3), .val (.int (2018 : Int32)), .val (.int yr), .val (.int (0 : Int32))] [(.int yr), (.ref q3)])) (fun _ k => XS.iload X16.here hx rfl (hb hby at_105) rfl k) ?_
            obtain ⟨cq17, kq17, q17a, q17b, q17c⟩ := isOf hZ e16 E_q3
            obtain ⟨_, _, ⟨T17, L17, k17, n17⟩, -, X17, ⟨Lc17, hQ17, l17, y17, z17⟩, st17⟩ := X16.virtualBack hx (y := (⟨"com/example/oleaster/oleaster/model/CropYears", "holds", "(I)Z"⟩ : MethodName)) (z := (⟨"com/example/oleaster/oleaster/model/CropYears", "holds", "(I)Z"⟩ : MethodName)) hown (mvT hZ (hw _ (List.mem_of_getElem? (i := 3) rfl))) (mvT hZ (hw _ (List.mem_of_getElem? (i := 4) rfl))) (notFace_of_selects (args := #[]) (mvT hZ (hw _ (List.mem_of_getElem? (i := 6) rfl)))) (mvT hZ (hw _ (List.mem_of_getElem? (i := 6) rfl))) (mvT hZ (hw _ (List.mem_of_getElem? (i := 5) rfl))) (by decide) (backOf (W := 0) (own_rm1 l Z a0 hw [] q3 yr (2018 : Int32) h0 n0 Z0 F_q3) hZ (hw _ (List.mem_of_getElem? (i := 7) rfl)) (hw _ (List.mem_of_getElem? (i := 1) rfl)) (by decide) (by decide)) q17a q17c (g := (mkF m 107 #[.val (.int wh), .val (.int yr), .val (.int md), .val (.int (wh &&& (3 : Int32))), .val (.ref q3), .val (.int (2018 : Int32)), .val (.int yr), .val (.int (0 : Int32))] [(.int yr), (.ref q3)])) rfl (by rw [hml]; rfl) (Steps.refl _) (argsL := [(.int yr)]) (rest := []) (lenOf own_pd_x28Ix29Z rfl) rfl (by show 2 * 0 + _ ≤ _; exact Nat.le_of_eq rfl) (hb hby at_107) (fun _ _ => ⟨rfl, e16, (by decide : 0 + 0 ≤ _), (by decide : 0 + 0 ≤ _)⟩)
            dsimp only [Pt.U, Pt.locs, Pt.cells, Pt.slots] at X17 l17 y17 z17 st17 hQ17
            subst l17 y17 z17
            obtain ⟨rfl, N17q, eh17⟩ := hQ17
            have N17 := Fr.app N0 N17q
            refine OwnFin.adv (B := T17.setTop (mkF m 110 #[.val (.int wh), .val (.int yr), .val (.int md), .val (.int (wh &&& (3 : Int32))), .val (.ref q3), .val (.int (2018 : Int32)), .val (.int yr), .val (.int (0 : Int32))] [(.int (if yr < (2018 : Int32) then (0 : Int32) else 1))])) (fun _ k => st17.trans k) ?_
            refine OwnFin.adv (B := T17.setTop (mkF m 112 #[.val (.int wh), .val (.int yr), .val (.int md), .val (.int (wh &&& (3 : Int32))), .val (.ref q3), .val (.int (2018 : Int32)), .val (.int yr), .val (.int (0 : Int32))] [(.int (0 : Int32)), (.int (if yr < (2018 : Int32) then (0 : Int32) else 1))])) (fun _ k => XS.iload X17.here hx rfl (hb hby at_110) rfl k) ?_
            have hc112_33 : (if yr < (2018 : Int32) then (0 : Int32) else 1) = (0 : Int32) := by simp [hc91]
            refine OwnFin.adv (B := T17.setTop (mkF m 115 #[.val (.int wh), .val (.int yr), .val (.int md), .val (.int (wh &&& (3 : Int32))), .val (.ref q3), .val (.int (2018 : Int32)), .val (.int yr), .val (.int (0 : Int32))] [])) (fun _ k => XS.icmpNo X17.here hx rfl (hb hby at_112) rfl (teq hc112_33).2 k) ?_
            refine OwnFin.adv (B := T17.setTop (mkF m 116 #[.val (.int wh), .val (.int yr), .val (.int md), .val (.int (wh &&& (3 : Int32))), .val (.ref q3), .val (.int (2018 : Int32)), .val (.int yr), .val (.int (0 : Int32))] [(.int (1 : Int32))])) (fun _ k => XS.iconst X17.here hx rfl (hb hby at_115) k) ?_
            refine OwnFin.adv (B := T17.setTop (mkF m 120 #[.val (.int wh), .val (.int yr), .val (.int md), .val (.int (wh &&& (3 : Int32))), .val (.ref q3), .val (.int (2018 : Int32)), .val (.int yr), .val (.int (0 : Int32))] [(.int (1 : Int32))])) (fun _ k => XS.goto X17.here hx rfl (pc0 := 116) (pc' := 120) rfl (hb hby at_116) (by decide) (by decide) k) ?_
            obtain ⟨fs, hr, hrun, hended, hW, hsame⟩ := X17.leave (v := some (.int (1 : Int32))) (fun h => by rw [Bd.returns] at h; cases h)
            refine OwnFin.leaf hP' ⟨_, _, retN X17 hx (t := .boolean) Bd.returns (by simp) (hb hby at_120) hr, hrun, hended, _, _, rfl, ?_, ⟨_, rfl⟩, hW, hsame.mono (by decide) (by decide)⟩
            exact ⟨rfl, N17⟩
          ·
            refine OwnFin.adv (B := T16.setTop (mkF m 100 #[.val (.int wh), .val (.int yr), .val (.int md), .val (.int (wh &&& (3 : Int32))), .val (.ref q3), .val (.int (2018 : Int32)), .val (.int yr), .unset] [])) (fun _ k => XS.icmpYes X16.here hx rfl (pc0 := 91) (pc' := 100) rfl (hb hby at_91) rfl (flt hc91).2.1 (by decide) (by decide) k) ?_
            refine OwnFin.adv (B := T16.setTop (mkF m 101 #[.val (.int wh), .val (.int yr), .val (.int md), .val (.int (wh &&& (3 : Int32))), .val (.ref q3), .val (.int (2018 : Int32)), .val (.int yr), .unset] [(.int (1 : Int32))])) (fun _ k => XS.iconst X16.here hx rfl (hb hby at_100) k) ?_
            refine OwnFin.adv (B := T16.setTop (mkF m 103 #[.val (.int wh), .val (.int yr), .val (.int md), .val (.int (wh &&& (3 : Int32))), .val (.ref q3), .val (.int (2018 : Int32)), .val (.int yr), .val (.int (1 : Int32))] [])) (fun _ k => XS.istore X16.here hx rfl (hb hby at_101) rfl (l' := #[.val (.int wh), .val (.int yr), .val (.int md), .val (.int (wh &&& (3 : Int32))), .val (.ref q3), .val (.int (2018 : Int32)), .val (.int yr), .val (.int (1 : Int32))]) rfl k) ?_
            refine OwnFin.adv (B := T16.setTop (mkF m 105 #[.val (.int wh), .val (.int yr), .val (.int md), .val (.int (wh &&& (3 : Int32))), .val (.ref q3), .val (.int (2018 : Int32)), .val (.int yr), .val (.int (1 : Int32))] [(.ref q3)])) (fun _ k => XS.aload X16.here hx rfl (hb hby at_103) rfl rfl k) ?_
            refine OwnFin.adv (B := T16.setTop (mkF m 107 #[.val (.int wh), .val (.int yr), .val (.int md), .val (.int (wh &&& (3 : Int32))), .val (.ref q3), .val (.int (2018 : Int32)), .val (.int yr), .val (.int (1 : Int32))] [(.int yr), (.ref q3)])) (fun _ k => XS.iload X16.here hx rfl (hb hby at_105) rfl k) ?_
            obtain ⟨cq18, kq18, q18a, q18b, q18c⟩ := isOf hZ e16 E_q3
            obtain ⟨_, _, ⟨T18, L18, k18, n18⟩, -, X18, ⟨Lc18, hQ18, l18, y18, z18⟩, st18⟩ := X16.virtualBack hx (y := (⟨"com/example/oleaster/oleaster/model/CropYears", "holds", "(I)Z"⟩ : MethodName)) (z := (⟨"com/example/oleaster/oleaster/model/CropYears", "holds", "(I)Z"⟩ : MethodName)) hown (mvT hZ (hw _ (List.mem_of_getElem? (i := 3) rfl))) (mvT hZ (hw _ (List.mem_of_getElem? (i := 4) rfl))) (notFace_of_selects (args := #[]) (mvT hZ (hw _ (List.mem_of_getElem? (i := 6) rfl)))) (mvT hZ (hw _ (List.mem_of_getElem? (i := 6) rfl))) (mvT hZ (hw _ (List.mem_of_getElem? (i := 5) rfl))) (by decide) (backOf (W := 0) (own_rm1 l Z a0 hw [] q3 yr (2018 : Int32) h0 n0 Z0 F_q3) hZ (hw _ (List.mem_of_getElem? (i := 7) rfl)) (hw _ (List.mem_of_getElem? (i := 1) rfl)) (by decide) (by decide)) q18a q18c (g := (mkF m 107 #[.val (.int wh), .val (.int yr), .val (.int md), .val (.int (wh &&& (3 : Int32))), .val (.ref q3), .val (.int (2018 : Int32)), .val (.int yr), .val (.int (1 : Int32))] [(.int yr), (.ref q3)])) rfl (by rw [hml]; rfl) (Steps.refl _) (argsL := [(.int yr)]) (rest := []) (lenOf own_pd_x28Ix29Z rfl) rfl (by show 2 * 0 + _ ≤ _; exact Nat.le_of_eq rfl) (hb hby at_107) (fun _ _ => ⟨rfl, e16, (by decide : 0 + 0 ≤ _), (by decide : 0 + 0 ≤ _)⟩)
            dsimp only [Pt.U, Pt.locs, Pt.cells, Pt.slots] at X18 l18 y18 z18 st18 hQ18
            subst l18 y18 z18
            obtain ⟨rfl, N18q, eh18⟩ := hQ18
            have N18 := Fr.app N0 N18q
            refine OwnFin.adv (B := T18.setTop (mkF m 110 #[.val (.int wh), .val (.int yr), .val (.int md), .val (.int (wh &&& (3 : Int32))), .val (.ref q3), .val (.int (2018 : Int32)), .val (.int yr), .val (.int (1 : Int32))] [(.int (if yr < (2018 : Int32) then (0 : Int32) else 1))])) (fun _ k => st18.trans k) ?_
            refine OwnFin.adv (B := T18.setTop (mkF m 112 #[.val (.int wh), .val (.int yr), .val (.int md), .val (.int (wh &&& (3 : Int32))), .val (.ref q3), .val (.int (2018 : Int32)), .val (.int yr), .val (.int (1 : Int32))] [(.int (1 : Int32)), (.int (if yr < (2018 : Int32) then (0 : Int32) else 1))])) (fun _ k => XS.iload X18.here hx rfl (hb hby at_110) rfl k) ?_
            have hc112_32 : (if yr < (2018 : Int32) then (0 : Int32) else 1) = (1 : Int32) := by simp [hc91]
            refine OwnFin.adv (B := T18.setTop (mkF m 115 #[.val (.int wh), .val (.int yr), .val (.int md), .val (.int (wh &&& (3 : Int32))), .val (.ref q3), .val (.int (2018 : Int32)), .val (.int yr), .val (.int (1 : Int32))] [])) (fun _ k => XS.icmpNo X18.here hx rfl (hb hby at_112) rfl (teq hc112_32).2 k) ?_
            refine OwnFin.adv (B := T18.setTop (mkF m 116 #[.val (.int wh), .val (.int yr), .val (.int md), .val (.int (wh &&& (3 : Int32))), .val (.ref q3), .val (.int (2018 : Int32)), .val (.int yr), .val (.int (1 : Int32))] [(.int (1 : Int32))])) (fun _ k => XS.iconst X18.here hx rfl (hb hby at_115) k) ?_
            refine OwnFin.adv (B := T18.setTop (mkF m 120 #[.val (.int wh), .val (.int yr), .val (.int md), .val (.int (wh &&& (3 : Int32))), .val (.ref q3), .val (.int (2018 : Int32)), .val (.int yr), .val (.int (1 : Int32))] [(.int (1 : Int32))])) (fun _ k => XS.goto X18.here hx rfl (pc0 := 116) (pc' := 120) rfl (hb hby at_116) (by decide) (by decide) k) ?_
            obtain ⟨fs, hr, hrun, hended, hW, hsame⟩ := X18.leave (v := some (.int (1 : Int32))) (fun h => by rw [Bd.returns] at h; cases h)
            refine OwnFin.leaf hP' ⟨_, _, retN X18 hx (t := .boolean) Bd.returns (by simp) (hb hby at_120) hr, hrun, hended, _, _, rfl, ?_, ⟨_, rfl⟩, hW, hsame.mono (by decide) (by decide)⟩
            exact ⟨rfl, N18⟩
        ·
          refine OwnFin.adv (B := T16.setTop (mkF m 73 #[.val (.int wh), .val (.int yr), .val (.int md), .val (.int (wh &&& (3 : Int32))), .val (.ref q3), .val (.int (2018 : Int32)), .unset, .unset] [])) (fun _ k => XS.ifNo X16.here hx rfl (hb hby at_70) rfl ((if0 _ _).trans (feq hc70).1) k) ?_
          refine OwnFin.adv (B := T16.setTop (mkF m 75 #[.val (.int wh), .val (.int yr), .val (.int md), .val (.int (wh &&& (3 : Int32))), .val (.ref q3), .val (.int (2018 : Int32)), .unset, .unset] [(.int (2018 : Int32))])) (fun _ k => XS.iload X16.here hx rfl (hb hby at_73) rfl k) ?_
          refine OwnFin.adv (B := T16.setTop (mkF m 76 #[.val (.int wh), .val (.int yr), .val (.int md), .val (.int (wh &&& (3 : Int32))), .val (.ref q3), .val (.int (2018 : Int32)), .unset, .unset] [(.int yr), (.int (2018 : Int32))])) (fun _ k => XS.iloadN X16.here hx rfl (hb hby at_75) rfl k) ?_
          refine OwnFin.adv (B := T16.setTop (mkF m 77 #[.val (.int wh), .val (.int yr), .val (.int md), .val (.int (wh &&& (3 : Int32))), .val (.ref q3), .val (.int (2018 : Int32)), .unset, .unset] [(.int (4 : Int32)), (.int yr), (.int (2018 : Int32))])) (fun _ k => XS.iconst X16.here hx rfl (hb hby at_76) k) ?_
          refine OwnFin.adv (B := T16.setTop (mkF m 78 #[.val (.int wh), .val (.int yr), .val (.int md), .val (.int (wh &&& (3 : Int32))), .val (.ref q3), .val (.int (2018 : Int32)), .unset, .unset] [(.int (yr % (4 : Int32))), (.int (2018 : Int32))])) (fun _ k => iremM (g := (mkF m 77 #[.val (.int wh), .val (.int yr), .val (.int md), .val (.int (wh &&& (3 : Int32))), .val (.ref q3), .val (.int (2018 : Int32)), .unset, .unset] [(.int (4 : Int32)), (.int yr), (.int (2018 : Int32))])) X16 hx rfl (hb hby at_77) rfl (by decide) k) ?_
          refine OwnFin.adv (B := T16.setTop (mkF m 79 #[.val (.int wh), .val (.int yr), .val (.int md), .val (.int (wh &&& (3 : Int32))), .val (.ref q3), .val (.int (2018 : Int32)), .unset, .unset] [(.int ((2018 : Int32) + (yr % (4 : Int32))))])) (fun _ k => XS.iadd X16.here hx rfl (hb hby at_78) rfl k) ?_
          refine OwnFin.adv (B := T16.setTop (mkF m 81 #[.val (.int wh), .val (.int yr), .val (.int md), .val (.int (wh &&& (3 : Int32))), .val (.ref q3), .val (.int (2018 : Int32)), .val (.int ((2018 : Int32) + (yr % (4 : Int32)))), .unset] [])) (fun _ k => XS.istore X16.here hx rfl (hb hby at_79) rfl (l' := #[.val (.int wh), .val (.int yr), .val (.int md), .val (.int (wh &&& (3 : Int32))), .val (.ref q3), .val (.int (2018 : Int32)), .val (.int ((2018 : Int32) + (yr % (4 : Int32)))), .unset]) rfl k) ?_
          refine OwnFin.adv (B := T16.setTop (mkF m 87 #[.val (.int wh), .val (.int yr), .val (.int md), .val (.int (wh &&& (3 : Int32))), .val (.ref q3), .val (.int (2018 : Int32)), .val (.int ((2018 : Int32) + (yr % (4 : Int32)))), .unset] [])) (fun _ k => XS.goto X16.here hx rfl (pc0 := 81) (pc' := 87) rfl (hb hby at_81) (by decide) (by decide) k) ?_
          refine OwnFin.adv (B := T16.setTop (mkF m 89 #[.val (.int wh), .val (.int yr), .val (.int md), .val (.int (wh &&& (3 : Int32))), .val (.ref q3), .val (.int (2018 : Int32)), .val (.int ((2018 : Int32) + (yr % (4 : Int32)))), .unset] [(.int ((2018 : Int32) + (yr % (4 : Int32))))])) (fun _ k => XS.iload X16.here hx rfl (hb hby at_87) rfl k) ?_
          refine OwnFin.adv (B := T16.setTop (mkF m 91 #[.val (.int wh), .val (.int yr), .val (.int md), .val (.int (wh &&& (3 : Int32))), .val (.ref q3), .val (.int (2018 : Int32)), .val (.int ((2018 : Int32) + (yr % (4 : Int32)))), .unset] [(.int (2018 : Int32)), (.int ((2018 : Int32) + (yr % (4 : Int32))))])) (fun _ k => XS.iload X16.here hx rfl (hb hby at_89) rfl k) ?_
          by_cases hc91 : ((2018 : Int32) + (yr % (4 : Int32))) < (2018 : Int32)
          ·
            refine OwnFin.adv (B := T16.setTop (mkF m 94 #[.val (.int wh), .val (.int yr), .val (.int md), .val (.int (wh &&& (3 : Int32))), .val (.ref q3), .val (.int (2018 : Int32)), .val (.int ((2018 : Int32) + (yr % (4 : Int32)))), .unset] [])) (fun _ k => XS.icmpNo X16.here hx rfl (hb hby at_91) rfl (tlt hc91).2.1 k) ?_
            refine OwnFin.adv (B := T16.setTop (mkF m 95 #[.val (.int wh), .val (.int yr), .val (.int md), .val (.int (wh &&& (3 : Int32))), .val (.ref q3), .val (.int (2018 : Int32)), .val (.int ((2018 : Int32) + (yr % (4 : Int32)))), .unset] [(.int (0 : Int32))])) (fun _ k => XS.iconst X16.here hx rfl (hb hby at_94) k) ?_
            refine OwnFin.adv (B := T16.setTop (mkF m 97 #[.val (.int wh), .val (.int yr), .val (.int md), .val (.int (wh &&& (3 : Int32))), .val (.ref q3), .val (.int (2018 : Int32)), .val (.int ((2018 : Int32) + (yr % (4 : Int32)))), .val (.int (0 : Int32))] [])) (fun _ k => XS.istore X16.here hx rfl (hb hby at_95) rfl (l' := #[.val (.int wh), .val (.int yr), .val (.int md), .val (.int (wh &&& (3 : Int32))), .val (.ref q3), .val (.int (2018 : Int32)), .val (.int ((2018 : Int32) + (yr % (4 : Int32)))), .val (.int (0 : Int32))]) rfl k) ?_
            refine OwnFin.adv (B := T16.setTop (mkF m 103 #[.val (.int wh), .val (.int yr), .val (.int md), .val (.int (wh &&& (3 : Int32))), .val (.ref q3), .val (.int (2018 : Int32)), .val (.int ((2018 : Int32) + (yr % (4 : Int32)))), .val (.int (0 : Int32))] [])) (fun _ k => XS.goto X16.here hx rfl (pc0 := 97) (pc' := 103) rfl (hb hby at_97) (by decide) (by decide) k) ?_
            refine OwnFin.adv (B := T16.setTop (mkF m 105 #[.val (.int wh), .val (.int yr), .val (.int md), .val (.int (wh &&& (3 : Int32))), .val (.ref q3), .val (.int (2018 : Int32)), .val (.int ((2018 : Int32) + (yr % (4 : Int32)))), .val (.int (0 : Int32))] [(.ref q3)])) (fun _ k => XS.aload X16.here hx rfl (hb hby at_103) rfl rfl k) ?_
            refine OwnFin.adv (B := T16.setTop (mkF m 107 #[.val (.int wh), .val (.int yr), .val (.int md), .val (.int (wh &&& (3 : Int32))), .val (.ref q3), .val (.int (2018 : Int32)), .val (.int ((2018 : Int32) + (yr % (4 : Int32)))), .val (.int (0 : Int32))] [(.int ((2018 : Int32) + (yr % (4 : Int32)))), (.ref q3)])) (fun _ k => XS.iload X16.here hx rfl (hb hby at_105) rfl k) ?_
            obtain ⟨cq19, kq19, q19a, q19b, q19c⟩ := isOf hZ e16 E_q3
            obtain ⟨_, _, ⟨T19, L19, k19, n19⟩, -, X19, ⟨Lc19, hQ19, l19, y19, z19⟩, st19⟩ := X16.virtualBack hx (y := (⟨"com/example/oleaster/oleaster/model/CropYears", "holds", "(I)Z"⟩ : MethodName)) (z := (⟨"com/example/oleaster/oleaster/model/CropYears", "holds", "(I)Z"⟩ : MethodName)) hown (mvT hZ (hw _ (List.mem_of_getElem? (i := 3) rfl))) (mvT hZ (hw _ (List.mem_of_getElem? (i := 4) rfl))) (notFace_of_selects (args := #[]) (mvT hZ (hw _ (List.mem_of_getElem? (i := 6) rfl)))) (mvT hZ (hw _ (List.mem_of_getElem? (i := 6) rfl))) (mvT hZ (hw _ (List.mem_of_getElem? (i := 5) rfl))) (by decide) (backOf (W := 0) (own_rm1 l Z a0 hw [] q3 ((2018 : Int32) + (yr % (4 : Int32))) (2018 : Int32) h0 n0 Z0 F_q3) hZ (hw _ (List.mem_of_getElem? (i := 7) rfl)) (hw _ (List.mem_of_getElem? (i := 1) rfl)) (by decide) (by decide)) q19a q19c (g := (mkF m 107 #[.val (.int wh), .val (.int yr), .val (.int md), .val (.int (wh &&& (3 : Int32))), .val (.ref q3), .val (.int (2018 : Int32)), .val (.int ((2018 : Int32) + (yr % (4 : Int32)))), .val (.int (0 : Int32))] [(.int ((2018 : Int32) + (yr % (4 : Int32)))), (.ref q3)])) rfl (by rw [hml]; rfl) (Steps.refl _) (argsL := [(.int ((2018 : Int32) + (yr % (4 : Int32))))]) (rest := []) (lenOf own_pd_x28Ix29Z rfl) rfl (by show 2 * 0 + _ ≤ _; exact Nat.le_of_eq rfl) (hb hby at_107) (fun _ _ => ⟨rfl, e16, (by decide : 0 + 0 ≤ _), (by decide : 0 + 0 ≤ _)⟩)
            dsimp only [Pt.U, Pt.locs, Pt.cells, Pt.slots] at X19 l19 y19 z19 st19 hQ19
            subst l19 y19 z19
            obtain ⟨rfl, N19q, eh19⟩ := hQ19
            have N19 := Fr.app N0 N19q
            refine OwnFin.adv (B := T19.setTop (mkF m 110 #[.val (.int wh), .val (.int yr), .val (.int md), .val (.int (wh &&& (3 : Int32))), .val (.ref q3), .val (.int (2018 : Int32)), .val (.int ((2018 : Int32) + (yr % (4 : Int32)))), .val (.int (0 : Int32))] [(.int (if ((2018 : Int32) + (yr % (4 : Int32))) < (2018 : Int32) then (0 : Int32) else 1))])) (fun _ k => st19.trans k) ?_
            refine OwnFin.adv (B := T19.setTop (mkF m 112 #[.val (.int wh), .val (.int yr), .val (.int md), .val (.int (wh &&& (3 : Int32))), .val (.ref q3), .val (.int (2018 : Int32)), .val (.int ((2018 : Int32) + (yr % (4 : Int32)))), .val (.int (0 : Int32))] [(.int (0 : Int32)), (.int (if ((2018 : Int32) + (yr % (4 : Int32))) < (2018 : Int32) then (0 : Int32) else 1))])) (fun _ k => XS.iload X19.here hx rfl (hb hby at_110) rfl k) ?_
            have hc112_38 : (if ((2018 : Int32) + (yr % (4 : Int32))) < (2018 : Int32) then (0 : Int32) else 1) = (0 : Int32) := by simp [hc91]
            refine OwnFin.adv (B := T19.setTop (mkF m 115 #[.val (.int wh), .val (.int yr), .val (.int md), .val (.int (wh &&& (3 : Int32))), .val (.ref q3), .val (.int (2018 : Int32)), .val (.int ((2018 : Int32) + (yr % (4 : Int32)))), .val (.int (0 : Int32))] [])) (fun _ k => XS.icmpNo X19.here hx rfl (hb hby at_112) rfl (teq hc112_38).2 k) ?_
            refine OwnFin.adv (B := T19.setTop (mkF m 116 #[.val (.int wh), .val (.int yr), .val (.int md), .val (.int (wh &&& (3 : Int32))), .val (.ref q3), .val (.int (2018 : Int32)), .val (.int ((2018 : Int32) + (yr % (4 : Int32)))), .val (.int (0 : Int32))] [(.int (1 : Int32))])) (fun _ k => XS.iconst X19.here hx rfl (hb hby at_115) k) ?_
            refine OwnFin.adv (B := T19.setTop (mkF m 120 #[.val (.int wh), .val (.int yr), .val (.int md), .val (.int (wh &&& (3 : Int32))), .val (.ref q3), .val (.int (2018 : Int32)), .val (.int ((2018 : Int32) + (yr % (4 : Int32)))), .val (.int (0 : Int32))] [(.int (1 : Int32))])) (fun _ k => XS.goto X19.here hx rfl (pc0 := 116) (pc' := 120) rfl (hb hby at_116) (by decide) (by decide) k) ?_
            obtain ⟨fs, hr, hrun, hended, hW, hsame⟩ := X19.leave (v := some (.int (1 : Int32))) (fun h => by rw [Bd.returns] at h; cases h)
            refine OwnFin.leaf hP' ⟨_, _, retN X19 hx (t := .boolean) Bd.returns (by simp) (hb hby at_120) hr, hrun, hended, _, _, rfl, ?_, ⟨_, rfl⟩, hW, hsame.mono (by decide) (by decide)⟩
            exact ⟨rfl, N19⟩
          ·
            refine OwnFin.adv (B := T16.setTop (mkF m 100 #[.val (.int wh), .val (.int yr), .val (.int md), .val (.int (wh &&& (3 : Int32))), .val (.ref q3), .val (.int (2018 : Int32)), .val (.int ((2018 : Int32) + (yr % (4 : Int32)))), .unset] [])) (fun _ k => XS.icmpYes X16.here hx rfl (pc0 := 91) (pc' := 100) rfl (hb hby at_91) rfl (flt hc91).2.1 (by decide) (by decide) k) ?_
            refine OwnFin.adv (B := T16.setTop (mkF m 101 #[.val (.int wh), .val (.int yr), .val (.int md), .val (.int (wh &&& (3 : Int32))), .val (.ref q3), .val (.int (2018 : Int32)), .val (.int ((2018 : Int32) + (yr % (4 : Int32)))), .unset] [(.int (1 : Int32))])) (fun _ k => XS.iconst X16.here hx rfl (hb hby at_100) k) ?_
            refine OwnFin.adv (B := T16.setTop (mkF m 103 #[.val (.int wh), .val (.int yr), .val (.int md), .val (.int (wh &&& (3 : Int32))), .val (.ref q3), .val (.int (2018 : Int32)), .val (.int ((2018 : Int32) + (yr % (4 : Int32)))), .val (.int (1 : Int32))] [])) (fun _ k => XS.istore X16.here hx rfl (hb hby at_101) rfl (l' := #[.val (.int wh), .val (.int yr), .val (.int md), .val (.int (wh &&& (3 : Int32))), .val (.ref q3), .val (.int (2018 : Int32)), .val (.int ((2018 : Int32) + (yr % (4 : Int32)))), .val (.int (1 : Int32))]) rfl k) ?_
            refine OwnFin.adv (B := T16.setTop (mkF m 105 #[.val (.int wh), .val (.int yr), .val (.int md), .val (.int (wh &&& (3 : Int32))), .val (.ref q3), .val (.int (2018 : Int32)), .val (.int ((2018 : Int32) + (yr % (4 : Int32)))), .val (.int (1 : Int32))] [(.ref q3)])) (fun _ k => XS.aload X16.here hx rfl (hb hby at_103) rfl rfl k) ?_
            refine OwnFin.adv (B := T16.setTop (mkF m 107 #[.val (.int wh), .val (.int yr), .val (.int md), .val (.int (wh &&& (3 : Int32))), .val (.ref q3), .val (.int (2018 : Int32)), .val (.int ((2018 : Int32) + (yr % (4 : Int32)))), .val (.int (1 : Int32))] [(.int ((2018 : Int32) + (yr % (4 : Int32)))), (.ref q3)])) (fun _ k => XS.iload X16.here hx rfl (hb hby at_105) rfl k) ?_
            obtain ⟨cq20, kq20, q20a, q20b, q20c⟩ := isOf hZ e16 E_q3
            obtain ⟨_, _, ⟨T20, L20, k20, n20⟩, -, X20, ⟨Lc20, hQ20, l20, y20, z20⟩, st20⟩ := X16.virtualBack hx (y := (⟨"com/example/oleaster/oleaster/model/CropYears", "holds", "(I)Z"⟩ : MethodName)) (z := (⟨"com/example/oleaster/oleaster/model/CropYears", "holds", "(I)Z"⟩ : MethodName)) hown (mvT hZ (hw _ (List.mem_of_getElem? (i := 3) rfl))) (mvT hZ (hw _ (List.mem_of_getElem? (i := 4) rfl))) (notFace_of_selects (args := #[]) (mvT hZ (hw _ (List.mem_of_getElem? (i := 6) rfl)))) (mvT hZ (hw _ (List.mem_of_getElem? (i := 6) rfl))) (mvT hZ (hw _ (List.mem_of_getElem? (i := 5) rfl))) (by decide) (backOf (W := 0) (own_rm1 l Z a0 hw [] q3 ((2018 : Int32) + (yr % (4 : Int32))) (2018 : Int32) h0 n0 Z0 F_q3) hZ (hw _ (List.mem_of_getElem? (i := 7) rfl)) (hw _ (List.mem_of_getElem? (i := 1) rfl)) (by decide) (by decide)) q20a q20c (g := (mkF m 107 #[.val (.int wh), .val (.int yr), .val (.int md), .val (.int (wh &&& (3 : Int32))), .val (.ref q3), .val (.int (2018 : Int32)), .val (.int ((2018 : Int32) + (yr % (4 : Int32)))), .val (.int (1 : Int32))] [(.int ((2018 : Int32) + (yr % (4 : Int32)))), (.ref q3)])) rfl (by rw [hml]; rfl) (Steps.refl _) (argsL := [(.int ((2018 : Int32) + (yr % (4 : Int32))))]) (rest := []) (lenOf own_pd_x28Ix29Z rfl) rfl (by show 2 * 0 + _ ≤ _; exact Nat.le_of_eq rfl) (hb hby at_107) (fun _ _ => ⟨rfl, e16, (by decide : 0 + 0 ≤ _), (by decide : 0 + 0 ≤ _)⟩)
            dsimp only [Pt.U, Pt.locs, Pt.cells, Pt.slots] at X20 l20 y20 z20 st20 hQ20
            subst l20 y20 z20
            obtain ⟨rfl, N20q, eh20⟩ := hQ20
            have N20 := Fr.app N0 N20q
            refine OwnFin.adv (B := T20.setTop (mkF m 110 #[.val (.int wh), .val (.int yr), .val (.int md), .val (.int (wh &&& (3 : Int32))), .val (.ref q3), .val (.int (2018 : Int32)), .val (.int ((2018 : Int32) + (yr % (4 : Int32)))), .val (.int (1 : Int32))] [(.int (if ((2018 : Int32) + (yr % (4 : Int32))) < (2018 : Int32) then (0 : Int32) else 1))])) (fun _ k => st20.trans k) ?_
            refine OwnFin.adv (B := T20.setTop (mkF m 112 #[.val (.int wh), .val (.int yr), .val (.int md), .val (.int (wh &&& (3 : Int32))), .val (.ref q3), .val (.int (2018 : Int32)), .val (.int ((2018 : Int32) + (yr % (4 : Int32)))), .val (.int (1 : Int32))] [(.int (1 : Int32)), (.int (if ((2018 : Int32) + (yr % (4 : Int32))) < (2018 : Int32) then (0 : Int32) else 1))])) (fun _ k => XS.iload X20.here hx rfl (hb hby at_110) rfl k) ?_
            have hc112_37 : (if ((2018 : Int32) + (yr % (4 : Int32))) < (2018 : Int32) then (0 : Int32) else 1) = (1 : Int32) := by simp [hc91]
            refine OwnFin.adv (B := T20.setTop (mkF m 115 #[.val (.int wh), .val (.int yr), .val (.int md), .val (.int (wh &&& (3 : Int32))), .val (.ref q3), .val (.int (2018 : Int32)), .val (.int ((2018 : Int32) + (yr % (4 : Int32)))), .val (.int (1 : Int32))] [])) (fun _ k => XS.icmpNo X20.here hx rfl (hb hby at_112) rfl (teq hc112_37).2 k) ?_
            refine OwnFin.adv (B := T20.setTop (mkF m 116 #[.val (.int wh), .val (.int yr), .val (.int md), .val (.int (wh &&& (3 : Int32))), .val (.ref q3), .val (.int (2018 : Int32)), .val (.int ((2018 : Int32) + (yr % (4 : Int32)))), .val (.int (1 : Int32))] [(.int (1 : Int32))])) (fun _ k => XS.iconst X20.here hx rfl (hb hby at_115) k) ?_
            refine OwnFin.adv (B := T20.setTop (mkF m 120 #[.val (.int wh), .val (.int yr), .val (.int md), .val (.int (wh &&& (3 : Int32))), .val (.ref q3), .val (.int (2018 : Int32)), .val (.int ((2018 : Int32) + (yr % (4 : Int32)))), .val (.int (1 : Int32))] [(.int (1 : Int32))])) (fun _ k => XS.goto X20.here hx rfl (pc0 := 116) (pc' := 120) rfl (hb hby at_116) (by decide) (by decide) k) ?_
            obtain ⟨fs, hr, hrun, hended, hW, hsame⟩ := X20.leave (v := some (.int (1 : Int32))) (fun h => by rw [Bd.returns] at h; cases h)
            refine OwnFin.leaf hP' ⟨_, _, retN X20 hx (t := .boolean) Bd.returns (by simp) (hb hby at_120) hr, hrun, hended, _, _, rfl, ?_, ⟨_, rfl⟩, hW, hsame.mono (by decide) (by decide)⟩
            exact ⟨rfl, N20⟩
set_option maxRecDepth 65536 in
set_option maxHeartbeats 40000000 in
theorem own_comes {Post : Tables → Env → Array Value → State → Outcome → State → Prop} (hpost : ∀ tb e args s v u, (limb_1_1.after args s (.returned v) u = true ∧ limb_1_2.after args s (.returned v) u = true ∧ True) → FrameEnd s (.returned v) u (Jvm.fieldLocs frame_1_writes args s ++ Jvm.arrayLocs frame_1_arrays args s ++ Jvm.staticLocs frame_1_statics s) 0 0 → Post tb e args s (.returned v) u) :
    ArmFor flags0 classFile x code maxLocals ret World_1 tables_1 room_1 Calls_1 rest_1 Pre_1 Post := by
  intro l hfl _ _ p e ha hc hk s m args below hf hA hF happ hP
  obtain ⟨hcalls, hrest, hpre⟩ := hP
  obtain ⟨-, -, -, hnamed, -, -, -, hat⟩ := (Spec.applies_iff hf).mp happ
  obtain ⟨hg, hn⟩ := and_e (Cond.before_iff.mp (show (Jvm.Cond.and given_1 narrow_1).before args s = true from hpre))
  obtain ⟨u1, u2⟩ := and_e hg
  obtain ⟨u3, u4⟩ := and_e u2
  obtain ⟨u5, u6⟩ := and_e u4
  obtain ⟨u7, u8⟩ := and_e hn
  obtain ⟨u9, u10⟩ := and_e u8
  obtain ⟨u11, u12⟩ := and_e u10
  obtain ⟨u13, u14⟩ := and_e u12
  obtain ⟨u15, u16⟩ := and_e u14
  obtain ⟨u17, u18⟩ := and_e u16
  obtain ⟨u19, u20⟩ := and_e u18
  obtain ⟨w0, w1, w2, rfl⟩ : ∃ w0 w1 w2 : Value, args = #[w0, w1, w2] := by
    have hs : args.size = 3 := by simpa [Cond.value, given_1] using u1
    obtain ⟨L⟩ := args
    match L, hs with
    | [w0, w1, w2], _ => exact ⟨w0, w1, w2, rfl⟩
  have hw := fun d (hd : d ∈ tables_1) => atoms_spec (ws := Jvm.Cond.code x code maxLocals ret :: tables_1) hat d (List.mem_cons_of_mem _ hd)
  have hfit : Fit s := fun {y c} hc i hi => by
    obtain ⟨ha, rfl⟩ := Array.getElem?_eq_some_iff.mp hc
    have q := List.all_eq_true.mp ((Array.all_eq_true_iff_forall_mem.mp hF) _ (Array.getElem_mem ha)) i (List.mem_range.mpr hi)
    simpa [Array.getElem?_eq_getElem hi] using q
  obtain ⟨i0, ei0⟩ := is_v u3
  obtain rfl : w0 = (.int i0) := Option.some.inj ei0
  obtain ⟨i1, ei1⟩ := is_v u5
  obtain rfl : w1 = (.int i1) := Option.some.inj ei1
  obtain ⟨i2, ei2⟩ := is_v u6
  obtain rfl : w2 = (.int i2) := Option.some.inj ei2
  obtain ⟨q0, ev_q0⟩ := exa_v u7
  have E_q0 := Exa.start ev_q0 u7
  have S_q0 := Sta.start ev_q0 (Or.inr ⟨(hw _ (List.mem_of_getElem? (i := 1) rfl)), (hw _ (List.mem_of_getElem? (i := 2) rfl))⟩)
  obtain ⟨q1, ev_q1⟩ := exa_v u11
  have E_q1 := Exa.start ev_q1 u11
  have S_q1 := Sta.start ev_q1 (Or.inr ⟨(hw _ (List.mem_of_getElem? (i := 1) rfl)), (hw _ (List.mem_of_getElem? (i := 11) rfl))⟩)
  obtain ⟨q2, ev_q2⟩ := exa_v u19
  have E_q2 := Exa.start ev_q2 u19
  have S_q2 := Sta.start ev_q2 (Or.inr ⟨(hw _ (List.mem_of_getElem? (i := 1) rfl)), (hw _ (List.mem_of_getElem? (i := 15) rfl))⟩)
  obtain ⟨q3, ev_q3⟩ := exa_v u15
  have E_q3 := Exa.start ev_q3 u15
  have S_q3 := Sta.start ev_q3 (Or.inr ⟨(hw _ (List.mem_of_getElem? (i := 1) rfl)), (hw _ (List.mem_of_getElem? (i := 13) rfl))⟩)
  have F_q0 := own_fldI ev_q0 u9
  have F_q1 := own_fldI ev_q1 u13
  have F_q2 := own_fldI ev_q2 u20
  have F_q3 := own_fldI ev_q3 u17
  obtain ⟨n, o, h1, h2, h3, _, L, rfl, ⟨rfl, N⟩, hq⟩ := own_rm0 l s _ hw tables_1 i0 i1 i2 q0 q1 q2 q3 s.heap s.heap.size (Nat.le_refl _) S_q0 S_q1 S_q2 S_q3 E_q0 E_q1 E_q2 E_q3 F_q0 F_q1 F_q2 F_q3 p e ha hc hk s m _ below hf ((Spec.applies_iff_loose hf).mp happ).1 ⟨rfl, State.Warmed39.refl s, rfl⟩ trivial
  refine ⟨n, _, h1, h2, h3, hpost _ _ _ _ _ _ ⟨Cond.after_iff.mpr rfl, Cond.after_iff.mpr (eq_i res_at (Term.int_eval (1)) rfl), trivial⟩ ⟨hq.1, hq.2.1, (hq.2.2.sift fun y hy => Or.inr (N y hy)).mono (by decide) (by decide)⟩⟩
theorem main_1_1 : Claimed_1_1 := own_comes fun _ _ _ _ _ _ h hF => ⟨h.1, hF⟩
theorem main_1_2 : Claimed_1_2 := own_comes fun _ _ _ _ _ _ h hF => ⟨h.2.1, hF⟩
end Jvm.Pilot.@@N@@
namespace Jvm.Pilot.@@N@@
open Jvm Jvm.ClassFile Sem Op Lib Jvm.Free Jvm.Stand Jvm.Pilot.@@N@@.Jvm.D
/-! MADE BY PROGRAM (witnessworld.py) out of the Statement's table words and the real class files: 12 classes; the members and pool entries that the words name. The judged class is class 1, her method 1. -/
namespace start1
open Jvm.ClassFile
def u (s : String) : CpInfo := .utf8 (stringToUtf16 s)
/-- a pool by its gaps: so many unusable entries, then the entry; so many at the end -/
def gap : Nat → List CpInfo → List CpInfo
  | 0, r => r
  | n + 1, r => .unusable :: gap n r
def poolList (es : List (Nat × CpInfo)) (last : Nat) : List CpInfo := es.foldr (fun e r => gap e.1 (e.2 :: r)) (gap last [])
def pool (es : List (Nat × CpInfo)) (last : Nat) : Array CpInfo := ⟨poolList es last⟩
def fileOf (pool : Array CpInfo) (this : Nat) (attrs : Array Attribute := #[]) (ms : Array MethodInfo := #[]) (fl : Nat := 33) (sup : Nat := 0) (ifs : Array Nat := #[]) (fds : Array FieldInfo := #[]) : ClassFile where
  minorVersion := 0
  majorVersion := 65
  constantPool := pool
  accessFlags := fl
  thisClass := this
  superClass := sup
  interfaces := ifs
  fields := fds
  methods := ms
  attributes := attrs
def plain (name : String) (sup : Option ClassId) : Class where
  name := name
  kind := .ordinary
  loader := none
  accessFlags := 33
  super := sup
  interfaces := #[]
  cf := none
  fields := #[]
  methods := #[]
  instanceTypes := #[]
  staticTypes := #[]
  resolved := #[]
  callSites := []
  init := .initialized
  statics := none
  mirror := none

def pool0 : Array CpInfo := pool [(5, u "<init>"), (0, u "()V"), (1, .class_ 10), (1, u "java/lang/Object")] 113

def k0m0 : Method := { name := "<init>", desc := "()V", sig := { parameters := [], returnType := none }, accessFlags := 1, code := none }
/-- java/lang/Object -/
def k0 : Class := { plain "java/lang/Object" none with
  accessFlags := 33
  interfaces := #[]
  cf := some (fileOf pool0 8 #[] #[{ accessFlags := 1, nameIndex := 5, descriptorIndex := 6, attributes := #[] }] 33 0 #[] #[])
  fields := #[]
  methods := #[k0m0]
  instanceTypes := #[]
  staticTypes := #[]
  resolved := Array.replicate 124 none
  statics := none }

def pool1 : Array CpInfo := pool [(2, .class_ 4), (1, u "java/lang/Object"), (0, u "<init>"), (0, u "()V"), (0, .fieldref 8 9), (0, .class_ 10), (0, .nameAndType 11 12), (0, u "com/example/oleaster/oleaster/model/CropYears"), (0, u "CROP_PROVISIONS"), (0, u "Lcom/example/oleaster/oleaster/model/CropYears;"), (0, .fieldref 8 14), (0, .nameAndType 15 12), (0, u "PREMIUM_TABLES"), (0, .fieldref 8 17), (0, .nameAndType 18 12), (0, u "INSURABILITY_REQUIREMENTS"), (0, .fieldref 8 20), (0, .nameAndType 21 12), (0, u "LOSS_ADJUSTMENT_HANDBOOK"), (0, .methodref 8 23), (0, .nameAndType 24 25), (0, u "holds"), (0, u "(I)Z"), (0, .class_ 27), (0, u "com/example/oleaster/oleaster/model/CropYearsHoldsPinLaw"), (2, u "law"), (0, u "(III)Z")] 3

def k1m0 : Method := { name := "<init>", desc := "()V", sig := { parameters := [], returnType := none }, accessFlags := 2, code := none }
def k1c1 : Code := { maxStack := 3, maxLocals := 8, code := code, exceptionTable := #[], attributes := #[] }
def k1m1 : Method := { name := "law", desc := "(III)Z", sig := { parameters := [.int, .int, .int], returnType := some .boolean }, accessFlags := 9, code := some k1c1 }
/-- com/example/oleaster/oleaster/model/CropYearsHoldsPinLaw -/
def k1 : Class := { plain "com/example/oleaster/oleaster/model/CropYearsHoldsPinLaw" (some 0) with
  accessFlags := 49
  interfaces := #[]
  cf := some (fileOf pool1 26 #[] #[{ accessFlags := 2, nameIndex := 5, descriptorIndex := 6, attributes := #[] }, { accessFlags := 9, nameIndex := 30, descriptorIndex := 31, attributes := #[] }] 49 2 #[] #[])
  fields := #[]
  methods := #[k1m0, k1m1]
  instanceTypes := #[]
  staticTypes := #[]
  resolved := Array.replicate 35 none
  statics := none }

def pool2 : Array CpInfo := pool [(1, .class_ 2), (0, u "java/lang/constant/Constable"), (0, .class_ 4), (0, u "java/lang/Object")] 6

/-- java/lang/constant/Constable -/
def k2 : Class := { plain "java/lang/constant/Constable" (some 0) with
  accessFlags := 1537
  interfaces := #[]
  cf := some (fileOf pool2 1 #[] #[] 1537 3 #[] #[])
  fields := #[]
  methods := #[]
  instanceTypes := #[]
  staticTypes := #[]
  resolved := Array.replicate 11 none
  statics := none }

def pool3 : Array CpInfo := pool [(1, .class_ 2), (0, u "java/lang/Comparable"), (0, .class_ 4), (0, u "java/lang/Object")] 7

/-- java/lang/Comparable -/
def k3 : Class := { plain "java/lang/Comparable" (some 0) with
  accessFlags := 1537
  interfaces := #[]
  cf := some (fileOf pool3 1 #[] #[] 1537 3 #[] #[])
  fields := #[]
  methods := #[]
  instanceTypes := #[]
  staticTypes := #[]
  resolved := Array.replicate 12 none
  statics := none }

def pool4 : Array CpInfo := pool [(1, .class_ 2), (0, u "java/io/Serializable"), (0, .class_ 4), (0, u "java/lang/Object")] 2

/-- java/io/Serializable -/
def k4 : Class := { plain "java/io/Serializable" (some 0) with
  accessFlags := 1537
  interfaces := #[]
  cf := some (fileOf pool4 1 #[] #[] 1537 3 #[] #[])
  fields := #[]
  methods := #[]
  instanceTypes := #[]
  staticTypes := #[]
  resolved := Array.replicate 7 none
  statics := none }

def pool5 : Array CpInfo := pool [(2, .class_ 4), (1, u "java/lang/Enum"), (0, u "name"), (0, u "Ljava/lang/String;"), (2, u "ordinal"), (0, u "I"), (1, .class_ 14), (1, u "java/lang/Object"), (4, u "hash"), (86, .class_ 108), (1, u "java/lang/Enum$EnumDesc"), (2, .class_ 112), (0, u "java/lang/constant/Constable"), (0, .class_ 114), (0, u "java/lang/Comparable"), (0, .class_ 116), (0, u "java/io/Serializable")] 87

/-- java/lang/Enum -/
def k5 : Class := { plain "java/lang/Enum" (some 0) with
  accessFlags := 1057
  interfaces := #[2, 3, 4]
  cf := some (fileOf pool5 2 #[.nestMembers #[106]] #[] 1057 12 #[111, 113, 115] #[{ accessFlags := 18, nameIndex := 5, descriptorIndex := 6, attributes := #[] }, { accessFlags := 18, nameIndex := 9, descriptorIndex := 10, attributes := #[] }, { accessFlags := 2, nameIndex := 19, descriptorIndex := 10, attributes := #[] }])
  fields := #[{ name := "name", type := (.object "java/lang/String"), accessFlags := 18, slot := 0, constantValue := 0 }, { name := "ordinal", type := .int, accessFlags := 18, slot := 1, constantValue := 0 }, { name := "hash", type := .int, accessFlags := 2, slot := 2, constantValue := 0 }]
  methods := #[]
  instanceTypes := #[(.object "java/lang/String"), .int, .int]
  staticTypes := #[]
  resolved := Array.replicate 204 none
  statics := none }

def pool6 : Array CpInfo := pool [(1, .class_ 2), (0, u "com/example/oleaster/oleaster/model/CropYears"), (2, u "CROP_PROVISIONS"), (0, u "Lcom/example/oleaster/oleaster/model/CropYears;"), (2, u "PREMIUM_TABLES"), (2, u "INSURABILITY_REQUIREMENTS"), (2, u "LOSS_ADJUSTMENT_HANDBOOK"), (2, u "$VALUES"), (0, u "[Lcom/example/oleaster/oleaster/model/CropYears;"), (6, .class_ 28), (1, u "java/lang/Enum"), (6, .fieldref 1 36), (0, .nameAndType 37 38), (0, u "first"), (0, u "I"), (2, u "holds"), (0, u "(I)Z")] 86

def k6c0 : Code := { maxStack := 2, maxLocals := 2, code := prog_50_method_5_code, exceptionTable := #[], attributes := #[] }
def k6m0 : Method := { name := "holds", desc := "(I)Z", sig := { parameters := [.int], returnType := some .boolean }, accessFlags := 1, code := some k6c0 }
/-- com/example/oleaster/oleaster/model/CropYears -/
def k6 : Class := { plain "com/example/oleaster/oleaster/model/CropYears" (some 5) with
  accessFlags := 16433
  interfaces := #[]
  cf := some (fileOf pool6 1 #[] #[{ accessFlags := 1, nameIndex := 41, descriptorIndex := 42, attributes := #[] }] 16433 26 #[] #[{ accessFlags := 16409, nameIndex := 5, descriptorIndex := 6, attributes := #[] }, { accessFlags := 16409, nameIndex := 9, descriptorIndex := 6, attributes := #[] }, { accessFlags := 16409, nameIndex := 12, descriptorIndex := 6, attributes := #[] }, { accessFlags := 16409, nameIndex := 15, descriptorIndex := 6, attributes := #[] }, { accessFlags := 18, nameIndex := 37, descriptorIndex := 38, attributes := #[] }, { accessFlags := 4122, nameIndex := 18, descriptorIndex := 19, attributes := #[] }])
  fields := #[{ name := "CROP_PROVISIONS", type := (.object "com/example/oleaster/oleaster/model/CropYears"), accessFlags := 16409, slot := 0, constantValue := 0 }, { name := "PREMIUM_TABLES", type := (.object "com/example/oleaster/oleaster/model/CropYears"), accessFlags := 16409, slot := 1, constantValue := 0 }, { name := "INSURABILITY_REQUIREMENTS", type := (.object "com/example/oleaster/oleaster/model/CropYears"), accessFlags := 16409, slot := 2, constantValue := 0 }, { name := "LOSS_ADJUSTMENT_HANDBOOK", type := (.object "com/example/oleaster/oleaster/model/CropYears"), accessFlags := 16409, slot := 3, constantValue := 0 }, { name := "first", type := .int, accessFlags := 18, slot := 3, constantValue := 0 }, { name := "$VALUES", type := (.array (.object "com/example/oleaster/oleaster/model/CropYears")), accessFlags := 4122, slot := 4, constantValue := 0 }]
  methods := #[k6m0]
  instanceTypes := #[(.object "java/lang/String"), .int, .int, .int]
  staticTypes := #[(.object "com/example/oleaster/oleaster/model/CropYears"), (.object "com/example/oleaster/oleaster/model/CropYears"), (.object "com/example/oleaster/oleaster/model/CropYears"), (.object "com/example/oleaster/oleaster/model/CropYears"), (.array (.object "com/example/oleaster/oleaster/model/CropYears"))]
  resolved := Array.replicate 129 none
  statics := some 0 }

def pool7 : Array CpInfo := pool [(1, u "java/lang/Cloneable"), (0, .class_ 1), (0, u "java/lang/Object"), (0, .class_ 3)] 3

/-- java/lang/Cloneable -/
def k7 : Class := { plain "java/lang/Cloneable" (some 0) with
  accessFlags := 1537
  interfaces := #[]
  cf := some (fileOf pool7 2 #[] #[] 1537 4 #[] #[])
  fields := #[]
  methods := #[]
  instanceTypes := #[]
  staticTypes := #[]
  resolved := Array.replicate 8 none
  statics := none }

/-- the primitive byte -/
def k8 : Class := { plain "byte" none with kind := .primitive 'B', accessFlags := 0x411 }
/-- [B -/
def k9 : Class := { plain "[B" (some 0) with kind := .array 8 .byte, interfaces := #[7, 4], accessFlags := 1041 }

/-- the primitive int -/
def k10 : Class := { plain "int" none with kind := .primitive 'I', accessFlags := 0x411 }
/-- [I -/
def k11 : Class := { plain "[I" (some 0) with kind := .array 10 .int, interfaces := #[7, 4], accessFlags := 1041 }

def heap : Heap := #[{ cls := 6, slots := #[.ref 1, .ref 2, .ref 3, .ref 4, .null], vm := .statics 6 },
  { cls := 6, slots := #[.null, .int 0, .int 0, .int 2012], vm := .none },
  { cls := 6, slots := #[.null, .int 1, .int 0, .int 2015], vm := .none },
  { cls := 6, slots := #[.null, .int 2, .int 0, .int 2016], vm := .none },
  { cls := 6, slots := #[.null, .int 3, .int 0, .int 2018], vm := .none }]
def classes : Array Class := #[k0, k1, k2, k3, k4, k5, k6, k7, k8, k9, k10, k11]
def interned : List (Array UInt16 × Addr) := []
def slotsUsed : Nat := 21
def theMethod : MethodId := ⟨1, 1⟩
def args0 : Array Value := #[.int 5, .int 2020, .int 1]
def aboutOver (below : List Frame) : State where
  vm := { classes := classes, interned := interned.toArray }
  heap := heap
  slotsUsed := slotsUsed
  threads := #[{ frames := .invoking theMethod args0 :: below }]
def below0 : List Frame := [.native { method := ⟨0, 0⟩, args := #[] }]
def about1 : State := aboutOver below0
def p0 : Program := .bare "" "" ""
def e0 : Env := launch0.env 0 0 0
theorem w_frames : about1.frames = Frame.invoking theMethod args0 :: below0 := rfl
set_option maxRecDepth 65536 in
theorem w_args : argsFit about1.vm theMethod args0 = true := by decide +kernel
set_option maxRecDepth 65536 in
theorem w_heap : heapFits about1 = true := by decide +kernel
set_option maxRecDepth 65536 in
theorem w_runnable : about1.curStatus? = some .runnable := by decide +kernel
set_option maxRecDepth 65536 in
theorem w_alone : about1.alone = true := by decide +kernel
set_option maxRecDepth 65536 in
theorem w_named : about1.methodNamed? x = some theMethod := by decide +kernel
set_option maxRecDepth 65536 in
theorem w_hears : about1.hears theMethod below0 = true := by decide +kernel
set_option maxRecDepth 65536 in
theorem w_ripe : about1.ripe theMethod args0 below0 = true := by decide +kernel
theorem w_running : about1.status = .running := rfl
set_option maxRecDepth 65536 in
theorem w_room : about1.hasRoom e0.platform room_1 = true :=
  launch0.hasRoom_least _ room_1 (by decide +kernel) (by decide +kernel) (by decide +kernel) (by decide +kernel) (by decide +kernel) (by decide +kernel)
theorem allAtoms_all (ts : List Jvm.Cond) (a : Array Jvm.Value) (st : Jvm.State) : (allAtoms ts).before a st = ts.all (fun c => c.before a st) := by
  induction ts with
  | nil => rfl
  | cons c t ih =>
    show (Jvm.Cond.and c (allAtoms t)).before a st = _
    rw [Jvm.Cond.before_and, ih, List.all_cons]
def words1 : List Jvm.Cond := Jvm.Cond.code x code maxLocals ret :: tables_1
/-- a 'code' word, met by the world's own term for the bytes: nothing is compared byte by byte -/
theorem code_word {y : MethodName} {bytes : ByteArray} {mx : Nat} {rt : Option FieldType} {a : Array Value} {s : State} {m : MethodId} {meth : Method} {c : Code} (h1 : s.methodNamed? y = some m) (h2 : s.vm.method? m = some meth) (h3 : meth.code = some c) (h4 : c.code = bytes)
    (h5 : (c.maxLocals == mx && c.exceptionTable.isEmpty && decide (c.maxStack ≤ mostOperands) && decide (meth.sig.returnType = rt) && !meth.locks && decide (parseMethodDescriptor y.desc = some meth.sig)) = true) : (Jvm.Cond.code y bytes mx rt).before a s = true := by
  simp only [Bool.and_eq_true, beq_iff_eq, Bool.not_eq_true', decide_eq_true_eq] at h5
  obtain ⟨⟨⟨⟨⟨g1, g2⟩, g3⟩, g4⟩, g5⟩, g6⟩ := h5
  simp [Cond.before, Cond.holds, Cond.value, h1, h2, h3, h4, g1, g2, g3, g4, g5, g6]
def isCode : Jvm.Cond → Bool
  | .code _ _ _ _ => true
  | _ => false
theorem all_split {L : List Jvm.Cond} {P : Jvm.Cond → Bool} (h1 : L.all (fun c => isCode c || P c) = true) (h2 : ∀ c ∈ L.filter isCode, P c = true) : L.all P = true := by
  refine List.all_eq_true.mpr fun c hc => ?_
  have h := List.all_eq_true.mp h1 c hc
  rcases Bool.eq_false_or_eq_true (isCode c) with hi | hi
  · exact h2 c (List.mem_filter.mpr ⟨hc, hi⟩)
  · simpa [hi] using h
set_option maxRecDepth 65536 in
theorem w_c0 : (Jvm.Cond.code x code maxLocals ret).before args0 about1 = true := code_word (m := ⟨1, 1⟩) (meth := k1m1) (c := k1c1) (by decide +kernel) rfl rfl rfl (by decide +kernel)
set_option maxRecDepth 65536 in
theorem w_c1 : (Jvm.Cond.code ({ cls := "com/example/oleaster/oleaster/model/CropYears", name := "holds", desc := "(I)Z" } : Jvm.MethodName) prog_50_method_5_code (2 : Nat) (Option.some Jvm.ClassFile.FieldType.boolean)).before args0 about1 = true := code_word (m := ⟨6, 0⟩) (meth := k6m0) (c := k6c0) (by decide +kernel) rfl rfl rfl (by decide +kernel)
def codes1 : List Jvm.Cond := [Jvm.Cond.code x code maxLocals ret, Jvm.Cond.code ({ cls := "com/example/oleaster/oleaster/model/CropYears", name := "holds", desc := "(I)Z" } : Jvm.MethodName) prog_50_method_5_code (2 : Nat) (Option.some Jvm.ClassFile.FieldType.boolean)]
set_option maxRecDepth 65536 in
theorem codes_eq : words1.filter isCode = codes1 := rfl
theorem w_codes : ∀ c ∈ words1.filter isCode, c.before args0 about1 = true := by
  rw [codes_eq]
  intro c hc
  simp only [codes1, List.mem_cons, List.not_mem_nil, or_false] at hc
  rcases hc with rfl | rfl
  · exact w_c0
  · exact w_c1
set_option maxRecDepth 65536 in
theorem w_t1 : words1.all (fun c => isCode c || c.before args0 about1) = true := by decide +kernel
theorem w_tables : (allAtoms (Jvm.Cond.code x code maxLocals ret :: tables_1)).before args0 about1 = true := by
  rw [allAtoms_all]
  show words1.all (fun c => c.before args0 about1) = true
  refine all_split ?_ w_codes
  rw [w_t1]
set_option maxRecDepth 65536 in
theorem w_case : (Jvm.Cond.and given_1 narrow_1).before args0 about1 = true := by decide +kernel
theorem w_applies : (headSpec (Jvm.Cond.code x code maxLocals ret :: tables_1) room_1).applies x e0.platform about1 = true :=
  (Spec.applies_iff w_frames).mpr ⟨w_running, w_runnable, w_alone, w_named, w_hears, w_ripe, w_room, w_tables⟩
theorem atStart : AtStart classFile x code maxLocals ret World_1 tables_1 room_1 Calls_1 rest_1 Pre_1 launch0 p0 e0 about1 theMethod args0 below0 :=
  ⟨lists_1, trivial, launch0.admits_env _ _ _, launch0.least_env, fairChoices_fair.cas, fairChoices_fair.clock, w_frames, w_args, w_heap, w_applies, trivial, trivial, w_case⟩
end start1
theorem witness_1 : WitnessClaimed_1 := ⟨start1.p0, start1.e0, start1.about1, start1.theMethod, start1.args0, start1.below0, start1.atStart⟩
end Jvm.Pilot.@@N@@
