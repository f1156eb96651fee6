import JvmDerived
import JvmDerived.Pilot.@@N@@Statement
import JvmDerived.Pilot.@@N@@Code
set_option linter.unusedVariables false
set_option linter.unusedSimpArgs false
namespace Jvm.Pilot.@@N@@
open Jvm Jvm.ClassFile Sem Op Lib Jvm.Free Jvm.Stand Jvm.LawKit Jvm.RoadKit Bundle Jvm.Pilot.@@N@@.Jvm.D
/-- the walk's goal, seen from a state: it comes to an end of which P holds -/
def OwnFin (tb : Tables) (e : Env) (below : List Frame) (P : State → Outcome → Prop) (S : State) : Prop := ∃ t o, Steps tb e below S t ∧ P t o
theorem OwnFin.adv {tb : Tables} {e : Env} {below : List Frame} {P : State → Outcome → Prop} {A B : State} (h : ∀ t, Steps tb e below B t → Steps tb e below A t) (k : OwnFin tb e below P B) : OwnFin tb e below P A := by
  obtain ⟨t, o, h1, h2⟩ := k
  exact ⟨t, o, h t h1, h2⟩
theorem OwnFin.entry {tb : Tables} {e : Env} {below : List Frame} {P : State → Outcome → Prop} {T : State} {g g' : JFrame} (q : g = g') (k : ∀ P', P' = P → OwnFin tb e below P' (T.setTop g')) : ∃ t o, Steps tb e below (T.setTop g) t ∧ P t o := by
  subst q; exact k P rfl
theorem OwnFin.leaf {tb : Tables} {e : Env} {below : List Frame} {P P' : State → Outcome → Prop} {S : State} (q : P' = P) (k : ∃ t o, Steps tb e below S t ∧ P t o) : OwnFin tb e below P' S := by
  subst q; exact k
theorem own_monoW {s t : State} {o : Outcome} {L : List Loc} {k n k' n' : Nat} (h : ReturnedEndW s o t L k n) (hk : k ≤ k') (hn : n ≤ n') : ReturnedEndW s o t L k' n' := ⟨h.1, h.2.1, h.2.2.1, h.2.2.2.mono hk hn⟩
theorem own_chend {Z : State} {EL : List (String × Nat)} {vm0 vm1 vm2 : Vm} {U0 U1 : State} {h0 h1 : Heap} (A : CHr Z EL U0.vm h0 vm1 h1) (B : CHr Z EL vm1 h1 vm2 h1) (e0 : U0.heap = h0) (e1 : U1.heap = h1) : CHr Z EL U0.vm U0.heap vm2 U1.heap := by
  rw [e0, e1]; exact A.trans B
theorem own_staK {Z : State} {n0 : Nat} {h : Heap} {C n d : String} {v : Value} (S : Sta Z Z.heap C n d v) (O : Old Z n0 h) : Sta Z h C n d v := S.ext O.2
section OwnRet
variable {p : Program} {l : Launch} {e : Env} {R : Room} {s : State} {m : MethodId} {args : Array Value} {below : List Frame} {meth : Method} {c : Code} {T : State} {locs : List Loc} {cells slots : Nat}
theorem own_retI (X : Stand p l e R s m args below meth c T locs cells slots) (hx : p.tables.exec = Jvm.exec) {pc : Nat} {Ls : Array Slot} {z : Int32} {rest : List Value} (hret : meth.sig.returnType = some .int) (hd : decode c.code pc = .ok (.ireturn, 1)) {fs : List Frame}
    (hl : ∀ (f : JFrame) (acts : List Action), f.method = m → f.locked = none → f.entered = [] → (doReturn e (T.setTop f) acts (some (.int z))).1 = T.setFrames fs) : Steps p.tables e below (T.setTop (mkF m pc Ls (.int z :: rest))) (T.setFrames fs) :=
  retOut X hx hret rfl (Or.inl ⟨rfl, Or.inl rfl, z, rfl⟩) hd hl
theorem own_retL (X : Stand p l e R s m args below meth c T locs cells slots) (hx : p.tables.exec = Jvm.exec) {pc : Nat} {Ls : Array Slot} {z : Int64} {rest : List Value} (hret : meth.sig.returnType = some .long) (hd : decode c.code pc = .ok (.lreturn, 1)) {fs : List Frame}
    (hl : ∀ (f : JFrame) (acts : List Action), f.method = m → f.locked = none → f.entered = [] → (doReturn e (T.setTop f) acts (some (.long z))).1 = T.setFrames fs) : Steps p.tables e below (T.setTop (mkF m pc Ls (.long z :: rest))) (T.setFrames fs) :=
  retOut X hx hret rfl (Or.inr (Or.inl ⟨rfl, rfl, z, rfl⟩)) hd hl
theorem own_retR (X : Stand p l e R s m args below meth c T locs cells slots) (hx : p.tables.exec = Jvm.exec) {pc : Nat} {Ls : Array Slot} {w : Value} {t : FieldType} {rest : List Value} (hret : meth.sig.returnType = some t) (ht : t.isReference = true) (hn : narrow t w = w) (hw : w.isRef = true) (hd : decode c.code pc = .ok (.areturn, 1)) {fs : List Frame}
    (hl : ∀ (f : JFrame) (acts : List Action), f.method = m → f.locked = none → f.entered = [] → (doReturn e (T.setTop f) acts (some w)).1 = T.setFrames fs) : Steps p.tables e below (T.setTop (mkF m pc Ls (w :: rest))) (T.setFrames fs) :=
  retOut X hx hret hn (Or.inr (Or.inr (Or.inr (Or.inr ⟨rfl, ht, hw⟩)))) hd hl
end OwnRet
theorem own_eqI {args : Array Value} {first s : State} {o : Option Outcome} {idx : List Nat} {t : Term} {k : Int32} (h : (Cond.eq t (Term.int k)).value args first o s idx = some true) : t.eval args first o idx s = some (.int k) := by
  simp only [Cond.value, Term.eval] at h
  cases ht : t.eval args first o idx s with
  | none => simp [ht] at h
  | some x => cases x <;> simp [ht] at h ⊢; exact h
theorem own_fldI {Z : State} {args : Array Value} {t : Term} {a : Addr} {C n d : String} {k : Int32} (ht : t.eval args Z none [] Z = some (.ref a)) (h : (Cond.eq (Term.field t C n d) (Term.int k)).value args Z none Z [] = some true) : Fld Z Z.heap a C n d (.int k) :=
  Fld.start ((fld_at ht).symm.trans (own_eqI h))
def own_tier (i : Int32) : Int32 := if i = 0 then 0 else if i = 1 then 1 else if i = 2 then 2 else if i = 3 then 2 else 3
def own_prec (i : Int32) : Int32 := if i = 0 then 4 else if i = 1 then 3 else if i = 2 then 2 else if i = 3 then 2 else 1
def own_kind (i : Int32) (q0 q1 q2 q3 q4 : Addr) : Addr := if i = 0 then q0 else if i = 1 then q1 else if i = 2 then q2 else if i = 3 then q3 else q4
theorem own_tp (i : Int32) : own_tier i = 0 ∧ own_prec i = 4 ∨ own_tier i = 1 ∧ own_prec i = 3 ∨ own_tier i = 2 ∧ own_prec i = 2 ∨ own_tier i = 3 ∧ own_prec i = 1 := by
  unfold own_tier own_prec
  repeat' split
  all_goals decide
theorem own_same (i j : Int32) : own_prec i < own_prec j ↔ own_tier j < own_tier i := by
  rcases own_tp i with ⟨a, b⟩ | ⟨a, b⟩ | ⟨a, b⟩ | ⟨a, b⟩ <;> rcases own_tp j with ⟨a', b'⟩ | ⟨a', b'⟩ | ⟨a', b'⟩ | ⟨a', b'⟩ <;> rw [a, b, a', b'] <;> decide
theorem own_kexa {Z : State} {h : Heap} {C : String} {q0 q1 q2 q3 q4 : Addr} (E0 : Exa Z h q0 C) (E1 : Exa Z h q1 C) (E2 : Exa Z h q2 C) (E3 : Exa Z h q3 C) (E4 : Exa Z h q4 C) (i : Int32) : Exa Z h (own_kind i q0 q1 q2 q3 q4) C := by
  unfold own_kind
  repeat' split
  all_goals assumption
theorem own_kfld {Z : State} {h : Heap} {C n d : String} {q0 q1 q2 q3 q4 : Addr} (E0 : Fld Z h q0 C n d (.int 4)) (E1 : Fld Z h q1 C n d (.int 3)) (E2 : Fld Z h q2 C n d (.int 2)) (E3 : Fld Z h q3 C n d (.int 2)) (E4 : Fld Z h q4 C n d (.int 1)) (i : Int32) : Fld Z h (own_kind i q0 q1 q2 q3 q4) C n d (.int (own_prec i)) := by
  unfold own_kind own_prec
  repeat' split
  all_goals assumption

theorem own_d1_0 : decode method_3_code 0 = .ok (.iload_n 0, 1) := by decide +kernel
theorem own_d1_1 : decode method_3_code 1 = .ok (.ifCond .ne 5, 3) := by decide +kernel
theorem own_d1_4 : decode method_3_code 4 = .ok (.iconst 0, 1) := by decide +kernel
theorem own_d1_5 : decode method_3_code 5 = .ok (.ireturn, 1) := by decide +kernel
theorem own_d1_6 : decode method_3_code 6 = .ok (.iload_n 0, 1) := by decide +kernel
theorem own_d1_7 : decode method_3_code 7 = .ok (.iconst 1, 1) := by decide +kernel
theorem own_d1_8 : decode method_3_code 8 = .ok (.if_icmp .ne 5, 3) := by decide +kernel
theorem own_d1_11 : decode method_3_code 11 = .ok (.iconst 1, 1) := by decide +kernel
theorem own_d1_12 : decode method_3_code 12 = .ok (.ireturn, 1) := by decide +kernel
theorem own_d1_13 : decode method_3_code 13 = .ok (.iload_n 0, 1) := by decide +kernel
theorem own_d1_14 : decode method_3_code 14 = .ok (.iconst 2, 1) := by decide +kernel
theorem own_d1_15 : decode method_3_code 15 = .ok (.if_icmp .ne 5, 3) := by decide +kernel
theorem own_d1_18 : decode method_3_code 18 = .ok (.iconst 2, 1) := by decide +kernel
theorem own_d1_19 : decode method_3_code 19 = .ok (.ireturn, 1) := by decide +kernel
theorem own_d1_20 : decode method_3_code 20 = .ok (.iload_n 0, 1) := by decide +kernel
theorem own_d1_21 : decode method_3_code 21 = .ok (.iconst 3, 1) := by decide +kernel
theorem own_d1_22 : decode method_3_code 22 = .ok (.if_icmp .ne 5, 3) := by decide +kernel
theorem own_d1_25 : decode method_3_code 25 = .ok (.iconst 2, 1) := by decide +kernel
theorem own_d1_26 : decode method_3_code 26 = .ok (.ireturn, 1) := by decide +kernel
theorem own_d1_27 : decode method_3_code 27 = .ok (.iconst 3, 1) := by decide +kernel
theorem own_d1_28 : decode method_3_code 28 = .ok (.ireturn, 1) := by decide +kernel
theorem own_ef_rm1 (m : MethodId) (x0 : Int32) : entryFrame m #[(.int x0)] 1 = mkF m 0 #[.val (.int x0)] [] := by first | (simp [entryFrame, mkF, argsToLocals, Value.category]; done) | rfl
theorem own_pn_tramline_routes_KindReplacesPinLaw : plainName "tramline/routes/KindReplacesPinLaw" = true := by first | (simp [plainName, overriddenIn]; done) | decide +kernel
def own_Q_rm1 (Z : State) (i : Int32) (h0 : Heap) (n0 : Nat) (v : Option Value) (h : Heap) (L : List Loc) : Prop := v = some (.int (own_tier i)) ∧ Fr n0 L ∧ h = h0
set_option maxRecDepth 65536 in
set_option maxHeartbeats 40000000 in
theorem own_rm1 (l : Launch) (Z : State) (a0 : Array Value) (hw : ∀ d ∈ tables_1, d.before a0 Z = true) (ws : List Jvm.Cond) (i : Int32) (h0 : Heap) (n0 : Nat) (Z0 : n0 ≤ h0.size) :
    MetFree l (⟨"tramline/routes/KindReplacesPinLaw", "tier", "(I)I"⟩ : MethodName) (head1 (Jvm.Cond.code (⟨"tramline/routes/KindReplacesPinLaw", "tier", "(I)I"⟩ : MethodName) method_3_code 1 (some .int) :: ws) ({ frames := 0, cells := 0, slots := 0, locals := 0 } : Room)) (fun A0 U0 => A0 = #[(.int i)] ∧ Z.Warmed39 U0.vm ∧ U0.heap = h0) (fun _ _ _ _ _ => True) (fun _ U0 o0 U1 => ∃ v0 L0, o0 = .returned v0 ∧ own_Q_rm1 Z i h0 n0 v0 U1.heap L0 ∧ FrameEnd U0 o0 U1 L0 ({ frames := 0, cells := 0, slots := 0, locals := 0 } : Room).cells ({ frames := 0, cells := 0, slots := 0, locals := 0 } : Room).slots) := by
  refine MetFree.of_bodySF (plainFor_of_name own_pn_tramline_routes_KindReplacesPinLaw) hisR ?_
  intro p e s m args below meth c s₁ Bd hml0 hP hK
  obtain ⟨rfl, hZ, hh⟩ := hP
  have hx := Bd.exec
  have hby := Bd.bytes
  have hml : c.maxLocals = 1 := hml0
  have hown : s.vm.findClass "tramline/routes/KindReplacesPinLaw" = some m.cls := findClass_of_methodNamed Bd.named
  have hnm := (name_of_methodNamed Bd.named Bd.method).1
  have X0 : Stand p l e ({ frames := 0, cells := 0, slots := 0, locals := 0 } : Room) s m #[(.int i)] below meth c s₁ [] 0 0 := Stand.of_body Bd
  have e0 : s₁.heap = h0 := by rw [← hh, Bd.state]; rfl
  have N0 := Fr.nil n0
  refine OwnFin.entry (own_ef_rm1 m i) (fun P' hP' => ?_)
  refine OwnFin.adv (B := s₁.setTop (mkF m 1 #[.val (.int i)] [(.int i)])) (fun _ k => XS.iloadN X0.here hx rfl (hb hby own_d1_0) rfl k) ?_
  by_cases hc1 : i = (0 : Int32)
  ·
    refine OwnFin.adv (B := s₁.setTop (mkF m 4 #[.val (.int i)] [])) (fun _ k => XS.ifNo X0.here hx rfl (hb hby own_d1_1) rfl ((if0 _ _).trans (teq hc1).2) k) ?_
    refine OwnFin.adv (B := s₁.setTop (mkF m 5 #[.val (.int i)] [(.int (0 : Int32))])) (fun _ k => XS.iconst X0.here hx rfl (hb hby own_d1_4) k) ?_
    obtain ⟨fs, hr, hrun, hended, hW, hsame⟩ := X0.leave (v := some (.int (0 : Int32))) (fun h => by rw [Bd.returns] at h; cases h)
    refine OwnFin.leaf hP' ⟨_, _, own_retI X0 hx Bd.returns (hb hby own_d1_5) hr, hrun, hended, _, _, rfl, ?_, ⟨_, rfl⟩, hW, hsame.mono (by decide) (by decide)⟩
    exact ⟨by simp [own_tier, *], N0, e0⟩
  ·
    refine OwnFin.adv (B := s₁.setTop (mkF m 6 #[.val (.int i)] [])) (fun _ k => XS.ifYes X0.here hx rfl (pc0 := 1) (pc' := 6) rfl (hb hby own_d1_1) rfl ((if0 _ _).trans (feq hc1).2) (by decide) (by decide) k) ?_
    refine OwnFin.adv (B := s₁.setTop (mkF m 7 #[.val (.int i)] [(.int i)])) (fun _ k => XS.iloadN X0.here hx rfl (hb hby own_d1_6) rfl k) ?_
    refine OwnFin.adv (B := s₁.setTop (mkF m 8 #[.val (.int i)] [(.int (1 : Int32)), (.int i)])) (fun _ k => XS.iconst X0.here hx rfl (hb hby own_d1_7) k) ?_
    by_cases hc8 : i = (1 : Int32)
    ·
      refine OwnFin.adv (B := s₁.setTop (mkF m 11 #[.val (.int i)] [])) (fun _ k => XS.icmpNo X0.here hx rfl (hb hby own_d1_8) rfl (teq hc8).2 k) ?_
      refine OwnFin.adv (B := s₁.setTop (mkF m 12 #[.val (.int i)] [(.int (1 : Int32))])) (fun _ k => XS.iconst X0.here hx rfl (hb hby own_d1_11) k) ?_
      obtain ⟨fs, hr, hrun, hended, hW, hsame⟩ := X0.leave (v := some (.int (1 : Int32))) (fun h => by rw [Bd.returns] at h; cases h)
      refine OwnFin.leaf hP' ⟨_, _, own_retI X0 hx Bd.returns (hb hby own_d1_12) hr, hrun, hended, _, _, rfl, ?_, ⟨_, rfl⟩, hW, hsame.mono (by decide) (by decide)⟩
      exact ⟨by simp [own_tier, *], N0, e0⟩
    ·
      refine OwnFin.adv (B := s₁.setTop (mkF m 13 #[.val (.int i)] [])) (fun _ k => XS.icmpYes X0.here hx rfl (pc0 := 8) (pc' := 13) rfl (hb hby own_d1_8) rfl (feq hc8).2 (by decide) (by decide) k) ?_
      refine OwnFin.adv (B := s₁.setTop (mkF m 14 #[.val (.int i)] [(.int i)])) (fun _ k => XS.iloadN X0.here hx rfl (hb hby own_d1_13) rfl k) ?_
      refine OwnFin.adv (B := s₁.setTop (mkF m 15 #[.val (.int i)] [(.int (2 : Int32)), (.int i)])) (fun _ k => XS.iconst X0.here hx rfl (hb hby own_d1_14) k) ?_
      by_cases hc15 : i = (2 : Int32)
      ·
        refine OwnFin.adv (B := s₁.setTop (mkF m 18 #[.val (.int i)] [])) (fun _ k => XS.icmpNo X0.here hx rfl (hb hby own_d1_15) rfl (teq hc15).2 k) ?_
        refine OwnFin.adv (B := s₁.setTop (mkF m 19 #[.val (.int i)] [(.int (2 : Int32))])) (fun _ k => XS.iconst X0.here hx rfl (hb hby own_d1_18) k) ?_
        obtain ⟨fs, hr, hrun, hended, hW, hsame⟩ := X0.leave (v := some (.int (2 : Int32))) (fun h => by rw [Bd.returns] at h; cases h)
        refine OwnFin.leaf hP' ⟨_, _, own_retI X0 hx Bd.returns (hb hby own_d1_19) hr, hrun, hended, _, _, rfl, ?_, ⟨_, rfl⟩, hW, hsame.mono (by decide) (by decide)⟩
        exact ⟨by simp [own_tier, *], N0, e0⟩
      ·
        refine OwnFin.adv (B := s₁.setTop (mkF m 20 #[.val (.int i)] [])) (fun _ k => XS.icmpYes X0.here hx rfl (pc0 := 15) (pc' := 20) rfl (hb hby own_d1_15) rfl (feq hc15).2 (by decide) (by decide) k) ?_
        refine OwnFin.adv (B := s₁.setTop (mkF m 21 #[.val (.int i)] [(.int i)])) (fun _ k => XS.iloadN X0.here hx rfl (hb hby own_d1_20) rfl k) ?_
        refine OwnFin.adv (B := s₁.setTop (mkF m 22 #[.val (.int i)] [(.int (3 : Int32)), (.int i)])) (fun _ k => XS.iconst X0.here hx rfl (hb hby own_d1_21) k) ?_
        by_cases hc22 : i = (3 : Int32)
        ·
          refine OwnFin.adv (B := s₁.setTop (mkF m 25 #[.val (.int i)] [])) (fun _ k => XS.icmpNo X0.here hx rfl (hb hby own_d1_22) rfl (teq hc22).2 k) ?_
          refine OwnFin.adv (B := s₁.setTop (mkF m 26 #[.val (.int i)] [(.int (2 : Int32))])) (fun _ k => XS.iconst X0.here hx rfl (hb hby own_d1_25) k) ?_
          obtain ⟨fs, hr, hrun, hended, hW, hsame⟩ := X0.leave (v := some (.int (2 : Int32))) (fun h => by rw [Bd.returns] at h; cases h)
          refine OwnFin.leaf hP' ⟨_, _, own_retI X0 hx Bd.returns (hb hby own_d1_26) hr, hrun, hended, _, _, rfl, ?_, ⟨_, rfl⟩, hW, hsame.mono (by decide) (by decide)⟩
          exact ⟨by simp [own_tier, *], N0, e0⟩
        ·
          refine OwnFin.adv (B := s₁.setTop (mkF m 27 #[.val (.int i)] [])) (fun _ k => XS.icmpYes X0.here hx rfl (pc0 := 22) (pc' := 27) rfl (hb hby own_d1_22) rfl (feq hc22).2 (by decide) (by decide) k) ?_
          refine OwnFin.adv (B := s₁.setTop (mkF m 28 #[.val (.int i)] [(.int (3 : Int32))])) (fun _ k => XS.iconst X0.here hx rfl (hb hby own_d1_27) k) ?_
          obtain ⟨fs, hr, hrun, hended, hW, hsame⟩ := X0.leave (v := some (.int (3 : Int32))) (fun h => by rw [Bd.returns] at h; cases h)
          refine OwnFin.leaf hP' ⟨_, _, own_retI X0 hx Bd.returns (hb hby own_d1_28) hr, hrun, hended, _, _, rfl, ?_, ⟨_, rfl⟩, hW, hsame.mono (by decide) (by decide)⟩
          exact ⟨by simp [own_tier, *], N0, e0⟩
theorem own_d2_0 : decode method_2_code 0 = .ok (.iload_n 0, 1) := by decide +kernel
theorem own_d2_1 : decode method_2_code 1 = .ok (.ifCond .ne 7, 3) := by decide +kernel
theorem own_d2_4 : decode method_2_code 4 = .ok (.getstatic 7, 3) := by decide +kernel
theorem own_d2_7 : decode method_2_code 7 = .ok (.areturn, 1) := by decide +kernel
theorem own_d2_8 : decode method_2_code 8 = .ok (.iload_n 0, 1) := by decide +kernel
theorem own_d2_9 : decode method_2_code 9 = .ok (.iconst 1, 1) := by decide +kernel
theorem own_d2_10 : decode method_2_code 10 = .ok (.if_icmp .ne 7, 3) := by decide +kernel
theorem own_d2_13 : decode method_2_code 13 = .ok (.getstatic 13, 3) := by decide +kernel
theorem own_d2_16 : decode method_2_code 16 = .ok (.areturn, 1) := by decide +kernel
theorem own_d2_17 : decode method_2_code 17 = .ok (.iload_n 0, 1) := by decide +kernel
theorem own_d2_18 : decode method_2_code 18 = .ok (.iconst 2, 1) := by decide +kernel
theorem own_d2_19 : decode method_2_code 19 = .ok (.if_icmp .ne 7, 3) := by decide +kernel
theorem own_d2_22 : decode method_2_code 22 = .ok (.getstatic 16, 3) := by decide +kernel
theorem own_d2_25 : decode method_2_code 25 = .ok (.areturn, 1) := by decide +kernel
theorem own_d2_26 : decode method_2_code 26 = .ok (.iload_n 0, 1) := by decide +kernel
theorem own_d2_27 : decode method_2_code 27 = .ok (.iconst 3, 1) := by decide +kernel
theorem own_d2_28 : decode method_2_code 28 = .ok (.if_icmp .ne 7, 3) := by decide +kernel
theorem own_d2_31 : decode method_2_code 31 = .ok (.getstatic 19, 3) := by decide +kernel
theorem own_d2_34 : decode method_2_code 34 = .ok (.areturn, 1) := by decide +kernel
theorem own_d2_35 : decode method_2_code 35 = .ok (.getstatic 22, 3) := by decide +kernel
theorem own_d2_38 : decode method_2_code 38 = .ok (.areturn, 1) := by decide +kernel
theorem own_ef_rm2 (m : MethodId) (x0 : Int32) : entryFrame m #[(.int x0)] 1 = mkF m 0 #[.val (.int x0)] [] := by first | (simp [entryFrame, mkF, argsToLocals, Value.category]; done) | rfl
def own_Q_rm2 (Z : State) (i : Int32) (q0 q1 q2 q3 q4 : Addr) (h0 : Heap) (n0 : Nat) (v : Option Value) (h : Heap) (L : List Loc) : Prop := v = some (.ref (own_kind i q0 q1 q2 q3 q4)) ∧ Fr n0 L ∧ h = h0
set_option maxRecDepth 65536 in
set_option maxHeartbeats 40000000 in
theorem own_rm2 (l : Launch) (Z : State) (a0 : Array Value) (hw : ∀ d ∈ tables_1, d.before a0 Z = true) (ws : List Jvm.Cond) (i : Int32) (q0 q1 q2 q3 q4 : Addr) (h0 : Heap) (n0 : Nat) (Z0 : n0 ≤ h0.size) (S_q0 : Sta Z h0 "tramline/routes/Address$Kind" "IN_PROCESS" "Ltramline/routes/Address$Kind;" (.ref q0)) (S_q1 : Sta Z h0 "tramline/routes/Address$Kind" "WEBSOCKET_CLIENT" "Ltramline/routes/Address$Kind;" (.ref q1)) (S_q2 : Sta Z h0 "tramline/routes/Address$Kind" "MQTT" "Ltramline/routes/Address$Kind;" (.ref q2)) (S_q3 : Sta Z h0 "tramline/routes/Address$Kind" "CHANNEL" "Ltramline/routes/Address$Kind;" (.ref q3)) (S_q4 : Sta Z h0 "tramline/routes/Address$Kind" "WEBSOCKET" "Ltramline/routes/Address$Kind;" (.ref q4)) :
    MetFree l (⟨"tramline/routes/KindReplacesPinLaw", "kind", "(I)Ltramline/routes/Address$Kind;"⟩ : MethodName) (head1 (Jvm.Cond.code (⟨"tramline/routes/KindReplacesPinLaw", "kind", "(I)Ltramline/routes/Address$Kind;"⟩ : MethodName) method_2_code 1 (some (.object "tramline/routes/Address$Kind")) :: ws) ({ frames := 0, cells := 0, slots := 0, locals := 0 } : Room)) (fun A0 U0 => A0 = #[(.int i)] ∧ Z.Warmed39 U0.vm ∧ U0.heap = h0) (fun _ _ _ _ _ => True) (fun _ U0 o0 U1 => ∃ v0 L0, o0 = .returned v0 ∧ own_Q_rm2 Z i q0 q1 q2 q3 q4 h0 n0 v0 U1.heap L0 ∧ FrameEnd U0 o0 U1 L0 ({ frames := 0, cells := 0, slots := 0, locals := 0 } : Room).cells ({ frames := 0, cells := 0, slots := 0, locals := 0 } : Room).slots) := by
  refine MetFree.of_bodySF (plainFor_of_name own_pn_tramline_routes_KindReplacesPinLaw) hisR ?_
  intro p e s m args below meth c s₁ Bd hml0 hP hK
  obtain ⟨rfl, hZ, hh⟩ := hP
  have hx := Bd.exec
  have hby := Bd.bytes
  have hml : c.maxLocals = 1 := hml0
  have hown : s.vm.findClass "tramline/routes/KindReplacesPinLaw" = some m.cls := findClass_of_methodNamed Bd.named
  have hnm := (name_of_methodNamed Bd.named Bd.method).1
  have X0 : Stand p l e ({ frames := 0, cells := 0, slots := 0, locals := 0 } : Room) s m #[(.int i)] below meth c s₁ [] 0 0 := Stand.of_body Bd
  have e0 : s₁.heap = h0 := by rw [← hh, Bd.state]; rfl
  have N0 := Fr.nil n0
  refine OwnFin.entry (own_ef_rm2 m i) (fun P' hP' => ?_)
  refine OwnFin.adv (B := s₁.setTop (mkF m 1 #[.val (.int i)] [(.int i)])) (fun _ k => XS.iloadN X0.here hx rfl (hb hby own_d2_0) rfl k) ?_
  by_cases hc1 : i = (0 : Int32)
  ·
    refine OwnFin.adv (B := s₁.setTop (mkF m 4 #[.val (.int i)] [])) (fun _ k => XS.ifNo X0.here hx rfl (hb hby own_d2_1) rfl ((if0 _ _).trans (teq hc1).2) k) ?_
    obtain ⟨T1, X1, e1, st1⟩ := getS2 X0 hx hZ hown (host := "") (Or.inl (hw _ (List.mem_of_getElem? (i := 8) rfl))) Via.refl e0 S_q0 (g := (mkF m 4 #[.val (.int i)] [])) rfl (hb hby own_d2_4)
    refine OwnFin.adv (B := T1.setTop (mkF m 7 #[.val (.int i)] [(.ref q0)])) (fun _ k => st1 _ k) ?_
    obtain ⟨fs, hr, hrun, hended, hW, hsame⟩ := X1.leave (v := some (.ref q0)) (fun h => by rw [Bd.returns] at h; cases h)
    refine OwnFin.leaf hP' ⟨_, _, own_retR X1 hx Bd.returns rfl rfl rfl (hb hby own_d2_7) hr, hrun, hended, _, _, rfl, ?_, ⟨_, rfl⟩, hW, hsame.mono (by decide) (by decide)⟩
    exact ⟨by simp [own_kind, *], N0, e1⟩
  ·
    refine OwnFin.adv (B := s₁.setTop (mkF m 8 #[.val (.int i)] [])) (fun _ k => XS.ifYes X0.here hx rfl (pc0 := 1) (pc' := 8) rfl (hb hby own_d2_1) rfl ((if0 _ _).trans (feq hc1).2) (by decide) (by decide) k) ?_
    refine OwnFin.adv (B := s₁.setTop (mkF m 9 #[.val (.int i)] [(.int i)])) (fun _ k => XS.iloadN X0.here hx rfl (hb hby own_d2_8) rfl k) ?_
    refine OwnFin.adv (B := s₁.setTop (mkF m 10 #[.val (.int i)] [(.int (1 : Int32)), (.int i)])) (fun _ k => XS.iconst X0.here hx rfl (hb hby own_d2_9) k) ?_
    by_cases hc10 : i = (1 : Int32)
    ·
      refine OwnFin.adv (B := s₁.setTop (mkF m 13 #[.val (.int i)] [])) (fun _ k => XS.icmpNo X0.here hx rfl (hb hby own_d2_10) rfl (teq hc10).2 k) ?_
      obtain ⟨T2, X2, e2, st2⟩ := getS2 X0 hx hZ hown (host := "") (Or.inl (hw _ (List.mem_of_getElem? (i := 22) rfl))) Via.refl e0 S_q1 (g := (mkF m 13 #[.val (.int i)] [])) rfl (hb hby own_d2_13)
      refine OwnFin.adv (B := T2.setTop (mkF m 16 #[.val (.int i)] [(.ref q1)])) (fun _ k => st2 _ k) ?_
      obtain ⟨fs, hr, hrun, hended, hW, hsame⟩ := X2.leave (v := some (.ref q1)) (fun h => by rw [Bd.returns] at h; cases h)
      refine OwnFin.leaf hP' ⟨_, _, own_retR X2 hx Bd.returns rfl rfl rfl (hb hby own_d2_16) hr, hrun, hended, _, _, rfl, ?_, ⟨_, rfl⟩, hW, hsame.mono (by decide) (by decide)⟩
      exact ⟨by simp [own_kind, *], N0, e2⟩
    ·
      refine OwnFin.adv (B := s₁.setTop (mkF m 17 #[.val (.int i)] [])) (fun _ k => XS.icmpYes X0.here hx rfl (pc0 := 10) (pc' := 17) rfl (hb hby own_d2_10) rfl (feq hc10).2 (by decide) (by decide) k) ?_
      refine OwnFin.adv (B := s₁.setTop (mkF m 18 #[.val (.int i)] [(.int i)])) (fun _ k => XS.iloadN X0.here hx rfl (hb hby own_d2_17) rfl k) ?_
      refine OwnFin.adv (B := s₁.setTop (mkF m 19 #[.val (.int i)] [(.int (2 : Int32)), (.int i)])) (fun _ k => XS.iconst X0.here hx rfl (hb hby own_d2_18) k) ?_
      by_cases hc19 : i = (2 : Int32)
      ·
        refine OwnFin.adv (B := s₁.setTop (mkF m 22 #[.val (.int i)] [])) (fun _ k => XS.icmpNo X0.here hx rfl (hb hby own_d2_19) rfl (teq hc19).2 k) ?_
        obtain ⟨T3, X3, e3, st3⟩ := getS2 X0 hx hZ hown (host := "") (Or.inl (hw _ (List.mem_of_getElem? (i := 24) rfl))) Via.refl e0 S_q2 (g := (mkF m 22 #[.val (.int i)] [])) rfl (hb hby own_d2_22)
        refine OwnFin.adv (B := T3.setTop (mkF m 25 #[.val (.int i)] [(.ref q2)])) (fun _ k => st3 _ k) ?_
        obtain ⟨fs, hr, hrun, hended, hW, hsame⟩ := X3.leave (v := some (.ref q2)) (fun h => by rw [Bd.returns] at h; cases h)
        refine OwnFin.leaf hP' ⟨_, _, own_retR X3 hx Bd.returns rfl rfl rfl (hb hby own_d2_25) hr, hrun, hended, _, _, rfl, ?_, ⟨_, rfl⟩, hW, hsame.mono (by decide) (by decide)⟩
        exact ⟨by simp [own_kind, *], N0, e3⟩
      ·
        refine OwnFin.adv (B := s₁.setTop (mkF m 26 #[.val (.int i)] [])) (fun _ k => XS.icmpYes X0.here hx rfl (pc0 := 19) (pc' := 26) rfl (hb hby own_d2_19) rfl (feq hc19).2 (by decide) (by decide) k) ?_
        refine OwnFin.adv (B := s₁.setTop (mkF m 27 #[.val (.int i)] [(.int i)])) (fun _ k => XS.iloadN X0.here hx rfl (hb hby own_d2_26) rfl k) ?_
        refine OwnFin.adv (B := s₁.setTop (mkF m 28 #[.val (.int i)] [(.int (3 : Int32)), (.int i)])) (fun _ k => XS.iconst X0.here hx rfl (hb hby own_d2_27) k) ?_
        by_cases hc28 : i = (3 : Int32)
        ·
          refine OwnFin.adv (B := s₁.setTop (mkF m 31 #[.val (.int i)] [])) (fun _ k => XS.icmpNo X0.here hx rfl (hb hby own_d2_28) rfl (teq hc28).2 k) ?_
          obtain ⟨T4, X4, e4, st4⟩ := getS2 X0 hx hZ hown (host := "") (Or.inl (hw _ (List.mem_of_getElem? (i := 11) rfl))) Via.refl e0 S_q3 (g := (mkF m 31 #[.val (.int i)] [])) rfl (hb hby own_d2_31)
          refine OwnFin.adv (B := T4.setTop (mkF m 34 #[.val (.int i)] [(.ref q3)])) (fun _ k => st4 _ k) ?_
          obtain ⟨fs, hr, hrun, hended, hW, hsame⟩ := X4.leave (v := some (.ref q3)) (fun h => by rw [Bd.returns] at h; cases h)
          refine OwnFin.leaf hP' ⟨_, _, own_retR X4 hx Bd.returns rfl rfl rfl (hb hby own_d2_34) hr, hrun, hended, _, _, rfl, ?_, ⟨_, rfl⟩, hW, hsame.mono (by decide) (by decide)⟩
          exact ⟨by simp [own_kind, *], N0, e4⟩
        ·
          refine OwnFin.adv (B := s₁.setTop (mkF m 35 #[.val (.int i)] [])) (fun _ k => XS.icmpYes X0.here hx rfl (pc0 := 28) (pc' := 35) rfl (hb hby own_d2_28) rfl (feq hc28).2 (by decide) (by decide) k) ?_
          obtain ⟨T5, X5, e5, st5⟩ := getS2 X0 hx hZ hown (host := "") (Or.inl (hw _ (List.mem_of_getElem? (i := 20) rfl))) Via.refl e0 S_q4 (g := (mkF m 35 #[.val (.int i)] [])) rfl (hb hby own_d2_35)
          refine OwnFin.adv (B := T5.setTop (mkF m 38 #[.val (.int i)] [(.ref q4)])) (fun _ k => st5 _ k) ?_
          obtain ⟨fs, hr, hrun, hended, hW, hsame⟩ := X5.leave (v := some (.ref q4)) (fun h => by rw [Bd.returns] at h; cases h)
          refine OwnFin.leaf hP' ⟨_, _, own_retR X5 hx Bd.returns rfl rfl rfl (hb hby own_d2_38) hr, hrun, hended, _, _, rfl, ?_, ⟨_, rfl⟩, hW, hsame.mono (by decide) (by decide)⟩
          exact ⟨by simp [own_kind, *], N0, e5⟩
theorem own_d3_0 : decode prog_25_method_4_code 0 = .ok (.aload_n 0, 1) := by decide +kernel
theorem own_d3_1 : decode prog_25_method_4_code 1 = .ok (.getfield 42, 3) := by decide +kernel
theorem own_d3_4 : decode prog_25_method_4_code 4 = .ok (.aload_n 1, 1) := by decide +kernel
theorem own_d3_5 : decode prog_25_method_4_code 5 = .ok (.getfield 42, 3) := by decide +kernel
theorem own_d3_8 : decode prog_25_method_4_code 8 = .ok (.if_icmp .lt 7, 3) := by decide +kernel
theorem own_d3_15 : decode prog_25_method_4_code 15 = .ok (.iconst 0, 1) := by decide +kernel
theorem own_d3_16 : decode prog_25_method_4_code 16 = .ok (.ireturn, 1) := by decide +kernel
theorem own_d3_11 : decode prog_25_method_4_code 11 = .ok (.iconst 1, 1) := by decide +kernel
theorem own_d3_12 : decode prog_25_method_4_code 12 = .ok (.goto 4, 3) := by decide +kernel
theorem own_ef_rm3 (m : MethodId) (x0 : Addr) (x1 : Addr) : entryFrame m #[(.ref x0), (.ref x1)] 2 = mkF m 0 #[.val (.ref x0), .val (.ref x1)] [] := by first | (simp [entryFrame, mkF, argsToLocals, Value.category]; done) | rfl
theorem own_pn_tramline_routes_Address_Kind : plainName "tramline/routes/Address$Kind" = true := by first | (simp [plainName, overriddenIn]; done) | decide +kernel
def own_Q_rm3 (Z : State) (oa ob : Addr) (fa fb : Int32) (h0 : Heap) (n0 : Nat) (v : Option Value) (h : Heap) (L : List Loc) : Prop := v = some (.int (if fa < fb then (0 : Int32) else 1)) ∧ Fr n0 L ∧ h = h0
set_option maxRecDepth 65536 in
set_option maxHeartbeats 40000000 in
theorem own_rm3 (l : Launch) (Z : State) (a0 : Array Value) (hw : ∀ d ∈ tables_1, d.before a0 Z = true) (ws : List Jvm.Cond) (oa ob : Addr) (fa fb : Int32) (h0 : Heap) (n0 : Nat) (Z0 : n0 ≤ h0.size) (Fa : Fld Z h0 oa "tramline/routes/Address$Kind" "precedence" "I" (.int fa)) (Fb : Fld Z h0 ob "tramline/routes/Address$Kind" "precedence" "I" (.int fb)) :
    MetFree l (⟨"tramline/routes/Address$Kind", "replaces", "(Ltramline/routes/Address$Kind;)Z"⟩ : MethodName) (head1 (Jvm.Cond.code (⟨"tramline/routes/Address$Kind", "replaces", "(Ltramline/routes/Address$Kind;)Z"⟩ : MethodName) prog_25_method_4_code 2 (some .boolean) :: ws) ({ frames := 0, cells := 0, slots := 0, locals := 0 } : Room)) (fun A0 U0 => A0 = #[(.ref oa), (.ref ob)] ∧ Z.Warmed39 U0.vm ∧ U0.heap = h0) (fun _ _ _ _ _ => True) (fun _ U0 o0 U1 => ∃ v0 L0, o0 = .returned v0 ∧ own_Q_rm3 Z oa ob fa fb h0 n0 v0 U1.heap L0 ∧ FrameEnd U0 o0 U1 L0 ({ frames := 0, cells := 0, slots := 0, locals := 0 } : Room).cells ({ frames := 0, cells := 0, slots := 0, locals := 0 } : Room).slots) := by
  refine MetFree.of_bodySF (plainFor_of_name own_pn_tramline_routes_Address_Kind) hisR ?_
  intro p e s m args below meth c s₁ Bd hml0 hP hK
  obtain ⟨rfl, hZ, hh⟩ := hP
  have hx := Bd.exec
  have hby := Bd.bytes
  have hml : c.maxLocals = 2 := hml0
  have hown : s.vm.findClass "tramline/routes/Address$Kind" = some m.cls := findClass_of_methodNamed Bd.named
  have hnm := (name_of_methodNamed Bd.named Bd.method).1
  have X0 : Stand p l e ({ frames := 0, cells := 0, slots := 0, locals := 0 } : Room) s m #[(.ref oa), (.ref ob)] below meth c s₁ [] 0 0 := Stand.of_body Bd
  have e0 : s₁.heap = h0 := by rw [← hh, Bd.state]; rfl
  have N0 := Fr.nil n0
  refine OwnFin.entry (own_ef_rm3 m oa ob) (fun P' hP' => ?_)
  refine OwnFin.adv (B := s₁.setTop (mkF m 1 #[.val (.ref oa), .val (.ref ob)] [(.ref oa)])) (fun _ k => XS.aloadN X0.here hx rfl (hb hby own_d3_0) rfl rfl k) ?_
  obtain ⟨T1, X1, e1, st1⟩ := getF X0 hx hZ hown (host := "") (Or.inl (hw _ (List.mem_of_getElem? (i := 18) rfl))) Via.refl e0 Fa (g := (mkF m 1 #[.val (.ref oa), .val (.ref ob)] [(.ref oa)])) rfl rfl (hb hby own_d3_1)
  refine OwnFin.adv (B := T1.setTop (mkF m 4 #[.val (.ref oa), .val (.ref ob)] [(.int fa)])) (fun _ k => st1 _ k) ?_
  refine OwnFin.adv (B := T1.setTop (mkF m 5 #[.val (.ref oa), .val (.ref ob)] [(.ref ob), (.int fa)])) (fun _ k => XS.aloadN X1.here hx rfl (hb hby own_d3_4) rfl rfl k) ?_
  obtain ⟨T2, X2, e2, st2⟩ := getF X1 hx hZ hown (host := "") (Or.inl (hw _ (List.mem_of_getElem? (i := 18) rfl))) Via.refl e1 Fb (g := (mkF m 5 #[.val (.ref oa), .val (.ref ob)] [(.ref ob), (.int fa)])) rfl rfl (hb hby own_d3_5)
  refine OwnFin.adv (B := T2.setTop (mkF m 8 #[.val (.ref oa), .val (.ref ob)] [(.int fb), (.int fa)])) (fun _ k => st2 _ k) ?_
  by_cases hc8 : fa < fb
  ·
    refine OwnFin.adv (B := T2.setTop (mkF m 15 #[.val (.ref oa), .val (.ref ob)] [])) (fun _ k => XS.icmpYes X2.here hx rfl (pc0 := 8) (pc' := 15) rfl (hb hby own_d3_8) rfl (tlt hc8).1 (by decide) (by decide) k) ?_
    refine OwnFin.adv (B := T2.setTop (mkF m 16 #[.val (.ref oa), .val (.ref ob)] [(.int (0 : Int32))])) (fun _ k => XS.iconst X2.here hx rfl (hb hby own_d3_15) k) ?_
    obtain ⟨fs, hr, hrun, hended, hW, hsame⟩ := X2.leave (v := some (.int (0 : Int32))) (fun h => by rw [Bd.returns] at h; cases h)
    refine OwnFin.leaf hP' ⟨_, _, retN X2 hx (t := .boolean) Bd.returns (by simp) (hb hby own_d3_16) hr, hrun, hended, _, _, rfl, ?_, ⟨_, rfl⟩, hW, hsame.mono (by decide) (by decide)⟩
    exact ⟨by simp [hc8], N0, e2⟩
  ·
    refine OwnFin.adv (B := T2.setTop (mkF m 11 #[.val (.ref oa), .val (.ref ob)] [])) (fun _ k => XS.icmpNo X2.here hx rfl (hb hby own_d3_8) rfl (flt hc8).1 k) ?_
    refine OwnFin.adv (B := T2.setTop (mkF m 12 #[.val (.ref oa), .val (.ref ob)] [(.int (1 : Int32))])) (fun _ k => XS.iconst X2.here hx rfl (hb hby own_d3_11) k) ?_
    refine OwnFin.adv (B := T2.setTop (mkF m 16 #[.val (.ref oa), .val (.ref ob)] [(.int (1 : Int32))])) (fun _ k => XS.goto X2.here hx rfl (pc0 := 12) (pc' := 16) rfl (hb hby own_d3_12) (by decide) (by decide) k) ?_
    obtain ⟨fs, hr, hrun, hended, hW, hsame⟩ := X2.leave (v := some (.int (1 : Int32))) (fun h => by rw [Bd.returns] at h; cases h)
    refine OwnFin.leaf hP' ⟨_, _, retN X2 hx (t := .boolean) Bd.returns (by simp) (hb hby own_d3_16) hr, hrun, hended, _, _, rfl, ?_, ⟨_, rfl⟩, hW, hsame.mono (by decide) (by decide)⟩
    exact ⟨by simp [hc8], N0, e2⟩
theorem own_pd_x28Ix29I : parseMethodDescriptor "(I)I" = some ⟨[.int], some .int⟩ := by decide +kernel
theorem own_pd_x28Ix29Ltramlinex2froutesx2fAddressx24Kindx3b : parseMethodDescriptor "(I)Ltramline/routes/Address$Kind;" = some ⟨[.int], some (.object "tramline/routes/Address$Kind")⟩ := by decide +kernel
theorem own_pd_x28Ltramlinex2froutesx2fAddressx24Kindx3bx29Z : parseMethodDescriptor "(Ltramline/routes/Address$Kind;)Z" = some ⟨[(.object "tramline/routes/Address$Kind")], some .boolean⟩ := by decide +kernel
theorem own_ef_rm0 (m : MethodId) (x0 : Int32) (x1 : Int32) : entryFrame m #[(.int x0), (.int x1)] maxLocals = mkF m 0 #[.val (.int x0), .val (.int x1), .unset, .unset, .unset] [] := by first | (simp [entryFrame, mkF, argsToLocals, Value.category, maxLocals]; done) | rfl
def own_Q_rm0 (Z : State) (aa bb : Int32) (q0 q1 q2 q3 q4 : Addr) (h0 : Heap) (n0 : Nat) (v : Option Value) (h : Heap) (L : List Loc) : Prop := v = some (.int (1 : Int32)) ∧ Fr n0 L
set_option maxRecDepth 65536 in
set_option maxHeartbeats 40000000 in
theorem own_rm0 (l : Launch) (Z : State) (a0 : Array Value) (hw : ∀ d ∈ tables_1, d.before a0 Z = true) (ws : List Jvm.Cond) (aa bb : Int32) (q0 q1 q2 q3 q4 : Addr) (h0 : Heap) (n0 : Nat) (Z0 : n0 ≤ h0.size) (S_q0 : Sta Z h0 "tramline/routes/Address$Kind" "IN_PROCESS" "Ltramline/routes/Address$Kind;" (.ref q0)) (S_q1 : Sta Z h0 "tramline/routes/Address$Kind" "WEBSOCKET_CLIENT" "Ltramline/routes/Address$Kind;" (.ref q1)) (S_q2 : Sta Z h0 "tramline/routes/Address$Kind" "MQTT" "Ltramline/routes/Address$Kind;" (.ref q2)) (S_q3 : Sta Z h0 "tramline/routes/Address$Kind" "CHANNEL" "Ltramline/routes/Address$Kind;" (.ref q3)) (S_q4 : Sta Z h0 "tramline/routes/Address$Kind" "WEBSOCKET" "Ltramline/routes/Address$Kind;" (.ref q4)) (E_q0 : Exa Z h0 q0 "tramline/routes/Address$Kind") (E_q1 : Exa Z h0 q1 "tramline/routes/Address$Kind") (E_q2 : Exa Z h0 q2 "tramline/routes/Address$Kind") (E_q3 : Exa Z h0 q3 "tramline/routes/Address$Kind") (E_q4 : Exa Z h0 q4 "tramline/routes/Address$Kind") (F_q0 : Fld Z h0 q0 "tramline/routes/Address$Kind" "precedence" "I" (.int (4 : Int32))) (F_q1 : Fld Z h0 q1 "tramline/routes/Address$Kind" "precedence" "I" (.int (3 : Int32))) (F_q2 : Fld Z h0 q2 "tramline/routes/Address$Kind" "precedence" "I" (.int (2 : Int32))) (F_q3 : Fld Z h0 q3 "tramline/routes/Address$Kind" "precedence" "I" (.int (2 : Int32))) (F_q4 : Fld Z h0 q4 "tramline/routes/Address$Kind" "precedence" "I" (.int (1 : Int32))) :
    MetFree l x (head1 (Jvm.Cond.code x code maxLocals ret :: ws) room_1) (fun A0 U0 => A0 = #[(.int aa), (.int bb)] ∧ Z.Warmed39 U0.vm ∧ U0.heap = h0) (fun _ _ _ _ _ => True) (fun _ U0 o0 U1 => ∃ v0 L0, o0 = .returned v0 ∧ own_Q_rm0 Z aa bb q0 q1 q2 q3 q4 h0 n0 v0 U1.heap L0 ∧ FrameEnd U0 o0 U1 L0 room_1.cells room_1.slots) := by
  refine MetFree.of_bodySF (plainFor_of_name own_pn_tramline_routes_KindReplacesPinLaw) hisR ?_
  intro p e s m args below meth c s₁ Bd hml0 hP hK
  obtain ⟨rfl, hZ, hh⟩ := hP
  have hx := Bd.exec
  have hby := Bd.bytes
  have hml : c.maxLocals = 5 := hml0
  have hown : s.vm.findClass "tramline/routes/KindReplacesPinLaw" = some m.cls := findClass_of_methodNamed Bd.named
  have hnm := (name_of_methodNamed Bd.named Bd.method).1
  have X0 : Stand p l e room_1 s m #[(.int aa), (.int bb)] below meth c s₁ [] 0 0 := Stand.of_body Bd
  have e0 : s₁.heap = h0 := by rw [← hh, Bd.state]; rfl
  have N0 := Fr.nil n0
  refine OwnFin.entry (own_ef_rm0 m aa bb) (fun P' hP' => ?_)
  refine OwnFin.adv (B := s₁.setTop (mkF m 1 #[.val (.int aa), .val (.int bb), .unset, .unset, .unset] [(.int aa)])) (fun _ k => XS.iloadN X0.here hx rfl (hb hby at_0) rfl k) ?_
  refine OwnFin.adv (B := s₁.setTop (mkF m 3 #[.val (.int aa), .val (.int bb), .unset, .unset, .unset] [(.int (2147483647 : Int32)), (.int aa)])) (fun _ k => X0.ldcInt hx hown (mvT hZ (hw _ (List.mem_of_getElem? (i := 0) rfl))) (g := (mkF m 1 #[.val (.int aa), .val (.int bb), .unset, .unset, .unset] [(.int aa)])) rfl (hb hby at_1) _ k) ?_
  refine OwnFin.adv (B := s₁.setTop (mkF m 4 #[.val (.int aa), .val (.int bb), .unset, .unset, .unset] [(.int (aa &&& (2147483647 : Int32)))])) (fun _ k => XS.iand X0.here hx rfl (hb hby at_3) rfl k) ?_
  refine OwnFin.adv (B := s₁.setTop (mkF m 5 #[.val (.int aa), .val (.int bb), .unset, .unset, .unset] [(.int (5 : Int32)), (.int (aa &&& (2147483647 : Int32)))])) (fun _ k => XS.iconst X0.here hx rfl (hb hby at_4) k) ?_
  refine OwnFin.adv (B := s₁.setTop (mkF m 6 #[.val (.int aa), .val (.int bb), .unset, .unset, .unset] [(.int ((aa &&& (2147483647 : Int32)) % (5 : Int32)))])) (fun _ k => iremM (g := (mkF m 5 #[.val (.int aa), .val (.int bb), .unset, .unset, .unset] [(.int (5 : Int32)), (.int (aa &&& (2147483647 : Int32)))])) X0 hx rfl (hb hby at_5) rfl (by decide) k) ?_
  refine OwnFin.adv (B := s₁.setTop (mkF m 7 #[.val (.int aa), .val (.int bb), .val (.int ((aa &&& (2147483647 : Int32)) % (5 : Int32))), .unset, .unset] [])) (fun _ k => XS.istoreN X0.here hx rfl (hb hby at_6) rfl (l' := #[.val (.int aa), .val (.int bb), .val (.int ((aa &&& (2147483647 : Int32)) % (5 : Int32))), .unset, .unset]) rfl k) ?_
  refine OwnFin.adv (B := s₁.setTop (mkF m 8 #[.val (.int aa), .val (.int bb), .val (.int ((aa &&& (2147483647 : Int32)) % (5 : Int32))), .unset, .unset] [(.int bb)])) (fun _ k => XS.iloadN X0.here hx rfl (hb hby at_7) rfl k) ?_
  refine OwnFin.adv (B := s₁.setTop (mkF m 10 #[.val (.int aa), .val (.int bb), .val (.int ((aa &&& (2147483647 : Int32)) % (5 : Int32))), .unset, .unset] [(.int (2147483647 : Int32)), (.int bb)])) (fun _ k => X0.ldcInt hx hown (mvT hZ (hw _ (List.mem_of_getElem? (i := 0) rfl))) (g := (mkF m 8 #[.val (.int aa), .val (.int bb), .val (.int ((aa &&& (2147483647 : Int32)) % (5 : Int32))), .unset, .unset] [(.int bb)])) rfl (hb hby at_8) _ k) ?_
  refine OwnFin.adv (B := s₁.setTop (mkF m 11 #[.val (.int aa), .val (.int bb), .val (.int ((aa &&& (2147483647 : Int32)) % (5 : Int32))), .unset, .unset] [(.int (bb &&& (2147483647 : Int32)))])) (fun _ k => XS.iand X0.here hx rfl (hb hby at_10) rfl k) ?_
  refine OwnFin.adv (B := s₁.setTop (mkF m 12 #[.val (.int aa), .val (.int bb), .val (.int ((aa &&& (2147483647 : Int32)) % (5 : Int32))), .unset, .unset] [(.int (5 : Int32)), (.int (bb &&& (2147483647 : Int32)))])) (fun _ k => XS.iconst X0.here hx rfl (hb hby at_11) k) ?_
  refine OwnFin.adv (B := s₁.setTop (mkF m 13 #[.val (.int aa), .val (.int bb), .val (.int ((aa &&& (2147483647 : Int32)) % (5 : Int32))), .unset, .unset] [(.int ((bb &&& (2147483647 : Int32)) % (5 : Int32)))])) (fun _ k => iremM (g := (mkF m 12 #[.val (.int aa), .val (.int bb), .val (.int ((aa &&& (2147483647 : Int32)) % (5 : Int32))), .unset, .unset] [(.int (5 : Int32)), (.int (bb &&& (2147483647 : Int32)))])) X0 hx rfl (hb hby at_12) rfl (by decide) k) ?_
  refine OwnFin.adv (B := s₁.setTop (mkF m 14 #[.val (.int aa), .val (.int bb), .val (.int ((aa &&& (2147483647 : Int32)) % (5 : Int32))), .val (.int ((bb &&& (2147483647 : Int32)) % (5 : Int32))), .unset] [])) (fun _ k => XS.istoreN X0.here hx rfl (hb hby at_13) rfl (l' := #[.val (.int aa), .val (.int bb), .val (.int ((aa &&& (2147483647 : Int32)) % (5 : Int32))), .val (.int ((bb &&& (2147483647 : Int32)) % (5 : Int32))), .unset]) rfl k) ?_
  refine OwnFin.adv (B := s₁.setTop (mkF m 15 #[.val (.int aa), .val (.int bb), .val (.int ((aa &&& (2147483647 : Int32)) % (5 : Int32))), .val (.int ((bb &&& (2147483647 : Int32)) % (5 : Int32))), .unset] [(.int ((aa &&& (2147483647 : Int32)) % (5 : Int32)))])) (fun _ k => XS.iloadN X0.here hx rfl (hb hby at_14) rfl k) ?_
  obtain ⟨_, _, ⟨T1, L1, k1, n1⟩, -, X1, ⟨Lc1, hQ1, l1, y1, z1⟩, st1⟩ := Jvm.LawKit.callS X0 hx (y := (⟨"tramline/routes/KindReplacesPinLaw", "tier", "(I)I"⟩ : MethodName)) hown (mvT hZ (hw _ (List.mem_of_getElem? (i := 1) rfl))) (mvT hZ (hw _ (List.mem_of_getElem? (i := 2) rfl))) (mvT hZ (hw _ (List.mem_of_getElem? (i := 3) rfl))) (mvT hZ (hw _ (List.mem_of_getElem? (i := 4) rfl))) (by decide) (backOf (W := 0) (own_rm1 l Z a0 hw [] ((aa &&& (2147483647 : Int32)) % (5 : Int32)) h0 n0 Z0) hZ (hw _ (List.mem_of_getElem? (i := 4) rfl)) (hw _ (List.mem_of_getElem? (i := 3) rfl)) (by decide) (by decide)) (g := (mkF m 15 #[.val (.int aa), .val (.int bb), .val (.int ((aa &&& (2147483647 : Int32)) % (5 : Int32))), .val (.int ((bb &&& (2147483647 : Int32)) % (5 : Int32))), .unset] [(.int ((aa &&& (2147483647 : Int32)) % (5 : Int32)))])) rfl (by rw [hml]; rfl) (argsL := [(.int ((aa &&& (2147483647 : Int32)) % (5 : Int32)))]) (rest := []) (lenOf own_pd_x28Ix29I rfl) rfl (by show 2 * 0 + _ ≤ _; exact Nat.le_of_eq rfl) (hb hby at_15) (fun _ _ => ⟨rfl, e0, (by decide : 0 + 0 ≤ _), (by decide : 0 + 0 ≤ _)⟩)
  dsimp only [Pt.U, Pt.locs, Pt.cells, Pt.slots] at X1 l1 y1 z1 st1 hQ1
  subst l1 y1 z1
  obtain ⟨rfl, N1q, eh1⟩ := hQ1
  have N1 := Fr.app N0 N1q
  refine OwnFin.adv (B := T1.setTop (mkF m 18 #[.val (.int aa), .val (.int bb), .val (.int ((aa &&& (2147483647 : Int32)) % (5 : Int32))), .val (.int ((bb &&& (2147483647 : Int32)) % (5 : Int32))), .unset] [(.int (own_tier ((aa &&& (2147483647 : Int32)) % (5 : Int32))))])) (fun _ k => st1 _ k) ?_
  refine OwnFin.adv (B := T1.setTop (mkF m 19 #[.val (.int aa), .val (.int bb), .val (.int ((aa &&& (2147483647 : Int32)) % (5 : Int32))), .val (.int ((bb &&& (2147483647 : Int32)) % (5 : Int32))), .unset] [(.int ((bb &&& (2147483647 : Int32)) % (5 : Int32))), (.int (own_tier ((aa &&& (2147483647 : Int32)) % (5 : Int32))))])) (fun _ k => XS.iloadN X1.here hx rfl (hb hby at_18) rfl k) ?_
  obtain ⟨_, _, ⟨T2, L2, k2, n2⟩, -, X2, ⟨Lc2, hQ2, l2, y2, z2⟩, st2⟩ := Jvm.LawKit.callS X1 hx (y := (⟨"tramline/routes/KindReplacesPinLaw", "tier", "(I)I"⟩ : MethodName)) hown (mvT hZ (hw _ (List.mem_of_getElem? (i := 1) rfl))) (mvT hZ (hw _ (List.mem_of_getElem? (i := 2) rfl))) (mvT hZ (hw _ (List.mem_of_getElem? (i := 3) rfl))) (mvT hZ (hw _ (List.mem_of_getElem? (i := 4) rfl))) (by decide) (backOf (W := 1) (own_rm1 l Z a0 hw [] ((bb &&& (2147483647 : Int32)) % (5 : Int32)) h0 n0 Z0) hZ (hw _ (List.mem_of_getElem? (i := 4) rfl)) (hw _ (List.mem_of_getElem? (i := 3) rfl)) (by decide) (by decide)) (g := (mkF m 19 #[.val (.int aa), .val (.int bb), .val (.int ((aa &&& (2147483647 : Int32)) % (5 : Int32))), .val (.int ((bb &&& (2147483647 : Int32)) % (5 : Int32))), .unset] [(.int ((bb &&& (2147483647 : Int32)) % (5 : Int32))), (.int (own_tier ((aa &&& (2147483647 : Int32)) % (5 : Int32))))])) rfl (by rw [hml]; rfl) (argsL := [(.int ((bb &&& (2147483647 : Int32)) % (5 : Int32)))]) (rest := [(.int (own_tier ((aa &&& (2147483647 : Int32)) % (5 : Int32))))]) (lenOf own_pd_x28Ix29I rfl) rfl (by show 2 * 0 + _ ≤ _; exact Nat.le_of_eq rfl) (hb hby at_19) (fun _ _ => ⟨rfl, eh1, (by decide : 0 + 0 ≤ _), (by decide : 0 + 0 ≤ _)⟩)
  dsimp only [Pt.U, Pt.locs, Pt.cells, Pt.slots] at X2 l2 y2 z2 st2 hQ2
  subst l2 y2 z2
  obtain ⟨rfl, N2q, eh2⟩ := hQ2
  have N2 := Fr.app N1 N2q
  refine OwnFin.adv (B := T2.setTop (mkF m 22 #[.val (.int aa), .val (.int bb), .val (.int ((aa &&& (2147483647 : Int32)) % (5 : Int32))), .val (.int ((bb &&& (2147483647 : Int32)) % (5 : Int32))), .unset] [(.int (own_tier ((bb &&& (2147483647 : Int32)) % (5 : Int32)))), (.int (own_tier ((aa &&& (2147483647 : Int32)) % (5 : Int32))))])) (fun _ k => st2 _ k) ?_
  by_cases hc22 : (own_tier ((bb &&& (2147483647 : Int32)) % (5 : Int32))) < (own_tier ((aa &&& (2147483647 : Int32)) % (5 : Int32)))
  ·
    refine OwnFin.adv (B := T2.setTop (mkF m 29 #[.val (.int aa), .val (.int bb), .val (.int ((aa &&& (2147483647 : Int32)) % (5 : Int32))), .val (.int ((bb &&& (2147483647 : Int32)) % (5 : Int32))), .unset] [])) (fun _ k => XS.icmpYes X2.here hx rfl (pc0 := 22) (pc' := 29) rfl (hb hby at_22) rfl (tlt hc22).2.2.1 (by decide) (by decide) k) ?_
    refine OwnFin.adv (B := T2.setTop (mkF m 30 #[.val (.int aa), .val (.int bb), .val (.int ((aa &&& (2147483647 : Int32)) % (5 : Int32))), .val (.int ((bb &&& (2147483647 : Int32)) % (5 : Int32))), .unset] [(.int (0 : Int32))])) (fun _ k => XS.iconst X2.here hx rfl (hb hby at_29) k) ?_
    refine OwnFin.adv (B := T2.setTop (mkF m 32 #[.val (.int aa), .val (.int bb), .val (.int ((aa &&& (2147483647 : Int32)) % (5 : Int32))), .val (.int ((bb &&& (2147483647 : Int32)) % (5 : Int32))), .val (.int (0 : Int32))] [])) (fun _ k => XS.istore X2.here hx rfl (hb hby at_30) rfl (l' := #[.val (.int aa), .val (.int bb), .val (.int ((aa &&& (2147483647 : Int32)) % (5 : Int32))), .val (.int ((bb &&& (2147483647 : Int32)) % (5 : Int32))), .val (.int (0 : Int32))]) rfl k) ?_
    refine OwnFin.adv (B := T2.setTop (mkF m 33 #[.val (.int aa), .val (.int bb), .val (.int ((aa &&& (2147483647 : Int32)) % (5 : Int32))), .val (.int ((bb &&& (2147483647 : Int32)) % (5 : Int32))), .val (.int (0 : Int32))] [(.int ((aa &&& (2147483647 : Int32)) % (5 : Int32)))])) (fun _ k => XS.iloadN X2.here hx rfl (hb hby at_32) rfl k) ?_
    obtain ⟨_, _, ⟨T3, L3, k3, n3⟩, -, X3, ⟨Lc3, hQ3, l3, y3, z3⟩, st3⟩ := Jvm.LawKit.callS X2 hx (y := (⟨"tramline/routes/KindReplacesPinLaw", "kind", "(I)Ltramline/routes/Address$Kind;"⟩ : MethodName)) hown (mvT hZ (hw _ (List.mem_of_getElem? (i := 5) rfl))) (mvT hZ (hw _ (List.mem_of_getElem? (i := 6) rfl))) (mvT hZ (hw _ (List.mem_of_getElem? (i := 3) rfl))) (mvT hZ (hw _ (List.mem_of_getElem? (i := 7) rfl))) (by decide) (backOf (W := 0) (own_rm2 l Z a0 hw [] ((aa &&& (2147483647 : Int32)) % (5 : Int32)) q0 q1 q2 q3 q4 h0 n0 Z0 S_q0 S_q1 S_q2 S_q3 S_q4) hZ (hw _ (List.mem_of_getElem? (i := 7) rfl)) (hw _ (List.mem_of_getElem? (i := 3) rfl)) (by decide) (by decide)) (g := (mkF m 33 #[.val (.int aa), .val (.int bb), .val (.int ((aa &&& (2147483647 : Int32)) % (5 : Int32))), .val (.int ((bb &&& (2147483647 : Int32)) % (5 : Int32))), .val (.int (0 : Int32))] [(.int ((aa &&& (2147483647 : Int32)) % (5 : Int32)))])) rfl (by rw [hml]; rfl) (argsL := [(.int ((aa &&& (2147483647 : Int32)) % (5 : Int32)))]) (rest := []) (lenOf own_pd_x28Ix29Ltramlinex2froutesx2fAddressx24Kindx3b rfl) rfl (by show 2 * 0 + _ ≤ _; exact Nat.le_of_eq rfl) (hb hby at_33) (fun _ _ => ⟨rfl, eh2, (by decide : 0 + 0 ≤ _), (by decide : 0 + 0 ≤ _)⟩)
    dsimp only [Pt.U, Pt.locs, Pt.cells, Pt.slots] at X3 l3 y3 z3 st3 hQ3
    subst l3 y3 z3
    obtain ⟨rfl, N3q, eh3⟩ := hQ3
    have N3 := Fr.app N2 N3q
    refine OwnFin.adv (B := T3.setTop (mkF m 36 #[.val (.int aa), .val (.int bb), .val (.int ((aa &&& (2147483647 : Int32)) % (5 : Int32))), .val (.int ((bb &&& (2147483647 : Int32)) % (5 : Int32))), .val (.int (0 : Int32))] [(.ref (own_kind ((aa &&& (2147483647 : Int32)) % (5 : Int32)) q0 q1 q2 q3 q4))])) (fun _ k => st3 _ k) ?_
    refine OwnFin.adv (B := T3.setTop (mkF m 37 #[.val (.int aa), .val (.int bb), .val (.int ((aa &&& (2147483647 : Int32)) % (5 : Int32))), .val (.int ((bb &&& (2147483647 : Int32)) % (5 : Int32))), .val (.int (0 : Int32))] [(.int ((bb &&& (2147483647 : Int32)) % (5 : Int32))), (.ref (own_kind ((aa &&& (2147483647 : Int32)) % (5 : Int32)) q0 q1 q2 q3 q4))])) (fun _ k => XS.iloadN X3.here hx rfl (hb hby at_36) rfl k) ?_
    obtain ⟨_, _, ⟨T4, L4, k4, n4⟩, -, X4, ⟨Lc4, hQ4, l4, y4, z4⟩, st4⟩ := Jvm.LawKit.callS X3 hx (y := (⟨"tramline/routes/KindReplacesPinLaw", "kind", "(I)Ltramline/routes/Address$Kind;"⟩ : MethodName)) hown (mvT hZ (hw _ (List.mem_of_getElem? (i := 5) rfl))) (mvT hZ (hw _ (List.mem_of_getElem? (i := 6) rfl))) (mvT hZ (hw _ (List.mem_of_getElem? (i := 3) rfl))) (mvT hZ (hw _ (List.mem_of_getElem? (i := 7) rfl))) (by decide) (backOf (W := 1) (own_rm2 l Z a0 hw [] ((bb &&& (2147483647 : Int32)) % (5 : Int32)) q0 q1 q2 q3 q4 h0 n0 Z0 S_q0 S_q1 S_q2 S_q3 S_q4) hZ (hw _ (List.mem_of_getElem? (i := 7) rfl)) (hw _ (List.mem_of_getElem? (i := 3) rfl)) (by decide) (by decide)) (g := (mkF m 37 #[.val (.int aa), .val (.int bb), .val (.int ((aa &&& (2147483647 : Int32)) % (5 : Int32))), .val (.int ((bb &&& (2147483647 : Int32)) % (5 : Int32))), .val (.int (0 : Int32))] [(.int ((bb &&& (2147483647 : Int32)) % (5 : Int32))), (.ref (own_kind ((aa &&& (2147483647 : Int32)) % (5 : Int32)) q0 q1 q2 q3 q4))])) rfl (by rw [hml]; rfl) (argsL := [(.int ((bb &&& (2147483647 : Int32)) % (5 : Int32)))]) (rest := [(.ref (own_kind ((aa &&& (2147483647 : Int32)) % (5 : Int32)) q0 q1 q2 q3 q4))]) (lenOf own_pd_x28Ix29Ltramlinex2froutesx2fAddressx24Kindx3b rfl) rfl (by show 2 * 0 + _ ≤ _; exact Nat.le_of_eq rfl) (hb hby at_37) (fun _ _ => ⟨rfl, eh3, (by decide : 0 + 0 ≤ _), (by decide : 0 + 0 ≤ _)⟩)
    dsimp only [Pt.U, Pt.locs, Pt.cells, Pt.slots] at X4 l4 y4 z4 st4 hQ4
    subst l4 y4 z4
    obtain ⟨rfl, N4q, eh4⟩ := hQ4
    have N4 := Fr.app N3 N4q
    refine OwnFin.adv (B := T4.setTop (mkF m 40 #[.val (.int aa), .val (.int bb), .val (.int ((aa &&& (2147483647 : Int32)) % (5 : Int32))), .val (.int ((bb &&& (2147483647 : Int32)) % (5 : Int32))), .val (.int (0 : Int32))] [(.ref (own_kind ((bb &&& (2147483647 : Int32)) % (5 : Int32)) q0 q1 q2 q3 q4)), (.ref (own_kind ((aa &&& (2147483647 : Int32)) % (5 : Int32)) q0 q1 q2 q3 q4))])) (fun _ k => st4 _ k) ?_
    obtain ⟨cq5, kq5, q5a, q5b, q5c⟩ := isOf hZ eh4 (own_kexa E_q0 E_q1 E_q2 E_q3 E_q4 ((aa &&& (2147483647 : Int32)) % (5 : Int32)))
    obtain ⟨_, _, ⟨T5, L5, k5, n5⟩, -, X5, ⟨Lc5, hQ5, l5, y5, z5⟩, st5⟩ := X4.virtualBack hx (y := (⟨"tramline/routes/Address$Kind", "replaces", "(Ltramline/routes/Address$Kind;)Z"⟩ : MethodName)) (z := (⟨"tramline/routes/Address$Kind", "replaces", "(Ltramline/routes/Address$Kind;)Z"⟩ : MethodName)) hown (mvT hZ (hw _ (List.mem_of_getElem? (i := 13) rfl))) (mvT hZ (hw _ (List.mem_of_getElem? (i := 14) rfl))) (notFace_of_selects (args := #[]) (mvT hZ (hw _ (List.mem_of_getElem? (i := 16) rfl)))) (mvT hZ (hw _ (List.mem_of_getElem? (i := 16) rfl))) (mvT hZ (hw _ (List.mem_of_getElem? (i := 15) rfl))) (by decide) (backOf (W := 0) (own_rm3 l Z a0 hw [] (own_kind ((aa &&& (2147483647 : Int32)) % (5 : Int32)) q0 q1 q2 q3 q4) (own_kind ((bb &&& (2147483647 : Int32)) % (5 : Int32)) q0 q1 q2 q3 q4) (own_prec ((aa &&& (2147483647 : Int32)) % (5 : Int32))) (own_prec ((bb &&& (2147483647 : Int32)) % (5 : Int32))) h0 n0 Z0 (own_kfld F_q0 F_q1 F_q2 F_q3 F_q4 ((aa &&& (2147483647 : Int32)) % (5 : Int32))) (own_kfld F_q0 F_q1 F_q2 F_q3 F_q4 ((bb &&& (2147483647 : Int32)) % (5 : Int32)))) hZ (hw _ (List.mem_of_getElem? (i := 17) rfl)) (hw _ (List.mem_of_getElem? (i := 9) rfl)) (by decide) (by decide)) q5a q5c (g := (mkF m 40 #[.val (.int aa), .val (.int bb), .val (.int ((aa &&& (2147483647 : Int32)) % (5 : Int32))), .val (.int ((bb &&& (2147483647 : Int32)) % (5 : Int32))), .val (.int (0 : Int32))] [(.ref (own_kind ((bb &&& (2147483647 : Int32)) % (5 : Int32)) q0 q1 q2 q3 q4)), (.ref (own_kind ((aa &&& (2147483647 : Int32)) % (5 : Int32)) q0 q1 q2 q3 q4))])) rfl (by rw [hml]; rfl) (Steps.refl _) (argsL := [(.ref (own_kind ((bb &&& (2147483647 : Int32)) % (5 : Int32)) q0 q1 q2 q3 q4))]) (rest := []) (lenOf own_pd_x28Ltramlinex2froutesx2fAddressx24Kindx3bx29Z rfl) rfl (by show 2 * 0 + _ ≤ _; exact Nat.le_of_eq rfl) (hb hby at_40) (fun _ _ => ⟨rfl, eh4, (by decide : 0 + 0 ≤ _), (by decide : 0 + 0 ≤ _)⟩)
    dsimp only [Pt.U, Pt.locs, Pt.cells, Pt.slots] at X5 l5 y5 z5 st5 hQ5
    subst l5 y5 z5
    obtain ⟨rfl, N5q, eh5⟩ := hQ5
    have N5 := Fr.app N4 N5q
    refine OwnFin.adv (B := T5.setTop (mkF m 43 #[.val (.int aa), .val (.int bb), .val (.int ((aa &&& (2147483647 : Int32)) % (5 : Int32))), .val (.int ((bb &&& (2147483647 : Int32)) % (5 : Int32))), .val (.int (0 : Int32))] [(.int (if own_prec ((aa &&& (2147483647 : Int32)) % (5 : Int32)) < own_prec ((bb &&& (2147483647 : Int32)) % (5 : Int32)) then (0 : Int32) else 1))])) (fun _ k => st5.trans k) ?_
    refine OwnFin.adv (B := T5.setTop (mkF m 45 #[.val (.int aa), .val (.int bb), .val (.int ((aa &&& (2147483647 : Int32)) % (5 : Int32))), .val (.int ((bb &&& (2147483647 : Int32)) % (5 : Int32))), .val (.int (0 : Int32))] [(.int (0 : Int32)), (.int (if own_prec ((aa &&& (2147483647 : Int32)) % (5 : Int32)) < own_prec ((bb &&& (2147483647 : Int32)) % (5 : Int32)) then (0 : Int32) else 1))])) (fun _ k => XS.iload X5.here hx rfl (hb hby at_43) rfl k) ?_
    have hc45_26 : (if own_prec ((aa &&& (2147483647 : Int32)) % (5 : Int32)) < own_prec ((bb &&& (2147483647 : Int32)) % (5 : Int32)) then (0 : Int32) else 1) = (0 : Int32) := by simp only [own_same, hc22, if_true, if_false]
    refine OwnFin.adv (B := T5.setTop (mkF m 48 #[.val (.int aa), .val (.int bb), .val (.int ((aa &&& (2147483647 : Int32)) % (5 : Int32))), .val (.int ((bb &&& (2147483647 : Int32)) % (5 : Int32))), .val (.int (0 : Int32))] [])) (fun _ k => XS.icmpNo X5.here hx rfl (hb hby at_45) rfl (teq hc45_26).2 k) ?_
    refine OwnFin.adv (B := T5.setTop (mkF m 49 #[.val (.int aa), .val (.int bb), .val (.int ((aa &&& (2147483647 : Int32)) % (5 : Int32))), .val (.int ((bb &&& (2147483647 : Int32)) % (5 : Int32))), .val (.int (0 : Int32))] [(.int (1 : Int32))])) (fun _ k => XS.iconst X5.here hx rfl (hb hby at_48) k) ?_
    refine OwnFin.adv (B := T5.setTop (mkF m 53 #[.val (.int aa), .val (.int bb), .val (.int ((aa &&& (2147483647 : Int32)) % (5 : Int32))), .val (.int ((bb &&& (2147483647 : Int32)) % (5 : Int32))), .val (.int (0 : Int32))] [(.int (1 : Int32))])) (fun _ k => XS.goto X5.here hx rfl (pc0 := 49) (pc' := 53) rfl (hb hby at_49) (by decide) (by decide) k) ?_
    obtain ⟨fs, hr, hrun, hended, hW, hsame⟩ := X5.leave (v := some (.int (1 : Int32))) (fun h => by rw [Bd.returns] at h; cases h)
    refine OwnFin.leaf hP' ⟨_, _, retN X5 hx (t := .boolean) Bd.returns (by simp) (hb hby at_53) hr, hrun, hended, _, _, rfl, ?_, ⟨_, rfl⟩, hW, hsame.mono (by decide) (by decide)⟩
    exact ⟨rfl, N5⟩
  ·
    refine OwnFin.adv (B := T2.setTop (mkF m 25 #[.val (.int aa), .val (.int bb), .val (.int ((aa &&& (2147483647 : Int32)) % (5 : Int32))), .val (.int ((bb &&& (2147483647 : Int32)) % (5 : Int32))), .unset] [])) (fun _ k => XS.icmpNo X2.here hx rfl (hb hby at_22) rfl (flt hc22).2.2.1 k) ?_
    refine OwnFin.adv (B := T2.setTop (mkF m 26 #[.val (.int aa), .val (.int bb), .val (.int ((aa &&& (2147483647 : Int32)) % (5 : Int32))), .val (.int ((bb &&& (2147483647 : Int32)) % (5 : Int32))), .unset] [(.int (1 : Int32))])) (fun _ k => XS.iconst X2.here hx rfl (hb hby at_25) k) ?_
    refine OwnFin.adv (B := T2.setTop (mkF m 30 #[.val (.int aa), .val (.int bb), .val (.int ((aa &&& (2147483647 : Int32)) % (5 : Int32))), .val (.int ((bb &&& (2147483647 : Int32)) % (5 : Int32))), .unset] [(.int (1 : Int32))])) (fun _ k => XS.goto X2.here hx rfl (pc0 := 26) (pc' := 30) rfl (hb hby at_26) (by decide) (by decide) k) ?_
    refine OwnFin.adv (B := T2.setTop (mkF m 32 #[.val (.int aa), .val (.int bb), .val (.int ((aa &&& (2147483647 : Int32)) % (5 : Int32))), .val (.int ((bb &&& (2147483647 : Int32)) % (5 : Int32))), .val (.int (1 : Int32))] [])) (fun _ k => XS.istore X2.here hx rfl (hb hby at_30) rfl (l' := #[.val (.int aa), .val (.int bb), .val (.int ((aa &&& (2147483647 : Int32)) % (5 : Int32))), .val (.int ((bb &&& (2147483647 : Int32)) % (5 : Int32))), .val (.int (1 : Int32))]) rfl k) ?_
    refine OwnFin.adv (B := T2.setTop (mkF m 33 #[.val (.int aa), .val (.int bb), .val (.int ((aa &&& (2147483647 : Int32)) % (5 : Int32))), .val (.int ((bb &&& (2147483647 : Int32)) % (5 : Int32))), .val (.int (1 : Int32))] [(.int ((aa &&& (2147483647 : Int32)) % (5 : Int32)))])) (fun _ k => XS.iloadN X2.here hx rfl (hb hby at_32) rfl k) ?_
    obtain ⟨_, _, ⟨T6, L6, k6, n6⟩, -, X6, ⟨Lc6, hQ6, l6, y6, z6⟩, st6⟩ := Jvm.LawKit.callS X2 hx (y := (⟨"tramline/routes/KindReplacesPinLaw", "kind", "(I)Ltramline/routes/Address$Kind;"⟩ : MethodName)) hown (mvT hZ (hw _ (List.mem_of_getElem? (i := 5) rfl))) (mvT hZ (hw _ (List.mem_of_getElem? (i := 6) rfl))) (mvT hZ (hw _ (List.mem_of_getElem? (i := 3) rfl))) (mvT hZ (hw _ (List.mem_of_getElem? (i := 7) rfl))) (by decide) (backOf (W := 0) (own_rm2 l Z a0 hw [] ((aa &&& (2147483647 : Int32)) % (5 : Int32)) q0 q1 q2 q3 q4 h0 n0 Z0 S_q0 S_q1 S_q2 S_q3 S_q4) hZ (hw _ (List.mem_of_getElem? (i := 7) rfl)) (hw _ (List.mem_of_getElem? (i := 3) rfl)) (by decide) (by decide)) (g := (mkF m 33 #[.val (.int aa), .val (.int bb), .val (.int ((aa &&& (2147483647 : Int32)) % (5 : Int32))), .val (.int ((bb &&& (2147483647 : Int32)) % (5 : Int32))), .val (.int (1 : Int32))] [(.int ((aa &&& (2147483647 : Int32)) % (5 : Int32)))])) rfl (by rw [hml]; rfl) (argsL := [(.int ((aa &&& (2147483647 : Int32)) % (5 : Int32)))]) (rest := []) (lenOf own_pd_x28Ix29Ltramlinex2froutesx2fAddressx24Kindx3b rfl) rfl (by show 2 * 0 + _ ≤ _; exact Nat.le_of_eq rfl) (hb hby at_33) (fun _ _ => ⟨rfl, eh2, (by decide : 0 + 0 ≤ _), (by decide : 0 + 0 ≤ _)⟩)
    dsimp only [Pt.U, Pt.locs, Pt.cells, Pt.slots] at X6 l6 y6 z6 st6 hQ6
    subst l6 y6 z6
    obtain ⟨rfl, N6q, eh6⟩ := hQ6
    have N6 := Fr.app N2 N6q
    refine OwnFin.adv (B := T6.setTop (mkF m 36 #[.val (.int aa), .val (.int bb), .val (.int ((aa &&& (2147483647 : Int32)) % (5 : Int32))), .val (.int ((bb &&& (2147483647 : Int32)) % (5 : Int32))), .val (.int (1 : Int32))] [(.ref (own_kind ((aa &&& (2147483647 : Int32)) % (5 : Int32)) q0 q1 q2 q3 q4))])) (fun _ k => st6 _ k) ?_
    refine OwnFin.adv (B := T6.setTop (mkF m 37 #[.val (.int aa), .val (.int bb), .val (.int ((aa &&& (2147483647 : Int32)) % (5 : Int32))), .val (.int ((bb &&& (2147483647 : Int32)) % (5 : Int32))), .val (.int (1 : Int32))] [(.int ((bb &&& (2147483647 : Int32)) % (5 : Int32))), (.ref (own_kind ((aa &&& (2147483647 : Int32)) % (5 : Int32)) q0 q1 q2 q3 q4))])) (fun _ k => XS.iloadN X6.here hx rfl (hb hby at_36) rfl k) ?_
    obtain ⟨_, _, ⟨T7, L7, k7, n7⟩, -, X7, ⟨Lc7, hQ7, l7, y7, z7⟩, st7⟩ := Jvm.LawKit.callS X6 hx (y := (⟨"tramline/routes/KindReplacesPinLaw", "kind", "(I)Ltramline/routes/Address$Kind;"⟩ : MethodName)) hown (mvT hZ (hw _ (List.mem_of_getElem? (i := 5) rfl))) (mvT hZ (hw _ (List.mem_of_getElem? (i := 6) rfl))) (mvT hZ (hw _ (List.mem_of_getElem? (i := 3) rfl))) (mvT hZ (hw _ (List.mem_of_getElem? (i := 7) rfl))) (by decide) (backOf (W := 1) (own_rm2 l Z a0 hw [] ((bb &&& (2147483647 : Int32)) % (5 : Int32)) q0 q1 q2 q3 q4 h0 n0 Z0 S_q0 S_q1 S_q2 S_q3 S_q4) hZ (hw _ (List.mem_of_getElem? (i := 7) rfl)) (hw _ (List.mem_of_getElem? (i := 3) rfl)) (by decide) (by decide)) (g := (mkF m 37 #[.val (.int aa), .val (.int bb), .val (.int ((aa &&& (2147483647 : Int32)) % (5 : Int32))), .val (.int ((bb &&& (2147483647 : Int32)) % (5 : Int32))), .val (.int (1 : Int32))] [(.int ((bb &&& (2147483647 : Int32)) % (5 : Int32))), (.ref (own_kind ((aa &&& (2147483647 : Int32)) % (5 : Int32)) q0 q1 q2 q3 q4))])) rfl (by rw [hml]; rfl) (argsL := [(.int ((bb &&& (2147483647 : Int32)) % (5 : Int32)))]) (rest := [(.ref (own_kind ((aa &&& (2147483647 : Int32)) % (5 : Int32)) q0 q1 q2 q3 q4))]) (lenOf own_pd_x28Ix29Ltramlinex2froutesx2fAddressx24Kindx3b rfl) rfl (by show 2 * 0 + _ ≤ _; exact Nat.le_of_eq rfl) (hb hby at_37) (fun _ _ => ⟨rfl, eh6, (by decide : 0 + 0 ≤ _), (by decide : 0 + 0 ≤ _)⟩)
    dsimp only [Pt.U, Pt.locs, Pt.cells, Pt.slots] at X7 l7 y7 z7 st7 hQ7
    subst l7 y7 z7
    obtain ⟨rfl, N7q, eh7⟩ := hQ7
    have N7 := Fr.app N6 N7q
    refine OwnFin.adv (B := T7.setTop (mkF m 40 #[.val (.int aa), .val (.int bb), .val (.int ((aa &&& (2147483647 : Int32)) % (5 : Int32))), .val (.int ((bb &&& (2147483647 : Int32)) % (5 : Int32))), .val (.int (1 : Int32))] [(.ref (own_kind ((bb &&& (2147483647 : Int32)) % (5 : Int32)) q0 q1 q2 q3 q4)), (.ref (own_kind ((aa &&& (2147483647 : Int32)) % (5 : Int32)) q0 q1 q2 q3 q4))])) (fun _ k => st7 _ k) ?_
    obtain ⟨cq8, kq8, q8a, q8b, q8c⟩ := isOf hZ eh7 (own_kexa E_q0 E_q1 E_q2 E_q3 E_q4 ((aa &&& (2147483647 : Int32)) % (5 : Int32)))
    obtain ⟨_, _, ⟨T8, L8, k8, n8⟩, -, X8, ⟨Lc8, hQ8, l8, y8, z8⟩, st8⟩ := X7.virtualBack hx (y := (⟨"tramline/routes/Address$Kind", "replaces", "(Ltramline/routes/Address$Kind;)Z"⟩ : MethodName)) (z := (⟨"tramline/routes/Address$Kind", "replaces", "(Ltramline/routes/Address$Kind;)Z"⟩ : MethodName)) hown (mvT hZ (hw _ (List.mem_of_getElem? (i := 13) rfl))) (mvT hZ (hw _ (List.mem_of_getElem? (i := 14) rfl))) (notFace_of_selects (args := #[]) (mvT hZ (hw _ (List.mem_of_getElem? (i := 16) rfl)))) (mvT hZ (hw _ (List.mem_of_getElem? (i := 16) rfl))) (mvT hZ (hw _ (List.mem_of_getElem? (i := 15) rfl))) (by decide) (backOf (W := 0) (own_rm3 l Z a0 hw [] (own_kind ((aa &&& (2147483647 : Int32)) % (5 : Int32)) q0 q1 q2 q3 q4) (own_kind ((bb &&& (2147483647 : Int32)) % (5 : Int32)) q0 q1 q2 q3 q4) (own_prec ((aa &&& (2147483647 : Int32)) % (5 : Int32))) (own_prec ((bb &&& (2147483647 : Int32)) % (5 : Int32))) h0 n0 Z0 (own_kfld F_q0 F_q1 F_q2 F_q3 F_q4 ((aa &&& (2147483647 : Int32)) % (5 : Int32))) (own_kfld F_q0 F_q1 F_q2 F_q3 F_q4 ((bb &&& (2147483647 : Int32)) % (5 : Int32)))) hZ (hw _ (List.mem_of_getElem? (i := 17) rfl)) (hw _ (List.mem_of_getElem? (i := 9) rfl)) (by decide) (by decide)) q8a q8c (g := (mkF m 40 #[.val (.int aa), .val (.int bb), .val (.int ((aa &&& (2147483647 : Int32)) % (5 : Int32))), .val (.int ((bb &&& (2147483647 : Int32)) % (5 : Int32))), .val (.int (1 : Int32))] [(.ref (own_kind ((bb &&& (2147483647 : Int32)) % (5 : Int32)) q0 q1 q2 q3 q4)), (.ref (own_kind ((aa &&& (2147483647 : Int32)) % (5 : Int32)) q0 q1 q2 q3 q4))])) rfl (by rw [hml]; rfl) (Steps.refl _) (argsL := [(.ref (own_kind ((bb &&& (2147483647 : Int32)) % (5 : Int32)) q0 q1 q2 q3 q4))]) (rest := []) (lenOf own_pd_x28Ltramlinex2froutesx2fAddressx24Kindx3bx29Z rfl) rfl (by show 2 * 0 + _ ≤ _; exact Nat.le_of_eq rfl) (hb hby at_40) (fun _ _ => ⟨rfl, eh7, (by decide : 0 + 0 ≤ _), (by decide : 0 + 0 ≤ _)⟩)
    dsimp only [Pt.U, Pt.locs, Pt.cells, Pt.slots] at X8 l8 y8 z8 st8 hQ8
    subst l8 y8 z8
    obtain ⟨rfl, N8q, eh8⟩ := hQ8
    have N8 := Fr.app N7 N8q
    refine OwnFin.adv (B := T8.setTop (mkF m 43 #[.val (.int aa), .val (.int bb), .val (.int ((aa &&& (2147483647 : Int32)) % (5 : Int32))), .val (.int ((bb &&& (2147483647 : Int32)) % (5 : Int32))), .val (.int (1 : Int32))] [(.int (if own_prec ((aa &&& (2147483647 : Int32)) % (5 : Int32)) < own_prec ((bb &&& (2147483647 : Int32)) % (5 : Int32)) then (0 : Int32) else 1))])) (fun _ k => st8.trans k) ?_
    refine OwnFin.adv (B := T8.setTop (mkF m 45 #[.val (.int aa), .val (.int bb), .val (.int ((aa &&& (2147483647 : Int32)) % (5 : Int32))), .val (.int ((bb &&& (2147483647 : Int32)) % (5 : Int32))), .val (.int (1 : Int32))] [(.int (1 : Int32)), (.int (if own_prec ((aa &&& (2147483647 : Int32)) % (5 : Int32)) < own_prec ((bb &&& (2147483647 : Int32)) % (5 : Int32)) then (0 : Int32) else 1))])) (fun _ k => XS.iload X8.here hx rfl (hb hby at_43) rfl k) ?_
    have hc45_27 : (if own_prec ((aa &&& (2147483647 : Int32)) % (5 : Int32)) < own_prec ((bb &&& (2147483647 : Int32)) % (5 : Int32)) then (0 : Int32) else 1) = (1 : Int32) := by simp only [own_same, hc22, if_true, if_false]
    refine OwnFin.adv (B := T8.setTop (mkF m 48 #[.val (.int aa), .val (.int bb), .val (.int ((aa &&& (2147483647 : Int32)) % (5 : Int32))), .val (.int ((bb &&& (2147483647 : Int32)) % (5 : Int32))), .val (.int (1 : Int32))] [])) (fun _ k => XS.icmpNo X8.here hx rfl (hb hby at_45) rfl (teq hc45_27).2 k) ?_
    refine OwnFin.adv (B := T8.setTop (mkF m 49 #[.val (.int aa), .val (.int bb), .val (.int ((aa &&& (2147483647 : Int32)) % (5 : Int32))), .val (.int ((bb &&& (2147483647 : Int32)) % (5 : Int32))), .val (.int (1 : Int32))] [(.int (1 : Int32))])) (fun _ k => XS.iconst X8.here hx rfl (hb hby at_48) k) ?_
    refine OwnFin.adv (B := T8.setTop (mkF m 53 #[.val (.int aa), .val (.int bb), .val (.int ((aa &&& (2147483647 : Int32)) % (5 : Int32))), .val (.int ((bb &&& (2147483647 : Int32)) % (5 : Int32))), .val (.int (1 : Int32))] [(.int (1 : Int32))])) (fun _ k => XS.goto X8.here hx rfl (pc0 := 49) (pc' := 53) rfl (hb hby at_49) (by decide) (by decide) k) ?_
    obtain ⟨fs, hr, hrun, hended, hW, hsame⟩ := X8.leave (v := some (.int (1 : Int32))) (fun h => by rw [Bd.returns] at h; cases h)
    refine OwnFin.leaf hP' ⟨_, _, retN X8 hx (t := .boolean) Bd.returns (by simp) (hb hby at_53) hr, hrun, hended, _, _, rfl, ?_, ⟨_, rfl⟩, hW, hsame.mono (by decide) (by decide)⟩
    exact ⟨rfl, N8⟩
set_option maxRecDepth 65536 in
set_option maxHeartbeats 40000000 in
theorem own_comes {Post : Tables → Env → Array Value → State → Outcome → State → Prop} (hpost : ∀ tb e args s v u, (limb_1_1.after args s (.returned v) u = true ∧ limb_1_2.after args s (.returned v) u = true ∧ True) → FrameEnd s (.returned v) u (Jvm.fieldLocs frame_1_writes args s ++ Jvm.arrayLocs frame_1_arrays args s ++ Jvm.staticLocs frame_1_statics s) 0 0 → Post tb e args s (.returned v) u) :
    ArmFor flags0 classFile x code maxLocals ret World_1 tables_1 room_1 Calls_1 rest_1 Pre_1 Post := by
  intro l hfl _ _ p e ha hc hk s m args below hf hA hF happ hP
  obtain ⟨hcalls, hrest, hpre⟩ := hP
  obtain ⟨-, -, -, hnamed, -, -, -, hat⟩ := (Spec.applies_iff hf).mp happ
  obtain ⟨hg, hn⟩ := and_e (Cond.before_iff.mp (show (Jvm.Cond.and given_1 narrow_1).before args s = true from hpre))
  obtain ⟨u1, u2⟩ := and_e hg
  obtain ⟨u3, u4⟩ := and_e u2
  obtain ⟨u5, u6⟩ := and_e hn
  obtain ⟨u7, u8⟩ := and_e u6
  obtain ⟨u9, u10⟩ := and_e u8
  obtain ⟨u11, u12⟩ := and_e u10
  obtain ⟨u13, u14⟩ := and_e u12
  obtain ⟨u15, u16⟩ := and_e u14
  obtain ⟨u17, u18⟩ := and_e u16
  obtain ⟨u19, u20⟩ := and_e u18
  obtain ⟨u21, u22⟩ := and_e u20
  obtain ⟨w0, w1, rfl⟩ : ∃ w0 w1 : Value, args = #[w0, w1] := by
    have hs : args.size = 2 := by simpa [Cond.value, given_1] using u1
    obtain ⟨L⟩ := args
    match L, hs with
    | [w0, w1], _ => exact ⟨w0, w1, rfl⟩
  have hw := fun d (hd : d ∈ tables_1) => atoms_spec (ws := Jvm.Cond.code x code maxLocals ret :: tables_1) hat d (List.mem_cons_of_mem _ hd)
  have hfit : Fit s := fun {y c} hc i hi => by
    obtain ⟨ha, rfl⟩ := Array.getElem?_eq_some_iff.mp hc
    have q := List.all_eq_true.mp ((Array.all_eq_true_iff_forall_mem.mp hF) _ (Array.getElem_mem ha)) i (List.mem_range.mpr hi)
    simpa [Array.getElem?_eq_getElem hi] using q
  obtain ⟨i0, ei0⟩ := is_v u3
  obtain rfl : w0 = (.int i0) := Option.some.inj ei0
  obtain ⟨i1, ei1⟩ := is_v u4
  obtain rfl : w1 = (.int i1) := Option.some.inj ei1
  obtain ⟨q0, ev_q0⟩ := exa_v u5
  have E_q0 := Exa.start ev_q0 u5
  have S_q0 := Sta.start ev_q0 (Or.inr ⟨(hw _ (List.mem_of_getElem? (i := 9) rfl)), (hw _ (List.mem_of_getElem? (i := 10) rfl))⟩)
  obtain ⟨q1, ev_q1⟩ := exa_v u15
  have E_q1 := Exa.start ev_q1 u15
  have S_q1 := Sta.start ev_q1 (Or.inr ⟨(hw _ (List.mem_of_getElem? (i := 9) rfl)), (hw _ (List.mem_of_getElem? (i := 23) rfl))⟩)
  obtain ⟨q2, ev_q2⟩ := exa_v u21
  have E_q2 := Exa.start ev_q2 u21
  have S_q2 := Sta.start ev_q2 (Or.inr ⟨(hw _ (List.mem_of_getElem? (i := 9) rfl)), (hw _ (List.mem_of_getElem? (i := 25) rfl))⟩)
  obtain ⟨q3, ev_q3⟩ := exa_v u7
  have E_q3 := Exa.start ev_q3 u7
  have S_q3 := Sta.start ev_q3 (Or.inr ⟨(hw _ (List.mem_of_getElem? (i := 9) rfl)), (hw _ (List.mem_of_getElem? (i := 12) rfl))⟩)
  obtain ⟨q4, ev_q4⟩ := exa_v u13
  have E_q4 := Exa.start ev_q4 u13
  have S_q4 := Sta.start ev_q4 (Or.inr ⟨(hw _ (List.mem_of_getElem? (i := 9) rfl)), (hw _ (List.mem_of_getElem? (i := 21) rfl))⟩)
  have F_q0 := own_fldI ev_q0 u9
  have F_q1 := own_fldI ev_q1 u19
  have F_q2 := own_fldI ev_q2 u22
  have F_q3 := own_fldI ev_q3 u11
  have F_q4 := own_fldI ev_q4 u17
  obtain ⟨n, o, h1, h2, h3, _, L, rfl, ⟨rfl, N⟩, hq⟩ := own_rm0 l s _ hw tables_1 i0 i1 q0 q1 q2 q3 q4 s.heap s.heap.size (Nat.le_refl _) S_q0 S_q1 S_q2 S_q3 S_q4 E_q0 E_q1 E_q2 E_q3 E_q4 F_q0 F_q1 F_q2 F_q3 F_q4 p e ha hc hk s m _ below hf ((Spec.applies_iff_loose hf).mp happ).1 ⟨rfl, State.Warmed39.refl s, rfl⟩ trivial
  refine ⟨n, _, h1, h2, h3, hpost _ _ _ _ _ _ ⟨Cond.after_iff.mpr rfl, Cond.after_iff.mpr (eq_i res_at (Term.int_eval (1)) rfl), trivial⟩ ⟨hq.1, hq.2.1, (hq.2.2.sift fun y hy => Or.inr (N y hy)).mono (by decide) (by decide)⟩⟩
theorem main_1_1 : Claimed_1_1 := own_comes fun _ _ _ _ _ _ h hF => ⟨h.1, hF⟩
theorem main_1_2 : Claimed_1_2 := own_comes fun _ _ _ _ _ _ h hF => ⟨h.2.1, hF⟩
end Jvm.Pilot.@@N@@
namespace Jvm.Pilot.@@N@@
open Jvm Jvm.ClassFile Sem Op Lib Jvm.Free Jvm.Stand Jvm.Pilot.@@N@@.Jvm.D
/-! MADE BY PROGRAM (witnessworld.py) out of the Statement's table words and the real class files: 12 classes; the members and pool entries that the words name. The judged class is class 1, her method 3. -/
namespace start1
open Jvm.ClassFile
def u (s : String) : CpInfo := .utf8 (stringToUtf16 s)
/-- a pool by its gaps: so many unusable entries, then the entry; so many at the end -/
def gap : Nat → List CpInfo → List CpInfo
  | 0, r => r
  | n + 1, r => .unusable :: gap n r
def poolList (es : List (Nat × CpInfo)) (last : Nat) : List CpInfo := es.foldr (fun e r => gap e.1 (e.2 :: r)) (gap last [])
def pool (es : List (Nat × CpInfo)) (last : Nat) : Array CpInfo := ⟨poolList es last⟩
def fileOf (pool : Array CpInfo) (this : Nat) (attrs : Array Attribute := #[]) (ms : Array MethodInfo := #[]) (fl : Nat := 33) (sup : Nat := 0) (ifs : Array Nat := #[]) (fds : Array FieldInfo := #[]) : ClassFile where
  minorVersion := 0
  majorVersion := 65
  constantPool := pool
  accessFlags := fl
  thisClass := this
  superClass := sup
  interfaces := ifs
  fields := fds
  methods := ms
  attributes := attrs
def plain (name : String) (sup : Option ClassId) : Class where
  name := name
  kind := .ordinary
  loader := none
  accessFlags := 33
  super := sup
  interfaces := #[]
  cf := none
  fields := #[]
  methods := #[]
  instanceTypes := #[]
  staticTypes := #[]
  resolved := #[]
  callSites := []
  init := .initialized
  statics := none
  mirror := none

def pool0 : Array CpInfo := pool [(5, u "<init>"), (0, u "()V"), (1, .class_ 10), (1, u "java/lang/Object")] 113

def k0m0 : Method := { name := "<init>", desc := "()V", sig := { parameters := [], returnType := none }, accessFlags := 1, code := none }
/-- java/lang/Object -/
def k0 : Class := { plain "java/lang/Object" none with
  accessFlags := 33
  interfaces := #[]
  cf := some (fileOf pool0 8 #[] #[{ accessFlags := 1, nameIndex := 5, descriptorIndex := 6, attributes := #[] }] 33 0 #[] #[])
  fields := #[]
  methods := #[k0m0]
  instanceTypes := #[]
  staticTypes := #[]
  resolved := Array.replicate 124 none
  statics := none }

def pool1 : Array CpInfo := pool [(2, .class_ 4), (1, u "java/lang/Object"), (0, u "<init>"), (0, u "()V"), (0, .fieldref 8 9), (0, .class_ 10), (0, .nameAndType 11 12), (0, u "tramline/routes/Address$Kind"), (0, u "IN_PROCESS"), (0, u "Ltramline/routes/Address$Kind;"), (0, .fieldref 8 14), (0, .nameAndType 15 12), (0, u "WEBSOCKET_CLIENT"), (0, .fieldref 8 17), (0, .nameAndType 18 12), (0, u "MQTT"), (0, .fieldref 8 20), (0, .nameAndType 21 12), (0, u "CHANNEL"), (0, .fieldref 8 23), (0, .nameAndType 24 12), (0, u "WEBSOCKET"), (0, .integer 2147483647), (0, .methodref 27 28), (0, .class_ 29), (0, .nameAndType 30 31), (0, u "tramline/routes/KindReplacesPinLaw"), (0, u "tier"), (0, u "(I)I"), (0, .methodref 27 33), (0, .nameAndType 34 35), (0, u "kind"), (0, u "(I)Ltramline/routes/Address$Kind;"), (0, .methodref 8 37), (0, .nameAndType 38 39), (0, u "replaces"), (0, u "(Ltramline/routes/Address$Kind;)Z"), (3, u "law"), (0, u "(II)Z")] 6

def k1m0 : Method := { name := "<init>", desc := "()V", sig := { parameters := [], returnType := none }, accessFlags := 1, code := none }
def k1c1 : Code := { maxStack := 2, maxLocals := 1, code := method_2_code, exceptionTable := #[], attributes := #[] }
def k1m1 : Method := { name := "kind", desc := "(I)Ltramline/routes/Address$Kind;", sig := { parameters := [.int], returnType := some (.object "tramline/routes/Address$Kind") }, accessFlags := 10, code := some k1c1 }
def k1c2 : Code := { maxStack := 2, maxLocals := 1, code := method_3_code, exceptionTable := #[], attributes := #[] }
def k1m2 : Method := { name := "tier", desc := "(I)I", sig := { parameters := [.int], returnType := some .int }, accessFlags := 10, code := some k1c2 }
def k1c3 : Code := { maxStack := 2, maxLocals := 5, code := code, exceptionTable := #[], attributes := #[] }
def k1m3 : Method := { name := "law", desc := "(II)Z", sig := { parameters := [.int, .int], returnType := some .boolean }, accessFlags := 9, code := some k1c3 }
/-- tramline/routes/KindReplacesPinLaw -/
def k1 : Class := { plain "tramline/routes/KindReplacesPinLaw" (some 0) with
  accessFlags := 49
  interfaces := #[]
  cf := some (fileOf pool1 27 #[] #[{ accessFlags := 1, nameIndex := 5, descriptorIndex := 6, attributes := #[] }, { accessFlags := 10, nameIndex := 34, descriptorIndex := 35, attributes := #[] }, { accessFlags := 10, nameIndex := 30, descriptorIndex := 31, attributes := #[] }, { accessFlags := 9, nameIndex := 43, descriptorIndex := 44, attributes := #[] }] 49 2 #[] #[])
  fields := #[]
  methods := #[k1m0, k1m1, k1m2, k1m3]
  instanceTypes := #[]
  staticTypes := #[]
  resolved := Array.replicate 51 none
  statics := none }

def pool2 : Array CpInfo := pool [(1, .class_ 2), (0, u "java/lang/constant/Constable"), (0, .class_ 4), (0, u "java/lang/Object")] 6

/-- java/lang/constant/Constable -/
def k2 : Class := { plain "java/lang/constant/Constable" (some 0) with
  accessFlags := 1537
  interfaces := #[]
  cf := some (fileOf pool2 1 #[] #[] 1537 3 #[] #[])
  fields := #[]
  methods := #[]
  instanceTypes := #[]
  staticTypes := #[]
  resolved := Array.replicate 11 none
  statics := none }

def pool3 : Array CpInfo := pool [(1, .class_ 2), (0, u "java/lang/Comparable"), (0, .class_ 4), (0, u "java/lang/Object")] 7

/-- java/lang/Comparable -/
def k3 : Class := { plain "java/lang/Comparable" (some 0) with
  accessFlags := 1537
  interfaces := #[]
  cf := some (fileOf pool3 1 #[] #[] 1537 3 #[] #[])
  fields := #[]
  methods := #[]
  instanceTypes := #[]
  staticTypes := #[]
  resolved := Array.replicate 12 none
  statics := none }

def pool4 : Array CpInfo := pool [(1, .class_ 2), (0, u "java/io/Serializable"), (0, .class_ 4), (0, u "java/lang/Object")] 2

/-- java/io/Serializable -/
def k4 : Class := { plain "java/io/Serializable" (some 0) with
  accessFlags := 1537
  interfaces := #[]
  cf := some (fileOf pool4 1 #[] #[] 1537 3 #[] #[])
  fields := #[]
  methods := #[]
  instanceTypes := #[]
  staticTypes := #[]
  resolved := Array.replicate 7 none
  statics := none }

def pool5 : Array CpInfo := pool [(2, .class_ 4), (1, u "java/lang/Enum"), (0, u "name"), (0, u "Ljava/lang/String;"), (2, u "ordinal"), (0, u "I"), (1, .class_ 14), (1, u "java/lang/Object"), (4, u "hash"), (86, .class_ 108), (1, u "java/lang/Enum$EnumDesc"), (2, .class_ 112), (0, u "java/lang/constant/Constable"), (0, .class_ 114), (0, u "java/lang/Comparable"), (0, .class_ 116), (0, u "java/io/Serializable")] 87

/-- java/lang/Enum -/
def k5 : Class := { plain "java/lang/Enum" (some 0) with
  accessFlags := 1057
  interfaces := #[2, 3, 4]
  cf := some (fileOf pool5 2 #[.nestMembers #[106]] #[] 1057 12 #[111, 113, 115] #[{ accessFlags := 18, nameIndex := 5, descriptorIndex := 6, attributes := #[] }, { accessFlags := 18, nameIndex := 9, descriptorIndex := 10, attributes := #[] }, { accessFlags := 2, nameIndex := 19, descriptorIndex := 10, attributes := #[] }])
  fields := #[{ name := "name", type := (.object "java/lang/String"), accessFlags := 18, slot := 0, constantValue := 0 }, { name := "ordinal", type := .int, accessFlags := 18, slot := 1, constantValue := 0 }, { name := "hash", type := .int, accessFlags := 2, slot := 2, constantValue := 0 }]
  methods := #[]
  instanceTypes := #[(.object "java/lang/String"), .int, .int]
  staticTypes := #[]
  resolved := Array.replicate 204 none
  statics := none }

def pool6 : Array CpInfo := pool [(1, .class_ 2), (0, u "tramline/routes/Address$Kind"), (2, u "IN_PROCESS"), (0, u "Ltramline/routes/Address$Kind;"), (2, u "WEBSOCKET_CLIENT"), (2, u "WEBSOCKET"), (2, u "MQTT"), (2, u "CHANNEL"), (2, u "$VALUES"), (0, u "[Ltramline/routes/Address$Kind;"), (6, .class_ 31), (1, u "java/lang/Enum"), (8, u "jsonName"), (0, u "Ljava/lang/String;"), (0, .fieldref 1 43), (0, .nameAndType 44 45), (0, u "precedence"), (0, u "I"), (8, u "fields"), (0, u "Ljava/util/List;"), (7, u "fieldSet"), (0, u "Ljava/util/Set;"), (2, u "KINDS"), (66, u "replaces"), (0, u "(Ltramline/routes/Address$Kind;)Z"), (14, .class_ 151), (0, u "tramline/routes/Address")] 2

def k6c0 : Code := { maxStack := 2, maxLocals := 2, code := prog_25_method_4_code, exceptionTable := #[], attributes := #[] }
def k6m0 : Method := { name := "replaces", desc := "(Ltramline/routes/Address$Kind;)Z", sig := { parameters := [(.object "tramline/routes/Address$Kind")], returnType := some .boolean }, accessFlags := 0, code := some k6c0 }
/-- tramline/routes/Address$Kind -/
def k6 : Class := { plain "tramline/routes/Address$Kind" (some 5) with
  accessFlags := 16433
  interfaces := #[]
  cf := some (fileOf pool6 1 #[.nestHost 150] #[{ accessFlags := 0, nameIndex := 134, descriptorIndex := 135, attributes := #[] }] 16433 29 #[] #[{ accessFlags := 16409, nameIndex := 5, descriptorIndex := 6, attributes := #[] }, { accessFlags := 16409, nameIndex := 9, descriptorIndex := 6, attributes := #[] }, { accessFlags := 16409, nameIndex := 12, descriptorIndex := 6, attributes := #[] }, { accessFlags := 16409, nameIndex := 15, descriptorIndex := 6, attributes := #[] }, { accessFlags := 16409, nameIndex := 18, descriptorIndex := 6, attributes := #[] }, { accessFlags := 26, nameIndex := 67, descriptorIndex := 22, attributes := #[] }, { accessFlags := 18, nameIndex := 40, descriptorIndex := 41, attributes := #[] }, { accessFlags := 18, nameIndex := 44, descriptorIndex := 45, attributes := #[] }, { accessFlags := 18, nameIndex := 54, descriptorIndex := 55, attributes := #[] }, { accessFlags := 18, nameIndex := 63, descriptorIndex := 64, attributes := #[] }, { accessFlags := 4122, nameIndex := 21, descriptorIndex := 22, attributes := #[] }])
  fields := #[{ name := "IN_PROCESS", type := (.object "tramline/routes/Address$Kind"), accessFlags := 16409, slot := 0, constantValue := 0 }, { name := "WEBSOCKET_CLIENT", type := (.object "tramline/routes/Address$Kind"), accessFlags := 16409, slot := 1, constantValue := 0 }, { name := "WEBSOCKET", type := (.object "tramline/routes/Address$Kind"), accessFlags := 16409, slot := 2, constantValue := 0 }, { name := "MQTT", type := (.object "tramline/routes/Address$Kind"), accessFlags := 16409, slot := 3, constantValue := 0 }, { name := "CHANNEL", type := (.object "tramline/routes/Address$Kind"), accessFlags := 16409, slot := 4, constantValue := 0 }, { name := "KINDS", type := (.array (.object "tramline/routes/Address$Kind")), accessFlags := 26, slot := 5, constantValue := 0 }, { name := "jsonName", type := (.object "java/lang/String"), accessFlags := 18, slot := 3, constantValue := 0 }, { name := "precedence", type := .int, accessFlags := 18, slot := 4, constantValue := 0 }, { name := "fields", type := (.object "java/util/List"), accessFlags := 18, slot := 5, constantValue := 0 }, { name := "fieldSet", type := (.object "java/util/Set"), accessFlags := 18, slot := 6, constantValue := 0 }, { name := "$VALUES", type := (.array (.object "tramline/routes/Address$Kind")), accessFlags := 4122, slot := 6, constantValue := 0 }]
  methods := #[k6m0]
  instanceTypes := #[(.object "java/lang/String"), .int, .int, (.object "java/lang/String"), .int, (.object "java/util/List"), (.object "java/util/Set")]
  staticTypes := #[(.object "tramline/routes/Address$Kind"), (.object "tramline/routes/Address$Kind"), (.object "tramline/routes/Address$Kind"), (.object "tramline/routes/Address$Kind"), (.object "tramline/routes/Address$Kind"), (.array (.object "tramline/routes/Address$Kind")), (.array (.object "tramline/routes/Address$Kind"))]
  resolved := Array.replicate 154 none
  statics := some 0 }

def pool7 : Array CpInfo := pool [(1, u "java/lang/Cloneable"), (0, .class_ 1), (0, u "java/lang/Object"), (0, .class_ 3)] 3

/-- java/lang/Cloneable -/
def k7 : Class := { plain "java/lang/Cloneable" (some 0) with
  accessFlags := 1537
  interfaces := #[]
  cf := some (fileOf pool7 2 #[] #[] 1537 4 #[] #[])
  fields := #[]
  methods := #[]
  instanceTypes := #[]
  staticTypes := #[]
  resolved := Array.replicate 8 none
  statics := none }

/-- the primitive byte -/
def k8 : Class := { plain "byte" none with kind := .primitive 'B', accessFlags := 0x411 }
/-- [B -/
def k9 : Class := { plain "[B" (some 0) with kind := .array 8 .byte, interfaces := #[7, 4], accessFlags := 1041 }

/-- the primitive int -/
def k10 : Class := { plain "int" none with kind := .primitive 'I', accessFlags := 0x411 }
/-- [I -/
def k11 : Class := { plain "[I" (some 0) with kind := .array 10 .int, interfaces := #[7, 4], accessFlags := 1041 }

def heap : Heap := #[{ cls := 6, slots := #[.ref 1, .ref 2, .ref 5, .ref 3, .ref 4, .null, .null], vm := .statics 6 },
  { cls := 6, slots := #[.null, .int 0, .int 0, .null, .int 4, .null, .null], vm := .none },
  { cls := 6, slots := #[.null, .int 1, .int 0, .null, .int 3, .null, .null], vm := .none },
  { cls := 6, slots := #[.null, .int 2, .int 0, .null, .int 2, .null, .null], vm := .none },
  { cls := 6, slots := #[.null, .int 3, .int 0, .null, .int 2, .null, .null], vm := .none },
  { cls := 6, slots := #[.null, .int 4, .int 0, .null, .int 1, .null, .null], vm := .none }]
def classes : Array Class := #[k0, k1, k2, k3, k4, k5, k6, k7, k8, k9, k10, k11]
def interned : List (Array UInt16 × Addr) := []
def slotsUsed : Nat := 42
def theMethod : MethodId := ⟨1, 3⟩
def args0 : Array Value := #[.int 5, .int 7]
def aboutOver (below : List Frame) : State where
  vm := { classes := classes, interned := interned.toArray }
  heap := heap
  slotsUsed := slotsUsed
  threads := #[{ frames := .invoking theMethod args0 :: below }]
def below0 : List Frame := [.native { method := ⟨0, 0⟩, args := #[] }]
def about1 : State := aboutOver below0
def p0 : Program := .bare "" "" ""
def e0 : Env := launch0.env 0 0 0
theorem w_frames : about1.frames = Frame.invoking theMethod args0 :: below0 := rfl
set_option maxRecDepth 65536 in
theorem w_args : argsFit about1.vm theMethod args0 = true := by decide +kernel
set_option maxRecDepth 65536 in
theorem w_heap : heapFits about1 = true := by decide +kernel
set_option maxRecDepth 65536 in
theorem w_runnable : about1.curStatus? = some .runnable := by decide +kernel
set_option maxRecDepth 65536 in
theorem w_alone : about1.alone = true := by decide +kernel
set_option maxRecDepth 65536 in
theorem w_named : about1.methodNamed? x = some theMethod := by decide +kernel
set_option maxRecDepth 65536 in
theorem w_hears : about1.hears theMethod below0 = true := by decide +kernel
set_option maxRecDepth 65536 in
theorem w_ripe : about1.ripe theMethod args0 below0 = true := by decide +kernel
theorem w_running : about1.status = .running := rfl
set_option maxRecDepth 65536 in
theorem w_room : about1.hasRoom e0.platform room_1 = true :=
  launch0.hasRoom_least _ room_1 (by decide +kernel) (by decide +kernel) (by decide +kernel) (by decide +kernel) (by decide +kernel) (by decide +kernel)
theorem allAtoms_all (ts : List Jvm.Cond) (a : Array Jvm.Value) (st : Jvm.State) : (allAtoms ts).before a st = ts.all (fun c => c.before a st) := by
  induction ts with
  | nil => rfl
  | cons c t ih =>
    show (Jvm.Cond.and c (allAtoms t)).before a st = _
    rw [Jvm.Cond.before_and, ih, List.all_cons]
def words1 : List Jvm.Cond := Jvm.Cond.code x code maxLocals ret :: tables_1
/-- a 'code' word, met by the world's own term for the bytes: nothing is compared byte by byte -/
theorem code_word {y : MethodName} {bytes : ByteArray} {mx : Nat} {rt : Option FieldType} {a : Array Value} {s : State} {m : MethodId} {meth : Method} {c : Code} (h1 : s.methodNamed? y = some m) (h2 : s.vm.method? m = some meth) (h3 : meth.code = some c) (h4 : c.code = bytes)
    (h5 : (c.maxLocals == mx && c.exceptionTable.isEmpty && decide (c.maxStack ≤ mostOperands) && decide (meth.sig.returnType = rt) && !meth.locks && decide (parseMethodDescriptor y.desc = some meth.sig)) = true) : (Jvm.Cond.code y bytes mx rt).before a s = true := by
  simp only [Bool.and_eq_true, beq_iff_eq, Bool.not_eq_true', decide_eq_true_eq] at h5
  obtain ⟨⟨⟨⟨⟨g1, g2⟩, g3⟩, g4⟩, g5⟩, g6⟩ := h5
  simp [Cond.before, Cond.holds, Cond.value, h1, h2, h3, h4, g1, g2, g3, g4, g5, g6]
def isCode : Jvm.Cond → Bool
  | .code _ _ _ _ => true
  | _ => false
theorem all_split {L : List Jvm.Cond} {P : Jvm.Cond → Bool} (h1 : L.all (fun c => isCode c || P c) = true) (h2 : ∀ c ∈ L.filter isCode, P c = true) : L.all P = true := by
  refine List.all_eq_true.mpr fun c hc => ?_
  have h := List.all_eq_true.mp h1 c hc
  rcases Bool.eq_false_or_eq_true (isCode c) with hi | hi
  · exact h2 c (List.mem_filter.mpr ⟨hc, hi⟩)
  · simpa [hi] using h
set_option maxRecDepth 65536 in
theorem w_c0 : (Jvm.Cond.code x code maxLocals ret).before args0 about1 = true := code_word (m := ⟨1, 3⟩) (meth := k1m3) (c := k1c3) (by decide +kernel) rfl rfl rfl (by decide +kernel)
set_option maxRecDepth 65536 in
theorem w_c1 : (Jvm.Cond.code ({ cls := "tramline/routes/KindReplacesPinLaw", name := "tier", desc := "(I)I" } : Jvm.MethodName) method_3_code (1 : Nat) (Option.some Jvm.ClassFile.FieldType.int)).before args0 about1 = true := code_word (m := ⟨1, 2⟩) (meth := k1m2) (c := k1c2) (by decide +kernel) rfl rfl rfl (by decide +kernel)
set_option maxRecDepth 65536 in
theorem w_c2 : (Jvm.Cond.code ({ cls := "tramline/routes/KindReplacesPinLaw", name := "kind", desc := "(I)Ltramline/routes/Address$Kind;" } : Jvm.MethodName) method_2_code (1 : Nat) (Option.some (Jvm.ClassFile.FieldType.object "tramline/routes/Address$Kind"))).before args0 about1 = true := code_word (m := ⟨1, 1⟩) (meth := k1m1) (c := k1c1) (by decide +kernel) rfl rfl rfl (by decide +kernel)
set_option maxRecDepth 65536 in
theorem w_c3 : (Jvm.Cond.code ({ cls := "tramline/routes/Address$Kind", name := "replaces", desc := "(Ltramline/routes/Address$Kind;)Z" } : Jvm.MethodName) prog_25_method_4_code (2 : Nat) (Option.some Jvm.ClassFile.FieldType.boolean)).before args0 about1 = true := code_word (m := ⟨6, 0⟩) (meth := k6m0) (c := k6c0) (by decide +kernel) rfl rfl rfl (by decide +kernel)
def codes1 : List Jvm.Cond := [Jvm.Cond.code x code maxLocals ret, Jvm.Cond.code ({ cls := "tramline/routes/KindReplacesPinLaw", name := "tier", desc := "(I)I" } : Jvm.MethodName) method_3_code (1 : Nat) (Option.some Jvm.ClassFile.FieldType.int), Jvm.Cond.code ({ cls := "tramline/routes/KindReplacesPinLaw", name := "kind", desc := "(I)Ltramline/routes/Address$Kind;" } : Jvm.MethodName) method_2_code (1 : Nat) (Option.some (Jvm.ClassFile.FieldType.object "tramline/routes/Address$Kind")), Jvm.Cond.code ({ cls := "tramline/routes/Address$Kind", name := "replaces", desc := "(Ltramline/routes/Address$Kind;)Z" } : Jvm.MethodName) prog_25_method_4_code (2 : Nat) (Option.some Jvm.ClassFile.FieldType.boolean)]
set_option maxRecDepth 65536 in
theorem codes_eq : words1.filter isCode = codes1 := rfl
theorem w_codes : ∀ c ∈ words1.filter isCode, c.before args0 about1 = true := by
  rw [codes_eq]
  intro c hc
  simp only [codes1, List.mem_cons, List.not_mem_nil, or_false] at hc
  rcases hc with rfl | rfl | rfl | rfl
  · exact w_c0
  · exact w_c1
  · exact w_c2
  · exact w_c3
set_option maxRecDepth 65536 in
theorem w_t1 : (words1.take 24).all (fun c => isCode c || c.before args0 about1) = true := by decide +kernel
set_option maxRecDepth 65536 in
theorem w_t2 : (words1.drop 24).all (fun c => isCode c || c.before args0 about1) = true := by decide +kernel
theorem w_tables : (allAtoms (Jvm.Cond.code x code maxLocals ret :: tables_1)).before args0 about1 = true := by
  rw [allAtoms_all]
  show words1.all (fun c => c.before args0 about1) = true
  refine all_split ?_ w_codes
  rw [← List.take_append_drop 24 words1, List.all_append, w_t1, w_t2]
  rfl
set_option maxRecDepth 65536 in
theorem w_case : (Jvm.Cond.and given_1 narrow_1).before args0 about1 = true := by decide +kernel
theorem w_applies : (headSpec (Jvm.Cond.code x code maxLocals ret :: tables_1) room_1).applies x e0.platform about1 = true :=
  (Spec.applies_iff w_frames).mpr ⟨w_running, w_runnable, w_alone, w_named, w_hears, w_ripe, w_room, w_tables⟩
theorem atStart : AtStart classFile x code maxLocals ret World_1 tables_1 room_1 Calls_1 rest_1 Pre_1 launch0 p0 e0 about1 theMethod args0 below0 :=
  ⟨lists_1, trivial, launch0.admits_env _ _ _, launch0.least_env, fairChoices_fair.cas, fairChoices_fair.clock, w_frames, w_args, w_heap, w_applies, trivial, trivial, w_case⟩
end start1
theorem witness_1 : WitnessClaimed_1 := ⟨start1.p0, start1.e0, start1.about1, start1.theMethod, start1.args0, start1.below0, start1.atStart⟩
end Jvm.Pilot.@@N@@
