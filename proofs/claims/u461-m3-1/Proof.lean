import JvmDerived
import JvmDerived.Pilot.@@N@@Statement
import JvmDerived.Pilot.@@N@@Code
set_option linter.unusedVariables false
set_option linter.unusedSimpArgs false
namespace Jvm.Pilot.@@N@@
open Jvm Jvm.ClassFile Sem Op Lib Jvm.Free Jvm.Stand Jvm.LawKit Jvm.RoadKit Bundle Jvm.Pilot.@@N@@.Jvm.D
/-- the walk's goal, seen from a state: it comes to an end of which P holds -/
def OwnFin (tb : Tables) (e : Env) (below : List Frame) (P : State → Outcome → Prop) (S : State) : Prop := ∃ t o, Steps tb e below S t ∧ P t o
theorem OwnFin.adv {tb : Tables} {e : Env} {below : List Frame} {P : State → Outcome → Prop} {A B : State} (h : ∀ t, Steps tb e below B t → Steps tb e below A t) (k : OwnFin tb e below P B) : OwnFin tb e below P A := by
  obtain ⟨t, o, h1, h2⟩ := k
  exact ⟨t, o, h t h1, h2⟩
theorem OwnFin.entry {tb : Tables} {e : Env} {below : List Frame} {P : State → Outcome → Prop} {T : State} {g g' : JFrame} (q : g = g') (k : ∀ P', P' = P → OwnFin tb e below P' (T.setTop g')) : ∃ t o, Steps tb e below (T.setTop g) t ∧ P t o := by
  subst q; exact k P rfl
theorem OwnFin.leaf {tb : Tables} {e : Env} {below : List Frame} {P P' : State → Outcome → Prop} {S : State} (q : P' = P) (k : ∃ t o, Steps tb e below S t ∧ P t o) : OwnFin tb e below P' S := by
  subst q; exact k
theorem own_lt {a b : Nat} (h : a < b) : a < b := h
theorem own_ne {a b : Nat} (h : a < b ∨ b < a) : a ≠ b := by omega
theorem own_monoW {s t : State} {o : Outcome} {L : List Loc} {k n k' n' : Nat} (h : ReturnedEndW s o t L k n) (hk : k ≤ k') (hn : n ≤ n') : ReturnedEndW s o t L k' n' := ⟨h.1, h.2.1, h.2.2.1, h.2.2.2.mono hk hn⟩
theorem own_chend {Z : State} {EL : List (String × Nat)} {vm0 vm1 vm2 : Vm} {U0 U1 : State} {h0 h1 : Heap} (A : CHr Z EL U0.vm h0 vm1 h1) (B : CHr Z EL vm1 h1 vm2 h1) (e0 : U0.heap = h0) (e1 : U1.heap = h1) : CHr Z EL U0.vm U0.heap vm2 U1.heap := by
  rw [e0, e1]; exact A.trans B
theorem own_staK {Z : State} {n0 : Nat} {h : Heap} {C n d : String} {v : Value} (S : Sta Z Z.heap C n d v) (O : Old Z n0 h) : Sta Z h C n d v := S.ext O.2
section OwnRet
variable {p : Program} {l : Launch} {e : Env} {R : Room} {s : State} {m : MethodId} {args : Array Value} {below : List Frame} {meth : Method} {c : Code} {T : State} {locs : List Loc} {cells slots : Nat}
theorem own_retI (X : Stand p l e R s m args below meth c T locs cells slots) (hx : p.tables.exec = Jvm.exec) {pc : Nat} {Ls : Array Slot} {z : Int32} {rest : List Value} (hret : meth.sig.returnType = some .int) (hd : decode c.code pc = .ok (.ireturn, 1)) {fs : List Frame}
    (hl : ∀ (f : JFrame) (acts : List Action), f.method = m → f.locked = none → f.entered = [] → (doReturn e (T.setTop f) acts (some (.int z))).1 = T.setFrames fs) : Steps p.tables e below (T.setTop (mkF m pc Ls (.int z :: rest))) (T.setFrames fs) :=
  retOut X hx hret rfl (Or.inl ⟨rfl, Or.inl rfl, z, rfl⟩) hd hl
theorem own_retL (X : Stand p l e R s m args below meth c T locs cells slots) (hx : p.tables.exec = Jvm.exec) {pc : Nat} {Ls : Array Slot} {z : Int64} {rest : List Value} (hret : meth.sig.returnType = some .long) (hd : decode c.code pc = .ok (.lreturn, 1)) {fs : List Frame}
    (hl : ∀ (f : JFrame) (acts : List Action), f.method = m → f.locked = none → f.entered = [] → (doReturn e (T.setTop f) acts (some (.long z))).1 = T.setFrames fs) : Steps p.tables e below (T.setTop (mkF m pc Ls (.long z :: rest))) (T.setFrames fs) :=
  retOut X hx hret rfl (Or.inr (Or.inl ⟨rfl, rfl, z, rfl⟩)) hd hl
theorem own_retR (X : Stand p l e R s m args below meth c T locs cells slots) (hx : p.tables.exec = Jvm.exec) {pc : Nat} {Ls : Array Slot} {w : Value} {t : FieldType} {rest : List Value} (hret : meth.sig.returnType = some t) (ht : t.isReference = true) (hn : narrow t w = w) (hw : w.isRef = true) (hd : decode c.code pc = .ok (.areturn, 1)) {fs : List Frame}
    (hl : ∀ (f : JFrame) (acts : List Action), f.method = m → f.locked = none → f.entered = [] → (doReturn e (T.setTop f) acts (some w)).1 = T.setFrames fs) : Steps p.tables e below (T.setTop (mkF m pc Ls (w :: rest))) (T.setFrames fs) :=
  retOut X hx hret hn (Or.inr (Or.inr (Or.inr (Or.inr ⟨rfl, ht, hw⟩)))) hd hl
end OwnRet
theorem own_eqI {args : Array Value} {first s : State} {o : Option Outcome} {idx : List Nat} {t : Term} {k : Int32} (h : (Cond.eq t (Term.int k)).value args first o s idx = some true) : t.eval args first o idx s = some (.int k) := by
  simp only [Cond.value, Term.eval] at h
  cases ht : t.eval args first o idx s with
  | none => simp [ht] at h
  | some x => cases x <;> simp [ht] at h ⊢; exact h
theorem own_fldI {Z : State} {args : Array Value} {t : Term} {a : Addr} {C n d : String} {k : Int32} (ht : t.eval args Z none [] Z = some (.ref a)) (h : (Cond.eq (Term.field t C n d) (Term.int k)).value args Z none Z [] = some true) : Fld Z Z.heap a C n d (.int k) :=
  Fld.start ((fld_at ht).symm.trans (own_eqI h))
theorem own_len {args : Array Value} {first s : State} {o : Option Outcome} {idx : List Nat} {t : Term} {a : Addr} {cl : Cell} {k : Int32} (ht : t.eval args first o idx s = some (.ref a)) (ha : s.arrayAt? a = some cl) (h : (Cond.eq (Term.length t) (Term.int k)).value args first o s idx = some true) : cl.slots.size < 2 ^ 31 ∧ cl.slots.size.toInt32 = k := by
  have e := own_eqI h
  by_cases hn : cl.slots.size < 2 ^ 31
  · rw [len_f ht ha hn] at e
    exact ⟨hn, Value.int.inj (Option.some.inj e)⟩
  · simp [Term.eval, ht, ha, hn] at e
theorem own_boxes {Z : State} {args : Array Value} (hs : ∀ d ∈ ([Cond.arrayOf (Term.static "java/lang/Integer$IntegerCache" "cache" "[Ljava/lang/Integer;") (.object "java/lang/Integer"), Cond.eq (Term.length (Term.static "java/lang/Integer$IntegerCache" "cache" "[Ljava/lang/Integer;")) (Term.int (256 : Int32)), Cond.all (Term.static "java/lang/Integer$IntegerCache" "cache" "[Ljava/lang/Integer;") (Cond.and (Cond.exactly (Term.elem (Term.static "java/lang/Integer$IntegerCache" "cache" "[Ljava/lang/Integer;") (Term.index (0 : Nat))) "java/lang/Integer") (Cond.eq (Term.field (Term.elem (Term.static "java/lang/Integer$IntegerCache" "cache" "[Ljava/lang/Integer;") (Term.index (0 : Nat))) "java/lang/Integer" "value" "I") (Term.sub (Term.index (0 : Nat)) (Term.int (128 : Int32)))))] : List Jvm.Cond), d.before args Z = true)
    (hi : (Cond.initialized "java/lang/Integer$IntegerCache").before args Z = true) (hl : (Cond.laysStatic "java/lang/Integer$IntegerCache" "cache" "[Ljava/lang/Integer;").before args Z = true) :
    ∃ (ca : Addr) (cl : Cell), Sta Z Z.heap "java/lang/Integer$IntegerCache" "cache" "[Ljava/lang/Integer;" (.ref ca) ∧ Bxs Z ca cl "java/lang/Integer" "I" 256 (fun j => .int (j - 128)) := by
  have h1 := Cond.before_iff.mp (hs _ (List.mem_of_getElem? (i := 0) rfl))
  have h2 := Cond.before_iff.mp (hs _ (List.mem_of_getElem? (i := 1) rfl))
  have h3 := Cond.before_iff.mp (hs _ (List.mem_of_getElem? (i := 2) rfl))
  obtain ⟨ca, ev⟩ := arr_v h1
  obtain ⟨cl, A⟩ := Arr.start ev h1
  obtain ⟨q, e⟩ := own_len ev (A.fin (Vm.Alike.refl _)) h2
  refine ⟨ca, cl, Sta.start ev (Or.inr ⟨hi, hl⟩), Bxs.start (fun idx => ev) A q e (by decide) h3 (fun X j nn hX => eqv_i ?_ hX)⟩
  have := idx_at (args := args) (first := Z) (o := none) (s := Z) nn
  simp [Term.eval] at this ⊢
  exact this
theorem own_m7 (x : Int32) : (x &&& (7 : Int32)) = 0 ∨ (x &&& (7 : Int32)) = 1 ∨ (x &&& (7 : Int32)) = 2 ∨ (x &&& (7 : Int32)) = 3 ∨ (x &&& (7 : Int32)) = 4 ∨ (x &&& (7 : Int32)) = 5 ∨ (x &&& (7 : Int32)) = 6 ∨ (x &&& (7 : Int32)) = 7 := by
  have h := c_mask x 7 3 (by decide) (by decide)
  have h8 : (x &&& (7 : Int32)).toInt = 0 ∨ (x &&& (7 : Int32)).toInt = 1 ∨ (x &&& (7 : Int32)).toInt = 2 ∨ (x &&& (7 : Int32)).toInt = 3 ∨ (x &&& (7 : Int32)).toInt = 4 ∨ (x &&& (7 : Int32)).toInt = 5 ∨ (x &&& (7 : Int32)).toInt = 6 ∨ (x &&& (7 : Int32)).toInt = 7 := by omega
  rcases h8 with q | q | q | q | q | q | q | q
  · exact Or.inl (Int32.toInt_inj.mp q)
  · exact Or.inr (Or.inl (Int32.toInt_inj.mp q))
  · exact Or.inr (Or.inr (Or.inl (Int32.toInt_inj.mp q)))
  · exact Or.inr (Or.inr (Or.inr (Or.inl (Int32.toInt_inj.mp q))))
  · exact Or.inr (Or.inr (Or.inr (Or.inr (Or.inl (Int32.toInt_inj.mp q)))))
  · exact Or.inr (Or.inr (Or.inr (Or.inr (Or.inr (Or.inl (Int32.toInt_inj.mp q))))))
  · exact Or.inr (Or.inr (Or.inr (Or.inr (Or.inr (Or.inr (Or.inl (Int32.toInt_inj.mp q)))))))
  · exact Or.inr (Or.inr (Or.inr (Or.inr (Or.inr (Or.inr (Or.inr (Int32.toInt_inj.mp q)))))))

theorem own_d10_0 : decode jdk_18_method_1_code 0 = .ok (.aload_n 0, 1) := by decide +kernel
theorem own_d10_1 : decode jdk_18_method_1_code 1 = .ok (.invokespecial 1, 3) := by decide +kernel
theorem own_d10_4 : decode jdk_18_method_1_code 4 = .ok (.return_, 1) := by decide +kernel
theorem own_ef_numInit (m : MethodId) (x0 : Addr) : entryFrame m #[(.ref x0)] 1 = mkF m 0 #[.val (.ref x0)] [] := by first | (simp [entryFrame, mkF, argsToLocals, Value.category]; done) | rfl
theorem own_pn_java_lang_Number : plainName "java/lang/Number" = true := by first | (simp [plainName, overriddenIn]; done) | decide +kernel
def own_Q_numInit (Z : State) (ob : Addr) (h0 : Heap) (n0 : Nat) (v : Option Value) (h : Heap) (L : List Loc) : Prop := v = none ∧ Fr n0 L ∧ h = h0
set_option maxRecDepth 65536 in
set_option maxHeartbeats 40000000 in
theorem own_numInit (l : Launch) (Z : State) (a0 : Array Value) (hw : ∀ d ∈ tables_1, d.before a0 Z = true) (ws : List Jvm.Cond) (ob : Addr) (h0 : Heap) (n0 : Nat) (Z0 : n0 ≤ h0.size) :
    MetFree l (⟨"java/lang/Number", "<init>", "()V"⟩ : MethodName) (head1 (Jvm.Cond.code (⟨"java/lang/Number", "<init>", "()V"⟩ : MethodName) jdk_18_method_1_code 1 none :: ws) ({ frames := 1, cells := 0, slots := 0, locals := 12 } : Room)) (fun A0 U0 => A0 = #[(.ref ob)] ∧ Z.Warmed39 U0.vm ∧ U0.heap = h0) (fun _ _ _ _ _ => True) (fun _ U0 o0 U1 => ∃ v0 L0, o0 = .returned v0 ∧ own_Q_numInit Z ob h0 n0 v0 U1.heap L0 ∧ FrameEnd U0 o0 U1 L0 ({ frames := 1, cells := 0, slots := 0, locals := 12 } : Room).cells ({ frames := 1, cells := 0, slots := 0, locals := 12 } : Room).slots) := by
  refine MetFree.of_bodySF (plainFor_of_name own_pn_java_lang_Number) hisR ?_
  intro p e s m args below meth c s₁ Bd hml0 hP hK
  obtain ⟨rfl, hZ, hh⟩ := hP
  have hx := Bd.exec
  have hby := Bd.bytes
  have hml : c.maxLocals = 1 := hml0
  have hown : s.vm.findClass "java/lang/Number" = some m.cls := findClass_of_methodNamed Bd.named
  have hnm := (name_of_methodNamed Bd.named Bd.method).1
  have X0 : Stand p l e ({ frames := 1, cells := 0, slots := 0, locals := 12 } : Room) s m #[(.ref ob)] below meth c s₁ [] 0 0 := Stand.of_body Bd
  have e0 : s₁.heap = h0 := by rw [← hh, Bd.state]; rfl
  have N0 := Fr.nil n0
  refine OwnFin.entry (own_ef_numInit m ob) (fun P' hP' => ?_)
  refine OwnFin.adv (B := s₁.setTop (mkF m 1 #[.val (.ref ob)] [(.ref ob)])) (fun _ k => XS.aloadN X0.here hx rfl (hb hby own_d10_0) rfl rfl k) ?_
  obtain ⟨T1, X1, e1, st1⟩ := initO X0 hx hZ hown (hw _ (List.mem_of_getElem? (i := 100) rfl)) (hw _ (List.mem_of_getElem? (i := 40) rfl)) (hw _ (List.mem_of_getElem? (i := 41) rfl)) e0 (g := (mkF m 1 #[.val (.ref ob)] [(.ref ob)])) rfl (by rw [hml]; rfl) rfl (hb hby own_d10_1) (by decide) (W := 0) (by show 2 * 0 + _ ≤ _; exact Nat.le_of_eq rfl) (by decide)
  refine OwnFin.adv (B := T1.setTop (mkF m 4 #[.val (.ref ob)] [])) (fun _ k => st1 _ k) ?_
  obtain ⟨fs, hr, hrun, hended, hW, hsame⟩ := X1.leave (v := none) (fun _ => rfl)
  refine OwnFin.leaf hP' ⟨_, _, X1.returnOut hx Bd.returns (hb hby own_d10_4) hr, hrun, hended, _, _, rfl, ?_, ⟨_, rfl⟩, hW, hsame.mono (by decide) (by decide)⟩
  exact ⟨rfl, N0, e1⟩
theorem own_d9_0 : decode jdk_33_method_23_code 0 = .ok (.aload_n 0, 1) := by decide +kernel
theorem own_pd_x28x29V : parseMethodDescriptor "()V" = some ⟨[], none⟩ := by decide +kernel
theorem own_d9_1 : decode jdk_33_method_23_code 1 = .ok (.invokespecial 202, 3) := by decide +kernel
theorem own_d9_4 : decode jdk_33_method_23_code 4 = .ok (.aload_n 0, 1) := by decide +kernel
theorem own_d9_5 : decode jdk_33_method_23_code 5 = .ok (.iload_n 1, 1) := by decide +kernel
theorem own_d9_6 : decode jdk_33_method_23_code 6 = .ok (.putfield 205, 3) := by decide +kernel
theorem own_d9_9 : decode jdk_33_method_23_code 9 = .ok (.return_, 1) := by decide +kernel
theorem own_ef_intInit (m : MethodId) (x0 : Addr) (x1 : Int32) : entryFrame m #[(.ref x0), (.int x1)] 2 = mkF m 0 #[.val (.ref x0), .val (.int x1)] [] := by first | (simp [entryFrame, mkF, argsToLocals, Value.category]; done) | rfl
theorem own_pn_java_lang_Integer : plainName "java/lang/Integer" = true := by first | (simp [plainName, overriddenIn]; done) | decide +kernel
def own_Q_intInit (Z : State) (ob : Addr) (pv : Int32) (u0 : Value) (h0 : Heap) (n0 : Nat) (v : Option Value) (h : Heap) (L : List Loc) : Prop := v = none ∧ Fr n0 L ∧ Keep h0 h [ob] ∧ Fld Z h ob "java/lang/Integer" "value" "I" (.int pv)
set_option maxRecDepth 65536 in
set_option maxHeartbeats 40000000 in
theorem own_intInit (l : Launch) (Z : State) (a0 : Array Value) (hw : ∀ d ∈ tables_1, d.before a0 Z = true) (ws : List Jvm.Cond) (ob : Addr) (pv : Int32) (u0 : Value) (h0 : Heap) (n0 : Nat) (Z0 : n0 ≤ h0.size) (E : Exa Z h0 ob "java/lang/Integer") (F : Fld Z h0 ob "java/lang/Integer" "value" "I" u0) (g_ob : n0 ≤ ob) :
    MetFree l (⟨"java/lang/Integer", "<init>", "(I)V"⟩ : MethodName) (head1 (Jvm.Cond.code (⟨"java/lang/Integer", "<init>", "(I)V"⟩ : MethodName) jdk_33_method_23_code 2 none :: ws) ({ frames := 2, cells := 0, slots := 0, locals := 24 } : Room)) (fun A0 U0 => A0 = #[(.ref ob), (.int pv)] ∧ Z.Warmed39 U0.vm ∧ U0.heap = h0) (fun _ _ _ _ _ => True) (fun _ U0 o0 U1 => ∃ v0 L0, o0 = .returned v0 ∧ own_Q_intInit Z ob pv u0 h0 n0 v0 U1.heap L0 ∧ FrameEnd U0 o0 U1 L0 ({ frames := 2, cells := 0, slots := 0, locals := 24 } : Room).cells ({ frames := 2, cells := 0, slots := 0, locals := 24 } : Room).slots) := by
  refine MetFree.of_bodySF (plainFor_of_name own_pn_java_lang_Integer) hisR ?_
  intro p e s m args below meth c s₁ Bd hml0 hP hK
  obtain ⟨rfl, hZ, hh⟩ := hP
  have hx := Bd.exec
  have hby := Bd.bytes
  have hml : c.maxLocals = 2 := hml0
  have hown : s.vm.findClass "java/lang/Integer" = some m.cls := findClass_of_methodNamed Bd.named
  have hnm := (name_of_methodNamed Bd.named Bd.method).1
  have X0 : Stand p l e ({ frames := 2, cells := 0, slots := 0, locals := 24 } : Room) s m #[(.ref ob), (.int pv)] below meth c s₁ [] 0 0 := Stand.of_body Bd
  have e0 : s₁.heap = h0 := by rw [← hh, Bd.state]; rfl
  have N0 := Fr.nil n0
  refine OwnFin.entry (own_ef_intInit m ob pv) (fun P' hP' => ?_)
  refine OwnFin.adv (B := s₁.setTop (mkF m 1 #[.val (.ref ob), .val (.int pv)] [(.ref ob)])) (fun _ k => XS.aloadN X0.here hx rfl (hb hby own_d9_0) rfl rfl k) ?_
  obtain ⟨_, _, ⟨T1, L1, k1, n1⟩, -, X1, ⟨Lc1, hQ1, l1, y1, z1⟩, st1⟩ := X0.specialBack hx (y := (⟨"java/lang/Number", "<init>", "()V"⟩ : MethodName)) rfl hown (mvT hZ (hw _ (List.mem_of_getElem? (i := 94) rfl))) (mvT hZ (hw _ (List.mem_of_getElem? (i := 95) rfl))) (mvT hZ (hw _ (List.mem_of_getElem? (i := 99) rfl))) (by decide) (backOf (W := 0) (own_numInit l Z a0 hw [] ob h0 n0 (by omega)) hZ (hw _ (List.mem_of_getElem? (i := 99) rfl)) (hw _ (List.mem_of_getElem? (i := 98) rfl)) (by decide) (by decide)) (g := (mkF m 1 #[.val (.ref ob), .val (.int pv)] [(.ref ob)])) rfl (by rw [hml]; rfl) (Steps.refl _) (a := ob) (argsL := []) (rest := []) (lenOf own_pd_x28x29V rfl) rfl (by show 2 * 0 + _ ≤ _; exact Nat.le_of_eq rfl) (hb hby own_d9_1) (fun _ _ => ⟨rfl, e0, (by decide : 0 + 0 ≤ _), (by decide : 0 + 0 ≤ _)⟩)
  dsimp only [Pt.U, Pt.locs, Pt.cells, Pt.slots] at X1 l1 y1 z1 st1 hQ1
  subst l1 y1 z1
  obtain ⟨rfl, N1q, eh1⟩ := hQ1
  have N1 := Fr.app N0 N1q
  refine OwnFin.adv (B := T1.setTop (mkF m 4 #[.val (.ref ob), .val (.int pv)] [])) (fun _ k => st1.trans k) ?_
  refine OwnFin.adv (B := T1.setTop (mkF m 5 #[.val (.ref ob), .val (.int pv)] [(.ref ob)])) (fun _ k => XS.aloadN X1.here hx rfl (hb hby own_d9_4) rfl rfl k) ?_
  refine OwnFin.adv (B := T1.setTop (mkF m 6 #[.val (.ref ob), .val (.int pv)] [(.int pv), (.ref ob)])) (fun _ k => XS.iloadN X1.here hx rfl (hb hby own_d9_5) rfl k) ?_
  obtain ⟨T2, h2, X2, e2, W2, st2⟩ := putF X1 hx hZ hown (host := "") (Or.inl (hw _ (List.mem_of_getElem? (i := 101) rfl))) Via.refl eh1 F E (Or.inr ⟨(hw _ (List.mem_of_getElem? (i := 102) rfl)), rfl, hnm⟩) (hw _ (List.mem_of_getElem? (i := 89) rfl)) (ty := .int) (by decide) rfl rfl (g := (mkF m 6 #[.val (.ref ob), .val (.int pv)] [(.int pv), (.ref ob)])) rfl rfl (hb hby own_d9_6)
  have Fw2 : Fld Z h2 ob "java/lang/Integer" "value" "I" (.int pv) := F.same W2
  have sz3 : h0.size ≤ h2.size := Nat.le_of_eq W2.size.symm
  have N2 := Fr.snoc X2 N1 (by omega : n0 ≤ ob)
  refine OwnFin.adv (B := T2.setTop (mkF m 9 #[.val (.ref ob), .val (.int pv)] [])) (fun _ k => st2 _ k) ?_
  obtain ⟨fs, hr, hrun, hended, hW, hsame⟩ := X2.leave (v := none) (fun _ => rfl)
  refine OwnFin.leaf hP' ⟨_, _, X2.returnOut hx Bd.returns (hb hby own_d9_9) hr, hrun, hended, _, _, rfl, ?_, ⟨_, rfl⟩, hW, hsame.mono (by decide) (by decide)⟩
  rw [show (T2.setFrames fs).heap = h2 from e2]
  exact ⟨rfl, N2, ((Keep.refl h0 [ob]).wr W2 (Or.inl (List.mem_of_getElem? (i := 0) rfl))), Fw2⟩
theorem own_inbox {i : Int32} (h1 : ¬ i < (-128 : Int32)) (h2 : ¬ (127 : Int32) < i) : ¬ (i + (128 : Int32)) < 0 ∧ (i + (128 : Int32)) < (256 : Int32) := by
  have e := c_iadd i 128
  have r := rng32 (i + 128)
  have r0 := rng32 i
  rw [Int32.lt_iff_toInt_lt] at h1 h2 ⊢
  rw [Int32.lt_iff_toInt_lt]
  have a1 : (-128 : Int32).toInt = -128 := by decide
  have a2 : (127 : Int32).toInt = 127 := by decide
  have a3 : (128 : Int32).toInt = 128 := by decide
  have a4 : (256 : Int32).toInt = 256 := by decide
  have a5 : (0 : Int32).toInt = 0 := by decide
  rw [a1] at h1; rw [a2] at h2; rw [a3] at e; rw [a4, a5]
  omega
theorem own_d6_0 : decode jdk_33_method_22_code 0 = .ok (.iload_n 0, 1) := by decide +kernel
theorem own_d6_1 : decode jdk_33_method_22_code 1 = .ok (.bipush (-128), 2) := by decide +kernel
theorem own_d6_3 : decode jdk_33_method_22_code 3 = .ok (.if_icmp .lt 20, 3) := by decide +kernel
theorem own_d6_23 : decode jdk_33_method_22_code 23 = .ok (.new 1, 3) := by decide +kernel
theorem own_d6_26 : decode jdk_33_method_22_code 26 = .ok (.dup, 1) := by decide +kernel
theorem own_d6_27 : decode jdk_33_method_22_code 27 = .ok (.iload_n 0, 1) := by decide +kernel
theorem own_pd_x28Ix29V : parseMethodDescriptor "(I)V" = some ⟨[.int], none⟩ := by decide +kernel
theorem own_d6_28 : decode jdk_33_method_22_code 28 = .ok (.invokespecial 199, 3) := by decide +kernel
theorem own_d6_31 : decode jdk_33_method_22_code 31 = .ok (.areturn, 1) := by decide +kernel
theorem own_d6_6 : decode jdk_33_method_22_code 6 = .ok (.iload_n 0, 1) := by decide +kernel
theorem own_d6_7 : decode jdk_33_method_22_code 7 = .ok (.getstatic 191, 3) := by decide +kernel
theorem own_d6_10 : decode jdk_33_method_22_code 10 = .ok (.if_icmp .gt 13, 3) := by decide +kernel
theorem own_d6_13 : decode jdk_33_method_22_code 13 = .ok (.getstatic 195, 3) := by decide +kernel
theorem own_d6_16 : decode jdk_33_method_22_code 16 = .ok (.iload_n 0, 1) := by decide +kernel
theorem own_d6_17 : decode jdk_33_method_22_code 17 = .ok (.sipush 128, 3) := by decide +kernel
theorem own_d6_20 : decode jdk_33_method_22_code 20 = .ok (.iadd, 1) := by decide +kernel
theorem own_d6_21 : decode jdk_33_method_22_code 21 = .ok (.aaload, 1) := by decide +kernel
theorem own_d6_22 : decode jdk_33_method_22_code 22 = .ok (.areturn, 1) := by decide +kernel
theorem own_ef_valueOf (m : MethodId) (x0 : Int32) : entryFrame m #[(.int x0)] 1 = mkF m 0 #[.val (.int x0)] [] := by first | (simp [entryFrame, mkF, argsToLocals, Value.category]; done) | rfl
def own_Q_valueOf (Z : State) (iv : Int32) (ca : Addr) (cl : Cell) (h0 : Heap) (n0 : Nat) (v : Option Value) (h : Heap) (L : List Loc) : Prop := ∃ r : Addr, v = some (.ref r) ∧ Fr n0 L ∧ Keep h0 h [] ∧ Exa Z h r "java/lang/Integer"
set_option maxRecDepth 65536 in
set_option maxHeartbeats 40000000 in
theorem own_valueOf (l : Launch) (Z : State) (a0 : Array Value) (hw : ∀ d ∈ tables_1, d.before a0 Z = true) (ws : List Jvm.Cond) (iv : Int32) (ca : Addr) (cl : Cell) (h0 : Heap) (n0 : Nat) (Z0 : n0 ≤ h0.size) (O0 : Old Z n0 h0) (SH : Sta Z Z.heap "java/lang/Integer$IntegerCache" "high" "I" (.int (127 : Int32))) (SC : Sta Z Z.heap "java/lang/Integer$IntegerCache" "cache" "[Ljava/lang/Integer;" (.ref ca)) (BX : Bxs Z ca cl "java/lang/Integer" "I" 256 (fun j => .int (j - 128))) :
    MetFree l (⟨"java/lang/Integer", "valueOf", "(I)Ljava/lang/Integer;"⟩ : MethodName) (head1 (Jvm.Cond.code (⟨"java/lang/Integer", "valueOf", "(I)Ljava/lang/Integer;"⟩ : MethodName) jdk_33_method_22_code 1 (some (.object "java/lang/Integer")) :: ws) ({ frames := 3, cells := 1, slots := 1, locals := 38 } : Room)) (fun A0 U0 => A0 = #[(.int iv)] ∧ Z.Warmed39 U0.vm ∧ U0.heap = h0) (fun _ _ _ _ _ => True) (fun _ U0 o0 U1 => ∃ v0 L0, o0 = .returned v0 ∧ own_Q_valueOf Z iv ca cl h0 n0 v0 U1.heap L0 ∧ FrameEnd U0 o0 U1 L0 ({ frames := 3, cells := 1, slots := 1, locals := 38 } : Room).cells ({ frames := 3, cells := 1, slots := 1, locals := 38 } : Room).slots) := by
  refine MetFree.of_bodySF (plainFor_of_name own_pn_java_lang_Integer) hisR ?_
  intro p e s m args below meth c s₁ Bd hml0 hP hK
  obtain ⟨rfl, hZ, hh⟩ := hP
  have hx := Bd.exec
  have hby := Bd.bytes
  have hml : c.maxLocals = 1 := hml0
  have hown : s.vm.findClass "java/lang/Integer" = some m.cls := findClass_of_methodNamed Bd.named
  have hnm := (name_of_methodNamed Bd.named Bd.method).1
  have X0 : Stand p l e ({ frames := 3, cells := 1, slots := 1, locals := 38 } : Room) s m #[(.int iv)] below meth c s₁ [] 0 0 := Stand.of_body Bd
  have e0 : s₁.heap = h0 := by rw [← hh, Bd.state]; rfl
  have N0 := Fr.nil n0
  refine OwnFin.entry (own_ef_valueOf m iv) (fun P' hP' => ?_)
  refine OwnFin.adv (B := s₁.setTop (mkF m 1 #[.val (.int iv)] [(.int iv)])) (fun _ k => XS.iloadN X0.here hx rfl (hb hby own_d6_0) rfl k) ?_
  refine OwnFin.adv (B := s₁.setTop (mkF m 3 #[.val (.int iv)] [(.int (-128 : Int32)), (.int iv)])) (fun _ k => XS.bipush X0.here hx rfl (hb hby own_d6_1) k) ?_
  by_cases hc3 : iv < (-128 : Int32)
  ·
    refine OwnFin.adv (B := s₁.setTop (mkF m 23 #[.val (.int iv)] [])) (fun _ k => XS.icmpYes X0.here hx rfl (pc0 := 3) (pc' := 23) rfl (hb hby own_d6_3) rfl (tlt hc3).1 (by decide) (by decide) k) ?_
    obtain ⟨T1, h1, X1, e1, E1, A1, D1, -, st1⟩ := newO X0 hx hZ hown (hw _ (List.mem_of_getElem? (i := 88) rfl)) (hw _ (List.mem_of_getElem? (i := 89) rfl)) (hw _ (List.mem_of_getElem? (i := 55) rfl)) e0 (g := (mkF m 23 #[.val (.int iv)] [])) rfl (hb hby own_d6_23) (by decide) (by decide)
    obtain ⟨b1, g1⟩ : ∃ z, z = h0.size := ⟨_, rfl⟩
    rw [← g1] at A1 D1 st1
    have sz2 : h0.size ≤ h1.size := E1.1
    have lt_b1 := own_lt A1.lt
    have F1_value : Fld Z h1 b1 "java/lang/Integer" "value" "I" (.int (0 : Int32)) := D1 (Or.inr (hw _ (List.mem_of_getElem? (i := 102) rfl))) (ty := .int) (by decide)
    refine OwnFin.adv (B := T1.setTop (mkF m 26 #[.val (.int iv)] [(.ref b1)])) (fun _ k => st1 _ k) ?_
    refine OwnFin.adv (B := T1.setTop (mkF m 27 #[.val (.int iv)] [(.ref b1), (.ref b1)])) (fun _ k => XS.dup X1.here hx rfl (hb hby own_d6_26) rfl rfl k) ?_
    refine OwnFin.adv (B := T1.setTop (mkF m 28 #[.val (.int iv)] [(.int iv), (.ref b1), (.ref b1)])) (fun _ k => XS.iloadN X1.here hx rfl (hb hby own_d6_27) rfl k) ?_
    obtain ⟨_, _, ⟨T3, L3, k3, n3⟩, -, X3, ⟨Lc3, hQ3, l3, y3, z3⟩, st3⟩ := X1.specialBack hx (y := (⟨"java/lang/Integer", "<init>", "(I)V"⟩ : MethodName)) rfl hown (mvT hZ (hw _ (List.mem_of_getElem? (i := 90) rfl))) (mvT hZ (hw _ (List.mem_of_getElem? (i := 91) rfl))) (mvT hZ (hw _ (List.mem_of_getElem? (i := 93) rfl))) (by decide) (backOf (W := 1) (own_intInit l Z a0 hw [] b1 iv _ h1 n0 (by omega) A1 F1_value (by omega)) hZ (hw _ (List.mem_of_getElem? (i := 93) rfl)) (hw _ (List.mem_of_getElem? (i := 55) rfl)) (by decide) (by decide)) (g := (mkF m 28 #[.val (.int iv)] [(.int iv), (.ref b1), (.ref b1)])) rfl (by rw [hml]; rfl) (Steps.refl _) (a := b1) (argsL := [(.int iv)]) (rest := [(.ref b1)]) (lenOf own_pd_x28Ix29V rfl) rfl (by show 2 * 0 + _ ≤ _; exact Nat.le_of_eq rfl) (hb hby own_d6_28) (fun _ _ => ⟨rfl, e1, (by decide : 1 + 0 ≤ _), (by decide : 1 + 0 ≤ _)⟩)
    dsimp only [Pt.U, Pt.locs, Pt.cells, Pt.slots] at X3 l3 y3 z3 st3 hQ3
    subst l3 y3 z3
    obtain ⟨rfl, N3q, K3, Fi3⟩ := hQ3
    have N3 := Fr.app N0 N3q
    have sz4 : h1.size ≤ T3.heap.size := K3.1
    refine OwnFin.adv (B := T3.setTop (mkF m 31 #[.val (.int iv)] [(.ref b1)])) (fun _ k => st3.trans k) ?_
    obtain ⟨fs, hr, hrun, hended, hW, hsame⟩ := X3.leave (v := some (.ref b1)) (fun h => by rw [Bd.returns] at h; cases h)
    refine OwnFin.leaf hP' ⟨_, _, own_retR X3 hx Bd.returns rfl rfl rfl (hb hby own_d6_31) hr, hrun, hended, _, _, rfl, ?_, ⟨_, rfl⟩, hW, hsame.mono (by decide) (by decide)⟩
    have Fv5_2 : Exa Z T3.heap b1 "java/lang/Integer" := (A1.keep K3)
    rw [show (T3.setFrames fs).heap = T3.heap from rfl]
    exact ⟨_, rfl, N3, (((Keep.refl h0 []).ext E1).trans K3 (allS (Or.inr (by omega)) all0)), Fv5_2⟩
  ·
    refine OwnFin.adv (B := s₁.setTop (mkF m 6 #[.val (.int iv)] [])) (fun _ k => XS.icmpNo X0.here hx rfl (hb hby own_d6_3) rfl (flt hc3).1 k) ?_
    refine OwnFin.adv (B := s₁.setTop (mkF m 7 #[.val (.int iv)] [(.int iv)])) (fun _ k => XS.iloadN X0.here hx rfl (hb hby own_d6_6) rfl k) ?_
    obtain ⟨T6, X6, e6, st6⟩ := getS2 X0 hx hZ hown (host := "") (Or.inl (hw _ (List.mem_of_getElem? (i := 57) rfl))) Via.refl e0 (own_staK SH O0) (g := (mkF m 7 #[.val (.int iv)] [(.int iv)])) rfl (hb hby own_d6_7)
    refine OwnFin.adv (B := T6.setTop (mkF m 10 #[.val (.int iv)] [(.int (127 : Int32)), (.int iv)])) (fun _ k => st6 _ k) ?_
    by_cases hc10 : (127 : Int32) < iv
    ·
      refine OwnFin.adv (B := T6.setTop (mkF m 23 #[.val (.int iv)] [])) (fun _ k => XS.icmpYes X6.here hx rfl (pc0 := 10) (pc' := 23) rfl (hb hby own_d6_10) rfl (tlt hc10).2.2.1 (by decide) (by decide) k) ?_
      obtain ⟨T7, h7, X7, e7, E7, A7, D7, -, st7⟩ := newO X6 hx hZ hown (hw _ (List.mem_of_getElem? (i := 88) rfl)) (hw _ (List.mem_of_getElem? (i := 89) rfl)) (hw _ (List.mem_of_getElem? (i := 55) rfl)) e6 (g := (mkF m 23 #[.val (.int iv)] [])) rfl (hb hby own_d6_23) (by decide) (by decide)
      obtain ⟨b7, g7⟩ : ∃ z, z = h0.size := ⟨_, rfl⟩
      rw [← g7] at A7 D7 st7
      have sz8 : h0.size ≤ h7.size := E7.1
      have lt_b7 := own_lt A7.lt
      have F7_value : Fld Z h7 b7 "java/lang/Integer" "value" "I" (.int (0 : Int32)) := D7 (Or.inr (hw _ (List.mem_of_getElem? (i := 102) rfl))) (ty := .int) (by decide)
      refine OwnFin.adv (B := T7.setTop (mkF m 26 #[.val (.int iv)] [(.ref b7)])) (fun _ k => st7 _ k) ?_
      refine OwnFin.adv (B := T7.setTop (mkF m 27 #[.val (.int iv)] [(.ref b7), (.ref b7)])) (fun _ k => XS.dup X7.here hx rfl (hb hby own_d6_26) rfl rfl k) ?_
      refine OwnFin.adv (B := T7.setTop (mkF m 28 #[.val (.int iv)] [(.int iv), (.ref b7), (.ref b7)])) (fun _ k => XS.iloadN X7.here hx rfl (hb hby own_d6_27) rfl k) ?_
      obtain ⟨_, _, ⟨T9, L9, k9, n9⟩, -, X9, ⟨Lc9, hQ9, l9, y9, z9⟩, st9⟩ := X7.specialBack hx (y := (⟨"java/lang/Integer", "<init>", "(I)V"⟩ : MethodName)) rfl hown (mvT hZ (hw _ (List.mem_of_getElem? (i := 90) rfl))) (mvT hZ (hw _ (List.mem_of_getElem? (i := 91) rfl))) (mvT hZ (hw _ (List.mem_of_getElem? (i := 93) rfl))) (by decide) (backOf (W := 1) (own_intInit l Z a0 hw [] b7 iv _ h7 n0 (by omega) A7 F7_value (by omega)) hZ (hw _ (List.mem_of_getElem? (i := 93) rfl)) (hw _ (List.mem_of_getElem? (i := 55) rfl)) (by decide) (by decide)) (g := (mkF m 28 #[.val (.int iv)] [(.int iv), (.ref b7), (.ref b7)])) rfl (by rw [hml]; rfl) (Steps.refl _) (a := b7) (argsL := [(.int iv)]) (rest := [(.ref b7)]) (lenOf own_pd_x28Ix29V rfl) rfl (by show 2 * 0 + _ ≤ _; exact Nat.le_of_eq rfl) (hb hby own_d6_28) (fun _ _ => ⟨rfl, e7, (by decide : 1 + 0 ≤ _), (by decide : 1 + 0 ≤ _)⟩)
      dsimp only [Pt.U, Pt.locs, Pt.cells, Pt.slots] at X9 l9 y9 z9 st9 hQ9
      subst l9 y9 z9
      obtain ⟨rfl, N9q, K9, Fi9⟩ := hQ9
      have N9 := Fr.app N0 N9q
      have sz10 : h7.size ≤ T9.heap.size := K9.1
      refine OwnFin.adv (B := T9.setTop (mkF m 31 #[.val (.int iv)] [(.ref b7)])) (fun _ k => st9.trans k) ?_
      obtain ⟨fs, hr, hrun, hended, hW, hsame⟩ := X9.leave (v := some (.ref b7)) (fun h => by rw [Bd.returns] at h; cases h)
      refine OwnFin.leaf hP' ⟨_, _, own_retR X9 hx Bd.returns rfl rfl rfl (hb hby own_d6_31) hr, hrun, hended, _, _, rfl, ?_, ⟨_, rfl⟩, hW, hsame.mono (by decide) (by decide)⟩
      have Fv11_2 : Exa Z T9.heap b7 "java/lang/Integer" := (A7.keep K9)
      rw [show (T9.setFrames fs).heap = T9.heap from rfl]
      exact ⟨_, rfl, N9, (((Keep.refl h0 []).ext E7).trans K9 (allS (Or.inr (by omega)) all0)), Fv11_2⟩
    ·
      refine OwnFin.adv (B := T6.setTop (mkF m 13 #[.val (.int iv)] [])) (fun _ k => XS.icmpNo X6.here hx rfl (hb hby own_d6_10) rfl (flt hc10).2.2.1 k) ?_
      obtain ⟨T12, X12, e12, st12⟩ := getS2 X6 hx hZ hown (host := "") (Or.inl (hw _ (List.mem_of_getElem? (i := 59) rfl))) Via.refl e6 (own_staK SC O0) (g := (mkF m 13 #[.val (.int iv)] [])) rfl (hb hby own_d6_13)
      refine OwnFin.adv (B := T12.setTop (mkF m 16 #[.val (.int iv)] [(.ref ca)])) (fun _ k => st12 _ k) ?_
      refine OwnFin.adv (B := T12.setTop (mkF m 17 #[.val (.int iv)] [(.int iv), (.ref ca)])) (fun _ k => XS.iloadN X12.here hx rfl (hb hby own_d6_16) rfl k) ?_
      refine OwnFin.adv (B := T12.setTop (mkF m 20 #[.val (.int iv)] [(.int (128 : Int32)), (.int iv), (.ref ca)])) (fun _ k => XS.sipush X12.here hx rfl (hb hby own_d6_17) k) ?_
      refine OwnFin.adv (B := T12.setTop (mkF m 21 #[.val (.int iv)] [(.int (iv + (128 : Int32))), (.ref ca)])) (fun _ k => XS.iadd X12.here hx rfl (hb hby own_d6_20) rfl k) ?_
      obtain ⟨Ar, hsz, hz⟩ := BX.ext O0.2
      have hin : ¬ ((iv + (128 : Int32)) < 0 ∨ cl.slots.size ≤ ((iv + (128 : Int32))).toNatClampNeg) := inb_of hsz (own_inbox hc3 hc10)
      obtain ⟨bx, hbx, Ebx, Fbx⟩ := BX.2.2.2 _ hin
      refine OwnFin.adv (B := T12.setTop (mkF m 22 #[.val (.int iv)] [(.ref bx)])) (fun _ k => X12.aaload hx (j := (iv + (128 : Int32))) (v := .ref bx) (by rw [e12]; exact Ar.1) (State.isArrayOf_alike hZ.alike Ar.2.1) rfl Ar.2.2 hin hbx (g := (mkF m 21 #[.val (.int iv)] [(.int (iv + (128 : Int32))), (.ref ca)])) rfl rfl (hb hby own_d6_21) _ k) ?_
      obtain ⟨fs, hr, hrun, hended, hW, hsame⟩ := X12.leave (v := some (.ref bx)) (fun h => by rw [Bd.returns] at h; cases h)
      refine OwnFin.leaf hP' ⟨_, _, own_retR X12 hx Bd.returns rfl rfl rfl (hb hby own_d6_22) hr, hrun, hended, _, _, rfl, ?_, ⟨_, rfl⟩, hW, hsame.mono (by decide) (by decide)⟩
      rw [show (T12.setFrames fs).heap = h0 from e12]
      exact ⟨_, rfl, N0, (Keep.refl h0 []), (Ebx.ext O0.2)⟩
theorem own_i8 (x : Int32) : x.toInt8.toInt32.toInt8.toInt32 = x.toInt8.toInt32 := by simp

theorem own_d2_0 : decode jdk_43_method_3_code 0 = .ok (.iload_n 0, 1) := by decide +kernel
theorem own_d2_1 : decode jdk_43_method_3_code 1 = .ok (.sipush 255, 3) := by decide +kernel
theorem own_d2_4 : decode jdk_43_method_3_code 4 = .ok (.if_icmp .gt 7, 3) := by decide +kernel
theorem own_d2_7 : decode jdk_43_method_3_code 7 = .ok (.iconst 1, 1) := by decide +kernel
theorem own_d2_8 : decode jdk_43_method_3_code 8 = .ok (.goto 4, 3) := by decide +kernel
theorem own_d2_12 : decode jdk_43_method_3_code 12 = .ok (.ireturn, 1) := by decide +kernel
theorem own_ef_canEnc (m : MethodId) (x0 : Int32) : entryFrame m #[(.int x0)] 1 = mkF m 0 #[.val (.int x0)] [] := by first | (simp [entryFrame, mkF, argsToLocals, Value.category]; done) | rfl
theorem own_pn_java_lang_StringLatin1 : plainName "java/lang/StringLatin1" = true := by first | (simp [plainName, overriddenIn]; done) | decide +kernel
def own_Q_canEnc (Z : State) (cc : Int32) (h0 : Heap) (n0 : Nat) (v : Option Value) (h : Heap) (L : List Loc) : Prop := v = some (.int (1 : Int32)) ∧ Fr n0 L ∧ h = h0
set_option maxRecDepth 65536 in
set_option maxHeartbeats 40000000 in
theorem own_canEnc (l : Launch) (Z : State) (a0 : Array Value) (hw : ∀ d ∈ tables_1, d.before a0 Z = true) (ws : List Jvm.Cond) (cc : Int32) (h0 : Heap) (n0 : Nat) (Z0 : n0 ≤ h0.size) (hcc : ¬ (255 : Int32) < cc) :
    MetFree l (⟨"java/lang/StringLatin1", "canEncode", "(C)Z"⟩ : MethodName) (head1 (Jvm.Cond.code (⟨"java/lang/StringLatin1", "canEncode", "(C)Z"⟩ : MethodName) jdk_43_method_3_code 1 (some .boolean) :: ws) ({ frames := 0, cells := 0, slots := 0, locals := 0 } : Room)) (fun A0 U0 => A0 = #[(.int cc)] ∧ Z.Warmed39 U0.vm ∧ U0.heap = h0) (fun _ _ _ _ _ => True) (fun _ U0 o0 U1 => ∃ v0 L0, o0 = .returned v0 ∧ own_Q_canEnc Z cc h0 n0 v0 U1.heap L0 ∧ FrameEnd U0 o0 U1 L0 ({ frames := 0, cells := 0, slots := 0, locals := 0 } : Room).cells ({ frames := 0, cells := 0, slots := 0, locals := 0 } : Room).slots) := by
  refine MetFree.of_bodySF (plainFor_of_name own_pn_java_lang_StringLatin1) hisR ?_
  intro p e s m args below meth c s₁ Bd hml0 hP hK
  obtain ⟨rfl, hZ, hh⟩ := hP
  have hx := Bd.exec
  have hby := Bd.bytes
  have hml : c.maxLocals = 1 := hml0
  have hown : s.vm.findClass "java/lang/StringLatin1" = some m.cls := findClass_of_methodNamed Bd.named
  have hnm := (name_of_methodNamed Bd.named Bd.method).1
  have X0 : Stand p l e ({ frames := 0, cells := 0, slots := 0, locals := 0 } : Room) s m #[(.int cc)] below meth c s₁ [] 0 0 := Stand.of_body Bd
  have e0 : s₁.heap = h0 := by rw [← hh, Bd.state]; rfl
  have N0 := Fr.nil n0
  refine OwnFin.entry (own_ef_canEnc m cc) (fun P' hP' => ?_)
  refine OwnFin.adv (B := s₁.setTop (mkF m 1 #[.val (.int cc)] [(.int cc)])) (fun _ k => XS.iloadN X0.here hx rfl (hb hby own_d2_0) rfl k) ?_
  refine OwnFin.adv (B := s₁.setTop (mkF m 4 #[.val (.int cc)] [(.int (255 : Int32)), (.int cc)])) (fun _ k => XS.sipush X0.here hx rfl (hb hby own_d2_1) k) ?_
  have hc4_3 : ¬ ((255 : Int32) < cc) := hcc
  refine OwnFin.adv (B := s₁.setTop (mkF m 7 #[.val (.int cc)] [])) (fun _ k => XS.icmpNo X0.here hx rfl (hb hby own_d2_4) rfl (flt hc4_3).2.2.1 k) ?_
  refine OwnFin.adv (B := s₁.setTop (mkF m 8 #[.val (.int cc)] [(.int (1 : Int32))])) (fun _ k => XS.iconst X0.here hx rfl (hb hby own_d2_7) k) ?_
  refine OwnFin.adv (B := s₁.setTop (mkF m 12 #[.val (.int cc)] [(.int (1 : Int32))])) (fun _ k => XS.goto X0.here hx rfl (pc0 := 8) (pc' := 12) rfl (hb hby own_d2_8) (by decide) (by decide) k) ?_
  obtain ⟨fs, hr, hrun, hended, hW, hsame⟩ := X0.leave (v := some (.int (1 : Int32))) (fun h => by rw [Bd.returns] at h; cases h)
  refine OwnFin.leaf hP' ⟨_, _, retN X0 hx (t := .boolean) Bd.returns (by simp) (hb hby own_d2_12) hr, hrun, hended, _, _, rfl, ?_, ⟨_, rfl⟩, hW, hsame.mono (by decide) (by decide)⟩
  exact ⟨rfl, N0, e0⟩
theorem own_d3_0 : decode jdk_43_method_46_code 0 = .ok (.iconst 1, 1) := by decide +kernel
theorem own_d3_1 : decode jdk_43_method_46_code 1 = .ok (.newarray .byte, 2) := by decide +kernel
theorem own_d3_3 : decode jdk_43_method_46_code 3 = .ok (.dup, 1) := by decide +kernel
theorem own_d3_4 : decode jdk_43_method_46_code 4 = .ok (.iconst 0, 1) := by decide +kernel
theorem own_d3_5 : decode jdk_43_method_46_code 5 = .ok (.iload_n 0, 1) := by decide +kernel
theorem own_d3_6 : decode jdk_43_method_46_code 6 = .ok (.i2b, 1) := by decide +kernel
theorem own_d3_7 : decode jdk_43_method_46_code 7 = .ok (.bastore, 1) := by decide +kernel
theorem own_d3_8 : decode jdk_43_method_46_code 8 = .ok (.areturn, 1) := by decide +kernel
theorem own_ef_toB (m : MethodId) (x0 : Int32) : entryFrame m #[(.int x0)] 1 = mkF m 0 #[.val (.int x0)] [] := by first | (simp [entryFrame, mkF, argsToLocals, Value.category]; done) | rfl
def own_Q_toB (Z : State) (cc : Int32) (h0 : Heap) (n0 : Nat) (v : Option Value) (h : Heap) (L : List Loc) : Prop := ∃ (t : Addr) (kb : ClassId), v = some (.ref t) ∧ Fr n0 L ∧ Keep h0 h [] ∧ h0.size ≤ t ∧ Arv Z h t kb .byte (1 : Int32) [(.int cc.toInt8.toInt32)] (.int (0 : Int32))
set_option maxRecDepth 65536 in
set_option maxHeartbeats 40000000 in
theorem own_toB (l : Launch) (Z : State) (a0 : Array Value) (hw : ∀ d ∈ tables_1, d.before a0 Z = true) (ws : List Jvm.Cond) (cc : Int32) (h0 : Heap) (n0 : Nat) (Z0 : n0 ≤ h0.size) :
    MetFree l (⟨"java/lang/StringLatin1", "toBytes", "(C)[B"⟩ : MethodName) (head1 (Jvm.Cond.code (⟨"java/lang/StringLatin1", "toBytes", "(C)[B"⟩ : MethodName) jdk_43_method_46_code 1 (some (.array .byte)) :: ws) ({ frames := 0, cells := 1, slots := 1, locals := 0 } : Room)) (fun A0 U0 => A0 = #[(.int cc)] ∧ Z.Warmed39 U0.vm ∧ U0.heap = h0) (fun _ _ _ _ _ => True) (fun _ U0 o0 U1 => ∃ v0 L0, o0 = .returned v0 ∧ own_Q_toB Z cc h0 n0 v0 U1.heap L0 ∧ FrameEnd U0 o0 U1 L0 ({ frames := 0, cells := 1, slots := 1, locals := 0 } : Room).cells ({ frames := 0, cells := 1, slots := 1, locals := 0 } : Room).slots) := by
  refine MetFree.of_bodySF (plainFor_of_name own_pn_java_lang_StringLatin1) hisR ?_
  intro p e s m args below meth c s₁ Bd hml0 hP hK
  obtain ⟨rfl, hZ, hh⟩ := hP
  have hx := Bd.exec
  have hby := Bd.bytes
  have hml : c.maxLocals = 1 := hml0
  have hown : s.vm.findClass "java/lang/StringLatin1" = some m.cls := findClass_of_methodNamed Bd.named
  have hnm := (name_of_methodNamed Bd.named Bd.method).1
  have X0 : Stand p l e ({ frames := 0, cells := 1, slots := 1, locals := 0 } : Room) s m #[(.int cc)] below meth c s₁ [] 0 0 := Stand.of_body Bd
  have e0 : s₁.heap = h0 := by rw [← hh, Bd.state]; rfl
  have N0 := Fr.nil n0
  refine OwnFin.entry (own_ef_toB m cc) (fun P' hP' => ?_)
  refine OwnFin.adv (B := s₁.setTop (mkF m 1 #[.val (.int cc)] [(.int (1 : Int32))])) (fun _ k => XS.iconst X0.here hx rfl (hb hby own_d3_0) k) ?_
  obtain ⟨T1, h1, k1, X1, e1, E1, A1, st1⟩ := newP X0 hx hZ (hw _ (List.mem_of_getElem? (i := 34) rfl)) e0 (g := (mkF m 1 #[.val (.int cc)] [(.int (1 : Int32))])) rfl (hb hby own_d3_1) rfl (by decide) (cap := 1) (by decide) (by decide) (by decide) (by decide)
  obtain ⟨b1, g1⟩ : ∃ z, z = h0.size := ⟨_, rfl⟩
  rw [← g1] at A1 st1
  have sz2 : h0.size ≤ h1.size := E1.1
  have lt_b1 := own_lt A1.lt
  have V1 : Arv Z h1 b1 k1 .byte (1 : Int32) [(.int (0 : Int32))] (.int (0 : Int32)) := (Arv.new A1 (by decide)).pad (pad_rep [] (.int (0 : Int32)) 1)
  refine OwnFin.adv (B := T1.setTop (mkF m 3 #[.val (.int cc)] [(.ref b1)])) (fun _ k => st1 _ k) ?_
  refine OwnFin.adv (B := T1.setTop (mkF m 4 #[.val (.int cc)] [(.ref b1), (.ref b1)])) (fun _ k => XS.dup X1.here hx rfl (hb hby own_d3_3) rfl rfl k) ?_
  refine OwnFin.adv (B := T1.setTop (mkF m 5 #[.val (.int cc)] [(.int (0 : Int32)), (.ref b1), (.ref b1)])) (fun _ k => XS.iconst X1.here hx rfl (hb hby own_d3_4) k) ?_
  refine OwnFin.adv (B := T1.setTop (mkF m 6 #[.val (.int cc)] [(.int cc), (.int (0 : Int32)), (.ref b1), (.ref b1)])) (fun _ k => XS.iloadN X1.here hx rfl (hb hby own_d3_5) rfl k) ?_
  refine OwnFin.adv (B := T1.setTop (mkF m 7 #[.val (.int cc)] [(.int (cc.toInt8.toInt32)), (.int (0 : Int32)), (.ref b1), (.ref b1)])) (fun _ k => XS.i2b X1.here hx rfl (hb hby own_d3_6) rfl k) ?_
  obtain ⟨cl3, Ar3, ck3, S3, M3, H3, G3⟩ := id V1
  have hin3 : ¬ ((0 : Int32) < 0 ∨ cl3.slots.size ≤ ((0 : Int32)).toNatClampNeg) := inb_of S3 ⟨by decide, by decide⟩
  obtain ⟨T3, h3, X3, e3, W3, st3⟩ := stB X1 hx hZ e1 Ar3 (j := (0 : Int32)) hin3 (g := (mkF m 7 #[.val (.int cc)] [(.int (cc.toInt8.toInt32)), (.int (0 : Int32)), (.ref b1), (.ref b1)])) rfl rfl (hb hby own_d3_7)
  have V3 : Arv Z h3 b1 k1 .byte (1 : Int32) [(.int (cc.toInt8.toInt32).toInt8.toInt32)] (.int (0 : Int32)) := Arv.set Ar3 ck3 S3 M3 H3 G3 (fits_nar_byte _) W3 0 rfl (Nat.le_of_ble_eq_true rfl)
  have V3s : Arv Z h3 b1 k1 .byte (1 : Int32) [(.int cc.toInt8.toInt32)] (.int (0 : Int32)) := by
    have q := V3
    rw [show ((.int (cc.toInt8.toInt32).toInt8.toInt32) : Value) = (.int cc.toInt8.toInt32) from congrArg Value.int (own_i8 _)] at q
    exact q
  have sz4 : h1.size ≤ h3.size := Nat.le_of_eq W3.size.symm
  have N3 := Fr.snoc X3 N0 (by omega : n0 ≤ b1)
  refine OwnFin.adv (B := T3.setTop (mkF m 8 #[.val (.int cc)] [(.ref b1)])) (fun _ k => st3 _ k) ?_
  obtain ⟨fs, hr, hrun, hended, hW, hsame⟩ := X3.leave (v := some (.ref b1)) (fun h => by rw [Bd.returns] at h; cases h)
  refine OwnFin.leaf hP' ⟨_, _, own_retR X3 hx Bd.returns rfl rfl rfl (hb hby own_d3_8) hr, hrun, hended, _, _, rfl, ?_, ⟨_, rfl⟩, hW, hsame.mono (by decide) (by decide)⟩
  rw [show (T3.setFrames fs).heap = h3 from e3]
  exact ⟨_, _, rfl, N3, (((Keep.refl h0 []).ext E1).wr W3 (Or.inr (by omega))), by omega, V3s⟩
theorem own_d4_0 : decode jdk_42_method_151_code 0 = .ok (.aload_n 0, 1) := by decide +kernel
theorem own_d4_1 : decode jdk_42_method_151_code 1 = .ok (.invokespecial 1, 3) := by decide +kernel
theorem own_d4_4 : decode jdk_42_method_151_code 4 = .ok (.aload_n 0, 1) := by decide +kernel
theorem own_d4_5 : decode jdk_42_method_151_code 5 = .ok (.aload_n 1, 1) := by decide +kernel
theorem own_d4_6 : decode jdk_42_method_151_code 6 = .ok (.putfield 9, 3) := by decide +kernel
theorem own_d4_9 : decode jdk_42_method_151_code 9 = .ok (.aload_n 0, 1) := by decide +kernel
theorem own_d4_10 : decode jdk_42_method_151_code 10 = .ok (.iload_n 2, 1) := by decide +kernel
theorem own_d4_11 : decode jdk_42_method_151_code 11 = .ok (.putfield 15, 3) := by decide +kernel
theorem own_d4_14 : decode jdk_42_method_151_code 14 = .ok (.return_, 1) := by decide +kernel
theorem own_ef_strBB (m : MethodId) (x0 : Addr) (x1 : Addr) (x2 : Int32) : entryFrame m #[(.ref x0), (.ref x1), (.int x2)] 3 = mkF m 0 #[.val (.ref x0), .val (.ref x1), .val (.int x2)] [] := by first | (simp [entryFrame, mkF, argsToLocals, Value.category]; done) | rfl
theorem own_pn_java_lang_String : plainName "java/lang/String" = true := by first | (simp [plainName, overriddenIn]; done) | decide +kernel
def own_Q_strBB (Z : State) (ob tb : Addr) (u0 u1 : Value) (h0 : Heap) (n0 : Nat) (v : Option Value) (h : Heap) (L : List Loc) : Prop := v = none ∧ Fr n0 L ∧ Keep h0 h [ob] ∧ Fld Z h ob "java/lang/String" "value" "[B" (.ref tb) ∧ Fld Z h ob "java/lang/String" "coder" "B" (.int (0 : Int32))
set_option maxRecDepth 65536 in
set_option maxHeartbeats 40000000 in
theorem own_strBB (l : Launch) (Z : State) (a0 : Array Value) (hw : ∀ d ∈ tables_1, d.before a0 Z = true) (ws : List Jvm.Cond) (ob tb : Addr) (u0 u1 : Value) (h0 : Heap) (n0 : Nat) (Z0 : n0 ≤ h0.size) (E : Exa Z h0 ob "java/lang/String") (Fv : Fld Z h0 ob "java/lang/String" "value" "[B" u0) (Fc : Fld Z h0 ob "java/lang/String" "coder" "B" u1) (g_ob : n0 ≤ ob) :
    MetFree l (⟨"java/lang/String", "<init>", "([BB)V"⟩ : MethodName) (head1 (Jvm.Cond.code (⟨"java/lang/String", "<init>", "([BB)V"⟩ : MethodName) jdk_42_method_151_code 3 none :: ws) ({ frames := 1, cells := 0, slots := 0, locals := 12 } : Room)) (fun A0 U0 => A0 = #[(.ref ob), (.ref tb), (.int (0 : Int32))] ∧ Z.Warmed39 U0.vm ∧ U0.heap = h0) (fun _ _ _ _ _ => True) (fun _ U0 o0 U1 => ∃ v0 L0, o0 = .returned v0 ∧ own_Q_strBB Z ob tb u0 u1 h0 n0 v0 U1.heap L0 ∧ FrameEnd U0 o0 U1 L0 ({ frames := 1, cells := 0, slots := 0, locals := 12 } : Room).cells ({ frames := 1, cells := 0, slots := 0, locals := 12 } : Room).slots) := by
  refine MetFree.of_bodySF (plainFor_of_name own_pn_java_lang_String) hisR ?_
  intro p e s m args below meth c s₁ Bd hml0 hP hK
  obtain ⟨rfl, hZ, hh⟩ := hP
  have hx := Bd.exec
  have hby := Bd.bytes
  have hml : c.maxLocals = 3 := hml0
  have hown : s.vm.findClass "java/lang/String" = some m.cls := findClass_of_methodNamed Bd.named
  have hnm := (name_of_methodNamed Bd.named Bd.method).1
  have X0 : Stand p l e ({ frames := 1, cells := 0, slots := 0, locals := 12 } : Room) s m #[(.ref ob), (.ref tb), (.int (0 : Int32))] below meth c s₁ [] 0 0 := Stand.of_body Bd
  have e0 : s₁.heap = h0 := by rw [← hh, Bd.state]; rfl
  have N0 := Fr.nil n0
  refine OwnFin.entry (own_ef_strBB m ob tb (0 : Int32)) (fun P' hP' => ?_)
  refine OwnFin.adv (B := s₁.setTop (mkF m 1 #[.val (.ref ob), .val (.ref tb), .val (.int (0 : Int32))] [(.ref ob)])) (fun _ k => XS.aloadN X0.here hx rfl (hb hby own_d4_0) rfl rfl k) ?_
  obtain ⟨T1, X1, e1, st1⟩ := initO X0 hx hZ hown (hw _ (List.mem_of_getElem? (i := 39) rfl)) (hw _ (List.mem_of_getElem? (i := 40) rfl)) (hw _ (List.mem_of_getElem? (i := 41) rfl)) e0 (g := (mkF m 1 #[.val (.ref ob), .val (.ref tb), .val (.int (0 : Int32))] [(.ref ob)])) rfl (by rw [hml]; rfl) rfl (hb hby own_d4_1) (by decide) (W := 0) (by show 2 * 0 + _ ≤ _; exact Nat.le_of_eq rfl) (by decide)
  refine OwnFin.adv (B := T1.setTop (mkF m 4 #[.val (.ref ob), .val (.ref tb), .val (.int (0 : Int32))] [])) (fun _ k => st1 _ k) ?_
  refine OwnFin.adv (B := T1.setTop (mkF m 5 #[.val (.ref ob), .val (.ref tb), .val (.int (0 : Int32))] [(.ref ob)])) (fun _ k => XS.aloadN X1.here hx rfl (hb hby own_d4_4) rfl rfl k) ?_
  refine OwnFin.adv (B := T1.setTop (mkF m 6 #[.val (.ref ob), .val (.ref tb), .val (.int (0 : Int32))] [(.ref tb), (.ref ob)])) (fun _ k => XS.aloadN X1.here hx rfl (hb hby own_d4_5) rfl rfl k) ?_
  obtain ⟨T2, h2, X2, e2, W2, st2⟩ := putF X1 hx hZ hown (host := "") (Or.inl (hw _ (List.mem_of_getElem? (i := 42) rfl))) Via.refl e1 Fv E (Or.inr ⟨(hw _ (List.mem_of_getElem? (i := 43) rfl)), rfl, hnm⟩) (hw _ (List.mem_of_getElem? (i := 30) rfl)) (ty := (.array .byte)) (by decide) rfl rfl (g := (mkF m 6 #[.val (.ref ob), .val (.ref tb), .val (.int (0 : Int32))] [(.ref tb), (.ref ob)])) rfl rfl (hb hby own_d4_6)
  have Fw2 : Fld Z h2 ob "java/lang/String" "value" "[B" (.ref tb) := Fv.same W2
  have sz3 : h0.size ≤ h2.size := Nat.le_of_eq W2.size.symm
  have N2 := Fr.snoc X2 N0 (by omega : n0 ≤ ob)
  refine OwnFin.adv (B := T2.setTop (mkF m 9 #[.val (.ref ob), .val (.ref tb), .val (.int (0 : Int32))] [])) (fun _ k => st2 _ k) ?_
  refine OwnFin.adv (B := T2.setTop (mkF m 10 #[.val (.ref ob), .val (.ref tb), .val (.int (0 : Int32))] [(.ref ob)])) (fun _ k => XS.aloadN X2.here hx rfl (hb hby own_d4_9) rfl rfl k) ?_
  refine OwnFin.adv (B := T2.setTop (mkF m 11 #[.val (.ref ob), .val (.ref tb), .val (.int (0 : Int32))] [(.int (0 : Int32)), (.ref ob)])) (fun _ k => XS.iloadN X2.here hx rfl (hb hby own_d4_10) rfl k) ?_
  have Fv4_1 : Exa Z h2 ob "java/lang/String" := (E.wr W2)
  have Fv5_1 : Fld Z h2 ob "java/lang/String" "coder" "B" u1 := (Fc.other W2 (Or.inr (slot_ne (Or.inr (hw _ (List.mem_of_getElem? (i := 45) rfl))) (Or.inr (hw _ (List.mem_of_getElem? (i := 43) rfl))) (by decide) (t := .byte) (t' := (.array .byte)) (by decide) (by decide))))
  obtain ⟨T6, h6, X6, e6, W6, st6⟩ := putFN X2 hx hZ hown (hw _ (List.mem_of_getElem? (i := 44) rfl)) Via.refl e2 Fv5_1 Fv4_1 (Or.inr ⟨(hw _ (List.mem_of_getElem? (i := 45) rfl)), rfl, hnm⟩) (hw _ (List.mem_of_getElem? (i := 30) rfl)) (ty := .byte) (v' := .int (nar .byte (0 : Int32))) (by decide) rfl (fits_nar_byte _) (g := (mkF m 11 #[.val (.ref ob), .val (.ref tb), .val (.int (0 : Int32))] [(.int (0 : Int32)), (.ref ob)])) rfl rfl (hb hby own_d4_11)
  have Fw6 : Fld Z h6 ob "java/lang/String" "coder" "B" (.int (0 : Int32)) := Fv5_1.same W6
  have sz7 : h2.size ≤ h6.size := Nat.le_of_eq W6.size.symm
  have N6 := Fr.snoc X6 N2 (by omega : n0 ≤ ob)
  refine OwnFin.adv (B := T6.setTop (mkF m 14 #[.val (.ref ob), .val (.ref tb), .val (.int (0 : Int32))] [])) (fun _ k => st6 _ k) ?_
  obtain ⟨fs, hr, hrun, hended, hW, hsame⟩ := X6.leave (v := none) (fun _ => rfl)
  refine OwnFin.leaf hP' ⟨_, _, X6.returnOut hx Bd.returns (hb hby own_d4_14) hr, hrun, hended, _, _, rfl, ?_, ⟨_, rfl⟩, hW, hsame.mono (by decide) (by decide)⟩
  have Fv8_2 : Fld Z h6 ob "java/lang/String" "value" "[B" (.ref tb) := (Fw2.other W6 (Or.inr (slot_ne (Or.inr (hw _ (List.mem_of_getElem? (i := 43) rfl))) (Or.inr (hw _ (List.mem_of_getElem? (i := 45) rfl))) (by decide) (t := (.array .byte)) (t' := .byte) (by decide) (by decide))))
  rw [show (T6.setFrames fs).heap = h6 from e6]
  exact ⟨rfl, N6, (((Keep.refl h0 [ob]).wr W2 (Or.inl (List.mem_of_getElem? (i := 0) rfl))).wr W6 (Or.inl (List.mem_of_getElem? (i := 0) rfl))), Fv8_2, Fw6⟩
theorem own_d1_0 : decode jdk_42_method_139_code 0 = .ok (.getstatic 38, 3) := by decide +kernel
theorem own_d1_3 : decode jdk_42_method_139_code 3 = .ok (.ifCond .eq 23, 3) := by decide +kernel
theorem own_d1_6 : decode jdk_42_method_139_code 6 = .ok (.iload_n 0, 1) := by decide +kernel
theorem own_pd_x28Cx29Z : parseMethodDescriptor "(C)Z" = some ⟨[.char], some .boolean⟩ := by decide +kernel
theorem own_d1_7 : decode jdk_42_method_139_code 7 = .ok (.invokestatic 1015, 3) := by decide +kernel
theorem own_d1_10 : decode jdk_42_method_139_code 10 = .ok (.ifCond .eq 16, 3) := by decide +kernel
theorem own_d1_13 : decode jdk_42_method_139_code 13 = .ok (.new 10, 3) := by decide +kernel
theorem own_d1_16 : decode jdk_42_method_139_code 16 = .ok (.dup, 1) := by decide +kernel
theorem own_d1_17 : decode jdk_42_method_139_code 17 = .ok (.iload_n 0, 1) := by decide +kernel
theorem own_pd_x28Cx29x5bB : parseMethodDescriptor "(C)[B" = some ⟨[.char], some (.array .byte)⟩ := by decide +kernel
theorem own_d1_18 : decode jdk_42_method_139_code 18 = .ok (.invokestatic 1018, 3) := by decide +kernel
theorem own_d1_21 : decode jdk_42_method_139_code 21 = .ok (.iconst 0, 1) := by decide +kernel
theorem own_pd_x28x5bBBx29V : parseMethodDescriptor "([BB)V" = some ⟨[(.array .byte), .byte], none⟩ := by decide +kernel
theorem own_d1_22 : decode jdk_42_method_139_code 22 = .ok (.invokespecial 209, 3) := by decide +kernel
theorem own_d1_25 : decode jdk_42_method_139_code 25 = .ok (.areturn, 1) := by decide +kernel
theorem own_ef_strVal (m : MethodId) (x0 : Int32) : entryFrame m #[(.int x0)] 1 = mkF m 0 #[.val (.int x0)] [] := by first | (simp [entryFrame, mkF, argsToLocals, Value.category]; done) | rfl
def own_Q_strVal (Z : State) (cc zc : Int32) (h0 : Heap) (n0 : Nat) (v : Option Value) (h : Heap) (L : List Loc) : Prop := ∃ (r t : Addr) (kb : ClassId), v = some (.ref r) ∧ Fr n0 L ∧ Keep h0 h [] ∧ h0.size ≤ r ∧ h0.size ≤ t ∧ Exa Z h r "java/lang/String" ∧ Fld Z h r "java/lang/String" "coder" "B" (.int (0 : Int32)) ∧ Fld Z h r "java/lang/String" "value" "[B" (.ref t) ∧ Arv Z h t kb .byte (1 : Int32) [(.int cc.toInt8.toInt32)] (.int (0 : Int32))
set_option maxRecDepth 65536 in
set_option maxHeartbeats 40000000 in
theorem own_strVal (l : Launch) (Z : State) (a0 : Array Value) (hw : ∀ d ∈ tables_1, d.before a0 Z = true) (ws : List Jvm.Cond) (cc zc : Int32) (h0 : Heap) (n0 : Nat) (Z0 : n0 ≤ h0.size) (O0 : Old Z n0 h0) (SCS : Sta Z Z.heap "java/lang/String" "COMPACT_STRINGS" "Z" (.int zc)) (hzc : ¬ zc = 0) (hcc : ¬ (255 : Int32) < cc) :
    MetFree l (⟨"java/lang/String", "valueOf", "(C)Ljava/lang/String;"⟩ : MethodName) (head1 (Jvm.Cond.code (⟨"java/lang/String", "valueOf", "(C)Ljava/lang/String;"⟩ : MethodName) jdk_42_method_139_code 1 (some (.object "java/lang/String")) :: ws) ({ frames := 2, cells := 2, slots := 5, locals := 27 } : Room)) (fun A0 U0 => A0 = #[(.int cc)] ∧ Z.Warmed39 U0.vm ∧ U0.heap = h0) (fun _ _ _ _ _ => True) (fun _ U0 o0 U1 => ∃ v0 L0, o0 = .returned v0 ∧ own_Q_strVal Z cc zc h0 n0 v0 U1.heap L0 ∧ FrameEnd U0 o0 U1 L0 ({ frames := 2, cells := 2, slots := 5, locals := 27 } : Room).cells ({ frames := 2, cells := 2, slots := 5, locals := 27 } : Room).slots) := by
  refine MetFree.of_bodySF (plainFor_of_name own_pn_java_lang_String) hisR ?_
  intro p e s m args below meth c s₁ Bd hml0 hP hK
  obtain ⟨rfl, hZ, hh⟩ := hP
  have hx := Bd.exec
  have hby := Bd.bytes
  have hml : c.maxLocals = 1 := hml0
  have hown : s.vm.findClass "java/lang/String" = some m.cls := findClass_of_methodNamed Bd.named
  have hnm := (name_of_methodNamed Bd.named Bd.method).1
  have X0 : Stand p l e ({ frames := 2, cells := 2, slots := 5, locals := 27 } : Room) s m #[(.int cc)] below meth c s₁ [] 0 0 := Stand.of_body Bd
  have e0 : s₁.heap = h0 := by rw [← hh, Bd.state]; rfl
  have N0 := Fr.nil n0
  refine OwnFin.entry (own_ef_strVal m cc) (fun P' hP' => ?_)
  obtain ⟨T1, X1, e1, st1⟩ := getS2 X0 hx hZ hown (host := "") (Or.inl (hw _ (List.mem_of_getElem? (i := 24) rfl))) Via.refl e0 (own_staK SCS O0) (g := (mkF m 0 #[.val (.int cc)] [])) rfl (hb hby own_d1_0)
  refine OwnFin.adv (B := T1.setTop (mkF m 3 #[.val (.int cc)] [(.int zc)])) (fun _ k => st1 _ k) ?_
  have hc3_2 : ¬ (zc = (0 : Int32)) := hzc
  refine OwnFin.adv (B := T1.setTop (mkF m 6 #[.val (.int cc)] [])) (fun _ k => XS.ifNo X1.here hx rfl (hb hby own_d1_3) rfl ((if0 _ _).trans (feq hc3_2).1) k) ?_
  refine OwnFin.adv (B := T1.setTop (mkF m 7 #[.val (.int cc)] [(.int cc)])) (fun _ k => XS.iloadN X1.here hx rfl (hb hby own_d1_6) rfl k) ?_
  obtain ⟨_, _, ⟨T2, L2, k2, n2⟩, -, X2, ⟨Lc2, hQ2, l2, y2, z2⟩, st2⟩ := Jvm.LawKit.callS X1 hx (y := (⟨"java/lang/StringLatin1", "canEncode", "(C)Z"⟩ : MethodName)) hown (mvT hZ (hw _ (List.mem_of_getElem? (i := 25) rfl))) (mvT hZ (hw _ (List.mem_of_getElem? (i := 26) rfl))) (mvT hZ (hw _ (List.mem_of_getElem? (i := 27) rfl))) (mvT hZ (hw _ (List.mem_of_getElem? (i := 28) rfl))) (by decide) (backOf (W := 0) (own_canEnc l Z a0 hw [] cc h0 n0 (by omega) hcc) hZ (hw _ (List.mem_of_getElem? (i := 28) rfl)) (hw _ (List.mem_of_getElem? (i := 27) rfl)) (by decide) (by decide)) (g := (mkF m 7 #[.val (.int cc)] [(.int cc)])) rfl (by rw [hml]; rfl) (argsL := [(.int cc)]) (rest := []) (lenOf own_pd_x28Cx29Z rfl) rfl (by show 2 * 0 + _ ≤ _; exact Nat.le_of_eq rfl) (hb hby own_d1_7) (fun _ _ => ⟨rfl, e1, (by decide : 0 + 0 ≤ _), (by decide : 0 + 0 ≤ _)⟩)
  dsimp only [Pt.U, Pt.locs, Pt.cells, Pt.slots] at X2 l2 y2 z2 st2 hQ2
  subst l2 y2 z2
  obtain ⟨rfl, N2q, eh2⟩ := hQ2
  have N2 := Fr.app N0 N2q
  refine OwnFin.adv (B := T2.setTop (mkF m 10 #[.val (.int cc)] [(.int (1 : Int32))])) (fun _ k => st2 _ k) ?_
  have hc10_5 : ¬ ((1 : Int32) = (0 : Int32)) := by decide
  refine OwnFin.adv (B := T2.setTop (mkF m 13 #[.val (.int cc)] [])) (fun _ k => XS.ifNo X2.here hx rfl (hb hby own_d1_10) rfl ((if0 _ _).trans (feq hc10_5).1) k) ?_
  obtain ⟨T3, h3, X3, e3, E3, A3, D3, -, st3⟩ := newO X2 hx hZ hown (hw _ (List.mem_of_getElem? (i := 29) rfl)) (hw _ (List.mem_of_getElem? (i := 30) rfl)) (hw _ (List.mem_of_getElem? (i := 22) rfl)) eh2 (g := (mkF m 13 #[.val (.int cc)] [])) rfl (hb hby own_d1_13) (by decide) (by decide)
  obtain ⟨b3, g3⟩ : ∃ z, z = h0.size := ⟨_, rfl⟩
  rw [← g3] at A3 D3 st3
  have sz4 : h0.size ≤ h3.size := E3.1
  have lt_b3 := own_lt A3.lt
  have F3_value : Fld Z h3 b3 "java/lang/String" "value" "[B" .null := D3 (Or.inr (hw _ (List.mem_of_getElem? (i := 43) rfl))) (ty := (.array .byte)) (by decide)
  have F3_coder : Fld Z h3 b3 "java/lang/String" "coder" "B" (.int (0 : Int32)) := D3 (Or.inr (hw _ (List.mem_of_getElem? (i := 45) rfl))) (ty := .byte) (by decide)
  refine OwnFin.adv (B := T3.setTop (mkF m 16 #[.val (.int cc)] [(.ref b3)])) (fun _ k => st3 _ k) ?_
  refine OwnFin.adv (B := T3.setTop (mkF m 17 #[.val (.int cc)] [(.ref b3), (.ref b3)])) (fun _ k => XS.dup X3.here hx rfl (hb hby own_d1_16) rfl rfl k) ?_
  refine OwnFin.adv (B := T3.setTop (mkF m 18 #[.val (.int cc)] [(.int cc), (.ref b3), (.ref b3)])) (fun _ k => XS.iloadN X3.here hx rfl (hb hby own_d1_17) rfl k) ?_
  obtain ⟨_, _, ⟨T5, L5, k5, n5⟩, -, X5, ⟨Lc5, hQ5, l5, y5, z5⟩, st5⟩ := Jvm.LawKit.callS X3 hx (y := (⟨"java/lang/StringLatin1", "toBytes", "(C)[B"⟩ : MethodName)) hown (mvT hZ (hw _ (List.mem_of_getElem? (i := 31) rfl))) (mvT hZ (hw _ (List.mem_of_getElem? (i := 32) rfl))) (mvT hZ (hw _ (List.mem_of_getElem? (i := 27) rfl))) (mvT hZ (hw _ (List.mem_of_getElem? (i := 33) rfl))) (by decide) (backOf (W := 2) (own_toB l Z a0 hw [] cc h3 n0 (by omega)) hZ (hw _ (List.mem_of_getElem? (i := 33) rfl)) (hw _ (List.mem_of_getElem? (i := 27) rfl)) (by decide) (by decide)) (g := (mkF m 18 #[.val (.int cc)] [(.int cc), (.ref b3), (.ref b3)])) rfl (by rw [hml]; rfl) (argsL := [(.int cc)]) (rest := [(.ref b3), (.ref b3)]) (lenOf own_pd_x28Cx29x5bB rfl) rfl (by show 2 * 0 + _ ≤ _; exact Nat.le_of_eq rfl) (hb hby own_d1_18) (fun _ _ => ⟨rfl, e3, (by decide : 1 + 1 ≤ _), (by decide : 4 + 1 ≤ _)⟩)
  dsimp only [Pt.U, Pt.locs, Pt.cells, Pt.slots] at X5 l5 y5 z5 st5 hQ5
  subst l5 y5 z5
  obtain ⟨tb5, kb5, rfl, N5q, K5, ge5, V5⟩ := hQ5
  have N5 := Fr.app N2 N5q
  have sz6 : h3.size ≤ T5.heap.size := K5.1
  have lt_tb5 := own_lt V5.lt
  refine OwnFin.adv (B := T5.setTop (mkF m 21 #[.val (.int cc)] [(.ref tb5), (.ref b3), (.ref b3)])) (fun _ k => st5 _ k) ?_
  refine OwnFin.adv (B := T5.setTop (mkF m 22 #[.val (.int cc)] [(.int (0 : Int32)), (.ref tb5), (.ref b3), (.ref b3)])) (fun _ k => XS.iconst X5.here hx rfl (hb hby own_d1_21) k) ?_
  have Fv8_2 : Exa Z T5.heap b3 "java/lang/String" := (A3.keep K5)
  have Fv9_2 : Fld Z T5.heap b3 "java/lang/String" "value" "[B" .null := (F3_value.keep K5 nin0)
  have Fv10_2 : Fld Z T5.heap b3 "java/lang/String" "coder" "B" (.int (0 : Int32)) := (F3_coder.keep K5 nin0)
  obtain ⟨_, _, ⟨T7, L7, k7, n7⟩, -, X7, ⟨Lc7, hQ7, l7, y7, z7⟩, st7⟩ := X5.specialBack hx (y := (⟨"java/lang/String", "<init>", "([BB)V"⟩ : MethodName)) rfl hown (mvT hZ (hw _ (List.mem_of_getElem? (i := 35) rfl))) (mvT hZ (hw _ (List.mem_of_getElem? (i := 36) rfl))) (mvT hZ (hw _ (List.mem_of_getElem? (i := 38) rfl))) (by decide) (backOf (W := 1) (own_strBB l Z a0 hw [] b3 tb5 _ _ T5.heap n0 (by omega) Fv8_2 Fv9_2 Fv10_2 (by omega)) hZ (hw _ (List.mem_of_getElem? (i := 38) rfl)) (hw _ (List.mem_of_getElem? (i := 22) rfl)) (by decide) (by decide)) (g := (mkF m 22 #[.val (.int cc)] [(.int (0 : Int32)), (.ref tb5), (.ref b3), (.ref b3)])) rfl (by rw [hml]; rfl) (Steps.refl _) (a := b3) (argsL := [(.ref tb5), (.int (0 : Int32))]) (rest := [(.ref b3)]) (lenOf own_pd_x28x5bBBx29V rfl) rfl (by show 2 * 0 + _ ≤ _; exact Nat.le_of_eq rfl) (hb hby own_d1_22) (fun _ _ => ⟨rfl, rfl, (by decide : 2 + 0 ≤ _), (by decide : 5 + 0 ≤ _)⟩)
  dsimp only [Pt.U, Pt.locs, Pt.cells, Pt.slots] at X7 l7 y7 z7 st7 hQ7
  subst l7 y7 z7
  obtain ⟨rfl, N7q, K7, Fa7, Fb7⟩ := hQ7
  have N7 := Fr.app N5 N7q
  have sz11 : T5.heap.size ≤ T7.heap.size := K7.1
  refine OwnFin.adv (B := T7.setTop (mkF m 25 #[.val (.int cc)] [(.ref b3)])) (fun _ k => st7.trans k) ?_
  obtain ⟨fs, hr, hrun, hended, hW, hsame⟩ := X7.leave (v := some (.ref b3)) (fun h => by rw [Bd.returns] at h; cases h)
  refine OwnFin.leaf hP' ⟨_, _, own_retR X7 hx Bd.returns rfl rfl rfl (hb hby own_d1_25) hr, hrun, hended, _, _, rfl, ?_, ⟨_, rfl⟩, hW, hsame.mono (by decide) (by decide)⟩
  have Fv12_3 : Exa Z T7.heap b3 "java/lang/String" := (Fv8_2.keep K7)
  have Fv13_3 : Arv Z T7.heap tb5 kb5 .byte (1 : Int32) [(.int cc.toInt8.toInt32)] (.int (0 : Int32)) := (V5.keep K7 (ninS (own_ne (by omega)) nin0))
  exact ⟨_, _, _, rfl, N7, ((((Keep.refl h0 []).ext E3).trans K5 all0).trans K7 (allS (Or.inr (by omega)) all0)), by omega, by omega, Fv12_3, Fb7, Fa7, Fv13_3⟩
theorem own_d7_0 : decode prog_12_method_1_code 0 = .ok (.aload_n 0, 1) := by decide +kernel
theorem own_d7_1 : decode prog_12_method_1_code 1 = .ok (.invokespecial 1, 3) := by decide +kernel
theorem own_d7_4 : decode prog_12_method_1_code 4 = .ok (.aload_n 0, 1) := by decide +kernel
theorem own_d7_5 : decode prog_12_method_1_code 5 = .ok (.aload_n 1, 1) := by decide +kernel
theorem own_d7_6 : decode prog_12_method_1_code 6 = .ok (.putfield 7, 3) := by decide +kernel
theorem own_d7_9 : decode prog_12_method_1_code 9 = .ok (.aload_n 0, 1) := by decide +kernel
theorem own_d7_10 : decode prog_12_method_1_code 10 = .ok (.aload_n 2, 1) := by decide +kernel
theorem own_d7_11 : decode prog_12_method_1_code 11 = .ok (.putfield 13, 3) := by decide +kernel
theorem own_d7_14 : decode prog_12_method_1_code 14 = .ok (.aload_n 0, 1) := by decide +kernel
theorem own_d7_15 : decode prog_12_method_1_code 15 = .ok (.aload_n 3, 1) := by decide +kernel
theorem own_d7_16 : decode prog_12_method_1_code 16 = .ok (.putfield 16, 3) := by decide +kernel
theorem own_d7_19 : decode prog_12_method_1_code 19 = .ok (.aload_n 0, 1) := by decide +kernel
theorem own_d7_20 : decode prog_12_method_1_code 20 = .ok (.iload 4, 2) := by decide +kernel
theorem own_d7_22 : decode prog_12_method_1_code 22 = .ok (.putfield 20, 3) := by decide +kernel
theorem own_d7_25 : decode prog_12_method_1_code 25 = .ok (.aload_n 0, 1) := by decide +kernel
theorem own_d7_26 : decode prog_12_method_1_code 26 = .ok (.iload 5, 2) := by decide +kernel
theorem own_d7_28 : decode prog_12_method_1_code 28 = .ok (.putfield 24, 3) := by decide +kernel
theorem own_d7_31 : decode prog_12_method_1_code 31 = .ok (.aload_n 0, 1) := by decide +kernel
theorem own_d7_32 : decode prog_12_method_1_code 32 = .ok (.aload 6, 2) := by decide +kernel
theorem own_d7_34 : decode prog_12_method_1_code 34 = .ok (.putfield 27, 3) := by decide +kernel
theorem own_d7_37 : decode prog_12_method_1_code 37 = .ok (.aload_n 0, 1) := by decide +kernel
theorem own_d7_38 : decode prog_12_method_1_code 38 = .ok (.aload 7, 2) := by decide +kernel
theorem own_d7_40 : decode prog_12_method_1_code 40 = .ok (.putfield 30, 3) := by decide +kernel
theorem own_d7_43 : decode prog_12_method_1_code 43 = .ok (.aload_n 0, 1) := by decide +kernel
theorem own_d7_44 : decode prog_12_method_1_code 44 = .ok (.aload 8, 2) := by decide +kernel
theorem own_d7_46 : decode prog_12_method_1_code 46 = .ok (.putfield 34, 3) := by decide +kernel
theorem own_d7_49 : decode prog_12_method_1_code 49 = .ok (.aload_n 0, 1) := by decide +kernel
theorem own_d7_50 : decode prog_12_method_1_code 50 = .ok (.aload 9, 2) := by decide +kernel
theorem own_d7_52 : decode prog_12_method_1_code 52 = .ok (.putfield 38, 3) := by decide +kernel
theorem own_d7_55 : decode prog_12_method_1_code 55 = .ok (.return_, 1) := by decide +kernel
theorem own_ef_jInit (m : MethodId) (x0 : Addr) (x1 : Addr) (x2 : Addr) (x3 : Addr) (x4 : Int32) (x5 : Int32) (x6 : Addr) (x7 : Addr) : entryFrame m #[(.ref x0), (.ref x1), (.ref x2), (.ref x3), (.int x4), (.int x5), (.ref x6), (.ref x7), .null, .null] 10 = mkF m 0 #[.val (.ref x0), .val (.ref x1), .val (.ref x2), .val (.ref x3), .val (.int x4), .val (.int x5), .val (.ref x6), .val (.ref x7), .val .null, .val .null] [] := by first | (simp [entryFrame, mkF, argsToLocals, Value.category]; done) | rfl
theorem own_pn_com_example_notional_notional_io_JsonValue : plainName "com/example/notional/notional/io/JsonValue" = true := by first | (simp [plainName, overriddenIn]; done) | decide +kernel
def own_Q_jInit (Z : State) (ob af ap kd : Addr) (ln en : Int32) (tx wn : Addr) (u0 u1 u2 u3 u4 u5 u6 u7 u8 : Value) (h0 : Heap) (n0 : Nat) (v : Option Value) (h : Heap) (L : List Loc) : Prop := v = none ∧ Fr n0 L ∧ Keep h0 h [ob] ∧ Fld Z h ob "com/example/notional/notional/io/JsonValue" "kind" "Lcom/example/notional/notional/io/JsonValue$Kind;" (.ref kd) ∧ Fld Z h ob "com/example/notional/notional/io/JsonValue" "text" "Ljava/lang/String;" (.ref tx)
set_option maxRecDepth 65536 in
set_option maxHeartbeats 40000000 in
theorem own_jInit (l : Launch) (Z : State) (a0 : Array Value) (hw : ∀ d ∈ tables_1, d.before a0 Z = true) (ws : List Jvm.Cond) (ob af ap kd : Addr) (ln en : Int32) (tx wn : Addr) (u0 u1 u2 u3 u4 u5 u6 u7 u8 : Value) (h0 : Heap) (n0 : Nat) (Z0 : n0 ≤ h0.size) (E : Exa Z h0 ob "com/example/notional/notional/io/JsonValue") (F0 : Fld Z h0 ob "com/example/notional/notional/io/JsonValue" "file" "Ljava/lang/String;" u0) (F1 : Fld Z h0 ob "com/example/notional/notional/io/JsonValue" "path" "Ljava/lang/String;" u1) (F2 : Fld Z h0 ob "com/example/notional/notional/io/JsonValue" "kind" "Lcom/example/notional/notional/io/JsonValue$Kind;" u2) (F3 : Fld Z h0 ob "com/example/notional/notional/io/JsonValue" "line" "I" u3) (F4 : Fld Z h0 ob "com/example/notional/notional/io/JsonValue" "endLine" "I" u4) (F5 : Fld Z h0 ob "com/example/notional/notional/io/JsonValue" "text" "Ljava/lang/String;" u5) (F6 : Fld Z h0 ob "com/example/notional/notional/io/JsonValue" "wholeNumber" "Ljava/lang/Integer;" u6) (F7 : Fld Z h0 ob "com/example/notional/notional/io/JsonValue" "members" "Ljava/util/Map;" u7) (F8 : Fld Z h0 ob "com/example/notional/notional/io/JsonValue" "elements" "Ljava/util/List;" u8) (g_ob : n0 ≤ ob) :
    MetFree l (⟨"com/example/notional/notional/io/JsonValue", "<init>", "(Ljava/lang/String;Ljava/lang/String;Lcom/example/notional/notional/io/JsonValue$Kind;IILjava/lang/String;Ljava/lang/Integer;Ljava/util/Map;Ljava/util/List;)V"⟩ : MethodName) (head1 (Jvm.Cond.code (⟨"com/example/notional/notional/io/JsonValue", "<init>", "(Ljava/lang/String;Ljava/lang/String;Lcom/example/notional/notional/io/JsonValue$Kind;IILjava/lang/String;Ljava/lang/Integer;Ljava/util/Map;Ljava/util/List;)V"⟩ : MethodName) prog_12_method_1_code 10 none :: ws) ({ frames := 1, cells := 0, slots := 0, locals := 12 } : Room)) (fun A0 U0 => A0 = #[(.ref ob), (.ref af), (.ref ap), (.ref kd), (.int ln), (.int en), (.ref tx), (.ref wn), .null, .null] ∧ Z.Warmed39 U0.vm ∧ U0.heap = h0) (fun _ _ _ _ _ => True) (fun _ U0 o0 U1 => ∃ v0 L0, o0 = .returned v0 ∧ own_Q_jInit Z ob af ap kd ln en tx wn u0 u1 u2 u3 u4 u5 u6 u7 u8 h0 n0 v0 U1.heap L0 ∧ FrameEnd U0 o0 U1 L0 ({ frames := 1, cells := 0, slots := 0, locals := 12 } : Room).cells ({ frames := 1, cells := 0, slots := 0, locals := 12 } : Room).slots) := by
  refine MetFree.of_bodySF (plainFor_of_name own_pn_com_example_notional_notional_io_JsonValue) hisR ?_
  intro p e s m args below meth c s₁ Bd hml0 hP hK
  obtain ⟨rfl, hZ, hh⟩ := hP
  have hx := Bd.exec
  have hby := Bd.bytes
  have hml : c.maxLocals = 10 := hml0
  have hown : s.vm.findClass "com/example/notional/notional/io/JsonValue" = some m.cls := findClass_of_methodNamed Bd.named
  have hnm := (name_of_methodNamed Bd.named Bd.method).1
  have X0 : Stand p l e ({ frames := 1, cells := 0, slots := 0, locals := 12 } : Room) s m #[(.ref ob), (.ref af), (.ref ap), (.ref kd), (.int ln), (.int en), (.ref tx), (.ref wn), .null, .null] below meth c s₁ [] 0 0 := Stand.of_body Bd
  have e0 : s₁.heap = h0 := by rw [← hh, Bd.state]; rfl
  have N0 := Fr.nil n0
  refine OwnFin.entry (own_ef_jInit m ob af ap kd ln en tx wn) (fun P' hP' => ?_)
  refine OwnFin.adv (B := s₁.setTop (mkF m 1 #[.val (.ref ob), .val (.ref af), .val (.ref ap), .val (.ref kd), .val (.int ln), .val (.int en), .val (.ref tx), .val (.ref wn), .val .null, .val .null] [(.ref ob)])) (fun _ k => XS.aloadN X0.here hx rfl (hb hby own_d7_0) rfl rfl k) ?_
  obtain ⟨T1, X1, e1, st1⟩ := initO X0 hx hZ hown (hw _ (List.mem_of_getElem? (i := 63) rfl)) (hw _ (List.mem_of_getElem? (i := 40) rfl)) (hw _ (List.mem_of_getElem? (i := 41) rfl)) e0 (g := (mkF m 1 #[.val (.ref ob), .val (.ref af), .val (.ref ap), .val (.ref kd), .val (.int ln), .val (.int en), .val (.ref tx), .val (.ref wn), .val .null, .val .null] [(.ref ob)])) rfl (by rw [hml]; rfl) rfl (hb hby own_d7_1) (by decide) (W := 0) (by show 2 * 0 + _ ≤ _; exact Nat.le_of_eq rfl) (by decide)
  refine OwnFin.adv (B := T1.setTop (mkF m 4 #[.val (.ref ob), .val (.ref af), .val (.ref ap), .val (.ref kd), .val (.int ln), .val (.int en), .val (.ref tx), .val (.ref wn), .val .null, .val .null] [])) (fun _ k => st1 _ k) ?_
  refine OwnFin.adv (B := T1.setTop (mkF m 5 #[.val (.ref ob), .val (.ref af), .val (.ref ap), .val (.ref kd), .val (.int ln), .val (.int en), .val (.ref tx), .val (.ref wn), .val .null, .val .null] [(.ref ob)])) (fun _ k => XS.aloadN X1.here hx rfl (hb hby own_d7_4) rfl rfl k) ?_
  refine OwnFin.adv (B := T1.setTop (mkF m 6 #[.val (.ref ob), .val (.ref af), .val (.ref ap), .val (.ref kd), .val (.int ln), .val (.int en), .val (.ref tx), .val (.ref wn), .val .null, .val .null] [(.ref af), (.ref ob)])) (fun _ k => XS.aloadN X1.here hx rfl (hb hby own_d7_5) rfl rfl k) ?_
  obtain ⟨T2, h2, X2, e2, W2, st2⟩ := putF X1 hx hZ hown (host := "") (Or.inl (hw _ (List.mem_of_getElem? (i := 64) rfl))) Via.refl e1 F0 E (Or.inr ⟨(hw _ (List.mem_of_getElem? (i := 65) rfl)), rfl, hnm⟩) (hw _ (List.mem_of_getElem? (i := 47) rfl)) (ty := (.object "java/lang/String")) (by decide) rfl rfl (g := (mkF m 6 #[.val (.ref ob), .val (.ref af), .val (.ref ap), .val (.ref kd), .val (.int ln), .val (.int en), .val (.ref tx), .val (.ref wn), .val .null, .val .null] [(.ref af), (.ref ob)])) rfl rfl (hb hby own_d7_6)
  have Fw2 : Fld Z h2 ob "com/example/notional/notional/io/JsonValue" "file" "Ljava/lang/String;" (.ref af) := F0.same W2
  have sz3 : h0.size ≤ h2.size := Nat.le_of_eq W2.size.symm
  have N2 := Fr.snoc X2 N0 (by omega : n0 ≤ ob)
  refine OwnFin.adv (B := T2.setTop (mkF m 9 #[.val (.ref ob), .val (.ref af), .val (.ref ap), .val (.ref kd), .val (.int ln), .val (.int en), .val (.ref tx), .val (.ref wn), .val .null, .val .null] [])) (fun _ k => st2 _ k) ?_
  refine OwnFin.adv (B := T2.setTop (mkF m 10 #[.val (.ref ob), .val (.ref af), .val (.ref ap), .val (.ref kd), .val (.int ln), .val (.int en), .val (.ref tx), .val (.ref wn), .val .null, .val .null] [(.ref ob)])) (fun _ k => XS.aloadN X2.here hx rfl (hb hby own_d7_9) rfl rfl k) ?_
  refine OwnFin.adv (B := T2.setTop (mkF m 11 #[.val (.ref ob), .val (.ref af), .val (.ref ap), .val (.ref kd), .val (.int ln), .val (.int en), .val (.ref tx), .val (.ref wn), .val .null, .val .null] [(.ref ap), (.ref ob)])) (fun _ k => XS.aloadN X2.here hx rfl (hb hby own_d7_10) rfl rfl k) ?_
  have Fv4_1 : Exa Z h2 ob "com/example/notional/notional/io/JsonValue" := (E.wr W2)
  have Fv5_1 : Fld Z h2 ob "com/example/notional/notional/io/JsonValue" "path" "Ljava/lang/String;" u1 := (F1.other W2 (Or.inr (slot_ne (Or.inr (hw _ (List.mem_of_getElem? (i := 67) rfl))) (Or.inr (hw _ (List.mem_of_getElem? (i := 65) rfl))) (by decide) (t := (.object "java/lang/String")) (t' := (.object "java/lang/String")) (by decide) (by decide))))
  obtain ⟨T6, h6, X6, e6, W6, st6⟩ := putF X2 hx hZ hown (host := "") (Or.inl (hw _ (List.mem_of_getElem? (i := 66) rfl))) Via.refl e2 Fv5_1 Fv4_1 (Or.inr ⟨(hw _ (List.mem_of_getElem? (i := 67) rfl)), rfl, hnm⟩) (hw _ (List.mem_of_getElem? (i := 47) rfl)) (ty := (.object "java/lang/String")) (by decide) rfl rfl (g := (mkF m 11 #[.val (.ref ob), .val (.ref af), .val (.ref ap), .val (.ref kd), .val (.int ln), .val (.int en), .val (.ref tx), .val (.ref wn), .val .null, .val .null] [(.ref ap), (.ref ob)])) rfl rfl (hb hby own_d7_11)
  have Fw6 : Fld Z h6 ob "com/example/notional/notional/io/JsonValue" "path" "Ljava/lang/String;" (.ref ap) := Fv5_1.same W6
  have sz7 : h2.size ≤ h6.size := Nat.le_of_eq W6.size.symm
  have N6 := Fr.snoc X6 N2 (by omega : n0 ≤ ob)
  refine OwnFin.adv (B := T6.setTop (mkF m 14 #[.val (.ref ob), .val (.ref af), .val (.ref ap), .val (.ref kd), .val (.int ln), .val (.int en), .val (.ref tx), .val (.ref wn), .val .null, .val .null] [])) (fun _ k => st6 _ k) ?_
  refine OwnFin.adv (B := T6.setTop (mkF m 15 #[.val (.ref ob), .val (.ref af), .val (.ref ap), .val (.ref kd), .val (.int ln), .val (.int en), .val (.ref tx), .val (.ref wn), .val .null, .val .null] [(.ref ob)])) (fun _ k => XS.aloadN X6.here hx rfl (hb hby own_d7_14) rfl rfl k) ?_
  refine OwnFin.adv (B := T6.setTop (mkF m 16 #[.val (.ref ob), .val (.ref af), .val (.ref ap), .val (.ref kd), .val (.int ln), .val (.int en), .val (.ref tx), .val (.ref wn), .val .null, .val .null] [(.ref kd), (.ref ob)])) (fun _ k => XS.aloadN X6.here hx rfl (hb hby own_d7_15) rfl rfl k) ?_
  have Fv8_2 : Exa Z h6 ob "com/example/notional/notional/io/JsonValue" := (Fv4_1.wr W6)
  have Fv9_2 : Fld Z h6 ob "com/example/notional/notional/io/JsonValue" "kind" "Lcom/example/notional/notional/io/JsonValue$Kind;" u2 := ((F2.other W2 (Or.inr (slot_ne (Or.inr (hw _ (List.mem_of_getElem? (i := 69) rfl))) (Or.inr (hw _ (List.mem_of_getElem? (i := 65) rfl))) (by decide) (t := (.object "com/example/notional/notional/io/JsonValue$Kind")) (t' := (.object "java/lang/String")) (by decide) (by decide)))).other W6 (Or.inr (slot_ne (Or.inr (hw _ (List.mem_of_getElem? (i := 69) rfl))) (Or.inr (hw _ (List.mem_of_getElem? (i := 67) rfl))) (by decide) (t := (.object "com/example/notional/notional/io/JsonValue$Kind")) (t' := (.object "java/lang/String")) (by decide) (by decide))))
  obtain ⟨T10, h10, X10, e10, W10, st10⟩ := putF X6 hx hZ hown (host := "") (Or.inl (hw _ (List.mem_of_getElem? (i := 68) rfl))) Via.refl e6 Fv9_2 Fv8_2 (Or.inr ⟨(hw _ (List.mem_of_getElem? (i := 69) rfl)), rfl, hnm⟩) (hw _ (List.mem_of_getElem? (i := 47) rfl)) (ty := (.object "com/example/notional/notional/io/JsonValue$Kind")) (by decide) rfl rfl (g := (mkF m 16 #[.val (.ref ob), .val (.ref af), .val (.ref ap), .val (.ref kd), .val (.int ln), .val (.int en), .val (.ref tx), .val (.ref wn), .val .null, .val .null] [(.ref kd), (.ref ob)])) rfl rfl (hb hby own_d7_16)
  have Fw10 : Fld Z h10 ob "com/example/notional/notional/io/JsonValue" "kind" "Lcom/example/notional/notional/io/JsonValue$Kind;" (.ref kd) := Fv9_2.same W10
  have sz11 : h6.size ≤ h10.size := Nat.le_of_eq W10.size.symm
  have N10 := Fr.snoc X10 N6 (by omega : n0 ≤ ob)
  refine OwnFin.adv (B := T10.setTop (mkF m 19 #[.val (.ref ob), .val (.ref af), .val (.ref ap), .val (.ref kd), .val (.int ln), .val (.int en), .val (.ref tx), .val (.ref wn), .val .null, .val .null] [])) (fun _ k => st10 _ k) ?_
  refine OwnFin.adv (B := T10.setTop (mkF m 20 #[.val (.ref ob), .val (.ref af), .val (.ref ap), .val (.ref kd), .val (.int ln), .val (.int en), .val (.ref tx), .val (.ref wn), .val .null, .val .null] [(.ref ob)])) (fun _ k => XS.aloadN X10.here hx rfl (hb hby own_d7_19) rfl rfl k) ?_
  refine OwnFin.adv (B := T10.setTop (mkF m 22 #[.val (.ref ob), .val (.ref af), .val (.ref ap), .val (.ref kd), .val (.int ln), .val (.int en), .val (.ref tx), .val (.ref wn), .val .null, .val .null] [(.int ln), (.ref ob)])) (fun _ k => XS.iload X10.here hx rfl (hb hby own_d7_20) rfl k) ?_
  have Fv12_3 : Exa Z h10 ob "com/example/notional/notional/io/JsonValue" := (Fv8_2.wr W10)
  have Fv13_3 : Fld Z h10 ob "com/example/notional/notional/io/JsonValue" "line" "I" u3 := (((F3.other W2 (Or.inr (slot_ne (Or.inr (hw _ (List.mem_of_getElem? (i := 71) rfl))) (Or.inr (hw _ (List.mem_of_getElem? (i := 65) rfl))) (by decide) (t := .int) (t' := (.object "java/lang/String")) (by decide) (by decide)))).other W6 (Or.inr (slot_ne (Or.inr (hw _ (List.mem_of_getElem? (i := 71) rfl))) (Or.inr (hw _ (List.mem_of_getElem? (i := 67) rfl))) (by decide) (t := .int) (t' := (.object "java/lang/String")) (by decide) (by decide)))).other W10 (Or.inr (slot_ne (Or.inr (hw _ (List.mem_of_getElem? (i := 71) rfl))) (Or.inr (hw _ (List.mem_of_getElem? (i := 69) rfl))) (by decide) (t := .int) (t' := (.object "com/example/notional/notional/io/JsonValue$Kind")) (by decide) (by decide))))
  obtain ⟨T14, h14, X14, e14, W14, st14⟩ := putF X10 hx hZ hown (host := "") (Or.inl (hw _ (List.mem_of_getElem? (i := 70) rfl))) Via.refl e10 Fv13_3 Fv12_3 (Or.inr ⟨(hw _ (List.mem_of_getElem? (i := 71) rfl)), rfl, hnm⟩) (hw _ (List.mem_of_getElem? (i := 47) rfl)) (ty := .int) (by decide) rfl rfl (g := (mkF m 22 #[.val (.ref ob), .val (.ref af), .val (.ref ap), .val (.ref kd), .val (.int ln), .val (.int en), .val (.ref tx), .val (.ref wn), .val .null, .val .null] [(.int ln), (.ref ob)])) rfl rfl (hb hby own_d7_22)
  have Fw14 : Fld Z h14 ob "com/example/notional/notional/io/JsonValue" "line" "I" (.int ln) := Fv13_3.same W14
  have sz15 : h10.size ≤ h14.size := Nat.le_of_eq W14.size.symm
  have N14 := Fr.snoc X14 N10 (by omega : n0 ≤ ob)
  refine OwnFin.adv (B := T14.setTop (mkF m 25 #[.val (.ref ob), .val (.ref af), .val (.ref ap), .val (.ref kd), .val (.int ln), .val (.int en), .val (.ref tx), .val (.ref wn), .val .null, .val .null] [])) (fun _ k => st14 _ k) ?_
  refine OwnFin.adv (B := T14.setTop (mkF m 26 #[.val (.ref ob), .val (.ref af), .val (.ref ap), .val (.ref kd), .val (.int ln), .val (.int en), .val (.ref tx), .val (.ref wn), .val .null, .val .null] [(.ref ob)])) (fun _ k => XS.aloadN X14.here hx rfl (hb hby own_d7_25) rfl rfl k) ?_
  refine OwnFin.adv (B := T14.setTop (mkF m 28 #[.val (.ref ob), .val (.ref af), .val (.ref ap), .val (.ref kd), .val (.int ln), .val (.int en), .val (.ref tx), .val (.ref wn), .val .null, .val .null] [(.int en), (.ref ob)])) (fun _ k => XS.iload X14.here hx rfl (hb hby own_d7_26) rfl k) ?_
  have Fv16_4 : Exa Z h14 ob "com/example/notional/notional/io/JsonValue" := (Fv12_3.wr W14)
  have Fv17_4 : Fld Z h14 ob "com/example/notional/notional/io/JsonValue" "endLine" "I" u4 := ((((F4.other W2 (Or.inr (slot_ne (Or.inr (hw _ (List.mem_of_getElem? (i := 73) rfl))) (Or.inr (hw _ (List.mem_of_getElem? (i := 65) rfl))) (by decide) (t := .int) (t' := (.object "java/lang/String")) (by decide) (by decide)))).other W6 (Or.inr (slot_ne (Or.inr (hw _ (List.mem_of_getElem? (i := 73) rfl))) (Or.inr (hw _ (List.mem_of_getElem? (i := 67) rfl))) (by decide) (t := .int) (t' := (.object "java/lang/String")) (by decide) (by decide)))).other W10 (Or.inr (slot_ne (Or.inr (hw _ (List.mem_of_getElem? (i := 73) rfl))) (Or.inr (hw _ (List.mem_of_getElem? (i := 69) rfl))) (by decide) (t := .int) (t' := (.object "com/example/notional/notional/io/JsonValue$Kind")) (by decide) (by decide)))).other W14 (Or.inr (slot_ne (Or.inr (hw _ (List.mem_of_getElem? (i := 73) rfl))) (Or.inr (hw _ (List.mem_of_getElem? (i := 71) rfl))) (by decide) (t := .int) (t' := .int) (by decide) (by decide))))
  obtain ⟨T18, h18, X18, e18, W18, st18⟩ := putF X14 hx hZ hown (host := "") (Or.inl (hw _ (List.mem_of_getElem? (i := 72) rfl))) Via.refl e14 Fv17_4 Fv16_4 (Or.inr ⟨(hw _ (List.mem_of_getElem? (i := 73) rfl)), rfl, hnm⟩) (hw _ (List.mem_of_getElem? (i := 47) rfl)) (ty := .int) (by decide) rfl rfl (g := (mkF m 28 #[.val (.ref ob), .val (.ref af), .val (.ref ap), .val (.ref kd), .val (.int ln), .val (.int en), .val (.ref tx), .val (.ref wn), .val .null, .val .null] [(.int en), (.ref ob)])) rfl rfl (hb hby own_d7_28)
  have Fw18 : Fld Z h18 ob "com/example/notional/notional/io/JsonValue" "endLine" "I" (.int en) := Fv17_4.same W18
  have sz19 : h14.size ≤ h18.size := Nat.le_of_eq W18.size.symm
  have N18 := Fr.snoc X18 N14 (by omega : n0 ≤ ob)
  refine OwnFin.adv (B := T18.setTop (mkF m 31 #[.val (.ref ob), .val (.ref af), .val (.ref ap), .val (.ref kd), .val (.int ln), .val (.int en), .val (.ref tx), .val (.ref wn), .val .null, .val .null] [])) (fun _ k => st18 _ k) ?_
  refine OwnFin.adv (B := T18.setTop (mkF m 32 #[.val (.ref ob), .val (.ref af), .val (.ref ap), .val (.ref kd), .val (.int ln), .val (.int en), .val (.ref tx), .val (.ref wn), .val .null, .val .null] [(.ref ob)])) (fun _ k => XS.aloadN X18.here hx rfl (hb hby own_d7_31) rfl rfl k) ?_
  refine OwnFin.adv (B := T18.setTop (mkF m 34 #[.val (.ref ob), .val (.ref af), .val (.ref ap), .val (.ref kd), .val (.int ln), .val (.int en), .val (.ref tx), .val (.ref wn), .val .null, .val .null] [(.ref tx), (.ref ob)])) (fun _ k => XS.aload X18.here hx rfl (hb hby own_d7_32) rfl rfl k) ?_
  have Fv20_5 : Exa Z h18 ob "com/example/notional/notional/io/JsonValue" := (Fv16_4.wr W18)
  have Fv21_5 : Fld Z h18 ob "com/example/notional/notional/io/JsonValue" "text" "Ljava/lang/String;" u5 := (((((F5.other W2 (Or.inr (slot_ne (Or.inr (hw _ (List.mem_of_getElem? (i := 75) rfl))) (Or.inr (hw _ (List.mem_of_getElem? (i := 65) rfl))) (by decide) (t := (.object "java/lang/String")) (t' := (.object "java/lang/String")) (by decide) (by decide)))).other W6 (Or.inr (slot_ne (Or.inr (hw _ (List.mem_of_getElem? (i := 75) rfl))) (Or.inr (hw _ (List.mem_of_getElem? (i := 67) rfl))) (by decide) (t := (.object "java/lang/String")) (t' := (.object "java/lang/String")) (by decide) (by decide)))).other W10 (Or.inr (slot_ne (Or.inr (hw _ (List.mem_of_getElem? (i := 75) rfl))) (Or.inr (hw _ (List.mem_of_getElem? (i := 69) rfl))) (by decide) (t := (.object "java/lang/String")) (t' := (.object "com/example/notional/notional/io/JsonValue$Kind")) (by decide) (by decide)))).other W14 (Or.inr (slot_ne (Or.inr (hw _ (List.mem_of_getElem? (i := 75) rfl))) (Or.inr (hw _ (List.mem_of_getElem? (i := 71) rfl))) (by decide) (t := (.object "java/lang/String")) (t' := .int) (by decide) (by decide)))).other W18 (Or.inr (slot_ne (Or.inr (hw _ (List.mem_of_getElem? (i := 75) rfl))) (Or.inr (hw _ (List.mem_of_getElem? (i := 73) rfl))) (by decide) (t := (.object "java/lang/String")) (t' := .int) (by decide) (by decide))))
  obtain ⟨T22, h22, X22, e22, W22, st22⟩ := putF X18 hx hZ hown (host := "") (Or.inl (hw _ (List.mem_of_getElem? (i := 74) rfl))) Via.refl e18 Fv21_5 Fv20_5 (Or.inr ⟨(hw _ (List.mem_of_getElem? (i := 75) rfl)), rfl, hnm⟩) (hw _ (List.mem_of_getElem? (i := 47) rfl)) (ty := (.object "java/lang/String")) (by decide) rfl rfl (g := (mkF m 34 #[.val (.ref ob), .val (.ref af), .val (.ref ap), .val (.ref kd), .val (.int ln), .val (.int en), .val (.ref tx), .val (.ref wn), .val .null, .val .null] [(.ref tx), (.ref ob)])) rfl rfl (hb hby own_d7_34)
  have Fw22 : Fld Z h22 ob "com/example/notional/notional/io/JsonValue" "text" "Ljava/lang/String;" (.ref tx) := Fv21_5.same W22
  have sz23 : h18.size ≤ h22.size := Nat.le_of_eq W22.size.symm
  have N22 := Fr.snoc X22 N18 (by omega : n0 ≤ ob)
  refine OwnFin.adv (B := T22.setTop (mkF m 37 #[.val (.ref ob), .val (.ref af), .val (.ref ap), .val (.ref kd), .val (.int ln), .val (.int en), .val (.ref tx), .val (.ref wn), .val .null, .val .null] [])) (fun _ k => st22 _ k) ?_
  refine OwnFin.adv (B := T22.setTop (mkF m 38 #[.val (.ref ob), .val (.ref af), .val (.ref ap), .val (.ref kd), .val (.int ln), .val (.int en), .val (.ref tx), .val (.ref wn), .val .null, .val .null] [(.ref ob)])) (fun _ k => XS.aloadN X22.here hx rfl (hb hby own_d7_37) rfl rfl k) ?_
  refine OwnFin.adv (B := T22.setTop (mkF m 40 #[.val (.ref ob), .val (.ref af), .val (.ref ap), .val (.ref kd), .val (.int ln), .val (.int en), .val (.ref tx), .val (.ref wn), .val .null, .val .null] [(.ref wn), (.ref ob)])) (fun _ k => XS.aload X22.here hx rfl (hb hby own_d7_38) rfl rfl k) ?_
  have Fv24_6 : Exa Z h22 ob "com/example/notional/notional/io/JsonValue" := (Fv20_5.wr W22)
  have Fv25_6 : Fld Z h22 ob "com/example/notional/notional/io/JsonValue" "wholeNumber" "Ljava/lang/Integer;" u6 := ((((((F6.other W2 (Or.inr (slot_ne (Or.inr (hw _ (List.mem_of_getElem? (i := 77) rfl))) (Or.inr (hw _ (List.mem_of_getElem? (i := 65) rfl))) (by decide) (t := (.object "java/lang/Integer")) (t' := (.object "java/lang/String")) (by decide) (by decide)))).other W6 (Or.inr (slot_ne (Or.inr (hw _ (List.mem_of_getElem? (i := 77) rfl))) (Or.inr (hw _ (List.mem_of_getElem? (i := 67) rfl))) (by decide) (t := (.object "java/lang/Integer")) (t' := (.object "java/lang/String")) (by decide) (by decide)))).other W10 (Or.inr (slot_ne (Or.inr (hw _ (List.mem_of_getElem? (i := 77) rfl))) (Or.inr (hw _ (List.mem_of_getElem? (i := 69) rfl))) (by decide) (t := (.object "java/lang/Integer")) (t' := (.object "com/example/notional/notional/io/JsonValue$Kind")) (by decide) (by decide)))).other W14 (Or.inr (slot_ne (Or.inr (hw _ (List.mem_of_getElem? (i := 77) rfl))) (Or.inr (hw _ (List.mem_of_getElem? (i := 71) rfl))) (by decide) (t := (.object "java/lang/Integer")) (t' := .int) (by decide) (by decide)))).other W18 (Or.inr (slot_ne (Or.inr (hw _ (List.mem_of_getElem? (i := 77) rfl))) (Or.inr (hw _ (List.mem_of_getElem? (i := 73) rfl))) (by decide) (t := (.object "java/lang/Integer")) (t' := .int) (by decide) (by decide)))).other W22 (Or.inr (slot_ne (Or.inr (hw _ (List.mem_of_getElem? (i := 77) rfl))) (Or.inr (hw _ (List.mem_of_getElem? (i := 75) rfl))) (by decide) (t := (.object "java/lang/Integer")) (t' := (.object "java/lang/String")) (by decide) (by decide))))
  obtain ⟨T26, h26, X26, e26, W26, st26⟩ := putF X22 hx hZ hown (host := "") (Or.inl (hw _ (List.mem_of_getElem? (i := 76) rfl))) Via.refl e22 Fv25_6 Fv24_6 (Or.inr ⟨(hw _ (List.mem_of_getElem? (i := 77) rfl)), rfl, hnm⟩) (hw _ (List.mem_of_getElem? (i := 47) rfl)) (ty := (.object "java/lang/Integer")) (by decide) rfl rfl (g := (mkF m 40 #[.val (.ref ob), .val (.ref af), .val (.ref ap), .val (.ref kd), .val (.int ln), .val (.int en), .val (.ref tx), .val (.ref wn), .val .null, .val .null] [(.ref wn), (.ref ob)])) rfl rfl (hb hby own_d7_40)
  have Fw26 : Fld Z h26 ob "com/example/notional/notional/io/JsonValue" "wholeNumber" "Ljava/lang/Integer;" (.ref wn) := Fv25_6.same W26
  have sz27 : h22.size ≤ h26.size := Nat.le_of_eq W26.size.symm
  have N26 := Fr.snoc X26 N22 (by omega : n0 ≤ ob)
  refine OwnFin.adv (B := T26.setTop (mkF m 43 #[.val (.ref ob), .val (.ref af), .val (.ref ap), .val (.ref kd), .val (.int ln), .val (.int en), .val (.ref tx), .val (.ref wn), .val .null, .val .null] [])) (fun _ k => st26 _ k) ?_
  refine OwnFin.adv (B := T26.setTop (mkF m 44 #[.val (.ref ob), .val (.ref af), .val (.ref ap), .val (.ref kd), .val (.int ln), .val (.int en), .val (.ref tx), .val (.ref wn), .val .null, .val .null] [(.ref ob)])) (fun _ k => XS.aloadN X26.here hx rfl (hb hby own_d7_43) rfl rfl k) ?_
  refine OwnFin.adv (B := T26.setTop (mkF m 46 #[.val (.ref ob), .val (.ref af), .val (.ref ap), .val (.ref kd), .val (.int ln), .val (.int en), .val (.ref tx), .val (.ref wn), .val .null, .val .null] [.null, (.ref ob)])) (fun _ k => XS.aload X26.here hx rfl (hb hby own_d7_44) rfl rfl k) ?_
  have Fv28_7 : Exa Z h26 ob "com/example/notional/notional/io/JsonValue" := (Fv24_6.wr W26)
  have Fv29_7 : Fld Z h26 ob "com/example/notional/notional/io/JsonValue" "members" "Ljava/util/Map;" u7 := (((((((F7.other W2 (Or.inr (slot_ne (Or.inr (hw _ (List.mem_of_getElem? (i := 79) rfl))) (Or.inr (hw _ (List.mem_of_getElem? (i := 65) rfl))) (by decide) (t := (.object "java/util/Map")) (t' := (.object "java/lang/String")) (by decide) (by decide)))).other W6 (Or.inr (slot_ne (Or.inr (hw _ (List.mem_of_getElem? (i := 79) rfl))) (Or.inr (hw _ (List.mem_of_getElem? (i := 67) rfl))) (by decide) (t := (.object "java/util/Map")) (t' := (.object "java/lang/String")) (by decide) (by decide)))).other W10 (Or.inr (slot_ne (Or.inr (hw _ (List.mem_of_getElem? (i := 79) rfl))) (Or.inr (hw _ (List.mem_of_getElem? (i := 69) rfl))) (by decide) (t := (.object "java/util/Map")) (t' := (.object "com/example/notional/notional/io/JsonValue$Kind")) (by decide) (by decide)))).other W14 (Or.inr (slot_ne (Or.inr (hw _ (List.mem_of_getElem? (i := 79) rfl))) (Or.inr (hw _ (List.mem_of_getElem? (i := 71) rfl))) (by decide) (t := (.object "java/util/Map")) (t' := .int) (by decide) (by decide)))).other W18 (Or.inr (slot_ne (Or.inr (hw _ (List.mem_of_getElem? (i := 79) rfl))) (Or.inr (hw _ (List.mem_of_getElem? (i := 73) rfl))) (by decide) (t := (.object "java/util/Map")) (t' := .int) (by decide) (by decide)))).other W22 (Or.inr (slot_ne (Or.inr (hw _ (List.mem_of_getElem? (i := 79) rfl))) (Or.inr (hw _ (List.mem_of_getElem? (i := 75) rfl))) (by decide) (t := (.object "java/util/Map")) (t' := (.object "java/lang/String")) (by decide) (by decide)))).other W26 (Or.inr (slot_ne (Or.inr (hw _ (List.mem_of_getElem? (i := 79) rfl))) (Or.inr (hw _ (List.mem_of_getElem? (i := 77) rfl))) (by decide) (t := (.object "java/util/Map")) (t' := (.object "java/lang/Integer")) (by decide) (by decide))))
  obtain ⟨T30, h30, X30, e30, W30, st30⟩ := putF X26 hx hZ hown (host := "") (Or.inl (hw _ (List.mem_of_getElem? (i := 78) rfl))) Via.refl e26 Fv29_7 Fv28_7 (Or.inr ⟨(hw _ (List.mem_of_getElem? (i := 79) rfl)), rfl, hnm⟩) (hw _ (List.mem_of_getElem? (i := 47) rfl)) (ty := (.object "java/util/Map")) (by decide) rfl rfl (g := (mkF m 46 #[.val (.ref ob), .val (.ref af), .val (.ref ap), .val (.ref kd), .val (.int ln), .val (.int en), .val (.ref tx), .val (.ref wn), .val .null, .val .null] [.null, (.ref ob)])) rfl rfl (hb hby own_d7_46)
  have Fw30 : Fld Z h30 ob "com/example/notional/notional/io/JsonValue" "members" "Ljava/util/Map;" .null := Fv29_7.same W30
  have sz31 : h26.size ≤ h30.size := Nat.le_of_eq W30.size.symm
  have N30 := Fr.snoc X30 N26 (by omega : n0 ≤ ob)
  refine OwnFin.adv (B := T30.setTop (mkF m 49 #[.val (.ref ob), .val (.ref af), .val (.ref ap), .val (.ref kd), .val (.int ln), .val (.int en), .val (.ref tx), .val (.ref wn), .val .null, .val .null] [])) (fun _ k => st30 _ k) ?_
  refine OwnFin.adv (B := T30.setTop (mkF m 50 #[.val (.ref ob), .val (.ref af), .val (.ref ap), .val (.ref kd), .val (.int ln), .val (.int en), .val (.ref tx), .val (.ref wn), .val .null, .val .null] [(.ref ob)])) (fun _ k => XS.aloadN X30.here hx rfl (hb hby own_d7_49) rfl rfl k) ?_
  refine OwnFin.adv (B := T30.setTop (mkF m 52 #[.val (.ref ob), .val (.ref af), .val (.ref ap), .val (.ref kd), .val (.int ln), .val (.int en), .val (.ref tx), .val (.ref wn), .val .null, .val .null] [.null, (.ref ob)])) (fun _ k => XS.aload X30.here hx rfl (hb hby own_d7_50) rfl rfl k) ?_
  have Fv32_8 : Exa Z h30 ob "com/example/notional/notional/io/JsonValue" := (Fv28_7.wr W30)
  have Fv33_8 : Fld Z h30 ob "com/example/notional/notional/io/JsonValue" "elements" "Ljava/util/List;" u8 := ((((((((F8.other W2 (Or.inr (slot_ne (Or.inr (hw _ (List.mem_of_getElem? (i := 81) rfl))) (Or.inr (hw _ (List.mem_of_getElem? (i := 65) rfl))) (by decide) (t := (.object "java/util/List")) (t' := (.object "java/lang/String")) (by decide) (by decide)))).other W6 (Or.inr (slot_ne (Or.inr (hw _ (List.mem_of_getElem? (i := 81) rfl))) (Or.inr (hw _ (List.mem_of_getElem? (i := 67) rfl))) (by decide) (t := (.object "java/util/List")) (t' := (.object "java/lang/String")) (by decide) (by decide)))).other W10 (Or.inr (slot_ne (Or.inr (hw _ (List.mem_of_getElem? (i := 81) rfl))) (Or.inr (hw _ (List.mem_of_getElem? (i := 69) rfl))) (by decide) (t := (.object "java/util/List")) (t' := (.object "com/example/notional/notional/io/JsonValue$Kind")) (by decide) (by decide)))).other W14 (Or.inr (slot_ne (Or.inr (hw _ (List.mem_of_getElem? (i := 81) rfl))) (Or.inr (hw _ (List.mem_of_getElem? (i := 71) rfl))) (by decide) (t := (.object "java/util/List")) (t' := .int) (by decide) (by decide)))).other W18 (Or.inr (slot_ne (Or.inr (hw _ (List.mem_of_getElem? (i := 81) rfl))) (Or.inr (hw _ (List.mem_of_getElem? (i := 73) rfl))) (by decide) (t := (.object "java/util/List")) (t' := .int) (by decide) (by decide)))).other W22 (Or.inr (slot_ne (Or.inr (hw _ (List.mem_of_getElem? (i := 81) rfl))) (Or.inr (hw _ (List.mem_of_getElem? (i := 75) rfl))) (by decide) (t := (.object "java/util/List")) (t' := (.object "java/lang/String")) (by decide) (by decide)))).other W26 (Or.inr (slot_ne (Or.inr (hw _ (List.mem_of_getElem? (i := 81) rfl))) (Or.inr (hw _ (List.mem_of_getElem? (i := 77) rfl))) (by decide) (t := (.object "java/util/List")) (t' := (.object "java/lang/Integer")) (by decide) (by decide)))).other W30 (Or.inr (slot_ne (Or.inr (hw _ (List.mem_of_getElem? (i := 81) rfl))) (Or.inr (hw _ (List.mem_of_getElem? (i := 79) rfl))) (by decide) (t := (.object "java/util/List")) (t' := (.object "java/util/Map")) (by decide) (by decide))))
  obtain ⟨T34, h34, X34, e34, W34, st34⟩ := putF X30 hx hZ hown (host := "") (Or.inl (hw _ (List.mem_of_getElem? (i := 80) rfl))) Via.refl e30 Fv33_8 Fv32_8 (Or.inr ⟨(hw _ (List.mem_of_getElem? (i := 81) rfl)), rfl, hnm⟩) (hw _ (List.mem_of_getElem? (i := 47) rfl)) (ty := (.object "java/util/List")) (by decide) rfl rfl (g := (mkF m 52 #[.val (.ref ob), .val (.ref af), .val (.ref ap), .val (.ref kd), .val (.int ln), .val (.int en), .val (.ref tx), .val (.ref wn), .val .null, .val .null] [.null, (.ref ob)])) rfl rfl (hb hby own_d7_52)
  have Fw34 : Fld Z h34 ob "com/example/notional/notional/io/JsonValue" "elements" "Ljava/util/List;" .null := Fv33_8.same W34
  have sz35 : h30.size ≤ h34.size := Nat.le_of_eq W34.size.symm
  have N34 := Fr.snoc X34 N30 (by omega : n0 ≤ ob)
  refine OwnFin.adv (B := T34.setTop (mkF m 55 #[.val (.ref ob), .val (.ref af), .val (.ref ap), .val (.ref kd), .val (.int ln), .val (.int en), .val (.ref tx), .val (.ref wn), .val .null, .val .null] [])) (fun _ k => st34 _ k) ?_
  obtain ⟨fs, hr, hrun, hended, hW, hsame⟩ := X34.leave (v := none) (fun _ => rfl)
  refine OwnFin.leaf hP' ⟨_, _, X34.returnOut hx Bd.returns (hb hby own_d7_55) hr, hrun, hended, _, _, rfl, ?_, ⟨_, rfl⟩, hW, hsame.mono (by decide) (by decide)⟩
  have Fv36_9 : Fld Z h34 ob "com/example/notional/notional/io/JsonValue" "kind" "Lcom/example/notional/notional/io/JsonValue$Kind;" (.ref kd) := ((((((Fw10.other W14 (Or.inr (slot_ne (Or.inr (hw _ (List.mem_of_getElem? (i := 69) rfl))) (Or.inr (hw _ (List.mem_of_getElem? (i := 71) rfl))) (by decide) (t := (.object "com/example/notional/notional/io/JsonValue$Kind")) (t' := .int) (by decide) (by decide)))).other W18 (Or.inr (slot_ne (Or.inr (hw _ (List.mem_of_getElem? (i := 69) rfl))) (Or.inr (hw _ (List.mem_of_getElem? (i := 73) rfl))) (by decide) (t := (.object "com/example/notional/notional/io/JsonValue$Kind")) (t' := .int) (by decide) (by decide)))).other W22 (Or.inr (slot_ne (Or.inr (hw _ (List.mem_of_getElem? (i := 69) rfl))) (Or.inr (hw _ (List.mem_of_getElem? (i := 75) rfl))) (by decide) (t := (.object "com/example/notional/notional/io/JsonValue$Kind")) (t' := (.object "java/lang/String")) (by decide) (by decide)))).other W26 (Or.inr (slot_ne (Or.inr (hw _ (List.mem_of_getElem? (i := 69) rfl))) (Or.inr (hw _ (List.mem_of_getElem? (i := 77) rfl))) (by decide) (t := (.object "com/example/notional/notional/io/JsonValue$Kind")) (t' := (.object "java/lang/Integer")) (by decide) (by decide)))).other W30 (Or.inr (slot_ne (Or.inr (hw _ (List.mem_of_getElem? (i := 69) rfl))) (Or.inr (hw _ (List.mem_of_getElem? (i := 79) rfl))) (by decide) (t := (.object "com/example/notional/notional/io/JsonValue$Kind")) (t' := (.object "java/util/Map")) (by decide) (by decide)))).other W34 (Or.inr (slot_ne (Or.inr (hw _ (List.mem_of_getElem? (i := 69) rfl))) (Or.inr (hw _ (List.mem_of_getElem? (i := 81) rfl))) (by decide) (t := (.object "com/example/notional/notional/io/JsonValue$Kind")) (t' := (.object "java/util/List")) (by decide) (by decide))))
  have Fv37_9 : Fld Z h34 ob "com/example/notional/notional/io/JsonValue" "text" "Ljava/lang/String;" (.ref tx) := (((Fw22.other W26 (Or.inr (slot_ne (Or.inr (hw _ (List.mem_of_getElem? (i := 75) rfl))) (Or.inr (hw _ (List.mem_of_getElem? (i := 77) rfl))) (by decide) (t := (.object "java/lang/String")) (t' := (.object "java/lang/Integer")) (by decide) (by decide)))).other W30 (Or.inr (slot_ne (Or.inr (hw _ (List.mem_of_getElem? (i := 75) rfl))) (Or.inr (hw _ (List.mem_of_getElem? (i := 79) rfl))) (by decide) (t := (.object "java/lang/String")) (t' := (.object "java/util/Map")) (by decide) (by decide)))).other W34 (Or.inr (slot_ne (Or.inr (hw _ (List.mem_of_getElem? (i := 75) rfl))) (Or.inr (hw _ (List.mem_of_getElem? (i := 81) rfl))) (by decide) (t := (.object "java/lang/String")) (t' := (.object "java/util/List")) (by decide) (by decide))))
  rw [show (T34.setFrames fs).heap = h34 from e34]
  exact ⟨rfl, N34, ((((((((((Keep.refl h0 [ob]).wr W2 (Or.inl (List.mem_of_getElem? (i := 0) rfl))).wr W6 (Or.inl (List.mem_of_getElem? (i := 0) rfl))).wr W10 (Or.inl (List.mem_of_getElem? (i := 0) rfl))).wr W14 (Or.inl (List.mem_of_getElem? (i := 0) rfl))).wr W18 (Or.inl (List.mem_of_getElem? (i := 0) rfl))).wr W22 (Or.inl (List.mem_of_getElem? (i := 0) rfl))).wr W26 (Or.inl (List.mem_of_getElem? (i := 0) rfl))).wr W30 (Or.inl (List.mem_of_getElem? (i := 0) rfl))).wr W34 (Or.inl (List.mem_of_getElem? (i := 0) rfl))), Fv36_9, Fv37_9⟩
theorem own_d8_0 : decode prog_12_method_4_code 0 = .ok (.aload_n 0, 1) := by decide +kernel
theorem own_d8_1 : decode prog_12_method_4_code 1 = .ok (.getfield 16, 3) := by decide +kernel
theorem own_d8_4 : decode prog_12_method_4_code 4 = .ok (.getstatic 47, 3) := by decide +kernel
theorem own_d8_7 : decode prog_12_method_4_code 7 = .ok (.if_acmp .ne 7, 3) := by decide +kernel
theorem own_d8_10 : decode prog_12_method_4_code 10 = .ok (.iconst 1, 1) := by decide +kernel
theorem own_d8_11 : decode prog_12_method_4_code 11 = .ok (.goto 4, 3) := by decide +kernel
theorem own_d8_15 : decode prog_12_method_4_code 15 = .ok (.ireturn, 1) := by decide +kernel
theorem own_d8_14 : decode prog_12_method_4_code 14 = .ok (.iconst 0, 1) := by decide +kernel
theorem own_ef_isStr (m : MethodId) (x0 : Addr) : entryFrame m #[(.ref x0)] 1 = mkF m 0 #[.val (.ref x0)] [] := by first | (simp [entryFrame, mkF, argsToLocals, Value.category]; done) | rfl
def own_Q_isStr (Z : State) (ob kd q2 : Addr) (h0 : Heap) (n0 : Nat) (v : Option Value) (h : Heap) (L : List Loc) : Prop := v = some (.int (if kd = q2 then (1 : Int32) else 0)) ∧ Fr n0 L ∧ h = h0
set_option maxRecDepth 65536 in
set_option maxHeartbeats 40000000 in
theorem own_isStr (l : Launch) (Z : State) (a0 : Array Value) (hw : ∀ d ∈ tables_1, d.before a0 Z = true) (ws : List Jvm.Cond) (ob kd q2 : Addr) (h0 : Heap) (n0 : Nat) (Z0 : n0 ≤ h0.size) (Fk : Fld Z h0 ob "com/example/notional/notional/io/JsonValue" "kind" "Lcom/example/notional/notional/io/JsonValue$Kind;" (.ref kd)) (Ss : Sta Z h0 "com/example/notional/notional/io/JsonValue$Kind" "STRING" "Lcom/example/notional/notional/io/JsonValue$Kind;" (.ref q2)) :
    MetFree l (⟨"com/example/notional/notional/io/JsonValue", "isString", "()Z"⟩ : MethodName) (head1 (Jvm.Cond.code (⟨"com/example/notional/notional/io/JsonValue", "isString", "()Z"⟩ : MethodName) prog_12_method_4_code 1 (some .boolean) :: ws) ({ frames := 0, cells := 0, slots := 0, locals := 0 } : Room)) (fun A0 U0 => A0 = #[(.ref ob)] ∧ Z.Warmed39 U0.vm ∧ U0.heap = h0) (fun _ _ _ _ _ => True) (fun _ U0 o0 U1 => ∃ v0 L0, o0 = .returned v0 ∧ own_Q_isStr Z ob kd q2 h0 n0 v0 U1.heap L0 ∧ FrameEnd U0 o0 U1 L0 ({ frames := 0, cells := 0, slots := 0, locals := 0 } : Room).cells ({ frames := 0, cells := 0, slots := 0, locals := 0 } : Room).slots) := by
  refine MetFree.of_bodySF (plainFor_of_name own_pn_com_example_notional_notional_io_JsonValue) hisR ?_
  intro p e s m args below meth c s₁ Bd hml0 hP hK
  obtain ⟨rfl, hZ, hh⟩ := hP
  have hx := Bd.exec
  have hby := Bd.bytes
  have hml : c.maxLocals = 1 := hml0
  have hown : s.vm.findClass "com/example/notional/notional/io/JsonValue" = some m.cls := findClass_of_methodNamed Bd.named
  have hnm := (name_of_methodNamed Bd.named Bd.method).1
  have X0 : Stand p l e ({ frames := 0, cells := 0, slots := 0, locals := 0 } : Room) s m #[(.ref ob)] below meth c s₁ [] 0 0 := Stand.of_body Bd
  have e0 : s₁.heap = h0 := by rw [← hh, Bd.state]; rfl
  have N0 := Fr.nil n0
  refine OwnFin.entry (own_ef_isStr m ob) (fun P' hP' => ?_)
  refine OwnFin.adv (B := s₁.setTop (mkF m 1 #[.val (.ref ob)] [(.ref ob)])) (fun _ k => XS.aloadN X0.here hx rfl (hb hby own_d8_0) rfl rfl k) ?_
  obtain ⟨T1, X1, e1, st1⟩ := getF X0 hx hZ hown (host := "") (Or.inl (hw _ (List.mem_of_getElem? (i := 68) rfl))) Via.refl e0 Fk (g := (mkF m 1 #[.val (.ref ob)] [(.ref ob)])) rfl rfl (hb hby own_d8_1)
  refine OwnFin.adv (B := T1.setTop (mkF m 4 #[.val (.ref ob)] [(.ref kd)])) (fun _ k => st1 _ k) ?_
  obtain ⟨T2, X2, e2, st2⟩ := getS2 X1 hx hZ hown (host := "") (Or.inl (hw _ (List.mem_of_getElem? (i := 87) rfl))) Via.refl e1 Ss (g := (mkF m 4 #[.val (.ref ob)] [(.ref kd)])) rfl (hb hby own_d8_4)
  refine OwnFin.adv (B := T2.setTop (mkF m 7 #[.val (.ref ob)] [(.ref q2), (.ref kd)])) (fun _ k => st2 _ k) ?_
  by_cases hc7 : kd = q2
  ·
    refine OwnFin.adv (B := T2.setTop (mkF m 10 #[.val (.ref ob)] [])) (fun _ k => Jvm.RoadKit.acmp (g := (mkF m 7 #[.val (.ref ob)] [(.ref q2), (.ref kd)])) X2 hx rfl rfl rfl (pc0 := 7) (pc' := 10) (same := true) rfl (hb hby own_d8_7) rfl (decide_eq_true (congrArg Value.ref hc7)) (by decide) (by decide) k) ?_
    refine OwnFin.adv (B := T2.setTop (mkF m 11 #[.val (.ref ob)] [(.int (1 : Int32))])) (fun _ k => XS.iconst X2.here hx rfl (hb hby own_d8_10) k) ?_
    refine OwnFin.adv (B := T2.setTop (mkF m 15 #[.val (.ref ob)] [(.int (1 : Int32))])) (fun _ k => XS.goto X2.here hx rfl (pc0 := 11) (pc' := 15) rfl (hb hby own_d8_11) (by decide) (by decide) k) ?_
    obtain ⟨fs, hr, hrun, hended, hW, hsame⟩ := X2.leave (v := some (.int (1 : Int32))) (fun h => by rw [Bd.returns] at h; cases h)
    refine OwnFin.leaf hP' ⟨_, _, retN X2 hx (t := .boolean) Bd.returns (by simp) (hb hby own_d8_15) hr, hrun, hended, _, _, rfl, ?_, ⟨_, rfl⟩, hW, hsame.mono (by decide) (by decide)⟩
    exact ⟨by simp [hc7], N0, e2⟩
  ·
    refine OwnFin.adv (B := T2.setTop (mkF m 14 #[.val (.ref ob)] [])) (fun _ k => Jvm.RoadKit.acmp (g := (mkF m 7 #[.val (.ref ob)] [(.ref q2), (.ref kd)])) X2 hx rfl rfl rfl (pc0 := 7) (pc' := 14) (same := false) rfl (hb hby own_d8_7) rfl (decide_eq_false fun q => hc7 (Value.ref.inj q)) (by decide) (by decide) k) ?_
    refine OwnFin.adv (B := T2.setTop (mkF m 15 #[.val (.ref ob)] [(.int (0 : Int32))])) (fun _ k => XS.iconst X2.here hx rfl (hb hby own_d8_14) k) ?_
    obtain ⟨fs, hr, hrun, hended, hW, hsame⟩ := X2.leave (v := some (.int (0 : Int32))) (fun h => by rw [Bd.returns] at h; cases h)
    refine OwnFin.leaf hP' ⟨_, _, retN X2 hx (t := .boolean) Bd.returns (by simp) (hb hby own_d8_15) hr, hrun, hended, _, _, rfl, ?_, ⟨_, rfl⟩, hW, hsame.mono (by decide) (by decide)⟩
    exact ⟨by simp [hc7], N0, e2⟩
theorem own_d11_0 : decode prog_12_method_7_code 0 = .ok (.aload_n 0, 1) := by decide +kernel
theorem own_pd_x28x29Z : parseMethodDescriptor "()Z" = some ⟨[], some .boolean⟩ := by decide +kernel
theorem own_d11_1 : decode prog_12_method_7_code 1 = .ok (.invokevirtual 65, 3) := by decide +kernel
theorem own_d11_4 : decode prog_12_method_7_code 4 = .ok (.ifCond .ne 10, 3) := by decide +kernel
theorem own_d11_14 : decode prog_12_method_7_code 14 = .ok (.aload_n 0, 1) := by decide +kernel
theorem own_d11_15 : decode prog_12_method_7_code 15 = .ok (.getfield 27, 3) := by decide +kernel
theorem own_d11_18 : decode prog_12_method_7_code 18 = .ok (.areturn, 1) := by decide +kernel
theorem own_ef_jStr (m : MethodId) (x0 : Addr) : entryFrame m #[(.ref x0)] 1 = mkF m 0 #[.val (.ref x0)] [] := by first | (simp [entryFrame, mkF, argsToLocals, Value.category]; done) | rfl
def own_Q_jStr (Z : State) (ob q2 tx : Addr) (h0 : Heap) (n0 : Nat) (v : Option Value) (h : Heap) (L : List Loc) : Prop := v = some (.ref tx) ∧ Fr n0 L ∧ h = h0
set_option maxRecDepth 65536 in
set_option maxHeartbeats 40000000 in
theorem own_jStr (l : Launch) (Z : State) (a0 : Array Value) (hw : ∀ d ∈ tables_1, d.before a0 Z = true) (ws : List Jvm.Cond) (ob q2 tx : Addr) (h0 : Heap) (n0 : Nat) (Z0 : n0 ≤ h0.size) (E : Exa Z h0 ob "com/example/notional/notional/io/JsonValue") (Fk : Fld Z h0 ob "com/example/notional/notional/io/JsonValue" "kind" "Lcom/example/notional/notional/io/JsonValue$Kind;" (.ref q2)) (Ft : Fld Z h0 ob "com/example/notional/notional/io/JsonValue" "text" "Ljava/lang/String;" (.ref tx)) (Ss : Sta Z h0 "com/example/notional/notional/io/JsonValue$Kind" "STRING" "Lcom/example/notional/notional/io/JsonValue$Kind;" (.ref q2)) :
    MetFree l (⟨"com/example/notional/notional/io/JsonValue", "string", "()Ljava/lang/String;"⟩ : MethodName) (head1 (Jvm.Cond.code (⟨"com/example/notional/notional/io/JsonValue", "string", "()Ljava/lang/String;"⟩ : MethodName) prog_12_method_7_code 1 (some (.object "java/lang/String")) :: ws) ({ frames := 1, cells := 0, slots := 0, locals := 12 } : Room)) (fun A0 U0 => A0 = #[(.ref ob)] ∧ Z.Warmed39 U0.vm ∧ U0.heap = h0) (fun _ _ _ _ _ => True) (fun _ U0 o0 U1 => ∃ v0 L0, o0 = .returned v0 ∧ own_Q_jStr Z ob q2 tx h0 n0 v0 U1.heap L0 ∧ FrameEnd U0 o0 U1 L0 ({ frames := 1, cells := 0, slots := 0, locals := 12 } : Room).cells ({ frames := 1, cells := 0, slots := 0, locals := 12 } : Room).slots) := by
  refine MetFree.of_bodySF (plainFor_of_name own_pn_com_example_notional_notional_io_JsonValue) hisR ?_
  intro p e s m args below meth c s₁ Bd hml0 hP hK
  obtain ⟨rfl, hZ, hh⟩ := hP
  have hx := Bd.exec
  have hby := Bd.bytes
  have hml : c.maxLocals = 1 := hml0
  have hown : s.vm.findClass "com/example/notional/notional/io/JsonValue" = some m.cls := findClass_of_methodNamed Bd.named
  have hnm := (name_of_methodNamed Bd.named Bd.method).1
  have X0 : Stand p l e ({ frames := 1, cells := 0, slots := 0, locals := 12 } : Room) s m #[(.ref ob)] below meth c s₁ [] 0 0 := Stand.of_body Bd
  have e0 : s₁.heap = h0 := by rw [← hh, Bd.state]; rfl
  have N0 := Fr.nil n0
  refine OwnFin.entry (own_ef_jStr m ob) (fun P' hP' => ?_)
  refine OwnFin.adv (B := s₁.setTop (mkF m 1 #[.val (.ref ob)] [(.ref ob)])) (fun _ k => XS.aloadN X0.here hx rfl (hb hby own_d11_0) rfl rfl k) ?_
  obtain ⟨cq1, kq1, q1a, q1b, q1c⟩ := isOf hZ e0 E
  obtain ⟨_, _, ⟨T1, L1, k1, n1⟩, -, X1, ⟨Lc1, hQ1, l1, y1, z1⟩, st1⟩ := X0.virtualBack hx (y := (⟨"com/example/notional/notional/io/JsonValue", "isString", "()Z"⟩ : MethodName)) (z := (⟨"com/example/notional/notional/io/JsonValue", "isString", "()Z"⟩ : MethodName)) hown (mvT hZ (hw _ (List.mem_of_getElem? (i := 108) rfl))) (mvT hZ (hw _ (List.mem_of_getElem? (i := 83) rfl))) (notFace_of_selects (args := #[]) (mvT hZ (hw _ (List.mem_of_getElem? (i := 85) rfl)))) (mvT hZ (hw _ (List.mem_of_getElem? (i := 85) rfl))) (mvT hZ (hw _ (List.mem_of_getElem? (i := 84) rfl))) (by decide) (backOf (W := 0) (own_isStr l Z a0 hw [] ob q2 q2 h0 n0 (by omega) Fk Ss) hZ (hw _ (List.mem_of_getElem? (i := 86) rfl)) (hw _ (List.mem_of_getElem? (i := 48) rfl)) (by decide) (by decide)) q1a q1c (g := (mkF m 1 #[.val (.ref ob)] [(.ref ob)])) rfl (by rw [hml]; rfl) (Steps.refl _) (argsL := []) (rest := []) (lenOf own_pd_x28x29Z rfl) rfl (by show 2 * 0 + _ ≤ _; exact Nat.le_of_eq rfl) (hb hby own_d11_1) (fun _ _ => ⟨rfl, e0, (by decide : 0 + 0 ≤ _), (by decide : 0 + 0 ≤ _)⟩)
  dsimp only [Pt.U, Pt.locs, Pt.cells, Pt.slots] at X1 l1 y1 z1 st1 hQ1
  subst l1 y1 z1
  obtain ⟨rfl, N1q, eh1⟩ := hQ1
  have N1 := Fr.app N0 N1q
  refine OwnFin.adv (B := T1.setTop (mkF m 4 #[.val (.ref ob)] [(.int (if q2 = q2 then (1 : Int32) else 0))])) (fun _ k => st1.trans k) ?_
  have hc4_3 : ¬ ((if q2 = q2 then (1 : Int32) else 0) = (0 : Int32)) := by simp
  refine OwnFin.adv (B := T1.setTop (mkF m 14 #[.val (.ref ob)] [])) (fun _ k => XS.ifYes X1.here hx rfl (pc0 := 4) (pc' := 14) rfl (hb hby own_d11_4) rfl ((if0 _ _).trans (feq hc4_3).2) (by decide) (by decide) k) ?_
  refine OwnFin.adv (B := T1.setTop (mkF m 15 #[.val (.ref ob)] [(.ref ob)])) (fun _ k => XS.aloadN X1.here hx rfl (hb hby own_d11_14) rfl rfl k) ?_
  obtain ⟨T2, X2, e2, st2⟩ := getF X1 hx hZ hown (host := "") (Or.inl (hw _ (List.mem_of_getElem? (i := 74) rfl))) Via.refl eh1 Ft (g := (mkF m 15 #[.val (.ref ob)] [(.ref ob)])) rfl rfl (hb hby own_d11_15)
  refine OwnFin.adv (B := T2.setTop (mkF m 18 #[.val (.ref ob)] [(.ref tx)])) (fun _ k => st2 _ k) ?_
  obtain ⟨fs, hr, hrun, hended, hW, hsame⟩ := X2.leave (v := some (.ref tx)) (fun h => by rw [Bd.returns] at h; cases h)
  refine OwnFin.leaf hP' ⟨_, _, own_retR X2 hx Bd.returns rfl rfl rfl (hb hby own_d11_18) hr, hrun, hended, _, _, rfl, ?_, ⟨_, rfl⟩, hW, hsame.mono (by decide) (by decide)⟩
  exact ⟨rfl, N1, e2⟩
theorem own_d12_0 : decode jdk_42_method_66_code 0 = .ok (.aload_n 0, 1) := by decide +kernel
theorem own_d12_1 : decode jdk_42_method_66_code 1 = .ok (.aload_n 1, 1) := by decide +kernel
theorem own_d12_2 : decode jdk_42_method_66_code 2 = .ok (.if_acmp .ne 5, 3) := by decide +kernel
theorem own_d12_5 : decode jdk_42_method_66_code 5 = .ok (.iconst 1, 1) := by decide +kernel
theorem own_d12_6 : decode jdk_42_method_66_code 6 = .ok (.ireturn, 1) := by decide +kernel
theorem own_ef_strSame (m : MethodId) (x0 : Addr) (x1 : Addr) : entryFrame m #[(.ref x0), (.ref x1)] 3 = mkF m 0 #[.val (.ref x0), .val (.ref x1), .unset] [] := by first | (simp [entryFrame, mkF, argsToLocals, Value.category]; done) | rfl
def own_Q_strSame (Z : State) (oa : Addr) (h0 : Heap) (n0 : Nat) (v : Option Value) (h : Heap) (L : List Loc) : Prop := v = some (.int (1 : Int32)) ∧ Fr n0 L ∧ h = h0
set_option maxRecDepth 65536 in
set_option maxHeartbeats 40000000 in
theorem own_strSame (l : Launch) (Z : State) (a0 : Array Value) (hw : ∀ d ∈ tables_1, d.before a0 Z = true) (ws : List Jvm.Cond) (oa : Addr) (h0 : Heap) (n0 : Nat) (Z0 : n0 ≤ h0.size) :
    MetFree l (⟨"java/lang/String", "equals", "(Ljava/lang/Object;)Z"⟩ : MethodName) (head1 (Jvm.Cond.code (⟨"java/lang/String", "equals", "(Ljava/lang/Object;)Z"⟩ : MethodName) jdk_42_method_66_code 3 (some .boolean) :: ws) ({ frames := 0, cells := 0, slots := 0, locals := 0 } : Room)) (fun A0 U0 => A0 = #[(.ref oa), (.ref oa)] ∧ Z.Warmed39 U0.vm ∧ U0.heap = h0) (fun _ _ _ _ _ => True) (fun _ U0 o0 U1 => ∃ v0 L0, o0 = .returned v0 ∧ own_Q_strSame Z oa h0 n0 v0 U1.heap L0 ∧ FrameEnd U0 o0 U1 L0 ({ frames := 0, cells := 0, slots := 0, locals := 0 } : Room).cells ({ frames := 0, cells := 0, slots := 0, locals := 0 } : Room).slots) := by
  refine MetFree.of_bodySF (plainFor_of_name own_pn_java_lang_String) hisR ?_
  intro p e s m args below meth c s₁ Bd hml0 hP hK
  obtain ⟨rfl, hZ, hh⟩ := hP
  have hx := Bd.exec
  have hby := Bd.bytes
  have hml : c.maxLocals = 3 := hml0
  have hown : s.vm.findClass "java/lang/String" = some m.cls := findClass_of_methodNamed Bd.named
  have hnm := (name_of_methodNamed Bd.named Bd.method).1
  have X0 : Stand p l e ({ frames := 0, cells := 0, slots := 0, locals := 0 } : Room) s m #[(.ref oa), (.ref oa)] below meth c s₁ [] 0 0 := Stand.of_body Bd
  have e0 : s₁.heap = h0 := by rw [← hh, Bd.state]; rfl
  have N0 := Fr.nil n0
  refine OwnFin.entry (own_ef_strSame m oa oa) (fun P' hP' => ?_)
  refine OwnFin.adv (B := s₁.setTop (mkF m 1 #[.val (.ref oa), .val (.ref oa), .unset] [(.ref oa)])) (fun _ k => XS.aloadN X0.here hx rfl (hb hby own_d12_0) rfl rfl k) ?_
  refine OwnFin.adv (B := s₁.setTop (mkF m 2 #[.val (.ref oa), .val (.ref oa), .unset] [(.ref oa), (.ref oa)])) (fun _ k => XS.aloadN X0.here hx rfl (hb hby own_d12_1) rfl rfl k) ?_
  refine OwnFin.adv (B := s₁.setTop (mkF m 5 #[.val (.ref oa), .val (.ref oa), .unset] [])) (fun _ k => Jvm.RoadKit.acmp (g := (mkF m 2 #[.val (.ref oa), .val (.ref oa), .unset] [(.ref oa), (.ref oa)])) X0 hx rfl rfl rfl (pc0 := 2) (pc' := 5) (same := true) rfl (hb hby own_d12_2) rfl (decide_eq_true rfl) (by decide) (by decide) k) ?_
  refine OwnFin.adv (B := s₁.setTop (mkF m 6 #[.val (.ref oa), .val (.ref oa), .unset] [(.int (1 : Int32))])) (fun _ k => XS.iconst X0.here hx rfl (hb hby own_d12_5) k) ?_
  obtain ⟨fs, hr, hrun, hended, hW, hsame⟩ := X0.leave (v := some (.int (1 : Int32))) (fun h => by rw [Bd.returns] at h; cases h)
  refine OwnFin.leaf hP' ⟨_, _, retN X0 hx (t := .boolean) Bd.returns (by simp) (hb hby own_d12_6) hr, hrun, hended, _, _, rfl, ?_, ⟨_, rfl⟩, hW, hsame.mono (by decide) (by decide)⟩
  exact ⟨rfl, N0, e0⟩
theorem StrC255 (x : Int32) : ¬ (255 : Int32) < (x &&& (255 : Int32)) := by
  have h := c_mask x 255 8 (by decide) (by decide)
  have e : (255 : Int32).toInt = 255 := by decide
  rw [Int32.lt_iff_toInt_lt, e, h]
  omega
theorem own_pd_x28Cx29Ljavax2flangx2fStringx3b : parseMethodDescriptor "(C)Ljava/lang/String;" = some ⟨[.char], some (.object "java/lang/String")⟩ := by decide +kernel
theorem own_pd_x28Ix29Ljavax2flangx2fIntegerx3b : parseMethodDescriptor "(I)Ljava/lang/Integer;" = some ⟨[.int], some (.object "java/lang/Integer")⟩ := by decide +kernel
theorem own_pd_x28Ljavax2flangx2fStringx3bLjavax2flangx2fStringx3bLcomx2fexamplex2fnotionalx2fnotionalx2fiox2fJsonValuex24Kindx3bIILjavax2flangx2fStringx3bLjavax2flangx2fIntegerx3bLjavax2futilx2fMapx3bLjavax2futilx2fListx3bx29V : parseMethodDescriptor "(Ljava/lang/String;Ljava/lang/String;Lcom/example/notional/notional/io/JsonValue$Kind;IILjava/lang/String;Ljava/lang/Integer;Ljava/util/Map;Ljava/util/List;)V" = some ⟨[(.object "java/lang/String"), (.object "java/lang/String"), (.object "com/example/notional/notional/io/JsonValue$Kind"), .int, .int, (.object "java/lang/String"), (.object "java/lang/Integer"), (.object "java/util/Map"), (.object "java/util/List")], none⟩ := by decide +kernel
theorem own_pd_x28x29Ljavax2flangx2fStringx3b : parseMethodDescriptor "()Ljava/lang/String;" = some ⟨[], some (.object "java/lang/String")⟩ := by decide +kernel
theorem own_pd_x28Ljavax2flangx2fObjectx3bx29Z : parseMethodDescriptor "(Ljava/lang/Object;)Z" = some ⟨[(.object "java/lang/Object")], some .boolean⟩ := by decide +kernel
theorem own_ef_rm0 (m : MethodId) (x0 : Int32) (x1 : Int32) (x2 : Int32) (x3 : Int32) (x4 : Int32) : entryFrame m #[(.int x0), (.int x1), (.int x2), (.int x3), (.int x4)] maxLocals = mkF m 0 #[.val (.int x0), .val (.int x1), .val (.int x2), .val (.int x3), .val (.int x4), .unset, .unset, .unset, .unset, .unset] [] := by first | (simp [entryFrame, mkF, argsToLocals, Value.category, maxLocals]; done) | rfl
theorem own_pn_com_example_notional_notional_io_JsonValueIsStringPinLaw : plainName "com/example/notional/notional/io/JsonValueIsStringPinLaw" = true := by first | (simp [plainName, overriddenIn]; done) | decide +kernel
def own_Q_rm0 (Z : State) (kk ln en cv wv zc : Int32) (ca : Addr) (cl : Cell) (q0 q1 q2 q3 q4 q5 q6 q7 : Addr) (h0 : Heap) (n0 : Nat) (v : Option Value) (h : Heap) (L : List Loc) : Prop := v = some (.int (1 : Int32)) ∧ Fr n0 L
set_option maxRecDepth 65536 in
set_option maxHeartbeats 40000000 in
theorem own_rm0 (l : Launch) (Z : State) (a0 : Array Value) (hw : ∀ d ∈ tables_1, d.before a0 Z = true) (ws : List Jvm.Cond) (kk ln en cv wv zc : Int32) (ca : Addr) (cl : Cell) (q0 q1 q2 q3 q4 q5 q6 q7 : Addr) (h0 : Heap) (n0 : Nat) (Z0 : n0 ≤ h0.size) (O0 : Old Z n0 h0) (SCS : Sta Z Z.heap "java/lang/String" "COMPACT_STRINGS" "Z" (.int zc)) (hzc : ¬ zc = 0) (SH : Sta Z Z.heap "java/lang/Integer$IntegerCache" "high" "I" (.int (127 : Int32))) (SC : Sta Z Z.heap "java/lang/Integer$IntegerCache" "cache" "[Ljava/lang/Integer;" (.ref ca)) (BX : Bxs Z ca cl "java/lang/Integer" "I" 256 (fun j => .int (j - 128))) (S_q0 : Sta Z Z.heap "com/example/notional/notional/io/JsonValue$Kind" "OBJECT" "Lcom/example/notional/notional/io/JsonValue$Kind;" (.ref q0)) (S_q1 : Sta Z Z.heap "com/example/notional/notional/io/JsonValue$Kind" "LIST" "Lcom/example/notional/notional/io/JsonValue$Kind;" (.ref q1)) (S_q2 : Sta Z Z.heap "com/example/notional/notional/io/JsonValue$Kind" "STRING" "Lcom/example/notional/notional/io/JsonValue$Kind;" (.ref q2)) (S_q3 : Sta Z Z.heap "com/example/notional/notional/io/JsonValue$Kind" "INTEGER" "Lcom/example/notional/notional/io/JsonValue$Kind;" (.ref q3)) (S_q4 : Sta Z Z.heap "com/example/notional/notional/io/JsonValue$Kind" "NUMBER" "Lcom/example/notional/notional/io/JsonValue$Kind;" (.ref q4)) (S_q5 : Sta Z Z.heap "com/example/notional/notional/io/JsonValue$Kind" "TRUE" "Lcom/example/notional/notional/io/JsonValue$Kind;" (.ref q5)) (S_q6 : Sta Z Z.heap "com/example/notional/notional/io/JsonValue$Kind" "FALSE" "Lcom/example/notional/notional/io/JsonValue$Kind;" (.ref q6)) (S_q7 : Sta Z Z.heap "com/example/notional/notional/io/JsonValue$Kind" "NULL" "Lcom/example/notional/notional/io/JsonValue$Kind;" (.ref q7)) (E_q0 : Exa Z Z.heap q0 "com/example/notional/notional/io/JsonValue$Kind") (E_q1 : Exa Z Z.heap q1 "com/example/notional/notional/io/JsonValue$Kind") (E_q2 : Exa Z Z.heap q2 "com/example/notional/notional/io/JsonValue$Kind") (E_q3 : Exa Z Z.heap q3 "com/example/notional/notional/io/JsonValue$Kind") (E_q4 : Exa Z Z.heap q4 "com/example/notional/notional/io/JsonValue$Kind") (E_q5 : Exa Z Z.heap q5 "com/example/notional/notional/io/JsonValue$Kind") (E_q6 : Exa Z Z.heap q6 "com/example/notional/notional/io/JsonValue$Kind") (E_q7 : Exa Z Z.heap q7 "com/example/notional/notional/io/JsonValue$Kind") (ne_q0 : ¬ (q0 = q2)) (ne_q1 : ¬ (q1 = q2)) (ne_q3 : ¬ (q3 = q2)) (ne_q4 : ¬ (q4 = q2)) (ne_q5 : ¬ (q5 = q2)) (ne_q6 : ¬ (q6 = q2)) (ne_q7 : ¬ (q7 = q2)) :
    MetFree l x (head1 (Jvm.Cond.code x code maxLocals ret :: ws) room_1) (fun A0 U0 => A0 = #[(.int kk), (.int ln), (.int en), (.int cv), (.int wv)] ∧ Z.Warmed39 U0.vm ∧ U0.heap = h0) (fun _ _ _ _ _ => True) (fun _ U0 o0 U1 => ∃ v0 L0, o0 = .returned v0 ∧ own_Q_rm0 Z kk ln en cv wv zc ca cl q0 q1 q2 q3 q4 q5 q6 q7 h0 n0 v0 U1.heap L0 ∧ ReturnedEndW U0 o0 U1 L0 room_1.cells room_1.slots) := by
  refine MetFree.of_bodySF (plainFor_of_name own_pn_com_example_notional_notional_io_JsonValueIsStringPinLaw) hisR ?_
  intro p e s m args below meth c s₁ Bd hml0 hP hK
  obtain ⟨rfl, hZ, hh⟩ := hP
  have hx := Bd.exec
  have hby := Bd.bytes
  have hml : c.maxLocals = 10 := hml0
  have hown : s.vm.findClass "com/example/notional/notional/io/JsonValueIsStringPinLaw" = some m.cls := findClass_of_methodNamed Bd.named
  have hnm := (name_of_methodNamed Bd.named Bd.method).1
  have X0 : Stand p l e room_1 s m #[(.int kk), (.int ln), (.int en), (.int cv), (.int wv)] below meth c s₁ [] 0 0 := Stand.of_body Bd
  have e0 : s₁.heap = h0 := by rw [← hh, Bd.state]; rfl
  have N0 := Fr.nil n0
  refine OwnFin.entry (own_ef_rm0 m kk ln en cv wv) (fun P' hP' => ?_)
  refine OwnFin.adv (B := s₁.setTop (mkF m 2 #[.val (.int kk), .val (.int ln), .val (.int en), .val (.int cv), .val (.int wv), .unset, .unset, .unset, .unset, .unset] [(.int (8 : Int32))])) (fun _ k => XS.bipush X0.here hx rfl (hb hby at_0) k) ?_
  obtain ⟨T1, h1, k1, X1, e1, E1, A1, O1, st1⟩ := newR X0 hx hZ hown (hw _ (List.mem_of_getElem? (i := 0) rfl)) (hw _ (List.mem_of_getElem? (i := 1) rfl)) e0 (g := (mkF m 2 #[.val (.int kk), .val (.int ln), .val (.int en), .val (.int cv), .val (.int wv), .unset, .unset, .unset, .unset, .unset] [(.int (8 : Int32))])) rfl (hb hby at_2) rfl (by decide) (cap := 8) (by decide) (by decide) (by decide) (by decide)
  obtain ⟨b1, g1⟩ : ∃ z, z = h0.size := ⟨_, rfl⟩
  rw [← g1] at A1 st1
  have sz2 : h0.size ≤ h1.size := E1.1
  have lt_b1 := own_lt A1.lt
  have V1 : Arv Z h1 b1 k1 (.object "com/example/notional/notional/io/JsonValue$Kind") (8 : Int32) [.null, .null, .null, .null, .null, .null, .null, .null] .null := (Arv.new A1 (by decide)).pad (pad_rep [] .null 8)
  refine OwnFin.adv (B := T1.setTop (mkF m 5 #[.val (.int kk), .val (.int ln), .val (.int en), .val (.int cv), .val (.int wv), .unset, .unset, .unset, .unset, .unset] [(.ref b1)])) (fun _ k => st1 _ k) ?_
  refine OwnFin.adv (B := T1.setTop (mkF m 6 #[.val (.int kk), .val (.int ln), .val (.int en), .val (.int cv), .val (.int wv), .unset, .unset, .unset, .unset, .unset] [(.ref b1), (.ref b1)])) (fun _ k => XS.dup X1.here hx rfl (hb hby at_5) rfl rfl k) ?_
  refine OwnFin.adv (B := T1.setTop (mkF m 7 #[.val (.int kk), .val (.int ln), .val (.int en), .val (.int cv), .val (.int wv), .unset, .unset, .unset, .unset, .unset] [(.int (0 : Int32)), (.ref b1), (.ref b1)])) (fun _ k => XS.iconst X1.here hx rfl (hb hby at_6) k) ?_
  have Old4 : Old Z n0 h1 := (O0.ext E1)
  obtain ⟨T3, X3, e3, st3⟩ := getS2 X1 hx hZ hown (host := "") (Or.inl (hw _ (List.mem_of_getElem? (i := 2) rfl))) Via.refl e1 (own_staK S_q0 Old4) (g := (mkF m 7 #[.val (.int kk), .val (.int ln), .val (.int en), .val (.int cv), .val (.int wv), .unset, .unset, .unset, .unset, .unset] [(.int (0 : Int32)), (.ref b1), (.ref b1)])) rfl (hb hby at_7)
  refine OwnFin.adv (B := T3.setTop (mkF m 10 #[.val (.int kk), .val (.int ln), .val (.int en), .val (.int cv), .val (.int wv), .unset, .unset, .unset, .unset, .unset] [(.ref q0), (.int (0 : Int32)), (.ref b1), (.ref b1)])) (fun _ k => st3 _ k) ?_
  obtain ⟨cl5, Ar5, ck5, S5, M5, H5, G5⟩ := id V1
  have hin5 : ¬ ((0 : Int32) < 0 ∨ cl5.slots.size ≤ ((0 : Int32)).toNatClampNeg) := inb_of S5 ⟨by decide, by decide⟩
  obtain ⟨T5, h5, X5, e5, W5, st5⟩ := stR X3 hx hZ e3 Ar5 (j := (0 : Int32)) hin5 rfl (Sto.ofV Ar5 ck5 O1 (Ins.self (E_q0.ext Old4.2))) (g := (mkF m 10 #[.val (.int kk), .val (.int ln), .val (.int en), .val (.int cv), .val (.int wv), .unset, .unset, .unset, .unset, .unset] [(.ref q0), (.int (0 : Int32)), (.ref b1), (.ref b1)])) rfl rfl (hb hby at_10)
  have V5 : Arv Z h5 b1 k1 (.object "com/example/notional/notional/io/JsonValue$Kind") (8 : Int32) [(.ref q0), .null, .null, .null, .null, .null, .null, .null] .null := Arv.set Ar5 ck5 S5 M5 H5 G5 rfl W5 0 rfl (Nat.le_of_ble_eq_true rfl)
  have sz6 : h1.size ≤ h5.size := Nat.le_of_eq W5.size.symm
  have N5 := Fr.snoc X5 N0 (by omega : n0 ≤ b1)
  refine OwnFin.adv (B := T5.setTop (mkF m 11 #[.val (.int kk), .val (.int ln), .val (.int en), .val (.int cv), .val (.int wv), .unset, .unset, .unset, .unset, .unset] [(.ref b1)])) (fun _ k => st5 _ k) ?_
  refine OwnFin.adv (B := T5.setTop (mkF m 12 #[.val (.int kk), .val (.int ln), .val (.int en), .val (.int cv), .val (.int wv), .unset, .unset, .unset, .unset, .unset] [(.ref b1), (.ref b1)])) (fun _ k => XS.dup X5.here hx rfl (hb hby at_11) rfl rfl k) ?_
  refine OwnFin.adv (B := T5.setTop (mkF m 13 #[.val (.int kk), .val (.int ln), .val (.int en), .val (.int cv), .val (.int wv), .unset, .unset, .unset, .unset, .unset] [(.int (1 : Int32)), (.ref b1), (.ref b1)])) (fun _ k => XS.iconst X5.here hx rfl (hb hby at_12) k) ?_
  have Old8 : Old Z n0 h5 := (Old4.wr W5 (by omega))
  obtain ⟨T7, X7, e7, st7⟩ := getS2 X5 hx hZ hown (host := "") (Or.inl (hw _ (List.mem_of_getElem? (i := 6) rfl))) Via.refl e5 (own_staK S_q1 Old8) (g := (mkF m 13 #[.val (.int kk), .val (.int ln), .val (.int en), .val (.int cv), .val (.int wv), .unset, .unset, .unset, .unset, .unset] [(.int (1 : Int32)), (.ref b1), (.ref b1)])) rfl (hb hby at_13)
  refine OwnFin.adv (B := T7.setTop (mkF m 16 #[.val (.int kk), .val (.int ln), .val (.int en), .val (.int cv), .val (.int wv), .unset, .unset, .unset, .unset, .unset] [(.ref q1), (.int (1 : Int32)), (.ref b1), (.ref b1)])) (fun _ k => st7 _ k) ?_
  obtain ⟨cl9, Ar9, ck9, S9, M9, H9, G9⟩ := id V5
  have hin9 : ¬ ((1 : Int32) < 0 ∨ cl9.slots.size ≤ ((1 : Int32)).toNatClampNeg) := inb_of S9 ⟨by decide, by decide⟩
  obtain ⟨T9, h9, X9, e9, W9, st9⟩ := stR X7 hx hZ e7 Ar9 (j := (1 : Int32)) hin9 rfl (Sto.ofV Ar9 ck9 O1 (Ins.self (E_q1.ext Old8.2))) (g := (mkF m 16 #[.val (.int kk), .val (.int ln), .val (.int en), .val (.int cv), .val (.int wv), .unset, .unset, .unset, .unset, .unset] [(.ref q1), (.int (1 : Int32)), (.ref b1), (.ref b1)])) rfl rfl (hb hby at_16)
  have V9 : Arv Z h9 b1 k1 (.object "com/example/notional/notional/io/JsonValue$Kind") (8 : Int32) [(.ref q0), (.ref q1), .null, .null, .null, .null, .null, .null] .null := Arv.set Ar9 ck9 S9 M9 H9 G9 rfl W9 1 rfl (Nat.le_of_ble_eq_true rfl)
  have sz10 : h5.size ≤ h9.size := Nat.le_of_eq W9.size.symm
  have N9 := Fr.snoc X9 N5 (by omega : n0 ≤ b1)
  refine OwnFin.adv (B := T9.setTop (mkF m 17 #[.val (.int kk), .val (.int ln), .val (.int en), .val (.int cv), .val (.int wv), .unset, .unset, .unset, .unset, .unset] [(.ref b1)])) (fun _ k => st9 _ k) ?_
  refine OwnFin.adv (B := T9.setTop (mkF m 18 #[.val (.int kk), .val (.int ln), .val (.int en), .val (.int cv), .val (.int wv), .unset, .unset, .unset, .unset, .unset] [(.ref b1), (.ref b1)])) (fun _ k => XS.dup X9.here hx rfl (hb hby at_17) rfl rfl k) ?_
  refine OwnFin.adv (B := T9.setTop (mkF m 19 #[.val (.int kk), .val (.int ln), .val (.int en), .val (.int cv), .val (.int wv), .unset, .unset, .unset, .unset, .unset] [(.int (2 : Int32)), (.ref b1), (.ref b1)])) (fun _ k => XS.iconst X9.here hx rfl (hb hby at_18) k) ?_
  have Old12 : Old Z n0 h9 := (Old8.wr W9 (by omega))
  obtain ⟨T11, X11, e11, st11⟩ := getS2 X9 hx hZ hown (host := "") (Or.inl (hw _ (List.mem_of_getElem? (i := 8) rfl))) Via.refl e9 (own_staK S_q2 Old12) (g := (mkF m 19 #[.val (.int kk), .val (.int ln), .val (.int en), .val (.int cv), .val (.int wv), .unset, .unset, .unset, .unset, .unset] [(.int (2 : Int32)), (.ref b1), (.ref b1)])) rfl (hb hby at_19)
  refine OwnFin.adv (B := T11.setTop (mkF m 22 #[.val (.int kk), .val (.int ln), .val (.int en), .val (.int cv), .val (.int wv), .unset, .unset, .unset, .unset, .unset] [(.ref q2), (.int (2 : Int32)), (.ref b1), (.ref b1)])) (fun _ k => st11 _ k) ?_
  obtain ⟨cl13, Ar13, ck13, S13, M13, H13, G13⟩ := id V9
  have hin13 : ¬ ((2 : Int32) < 0 ∨ cl13.slots.size ≤ ((2 : Int32)).toNatClampNeg) := inb_of S13 ⟨by decide, by decide⟩
  obtain ⟨T13, h13, X13, e13, W13, st13⟩ := stR X11 hx hZ e11 Ar13 (j := (2 : Int32)) hin13 rfl (Sto.ofV Ar13 ck13 O1 (Ins.self (E_q2.ext Old12.2))) (g := (mkF m 22 #[.val (.int kk), .val (.int ln), .val (.int en), .val (.int cv), .val (.int wv), .unset, .unset, .unset, .unset, .unset] [(.ref q2), (.int (2 : Int32)), (.ref b1), (.ref b1)])) rfl rfl (hb hby at_22)
  have V13 : Arv Z h13 b1 k1 (.object "com/example/notional/notional/io/JsonValue$Kind") (8 : Int32) [(.ref q0), (.ref q1), (.ref q2), .null, .null, .null, .null, .null] .null := Arv.set Ar13 ck13 S13 M13 H13 G13 rfl W13 2 rfl (Nat.le_of_ble_eq_true rfl)
  have sz14 : h9.size ≤ h13.size := Nat.le_of_eq W13.size.symm
  have N13 := Fr.snoc X13 N9 (by omega : n0 ≤ b1)
  refine OwnFin.adv (B := T13.setTop (mkF m 23 #[.val (.int kk), .val (.int ln), .val (.int en), .val (.int cv), .val (.int wv), .unset, .unset, .unset, .unset, .unset] [(.ref b1)])) (fun _ k => st13 _ k) ?_
  refine OwnFin.adv (B := T13.setTop (mkF m 24 #[.val (.int kk), .val (.int ln), .val (.int en), .val (.int cv), .val (.int wv), .unset, .unset, .unset, .unset, .unset] [(.ref b1), (.ref b1)])) (fun _ k => XS.dup X13.here hx rfl (hb hby at_23) rfl rfl k) ?_
  refine OwnFin.adv (B := T13.setTop (mkF m 25 #[.val (.int kk), .val (.int ln), .val (.int en), .val (.int cv), .val (.int wv), .unset, .unset, .unset, .unset, .unset] [(.int (3 : Int32)), (.ref b1), (.ref b1)])) (fun _ k => XS.iconst X13.here hx rfl (hb hby at_24) k) ?_
  have Old16 : Old Z n0 h13 := (Old12.wr W13 (by omega))
  obtain ⟨T15, X15, e15, st15⟩ := getS2 X13 hx hZ hown (host := "") (Or.inl (hw _ (List.mem_of_getElem? (i := 10) rfl))) Via.refl e13 (own_staK S_q3 Old16) (g := (mkF m 25 #[.val (.int kk), .val (.int ln), .val (.int en), .val (.int cv), .val (.int wv), .unset, .unset, .unset, .unset, .unset] [(.int (3 : Int32)), (.ref b1), (.ref b1)])) rfl (hb hby at_25)
  refine OwnFin.adv (B := T15.setTop (mkF m 28 #[.val (.int kk), .val (.int ln), .val (.int en), .val (.int cv), .val (.int wv), .unset, .unset, .unset, .unset, .unset] [(.ref q3), (.int (3 : Int32)), (.ref b1), (.ref b1)])) (fun _ k => st15 _ k) ?_
  obtain ⟨cl17, Ar17, ck17, S17, M17, H17, G17⟩ := id V13
  have hin17 : ¬ ((3 : Int32) < 0 ∨ cl17.slots.size ≤ ((3 : Int32)).toNatClampNeg) := inb_of S17 ⟨by decide, by decide⟩
  obtain ⟨T17, h17, X17, e17, W17, st17⟩ := stR X15 hx hZ e15 Ar17 (j := (3 : Int32)) hin17 rfl (Sto.ofV Ar17 ck17 O1 (Ins.self (E_q3.ext Old16.2))) (g := (mkF m 28 #[.val (.int kk), .val (.int ln), .val (.int en), .val (.int cv), .val (.int wv), .unset, .unset, .unset, .unset, .unset] [(.ref q3), (.int (3 : Int32)), (.ref b1), (.ref b1)])) rfl rfl (hb hby at_28)
  have V17 : Arv Z h17 b1 k1 (.object "com/example/notional/notional/io/JsonValue$Kind") (8 : Int32) [(.ref q0), (.ref q1), (.ref q2), (.ref q3), .null, .null, .null, .null] .null := Arv.set Ar17 ck17 S17 M17 H17 G17 rfl W17 3 rfl (Nat.le_of_ble_eq_true rfl)
  have sz18 : h13.size ≤ h17.size := Nat.le_of_eq W17.size.symm
  have N17 := Fr.snoc X17 N13 (by omega : n0 ≤ b1)
  refine OwnFin.adv (B := T17.setTop (mkF m 29 #[.val (.int kk), .val (.int ln), .val (.int en), .val (.int cv), .val (.int wv), .unset, .unset, .unset, .unset, .unset] [(.ref b1)])) (fun _ k => st17 _ k) ?_
  refine OwnFin.adv (B := T17.setTop (mkF m 30 #[.val (.int kk), .val (.int ln), .val (.int en), .val (.int cv), .val (.int wv), .unset, .unset, .unset, .unset, .unset] [(.ref b1), (.ref b1)])) (fun _ k => XS.dup X17.here hx rfl (hb hby at_29) rfl rfl k) ?_
  refine OwnFin.adv (B := T17.setTop (mkF m 31 #[.val (.int kk), .val (.int ln), .val (.int en), .val (.int cv), .val (.int wv), .unset, .unset, .unset, .unset, .unset] [(.int (4 : Int32)), (.ref b1), (.ref b1)])) (fun _ k => XS.iconst X17.here hx rfl (hb hby at_30) k) ?_
  have Old20 : Old Z n0 h17 := (Old16.wr W17 (by omega))
  obtain ⟨T19, X19, e19, st19⟩ := getS2 X17 hx hZ hown (host := "") (Or.inl (hw _ (List.mem_of_getElem? (i := 12) rfl))) Via.refl e17 (own_staK S_q4 Old20) (g := (mkF m 31 #[.val (.int kk), .val (.int ln), .val (.int en), .val (.int cv), .val (.int wv), .unset, .unset, .unset, .unset, .unset] [(.int (4 : Int32)), (.ref b1), (.ref b1)])) rfl (hb hby at_31)
  refine OwnFin.adv (B := T19.setTop (mkF m 34 #[.val (.int kk), .val (.int ln), .val (.int en), .val (.int cv), .val (.int wv), .unset, .unset, .unset, .unset, .unset] [(.ref q4), (.int (4 : Int32)), (.ref b1), (.ref b1)])) (fun _ k => st19 _ k) ?_
  obtain ⟨cl21, Ar21, ck21, S21, M21, H21, G21⟩ := id V17
  have hin21 : ¬ ((4 : Int32) < 0 ∨ cl21.slots.size ≤ ((4 : Int32)).toNatClampNeg) := inb_of S21 ⟨by decide, by decide⟩
  obtain ⟨T21, h21, X21, e21, W21, st21⟩ := stR X19 hx hZ e19 Ar21 (j := (4 : Int32)) hin21 rfl (Sto.ofV Ar21 ck21 O1 (Ins.self (E_q4.ext Old20.2))) (g := (mkF m 34 #[.val (.int kk), .val (.int ln), .val (.int en), .val (.int cv), .val (.int wv), .unset, .unset, .unset, .unset, .unset] [(.ref q4), (.int (4 : Int32)), (.ref b1), (.ref b1)])) rfl rfl (hb hby at_34)
  have V21 : Arv Z h21 b1 k1 (.object "com/example/notional/notional/io/JsonValue$Kind") (8 : Int32) [(.ref q0), (.ref q1), (.ref q2), (.ref q3), (.ref q4), .null, .null, .null] .null := Arv.set Ar21 ck21 S21 M21 H21 G21 rfl W21 4 rfl (Nat.le_of_ble_eq_true rfl)
  have sz22 : h17.size ≤ h21.size := Nat.le_of_eq W21.size.symm
  have N21 := Fr.snoc X21 N17 (by omega : n0 ≤ b1)
  refine OwnFin.adv (B := T21.setTop (mkF m 35 #[.val (.int kk), .val (.int ln), .val (.int en), .val (.int cv), .val (.int wv), .unset, .unset, .unset, .unset, .unset] [(.ref b1)])) (fun _ k => st21 _ k) ?_
  refine OwnFin.adv (B := T21.setTop (mkF m 36 #[.val (.int kk), .val (.int ln), .val (.int en), .val (.int cv), .val (.int wv), .unset, .unset, .unset, .unset, .unset] [(.ref b1), (.ref b1)])) (fun _ k => XS.dup X21.here hx rfl (hb hby at_35) rfl rfl k) ?_
  refine OwnFin.adv (B := T21.setTop (mkF m 37 #[.val (.int kk), .val (.int ln), .val (.int en), .val (.int cv), .val (.int wv), .unset, .unset, .unset, .unset, .unset] [(.int (5 : Int32)), (.ref b1), (.ref b1)])) (fun _ k => XS.iconst X21.here hx rfl (hb hby at_36) k) ?_
  have Old24 : Old Z n0 h21 := (Old20.wr W21 (by omega))
  obtain ⟨T23, X23, e23, st23⟩ := getS2 X21 hx hZ hown (host := "") (Or.inl (hw _ (List.mem_of_getElem? (i := 14) rfl))) Via.refl e21 (own_staK S_q5 Old24) (g := (mkF m 37 #[.val (.int kk), .val (.int ln), .val (.int en), .val (.int cv), .val (.int wv), .unset, .unset, .unset, .unset, .unset] [(.int (5 : Int32)), (.ref b1), (.ref b1)])) rfl (hb hby at_37)
  refine OwnFin.adv (B := T23.setTop (mkF m 40 #[.val (.int kk), .val (.int ln), .val (.int en), .val (.int cv), .val (.int wv), .unset, .unset, .unset, .unset, .unset] [(.ref q5), (.int (5 : Int32)), (.ref b1), (.ref b1)])) (fun _ k => st23 _ k) ?_
  obtain ⟨cl25, Ar25, ck25, S25, M25, H25, G25⟩ := id V21
  have hin25 : ¬ ((5 : Int32) < 0 ∨ cl25.slots.size ≤ ((5 : Int32)).toNatClampNeg) := inb_of S25 ⟨by decide, by decide⟩
  obtain ⟨T25, h25, X25, e25, W25, st25⟩ := stR X23 hx hZ e23 Ar25 (j := (5 : Int32)) hin25 rfl (Sto.ofV Ar25 ck25 O1 (Ins.self (E_q5.ext Old24.2))) (g := (mkF m 40 #[.val (.int kk), .val (.int ln), .val (.int en), .val (.int cv), .val (.int wv), .unset, .unset, .unset, .unset, .unset] [(.ref q5), (.int (5 : Int32)), (.ref b1), (.ref b1)])) rfl rfl (hb hby at_40)
  have V25 : Arv Z h25 b1 k1 (.object "com/example/notional/notional/io/JsonValue$Kind") (8 : Int32) [(.ref q0), (.ref q1), (.ref q2), (.ref q3), (.ref q4), (.ref q5), .null, .null] .null := Arv.set Ar25 ck25 S25 M25 H25 G25 rfl W25 5 rfl (Nat.le_of_ble_eq_true rfl)
  have sz26 : h21.size ≤ h25.size := Nat.le_of_eq W25.size.symm
  have N25 := Fr.snoc X25 N21 (by omega : n0 ≤ b1)
  refine OwnFin.adv (B := T25.setTop (mkF m 41 #[.val (.int kk), .val (.int ln), .val (.int en), .val (.int cv), .val (.int wv), .unset, .unset, .unset, .unset, .unset] [(.ref b1)])) (fun _ k => st25 _ k) ?_
  refine OwnFin.adv (B := T25.setTop (mkF m 42 #[.val (.int kk), .val (.int ln), .val (.int en), .val (.int cv), .val (.int wv), .unset, .unset, .unset, .unset, .unset] [(.ref b1), (.ref b1)])) (fun _ k => XS.dup X25.here hx rfl (hb hby at_41) rfl rfl k) ?_
  refine OwnFin.adv (B := T25.setTop (mkF m 44 #[.val (.int kk), .val (.int ln), .val (.int en), .val (.int cv), .val (.int wv), .unset, .unset, .unset, .unset, .unset] [(.int (6 : Int32)), (.ref b1), (.ref b1)])) (fun _ k => XS.bipush X25.here hx rfl (hb hby at_42) k) ?_
  have Old28 : Old Z n0 h25 := (Old24.wr W25 (by omega))
  obtain ⟨T27, X27, e27, st27⟩ := getS2 X25 hx hZ hown (host := "") (Or.inl (hw _ (List.mem_of_getElem? (i := 16) rfl))) Via.refl e25 (own_staK S_q6 Old28) (g := (mkF m 44 #[.val (.int kk), .val (.int ln), .val (.int en), .val (.int cv), .val (.int wv), .unset, .unset, .unset, .unset, .unset] [(.int (6 : Int32)), (.ref b1), (.ref b1)])) rfl (hb hby at_44)
  refine OwnFin.adv (B := T27.setTop (mkF m 47 #[.val (.int kk), .val (.int ln), .val (.int en), .val (.int cv), .val (.int wv), .unset, .unset, .unset, .unset, .unset] [(.ref q6), (.int (6 : Int32)), (.ref b1), (.ref b1)])) (fun _ k => st27 _ k) ?_
  obtain ⟨cl29, Ar29, ck29, S29, M29, H29, G29⟩ := id V25
  have hin29 : ¬ ((6 : Int32) < 0 ∨ cl29.slots.size ≤ ((6 : Int32)).toNatClampNeg) := inb_of S29 ⟨by decide, by decide⟩
  obtain ⟨T29, h29, X29, e29, W29, st29⟩ := stR X27 hx hZ e27 Ar29 (j := (6 : Int32)) hin29 rfl (Sto.ofV Ar29 ck29 O1 (Ins.self (E_q6.ext Old28.2))) (g := (mkF m 47 #[.val (.int kk), .val (.int ln), .val (.int en), .val (.int cv), .val (.int wv), .unset, .unset, .unset, .unset, .unset] [(.ref q6), (.int (6 : Int32)), (.ref b1), (.ref b1)])) rfl rfl (hb hby at_47)
  have V29 : Arv Z h29 b1 k1 (.object "com/example/notional/notional/io/JsonValue$Kind") (8 : Int32) [(.ref q0), (.ref q1), (.ref q2), (.ref q3), (.ref q4), (.ref q5), (.ref q6), .null] .null := Arv.set Ar29 ck29 S29 M29 H29 G29 rfl W29 6 rfl (Nat.le_of_ble_eq_true rfl)
  have sz30 : h25.size ≤ h29.size := Nat.le_of_eq W29.size.symm
  have N29 := Fr.snoc X29 N25 (by omega : n0 ≤ b1)
  refine OwnFin.adv (B := T29.setTop (mkF m 48 #[.val (.int kk), .val (.int ln), .val (.int en), .val (.int cv), .val (.int wv), .unset, .unset, .unset, .unset, .unset] [(.ref b1)])) (fun _ k => st29 _ k) ?_
  refine OwnFin.adv (B := T29.setTop (mkF m 49 #[.val (.int kk), .val (.int ln), .val (.int en), .val (.int cv), .val (.int wv), .unset, .unset, .unset, .unset, .unset] [(.ref b1), (.ref b1)])) (fun _ k => XS.dup X29.here hx rfl (hb hby at_48) rfl rfl k) ?_
  refine OwnFin.adv (B := T29.setTop (mkF m 51 #[.val (.int kk), .val (.int ln), .val (.int en), .val (.int cv), .val (.int wv), .unset, .unset, .unset, .unset, .unset] [(.int (7 : Int32)), (.ref b1), (.ref b1)])) (fun _ k => XS.bipush X29.here hx rfl (hb hby at_49) k) ?_
  have Old32 : Old Z n0 h29 := (Old28.wr W29 (by omega))
  obtain ⟨T31, X31, e31, st31⟩ := getS2 X29 hx hZ hown (host := "") (Or.inl (hw _ (List.mem_of_getElem? (i := 18) rfl))) Via.refl e29 (own_staK S_q7 Old32) (g := (mkF m 51 #[.val (.int kk), .val (.int ln), .val (.int en), .val (.int cv), .val (.int wv), .unset, .unset, .unset, .unset, .unset] [(.int (7 : Int32)), (.ref b1), (.ref b1)])) rfl (hb hby at_51)
  refine OwnFin.adv (B := T31.setTop (mkF m 54 #[.val (.int kk), .val (.int ln), .val (.int en), .val (.int cv), .val (.int wv), .unset, .unset, .unset, .unset, .unset] [(.ref q7), (.int (7 : Int32)), (.ref b1), (.ref b1)])) (fun _ k => st31 _ k) ?_
  obtain ⟨cl33, Ar33, ck33, S33, M33, H33, G33⟩ := id V29
  have hin33 : ¬ ((7 : Int32) < 0 ∨ cl33.slots.size ≤ ((7 : Int32)).toNatClampNeg) := inb_of S33 ⟨by decide, by decide⟩
  obtain ⟨T33, h33, X33, e33, W33, st33⟩ := stR X31 hx hZ e31 Ar33 (j := (7 : Int32)) hin33 rfl (Sto.ofV Ar33 ck33 O1 (Ins.self (E_q7.ext Old32.2))) (g := (mkF m 54 #[.val (.int kk), .val (.int ln), .val (.int en), .val (.int cv), .val (.int wv), .unset, .unset, .unset, .unset, .unset] [(.ref q7), (.int (7 : Int32)), (.ref b1), (.ref b1)])) rfl rfl (hb hby at_54)
  have V33 : Arv Z h33 b1 k1 (.object "com/example/notional/notional/io/JsonValue$Kind") (8 : Int32) [(.ref q0), (.ref q1), (.ref q2), (.ref q3), (.ref q4), (.ref q5), (.ref q6), (.ref q7)] .null := Arv.set Ar33 ck33 S33 M33 H33 G33 rfl W33 7 rfl (Nat.le_of_ble_eq_true rfl)
  have sz34 : h29.size ≤ h33.size := Nat.le_of_eq W33.size.symm
  have N33 := Fr.snoc X33 N29 (by omega : n0 ≤ b1)
  refine OwnFin.adv (B := T33.setTop (mkF m 55 #[.val (.int kk), .val (.int ln), .val (.int en), .val (.int cv), .val (.int wv), .unset, .unset, .unset, .unset, .unset] [(.ref b1)])) (fun _ k => st33 _ k) ?_
  refine OwnFin.adv (B := T33.setTop (mkF m 57 #[.val (.int kk), .val (.int ln), .val (.int en), .val (.int cv), .val (.int wv), .val (.ref b1), .unset, .unset, .unset, .unset] [])) (fun _ k => XS.astore X33.here hx rfl (hb hby at_55) rfl rfl (l' := #[.val (.int kk), .val (.int ln), .val (.int en), .val (.int cv), .val (.int wv), .val (.ref b1), .unset, .unset, .unset, .unset]) rfl k) ?_
  refine OwnFin.adv (B := T33.setTop (mkF m 58 #[.val (.int kk), .val (.int ln), .val (.int en), .val (.int cv), .val (.int wv), .val (.ref b1), .unset, .unset, .unset, .unset] [(.int kk)])) (fun _ k => XS.iloadN X33.here hx rfl (hb hby at_57) rfl k) ?_
  refine OwnFin.adv (B := T33.setTop (mkF m 60 #[.val (.int kk), .val (.int ln), .val (.int en), .val (.int cv), .val (.int wv), .val (.ref b1), .unset, .unset, .unset, .unset] [(.int (7 : Int32)), (.int kk)])) (fun _ k => XS.bipush X33.here hx rfl (hb hby at_58) k) ?_
  refine OwnFin.adv (B := T33.setTop (mkF m 61 #[.val (.int kk), .val (.int ln), .val (.int en), .val (.int cv), .val (.int wv), .val (.ref b1), .unset, .unset, .unset, .unset] [(.int (kk &&& (7 : Int32)))])) (fun _ k => XS.iand X33.here hx rfl (hb hby at_60) rfl k) ?_
  refine OwnFin.adv (B := T33.setTop (mkF m 63 #[.val (.int kk), .val (.int ln), .val (.int en), .val (.int cv), .val (.int wv), .val (.ref b1), .val (.int (kk &&& (7 : Int32))), .unset, .unset, .unset] [])) (fun _ k => XS.istore X33.here hx rfl (hb hby at_61) rfl (l' := #[.val (.int kk), .val (.int ln), .val (.int en), .val (.int cv), .val (.int wv), .val (.ref b1), .val (.int (kk &&& (7 : Int32))), .unset, .unset, .unset]) rfl k) ?_
  refine OwnFin.adv (B := T33.setTop (mkF m 64 #[.val (.int kk), .val (.int ln), .val (.int en), .val (.int cv), .val (.int wv), .val (.ref b1), .val (.int (kk &&& (7 : Int32))), .unset, .unset, .unset] [(.int cv)])) (fun _ k => XS.iloadN X33.here hx rfl (hb hby at_63) rfl k) ?_
  refine OwnFin.adv (B := T33.setTop (mkF m 67 #[.val (.int kk), .val (.int ln), .val (.int en), .val (.int cv), .val (.int wv), .val (.ref b1), .val (.int (kk &&& (7 : Int32))), .unset, .unset, .unset] [(.int (255 : Int32)), (.int cv)])) (fun _ k => XS.sipush X33.here hx rfl (hb hby at_64) k) ?_
  refine OwnFin.adv (B := T33.setTop (mkF m 68 #[.val (.int kk), .val (.int ln), .val (.int en), .val (.int cv), .val (.int wv), .val (.ref b1), .val (.int (kk &&& (7 : Int32))), .unset, .unset, .unset] [(.int (cv &&& (255 : Int32)))])) (fun _ k => XS.iand X33.here hx rfl (hb hby at_67) rfl k) ?_
  refine OwnFin.adv (B := T33.setTop (mkF m 69 #[.val (.int kk), .val (.int ln), .val (.int en), .val (.int cv), .val (.int wv), .val (.ref b1), .val (.int (kk &&& (7 : Int32))), .unset, .unset, .unset] [(.int ((cv &&& (255 : Int32)).toUInt32.toUInt16.toUInt32.toInt32))])) (fun _ k => XS.i2c X33.here hx rfl (hb hby at_68) rfl k) ?_
  rw [show (((cv &&& (255 : Int32)).toUInt32.toUInt16.toUInt32.toInt32) : Int32) = (cv &&& (255 : Int32)) from i2c_mask _]
  have Old36 : Old Z n0 h33 := (Old32.wr W33 (by omega))
  obtain ⟨_, _, ⟨T35, L35, k35, n35⟩, -, X35, ⟨Lc35, hQ35, l35, y35, z35⟩, st35⟩ := Jvm.LawKit.callS X33 hx (y := (⟨"java/lang/String", "valueOf", "(C)Ljava/lang/String;"⟩ : MethodName)) hown (mvT hZ (hw _ (List.mem_of_getElem? (i := 20) rfl))) (mvT hZ (hw _ (List.mem_of_getElem? (i := 21) rfl))) (mvT hZ (hw _ (List.mem_of_getElem? (i := 22) rfl))) (mvT hZ (hw _ (List.mem_of_getElem? (i := 23) rfl))) (by decide) (backOf (W := 0) (own_strVal l Z a0 hw [] (cv &&& (255 : Int32)) zc h33 n0 (by omega) Old36 SCS hzc (StrC255 _)) hZ (hw _ (List.mem_of_getElem? (i := 23) rfl)) (hw _ (List.mem_of_getElem? (i := 22) rfl)) (by decide) (by decide)) (g := (mkF m 69 #[.val (.int kk), .val (.int ln), .val (.int en), .val (.int cv), .val (.int wv), .val (.ref b1), .val (.int (kk &&& (7 : Int32))), .unset, .unset, .unset] [(.int (cv &&& (255 : Int32)))])) rfl (by rw [hml]; rfl) (argsL := [(.int (cv &&& (255 : Int32)))]) (rest := []) (lenOf own_pd_x28Cx29Ljavax2flangx2fStringx3b rfl) rfl (by show 2 * 0 + _ ≤ _; exact Nat.le_of_eq rfl) (hb hby at_69) (fun _ _ => ⟨rfl, e33, (by decide : 1 + 2 ≤ _), (by decide : 8 + 5 ≤ _)⟩)
  dsimp only [Pt.U, Pt.locs, Pt.cells, Pt.slots] at X35 l35 y35 z35 st35 hQ35
  subst l35 y35 z35
  obtain ⟨r35, t35, kb35, rfl, N35q, K35, ger35, get35, Er35, Fc35, Fv35, V35⟩ := hQ35
  have N35 := Fr.app N33 N35q
  have sz37 : h33.size ≤ T35.heap.size := K35.1
  have lt_t35 := own_lt V35.lt
  have lt_r35 := own_lt Er35.lt
  refine OwnFin.adv (B := T35.setTop (mkF m 72 #[.val (.int kk), .val (.int ln), .val (.int en), .val (.int cv), .val (.int wv), .val (.ref b1), .val (.int (kk &&& (7 : Int32))), .unset, .unset, .unset] [(.ref r35)])) (fun _ k => st35 _ k) ?_
  refine OwnFin.adv (B := T35.setTop (mkF m 74 #[.val (.int kk), .val (.int ln), .val (.int en), .val (.int cv), .val (.int wv), .val (.ref b1), .val (.int (kk &&& (7 : Int32))), .val (.ref r35), .unset, .unset] [])) (fun _ k => XS.astore X35.here hx rfl (hb hby at_72) rfl rfl (l' := #[.val (.int kk), .val (.int ln), .val (.int en), .val (.int cv), .val (.int wv), .val (.ref b1), .val (.int (kk &&& (7 : Int32))), .val (.ref r35), .unset, .unset]) rfl k) ?_
  obtain ⟨T38, h38, X38, e38, E38, A38, D38, -, st38⟩ := newO X35 hx hZ hown (hw _ (List.mem_of_getElem? (i := 46) rfl)) (hw _ (List.mem_of_getElem? (i := 47) rfl)) (hw _ (List.mem_of_getElem? (i := 48) rfl)) rfl (g := (mkF m 74 #[.val (.int kk), .val (.int ln), .val (.int en), .val (.int cv), .val (.int wv), .val (.ref b1), .val (.int (kk &&& (7 : Int32))), .val (.ref r35), .unset, .unset] [])) rfl (hb hby at_74) (by decide) (by decide)
  obtain ⟨b38, g38⟩ : ∃ z, z = T35.heap.size := ⟨_, rfl⟩
  rw [← g38] at A38 D38 st38
  have sz39 : T35.heap.size ≤ h38.size := E38.1
  have lt_b38 := own_lt A38.lt
  have F38_file : Fld Z h38 b38 "com/example/notional/notional/io/JsonValue" "file" "Ljava/lang/String;" .null := D38 (Or.inr (hw _ (List.mem_of_getElem? (i := 65) rfl))) (ty := (.object "java/lang/String")) (by decide)
  have F38_path : Fld Z h38 b38 "com/example/notional/notional/io/JsonValue" "path" "Ljava/lang/String;" .null := D38 (Or.inr (hw _ (List.mem_of_getElem? (i := 67) rfl))) (ty := (.object "java/lang/String")) (by decide)
  have F38_kind : Fld Z h38 b38 "com/example/notional/notional/io/JsonValue" "kind" "Lcom/example/notional/notional/io/JsonValue$Kind;" .null := D38 (Or.inr (hw _ (List.mem_of_getElem? (i := 69) rfl))) (ty := (.object "com/example/notional/notional/io/JsonValue$Kind")) (by decide)
  have F38_line : Fld Z h38 b38 "com/example/notional/notional/io/JsonValue" "line" "I" (.int (0 : Int32)) := D38 (Or.inr (hw _ (List.mem_of_getElem? (i := 71) rfl))) (ty := .int) (by decide)
  have F38_endLine : Fld Z h38 b38 "com/example/notional/notional/io/JsonValue" "endLine" "I" (.int (0 : Int32)) := D38 (Or.inr (hw _ (List.mem_of_getElem? (i := 73) rfl))) (ty := .int) (by decide)
  have F38_text : Fld Z h38 b38 "com/example/notional/notional/io/JsonValue" "text" "Ljava/lang/String;" .null := D38 (Or.inr (hw _ (List.mem_of_getElem? (i := 75) rfl))) (ty := (.object "java/lang/String")) (by decide)
  have F38_wholeNumber : Fld Z h38 b38 "com/example/notional/notional/io/JsonValue" "wholeNumber" "Ljava/lang/Integer;" .null := D38 (Or.inr (hw _ (List.mem_of_getElem? (i := 77) rfl))) (ty := (.object "java/lang/Integer")) (by decide)
  have F38_members : Fld Z h38 b38 "com/example/notional/notional/io/JsonValue" "members" "Ljava/util/Map;" .null := D38 (Or.inr (hw _ (List.mem_of_getElem? (i := 79) rfl))) (ty := (.object "java/util/Map")) (by decide)
  have F38_elements : Fld Z h38 b38 "com/example/notional/notional/io/JsonValue" "elements" "Ljava/util/List;" .null := D38 (Or.inr (hw _ (List.mem_of_getElem? (i := 81) rfl))) (ty := (.object "java/util/List")) (by decide)
  refine OwnFin.adv (B := T38.setTop (mkF m 77 #[.val (.int kk), .val (.int ln), .val (.int en), .val (.int cv), .val (.int wv), .val (.ref b1), .val (.int (kk &&& (7 : Int32))), .val (.ref r35), .unset, .unset] [(.ref b38)])) (fun _ k => st38 _ k) ?_
  refine OwnFin.adv (B := T38.setTop (mkF m 78 #[.val (.int kk), .val (.int ln), .val (.int en), .val (.int cv), .val (.int wv), .val (.ref b1), .val (.int (kk &&& (7 : Int32))), .val (.ref r35), .unset, .unset] [(.ref b38), (.ref b38)])) (fun _ k => XS.dup X38.here hx rfl (hb hby at_77) rfl rfl k) ?_
  obtain ⟨a40, T40, h40, kk40, X40, e40, E40, hS40, hk40, hZ, hown, st40⟩ := ldcS (s := s) (vm0 := s.vm) X38 hx hZ hown (hw _ (List.mem_of_getElem? (i := 49) rfl)) (fun d hd => hw d ((by decide +kernel : ∀ d ∈ Bundle.stringAtoms, d ∈ tables_1) d hd)) e38 (State.WarmedH.since (State.WarmedH.refl s) 0) (Nat.zero_le _) (g := (mkF m 78 #[.val (.int kk), .val (.int ln), .val (.int en), .val (.int cv), .val (.int wv), .val (.ref b1), .val (.int (kk &&& (7 : Int32))), .val (.ref r35), .unset, .unset] [(.ref b38), (.ref b38)])) rfl (hb hby at_78) (n := 4) (by decide) (by decide) (by decide) (by decide)
  have sz41 : h38.size ≤ h40.size := E40.1
  refine OwnFin.adv (B := T40.setTop (mkF m 80 #[.val (.int kk), .val (.int ln), .val (.int en), .val (.int cv), .val (.int wv), .val (.ref b1), .val (.int (kk &&& (7 : Int32))), .val (.ref r35), .unset, .unset] [(.ref a40), (.ref b38), (.ref b38)])) (fun _ k => st40 _ k) ?_
  obtain ⟨a42, T42, h42, kk42, X42, e42, E42, hS42, hk42, hZ, hown, st42⟩ := ldcS (s := s) (vm0 := T40.vm) X40 hx hZ hown (hw _ (List.mem_of_getElem? (i := 52) rfl)) (fun d hd => hw d ((by decide +kernel : ∀ d ∈ Bundle.stringAtoms, d ∈ tables_1) d hd)) e40 hS40 (by omega) (g := (mkF m 80 #[.val (.int kk), .val (.int ln), .val (.int en), .val (.int cv), .val (.int wv), .val (.ref b1), .val (.int (kk &&& (7 : Int32))), .val (.ref r35), .unset, .unset] [(.ref a40), (.ref b38), (.ref b38)])) rfl (hb hby at_80) (n := 4) (by decide) (by decide) (by decide) (by decide)
  have sz43 : h40.size ≤ h42.size := E42.1
  refine OwnFin.adv (B := T42.setTop (mkF m 82 #[.val (.int kk), .val (.int ln), .val (.int en), .val (.int cv), .val (.int wv), .val (.ref b1), .val (.int (kk &&& (7 : Int32))), .val (.ref r35), .unset, .unset] [(.ref a42), (.ref a40), (.ref b38), (.ref b38)])) (fun _ k => st42 _ k) ?_
  refine OwnFin.adv (B := T42.setTop (mkF m 84 #[.val (.int kk), .val (.int ln), .val (.int en), .val (.int cv), .val (.int wv), .val (.ref b1), .val (.int (kk &&& (7 : Int32))), .val (.ref r35), .unset, .unset] [(.ref b1), (.ref a42), (.ref a40), (.ref b38), (.ref b38)])) (fun _ k => XS.aload X42.here hx rfl (hb hby at_82) rfl rfl k) ?_
  refine OwnFin.adv (B := T42.setTop (mkF m 86 #[.val (.int kk), .val (.int ln), .val (.int en), .val (.int cv), .val (.int wv), .val (.ref b1), .val (.int (kk &&& (7 : Int32))), .val (.ref r35), .unset, .unset] [(.int (kk &&& (7 : Int32))), (.ref b1), (.ref a42), (.ref a40), (.ref b38), (.ref b38)])) (fun _ k => XS.iload X42.here hx rfl (hb hby at_84) rfl k) ?_
  rcases own_m7 kk with hk | hk | hk | hk | hk | hk | hk | hk
  ·
    rw [show ((kk &&& (7 : Int32)) : Int32) = (0 : Int32) from hk]
    have Fv45_13 : Arv Z h42 b1 k1 (.object "com/example/notional/notional/io/JsonValue$Kind") (8 : Int32) [(.ref q0), (.ref q1), (.ref q2), (.ref q3), (.ref q4), (.ref q5), (.ref q6), (.ref q7)] .null := ((((V33.keep K35 nin0).ext E38).ext E40).ext E42)
    obtain ⟨cl44, Ar44, ck44, S44, M44, H44, G44⟩ := id Fv45_13
    have hin44 : ¬ ((0 : Int32) < 0 ∨ cl44.slots.size ≤ ((0 : Int32)).toNatClampNeg) := inb_of S44 ⟨by decide, by decide⟩
    refine OwnFin.adv (B := T42.setTop (mkF m 87 #[.val (.int kk), .val (.int ln), .val (.int en), .val (.int cv), .val (.int wv), .val (.ref b1), .val (.int (0 : Int32)), .val (.ref r35), .unset, .unset] [(.ref q0), (.ref a42), (.ref a40), (.ref b38), (.ref b38)])) (fun _ k => X42.aaload hx (j := (0 : Int32)) (v := (.ref q0)) (by rw [e42]; exact Ar44.1) (State.isArrayOf_alike hZ.alike Ar44.2.1) rfl Ar44.2.2 hin44 (Has.at H44 hin44 rfl) (g := (mkF m 86 #[.val (.int kk), .val (.int ln), .val (.int en), .val (.int cv), .val (.int wv), .val (.ref b1), .val (.int (0 : Int32)), .val (.ref r35), .unset, .unset] [(.int (0 : Int32)), (.ref b1), (.ref a42), (.ref a40), (.ref b38), (.ref b38)])) rfl rfl (hb hby at_86) _ k) ?_
    refine OwnFin.adv (B := T42.setTop (mkF m 88 #[.val (.int kk), .val (.int ln), .val (.int en), .val (.int cv), .val (.int wv), .val (.ref b1), .val (.int (0 : Int32)), .val (.ref r35), .unset, .unset] [(.int ln), (.ref q0), (.ref a42), (.ref a40), (.ref b38), (.ref b38)])) (fun _ k => XS.iloadN X42.here hx rfl (hb hby at_87) rfl k) ?_
    refine OwnFin.adv (B := T42.setTop (mkF m 89 #[.val (.int kk), .val (.int ln), .val (.int en), .val (.int cv), .val (.int wv), .val (.ref b1), .val (.int (0 : Int32)), .val (.ref r35), .unset, .unset] [(.int en), (.int ln), (.ref q0), (.ref a42), (.ref a40), (.ref b38), (.ref b38)])) (fun _ k => XS.iloadN X42.here hx rfl (hb hby at_88) rfl k) ?_
    refine OwnFin.adv (B := T42.setTop (mkF m 91 #[.val (.int kk), .val (.int ln), .val (.int en), .val (.int cv), .val (.int wv), .val (.ref b1), .val (.int (0 : Int32)), .val (.ref r35), .unset, .unset] [(.ref r35), (.int en), (.int ln), (.ref q0), (.ref a42), (.ref a40), (.ref b38), (.ref b38)])) (fun _ k => XS.aload X42.here hx rfl (hb hby at_89) rfl rfl k) ?_
    refine OwnFin.adv (B := T42.setTop (mkF m 93 #[.val (.int kk), .val (.int ln), .val (.int en), .val (.int cv), .val (.int wv), .val (.ref b1), .val (.int (0 : Int32)), .val (.ref r35), .unset, .unset] [(.int wv), (.ref r35), (.int en), (.int ln), (.ref q0), (.ref a42), (.ref a40), (.ref b38), (.ref b38)])) (fun _ k => XS.iload X42.here hx rfl (hb hby at_91) rfl k) ?_
    have Old47 : Old Z n0 h42 := ((((Old36.keep K35 all0).ext E38).ext E40).ext E42)
    obtain ⟨_, _, ⟨T46, L46, k46, n46⟩, -, X46, ⟨Lc46, hQ46, l46, y46, z46⟩, st46⟩ := Jvm.LawKit.callS X42 hx (y := (⟨"java/lang/Integer", "valueOf", "(I)Ljava/lang/Integer;"⟩ : MethodName)) hown (mvT hZ (hw _ (List.mem_of_getElem? (i := 53) rfl))) (mvT hZ (hw _ (List.mem_of_getElem? (i := 54) rfl))) (mvT hZ (hw _ (List.mem_of_getElem? (i := 55) rfl))) (mvT hZ (hw _ (List.mem_of_getElem? (i := 56) rfl))) (by decide) (backOf (W := 8) (own_valueOf l Z a0 hw [] wv ca cl h42 n0 (by omega) Old47 SH SC BX) hZ (hw _ (List.mem_of_getElem? (i := 56) rfl)) (hw _ (List.mem_of_getElem? (i := 55) rfl)) (by decide) (by decide)) (g := (mkF m 93 #[.val (.int kk), .val (.int ln), .val (.int en), .val (.int cv), .val (.int wv), .val (.ref b1), .val (.int (0 : Int32)), .val (.ref r35), .unset, .unset] [(.int wv), (.ref r35), (.int en), (.int ln), (.ref q0), (.ref a42), (.ref a40), (.ref b38), (.ref b38)])) rfl (by rw [hml]; rfl) (argsL := [(.int wv)]) (rest := [(.ref r35), (.int en), (.int ln), (.ref q0), (.ref a42), (.ref a40), (.ref b38), (.ref b38)]) (lenOf own_pd_x28Ix29Ljavax2flangx2fIntegerx3b rfl) rfl (by show 2 * 0 + _ ≤ _; exact Nat.le_of_eq rfl) (hb hby at_93) (fun _ _ => ⟨rfl, e42, (by decide : 8 + 1 ≤ _), (by decide : 38 + 1 ≤ _)⟩)
    dsimp only [Pt.U, Pt.locs, Pt.cells, Pt.slots] at X46 l46 y46 z46 st46 hQ46
    subst l46 y46 z46
    obtain ⟨bx46, rfl, N46q, K46, Ebx46⟩ := hQ46
    have N46 := Fr.app N35 N46q
    have sz48 : h42.size ≤ T46.heap.size := K46.1
    refine OwnFin.adv (B := T46.setTop (mkF m 96 #[.val (.int kk), .val (.int ln), .val (.int en), .val (.int cv), .val (.int wv), .val (.ref b1), .val (.int (0 : Int32)), .val (.ref r35), .unset, .unset] [(.ref bx46), (.ref r35), (.int en), (.int ln), (.ref q0), (.ref a42), (.ref a40), (.ref b38), (.ref b38)])) (fun _ k => st46 _ k) ?_
    refine OwnFin.adv (B := T46.setTop (mkF m 97 #[.val (.int kk), .val (.int ln), .val (.int en), .val (.int cv), .val (.int wv), .val (.ref b1), .val (.int (0 : Int32)), .val (.ref r35), .unset, .unset] [.null, (.ref bx46), (.ref r35), (.int en), (.int ln), (.ref q0), (.ref a42), (.ref a40), (.ref b38), (.ref b38)])) (fun _ k => XS.aconstNull X46.here hx rfl (hb hby at_96) k) ?_
    refine OwnFin.adv (B := T46.setTop (mkF m 98 #[.val (.int kk), .val (.int ln), .val (.int en), .val (.int cv), .val (.int wv), .val (.ref b1), .val (.int (0 : Int32)), .val (.ref r35), .unset, .unset] [.null, .null, (.ref bx46), (.ref r35), (.int en), (.int ln), (.ref q0), (.ref a42), (.ref a40), (.ref b38), (.ref b38)])) (fun _ k => XS.aconstNull X46.here hx rfl (hb hby at_97) k) ?_
    have Fv50_14 : Exa Z T46.heap b38 "com/example/notional/notional/io/JsonValue" := (((A38.ext E40).ext E42).keep K46)
    have Fv51_14 : Fld Z T46.heap b38 "com/example/notional/notional/io/JsonValue" "file" "Ljava/lang/String;" .null := (((F38_file.ext E40).ext E42).keep K46 nin0)
    have Fv52_14 : Fld Z T46.heap b38 "com/example/notional/notional/io/JsonValue" "path" "Ljava/lang/String;" .null := (((F38_path.ext E40).ext E42).keep K46 nin0)
    have Fv53_14 : Fld Z T46.heap b38 "com/example/notional/notional/io/JsonValue" "kind" "Lcom/example/notional/notional/io/JsonValue$Kind;" .null := (((F38_kind.ext E40).ext E42).keep K46 nin0)
    have Fv54_14 : Fld Z T46.heap b38 "com/example/notional/notional/io/JsonValue" "line" "I" (.int (0 : Int32)) := (((F38_line.ext E40).ext E42).keep K46 nin0)
    have Fv55_14 : Fld Z T46.heap b38 "com/example/notional/notional/io/JsonValue" "endLine" "I" (.int (0 : Int32)) := (((F38_endLine.ext E40).ext E42).keep K46 nin0)
    have Fv56_14 : Fld Z T46.heap b38 "com/example/notional/notional/io/JsonValue" "text" "Ljava/lang/String;" .null := (((F38_text.ext E40).ext E42).keep K46 nin0)
    have Fv57_14 : Fld Z T46.heap b38 "com/example/notional/notional/io/JsonValue" "wholeNumber" "Ljava/lang/Integer;" .null := (((F38_wholeNumber.ext E40).ext E42).keep K46 nin0)
    have Fv58_14 : Fld Z T46.heap b38 "com/example/notional/notional/io/JsonValue" "members" "Ljava/util/Map;" .null := (((F38_members.ext E40).ext E42).keep K46 nin0)
    have Fv59_14 : Fld Z T46.heap b38 "com/example/notional/notional/io/JsonValue" "elements" "Ljava/util/List;" .null := (((F38_elements.ext E40).ext E42).keep K46 nin0)
    obtain ⟨_, _, ⟨T49, L49, k49, n49⟩, -, X49, ⟨Lc49, hQ49, l49, y49, z49⟩, st49⟩ := X46.specialBack hx (y := (⟨"com/example/notional/notional/io/JsonValue", "<init>", "(Ljava/lang/String;Ljava/lang/String;Lcom/example/notional/notional/io/JsonValue$Kind;IILjava/lang/String;Ljava/lang/Integer;Ljava/util/Map;Ljava/util/List;)V"⟩ : MethodName)) rfl hown (mvT hZ (hw _ (List.mem_of_getElem? (i := 60) rfl))) (mvT hZ (hw _ (List.mem_of_getElem? (i := 61) rfl))) (mvT hZ (hw _ (List.mem_of_getElem? (i := 62) rfl))) (by decide) (backOf (W := 1) (own_jInit l Z a0 hw [] b38 a40 a42 q0 ln en r35 bx46 _ _ _ _ _ _ _ _ _ T46.heap n0 (by omega) Fv50_14 Fv51_14 Fv52_14 Fv53_14 Fv54_14 Fv55_14 Fv56_14 Fv57_14 Fv58_14 Fv59_14 (by omega)) hZ (hw _ (List.mem_of_getElem? (i := 62) rfl)) (hw _ (List.mem_of_getElem? (i := 48) rfl)) (by decide) (by decide)) (g := (mkF m 98 #[.val (.int kk), .val (.int ln), .val (.int en), .val (.int cv), .val (.int wv), .val (.ref b1), .val (.int (0 : Int32)), .val (.ref r35), .unset, .unset] [.null, .null, (.ref bx46), (.ref r35), (.int en), (.int ln), (.ref q0), (.ref a42), (.ref a40), (.ref b38), (.ref b38)])) rfl (by rw [hml]; rfl) (Steps.refl _) (a := b38) (argsL := [(.ref a40), (.ref a42), (.ref q0), (.int ln), (.int en), (.ref r35), (.ref bx46), .null, .null]) (rest := [(.ref b38)]) (lenOf own_pd_x28Ljavax2flangx2fStringx3bLjavax2flangx2fStringx3bLcomx2fexamplex2fnotionalx2fnotionalx2fiox2fJsonValuex24Kindx3bIILjavax2flangx2fStringx3bLjavax2flangx2fIntegerx3bLjavax2futilx2fMapx3bLjavax2futilx2fListx3bx29V rfl) rfl (by show 2 * 0 + _ ≤ _; exact Nat.le_of_eq rfl) (hb hby at_98) (fun _ _ => ⟨rfl, rfl, (by decide : 9 + 0 ≤ _), (by decide : 39 + 0 ≤ _)⟩)
    dsimp only [Pt.U, Pt.locs, Pt.cells, Pt.slots] at X49 l49 y49 z49 st49 hQ49
    subst l49 y49 z49
    obtain ⟨rfl, N49q, K49, Fa49, Fb49⟩ := hQ49
    have N49 := Fr.app N46 N49q
    have sz60 : T46.heap.size ≤ T49.heap.size := K49.1
    refine OwnFin.adv (B := T49.setTop (mkF m 101 #[.val (.int kk), .val (.int ln), .val (.int en), .val (.int cv), .val (.int wv), .val (.ref b1), .val (.int (0 : Int32)), .val (.ref r35), .unset, .unset] [(.ref b38)])) (fun _ k => st49.trans k) ?_
    refine OwnFin.adv (B := T49.setTop (mkF m 103 #[.val (.int kk), .val (.int ln), .val (.int en), .val (.int cv), .val (.int wv), .val (.ref b1), .val (.int (0 : Int32)), .val (.ref r35), .val (.ref b38), .unset] [])) (fun _ k => XS.astore X49.here hx rfl (hb hby at_101) rfl rfl (l' := #[.val (.int kk), .val (.int ln), .val (.int en), .val (.int cv), .val (.int wv), .val (.ref b1), .val (.int (0 : Int32)), .val (.ref r35), .val (.ref b38), .unset]) rfl k) ?_
    refine OwnFin.adv (B := T49.setTop (mkF m 105 #[.val (.int kk), .val (.int ln), .val (.int en), .val (.int cv), .val (.int wv), .val (.ref b1), .val (.int (0 : Int32)), .val (.ref r35), .val (.ref b38), .unset] [(.int (0 : Int32))])) (fun _ k => XS.iload X49.here hx rfl (hb hby at_103) rfl k) ?_
    refine OwnFin.adv (B := T49.setTop (mkF m 106 #[.val (.int kk), .val (.int ln), .val (.int en), .val (.int cv), .val (.int wv), .val (.ref b1), .val (.int (0 : Int32)), .val (.ref r35), .val (.ref b38), .unset] [(.int (2 : Int32)), (.int (0 : Int32))])) (fun _ k => XS.iconst X49.here hx rfl (hb hby at_105) k) ?_
    have hc106_65 : ¬ ((0 : Int32) = (2 : Int32)) := by decide
    refine OwnFin.adv (B := T49.setTop (mkF m 113 #[.val (.int kk), .val (.int ln), .val (.int en), .val (.int cv), .val (.int wv), .val (.ref b1), .val (.int (0 : Int32)), .val (.ref r35), .val (.ref b38), .unset] [])) (fun _ k => XS.icmpYes X49.here hx rfl (pc0 := 106) (pc' := 113) rfl (hb hby at_106) rfl (feq hc106_65).2 (by decide) (by decide) k) ?_
    refine OwnFin.adv (B := T49.setTop (mkF m 114 #[.val (.int kk), .val (.int ln), .val (.int en), .val (.int cv), .val (.int wv), .val (.ref b1), .val (.int (0 : Int32)), .val (.ref r35), .val (.ref b38), .unset] [(.int (0 : Int32))])) (fun _ k => XS.iconst X49.here hx rfl (hb hby at_113) k) ?_
    refine OwnFin.adv (B := T49.setTop (mkF m 116 #[.val (.int kk), .val (.int ln), .val (.int en), .val (.int cv), .val (.int wv), .val (.ref b1), .val (.int (0 : Int32)), .val (.ref r35), .val (.ref b38), .val (.int (0 : Int32))] [])) (fun _ k => XS.istore X49.here hx rfl (hb hby at_114) rfl (l' := #[.val (.int kk), .val (.int ln), .val (.int en), .val (.int cv), .val (.int wv), .val (.ref b1), .val (.int (0 : Int32)), .val (.ref r35), .val (.ref b38), .val (.int (0 : Int32))]) rfl k) ?_
    refine OwnFin.adv (B := T49.setTop (mkF m 118 #[.val (.int kk), .val (.int ln), .val (.int en), .val (.int cv), .val (.int wv), .val (.ref b1), .val (.int (0 : Int32)), .val (.ref r35), .val (.ref b38), .val (.int (0 : Int32))] [(.ref b38)])) (fun _ k => XS.aload X49.here hx rfl (hb hby at_116) rfl rfl k) ?_
    have Old62 : Old Z n0 T49.heap := ((Old47.keep K46 all0).keep K49 (allS (by omega) all0))
    have Fv63_15 : Exa Z T49.heap b38 "com/example/notional/notional/io/JsonValue" := (Fv50_14.keep K49)
    obtain ⟨cq61, kq61, q61a, q61b, q61c⟩ := isOf hZ rfl Fv63_15
    obtain ⟨_, _, ⟨T61, L61, k61, n61⟩, -, X61, ⟨Lc61, hQ61, l61, y61, z61⟩, st61⟩ := X49.virtualBack hx (y := (⟨"com/example/notional/notional/io/JsonValue", "isString", "()Z"⟩ : MethodName)) (z := (⟨"com/example/notional/notional/io/JsonValue", "isString", "()Z"⟩ : MethodName)) hown (mvT hZ (hw _ (List.mem_of_getElem? (i := 82) rfl))) (mvT hZ (hw _ (List.mem_of_getElem? (i := 83) rfl))) (notFace_of_selects (args := #[]) (mvT hZ (hw _ (List.mem_of_getElem? (i := 85) rfl)))) (mvT hZ (hw _ (List.mem_of_getElem? (i := 85) rfl))) (mvT hZ (hw _ (List.mem_of_getElem? (i := 84) rfl))) (by decide) (backOf (W := 0) (own_isStr l Z a0 hw [] b38 q0 q2 T49.heap n0 (by omega) Fa49 (own_staK S_q2 Old62)) hZ (hw _ (List.mem_of_getElem? (i := 86) rfl)) (hw _ (List.mem_of_getElem? (i := 48) rfl)) (by decide) (by decide)) q61a q61c (g := (mkF m 118 #[.val (.int kk), .val (.int ln), .val (.int en), .val (.int cv), .val (.int wv), .val (.ref b1), .val (.int (0 : Int32)), .val (.ref r35), .val (.ref b38), .val (.int (0 : Int32))] [(.ref b38)])) rfl (by rw [hml]; rfl) (Steps.refl _) (argsL := []) (rest := []) (lenOf own_pd_x28x29Z rfl) rfl (by show 2 * 0 + _ ≤ _; exact Nat.le_of_eq rfl) (hb hby at_118) (fun _ _ => ⟨rfl, rfl, (by decide : 9 + 0 ≤ _), (by decide : 39 + 0 ≤ _)⟩)
    dsimp only [Pt.U, Pt.locs, Pt.cells, Pt.slots] at X61 l61 y61 z61 st61 hQ61
    subst l61 y61 z61
    obtain ⟨rfl, N61q, eh61⟩ := hQ61
    have N61 := Fr.app N49 N61q
    refine OwnFin.adv (B := T61.setTop (mkF m 121 #[.val (.int kk), .val (.int ln), .val (.int en), .val (.int cv), .val (.int wv), .val (.ref b1), .val (.int (0 : Int32)), .val (.ref r35), .val (.ref b38), .val (.int (0 : Int32))] [(.int (if q0 = q2 then (1 : Int32) else 0))])) (fun _ k => st61.trans k) ?_
    refine OwnFin.adv (B := T61.setTop (mkF m 123 #[.val (.int kk), .val (.int ln), .val (.int en), .val (.int cv), .val (.int wv), .val (.ref b1), .val (.int (0 : Int32)), .val (.ref r35), .val (.ref b38), .val (.int (0 : Int32))] [(.int (0 : Int32)), (.int (if q0 = q2 then (1 : Int32) else 0))])) (fun _ k => XS.iload X61.here hx rfl (hb hby at_121) rfl k) ?_
    have hc123_71 : (if q0 = q2 then (1 : Int32) else 0) = (0 : Int32) := by simp [ne_q0]
    refine OwnFin.adv (B := T61.setTop (mkF m 128 #[.val (.int kk), .val (.int ln), .val (.int en), .val (.int cv), .val (.int wv), .val (.ref b1), .val (.int (0 : Int32)), .val (.ref r35), .val (.ref b38), .val (.int (0 : Int32))] [])) (fun _ k => XS.icmpYes X61.here hx rfl (pc0 := 123) (pc' := 128) rfl (hb hby at_123) rfl (teq hc123_71).1 (by decide) (by decide) k) ?_
    refine OwnFin.adv (B := T61.setTop (mkF m 130 #[.val (.int kk), .val (.int ln), .val (.int en), .val (.int cv), .val (.int wv), .val (.ref b1), .val (.int (0 : Int32)), .val (.ref r35), .val (.ref b38), .val (.int (0 : Int32))] [(.int (0 : Int32))])) (fun _ k => XS.iload X61.here hx rfl (hb hby at_128) rfl k) ?_
    have hc130_73 : (0 : Int32) = (0 : Int32) := by decide
    refine OwnFin.adv (B := T61.setTop (mkF m 144 #[.val (.int kk), .val (.int ln), .val (.int en), .val (.int cv), .val (.int wv), .val (.ref b1), .val (.int (0 : Int32)), .val (.ref r35), .val (.ref b38), .val (.int (0 : Int32))] [])) (fun _ k => XS.ifYes X61.here hx rfl (pc0 := 130) (pc' := 144) rfl (hb hby at_130) rfl ((if0 _ _).trans (teq hc130_73).1) (by decide) (by decide) k) ?_
    refine OwnFin.adv (B := T61.setTop (mkF m 145 #[.val (.int kk), .val (.int ln), .val (.int en), .val (.int cv), .val (.int wv), .val (.ref b1), .val (.int (0 : Int32)), .val (.ref r35), .val (.ref b38), .val (.int (0 : Int32))] [(.int (1 : Int32))])) (fun _ k => XS.iconst X61.here hx rfl (hb hby at_144) k) ?_
    obtain ⟨fs, hr, hrun, hended, hE⟩ := X61.leaveW hS42 (by rw [eh61]; omega) (v := some (.int (1 : Int32))) (fun h => by rw [Bd.returns] at h; cases h)
    refine OwnFin.leaf hP' ⟨_, _, retN X61 hx (t := .boolean) Bd.returns (by simp) (hb hby at_145) hr, hrun, hended, _, _, rfl, ?_, own_monoW hE (by decide) (by decide)⟩
    exact ⟨rfl, N61⟩
  ·
    rw [show ((kk &&& (7 : Int32)) : Int32) = (1 : Int32) from hk]
    have Fv65_13 : Arv Z h42 b1 k1 (.object "com/example/notional/notional/io/JsonValue$Kind") (8 : Int32) [(.ref q0), (.ref q1), (.ref q2), (.ref q3), (.ref q4), (.ref q5), (.ref q6), (.ref q7)] .null := ((((V33.keep K35 nin0).ext E38).ext E40).ext E42)
    obtain ⟨cl64, Ar64, ck64, S64, M64, H64, G64⟩ := id Fv65_13
    have hin64 : ¬ ((1 : Int32) < 0 ∨ cl64.slots.size ≤ ((1 : Int32)).toNatClampNeg) := inb_of S64 ⟨by decide, by decide⟩
    refine OwnFin.adv (B := T42.setTop (mkF m 87 #[.val (.int kk), .val (.int ln), .val (.int en), .val (.int cv), .val (.int wv), .val (.ref b1), .val (.int (1 : Int32)), .val (.ref r35), .unset, .unset] [(.ref q1), (.ref a42), (.ref a40), (.ref b38), (.ref b38)])) (fun _ k => X42.aaload hx (j := (1 : Int32)) (v := (.ref q1)) (by rw [e42]; exact Ar64.1) (State.isArrayOf_alike hZ.alike Ar64.2.1) rfl Ar64.2.2 hin64 (Has.at H64 hin64 rfl) (g := (mkF m 86 #[.val (.int kk), .val (.int ln), .val (.int en), .val (.int cv), .val (.int wv), .val (.ref b1), .val (.int (1 : Int32)), .val (.ref r35), .unset, .unset] [(.int (1 : Int32)), (.ref b1), (.ref a42), (.ref a40), (.ref b38), (.ref b38)])) rfl rfl (hb hby at_86) _ k) ?_
    refine OwnFin.adv (B := T42.setTop (mkF m 88 #[.val (.int kk), .val (.int ln), .val (.int en), .val (.int cv), .val (.int wv), .val (.ref b1), .val (.int (1 : Int32)), .val (.ref r35), .unset, .unset] [(.int ln), (.ref q1), (.ref a42), (.ref a40), (.ref b38), (.ref b38)])) (fun _ k => XS.iloadN X42.here hx rfl (hb hby at_87) rfl k) ?_
    refine OwnFin.adv (B := T42.setTop (mkF m 89 #[.val (.int kk), .val (.int ln), .val (.int en), .val (.int cv), .val (.int wv), .val (.ref b1), .val (.int (1 : Int32)), .val (.ref r35), .unset, .unset] [(.int en), (.int ln), (.ref q1), (.ref a42), (.ref a40), (.ref b38), (.ref b38)])) (fun _ k => XS.iloadN X42.here hx rfl (hb hby at_88) rfl k) ?_
    refine OwnFin.adv (B := T42.setTop (mkF m 91 #[.val (.int kk), .val (.int ln), .val (.int en), .val (.int cv), .val (.int wv), .val (.ref b1), .val (.int (1 : Int32)), .val (.ref r35), .unset, .unset] [(.ref r35), (.int en), (.int ln), (.ref q1), (.ref a42), (.ref a40), (.ref b38), (.ref b38)])) (fun _ k => XS.aload X42.here hx rfl (hb hby at_89) rfl rfl k) ?_
    refine OwnFin.adv (B := T42.setTop (mkF m 93 #[.val (.int kk), .val (.int ln), .val (.int en), .val (.int cv), .val (.int wv), .val (.ref b1), .val (.int (1 : Int32)), .val (.ref r35), .unset, .unset] [(.int wv), (.ref r35), (.int en), (.int ln), (.ref q1), (.ref a42), (.ref a40), (.ref b38), (.ref b38)])) (fun _ k => XS.iload X42.here hx rfl (hb hby at_91) rfl k) ?_
    have Old67 : Old Z n0 h42 := ((((Old36.keep K35 all0).ext E38).ext E40).ext E42)
    obtain ⟨_, _, ⟨T66, L66, k66, n66⟩, -, X66, ⟨Lc66, hQ66, l66, y66, z66⟩, st66⟩ := Jvm.LawKit.callS X42 hx (y := (⟨"java/lang/Integer", "valueOf", "(I)Ljava/lang/Integer;"⟩ : MethodName)) hown (mvT hZ (hw _ (List.mem_of_getElem? (i := 53) rfl))) (mvT hZ (hw _ (List.mem_of_getElem? (i := 54) rfl))) (mvT hZ (hw _ (List.mem_of_getElem? (i := 55) rfl))) (mvT hZ (hw _ (List.mem_of_getElem? (i := 56) rfl))) (by decide) (backOf (W := 8) (own_valueOf l Z a0 hw [] wv ca cl h42 n0 (by omega) Old67 SH SC BX) hZ (hw _ (List.mem_of_getElem? (i := 56) rfl)) (hw _ (List.mem_of_getElem? (i := 55) rfl)) (by decide) (by decide)) (g := (mkF m 93 #[.val (.int kk), .val (.int ln), .val (.int en), .val (.int cv), .val (.int wv), .val (.ref b1), .val (.int (1 : Int32)), .val (.ref r35), .unset, .unset] [(.int wv), (.ref r35), (.int en), (.int ln), (.ref q1), (.ref a42), (.ref a40), (.ref b38), (.ref b38)])) rfl (by rw [hml]; rfl) (argsL := [(.int wv)]) (rest := [(.ref r35), (.int en), (.int ln), (.ref q1), (.ref a42), (.ref a40), (.ref b38), (.ref b38)]) (lenOf own_pd_x28Ix29Ljavax2flangx2fIntegerx3b rfl) rfl (by show 2 * 0 + _ ≤ _; exact Nat.le_of_eq rfl) (hb hby at_93) (fun _ _ => ⟨rfl, e42, (by decide : 8 + 1 ≤ _), (by decide : 38 + 1 ≤ _)⟩)
    dsimp only [Pt.U, Pt.locs, Pt.cells, Pt.slots] at X66 l66 y66 z66 st66 hQ66
    subst l66 y66 z66
    obtain ⟨bx66, rfl, N66q, K66, Ebx66⟩ := hQ66
    have N66 := Fr.app N35 N66q
    have sz68 : h42.size ≤ T66.heap.size := K66.1
    refine OwnFin.adv (B := T66.setTop (mkF m 96 #[.val (.int kk), .val (.int ln), .val (.int en), .val (.int cv), .val (.int wv), .val (.ref b1), .val (.int (1 : Int32)), .val (.ref r35), .unset, .unset] [(.ref bx66), (.ref r35), (.int en), (.int ln), (.ref q1), (.ref a42), (.ref a40), (.ref b38), (.ref b38)])) (fun _ k => st66 _ k) ?_
    refine OwnFin.adv (B := T66.setTop (mkF m 97 #[.val (.int kk), .val (.int ln), .val (.int en), .val (.int cv), .val (.int wv), .val (.ref b1), .val (.int (1 : Int32)), .val (.ref r35), .unset, .unset] [.null, (.ref bx66), (.ref r35), (.int en), (.int ln), (.ref q1), (.ref a42), (.ref a40), (.ref b38), (.ref b38)])) (fun _ k => XS.aconstNull X66.here hx rfl (hb hby at_96) k) ?_
    refine OwnFin.adv (B := T66.setTop (mkF m 98 #[.val (.int kk), .val (.int ln), .val (.int en), .val (.int cv), .val (.int wv), .val (.ref b1), .val (.int (1 : Int32)), .val (.ref r35), .unset, .unset] [.null, .null, (.ref bx66), (.ref r35), (.int en), (.int ln), (.ref q1), (.ref a42), (.ref a40), (.ref b38), (.ref b38)])) (fun _ k => XS.aconstNull X66.here hx rfl (hb hby at_97) k) ?_
    have Fv70_14 : Exa Z T66.heap b38 "com/example/notional/notional/io/JsonValue" := (((A38.ext E40).ext E42).keep K66)
    have Fv71_14 : Fld Z T66.heap b38 "com/example/notional/notional/io/JsonValue" "file" "Ljava/lang/String;" .null := (((F38_file.ext E40).ext E42).keep K66 nin0)
    have Fv72_14 : Fld Z T66.heap b38 "com/example/notional/notional/io/JsonValue" "path" "Ljava/lang/String;" .null := (((F38_path.ext E40).ext E42).keep K66 nin0)
    have Fv73_14 : Fld Z T66.heap b38 "com/example/notional/notional/io/JsonValue" "kind" "Lcom/example/notional/notional/io/JsonValue$Kind;" .null := (((F38_kind.ext E40).ext E42).keep K66 nin0)
    have Fv74_14 : Fld Z T66.heap b38 "com/example/notional/notional/io/JsonValue" "line" "I" (.int (0 : Int32)) := (((F38_line.ext E40).ext E42).keep K66 nin0)
    have Fv75_14 : Fld Z T66.heap b38 "com/example/notional/notional/io/JsonValue" "endLine" "I" (.int (0 : Int32)) := (((F38_endLine.ext E40).ext E42).keep K66 nin0)
    have Fv76_14 : Fld Z T66.heap b38 "com/example/notional/notional/io/JsonValue" "text" "Ljava/lang/String;" .null := (((F38_text.ext E40).ext E42).keep K66 nin0)
    have Fv77_14 : Fld Z T66.heap b38 "com/example/notional/notional/io/JsonValue" "wholeNumber" "Ljava/lang/Integer;" .null := (((F38_wholeNumber.ext E40).ext E42).keep K66 nin0)
    have Fv78_14 : Fld Z T66.heap b38 "com/example/notional/notional/io/JsonValue" "members" "Ljava/util/Map;" .null := (((F38_members.ext E40).ext E42).keep K66 nin0)
    have Fv79_14 : Fld Z T66.heap b38 "com/example/notional/notional/io/JsonValue" "elements" "Ljava/util/List;" .null := (((F38_elements.ext E40).ext E42).keep K66 nin0)
    obtain ⟨_, _, ⟨T69, L69, k69, n69⟩, -, X69, ⟨Lc69, hQ69, l69, y69, z69⟩, st69⟩ := X66.specialBack hx (y := (⟨"com/example/notional/notional/io/JsonValue", "<init>", "(Ljava/lang/String;Ljava/lang/String;Lcom/example/notional/notional/io/JsonValue$Kind;IILjava/lang/String;Ljava/lang/Integer;Ljava/util/Map;Ljava/util/List;)V"⟩ : MethodName)) rfl hown (mvT hZ (hw _ (List.mem_of_getElem? (i := 60) rfl))) (mvT hZ (hw _ (List.mem_of_getElem? (i := 61) rfl))) (mvT hZ (hw _ (List.mem_of_getElem? (i := 62) rfl))) (by decide) (backOf (W := 1) (own_jInit l Z a0 hw [] b38 a40 a42 q1 ln en r35 bx66 _ _ _ _ _ _ _ _ _ T66.heap n0 (by omega) Fv70_14 Fv71_14 Fv72_14 Fv73_14 Fv74_14 Fv75_14 Fv76_14 Fv77_14 Fv78_14 Fv79_14 (by omega)) hZ (hw _ (List.mem_of_getElem? (i := 62) rfl)) (hw _ (List.mem_of_getElem? (i := 48) rfl)) (by decide) (by decide)) (g := (mkF m 98 #[.val (.int kk), .val (.int ln), .val (.int en), .val (.int cv), .val (.int wv), .val (.ref b1), .val (.int (1 : Int32)), .val (.ref r35), .unset, .unset] [.null, .null, (.ref bx66), (.ref r35), (.int en), (.int ln), (.ref q1), (.ref a42), (.ref a40), (.ref b38), (.ref b38)])) rfl (by rw [hml]; rfl) (Steps.refl _) (a := b38) (argsL := [(.ref a40), (.ref a42), (.ref q1), (.int ln), (.int en), (.ref r35), (.ref bx66), .null, .null]) (rest := [(.ref b38)]) (lenOf own_pd_x28Ljavax2flangx2fStringx3bLjavax2flangx2fStringx3bLcomx2fexamplex2fnotionalx2fnotionalx2fiox2fJsonValuex24Kindx3bIILjavax2flangx2fStringx3bLjavax2flangx2fIntegerx3bLjavax2futilx2fMapx3bLjavax2futilx2fListx3bx29V rfl) rfl (by show 2 * 0 + _ ≤ _; exact Nat.le_of_eq rfl) (hb hby at_98) (fun _ _ => ⟨rfl, rfl, (by decide : 9 + 0 ≤ _), (by decide : 39 + 0 ≤ _)⟩)
    dsimp only [Pt.U, Pt.locs, Pt.cells, Pt.slots] at X69 l69 y69 z69 st69 hQ69
    subst l69 y69 z69
    obtain ⟨rfl, N69q, K69, Fa69, Fb69⟩ := hQ69
    have N69 := Fr.app N66 N69q
    have sz80 : T66.heap.size ≤ T69.heap.size := K69.1
    refine OwnFin.adv (B := T69.setTop (mkF m 101 #[.val (.int kk), .val (.int ln), .val (.int en), .val (.int cv), .val (.int wv), .val (.ref b1), .val (.int (1 : Int32)), .val (.ref r35), .unset, .unset] [(.ref b38)])) (fun _ k => st69.trans k) ?_
    refine OwnFin.adv (B := T69.setTop (mkF m 103 #[.val (.int kk), .val (.int ln), .val (.int en), .val (.int cv), .val (.int wv), .val (.ref b1), .val (.int (1 : Int32)), .val (.ref r35), .val (.ref b38), .unset] [])) (fun _ k => XS.astore X69.here hx rfl (hb hby at_101) rfl rfl (l' := #[.val (.int kk), .val (.int ln), .val (.int en), .val (.int cv), .val (.int wv), .val (.ref b1), .val (.int (1 : Int32)), .val (.ref r35), .val (.ref b38), .unset]) rfl k) ?_
    refine OwnFin.adv (B := T69.setTop (mkF m 105 #[.val (.int kk), .val (.int ln), .val (.int en), .val (.int cv), .val (.int wv), .val (.ref b1), .val (.int (1 : Int32)), .val (.ref r35), .val (.ref b38), .unset] [(.int (1 : Int32))])) (fun _ k => XS.iload X69.here hx rfl (hb hby at_103) rfl k) ?_
    refine OwnFin.adv (B := T69.setTop (mkF m 106 #[.val (.int kk), .val (.int ln), .val (.int en), .val (.int cv), .val (.int wv), .val (.ref b1), .val (.int (1 : Int32)), .val (.ref r35), .val (.ref b38), .unset] [(.int (2 : Int32)), (.int (1 : Int32))])) (fun _ k => XS.iconst X69.here hx rfl (hb hby at_105) k) ?_
    have hc106_65 : ¬ ((1 : Int32) = (2 : Int32)) := by decide
    refine OwnFin.adv (B := T69.setTop (mkF m 113 #[.val (.int kk), .val (.int ln), .val (.int en), .val (.int cv), .val (.int wv), .val (.ref b1), .val (.int (1 : Int32)), .val (.ref r35), .val (.ref b38), .unset] [])) (fun _ k => XS.icmpYes X69.here hx rfl (pc0 := 106) (pc' := 113) rfl (hb hby at_106) rfl (feq hc106_65).2 (by decide) (by decide) k) ?_
    refine OwnFin.adv (B := T69.setTop (mkF m 114 #[.val (.int kk), .val (.int ln), .val (.int en), .val (.int cv), .val (.int wv), .val (.ref b1), .val (.int (1 : Int32)), .val (.ref r35), .val (.ref b38), .unset] [(.int (0 : Int32))])) (fun _ k => XS.iconst X69.here hx rfl (hb hby at_113) k) ?_
    refine OwnFin.adv (B := T69.setTop (mkF m 116 #[.val (.int kk), .val (.int ln), .val (.int en), .val (.int cv), .val (.int wv), .val (.ref b1), .val (.int (1 : Int32)), .val (.ref r35), .val (.ref b38), .val (.int (0 : Int32))] [])) (fun _ k => XS.istore X69.here hx rfl (hb hby at_114) rfl (l' := #[.val (.int kk), .val (.int ln), .val (.int en), .val (.int cv), .val (.int wv), .val (.ref b1), .val (.int (1 : Int32)), .val (.ref r35), .val (.ref b38), .val (.int (0 : Int32))]) rfl k) ?_
    refine OwnFin.adv (B := T69.setTop (mkF m 118 #[.val (.int kk), .val (.int ln), .val (.int en), .val (.int cv), .val (.int wv), .val (.ref b1), .val (.int (1 : Int32)), .val (.ref r35), .val (.ref b38), .val (.int (0 : Int32))] [(.ref b38)])) (fun _ k => XS.aload X69.here hx rfl (hb hby at_116) rfl rfl k) ?_
    have Old82 : Old Z n0 T69.heap := ((Old67.keep K66 all0).keep K69 (allS (by omega) all0))
    have Fv83_15 : Exa Z T69.heap b38 "com/example/notional/notional/io/JsonValue" := (Fv70_14.keep K69)
    obtain ⟨cq81, kq81, q81a, q81b, q81c⟩ := isOf hZ rfl Fv83_15
    obtain ⟨_, _, ⟨T81, L81, k81, n81⟩, -, X81, ⟨Lc81, hQ81, l81, y81, z81⟩, st81⟩ := X69.virtualBack hx (y := (⟨"com/example/notional/notional/io/JsonValue", "isString", "()Z"⟩ : MethodName)) (z := (⟨"com/example/notional/notional/io/JsonValue", "isString", "()Z"⟩ : MethodName)) hown (mvT hZ (hw _ (List.mem_of_getElem? (i := 82) rfl))) (mvT hZ (hw _ (List.mem_of_getElem? (i := 83) rfl))) (notFace_of_selects (args := #[]) (mvT hZ (hw _ (List.mem_of_getElem? (i := 85) rfl)))) (mvT hZ (hw _ (List.mem_of_getElem? (i := 85) rfl))) (mvT hZ (hw _ (List.mem_of_getElem? (i := 84) rfl))) (by decide) (backOf (W := 0) (own_isStr l Z a0 hw [] b38 q1 q2 T69.heap n0 (by omega) Fa69 (own_staK S_q2 Old82)) hZ (hw _ (List.mem_of_getElem? (i := 86) rfl)) (hw _ (List.mem_of_getElem? (i := 48) rfl)) (by decide) (by decide)) q81a q81c (g := (mkF m 118 #[.val (.int kk), .val (.int ln), .val (.int en), .val (.int cv), .val (.int wv), .val (.ref b1), .val (.int (1 : Int32)), .val (.ref r35), .val (.ref b38), .val (.int (0 : Int32))] [(.ref b38)])) rfl (by rw [hml]; rfl) (Steps.refl _) (argsL := []) (rest := []) (lenOf own_pd_x28x29Z rfl) rfl (by show 2 * 0 + _ ≤ _; exact Nat.le_of_eq rfl) (hb hby at_118) (fun _ _ => ⟨rfl, rfl, (by decide : 9 + 0 ≤ _), (by decide : 39 + 0 ≤ _)⟩)
    dsimp only [Pt.U, Pt.locs, Pt.cells, Pt.slots] at X81 l81 y81 z81 st81 hQ81
    subst l81 y81 z81
    obtain ⟨rfl, N81q, eh81⟩ := hQ81
    have N81 := Fr.app N69 N81q
    refine OwnFin.adv (B := T81.setTop (mkF m 121 #[.val (.int kk), .val (.int ln), .val (.int en), .val (.int cv), .val (.int wv), .val (.ref b1), .val (.int (1 : Int32)), .val (.ref r35), .val (.ref b38), .val (.int (0 : Int32))] [(.int (if q1 = q2 then (1 : Int32) else 0))])) (fun _ k => st81.trans k) ?_
    refine OwnFin.adv (B := T81.setTop (mkF m 123 #[.val (.int kk), .val (.int ln), .val (.int en), .val (.int cv), .val (.int wv), .val (.ref b1), .val (.int (1 : Int32)), .val (.ref r35), .val (.ref b38), .val (.int (0 : Int32))] [(.int (0 : Int32)), (.int (if q1 = q2 then (1 : Int32) else 0))])) (fun _ k => XS.iload X81.here hx rfl (hb hby at_121) rfl k) ?_
    have hc123_71 : (if q1 = q2 then (1 : Int32) else 0) = (0 : Int32) := by simp [ne_q1]
    refine OwnFin.adv (B := T81.setTop (mkF m 128 #[.val (.int kk), .val (.int ln), .val (.int en), .val (.int cv), .val (.int wv), .val (.ref b1), .val (.int (1 : Int32)), .val (.ref r35), .val (.ref b38), .val (.int (0 : Int32))] [])) (fun _ k => XS.icmpYes X81.here hx rfl (pc0 := 123) (pc' := 128) rfl (hb hby at_123) rfl (teq hc123_71).1 (by decide) (by decide) k) ?_
    refine OwnFin.adv (B := T81.setTop (mkF m 130 #[.val (.int kk), .val (.int ln), .val (.int en), .val (.int cv), .val (.int wv), .val (.ref b1), .val (.int (1 : Int32)), .val (.ref r35), .val (.ref b38), .val (.int (0 : Int32))] [(.int (0 : Int32))])) (fun _ k => XS.iload X81.here hx rfl (hb hby at_128) rfl k) ?_
    have hc130_73 : (0 : Int32) = (0 : Int32) := by decide
    refine OwnFin.adv (B := T81.setTop (mkF m 144 #[.val (.int kk), .val (.int ln), .val (.int en), .val (.int cv), .val (.int wv), .val (.ref b1), .val (.int (1 : Int32)), .val (.ref r35), .val (.ref b38), .val (.int (0 : Int32))] [])) (fun _ k => XS.ifYes X81.here hx rfl (pc0 := 130) (pc' := 144) rfl (hb hby at_130) rfl ((if0 _ _).trans (teq hc130_73).1) (by decide) (by decide) k) ?_
    refine OwnFin.adv (B := T81.setTop (mkF m 145 #[.val (.int kk), .val (.int ln), .val (.int en), .val (.int cv), .val (.int wv), .val (.ref b1), .val (.int (1 : Int32)), .val (.ref r35), .val (.ref b38), .val (.int (0 : Int32))] [(.int (1 : Int32))])) (fun _ k => XS.iconst X81.here hx rfl (hb hby at_144) k) ?_
    obtain ⟨fs, hr, hrun, hended, hE⟩ := X81.leaveW hS42 (by rw [eh81]; omega) (v := some (.int (1 : Int32))) (fun h => by rw [Bd.returns] at h; cases h)
    refine OwnFin.leaf hP' ⟨_, _, retN X81 hx (t := .boolean) Bd.returns (by simp) (hb hby at_145) hr, hrun, hended, _, _, rfl, ?_, own_monoW hE (by decide) (by decide)⟩
    exact ⟨rfl, N81⟩
  ·
    rw [show ((kk &&& (7 : Int32)) : Int32) = (2 : Int32) from hk]
    have Fv85_13 : Arv Z h42 b1 k1 (.object "com/example/notional/notional/io/JsonValue$Kind") (8 : Int32) [(.ref q0), (.ref q1), (.ref q2), (.ref q3), (.ref q4), (.ref q5), (.ref q6), (.ref q7)] .null := ((((V33.keep K35 nin0).ext E38).ext E40).ext E42)
    obtain ⟨cl84, Ar84, ck84, S84, M84, H84, G84⟩ := id Fv85_13
    have hin84 : ¬ ((2 : Int32) < 0 ∨ cl84.slots.size ≤ ((2 : Int32)).toNatClampNeg) := inb_of S84 ⟨by decide, by decide⟩
    refine OwnFin.adv (B := T42.setTop (mkF m 87 #[.val (.int kk), .val (.int ln), .val (.int en), .val (.int cv), .val (.int wv), .val (.ref b1), .val (.int (2 : Int32)), .val (.ref r35), .unset, .unset] [(.ref q2), (.ref a42), (.ref a40), (.ref b38), (.ref b38)])) (fun _ k => X42.aaload hx (j := (2 : Int32)) (v := (.ref q2)) (by rw [e42]; exact Ar84.1) (State.isArrayOf_alike hZ.alike Ar84.2.1) rfl Ar84.2.2 hin84 (Has.at H84 hin84 rfl) (g := (mkF m 86 #[.val (.int kk), .val (.int ln), .val (.int en), .val (.int cv), .val (.int wv), .val (.ref b1), .val (.int (2 : Int32)), .val (.ref r35), .unset, .unset] [(.int (2 : Int32)), (.ref b1), (.ref a42), (.ref a40), (.ref b38), (.ref b38)])) rfl rfl (hb hby at_86) _ k) ?_
    refine OwnFin.adv (B := T42.setTop (mkF m 88 #[.val (.int kk), .val (.int ln), .val (.int en), .val (.int cv), .val (.int wv), .val (.ref b1), .val (.int (2 : Int32)), .val (.ref r35), .unset, .unset] [(.int ln), (.ref q2), (.ref a42), (.ref a40), (.ref b38), (.ref b38)])) (fun _ k => XS.iloadN X42.here hx rfl (hb hby at_87) rfl k) ?_
    refine OwnFin.adv (B := T42.setTop (mkF m 89 #[.val (.int kk), .val (.int ln), .val (.int en), .val (.int cv), .val (.int wv), .val (.ref b1), .val (.int (2 : Int32)), .val (.ref r35), .unset, .unset] [(.int en), (.int ln), (.ref q2), (.ref a42), (.ref a40), (.ref b38), (.ref b38)])) (fun _ k => XS.iloadN X42.here hx rfl (hb hby at_88) rfl k) ?_
    refine OwnFin.adv (B := T42.setTop (mkF m 91 #[.val (.int kk), .val (.int ln), .val (.int en), .val (.int cv), .val (.int wv), .val (.ref b1), .val (.int (2 : Int32)), .val (.ref r35), .unset, .unset] [(.ref r35), (.int en), (.int ln), (.ref q2), (.ref a42), (.ref a40), (.ref b38), (.ref b38)])) (fun _ k => XS.aload X42.here hx rfl (hb hby at_89) rfl rfl k) ?_
    refine OwnFin.adv (B := T42.setTop (mkF m 93 #[.val (.int kk), .val (.int ln), .val (.int en), .val (.int cv), .val (.int wv), .val (.ref b1), .val (.int (2 : Int32)), .val (.ref r35), .unset, .unset] [(.int wv), (.ref r35), (.int en), (.int ln), (.ref q2), (.ref a42), (.ref a40), (.ref b38), (.ref b38)])) (fun _ k => XS.iload X42.here hx rfl (hb hby at_91) rfl k) ?_
    have Old87 : Old Z n0 h42 := ((((Old36.keep K35 all0).ext E38).ext E40).ext E42)
    obtain ⟨_, _, ⟨T86, L86, k86, n86⟩, -, X86, ⟨Lc86, hQ86, l86, y86, z86⟩, st86⟩ := Jvm.LawKit.callS X42 hx (y := (⟨"java/lang/Integer", "valueOf", "(I)Ljava/lang/Integer;"⟩ : MethodName)) hown (mvT hZ (hw _ (List.mem_of_getElem? (i := 53) rfl))) (mvT hZ (hw _ (List.mem_of_getElem? (i := 54) rfl))) (mvT hZ (hw _ (List.mem_of_getElem? (i := 55) rfl))) (mvT hZ (hw _ (List.mem_of_getElem? (i := 56) rfl))) (by decide) (backOf (W := 8) (own_valueOf l Z a0 hw [] wv ca cl h42 n0 (by omega) Old87 SH SC BX) hZ (hw _ (List.mem_of_getElem? (i := 56) rfl)) (hw _ (List.mem_of_getElem? (i := 55) rfl)) (by decide) (by decide)) (g := (mkF m 93 #[.val (.int kk), .val (.int ln), .val (.int en), .val (.int cv), .val (.int wv), .val (.ref b1), .val (.int (2 : Int32)), .val (.ref r35), .unset, .unset] [(.int wv), (.ref r35), (.int en), (.int ln), (.ref q2), (.ref a42), (.ref a40), (.ref b38), (.ref b38)])) rfl (by rw [hml]; rfl) (argsL := [(.int wv)]) (rest := [(.ref r35), (.int en), (.int ln), (.ref q2), (.ref a42), (.ref a40), (.ref b38), (.ref b38)]) (lenOf own_pd_x28Ix29Ljavax2flangx2fIntegerx3b rfl) rfl (by show 2 * 0 + _ ≤ _; exact Nat.le_of_eq rfl) (hb hby at_93) (fun _ _ => ⟨rfl, e42, (by decide : 8 + 1 ≤ _), (by decide : 38 + 1 ≤ _)⟩)
    dsimp only [Pt.U, Pt.locs, Pt.cells, Pt.slots] at X86 l86 y86 z86 st86 hQ86
    subst l86 y86 z86
    obtain ⟨bx86, rfl, N86q, K86, Ebx86⟩ := hQ86
    have N86 := Fr.app N35 N86q
    have sz88 : h42.size ≤ T86.heap.size := K86.1
    refine OwnFin.adv (B := T86.setTop (mkF m 96 #[.val (.int kk), .val (.int ln), .val (.int en), .val (.int cv), .val (.int wv), .val (.ref b1), .val (.int (2 : Int32)), .val (.ref r35), .unset, .unset] [(.ref bx86), (.ref r35), (.int en), (.int ln), (.ref q2), (.ref a42), (.ref a40), (.ref b38), (.ref b38)])) (fun _ k => st86 _ k) ?_
    refine OwnFin.adv (B := T86.setTop (mkF m 97 #[.val (.int kk), .val (.int ln), .val (.int en), .val (.int cv), .val (.int wv), .val (.ref b1), .val (.int (2 : Int32)), .val (.ref r35), .unset, .unset] [.null, (.ref bx86), (.ref r35), (.int en), (.int ln), (.ref q2), (.ref a42), (.ref a40), (.ref b38), (.ref b38)])) (fun _ k => XS.aconstNull X86.here hx rfl (hb hby at_96) k) ?_
    refine OwnFin.adv (B := T86.setTop (mkF m 98 #[.val (.int kk), .val (.int ln), .val (.int en), .val (.int cv), .val (.int wv), .val (.ref b1), .val (.int (2 : Int32)), .val (.ref r35), .unset, .unset] [.null, .null, (.ref bx86), (.ref r35), (.int en), (.int ln), (.ref q2), (.ref a42), (.ref a40), (.ref b38), (.ref b38)])) (fun _ k => XS.aconstNull X86.here hx rfl (hb hby at_97) k) ?_
    have Fv90_14 : Exa Z T86.heap b38 "com/example/notional/notional/io/JsonValue" := (((A38.ext E40).ext E42).keep K86)
    have Fv91_14 : Fld Z T86.heap b38 "com/example/notional/notional/io/JsonValue" "file" "Ljava/lang/String;" .null := (((F38_file.ext E40).ext E42).keep K86 nin0)
    have Fv92_14 : Fld Z T86.heap b38 "com/example/notional/notional/io/JsonValue" "path" "Ljava/lang/String;" .null := (((F38_path.ext E40).ext E42).keep K86 nin0)
    have Fv93_14 : Fld Z T86.heap b38 "com/example/notional/notional/io/JsonValue" "kind" "Lcom/example/notional/notional/io/JsonValue$Kind;" .null := (((F38_kind.ext E40).ext E42).keep K86 nin0)
    have Fv94_14 : Fld Z T86.heap b38 "com/example/notional/notional/io/JsonValue" "line" "I" (.int (0 : Int32)) := (((F38_line.ext E40).ext E42).keep K86 nin0)
    have Fv95_14 : Fld Z T86.heap b38 "com/example/notional/notional/io/JsonValue" "endLine" "I" (.int (0 : Int32)) := (((F38_endLine.ext E40).ext E42).keep K86 nin0)
    have Fv96_14 : Fld Z T86.heap b38 "com/example/notional/notional/io/JsonValue" "text" "Ljava/lang/String;" .null := (((F38_text.ext E40).ext E42).keep K86 nin0)
    have Fv97_14 : Fld Z T86.heap b38 "com/example/notional/notional/io/JsonValue" "wholeNumber" "Ljava/lang/Integer;" .null := (((F38_wholeNumber.ext E40).ext E42).keep K86 nin0)
    have Fv98_14 : Fld Z T86.heap b38 "com/example/notional/notional/io/JsonValue" "members" "Ljava/util/Map;" .null := (((F38_members.ext E40).ext E42).keep K86 nin0)
    have Fv99_14 : Fld Z T86.heap b38 "com/example/notional/notional/io/JsonValue" "elements" "Ljava/util/List;" .null := (((F38_elements.ext E40).ext E42).keep K86 nin0)
    obtain ⟨_, _, ⟨T89, L89, k89, n89⟩, -, X89, ⟨Lc89, hQ89, l89, y89, z89⟩, st89⟩ := X86.specialBack hx (y := (⟨"com/example/notional/notional/io/JsonValue", "<init>", "(Ljava/lang/String;Ljava/lang/String;Lcom/example/notional/notional/io/JsonValue$Kind;IILjava/lang/String;Ljava/lang/Integer;Ljava/util/Map;Ljava/util/List;)V"⟩ : MethodName)) rfl hown (mvT hZ (hw _ (List.mem_of_getElem? (i := 60) rfl))) (mvT hZ (hw _ (List.mem_of_getElem? (i := 61) rfl))) (mvT hZ (hw _ (List.mem_of_getElem? (i := 62) rfl))) (by decide) (backOf (W := 1) (own_jInit l Z a0 hw [] b38 a40 a42 q2 ln en r35 bx86 _ _ _ _ _ _ _ _ _ T86.heap n0 (by omega) Fv90_14 Fv91_14 Fv92_14 Fv93_14 Fv94_14 Fv95_14 Fv96_14 Fv97_14 Fv98_14 Fv99_14 (by omega)) hZ (hw _ (List.mem_of_getElem? (i := 62) rfl)) (hw _ (List.mem_of_getElem? (i := 48) rfl)) (by decide) (by decide)) (g := (mkF m 98 #[.val (.int kk), .val (.int ln), .val (.int en), .val (.int cv), .val (.int wv), .val (.ref b1), .val (.int (2 : Int32)), .val (.ref r35), .unset, .unset] [.null, .null, (.ref bx86), (.ref r35), (.int en), (.int ln), (.ref q2), (.ref a42), (.ref a40), (.ref b38), (.ref b38)])) rfl (by rw [hml]; rfl) (Steps.refl _) (a := b38) (argsL := [(.ref a40), (.ref a42), (.ref q2), (.int ln), (.int en), (.ref r35), (.ref bx86), .null, .null]) (rest := [(.ref b38)]) (lenOf own_pd_x28Ljavax2flangx2fStringx3bLjavax2flangx2fStringx3bLcomx2fexamplex2fnotionalx2fnotionalx2fiox2fJsonValuex24Kindx3bIILjavax2flangx2fStringx3bLjavax2flangx2fIntegerx3bLjavax2futilx2fMapx3bLjavax2futilx2fListx3bx29V rfl) rfl (by show 2 * 0 + _ ≤ _; exact Nat.le_of_eq rfl) (hb hby at_98) (fun _ _ => ⟨rfl, rfl, (by decide : 9 + 0 ≤ _), (by decide : 39 + 0 ≤ _)⟩)
    dsimp only [Pt.U, Pt.locs, Pt.cells, Pt.slots] at X89 l89 y89 z89 st89 hQ89
    subst l89 y89 z89
    obtain ⟨rfl, N89q, K89, Fa89, Fb89⟩ := hQ89
    have N89 := Fr.app N86 N89q
    have sz100 : T86.heap.size ≤ T89.heap.size := K89.1
    refine OwnFin.adv (B := T89.setTop (mkF m 101 #[.val (.int kk), .val (.int ln), .val (.int en), .val (.int cv), .val (.int wv), .val (.ref b1), .val (.int (2 : Int32)), .val (.ref r35), .unset, .unset] [(.ref b38)])) (fun _ k => st89.trans k) ?_
    refine OwnFin.adv (B := T89.setTop (mkF m 103 #[.val (.int kk), .val (.int ln), .val (.int en), .val (.int cv), .val (.int wv), .val (.ref b1), .val (.int (2 : Int32)), .val (.ref r35), .val (.ref b38), .unset] [])) (fun _ k => XS.astore X89.here hx rfl (hb hby at_101) rfl rfl (l' := #[.val (.int kk), .val (.int ln), .val (.int en), .val (.int cv), .val (.int wv), .val (.ref b1), .val (.int (2 : Int32)), .val (.ref r35), .val (.ref b38), .unset]) rfl k) ?_
    refine OwnFin.adv (B := T89.setTop (mkF m 105 #[.val (.int kk), .val (.int ln), .val (.int en), .val (.int cv), .val (.int wv), .val (.ref b1), .val (.int (2 : Int32)), .val (.ref r35), .val (.ref b38), .unset] [(.int (2 : Int32))])) (fun _ k => XS.iload X89.here hx rfl (hb hby at_103) rfl k) ?_
    refine OwnFin.adv (B := T89.setTop (mkF m 106 #[.val (.int kk), .val (.int ln), .val (.int en), .val (.int cv), .val (.int wv), .val (.ref b1), .val (.int (2 : Int32)), .val (.ref r35), .val (.ref b38), .unset] [(.int (2 : Int32)), (.int (2 : Int32))])) (fun _ k => XS.iconst X89.here hx rfl (hb hby at_105) k) ?_
    have hc106_65 : (2 : Int32) = (2 : Int32) := by decide
    refine OwnFin.adv (B := T89.setTop (mkF m 109 #[.val (.int kk), .val (.int ln), .val (.int en), .val (.int cv), .val (.int wv), .val (.ref b1), .val (.int (2 : Int32)), .val (.ref r35), .val (.ref b38), .unset] [])) (fun _ k => XS.icmpNo X89.here hx rfl (hb hby at_106) rfl (teq hc106_65).2 k) ?_
    refine OwnFin.adv (B := T89.setTop (mkF m 110 #[.val (.int kk), .val (.int ln), .val (.int en), .val (.int cv), .val (.int wv), .val (.ref b1), .val (.int (2 : Int32)), .val (.ref r35), .val (.ref b38), .unset] [(.int (1 : Int32))])) (fun _ k => XS.iconst X89.here hx rfl (hb hby at_109) k) ?_
    refine OwnFin.adv (B := T89.setTop (mkF m 114 #[.val (.int kk), .val (.int ln), .val (.int en), .val (.int cv), .val (.int wv), .val (.ref b1), .val (.int (2 : Int32)), .val (.ref r35), .val (.ref b38), .unset] [(.int (1 : Int32))])) (fun _ k => XS.goto X89.here hx rfl (pc0 := 110) (pc' := 114) rfl (hb hby at_110) (by decide) (by decide) k) ?_
    refine OwnFin.adv (B := T89.setTop (mkF m 116 #[.val (.int kk), .val (.int ln), .val (.int en), .val (.int cv), .val (.int wv), .val (.ref b1), .val (.int (2 : Int32)), .val (.ref r35), .val (.ref b38), .val (.int (1 : Int32))] [])) (fun _ k => XS.istore X89.here hx rfl (hb hby at_114) rfl (l' := #[.val (.int kk), .val (.int ln), .val (.int en), .val (.int cv), .val (.int wv), .val (.ref b1), .val (.int (2 : Int32)), .val (.ref r35), .val (.ref b38), .val (.int (1 : Int32))]) rfl k) ?_
    refine OwnFin.adv (B := T89.setTop (mkF m 118 #[.val (.int kk), .val (.int ln), .val (.int en), .val (.int cv), .val (.int wv), .val (.ref b1), .val (.int (2 : Int32)), .val (.ref r35), .val (.ref b38), .val (.int (1 : Int32))] [(.ref b38)])) (fun _ k => XS.aload X89.here hx rfl (hb hby at_116) rfl rfl k) ?_
    have Old102 : Old Z n0 T89.heap := ((Old87.keep K86 all0).keep K89 (allS (by omega) all0))
    have Fv103_15 : Exa Z T89.heap b38 "com/example/notional/notional/io/JsonValue" := (Fv90_14.keep K89)
    obtain ⟨cq101, kq101, q101a, q101b, q101c⟩ := isOf hZ rfl Fv103_15
    obtain ⟨_, _, ⟨T101, L101, k101, n101⟩, -, X101, ⟨Lc101, hQ101, l101, y101, z101⟩, st101⟩ := X89.virtualBack hx (y := (⟨"com/example/notional/notional/io/JsonValue", "isString", "()Z"⟩ : MethodName)) (z := (⟨"com/example/notional/notional/io/JsonValue", "isString", "()Z"⟩ : MethodName)) hown (mvT hZ (hw _ (List.mem_of_getElem? (i := 82) rfl))) (mvT hZ (hw _ (List.mem_of_getElem? (i := 83) rfl))) (notFace_of_selects (args := #[]) (mvT hZ (hw _ (List.mem_of_getElem? (i := 85) rfl)))) (mvT hZ (hw _ (List.mem_of_getElem? (i := 85) rfl))) (mvT hZ (hw _ (List.mem_of_getElem? (i := 84) rfl))) (by decide) (backOf (W := 0) (own_isStr l Z a0 hw [] b38 q2 q2 T89.heap n0 (by omega) Fa89 (own_staK S_q2 Old102)) hZ (hw _ (List.mem_of_getElem? (i := 86) rfl)) (hw _ (List.mem_of_getElem? (i := 48) rfl)) (by decide) (by decide)) q101a q101c (g := (mkF m 118 #[.val (.int kk), .val (.int ln), .val (.int en), .val (.int cv), .val (.int wv), .val (.ref b1), .val (.int (2 : Int32)), .val (.ref r35), .val (.ref b38), .val (.int (1 : Int32))] [(.ref b38)])) rfl (by rw [hml]; rfl) (Steps.refl _) (argsL := []) (rest := []) (lenOf own_pd_x28x29Z rfl) rfl (by show 2 * 0 + _ ≤ _; exact Nat.le_of_eq rfl) (hb hby at_118) (fun _ _ => ⟨rfl, rfl, (by decide : 9 + 0 ≤ _), (by decide : 39 + 0 ≤ _)⟩)
    dsimp only [Pt.U, Pt.locs, Pt.cells, Pt.slots] at X101 l101 y101 z101 st101 hQ101
    subst l101 y101 z101
    obtain ⟨rfl, N101q, eh101⟩ := hQ101
    have N101 := Fr.app N89 N101q
    refine OwnFin.adv (B := T101.setTop (mkF m 121 #[.val (.int kk), .val (.int ln), .val (.int en), .val (.int cv), .val (.int wv), .val (.ref b1), .val (.int (2 : Int32)), .val (.ref r35), .val (.ref b38), .val (.int (1 : Int32))] [(.int (if q2 = q2 then (1 : Int32) else 0))])) (fun _ k => st101.trans k) ?_
    refine OwnFin.adv (B := T101.setTop (mkF m 123 #[.val (.int kk), .val (.int ln), .val (.int en), .val (.int cv), .val (.int wv), .val (.ref b1), .val (.int (2 : Int32)), .val (.ref r35), .val (.ref b38), .val (.int (1 : Int32))] [(.int (1 : Int32)), (.int (if q2 = q2 then (1 : Int32) else 0))])) (fun _ k => XS.iload X101.here hx rfl (hb hby at_121) rfl k) ?_
    have hc123_72 : (if q2 = q2 then (1 : Int32) else 0) = (1 : Int32) := by simp
    refine OwnFin.adv (B := T101.setTop (mkF m 128 #[.val (.int kk), .val (.int ln), .val (.int en), .val (.int cv), .val (.int wv), .val (.ref b1), .val (.int (2 : Int32)), .val (.ref r35), .val (.ref b38), .val (.int (1 : Int32))] [])) (fun _ k => XS.icmpYes X101.here hx rfl (pc0 := 123) (pc' := 128) rfl (hb hby at_123) rfl (teq hc123_72).1 (by decide) (by decide) k) ?_
    refine OwnFin.adv (B := T101.setTop (mkF m 130 #[.val (.int kk), .val (.int ln), .val (.int en), .val (.int cv), .val (.int wv), .val (.ref b1), .val (.int (2 : Int32)), .val (.ref r35), .val (.ref b38), .val (.int (1 : Int32))] [(.int (1 : Int32))])) (fun _ k => XS.iload X101.here hx rfl (hb hby at_128) rfl k) ?_
    have hc130_74 : ¬ ((1 : Int32) = (0 : Int32)) := by decide
    refine OwnFin.adv (B := T101.setTop (mkF m 133 #[.val (.int kk), .val (.int ln), .val (.int en), .val (.int cv), .val (.int wv), .val (.ref b1), .val (.int (2 : Int32)), .val (.ref r35), .val (.ref b38), .val (.int (1 : Int32))] [])) (fun _ k => XS.ifNo X101.here hx rfl (hb hby at_130) rfl ((if0 _ _).trans (feq hc130_74).1) k) ?_
    refine OwnFin.adv (B := T101.setTop (mkF m 135 #[.val (.int kk), .val (.int ln), .val (.int en), .val (.int cv), .val (.int wv), .val (.ref b1), .val (.int (2 : Int32)), .val (.ref r35), .val (.ref b38), .val (.int (1 : Int32))] [(.ref r35)])) (fun _ k => XS.aload X101.here hx rfl (hb hby at_133) rfl rfl k) ?_
    refine OwnFin.adv (B := T101.setTop (mkF m 137 #[.val (.int kk), .val (.int ln), .val (.int en), .val (.int cv), .val (.int wv), .val (.ref b1), .val (.int (2 : Int32)), .val (.ref r35), .val (.ref b38), .val (.int (1 : Int32))] [(.ref b38), (.ref r35)])) (fun _ k => XS.aload X101.here hx rfl (hb hby at_135) rfl rfl k) ?_
    obtain ⟨cq104, kq104, q104a, q104b, q104c⟩ := isOf hZ eh101 Fv103_15
    obtain ⟨_, _, ⟨T104, L104, k104, n104⟩, -, X104, ⟨Lc104, hQ104, l104, y104, z104⟩, st104⟩ := X101.virtualBack hx (y := (⟨"com/example/notional/notional/io/JsonValue", "string", "()Ljava/lang/String;"⟩ : MethodName)) (z := (⟨"com/example/notional/notional/io/JsonValue", "string", "()Ljava/lang/String;"⟩ : MethodName)) hown (mvT hZ (hw _ (List.mem_of_getElem? (i := 103) rfl))) (mvT hZ (hw _ (List.mem_of_getElem? (i := 104) rfl))) (notFace_of_selects (args := #[]) (mvT hZ (hw _ (List.mem_of_getElem? (i := 106) rfl)))) (mvT hZ (hw _ (List.mem_of_getElem? (i := 106) rfl))) (mvT hZ (hw _ (List.mem_of_getElem? (i := 105) rfl))) (by decide) (backOf (W := 1) (own_jStr l Z a0 hw [] b38 q2 r35 T89.heap n0 (by omega) Fv103_15 Fa89 Fb89 (own_staK S_q2 Old102)) hZ (hw _ (List.mem_of_getElem? (i := 107) rfl)) (hw _ (List.mem_of_getElem? (i := 48) rfl)) (by decide) (by decide)) q104a q104c (g := (mkF m 137 #[.val (.int kk), .val (.int ln), .val (.int en), .val (.int cv), .val (.int wv), .val (.ref b1), .val (.int (2 : Int32)), .val (.ref r35), .val (.ref b38), .val (.int (1 : Int32))] [(.ref b38), (.ref r35)])) rfl (by rw [hml]; rfl) (Steps.refl _) (argsL := []) (rest := [(.ref r35)]) (lenOf own_pd_x28x29Ljavax2flangx2fStringx3b rfl) rfl (by show 2 * 0 + _ ≤ _; exact Nat.le_of_eq rfl) (hb hby at_137) (fun _ _ => ⟨rfl, eh101, (by decide : 9 + 0 ≤ _), (by decide : 39 + 0 ≤ _)⟩)
    dsimp only [Pt.U, Pt.locs, Pt.cells, Pt.slots] at X104 l104 y104 z104 st104 hQ104
    subst l104 y104 z104
    obtain ⟨rfl, N104q, eh104⟩ := hQ104
    have N104 := Fr.app N101 N104q
    refine OwnFin.adv (B := T104.setTop (mkF m 140 #[.val (.int kk), .val (.int ln), .val (.int en), .val (.int cv), .val (.int wv), .val (.ref b1), .val (.int (2 : Int32)), .val (.ref r35), .val (.ref b38), .val (.int (1 : Int32))] [(.ref r35), (.ref r35)])) (fun _ k => st104.trans k) ?_
    have Fv106_15 : Exa Z T89.heap r35 "java/lang/String" := (((((Er35.ext E38).ext E40).ext E42).keep K86).keep K89)
    obtain ⟨cq105, kq105, q105a, q105b, q105c⟩ := isOf hZ eh104 Fv106_15
    obtain ⟨_, _, ⟨T105, L105, k105, n105⟩, -, X105, ⟨Lc105, hQ105, l105, y105, z105⟩, st105⟩ := X104.virtualBack hx (y := (⟨"java/lang/String", "equals", "(Ljava/lang/Object;)Z"⟩ : MethodName)) (z := (⟨"java/lang/String", "equals", "(Ljava/lang/Object;)Z"⟩ : MethodName)) hown (mvT hZ (hw _ (List.mem_of_getElem? (i := 109) rfl))) (mvT hZ (hw _ (List.mem_of_getElem? (i := 110) rfl))) (notFace_of_selects (args := #[]) (mvT hZ (hw _ (List.mem_of_getElem? (i := 112) rfl)))) (mvT hZ (hw _ (List.mem_of_getElem? (i := 112) rfl))) (mvT hZ (hw _ (List.mem_of_getElem? (i := 111) rfl))) (by decide) (backOf (W := 0) (own_strSame l Z a0 hw [] r35 T89.heap n0 (by omega)) hZ (hw _ (List.mem_of_getElem? (i := 113) rfl)) (hw _ (List.mem_of_getElem? (i := 22) rfl)) (by decide) (by decide)) q105a q105c (g := (mkF m 140 #[.val (.int kk), .val (.int ln), .val (.int en), .val (.int cv), .val (.int wv), .val (.ref b1), .val (.int (2 : Int32)), .val (.ref r35), .val (.ref b38), .val (.int (1 : Int32))] [(.ref r35), (.ref r35)])) rfl (by rw [hml]; rfl) (Steps.refl _) (argsL := [(.ref r35)]) (rest := []) (lenOf own_pd_x28Ljavax2flangx2fObjectx3bx29Z rfl) rfl (by show 2 * 0 + _ ≤ _; exact Nat.le_of_eq rfl) (hb hby at_140) (fun _ _ => ⟨rfl, eh104, (by decide : 9 + 0 ≤ _), (by decide : 39 + 0 ≤ _)⟩)
    dsimp only [Pt.U, Pt.locs, Pt.cells, Pt.slots] at X105 l105 y105 z105 st105 hQ105
    subst l105 y105 z105
    obtain ⟨rfl, N105q, eh105⟩ := hQ105
    have N105 := Fr.app N104 N105q
    refine OwnFin.adv (B := T105.setTop (mkF m 143 #[.val (.int kk), .val (.int ln), .val (.int en), .val (.int cv), .val (.int wv), .val (.ref b1), .val (.int (2 : Int32)), .val (.ref r35), .val (.ref b38), .val (.int (1 : Int32))] [(.int (1 : Int32))])) (fun _ k => st105.trans k) ?_
    obtain ⟨fs, hr, hrun, hended, hE⟩ := X105.leaveW hS42 (by rw [eh105]; omega) (v := some (.int (1 : Int32))) (fun h => by rw [Bd.returns] at h; cases h)
    refine OwnFin.leaf hP' ⟨_, _, retN X105 hx (t := .boolean) Bd.returns (by simp) (hb hby at_143) hr, hrun, hended, _, _, rfl, ?_, own_monoW hE (by decide) (by decide)⟩
    exact ⟨rfl, N105⟩
  ·
    rw [show ((kk &&& (7 : Int32)) : Int32) = (3 : Int32) from hk]
    have Fv108_13 : Arv Z h42 b1 k1 (.object "com/example/notional/notional/io/JsonValue$Kind") (8 : Int32) [(.ref q0), (.ref q1), (.ref q2), (.ref q3), (.ref q4), (.ref q5), (.ref q6), (.ref q7)] .null := ((((V33.keep K35 nin0).ext E38).ext E40).ext E42)
    obtain ⟨cl107, Ar107, ck107, S107, M107, H107, G107⟩ := id Fv108_13
    have hin107 : ¬ ((3 : Int32) < 0 ∨ cl107.slots.size ≤ ((3 : Int32)).toNatClampNeg) := inb_of S107 ⟨by decide, by decide⟩
    refine OwnFin.adv (B := T42.setTop (mkF m 87 #[.val (.int kk), .val (.int ln), .val (.int en), .val (.int cv), .val (.int wv), .val (.ref b1), .val (.int (3 : Int32)), .val (.ref r35), .unset, .unset] [(.ref q3), (.ref a42), (.ref a40), (.ref b38), (.ref b38)])) (fun _ k => X42.aaload hx (j := (3 : Int32)) (v := (.ref q3)) (by rw [e42]; exact Ar107.1) (State.isArrayOf_alike hZ.alike Ar107.2.1) rfl Ar107.2.2 hin107 (Has.at H107 hin107 rfl) (g := (mkF m 86 #[.val (.int kk), .val (.int ln), .val (.int en), .val (.int cv), .val (.int wv), .val (.ref b1), .val (.int (3 : Int32)), .val (.ref r35), .unset, .unset] [(.int (3 : Int32)), (.ref b1), (.ref a42), (.ref a40), (.ref b38), (.ref b38)])) rfl rfl (hb hby at_86) _ k) ?_
    refine OwnFin.adv (B := T42.setTop (mkF m 88 #[.val (.int kk), .val (.int ln), .val (.int en), .val (.int cv), .val (.int wv), .val (.ref b1), .val (.int (3 : Int32)), .val (.ref r35), .unset, .unset] [(.int ln), (.ref q3), (.ref a42), (.ref a40), (.ref b38), (.ref b38)])) (fun _ k => XS.iloadN X42.here hx rfl (hb hby at_87) rfl k) ?_
    refine OwnFin.adv (B := T42.setTop (mkF m 89 #[.val (.int kk), .val (.int ln), .val (.int en), .val (.int cv), .val (.int wv), .val (.ref b1), .val (.int (3 : Int32)), .val (.ref r35), .unset, .unset] [(.int en), (.int ln), (.ref q3), (.ref a42), (.ref a40), (.ref b38), (.ref b38)])) (fun _ k => XS.iloadN X42.here hx rfl (hb hby at_88) rfl k) ?_
    refine OwnFin.adv (B := T42.setTop (mkF m 91 #[.val (.int kk), .val (.int ln), .val (.int en), .val (.int cv), .val (.int wv), .val (.ref b1), .val (.int (3 : Int32)), .val (.ref r35), .unset, .unset] [(.ref r35), (.int en), (.int ln), (.ref q3), (.ref a42), (.ref a40), (.ref b38), (.ref b38)])) (fun _ k => XS.aload X42.here hx rfl (hb hby at_89) rfl rfl k) ?_
    refine OwnFin.adv (B := T42.setTop (mkF m 93 #[.val (.int kk), .val (.int ln), .val (.int en), .val (.int cv), .val (.int wv), .val (.ref b1), .val (.int (3 : Int32)), .val (.ref r35), .unset, .unset] [(.int wv), (.ref r35), (.int en), (.int ln), (.ref q3), (.ref a42), (.ref a40), (.ref b38), (.ref b38)])) (fun _ k => XS.iload X42.here hx rfl (hb hby at_91) rfl k) ?_
    have Old110 : Old Z n0 h42 := ((((Old36.keep K35 all0).ext E38).ext E40).ext E42)
    obtain ⟨_, _, ⟨T109, L109, k109, n109⟩, -, X109, ⟨Lc109, hQ109, l109, y109, z109⟩, st109⟩ := Jvm.LawKit.callS X42 hx (y := (⟨"java/lang/Integer", "valueOf", "(I)Ljava/lang/Integer;"⟩ : MethodName)) hown (mvT hZ (hw _ (List.mem_of_getElem? (i := 53) rfl))) (mvT hZ (hw _ (List.mem_of_getElem? (i := 54) rfl))) (mvT hZ (hw _ (List.mem_of_getElem? (i := 55) rfl))) (mvT hZ (hw _ (List.mem_of_getElem? (i := 56) rfl))) (by decide) (backOf (W := 8) (own_valueOf l Z a0 hw [] wv ca cl h42 n0 (by omega) Old110 SH SC BX) hZ (hw _ (List.mem_of_getElem? (i := 56) rfl)) (hw _ (List.mem_of_getElem? (i := 55) rfl)) (by decide) (by decide)) (g := (mkF m 93 #[.val (.int kk), .val (.int ln), .val (.int en), .val (.int cv), .val (.int wv), .val (.ref b1), .val (.int (3 : Int32)), .val (.ref r35), .unset, .unset] [(.int wv), (.ref r35), (.int en), (.int ln), (.ref q3), (.ref a42), (.ref a40), (.ref b38), (.ref b38)])) rfl (by rw [hml]; rfl) (argsL := [(.int wv)]) (rest := [(.ref r35), (.int en), (.int ln), (.ref q3), (.ref a42), (.ref a40), (.ref b38), (.ref b38)]) (lenOf own_pd_x28Ix29Ljavax2flangx2fIntegerx3b rfl) rfl (by show 2 * 0 + _ ≤ _; exact Nat.le_of_eq rfl) (hb hby at_93) (fun _ _ => ⟨rfl, e42, (by decide : 8 + 1 ≤ _), (by decide : 38 + 1 ≤ _)⟩)
    dsimp only [Pt.U, Pt.locs, Pt.cells, Pt.slots] at X109 l109 y109 z109 st109 hQ109
    subst l109 y109 z109
    obtain ⟨bx109, rfl, N109q, K109, Ebx109⟩ := hQ109
    have N109 := Fr.app N35 N109q
    have sz111 : h42.size ≤ T109.heap.size := K109.1
    refine OwnFin.adv (B := T109.setTop (mkF m 96 #[.val (.int kk), .val (.int ln), .val (.int en), .val (.int cv), .val (.int wv), .val (.ref b1), .val (.int (3 : Int32)), .val (.ref r35), .unset, .unset] [(.ref bx109), (.ref r35), (.int en), (.int ln), (.ref q3), (.ref a42), (.ref a40), (.ref b38), (.ref b38)])) (fun _ k => st109 _ k) ?_
    refine OwnFin.adv (B := T109.setTop (mkF m 97 #[.val (.int kk), .val (.int ln), .val (.int en), .val (.int cv), .val (.int wv), .val (.ref b1), .val (.int (3 : Int32)), .val (.ref r35), .unset, .unset] [.null, (.ref bx109), (.ref r35), (.int en), (.int ln), (.ref q3), (.ref a42), (.ref a40), (.ref b38), (.ref b38)])) (fun _ k => XS.aconstNull X109.here hx rfl (hb hby at_96) k) ?_
    refine OwnFin.adv (B := T109.setTop (mkF m 98 #[.val (.int kk), .val (.int ln), .val (.int en), .val (.int cv), .val (.int wv), .val (.ref b1), .val (.int (3 : Int32)), .val (.ref r35), .unset, .unset] [.null, .null, (.ref bx109), (.ref r35), (.int en), (.int ln), (.ref q3), (.ref a42), (.ref a40), (.ref b38), (.ref b38)])) (fun _ k => XS.aconstNull X109.here hx rfl (hb hby at_97) k) ?_
    have Fv113_14 : Exa Z T109.heap b38 "com/example/notional/notional/io/JsonValue" := (((A38.ext E40).ext E42).keep K109)
    have Fv114_14 : Fld Z T109.heap b38 "com/example/notional/notional/io/JsonValue" "file" "Ljava/lang/String;" .null := (((F38_file.ext E40).ext E42).keep K109 nin0)
    have Fv115_14 : Fld Z T109.heap b38 "com/example/notional/notional/io/JsonValue" "path" "Ljava/lang/String;" .null := (((F38_path.ext E40).ext E42).keep K109 nin0)
    have Fv116_14 : Fld Z T109.heap b38 "com/example/notional/notional/io/JsonValue" "kind" "Lcom/example/notional/notional/io/JsonValue$Kind;" .null := (((F38_kind.ext E40).ext E42).keep K109 nin0)
    have Fv117_14 : Fld Z T109.heap b38 "com/example/notional/notional/io/JsonValue" "line" "I" (.int (0 : Int32)) := (((F38_line.ext E40).ext E42).keep K109 nin0)
    have Fv118_14 : Fld Z T109.heap b38 "com/example/notional/notional/io/JsonValue" "endLine" "I" (.int (0 : Int32)) := (((F38_endLine.ext E40).ext E42).keep K109 nin0)
    have Fv119_14 : Fld Z T109.heap b38 "com/example/notional/notional/io/JsonValue" "text" "Ljava/lang/String;" .null := (((F38_text.ext E40).ext E42).keep K109 nin0)
    have Fv120_14 : Fld Z T109.heap b38 "com/example/notional/notional/io/JsonValue" "wholeNumber" "Ljava/lang/Integer;" .null := (((F38_wholeNumber.ext E40).ext E42).keep K109 nin0)
    have Fv121_14 : Fld Z T109.heap b38 "com/example/notional/notional/io/JsonValue" "members" "Ljava/util/Map;" .null := (((F38_members.ext E40).ext E42).keep K109 nin0)
    have Fv122_14 : Fld Z T109.heap b38 "com/example/notional/notional/io/JsonValue" "elements" "Ljava/util/List;" .null := (((F38_elements.ext E40).ext E42).keep K109 nin0)
    obtain ⟨_, _, ⟨T112, L112, k112, n112⟩, -, X112, ⟨Lc112, hQ112, l112, y112, z112⟩, st112⟩ := X109.specialBack hx (y := (⟨"com/example/notional/notional/io/JsonValue", "<init>", "(Ljava/lang/String;Ljava/lang/String;Lcom/example/notional/notional/io/JsonValue$Kind;IILjava/lang/String;Ljava/lang/Integer;Ljava/util/Map;Ljava/util/List;)V"⟩ : MethodName)) rfl hown (mvT hZ (hw _ (List.mem_of_getElem? (i := 60) rfl))) (mvT hZ (hw _ (List.mem_of_getElem? (i := 61) rfl))) (mvT hZ (hw _ (List.mem_of_getElem? (i := 62) rfl))) (by decide) (backOf (W := 1) (own_jInit l Z a0 hw [] b38 a40 a42 q3 ln en r35 bx109 _ _ _ _ _ _ _ _ _ T109.heap n0 (by omega) Fv113_14 Fv114_14 Fv115_14 Fv116_14 Fv117_14 Fv118_14 Fv119_14 Fv120_14 Fv121_14 Fv122_14 (by omega)) hZ (hw _ (List.mem_of_getElem? (i := 62) rfl)) (hw _ (List.mem_of_getElem? (i := 48) rfl)) (by decide) (by decide)) (g := (mkF m 98 #[.val (.int kk), .val (.int ln), .val (.int en), .val (.int cv), .val (.int wv), .val (.ref b1), .val (.int (3 : Int32)), .val (.ref r35), .unset, .unset] [.null, .null, (.ref bx109), (.ref r35), (.int en), (.int ln), (.ref q3), (.ref a42), (.ref a40), (.ref b38), (.ref b38)])) rfl (by rw [hml]; rfl) (Steps.refl _) (a := b38) (argsL := [(.ref a40), (.ref a42), (.ref q3), (.int ln), (.int en), (.ref r35), (.ref bx109), .null, .null]) (rest := [(.ref b38)]) (lenOf own_pd_x28Ljavax2flangx2fStringx3bLjavax2flangx2fStringx3bLcomx2fexamplex2fnotionalx2fnotionalx2fiox2fJsonValuex24Kindx3bIILjavax2flangx2fStringx3bLjavax2flangx2fIntegerx3bLjavax2futilx2fMapx3bLjavax2futilx2fListx3bx29V rfl) rfl (by show 2 * 0 + _ ≤ _; exact Nat.le_of_eq rfl) (hb hby at_98) (fun _ _ => ⟨rfl, rfl, (by decide : 9 + 0 ≤ _), (by decide : 39 + 0 ≤ _)⟩)
    dsimp only [Pt.U, Pt.locs, Pt.cells, Pt.slots] at X112 l112 y112 z112 st112 hQ112
    subst l112 y112 z112
    obtain ⟨rfl, N112q, K112, Fa112, Fb112⟩ := hQ112
    have N112 := Fr.app N109 N112q
    have sz123 : T109.heap.size ≤ T112.heap.size := K112.1
    refine OwnFin.adv (B := T112.setTop (mkF m 101 #[.val (.int kk), .val (.int ln), .val (.int en), .val (.int cv), .val (.int wv), .val (.ref b1), .val (.int (3 : Int32)), .val (.ref r35), .unset, .unset] [(.ref b38)])) (fun _ k => st112.trans k) ?_
    refine OwnFin.adv (B := T112.setTop (mkF m 103 #[.val (.int kk), .val (.int ln), .val (.int en), .val (.int cv), .val (.int wv), .val (.ref b1), .val (.int (3 : Int32)), .val (.ref r35), .val (.ref b38), .unset] [])) (fun _ k => XS.astore X112.here hx rfl (hb hby at_101) rfl rfl (l' := #[.val (.int kk), .val (.int ln), .val (.int en), .val (.int cv), .val (.int wv), .val (.ref b1), .val (.int (3 : Int32)), .val (.ref r35), .val (.ref b38), .unset]) rfl k) ?_
    refine OwnFin.adv (B := T112.setTop (mkF m 105 #[.val (.int kk), .val (.int ln), .val (.int en), .val (.int cv), .val (.int wv), .val (.ref b1), .val (.int (3 : Int32)), .val (.ref r35), .val (.ref b38), .unset] [(.int (3 : Int32))])) (fun _ k => XS.iload X112.here hx rfl (hb hby at_103) rfl k) ?_
    refine OwnFin.adv (B := T112.setTop (mkF m 106 #[.val (.int kk), .val (.int ln), .val (.int en), .val (.int cv), .val (.int wv), .val (.ref b1), .val (.int (3 : Int32)), .val (.ref r35), .val (.ref b38), .unset] [(.int (2 : Int32)), (.int (3 : Int32))])) (fun _ k => XS.iconst X112.here hx rfl (hb hby at_105) k) ?_
    have hc106_65 : ¬ ((3 : Int32) = (2 : Int32)) := by decide
    refine OwnFin.adv (B := T112.setTop (mkF m 113 #[.val (.int kk), .val (.int ln), .val (.int en), .val (.int cv), .val (.int wv), .val (.ref b1), .val (.int (3 : Int32)), .val (.ref r35), .val (.ref b38), .unset] [])) (fun _ k => XS.icmpYes X112.here hx rfl (pc0 := 106) (pc' := 113) rfl (hb hby at_106) rfl (feq hc106_65).2 (by decide) (by decide) k) ?_
    refine OwnFin.adv (B := T112.setTop (mkF m 114 #[.val (.int kk), .val (.int ln), .val (.int en), .val (.int cv), .val (.int wv), .val (.ref b1), .val (.int (3 : Int32)), .val (.ref r35), .val (.ref b38), .unset] [(.int (0 : Int32))])) (fun _ k => XS.iconst X112.here hx rfl (hb hby at_113) k) ?_
    refine OwnFin.adv (B := T112.setTop (mkF m 116 #[.val (.int kk), .val (.int ln), .val (.int en), .val (.int cv), .val (.int wv), .val (.ref b1), .val (.int (3 : Int32)), .val (.ref r35), .val (.ref b38), .val (.int (0 : Int32))] [])) (fun _ k => XS.istore X112.here hx rfl (hb hby at_114) rfl (l' := #[.val (.int kk), .val (.int ln), .val (.int en), .val (.int cv), .val (.int wv), .val (.ref b1), .val (.int (3 : Int32)), .val (.ref r35), .val (.ref b38), .val (.int (0 : Int32))]) rfl k) ?_
    refine OwnFin.adv (B := T112.setTop (mkF m 118 #[.val (.int kk), .val (.int ln), .val (.int en), .val (.int cv), .val (.int wv), .val (.ref b1), .val (.int (3 : Int32)), .val (.ref r35), .val (.ref b38), .val (.int (0 : Int32))] [(.ref b38)])) (fun _ k => XS.aload X112.here hx rfl (hb hby at_116) rfl rfl k) ?_
    have Old125 : Old Z n0 T112.heap := ((Old110.keep K109 all0).keep K112 (allS (by omega) all0))
    have Fv126_15 : Exa Z T112.heap b38 "com/example/notional/notional/io/JsonValue" := (Fv113_14.keep K112)
    obtain ⟨cq124, kq124, q124a, q124b, q124c⟩ := isOf hZ rfl Fv126_15
    obtain ⟨_, _, ⟨T124, L124, k124, n124⟩, -, X124, ⟨Lc124, hQ124, l124, y124, z124⟩, st124⟩ := X112.virtualBack hx (y := (⟨"com/example/notional/notional/io/JsonValue", "isString", "()Z"⟩ : MethodName)) (z := (⟨"com/example/notional/notional/io/JsonValue", "isString", "()Z"⟩ : MethodName)) hown (mvT hZ (hw _ (List.mem_of_getElem? (i := 82) rfl))) (mvT hZ (hw _ (List.mem_of_getElem? (i := 83) rfl))) (notFace_of_selects (args := #[]) (mvT hZ (hw _ (List.mem_of_getElem? (i := 85) rfl)))) (mvT hZ (hw _ (List.mem_of_getElem? (i := 85) rfl))) (mvT hZ (hw _ (List.mem_of_getElem? (i := 84) rfl))) (by decide) (backOf (W := 0) (own_isStr l Z a0 hw [] b38 q3 q2 T112.heap n0 (by omega) Fa112 (own_staK S_q2 Old125)) hZ (hw _ (List.mem_of_getElem? (i := 86) rfl)) (hw _ (List.mem_of_getElem? (i := 48) rfl)) (by decide) (by decide)) q124a q124c (g := (mkF m 118 #[.val (.int kk), .val (.int ln), .val (.int en), .val (.int cv), .val (.int wv), .val (.ref b1), .val (.int (3 : Int32)), .val (.ref r35), .val (.ref b38), .val (.int (0 : Int32))] [(.ref b38)])) rfl (by rw [hml]; rfl) (Steps.refl _) (argsL := []) (rest := []) (lenOf own_pd_x28x29Z rfl) rfl (by show 2 * 0 + _ ≤ _; exact Nat.le_of_eq rfl) (hb hby at_118) (fun _ _ => ⟨rfl, rfl, (by decide : 9 + 0 ≤ _), (by decide : 39 + 0 ≤ _)⟩)
    dsimp only [Pt.U, Pt.locs, Pt.cells, Pt.slots] at X124 l124 y124 z124 st124 hQ124
    subst l124 y124 z124
    obtain ⟨rfl, N124q, eh124⟩ := hQ124
    have N124 := Fr.app N112 N124q
    refine OwnFin.adv (B := T124.setTop (mkF m 121 #[.val (.int kk), .val (.int ln), .val (.int en), .val (.int cv), .val (.int wv), .val (.ref b1), .val (.int (3 : Int32)), .val (.ref r35), .val (.ref b38), .val (.int (0 : Int32))] [(.int (if q3 = q2 then (1 : Int32) else 0))])) (fun _ k => st124.trans k) ?_
    refine OwnFin.adv (B := T124.setTop (mkF m 123 #[.val (.int kk), .val (.int ln), .val (.int en), .val (.int cv), .val (.int wv), .val (.ref b1), .val (.int (3 : Int32)), .val (.ref r35), .val (.ref b38), .val (.int (0 : Int32))] [(.int (0 : Int32)), (.int (if q3 = q2 then (1 : Int32) else 0))])) (fun _ k => XS.iload X124.here hx rfl (hb hby at_121) rfl k) ?_
    have hc123_71 : (if q3 = q2 then (1 : Int32) else 0) = (0 : Int32) := by simp [ne_q3]
    refine OwnFin.adv (B := T124.setTop (mkF m 128 #[.val (.int kk), .val (.int ln), .val (.int en), .val (.int cv), .val (.int wv), .val (.ref b1), .val (.int (3 : Int32)), .val (.ref r35), .val (.ref b38), .val (.int (0 : Int32))] [])) (fun _ k => XS.icmpYes X124.here hx rfl (pc0 := 123) (pc' := 128) rfl (hb hby at_123) rfl (teq hc123_71).1 (by decide) (by decide) k) ?_
    refine OwnFin.adv (B := T124.setTop (mkF m 130 #[.val (.int kk), .val (.int ln), .val (.int en), .val (.int cv), .val (.int wv), .val (.ref b1), .val (.int (3 : Int32)), .val (.ref r35), .val (.ref b38), .val (.int (0 : Int32))] [(.int (0 : Int32))])) (fun _ k => XS.iload X124.here hx rfl (hb hby at_128) rfl k) ?_
    have hc130_73 : (0 : Int32) = (0 : Int32) := by decide
    refine OwnFin.adv (B := T124.setTop (mkF m 144 #[.val (.int kk), .val (.int ln), .val (.int en), .val (.int cv), .val (.int wv), .val (.ref b1), .val (.int (3 : Int32)), .val (.ref r35), .val (.ref b38), .val (.int (0 : Int32))] [])) (fun _ k => XS.ifYes X124.here hx rfl (pc0 := 130) (pc' := 144) rfl (hb hby at_130) rfl ((if0 _ _).trans (teq hc130_73).1) (by decide) (by decide) k) ?_
    refine OwnFin.adv (B := T124.setTop (mkF m 145 #[.val (.int kk), .val (.int ln), .val (.int en), .val (.int cv), .val (.int wv), .val (.ref b1), .val (.int (3 : Int32)), .val (.ref r35), .val (.ref b38), .val (.int (0 : Int32))] [(.int (1 : Int32))])) (fun _ k => XS.iconst X124.here hx rfl (hb hby at_144) k) ?_
    obtain ⟨fs, hr, hrun, hended, hE⟩ := X124.leaveW hS42 (by rw [eh124]; omega) (v := some (.int (1 : Int32))) (fun h => by rw [Bd.returns] at h; cases h)
    refine OwnFin.leaf hP' ⟨_, _, retN X124 hx (t := .boolean) Bd.returns (by simp) (hb hby at_145) hr, hrun, hended, _, _, rfl, ?_, own_monoW hE (by decide) (by decide)⟩
    exact ⟨rfl, N124⟩
  ·
    rw [show ((kk &&& (7 : Int32)) : Int32) = (4 : Int32) from hk]
    have Fv128_13 : Arv Z h42 b1 k1 (.object "com/example/notional/notional/io/JsonValue$Kind") (8 : Int32) [(.ref q0), (.ref q1), (.ref q2), (.ref q3), (.ref q4), (.ref q5), (.ref q6), (.ref q7)] .null := ((((V33.keep K35 nin0).ext E38).ext E40).ext E42)
    obtain ⟨cl127, Ar127, ck127, S127, M127, H127, G127⟩ := id Fv128_13
    have hin127 : ¬ ((4 : Int32) < 0 ∨ cl127.slots.size ≤ ((4 : Int32)).toNatClampNeg) := inb_of S127 ⟨by decide, by decide⟩
    refine OwnFin.adv (B := T42.setTop (mkF m 87 #[.val (.int kk), .val (.int ln), .val (.int en), .val (.int cv), .val (.int wv), .val (.ref b1), .val (.int (4 : Int32)), .val (.ref r35), .unset, .unset] [(.ref q4), (.ref a42), (.ref a40), (.ref b38), (.ref b38)])) (fun _ k => X42.aaload hx (j := (4 : Int32)) (v := (.ref q4)) (by rw [e42]; exact Ar127.1) (State.isArrayOf_alike hZ.alike Ar127.2.1) rfl Ar127.2.2 hin127 (Has.at H127 hin127 rfl) (g := (mkF m 86 #[.val (.int kk), .val (.int ln), .val (.int en), .val (.int cv), .val (.int wv), .val (.ref b1), .val (.int (4 : Int32)), .val (.ref r35), .unset, .unset] [(.int (4 : Int32)), (.ref b1), (.ref a42), (.ref a40), (.ref b38), (.ref b38)])) rfl rfl (hb hby at_86) _ k) ?_
    refine OwnFin.adv (B := T42.setTop (mkF m 88 #[.val (.int kk), .val (.int ln), .val (.int en), .val (.int cv), .val (.int wv), .val (.ref b1), .val (.int (4 : Int32)), .val (.ref r35), .unset, .unset] [(.int ln), (.ref q4), (.ref a42), (.ref a40), (.ref b38), (.ref b38)])) (fun _ k => XS.iloadN X42.here hx rfl (hb hby at_87) rfl k) ?_
    refine OwnFin.adv (B := T42.setTop (mkF m 89 #[.val (.int kk), .val (.int ln), .val (.int en), .val (.int cv), .val (.int wv), .val (.ref b1), .val (.int (4 : Int32)), .val (.ref r35), .unset, .unset] [(.int en), (.int ln), (.ref q4), (.ref a42), (.ref a40), (.ref b38), (.ref b38)])) (fun _ k => XS.iloadN X42.here hx rfl (hb hby at_88) rfl k) ?_
    refine OwnFin.adv (B := T42.setTop (mkF m 91 #[.val (.int kk), .val (.int ln), .val (.int en), .val (.int cv), .val (.int wv), .val (.ref b1), .val (.int (4 : Int32)), .val (.ref r35), .unset, .unset] [(.ref r35), (.int en), (.int ln), (.ref q4), (.ref a42), (.ref a40), (.ref b38), (.ref b38)])) (fun _ k => XS.aload X42.here hx rfl (hb hby at_89) rfl rfl k) ?_
    refine OwnFin.adv (B := T42.setTop (mkF m 93 #[.val (.int kk), .val (.int ln), .val (.int en), .val (.int cv), .val (.int wv), .val (.ref b1), .val (.int (4 : Int32)), .val (.ref r35), .unset, .unset] [(.int wv), (.ref r35), (.int en), (.int ln), (.ref q4), (.ref a42), (.ref a40), (.ref b38), (.ref b38)])) (fun _ k => XS.iload X42.here hx rfl (hb hby at_91) rfl k) ?_
    have Old130 : Old Z n0 h42 := ((((Old36.keep K35 all0).ext E38).ext E40).ext E42)
    obtain ⟨_, _, ⟨T129, L129, k129, n129⟩, -, X129, ⟨Lc129, hQ129, l129, y129, z129⟩, st129⟩ := Jvm.LawKit.callS X42 hx (y := (⟨"java/lang/Integer", "valueOf", "(I)Ljava/lang/Integer;"⟩ : MethodName)) hown (mvT hZ (hw _ (List.mem_of_getElem? (i := 53) rfl))) (mvT hZ (hw _ (List.mem_of_getElem? (i := 54) rfl))) (mvT hZ (hw _ (List.mem_of_getElem? (i := 55) rfl))) (mvT hZ (hw _ (List.mem_of_getElem? (i := 56) rfl))) (by decide) (backOf (W := 8) (own_valueOf l Z a0 hw [] wv ca cl h42 n0 (by omega) Old130 SH SC BX) hZ (hw _ (List.mem_of_getElem? (i := 56) rfl)) (hw _ (List.mem_of_getElem? (i := 55) rfl)) (by decide) (by decide)) (g := (mkF m 93 #[.val (.int kk), .val (.int ln), .val (.int en), .val (.int cv), .val (.int wv), .val (.ref b1), .val (.int (4 : Int32)), .val (.ref r35), .unset, .unset] [(.int wv), (.ref r35), (.int en), (.int ln), (.ref q4), (.ref a42), (.ref a40), (.ref b38), (.ref b38)])) rfl (by rw [hml]; rfl) (argsL := [(.int wv)]) (rest := [(.ref r35), (.int en), (.int ln), (.ref q4), (.ref a42), (.ref a40), (.ref b38), (.ref b38)]) (lenOf own_pd_x28Ix29Ljavax2flangx2fIntegerx3b rfl) rfl (by show 2 * 0 + _ ≤ _; exact Nat.le_of_eq rfl) (hb hby at_93) (fun _ _ => ⟨rfl, e42, (by decide : 8 + 1 ≤ _), (by decide : 38 + 1 ≤ _)⟩)
    dsimp only [Pt.U, Pt.locs, Pt.cells, Pt.slots] at X129 l129 y129 z129 st129 hQ129
    subst l129 y129 z129
    obtain ⟨bx129, rfl, N129q, K129, Ebx129⟩ := hQ129
    have N129 := Fr.app N35 N129q
    have sz131 : h42.size ≤ T129.heap.size := K129.1
    refine OwnFin.adv (B := T129.setTop (mkF m 96 #[.val (.int kk), .val (.int ln), .val (.int en), .val (.int cv), .val (.int wv), .val (.ref b1), .val (.int (4 : Int32)), .val (.ref r35), .unset, .unset] [(.ref bx129), (.ref r35), (.int en), (.int ln), (.ref q4), (.ref a42), (.ref a40), (.ref b38), (.ref b38)])) (fun _ k => st129 _ k) ?_
    refine OwnFin.adv (B := T129.setTop (mkF m 97 #[.val (.int kk), .val (.int ln), .val (.int en), .val (.int cv), .val (.int wv), .val (.ref b1), .val (.int (4 : Int32)), .val (.ref r35), .unset, .unset] [.null, (.ref bx129), (.ref r35), (.int en), (.int ln), (.ref q4), (.ref a42), (.ref a40), (.ref b38), (.ref b38)])) (fun _ k => XS.aconstNull X129.here hx rfl (hb hby at_96) k) ?_
    refine OwnFin.adv (B := T129.setTop (mkF m 98 #[.val (.int kk), .val (.int ln), .val (.int en), .val (.int cv), .val (.int wv), .val (.ref b1), .val (.int (4 : Int32)), .val (.ref r35), .unset, .unset] [.null, .null, (.ref bx129), (.ref r35), (.int en), (.int ln), (.ref q4), (.ref a42), (.ref a40), (.ref b38), (.ref b38)])) (fun _ k => XS.aconstNull X129.here hx rfl (hb hby at_97) k) ?_
    have Fv133_14 : Exa Z T129.heap b38 "com/example/notional/notional/io/JsonValue" := (((A38.ext E40).ext E42).keep K129)
    have Fv134_14 : Fld Z T129.heap b38 "com/example/notional/notional/io/JsonValue" "file" "Ljava/lang/String;" .null := (((F38_file.ext E40).ext E42).keep K129 nin0)
    have Fv135_14 : Fld Z T129.heap b38 "com/example/notional/notional/io/JsonValue" "path" "Ljava/lang/String;" .null := (((F38_path.ext E40).ext E42).keep K129 nin0)
    have Fv136_14 : Fld Z T129.heap b38 "com/example/notional/notional/io/JsonValue" "kind" "Lcom/example/notional/notional/io/JsonValue$Kind;" .null := (((F38_kind.ext E40).ext E42).keep K129 nin0)
    have Fv137_14 : Fld Z T129.heap b38 "com/example/notional/notional/io/JsonValue" "line" "I" (.int (0 : Int32)) := (((F38_line.ext E40).ext E42).keep K129 nin0)
    have Fv138_14 : Fld Z T129.heap b38 "com/example/notional/notional/io/JsonValue" "endLine" "I" (.int (0 : Int32)) := (((F38_endLine.ext E40).ext E42).keep K129 nin0)
    have Fv139_14 : Fld Z T129.heap b38 "com/example/notional/notional/io/JsonValue" "text" "Ljava/lang/String;" .null := (((F38_text.ext E40).ext E42).keep K129 nin0)
    have Fv140_14 : Fld Z T129.heap b38 "com/example/notional/notional/io/JsonValue" "wholeNumber" "Ljava/lang/Integer;" .null := (((F38_wholeNumber.ext E40).ext E42).keep K129 nin0)
    have Fv141_14 : Fld Z T129.heap b38 "com/example/notional/notional/io/JsonValue" "members" "Ljava/util/Map;" .null := (((F38_members.ext E40).ext E42).keep K129 nin0)
    have Fv142_14 : Fld Z T129.heap b38 "com/example/notional/notional/io/JsonValue" "elements" "Ljava/util/List;" .null := (((F38_elements.ext E40).ext E42).keep K129 nin0)
    obtain ⟨_, _, ⟨T132, L132, k132, n132⟩, -, X132, ⟨Lc132, hQ132, l132, y132, z132⟩, st132⟩ := X129.specialBack hx (y := (⟨"com/example/notional/notional/io/JsonValue", "<init>", "(Ljava/lang/String;Ljava/lang/String;Lcom/example/notional/notional/io/JsonValue$Kind;IILjava/lang/String;Ljava/lang/Integer;Ljava/util/Map;Ljava/util/List;)V"⟩ : MethodName)) rfl hown (mvT hZ (hw _ (List.mem_of_getElem? (i := 60) rfl))) (mvT hZ (hw _ (List.mem_of_getElem? (i := 61) rfl))) (mvT hZ (hw _ (List.mem_of_getElem? (i := 62) rfl))) (by decide) (backOf (W := 1) (own_jInit l Z a0 hw [] b38 a40 a42 q4 ln en r35 bx129 _ _ _ _ _ _ _ _ _ T129.heap n0 (by omega) Fv133_14 Fv134_14 Fv135_14 Fv136_14 Fv137_14 Fv138_14 Fv139_14 Fv140_14 Fv141_14 Fv142_14 (by omega)) hZ (hw _ (List.mem_of_getElem? (i := 62) rfl)) (hw _ (List.mem_of_getElem? (i := 48) rfl)) (by decide) (by decide)) (g := (mkF m 98 #[.val (.int kk), .val (.int ln), .val (.int en), .val (.int cv), .val (.int wv), .val (.ref b1), .val (.int (4 : Int32)), .val (.ref r35), .unset, .unset] [.null, .null, (.ref bx129), (.ref r35), (.int en), (.int ln), (.ref q4), (.ref a42), (.ref a40), (.ref b38), (.ref b38)])) rfl (by rw [hml]; rfl) (Steps.refl _) (a := b38) (argsL := [(.ref a40), (.ref a42), (.ref q4), (.int ln), (.int en), (.ref r35), (.ref bx129), .null, .null]) (rest := [(.ref b38)]) (lenOf own_pd_x28Ljavax2flangx2fStringx3bLjavax2flangx2fStringx3bLcomx2fexamplex2fnotionalx2fnotionalx2fiox2fJsonValuex24Kindx3bIILjavax2flangx2fStringx3bLjavax2flangx2fIntegerx3bLjavax2futilx2fMapx3bLjavax2futilx2fListx3bx29V rfl) rfl (by show 2 * 0 + _ ≤ _; exact Nat.le_of_eq rfl) (hb hby at_98) (fun _ _ => ⟨rfl, rfl, (by decide : 9 + 0 ≤ _), (by decide : 39 + 0 ≤ _)⟩)
    dsimp only [Pt.U, Pt.locs, Pt.cells, Pt.slots] at X132 l132 y132 z132 st132 hQ132
    subst l132 y132 z132
    obtain ⟨rfl, N132q, K132, Fa132, Fb132⟩ := hQ132
    have N132 := Fr.app N129 N132q
    have sz143 : T129.heap.size ≤ T132.heap.size := K132.1
    refine OwnFin.adv (B := T132.setTop (mkF m 101 #[.val (.int kk), .val (.int ln), .val (.int en), .val (.int cv), .val (.int wv), .val (.ref b1), .val (.int (4 : Int32)), .val (.ref r35), .unset, .unset] [(.ref b38)])) (fun _ k => st132.trans k) ?_
    refine OwnFin.adv (B := T132.setTop (mkF m 103 #[.val (.int kk), .val (.int ln), .val (.int en), .val (.int cv), .val (.int wv), .val (.ref b1), .val (.int (4 : Int32)), .val (.ref r35), .val (.ref b38), .unset] [])) (fun _ k => XS.astore X132.here hx rfl (hb hby at_101) rfl rfl (l' := #[.val (.int kk), .val (.int ln), .val (.int en), .val (.int cv), .val (.int wv), .val (.ref b1), .val (.int (4 : Int32)), .val (.ref r35), .val (.ref b38), .unset]) rfl k) ?_
    refine OwnFin.adv (B := T132.setTop (mkF m 105 #[.val (.int kk), .val (.int ln), .val (.int en), .val (.int cv), .val (.int wv), .val (.ref b1), .val (.int (4 : Int32)), .val (.ref r35), .val (.ref b38), .unset] [(.int (4 : Int32))])) (fun _ k => XS.iload X132.here hx rfl (hb hby at_103) rfl k) ?_
    refine OwnFin.adv (B := T132.setTop (mkF m 106 #[.val (.int kk), .val (.int ln), .val (.int en), .val (.int cv), .val (.int wv), .val (.ref b1), .val (.int (4 : Int32)), .val (.ref r35), .val (.ref b38), .unset] [(.int (2 : Int32)), (.int (4 : Int32))])) (fun _ k => XS.iconst X132.here hx rfl (hb hby at_105) k) ?_
    have hc106_65 : ¬ ((4 : Int32) = (2 : Int32)) := by decide
    refine OwnFin.adv (B := T132.setTop (mkF m 113 #[.val (.int kk), .val (.int ln), .val (.int en), .val (.int cv), .val (.int wv), .val (.ref b1), .val (.int (4 : Int32)), .val (.ref r35), .val (.ref b38), .unset] [])) (fun _ k => XS.icmpYes X132.here hx rfl (pc0 := 106) (pc' := 113) rfl (hb hby at_106) rfl (feq hc106_65).2 (by decide) (by decide) k) ?_
    refine OwnFin.adv (B := T132.setTop (mkF m 114 #[.val (.int kk), .val (.int ln), .val (.int en), .val (.int cv), .val (.int wv), .val (.ref b1), .val (.int (4 : Int32)), .val (.ref r35), .val (.ref b38), .unset] [(.int (0 : Int32))])) (fun _ k => XS.iconst X132.here hx rfl (hb hby at_113) k) ?_
    refine OwnFin.adv (B := T132.setTop (mkF m 116 #[.val (.int kk), .val (.int ln), .val (.int en), .val (.int cv), .val (.int wv), .val (.ref b1), .val (.int (4 : Int32)), .val (.ref r35), .val (.ref b38), .val (.int (0 : Int32))] [])) (fun _ k => XS.istore X132.here hx rfl (hb hby at_114) rfl (l' := #[.val (.int kk), .val (.int ln), .val (.int en), .val (.int cv), .val (.int wv), .val (.ref b1), .val (.int (4 : Int32)), .val (.ref r35), .val (.ref b38), .val (.int (0 : Int32))]) rfl k) ?_
    refine OwnFin.adv (B := T132.setTop (mkF m 118 #[.val (.int kk), .val (.int ln), .val (.int en), .val (.int cv), .val (.int wv), .val (.ref b1), .val (.int (4 : Int32)), .val (.ref r35), .val (.ref b38), .val (.int (0 : Int32))] [(.ref b38)])) (fun _ k => XS.aload X132.here hx rfl (hb hby at_116) rfl rfl k) ?_
    have Old145 : Old Z n0 T132.heap := ((Old130.keep K129 all0).keep K132 (allS (by omega) all0))
    have Fv146_15 : Exa Z T132.heap b38 "com/example/notional/notional/io/JsonValue" := (Fv133_14.keep K132)
    obtain ⟨cq144, kq144, q144a, q144b, q144c⟩ := isOf hZ rfl Fv146_15
    obtain ⟨_, _, ⟨T144, L144, k144, n144⟩, -, X144, ⟨Lc144, hQ144, l144, y144, z144⟩, st144⟩ := X132.virtualBack hx (y := (⟨"com/example/notional/notional/io/JsonValue", "isString", "()Z"⟩ : MethodName)) (z := (⟨"com/example/notional/notional/io/JsonValue", "isString", "()Z"⟩ : MethodName)) hown (mvT hZ (hw _ (List.mem_of_getElem? (i := 82) rfl))) (mvT hZ (hw _ (List.mem_of_getElem? (i := 83) rfl))) (notFace_of_selects (args := #[]) (mvT hZ (hw _ (List.mem_of_getElem? (i := 85) rfl)))) (mvT hZ (hw _ (List.mem_of_getElem? (i := 85) rfl))) (mvT hZ (hw _ (List.mem_of_getElem? (i := 84) rfl))) (by decide) (backOf (W := 0) (own_isStr l Z a0 hw [] b38 q4 q2 T132.heap n0 (by omega) Fa132 (own_staK S_q2 Old145)) hZ (hw _ (List.mem_of_getElem? (i := 86) rfl)) (hw _ (List.mem_of_getElem? (i := 48) rfl)) (by decide) (by decide)) q144a q144c (g := (mkF m 118 #[.val (.int kk), .val (.int ln), .val (.int en), .val (.int cv), .val (.int wv), .val (.ref b1), .val (.int (4 : Int32)), .val (.ref r35), .val (.ref b38), .val (.int (0 : Int32))] [(.ref b38)])) rfl (by rw [hml]; rfl) (Steps.refl _) (argsL := []) (rest := []) (lenOf own_pd_x28x29Z rfl) rfl (by show 2 * 0 + _ ≤ _; exact Nat.le_of_eq rfl) (hb hby at_118) (fun _ _ => ⟨rfl, rfl, (by decide : 9 + 0 ≤ _), (by decide : 39 + 0 ≤ _)⟩)
    dsimp only [Pt.U, Pt.locs, Pt.cells, Pt.slots] at X144 l144 y144 z144 st144 hQ144
    subst l144 y144 z144
    obtain ⟨rfl, N144q, eh144⟩ := hQ144
    have N144 := Fr.app N132 N144q
    refine OwnFin.adv (B := T144.setTop (mkF m 121 #[.val (.int kk), .val (.int ln), .val (.int en), .val (.int cv), .val (.int wv), .val (.ref b1), .val (.int (4 : Int32)), .val (.ref r35), .val (.ref b38), .val (.int (0 : Int32))] [(.int (if q4 = q2 then (1 : Int32) else 0))])) (fun _ k => st144.trans k) ?_
    refine OwnFin.adv (B := T144.setTop (mkF m 123 #[.val (.int kk), .val (.int ln), .val (.int en), .val (.int cv), .val (.int wv), .val (.ref b1), .val (.int (4 : Int32)), .val (.ref r35), .val (.ref b38), .val (.int (0 : Int32))] [(.int (0 : Int32)), (.int (if q4 = q2 then (1 : Int32) else 0))])) (fun _ k => XS.iload X144.here hx rfl (hb hby at_121) rfl k) ?_
    have hc123_71 : (if q4 = q2 then (1 : Int32) else 0) = (0 : Int32) := by simp [ne_q4]
    refine OwnFin.adv (B := T144.setTop (mkF m 128 #[.val (.int kk), .val (.int ln), .val (.int en), .val (.int cv), .val (.int wv), .val (.ref b1), .val (.int (4 : Int32)), .val (.ref r35), .val (.ref b38), .val (.int (0 : Int32))] [])) (fun _ k => XS.icmpYes X144.here hx rfl (pc0 := 123) (pc' := 128) rfl (hb hby at_123) rfl (teq hc123_71).1 (by decide) (by decide) k) ?_
    refine OwnFin.adv (B := T144.setTop (mkF m 130 #[.val (.int kk), .val (.int ln), .val (.int en), .val (.int cv), .val (.int wv), .val (.ref b1), .val (.int (4 : Int32)), .val (.ref r35), .val (.ref b38), .val (.int (0 : Int32))] [(.int (0 : Int32))])) (fun _ k => XS.iload X144.here hx rfl (hb hby at_128) rfl k) ?_
    have hc130_73 : (0 : Int32) = (0 : Int32) := by decide
    refine OwnFin.adv (B := T144.setTop (mkF m 144 #[.val (.int kk), .val (.int ln), .val (.int en), .val (.int cv), .val (.int wv), .val (.ref b1), .val (.int (4 : Int32)), .val (.ref r35), .val (.ref b38), .val (.int (0 : Int32))] [])) (fun _ k => XS.ifYes X144.here hx rfl (pc0 := 130) (pc' := 144) rfl (hb hby at_130) rfl ((if0 _ _).trans (teq hc130_73).1) (by decide) (by decide) k) ?_
    refine OwnFin.adv (B := T144.setTop (mkF m 145 #[.val (.int kk), .val (.int ln), .val (.int en), .val (.int cv), .val (.int wv), .val (.ref b1), .val (.int (4 : Int32)), .val (.ref r35), .val (.ref b38), .val (.int (0 : Int32))] [(.int (1 : Int32))])) (fun _ k => XS.iconst X144.here hx rfl (hb hby at_144) k) ?_
    obtain ⟨fs, hr, hrun, hended, hE⟩ := X144.leaveW hS42 (by rw [eh144]; omega) (v := some (.int (1 : Int32))) (fun h => by rw [Bd.returns] at h; cases h)
    refine OwnFin.leaf hP' ⟨_, _, retN X144 hx (t := .boolean) Bd.returns (by simp) (hb hby at_145) hr, hrun, hended, _, _, rfl, ?_, own_monoW hE (by decide) (by decide)⟩
    exact ⟨rfl, N144⟩
  ·
    rw [show ((kk &&& (7 : Int32)) : Int32) = (5 : Int32) from hk]
    have Fv148_13 : Arv Z h42 b1 k1 (.object "com/example/notional/notional/io/JsonValue$Kind") (8 : Int32) [(.ref q0), (.ref q1), (.ref q2), (.ref q3), (.ref q4), (.ref q5), (.ref q6), (.ref q7)] .null := ((((V33.keep K35 nin0).ext E38).ext E40).ext E42)
    obtain ⟨cl147, Ar147, ck147, S147, M147, H147, G147⟩ := id Fv148_13
    have hin147 : ¬ ((5 : Int32) < 0 ∨ cl147.slots.size ≤ ((5 : Int32)).toNatClampNeg) := inb_of S147 ⟨by decide, by decide⟩
    refine OwnFin.adv (B := T42.setTop (mkF m 87 #[.val (.int kk), .val (.int ln), .val (.int en), .val (.int cv), .val (.int wv), .val (.ref b1), .val (.int (5 : Int32)), .val (.ref r35), .unset, .unset] [(.ref q5), (.ref a42), (.ref a40), (.ref b38), (.ref b38)])) (fun _ k => X42.aaload hx (j := (5 : Int32)) (v := (.ref q5)) (by rw [e42]; exact Ar147.1) (State.isArrayOf_alike hZ.alike Ar147.2.1) rfl Ar147.2.2 hin147 (Has.at H147 hin147 rfl) (g := (mkF m 86 #[.val (.int kk), .val (.int ln), .val (.int en), .val (.int cv), .val (.int wv), .val (.ref b1), .val (.int (5 : Int32)), .val (.ref r35), .unset, .unset] [(.int (5 : Int32)), (.ref b1), (.ref a42), (.ref a40), (.ref b38), (.ref b38)])) rfl rfl (hb hby at_86) _ k) ?_
    refine OwnFin.adv (B := T42.setTop (mkF m 88 #[.val (.int kk), .val (.int ln), .val (.int en), .val (.int cv), .val (.int wv), .val (.ref b1), .val (.int (5 : Int32)), .val (.ref r35), .unset, .unset] [(.int ln), (.ref q5), (.ref a42), (.ref a40), (.ref b38), (.ref b38)])) (fun _ k => XS.iloadN X42.here hx rfl (hb hby at_87) rfl k) ?_
    refine OwnFin.adv (B := T42.setTop (mkF m 89 #[.val (.int kk), .val (.int ln), .val (.int en), .val (.int cv), .val (.int wv), .val (.ref b1), .val (.int (5 : Int32)), .val (.ref r35), .unset, .unset] [(.int en), (.int ln), (.ref q5), (.ref a42), (.ref a40), (.ref b38), (.ref b38)])) (fun _ k => XS.iloadN X42.here hx rfl (hb hby at_88) rfl k) ?_
    refine OwnFin.adv (B := T42.setTop (mkF m 91 #[.val (.int kk), .val (.int ln), .val (.int en), .val (.int cv), .val (.int wv), .val (.ref b1), .val (.int (5 : Int32)), .val (.ref r35), .unset, .unset] [(.ref r35), (.int en), (.int ln), (.ref q5), (.ref a42), (.ref a40), (.ref b38), (.ref b38)])) (fun _ k => XS.aload X42.here hx rfl (hb hby at_89) rfl rfl k) ?_
    refine OwnFin.adv (B := T42.setTop (mkF m 93 #[.val (.int kk), .val (.int ln), .val (.int en), .val (.int cv), .val (.int wv), .val (.ref b1), .val (.int (5 : Int32)), .val (.ref r35), .unset, .unset] [(.int wv), (.ref r35), (.int en), (.int ln), (.ref q5), (.ref a42), (.ref a40), (.ref b38), (.ref b38)])) (fun _ k => XS.iload X42.here hx rfl (hb hby at_91) rfl k) ?_
    have Old150 : Old Z n0 h42 := ((((Old36.keep K35 all0).ext E38).ext E40).ext E42)
    obtain ⟨_, _, ⟨T149, L149, k149, n149⟩, -, X149, ⟨Lc149, hQ149, l149, y149, z149⟩, st149⟩ := Jvm.LawKit.callS X42 hx (y := (⟨"java/lang/Integer", "valueOf", "(I)Ljava/lang/Integer;"⟩ : MethodName)) hown (mvT hZ (hw _ (List.mem_of_getElem? (i := 53) rfl))) (mvT hZ (hw _ (List.mem_of_getElem? (i := 54) rfl))) (mvT hZ (hw _ (List.mem_of_getElem? (i := 55) rfl))) (mvT hZ (hw _ (List.mem_of_getElem? (i := 56) rfl))) (by decide) (backOf (W := 8) (own_valueOf l Z a0 hw [] wv ca cl h42 n0 (by omega) Old150 SH SC BX) hZ (hw _ (List.mem_of_getElem? (i := 56) rfl)) (hw _ (List.mem_of_getElem? (i := 55) rfl)) (by decide) (by decide)) (g := (mkF m 93 #[.val (.int kk), .val (.int ln), .val (.int en), .val (.int cv), .val (.int wv), .val (.ref b1), .val (.int (5 : Int32)), .val (.ref r35), .unset, .unset] [(.int wv), (.ref r35), (.int en), (.int ln), (.ref q5), (.ref a42), (.ref a40), (.ref b38), (.ref b38)])) rfl (by rw [hml]; rfl) (argsL := [(.int wv)]) (rest := [(.ref r35), (.int en), (.int ln), (.ref q5), (.ref a42), (.ref a40), (.ref b38), (.ref b38)]) (lenOf own_pd_x28Ix29Ljavax2flangx2fIntegerx3b rfl) rfl (by show 2 * 0 + _ ≤ _; exact Nat.le_of_eq rfl) (hb hby at_93) (fun _ _ => ⟨rfl, e42, (by decide : 8 + 1 ≤ _), (by decide : 38 + 1 ≤ _)⟩)
    dsimp only [Pt.U, Pt.locs, Pt.cells, Pt.slots] at X149 l149 y149 z149 st149 hQ149
    subst l149 y149 z149
    obtain ⟨bx149, rfl, N149q, K149, Ebx149⟩ := hQ149
    have N149 := Fr.app N35 N149q
    have sz151 : h42.size ≤ T149.heap.size := K149.1
    refine OwnFin.adv (B := T149.setTop (mkF m 96 #[.val (.int kk), .val (.int ln), .val (.int en), .val (.int cv), .val (.int wv), .val (.ref b1), .val (.int (5 : Int32)), .val (.ref r35), .unset, .unset] [(.ref bx149), (.ref r35), (.int en), (.int ln), (.ref q5), (.ref a42), (.ref a40), (.ref b38), (.ref b38)])) (fun _ k => st149 _ k) ?_
    refine OwnFin.adv (B := T149.setTop (mkF m 97 #[.val (.int kk), .val (.int ln), .val (.int en), .val (.int cv), .val (.int wv), .val (.ref b1), .val (.int (5 : Int32)), .val (.ref r35), .unset, .unset] [.null, (.ref bx149), (.ref r35), (.int en), (.int ln), (.ref q5), (.ref a42), (.ref a40), (.ref b38), (.ref b38)])) (fun _ k => XS.aconstNull X149.here hx rfl (hb hby at_96) k) ?_
    refine OwnFin.adv (B := T149.setTop (mkF m 98 #[.val (.int kk), .val (.int ln), .val (.int en), .val (.int cv), .val (.int wv), .val (.ref b1), .val (.int (5 : Int32)), .val (.ref r35), .unset, .unset] [.null, .null, (.ref bx149), (.ref r35), (.int en), (.int ln), (.ref q5), (.ref a42), (.ref a40), (.ref b38), (.ref b38)])) (fun _ k => XS.aconstNull X149.here hx rfl (hb hby at_97) k) ?_
    have Fv153_14 : Exa Z T149.heap b38 "com/example/notional/notional/io/JsonValue" := (((A38.ext E40).ext E42).keep K149)
    have Fv154_14 : Fld Z T149.heap b38 "com/example/notional/notional/io/JsonValue" "file" "Ljava/lang/String;" .null := (((F38_file.ext E40).ext E42).keep K149 nin0)
    have Fv155_14 : Fld Z T149.heap b38 "com/example/notional/notional/io/JsonValue" "path" "Ljava/lang/String;" .null := (((F38_path.ext E40).ext E42).keep K149 nin0)
    have Fv156_14 : Fld Z T149.heap b38 "com/example/notional/notional/io/JsonValue" "kind" "Lcom/example/notional/notional/io/JsonValue$Kind;" .null := (((F38_kind.ext E40).ext E42).keep K149 nin0)
    have Fv157_14 : Fld Z T149.heap b38 "com/example/notional/notional/io/JsonValue" "line" "I" (.int (0 : Int32)) := (((F38_line.ext E40).ext E42).keep K149 nin0)
    have Fv158_14 : Fld Z T149.heap b38 "com/example/notional/notional/io/JsonValue" "endLine" "I" (.int (0 : Int32)) := (((F38_endLine.ext E40).ext E42).keep K149 nin0)
    have Fv159_14 : Fld Z T149.heap b38 "com/example/notional/notional/io/JsonValue" "text" "Ljava/lang/String;" .null := (((F38_text.ext E40).ext E42).keep K149 nin0)
    have Fv160_14 : Fld Z T149.heap b38 "com/example/notional/notional/io/JsonValue" "wholeNumber" "Ljava/lang/Integer;" .null := (((F38_wholeNumber.ext E40).ext E42).keep K149 nin0)
    have Fv161_14 : Fld Z T149.heap b38 "com/example/notional/notional/io/JsonValue" "members" "Ljava/util/Map;" .null := (((F38_members.ext E40).ext E42).keep K149 nin0)
    have Fv162_14 : Fld Z T149.heap b38 "com/example/notional/notional/io/JsonValue" "elements" "Ljava/util/List;" .null := (((F38_elements.ext E40).ext E42).keep K149 nin0)
    obtain ⟨_, _, ⟨T152, L152, k152, n152⟩, -, X152, ⟨Lc152, hQ152, l152, y152, z152⟩, st152⟩ := X149.specialBack hx (y := (⟨"com/example/notional/notional/io/JsonValue", "<init>", "(Ljava/lang/String;Ljava/lang/String;Lcom/example/notional/notional/io/JsonValue$Kind;IILjava/lang/String;Ljava/lang/Integer;Ljava/util/Map;Ljava/util/List;)V"⟩ : MethodName)) rfl hown (mvT hZ (hw _ (List.mem_of_getElem? (i := 60) rfl))) (mvT hZ (hw _ (List.mem_of_getElem? (i := 61) rfl))) (mvT hZ (hw _ (List.mem_of_getElem? (i := 62) rfl))) (by decide) (backOf (W := 1) (own_jInit l Z a0 hw [] b38 a40 a42 q5 ln en r35 bx149 _ _ _ _ _ _ _ _ _ T149.heap n0 (by omega) Fv153_14 Fv154_14 Fv155_14 Fv156_14 Fv157_14 Fv158_14 Fv159_14 Fv160_14 Fv161_14 Fv162_14 (by omega)) hZ (hw _ (List.mem_of_getElem? (i := 62) rfl)) (hw _ (List.mem_of_getElem? (i := 48) rfl)) (by decide) (by decide)) (g := (mkF m 98 #[.val (.int kk), .val (.int ln), .val (.int en), .val (.int cv), .val (.int wv), .val (.ref b1), .val (.int (5 : Int32)), .val (.ref r35), .unset, .unset] [.null, .null, (.ref bx149), (.ref r35), (.int en), (.int ln), (.ref q5), (.ref a42), (.ref a40), (.ref b38), (.ref b38)])) rfl (by rw [hml]; rfl) (Steps.refl _) (a := b38) (argsL := [(.ref a40), (.ref a42), (.ref q5), (.int ln), (.int en), (.ref r35), (.ref bx149), .null, .null]) (rest := [(.ref b38)]) (lenOf own_pd_x28Ljavax2flangx2fStringx3bLjavax2flangx2fStringx3bLcomx2fexamplex2fnotionalx2fnotionalx2fiox2fJsonValuex24Kindx3bIILjavax2flangx2fStringx3bLjavax2flangx2fIntegerx3bLjavax2futilx2fMapx3bLjavax2futilx2fListx3bx29V rfl) rfl (by show 2 * 0 + _ ≤ _; exact Nat.le_of_eq rfl) (hb hby at_98) (fun _ _ => ⟨rfl, rfl, (by decide : 9 + 0 ≤ _), (by decide : 39 + 0 ≤ _)⟩)
    dsimp only [Pt.U, Pt.locs, Pt.cells, Pt.slots] at X152 l152 y152 z152 st152 hQ152
    subst l152 y152 z152
    obtain ⟨rfl, N152q, K152, Fa152, Fb152⟩ := hQ152
    have N152 := Fr.app N149 N152q
    have sz163 : T149.heap.size ≤ T152.heap.size := K152.1
    refine OwnFin.adv (B := T152.setTop (mkF m 101 #[.val (.int kk), .val (.int ln), .val (.int en), .val (.int cv), .val (.int wv), .val (.ref b1), .val (.int (5 : Int32)), .val (.ref r35), .unset, .unset] [(.ref b38)])) (fun _ k => st152.trans k) ?_
    refine OwnFin.adv (B := T152.setTop (mkF m 103 #[.val (.int kk), .val (.int ln), .val (.int en), .val (.int cv), .val (.int wv), .val (.ref b1), .val (.int (5 : Int32)), .val (.ref r35), .val (.ref b38), .unset] [])) (fun _ k => XS.astore X152.here hx rfl (hb hby at_101) rfl rfl (l' := #[.val (.int kk), .val (.int ln), .val (.int en), .val (.int cv), .val (.int wv), .val (.ref b1), .val (.int (5 : Int32)), .val (.ref r35), .val (.ref b38), .unset]) rfl k) ?_
    refine OwnFin.adv (B := T152.setTop (mkF m 105 #[.val (.int kk), .val (.int ln), .val (.int en), .val (.int cv), .val (.int wv), .val (.ref b1), .val (.int (5 : Int32)), .val (.ref r35), .val (.ref b38), .unset] [(.int (5 : Int32))])) (fun _ k => XS.iload X152.here hx rfl (hb hby at_103) rfl k) ?_
    refine OwnFin.adv (B := T152.setTop (mkF m 106 #[.val (.int kk), .val (.int ln), .val (.int en), .val (.int cv), .val (.int wv), .val (.ref b1), .val (.int (5 : Int32)), .val (.ref r35), .val (.ref b38), .unset] [(.int (2 : Int32)), (.int (5 : Int32))])) (fun _ k => XS.iconst X152.here hx rfl (hb hby at_105) k) ?_
    have hc106_65 : ¬ ((5 : Int32) = (2 : Int32)) := by decide
    refine OwnFin.adv (B := T152.setTop (mkF m 113 #[.val (.int kk), .val (.int ln), .val (.int en), .val (.int cv), .val (.int wv), .val (.ref b1), .val (.int (5 : Int32)), .val (.ref r35), .val (.ref b38), .unset] [])) (fun _ k => XS.icmpYes X152.here hx rfl (pc0 := 106) (pc' := 113) rfl (hb hby at_106) rfl (feq hc106_65).2 (by decide) (by decide) k) ?_
    refine OwnFin.adv (B := T152.setTop (mkF m 114 #[.val (.int kk), .val (.int ln), .val (.int en), .val (.int cv), .val (.int wv), .val (.ref b1), .val (.int (5 : Int32)), .val (.ref r35), .val (.ref b38), .unset] [(.int (0 : Int32))])) (fun _ k => XS.iconst X152.here hx rfl (hb hby at_113) k) ?_
    refine OwnFin.adv (B := T152.setTop (mkF m 116 #[.val (.int kk), .val (.int ln), .val (.int en), .val (.int cv), .val (.int wv), .val (.ref b1), .val (.int (5 : Int32)), .val (.ref r35), .val (.ref b38), .val (.int (0 : Int32))] [])) (fun _ k => XS.istore X152.here hx rfl (hb hby at_114) rfl (l' := #[.val (.int kk), .val (.int ln), .val (.int en), .val (.int cv), .val (.int wv), .val (.ref b1), .val (.int (5 : Int32)), .val (.ref r35), .val (.ref b38), .val (.int (0 : Int32))]) rfl k) ?_
    refine OwnFin.adv (B := T152.setTop (mkF m 118 #[.val (.int kk), .val (.int ln), .val (.int en), .val (.int cv), .val (.int wv), .val (.ref b1), .val (.int (5 : Int32)), .val (.ref r35), .val (.ref b38), .val (.int (0 : Int32))] [(.ref b38)])) (fun _ k => XS.aload X152.here hx rfl (hb hby at_116) rfl rfl k) ?_
    have Old165 : Old Z n0 T152.heap := ((Old150.keep K149 all0).keep K152 (allS (by omega) all0))
    have Fv166_15 : Exa Z T152.heap b38 "com/example/notional/notional/io/JsonValue" := (Fv153_14.keep K152)
    obtain ⟨cq164, kq164, q164a, q164b, q164c⟩ := isOf hZ rfl Fv166_15
    obtain ⟨_, _, ⟨T164, L164, k164, n164⟩, -, X164, ⟨Lc164, hQ164, l164, y164, z164⟩, st164⟩ := X152.virtualBack hx (y := (⟨"com/example/notional/notional/io/JsonValue", "isString", "()Z"⟩ : MethodName)) (z := (⟨"com/example/notional/notional/io/JsonValue", "isString", "()Z"⟩ : MethodName)) hown (mvT hZ (hw _ (List.mem_of_getElem? (i := 82) rfl))) (mvT hZ (hw _ (List.mem_of_getElem? (i := 83) rfl))) (notFace_of_selects (args := #[]) (mvT hZ (hw _ (List.mem_of_getElem? (i := 85) rfl)))) (mvT hZ (hw _ (List.mem_of_getElem? (i := 85) rfl))) (mvT hZ (hw _ (List.mem_of_getElem? (i := 84) rfl))) (by decide) (backOf (W := 0) (own_isStr l Z a0 hw [] b38 q5 q2 T152.heap n0 (by omega) Fa152 (own_staK S_q2 Old165)) hZ (hw _ (List.mem_of_getElem? (i := 86) rfl)) (hw _ (List.mem_of_getElem? (i := 48) rfl)) (by decide) (by decide)) q164a q164c (g := (mkF m 118 #[.val (.int kk), .val (.int ln), .val (.int en), .val (.int cv), .val (.int wv), .val (.ref b1), .val (.int (5 : Int32)), .val (.ref r35), .val (.ref b38), .val (.int (0 : Int32))] [(.ref b38)])) rfl (by rw [hml]; rfl) (Steps.refl _) (argsL := []) (rest := []) (lenOf own_pd_x28x29Z rfl) rfl (by show 2 * 0 + _ ≤ _; exact Nat.le_of_eq rfl) (hb hby at_118) (fun _ _ => ⟨rfl, rfl, (by decide : 9 + 0 ≤ _), (by decide : 39 + 0 ≤ _)⟩)
    dsimp only [Pt.U, Pt.locs, Pt.cells, Pt.slots] at X164 l164 y164 z164 st164 hQ164
    subst l164 y164 z164
    obtain ⟨rfl, N164q, eh164⟩ := hQ164
    have N164 := Fr.app N152 N164q
    refine OwnFin.adv (B := T164.setTop (mkF m 121 #[.val (.int kk), .val (.int ln), .val (.int en), .val (.int cv), .val (.int wv), .val (.ref b1), .val (.int (5 : Int32)), .val (.ref r35), .val (.ref b38), .val (.int (0 : Int32))] [(.int (if q5 = q2 then (1 : Int32) else 0))])) (fun _ k => st164.trans k) ?_
    refine OwnFin.adv (B := T164.setTop (mkF m 123 #[.val (.int kk), .val (.int ln), .val (.int en), .val (.int cv), .val (.int wv), .val (.ref b1), .val (.int (5 : Int32)), .val (.ref r35), .val (.ref b38), .val (.int (0 : Int32))] [(.int (0 : Int32)), (.int (if q5 = q2 then (1 : Int32) else 0))])) (fun _ k => XS.iload X164.here hx rfl (hb hby at_121) rfl k) ?_
    have hc123_71 : (if q5 = q2 then (1 : Int32) else 0) = (0 : Int32) := by simp [ne_q5]
    refine OwnFin.adv (B := T164.setTop (mkF m 128 #[.val (.int kk), .val (.int ln), .val (.int en), .val (.int cv), .val (.int wv), .val (.ref b1), .val (.int (5 : Int32)), .val (.ref r35), .val (.ref b38), .val (.int (0 : Int32))] [])) (fun _ k => XS.icmpYes X164.here hx rfl (pc0 := 123) (pc' := 128) rfl (hb hby at_123) rfl (teq hc123_71).1 (by decide) (by decide) k) ?_
    refine OwnFin.adv (B := T164.setTop (mkF m 130 #[.val (.int kk), .val (.int ln), .val (.int en), .val (.int cv), .val (.int wv), .val (.ref b1), .val (.int (5 : Int32)), .val (.ref r35), .val (.ref b38), .val (.int (0 : Int32))] [(.int (0 : Int32))])) (fun _ k => XS.iload X164.here hx rfl (hb hby at_128) rfl k) ?_
    have hc130_73 : (0 : Int32) = (0 : Int32) := by decide
    refine OwnFin.adv (B := T164.setTop (mkF m 144 #[.val (.int kk), .val (.int ln), .val (.int en), .val (.int cv), .val (.int wv), .val (.ref b1), .val (.int (5 : Int32)), .val (.ref r35), .val (.ref b38), .val (.int (0 : Int32))] [])) (fun _ k => XS.ifYes X164.here hx rfl (pc0 := 130) (pc' := 144) rfl (hb hby at_130) rfl ((if0 _ _).trans (teq hc130_73).1) (by decide) (by decide) k) ?_
    refine OwnFin.adv (B := T164.setTop (mkF m 145 #[.val (.int kk), .val (.int ln), .val (.int en), .val (.int cv), .val (.int wv), .val (.ref b1), .val (.int (5 : Int32)), .val (.ref r35), .val (.ref b38), .val (.int (0 : Int32))] [(.int (1 : Int32))])) (fun _ k => XS.iconst X164.here hx rfl (hb hby at_144) k) ?_
    obtain ⟨fs, hr, hrun, hended, hE⟩ := X164.leaveW hS42 (by rw [eh164]; omega) (v := some (.int (1 : Int32))) (fun h => by rw [Bd.returns] at h; cases h)
    refine OwnFin.leaf hP' ⟨_, _, retN X164 hx (t := .boolean) Bd.returns (by simp) (hb hby at_145) hr, hrun, hended, _, _, rfl, ?_, own_monoW hE (by decide) (by decide)⟩
    exact ⟨rfl, N164⟩
  ·
    rw [show ((kk &&& (7 : Int32)) : Int32) = (6 : Int32) from hk]
    have Fv168_13 : Arv Z h42 b1 k1 (.object "com/example/notional/notional/io/JsonValue$Kind") (8 : Int32) [(.ref q0), (.ref q1), (.ref q2), (.ref q3), (.ref q4), (.ref q5), (.ref q6), (.ref q7)] .null := ((((V33.keep K35 nin0).ext E38).ext E40).ext E42)
    obtain ⟨cl167, Ar167, ck167, S167, M167, H167, G167⟩ := id Fv168_13
    have hin167 : ¬ ((6 : Int32) < 0 ∨ cl167.slots.size ≤ ((6 : Int32)).toNatClampNeg) := inb_of S167 ⟨by decide, by decide⟩
    refine OwnFin.adv (B := T42.setTop (mkF m 87 #[.val (.int kk), .val (.int ln), .val (.int en), .val (.int cv), .val (.int wv), .val (.ref b1), .val (.int (6 : Int32)), .val (.ref r35), .unset, .unset] [(.ref q6), (.ref a42), (.ref a40), (.ref b38), (.ref b38)])) (fun _ k => X42.aaload hx (j := (6 : Int32)) (v := (.ref q6)) (by rw [e42]; exact Ar167.1) (State.isArrayOf_alike hZ.alike Ar167.2.1) rfl Ar167.2.2 hin167 (Has.at H167 hin167 rfl) (g := (mkF m 86 #[.val (.int kk), .val (.int ln), .val (.int en), .val (.int cv), .val (.int wv), .val (.ref b1), .val (.int (6 : Int32)), .val (.ref r35), .unset, .unset] [(.int (6 : Int32)), (.ref b1), (.ref a42), (.ref a40), (.ref b38), (.ref b38)])) rfl rfl (hb hby at_86) _ k) ?_
    refine OwnFin.adv (B := T42.setTop (mkF m 88 #[.val (.int kk), .val (.int ln), .val (.int en), .val (.int cv), .val (.int wv), .val (.ref b1), .val (.int (6 : Int32)), .val (.ref r35), .unset, .unset] [(.int ln), (.ref q6), (.ref a42), (.ref a40), (.ref b38), (.ref b38)])) (fun _ k => XS.iloadN X42.here hx rfl (hb hby at_87) rfl k) ?_
    refine OwnFin.adv (B := T42.setTop (mkF m 89 #[.val (.int kk), .val (.int ln), .val (.int en), .val (.int cv), .val (.int wv), .val (.ref b1), .val (.int (6 : Int32)), .val (.ref r35), .unset, .unset] [(.int en), (.int ln), (.ref q6), (.ref a42), (.ref a40), (.ref b38), (.ref b38)])) (fun _ k => XS.iloadN X42.here hx rfl (hb hby at_88) rfl k) ?_
    refine OwnFin.adv (B := T42.setTop (mkF m 91 #[.val (.int kk), .val (.int ln), .val (.int en), .val (.int cv), .val (.int wv), .val (.ref b1), .val (.int (6 : Int32)), .val (.ref r35), .unset, .unset] [(.ref r35), (.int en), (.int ln), (.ref q6), (.ref a42), (.ref a40), (.ref b38), (.ref b38)])) (fun _ k => XS.aload X42.here hx rfl (hb hby at_89) rfl rfl k) ?_
    refine OwnFin.adv (B := T42.setTop (mkF m 93 #[.val (.int kk), .val (.int ln), .val (.int en), .val (.int cv), .val (.int wv), .val (.ref b1), .val (.int (6 : Int32)), .val (.ref r35), .unset, .unset] [(.int wv), (.ref r35), (.int en), (.int ln), (.ref q6), (.ref a42), (.ref a40), (.ref b38), (.ref b38)])) (fun _ k => XS.iload X42.here hx rfl (hb hby at_91) rfl k) ?_
    have Old170 : Old Z n0 h42 := ((((Old36.keep K35 all0).ext E38).ext E40).ext E42)
    obtain ⟨_, _, ⟨T169, L169, k169, n169⟩, -, X169, ⟨Lc169, hQ169, l169, y169, z169⟩, st169⟩ := Jvm.LawKit.callS X42 hx (y := (⟨"java/lang/Integer", "valueOf", "(I)Ljava/lang/Integer;"⟩ : MethodName)) hown (mvT hZ (hw _ (List.mem_of_getElem? (i := 53) rfl))) (mvT hZ (hw _ (List.mem_of_getElem? (i := 54) rfl))) (mvT hZ (hw _ (List.mem_of_getElem? (i := 55) rfl))) (mvT hZ (hw _ (List.mem_of_getElem? (i := 56) rfl))) (by decide) (backOf (W := 8) (own_valueOf l Z a0 hw [] wv ca cl h42 n0 (by omega) Old170 SH SC BX) hZ (hw _ (List.mem_of_getElem? (i := 56) rfl)) (hw _ (List.mem_of_getElem? (i := 55) rfl)) (by decide) (by decide)) (g := (mkF m 93 #[.val (.int kk), .val (.int ln), .val (.int en), .val (.int cv), .val (.int wv), .val (.ref b1), .val (.int (6 : Int32)), .val (.ref r35), .unset, .unset] [(.int wv), (.ref r35), (.int en), (.int ln), (.ref q6), (.ref a42), (.ref a40), (.ref b38), (.ref b38)])) rfl (by rw [hml]; rfl) (argsL := [(.int wv)]) (rest := [(.ref r35), (.int en), (.int ln), (.ref q6), (.ref a42), (.ref a40), (.ref b38), (.ref b38)]) (lenOf own_pd_x28Ix29Ljavax2flangx2fIntegerx3b rfl) rfl (by show 2 * 0 + _ ≤ _; exact Nat.le_of_eq rfl) (hb hby at_93) (fun _ _ => ⟨rfl, e42, (by decide : 8 + 1 ≤ _), (by decide : 38 + 1 ≤ _)⟩)
    dsimp only [Pt.U, Pt.locs, Pt.cells, Pt.slots] at X169 l169 y169 z169 st169 hQ169
    subst l169 y169 z169
    obtain ⟨bx169, rfl, N169q, K169, Ebx169⟩ := hQ169
    have N169 := Fr.app N35 N169q
    have sz171 : h42.size ≤ T169.heap.size := K169.1
    refine OwnFin.adv (B := T169.setTop (mkF m 96 #[.val (.int kk), .val (.int ln), .val (.int en), .val (.int cv), .val (.int wv), .val (.ref b1), .val (.int (6 : Int32)), .val (.ref r35), .unset, .unset] [(.ref bx169), (.ref r35), (.int en), (.int ln), (.ref q6), (.ref a42), (.ref a40), (.ref b38), (.ref b38)])) (fun _ k => st169 _ k) ?_
    refine OwnFin.adv (B := T169.setTop (mkF m 97 #[.val (.int kk), .val (.int ln), .val (.int en), .val (.int cv), .val (.int wv), .val (.ref b1), .val (.int (6 : Int32)), .val (.ref r35), .unset, .unset] [.null, (.ref bx169), (.ref r35), (.int en), (.int ln), (.ref q6), (.ref a42), (.ref a40), (.ref b38), (.ref b38)])) (fun _ k => XS.aconstNull X169.here hx rfl (hb hby at_96) k) ?_
    refine OwnFin.adv (B := T169.setTop (mkF m 98 #[.val (.int kk), .val (.int ln), .val (.int en), .val (.int cv), .val (.int wv), .val (.ref b1), .val (.int (6 : Int32)), .val (.ref r35), .unset, .unset] [.null, .null, (.ref bx169), (.ref r35), (.int en), (.int ln), (.ref q6), (.ref a42), (.ref a40), (.ref b38), (.ref b38)])) (fun _ k => XS.aconstNull X169.here hx rfl (hb hby at_97) k) ?_
    have Fv173_14 : Exa Z T169.heap b38 "com/example/notional/notional/io/JsonValue" := (((A38.ext E40).ext E42).keep K169)
    have Fv174_14 : Fld Z T169.heap b38 "com/example/notional/notional/io/JsonValue" "file" "Ljava/lang/String;" .null := (((F38_file.ext E40).ext E42).keep K169 nin0)
    have Fv175_14 : Fld Z T169.heap b38 "com/example/notional/notional/io/JsonValue" "path" "Ljava/lang/String;" .null := (((F38_path.ext E40).ext E42).keep K169 nin0)
    have Fv176_14 : Fld Z T169.heap b38 "com/example/notional/notional/io/JsonValue" "kind" "Lcom/example/notional/notional/io/JsonValue$Kind;" .null := (((F38_kind.ext E40).ext E42).keep K169 nin0)
    have Fv177_14 : Fld Z T169.heap b38 "com/example/notional/notional/io/JsonValue" "line" "I" (.int (0 : Int32)) := (((F38_line.ext E40).ext E42).keep K169 nin0)
    have Fv178_14 : Fld Z T169.heap b38 "com/example/notional/notional/io/JsonValue" "endLine" "I" (.int (0 : Int32)) := (((F38_endLine.ext E40).ext E42).keep K169 nin0)
    have Fv179_14 : Fld Z T169.heap b38 "com/example/notional/notional/io/JsonValue" "text" "Ljava/lang/String;" .null := (((F38_text.ext E40).ext E42).keep K169 nin0)
    have Fv180_14 : Fld Z T169.heap b38 "com/example/notional/notional/io/JsonValue" "wholeNumber" "Ljava/lang/Integer;" .null := (((F38_wholeNumber.ext E40).ext E42).keep K169 nin0)
    have Fv181_14 : Fld Z T169.heap b38 "com/example/notional/notional/io/JsonValue" "members" "Ljava/util/Map;" .null := (((F38_members.ext E40).ext E42).keep K169 nin0)
    have Fv182_14 : Fld Z T169.heap b38 "com/example/notional/notional/io/JsonValue" "elements" "Ljava/util/List;" .null := (((F38_elements.ext E40).ext E42).keep K169 nin0)
    obtain ⟨_, _, ⟨T172, L172, k172, n172⟩, -, X172, ⟨Lc172, hQ172, l172, y172, z172⟩, st172⟩ := X169.specialBack hx (y := (⟨"com/example/notional/notional/io/JsonValue", "<init>", "(Ljava/lang/String;Ljava/lang/String;Lcom/example/notional/notional/io/JsonValue$Kind;IILjava/lang/String;Ljava/lang/Integer;Ljava/util/Map;Ljava/util/List;)V"⟩ : MethodName)) rfl hown (mvT hZ (hw _ (List.mem_of_getElem? (i := 60) rfl))) (mvT hZ (hw _ (List.mem_of_getElem? (i := 61) rfl))) (mvT hZ (hw _ (List.mem_of_getElem? (i := 62) rfl))) (by decide) (backOf (W := 1) (own_jInit l Z a0 hw [] b38 a40 a42 q6 ln en r35 bx169 _ _ _ _ _ _ _ _ _ T169.heap n0 (by omega) Fv173_14 Fv174_14 Fv175_14 Fv176_14 Fv177_14 Fv178_14 Fv179_14 Fv180_14 Fv181_14 Fv182_14 (by omega)) hZ (hw _ (List.mem_of_getElem? (i := 62) rfl)) (hw _ (List.mem_of_getElem? (i := 48) rfl)) (by decide) (by decide)) (g := (mkF m 98 #[.val (.int kk), .val (.int ln), .val (.int en), .val (.int cv), .val (.int wv), .val (.ref b1), .val (.int (6 : Int32)), .val (.ref r35), .unset, .unset] [.null, .null, (.ref bx169), (.ref r35), (.int en), (.int ln), (.ref q6), (.ref a42), (.ref a40), (.ref b38), (.ref b38)])) rfl (by rw [hml]; rfl) (Steps.refl _) (a := b38) (argsL := [(.ref a40), (.ref a42), (.ref q6), (.int ln), (.int en), (.ref r35), (.ref bx169), .null, .null]) (rest := [(.ref b38)]) (lenOf own_pd_x28Ljavax2flangx2fStringx3bLjavax2flangx2fStringx3bLcomx2fexamplex2fnotionalx2fnotionalx2fiox2fJsonValuex24Kindx3bIILjavax2flangx2fStringx3bLjavax2flangx2fIntegerx3bLjavax2futilx2fMapx3bLjavax2futilx2fListx3bx29V rfl) rfl (by show 2 * 0 + _ ≤ _; exact Nat.le_of_eq rfl) (hb hby at_98) (fun _ _ => ⟨rfl, rfl, (by decide : 9 + 0 ≤ _), (by decide : 39 + 0 ≤ _)⟩)
    dsimp only [Pt.U, Pt.locs, Pt.cells, Pt.slots] at X172 l172 y172 z172 st172 hQ172
    subst l172 y172 z172
    obtain ⟨rfl, N172q, K172, Fa172, Fb172⟩ := hQ172
    have N172 := Fr.app N169 N172q
    have sz183 : T169.heap.size ≤ T172.heap.size := K172.1
    refine OwnFin.adv (B := T172.setTop (mkF m 101 #[.val (.int kk), .val (.int ln), .val (.int en), .val (.int cv), .val (.int wv), .val (.ref b1), .val (.int (6 : Int32)), .val (.ref r35), .unset, .unset] [(.ref b38)])) (fun _ k => st172.trans k) ?_
    refine OwnFin.adv (B := T172.setTop (mkF m 103 #[.val (.int kk), .val (.int ln), .val (.int en), .val (.int cv), .val (.int wv), .val (.ref b1), .val (.int (6 : Int32)), .val (.ref r35), .val (.ref b38), .unset] [])) (fun _ k => XS.astore X172.here hx rfl (hb hby at_101) rfl rfl (l' := #[.val (.int kk), .val (.int ln), .val (.int en), .val (.int cv), .val (.int wv), .val (.ref b1), .val (.int (6 : Int32)), .val (.ref r35), .val (.ref b38), .unset]) rfl k) ?_
    refine OwnFin.adv (B := T172.setTop (mkF m 105 #[.val (.int kk), .val (.int ln), .val (.int en), .val (.int cv), .val (.int wv), .val (.ref b1), .val (.int (6 : Int32)), .val (.ref r35), .val (.ref b38), .unset] [(.int (6 : Int32))])) (fun _ k => XS.iload X172.here hx rfl (hb hby at_103) rfl k) ?_
    refine OwnFin.adv (B := T172.setTop (mkF m 106 #[.val (.int kk), .val (.int ln), .val (.int en), .val (.int cv), .val (.int wv), .val (.ref b1), .val (.int (6 : Int32)), .val (.ref r35), .val (.ref b38), .unset] [(.int (2 : Int32)), (.int (6 : Int32))])) (fun _ k => XS.iconst X172.here hx rfl (hb hby at_105) k) ?_
    have hc106_65 : ¬ ((6 : Int32) = (2 : Int32)) := by decide
    refine OwnFin.adv (B := T172.setTop (mkF m 113 #[.val (.int kk), .val (.int ln), .val (.int en), .val (.int cv), .val (.int wv), .val (.ref b1), .val (.int (6 : Int32)), .val (.ref r35), .val (.ref b38), .unset] [])) (fun _ k => XS.icmpYes X172.here hx rfl (pc0 := 106) (pc' := 113) rfl (hb hby at_106) rfl (feq hc106_65).2 (by decide) (by decide) k) ?_
    refine OwnFin.adv (B := T172.setTop (mkF m 114 #[.val (.int kk), .val (.int ln), .val (.int en), .val (.int cv), .val (.int wv), .val (.ref b1), .val (.int (6 : Int32)), .val (.ref r35), .val (.ref b38), .unset] [(.int (0 : Int32))])) (fun _ k => XS.iconst X172.here hx rfl (hb hby at_113) k) ?_
    refine OwnFin.adv (B := T172.setTop (mkF m 116 #[.val (.int kk), .val (.int ln), .val (.int en), .val (.int cv), .val (.int wv), .val (.ref b1), .val (.int (6 : Int32)), .val (.ref r35), .val (.ref b38), .val (.int (0 : Int32))] [])) (fun _ k => XS.istore X172.here hx rfl (hb hby at_114) rfl (l' := #[.val (.int kk), .val (.int ln), .val (.int en), .val (.int cv), .val (.int wv), .val (.ref b1), .val (.int (6 : Int32)), .val (.ref r35), .val (.ref b38), .val (.int (0 : Int32))]) rfl k) ?_
    refine OwnFin.adv (B := T172.setTop (mkF m 118 #[.val (.int kk), .val (.int ln), .val (.int en), .val (.int cv), .val (.int wv), .val (.ref b1), .val (.int (6 : Int32)), .val (.ref r35), .val (.ref b38), .val (.int (0 : Int32))] [(.ref b38)])) (fun _ k => XS.aload X172.here hx rfl (hb hby at_116) rfl rfl k) ?_
    have Old185 : Old Z n0 T172.heap := ((Old170.keep K169 all0).keep K172 (allS (by omega) all0))
    have Fv186_15 : Exa Z T172.heap b38 "com/example/notional/notional/io/JsonValue" := (Fv173_14.keep K172)
    obtain ⟨cq184, kq184, q184a, q184b, q184c⟩ := isOf hZ rfl Fv186_15
    obtain ⟨_, _, ⟨T184, L184, k184, n184⟩, -, X184, ⟨Lc184, hQ184, l184, y184, z184⟩, st184⟩ := X172.virtualBack hx (y := (⟨"com/example/notional/notional/io/JsonValue", "isString", "()Z"⟩ : MethodName)) (z := (⟨"com/example/notional/notional/io/JsonValue", "isString", "()Z"⟩ : MethodName)) hown (mvT hZ (hw _ (List.mem_of_getElem? (i := 82) rfl))) (mvT hZ (hw _ (List.mem_of_getElem? (i := 83) rfl))) (notFace_of_selects (args := #[]) (mvT hZ (hw _ (List.mem_of_getElem? (i := 85) rfl)))) (mvT hZ (hw _ (List.mem_of_getElem? (i := 85) rfl))) (mvT hZ (hw _ (List.mem_of_getElem? (i := 84) rfl))) (by decide) (backOf (W := 0) (own_isStr l Z a0 hw [] b38 q6 q2 T172.heap n0 (by omega) Fa172 (own_staK S_q2 Old185)) hZ (hw _ (List.mem_of_getElem? (i := 86) rfl)) (hw _ (List.mem_of_getElem? (i := 48) rfl)) (by decide) (by decide)) q184a q184c (g := (mkF m 118 #[.val (.int kk), .val (.int ln), .val (.int en), .val (.int cv), .val (.int wv), .val (.ref b1), .val (.int (6 : Int32)), .val (.ref r35), .val (.ref b38), .val (.int (0 : Int32))] [(.ref b38)])) rfl (by rw [hml]; rfl) (Steps.refl _) (argsL := []) (rest := []) (lenOf own_pd_x28x29Z rfl) rfl (by show 2 * 0 + _ ≤ _; exact Nat.le_of_eq rfl) (hb hby at_118) (fun _ _ => ⟨rfl, rfl, (by decide : 9 + 0 ≤ _), (by decide : 39 + 0 ≤ _)⟩)
    dsimp only [Pt.U, Pt.locs, Pt.cells, Pt.slots] at X184 l184 y184 z184 st184 hQ184
    subst l184 y184 z184
    obtain ⟨rfl, N184q, eh184⟩ := hQ184
    have N184 := Fr.app N172 N184q
    refine OwnFin.adv (B := T184.setTop (mkF m 121 #[.val (.int kk), .val (.int ln), .val (.int en), .val (.int cv), .val (.int wv), .val (.ref b1), .val (.int (6 : Int32)), .val (.ref r35), .val (.ref b38), .val (.int (0 : Int32))] [(.int (if q6 = q2 then (1 : Int32) else 0))])) (fun _ k => st184.trans k) ?_
    refine OwnFin.adv (B := T184.setTop (mkF m 123 #[.val (.int kk), .val (.int ln), .val (.int en), .val (.int cv), .val (.int wv), .val (.ref b1), .val (.int (6 : Int32)), .val (.ref r35), .val (.ref b38), .val (.int (0 : Int32))] [(.int (0 : Int32)), (.int (if q6 = q2 then (1 : Int32) else 0))])) (fun _ k => XS.iload X184.here hx rfl (hb hby at_121) rfl k) ?_
    have hc123_71 : (if q6 = q2 then (1 : Int32) else 0) = (0 : Int32) := by simp [ne_q6]
    refine OwnFin.adv (B := T184.setTop (mkF m 128 #[.val (.int kk), .val (.int ln), .val (.int en), .val (.int cv), .val (.int wv), .val (.ref b1), .val (.int (6 : Int32)), .val (.ref r35), .val (.ref b38), .val (.int (0 : Int32))] [])) (fun _ k => XS.icmpYes X184.here hx rfl (pc0 := 123) (pc' := 128) rfl (hb hby at_123) rfl (teq hc123_71).1 (by decide) (by decide) k) ?_
    refine OwnFin.adv (B := T184.setTop (mkF m 130 #[.val (.int kk), .val (.int ln), .val (.int en), .val (.int cv), .val (.int wv), .val (.ref b1), .val (.int (6 : Int32)), .val (.ref r35), .val (.ref b38), .val (.int (0 : Int32))] [(.int (0 : Int32))])) (fun _ k => XS.iload X184.here hx rfl (hb hby at_128) rfl k) ?_
    have hc130_73 : (0 : Int32) = (0 : Int32) := by decide
    refine OwnFin.adv (B := T184.setTop (mkF m 144 #[.val (.int kk), .val (.int ln), .val (.int en), .val (.int cv), .val (.int wv), .val (.ref b1), .val (.int (6 : Int32)), .val (.ref r35), .val (.ref b38), .val (.int (0 : Int32))] [])) (fun _ k => XS.ifYes X184.here hx rfl (pc0 := 130) (pc' := 144) rfl (hb hby at_130) rfl ((if0 _ _).trans (teq hc130_73).1) (by decide) (by decide) k) ?_
    refine OwnFin.adv (B := T184.setTop (mkF m 145 #[.val (.int kk), .val (.int ln), .val (.int en), .val (.int cv), .val (.int wv), .val (.ref b1), .val (.int (6 : Int32)), .val (.ref r35), .val (.ref b38), .val (.int (0 : Int32))] [(.int (1 : Int32))])) (fun _ k => XS.iconst X184.here hx rfl (hb hby at_144) k) ?_
    obtain ⟨fs, hr, hrun, hended, hE⟩ := X184.leaveW hS42 (by rw [eh184]; omega) (v := some (.int (1 : Int32))) (fun h => by rw [Bd.returns] at h; cases h)
    refine OwnFin.leaf hP' ⟨_, _, retN X184 hx (t := .boolean) Bd.returns (by simp) (hb hby at_145) hr, hrun, hended, _, _, rfl, ?_, own_monoW hE (by decide) (by decide)⟩
    exact ⟨rfl, N184⟩
  ·
    rw [show ((kk &&& (7 : Int32)) : Int32) = (7 : Int32) from hk]
    have Fv188_13 : Arv Z h42 b1 k1 (.object "com/example/notional/notional/io/JsonValue$Kind") (8 : Int32) [(.ref q0), (.ref q1), (.ref q2), (.ref q3), (.ref q4), (.ref q5), (.ref q6), (.ref q7)] .null := ((((V33.keep K35 nin0).ext E38).ext E40).ext E42)
    obtain ⟨cl187, Ar187, ck187, S187, M187, H187, G187⟩ := id Fv188_13
    have hin187 : ¬ ((7 : Int32) < 0 ∨ cl187.slots.size ≤ ((7 : Int32)).toNatClampNeg) := inb_of S187 ⟨by decide, by decide⟩
    refine OwnFin.adv (B := T42.setTop (mkF m 87 #[.val (.int kk), .val (.int ln), .val (.int en), .val (.int cv), .val (.int wv), .val (.ref b1), .val (.int (7 : Int32)), .val (.ref r35), .unset, .unset] [(.ref q7), (.ref a42), (.ref a40), (.ref b38), (.ref b38)])) (fun _ k => X42.aaload hx (j := (7 : Int32)) (v := (.ref q7)) (by rw [e42]; exact Ar187.1) (State.isArrayOf_alike hZ.alike Ar187.2.1) rfl Ar187.2.2 hin187 (Has.at H187 hin187 rfl) (g := (mkF m 86 #[.val (.int kk), .val (.int ln), .val (.int en), .val (.int cv), .val (.int wv), .val (.ref b1), .val (.int (7 : Int32)), .val (.ref r35), .unset, .unset] [(.int (7 : Int32)), (.ref b1), (.ref a42), (.ref a40), (.ref b38), (.ref b38)])) rfl rfl (hb hby at_86) _ k) ?_
    refine OwnFin.adv (B := T42.setTop (mkF m 88 #[.val (.int kk), .val (.int ln), .val (.int en), .val (.int cv), .val (.int wv), .val (.ref b1), .val (.int (7 : Int32)), .val (.ref r35), .unset, .unset] [(.int ln), (.ref q7), (.ref a42), (.ref a40), (.ref b38), (.ref b38)])) (fun _ k => XS.iloadN X42.here hx rfl (hb hby at_87) rfl k) ?_
    refine OwnFin.adv (B := T42.setTop (mkF m 89 #[.val (.int kk), .val (.int ln), .val (.int en), .val (.int cv), .val (.int wv), .val (.ref b1), .val (.int (7 : Int32)), .val (.ref r35), .unset, .unset] [(.int en), (.int ln), (.ref q7), (.ref a42), (.ref a40), (.ref b38), (.ref b38)])) (fun _ k => XS.iloadN X42.here hx rfl (hb hby at_88) rfl k) ?_
    refine OwnFin.adv (B := T42.setTop (mkF m 91 #[.val (.int kk), .val (.int ln), .val (.int en), .val (.int cv), .val (.int wv), .val (.ref b1), .val (.int (7 : Int32)), .val (.ref r35), .unset, .unset] [(.ref r35), (.int en), (.int ln), (.ref q7), (.ref a42), (.ref a40), (.ref b38), (.ref b38)])) (fun _ k => XS.aload X42.here hx rfl (hb hby at_89) rfl rfl k) ?_
    refine OwnFin.adv (B := T42.setTop (mkF m 93 #[.val (.int kk), .val (.int ln), .val (.int en), .val (.int cv), .val (.int wv), .val (.ref b1), .val (.int (7 : Int32)), .val (.ref r35), .unset, .unset] [(.int wv), (.ref r35), (.int en), (.int ln), (.ref q7), (.ref a42), (.ref a40), (.ref b38), (.ref b38)])) (fun _ k => XS.iload X42.here hx rfl (hb hby at_91) rfl k) ?_
    have Old190 : Old Z n0 h42 := ((((Old36.keep K35 all0).ext E38).ext E40).ext E42)
    obtain ⟨_, _, ⟨T189, L189, k189, n189⟩, -, X189, ⟨Lc189, hQ189, l189, y189, z189⟩, st189⟩ := Jvm.LawKit.callS X42 hx (y := (⟨"java/lang/Integer", "valueOf", "(I)Ljava/lang/Integer;"⟩ : MethodName)) hown (mvT hZ (hw _ (List.mem_of_getElem? (i := 53) rfl))) (mvT hZ (hw _ (List.mem_of_getElem? (i := 54) rfl))) (mvT hZ (hw _ (List.mem_of_getElem? (i := 55) rfl))) (mvT hZ (hw _ (List.mem_of_getElem? (i := 56) rfl))) (by decide) (backOf (W := 8) (own_valueOf l Z a0 hw [] wv ca cl h42 n0 (by omega) Old190 SH SC BX) hZ (hw _ (List.mem_of_getElem? (i := 56) rfl)) (hw _ (List.mem_of_getElem? (i := 55) rfl)) (by decide) (by decide)) (g := (mkF m 93 #[.val (.int kk), .val (.int ln), .val (.int en), .val (.int cv), .val (.int wv), .val (.ref b1), .val (.int (7 : Int32)), .val (.ref r35), .unset, .unset] [(.int wv), (.ref r35), (.int en), (.int ln), (.ref q7), (.ref a42), (.ref a40), (.ref b38), (.ref b38)])) rfl (by rw [hml]; rfl) (argsL := [(.int wv)]) (rest := [(.ref r35), (.int en), (.int ln), (.ref q7), (.ref a42), (.ref a40), (.ref b38), (.ref b38)]) (lenOf own_pd_x28Ix29Ljavax2flangx2fIntegerx3b rfl) rfl (by show 2 * 0 + _ ≤ _; exact Nat.le_of_eq rfl) (hb hby at_93) (fun _ _ => ⟨rfl, e42, (by decide : 8 + 1 ≤ _), (by decide : 38 + 1 ≤ _)⟩)
    dsimp only [Pt.U, Pt.locs, Pt.cells, Pt.slots] at X189 l189 y189 z189 st189 hQ189
    subst l189 y189 z189
    obtain ⟨bx189, rfl, N189q, K189, Ebx189⟩ := hQ189
    have N189 := Fr.app N35 N189q
    have sz191 : h42.size ≤ T189.heap.size := K189.1
    refine OwnFin.adv (B := T189.setTop (mkF m 96 #[.val (.int kk), .val (.int ln), .val (.int en), .val (.int cv), .val (.int wv), .val (.ref b1), .val (.int (7 : Int32)), .val (.ref r35), .unset, .unset] [(.ref bx189), (.ref r35), (.int en), (.int ln), (.ref q7), (.ref a42), (.ref a40), (.ref b38), (.ref b38)])) (fun _ k => st189 _ k) ?_
    refine OwnFin.adv (B := T189.setTop (mkF m 97 #[.val (.int kk), .val (.int ln), .val (.int en), .val (.int cv), .val (.int wv), .val (.ref b1), .val (.int (7 : Int32)), .val (.ref r35), .unset, .unset] [.null, (.ref bx189), (.ref r35), (.int en), (.int ln), (.ref q7), (.ref a42), (.ref a40), (.ref b38), (.ref b38)])) (fun _ k => XS.aconstNull X189.here hx rfl (hb hby at_96) k) ?_
    refine OwnFin.adv (B := T189.setTop (mkF m 98 #[.val (.int kk), .val (.int ln), .val (.int en), .val (.int cv), .val (.int wv), .val (.ref b1), .val (.int (7 : Int32)), .val (.ref r35), .unset, .unset] [.null, .null, (.ref bx189), (.ref r35), (.int en), (.int ln), (.ref q7), (.ref a42), (.ref a40), (.ref b38), (.ref b38)])) (fun _ k => XS.aconstNull X189.here hx rfl (hb hby at_97) k) ?_
    have Fv193_14 : Exa Z T189.heap b38 "com/example/notional/notional/io/JsonValue" := (((A38.ext E40).ext E42).keep K189)
    have Fv194_14 : Fld Z T189.heap b38 "com/example/notional/notional/io/JsonValue" "file" "Ljava/lang/String;" .null := (((F38_file.ext E40).ext E42).keep K189 nin0)
    have Fv195_14 : Fld Z T189.heap b38 "com/example/notional/notional/io/JsonValue" "path" "Ljava/lang/String;" .null := (((F38_path.ext E40).ext E42).keep K189 nin0)
    have Fv196_14 : Fld Z T189.heap b38 "com/example/notional/notional/io/JsonValue" "kind" "Lcom/example/notional/notional/io/JsonValue$Kind;" .null := (((F38_kind.ext E40).ext E42).keep K189 nin0)
    have Fv197_14 : Fld Z T189.heap b38 "com/example/notional/notional/io/JsonValue" "line" "I" (.int (0 : Int32)) := (((F38_line.ext E40).ext E42).keep K189 nin0)
    have Fv198_14 : Fld Z T189.heap b38 "com/example/notional/notional/io/JsonValue" "endLine" "I" (.int (0 : Int32)) := (((F38_endLine.ext E40).ext E42).keep K189 nin0)
    have Fv199_14 : Fld Z T189.heap b38 "com/example/notional/notional/io/JsonValue" "text" "Ljava/lang/String;" .null := (((F38_text.ext E40).ext E42).keep K189 nin0)
    have Fv200_14 : Fld Z T189.heap b38 "com/example/notional/notional/io/JsonValue" "wholeNumber" "Ljava/lang/Integer;" .null := (((F38_wholeNumber.ext E40).ext E42).keep K189 nin0)
    have Fv201_14 : Fld Z T189.heap b38 "com/example/notional/notional/io/JsonValue" "members" "Ljava/util/Map;" .null := (((F38_members.ext E40).ext E42).keep K189 nin0)
    have Fv202_14 : Fld Z T189.heap b38 "com/example/notional/notional/io/JsonValue" "elements" "Ljava/util/List;" .null := (((F38_elements.ext E40).ext E42).keep K189 nin0)
    obtain ⟨_, _, ⟨T192, L192, k192, n192⟩, -, X192, ⟨Lc192, hQ192, l192, y192, z192⟩, st192⟩ := X189.specialBack hx (y := (⟨"com/example/notional/notional/io/JsonValue", "<init>", "(Ljava/lang/String;Ljava/lang/String;Lcom/example/notional/notional/io/JsonValue$Kind;IILjava/lang/String;Ljava/lang/Integer;Ljava/util/Map;Ljava/util/List;)V"⟩ : MethodName)) rfl hown (mvT hZ (hw _ (List.mem_of_getElem? (i := 60) rfl))) (mvT hZ (hw _ (List.mem_of_getElem? (i := 61) rfl))) (mvT hZ (hw _ (List.mem_of_getElem? (i := 62) rfl))) (by decide) (backOf (W := 1) (own_jInit l Z a0 hw [] b38 a40 a42 q7 ln en r35 bx189 _ _ _ _ _ _ _ _ _ T189.heap n0 (by omega) Fv193_14 Fv194_14 Fv195_14 Fv196_14 Fv197_14 Fv198_14 Fv199_14 Fv200_14 Fv201_14 Fv202_14 (by omega)) hZ (hw _ (List.mem_of_getElem? (i := 62) rfl)) (hw _ (List.mem_of_getElem? (i := 48) rfl)) (by decide) (by decide)) (g := (mkF m 98 #[.val (.int kk), .val (.int ln), .val (.int en), .val (.int cv), .val (.int wv), .val (.ref b1), .val (.int (7 : Int32)), .val (.ref r35), .unset, .unset] [.null, .null, (.ref bx189), (.ref r35), (.int en), (.int ln), (.ref q7), (.ref a42), (.ref a40), (.ref b38), (.ref b38)])) rfl (by rw [hml]; rfl) (Steps.refl _) (a := b38) (argsL := [(.ref a40), (.ref a42), (.ref q7), (.int ln), (.int en), (.ref r35), (.ref bx189), .null, .null]) (rest := [(.ref b38)]) (lenOf own_pd_x28Ljavax2flangx2fStringx3bLjavax2flangx2fStringx3bLcomx2fexamplex2fnotionalx2fnotionalx2fiox2fJsonValuex24Kindx3bIILjavax2flangx2fStringx3bLjavax2flangx2fIntegerx3bLjavax2futilx2fMapx3bLjavax2futilx2fListx3bx29V rfl) rfl (by show 2 * 0 + _ ≤ _; exact Nat.le_of_eq rfl) (hb hby at_98) (fun _ _ => ⟨rfl, rfl, (by decide : 9 + 0 ≤ _), (by decide : 39 + 0 ≤ _)⟩)
    dsimp only [Pt.U, Pt.locs, Pt.cells, Pt.slots] at X192 l192 y192 z192 st192 hQ192
    subst l192 y192 z192
    obtain ⟨rfl, N192q, K192, Fa192, Fb192⟩ := hQ192
    have N192 := Fr.app N189 N192q
    have sz203 : T189.heap.size ≤ T192.heap.size := K192.1
    refine OwnFin.adv (B := T192.setTop (mkF m 101 #[.val (.int kk), .val (.int ln), .val (.int en), .val (.int cv), .val (.int wv), .val (.ref b1), .val (.int (7 : Int32)), .val (.ref r35), .unset, .unset] [(.ref b38)])) (fun _ k => st192.trans k) ?_
    refine OwnFin.adv (B := T192.setTop (mkF m 103 #[.val (.int kk), .val (.int ln), .val (.int en), .val (.int cv), .val (.int wv), .val (.ref b1), .val (.int (7 : Int32)), .val (.ref r35), .val (.ref b38), .unset] [])) (fun _ k => XS.astore X192.here hx rfl (hb hby at_101) rfl rfl (l' := #[.val (.int kk), .val (.int ln), .val (.int en), .val (.int cv), .val (.int wv), .val (.ref b1), .val (.int (7 : Int32)), .val (.ref r35), .val (.ref b38), .unset]) rfl k) ?_
    refine OwnFin.adv (B := T192.setTop (mkF m 105 #[.val (.int kk), .val (.int ln), .val (.int en), .val (.int cv), .val (.int wv), .val (.ref b1), .val (.int (7 : Int32)), .val (.ref r35), .val (.ref b38), .unset] [(.int (7 : Int32))])) (fun _ k => XS.iload X192.here hx rfl (hb hby at_103) rfl k) ?_
    refine OwnFin.adv (B := T192.setTop (mkF m 106 #[.val (.int kk), .val (.int ln), .val (.int en), .val (.int cv), .val (.int wv), .val (.ref b1), .val (.int (7 : Int32)), .val (.ref r35), .val (.ref b38), .unset] [(.int (2 : Int32)), (.int (7 : Int32))])) (fun _ k => XS.iconst X192.here hx rfl (hb hby at_105) k) ?_
    have hc106_65 : ¬ ((7 : Int32) = (2 : Int32)) := by decide
    refine OwnFin.adv (B := T192.setTop (mkF m 113 #[.val (.int kk), .val (.int ln), .val (.int en), .val (.int cv), .val (.int wv), .val (.ref b1), .val (.int (7 : Int32)), .val (.ref r35), .val (.ref b38), .unset] [])) (fun _ k => XS.icmpYes X192.here hx rfl (pc0 := 106) (pc' := 113) rfl (hb hby at_106) rfl (feq hc106_65).2 (by decide) (by decide) k) ?_
    refine OwnFin.adv (B := T192.setTop (mkF m 114 #[.val (.int kk), .val (.int ln), .val (.int en), .val (.int cv), .val (.int wv), .val (.ref b1), .val (.int (7 : Int32)), .val (.ref r35), .val (.ref b38), .unset] [(.int (0 : Int32))])) (fun _ k => XS.iconst X192.here hx rfl (hb hby at_113) k) ?_
    refine OwnFin.adv (B := T192.setTop (mkF m 116 #[.val (.int kk), .val (.int ln), .val (.int en), .val (.int cv), .val (.int wv), .val (.ref b1), .val (.int (7 : Int32)), .val (.ref r35), .val (.ref b38), .val (.int (0 : Int32))] [])) (fun _ k => XS.istore X192.here hx rfl (hb hby at_114) rfl (l' := #[.val (.int kk), .val (.int ln), .val (.int en), .val (.int cv), .val (.int wv), .val (.ref b1), .val (.int (7 : Int32)), .val (.ref r35), .val (.ref b38), .val (.int (0 : Int32))]) rfl k) ?_
    refine OwnFin.adv (B := T192.setTop (mkF m 118 #[.val (.int kk), .val (.int ln), .val (.int en), .val (.int cv), .val (.int wv), .val (.ref b1), .val (.int (7 : Int32)), .val (.ref r35), .val (.ref b38), .val (.int (0 : Int32))] [(.ref b38)])) (fun _ k => XS.aload X192.here hx rfl (hb hby at_116) rfl rfl k) ?_
    have Old205 : Old Z n0 T192.heap := ((Old190.keep K189 all0).keep K192 (allS (by omega) all0))
    have Fv206_15 : Exa Z T192.heap b38 "com/example/notional/notional/io/JsonValue" := (Fv193_14.keep K192)
    obtain ⟨cq204, kq204, q204a, q204b, q204c⟩ := isOf hZ rfl Fv206_15
    obtain ⟨_, _, ⟨T204, L204, k204, n204⟩, -, X204, ⟨Lc204, hQ204, l204, y204, z204⟩, st204⟩ := X192.virtualBack hx (y := (⟨"com/example/notional/notional/io/JsonValue", "isString", "()Z"⟩ : MethodName)) (z := (⟨"com/example/notional/notional/io/JsonValue", "isString", "()Z"⟩ : MethodName)) hown (mvT hZ (hw _ (List.mem_of_getElem? (i := 82) rfl))) (mvT hZ (hw _ (List.mem_of_getElem? (i := 83) rfl))) (notFace_of_selects (args := #[]) (mvT hZ (hw _ (List.mem_of_getElem? (i := 85) rfl)))) (mvT hZ (hw _ (List.mem_of_getElem? (i := 85) rfl))) (mvT hZ (hw _ (List.mem_of_getElem? (i := 84) rfl))) (by decide) (backOf (W := 0) (own_isStr l Z a0 hw [] b38 q7 q2 T192.heap n0 (by omega) Fa192 (own_staK S_q2 Old205)) hZ (hw _ (List.mem_of_getElem? (i := 86) rfl)) (hw _ (List.mem_of_getElem? (i := 48) rfl)) (by decide) (by decide)) q204a q204c (g := (mkF m 118 #[.val (.int kk), .val (.int ln), .val (.int en), .val (.int cv), .val (.int wv), .val (.ref b1), .val (.int (7 : Int32)), .val (.ref r35), .val (.ref b38), .val (.int (0 : Int32))] [(.ref b38)])) rfl (by rw [hml]; rfl) (Steps.refl _) (argsL := []) (rest := []) (lenOf own_pd_x28x29Z rfl) rfl (by show 2 * 0 + _ ≤ _; exact Nat.le_of_eq rfl) (hb hby at_118) (fun _ _ => ⟨rfl, rfl, (by decide : 9 + 0 ≤ _), (by decide : 39 + 0 ≤ _)⟩)
    dsimp only [Pt.U, Pt.locs, Pt.cells, Pt.slots] at X204 l204 y204 z204 st204 hQ204
    subst l204 y204 z204
    obtain ⟨rfl, N204q, eh204⟩ := hQ204
    have N204 := Fr.app N192 N204q
    refine OwnFin.adv (B := T204.setTop (mkF m 121 #[.val (.int kk), .val (.int ln), .val (.int en), .val (.int cv), .val (.int wv), .val (.ref b1), .val (.int (7 : Int32)), .val (.ref r35), .val (.ref b38), .val (.int (0 : Int32))] [(.int (if q7 = q2 then (1 : Int32) else 0))])) (fun _ k => st204.trans k) ?_
    refine OwnFin.adv (B := T204.setTop (mkF m 123 #[.val (.int kk), .val (.int ln), .val (.int en), .val (.int cv), .val (.int wv), .val (.ref b1), .val (.int (7 : Int32)), .val (.ref r35), .val (.ref b38), .val (.int (0 : Int32))] [(.int (0 : Int32)), (.int (if q7 = q2 then (1 : Int32) else 0))])) (fun _ k => XS.iload X204.here hx rfl (hb hby at_121) rfl k) ?_
    have hc123_71 : (if q7 = q2 then (1 : Int32) else 0) = (0 : Int32) := by simp [ne_q7]
    refine OwnFin.adv (B := T204.setTop (mkF m 128 #[.val (.int kk), .val (.int ln), .val (.int en), .val (.int cv), .val (.int wv), .val (.ref b1), .val (.int (7 : Int32)), .val (.ref r35), .val (.ref b38), .val (.int (0 : Int32))] [])) (fun _ k => XS.icmpYes X204.here hx rfl (pc0 := 123) (pc' := 128) rfl (hb hby at_123) rfl (teq hc123_71).1 (by decide) (by decide) k) ?_
    refine OwnFin.adv (B := T204.setTop (mkF m 130 #[.val (.int kk), .val (.int ln), .val (.int en), .val (.int cv), .val (.int wv), .val (.ref b1), .val (.int (7 : Int32)), .val (.ref r35), .val (.ref b38), .val (.int (0 : Int32))] [(.int (0 : Int32))])) (fun _ k => XS.iload X204.here hx rfl (hb hby at_128) rfl k) ?_
    have hc130_73 : (0 : Int32) = (0 : Int32) := by decide
    refine OwnFin.adv (B := T204.setTop (mkF m 144 #[.val (.int kk), .val (.int ln), .val (.int en), .val (.int cv), .val (.int wv), .val (.ref b1), .val (.int (7 : Int32)), .val (.ref r35), .val (.ref b38), .val (.int (0 : Int32))] [])) (fun _ k => XS.ifYes X204.here hx rfl (pc0 := 130) (pc' := 144) rfl (hb hby at_130) rfl ((if0 _ _).trans (teq hc130_73).1) (by decide) (by decide) k) ?_
    refine OwnFin.adv (B := T204.setTop (mkF m 145 #[.val (.int kk), .val (.int ln), .val (.int en), .val (.int cv), .val (.int wv), .val (.ref b1), .val (.int (7 : Int32)), .val (.ref r35), .val (.ref b38), .val (.int (0 : Int32))] [(.int (1 : Int32))])) (fun _ k => XS.iconst X204.here hx rfl (hb hby at_144) k) ?_
    obtain ⟨fs, hr, hrun, hended, hE⟩ := X204.leaveW hS42 (by rw [eh204]; omega) (v := some (.int (1 : Int32))) (fun h => by rw [Bd.returns] at h; cases h)
    refine OwnFin.leaf hP' ⟨_, _, retN X204 hx (t := .boolean) Bd.returns (by simp) (hb hby at_145) hr, hrun, hended, _, _, rfl, ?_, own_monoW hE (by decide) (by decide)⟩
    exact ⟨rfl, N204⟩
set_option maxRecDepth 65536 in
set_option maxHeartbeats 40000000 in
theorem own_comes {Post : Tables → Env → Array Value → State → Outcome → State → Prop} (hpost : ∀ tb e args s v u, (limb_1_1.after args s (.returned v) u = true ∧ limb_1_2.after args s (.returned v) u = true ∧ True) → ReturnedEndW s (.returned v) u (Jvm.fieldLocs frame_1_writes args s ++ Jvm.arrayLocs frame_1_arrays args s ++ Jvm.staticLocs frame_1_statics s) 24 2176 → Post tb e args s (.returned v) u) :
    ArmFor flags0 classFile x code maxLocals ret World_1 tables_1 room_1 Calls_1 rest_1 Pre_1 Post := by
  intro l hfl _ _ p e ha hc hk s m args below hf hA hF happ hP
  obtain ⟨hcalls, hrest, hpre⟩ := hP
  obtain ⟨-, -, -, hnamed, -, -, -, hat⟩ := (Spec.applies_iff hf).mp happ
  obtain ⟨hg, hn⟩ := and_e (Cond.before_iff.mp (show (Jvm.Cond.and given_1 narrow_1).before args s = true from hpre))
  obtain ⟨u1, u2⟩ := and_e hg
  obtain ⟨u3, u4⟩ := and_e u2
  obtain ⟨u5, u6⟩ := and_e u4
  obtain ⟨u7, u8⟩ := and_e u6
  obtain ⟨u9, u10⟩ := and_e u8
  obtain ⟨u11, u12⟩ := and_e hn
  obtain ⟨u13, u14⟩ := and_e u12
  obtain ⟨u15, u16⟩ := and_e u14
  obtain ⟨u17, u18⟩ := and_e u16
  obtain ⟨u19, u20⟩ := and_e u18
  obtain ⟨u21, u22⟩ := and_e u20
  obtain ⟨u23, u24⟩ := and_e u22
  obtain ⟨u25, u26⟩ := and_e u24
  obtain ⟨u27, u28⟩ := and_e u26
  obtain ⟨u29, u30⟩ := and_e u28
  obtain ⟨u31, u32⟩ := and_e u30
  obtain ⟨u33, u34⟩ := and_e u32
  obtain ⟨u35, u36⟩ := and_e u34
  obtain ⟨u37, u38⟩ := and_e u36
  obtain ⟨u39, u40⟩ := and_e u38
  obtain ⟨w0, w1, w2, w3, w4, rfl⟩ : ∃ w0 w1 w2 w3 w4 : Value, args = #[w0, w1, w2, w3, w4] := by
    have hs : args.size = 5 := by simpa [Cond.value, given_1] using u1
    obtain ⟨L⟩ := args
    match L, hs with
    | [w0, w1, w2, w3, w4], _ => exact ⟨w0, w1, w2, w3, w4, rfl⟩
  have hw := fun d (hd : d ∈ tables_1) => atoms_spec (ws := Jvm.Cond.code x code maxLocals ret :: tables_1) hat d (List.mem_cons_of_mem _ hd)
  have hfit : Fit s := fun {y c} hc i hi => by
    obtain ⟨ha, rfl⟩ := Array.getElem?_eq_some_iff.mp hc
    have q := List.all_eq_true.mp ((Array.all_eq_true_iff_forall_mem.mp hF) _ (Array.getElem_mem ha)) i (List.mem_range.mpr hi)
    simpa [Array.getElem?_eq_getElem hi] using q
  obtain ⟨hsets, hown0⟩ := atoms_of _ (rest_1_c_eq ▸ (show rest_1_c.before _ s = true from hrest))
  have hr0 := Cond.before_iff.mp hown0
  obtain ⟨i0, ei0⟩ := is_v u3
  obtain rfl : w0 = (.int i0) := Option.some.inj ei0
  obtain ⟨i1, ei1⟩ := is_v u5
  obtain rfl : w1 = (.int i1) := Option.some.inj ei1
  obtain ⟨i2, ei2⟩ := is_v u7
  obtain rfl : w2 = (.int i2) := Option.some.inj ei2
  obtain ⟨i3, ei3⟩ := is_v u9
  obtain rfl : w3 = (.int i3) := Option.some.inj ei3
  obtain ⟨i4, ei4⟩ := is_v u10
  obtain rfl : w4 = (.int i4) := Option.some.inj ei4
  obtain ⟨zc, ezc⟩ := is_v (Cond.before_iff.mp (hsets _ (List.mem_of_getElem? (i := 1) rfl)))
  have SCS := Sta.start ezc (Or.inl (hsets _ (List.mem_of_getElem? (i := 0) rfl)))
  have hzc : ¬ zc = 0 := fun q => by
    have h := not_v (Cond.before_iff.mp (hsets _ (List.mem_of_getElem? (i := 2) rfl)))
    rw [Cond.eq_ints ezc (Term.int_eval _), q] at h
    simp at h
  have SH := Sta.start (own_eqI (Cond.before_iff.mp (hsets _ (List.mem_of_getElem? (i := 12) rfl)))) (Or.inr ⟨(hw _ (List.mem_of_getElem? (i := 58) rfl)), (hsets _ (List.mem_of_getElem? (i := 9) rfl))⟩)
  obtain ⟨ca, cl, SC, BX⟩ := own_boxes (Z := s) (args := #[.int i0, .int i1, .int i2, .int i3, .int i4]) (fun d hd => by simp only [List.mem_cons, List.not_mem_nil, or_false] at hd; rcases hd with rfl | rfl | rfl <;> first | exact (hsets _ (List.mem_of_getElem? (i := 13) rfl)) | exact (hsets _ (List.mem_of_getElem? (i := 15) rfl)) | exact (hsets _ (List.mem_of_getElem? (i := 16) rfl))) (hw _ (List.mem_of_getElem? (i := 58) rfl)) (hsets _ (List.mem_of_getElem? (i := 11) rfl))
  obtain ⟨q0, ev_q0⟩ := exa_v u11
  have E_q0 := Exa.start ev_q0 u11
  have S_q0 := Sta.start ev_q0 (Or.inr ⟨(hw _ (List.mem_of_getElem? (i := 3) rfl)), (hw _ (List.mem_of_getElem? (i := 4) rfl))⟩)
  obtain ⟨q1, ev_q1⟩ := exa_v u13
  have E_q1 := Exa.start ev_q1 u13
  have S_q1 := Sta.start ev_q1 (Or.inr ⟨(hw _ (List.mem_of_getElem? (i := 3) rfl)), (hw _ (List.mem_of_getElem? (i := 7) rfl))⟩)
  obtain ⟨q2, ev_q2⟩ := exa_v u15
  have E_q2 := Exa.start ev_q2 u15
  have S_q2 := Sta.start ev_q2 (Or.inr ⟨(hw _ (List.mem_of_getElem? (i := 3) rfl)), (hw _ (List.mem_of_getElem? (i := 9) rfl))⟩)
  obtain ⟨q3, ev_q3⟩ := exa_v u17
  have E_q3 := Exa.start ev_q3 u17
  have S_q3 := Sta.start ev_q3 (Or.inr ⟨(hw _ (List.mem_of_getElem? (i := 3) rfl)), (hw _ (List.mem_of_getElem? (i := 11) rfl))⟩)
  obtain ⟨q4, ev_q4⟩ := exa_v u19
  have E_q4 := Exa.start ev_q4 u19
  have S_q4 := Sta.start ev_q4 (Or.inr ⟨(hw _ (List.mem_of_getElem? (i := 3) rfl)), (hw _ (List.mem_of_getElem? (i := 13) rfl))⟩)
  obtain ⟨q5, ev_q5⟩ := exa_v u21
  have E_q5 := Exa.start ev_q5 u21
  have S_q5 := Sta.start ev_q5 (Or.inr ⟨(hw _ (List.mem_of_getElem? (i := 3) rfl)), (hw _ (List.mem_of_getElem? (i := 15) rfl))⟩)
  obtain ⟨q6, ev_q6⟩ := exa_v u23
  have E_q6 := Exa.start ev_q6 u23
  have S_q6 := Sta.start ev_q6 (Or.inr ⟨(hw _ (List.mem_of_getElem? (i := 3) rfl)), (hw _ (List.mem_of_getElem? (i := 17) rfl))⟩)
  obtain ⟨q7, ev_q7⟩ := exa_v u25
  have E_q7 := Exa.start ev_q7 u25
  have S_q7 := Sta.start ev_q7 (Or.inr ⟨(hw _ (List.mem_of_getElem? (i := 3) rfl)), (hw _ (List.mem_of_getElem? (i := 19) rfl))⟩)
  have F_q0 := own_fldI ev_q0 u27
  have F_q1 := own_fldI ev_q1 u40
  have F_q2 := own_fldI ev_q2 u29
  have F_q3 := own_fldI ev_q3 u31
  have F_q4 := own_fldI ev_q4 u39
  have F_q5 := own_fldI ev_q5 u37
  have F_q6 := own_fldI ev_q6 u35
  have F_q7 := own_fldI ev_q7 u33
  have ne_q0 : ¬ (q0 = q2) := Fld.ne F_q0 F_q2 (by decide)
  have ne_q1 : ¬ (q1 = q2) := Fld.ne F_q1 F_q2 (by decide)
  have ne_q3 : ¬ (q3 = q2) := Fld.ne F_q3 F_q2 (by decide)
  have ne_q4 : ¬ (q4 = q2) := Fld.ne F_q4 F_q2 (by decide)
  have ne_q5 : ¬ (q5 = q2) := Fld.ne F_q5 F_q2 (by decide)
  have ne_q6 : ¬ (q6 = q2) := Fld.ne F_q6 F_q2 (by decide)
  have ne_q7 : ¬ (q7 = q2) := Fld.ne F_q7 F_q2 (by decide)
  obtain ⟨n, o, h1, h2, h3, _, L, rfl, ⟨rfl, N⟩, hq⟩ := own_rm0 l s _ hw tables_1 i0 i1 i2 i3 i4 zc ca cl q0 q1 q2 q3 q4 q5 q6 q7 s.heap s.heap.size (Nat.le_refl _) (Old.start s) SCS hzc SH SC BX S_q0 S_q1 S_q2 S_q3 S_q4 S_q5 S_q6 S_q7 E_q0 E_q1 E_q2 E_q3 E_q4 E_q5 E_q6 E_q7 ne_q0 ne_q1 ne_q3 ne_q4 ne_q5 ne_q6 ne_q7 p e ha hc hk s m _ below hf ((Spec.applies_iff_loose hf).mp happ).1 ⟨rfl, State.Warmed39.refl s, rfl⟩ trivial
  refine ⟨n, _, h1, h2, h3, hpost _ _ _ _ _ _ ⟨Cond.after_iff.mpr rfl, Cond.after_iff.mpr (eq_i res_at (Term.int_eval (1)) rfl), trivial⟩ ⟨hq.1, hq.2.1, hq.2.2.1, (hq.2.2.2.sift fun y hy => Or.inr (N y hy)).mono (by decide) (by decide)⟩⟩
theorem main_1_1 : Claimed_1_1 := own_comes fun _ _ _ _ _ _ h hF => ⟨h.1, hF⟩
theorem main_1_2 : Claimed_1_2 := own_comes fun _ _ _ _ _ _ h hF => ⟨h.2.1, hF⟩
end Jvm.Pilot.@@N@@
namespace Jvm.Pilot.@@N@@
open Jvm Jvm.ClassFile Sem Op Lib Jvm.Free Jvm.Stand Jvm.Pilot.@@N@@.Jvm.D
/-! MADE BY PROGRAM (witnessworld.py) out of the Statement's table words and the real class files: 24 classes; the members and pool entries that the words name. The judged class is class 1, her method 1. -/
namespace start1
open Jvm.ClassFile
def u (s : String) : CpInfo := .utf8 (stringToUtf16 s)
/-- a pool by its gaps: so many unusable entries, then the entry; so many at the end -/
def gap : Nat → List CpInfo → List CpInfo
  | 0, r => r
  | n + 1, r => .unusable :: gap n r
def poolList (es : List (Nat × CpInfo)) (last : Nat) : List CpInfo := es.foldr (fun e r => gap e.1 (e.2 :: r)) (gap last [])
def pool (es : List (Nat × CpInfo)) (last : Nat) : Array CpInfo := ⟨poolList es last⟩
def fileOf (pool : Array CpInfo) (this : Nat) (attrs : Array Attribute := #[]) (ms : Array MethodInfo := #[]) (fl : Nat := 33) (sup : Nat := 0) (ifs : Array Nat := #[]) (fds : Array FieldInfo := #[]) : ClassFile where
  minorVersion := 0
  majorVersion := 65
  constantPool := pool
  accessFlags := fl
  thisClass := this
  superClass := sup
  interfaces := ifs
  fields := fds
  methods := ms
  attributes := attrs
def plain (name : String) (sup : Option ClassId) : Class where
  name := name
  kind := .ordinary
  loader := none
  accessFlags := 33
  super := sup
  interfaces := #[]
  cf := none
  fields := #[]
  methods := #[]
  instanceTypes := #[]
  staticTypes := #[]
  resolved := #[]
  callSites := []
  init := .initialized
  statics := none
  mirror := none

def pool0 : Array CpInfo := pool [(5, u "<init>"), (0, u "()V"), (1, .class_ 10), (1, u "java/lang/Object")] 113

def k0c0 : Code := { maxStack := 0, maxLocals := 1, code := object_method_1_code, exceptionTable := #[], attributes := #[] }
def k0m0 : Method := { name := "<init>", desc := "()V", sig := { parameters := [], returnType := none }, accessFlags := 1, code := some k0c0 }
/-- java/lang/Object -/
def k0 : Class := { plain "java/lang/Object" none with
  accessFlags := 33
  interfaces := #[]
  cf := some (fileOf pool0 8 #[] #[{ accessFlags := 1, nameIndex := 5, descriptorIndex := 6, attributes := #[] }] 33 0 #[] #[])
  fields := #[]
  methods := #[k0m0]
  instanceTypes := #[]
  staticTypes := #[]
  resolved := Array.replicate 124 none
  statics := none }

def pool1 : Array CpInfo := pool [(2, .class_ 4), (1, u "java/lang/Object"), (0, u "<init>"), (0, u "()V"), (0, .class_ 8), (0, u "com/example/notional/notional/io/JsonValue$Kind"), (0, .fieldref 7 10), (0, .nameAndType 11 12), (0, u "OBJECT"), (0, u "Lcom/example/notional/notional/io/JsonValue$Kind;"), (0, .fieldref 7 14), (0, .nameAndType 15 12), (0, u "LIST"), (0, .fieldref 7 17), (0, .nameAndType 18 12), (0, u "STRING"), (0, .fieldref 7 20), (0, .nameAndType 21 12), (0, u "INTEGER"), (0, .fieldref 7 23), (0, .nameAndType 24 12), (0, u "NUMBER"), (0, .fieldref 7 26), (0, .nameAndType 27 12), (0, u "TRUE"), (0, .fieldref 7 29), (0, .nameAndType 30 12), (0, u "FALSE"), (0, .fieldref 7 32), (0, .nameAndType 33 12), (0, u "NULL"), (0, .methodref 35 36), (0, .class_ 37), (0, .nameAndType 38 39), (0, u "java/lang/String"), (0, u "valueOf"), (0, u "(C)Ljava/lang/String;"), (0, .class_ 41), (0, u "com/example/notional/notional/io/JsonValue"), (0, .string 43), (0, u "f"), (0, .string 45), (0, u "p"), (0, .methodref 47 48), (0, .class_ 49), (0, .nameAndType 38 50), (0, u "java/lang/Integer"), (0, u "(I)Ljava/lang/Integer;"), (0, .methodref 40 52), (0, .nameAndType 5 53), (0, u "(Ljava/lang/String;Ljava/lang/String;Lcom/example/notional/notional/io/JsonValue$Kind;IILjava/lang/String;Ljava/lang/Integer;Ljava/util/Map;Ljava/util/List;)V"), (0, .methodref 40 55), (0, .nameAndType 56 57), (0, u "isString"), (0, u "()Z"), (0, .methodref 40 59), (0, .nameAndType 60 61), (0, u "string"), (0, u "()Ljava/lang/String;"), (0, .methodref 35 63), (0, .nameAndType 64 65), (0, u "equals"), (0, u "(Ljava/lang/Object;)Z"), (0, .class_ 67), (0, u "com/example/notional/notional/io/JsonValueIsStringPinLaw"), (2, u "law"), (0, u "(IIIII)Z")] 10

def k1m0 : Method := { name := "<init>", desc := "()V", sig := { parameters := [], returnType := none }, accessFlags := 1, code := none }
def k1c1 : Code := { maxStack := 11, maxLocals := 10, code := code, exceptionTable := #[], attributes := #[] }
def k1m1 : Method := { name := "law", desc := "(IIIII)Z", sig := { parameters := [.int, .int, .int, .int, .int], returnType := some .boolean }, accessFlags := 9, code := some k1c1 }
/-- com/example/notional/notional/io/JsonValueIsStringPinLaw -/
def k1 : Class := { plain "com/example/notional/notional/io/JsonValueIsStringPinLaw" (some 0) with
  accessFlags := 49
  interfaces := #[]
  cf := some (fileOf pool1 66 #[] #[{ accessFlags := 1, nameIndex := 5, descriptorIndex := 6, attributes := #[] }, { accessFlags := 9, nameIndex := 70, descriptorIndex := 71, attributes := #[] }] 49 2 #[] #[])
  fields := #[]
  methods := #[k1m0, k1m1]
  instanceTypes := #[]
  staticTypes := #[]
  resolved := Array.replicate 82 none
  statics := none }

def pool2 : Array CpInfo := pool [(1, .class_ 2), (0, u "java/lang/constant/Constable"), (0, .class_ 4), (0, u "java/lang/Object")] 6

/-- java/lang/constant/Constable -/
def k2 : Class := { plain "java/lang/constant/Constable" (some 0) with
  accessFlags := 1537
  interfaces := #[]
  cf := some (fileOf pool2 1 #[] #[] 1537 3 #[] #[])
  fields := #[]
  methods := #[]
  instanceTypes := #[]
  staticTypes := #[]
  resolved := Array.replicate 11 none
  statics := none }

def pool3 : Array CpInfo := pool [(1, .class_ 2), (0, u "java/lang/Comparable"), (0, .class_ 4), (0, u "java/lang/Object")] 7

/-- java/lang/Comparable -/
def k3 : Class := { plain "java/lang/Comparable" (some 0) with
  accessFlags := 1537
  interfaces := #[]
  cf := some (fileOf pool3 1 #[] #[] 1537 3 #[] #[])
  fields := #[]
  methods := #[]
  instanceTypes := #[]
  staticTypes := #[]
  resolved := Array.replicate 12 none
  statics := none }

def pool4 : Array CpInfo := pool [(1, .class_ 2), (0, u "java/io/Serializable"), (0, .class_ 4), (0, u "java/lang/Object")] 2

/-- java/io/Serializable -/
def k4 : Class := { plain "java/io/Serializable" (some 0) with
  accessFlags := 1537
  interfaces := #[]
  cf := some (fileOf pool4 1 #[] #[] 1537 3 #[] #[])
  fields := #[]
  methods := #[]
  instanceTypes := #[]
  staticTypes := #[]
  resolved := Array.replicate 7 none
  statics := none }

def pool5 : Array CpInfo := pool [(2, .class_ 4), (1, u "java/lang/Enum"), (0, u "name"), (0, u "Ljava/lang/String;"), (2, u "ordinal"), (0, u "I"), (1, .class_ 14), (1, u "java/lang/Object"), (4, u "hash"), (86, .class_ 108), (1, u "java/lang/Enum$EnumDesc"), (2, .class_ 112), (0, u "java/lang/constant/Constable"), (0, .class_ 114), (0, u "java/lang/Comparable"), (0, .class_ 116), (0, u "java/io/Serializable")] 87

/-- java/lang/Enum -/
def k5 : Class := { plain "java/lang/Enum" (some 0) with
  accessFlags := 1057
  interfaces := #[2, 3, 4]
  cf := some (fileOf pool5 2 #[.nestMembers #[106]] #[] 1057 12 #[111, 113, 115] #[{ accessFlags := 18, nameIndex := 5, descriptorIndex := 6, attributes := #[] }, { accessFlags := 18, nameIndex := 9, descriptorIndex := 10, attributes := #[] }, { accessFlags := 2, nameIndex := 19, descriptorIndex := 10, attributes := #[] }])
  fields := #[{ name := "name", type := (.object "java/lang/String"), accessFlags := 18, slot := 0, constantValue := 0 }, { name := "ordinal", type := .int, accessFlags := 18, slot := 1, constantValue := 0 }, { name := "hash", type := .int, accessFlags := 2, slot := 2, constantValue := 0 }]
  methods := #[]
  instanceTypes := #[(.object "java/lang/String"), .int, .int]
  staticTypes := #[]
  resolved := Array.replicate 204 none
  statics := none }

def pool6 : Array CpInfo := pool [(1, .class_ 2), (0, u "com/example/notional/notional/io/JsonValue$Kind"), (2, u "OBJECT"), (0, u "Lcom/example/notional/notional/io/JsonValue$Kind;"), (2, u "LIST"), (2, u "STRING"), (2, u "INTEGER"), (2, u "NUMBER"), (2, u "TRUE"), (2, u "FALSE"), (2, u "NULL"), (2, u "$VALUES"), (0, u "[Lcom/example/notional/notional/io/JsonValue$Kind;"), (6, .class_ 40), (1, u "java/lang/Enum"), (31, .class_ 73), (0, u "com/example/notional/notional/io/JsonValue")] 2

/-- com/example/notional/notional/io/JsonValue$Kind -/
def k6 : Class := { plain "com/example/notional/notional/io/JsonValue$Kind" (some 5) with
  accessFlags := 16432
  interfaces := #[]
  cf := some (fileOf pool6 1 #[.nestHost 72] #[] 16432 38 #[] #[{ accessFlags := 16409, nameIndex := 5, descriptorIndex := 6, attributes := #[] }, { accessFlags := 16409, nameIndex := 9, descriptorIndex := 6, attributes := #[] }, { accessFlags := 16409, nameIndex := 12, descriptorIndex := 6, attributes := #[] }, { accessFlags := 16409, nameIndex := 15, descriptorIndex := 6, attributes := #[] }, { accessFlags := 16409, nameIndex := 18, descriptorIndex := 6, attributes := #[] }, { accessFlags := 16409, nameIndex := 21, descriptorIndex := 6, attributes := #[] }, { accessFlags := 16409, nameIndex := 24, descriptorIndex := 6, attributes := #[] }, { accessFlags := 16409, nameIndex := 27, descriptorIndex := 6, attributes := #[] }, { accessFlags := 4122, nameIndex := 30, descriptorIndex := 31, attributes := #[] }])
  fields := #[{ name := "OBJECT", type := (.object "com/example/notional/notional/io/JsonValue$Kind"), accessFlags := 16409, slot := 0, constantValue := 0 }, { name := "LIST", type := (.object "com/example/notional/notional/io/JsonValue$Kind"), accessFlags := 16409, slot := 1, constantValue := 0 }, { name := "STRING", type := (.object "com/example/notional/notional/io/JsonValue$Kind"), accessFlags := 16409, slot := 2, constantValue := 0 }, { name := "INTEGER", type := (.object "com/example/notional/notional/io/JsonValue$Kind"), accessFlags := 16409, slot := 3, constantValue := 0 }, { name := "NUMBER", type := (.object "com/example/notional/notional/io/JsonValue$Kind"), accessFlags := 16409, slot := 4, constantValue := 0 }, { name := "TRUE", type := (.object "com/example/notional/notional/io/JsonValue$Kind"), accessFlags := 16409, slot := 5, constantValue := 0 }, { name := "FALSE", type := (.object "com/example/notional/notional/io/JsonValue$Kind"), accessFlags := 16409, slot := 6, constantValue := 0 }, { name := "NULL", type := (.object "com/example/notional/notional/io/JsonValue$Kind"), accessFlags := 16409, slot := 7, constantValue := 0 }, { name := "$VALUES", type := (.array (.object "com/example/notional/notional/io/JsonValue$Kind")), accessFlags := 4122, slot := 8, constantValue := 0 }]
  methods := #[]
  instanceTypes := #[(.object "java/lang/String"), .int, .int]
  staticTypes := #[(.object "com/example/notional/notional/io/JsonValue$Kind"), (.object "com/example/notional/notional/io/JsonValue$Kind"), (.object "com/example/notional/notional/io/JsonValue$Kind"), (.object "com/example/notional/notional/io/JsonValue$Kind"), (.object "com/example/notional/notional/io/JsonValue$Kind"), (.object "com/example/notional/notional/io/JsonValue$Kind"), (.object "com/example/notional/notional/io/JsonValue$Kind"), (.object "com/example/notional/notional/io/JsonValue$Kind"), (.array (.object "com/example/notional/notional/io/JsonValue$Kind"))]
  resolved := Array.replicate 76 none
  statics := some 0 }

def pool7 : Array CpInfo := pool [(2, .class_ 4), (1, u "java/lang/CharSequence"), (42, .class_ 48), (0, u "java/lang/CharSequence$1CodePointIterator"), (10, .class_ 60), (0, u "java/lang/CharSequence$1CharIterator"), (5, .class_ 67), (0, u "java/lang/Object")] 63

/-- java/lang/CharSequence -/
def k7 : Class := { plain "java/lang/CharSequence" (some 0) with
  accessFlags := 1537
  interfaces := #[]
  cf := some (fileOf pool7 2 #[.nestMembers #[47, 59]] #[] 1537 66 #[] #[])
  fields := #[]
  methods := #[]
  instanceTypes := #[]
  staticTypes := #[]
  resolved := Array.replicate 131 none
  statics := none }

def pool8 : Array CpInfo := pool [(1, .class_ 2), (0, u "java/lang/constant/ConstantDesc"), (0, .class_ 4), (0, u "java/lang/Object")] 32

/-- java/lang/constant/ConstantDesc -/
def k8 : Class := { plain "java/lang/constant/ConstantDesc" (some 0) with
  accessFlags := 1537
  interfaces := #[]
  cf := some (fileOf pool8 1 #[] #[] 1537 3 #[] #[])
  fields := #[]
  methods := #[]
  instanceTypes := #[]
  staticTypes := #[]
  resolved := Array.replicate 37 none
  statics := none }

def pool9 : Array CpInfo := pool [(1, .methodref 2 3), (0, .class_ 4), (0, .nameAndType 5 6), (0, u "java/lang/Object"), (0, u "<init>"), (0, u "()V"), (2, .fieldref 10 11), (0, .class_ 12), (0, .nameAndType 13 14), (0, u "java/lang/String"), (0, u "value"), (0, u "[B"), (0, .fieldref 10 16), (0, .nameAndType 17 18), (0, u "coder"), (0, u "B"), (2, u "hash"), (0, u "I"), (2, u "hashIsZero"), (0, u "Z"), (11, .fieldref 10 39), (0, .nameAndType 40 26), (0, u "COMPACT_STRINGS"), (12, u "toBytes"), (53, .class_ 109), (1, u "java/lang/StringLatin1"), (99, .methodref 10 210), (0, .nameAndType 5 211), (0, u "([BB)V"), (157, u "(C)Z"), (173, u "equals"), (29, u "(Ljava/lang/Object;)Z"), (1, .class_ 576), (0, u "java/lang/CharSequence"), (22, u "CASE_INSENSITIVE_ORDER"), (0, u "Ljava/util/Comparator;"), (181, u "valueOf"), (0, u "(C)Ljava/lang/String;"), (231, .methodref 107 1016), (0, .nameAndType 1017 369), (0, u "canEncode"), (0, .methodref 107 1019), (0, .nameAndType 53 1020), (0, u "(C)[B"), (80, u "serialPersistentFields"), (0, u "[Ljava/io/ObjectStreamField;"), (0, .class_ 1104), (0, u "java/lang/String$CaseInsensitiveComparator"), (1, .class_ 1107), (0, u "java/io/Serializable"), (0, .class_ 1109), (0, u "java/lang/Comparable"), (0, .class_ 1111), (0, u "java/lang/constant/Constable"), (0, .class_ 1113), (0, u "java/lang/constant/ConstantDesc"), (2, u "serialVersionUID"), (0, u "J"), (3, u "REPL"), (0, u "C"), (2, u "LATIN1"), (1, u "UTF16")] 323

def k9m0 : Method := { name := "<init>", desc := "()V", sig := { parameters := [], returnType := none }, accessFlags := 1, code := none }
def k9c1 : Code := { maxStack := 2, maxLocals := 3, code := jdk_42_method_66_code, exceptionTable := #[], attributes := #[] }
def k9m1 : Method := { name := "equals", desc := "(Ljava/lang/Object;)Z", sig := { parameters := [(.object "java/lang/Object")], returnType := some .boolean }, accessFlags := 1, code := some k9c1 }
def k9c2 : Code := { maxStack := 4, maxLocals := 1, code := jdk_42_method_139_code, exceptionTable := #[], attributes := #[] }
def k9m2 : Method := { name := "valueOf", desc := "(C)Ljava/lang/String;", sig := { parameters := [.char], returnType := some (.object "java/lang/String") }, accessFlags := 9, code := some k9c2 }
def k9c3 : Code := { maxStack := 2, maxLocals := 3, code := jdk_42_method_151_code, exceptionTable := #[], attributes := #[] }
def k9m3 : Method := { name := "<init>", desc := "([BB)V", sig := { parameters := [(.array .byte), .byte], returnType := none }, accessFlags := 0, code := some k9c3 }
/-- java/lang/String -/
def k9 : Class := { plain "java/lang/String" (some 0) with
  accessFlags := 49
  interfaces := #[4, 3, 7, 2, 8]
  cf := some (fileOf pool9 10 #[.nestMembers #[1103]] #[{ accessFlags := 1, nameIndex := 5, descriptorIndex := 6, attributes := #[] }, { accessFlags := 1, nameIndex := 543, descriptorIndex := 573, attributes := #[] }, { accessFlags := 9, nameIndex := 782, descriptorIndex := 783, attributes := #[] }, { accessFlags := 0, nameIndex := 5, descriptorIndex := 211, attributes := #[] }] 49 2 #[1106, 1108, 575, 1110, 1112] #[{ accessFlags := 18, nameIndex := 13, descriptorIndex := 14, attributes := #[] }, { accessFlags := 18, nameIndex := 17, descriptorIndex := 18, attributes := #[] }, { accessFlags := 2, nameIndex := 21, descriptorIndex := 22, attributes := #[] }, { accessFlags := 2, nameIndex := 25, descriptorIndex := 26, attributes := #[] }, { accessFlags := 26, nameIndex := 1116, descriptorIndex := 1117, attributes := #[] }, { accessFlags := 24, nameIndex := 40, descriptorIndex := 26, attributes := #[] }, { accessFlags := 26, nameIndex := 1101, descriptorIndex := 1102, attributes := #[] }, { accessFlags := 26, nameIndex := 1121, descriptorIndex := 1122, attributes := #[] }, { accessFlags := 25, nameIndex := 599, descriptorIndex := 600, attributes := #[] }, { accessFlags := 24, nameIndex := 1125, descriptorIndex := 18, attributes := #[] }, { accessFlags := 24, nameIndex := 1127, descriptorIndex := 18, attributes := #[] }])
  fields := #[{ name := "value", type := (.array .byte), accessFlags := 18, slot := 0, constantValue := 0 }, { name := "coder", type := .byte, accessFlags := 18, slot := 1, constantValue := 0 }, { name := "hash", type := .int, accessFlags := 2, slot := 2, constantValue := 0 }, { name := "hashIsZero", type := .boolean, accessFlags := 2, slot := 3, constantValue := 0 }, { name := "serialVersionUID", type := .long, accessFlags := 26, slot := 0, constantValue := 0 }, { name := "COMPACT_STRINGS", type := .boolean, accessFlags := 24, slot := 1, constantValue := 0 }, { name := "serialPersistentFields", type := (.array (.object "java/io/ObjectStreamField")), accessFlags := 26, slot := 2, constantValue := 0 }, { name := "REPL", type := .char, accessFlags := 26, slot := 3, constantValue := 0 }, { name := "CASE_INSENSITIVE_ORDER", type := (.object "java/util/Comparator"), accessFlags := 25, slot := 4, constantValue := 0 }, { name := "LATIN1", type := .byte, accessFlags := 24, slot := 5, constantValue := 0 }, { name := "UTF16", type := .byte, accessFlags := 24, slot := 6, constantValue := 0 }]
  methods := #[k9m0, k9m1, k9m2, k9m3]
  instanceTypes := #[(.array .byte), .byte, .int, .boolean]
  staticTypes := #[.long, .boolean, (.array (.object "java/io/ObjectStreamField")), .char, (.object "java/util/Comparator"), .byte, .byte]
  resolved := Array.replicate 1451 none
  statics := some 1 }

def pool10 : Array CpInfo := pool [(4, .class_ 6), (1, u "java/lang/Object"), (0, u "<init>"), (0, u "()V"), (5, .class_ 16), (1, u "java/lang/StringLatin1"), (73, u "canEncode"), (14, u "(C)Z"), (15, u "$assertionsDisabled"), (0, u "Z"), (98, .class_ 223), (1, u "java/lang/StringLatin1$LinesSpliterator"), (156, u "toBytes"), (1, u "(C)[B"), (7, .class_ 391), (0, u "java/lang/StringLatin1$CharsSpliterator")] 3

def k10m0 : Method := { name := "<init>", desc := "()V", sig := { parameters := [], returnType := none }, accessFlags := 0, code := none }
def k10c1 : Code := { maxStack := 2, maxLocals := 1, code := jdk_43_method_3_code, exceptionTable := #[], attributes := #[] }
def k10m1 : Method := { name := "canEncode", desc := "(C)Z", sig := { parameters := [.char], returnType := some .boolean }, accessFlags := 9, code := some k10c1 }
def k10c2 : Code := { maxStack := 4, maxLocals := 1, code := jdk_43_method_46_code, exceptionTable := #[], attributes := #[] }
def k10m2 : Method := { name := "toBytes", desc := "(C)[B", sig := { parameters := [.char], returnType := some (.array .byte) }, accessFlags := 9, code := some k10c2 }
/-- java/lang/StringLatin1 -/
def k10 : Class := { plain "java/lang/StringLatin1" (some 0) with
  accessFlags := 48
  interfaces := #[]
  cf := some (fileOf pool10 14 #[.nestMembers #[390, 221]] #[{ accessFlags := 0, nameIndex := 7, descriptorIndex := 8, attributes := #[] }, { accessFlags := 9, nameIndex := 90, descriptorIndex := 105, attributes := #[] }, { accessFlags := 9, nameIndex := 380, descriptorIndex := 382, attributes := #[] }] 48 4 #[] #[{ accessFlags := 4120, nameIndex := 121, descriptorIndex := 122, attributes := #[] }])
  fields := #[{ name := "$assertionsDisabled", type := .boolean, accessFlags := 4120, slot := 0, constantValue := 0 }]
  methods := #[k10m0, k10m1, k10m2]
  instanceTypes := #[]
  staticTypes := #[.boolean]
  resolved := Array.replicate 395 none
  statics := none }

def pool11 : Array CpInfo := pool [(1, .methodref 2 3), (0, .class_ 4), (0, .nameAndType 5 6), (0, u "java/lang/Object"), (0, u "<init>"), (0, u "()V"), (0, .fieldref 8 9), (0, .class_ 10), (0, .nameAndType 11 12), (0, u "com/example/notional/notional/io/JsonValue"), (0, u "file"), (0, u "Ljava/lang/String;"), (0, .fieldref 8 14), (0, .nameAndType 15 12), (0, u "path"), (0, .fieldref 8 17), (0, .nameAndType 18 19), (0, u "kind"), (0, u "Lcom/example/notional/notional/io/JsonValue$Kind;"), (0, .fieldref 8 21), (0, .nameAndType 22 23), (0, u "line"), (0, u "I"), (0, .fieldref 8 25), (0, .nameAndType 26 23), (0, u "endLine"), (0, .fieldref 8 28), (0, .nameAndType 29 12), (0, u "text"), (0, .fieldref 8 31), (0, .nameAndType 32 33), (0, u "wholeNumber"), (0, u "Ljava/lang/Integer;"), (0, .fieldref 8 35), (0, .nameAndType 36 37), (0, u "members"), (0, u "Ljava/util/Map;"), (0, .fieldref 8 39), (0, .nameAndType 40 41), (0, u "elements"), (0, u "Ljava/util/List;"), (1, .class_ 45), (1, u "com/example/notional/notional/io/JsonValue$Kind"), (1, .fieldref 43 48), (0, .nameAndType 49 19), (0, u "STRING"), (15, .methodref 8 66), (0, .nameAndType 67 68), (0, u "isString"), (0, u "()Z"), (64, u "string"), (0, u "()Ljava/lang/String;"), (14, u "EXPECTED_OBJECT"), (1, u "LIST_OF_STRINGS"), (3, u "(Ljava/lang/String;Ljava/lang/String;Lcom/example/notional/notional/io/JsonValue$Kind;IILjava/lang/String;Ljava/lang/Integer;Ljava/util/Map;Ljava/util/List;)V")] 41

def k11c0 : Code := { maxStack := 2, maxLocals := 10, code := prog_12_method_1_code, exceptionTable := #[], attributes := #[] }
def k11m0 : Method := { name := "<init>", desc := "(Ljava/lang/String;Ljava/lang/String;Lcom/example/notional/notional/io/JsonValue$Kind;IILjava/lang/String;Ljava/lang/Integer;Ljava/util/Map;Ljava/util/List;)V", sig := { parameters := [(.object "java/lang/String"), (.object "java/lang/String"), (.object "com/example/notional/notional/io/JsonValue$Kind"), .int, .int, (.object "java/lang/String"), (.object "java/lang/Integer"), (.object "java/util/Map"), (.object "java/util/List")], returnType := none }, accessFlags := 0, code := some k11c0 }
def k11c1 : Code := { maxStack := 2, maxLocals := 1, code := prog_12_method_4_code, exceptionTable := #[], attributes := #[] }
def k11m1 : Method := { name := "isString", desc := "()Z", sig := { parameters := [], returnType := some .boolean }, accessFlags := 0, code := some k11c1 }
def k11c2 : Code := { maxStack := 2, maxLocals := 1, code := prog_12_method_7_code, exceptionTable := #[], attributes := #[] }
def k11m2 : Method := { name := "string", desc := "()Ljava/lang/String;", sig := { parameters := [], returnType := some (.object "java/lang/String") }, accessFlags := 0, code := some k11c2 }
/-- com/example/notional/notional/io/JsonValue -/
def k11 : Class := { plain "com/example/notional/notional/io/JsonValue" (some 0) with
  accessFlags := 48
  interfaces := #[]
  cf := some (fileOf pool11 8 #[.nestMembers #[43]] #[{ accessFlags := 0, nameIndex := 5, descriptorIndex := 155, attributes := #[] }, { accessFlags := 0, nameIndex := 67, descriptorIndex := 68, attributes := #[] }, { accessFlags := 0, nameIndex := 133, descriptorIndex := 134, attributes := #[] }] 48 2 #[] #[{ accessFlags := 24, nameIndex := 149, descriptorIndex := 12, attributes := #[] }, { accessFlags := 24, nameIndex := 151, descriptorIndex := 12, attributes := #[] }, { accessFlags := 18, nameIndex := 11, descriptorIndex := 12, attributes := #[] }, { accessFlags := 18, nameIndex := 15, descriptorIndex := 12, attributes := #[] }, { accessFlags := 18, nameIndex := 18, descriptorIndex := 19, attributes := #[] }, { accessFlags := 18, nameIndex := 22, descriptorIndex := 23, attributes := #[] }, { accessFlags := 18, nameIndex := 26, descriptorIndex := 23, attributes := #[] }, { accessFlags := 18, nameIndex := 29, descriptorIndex := 12, attributes := #[] }, { accessFlags := 18, nameIndex := 32, descriptorIndex := 33, attributes := #[] }, { accessFlags := 18, nameIndex := 36, descriptorIndex := 37, attributes := #[] }, { accessFlags := 18, nameIndex := 40, descriptorIndex := 41, attributes := #[] }])
  fields := #[{ name := "EXPECTED_OBJECT", type := (.object "java/lang/String"), accessFlags := 24, slot := 0, constantValue := 0 }, { name := "LIST_OF_STRINGS", type := (.object "java/lang/String"), accessFlags := 24, slot := 1, constantValue := 0 }, { name := "file", type := (.object "java/lang/String"), accessFlags := 18, slot := 0, constantValue := 0 }, { name := "path", type := (.object "java/lang/String"), accessFlags := 18, slot := 1, constantValue := 0 }, { name := "kind", type := (.object "com/example/notional/notional/io/JsonValue$Kind"), accessFlags := 18, slot := 2, constantValue := 0 }, { name := "line", type := .int, accessFlags := 18, slot := 3, constantValue := 0 }, { name := "endLine", type := .int, accessFlags := 18, slot := 4, constantValue := 0 }, { name := "text", type := (.object "java/lang/String"), accessFlags := 18, slot := 5, constantValue := 0 }, { name := "wholeNumber", type := (.object "java/lang/Integer"), accessFlags := 18, slot := 6, constantValue := 0 }, { name := "members", type := (.object "java/util/Map"), accessFlags := 18, slot := 7, constantValue := 0 }, { name := "elements", type := (.object "java/util/List"), accessFlags := 18, slot := 8, constantValue := 0 }]
  methods := #[k11m0, k11m1, k11m2]
  instanceTypes := #[(.object "java/lang/String"), (.object "java/lang/String"), (.object "com/example/notional/notional/io/JsonValue$Kind"), .int, .int, (.object "java/lang/String"), (.object "java/lang/Integer"), (.object "java/util/Map"), (.object "java/util/List")]
  staticTypes := #[(.object "java/lang/String"), (.object "java/lang/String")]
  resolved := Array.replicate 197 none
  statics := none }

def pool12 : Array CpInfo := pool [(1, .methodref 2 3), (0, .class_ 4), (0, .nameAndType 5 6), (0, u "java/lang/Object"), (0, u "<init>"), (0, u "()V"), (1, .class_ 10), (1, u "java/lang/Number"), (2, .class_ 14), (0, u "java/io/Serializable"), (0, u "serialVersionUID"), (0, u "J")] 20

def k12c0 : Code := { maxStack := 1, maxLocals := 1, code := jdk_18_method_1_code, exceptionTable := #[], attributes := #[] }
def k12m0 : Method := { name := "<init>", desc := "()V", sig := { parameters := [], returnType := none }, accessFlags := 1, code := some k12c0 }
/-- java/lang/Number -/
def k12 : Class := { plain "java/lang/Number" (some 0) with
  accessFlags := 1057
  interfaces := #[4]
  cf := some (fileOf pool12 8 #[] #[{ accessFlags := 1, nameIndex := 5, descriptorIndex := 6, attributes := #[] }] 1057 2 #[13] #[{ accessFlags := 26, nameIndex := 15, descriptorIndex := 16, attributes := #[] }])
  fields := #[{ name := "serialVersionUID", type := .long, accessFlags := 26, slot := 0, constantValue := 0 }]
  methods := #[k12m0]
  instanceTypes := #[]
  staticTypes := #[.long]
  resolved := Array.replicate 37 none
  statics := none }

def pool13 : Array CpInfo := pool [(1, .class_ 2), (0, u "java/lang/Integer"), (16, u "digits"), (0, u "[C"), (46, u "<init>"), (17, u "DigitOnes"), (0, u "[B"), (2, u "DigitTens"), (10, .nameAndType 67 101), (0, u "()V"), (85, u "valueOf"), (0, u "(I)Ljava/lang/Integer;"), (0, .class_ 190), (0, u "java/lang/Integer$IntegerCache"), (0, .fieldref 189 192), (0, .nameAndType 193 194), (0, u "high"), (0, u "I"), (0, .fieldref 189 196), (0, .nameAndType 197 198), (0, u "cache"), (0, u "[Ljava/lang/Integer;"), (0, .methodref 1 200), (0, .nameAndType 67 201), (0, u "(I)V"), (0, .methodref 203 100), (0, .class_ 204), (0, u "java/lang/Number"), (0, .fieldref 1 206), (0, .nameAndType 207 194), (0, u "value"), (94, u "TYPE"), (0, u "Ljava/lang/Class;"), (0, .class_ 305), (0, u "java/lang/Comparable"), (0, .class_ 307), (0, u "java/lang/constant/Constable"), (0, .class_ 309), (0, u "java/lang/constant/ConstantDesc"), (0, u "MIN_VALUE"), (1, u "MAX_VALUE"), (3, u "SIZE"), (1, u "BYTES"), (1, u "serialVersionUID"), (0, u "J")] 131

def k13c0 : Code := { maxStack := 3, maxLocals := 1, code := jdk_33_method_22_code, exceptionTable := #[], attributes := #[] }
def k13m0 : Method := { name := "valueOf", desc := "(I)Ljava/lang/Integer;", sig := { parameters := [.int], returnType := some (.object "java/lang/Integer") }, accessFlags := 9, code := some k13c0 }
def k13c1 : Code := { maxStack := 2, maxLocals := 2, code := jdk_33_method_23_code, exceptionTable := #[], attributes := #[] }
def k13m1 : Method := { name := "<init>", desc := "(I)V", sig := { parameters := [.int], returnType := none }, accessFlags := 1, code := some k13c1 }
/-- java/lang/Integer -/
def k13 : Class := { plain "java/lang/Integer" (some 12) with
  accessFlags := 49
  interfaces := #[3, 2, 8]
  cf := some (fileOf pool13 1 #[.nestMembers #[189]] #[{ accessFlags := 9, nameIndex := 187, descriptorIndex := 188, attributes := #[] }, { accessFlags := 1, nameIndex := 67, descriptorIndex := 201, attributes := #[] }] 49 203 #[304, 306, 308] #[{ accessFlags := 25, nameIndex := 310, descriptorIndex := 194, attributes := #[] }, { accessFlags := 25, nameIndex := 312, descriptorIndex := 194, attributes := #[] }, { accessFlags := 25, nameIndex := 302, descriptorIndex := 303, attributes := #[] }, { accessFlags := 24, nameIndex := 19, descriptorIndex := 20, attributes := #[] }, { accessFlags := 24, nameIndex := 89, descriptorIndex := 86, attributes := #[] }, { accessFlags := 24, nameIndex := 85, descriptorIndex := 86, attributes := #[] }, { accessFlags := 18, nameIndex := 207, descriptorIndex := 194, attributes := #[] }, { accessFlags := 25, nameIndex := 316, descriptorIndex := 194, attributes := #[] }, { accessFlags := 25, nameIndex := 318, descriptorIndex := 194, attributes := #[] }, { accessFlags := 26, nameIndex := 320, descriptorIndex := 321, attributes := #[] }])
  fields := #[{ name := "MIN_VALUE", type := .int, accessFlags := 25, slot := 0, constantValue := 0 }, { name := "MAX_VALUE", type := .int, accessFlags := 25, slot := 1, constantValue := 0 }, { name := "TYPE", type := (.object "java/lang/Class"), accessFlags := 25, slot := 2, constantValue := 0 }, { name := "digits", type := (.array .char), accessFlags := 24, slot := 3, constantValue := 0 }, { name := "DigitTens", type := (.array .byte), accessFlags := 24, slot := 4, constantValue := 0 }, { name := "DigitOnes", type := (.array .byte), accessFlags := 24, slot := 5, constantValue := 0 }, { name := "value", type := .int, accessFlags := 18, slot := 0, constantValue := 0 }, { name := "SIZE", type := .int, accessFlags := 25, slot := 6, constantValue := 0 }, { name := "BYTES", type := .int, accessFlags := 25, slot := 7, constantValue := 0 }, { name := "serialVersionUID", type := .long, accessFlags := 26, slot := 8, constantValue := 0 }]
  methods := #[k13m0, k13m1]
  instanceTypes := #[.int]
  staticTypes := #[.int, .int, (.object "java/lang/Class"), (.array .char), (.array .byte), (.array .byte), .int, .int, .long]
  resolved := Array.replicate 453 none
  statics := none }

def pool14 : Array CpInfo := pool [(2, .class_ 4), (1, u "java/lang/Object"), (0, u "<init>"), (0, u "()V"), (0, .class_ 8), (0, u "java/lang/Integer"), (7, .class_ 18), (1, u "java/lang/Integer$IntegerCache"), (0, u "$assertionsDisabled"), (0, u "Z"), (26, u "high"), (0, u "I"), (8, u "archivedCache"), (0, u "[Ljava/lang/Integer;"), (12, u "cache"), (0, u "low")] 27

def k14m0 : Method := { name := "<init>", desc := "()V", sig := { parameters := [], returnType := none }, accessFlags := 2, code := none }
/-- java/lang/Integer$IntegerCache -/
def k14 : Class := { plain "java/lang/Integer$IntegerCache" (some 0) with
  accessFlags := 48
  interfaces := #[]
  cf := some (fileOf pool14 16 #[.nestHost 7] #[{ accessFlags := 2, nameIndex := 5, descriptorIndex := 6, attributes := #[] }] 48 2 #[] #[{ accessFlags := 24, nameIndex := 72, descriptorIndex := 48, attributes := #[] }, { accessFlags := 24, nameIndex := 47, descriptorIndex := 48, attributes := #[] }, { accessFlags := 24, nameIndex := 71, descriptorIndex := 58, attributes := #[] }, { accessFlags := 8, nameIndex := 57, descriptorIndex := 58, attributes := #[] }, { accessFlags := 4120, nameIndex := 19, descriptorIndex := 20, attributes := #[] }])
  fields := #[{ name := "low", type := .int, accessFlags := 24, slot := 0, constantValue := 0 }, { name := "high", type := .int, accessFlags := 24, slot := 1, constantValue := 0 }, { name := "cache", type := (.array (.object "java/lang/Integer")), accessFlags := 24, slot := 2, constantValue := 0 }, { name := "archivedCache", type := (.array (.object "java/lang/Integer")), accessFlags := 8, slot := 3, constantValue := 0 }, { name := "$assertionsDisabled", type := .boolean, accessFlags := 4120, slot := 4, constantValue := 0 }]
  methods := #[k14m0]
  instanceTypes := #[]
  staticTypes := #[.int, .int, (.array (.object "java/lang/Integer")), (.array (.object "java/lang/Integer")), .boolean]
  resolved := Array.replicate 100 none
  statics := some 2 }

def pool15 : Array CpInfo := pool [(2, .class_ 4), (1, u "java/lang/Object"), (0, u "<init>"), (0, u "()V"), (17, .class_ 26), (1, u "jdk/internal/util/Preconditions"), (28, .class_ 56), (0, u "jdk/internal/util/Preconditions$4"), (57, .class_ 115), (0, u "jdk/internal/util/Preconditions$1"), (7, u "SIOOBE_FORMATTER"), (0, u "Ljava/util/function/BiFunction;"), (0, .class_ 126), (0, u "jdk/internal/util/Preconditions$2"), (3, u "AIOOBE_FORMATTER"), (0, .class_ 132), (0, u "jdk/internal/util/Preconditions$3"), (3, u "IOOBE_FORMATTER")] 57

def k15m0 : Method := { name := "<init>", desc := "()V", sig := { parameters := [], returnType := none }, accessFlags := 1, code := none }
/-- jdk/internal/util/Preconditions -/
def k15 : Class := { plain "jdk/internal/util/Preconditions" (some 0) with
  accessFlags := 33
  interfaces := #[]
  cf := some (fileOf pool15 24 #[.nestMembers #[55, 131, 125, 114]] #[{ accessFlags := 1, nameIndex := 5, descriptorIndex := 6, attributes := #[] }] 33 2 #[] #[{ accessFlags := 25, nameIndex := 123, descriptorIndex := 124, attributes := #[] }, { accessFlags := 25, nameIndex := 130, descriptorIndex := 124, attributes := #[] }, { accessFlags := 25, nameIndex := 136, descriptorIndex := 124, attributes := #[] }])
  fields := #[{ name := "SIOOBE_FORMATTER", type := (.object "java/util/function/BiFunction"), accessFlags := 25, slot := 0, constantValue := 0 }, { name := "AIOOBE_FORMATTER", type := (.object "java/util/function/BiFunction"), accessFlags := 25, slot := 1, constantValue := 0 }, { name := "IOOBE_FORMATTER", type := (.object "java/util/function/BiFunction"), accessFlags := 25, slot := 2, constantValue := 0 }]
  methods := #[k15m0]
  instanceTypes := #[]
  staticTypes := #[(.object "java/util/function/BiFunction"), (.object "java/util/function/BiFunction"), (.object "java/util/function/BiFunction")]
  resolved := Array.replicate 194 none
  statics := some 3 }

def pool16 : Array CpInfo := pool [(9, u "<init>"), (6, .class_ 18), (1, u "java/lang/Object"), (0, u "()V"), (1, .class_ 23), (1, u "jdk/internal/util/ArraysSupport"), (0, u "LOG2_ARRAY_LONG_INDEX_SCALE"), (0, u "I"), (2, u "U"), (0, u "Ljdk/internal/misc/Unsafe;"), (8, u "BIG_ENDIAN"), (0, u "Z"), (8, u "LOG2_BYTE_BIT_SIZE"), (4, u "LOG2_ARRAY_INT_INDEX_SCALE"), (54, u "JLA"), (0, u "Ljdk/internal/access/JavaLangAccess;"), (11, u "LOG2_ARRAY_BOOLEAN_INDEX_SCALE"), (9, u "LOG2_ARRAY_BYTE_INDEX_SCALE"), (5, u "LOG2_ARRAY_CHAR_INDEX_SCALE"), (5, u "LOG2_ARRAY_SHORT_INDEX_SCALE"), (18, u "LOG2_ARRAY_FLOAT_INDEX_SCALE"), (24, u "LOG2_ARRAY_DOUBLE_INDEX_SCALE"), (89, u "T_BOOLEAN"), (2, u "T_CHAR"), (1, u "T_FLOAT"), (1, u "T_DOUBLE"), (1, u "T_BYTE"), (1, u "T_SHORT"), (1, u "T_INT"), (1, u "T_LONG"), (1, u "SOFT_MAX_ARRAY_LENGTH")] 83

def k16m0 : Method := { name := "<init>", desc := "()V", sig := { parameters := [], returnType := none }, accessFlags := 2, code := none }
/-- jdk/internal/util/ArraysSupport -/
def k16 : Class := { plain "jdk/internal/util/ArraysSupport" (some 0) with
  accessFlags := 33
  interfaces := #[]
  cf := some (fileOf pool16 21 #[] #[{ accessFlags := 2, nameIndex := 9, descriptorIndex := 19, attributes := #[] }] 33 16 #[] #[{ accessFlags := 24, nameIndex := 28, descriptorIndex := 29, attributes := #[] }, { accessFlags := 26, nameIndex := 38, descriptorIndex := 39, attributes := #[] }, { accessFlags := 25, nameIndex := 121, descriptorIndex := 25, attributes := #[] }, { accessFlags := 25, nameIndex := 131, descriptorIndex := 25, attributes := #[] }, { accessFlags := 25, nameIndex := 137, descriptorIndex := 25, attributes := #[] }, { accessFlags := 25, nameIndex := 143, descriptorIndex := 25, attributes := #[] }, { accessFlags := 25, nameIndex := 53, descriptorIndex := 25, attributes := #[] }, { accessFlags := 25, nameIndex := 24, descriptorIndex := 25, attributes := #[] }, { accessFlags := 25, nameIndex := 162, descriptorIndex := 25, attributes := #[] }, { accessFlags := 25, nameIndex := 187, descriptorIndex := 25, attributes := #[] }, { accessFlags := 26, nameIndex := 48, descriptorIndex := 25, attributes := #[] }, { accessFlags := 25, nameIndex := 277, descriptorIndex := 25, attributes := #[] }, { accessFlags := 25, nameIndex := 280, descriptorIndex := 25, attributes := #[] }, { accessFlags := 25, nameIndex := 282, descriptorIndex := 25, attributes := #[] }, { accessFlags := 25, nameIndex := 284, descriptorIndex := 25, attributes := #[] }, { accessFlags := 25, nameIndex := 286, descriptorIndex := 25, attributes := #[] }, { accessFlags := 25, nameIndex := 288, descriptorIndex := 25, attributes := #[] }, { accessFlags := 25, nameIndex := 290, descriptorIndex := 25, attributes := #[] }, { accessFlags := 25, nameIndex := 292, descriptorIndex := 25, attributes := #[] }, { accessFlags := 26, nameIndex := 108, descriptorIndex := 109, attributes := #[] }, { accessFlags := 25, nameIndex := 294, descriptorIndex := 25, attributes := #[] }])
  fields := #[{ name := "U", type := (.object "jdk/internal/misc/Unsafe"), accessFlags := 24, slot := 0, constantValue := 0 }, { name := "BIG_ENDIAN", type := .boolean, accessFlags := 26, slot := 1, constantValue := 0 }, { name := "LOG2_ARRAY_BOOLEAN_INDEX_SCALE", type := .int, accessFlags := 25, slot := 2, constantValue := 0 }, { name := "LOG2_ARRAY_BYTE_INDEX_SCALE", type := .int, accessFlags := 25, slot := 3, constantValue := 0 }, { name := "LOG2_ARRAY_CHAR_INDEX_SCALE", type := .int, accessFlags := 25, slot := 4, constantValue := 0 }, { name := "LOG2_ARRAY_SHORT_INDEX_SCALE", type := .int, accessFlags := 25, slot := 5, constantValue := 0 }, { name := "LOG2_ARRAY_INT_INDEX_SCALE", type := .int, accessFlags := 25, slot := 6, constantValue := 0 }, { name := "LOG2_ARRAY_LONG_INDEX_SCALE", type := .int, accessFlags := 25, slot := 7, constantValue := 0 }, { name := "LOG2_ARRAY_FLOAT_INDEX_SCALE", type := .int, accessFlags := 25, slot := 8, constantValue := 0 }, { name := "LOG2_ARRAY_DOUBLE_INDEX_SCALE", type := .int, accessFlags := 25, slot := 9, constantValue := 0 }, { name := "LOG2_BYTE_BIT_SIZE", type := .int, accessFlags := 26, slot := 10, constantValue := 0 }, { name := "T_BOOLEAN", type := .int, accessFlags := 25, slot := 11, constantValue := 0 }, { name := "T_CHAR", type := .int, accessFlags := 25, slot := 12, constantValue := 0 }, { name := "T_FLOAT", type := .int, accessFlags := 25, slot := 13, constantValue := 0 }, { name := "T_DOUBLE", type := .int, accessFlags := 25, slot := 14, constantValue := 0 }, { name := "T_BYTE", type := .int, accessFlags := 25, slot := 15, constantValue := 0 }, { name := "T_SHORT", type := .int, accessFlags := 25, slot := 16, constantValue := 0 }, { name := "T_INT", type := .int, accessFlags := 25, slot := 17, constantValue := 0 }, { name := "T_LONG", type := .int, accessFlags := 25, slot := 18, constantValue := 0 }, { name := "JLA", type := (.object "jdk/internal/access/JavaLangAccess"), accessFlags := 26, slot := 19, constantValue := 0 }, { name := "SOFT_MAX_ARRAY_LENGTH", type := .int, accessFlags := 25, slot := 20, constantValue := 0 }]
  methods := #[k16m0]
  instanceTypes := #[]
  staticTypes := #[(.object "jdk/internal/misc/Unsafe"), .boolean, .int, .int, .int, .int, .int, .int, .int, .int, .int, .int, .int, .int, .int, .int, .int, .int, .int, (.object "jdk/internal/access/JavaLangAccess"), .int]
  resolved := Array.replicate 378 none
  statics := none }

def pool17 : Array CpInfo := pool [(1, u "java/lang/Cloneable"), (0, .class_ 1), (0, u "java/lang/Object"), (0, .class_ 3)] 3

/-- java/lang/Cloneable -/
def k17 : Class := { plain "java/lang/Cloneable" (some 0) with
  accessFlags := 1537
  interfaces := #[]
  cf := some (fileOf pool17 2 #[] #[] 1537 4 #[] #[])
  fields := #[]
  methods := #[]
  instanceTypes := #[]
  staticTypes := #[]
  resolved := Array.replicate 8 none
  statics := none }

/-- the primitive byte -/
def k18 : Class := { plain "byte" none with kind := .primitive 'B', accessFlags := 0x411 }
/-- [B -/
def k19 : Class := { plain "[B" (some 0) with kind := .array 18 .byte, interfaces := #[17, 4], accessFlags := 1041 }

/-- the primitive int -/
def k20 : Class := { plain "int" none with kind := .primitive 'I', accessFlags := 0x411 }
/-- [I -/
def k21 : Class := { plain "[I" (some 0) with kind := .array 20 .int, interfaces := #[17, 4], accessFlags := 1041 }

/-- [Lcom/example/notional/notional/io/JsonValue$Kind; -/
def k22 : Class := { plain "[Lcom/example/notional/notional/io/JsonValue$Kind;" (some 0) with kind := .array 6 (.object "com/example/notional/notional/io/JsonValue$Kind"), interfaces := #[17, 4], accessFlags := 1041 }

/-- [Ljava/lang/Integer; -/
def k23 : Class := { plain "[Ljava/lang/Integer;" (some 0) with kind := .array 13 (.object "java/lang/Integer"), interfaces := #[17, 4], accessFlags := 1041 }

def heap : Heap := #[{ cls := 6, slots := #[.ref 261, .ref 262, .ref 263, .ref 264, .ref 265, .ref 266, .ref 267, .ref 268, .null], vm := .statics 6 },
  { cls := 9, slots := #[.long 0, .int 1, .null, .int 0, .null, .int 0, .int 0], vm := .statics 9 },
  { cls := 14, slots := #[.int 0, .int 127, .ref 4, .null, .int 0], vm := .statics 14 },
  { cls := 15, slots := #[.null, .null, .null], vm := .statics 15 },
  { cls := 23, slots := #[.ref 5, .ref 6, .ref 7, .ref 8, .ref 9, .ref 10, .ref 11, .ref 12, .ref 13, .ref 14, .ref 15, .ref 16, .ref 17, .ref 18, .ref 19, .ref 20, .ref 21, .ref 22, .ref 23, .ref 24, .ref 25, .ref 26, .ref 27, .ref 28, .ref 29, .ref 30, .ref 31, .ref 32, .ref 33, .ref 34, .ref 35, .ref 36, .ref 37, .ref 38, .ref 39, .ref 40, .ref 41, .ref 42, .ref 43, .ref 44, .ref 45, .ref 46, .ref 47, .ref 48, .ref 49, .ref 50, .ref 51, .ref 52, .ref 53, .ref 54, .ref 55, .ref 56, .ref 57, .ref 58, .ref 59, .ref 60, .ref 61, .ref 62, .ref 63, .ref 64, .ref 65, .ref 66, .ref 67, .ref 68, .ref 69, .ref 70, .ref 71, .ref 72, .ref 73, .ref 74, .ref 75, .ref 76, .ref 77, .ref 78, .ref 79, .ref 80, .ref 81, .ref 82, .ref 83, .ref 84, .ref 85, .ref 86, .ref 87, .ref 88, .ref 89, .ref 90, .ref 91, .ref 92, .ref 93, .ref 94, .ref 95, .ref 96, .ref 97, .ref 98, .ref 99, .ref 100, .ref 101, .ref 102, .ref 103, .ref 104, .ref 105, .ref 106, .ref 107, .ref 108, .ref 109, .ref 110, .ref 111, .ref 112, .ref 113, .ref 114, .ref 115, .ref 116, .ref 117, .ref 118, .ref 119, .ref 120, .ref 121, .ref 122, .ref 123, .ref 124, .ref 125, .ref 126, .ref 127, .ref 128, .ref 129, .ref 130, .ref 131, .ref 132, .ref 133, .ref 134, .ref 135, .ref 136, .ref 137, .ref 138, .ref 139, .ref 140, .ref 141, .ref 142, .ref 143, .ref 144, .ref 145, .ref 146, .ref 147, .ref 148, .ref 149, .ref 150, .ref 151, .ref 152, .ref 153, .ref 154, .ref 155, .ref 156, .ref 157, .ref 158, .ref 159, .ref 160, .ref 161, .ref 162, .ref 163, .ref 164, .ref 165, .ref 166, .ref 167, .ref 168, .ref 169, .ref 170, .ref 171, .ref 172, .ref 173, .ref 174, .ref 175, .ref 176, .ref 177, .ref 178, .ref 179, .ref 180, .ref 181, .ref 182, .ref 183, .ref 184, .ref 185, .ref 186, .ref 187, .ref 188, .ref 189, .ref 190, .ref 191, .ref 192, .ref 193, .ref 194, .ref 195, .ref 196, .ref 197, .ref 198, .ref 199, .ref 200, .ref 201, .ref 202, .ref 203, .ref 204, .ref 205, .ref 206, .ref 207, .ref 208, .ref 209, .ref 210, .ref 211, .ref 212, .ref 213, .ref 214, .ref 215, .ref 216, .ref 217, .ref 218, .ref 219, .ref 220, .ref 221, .ref 222, .ref 223, .ref 224, .ref 225, .ref 226, .ref 227, .ref 228, .ref 229, .ref 230, .ref 231, .ref 232, .ref 233, .ref 234, .ref 235, .ref 236, .ref 237, .ref 238, .ref 239, .ref 240, .ref 241, .ref 242, .ref 243, .ref 244, .ref 245, .ref 246, .ref 247, .ref 248, .ref 249, .ref 250, .ref 251, .ref 252, .ref 253, .ref 254, .ref 255, .ref 256, .ref 257, .ref 258, .ref 259, .ref 260], vm := .none },
  { cls := 13, slots := #[.int (-128)], vm := .none },
  { cls := 13, slots := #[.int (-127)], vm := .none },
  { cls := 13, slots := #[.int (-126)], vm := .none },
  { cls := 13, slots := #[.int (-125)], vm := .none },
  { cls := 13, slots := #[.int (-124)], vm := .none },
  { cls := 13, slots := #[.int (-123)], vm := .none },
  { cls := 13, slots := #[.int (-122)], vm := .none },
  { cls := 13, slots := #[.int (-121)], vm := .none },
  { cls := 13, slots := #[.int (-120)], vm := .none },
  { cls := 13, slots := #[.int (-119)], vm := .none },
  { cls := 13, slots := #[.int (-118)], vm := .none },
  { cls := 13, slots := #[.int (-117)], vm := .none },
  { cls := 13, slots := #[.int (-116)], vm := .none },
  { cls := 13, slots := #[.int (-115)], vm := .none },
  { cls := 13, slots := #[.int (-114)], vm := .none },
  { cls := 13, slots := #[.int (-113)], vm := .none },
  { cls := 13, slots := #[.int (-112)], vm := .none },
  { cls := 13, slots := #[.int (-111)], vm := .none },
  { cls := 13, slots := #[.int (-110)], vm := .none },
  { cls := 13, slots := #[.int (-109)], vm := .none },
  { cls := 13, slots := #[.int (-108)], vm := .none },
  { cls := 13, slots := #[.int (-107)], vm := .none },
  { cls := 13, slots := #[.int (-106)], vm := .none },
  { cls := 13, slots := #[.int (-105)], vm := .none },
  { cls := 13, slots := #[.int (-104)], vm := .none },
  { cls := 13, slots := #[.int (-103)], vm := .none },
  { cls := 13, slots := #[.int (-102)], vm := .none },
  { cls := 13, slots := #[.int (-101)], vm := .none },
  { cls := 13, slots := #[.int (-100)], vm := .none },
  { cls := 13, slots := #[.int (-99)], vm := .none },
  { cls := 13, slots := #[.int (-98)], vm := .none },
  { cls := 13, slots := #[.int (-97)], vm := .none },
  { cls := 13, slots := #[.int (-96)], vm := .none },
  { cls := 13, slots := #[.int (-95)], vm := .none },
  { cls := 13, slots := #[.int (-94)], vm := .none },
  { cls := 13, slots := #[.int (-93)], vm := .none },
  { cls := 13, slots := #[.int (-92)], vm := .none },
  { cls := 13, slots := #[.int (-91)], vm := .none },
  { cls := 13, slots := #[.int (-90)], vm := .none },
  { cls := 13, slots := #[.int (-89)], vm := .none },
  { cls := 13, slots := #[.int (-88)], vm := .none },
  { cls := 13, slots := #[.int (-87)], vm := .none },
  { cls := 13, slots := #[.int (-86)], vm := .none },
  { cls := 13, slots := #[.int (-85)], vm := .none },
  { cls := 13, slots := #[.int (-84)], vm := .none },
  { cls := 13, slots := #[.int (-83)], vm := .none },
  { cls := 13, slots := #[.int (-82)], vm := .none },
  { cls := 13, slots := #[.int (-81)], vm := .none },
  { cls := 13, slots := #[.int (-80)], vm := .none },
  { cls := 13, slots := #[.int (-79)], vm := .none },
  { cls := 13, slots := #[.int (-78)], vm := .none },
  { cls := 13, slots := #[.int (-77)], vm := .none },
  { cls := 13, slots := #[.int (-76)], vm := .none },
  { cls := 13, slots := #[.int (-75)], vm := .none },
  { cls := 13, slots := #[.int (-74)], vm := .none },
  { cls := 13, slots := #[.int (-73)], vm := .none },
  { cls := 13, slots := #[.int (-72)], vm := .none },
  { cls := 13, slots := #[.int (-71)], vm := .none },
  { cls := 13, slots := #[.int (-70)], vm := .none },
  { cls := 13, slots := #[.int (-69)], vm := .none },
  { cls := 13, slots := #[.int (-68)], vm := .none },
  { cls := 13, slots := #[.int (-67)], vm := .none },
  { cls := 13, slots := #[.int (-66)], vm := .none },
  { cls := 13, slots := #[.int (-65)], vm := .none },
  { cls := 13, slots := #[.int (-64)], vm := .none },
  { cls := 13, slots := #[.int (-63)], vm := .none },
  { cls := 13, slots := #[.int (-62)], vm := .none },
  { cls := 13, slots := #[.int (-61)], vm := .none },
  { cls := 13, slots := #[.int (-60)], vm := .none },
  { cls := 13, slots := #[.int (-59)], vm := .none },
  { cls := 13, slots := #[.int (-58)], vm := .none },
  { cls := 13, slots := #[.int (-57)], vm := .none },
  { cls := 13, slots := #[.int (-56)], vm := .none },
  { cls := 13, slots := #[.int (-55)], vm := .none },
  { cls := 13, slots := #[.int (-54)], vm := .none },
  { cls := 13, slots := #[.int (-53)], vm := .none },
  { cls := 13, slots := #[.int (-52)], vm := .none },
  { cls := 13, slots := #[.int (-51)], vm := .none },
  { cls := 13, slots := #[.int (-50)], vm := .none },
  { cls := 13, slots := #[.int (-49)], vm := .none },
  { cls := 13, slots := #[.int (-48)], vm := .none },
  { cls := 13, slots := #[.int (-47)], vm := .none },
  { cls := 13, slots := #[.int (-46)], vm := .none },
  { cls := 13, slots := #[.int (-45)], vm := .none },
  { cls := 13, slots := #[.int (-44)], vm := .none },
  { cls := 13, slots := #[.int (-43)], vm := .none },
  { cls := 13, slots := #[.int (-42)], vm := .none },
  { cls := 13, slots := #[.int (-41)], vm := .none },
  { cls := 13, slots := #[.int (-40)], vm := .none },
  { cls := 13, slots := #[.int (-39)], vm := .none },
  { cls := 13, slots := #[.int (-38)], vm := .none },
  { cls := 13, slots := #[.int (-37)], vm := .none },
  { cls := 13, slots := #[.int (-36)], vm := .none },
  { cls := 13, slots := #[.int (-35)], vm := .none },
  { cls := 13, slots := #[.int (-34)], vm := .none },
  { cls := 13, slots := #[.int (-33)], vm := .none },
  { cls := 13, slots := #[.int (-32)], vm := .none },
  { cls := 13, slots := #[.int (-31)], vm := .none },
  { cls := 13, slots := #[.int (-30)], vm := .none },
  { cls := 13, slots := #[.int (-29)], vm := .none },
  { cls := 13, slots := #[.int (-28)], vm := .none },
  { cls := 13, slots := #[.int (-27)], vm := .none },
  { cls := 13, slots := #[.int (-26)], vm := .none },
  { cls := 13, slots := #[.int (-25)], vm := .none },
  { cls := 13, slots := #[.int (-24)], vm := .none },
  { cls := 13, slots := #[.int (-23)], vm := .none },
  { cls := 13, slots := #[.int (-22)], vm := .none },
  { cls := 13, slots := #[.int (-21)], vm := .none },
  { cls := 13, slots := #[.int (-20)], vm := .none },
  { cls := 13, slots := #[.int (-19)], vm := .none },
  { cls := 13, slots := #[.int (-18)], vm := .none },
  { cls := 13, slots := #[.int (-17)], vm := .none },
  { cls := 13, slots := #[.int (-16)], vm := .none },
  { cls := 13, slots := #[.int (-15)], vm := .none },
  { cls := 13, slots := #[.int (-14)], vm := .none },
  { cls := 13, slots := #[.int (-13)], vm := .none },
  { cls := 13, slots := #[.int (-12)], vm := .none },
  { cls := 13, slots := #[.int (-11)], vm := .none },
  { cls := 13, slots := #[.int (-10)], vm := .none },
  { cls := 13, slots := #[.int (-9)], vm := .none },
  { cls := 13, slots := #[.int (-8)], vm := .none },
  { cls := 13, slots := #[.int (-7)], vm := .none },
  { cls := 13, slots := #[.int (-6)], vm := .none },
  { cls := 13, slots := #[.int (-5)], vm := .none },
  { cls := 13, slots := #[.int (-4)], vm := .none },
  { cls := 13, slots := #[.int (-3)], vm := .none },
  { cls := 13, slots := #[.int (-2)], vm := .none },
  { cls := 13, slots := #[.int (-1)], vm := .none },
  { cls := 13, slots := #[.int (0)], vm := .none },
  { cls := 13, slots := #[.int (1)], vm := .none },
  { cls := 13, slots := #[.int (2)], vm := .none },
  { cls := 13, slots := #[.int (3)], vm := .none },
  { cls := 13, slots := #[.int (4)], vm := .none },
  { cls := 13, slots := #[.int (5)], vm := .none },
  { cls := 13, slots := #[.int (6)], vm := .none },
  { cls := 13, slots := #[.int (7)], vm := .none },
  { cls := 13, slots := #[.int (8)], vm := .none },
  { cls := 13, slots := #[.int (9)], vm := .none },
  { cls := 13, slots := #[.int (10)], vm := .none },
  { cls := 13, slots := #[.int (11)], vm := .none },
  { cls := 13, slots := #[.int (12)], vm := .none },
  { cls := 13, slots := #[.int (13)], vm := .none },
  { cls := 13, slots := #[.int (14)], vm := .none },
  { cls := 13, slots := #[.int (15)], vm := .none },
  { cls := 13, slots := #[.int (16)], vm := .none },
  { cls := 13, slots := #[.int (17)], vm := .none },
  { cls := 13, slots := #[.int (18)], vm := .none },
  { cls := 13, slots := #[.int (19)], vm := .none },
  { cls := 13, slots := #[.int (20)], vm := .none },
  { cls := 13, slots := #[.int (21)], vm := .none },
  { cls := 13, slots := #[.int (22)], vm := .none },
  { cls := 13, slots := #[.int (23)], vm := .none },
  { cls := 13, slots := #[.int (24)], vm := .none },
  { cls := 13, slots := #[.int (25)], vm := .none },
  { cls := 13, slots := #[.int (26)], vm := .none },
  { cls := 13, slots := #[.int (27)], vm := .none },
  { cls := 13, slots := #[.int (28)], vm := .none },
  { cls := 13, slots := #[.int (29)], vm := .none },
  { cls := 13, slots := #[.int (30)], vm := .none },
  { cls := 13, slots := #[.int (31)], vm := .none },
  { cls := 13, slots := #[.int (32)], vm := .none },
  { cls := 13, slots := #[.int (33)], vm := .none },
  { cls := 13, slots := #[.int (34)], vm := .none },
  { cls := 13, slots := #[.int (35)], vm := .none },
  { cls := 13, slots := #[.int (36)], vm := .none },
  { cls := 13, slots := #[.int (37)], vm := .none },
  { cls := 13, slots := #[.int (38)], vm := .none },
  { cls := 13, slots := #[.int (39)], vm := .none },
  { cls := 13, slots := #[.int (40)], vm := .none },
  { cls := 13, slots := #[.int (41)], vm := .none },
  { cls := 13, slots := #[.int (42)], vm := .none },
  { cls := 13, slots := #[.int (43)], vm := .none },
  { cls := 13, slots := #[.int (44)], vm := .none },
  { cls := 13, slots := #[.int (45)], vm := .none },
  { cls := 13, slots := #[.int (46)], vm := .none },
  { cls := 13, slots := #[.int (47)], vm := .none },
  { cls := 13, slots := #[.int (48)], vm := .none },
  { cls := 13, slots := #[.int (49)], vm := .none },
  { cls := 13, slots := #[.int (50)], vm := .none },
  { cls := 13, slots := #[.int (51)], vm := .none },
  { cls := 13, slots := #[.int (52)], vm := .none },
  { cls := 13, slots := #[.int (53)], vm := .none },
  { cls := 13, slots := #[.int (54)], vm := .none },
  { cls := 13, slots := #[.int (55)], vm := .none },
  { cls := 13, slots := #[.int (56)], vm := .none },
  { cls := 13, slots := #[.int (57)], vm := .none },
  { cls := 13, slots := #[.int (58)], vm := .none },
  { cls := 13, slots := #[.int (59)], vm := .none },
  { cls := 13, slots := #[.int (60)], vm := .none },
  { cls := 13, slots := #[.int (61)], vm := .none },
  { cls := 13, slots := #[.int (62)], vm := .none },
  { cls := 13, slots := #[.int (63)], vm := .none },
  { cls := 13, slots := #[.int (64)], vm := .none },
  { cls := 13, slots := #[.int (65)], vm := .none },
  { cls := 13, slots := #[.int (66)], vm := .none },
  { cls := 13, slots := #[.int (67)], vm := .none },
  { cls := 13, slots := #[.int (68)], vm := .none },
  { cls := 13, slots := #[.int (69)], vm := .none },
  { cls := 13, slots := #[.int (70)], vm := .none },
  { cls := 13, slots := #[.int (71)], vm := .none },
  { cls := 13, slots := #[.int (72)], vm := .none },
  { cls := 13, slots := #[.int (73)], vm := .none },
  { cls := 13, slots := #[.int (74)], vm := .none },
  { cls := 13, slots := #[.int (75)], vm := .none },
  { cls := 13, slots := #[.int (76)], vm := .none },
  { cls := 13, slots := #[.int (77)], vm := .none },
  { cls := 13, slots := #[.int (78)], vm := .none },
  { cls := 13, slots := #[.int (79)], vm := .none },
  { cls := 13, slots := #[.int (80)], vm := .none },
  { cls := 13, slots := #[.int (81)], vm := .none },
  { cls := 13, slots := #[.int (82)], vm := .none },
  { cls := 13, slots := #[.int (83)], vm := .none },
  { cls := 13, slots := #[.int (84)], vm := .none },
  { cls := 13, slots := #[.int (85)], vm := .none },
  { cls := 13, slots := #[.int (86)], vm := .none },
  { cls := 13, slots := #[.int (87)], vm := .none },
  { cls := 13, slots := #[.int (88)], vm := .none },
  { cls := 13, slots := #[.int (89)], vm := .none },
  { cls := 13, slots := #[.int (90)], vm := .none },
  { cls := 13, slots := #[.int (91)], vm := .none },
  { cls := 13, slots := #[.int (92)], vm := .none },
  { cls := 13, slots := #[.int (93)], vm := .none },
  { cls := 13, slots := #[.int (94)], vm := .none },
  { cls := 13, slots := #[.int (95)], vm := .none },
  { cls := 13, slots := #[.int (96)], vm := .none },
  { cls := 13, slots := #[.int (97)], vm := .none },
  { cls := 13, slots := #[.int (98)], vm := .none },
  { cls := 13, slots := #[.int (99)], vm := .none },
  { cls := 13, slots := #[.int (100)], vm := .none },
  { cls := 13, slots := #[.int (101)], vm := .none },
  { cls := 13, slots := #[.int (102)], vm := .none },
  { cls := 13, slots := #[.int (103)], vm := .none },
  { cls := 13, slots := #[.int (104)], vm := .none },
  { cls := 13, slots := #[.int (105)], vm := .none },
  { cls := 13, slots := #[.int (106)], vm := .none },
  { cls := 13, slots := #[.int (107)], vm := .none },
  { cls := 13, slots := #[.int (108)], vm := .none },
  { cls := 13, slots := #[.int (109)], vm := .none },
  { cls := 13, slots := #[.int (110)], vm := .none },
  { cls := 13, slots := #[.int (111)], vm := .none },
  { cls := 13, slots := #[.int (112)], vm := .none },
  { cls := 13, slots := #[.int (113)], vm := .none },
  { cls := 13, slots := #[.int (114)], vm := .none },
  { cls := 13, slots := #[.int (115)], vm := .none },
  { cls := 13, slots := #[.int (116)], vm := .none },
  { cls := 13, slots := #[.int (117)], vm := .none },
  { cls := 13, slots := #[.int (118)], vm := .none },
  { cls := 13, slots := #[.int (119)], vm := .none },
  { cls := 13, slots := #[.int (120)], vm := .none },
  { cls := 13, slots := #[.int (121)], vm := .none },
  { cls := 13, slots := #[.int (122)], vm := .none },
  { cls := 13, slots := #[.int (123)], vm := .none },
  { cls := 13, slots := #[.int (124)], vm := .none },
  { cls := 13, slots := #[.int (125)], vm := .none },
  { cls := 13, slots := #[.int (126)], vm := .none },
  { cls := 13, slots := #[.int (127)], vm := .none },
  { cls := 6, slots := #[.null, .int 0, .int 0], vm := .none },
  { cls := 6, slots := #[.null, .int 1, .int 0], vm := .none },
  { cls := 6, slots := #[.null, .int 2, .int 0], vm := .none },
  { cls := 6, slots := #[.null, .int 3, .int 0], vm := .none },
  { cls := 6, slots := #[.null, .int 4, .int 0], vm := .none },
  { cls := 6, slots := #[.null, .int 5, .int 0], vm := .none },
  { cls := 6, slots := #[.null, .int 6, .int 0], vm := .none },
  { cls := 6, slots := #[.null, .int 7, .int 0], vm := .none }]
def classes : Array Class := #[k0, k1, k2, k3, k4, k5, k6, k7, k8, k9, k10, k11, k12, k13, k14, k15, k16, k17, k18, k19, k20, k21, k22, k23]
def interned : List (Array UInt16 × Addr) := []
def slotsUsed : Nat := 560
def theMethod : MethodId := ⟨1, 1⟩
def args0 : Array Value := #[.int 5, .int 6, .int 7, .int 8, .int 9]
def aboutOver (below : List Frame) : State where
  vm := { classes := classes, interned := interned.toArray }
  heap := heap
  slotsUsed := slotsUsed
  threads := #[{ frames := .invoking theMethod args0 :: below }]
def below0 : List Frame := [.native { method := ⟨0, 0⟩, args := #[] }]
def about1 : State := aboutOver below0
def p0 : Program := .bare "" "" ""
def e0 : Env := launch0.env 0 0 0
theorem w_frames : about1.frames = Frame.invoking theMethod args0 :: below0 := rfl
set_option maxRecDepth 65536 in
theorem w_args : argsFit about1.vm theMethod args0 = true := by decide +kernel
set_option maxRecDepth 65536 in
theorem w_heap : heapFits about1 = true := by decide +kernel
set_option maxRecDepth 65536 in
theorem w_runnable : about1.curStatus? = some .runnable := by decide +kernel
set_option maxRecDepth 65536 in
theorem w_alone : about1.alone = true := by decide +kernel
set_option maxRecDepth 65536 in
theorem w_named : about1.methodNamed? x = some theMethod := by decide +kernel
set_option maxRecDepth 65536 in
theorem w_hears : about1.hears theMethod below0 = true := by decide +kernel
set_option maxRecDepth 65536 in
theorem w_ripe : about1.ripe theMethod args0 below0 = true := by decide +kernel
theorem w_running : about1.status = .running := rfl
set_option maxRecDepth 65536 in
theorem w_room : about1.hasRoom e0.platform room_1 = true :=
  launch0.hasRoom_least _ room_1 (by decide +kernel) (by decide +kernel) (by decide +kernel) (by decide +kernel) (by decide +kernel) (by decide +kernel)
theorem allAtoms_all (ts : List Jvm.Cond) (a : Array Jvm.Value) (st : Jvm.State) : (allAtoms ts).before a st = ts.all (fun c => c.before a st) := by
  induction ts with
  | nil => rfl
  | cons c t ih =>
    show (Jvm.Cond.and c (allAtoms t)).before a st = _
    rw [Jvm.Cond.before_and, ih, List.all_cons]
def words1 : List Jvm.Cond := Jvm.Cond.code x code maxLocals ret :: tables_1
/-- a 'code' word, met by the world's own term for the bytes: nothing is compared byte by byte -/
theorem code_word {y : MethodName} {bytes : ByteArray} {mx : Nat} {rt : Option FieldType} {a : Array Value} {s : State} {m : MethodId} {meth : Method} {c : Code} (h1 : s.methodNamed? y = some m) (h2 : s.vm.method? m = some meth) (h3 : meth.code = some c) (h4 : c.code = bytes)
    (h5 : (c.maxLocals == mx && c.exceptionTable.isEmpty && decide (c.maxStack ≤ mostOperands) && decide (meth.sig.returnType = rt) && !meth.locks && decide (parseMethodDescriptor y.desc = some meth.sig)) = true) : (Jvm.Cond.code y bytes mx rt).before a s = true := by
  simp only [Bool.and_eq_true, beq_iff_eq, Bool.not_eq_true', decide_eq_true_eq] at h5
  obtain ⟨⟨⟨⟨⟨g1, g2⟩, g3⟩, g4⟩, g5⟩, g6⟩ := h5
  simp [Cond.before, Cond.holds, Cond.value, h1, h2, h3, h4, g1, g2, g3, g4, g5, g6]
def isCode : Jvm.Cond → Bool
  | .code _ _ _ _ => true
  | _ => false
theorem all_split {L : List Jvm.Cond} {P : Jvm.Cond → Bool} (h1 : L.all (fun c => isCode c || P c) = true) (h2 : ∀ c ∈ L.filter isCode, P c = true) : L.all P = true := by
  refine List.all_eq_true.mpr fun c hc => ?_
  have h := List.all_eq_true.mp h1 c hc
  rcases Bool.eq_false_or_eq_true (isCode c) with hi | hi
  · exact h2 c (List.mem_filter.mpr ⟨hc, hi⟩)
  · simpa [hi] using h
set_option maxRecDepth 65536 in
theorem w_c0 : (Jvm.Cond.code x code maxLocals ret).before args0 about1 = true := code_word (m := ⟨1, 1⟩) (meth := k1m1) (c := k1c1) (by decide +kernel) rfl rfl rfl (by decide +kernel)
set_option maxRecDepth 65536 in
theorem w_c1 : (Jvm.Cond.code ({ cls := "java/lang/String", name := "valueOf", desc := "(C)Ljava/lang/String;" } : Jvm.MethodName) jdk_42_method_139_code (1 : Nat) (Option.some (Jvm.ClassFile.FieldType.object "java/lang/String"))).before args0 about1 = true := code_word (m := ⟨9, 2⟩) (meth := k9m2) (c := k9c2) (by decide +kernel) rfl rfl rfl (by decide +kernel)
set_option maxRecDepth 65536 in
theorem w_c2 : (Jvm.Cond.code ({ cls := "java/lang/StringLatin1", name := "canEncode", desc := "(C)Z" } : Jvm.MethodName) jdk_43_method_3_code (1 : Nat) (Option.some Jvm.ClassFile.FieldType.boolean)).before args0 about1 = true := code_word (m := ⟨10, 1⟩) (meth := k10m1) (c := k10c1) (by decide +kernel) rfl rfl rfl (by decide +kernel)
set_option maxRecDepth 65536 in
theorem w_c3 : (Jvm.Cond.code ({ cls := "java/lang/StringLatin1", name := "toBytes", desc := "(C)[B" } : Jvm.MethodName) jdk_43_method_46_code (1 : Nat) (Option.some (Jvm.ClassFile.FieldType.array Jvm.ClassFile.FieldType.byte))).before args0 about1 = true := code_word (m := ⟨10, 2⟩) (meth := k10m2) (c := k10c2) (by decide +kernel) rfl rfl rfl (by decide +kernel)
set_option maxRecDepth 65536 in
theorem w_c4 : (Jvm.Cond.code ({ cls := "java/lang/String", name := "<init>", desc := "([BB)V" } : Jvm.MethodName) jdk_42_method_151_code (3 : Nat) (Option.none : Option Jvm.ClassFile.FieldType)).before args0 about1 = true := code_word (m := ⟨9, 3⟩) (meth := k9m3) (c := k9c3) (by decide +kernel) rfl rfl rfl (by decide +kernel)
set_option maxRecDepth 65536 in
theorem w_c5 : (Jvm.Cond.code ({ cls := "java/lang/Object", name := "<init>", desc := "()V" } : Jvm.MethodName) object_method_1_code (1 : Nat) (Option.none : Option Jvm.ClassFile.FieldType)).before args0 about1 = true := code_word (m := ⟨0, 0⟩) (meth := k0m0) (c := k0c0) (by decide +kernel) rfl rfl rfl (by decide +kernel)
set_option maxRecDepth 65536 in
theorem w_c6 : (Jvm.Cond.code ({ cls := "java/lang/Integer", name := "valueOf", desc := "(I)Ljava/lang/Integer;" } : Jvm.MethodName) jdk_33_method_22_code (1 : Nat) (Option.some (Jvm.ClassFile.FieldType.object "java/lang/Integer"))).before args0 about1 = true := code_word (m := ⟨13, 0⟩) (meth := k13m0) (c := k13c0) (by decide +kernel) rfl rfl rfl (by decide +kernel)
set_option maxRecDepth 65536 in
theorem w_c7 : (Jvm.Cond.code ({ cls := "com/example/notional/notional/io/JsonValue", name := "<init>", desc := "(Ljava/lang/String;Ljava/lang/String;Lcom/example/notional/notional/io/JsonValue$Kind;IILjava/lang/String;Ljava/lang/Integer;Ljava/util/Map;Ljava/util/List;)V" } : Jvm.MethodName) prog_12_method_1_code (10 : Nat) (Option.none : Option Jvm.ClassFile.FieldType)).before args0 about1 = true := code_word (m := ⟨11, 0⟩) (meth := k11m0) (c := k11c0) (by decide +kernel) rfl rfl rfl (by decide +kernel)
set_option maxRecDepth 65536 in
theorem w_c8 : (Jvm.Cond.code ({ cls := "com/example/notional/notional/io/JsonValue", name := "isString", desc := "()Z" } : Jvm.MethodName) prog_12_method_4_code (1 : Nat) (Option.some Jvm.ClassFile.FieldType.boolean)).before args0 about1 = true := code_word (m := ⟨11, 1⟩) (meth := k11m1) (c := k11c1) (by decide +kernel) rfl rfl rfl (by decide +kernel)
set_option maxRecDepth 65536 in
theorem w_c9 : (Jvm.Cond.code ({ cls := "java/lang/Integer", name := "<init>", desc := "(I)V" } : Jvm.MethodName) jdk_33_method_23_code (2 : Nat) (Option.none : Option Jvm.ClassFile.FieldType)).before args0 about1 = true := code_word (m := ⟨13, 1⟩) (meth := k13m1) (c := k13c1) (by decide +kernel) rfl rfl rfl (by decide +kernel)
set_option maxRecDepth 65536 in
theorem w_c10 : (Jvm.Cond.code ({ cls := "java/lang/Number", name := "<init>", desc := "()V" } : Jvm.MethodName) jdk_18_method_1_code (1 : Nat) (Option.none : Option Jvm.ClassFile.FieldType)).before args0 about1 = true := code_word (m := ⟨12, 0⟩) (meth := k12m0) (c := k12c0) (by decide +kernel) rfl rfl rfl (by decide +kernel)
set_option maxRecDepth 65536 in
theorem w_c11 : (Jvm.Cond.code ({ cls := "com/example/notional/notional/io/JsonValue", name := "string", desc := "()Ljava/lang/String;" } : Jvm.MethodName) prog_12_method_7_code (1 : Nat) (Option.some (Jvm.ClassFile.FieldType.object "java/lang/String"))).before args0 about1 = true := code_word (m := ⟨11, 2⟩) (meth := k11m2) (c := k11c2) (by decide +kernel) rfl rfl rfl (by decide +kernel)
set_option maxRecDepth 65536 in
theorem w_c12 : (Jvm.Cond.code ({ cls := "java/lang/String", name := "equals", desc := "(Ljava/lang/Object;)Z" } : Jvm.MethodName) jdk_42_method_66_code (3 : Nat) (Option.some Jvm.ClassFile.FieldType.boolean)).before args0 about1 = true := code_word (m := ⟨9, 1⟩) (meth := k9m1) (c := k9c1) (by decide +kernel) rfl rfl rfl (by decide +kernel)
def codes1 : List Jvm.Cond := [Jvm.Cond.code x code maxLocals ret, Jvm.Cond.code ({ cls := "java/lang/String", name := "valueOf", desc := "(C)Ljava/lang/String;" } : Jvm.MethodName) jdk_42_method_139_code (1 : Nat) (Option.some (Jvm.ClassFile.FieldType.object "java/lang/String")), Jvm.Cond.code ({ cls := "java/lang/StringLatin1", name := "canEncode", desc := "(C)Z" } : Jvm.MethodName) jdk_43_method_3_code (1 : Nat) (Option.some Jvm.ClassFile.FieldType.boolean), Jvm.Cond.code ({ cls := "java/lang/StringLatin1", name := "toBytes", desc := "(C)[B" } : Jvm.MethodName) jdk_43_method_46_code (1 : Nat) (Option.some (Jvm.ClassFile.FieldType.array Jvm.ClassFile.FieldType.byte)), Jvm.Cond.code ({ cls := "java/lang/String", name := "<init>", desc := "([BB)V" } : Jvm.MethodName) jdk_42_method_151_code (3 : Nat) (Option.none : Option Jvm.ClassFile.FieldType), Jvm.Cond.code ({ cls := "java/lang/Object", name := "<init>", desc := "()V" } : Jvm.MethodName) object_method_1_code (1 : Nat) (Option.none : Option Jvm.ClassFile.FieldType), Jvm.Cond.code ({ cls := "java/lang/Integer", name := "valueOf", desc := "(I)Ljava/lang/Integer;" } : Jvm.MethodName) jdk_33_method_22_code (1 : Nat) (Option.some (Jvm.ClassFile.FieldType.object "java/lang/Integer")), Jvm.Cond.code ({ cls := "com/example/notional/notional/io/JsonValue", name := "<init>", desc := "(Ljava/lang/String;Ljava/lang/String;Lcom/example/notional/notional/io/JsonValue$Kind;IILjava/lang/String;Ljava/lang/Integer;Ljava/util/Map;Ljava/util/List;)V" } : Jvm.MethodName) prog_12_method_1_code (10 : Nat) (Option.none : Option Jvm.ClassFile.FieldType), Jvm.Cond.code ({ cls := "com/example/notional/notional/io/JsonValue", name := "isString", desc := "()Z" } : Jvm.MethodName) prog_12_method_4_code (1 : Nat) (Option.some Jvm.ClassFile.FieldType.boolean), Jvm.Cond.code ({ cls := "java/lang/Integer", name := "<init>", desc := "(I)V" } : Jvm.MethodName) jdk_33_method_23_code (2 : Nat) (Option.none : Option Jvm.ClassFile.FieldType), Jvm.Cond.code ({ cls := "java/lang/Number", name := "<init>", desc := "()V" } : Jvm.MethodName) jdk_18_method_1_code (1 : Nat) (Option.none : Option Jvm.ClassFile.FieldType), Jvm.Cond.code ({ cls := "com/example/notional/notional/io/JsonValue", name := "string", desc := "()Ljava/lang/String;" } : Jvm.MethodName) prog_12_method_7_code (1 : Nat) (Option.some (Jvm.ClassFile.FieldType.object "java/lang/String")), Jvm.Cond.code ({ cls := "java/lang/String", name := "equals", desc := "(Ljava/lang/Object;)Z" } : Jvm.MethodName) jdk_42_method_66_code (3 : Nat) (Option.some Jvm.ClassFile.FieldType.boolean)]
set_option maxRecDepth 65536 in
theorem codes_eq : words1.filter isCode = codes1 := rfl
theorem w_codes : ∀ c ∈ words1.filter isCode, c.before args0 about1 = true := by
  rw [codes_eq]
  intro c hc
  simp only [codes1, List.mem_cons, List.not_mem_nil, or_false] at hc
  rcases hc with rfl | rfl | rfl | rfl | rfl | rfl | rfl | rfl | rfl | rfl | rfl | rfl | rfl
  · exact w_c0
  · exact w_c1
  · exact w_c2
  · exact w_c3
  · exact w_c4
  · exact w_c5
  · exact w_c6
  · exact w_c7
  · exact w_c8
  · exact w_c9
  · exact w_c10
  · exact w_c11
  · exact w_c12
set_option maxRecDepth 65536 in
theorem w_t1 : (words1.take 24).all (fun c => isCode c || c.before args0 about1) = true := by decide +kernel
set_option maxRecDepth 65536 in
theorem w_t2 : ((words1.drop 24).take 24).all (fun c => isCode c || c.before args0 about1) = true := by decide +kernel
set_option maxRecDepth 65536 in
theorem w_t3 : (((words1.drop 24).drop 24).take 24).all (fun c => isCode c || c.before args0 about1) = true := by decide +kernel
set_option maxRecDepth 65536 in
theorem w_t4 : ((((words1.drop 24).drop 24).drop 24).take 24).all (fun c => isCode c || c.before args0 about1) = true := by decide +kernel
set_option maxRecDepth 65536 in
theorem w_t5 : ((((words1.drop 24).drop 24).drop 24).drop 24).all (fun c => isCode c || c.before args0 about1) = true := by decide +kernel
theorem w_tables : (allAtoms (Jvm.Cond.code x code maxLocals ret :: tables_1)).before args0 about1 = true := by
  rw [allAtoms_all]
  show words1.all (fun c => c.before args0 about1) = true
  refine all_split ?_ w_codes
  rw [← List.take_append_drop 24 words1, List.all_append, w_t1, ← List.take_append_drop 24 (words1.drop 24), List.all_append, w_t2, ← List.take_append_drop 24 ((words1.drop 24).drop 24), List.all_append, w_t3, ← List.take_append_drop 24 (((words1.drop 24).drop 24).drop 24), List.all_append, w_t4, w_t5]
  rfl
set_option maxRecDepth 65536 in
theorem w_rest : rest_1_c.before args0 about1 = true := by decide +kernel
set_option maxRecDepth 65536 in
theorem w_case : (Jvm.Cond.and given_1 narrow_1).before args0 about1 = true := by decide +kernel
theorem w_applies : (headSpec (Jvm.Cond.code x code maxLocals ret :: tables_1) room_1).applies x e0.platform about1 = true :=
  (Spec.applies_iff w_frames).mpr ⟨w_running, w_runnable, w_alone, w_named, w_hears, w_ripe, w_room, w_tables⟩
theorem atStart : AtStart classFile x code maxLocals ret World_1 tables_1 room_1 Calls_1 rest_1 Pre_1 launch0 p0 e0 about1 theMethod args0 below0 :=
  ⟨lists_1, trivial, launch0.admits_env _ _ _, launch0.least_env, fairChoices_fair.cas, fairChoices_fair.clock, w_frames, w_args, w_heap, w_applies, trivial, w_rest, w_case⟩
end start1
theorem witness_1 : WitnessClaimed_1 := ⟨start1.p0, start1.e0, start1.about1, start1.theMethod, start1.args0, start1.below0, start1.atStart⟩
end Jvm.Pilot.@@N@@
