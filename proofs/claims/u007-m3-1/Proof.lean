import JvmDerived
import JvmDerived.Pilot.@@N@@Statement
import JvmDerived.Pilot.@@N@@Code
set_option linter.unusedVariables false
set_option linter.unusedSimpArgs false
namespace Jvm.Pilot.@@N@@
open Jvm Jvm.ClassFile Sem Op Lib Jvm.Free Jvm.Stand Jvm.LawKit Jvm.RoadKit Bundle Jvm.Pilot.@@N@@.Jvm.D
/-- the walk's goal, seen from a state: it comes to an end of which P holds -/
def OwnFin (tb : Tables) (e : Env) (below : List Frame) (P : State → Outcome → Prop) (S : State) : Prop := ∃ t o, Steps tb e below S t ∧ P t o
theorem OwnFin.adv {tb : Tables} {e : Env} {below : List Frame} {P : State → Outcome → Prop} {A B : State} (h : ∀ t, Steps tb e below B t → Steps tb e below A t) (k : OwnFin tb e below P B) : OwnFin tb e below P A := by
  obtain ⟨t, o, h1, h2⟩ := k
  exact ⟨t, o, h t h1, h2⟩
theorem OwnFin.entry {tb : Tables} {e : Env} {below : List Frame} {P : State → Outcome → Prop} {T : State} {g g' : JFrame} (q : g = g') (k : ∀ P', P' = P → OwnFin tb e below P' (T.setTop g')) : ∃ t o, Steps tb e below (T.setTop g) t ∧ P t o := by
  subst q; exact k P rfl
theorem OwnFin.leaf {tb : Tables} {e : Env} {below : List Frame} {P P' : State → Outcome → Prop} {S : State} (q : P' = P) (k : ∃ t o, Steps tb e below S t ∧ P t o) : OwnFin tb e below P' S := by
  subst q; exact k
theorem own_lt {a b : Nat} (h : a < b) : a < b := h
theorem own_ne {a b : Nat} (h : a < b ∨ b < a) : a ≠ b := by omega
theorem own_monoW {s t : State} {o : Outcome} {L : List Loc} {k n k' n' : Nat} (h : ReturnedEndW s o t L k n) (hk : k ≤ k') (hn : n ≤ n') : ReturnedEndW s o t L k' n' := ⟨h.1, h.2.1, h.2.2.1, h.2.2.2.mono hk hn⟩
theorem own_chend {Z : State} {EL : List (String × Nat)} {vm0 vm1 vm2 : Vm} {U0 U1 : State} {h0 h1 : Heap} (A : CHr Z EL U0.vm h0 vm1 h1) (B : CHr Z EL vm1 h1 vm2 h1) (e0 : U0.heap = h0) (e1 : U1.heap = h1) : CHr Z EL U0.vm U0.heap vm2 U1.heap := by
  rw [e0, e1]; exact A.trans B
theorem own_staK {Z : State} {n0 : Nat} {h : Heap} {C n d : String} {v : Value} (S : Sta Z Z.heap C n d v) (O : Old Z n0 h) : Sta Z h C n d v := S.ext O.2
section OwnRet
variable {p : Program} {l : Launch} {e : Env} {R : Room} {s : State} {m : MethodId} {args : Array Value} {below : List Frame} {meth : Method} {c : Code} {T : State} {locs : List Loc} {cells slots : Nat}
theorem own_retI (X : Stand p l e R s m args below meth c T locs cells slots) (hx : p.tables.exec = Jvm.exec) {pc : Nat} {Ls : Array Slot} {z : Int32} {rest : List Value} (hret : meth.sig.returnType = some .int) (hd : decode c.code pc = .ok (.ireturn, 1)) {fs : List Frame}
    (hl : ∀ (f : JFrame) (acts : List Action), f.method = m → f.locked = none → f.entered = [] → (doReturn e (T.setTop f) acts (some (.int z))).1 = T.setFrames fs) : Steps p.tables e below (T.setTop (mkF m pc Ls (.int z :: rest))) (T.setFrames fs) :=
  retOut X hx hret rfl (Or.inl ⟨rfl, Or.inl rfl, z, rfl⟩) hd hl
theorem own_retL (X : Stand p l e R s m args below meth c T locs cells slots) (hx : p.tables.exec = Jvm.exec) {pc : Nat} {Ls : Array Slot} {z : Int64} {rest : List Value} (hret : meth.sig.returnType = some .long) (hd : decode c.code pc = .ok (.lreturn, 1)) {fs : List Frame}
    (hl : ∀ (f : JFrame) (acts : List Action), f.method = m → f.locked = none → f.entered = [] → (doReturn e (T.setTop f) acts (some (.long z))).1 = T.setFrames fs) : Steps p.tables e below (T.setTop (mkF m pc Ls (.long z :: rest))) (T.setFrames fs) :=
  retOut X hx hret rfl (Or.inr (Or.inl ⟨rfl, rfl, z, rfl⟩)) hd hl
theorem own_retR (X : Stand p l e R s m args below meth c T locs cells slots) (hx : p.tables.exec = Jvm.exec) {pc : Nat} {Ls : Array Slot} {w : Value} {t : FieldType} {rest : List Value} (hret : meth.sig.returnType = some t) (ht : t.isReference = true) (hn : narrow t w = w) (hw : w.isRef = true) (hd : decode c.code pc = .ok (.areturn, 1)) {fs : List Frame}
    (hl : ∀ (f : JFrame) (acts : List Action), f.method = m → f.locked = none → f.entered = [] → (doReturn e (T.setTop f) acts (some w)).1 = T.setFrames fs) : Steps p.tables e below (T.setTop (mkF m pc Ls (w :: rest))) (T.setFrames fs) :=
  retOut X hx hret hn (Or.inr (Or.inr (Or.inr (Or.inr ⟨rfl, ht, hw⟩)))) hd hl
end OwnRet
theorem own_eqI {args : Array Value} {first s : State} {o : Option Outcome} {idx : List Nat} {t : Term} {k : Int32} (h : (Cond.eq t (Term.int k)).value args first o s idx = some true) : t.eval args first o idx s = some (.int k) := by
  simp only [Cond.value, Term.eval] at h
  cases ht : t.eval args first o idx s with
  | none => simp [ht] at h
  | some x => cases x <;> simp [ht] at h ⊢; exact h
theorem own_fldI {Z : State} {args : Array Value} {t : Term} {a : Addr} {C n d : String} {k : Int32} (ht : t.eval args Z none [] Z = some (.ref a)) (h : (Cond.eq (Term.field t C n d) (Term.int k)).value args Z none Z [] = some true) : Fld Z Z.heap a C n d (.int k) :=
  Fld.start ((fld_at ht).symm.trans (own_eqI h))
theorem own_len {args : Array Value} {first s : State} {o : Option Outcome} {idx : List Nat} {t : Term} {a : Addr} {cl : Cell} {k : Int32} (ht : t.eval args first o idx s = some (.ref a)) (ha : s.arrayAt? a = some cl) (h : (Cond.eq (Term.length t) (Term.int k)).value args first o s idx = some true) : cl.slots.size < 2 ^ 31 ∧ cl.slots.size.toInt32 = k := by
  have e := own_eqI h
  by_cases hn : cl.slots.size < 2 ^ 31
  · rw [len_f ht ha hn] at e
    exact ⟨hn, Value.int.inj (Option.some.inj e)⟩
  · simp [Term.eval, ht, ha, hn] at e
theorem own_boxes {Z : State} {args : Array Value} (hs : ∀ d ∈ ([Cond.arrayOf (Term.static "java/lang/Integer$IntegerCache" "cache" "[Ljava/lang/Integer;") (.object "java/lang/Integer"), Cond.eq (Term.length (Term.static "java/lang/Integer$IntegerCache" "cache" "[Ljava/lang/Integer;")) (Term.int (256 : Int32)), Cond.all (Term.static "java/lang/Integer$IntegerCache" "cache" "[Ljava/lang/Integer;") (Cond.and (Cond.exactly (Term.elem (Term.static "java/lang/Integer$IntegerCache" "cache" "[Ljava/lang/Integer;") (Term.index (0 : Nat))) "java/lang/Integer") (Cond.eq (Term.field (Term.elem (Term.static "java/lang/Integer$IntegerCache" "cache" "[Ljava/lang/Integer;") (Term.index (0 : Nat))) "java/lang/Integer" "value" "I") (Term.sub (Term.index (0 : Nat)) (Term.int (128 : Int32)))))] : List Jvm.Cond), d.before args Z = true)
    (hi : (Cond.initialized "java/lang/Integer$IntegerCache").before args Z = true) (hl : (Cond.laysStatic "java/lang/Integer$IntegerCache" "cache" "[Ljava/lang/Integer;").before args Z = true) :
    ∃ (ca : Addr) (cl : Cell), Sta Z Z.heap "java/lang/Integer$IntegerCache" "cache" "[Ljava/lang/Integer;" (.ref ca) ∧ Bxs Z ca cl "java/lang/Integer" "I" 256 (fun j => .int (j - 128)) := by
  have h1 := Cond.before_iff.mp (hs _ (List.mem_of_getElem? (i := 0) rfl))
  have h2 := Cond.before_iff.mp (hs _ (List.mem_of_getElem? (i := 1) rfl))
  have h3 := Cond.before_iff.mp (hs _ (List.mem_of_getElem? (i := 2) rfl))
  obtain ⟨ca, ev⟩ := arr_v h1
  obtain ⟨cl, A⟩ := Arr.start ev h1
  obtain ⟨q, e⟩ := own_len ev (A.fin (Vm.Alike.refl _)) h2
  refine ⟨ca, cl, Sta.start ev (Or.inr ⟨hi, hl⟩), Bxs.start (fun idx => ev) A q e (by decide) h3 (fun X j nn hX => eqv_i ?_ hX)⟩
  have := idx_at (args := args) (first := Z) (o := none) (s := Z) nn
  simp [Term.eval] at this ⊢
  exact this

theorem own_nsRoot {Z : State} {a0 : Array Value} {O K : String} {n : Nat} (w : (Cond.noSuperclass O).before a0 Z = true) (wk : (Cond.instantiable K n).before a0 Z = true) (hn : O ≠ K) : NS Z O K := by
  obtain ⟨c, k, h1, h2, h3, -, -⟩ := Cond.noSuperclass_spec w
  obtain ⟨t, kt, g1, -⟩ := Cond.instantiable_spec wk
  have hd := ids_ne h1 g1 hn
  refine ⟨c, t, h1, g1, fun fuel => ?_⟩
  cases fuel with
  | zero => rfl
  | succ f => simp [Vm.isSubclassAux, hd, h2, h3]
theorem own_nsNo {Z : State} {a0 : Array Value} {C S K : String} {n : Nat} (w : (Cond.superclass C S).before a0 Z = true) (wk : (Cond.instantiable K n).before a0 Z = true) (ns : NS Z C K) (hn : C ≠ K) : ∃ c t, Z.vm.findClass C = some c ∧ Z.vm.findClass K = some t ∧ Z.vm.assignable c t = false := by
  obtain ⟨c, t, h0, g0, n3⟩ := ns
  obtain ⟨p, k, kp, h1, h2, h3, h4, h5, -, h7⟩ := Cond.superclass_spec h0 w
  obtain ⟨t', kt, g1, g2, g5, g7, -⟩ := Cond.instantiable_spec wk
  cases g0.symm.trans g1
  have hd := ids_ne h0 g0 hn
  have g8 : kt.isInterface = false := by
    cases hq : kt.isInterface with
    | false => rfl
    | true => rw [hq] at g7; cases g7
  refine ⟨c, t, h0, g0, ?_⟩
  show Z.vm.assignableAux (255 + 1) c t = false
  simp [Vm.assignableAux, hd, h2, g2, h5, g5, g8, Vm.isSubclass, n3]
theorem own_d2_0 : decode jdk_30_method_1_code 0 = .ok (.aload_n 0, 1) := by decide +kernel
theorem own_d2_1 : decode jdk_30_method_1_code 1 = .ok (.invokespecial 1, 3) := by decide +kernel
theorem own_d2_4 : decode jdk_30_method_1_code 4 = .ok (.return_, 1) := by decide +kernel
theorem own_ef_rm2 (m : MethodId) (x0 : Addr) : entryFrame m #[(.ref x0)] 1 = mkF m 0 #[.val (.ref x0)] [] := by first | (simp [entryFrame, mkF, argsToLocals, Value.category]; done) | rfl
theorem own_pn_java_lang_Record : plainName "java/lang/Record" = true := by first | (simp [plainName, overriddenIn]; done) | decide +kernel
def own_Q_rm2 (Z : State) (ob : Addr) (h0 : Heap) (n0 : Nat) (v : Option Value) (h : Heap) (L : List Loc) : Prop := v = none ∧ Fr n0 L ∧ h = h0
set_option maxRecDepth 65536 in
set_option maxHeartbeats 40000000 in
theorem own_rm2 (l : Launch) (Z : State) (a0 : Array Value) (hw : ∀ d ∈ tables_1, d.before a0 Z = true) (ws : List Jvm.Cond) (ob : Addr) (h0 : Heap) (n0 : Nat) (Z0 : n0 ≤ h0.size) :
    MetFree l (⟨"java/lang/Record", "<init>", "()V"⟩ : MethodName) (head1 (Jvm.Cond.code (⟨"java/lang/Record", "<init>", "()V"⟩ : MethodName) jdk_30_method_1_code 1 none :: ws) ({ frames := 1, cells := 0, slots := 0, locals := 12 } : Room)) (fun A0 U0 => A0 = #[(.ref ob)] ∧ Z.Warmed39 U0.vm ∧ U0.heap = h0) (fun _ _ _ _ _ => True) (fun _ U0 o0 U1 => ∃ v0 L0, o0 = .returned v0 ∧ own_Q_rm2 Z ob h0 n0 v0 U1.heap L0 ∧ FrameEnd U0 o0 U1 L0 ({ frames := 1, cells := 0, slots := 0, locals := 12 } : Room).cells ({ frames := 1, cells := 0, slots := 0, locals := 12 } : Room).slots) := by
  refine MetFree.of_bodySF (plainFor_of_name own_pn_java_lang_Record) hisR ?_
  intro p e s m args below meth c s₁ Bd hml0 hP hK
  obtain ⟨rfl, hZ, hh⟩ := hP
  have hx := Bd.exec
  have hby := Bd.bytes
  have hml : c.maxLocals = 1 := hml0
  have hown : s.vm.findClass "java/lang/Record" = some m.cls := findClass_of_methodNamed Bd.named
  have hnm := (name_of_methodNamed Bd.named Bd.method).1
  have X0 : Stand p l e ({ frames := 1, cells := 0, slots := 0, locals := 12 } : Room) s m #[(.ref ob)] below meth c s₁ [] 0 0 := Stand.of_body Bd
  have e0 : s₁.heap = h0 := by rw [← hh, Bd.state]; rfl
  have N0 := Fr.nil n0
  refine OwnFin.entry (own_ef_rm2 m ob) (fun P' hP' => ?_)
  refine OwnFin.adv (B := s₁.setTop (mkF m 1 #[.val (.ref ob)] [(.ref ob)])) (fun _ k => XS.aloadN X0.here hx rfl (hb hby own_d2_0) rfl rfl k) ?_
  obtain ⟨T1, X1, e1, st1⟩ := initO X0 hx hZ hown (hw _ (List.mem_of_getElem? (i := 11) rfl)) (hw _ (List.mem_of_getElem? (i := 12) rfl)) (hw _ (List.mem_of_getElem? (i := 13) rfl)) e0 (g := (mkF m 1 #[.val (.ref ob)] [(.ref ob)])) rfl (by rw [hml]; rfl) rfl (hb hby own_d2_1) (by decide) (W := 0) (by show 2 * 0 + _ ≤ _; exact Nat.le_of_eq rfl) (by decide)
  refine OwnFin.adv (B := T1.setTop (mkF m 4 #[.val (.ref ob)] [])) (fun _ k => st1 _ k) ?_
  obtain ⟨fs, hr, hrun, hended, hW, hsame⟩ := X1.leave (v := none) (fun _ => rfl)
  refine OwnFin.leaf hP' ⟨_, _, X1.returnOut hx Bd.returns (hb hby own_d2_4) hr, hrun, hended, _, _, rfl, ?_, ⟨_, rfl⟩, hW, hsame.mono (by decide) (by decide)⟩
  exact ⟨rfl, N0, e1⟩
theorem own_d1_0 : decode prog_16_method_1_code 0 = .ok (.aload_n 0, 1) := by decide +kernel
theorem own_pd_x28x29V : parseMethodDescriptor "()V" = some ⟨[], none⟩ := by decide +kernel
theorem own_d1_1 : decode prog_16_method_1_code 1 = .ok (.invokespecial 1, 3) := by decide +kernel
theorem own_d1_4 : decode prog_16_method_1_code 4 = .ok (.aload_n 0, 1) := by decide +kernel
theorem own_d1_5 : decode prog_16_method_1_code 5 = .ok (.iload_n 1, 1) := by decide +kernel
theorem own_d1_6 : decode prog_16_method_1_code 6 = .ok (.putfield 7, 3) := by decide +kernel
theorem own_d1_9 : decode prog_16_method_1_code 9 = .ok (.aload_n 0, 1) := by decide +kernel
theorem own_d1_10 : decode prog_16_method_1_code 10 = .ok (.iload_n 2, 1) := by decide +kernel
theorem own_d1_11 : decode prog_16_method_1_code 11 = .ok (.putfield 13, 3) := by decide +kernel
theorem own_d1_14 : decode prog_16_method_1_code 14 = .ok (.return_, 1) := by decide +kernel
theorem own_ef_rm1 (m : MethodId) (x0 : Addr) (x1 : Int32) (x2 : Int32) : entryFrame m #[(.ref x0), (.int x1), (.int x2)] 3 = mkF m 0 #[.val (.ref x0), .val (.int x1), .val (.int x2)] [] := by first | (simp [entryFrame, mkF, argsToLocals, Value.category]; done) | rfl
theorem own_pn_com_example_slipway_slipway_model_Coordinate : plainName "com/example/slipway/slipway/model/Coordinate" = true := by first | (simp [plainName, overriddenIn]; done) | decide +kernel
def own_Q_rm1 (Z : State) (ob : Addr) (pa pb : Int32) (u0 u1 : Value) (h0 : Heap) (n0 : Nat) (v : Option Value) (h : Heap) (L : List Loc) : Prop := v = none ∧ Fr n0 L ∧ Keep h0 h [ob] ∧ Fld Z h ob "com/example/slipway/slipway/model/Coordinate" "column" "I" (.int pa) ∧ Fld Z h ob "com/example/slipway/slipway/model/Coordinate" "row" "I" (.int pb)
set_option maxRecDepth 65536 in
set_option maxHeartbeats 40000000 in
theorem own_rm1 (l : Launch) (Z : State) (a0 : Array Value) (hw : ∀ d ∈ tables_1, d.before a0 Z = true) (ws : List Jvm.Cond) (ob : Addr) (pa pb : Int32) (u0 u1 : Value) (h0 : Heap) (n0 : Nat) (Z0 : n0 ≤ h0.size) (E : Exa Z h0 ob "com/example/slipway/slipway/model/Coordinate") (Fc : Fld Z h0 ob "com/example/slipway/slipway/model/Coordinate" "column" "I" u0) (Fr1 : Fld Z h0 ob "com/example/slipway/slipway/model/Coordinate" "row" "I" u1) (g_ob : n0 ≤ ob) :
    MetFree l (⟨"com/example/slipway/slipway/model/Coordinate", "<init>", "(II)V"⟩ : MethodName) (head1 (Jvm.Cond.code (⟨"com/example/slipway/slipway/model/Coordinate", "<init>", "(II)V"⟩ : MethodName) prog_16_method_1_code 3 none :: ws) ({ frames := 2, cells := 0, slots := 0, locals := 24 } : Room)) (fun A0 U0 => A0 = #[(.ref ob), (.int pa), (.int pb)] ∧ Z.Warmed39 U0.vm ∧ U0.heap = h0) (fun _ _ _ _ _ => True) (fun _ U0 o0 U1 => ∃ v0 L0, o0 = .returned v0 ∧ own_Q_rm1 Z ob pa pb u0 u1 h0 n0 v0 U1.heap L0 ∧ FrameEnd U0 o0 U1 L0 ({ frames := 2, cells := 0, slots := 0, locals := 24 } : Room).cells ({ frames := 2, cells := 0, slots := 0, locals := 24 } : Room).slots) := by
  refine MetFree.of_bodySF (plainFor_of_name own_pn_com_example_slipway_slipway_model_Coordinate) hisR ?_
  intro p e s m args below meth c s₁ Bd hml0 hP hK
  obtain ⟨rfl, hZ, hh⟩ := hP
  have hx := Bd.exec
  have hby := Bd.bytes
  have hml : c.maxLocals = 3 := hml0
  have hown : s.vm.findClass "com/example/slipway/slipway/model/Coordinate" = some m.cls := findClass_of_methodNamed Bd.named
  have hnm := (name_of_methodNamed Bd.named Bd.method).1
  have X0 : Stand p l e ({ frames := 2, cells := 0, slots := 0, locals := 24 } : Room) s m #[(.ref ob), (.int pa), (.int pb)] below meth c s₁ [] 0 0 := Stand.of_body Bd
  have e0 : s₁.heap = h0 := by rw [← hh, Bd.state]; rfl
  have N0 := Fr.nil n0
  refine OwnFin.entry (own_ef_rm1 m ob pa pb) (fun P' hP' => ?_)
  refine OwnFin.adv (B := s₁.setTop (mkF m 1 #[.val (.ref ob), .val (.int pa), .val (.int pb)] [(.ref ob)])) (fun _ k => XS.aloadN X0.here hx rfl (hb hby own_d1_0) rfl rfl k) ?_
  obtain ⟨_, _, ⟨T1, L1, k1, n1⟩, -, X1, ⟨Lc1, hQ1, l1, y1, z1⟩, st1⟩ := X0.specialBack hx (y := (⟨"java/lang/Record", "<init>", "()V"⟩ : MethodName)) rfl hown (mvT hZ (hw _ (List.mem_of_getElem? (i := 6) rfl))) (mvT hZ (hw _ (List.mem_of_getElem? (i := 7) rfl))) (mvT hZ (hw _ (List.mem_of_getElem? (i := 10) rfl))) (by decide) (backOf (W := 0) (own_rm2 l Z a0 hw [] ob h0 n0 (by omega)) hZ (hw _ (List.mem_of_getElem? (i := 10) rfl)) (hw _ (List.mem_of_getElem? (i := 9) rfl)) (by decide) (by decide)) (g := (mkF m 1 #[.val (.ref ob), .val (.int pa), .val (.int pb)] [(.ref ob)])) rfl (by rw [hml]; rfl) (Steps.refl _) (a := ob) (argsL := []) (rest := []) (lenOf own_pd_x28x29V rfl) rfl (by show 2 * 0 + _ ≤ _; exact Nat.le_of_eq rfl) (hb hby own_d1_1) (fun _ _ => ⟨rfl, e0, (by decide : 0 + 0 ≤ _), (by decide : 0 + 0 ≤ _)⟩)
  dsimp only [Pt.U, Pt.locs, Pt.cells, Pt.slots] at X1 l1 y1 z1 st1 hQ1
  subst l1 y1 z1
  obtain ⟨rfl, N1q, eh1⟩ := hQ1
  have N1 := Fr.app N0 N1q
  refine OwnFin.adv (B := T1.setTop (mkF m 4 #[.val (.ref ob), .val (.int pa), .val (.int pb)] [])) (fun _ k => st1.trans k) ?_
  refine OwnFin.adv (B := T1.setTop (mkF m 5 #[.val (.ref ob), .val (.int pa), .val (.int pb)] [(.ref ob)])) (fun _ k => XS.aloadN X1.here hx rfl (hb hby own_d1_4) rfl rfl k) ?_
  refine OwnFin.adv (B := T1.setTop (mkF m 6 #[.val (.ref ob), .val (.int pa), .val (.int pb)] [(.int pa), (.ref ob)])) (fun _ k => XS.iloadN X1.here hx rfl (hb hby own_d1_5) rfl k) ?_
  obtain ⟨T2, h2, X2, e2, W2, st2⟩ := putF X1 hx hZ hown (host := "") (Or.inl (hw _ (List.mem_of_getElem? (i := 14) rfl))) Via.refl eh1 Fc E (Or.inr ⟨(hw _ (List.mem_of_getElem? (i := 15) rfl)), rfl, hnm⟩) (hw _ (List.mem_of_getElem? (i := 1) rfl)) (ty := .int) (by decide) rfl rfl (g := (mkF m 6 #[.val (.ref ob), .val (.int pa), .val (.int pb)] [(.int pa), (.ref ob)])) rfl rfl (hb hby own_d1_6)
  have Fw2 : Fld Z h2 ob "com/example/slipway/slipway/model/Coordinate" "column" "I" (.int pa) := Fc.same W2
  have sz3 : h0.size ≤ h2.size := Nat.le_of_eq W2.size.symm
  have N2 := Fr.snoc X2 N1 (by omega : n0 ≤ ob)
  refine OwnFin.adv (B := T2.setTop (mkF m 9 #[.val (.ref ob), .val (.int pa), .val (.int pb)] [])) (fun _ k => st2 _ k) ?_
  refine OwnFin.adv (B := T2.setTop (mkF m 10 #[.val (.ref ob), .val (.int pa), .val (.int pb)] [(.ref ob)])) (fun _ k => XS.aloadN X2.here hx rfl (hb hby own_d1_9) rfl rfl k) ?_
  refine OwnFin.adv (B := T2.setTop (mkF m 11 #[.val (.ref ob), .val (.int pa), .val (.int pb)] [(.int pb), (.ref ob)])) (fun _ k => XS.iloadN X2.here hx rfl (hb hby own_d1_10) rfl k) ?_
  have Fv4_1 : Exa Z h2 ob "com/example/slipway/slipway/model/Coordinate" := (E.wr W2)
  have Fv5_1 : Fld Z h2 ob "com/example/slipway/slipway/model/Coordinate" "row" "I" u1 := (Fr1.other W2 (Or.inr (slot_ne (Or.inr (hw _ (List.mem_of_getElem? (i := 17) rfl))) (Or.inr (hw _ (List.mem_of_getElem? (i := 15) rfl))) (by decide) (t := .int) (t' := .int) (by decide) (by decide))))
  obtain ⟨T6, h6, X6, e6, W6, st6⟩ := putF X2 hx hZ hown (host := "") (Or.inl (hw _ (List.mem_of_getElem? (i := 16) rfl))) Via.refl e2 Fv5_1 Fv4_1 (Or.inr ⟨(hw _ (List.mem_of_getElem? (i := 17) rfl)), rfl, hnm⟩) (hw _ (List.mem_of_getElem? (i := 1) rfl)) (ty := .int) (by decide) rfl rfl (g := (mkF m 11 #[.val (.ref ob), .val (.int pa), .val (.int pb)] [(.int pb), (.ref ob)])) rfl rfl (hb hby own_d1_11)
  have Fw6 : Fld Z h6 ob "com/example/slipway/slipway/model/Coordinate" "row" "I" (.int pb) := Fv5_1.same W6
  have sz7 : h2.size ≤ h6.size := Nat.le_of_eq W6.size.symm
  have N6 := Fr.snoc X6 N2 (by omega : n0 ≤ ob)
  refine OwnFin.adv (B := T6.setTop (mkF m 14 #[.val (.ref ob), .val (.int pa), .val (.int pb)] [])) (fun _ k => st6 _ k) ?_
  obtain ⟨fs, hr, hrun, hended, hW, hsame⟩ := X6.leave (v := none) (fun _ => rfl)
  refine OwnFin.leaf hP' ⟨_, _, X6.returnOut hx Bd.returns (hb hby own_d1_14) hr, hrun, hended, _, _, rfl, ?_, ⟨_, rfl⟩, hW, hsame.mono (by decide) (by decide)⟩
  have Fv8_2 : Fld Z h6 ob "com/example/slipway/slipway/model/Coordinate" "column" "I" (.int pa) := (Fw2.other W6 (Or.inr (slot_ne (Or.inr (hw _ (List.mem_of_getElem? (i := 15) rfl))) (Or.inr (hw _ (List.mem_of_getElem? (i := 17) rfl))) (by decide) (t := .int) (t' := .int) (by decide) (by decide))))
  rw [show (T6.setFrames fs).heap = h6 from e6]
  exact ⟨rfl, N6, (((Keep.refl h0 [ob]).wr W2 (Or.inl (List.mem_of_getElem? (i := 0) rfl))).wr W6 (Or.inl (List.mem_of_getElem? (i := 0) rfl))), Fv8_2, Fw6⟩
theorem own_d4_0 : decode prog_16_method_4_code 0 = .ok (.aload_n 1, 1) := by decide +kernel
theorem own_d4_1 : decode prog_16_method_4_code 1 = .ok (.instanceof 8, 3) := by decide +kernel
theorem own_d4_4 : decode prog_16_method_4_code 4 = .ok (.ifCond .eq 34, 3) := by decide +kernel
theorem own_d4_7 : decode prog_16_method_4_code 7 = .ok (.aload_n 1, 1) := by decide +kernel
theorem own_d4_8 : decode prog_16_method_4_code 8 = .ok (.checkcast 8, 3) := by decide +kernel
theorem own_d4_11 : decode prog_16_method_4_code 11 = .ok (.astore_n 2, 1) := by decide +kernel
theorem own_d4_12 : decode prog_16_method_4_code 12 = .ok (.aload_n 0, 1) := by decide +kernel
theorem own_d4_13 : decode prog_16_method_4_code 13 = .ok (.getfield 7, 3) := by decide +kernel
theorem own_d4_16 : decode prog_16_method_4_code 16 = .ok (.aload_n 2, 1) := by decide +kernel
theorem own_d4_17 : decode prog_16_method_4_code 17 = .ok (.getfield 7, 3) := by decide +kernel
theorem own_d4_20 : decode prog_16_method_4_code 20 = .ok (.if_icmp .ne 18, 3) := by decide +kernel
theorem own_d4_23 : decode prog_16_method_4_code 23 = .ok (.aload_n 0, 1) := by decide +kernel
theorem own_d4_24 : decode prog_16_method_4_code 24 = .ok (.getfield 13, 3) := by decide +kernel
theorem own_d4_27 : decode prog_16_method_4_code 27 = .ok (.aload_n 2, 1) := by decide +kernel
theorem own_d4_28 : decode prog_16_method_4_code 28 = .ok (.getfield 13, 3) := by decide +kernel
theorem own_d4_31 : decode prog_16_method_4_code 31 = .ok (.if_icmp .ne 7, 3) := by decide +kernel
theorem own_d4_34 : decode prog_16_method_4_code 34 = .ok (.iconst 1, 1) := by decide +kernel
theorem own_d4_35 : decode prog_16_method_4_code 35 = .ok (.goto 4, 3) := by decide +kernel
theorem own_d4_39 : decode prog_16_method_4_code 39 = .ok (.ireturn, 1) := by decide +kernel
theorem own_d4_38 : decode prog_16_method_4_code 38 = .ok (.iconst 0, 1) := by decide +kernel
theorem own_ef_rm4c (m : MethodId) (x0 : Addr) (x1 : Addr) : entryFrame m #[(.ref x0), (.ref x1)] 3 = mkF m 0 #[.val (.ref x0), .val (.ref x1), .unset] [] := by first | (simp [entryFrame, mkF, argsToLocals, Value.category]; done) | rfl
def own_Q_rm4c (Z : State) (oa oc : Addr) (c1 r1 c2 r2 : Int32) (h0 : Heap) (n0 : Nat) (v : Option Value) (h : Heap) (L : List Loc) : Prop := v = some (.int (if c1 = c2 ∧ r1 = r2 then (1 : Int32) else 0)) ∧ Fr n0 L ∧ h = h0
set_option maxRecDepth 65536 in
set_option maxHeartbeats 40000000 in
theorem own_rm4c (l : Launch) (Z : State) (a0 : Array Value) (hw : ∀ d ∈ tables_1, d.before a0 Z = true) (ws : List Jvm.Cond) (oa oc : Addr) (c1 r1 c2 r2 : Int32) (h0 : Heap) (n0 : Nat) (Z0 : n0 ≤ h0.size) (FAc : Fld Z h0 oa "com/example/slipway/slipway/model/Coordinate" "column" "I" (.int c1)) (FAr : Fld Z h0 oa "com/example/slipway/slipway/model/Coordinate" "row" "I" (.int r1)) (E2 : Exa Z h0 oc "com/example/slipway/slipway/model/Coordinate") (FBc : Fld Z h0 oc "com/example/slipway/slipway/model/Coordinate" "column" "I" (.int c2)) (FBr : Fld Z h0 oc "com/example/slipway/slipway/model/Coordinate" "row" "I" (.int r2)) :
    MetFree l (⟨"com/example/slipway/slipway/model/Coordinate", "equals", "(Ljava/lang/Object;)Z"⟩ : MethodName) (head1 (Jvm.Cond.code (⟨"com/example/slipway/slipway/model/Coordinate", "equals", "(Ljava/lang/Object;)Z"⟩ : MethodName) prog_16_method_4_code 3 (some .boolean) :: ws) ({ frames := 0, cells := 0, slots := 0, locals := 0 } : Room)) (fun A0 U0 => A0 = #[(.ref oa), (.ref oc)] ∧ Z.Warmed39 U0.vm ∧ U0.heap = h0) (fun _ _ _ _ _ => True) (fun _ U0 o0 U1 => ∃ v0 L0, o0 = .returned v0 ∧ own_Q_rm4c Z oa oc c1 r1 c2 r2 h0 n0 v0 U1.heap L0 ∧ FrameEnd U0 o0 U1 L0 ({ frames := 0, cells := 0, slots := 0, locals := 0 } : Room).cells ({ frames := 0, cells := 0, slots := 0, locals := 0 } : Room).slots) := by
  refine MetFree.of_bodySF (plainFor_of_name own_pn_com_example_slipway_slipway_model_Coordinate) hisR ?_
  intro p e s m args below meth c s₁ Bd hml0 hP hK
  obtain ⟨rfl, hZ, hh⟩ := hP
  have hx := Bd.exec
  have hby := Bd.bytes
  have hml : c.maxLocals = 3 := hml0
  have hown : s.vm.findClass "com/example/slipway/slipway/model/Coordinate" = some m.cls := findClass_of_methodNamed Bd.named
  have hnm := (name_of_methodNamed Bd.named Bd.method).1
  have X0 : Stand p l e ({ frames := 0, cells := 0, slots := 0, locals := 0 } : Room) s m #[(.ref oa), (.ref oc)] below meth c s₁ [] 0 0 := Stand.of_body Bd
  have e0 : s₁.heap = h0 := by rw [← hh, Bd.state]; rfl
  have N0 := Fr.nil n0
  refine OwnFin.entry (own_ef_rm4c m oa oc) (fun P' hP' => ?_)
  refine OwnFin.adv (B := s₁.setTop (mkF m 1 #[.val (.ref oa), .val (.ref oc), .unset] [(.ref oc)])) (fun _ k => XS.aloadN X0.here hx rfl (hb hby own_d4_0) rfl rfl k) ?_
  obtain ⟨T1, X1, e1, st1⟩ := instY X0 hx hZ hown (hw _ (List.mem_of_getElem? (i := 23) rfl)) e0 (Ins.self E2) (g := (mkF m 1 #[.val (.ref oa), .val (.ref oc), .unset] [(.ref oc)])) rfl rfl (hb hby own_d4_1)
  refine OwnFin.adv (B := T1.setTop (mkF m 4 #[.val (.ref oa), .val (.ref oc), .unset] [(.int (1 : Int32))])) (fun _ k => st1 _ k) ?_
  have hc4_3 : ¬ ((1 : Int32) = (0 : Int32)) := by decide
  refine OwnFin.adv (B := T1.setTop (mkF m 7 #[.val (.ref oa), .val (.ref oc), .unset] [])) (fun _ k => XS.ifNo X1.here hx rfl (hb hby own_d4_4) rfl ((if0 _ _).trans (feq hc4_3).1) k) ?_
  refine OwnFin.adv (B := T1.setTop (mkF m 8 #[.val (.ref oa), .val (.ref oc), .unset] [(.ref oc)])) (fun _ k => XS.aloadN X1.here hx rfl (hb hby own_d4_7) rfl rfl k) ?_
  obtain ⟨T2, X2, e2, st2⟩ := castY X1 hx hZ hown (hw _ (List.mem_of_getElem? (i := 23) rfl)) e1 (Ins.self E2) (g := (mkF m 8 #[.val (.ref oa), .val (.ref oc), .unset] [(.ref oc)])) rfl rfl (hb hby own_d4_8)
  refine OwnFin.adv (B := T2.setTop (mkF m 11 #[.val (.ref oa), .val (.ref oc), .unset] [(.ref oc)])) (fun _ k => st2 _ k) ?_
  refine OwnFin.adv (B := T2.setTop (mkF m 12 #[.val (.ref oa), .val (.ref oc), .val (.ref oc)] [])) (fun _ k => XS.astoreN X2.here hx rfl (hb hby own_d4_11) rfl rfl (l' := #[.val (.ref oa), .val (.ref oc), .val (.ref oc)]) rfl k) ?_
  refine OwnFin.adv (B := T2.setTop (mkF m 13 #[.val (.ref oa), .val (.ref oc), .val (.ref oc)] [(.ref oa)])) (fun _ k => XS.aloadN X2.here hx rfl (hb hby own_d4_12) rfl rfl k) ?_
  obtain ⟨T3, X3, e3, st3⟩ := getF X2 hx hZ hown (host := "") (Or.inl (hw _ (List.mem_of_getElem? (i := 14) rfl))) Via.refl e2 FAc (g := (mkF m 13 #[.val (.ref oa), .val (.ref oc), .val (.ref oc)] [(.ref oa)])) rfl rfl (hb hby own_d4_13)
  refine OwnFin.adv (B := T3.setTop (mkF m 16 #[.val (.ref oa), .val (.ref oc), .val (.ref oc)] [(.int c1)])) (fun _ k => st3 _ k) ?_
  refine OwnFin.adv (B := T3.setTop (mkF m 17 #[.val (.ref oa), .val (.ref oc), .val (.ref oc)] [(.ref oc), (.int c1)])) (fun _ k => XS.aloadN X3.here hx rfl (hb hby own_d4_16) rfl rfl k) ?_
  obtain ⟨T4, X4, e4, st4⟩ := getF X3 hx hZ hown (host := "") (Or.inl (hw _ (List.mem_of_getElem? (i := 14) rfl))) Via.refl e3 FBc (g := (mkF m 17 #[.val (.ref oa), .val (.ref oc), .val (.ref oc)] [(.ref oc), (.int c1)])) rfl rfl (hb hby own_d4_17)
  refine OwnFin.adv (B := T4.setTop (mkF m 20 #[.val (.ref oa), .val (.ref oc), .val (.ref oc)] [(.int c2), (.int c1)])) (fun _ k => st4 _ k) ?_
  by_cases hc20 : c1 = c2
  ·
    refine OwnFin.adv (B := T4.setTop (mkF m 23 #[.val (.ref oa), .val (.ref oc), .val (.ref oc)] [])) (fun _ k => XS.icmpNo X4.here hx rfl (hb hby own_d4_20) rfl (teq hc20).2 k) ?_
    refine OwnFin.adv (B := T4.setTop (mkF m 24 #[.val (.ref oa), .val (.ref oc), .val (.ref oc)] [(.ref oa)])) (fun _ k => XS.aloadN X4.here hx rfl (hb hby own_d4_23) rfl rfl k) ?_
    obtain ⟨T5, X5, e5, st5⟩ := getF X4 hx hZ hown (host := "") (Or.inl (hw _ (List.mem_of_getElem? (i := 16) rfl))) Via.refl e4 FAr (g := (mkF m 24 #[.val (.ref oa), .val (.ref oc), .val (.ref oc)] [(.ref oa)])) rfl rfl (hb hby own_d4_24)
    refine OwnFin.adv (B := T5.setTop (mkF m 27 #[.val (.ref oa), .val (.ref oc), .val (.ref oc)] [(.int r1)])) (fun _ k => st5 _ k) ?_
    refine OwnFin.adv (B := T5.setTop (mkF m 28 #[.val (.ref oa), .val (.ref oc), .val (.ref oc)] [(.ref oc), (.int r1)])) (fun _ k => XS.aloadN X5.here hx rfl (hb hby own_d4_27) rfl rfl k) ?_
    obtain ⟨T6, X6, e6, st6⟩ := getF X5 hx hZ hown (host := "") (Or.inl (hw _ (List.mem_of_getElem? (i := 16) rfl))) Via.refl e5 FBr (g := (mkF m 28 #[.val (.ref oa), .val (.ref oc), .val (.ref oc)] [(.ref oc), (.int r1)])) rfl rfl (hb hby own_d4_28)
    refine OwnFin.adv (B := T6.setTop (mkF m 31 #[.val (.ref oa), .val (.ref oc), .val (.ref oc)] [(.int r2), (.int r1)])) (fun _ k => st6 _ k) ?_
    by_cases hc31 : r1 = r2
    ·
      refine OwnFin.adv (B := T6.setTop (mkF m 34 #[.val (.ref oa), .val (.ref oc), .val (.ref oc)] [])) (fun _ k => XS.icmpNo X6.here hx rfl (hb hby own_d4_31) rfl (teq hc31).2 k) ?_
      refine OwnFin.adv (B := T6.setTop (mkF m 35 #[.val (.ref oa), .val (.ref oc), .val (.ref oc)] [(.int (1 : Int32))])) (fun _ k => XS.iconst X6.here hx rfl (hb hby own_d4_34) k) ?_
      refine OwnFin.adv (B := T6.setTop (mkF m 39 #[.val (.ref oa), .val (.ref oc), .val (.ref oc)] [(.int (1 : Int32))])) (fun _ k => XS.goto X6.here hx rfl (pc0 := 35) (pc' := 39) rfl (hb hby own_d4_35) (by decide) (by decide) k) ?_
      obtain ⟨fs, hr, hrun, hended, hW, hsame⟩ := X6.leave (v := some (.int (1 : Int32))) (fun h => by rw [Bd.returns] at h; cases h)
      refine OwnFin.leaf hP' ⟨_, _, retN X6 hx (t := .boolean) Bd.returns (by simp) (hb hby own_d4_39) hr, hrun, hended, _, _, rfl, ?_, ⟨_, rfl⟩, hW, hsame.mono (by decide) (by decide)⟩
      exact ⟨by simp [*], N0, e6⟩
    ·
      refine OwnFin.adv (B := T6.setTop (mkF m 38 #[.val (.ref oa), .val (.ref oc), .val (.ref oc)] [])) (fun _ k => XS.icmpYes X6.here hx rfl (pc0 := 31) (pc' := 38) rfl (hb hby own_d4_31) rfl (feq hc31).2 (by decide) (by decide) k) ?_
      refine OwnFin.adv (B := T6.setTop (mkF m 39 #[.val (.ref oa), .val (.ref oc), .val (.ref oc)] [(.int (0 : Int32))])) (fun _ k => XS.iconst X6.here hx rfl (hb hby own_d4_38) k) ?_
      obtain ⟨fs, hr, hrun, hended, hW, hsame⟩ := X6.leave (v := some (.int (0 : Int32))) (fun h => by rw [Bd.returns] at h; cases h)
      refine OwnFin.leaf hP' ⟨_, _, retN X6 hx (t := .boolean) Bd.returns (by simp) (hb hby own_d4_39) hr, hrun, hended, _, _, rfl, ?_, ⟨_, rfl⟩, hW, hsame.mono (by decide) (by decide)⟩
      exact ⟨by simp [*], N0, e6⟩
  ·
    refine OwnFin.adv (B := T4.setTop (mkF m 38 #[.val (.ref oa), .val (.ref oc), .val (.ref oc)] [])) (fun _ k => XS.icmpYes X4.here hx rfl (pc0 := 20) (pc' := 38) rfl (hb hby own_d4_20) rfl (feq hc20).2 (by decide) (by decide) k) ?_
    refine OwnFin.adv (B := T4.setTop (mkF m 39 #[.val (.ref oa), .val (.ref oc), .val (.ref oc)] [(.int (0 : Int32))])) (fun _ k => XS.iconst X4.here hx rfl (hb hby own_d4_38) k) ?_
    obtain ⟨fs, hr, hrun, hended, hW, hsame⟩ := X4.leave (v := some (.int (0 : Int32))) (fun h => by rw [Bd.returns] at h; cases h)
    refine OwnFin.leaf hP' ⟨_, _, retN X4 hx (t := .boolean) Bd.returns (by simp) (hb hby own_d4_39) hr, hrun, hended, _, _, rfl, ?_, ⟨_, rfl⟩, hW, hsame.mono (by decide) (by decide)⟩
    exact ⟨by simp [*], N0, e4⟩
theorem own_ef_rm4n (m : MethodId) (x0 : Addr) : entryFrame m #[(.ref x0), .null] 3 = mkF m 0 #[.val (.ref x0), .val .null, .unset] [] := by first | (simp [entryFrame, mkF, argsToLocals, Value.category]; done) | rfl
def own_Q_rm4n (Z : State) (oa : Addr) (h0 : Heap) (n0 : Nat) (v : Option Value) (h : Heap) (L : List Loc) : Prop := v = some (.int (0 : Int32)) ∧ Fr n0 L ∧ h = h0
set_option maxRecDepth 65536 in
set_option maxHeartbeats 40000000 in
theorem own_rm4n (l : Launch) (Z : State) (a0 : Array Value) (hw : ∀ d ∈ tables_1, d.before a0 Z = true) (ws : List Jvm.Cond) (oa : Addr) (h0 : Heap) (n0 : Nat) (Z0 : n0 ≤ h0.size) :
    MetFree l (⟨"com/example/slipway/slipway/model/Coordinate", "equals", "(Ljava/lang/Object;)Z"⟩ : MethodName) (head1 (Jvm.Cond.code (⟨"com/example/slipway/slipway/model/Coordinate", "equals", "(Ljava/lang/Object;)Z"⟩ : MethodName) prog_16_method_4_code 3 (some .boolean) :: ws) ({ frames := 0, cells := 0, slots := 0, locals := 0 } : Room)) (fun A0 U0 => A0 = #[(.ref oa), .null] ∧ Z.Warmed39 U0.vm ∧ U0.heap = h0) (fun _ _ _ _ _ => True) (fun _ U0 o0 U1 => ∃ v0 L0, o0 = .returned v0 ∧ own_Q_rm4n Z oa h0 n0 v0 U1.heap L0 ∧ FrameEnd U0 o0 U1 L0 ({ frames := 0, cells := 0, slots := 0, locals := 0 } : Room).cells ({ frames := 0, cells := 0, slots := 0, locals := 0 } : Room).slots) := by
  refine MetFree.of_bodySF (plainFor_of_name own_pn_com_example_slipway_slipway_model_Coordinate) hisR ?_
  intro p e s m args below meth c s₁ Bd hml0 hP hK
  obtain ⟨rfl, hZ, hh⟩ := hP
  have hx := Bd.exec
  have hby := Bd.bytes
  have hml : c.maxLocals = 3 := hml0
  have hown : s.vm.findClass "com/example/slipway/slipway/model/Coordinate" = some m.cls := findClass_of_methodNamed Bd.named
  have hnm := (name_of_methodNamed Bd.named Bd.method).1
  have X0 : Stand p l e ({ frames := 0, cells := 0, slots := 0, locals := 0 } : Room) s m #[(.ref oa), .null] below meth c s₁ [] 0 0 := Stand.of_body Bd
  have e0 : s₁.heap = h0 := by rw [← hh, Bd.state]; rfl
  have N0 := Fr.nil n0
  refine OwnFin.entry (own_ef_rm4n m oa) (fun P' hP' => ?_)
  refine OwnFin.adv (B := s₁.setTop (mkF m 1 #[.val (.ref oa), .val .null, .unset] [.null])) (fun _ k => XS.aloadN X0.here hx rfl (hb hby own_d4_0) rfl rfl k) ?_
  refine OwnFin.adv (B := s₁.setTop (mkF m 4 #[.val (.ref oa), .val .null, .unset] [(.int (0 : Int32))])) (fun _ k => X0.instanceofNull hx (g := (mkF m 1 #[.val (.ref oa), .val .null, .unset] [.null])) rfl rfl (hb hby own_d4_1) _ k) ?_
  have hc4_3 : (0 : Int32) = (0 : Int32) := by decide
  refine OwnFin.adv (B := s₁.setTop (mkF m 38 #[.val (.ref oa), .val .null, .unset] [])) (fun _ k => XS.ifYes X0.here hx rfl (pc0 := 4) (pc' := 38) rfl (hb hby own_d4_4) rfl ((if0 _ _).trans (teq hc4_3).1) (by decide) (by decide) k) ?_
  refine OwnFin.adv (B := s₁.setTop (mkF m 39 #[.val (.ref oa), .val .null, .unset] [(.int (0 : Int32))])) (fun _ k => XS.iconst X0.here hx rfl (hb hby own_d4_38) k) ?_
  obtain ⟨fs, hr, hrun, hended, hW, hsame⟩ := X0.leave (v := some (.int (0 : Int32))) (fun h => by rw [Bd.returns] at h; cases h)
  refine OwnFin.leaf hP' ⟨_, _, retN X0 hx (t := .boolean) Bd.returns (by simp) (hb hby own_d4_39) hr, hrun, hended, _, _, rfl, ?_, ⟨_, rfl⟩, hW, hsame.mono (by decide) (by decide)⟩
  exact ⟨rfl, N0, e0⟩
theorem own_ef_rm4i (m : MethodId) (x0 : Addr) (x1 : Addr) : entryFrame m #[(.ref x0), (.ref x1)] 3 = mkF m 0 #[.val (.ref x0), .val (.ref x1), .unset] [] := by first | (simp [entryFrame, mkF, argsToLocals, Value.category]; done) | rfl
def own_Q_rm4i (Z : State) (oa oc : Addr) (h0 : Heap) (n0 : Nat) (v : Option Value) (h : Heap) (L : List Loc) : Prop := v = some (.int (0 : Int32)) ∧ Fr n0 L ∧ h = h0
set_option maxRecDepth 65536 in
set_option maxHeartbeats 40000000 in
theorem own_rm4i (l : Launch) (Z : State) (a0 : Array Value) (hw : ∀ d ∈ tables_1, d.before a0 Z = true) (ws : List Jvm.Cond) (oa oc : Addr) (h0 : Heap) (n0 : Nat) (Z0 : n0 ≤ h0.size) (E2 : Exa Z h0 oc "java/lang/Integer") :
    MetFree l (⟨"com/example/slipway/slipway/model/Coordinate", "equals", "(Ljava/lang/Object;)Z"⟩ : MethodName) (head1 (Jvm.Cond.code (⟨"com/example/slipway/slipway/model/Coordinate", "equals", "(Ljava/lang/Object;)Z"⟩ : MethodName) prog_16_method_4_code 3 (some .boolean) :: ws) ({ frames := 0, cells := 0, slots := 0, locals := 0 } : Room)) (fun A0 U0 => A0 = #[(.ref oa), (.ref oc)] ∧ Z.Warmed39 U0.vm ∧ U0.heap = h0) (fun _ _ _ _ _ => True) (fun _ U0 o0 U1 => ∃ v0 L0, o0 = .returned v0 ∧ own_Q_rm4i Z oa oc h0 n0 v0 U1.heap L0 ∧ FrameEnd U0 o0 U1 L0 ({ frames := 0, cells := 0, slots := 0, locals := 0 } : Room).cells ({ frames := 0, cells := 0, slots := 0, locals := 0 } : Room).slots) := by
  refine MetFree.of_bodySF (plainFor_of_name own_pn_com_example_slipway_slipway_model_Coordinate) hisR ?_
  intro p e s m args below meth c s₁ Bd hml0 hP hK
  obtain ⟨rfl, hZ, hh⟩ := hP
  have hx := Bd.exec
  have hby := Bd.bytes
  have hml : c.maxLocals = 3 := hml0
  have hown : s.vm.findClass "com/example/slipway/slipway/model/Coordinate" = some m.cls := findClass_of_methodNamed Bd.named
  have hnm := (name_of_methodNamed Bd.named Bd.method).1
  have X0 : Stand p l e ({ frames := 0, cells := 0, slots := 0, locals := 0 } : Room) s m #[(.ref oa), (.ref oc)] below meth c s₁ [] 0 0 := Stand.of_body Bd
  have e0 : s₁.heap = h0 := by rw [← hh, Bd.state]; rfl
  have N0 := Fr.nil n0
  refine OwnFin.entry (own_ef_rm4i m oa oc) (fun P' hP' => ?_)
  refine OwnFin.adv (B := s₁.setTop (mkF m 1 #[.val (.ref oa), .val (.ref oc), .unset] [(.ref oc)])) (fun _ k => XS.aloadN X0.here hx rfl (hb hby own_d4_0) rfl rfl k) ?_
  obtain ⟨T1, X1, e1, st1⟩ := instNo X0 hx hZ hown (hw _ (List.mem_of_getElem? (i := 23) rfl)) e0 E2 (own_nsNo (hw _ (List.mem_of_getElem? (i := 46) rfl)) (hw _ (List.mem_of_getElem? (i := 1) rfl)) (NS.step (hw _ (List.mem_of_getElem? (i := 46) rfl)) (NS.step (hw _ (List.mem_of_getElem? (i := 47) rfl)) (own_nsRoot (hw _ (List.mem_of_getElem? (i := 48) rfl)) (hw _ (List.mem_of_getElem? (i := 1) rfl)) (by decide)) (by decide)) (by decide)) (by decide)) (g := (mkF m 1 #[.val (.ref oa), .val (.ref oc), .unset] [(.ref oc)])) rfl rfl (hb hby own_d4_1)
  refine OwnFin.adv (B := T1.setTop (mkF m 4 #[.val (.ref oa), .val (.ref oc), .unset] [(.int (0 : Int32))])) (fun _ k => st1 _ k) ?_
  have hc4_3 : (0 : Int32) = (0 : Int32) := by decide
  refine OwnFin.adv (B := T1.setTop (mkF m 38 #[.val (.ref oa), .val (.ref oc), .unset] [])) (fun _ k => XS.ifYes X1.here hx rfl (pc0 := 4) (pc' := 38) rfl (hb hby own_d4_4) rfl ((if0 _ _).trans (teq hc4_3).1) (by decide) (by decide) k) ?_
  refine OwnFin.adv (B := T1.setTop (mkF m 39 #[.val (.ref oa), .val (.ref oc), .unset] [(.int (0 : Int32))])) (fun _ k => XS.iconst X1.here hx rfl (hb hby own_d4_38) k) ?_
  obtain ⟨fs, hr, hrun, hended, hW, hsame⟩ := X1.leave (v := some (.int (0 : Int32))) (fun h => by rw [Bd.returns] at h; cases h)
  refine OwnFin.leaf hP' ⟨_, _, retN X1 hx (t := .boolean) Bd.returns (by simp) (hb hby own_d4_39) hr, hrun, hended, _, _, rfl, ?_, ⟨_, rfl⟩, hW, hsame.mono (by decide) (by decide)⟩
  exact ⟨rfl, N0, e1⟩
theorem own_d7_0 : decode jdk_18_method_1_code 0 = .ok (.aload_n 0, 1) := by decide +kernel
theorem own_d7_1 : decode jdk_18_method_1_code 1 = .ok (.invokespecial 1, 3) := by decide +kernel
theorem own_d7_4 : decode jdk_18_method_1_code 4 = .ok (.return_, 1) := by decide +kernel
theorem own_ef_numInit (m : MethodId) (x0 : Addr) : entryFrame m #[(.ref x0)] 1 = mkF m 0 #[.val (.ref x0)] [] := by first | (simp [entryFrame, mkF, argsToLocals, Value.category]; done) | rfl
theorem own_pn_java_lang_Number : plainName "java/lang/Number" = true := by first | (simp [plainName, overriddenIn]; done) | decide +kernel
def own_Q_numInit (Z : State) (ob : Addr) (h0 : Heap) (n0 : Nat) (v : Option Value) (h : Heap) (L : List Loc) : Prop := v = none ∧ Fr n0 L ∧ h = h0
set_option maxRecDepth 65536 in
set_option maxHeartbeats 40000000 in
theorem own_numInit (l : Launch) (Z : State) (a0 : Array Value) (hw : ∀ d ∈ tables_1, d.before a0 Z = true) (ws : List Jvm.Cond) (ob : Addr) (h0 : Heap) (n0 : Nat) (Z0 : n0 ≤ h0.size) :
    MetFree l (⟨"java/lang/Number", "<init>", "()V"⟩ : MethodName) (head1 (Jvm.Cond.code (⟨"java/lang/Number", "<init>", "()V"⟩ : MethodName) jdk_18_method_1_code 1 none :: ws) ({ frames := 1, cells := 0, slots := 0, locals := 12 } : Room)) (fun A0 U0 => A0 = #[(.ref ob)] ∧ Z.Warmed39 U0.vm ∧ U0.heap = h0) (fun _ _ _ _ _ => True) (fun _ U0 o0 U1 => ∃ v0 L0, o0 = .returned v0 ∧ own_Q_numInit Z ob h0 n0 v0 U1.heap L0 ∧ FrameEnd U0 o0 U1 L0 ({ frames := 1, cells := 0, slots := 0, locals := 12 } : Room).cells ({ frames := 1, cells := 0, slots := 0, locals := 12 } : Room).slots) := by
  refine MetFree.of_bodySF (plainFor_of_name own_pn_java_lang_Number) hisR ?_
  intro p e s m args below meth c s₁ Bd hml0 hP hK
  obtain ⟨rfl, hZ, hh⟩ := hP
  have hx := Bd.exec
  have hby := Bd.bytes
  have hml : c.maxLocals = 1 := hml0
  have hown : s.vm.findClass "java/lang/Number" = some m.cls := findClass_of_methodNamed Bd.named
  have hnm := (name_of_methodNamed Bd.named Bd.method).1
  have X0 : Stand p l e ({ frames := 1, cells := 0, slots := 0, locals := 12 } : Room) s m #[(.ref ob)] below meth c s₁ [] 0 0 := Stand.of_body Bd
  have e0 : s₁.heap = h0 := by rw [← hh, Bd.state]; rfl
  have N0 := Fr.nil n0
  refine OwnFin.entry (own_ef_numInit m ob) (fun P' hP' => ?_)
  refine OwnFin.adv (B := s₁.setTop (mkF m 1 #[.val (.ref ob)] [(.ref ob)])) (fun _ k => XS.aloadN X0.here hx rfl (hb hby own_d7_0) rfl rfl k) ?_
  obtain ⟨T1, X1, e1, st1⟩ := initO X0 hx hZ hown (hw _ (List.mem_of_getElem? (i := 43) rfl)) (hw _ (List.mem_of_getElem? (i := 12) rfl)) (hw _ (List.mem_of_getElem? (i := 13) rfl)) e0 (g := (mkF m 1 #[.val (.ref ob)] [(.ref ob)])) rfl (by rw [hml]; rfl) rfl (hb hby own_d7_1) (by decide) (W := 0) (by show 2 * 0 + _ ≤ _; exact Nat.le_of_eq rfl) (by decide)
  refine OwnFin.adv (B := T1.setTop (mkF m 4 #[.val (.ref ob)] [])) (fun _ k => st1 _ k) ?_
  obtain ⟨fs, hr, hrun, hended, hW, hsame⟩ := X1.leave (v := none) (fun _ => rfl)
  refine OwnFin.leaf hP' ⟨_, _, X1.returnOut hx Bd.returns (hb hby own_d7_4) hr, hrun, hended, _, _, rfl, ?_, ⟨_, rfl⟩, hW, hsame.mono (by decide) (by decide)⟩
  exact ⟨rfl, N0, e1⟩
theorem own_d6_0 : decode jdk_33_method_23_code 0 = .ok (.aload_n 0, 1) := by decide +kernel
theorem own_d6_1 : decode jdk_33_method_23_code 1 = .ok (.invokespecial 202, 3) := by decide +kernel
theorem own_d6_4 : decode jdk_33_method_23_code 4 = .ok (.aload_n 0, 1) := by decide +kernel
theorem own_d6_5 : decode jdk_33_method_23_code 5 = .ok (.iload_n 1, 1) := by decide +kernel
theorem own_d6_6 : decode jdk_33_method_23_code 6 = .ok (.putfield 205, 3) := by decide +kernel
theorem own_d6_9 : decode jdk_33_method_23_code 9 = .ok (.return_, 1) := by decide +kernel
theorem own_ef_intInit (m : MethodId) (x0 : Addr) (x1 : Int32) : entryFrame m #[(.ref x0), (.int x1)] 2 = mkF m 0 #[.val (.ref x0), .val (.int x1)] [] := by first | (simp [entryFrame, mkF, argsToLocals, Value.category]; done) | rfl
theorem own_pn_java_lang_Integer : plainName "java/lang/Integer" = true := by first | (simp [plainName, overriddenIn]; done) | decide +kernel
def own_Q_intInit (Z : State) (ob : Addr) (pv : Int32) (u0 : Value) (h0 : Heap) (n0 : Nat) (v : Option Value) (h : Heap) (L : List Loc) : Prop := v = none ∧ Fr n0 L ∧ Keep h0 h [ob] ∧ Fld Z h ob "java/lang/Integer" "value" "I" (.int pv)
set_option maxRecDepth 65536 in
set_option maxHeartbeats 40000000 in
theorem own_intInit (l : Launch) (Z : State) (a0 : Array Value) (hw : ∀ d ∈ tables_1, d.before a0 Z = true) (ws : List Jvm.Cond) (ob : Addr) (pv : Int32) (u0 : Value) (h0 : Heap) (n0 : Nat) (Z0 : n0 ≤ h0.size) (E : Exa Z h0 ob "java/lang/Integer") (F : Fld Z h0 ob "java/lang/Integer" "value" "I" u0) (g_ob : n0 ≤ ob) :
    MetFree l (⟨"java/lang/Integer", "<init>", "(I)V"⟩ : MethodName) (head1 (Jvm.Cond.code (⟨"java/lang/Integer", "<init>", "(I)V"⟩ : MethodName) jdk_33_method_23_code 2 none :: ws) ({ frames := 2, cells := 0, slots := 0, locals := 24 } : Room)) (fun A0 U0 => A0 = #[(.ref ob), (.int pv)] ∧ Z.Warmed39 U0.vm ∧ U0.heap = h0) (fun _ _ _ _ _ => True) (fun _ U0 o0 U1 => ∃ v0 L0, o0 = .returned v0 ∧ own_Q_intInit Z ob pv u0 h0 n0 v0 U1.heap L0 ∧ FrameEnd U0 o0 U1 L0 ({ frames := 2, cells := 0, slots := 0, locals := 24 } : Room).cells ({ frames := 2, cells := 0, slots := 0, locals := 24 } : Room).slots) := by
  refine MetFree.of_bodySF (plainFor_of_name own_pn_java_lang_Integer) hisR ?_
  intro p e s m args below meth c s₁ Bd hml0 hP hK
  obtain ⟨rfl, hZ, hh⟩ := hP
  have hx := Bd.exec
  have hby := Bd.bytes
  have hml : c.maxLocals = 2 := hml0
  have hown : s.vm.findClass "java/lang/Integer" = some m.cls := findClass_of_methodNamed Bd.named
  have hnm := (name_of_methodNamed Bd.named Bd.method).1
  have X0 : Stand p l e ({ frames := 2, cells := 0, slots := 0, locals := 24 } : Room) s m #[(.ref ob), (.int pv)] below meth c s₁ [] 0 0 := Stand.of_body Bd
  have e0 : s₁.heap = h0 := by rw [← hh, Bd.state]; rfl
  have N0 := Fr.nil n0
  refine OwnFin.entry (own_ef_intInit m ob pv) (fun P' hP' => ?_)
  refine OwnFin.adv (B := s₁.setTop (mkF m 1 #[.val (.ref ob), .val (.int pv)] [(.ref ob)])) (fun _ k => XS.aloadN X0.here hx rfl (hb hby own_d6_0) rfl rfl k) ?_
  obtain ⟨_, _, ⟨T1, L1, k1, n1⟩, -, X1, ⟨Lc1, hQ1, l1, y1, z1⟩, st1⟩ := X0.specialBack hx (y := (⟨"java/lang/Number", "<init>", "()V"⟩ : MethodName)) rfl hown (mvT hZ (hw _ (List.mem_of_getElem? (i := 37) rfl))) (mvT hZ (hw _ (List.mem_of_getElem? (i := 38) rfl))) (mvT hZ (hw _ (List.mem_of_getElem? (i := 42) rfl))) (by decide) (backOf (W := 0) (own_numInit l Z a0 hw [] ob h0 n0 (by omega)) hZ (hw _ (List.mem_of_getElem? (i := 42) rfl)) (hw _ (List.mem_of_getElem? (i := 41) rfl)) (by decide) (by decide)) (g := (mkF m 1 #[.val (.ref ob), .val (.int pv)] [(.ref ob)])) rfl (by rw [hml]; rfl) (Steps.refl _) (a := ob) (argsL := []) (rest := []) (lenOf own_pd_x28x29V rfl) rfl (by show 2 * 0 + _ ≤ _; exact Nat.le_of_eq rfl) (hb hby own_d6_1) (fun _ _ => ⟨rfl, e0, (by decide : 0 + 0 ≤ _), (by decide : 0 + 0 ≤ _)⟩)
  dsimp only [Pt.U, Pt.locs, Pt.cells, Pt.slots] at X1 l1 y1 z1 st1 hQ1
  subst l1 y1 z1
  obtain ⟨rfl, N1q, eh1⟩ := hQ1
  have N1 := Fr.app N0 N1q
  refine OwnFin.adv (B := T1.setTop (mkF m 4 #[.val (.ref ob), .val (.int pv)] [])) (fun _ k => st1.trans k) ?_
  refine OwnFin.adv (B := T1.setTop (mkF m 5 #[.val (.ref ob), .val (.int pv)] [(.ref ob)])) (fun _ k => XS.aloadN X1.here hx rfl (hb hby own_d6_4) rfl rfl k) ?_
  refine OwnFin.adv (B := T1.setTop (mkF m 6 #[.val (.ref ob), .val (.int pv)] [(.int pv), (.ref ob)])) (fun _ k => XS.iloadN X1.here hx rfl (hb hby own_d6_5) rfl k) ?_
  obtain ⟨T2, h2, X2, e2, W2, st2⟩ := putF X1 hx hZ hown (host := "") (Or.inl (hw _ (List.mem_of_getElem? (i := 44) rfl))) Via.refl eh1 F E (Or.inr ⟨(hw _ (List.mem_of_getElem? (i := 45) rfl)), rfl, hnm⟩) (hw _ (List.mem_of_getElem? (i := 32) rfl)) (ty := .int) (by decide) rfl rfl (g := (mkF m 6 #[.val (.ref ob), .val (.int pv)] [(.int pv), (.ref ob)])) rfl rfl (hb hby own_d6_6)
  have Fw2 : Fld Z h2 ob "java/lang/Integer" "value" "I" (.int pv) := F.same W2
  have sz3 : h0.size ≤ h2.size := Nat.le_of_eq W2.size.symm
  have N2 := Fr.snoc X2 N1 (by omega : n0 ≤ ob)
  refine OwnFin.adv (B := T2.setTop (mkF m 9 #[.val (.ref ob), .val (.int pv)] [])) (fun _ k => st2 _ k) ?_
  obtain ⟨fs, hr, hrun, hended, hW, hsame⟩ := X2.leave (v := none) (fun _ => rfl)
  refine OwnFin.leaf hP' ⟨_, _, X2.returnOut hx Bd.returns (hb hby own_d6_9) hr, hrun, hended, _, _, rfl, ?_, ⟨_, rfl⟩, hW, hsame.mono (by decide) (by decide)⟩
  rw [show (T2.setFrames fs).heap = h2 from e2]
  exact ⟨rfl, N2, ((Keep.refl h0 [ob]).wr W2 (Or.inl (List.mem_of_getElem? (i := 0) rfl))), Fw2⟩
theorem own_inbox {i : Int32} (h1 : ¬ i < (-128 : Int32)) (h2 : ¬ (127 : Int32) < i) : ¬ (i + (128 : Int32)) < 0 ∧ (i + (128 : Int32)) < (256 : Int32) := by
  have e := c_iadd i 128
  have r := rng32 (i + 128)
  have r0 := rng32 i
  rw [Int32.lt_iff_toInt_lt] at h1 h2 ⊢
  rw [Int32.lt_iff_toInt_lt]
  have a1 : (-128 : Int32).toInt = -128 := by decide
  have a2 : (127 : Int32).toInt = 127 := by decide
  have a3 : (128 : Int32).toInt = 128 := by decide
  have a4 : (256 : Int32).toInt = 256 := by decide
  have a5 : (0 : Int32).toInt = 0 := by decide
  rw [a1] at h1; rw [a2] at h2; rw [a3] at e; rw [a4, a5]
  omega
theorem own_d5_0 : decode jdk_33_method_22_code 0 = .ok (.iload_n 0, 1) := by decide +kernel
theorem own_d5_1 : decode jdk_33_method_22_code 1 = .ok (.bipush (-128), 2) := by decide +kernel
theorem own_d5_3 : decode jdk_33_method_22_code 3 = .ok (.if_icmp .lt 20, 3) := by decide +kernel
theorem own_d5_23 : decode jdk_33_method_22_code 23 = .ok (.new 1, 3) := by decide +kernel
theorem own_d5_26 : decode jdk_33_method_22_code 26 = .ok (.dup, 1) := by decide +kernel
theorem own_d5_27 : decode jdk_33_method_22_code 27 = .ok (.iload_n 0, 1) := by decide +kernel
theorem own_pd_x28Ix29V : parseMethodDescriptor "(I)V" = some ⟨[.int], none⟩ := by decide +kernel
theorem own_d5_28 : decode jdk_33_method_22_code 28 = .ok (.invokespecial 199, 3) := by decide +kernel
theorem own_d5_31 : decode jdk_33_method_22_code 31 = .ok (.areturn, 1) := by decide +kernel
theorem own_d5_6 : decode jdk_33_method_22_code 6 = .ok (.iload_n 0, 1) := by decide +kernel
theorem own_d5_7 : decode jdk_33_method_22_code 7 = .ok (.getstatic 191, 3) := by decide +kernel
theorem own_d5_10 : decode jdk_33_method_22_code 10 = .ok (.if_icmp .gt 13, 3) := by decide +kernel
theorem own_d5_13 : decode jdk_33_method_22_code 13 = .ok (.getstatic 195, 3) := by decide +kernel
theorem own_d5_16 : decode jdk_33_method_22_code 16 = .ok (.iload_n 0, 1) := by decide +kernel
theorem own_d5_17 : decode jdk_33_method_22_code 17 = .ok (.sipush 128, 3) := by decide +kernel
theorem own_d5_20 : decode jdk_33_method_22_code 20 = .ok (.iadd, 1) := by decide +kernel
theorem own_d5_21 : decode jdk_33_method_22_code 21 = .ok (.aaload, 1) := by decide +kernel
theorem own_d5_22 : decode jdk_33_method_22_code 22 = .ok (.areturn, 1) := by decide +kernel
theorem own_ef_valueOf (m : MethodId) (x0 : Int32) : entryFrame m #[(.int x0)] 1 = mkF m 0 #[.val (.int x0)] [] := by first | (simp [entryFrame, mkF, argsToLocals, Value.category]; done) | rfl
def own_Q_valueOf (Z : State) (iv : Int32) (ca : Addr) (cl : Cell) (h0 : Heap) (n0 : Nat) (v : Option Value) (h : Heap) (L : List Loc) : Prop := ∃ r : Addr, v = some (.ref r) ∧ Fr n0 L ∧ Keep h0 h [] ∧ Exa Z h r "java/lang/Integer"
set_option maxRecDepth 65536 in
set_option maxHeartbeats 40000000 in
theorem own_valueOf (l : Launch) (Z : State) (a0 : Array Value) (hw : ∀ d ∈ tables_1, d.before a0 Z = true) (ws : List Jvm.Cond) (iv : Int32) (ca : Addr) (cl : Cell) (h0 : Heap) (n0 : Nat) (Z0 : n0 ≤ h0.size) (O0 : Old Z n0 h0) (SH : Sta Z Z.heap "java/lang/Integer$IntegerCache" "high" "I" (.int (127 : Int32))) (SC : Sta Z Z.heap "java/lang/Integer$IntegerCache" "cache" "[Ljava/lang/Integer;" (.ref ca)) (BX : Bxs Z ca cl "java/lang/Integer" "I" 256 (fun j => .int (j - 128))) :
    MetFree l (⟨"java/lang/Integer", "valueOf", "(I)Ljava/lang/Integer;"⟩ : MethodName) (head1 (Jvm.Cond.code (⟨"java/lang/Integer", "valueOf", "(I)Ljava/lang/Integer;"⟩ : MethodName) jdk_33_method_22_code 1 (some (.object "java/lang/Integer")) :: ws) ({ frames := 3, cells := 1, slots := 1, locals := 38 } : Room)) (fun A0 U0 => A0 = #[(.int iv)] ∧ Z.Warmed39 U0.vm ∧ U0.heap = h0) (fun _ _ _ _ _ => True) (fun _ U0 o0 U1 => ∃ v0 L0, o0 = .returned v0 ∧ own_Q_valueOf Z iv ca cl h0 n0 v0 U1.heap L0 ∧ FrameEnd U0 o0 U1 L0 ({ frames := 3, cells := 1, slots := 1, locals := 38 } : Room).cells ({ frames := 3, cells := 1, slots := 1, locals := 38 } : Room).slots) := by
  refine MetFree.of_bodySF (plainFor_of_name own_pn_java_lang_Integer) hisR ?_
  intro p e s m args below meth c s₁ Bd hml0 hP hK
  obtain ⟨rfl, hZ, hh⟩ := hP
  have hx := Bd.exec
  have hby := Bd.bytes
  have hml : c.maxLocals = 1 := hml0
  have hown : s.vm.findClass "java/lang/Integer" = some m.cls := findClass_of_methodNamed Bd.named
  have hnm := (name_of_methodNamed Bd.named Bd.method).1
  have X0 : Stand p l e ({ frames := 3, cells := 1, slots := 1, locals := 38 } : Room) s m #[(.int iv)] below meth c s₁ [] 0 0 := Stand.of_body Bd
  have e0 : s₁.heap = h0 := by rw [← hh, Bd.state]; rfl
  have N0 := Fr.nil n0
  refine OwnFin.entry (own_ef_valueOf m iv) (fun P' hP' => ?_)
  refine OwnFin.adv (B := s₁.setTop (mkF m 1 #[.val (.int iv)] [(.int iv)])) (fun _ k => XS.iloadN X0.here hx rfl (hb hby own_d5_0) rfl k) ?_
  refine OwnFin.adv (B := s₁.setTop (mkF m 3 #[.val (.int iv)] [(.int (-128 : Int32)), (.int iv)])) (fun _ k => XS.bipush X0.here hx rfl (hb hby own_d5_1) k) ?_
  by_cases hc3 : iv < (-128 : Int32)
  ·
    refine OwnFin.adv (B := s₁.setTop (mkF m 23 #[.val (.int iv)] [])) (fun _ k => XS.icmpYes X0.here hx rfl (pc0 := 3) (pc' := 23) rfl (hb hby own_d5_3) rfl (tlt hc3).1 (by decide) (by decide) k) ?_
    obtain ⟨T1, h1, X1, e1, E1, A1, D1, -, st1⟩ := newO X0 hx hZ hown (hw _ (List.mem_of_getElem? (i := 31) rfl)) (hw _ (List.mem_of_getElem? (i := 32) rfl)) (hw _ (List.mem_of_getElem? (i := 27) rfl)) e0 (g := (mkF m 23 #[.val (.int iv)] [])) rfl (hb hby own_d5_23) (by decide) (by decide)
    obtain ⟨b1, g1⟩ : ∃ z, z = h0.size := ⟨_, rfl⟩
    rw [← g1] at A1 D1 st1
    have sz2 : h0.size ≤ h1.size := E1.1
    have lt_b1 := own_lt A1.lt
    have F1_value : Fld Z h1 b1 "java/lang/Integer" "value" "I" (.int (0 : Int32)) := D1 (Or.inr (hw _ (List.mem_of_getElem? (i := 45) rfl))) (ty := .int) (by decide)
    refine OwnFin.adv (B := T1.setTop (mkF m 26 #[.val (.int iv)] [(.ref b1)])) (fun _ k => st1 _ k) ?_
    refine OwnFin.adv (B := T1.setTop (mkF m 27 #[.val (.int iv)] [(.ref b1), (.ref b1)])) (fun _ k => XS.dup X1.here hx rfl (hb hby own_d5_26) rfl rfl k) ?_
    refine OwnFin.adv (B := T1.setTop (mkF m 28 #[.val (.int iv)] [(.int iv), (.ref b1), (.ref b1)])) (fun _ k => XS.iloadN X1.here hx rfl (hb hby own_d5_27) rfl k) ?_
    obtain ⟨_, _, ⟨T3, L3, k3, n3⟩, -, X3, ⟨Lc3, hQ3, l3, y3, z3⟩, st3⟩ := X1.specialBack hx (y := (⟨"java/lang/Integer", "<init>", "(I)V"⟩ : MethodName)) rfl hown (mvT hZ (hw _ (List.mem_of_getElem? (i := 33) rfl))) (mvT hZ (hw _ (List.mem_of_getElem? (i := 34) rfl))) (mvT hZ (hw _ (List.mem_of_getElem? (i := 36) rfl))) (by decide) (backOf (W := 1) (own_intInit l Z a0 hw [] b1 iv _ h1 n0 (by omega) A1 F1_value (by omega)) hZ (hw _ (List.mem_of_getElem? (i := 36) rfl)) (hw _ (List.mem_of_getElem? (i := 27) rfl)) (by decide) (by decide)) (g := (mkF m 28 #[.val (.int iv)] [(.int iv), (.ref b1), (.ref b1)])) rfl (by rw [hml]; rfl) (Steps.refl _) (a := b1) (argsL := [(.int iv)]) (rest := [(.ref b1)]) (lenOf own_pd_x28Ix29V rfl) rfl (by show 2 * 0 + _ ≤ _; exact Nat.le_of_eq rfl) (hb hby own_d5_28) (fun _ _ => ⟨rfl, e1, (by decide : 1 + 0 ≤ _), (by decide : 1 + 0 ≤ _)⟩)
    dsimp only [Pt.U, Pt.locs, Pt.cells, Pt.slots] at X3 l3 y3 z3 st3 hQ3
    subst l3 y3 z3
    obtain ⟨rfl, N3q, K3, Fi3⟩ := hQ3
    have N3 := Fr.app N0 N3q
    have sz4 : h1.size ≤ T3.heap.size := K3.1
    refine OwnFin.adv (B := T3.setTop (mkF m 31 #[.val (.int iv)] [(.ref b1)])) (fun _ k => st3.trans k) ?_
    obtain ⟨fs, hr, hrun, hended, hW, hsame⟩ := X3.leave (v := some (.ref b1)) (fun h => by rw [Bd.returns] at h; cases h)
    refine OwnFin.leaf hP' ⟨_, _, own_retR X3 hx Bd.returns rfl rfl rfl (hb hby own_d5_31) hr, hrun, hended, _, _, rfl, ?_, ⟨_, rfl⟩, hW, hsame.mono (by decide) (by decide)⟩
    have Fv5_2 : Exa Z T3.heap b1 "java/lang/Integer" := (A1.keep K3)
    rw [show (T3.setFrames fs).heap = T3.heap from rfl]
    exact ⟨_, rfl, N3, (((Keep.refl h0 []).ext E1).trans K3 (allS (Or.inr (by omega)) all0)), Fv5_2⟩
  ·
    refine OwnFin.adv (B := s₁.setTop (mkF m 6 #[.val (.int iv)] [])) (fun _ k => XS.icmpNo X0.here hx rfl (hb hby own_d5_3) rfl (flt hc3).1 k) ?_
    refine OwnFin.adv (B := s₁.setTop (mkF m 7 #[.val (.int iv)] [(.int iv)])) (fun _ k => XS.iloadN X0.here hx rfl (hb hby own_d5_6) rfl k) ?_
    obtain ⟨T6, X6, e6, st6⟩ := getS2 X0 hx hZ hown (host := "") (Or.inl (hw _ (List.mem_of_getElem? (i := 29) rfl))) Via.refl e0 (own_staK SH O0) (g := (mkF m 7 #[.val (.int iv)] [(.int iv)])) rfl (hb hby own_d5_7)
    refine OwnFin.adv (B := T6.setTop (mkF m 10 #[.val (.int iv)] [(.int (127 : Int32)), (.int iv)])) (fun _ k => st6 _ k) ?_
    by_cases hc10 : (127 : Int32) < iv
    ·
      refine OwnFin.adv (B := T6.setTop (mkF m 23 #[.val (.int iv)] [])) (fun _ k => XS.icmpYes X6.here hx rfl (pc0 := 10) (pc' := 23) rfl (hb hby own_d5_10) rfl (tlt hc10).2.2.1 (by decide) (by decide) k) ?_
      obtain ⟨T7, h7, X7, e7, E7, A7, D7, -, st7⟩ := newO X6 hx hZ hown (hw _ (List.mem_of_getElem? (i := 31) rfl)) (hw _ (List.mem_of_getElem? (i := 32) rfl)) (hw _ (List.mem_of_getElem? (i := 27) rfl)) e6 (g := (mkF m 23 #[.val (.int iv)] [])) rfl (hb hby own_d5_23) (by decide) (by decide)
      obtain ⟨b7, g7⟩ : ∃ z, z = h0.size := ⟨_, rfl⟩
      rw [← g7] at A7 D7 st7
      have sz8 : h0.size ≤ h7.size := E7.1
      have lt_b7 := own_lt A7.lt
      have F7_value : Fld Z h7 b7 "java/lang/Integer" "value" "I" (.int (0 : Int32)) := D7 (Or.inr (hw _ (List.mem_of_getElem? (i := 45) rfl))) (ty := .int) (by decide)
      refine OwnFin.adv (B := T7.setTop (mkF m 26 #[.val (.int iv)] [(.ref b7)])) (fun _ k => st7 _ k) ?_
      refine OwnFin.adv (B := T7.setTop (mkF m 27 #[.val (.int iv)] [(.ref b7), (.ref b7)])) (fun _ k => XS.dup X7.here hx rfl (hb hby own_d5_26) rfl rfl k) ?_
      refine OwnFin.adv (B := T7.setTop (mkF m 28 #[.val (.int iv)] [(.int iv), (.ref b7), (.ref b7)])) (fun _ k => XS.iloadN X7.here hx rfl (hb hby own_d5_27) rfl k) ?_
      obtain ⟨_, _, ⟨T9, L9, k9, n9⟩, -, X9, ⟨Lc9, hQ9, l9, y9, z9⟩, st9⟩ := X7.specialBack hx (y := (⟨"java/lang/Integer", "<init>", "(I)V"⟩ : MethodName)) rfl hown (mvT hZ (hw _ (List.mem_of_getElem? (i := 33) rfl))) (mvT hZ (hw _ (List.mem_of_getElem? (i := 34) rfl))) (mvT hZ (hw _ (List.mem_of_getElem? (i := 36) rfl))) (by decide) (backOf (W := 1) (own_intInit l Z a0 hw [] b7 iv _ h7 n0 (by omega) A7 F7_value (by omega)) hZ (hw _ (List.mem_of_getElem? (i := 36) rfl)) (hw _ (List.mem_of_getElem? (i := 27) rfl)) (by decide) (by decide)) (g := (mkF m 28 #[.val (.int iv)] [(.int iv), (.ref b7), (.ref b7)])) rfl (by rw [hml]; rfl) (Steps.refl _) (a := b7) (argsL := [(.int iv)]) (rest := [(.ref b7)]) (lenOf own_pd_x28Ix29V rfl) rfl (by show 2 * 0 + _ ≤ _; exact Nat.le_of_eq rfl) (hb hby own_d5_28) (fun _ _ => ⟨rfl, e7, (by decide : 1 + 0 ≤ _), (by decide : 1 + 0 ≤ _)⟩)
      dsimp only [Pt.U, Pt.locs, Pt.cells, Pt.slots] at X9 l9 y9 z9 st9 hQ9
      subst l9 y9 z9
      obtain ⟨rfl, N9q, K9, Fi9⟩ := hQ9
      have N9 := Fr.app N0 N9q
      have sz10 : h7.size ≤ T9.heap.size := K9.1
      refine OwnFin.adv (B := T9.setTop (mkF m 31 #[.val (.int iv)] [(.ref b7)])) (fun _ k => st9.trans k) ?_
      obtain ⟨fs, hr, hrun, hended, hW, hsame⟩ := X9.leave (v := some (.ref b7)) (fun h => by rw [Bd.returns] at h; cases h)
      refine OwnFin.leaf hP' ⟨_, _, own_retR X9 hx Bd.returns rfl rfl rfl (hb hby own_d5_31) hr, hrun, hended, _, _, rfl, ?_, ⟨_, rfl⟩, hW, hsame.mono (by decide) (by decide)⟩
      have Fv11_2 : Exa Z T9.heap b7 "java/lang/Integer" := (A7.keep K9)
      rw [show (T9.setFrames fs).heap = T9.heap from rfl]
      exact ⟨_, rfl, N9, (((Keep.refl h0 []).ext E7).trans K9 (allS (Or.inr (by omega)) all0)), Fv11_2⟩
    ·
      refine OwnFin.adv (B := T6.setTop (mkF m 13 #[.val (.int iv)] [])) (fun _ k => XS.icmpNo X6.here hx rfl (hb hby own_d5_10) rfl (flt hc10).2.2.1 k) ?_
      obtain ⟨T12, X12, e12, st12⟩ := getS2 X6 hx hZ hown (host := "") (Or.inl (hw _ (List.mem_of_getElem? (i := 49) rfl))) Via.refl e6 (own_staK SC O0) (g := (mkF m 13 #[.val (.int iv)] [])) rfl (hb hby own_d5_13)
      refine OwnFin.adv (B := T12.setTop (mkF m 16 #[.val (.int iv)] [(.ref ca)])) (fun _ k => st12 _ k) ?_
      refine OwnFin.adv (B := T12.setTop (mkF m 17 #[.val (.int iv)] [(.int iv), (.ref ca)])) (fun _ k => XS.iloadN X12.here hx rfl (hb hby own_d5_16) rfl k) ?_
      refine OwnFin.adv (B := T12.setTop (mkF m 20 #[.val (.int iv)] [(.int (128 : Int32)), (.int iv), (.ref ca)])) (fun _ k => XS.sipush X12.here hx rfl (hb hby own_d5_17) k) ?_
      refine OwnFin.adv (B := T12.setTop (mkF m 21 #[.val (.int iv)] [(.int (iv + (128 : Int32))), (.ref ca)])) (fun _ k => XS.iadd X12.here hx rfl (hb hby own_d5_20) rfl k) ?_
      obtain ⟨Ar, hsz, hz⟩ := BX.ext O0.2
      have hin : ¬ ((iv + (128 : Int32)) < 0 ∨ cl.slots.size ≤ ((iv + (128 : Int32))).toNatClampNeg) := inb_of hsz (own_inbox hc3 hc10)
      obtain ⟨bx, hbx, Ebx, Fbx⟩ := BX.2.2.2 _ hin
      refine OwnFin.adv (B := T12.setTop (mkF m 22 #[.val (.int iv)] [(.ref bx)])) (fun _ k => X12.aaload hx (j := (iv + (128 : Int32))) (v := .ref bx) (by rw [e12]; exact Ar.1) (State.isArrayOf_alike hZ.alike Ar.2.1) rfl Ar.2.2 hin hbx (g := (mkF m 21 #[.val (.int iv)] [(.int (iv + (128 : Int32))), (.ref ca)])) rfl rfl (hb hby own_d5_21) _ k) ?_
      obtain ⟨fs, hr, hrun, hended, hW, hsame⟩ := X12.leave (v := some (.ref bx)) (fun h => by rw [Bd.returns] at h; cases h)
      refine OwnFin.leaf hP' ⟨_, _, own_retR X12 hx Bd.returns rfl rfl rfl (hb hby own_d5_22) hr, hrun, hended, _, _, rfl, ?_, ⟨_, rfl⟩, hW, hsame.mono (by decide) (by decide)⟩
      rw [show (T12.setFrames fs).heap = h0 from e12]
      exact ⟨_, rfl, N0, (Keep.refl h0 []), (Ebx.ext O0.2)⟩
theorem own_pd_x28IIx29V : parseMethodDescriptor "(II)V" = some ⟨[.int, .int], none⟩ := by decide +kernel
theorem own_pd_x28Ljavax2flangx2fObjectx3bx29Z : parseMethodDescriptor "(Ljava/lang/Object;)Z" = some ⟨[(.object "java/lang/Object")], some .boolean⟩ := by decide +kernel
theorem own_pd_x28Ix29Ljavax2flangx2fIntegerx3b : parseMethodDescriptor "(I)Ljava/lang/Integer;" = some ⟨[.int], some (.object "java/lang/Integer")⟩ := by decide +kernel
theorem own_ef_rm0 (m : MethodId) (x0 : Int32) (x1 : Int32) (x2 : Int32) (x3 : Int32) (x4 : Int32) : entryFrame m #[(.int x0), (.int x1), (.int x2), (.int x3), (.int x4)] maxLocals = mkF m 0 #[.val (.int x0), .val (.int x1), .val (.int x2), .val (.int x3), .val (.int x4), .unset, .unset, .unset, .unset, .unset, .unset] [] := by first | (simp [entryFrame, mkF, argsToLocals, Value.category, maxLocals]; done) | rfl
theorem own_pn_com_example_slipway_slipway_model_CoordinateEqualsPinLaw : plainName "com/example/slipway/slipway/model/CoordinateEqualsPinLaw" = true := by first | (simp [plainName, overriddenIn]; done) | decide +kernel
def own_Q_rm0 (Z : State) (va vb vc vd md : Int32) (ca : Addr) (cl : Cell) (h0 : Heap) (n0 : Nat) (v : Option Value) (h : Heap) (L : List Loc) : Prop := v = some (.int (1 : Int32)) ∧ Fr n0 L
set_option maxRecDepth 65536 in
set_option maxHeartbeats 40000000 in
theorem own_rm0 (l : Launch) (Z : State) (a0 : Array Value) (hw : ∀ d ∈ tables_1, d.before a0 Z = true) (ws : List Jvm.Cond) (va vb vc vd md : Int32) (ca : Addr) (cl : Cell) (h0 : Heap) (n0 : Nat) (Z0 : n0 ≤ h0.size) (O0 : Old Z n0 h0) (SH : Sta Z Z.heap "java/lang/Integer$IntegerCache" "high" "I" (.int (127 : Int32))) (SC : Sta Z Z.heap "java/lang/Integer$IntegerCache" "cache" "[Ljava/lang/Integer;" (.ref ca)) (BX : Bxs Z ca cl "java/lang/Integer" "I" 256 (fun j => .int (j - 128))) :
    MetFree l x (head1 (Jvm.Cond.code x code maxLocals ret :: ws) room_1) (fun A0 U0 => A0 = #[(.int va), (.int vb), (.int vc), (.int vd), (.int md)] ∧ Z.Warmed39 U0.vm ∧ U0.heap = h0) (fun _ _ _ _ _ => True) (fun _ U0 o0 U1 => ∃ v0 L0, o0 = .returned v0 ∧ own_Q_rm0 Z va vb vc vd md ca cl h0 n0 v0 U1.heap L0 ∧ FrameEnd U0 o0 U1 L0 room_1.cells room_1.slots) := by
  refine MetFree.of_bodySF (plainFor_of_name own_pn_com_example_slipway_slipway_model_CoordinateEqualsPinLaw) hisR ?_
  intro p e s m args below meth c s₁ Bd hml0 hP hK
  obtain ⟨rfl, hZ, hh⟩ := hP
  have hx := Bd.exec
  have hby := Bd.bytes
  have hml : c.maxLocals = 11 := hml0
  have hown : s.vm.findClass "com/example/slipway/slipway/model/CoordinateEqualsPinLaw" = some m.cls := findClass_of_methodNamed Bd.named
  have hnm := (name_of_methodNamed Bd.named Bd.method).1
  have X0 : Stand p l e room_1 s m #[(.int va), (.int vb), (.int vc), (.int vd), (.int md)] below meth c s₁ [] 0 0 := Stand.of_body Bd
  have e0 : s₁.heap = h0 := by rw [← hh, Bd.state]; rfl
  have N0 := Fr.nil n0
  refine OwnFin.entry (own_ef_rm0 m va vb vc vd md) (fun P' hP' => ?_)
  have J35 : ∀ (c2 : Int32) (d2 : Int32) (TJ : State) (LJ : List Loc) (XJ : Stand p l e room_1 s m #[(.int va), (.int vb), (.int vc), (.int vd), (.int md)] below meth c TJ LJ 0 0) (eJ : TJ.heap = h0) (NJ : Fr n0 LJ), OwnFin p.tables e below P' (TJ.setTop (mkF m 35 #[.val (.int va), .val (.int vb), .val (.int vc), .val (.int vd), .val (.int md), .val (.int (md &&& (7 : Int32))), .val (.int c2), .val (.int d2), .unset, .unset, .unset] [])) := by
    intro c2 d2 TJ LJ XJ eJ NJ 
    obtain ⟨T2, h2, X2, e2, E2, A2, D2, -, st2⟩ := newO XJ hx hZ hown (hw _ (List.mem_of_getElem? (i := 0) rfl)) (hw _ (List.mem_of_getElem? (i := 1) rfl)) (hw _ (List.mem_of_getElem? (i := 2) rfl)) eJ (g := (mkF m 35 #[.val (.int va), .val (.int vb), .val (.int vc), .val (.int vd), .val (.int md), .val (.int (md &&& (7 : Int32))), .val (.int c2), .val (.int d2), .unset, .unset, .unset] [])) rfl (hb hby at_35) (by decide) (by decide)
    obtain ⟨b2, g2⟩ : ∃ z, z = h0.size := ⟨_, rfl⟩
    rw [← g2] at A2 D2 st2
    have sz3 : h0.size ≤ h2.size := E2.1
    have lt_b2 := own_lt A2.lt
    have F2_column : Fld Z h2 b2 "com/example/slipway/slipway/model/Coordinate" "column" "I" (.int (0 : Int32)) := D2 (Or.inr (hw _ (List.mem_of_getElem? (i := 15) rfl))) (ty := .int) (by decide)
    have F2_row : Fld Z h2 b2 "com/example/slipway/slipway/model/Coordinate" "row" "I" (.int (0 : Int32)) := D2 (Or.inr (hw _ (List.mem_of_getElem? (i := 17) rfl))) (ty := .int) (by decide)
    refine OwnFin.adv (B := T2.setTop (mkF m 38 #[.val (.int va), .val (.int vb), .val (.int vc), .val (.int vd), .val (.int md), .val (.int (md &&& (7 : Int32))), .val (.int c2), .val (.int d2), .unset, .unset, .unset] [(.ref b2)])) (fun _ k => st2 _ k) ?_
    refine OwnFin.adv (B := T2.setTop (mkF m 39 #[.val (.int va), .val (.int vb), .val (.int vc), .val (.int vd), .val (.int md), .val (.int (md &&& (7 : Int32))), .val (.int c2), .val (.int d2), .unset, .unset, .unset] [(.ref b2), (.ref b2)])) (fun _ k => XS.dup X2.here hx rfl (hb hby at_38) rfl rfl k) ?_
    refine OwnFin.adv (B := T2.setTop (mkF m 40 #[.val (.int va), .val (.int vb), .val (.int vc), .val (.int vd), .val (.int md), .val (.int (md &&& (7 : Int32))), .val (.int c2), .val (.int d2), .unset, .unset, .unset] [(.int va), (.ref b2), (.ref b2)])) (fun _ k => XS.iloadN X2.here hx rfl (hb hby at_39) rfl k) ?_
    refine OwnFin.adv (B := T2.setTop (mkF m 41 #[.val (.int va), .val (.int vb), .val (.int vc), .val (.int vd), .val (.int md), .val (.int (md &&& (7 : Int32))), .val (.int c2), .val (.int d2), .unset, .unset, .unset] [(.int vb), (.int va), (.ref b2), (.ref b2)])) (fun _ k => XS.iloadN X2.here hx rfl (hb hby at_40) rfl k) ?_
    obtain ⟨_, _, ⟨T4, L4, k4, n4⟩, -, X4, ⟨Lc4, hQ4, l4, y4, z4⟩, st4⟩ := X2.specialBack hx (y := (⟨"com/example/slipway/slipway/model/Coordinate", "<init>", "(II)V"⟩ : MethodName)) rfl hown (mvT hZ (hw _ (List.mem_of_getElem? (i := 3) rfl))) (mvT hZ (hw _ (List.mem_of_getElem? (i := 4) rfl))) (mvT hZ (hw _ (List.mem_of_getElem? (i := 5) rfl))) (by decide) (backOf (W := 1) (own_rm1 l Z a0 hw [] b2 va vb _ _ h2 n0 (by omega) A2 F2_column F2_row (by omega)) hZ (hw _ (List.mem_of_getElem? (i := 5) rfl)) (hw _ (List.mem_of_getElem? (i := 2) rfl)) (by decide) (by decide)) (g := (mkF m 41 #[.val (.int va), .val (.int vb), .val (.int vc), .val (.int vd), .val (.int md), .val (.int (md &&& (7 : Int32))), .val (.int c2), .val (.int d2), .unset, .unset, .unset] [(.int vb), (.int va), (.ref b2), (.ref b2)])) rfl (by rw [hml]; rfl) (Steps.refl _) (a := b2) (argsL := [(.int va), (.int vb)]) (rest := [(.ref b2)]) (lenOf own_pd_x28IIx29V rfl) rfl (by show 2 * 0 + _ ≤ _; exact Nat.le_of_eq rfl) (hb hby at_41) (fun _ _ => ⟨rfl, e2, (by decide : 1 + 0 ≤ _), (by decide : 2 + 0 ≤ _)⟩)
    dsimp only [Pt.U, Pt.locs, Pt.cells, Pt.slots] at X4 l4 y4 z4 st4 hQ4
    subst l4 y4 z4
    obtain ⟨rfl, N4q, K4, Fa4, Fb4⟩ := hQ4
    have N4 := Fr.app NJ N4q
    have sz5 : h2.size ≤ T4.heap.size := K4.1
    refine OwnFin.adv (B := T4.setTop (mkF m 44 #[.val (.int va), .val (.int vb), .val (.int vc), .val (.int vd), .val (.int md), .val (.int (md &&& (7 : Int32))), .val (.int c2), .val (.int d2), .unset, .unset, .unset] [(.ref b2)])) (fun _ k => st4.trans k) ?_
    refine OwnFin.adv (B := T4.setTop (mkF m 46 #[.val (.int va), .val (.int vb), .val (.int vc), .val (.int vd), .val (.int md), .val (.int (md &&& (7 : Int32))), .val (.int c2), .val (.int d2), .val (.ref b2), .unset, .unset] [])) (fun _ k => XS.astore X4.here hx rfl (hb hby at_44) rfl rfl (l' := #[.val (.int va), .val (.int vb), .val (.int vc), .val (.int vd), .val (.int md), .val (.int (md &&& (7 : Int32))), .val (.int c2), .val (.int d2), .val (.ref b2), .unset, .unset]) rfl k) ?_
    obtain ⟨T6, h6, X6, e6, E6, A6, D6, -, st6⟩ := newO X4 hx hZ hown (hw _ (List.mem_of_getElem? (i := 0) rfl)) (hw _ (List.mem_of_getElem? (i := 1) rfl)) (hw _ (List.mem_of_getElem? (i := 2) rfl)) rfl (g := (mkF m 46 #[.val (.int va), .val (.int vb), .val (.int vc), .val (.int vd), .val (.int md), .val (.int (md &&& (7 : Int32))), .val (.int c2), .val (.int d2), .val (.ref b2), .unset, .unset] [])) rfl (hb hby at_46) (by decide) (by decide)
    obtain ⟨b6, g6⟩ : ∃ z, z = T4.heap.size := ⟨_, rfl⟩
    rw [← g6] at A6 D6 st6
    have sz7 : T4.heap.size ≤ h6.size := E6.1
    have lt_b6 := own_lt A6.lt
    have F6_column : Fld Z h6 b6 "com/example/slipway/slipway/model/Coordinate" "column" "I" (.int (0 : Int32)) := D6 (Or.inr (hw _ (List.mem_of_getElem? (i := 15) rfl))) (ty := .int) (by decide)
    have F6_row : Fld Z h6 b6 "com/example/slipway/slipway/model/Coordinate" "row" "I" (.int (0 : Int32)) := D6 (Or.inr (hw _ (List.mem_of_getElem? (i := 17) rfl))) (ty := .int) (by decide)
    refine OwnFin.adv (B := T6.setTop (mkF m 49 #[.val (.int va), .val (.int vb), .val (.int vc), .val (.int vd), .val (.int md), .val (.int (md &&& (7 : Int32))), .val (.int c2), .val (.int d2), .val (.ref b2), .unset, .unset] [(.ref b6)])) (fun _ k => st6 _ k) ?_
    refine OwnFin.adv (B := T6.setTop (mkF m 50 #[.val (.int va), .val (.int vb), .val (.int vc), .val (.int vd), .val (.int md), .val (.int (md &&& (7 : Int32))), .val (.int c2), .val (.int d2), .val (.ref b2), .unset, .unset] [(.ref b6), (.ref b6)])) (fun _ k => XS.dup X6.here hx rfl (hb hby at_49) rfl rfl k) ?_
    refine OwnFin.adv (B := T6.setTop (mkF m 52 #[.val (.int va), .val (.int vb), .val (.int vc), .val (.int vd), .val (.int md), .val (.int (md &&& (7 : Int32))), .val (.int c2), .val (.int d2), .val (.ref b2), .unset, .unset] [(.int c2), (.ref b6), (.ref b6)])) (fun _ k => XS.iload X6.here hx rfl (hb hby at_50) rfl k) ?_
    refine OwnFin.adv (B := T6.setTop (mkF m 54 #[.val (.int va), .val (.int vb), .val (.int vc), .val (.int vd), .val (.int md), .val (.int (md &&& (7 : Int32))), .val (.int c2), .val (.int d2), .val (.ref b2), .unset, .unset] [(.int d2), (.int c2), (.ref b6), (.ref b6)])) (fun _ k => XS.iload X6.here hx rfl (hb hby at_52) rfl k) ?_
    obtain ⟨_, _, ⟨T8, L8, k8, n8⟩, -, X8, ⟨Lc8, hQ8, l8, y8, z8⟩, st8⟩ := X6.specialBack hx (y := (⟨"com/example/slipway/slipway/model/Coordinate", "<init>", "(II)V"⟩ : MethodName)) rfl hown (mvT hZ (hw _ (List.mem_of_getElem? (i := 3) rfl))) (mvT hZ (hw _ (List.mem_of_getElem? (i := 4) rfl))) (mvT hZ (hw _ (List.mem_of_getElem? (i := 5) rfl))) (by decide) (backOf (W := 1) (own_rm1 l Z a0 hw [] b6 c2 d2 _ _ h6 n0 (by omega) A6 F6_column F6_row (by omega)) hZ (hw _ (List.mem_of_getElem? (i := 5) rfl)) (hw _ (List.mem_of_getElem? (i := 2) rfl)) (by decide) (by decide)) (g := (mkF m 54 #[.val (.int va), .val (.int vb), .val (.int vc), .val (.int vd), .val (.int md), .val (.int (md &&& (7 : Int32))), .val (.int c2), .val (.int d2), .val (.ref b2), .unset, .unset] [(.int d2), (.int c2), (.ref b6), (.ref b6)])) rfl (by rw [hml]; rfl) (Steps.refl _) (a := b6) (argsL := [(.int c2), (.int d2)]) (rest := [(.ref b6)]) (lenOf own_pd_x28IIx29V rfl) rfl (by show 2 * 0 + _ ≤ _; exact Nat.le_of_eq rfl) (hb hby at_54) (fun _ _ => ⟨rfl, e6, (by decide : 2 + 0 ≤ _), (by decide : 4 + 0 ≤ _)⟩)
    dsimp only [Pt.U, Pt.locs, Pt.cells, Pt.slots] at X8 l8 y8 z8 st8 hQ8
    subst l8 y8 z8
    obtain ⟨rfl, N8q, K8, Fa8, Fb8⟩ := hQ8
    have N8 := Fr.app N4 N8q
    have sz9 : h6.size ≤ T8.heap.size := K8.1
    refine OwnFin.adv (B := T8.setTop (mkF m 57 #[.val (.int va), .val (.int vb), .val (.int vc), .val (.int vd), .val (.int md), .val (.int (md &&& (7 : Int32))), .val (.int c2), .val (.int d2), .val (.ref b2), .unset, .unset] [(.ref b6)])) (fun _ k => st8.trans k) ?_
    refine OwnFin.adv (B := T8.setTop (mkF m 59 #[.val (.int va), .val (.int vb), .val (.int vc), .val (.int vd), .val (.int md), .val (.int (md &&& (7 : Int32))), .val (.int c2), .val (.int d2), .val (.ref b2), .val (.ref b6), .unset] [])) (fun _ k => XS.astore X8.here hx rfl (hb hby at_57) rfl rfl (l' := #[.val (.int va), .val (.int vb), .val (.int vc), .val (.int vd), .val (.int md), .val (.int (md &&& (7 : Int32))), .val (.int c2), .val (.int d2), .val (.ref b2), .val (.ref b6), .unset]) rfl k) ?_
    refine OwnFin.adv (B := T8.setTop (mkF m 61 #[.val (.int va), .val (.int vb), .val (.int vc), .val (.int vd), .val (.int md), .val (.int (md &&& (7 : Int32))), .val (.int c2), .val (.int d2), .val (.ref b2), .val (.ref b6), .unset] [(.int (md &&& (7 : Int32)))])) (fun _ k => XS.iload X8.here hx rfl (hb hby at_59) rfl k) ?_
    refine OwnFin.adv (B := T8.setTop (mkF m 62 #[.val (.int va), .val (.int vb), .val (.int vc), .val (.int vd), .val (.int md), .val (.int (md &&& (7 : Int32))), .val (.int c2), .val (.int d2), .val (.ref b2), .val (.ref b6), .unset] [(.int (4 : Int32)), (.int (md &&& (7 : Int32)))])) (fun _ k => XS.iconst X8.here hx rfl (hb hby at_61) k) ?_
    refine OwnFin.adv (B := T8.setTop (mkF m 63 #[.val (.int va), .val (.int vb), .val (.int vc), .val (.int vd), .val (.int md), .val (.int (md &&& (7 : Int32))), .val (.int c2), .val (.int d2), .val (.ref b2), .val (.ref b6), .unset] [(.int ((md &&& (7 : Int32)) &&& (4 : Int32)))])) (fun _ k => XS.iand X8.here hx rfl (hb hby at_62) rfl k) ?_
    by_cases hc63 : ((md &&& (7 : Int32)) &&& (4 : Int32)) = (0 : Int32)
    ·
      refine OwnFin.adv (B := T8.setTop (mkF m 113 #[.val (.int va), .val (.int vb), .val (.int vc), .val (.int vd), .val (.int md), .val (.int (md &&& (7 : Int32))), .val (.int c2), .val (.int d2), .val (.ref b2), .val (.ref b6), .unset] [])) (fun _ k => XS.ifYes X8.here hx rfl (pc0 := 63) (pc' := 113) rfl (hb hby at_63) rfl ((if0 _ _).trans (teq hc63).1) (by decide) (by decide) k) ?_
      refine OwnFin.adv (B := T8.setTop (mkF m 114 #[.val (.int va), .val (.int vb), .val (.int vc), .val (.int vd), .val (.int md), .val (.int (md &&& (7 : Int32))), .val (.int c2), .val (.int d2), .val (.ref b2), .val (.ref b6), .unset] [(.int va)])) (fun _ k => XS.iloadN X8.here hx rfl (hb hby at_113) rfl k) ?_
      refine OwnFin.adv (B := T8.setTop (mkF m 116 #[.val (.int va), .val (.int vb), .val (.int vc), .val (.int vd), .val (.int md), .val (.int (md &&& (7 : Int32))), .val (.int c2), .val (.int d2), .val (.ref b2), .val (.ref b6), .unset] [(.int c2), (.int va)])) (fun _ k => XS.iload X8.here hx rfl (hb hby at_114) rfl k) ?_
      by_cases hc116 : va = c2
      ·
        refine OwnFin.adv (B := T8.setTop (mkF m 119 #[.val (.int va), .val (.int vb), .val (.int vc), .val (.int vd), .val (.int md), .val (.int (md &&& (7 : Int32))), .val (.int c2), .val (.int d2), .val (.ref b2), .val (.ref b6), .unset] [])) (fun _ k => XS.icmpNo X8.here hx rfl (hb hby at_116) rfl (teq hc116).2 k) ?_
        refine OwnFin.adv (B := T8.setTop (mkF m 120 #[.val (.int va), .val (.int vb), .val (.int vc), .val (.int vd), .val (.int md), .val (.int (md &&& (7 : Int32))), .val (.int c2), .val (.int d2), .val (.ref b2), .val (.ref b6), .unset] [(.int vb)])) (fun _ k => XS.iloadN X8.here hx rfl (hb hby at_119) rfl k) ?_
        refine OwnFin.adv (B := T8.setTop (mkF m 122 #[.val (.int va), .val (.int vb), .val (.int vc), .val (.int vd), .val (.int md), .val (.int (md &&& (7 : Int32))), .val (.int c2), .val (.int d2), .val (.ref b2), .val (.ref b6), .unset] [(.int d2), (.int vb)])) (fun _ k => XS.iload X8.here hx rfl (hb hby at_120) rfl k) ?_
        by_cases hc122 : vb = d2
        ·
          refine OwnFin.adv (B := T8.setTop (mkF m 125 #[.val (.int va), .val (.int vb), .val (.int vc), .val (.int vd), .val (.int md), .val (.int (md &&& (7 : Int32))), .val (.int c2), .val (.int d2), .val (.ref b2), .val (.ref b6), .unset] [])) (fun _ k => XS.icmpNo X8.here hx rfl (hb hby at_122) rfl (teq hc122).2 k) ?_
          refine OwnFin.adv (B := T8.setTop (mkF m 126 #[.val (.int va), .val (.int vb), .val (.int vc), .val (.int vd), .val (.int md), .val (.int (md &&& (7 : Int32))), .val (.int c2), .val (.int d2), .val (.ref b2), .val (.ref b6), .unset] [(.int (1 : Int32))])) (fun _ k => XS.iconst X8.here hx rfl (hb hby at_125) k) ?_
          refine OwnFin.adv (B := T8.setTop (mkF m 130 #[.val (.int va), .val (.int vb), .val (.int vc), .val (.int vd), .val (.int md), .val (.int (md &&& (7 : Int32))), .val (.int c2), .val (.int d2), .val (.ref b2), .val (.ref b6), .unset] [(.int (1 : Int32))])) (fun _ k => XS.goto X8.here hx rfl (pc0 := 126) (pc' := 130) rfl (hb hby at_126) (by decide) (by decide) k) ?_
          refine OwnFin.adv (B := T8.setTop (mkF m 132 #[.val (.int va), .val (.int vb), .val (.int vc), .val (.int vd), .val (.int md), .val (.int (md &&& (7 : Int32))), .val (.int c2), .val (.int d2), .val (.ref b2), .val (.ref b6), .val (.int (1 : Int32))] [])) (fun _ k => XS.istore X8.here hx rfl (hb hby at_130) rfl (l' := #[.val (.int va), .val (.int vb), .val (.int vc), .val (.int vd), .val (.int md), .val (.int (md &&& (7 : Int32))), .val (.int c2), .val (.int d2), .val (.ref b2), .val (.ref b6), .val (.int (1 : Int32))]) rfl k) ?_
          refine OwnFin.adv (B := T8.setTop (mkF m 134 #[.val (.int va), .val (.int vb), .val (.int vc), .val (.int vd), .val (.int md), .val (.int (md &&& (7 : Int32))), .val (.int c2), .val (.int d2), .val (.ref b2), .val (.ref b6), .val (.int (1 : Int32))] [(.ref b2)])) (fun _ k => XS.aload X8.here hx rfl (hb hby at_132) rfl rfl k) ?_
          refine OwnFin.adv (B := T8.setTop (mkF m 136 #[.val (.int va), .val (.int vb), .val (.int vc), .val (.int vd), .val (.int md), .val (.int (md &&& (7 : Int32))), .val (.int c2), .val (.int d2), .val (.ref b2), .val (.ref b6), .val (.int (1 : Int32))] [(.ref b6), (.ref b2)])) (fun _ k => XS.aload X8.here hx rfl (hb hby at_134) rfl rfl k) ?_
          have Fv11_4 : Fld Z T8.heap b2 "com/example/slipway/slipway/model/Coordinate" "column" "I" (.int va) := ((Fa4.ext E6).keep K8 (ninS (own_ne (by omega)) nin0))
          have Fv12_4 : Fld Z T8.heap b2 "com/example/slipway/slipway/model/Coordinate" "row" "I" (.int vb) := ((Fb4.ext E6).keep K8 (ninS (own_ne (by omega)) nin0))
          have Fv13_4 : Exa Z T8.heap b6 "com/example/slipway/slipway/model/Coordinate" := (A6.keep K8)
          have Fv14_4 : Exa Z T8.heap b2 "com/example/slipway/slipway/model/Coordinate" := (((A2.keep K4).ext E6).keep K8)
          obtain ⟨cq10, kq10, q10a, q10b, q10c⟩ := isOf hZ rfl Fv14_4
          obtain ⟨_, _, ⟨T10, L10, k10, n10⟩, -, X10, ⟨Lc10, hQ10, l10, y10, z10⟩, st10⟩ := X8.virtualBack hx (y := (⟨"com/example/slipway/slipway/model/Coordinate", "equals", "(Ljava/lang/Object;)Z"⟩ : MethodName)) (z := (⟨"com/example/slipway/slipway/model/Coordinate", "equals", "(Ljava/lang/Object;)Z"⟩ : MethodName)) hown (mvT hZ (hw _ (List.mem_of_getElem? (i := 18) rfl))) (mvT hZ (hw _ (List.mem_of_getElem? (i := 19) rfl))) (notFace_of_selects (args := #[]) (mvT hZ (hw _ (List.mem_of_getElem? (i := 21) rfl)))) (mvT hZ (hw _ (List.mem_of_getElem? (i := 21) rfl))) (mvT hZ (hw _ (List.mem_of_getElem? (i := 20) rfl))) (by decide) (backOf (W := 0) (own_rm4c l Z a0 hw [] b2 b6 va vb c2 d2 T8.heap n0 (by omega) Fv11_4 Fv12_4 Fv13_4 Fa8 Fb8) hZ (hw _ (List.mem_of_getElem? (i := 22) rfl)) (hw _ (List.mem_of_getElem? (i := 2) rfl)) (by decide) (by decide)) q10a q10c (g := (mkF m 136 #[.val (.int va), .val (.int vb), .val (.int vc), .val (.int vd), .val (.int md), .val (.int (md &&& (7 : Int32))), .val (.int c2), .val (.int d2), .val (.ref b2), .val (.ref b6), .val (.int (1 : Int32))] [(.ref b6), (.ref b2)])) rfl (by rw [hml]; rfl) (Steps.refl _) (argsL := [(.ref b6)]) (rest := []) (lenOf own_pd_x28Ljavax2flangx2fObjectx3bx29Z rfl) rfl (by show 2 * 0 + _ ≤ _; exact Nat.le_of_eq rfl) (hb hby at_136) (fun _ _ => ⟨rfl, rfl, (by decide : 2 + 0 ≤ _), (by decide : 4 + 0 ≤ _)⟩)
          dsimp only [Pt.U, Pt.locs, Pt.cells, Pt.slots] at X10 l10 y10 z10 st10 hQ10
          subst l10 y10 z10
          obtain ⟨rfl, N10q, eh10⟩ := hQ10
          have N10 := Fr.app N8 N10q
          refine OwnFin.adv (B := T10.setTop (mkF m 139 #[.val (.int va), .val (.int vb), .val (.int vc), .val (.int vd), .val (.int md), .val (.int (md &&& (7 : Int32))), .val (.int c2), .val (.int d2), .val (.ref b2), .val (.ref b6), .val (.int (1 : Int32))] [(.int (if va = c2 ∧ vb = d2 then (1 : Int32) else 0))])) (fun _ k => st10.trans k) ?_
          refine OwnFin.adv (B := T10.setTop (mkF m 141 #[.val (.int va), .val (.int vb), .val (.int vc), .val (.int vd), .val (.int md), .val (.int (md &&& (7 : Int32))), .val (.int c2), .val (.int d2), .val (.ref b2), .val (.ref b6), .val (.int (1 : Int32))] [(.int (1 : Int32)), (.int (if va = c2 ∧ vb = d2 then (1 : Int32) else 0))])) (fun _ k => XS.iload X10.here hx rfl (hb hby at_139) rfl k) ?_
          have hc141_30 : (if va = c2 ∧ vb = d2 then (1 : Int32) else 0) = (1 : Int32) := by simp [*]
          refine OwnFin.adv (B := T10.setTop (mkF m 144 #[.val (.int va), .val (.int vb), .val (.int vc), .val (.int vd), .val (.int md), .val (.int (md &&& (7 : Int32))), .val (.int c2), .val (.int d2), .val (.ref b2), .val (.ref b6), .val (.int (1 : Int32))] [])) (fun _ k => XS.icmpNo X10.here hx rfl (hb hby at_141) rfl (teq hc141_30).2 k) ?_
          refine OwnFin.adv (B := T10.setTop (mkF m 146 #[.val (.int va), .val (.int vb), .val (.int vc), .val (.int vd), .val (.int md), .val (.int (md &&& (7 : Int32))), .val (.int c2), .val (.int d2), .val (.ref b2), .val (.ref b6), .val (.int (1 : Int32))] [(.ref b6)])) (fun _ k => XS.aload X10.here hx rfl (hb hby at_144) rfl rfl k) ?_
          refine OwnFin.adv (B := T10.setTop (mkF m 148 #[.val (.int va), .val (.int vb), .val (.int vc), .val (.int vd), .val (.int md), .val (.int (md &&& (7 : Int32))), .val (.int c2), .val (.int d2), .val (.ref b2), .val (.ref b6), .val (.int (1 : Int32))] [(.ref b2), (.ref b6)])) (fun _ k => XS.aload X10.here hx rfl (hb hby at_146) rfl rfl k) ?_
          obtain ⟨cq15, kq15, q15a, q15b, q15c⟩ := isOf hZ eh10 Fv13_4
          obtain ⟨_, _, ⟨T15, L15, k15, n15⟩, -, X15, ⟨Lc15, hQ15, l15, y15, z15⟩, st15⟩ := X10.virtualBack hx (y := (⟨"com/example/slipway/slipway/model/Coordinate", "equals", "(Ljava/lang/Object;)Z"⟩ : MethodName)) (z := (⟨"com/example/slipway/slipway/model/Coordinate", "equals", "(Ljava/lang/Object;)Z"⟩ : MethodName)) hown (mvT hZ (hw _ (List.mem_of_getElem? (i := 18) rfl))) (mvT hZ (hw _ (List.mem_of_getElem? (i := 19) rfl))) (notFace_of_selects (args := #[]) (mvT hZ (hw _ (List.mem_of_getElem? (i := 21) rfl)))) (mvT hZ (hw _ (List.mem_of_getElem? (i := 21) rfl))) (mvT hZ (hw _ (List.mem_of_getElem? (i := 20) rfl))) (by decide) (backOf (W := 0) (own_rm4c l Z a0 hw [] b6 b2 c2 d2 va vb T8.heap n0 (by omega) Fa8 Fb8 Fv14_4 Fv11_4 Fv12_4) hZ (hw _ (List.mem_of_getElem? (i := 22) rfl)) (hw _ (List.mem_of_getElem? (i := 2) rfl)) (by decide) (by decide)) q15a q15c (g := (mkF m 148 #[.val (.int va), .val (.int vb), .val (.int vc), .val (.int vd), .val (.int md), .val (.int (md &&& (7 : Int32))), .val (.int c2), .val (.int d2), .val (.ref b2), .val (.ref b6), .val (.int (1 : Int32))] [(.ref b2), (.ref b6)])) rfl (by rw [hml]; rfl) (Steps.refl _) (argsL := [(.ref b2)]) (rest := []) (lenOf own_pd_x28Ljavax2flangx2fObjectx3bx29Z rfl) rfl (by show 2 * 0 + _ ≤ _; exact Nat.le_of_eq rfl) (hb hby at_148) (fun _ _ => ⟨rfl, eh10, (by decide : 2 + 0 ≤ _), (by decide : 4 + 0 ≤ _)⟩)
          dsimp only [Pt.U, Pt.locs, Pt.cells, Pt.slots] at X15 l15 y15 z15 st15 hQ15
          subst l15 y15 z15
          obtain ⟨rfl, N15q, eh15⟩ := hQ15
          have N15 := Fr.app N10 N15q
          refine OwnFin.adv (B := T15.setTop (mkF m 151 #[.val (.int va), .val (.int vb), .val (.int vc), .val (.int vd), .val (.int md), .val (.int (md &&& (7 : Int32))), .val (.int c2), .val (.int d2), .val (.ref b2), .val (.ref b6), .val (.int (1 : Int32))] [(.int (if c2 = va ∧ d2 = vb then (1 : Int32) else 0))])) (fun _ k => st15.trans k) ?_
          refine OwnFin.adv (B := T15.setTop (mkF m 153 #[.val (.int va), .val (.int vb), .val (.int vc), .val (.int vd), .val (.int md), .val (.int (md &&& (7 : Int32))), .val (.int c2), .val (.int d2), .val (.ref b2), .val (.ref b6), .val (.int (1 : Int32))] [(.int (1 : Int32)), (.int (if c2 = va ∧ d2 = vb then (1 : Int32) else 0))])) (fun _ k => XS.iload X15.here hx rfl (hb hby at_151) rfl k) ?_
          have hc153_35 : (if c2 = va ∧ d2 = vb then (1 : Int32) else 0) = (1 : Int32) := by simp [*, eq_comm]
          refine OwnFin.adv (B := T15.setTop (mkF m 156 #[.val (.int va), .val (.int vb), .val (.int vc), .val (.int vd), .val (.int md), .val (.int (md &&& (7 : Int32))), .val (.int c2), .val (.int d2), .val (.ref b2), .val (.ref b6), .val (.int (1 : Int32))] [])) (fun _ k => XS.icmpNo X15.here hx rfl (hb hby at_153) rfl (teq hc153_35).2 k) ?_
          refine OwnFin.adv (B := T15.setTop (mkF m 158 #[.val (.int va), .val (.int vb), .val (.int vc), .val (.int vd), .val (.int md), .val (.int (md &&& (7 : Int32))), .val (.int c2), .val (.int d2), .val (.ref b2), .val (.ref b6), .val (.int (1 : Int32))] [(.ref b2)])) (fun _ k => XS.aload X15.here hx rfl (hb hby at_156) rfl rfl k) ?_
          refine OwnFin.adv (B := T15.setTop (mkF m 160 #[.val (.int va), .val (.int vb), .val (.int vc), .val (.int vd), .val (.int md), .val (.int (md &&& (7 : Int32))), .val (.int c2), .val (.int d2), .val (.ref b2), .val (.ref b6), .val (.int (1 : Int32))] [(.ref b2), (.ref b2)])) (fun _ k => XS.aload X15.here hx rfl (hb hby at_158) rfl rfl k) ?_
          obtain ⟨cq16, kq16, q16a, q16b, q16c⟩ := isOf hZ eh15 Fv14_4
          obtain ⟨_, _, ⟨T16, L16, k16, n16⟩, -, X16, ⟨Lc16, hQ16, l16, y16, z16⟩, st16⟩ := X15.virtualBack hx (y := (⟨"com/example/slipway/slipway/model/Coordinate", "equals", "(Ljava/lang/Object;)Z"⟩ : MethodName)) (z := (⟨"com/example/slipway/slipway/model/Coordinate", "equals", "(Ljava/lang/Object;)Z"⟩ : MethodName)) hown (mvT hZ (hw _ (List.mem_of_getElem? (i := 18) rfl))) (mvT hZ (hw _ (List.mem_of_getElem? (i := 19) rfl))) (notFace_of_selects (args := #[]) (mvT hZ (hw _ (List.mem_of_getElem? (i := 21) rfl)))) (mvT hZ (hw _ (List.mem_of_getElem? (i := 21) rfl))) (mvT hZ (hw _ (List.mem_of_getElem? (i := 20) rfl))) (by decide) (backOf (W := 0) (own_rm4c l Z a0 hw [] b2 b2 va vb va vb T8.heap n0 (by omega) Fv11_4 Fv12_4 Fv14_4 Fv11_4 Fv12_4) hZ (hw _ (List.mem_of_getElem? (i := 22) rfl)) (hw _ (List.mem_of_getElem? (i := 2) rfl)) (by decide) (by decide)) q16a q16c (g := (mkF m 160 #[.val (.int va), .val (.int vb), .val (.int vc), .val (.int vd), .val (.int md), .val (.int (md &&& (7 : Int32))), .val (.int c2), .val (.int d2), .val (.ref b2), .val (.ref b6), .val (.int (1 : Int32))] [(.ref b2), (.ref b2)])) rfl (by rw [hml]; rfl) (Steps.refl _) (argsL := [(.ref b2)]) (rest := []) (lenOf own_pd_x28Ljavax2flangx2fObjectx3bx29Z rfl) rfl (by show 2 * 0 + _ ≤ _; exact Nat.le_of_eq rfl) (hb hby at_160) (fun _ _ => ⟨rfl, eh15, (by decide : 2 + 0 ≤ _), (by decide : 4 + 0 ≤ _)⟩)
          dsimp only [Pt.U, Pt.locs, Pt.cells, Pt.slots] at X16 l16 y16 z16 st16 hQ16
          subst l16 y16 z16
          obtain ⟨rfl, N16q, eh16⟩ := hQ16
          have N16 := Fr.app N15 N16q
          refine OwnFin.adv (B := T16.setTop (mkF m 163 #[.val (.int va), .val (.int vb), .val (.int vc), .val (.int vd), .val (.int md), .val (.int (md &&& (7 : Int32))), .val (.int c2), .val (.int d2), .val (.ref b2), .val (.ref b6), .val (.int (1 : Int32))] [(.int (if va = va ∧ vb = vb then (1 : Int32) else 0))])) (fun _ k => st16.trans k) ?_
          have hc163_39 : ¬ ((if va = va ∧ vb = vb then (1 : Int32) else 0) = (0 : Int32)) := by simp
          refine OwnFin.adv (B := T16.setTop (mkF m 166 #[.val (.int va), .val (.int vb), .val (.int vc), .val (.int vd), .val (.int md), .val (.int (md &&& (7 : Int32))), .val (.int c2), .val (.int d2), .val (.ref b2), .val (.ref b6), .val (.int (1 : Int32))] [])) (fun _ k => XS.ifNo X16.here hx rfl (hb hby at_163) rfl ((if0 _ _).trans (feq hc163_39).1) k) ?_
          refine OwnFin.adv (B := T16.setTop (mkF m 167 #[.val (.int va), .val (.int vb), .val (.int vc), .val (.int vd), .val (.int md), .val (.int (md &&& (7 : Int32))), .val (.int c2), .val (.int d2), .val (.ref b2), .val (.ref b6), .val (.int (1 : Int32))] [(.int (1 : Int32))])) (fun _ k => XS.iconst X16.here hx rfl (hb hby at_166) k) ?_
          refine OwnFin.adv (B := T16.setTop (mkF m 171 #[.val (.int va), .val (.int vb), .val (.int vc), .val (.int vd), .val (.int md), .val (.int (md &&& (7 : Int32))), .val (.int c2), .val (.int d2), .val (.ref b2), .val (.ref b6), .val (.int (1 : Int32))] [(.int (1 : Int32))])) (fun _ k => XS.goto X16.here hx rfl (pc0 := 167) (pc' := 171) rfl (hb hby at_167) (by decide) (by decide) k) ?_
          obtain ⟨fs, hr, hrun, hended, hW, hsame⟩ := X16.leave (v := some (.int (1 : Int32))) (fun h => by rw [Bd.returns] at h; cases h)
          refine OwnFin.leaf hP' ⟨_, _, retN X16 hx (t := .boolean) Bd.returns (by simp) (hb hby at_171) hr, hrun, hended, _, _, rfl, ?_, ⟨_, rfl⟩, hW, hsame.mono (by decide) (by decide)⟩
          exact ⟨rfl, N16⟩
        ·
          refine OwnFin.adv (B := T8.setTop (mkF m 129 #[.val (.int va), .val (.int vb), .val (.int vc), .val (.int vd), .val (.int md), .val (.int (md &&& (7 : Int32))), .val (.int c2), .val (.int d2), .val (.ref b2), .val (.ref b6), .unset] [])) (fun _ k => XS.icmpYes X8.here hx rfl (pc0 := 122) (pc' := 129) rfl (hb hby at_122) rfl (feq hc122).2 (by decide) (by decide) k) ?_
          refine OwnFin.adv (B := T8.setTop (mkF m 130 #[.val (.int va), .val (.int vb), .val (.int vc), .val (.int vd), .val (.int md), .val (.int (md &&& (7 : Int32))), .val (.int c2), .val (.int d2), .val (.ref b2), .val (.ref b6), .unset] [(.int (0 : Int32))])) (fun _ k => XS.iconst X8.here hx rfl (hb hby at_129) k) ?_
          refine OwnFin.adv (B := T8.setTop (mkF m 132 #[.val (.int va), .val (.int vb), .val (.int vc), .val (.int vd), .val (.int md), .val (.int (md &&& (7 : Int32))), .val (.int c2), .val (.int d2), .val (.ref b2), .val (.ref b6), .val (.int (0 : Int32))] [])) (fun _ k => XS.istore X8.here hx rfl (hb hby at_130) rfl (l' := #[.val (.int va), .val (.int vb), .val (.int vc), .val (.int vd), .val (.int md), .val (.int (md &&& (7 : Int32))), .val (.int c2), .val (.int d2), .val (.ref b2), .val (.ref b6), .val (.int (0 : Int32))]) rfl k) ?_
          refine OwnFin.adv (B := T8.setTop (mkF m 134 #[.val (.int va), .val (.int vb), .val (.int vc), .val (.int vd), .val (.int md), .val (.int (md &&& (7 : Int32))), .val (.int c2), .val (.int d2), .val (.ref b2), .val (.ref b6), .val (.int (0 : Int32))] [(.ref b2)])) (fun _ k => XS.aload X8.here hx rfl (hb hby at_132) rfl rfl k) ?_
          refine OwnFin.adv (B := T8.setTop (mkF m 136 #[.val (.int va), .val (.int vb), .val (.int vc), .val (.int vd), .val (.int md), .val (.int (md &&& (7 : Int32))), .val (.int c2), .val (.int d2), .val (.ref b2), .val (.ref b6), .val (.int (0 : Int32))] [(.ref b6), (.ref b2)])) (fun _ k => XS.aload X8.here hx rfl (hb hby at_134) rfl rfl k) ?_
          have Fv18_4 : Fld Z T8.heap b2 "com/example/slipway/slipway/model/Coordinate" "column" "I" (.int va) := ((Fa4.ext E6).keep K8 (ninS (own_ne (by omega)) nin0))
          have Fv19_4 : Fld Z T8.heap b2 "com/example/slipway/slipway/model/Coordinate" "row" "I" (.int vb) := ((Fb4.ext E6).keep K8 (ninS (own_ne (by omega)) nin0))
          have Fv20_4 : Exa Z T8.heap b6 "com/example/slipway/slipway/model/Coordinate" := (A6.keep K8)
          have Fv21_4 : Exa Z T8.heap b2 "com/example/slipway/slipway/model/Coordinate" := (((A2.keep K4).ext E6).keep K8)
          obtain ⟨cq17, kq17, q17a, q17b, q17c⟩ := isOf hZ rfl Fv21_4
          obtain ⟨_, _, ⟨T17, L17, k17, n17⟩, -, X17, ⟨Lc17, hQ17, l17, y17, z17⟩, st17⟩ := X8.virtualBack hx (y := (⟨"com/example/slipway/slipway/model/Coordinate", "equals", "(Ljava/lang/Object;)Z"⟩ : MethodName)) (z := (⟨"com/example/slipway/slipway/model/Coordinate", "equals", "(Ljava/lang/Object;)Z"⟩ : MethodName)) hown (mvT hZ (hw _ (List.mem_of_getElem? (i := 18) rfl))) (mvT hZ (hw _ (List.mem_of_getElem? (i := 19) rfl))) (notFace_of_selects (args := #[]) (mvT hZ (hw _ (List.mem_of_getElem? (i := 21) rfl)))) (mvT hZ (hw _ (List.mem_of_getElem? (i := 21) rfl))) (mvT hZ (hw _ (List.mem_of_getElem? (i := 20) rfl))) (by decide) (backOf (W := 0) (own_rm4c l Z a0 hw [] b2 b6 va vb c2 d2 T8.heap n0 (by omega) Fv18_4 Fv19_4 Fv20_4 Fa8 Fb8) hZ (hw _ (List.mem_of_getElem? (i := 22) rfl)) (hw _ (List.mem_of_getElem? (i := 2) rfl)) (by decide) (by decide)) q17a q17c (g := (mkF m 136 #[.val (.int va), .val (.int vb), .val (.int vc), .val (.int vd), .val (.int md), .val (.int (md &&& (7 : Int32))), .val (.int c2), .val (.int d2), .val (.ref b2), .val (.ref b6), .val (.int (0 : Int32))] [(.ref b6), (.ref b2)])) rfl (by rw [hml]; rfl) (Steps.refl _) (argsL := [(.ref b6)]) (rest := []) (lenOf own_pd_x28Ljavax2flangx2fObjectx3bx29Z rfl) rfl (by show 2 * 0 + _ ≤ _; exact Nat.le_of_eq rfl) (hb hby at_136) (fun _ _ => ⟨rfl, rfl, (by decide : 2 + 0 ≤ _), (by decide : 4 + 0 ≤ _)⟩)
          dsimp only [Pt.U, Pt.locs, Pt.cells, Pt.slots] at X17 l17 y17 z17 st17 hQ17
          subst l17 y17 z17
          obtain ⟨rfl, N17q, eh17⟩ := hQ17
          have N17 := Fr.app N8 N17q
          refine OwnFin.adv (B := T17.setTop (mkF m 139 #[.val (.int va), .val (.int vb), .val (.int vc), .val (.int vd), .val (.int md), .val (.int (md &&& (7 : Int32))), .val (.int c2), .val (.int d2), .val (.ref b2), .val (.ref b6), .val (.int (0 : Int32))] [(.int (if va = c2 ∧ vb = d2 then (1 : Int32) else 0))])) (fun _ k => st17.trans k) ?_
          refine OwnFin.adv (B := T17.setTop (mkF m 141 #[.val (.int va), .val (.int vb), .val (.int vc), .val (.int vd), .val (.int md), .val (.int (md &&& (7 : Int32))), .val (.int c2), .val (.int d2), .val (.ref b2), .val (.ref b6), .val (.int (0 : Int32))] [(.int (0 : Int32)), (.int (if va = c2 ∧ vb = d2 then (1 : Int32) else 0))])) (fun _ k => XS.iload X17.here hx rfl (hb hby at_139) rfl k) ?_
          have hc141_29 : (if va = c2 ∧ vb = d2 then (1 : Int32) else 0) = (0 : Int32) := by simp [*]
          refine OwnFin.adv (B := T17.setTop (mkF m 144 #[.val (.int va), .val (.int vb), .val (.int vc), .val (.int vd), .val (.int md), .val (.int (md &&& (7 : Int32))), .val (.int c2), .val (.int d2), .val (.ref b2), .val (.ref b6), .val (.int (0 : Int32))] [])) (fun _ k => XS.icmpNo X17.here hx rfl (hb hby at_141) rfl (teq hc141_29).2 k) ?_
          refine OwnFin.adv (B := T17.setTop (mkF m 146 #[.val (.int va), .val (.int vb), .val (.int vc), .val (.int vd), .val (.int md), .val (.int (md &&& (7 : Int32))), .val (.int c2), .val (.int d2), .val (.ref b2), .val (.ref b6), .val (.int (0 : Int32))] [(.ref b6)])) (fun _ k => XS.aload X17.here hx rfl (hb hby at_144) rfl rfl k) ?_
          refine OwnFin.adv (B := T17.setTop (mkF m 148 #[.val (.int va), .val (.int vb), .val (.int vc), .val (.int vd), .val (.int md), .val (.int (md &&& (7 : Int32))), .val (.int c2), .val (.int d2), .val (.ref b2), .val (.ref b6), .val (.int (0 : Int32))] [(.ref b2), (.ref b6)])) (fun _ k => XS.aload X17.here hx rfl (hb hby at_146) rfl rfl k) ?_
          obtain ⟨cq22, kq22, q22a, q22b, q22c⟩ := isOf hZ eh17 Fv20_4
          obtain ⟨_, _, ⟨T22, L22, k22, n22⟩, -, X22, ⟨Lc22, hQ22, l22, y22, z22⟩, st22⟩ := X17.virtualBack hx (y := (⟨"com/example/slipway/slipway/model/Coordinate", "equals", "(Ljava/lang/Object;)Z"⟩ : MethodName)) (z := (⟨"com/example/slipway/slipway/model/Coordinate", "equals", "(Ljava/lang/Object;)Z"⟩ : MethodName)) hown (mvT hZ (hw _ (List.mem_of_getElem? (i := 18) rfl))) (mvT hZ (hw _ (List.mem_of_getElem? (i := 19) rfl))) (notFace_of_selects (args := #[]) (mvT hZ (hw _ (List.mem_of_getElem? (i := 21) rfl)))) (mvT hZ (hw _ (List.mem_of_getElem? (i := 21) rfl))) (mvT hZ (hw _ (List.mem_of_getElem? (i := 20) rfl))) (by decide) (backOf (W := 0) (own_rm4c l Z a0 hw [] b6 b2 c2 d2 va vb T8.heap n0 (by omega) Fa8 Fb8 Fv21_4 Fv18_4 Fv19_4) hZ (hw _ (List.mem_of_getElem? (i := 22) rfl)) (hw _ (List.mem_of_getElem? (i := 2) rfl)) (by decide) (by decide)) q22a q22c (g := (mkF m 148 #[.val (.int va), .val (.int vb), .val (.int vc), .val (.int vd), .val (.int md), .val (.int (md &&& (7 : Int32))), .val (.int c2), .val (.int d2), .val (.ref b2), .val (.ref b6), .val (.int (0 : Int32))] [(.ref b2), (.ref b6)])) rfl (by rw [hml]; rfl) (Steps.refl _) (argsL := [(.ref b2)]) (rest := []) (lenOf own_pd_x28Ljavax2flangx2fObjectx3bx29Z rfl) rfl (by show 2 * 0 + _ ≤ _; exact Nat.le_of_eq rfl) (hb hby at_148) (fun _ _ => ⟨rfl, eh17, (by decide : 2 + 0 ≤ _), (by decide : 4 + 0 ≤ _)⟩)
          dsimp only [Pt.U, Pt.locs, Pt.cells, Pt.slots] at X22 l22 y22 z22 st22 hQ22
          subst l22 y22 z22
          obtain ⟨rfl, N22q, eh22⟩ := hQ22
          have N22 := Fr.app N17 N22q
          refine OwnFin.adv (B := T22.setTop (mkF m 151 #[.val (.int va), .val (.int vb), .val (.int vc), .val (.int vd), .val (.int md), .val (.int (md &&& (7 : Int32))), .val (.int c2), .val (.int d2), .val (.ref b2), .val (.ref b6), .val (.int (0 : Int32))] [(.int (if c2 = va ∧ d2 = vb then (1 : Int32) else 0))])) (fun _ k => st22.trans k) ?_
          refine OwnFin.adv (B := T22.setTop (mkF m 153 #[.val (.int va), .val (.int vb), .val (.int vc), .val (.int vd), .val (.int md), .val (.int (md &&& (7 : Int32))), .val (.int c2), .val (.int d2), .val (.ref b2), .val (.ref b6), .val (.int (0 : Int32))] [(.int (0 : Int32)), (.int (if c2 = va ∧ d2 = vb then (1 : Int32) else 0))])) (fun _ k => XS.iload X22.here hx rfl (hb hby at_151) rfl k) ?_
          have hc153_34 : (if c2 = va ∧ d2 = vb then (1 : Int32) else 0) = (0 : Int32) := by simp [*, eq_comm]
          refine OwnFin.adv (B := T22.setTop (mkF m 156 #[.val (.int va), .val (.int vb), .val (.int vc), .val (.int vd), .val (.int md), .val (.int (md &&& (7 : Int32))), .val (.int c2), .val (.int d2), .val (.ref b2), .val (.ref b6), .val (.int (0 : Int32))] [])) (fun _ k => XS.icmpNo X22.here hx rfl (hb hby at_153) rfl (teq hc153_34).2 k) ?_
          refine OwnFin.adv (B := T22.setTop (mkF m 158 #[.val (.int va), .val (.int vb), .val (.int vc), .val (.int vd), .val (.int md), .val (.int (md &&& (7 : Int32))), .val (.int c2), .val (.int d2), .val (.ref b2), .val (.ref b6), .val (.int (0 : Int32))] [(.ref b2)])) (fun _ k => XS.aload X22.here hx rfl (hb hby at_156) rfl rfl k) ?_
          refine OwnFin.adv (B := T22.setTop (mkF m 160 #[.val (.int va), .val (.int vb), .val (.int vc), .val (.int vd), .val (.int md), .val (.int (md &&& (7 : Int32))), .val (.int c2), .val (.int d2), .val (.ref b2), .val (.ref b6), .val (.int (0 : Int32))] [(.ref b2), (.ref b2)])) (fun _ k => XS.aload X22.here hx rfl (hb hby at_158) rfl rfl k) ?_
          obtain ⟨cq23, kq23, q23a, q23b, q23c⟩ := isOf hZ eh22 Fv21_4
          obtain ⟨_, _, ⟨T23, L23, k23, n23⟩, -, X23, ⟨Lc23, hQ23, l23, y23, z23⟩, st23⟩ := X22.virtualBack hx (y := (⟨"com/example/slipway/slipway/model/Coordinate", "equals", "(Ljava/lang/Object;)Z"⟩ : MethodName)) (z := (⟨"com/example/slipway/slipway/model/Coordinate", "equals", "(Ljava/lang/Object;)Z"⟩ : MethodName)) hown (mvT hZ (hw _ (List.mem_of_getElem? (i := 18) rfl))) (mvT hZ (hw _ (List.mem_of_getElem? (i := 19) rfl))) (notFace_of_selects (args := #[]) (mvT hZ (hw _ (List.mem_of_getElem? (i := 21) rfl)))) (mvT hZ (hw _ (List.mem_of_getElem? (i := 21) rfl))) (mvT hZ (hw _ (List.mem_of_getElem? (i := 20) rfl))) (by decide) (backOf (W := 0) (own_rm4c l Z a0 hw [] b2 b2 va vb va vb T8.heap n0 (by omega) Fv18_4 Fv19_4 Fv21_4 Fv18_4 Fv19_4) hZ (hw _ (List.mem_of_getElem? (i := 22) rfl)) (hw _ (List.mem_of_getElem? (i := 2) rfl)) (by decide) (by decide)) q23a q23c (g := (mkF m 160 #[.val (.int va), .val (.int vb), .val (.int vc), .val (.int vd), .val (.int md), .val (.int (md &&& (7 : Int32))), .val (.int c2), .val (.int d2), .val (.ref b2), .val (.ref b6), .val (.int (0 : Int32))] [(.ref b2), (.ref b2)])) rfl (by rw [hml]; rfl) (Steps.refl _) (argsL := [(.ref b2)]) (rest := []) (lenOf own_pd_x28Ljavax2flangx2fObjectx3bx29Z rfl) rfl (by show 2 * 0 + _ ≤ _; exact Nat.le_of_eq rfl) (hb hby at_160) (fun _ _ => ⟨rfl, eh22, (by decide : 2 + 0 ≤ _), (by decide : 4 + 0 ≤ _)⟩)
          dsimp only [Pt.U, Pt.locs, Pt.cells, Pt.slots] at X23 l23 y23 z23 st23 hQ23
          subst l23 y23 z23
          obtain ⟨rfl, N23q, eh23⟩ := hQ23
          have N23 := Fr.app N22 N23q
          refine OwnFin.adv (B := T23.setTop (mkF m 163 #[.val (.int va), .val (.int vb), .val (.int vc), .val (.int vd), .val (.int md), .val (.int (md &&& (7 : Int32))), .val (.int c2), .val (.int d2), .val (.ref b2), .val (.ref b6), .val (.int (0 : Int32))] [(.int (if va = va ∧ vb = vb then (1 : Int32) else 0))])) (fun _ k => st23.trans k) ?_
          have hc163_38 : ¬ ((if va = va ∧ vb = vb then (1 : Int32) else 0) = (0 : Int32)) := by simp
          refine OwnFin.adv (B := T23.setTop (mkF m 166 #[.val (.int va), .val (.int vb), .val (.int vc), .val (.int vd), .val (.int md), .val (.int (md &&& (7 : Int32))), .val (.int c2), .val (.int d2), .val (.ref b2), .val (.ref b6), .val (.int (0 : Int32))] [])) (fun _ k => XS.ifNo X23.here hx rfl (hb hby at_163) rfl ((if0 _ _).trans (feq hc163_38).1) k) ?_
          refine OwnFin.adv (B := T23.setTop (mkF m 167 #[.val (.int va), .val (.int vb), .val (.int vc), .val (.int vd), .val (.int md), .val (.int (md &&& (7 : Int32))), .val (.int c2), .val (.int d2), .val (.ref b2), .val (.ref b6), .val (.int (0 : Int32))] [(.int (1 : Int32))])) (fun _ k => XS.iconst X23.here hx rfl (hb hby at_166) k) ?_
          refine OwnFin.adv (B := T23.setTop (mkF m 171 #[.val (.int va), .val (.int vb), .val (.int vc), .val (.int vd), .val (.int md), .val (.int (md &&& (7 : Int32))), .val (.int c2), .val (.int d2), .val (.ref b2), .val (.ref b6), .val (.int (0 : Int32))] [(.int (1 : Int32))])) (fun _ k => XS.goto X23.here hx rfl (pc0 := 167) (pc' := 171) rfl (hb hby at_167) (by decide) (by decide) k) ?_
          obtain ⟨fs, hr, hrun, hended, hW, hsame⟩ := X23.leave (v := some (.int (1 : Int32))) (fun h => by rw [Bd.returns] at h; cases h)
          refine OwnFin.leaf hP' ⟨_, _, retN X23 hx (t := .boolean) Bd.returns (by simp) (hb hby at_171) hr, hrun, hended, _, _, rfl, ?_, ⟨_, rfl⟩, hW, hsame.mono (by decide) (by decide)⟩
          exact ⟨rfl, N23⟩
      ·
        refine OwnFin.adv (B := T8.setTop (mkF m 129 #[.val (.int va), .val (.int vb), .val (.int vc), .val (.int vd), .val (.int md), .val (.int (md &&& (7 : Int32))), .val (.int c2), .val (.int d2), .val (.ref b2), .val (.ref b6), .unset] [])) (fun _ k => XS.icmpYes X8.here hx rfl (pc0 := 116) (pc' := 129) rfl (hb hby at_116) rfl (feq hc116).2 (by decide) (by decide) k) ?_
        refine OwnFin.adv (B := T8.setTop (mkF m 130 #[.val (.int va), .val (.int vb), .val (.int vc), .val (.int vd), .val (.int md), .val (.int (md &&& (7 : Int32))), .val (.int c2), .val (.int d2), .val (.ref b2), .val (.ref b6), .unset] [(.int (0 : Int32))])) (fun _ k => XS.iconst X8.here hx rfl (hb hby at_129) k) ?_
        refine OwnFin.adv (B := T8.setTop (mkF m 132 #[.val (.int va), .val (.int vb), .val (.int vc), .val (.int vd), .val (.int md), .val (.int (md &&& (7 : Int32))), .val (.int c2), .val (.int d2), .val (.ref b2), .val (.ref b6), .val (.int (0 : Int32))] [])) (fun _ k => XS.istore X8.here hx rfl (hb hby at_130) rfl (l' := #[.val (.int va), .val (.int vb), .val (.int vc), .val (.int vd), .val (.int md), .val (.int (md &&& (7 : Int32))), .val (.int c2), .val (.int d2), .val (.ref b2), .val (.ref b6), .val (.int (0 : Int32))]) rfl k) ?_
        refine OwnFin.adv (B := T8.setTop (mkF m 134 #[.val (.int va), .val (.int vb), .val (.int vc), .val (.int vd), .val (.int md), .val (.int (md &&& (7 : Int32))), .val (.int c2), .val (.int d2), .val (.ref b2), .val (.ref b6), .val (.int (0 : Int32))] [(.ref b2)])) (fun _ k => XS.aload X8.here hx rfl (hb hby at_132) rfl rfl k) ?_
        refine OwnFin.adv (B := T8.setTop (mkF m 136 #[.val (.int va), .val (.int vb), .val (.int vc), .val (.int vd), .val (.int md), .val (.int (md &&& (7 : Int32))), .val (.int c2), .val (.int d2), .val (.ref b2), .val (.ref b6), .val (.int (0 : Int32))] [(.ref b6), (.ref b2)])) (fun _ k => XS.aload X8.here hx rfl (hb hby at_134) rfl rfl k) ?_
        have Fv25_4 : Fld Z T8.heap b2 "com/example/slipway/slipway/model/Coordinate" "column" "I" (.int va) := ((Fa4.ext E6).keep K8 (ninS (own_ne (by omega)) nin0))
        have Fv26_4 : Fld Z T8.heap b2 "com/example/slipway/slipway/model/Coordinate" "row" "I" (.int vb) := ((Fb4.ext E6).keep K8 (ninS (own_ne (by omega)) nin0))
        have Fv27_4 : Exa Z T8.heap b6 "com/example/slipway/slipway/model/Coordinate" := (A6.keep K8)
        have Fv28_4 : Exa Z T8.heap b2 "com/example/slipway/slipway/model/Coordinate" := (((A2.keep K4).ext E6).keep K8)
        obtain ⟨cq24, kq24, q24a, q24b, q24c⟩ := isOf hZ rfl Fv28_4
        obtain ⟨_, _, ⟨T24, L24, k24, n24⟩, -, X24, ⟨Lc24, hQ24, l24, y24, z24⟩, st24⟩ := X8.virtualBack hx (y := (⟨"com/example/slipway/slipway/model/Coordinate", "equals", "(Ljava/lang/Object;)Z"⟩ : MethodName)) (z := (⟨"com/example/slipway/slipway/model/Coordinate", "equals", "(Ljava/lang/Object;)Z"⟩ : MethodName)) hown (mvT hZ (hw _ (List.mem_of_getElem? (i := 18) rfl))) (mvT hZ (hw _ (List.mem_of_getElem? (i := 19) rfl))) (notFace_of_selects (args := #[]) (mvT hZ (hw _ (List.mem_of_getElem? (i := 21) rfl)))) (mvT hZ (hw _ (List.mem_of_getElem? (i := 21) rfl))) (mvT hZ (hw _ (List.mem_of_getElem? (i := 20) rfl))) (by decide) (backOf (W := 0) (own_rm4c l Z a0 hw [] b2 b6 va vb c2 d2 T8.heap n0 (by omega) Fv25_4 Fv26_4 Fv27_4 Fa8 Fb8) hZ (hw _ (List.mem_of_getElem? (i := 22) rfl)) (hw _ (List.mem_of_getElem? (i := 2) rfl)) (by decide) (by decide)) q24a q24c (g := (mkF m 136 #[.val (.int va), .val (.int vb), .val (.int vc), .val (.int vd), .val (.int md), .val (.int (md &&& (7 : Int32))), .val (.int c2), .val (.int d2), .val (.ref b2), .val (.ref b6), .val (.int (0 : Int32))] [(.ref b6), (.ref b2)])) rfl (by rw [hml]; rfl) (Steps.refl _) (argsL := [(.ref b6)]) (rest := []) (lenOf own_pd_x28Ljavax2flangx2fObjectx3bx29Z rfl) rfl (by show 2 * 0 + _ ≤ _; exact Nat.le_of_eq rfl) (hb hby at_136) (fun _ _ => ⟨rfl, rfl, (by decide : 2 + 0 ≤ _), (by decide : 4 + 0 ≤ _)⟩)
        dsimp only [Pt.U, Pt.locs, Pt.cells, Pt.slots] at X24 l24 y24 z24 st24 hQ24
        subst l24 y24 z24
        obtain ⟨rfl, N24q, eh24⟩ := hQ24
        have N24 := Fr.app N8 N24q
        refine OwnFin.adv (B := T24.setTop (mkF m 139 #[.val (.int va), .val (.int vb), .val (.int vc), .val (.int vd), .val (.int md), .val (.int (md &&& (7 : Int32))), .val (.int c2), .val (.int d2), .val (.ref b2), .val (.ref b6), .val (.int (0 : Int32))] [(.int (if va = c2 ∧ vb = d2 then (1 : Int32) else 0))])) (fun _ k => st24.trans k) ?_
        refine OwnFin.adv (B := T24.setTop (mkF m 141 #[.val (.int va), .val (.int vb), .val (.int vc), .val (.int vd), .val (.int md), .val (.int (md &&& (7 : Int32))), .val (.int c2), .val (.int d2), .val (.ref b2), .val (.ref b6), .val (.int (0 : Int32))] [(.int (0 : Int32)), (.int (if va = c2 ∧ vb = d2 then (1 : Int32) else 0))])) (fun _ k => XS.iload X24.here hx rfl (hb hby at_139) rfl k) ?_
        have hc141_26 : (if va = c2 ∧ vb = d2 then (1 : Int32) else 0) = (0 : Int32) := by simp [*]
        refine OwnFin.adv (B := T24.setTop (mkF m 144 #[.val (.int va), .val (.int vb), .val (.int vc), .val (.int vd), .val (.int md), .val (.int (md &&& (7 : Int32))), .val (.int c2), .val (.int d2), .val (.ref b2), .val (.ref b6), .val (.int (0 : Int32))] [])) (fun _ k => XS.icmpNo X24.here hx rfl (hb hby at_141) rfl (teq hc141_26).2 k) ?_
        refine OwnFin.adv (B := T24.setTop (mkF m 146 #[.val (.int va), .val (.int vb), .val (.int vc), .val (.int vd), .val (.int md), .val (.int (md &&& (7 : Int32))), .val (.int c2), .val (.int d2), .val (.ref b2), .val (.ref b6), .val (.int (0 : Int32))] [(.ref b6)])) (fun _ k => XS.aload X24.here hx rfl (hb hby at_144) rfl rfl k) ?_
        refine OwnFin.adv (B := T24.setTop (mkF m 148 #[.val (.int va), .val (.int vb), .val (.int vc), .val (.int vd), .val (.int md), .val (.int (md &&& (7 : Int32))), .val (.int c2), .val (.int d2), .val (.ref b2), .val (.ref b6), .val (.int (0 : Int32))] [(.ref b2), (.ref b6)])) (fun _ k => XS.aload X24.here hx rfl (hb hby at_146) rfl rfl k) ?_
        obtain ⟨cq29, kq29, q29a, q29b, q29c⟩ := isOf hZ eh24 Fv27_4
        obtain ⟨_, _, ⟨T29, L29, k29, n29⟩, -, X29, ⟨Lc29, hQ29, l29, y29, z29⟩, st29⟩ := X24.virtualBack hx (y := (⟨"com/example/slipway/slipway/model/Coordinate", "equals", "(Ljava/lang/Object;)Z"⟩ : MethodName)) (z := (⟨"com/example/slipway/slipway/model/Coordinate", "equals", "(Ljava/lang/Object;)Z"⟩ : MethodName)) hown (mvT hZ (hw _ (List.mem_of_getElem? (i := 18) rfl))) (mvT hZ (hw _ (List.mem_of_getElem? (i := 19) rfl))) (notFace_of_selects (args := #[]) (mvT hZ (hw _ (List.mem_of_getElem? (i := 21) rfl)))) (mvT hZ (hw _ (List.mem_of_getElem? (i := 21) rfl))) (mvT hZ (hw _ (List.mem_of_getElem? (i := 20) rfl))) (by decide) (backOf (W := 0) (own_rm4c l Z a0 hw [] b6 b2 c2 d2 va vb T8.heap n0 (by omega) Fa8 Fb8 Fv28_4 Fv25_4 Fv26_4) hZ (hw _ (List.mem_of_getElem? (i := 22) rfl)) (hw _ (List.mem_of_getElem? (i := 2) rfl)) (by decide) (by decide)) q29a q29c (g := (mkF m 148 #[.val (.int va), .val (.int vb), .val (.int vc), .val (.int vd), .val (.int md), .val (.int (md &&& (7 : Int32))), .val (.int c2), .val (.int d2), .val (.ref b2), .val (.ref b6), .val (.int (0 : Int32))] [(.ref b2), (.ref b6)])) rfl (by rw [hml]; rfl) (Steps.refl _) (argsL := [(.ref b2)]) (rest := []) (lenOf own_pd_x28Ljavax2flangx2fObjectx3bx29Z rfl) rfl (by show 2 * 0 + _ ≤ _; exact Nat.le_of_eq rfl) (hb hby at_148) (fun _ _ => ⟨rfl, eh24, (by decide : 2 + 0 ≤ _), (by decide : 4 + 0 ≤ _)⟩)
        dsimp only [Pt.U, Pt.locs, Pt.cells, Pt.slots] at X29 l29 y29 z29 st29 hQ29
        subst l29 y29 z29
        obtain ⟨rfl, N29q, eh29⟩ := hQ29
        have N29 := Fr.app N24 N29q
        refine OwnFin.adv (B := T29.setTop (mkF m 151 #[.val (.int va), .val (.int vb), .val (.int vc), .val (.int vd), .val (.int md), .val (.int (md &&& (7 : Int32))), .val (.int c2), .val (.int d2), .val (.ref b2), .val (.ref b6), .val (.int (0 : Int32))] [(.int (if c2 = va ∧ d2 = vb then (1 : Int32) else 0))])) (fun _ k => st29.trans k) ?_
        refine OwnFin.adv (B := T29.setTop (mkF m 153 #[.val (.int va), .val (.int vb), .val (.int vc), .val (.int vd), .val (.int md), .val (.int (md &&& (7 : Int32))), .val (.int c2), .val (.int d2), .val (.ref b2), .val (.ref b6), .val (.int (0 : Int32))] [(.int (0 : Int32)), (.int (if c2 = va ∧ d2 = vb then (1 : Int32) else 0))])) (fun _ k => XS.iload X29.here hx rfl (hb hby at_151) rfl k) ?_
        have hc153_31 : (if c2 = va ∧ d2 = vb then (1 : Int32) else 0) = (0 : Int32) := by simp [*, eq_comm]
        refine OwnFin.adv (B := T29.setTop (mkF m 156 #[.val (.int va), .val (.int vb), .val (.int vc), .val (.int vd), .val (.int md), .val (.int (md &&& (7 : Int32))), .val (.int c2), .val (.int d2), .val (.ref b2), .val (.ref b6), .val (.int (0 : Int32))] [])) (fun _ k => XS.icmpNo X29.here hx rfl (hb hby at_153) rfl (teq hc153_31).2 k) ?_
        refine OwnFin.adv (B := T29.setTop (mkF m 158 #[.val (.int va), .val (.int vb), .val (.int vc), .val (.int vd), .val (.int md), .val (.int (md &&& (7 : Int32))), .val (.int c2), .val (.int d2), .val (.ref b2), .val (.ref b6), .val (.int (0 : Int32))] [(.ref b2)])) (fun _ k => XS.aload X29.here hx rfl (hb hby at_156) rfl rfl k) ?_
        refine OwnFin.adv (B := T29.setTop (mkF m 160 #[.val (.int va), .val (.int vb), .val (.int vc), .val (.int vd), .val (.int md), .val (.int (md &&& (7 : Int32))), .val (.int c2), .val (.int d2), .val (.ref b2), .val (.ref b6), .val (.int (0 : Int32))] [(.ref b2), (.ref b2)])) (fun _ k => XS.aload X29.here hx rfl (hb hby at_158) rfl rfl k) ?_
        obtain ⟨cq30, kq30, q30a, q30b, q30c⟩ := isOf hZ eh29 Fv28_4
        obtain ⟨_, _, ⟨T30, L30, k30, n30⟩, -, X30, ⟨Lc30, hQ30, l30, y30, z30⟩, st30⟩ := X29.virtualBack hx (y := (⟨"com/example/slipway/slipway/model/Coordinate", "equals", "(Ljava/lang/Object;)Z"⟩ : MethodName)) (z := (⟨"com/example/slipway/slipway/model/Coordinate", "equals", "(Ljava/lang/Object;)Z"⟩ : MethodName)) hown (mvT hZ (hw _ (List.mem_of_getElem? (i := 18) rfl))) (mvT hZ (hw _ (List.mem_of_getElem? (i := 19) rfl))) (notFace_of_selects (args := #[]) (mvT hZ (hw _ (List.mem_of_getElem? (i := 21) rfl)))) (mvT hZ (hw _ (List.mem_of_getElem? (i := 21) rfl))) (mvT hZ (hw _ (List.mem_of_getElem? (i := 20) rfl))) (by decide) (backOf (W := 0) (own_rm4c l Z a0 hw [] b2 b2 va vb va vb T8.heap n0 (by omega) Fv25_4 Fv26_4 Fv28_4 Fv25_4 Fv26_4) hZ (hw _ (List.mem_of_getElem? (i := 22) rfl)) (hw _ (List.mem_of_getElem? (i := 2) rfl)) (by decide) (by decide)) q30a q30c (g := (mkF m 160 #[.val (.int va), .val (.int vb), .val (.int vc), .val (.int vd), .val (.int md), .val (.int (md &&& (7 : Int32))), .val (.int c2), .val (.int d2), .val (.ref b2), .val (.ref b6), .val (.int (0 : Int32))] [(.ref b2), (.ref b2)])) rfl (by rw [hml]; rfl) (Steps.refl _) (argsL := [(.ref b2)]) (rest := []) (lenOf own_pd_x28Ljavax2flangx2fObjectx3bx29Z rfl) rfl (by show 2 * 0 + _ ≤ _; exact Nat.le_of_eq rfl) (hb hby at_160) (fun _ _ => ⟨rfl, eh29, (by decide : 2 + 0 ≤ _), (by decide : 4 + 0 ≤ _)⟩)
        dsimp only [Pt.U, Pt.locs, Pt.cells, Pt.slots] at X30 l30 y30 z30 st30 hQ30
        subst l30 y30 z30
        obtain ⟨rfl, N30q, eh30⟩ := hQ30
        have N30 := Fr.app N29 N30q
        refine OwnFin.adv (B := T30.setTop (mkF m 163 #[.val (.int va), .val (.int vb), .val (.int vc), .val (.int vd), .val (.int md), .val (.int (md &&& (7 : Int32))), .val (.int c2), .val (.int d2), .val (.ref b2), .val (.ref b6), .val (.int (0 : Int32))] [(.int (if va = va ∧ vb = vb then (1 : Int32) else 0))])) (fun _ k => st30.trans k) ?_
        have hc163_35 : ¬ ((if va = va ∧ vb = vb then (1 : Int32) else 0) = (0 : Int32)) := by simp
        refine OwnFin.adv (B := T30.setTop (mkF m 166 #[.val (.int va), .val (.int vb), .val (.int vc), .val (.int vd), .val (.int md), .val (.int (md &&& (7 : Int32))), .val (.int c2), .val (.int d2), .val (.ref b2), .val (.ref b6), .val (.int (0 : Int32))] [])) (fun _ k => XS.ifNo X30.here hx rfl (hb hby at_163) rfl ((if0 _ _).trans (feq hc163_35).1) k) ?_
        refine OwnFin.adv (B := T30.setTop (mkF m 167 #[.val (.int va), .val (.int vb), .val (.int vc), .val (.int vd), .val (.int md), .val (.int (md &&& (7 : Int32))), .val (.int c2), .val (.int d2), .val (.ref b2), .val (.ref b6), .val (.int (0 : Int32))] [(.int (1 : Int32))])) (fun _ k => XS.iconst X30.here hx rfl (hb hby at_166) k) ?_
        refine OwnFin.adv (B := T30.setTop (mkF m 171 #[.val (.int va), .val (.int vb), .val (.int vc), .val (.int vd), .val (.int md), .val (.int (md &&& (7 : Int32))), .val (.int c2), .val (.int d2), .val (.ref b2), .val (.ref b6), .val (.int (0 : Int32))] [(.int (1 : Int32))])) (fun _ k => XS.goto X30.here hx rfl (pc0 := 167) (pc' := 171) rfl (hb hby at_167) (by decide) (by decide) k) ?_
        obtain ⟨fs, hr, hrun, hended, hW, hsame⟩ := X30.leave (v := some (.int (1 : Int32))) (fun h => by rw [Bd.returns] at h; cases h)
        refine OwnFin.leaf hP' ⟨_, _, retN X30 hx (t := .boolean) Bd.returns (by simp) (hb hby at_171) hr, hrun, hended, _, _, rfl, ?_, ⟨_, rfl⟩, hW, hsame.mono (by decide) (by decide)⟩
        exact ⟨rfl, N30⟩
    ·
      refine OwnFin.adv (B := T8.setTop (mkF m 66 #[.val (.int va), .val (.int vb), .val (.int vc), .val (.int vd), .val (.int md), .val (.int (md &&& (7 : Int32))), .val (.int c2), .val (.int d2), .val (.ref b2), .val (.ref b6), .unset] [])) (fun _ k => XS.ifNo X8.here hx rfl (hb hby at_63) rfl ((if0 _ _).trans (feq hc63).1) k) ?_
      refine OwnFin.adv (B := T8.setTop (mkF m 68 #[.val (.int va), .val (.int vb), .val (.int vc), .val (.int vd), .val (.int md), .val (.int (md &&& (7 : Int32))), .val (.int c2), .val (.int d2), .val (.ref b2), .val (.ref b6), .unset] [(.int md)])) (fun _ k => XS.iload X8.here hx rfl (hb hby at_66) rfl k) ?_
      refine OwnFin.adv (B := T8.setTop (mkF m 69 #[.val (.int va), .val (.int vb), .val (.int vc), .val (.int vd), .val (.int md), .val (.int (md &&& (7 : Int32))), .val (.int c2), .val (.int d2), .val (.ref b2), .val (.ref b6), .unset] [(.int (3 : Int32)), (.int md)])) (fun _ k => XS.iconst X8.here hx rfl (hb hby at_68) k) ?_
      refine OwnFin.adv (B := T8.setTop (mkF m 70 #[.val (.int va), .val (.int vb), .val (.int vc), .val (.int vd), .val (.int md), .val (.int (md &&& (7 : Int32))), .val (.int c2), .val (.int d2), .val (.ref b2), .val (.ref b6), .unset] [(.int (md >>> ((3 : Int32) &&& 31)))])) (fun _ k => XS.ishr X8.here hx rfl (hb hby at_69) rfl k) ?_
      refine OwnFin.adv (B := T8.setTop (mkF m 71 #[.val (.int va), .val (.int vb), .val (.int vc), .val (.int vd), .val (.int md), .val (.int (md &&& (7 : Int32))), .val (.int c2), .val (.int d2), .val (.ref b2), .val (.ref b6), .unset] [(.int (1 : Int32)), (.int (md >>> ((3 : Int32) &&& 31)))])) (fun _ k => XS.iconst X8.here hx rfl (hb hby at_70) k) ?_
      refine OwnFin.adv (B := T8.setTop (mkF m 72 #[.val (.int va), .val (.int vb), .val (.int vc), .val (.int vd), .val (.int md), .val (.int (md &&& (7 : Int32))), .val (.int c2), .val (.int d2), .val (.ref b2), .val (.ref b6), .unset] [(.int ((md >>> ((3 : Int32) &&& 31)) &&& (1 : Int32)))])) (fun _ k => XS.iand X8.here hx rfl (hb hby at_71) rfl k) ?_
      by_cases hc72 : ((md >>> ((3 : Int32) &&& 31)) &&& (1 : Int32)) = (0 : Int32)
      ·
        refine OwnFin.adv (B := T8.setTop (mkF m 75 #[.val (.int va), .val (.int vb), .val (.int vc), .val (.int vd), .val (.int md), .val (.int (md &&& (7 : Int32))), .val (.int c2), .val (.int d2), .val (.ref b2), .val (.ref b6), .unset] [])) (fun _ k => XS.ifNo X8.here hx rfl (hb hby at_72) rfl ((if0 _ _).trans (teq hc72).2) k) ?_
        refine OwnFin.adv (B := T8.setTop (mkF m 76 #[.val (.int va), .val (.int vb), .val (.int vc), .val (.int vd), .val (.int md), .val (.int (md &&& (7 : Int32))), .val (.int c2), .val (.int d2), .val (.ref b2), .val (.ref b6), .unset] [.null])) (fun _ k => XS.aconstNull X8.here hx rfl (hb hby at_75) k) ?_
        refine OwnFin.adv (B := T8.setTop (mkF m 78 #[.val (.int va), .val (.int vb), .val (.int vc), .val (.int vd), .val (.int md), .val (.int (md &&& (7 : Int32))), .val (.int c2), .val (.int d2), .val (.ref b2), .val (.ref b6), .val .null] [])) (fun _ k => XS.astore X8.here hx rfl (hb hby at_76) rfl rfl (l' := #[.val (.int va), .val (.int vb), .val (.int vc), .val (.int vd), .val (.int md), .val (.int (md &&& (7 : Int32))), .val (.int c2), .val (.int d2), .val (.ref b2), .val (.ref b6), .val .null]) rfl k) ?_
        refine OwnFin.adv (B := T8.setTop (mkF m 87 #[.val (.int va), .val (.int vb), .val (.int vc), .val (.int vd), .val (.int md), .val (.int (md &&& (7 : Int32))), .val (.int c2), .val (.int d2), .val (.ref b2), .val (.ref b6), .val .null] [])) (fun _ k => XS.goto X8.here hx rfl (pc0 := 78) (pc' := 87) rfl (hb hby at_78) (by decide) (by decide) k) ?_
        refine OwnFin.adv (B := T8.setTop (mkF m 89 #[.val (.int va), .val (.int vb), .val (.int vc), .val (.int vd), .val (.int md), .val (.int (md &&& (7 : Int32))), .val (.int c2), .val (.int d2), .val (.ref b2), .val (.ref b6), .val .null] [(.ref b2)])) (fun _ k => XS.aload X8.here hx rfl (hb hby at_87) rfl rfl k) ?_
        refine OwnFin.adv (B := T8.setTop (mkF m 91 #[.val (.int va), .val (.int vb), .val (.int vc), .val (.int vd), .val (.int md), .val (.int (md &&& (7 : Int32))), .val (.int c2), .val (.int d2), .val (.ref b2), .val (.ref b6), .val .null] [.null, (.ref b2)])) (fun _ k => XS.aload X8.here hx rfl (hb hby at_89) rfl rfl k) ?_
        have Fv32_4 : Exa Z T8.heap b2 "com/example/slipway/slipway/model/Coordinate" := (((A2.keep K4).ext E6).keep K8)
        obtain ⟨cq31, kq31, q31a, q31b, q31c⟩ := isOf hZ rfl Fv32_4
        obtain ⟨_, _, ⟨T31, L31, k31, n31⟩, -, X31, ⟨Lc31, hQ31, l31, y31, z31⟩, st31⟩ := X8.virtualBack hx (y := (⟨"com/example/slipway/slipway/model/Coordinate", "equals", "(Ljava/lang/Object;)Z"⟩ : MethodName)) (z := (⟨"com/example/slipway/slipway/model/Coordinate", "equals", "(Ljava/lang/Object;)Z"⟩ : MethodName)) hown (mvT hZ (hw _ (List.mem_of_getElem? (i := 18) rfl))) (mvT hZ (hw _ (List.mem_of_getElem? (i := 19) rfl))) (notFace_of_selects (args := #[]) (mvT hZ (hw _ (List.mem_of_getElem? (i := 21) rfl)))) (mvT hZ (hw _ (List.mem_of_getElem? (i := 21) rfl))) (mvT hZ (hw _ (List.mem_of_getElem? (i := 20) rfl))) (by decide) (backOf (W := 0) (own_rm4n l Z a0 hw [] b2 T8.heap n0 (by omega)) hZ (hw _ (List.mem_of_getElem? (i := 22) rfl)) (hw _ (List.mem_of_getElem? (i := 2) rfl)) (by decide) (by decide)) q31a q31c (g := (mkF m 91 #[.val (.int va), .val (.int vb), .val (.int vc), .val (.int vd), .val (.int md), .val (.int (md &&& (7 : Int32))), .val (.int c2), .val (.int d2), .val (.ref b2), .val (.ref b6), .val .null] [.null, (.ref b2)])) rfl (by rw [hml]; rfl) (Steps.refl _) (argsL := [.null]) (rest := []) (lenOf own_pd_x28Ljavax2flangx2fObjectx3bx29Z rfl) rfl (by show 2 * 0 + _ ≤ _; exact Nat.le_of_eq rfl) (hb hby at_91) (fun _ _ => ⟨rfl, rfl, (by decide : 2 + 0 ≤ _), (by decide : 4 + 0 ≤ _)⟩)
        dsimp only [Pt.U, Pt.locs, Pt.cells, Pt.slots] at X31 l31 y31 z31 st31 hQ31
        subst l31 y31 z31
        obtain ⟨rfl, N31q, eh31⟩ := hQ31
        have N31 := Fr.app N8 N31q
        refine OwnFin.adv (B := T31.setTop (mkF m 94 #[.val (.int va), .val (.int vb), .val (.int vc), .val (.int vd), .val (.int md), .val (.int (md &&& (7 : Int32))), .val (.int c2), .val (.int d2), .val (.ref b2), .val (.ref b6), .val .null] [(.int (0 : Int32))])) (fun _ k => st31.trans k) ?_
        have hc94_29 : (0 : Int32) = (0 : Int32) := by decide
        refine OwnFin.adv (B := T31.setTop (mkF m 97 #[.val (.int va), .val (.int vb), .val (.int vc), .val (.int vd), .val (.int md), .val (.int (md &&& (7 : Int32))), .val (.int c2), .val (.int d2), .val (.ref b2), .val (.ref b6), .val .null] [])) (fun _ k => XS.ifNo X31.here hx rfl (hb hby at_94) rfl ((if0 _ _).trans (teq hc94_29).2) k) ?_
        refine OwnFin.adv (B := T31.setTop (mkF m 99 #[.val (.int va), .val (.int vb), .val (.int vc), .val (.int vd), .val (.int md), .val (.int (md &&& (7 : Int32))), .val (.int c2), .val (.int d2), .val (.ref b2), .val (.ref b6), .val .null] [(.ref b2)])) (fun _ k => XS.aload X31.here hx rfl (hb hby at_97) rfl rfl k) ?_
        refine OwnFin.adv (B := T31.setTop (mkF m 101 #[.val (.int va), .val (.int vb), .val (.int vc), .val (.int vd), .val (.int md), .val (.int (md &&& (7 : Int32))), .val (.int c2), .val (.int d2), .val (.ref b2), .val (.ref b6), .val .null] [(.ref b2), (.ref b2)])) (fun _ k => XS.aload X31.here hx rfl (hb hby at_99) rfl rfl k) ?_
        have Fv34_4 : Fld Z T8.heap b2 "com/example/slipway/slipway/model/Coordinate" "column" "I" (.int va) := ((Fa4.ext E6).keep K8 (ninS (own_ne (by omega)) nin0))
        have Fv35_4 : Fld Z T8.heap b2 "com/example/slipway/slipway/model/Coordinate" "row" "I" (.int vb) := ((Fb4.ext E6).keep K8 (ninS (own_ne (by omega)) nin0))
        obtain ⟨cq33, kq33, q33a, q33b, q33c⟩ := isOf hZ eh31 Fv32_4
        obtain ⟨_, _, ⟨T33, L33, k33, n33⟩, -, X33, ⟨Lc33, hQ33, l33, y33, z33⟩, st33⟩ := X31.virtualBack hx (y := (⟨"com/example/slipway/slipway/model/Coordinate", "equals", "(Ljava/lang/Object;)Z"⟩ : MethodName)) (z := (⟨"com/example/slipway/slipway/model/Coordinate", "equals", "(Ljava/lang/Object;)Z"⟩ : MethodName)) hown (mvT hZ (hw _ (List.mem_of_getElem? (i := 18) rfl))) (mvT hZ (hw _ (List.mem_of_getElem? (i := 19) rfl))) (notFace_of_selects (args := #[]) (mvT hZ (hw _ (List.mem_of_getElem? (i := 21) rfl)))) (mvT hZ (hw _ (List.mem_of_getElem? (i := 21) rfl))) (mvT hZ (hw _ (List.mem_of_getElem? (i := 20) rfl))) (by decide) (backOf (W := 0) (own_rm4c l Z a0 hw [] b2 b2 va vb va vb T8.heap n0 (by omega) Fv34_4 Fv35_4 Fv32_4 Fv34_4 Fv35_4) hZ (hw _ (List.mem_of_getElem? (i := 22) rfl)) (hw _ (List.mem_of_getElem? (i := 2) rfl)) (by decide) (by decide)) q33a q33c (g := (mkF m 101 #[.val (.int va), .val (.int vb), .val (.int vc), .val (.int vd), .val (.int md), .val (.int (md &&& (7 : Int32))), .val (.int c2), .val (.int d2), .val (.ref b2), .val (.ref b6), .val .null] [(.ref b2), (.ref b2)])) rfl (by rw [hml]; rfl) (Steps.refl _) (argsL := [(.ref b2)]) (rest := []) (lenOf own_pd_x28Ljavax2flangx2fObjectx3bx29Z rfl) rfl (by show 2 * 0 + _ ≤ _; exact Nat.le_of_eq rfl) (hb hby at_101) (fun _ _ => ⟨rfl, eh31, (by decide : 2 + 0 ≤ _), (by decide : 4 + 0 ≤ _)⟩)
        dsimp only [Pt.U, Pt.locs, Pt.cells, Pt.slots] at X33 l33 y33 z33 st33 hQ33
        subst l33 y33 z33
        obtain ⟨rfl, N33q, eh33⟩ := hQ33
        have N33 := Fr.app N31 N33q
        refine OwnFin.adv (B := T33.setTop (mkF m 104 #[.val (.int va), .val (.int vb), .val (.int vc), .val (.int vd), .val (.int md), .val (.int (md &&& (7 : Int32))), .val (.int c2), .val (.int d2), .val (.ref b2), .val (.ref b6), .val .null] [(.int (if va = va ∧ vb = vb then (1 : Int32) else 0))])) (fun _ k => st33.trans k) ?_
        have hc104_33 : ¬ ((if va = va ∧ vb = vb then (1 : Int32) else 0) = (0 : Int32)) := by simp
        refine OwnFin.adv (B := T33.setTop (mkF m 107 #[.val (.int va), .val (.int vb), .val (.int vc), .val (.int vd), .val (.int md), .val (.int (md &&& (7 : Int32))), .val (.int c2), .val (.int d2), .val (.ref b2), .val (.ref b6), .val .null] [])) (fun _ k => XS.ifNo X33.here hx rfl (hb hby at_104) rfl ((if0 _ _).trans (feq hc104_33).1) k) ?_
        refine OwnFin.adv (B := T33.setTop (mkF m 108 #[.val (.int va), .val (.int vb), .val (.int vc), .val (.int vd), .val (.int md), .val (.int (md &&& (7 : Int32))), .val (.int c2), .val (.int d2), .val (.ref b2), .val (.ref b6), .val .null] [(.int (1 : Int32))])) (fun _ k => XS.iconst X33.here hx rfl (hb hby at_107) k) ?_
        refine OwnFin.adv (B := T33.setTop (mkF m 112 #[.val (.int va), .val (.int vb), .val (.int vc), .val (.int vd), .val (.int md), .val (.int (md &&& (7 : Int32))), .val (.int c2), .val (.int d2), .val (.ref b2), .val (.ref b6), .val .null] [(.int (1 : Int32))])) (fun _ k => XS.goto X33.here hx rfl (pc0 := 108) (pc' := 112) rfl (hb hby at_108) (by decide) (by decide) k) ?_
        obtain ⟨fs, hr, hrun, hended, hW, hsame⟩ := X33.leave (v := some (.int (1 : Int32))) (fun h => by rw [Bd.returns] at h; cases h)
        refine OwnFin.leaf hP' ⟨_, _, retN X33 hx (t := .boolean) Bd.returns (by simp) (hb hby at_112) hr, hrun, hended, _, _, rfl, ?_, ⟨_, rfl⟩, hW, hsame.mono (by decide) (by decide)⟩
        exact ⟨rfl, N33⟩
      ·
        refine OwnFin.adv (B := T8.setTop (mkF m 81 #[.val (.int va), .val (.int vb), .val (.int vc), .val (.int vd), .val (.int md), .val (.int (md &&& (7 : Int32))), .val (.int c2), .val (.int d2), .val (.ref b2), .val (.ref b6), .unset] [])) (fun _ k => XS.ifYes X8.here hx rfl (pc0 := 72) (pc' := 81) rfl (hb hby at_72) rfl ((if0 _ _).trans (feq hc72).2) (by decide) (by decide) k) ?_
        refine OwnFin.adv (B := T8.setTop (mkF m 82 #[.val (.int va), .val (.int vb), .val (.int vc), .val (.int vd), .val (.int md), .val (.int (md &&& (7 : Int32))), .val (.int c2), .val (.int d2), .val (.ref b2), .val (.ref b6), .unset] [(.int va)])) (fun _ k => XS.iloadN X8.here hx rfl (hb hby at_81) rfl k) ?_
        have Old37 : Old Z n0 T8.heap := ((((O0.ext E2).keep K4 (allS (by omega) all0)).ext E6).keep K8 (allS (by omega) all0))
        obtain ⟨_, _, ⟨T36, L36, k36, n36⟩, -, X36, ⟨Lc36, hQ36, l36, y36, z36⟩, st36⟩ := Jvm.LawKit.callS X8 hx (y := (⟨"java/lang/Integer", "valueOf", "(I)Ljava/lang/Integer;"⟩ : MethodName)) hown (mvT hZ (hw _ (List.mem_of_getElem? (i := 25) rfl))) (mvT hZ (hw _ (List.mem_of_getElem? (i := 26) rfl))) (mvT hZ (hw _ (List.mem_of_getElem? (i := 27) rfl))) (mvT hZ (hw _ (List.mem_of_getElem? (i := 28) rfl))) (by decide) (backOf (W := 0) (own_valueOf l Z a0 hw [] va ca cl T8.heap n0 (by omega) Old37 SH SC BX) hZ (hw _ (List.mem_of_getElem? (i := 28) rfl)) (hw _ (List.mem_of_getElem? (i := 27) rfl)) (by decide) (by decide)) (g := (mkF m 82 #[.val (.int va), .val (.int vb), .val (.int vc), .val (.int vd), .val (.int md), .val (.int (md &&& (7 : Int32))), .val (.int c2), .val (.int d2), .val (.ref b2), .val (.ref b6), .unset] [(.int va)])) rfl (by rw [hml]; rfl) (argsL := [(.int va)]) (rest := []) (lenOf own_pd_x28Ix29Ljavax2flangx2fIntegerx3b rfl) rfl (by show 2 * 0 + _ ≤ _; exact Nat.le_of_eq rfl) (hb hby at_82) (fun _ _ => ⟨rfl, rfl, (by decide : 2 + 1 ≤ _), (by decide : 4 + 1 ≤ _)⟩)
        dsimp only [Pt.U, Pt.locs, Pt.cells, Pt.slots] at X36 l36 y36 z36 st36 hQ36
        subst l36 y36 z36
        obtain ⟨bx36, rfl, N36q, K36, Ebx36⟩ := hQ36
        have N36 := Fr.app N8 N36q
        have sz38 : T8.heap.size ≤ T36.heap.size := K36.1
        refine OwnFin.adv (B := T36.setTop (mkF m 85 #[.val (.int va), .val (.int vb), .val (.int vc), .val (.int vd), .val (.int md), .val (.int (md &&& (7 : Int32))), .val (.int c2), .val (.int d2), .val (.ref b2), .val (.ref b6), .unset] [(.ref bx36)])) (fun _ k => st36 _ k) ?_
        refine OwnFin.adv (B := T36.setTop (mkF m 87 #[.val (.int va), .val (.int vb), .val (.int vc), .val (.int vd), .val (.int md), .val (.int (md &&& (7 : Int32))), .val (.int c2), .val (.int d2), .val (.ref b2), .val (.ref b6), .val (.ref bx36)] [])) (fun _ k => XS.astore X36.here hx rfl (hb hby at_85) rfl rfl (l' := #[.val (.int va), .val (.int vb), .val (.int vc), .val (.int vd), .val (.int md), .val (.int (md &&& (7 : Int32))), .val (.int c2), .val (.int d2), .val (.ref b2), .val (.ref b6), .val (.ref bx36)]) rfl k) ?_
        refine OwnFin.adv (B := T36.setTop (mkF m 89 #[.val (.int va), .val (.int vb), .val (.int vc), .val (.int vd), .val (.int md), .val (.int (md &&& (7 : Int32))), .val (.int c2), .val (.int d2), .val (.ref b2), .val (.ref b6), .val (.ref bx36)] [(.ref b2)])) (fun _ k => XS.aload X36.here hx rfl (hb hby at_87) rfl rfl k) ?_
        refine OwnFin.adv (B := T36.setTop (mkF m 91 #[.val (.int va), .val (.int vb), .val (.int vc), .val (.int vd), .val (.int md), .val (.int (md &&& (7 : Int32))), .val (.int c2), .val (.int d2), .val (.ref b2), .val (.ref b6), .val (.ref bx36)] [(.ref bx36), (.ref b2)])) (fun _ k => XS.aload X36.here hx rfl (hb hby at_89) rfl rfl k) ?_
        have Fv40_5 : Exa Z T36.heap b2 "com/example/slipway/slipway/model/Coordinate" := ((((A2.keep K4).ext E6).keep K8).keep K36)
        obtain ⟨cq39, kq39, q39a, q39b, q39c⟩ := isOf hZ rfl Fv40_5
        obtain ⟨_, _, ⟨T39, L39, k39, n39⟩, -, X39, ⟨Lc39, hQ39, l39, y39, z39⟩, st39⟩ := X36.virtualBack hx (y := (⟨"com/example/slipway/slipway/model/Coordinate", "equals", "(Ljava/lang/Object;)Z"⟩ : MethodName)) (z := (⟨"com/example/slipway/slipway/model/Coordinate", "equals", "(Ljava/lang/Object;)Z"⟩ : MethodName)) hown (mvT hZ (hw _ (List.mem_of_getElem? (i := 18) rfl))) (mvT hZ (hw _ (List.mem_of_getElem? (i := 19) rfl))) (notFace_of_selects (args := #[]) (mvT hZ (hw _ (List.mem_of_getElem? (i := 21) rfl)))) (mvT hZ (hw _ (List.mem_of_getElem? (i := 21) rfl))) (mvT hZ (hw _ (List.mem_of_getElem? (i := 20) rfl))) (by decide) (backOf (W := 0) (own_rm4i l Z a0 hw [] b2 bx36 T36.heap n0 (by omega) Ebx36) hZ (hw _ (List.mem_of_getElem? (i := 22) rfl)) (hw _ (List.mem_of_getElem? (i := 2) rfl)) (by decide) (by decide)) q39a q39c (g := (mkF m 91 #[.val (.int va), .val (.int vb), .val (.int vc), .val (.int vd), .val (.int md), .val (.int (md &&& (7 : Int32))), .val (.int c2), .val (.int d2), .val (.ref b2), .val (.ref b6), .val (.ref bx36)] [(.ref bx36), (.ref b2)])) rfl (by rw [hml]; rfl) (Steps.refl _) (argsL := [(.ref bx36)]) (rest := []) (lenOf own_pd_x28Ljavax2flangx2fObjectx3bx29Z rfl) rfl (by show 2 * 0 + _ ≤ _; exact Nat.le_of_eq rfl) (hb hby at_91) (fun _ _ => ⟨rfl, rfl, (by decide : 3 + 0 ≤ _), (by decide : 5 + 0 ≤ _)⟩)
        dsimp only [Pt.U, Pt.locs, Pt.cells, Pt.slots] at X39 l39 y39 z39 st39 hQ39
        subst l39 y39 z39
        obtain ⟨rfl, N39q, eh39⟩ := hQ39
        have N39 := Fr.app N36 N39q
        refine OwnFin.adv (B := T39.setTop (mkF m 94 #[.val (.int va), .val (.int vb), .val (.int vc), .val (.int vd), .val (.int md), .val (.int (md &&& (7 : Int32))), .val (.int c2), .val (.int d2), .val (.ref b2), .val (.ref b6), .val (.ref bx36)] [(.int (0 : Int32))])) (fun _ k => st39.trans k) ?_
        have hc94_29 : (0 : Int32) = (0 : Int32) := by decide
        refine OwnFin.adv (B := T39.setTop (mkF m 97 #[.val (.int va), .val (.int vb), .val (.int vc), .val (.int vd), .val (.int md), .val (.int (md &&& (7 : Int32))), .val (.int c2), .val (.int d2), .val (.ref b2), .val (.ref b6), .val (.ref bx36)] [])) (fun _ k => XS.ifNo X39.here hx rfl (hb hby at_94) rfl ((if0 _ _).trans (teq hc94_29).2) k) ?_
        refine OwnFin.adv (B := T39.setTop (mkF m 99 #[.val (.int va), .val (.int vb), .val (.int vc), .val (.int vd), .val (.int md), .val (.int (md &&& (7 : Int32))), .val (.int c2), .val (.int d2), .val (.ref b2), .val (.ref b6), .val (.ref bx36)] [(.ref b2)])) (fun _ k => XS.aload X39.here hx rfl (hb hby at_97) rfl rfl k) ?_
        refine OwnFin.adv (B := T39.setTop (mkF m 101 #[.val (.int va), .val (.int vb), .val (.int vc), .val (.int vd), .val (.int md), .val (.int (md &&& (7 : Int32))), .val (.int c2), .val (.int d2), .val (.ref b2), .val (.ref b6), .val (.ref bx36)] [(.ref b2), (.ref b2)])) (fun _ k => XS.aload X39.here hx rfl (hb hby at_99) rfl rfl k) ?_
        have Fv42_5 : Fld Z T36.heap b2 "com/example/slipway/slipway/model/Coordinate" "column" "I" (.int va) := (((Fa4.ext E6).keep K8 (ninS (own_ne (by omega)) nin0)).keep K36 nin0)
        have Fv43_5 : Fld Z T36.heap b2 "com/example/slipway/slipway/model/Coordinate" "row" "I" (.int vb) := (((Fb4.ext E6).keep K8 (ninS (own_ne (by omega)) nin0)).keep K36 nin0)
        obtain ⟨cq41, kq41, q41a, q41b, q41c⟩ := isOf hZ eh39 Fv40_5
        obtain ⟨_, _, ⟨T41, L41, k41, n41⟩, -, X41, ⟨Lc41, hQ41, l41, y41, z41⟩, st41⟩ := X39.virtualBack hx (y := (⟨"com/example/slipway/slipway/model/Coordinate", "equals", "(Ljava/lang/Object;)Z"⟩ : MethodName)) (z := (⟨"com/example/slipway/slipway/model/Coordinate", "equals", "(Ljava/lang/Object;)Z"⟩ : MethodName)) hown (mvT hZ (hw _ (List.mem_of_getElem? (i := 18) rfl))) (mvT hZ (hw _ (List.mem_of_getElem? (i := 19) rfl))) (notFace_of_selects (args := #[]) (mvT hZ (hw _ (List.mem_of_getElem? (i := 21) rfl)))) (mvT hZ (hw _ (List.mem_of_getElem? (i := 21) rfl))) (mvT hZ (hw _ (List.mem_of_getElem? (i := 20) rfl))) (by decide) (backOf (W := 0) (own_rm4c l Z a0 hw [] b2 b2 va vb va vb T36.heap n0 (by omega) Fv42_5 Fv43_5 Fv40_5 Fv42_5 Fv43_5) hZ (hw _ (List.mem_of_getElem? (i := 22) rfl)) (hw _ (List.mem_of_getElem? (i := 2) rfl)) (by decide) (by decide)) q41a q41c (g := (mkF m 101 #[.val (.int va), .val (.int vb), .val (.int vc), .val (.int vd), .val (.int md), .val (.int (md &&& (7 : Int32))), .val (.int c2), .val (.int d2), .val (.ref b2), .val (.ref b6), .val (.ref bx36)] [(.ref b2), (.ref b2)])) rfl (by rw [hml]; rfl) (Steps.refl _) (argsL := [(.ref b2)]) (rest := []) (lenOf own_pd_x28Ljavax2flangx2fObjectx3bx29Z rfl) rfl (by show 2 * 0 + _ ≤ _; exact Nat.le_of_eq rfl) (hb hby at_101) (fun _ _ => ⟨rfl, eh39, (by decide : 3 + 0 ≤ _), (by decide : 5 + 0 ≤ _)⟩)
        dsimp only [Pt.U, Pt.locs, Pt.cells, Pt.slots] at X41 l41 y41 z41 st41 hQ41
        subst l41 y41 z41
        obtain ⟨rfl, N41q, eh41⟩ := hQ41
        have N41 := Fr.app N39 N41q
        refine OwnFin.adv (B := T41.setTop (mkF m 104 #[.val (.int va), .val (.int vb), .val (.int vc), .val (.int vd), .val (.int md), .val (.int (md &&& (7 : Int32))), .val (.int c2), .val (.int d2), .val (.ref b2), .val (.ref b6), .val (.ref bx36)] [(.int (if va = va ∧ vb = vb then (1 : Int32) else 0))])) (fun _ k => st41.trans k) ?_
        have hc104_33 : ¬ ((if va = va ∧ vb = vb then (1 : Int32) else 0) = (0 : Int32)) := by simp
        refine OwnFin.adv (B := T41.setTop (mkF m 107 #[.val (.int va), .val (.int vb), .val (.int vc), .val (.int vd), .val (.int md), .val (.int (md &&& (7 : Int32))), .val (.int c2), .val (.int d2), .val (.ref b2), .val (.ref b6), .val (.ref bx36)] [])) (fun _ k => XS.ifNo X41.here hx rfl (hb hby at_104) rfl ((if0 _ _).trans (feq hc104_33).1) k) ?_
        refine OwnFin.adv (B := T41.setTop (mkF m 108 #[.val (.int va), .val (.int vb), .val (.int vc), .val (.int vd), .val (.int md), .val (.int (md &&& (7 : Int32))), .val (.int c2), .val (.int d2), .val (.ref b2), .val (.ref b6), .val (.ref bx36)] [(.int (1 : Int32))])) (fun _ k => XS.iconst X41.here hx rfl (hb hby at_107) k) ?_
        refine OwnFin.adv (B := T41.setTop (mkF m 112 #[.val (.int va), .val (.int vb), .val (.int vc), .val (.int vd), .val (.int md), .val (.int (md &&& (7 : Int32))), .val (.int c2), .val (.int d2), .val (.ref b2), .val (.ref b6), .val (.ref bx36)] [(.int (1 : Int32))])) (fun _ k => XS.goto X41.here hx rfl (pc0 := 108) (pc' := 112) rfl (hb hby at_108) (by decide) (by decide) k) ?_
        obtain ⟨fs, hr, hrun, hended, hW, hsame⟩ := X41.leave (v := some (.int (1 : Int32))) (fun h => by rw [Bd.returns] at h; cases h)
        refine OwnFin.leaf hP' ⟨_, _, retN X41 hx (t := .boolean) Bd.returns (by simp) (hb hby at_112) hr, hrun, hended, _, _, rfl, ?_, ⟨_, rfl⟩, hW, hsame.mono (by decide) (by decide)⟩
        exact ⟨rfl, N41⟩
  refine OwnFin.adv (B := s₁.setTop (mkF m 2 #[.val (.int va), .val (.int vb), .val (.int vc), .val (.int vd), .val (.int md), .unset, .unset, .unset, .unset, .unset, .unset] [(.int md)])) (fun _ k => XS.iload X0.here hx rfl (hb hby at_0) rfl k) ?_
  refine OwnFin.adv (B := s₁.setTop (mkF m 4 #[.val (.int va), .val (.int vb), .val (.int vc), .val (.int vd), .val (.int md), .unset, .unset, .unset, .unset, .unset, .unset] [(.int (7 : Int32)), (.int md)])) (fun _ k => XS.bipush X0.here hx rfl (hb hby at_2) k) ?_
  refine OwnFin.adv (B := s₁.setTop (mkF m 5 #[.val (.int va), .val (.int vb), .val (.int vc), .val (.int vd), .val (.int md), .unset, .unset, .unset, .unset, .unset, .unset] [(.int (md &&& (7 : Int32)))])) (fun _ k => XS.iand X0.here hx rfl (hb hby at_4) rfl k) ?_
  refine OwnFin.adv (B := s₁.setTop (mkF m 7 #[.val (.int va), .val (.int vb), .val (.int vc), .val (.int vd), .val (.int md), .val (.int (md &&& (7 : Int32))), .unset, .unset, .unset, .unset, .unset] [])) (fun _ k => XS.istore X0.here hx rfl (hb hby at_5) rfl (l' := #[.val (.int va), .val (.int vb), .val (.int vc), .val (.int vd), .val (.int md), .val (.int (md &&& (7 : Int32))), .unset, .unset, .unset, .unset, .unset]) rfl k) ?_
  refine OwnFin.adv (B := s₁.setTop (mkF m 9 #[.val (.int va), .val (.int vb), .val (.int vc), .val (.int vd), .val (.int md), .val (.int (md &&& (7 : Int32))), .unset, .unset, .unset, .unset, .unset] [(.int (md &&& (7 : Int32)))])) (fun _ k => XS.iload X0.here hx rfl (hb hby at_7) rfl k) ?_
  refine OwnFin.adv (B := s₁.setTop (mkF m 10 #[.val (.int va), .val (.int vb), .val (.int vc), .val (.int vd), .val (.int md), .val (.int (md &&& (7 : Int32))), .unset, .unset, .unset, .unset, .unset] [(.int (1 : Int32)), (.int (md &&& (7 : Int32)))])) (fun _ k => XS.iconst X0.here hx rfl (hb hby at_9) k) ?_
  refine OwnFin.adv (B := s₁.setTop (mkF m 11 #[.val (.int va), .val (.int vb), .val (.int vc), .val (.int vd), .val (.int md), .val (.int (md &&& (7 : Int32))), .unset, .unset, .unset, .unset, .unset] [(.int ((md &&& (7 : Int32)) &&& (1 : Int32)))])) (fun _ k => XS.iand X0.here hx rfl (hb hby at_10) rfl k) ?_
  by_cases hc11 : ((md &&& (7 : Int32)) &&& (1 : Int32)) = (0 : Int32)
  ·
    refine OwnFin.adv (B := s₁.setTop (mkF m 18 #[.val (.int va), .val (.int vb), .val (.int vc), .val (.int vd), .val (.int md), .val (.int (md &&& (7 : Int32))), .unset, .unset, .unset, .unset, .unset] [])) (fun _ k => XS.ifYes X0.here hx rfl (pc0 := 11) (pc' := 18) rfl (hb hby at_11) rfl ((if0 _ _).trans (teq hc11).1) (by decide) (by decide) k) ?_
    refine OwnFin.adv (B := s₁.setTop (mkF m 19 #[.val (.int va), .val (.int vb), .val (.int vc), .val (.int vd), .val (.int md), .val (.int (md &&& (7 : Int32))), .unset, .unset, .unset, .unset, .unset] [(.int vc)])) (fun _ k => XS.iloadN X0.here hx rfl (hb hby at_18) rfl k) ?_
    refine OwnFin.adv (B := s₁.setTop (mkF m 21 #[.val (.int va), .val (.int vb), .val (.int vc), .val (.int vd), .val (.int md), .val (.int (md &&& (7 : Int32))), .val (.int vc), .unset, .unset, .unset, .unset] [])) (fun _ k => XS.istore X0.here hx rfl (hb hby at_19) rfl (l' := #[.val (.int va), .val (.int vb), .val (.int vc), .val (.int vd), .val (.int md), .val (.int (md &&& (7 : Int32))), .val (.int vc), .unset, .unset, .unset, .unset]) rfl k) ?_
    refine OwnFin.adv (B := s₁.setTop (mkF m 23 #[.val (.int va), .val (.int vb), .val (.int vc), .val (.int vd), .val (.int md), .val (.int (md &&& (7 : Int32))), .val (.int vc), .unset, .unset, .unset, .unset] [(.int (md &&& (7 : Int32)))])) (fun _ k => XS.iload X0.here hx rfl (hb hby at_21) rfl k) ?_
    refine OwnFin.adv (B := s₁.setTop (mkF m 24 #[.val (.int va), .val (.int vb), .val (.int vc), .val (.int vd), .val (.int md), .val (.int (md &&& (7 : Int32))), .val (.int vc), .unset, .unset, .unset, .unset] [(.int (2 : Int32)), (.int (md &&& (7 : Int32)))])) (fun _ k => XS.iconst X0.here hx rfl (hb hby at_23) k) ?_
    refine OwnFin.adv (B := s₁.setTop (mkF m 25 #[.val (.int va), .val (.int vb), .val (.int vc), .val (.int vd), .val (.int md), .val (.int (md &&& (7 : Int32))), .val (.int vc), .unset, .unset, .unset, .unset] [(.int ((md &&& (7 : Int32)) &&& (2 : Int32)))])) (fun _ k => XS.iand X0.here hx rfl (hb hby at_24) rfl k) ?_
    by_cases hc25 : ((md &&& (7 : Int32)) &&& (2 : Int32)) = (0 : Int32)
    ·
      refine OwnFin.adv (B := s₁.setTop (mkF m 32 #[.val (.int va), .val (.int vb), .val (.int vc), .val (.int vd), .val (.int md), .val (.int (md &&& (7 : Int32))), .val (.int vc), .unset, .unset, .unset, .unset] [])) (fun _ k => XS.ifYes X0.here hx rfl (pc0 := 25) (pc' := 32) rfl (hb hby at_25) rfl ((if0 _ _).trans (teq hc25).1) (by decide) (by decide) k) ?_
      refine OwnFin.adv (B := s₁.setTop (mkF m 33 #[.val (.int va), .val (.int vb), .val (.int vc), .val (.int vd), .val (.int md), .val (.int (md &&& (7 : Int32))), .val (.int vc), .unset, .unset, .unset, .unset] [(.int vd)])) (fun _ k => XS.iloadN X0.here hx rfl (hb hby at_32) rfl k) ?_
      refine OwnFin.adv (B := s₁.setTop (mkF m 35 #[.val (.int va), .val (.int vb), .val (.int vc), .val (.int vd), .val (.int md), .val (.int (md &&& (7 : Int32))), .val (.int vc), .val (.int vd), .unset, .unset, .unset] [])) (fun _ k => XS.istore X0.here hx rfl (hb hby at_33) rfl (l' := #[.val (.int va), .val (.int vb), .val (.int vc), .val (.int vd), .val (.int md), .val (.int (md &&& (7 : Int32))), .val (.int vc), .val (.int vd), .unset, .unset, .unset]) rfl k) ?_
      exact J35 vc vd s₁ _ X0 e0 N0
    ·
      refine OwnFin.adv (B := s₁.setTop (mkF m 28 #[.val (.int va), .val (.int vb), .val (.int vc), .val (.int vd), .val (.int md), .val (.int (md &&& (7 : Int32))), .val (.int vc), .unset, .unset, .unset, .unset] [])) (fun _ k => XS.ifNo X0.here hx rfl (hb hby at_25) rfl ((if0 _ _).trans (feq hc25).1) k) ?_
      refine OwnFin.adv (B := s₁.setTop (mkF m 29 #[.val (.int va), .val (.int vb), .val (.int vc), .val (.int vd), .val (.int md), .val (.int (md &&& (7 : Int32))), .val (.int vc), .unset, .unset, .unset, .unset] [(.int vb)])) (fun _ k => XS.iloadN X0.here hx rfl (hb hby at_28) rfl k) ?_
      refine OwnFin.adv (B := s₁.setTop (mkF m 33 #[.val (.int va), .val (.int vb), .val (.int vc), .val (.int vd), .val (.int md), .val (.int (md &&& (7 : Int32))), .val (.int vc), .unset, .unset, .unset, .unset] [(.int vb)])) (fun _ k => XS.goto X0.here hx rfl (pc0 := 29) (pc' := 33) rfl (hb hby at_29) (by decide) (by decide) k) ?_
      refine OwnFin.adv (B := s₁.setTop (mkF m 35 #[.val (.int va), .val (.int vb), .val (.int vc), .val (.int vd), .val (.int md), .val (.int (md &&& (7 : Int32))), .val (.int vc), .val (.int vb), .unset, .unset, .unset] [])) (fun _ k => XS.istore X0.here hx rfl (hb hby at_33) rfl (l' := #[.val (.int va), .val (.int vb), .val (.int vc), .val (.int vd), .val (.int md), .val (.int (md &&& (7 : Int32))), .val (.int vc), .val (.int vb), .unset, .unset, .unset]) rfl k) ?_
      exact J35 vc vb s₁ _ X0 e0 N0
  ·
    refine OwnFin.adv (B := s₁.setTop (mkF m 14 #[.val (.int va), .val (.int vb), .val (.int vc), .val (.int vd), .val (.int md), .val (.int (md &&& (7 : Int32))), .unset, .unset, .unset, .unset, .unset] [])) (fun _ k => XS.ifNo X0.here hx rfl (hb hby at_11) rfl ((if0 _ _).trans (feq hc11).1) k) ?_
    refine OwnFin.adv (B := s₁.setTop (mkF m 15 #[.val (.int va), .val (.int vb), .val (.int vc), .val (.int vd), .val (.int md), .val (.int (md &&& (7 : Int32))), .unset, .unset, .unset, .unset, .unset] [(.int va)])) (fun _ k => XS.iloadN X0.here hx rfl (hb hby at_14) rfl k) ?_
    refine OwnFin.adv (B := s₁.setTop (mkF m 19 #[.val (.int va), .val (.int vb), .val (.int vc), .val (.int vd), .val (.int md), .val (.int (md &&& (7 : Int32))), .unset, .unset, .unset, .unset, .unset] [(.int va)])) (fun _ k => XS.goto X0.here hx rfl (pc0 := 15) (pc' := 19) rfl (hb hby at_15) (by decide) (by decide) k) ?_
    refine OwnFin.adv (B := s₁.setTop (mkF m 21 #[.val (.int va), .val (.int vb), .val (.int vc), .val (.int vd), .val (.int md), .val (.int (md &&& (7 : Int32))), .val (.int va), .unset, .unset, .unset, .unset] [])) (fun _ k => XS.istore X0.here hx rfl (hb hby at_19) rfl (l' := #[.val (.int va), .val (.int vb), .val (.int vc), .val (.int vd), .val (.int md), .val (.int (md &&& (7 : Int32))), .val (.int va), .unset, .unset, .unset, .unset]) rfl k) ?_
    refine OwnFin.adv (B := s₁.setTop (mkF m 23 #[.val (.int va), .val (.int vb), .val (.int vc), .val (.int vd), .val (.int md), .val (.int (md &&& (7 : Int32))), .val (.int va), .unset, .unset, .unset, .unset] [(.int (md &&& (7 : Int32)))])) (fun _ k => XS.iload X0.here hx rfl (hb hby at_21) rfl k) ?_
    refine OwnFin.adv (B := s₁.setTop (mkF m 24 #[.val (.int va), .val (.int vb), .val (.int vc), .val (.int vd), .val (.int md), .val (.int (md &&& (7 : Int32))), .val (.int va), .unset, .unset, .unset, .unset] [(.int (2 : Int32)), (.int (md &&& (7 : Int32)))])) (fun _ k => XS.iconst X0.here hx rfl (hb hby at_23) k) ?_
    refine OwnFin.adv (B := s₁.setTop (mkF m 25 #[.val (.int va), .val (.int vb), .val (.int vc), .val (.int vd), .val (.int md), .val (.int (md &&& (7 : Int32))), .val (.int va), .unset, .unset, .unset, .unset] [(.int ((md &&& (7 : Int32)) &&& (2 : Int32)))])) (fun _ k => XS.iand X0.here hx rfl (hb hby at_24) rfl k) ?_
    by_cases hc25 : ((md &&& (7 : Int32)) &&& (2 : Int32)) = (0 : Int32)
    ·
      refine OwnFin.adv (B := s₁.setTop (mkF m 32 #[.val (.int va), .val (.int vb), .val (.int vc), .val (.int vd), .val (.int md), .val (.int (md &&& (7 : Int32))), .val (.int va), .unset, .unset, .unset, .unset] [])) (fun _ k => XS.ifYes X0.here hx rfl (pc0 := 25) (pc' := 32) rfl (hb hby at_25) rfl ((if0 _ _).trans (teq hc25).1) (by decide) (by decide) k) ?_
      refine OwnFin.adv (B := s₁.setTop (mkF m 33 #[.val (.int va), .val (.int vb), .val (.int vc), .val (.int vd), .val (.int md), .val (.int (md &&& (7 : Int32))), .val (.int va), .unset, .unset, .unset, .unset] [(.int vd)])) (fun _ k => XS.iloadN X0.here hx rfl (hb hby at_32) rfl k) ?_
      refine OwnFin.adv (B := s₁.setTop (mkF m 35 #[.val (.int va), .val (.int vb), .val (.int vc), .val (.int vd), .val (.int md), .val (.int (md &&& (7 : Int32))), .val (.int va), .val (.int vd), .unset, .unset, .unset] [])) (fun _ k => XS.istore X0.here hx rfl (hb hby at_33) rfl (l' := #[.val (.int va), .val (.int vb), .val (.int vc), .val (.int vd), .val (.int md), .val (.int (md &&& (7 : Int32))), .val (.int va), .val (.int vd), .unset, .unset, .unset]) rfl k) ?_
      exact J35 va vd s₁ _ X0 e0 N0
    ·
      refine OwnFin.adv (B := s₁.setTop (mkF m 28 #[.val (.int va), .val (.int vb), .val (.int vc), .val (.int vd), .val (.int md), .val (.int (md &&& (7 : Int32))), .val (.int va), .unset, .unset, .unset, .unset] [])) (fun _ k => XS.ifNo X0.here hx rfl (hb hby at_25) rfl ((if0 _ _).trans (feq hc25).1) k) ?_
      refine OwnFin.adv (B := s₁.setTop (mkF m 29 #[.val (.int va), .val (.int vb), .val (.int vc), .val (.int vd), .val (.int md), .val (.int (md &&& (7 : Int32))), .val (.int va), .unset, .unset, .unset, .unset] [(.int vb)])) (fun _ k => XS.iloadN X0.here hx rfl (hb hby at_28) rfl k) ?_
      refine OwnFin.adv (B := s₁.setTop (mkF m 33 #[.val (.int va), .val (.int vb), .val (.int vc), .val (.int vd), .val (.int md), .val (.int (md &&& (7 : Int32))), .val (.int va), .unset, .unset, .unset, .unset] [(.int vb)])) (fun _ k => XS.goto X0.here hx rfl (pc0 := 29) (pc' := 33) rfl (hb hby at_29) (by decide) (by decide) k) ?_
      refine OwnFin.adv (B := s₁.setTop (mkF m 35 #[.val (.int va), .val (.int vb), .val (.int vc), .val (.int vd), .val (.int md), .val (.int (md &&& (7 : Int32))), .val (.int va), .val (.int vb), .unset, .unset, .unset] [])) (fun _ k => XS.istore X0.here hx rfl (hb hby at_33) rfl (l' := #[.val (.int va), .val (.int vb), .val (.int vc), .val (.int vd), .val (.int md), .val (.int (md &&& (7 : Int32))), .val (.int va), .val (.int vb), .unset, .unset, .unset]) rfl k) ?_
      exact J35 va vb s₁ _ X0 e0 N0
set_option maxRecDepth 65536 in
set_option maxHeartbeats 40000000 in
theorem own_comes {Post : Tables → Env → Array Value → State → Outcome → State → Prop} (hpost : ∀ tb e args s v u, (limb_1_1.after args s (.returned v) u = true ∧ limb_1_2.after args s (.returned v) u = true ∧ True) → FrameEnd s (.returned v) u (Jvm.fieldLocs frame_1_writes args s ++ Jvm.arrayLocs frame_1_arrays args s ++ Jvm.staticLocs frame_1_statics s) 16 128 → Post tb e args s (.returned v) u) :
    ArmFor flags0 classFile x code maxLocals ret World_1 tables_1 room_1 Calls_1 rest_1 Pre_1 Post := by
  intro l hfl _ _ p e ha hc hk s m args below hf hA hF happ hP
  obtain ⟨hcalls, hrest, hpre⟩ := hP
  obtain ⟨-, -, -, hnamed, -, -, -, hat⟩ := (Spec.applies_iff hf).mp happ
  obtain ⟨hg, hn⟩ := and_e (Cond.before_iff.mp (show (Jvm.Cond.and given_1 narrow_1).before args s = true from hpre))
  obtain ⟨u1, u2⟩ := and_e hg
  obtain ⟨u3, u4⟩ := and_e u2
  obtain ⟨u5, u6⟩ := and_e u4
  obtain ⟨u7, u8⟩ := and_e u6
  obtain ⟨u9, u10⟩ := and_e u8
  obtain ⟨w0, w1, w2, w3, w4, rfl⟩ : ∃ w0 w1 w2 w3 w4 : Value, args = #[w0, w1, w2, w3, w4] := by
    have hs : args.size = 5 := by simpa [Cond.value, given_1] using u1
    obtain ⟨L⟩ := args
    match L, hs with
    | [w0, w1, w2, w3, w4], _ => exact ⟨w0, w1, w2, w3, w4, rfl⟩
  have hw := fun d (hd : d ∈ tables_1) => atoms_spec (ws := Jvm.Cond.code x code maxLocals ret :: tables_1) hat d (List.mem_cons_of_mem _ hd)
  have hfit : Fit s := fun {y c} hc i hi => by
    obtain ⟨ha, rfl⟩ := Array.getElem?_eq_some_iff.mp hc
    have q := List.all_eq_true.mp ((Array.all_eq_true_iff_forall_mem.mp hF) _ (Array.getElem_mem ha)) i (List.mem_range.mpr hi)
    simpa [Array.getElem?_eq_getElem hi] using q
  obtain ⟨hsets, hown0⟩ := atoms_of _ (rest_1_c_eq ▸ (show rest_1_c.before _ s = true from hrest))
  have hr0 := Cond.before_iff.mp hown0
  obtain ⟨i0, ei0⟩ := is_v u3
  obtain rfl : w0 = (.int i0) := Option.some.inj ei0
  obtain ⟨i1, ei1⟩ := is_v u5
  obtain rfl : w1 = (.int i1) := Option.some.inj ei1
  obtain ⟨i2, ei2⟩ := is_v u7
  obtain rfl : w2 = (.int i2) := Option.some.inj ei2
  obtain ⟨i3, ei3⟩ := is_v u9
  obtain rfl : w3 = (.int i3) := Option.some.inj ei3
  obtain ⟨i4, ei4⟩ := is_v u10
  obtain rfl : w4 = (.int i4) := Option.some.inj ei4
  have SH := Sta.start (own_eqI (Cond.before_iff.mp (hsets _ (List.mem_of_getElem? (i := 3) rfl)))) (Or.inr ⟨(hw _ (List.mem_of_getElem? (i := 30) rfl)), (hsets _ (List.mem_of_getElem? (i := 0) rfl))⟩)
  obtain ⟨ca, cl, SC, BX⟩ := own_boxes (Z := s) (args := #[.int i0, .int i1, .int i2, .int i3, .int i4]) (fun d hd => by simp only [List.mem_cons, List.not_mem_nil, or_false] at hd; rcases hd with rfl | rfl | rfl <;> first | exact (hsets _ (List.mem_of_getElem? (i := 4) rfl)) | exact (hsets _ (List.mem_of_getElem? (i := 6) rfl)) | exact (hsets _ (List.mem_of_getElem? (i := 7) rfl))) (hw _ (List.mem_of_getElem? (i := 30) rfl)) (hsets _ (List.mem_of_getElem? (i := 2) rfl))
  obtain ⟨n, o, h1, h2, h3, _, L, rfl, ⟨rfl, N⟩, hq⟩ := own_rm0 l s _ hw tables_1 i0 i1 i2 i3 i4 ca cl s.heap s.heap.size (Nat.le_refl _) (Old.start s) SH SC BX p e ha hc hk s m _ below hf ((Spec.applies_iff_loose hf).mp happ).1 ⟨rfl, State.Warmed39.refl s, rfl⟩ trivial
  refine ⟨n, _, h1, h2, h3, hpost _ _ _ _ _ _ ⟨Cond.after_iff.mpr rfl, Cond.after_iff.mpr (eq_i res_at (Term.int_eval (1)) rfl), trivial⟩ ⟨hq.1, hq.2.1, (hq.2.2.sift fun y hy => Or.inr (N y hy)).mono (by decide) (by decide)⟩⟩
theorem main_1_1 : Claimed_1_1 := own_comes fun _ _ _ _ _ _ h hF => ⟨h.1, hF⟩
theorem main_1_2 : Claimed_1_2 := own_comes fun _ _ _ _ _ _ h hF => ⟨h.2.1, hF⟩
end Jvm.Pilot.@@N@@
namespace Jvm.Pilot.@@N@@
open Jvm Jvm.ClassFile Sem Op Lib Jvm.Free Jvm.Stand Jvm.Pilot.@@N@@.Jvm.D
/-! MADE BY PROGRAM (witnessworld.py) out of the Statement's table words and the real class files: 17 classes; the members and pool entries that the words name. The judged class is class 1, her method 1. -/
namespace start1
open Jvm.ClassFile
def u (s : String) : CpInfo := .utf8 (stringToUtf16 s)
/-- a pool by its gaps: so many unusable entries, then the entry; so many at the end -/
def gap : Nat → List CpInfo → List CpInfo
  | 0, r => r
  | n + 1, r => .unusable :: gap n r
def poolList (es : List (Nat × CpInfo)) (last : Nat) : List CpInfo := es.foldr (fun e r => gap e.1 (e.2 :: r)) (gap last [])
def pool (es : List (Nat × CpInfo)) (last : Nat) : Array CpInfo := ⟨poolList es last⟩
def fileOf (pool : Array CpInfo) (this : Nat) (attrs : Array Attribute := #[]) (ms : Array MethodInfo := #[]) (fl : Nat := 33) (sup : Nat := 0) (ifs : Array Nat := #[]) (fds : Array FieldInfo := #[]) : ClassFile where
  minorVersion := 0
  majorVersion := 65
  constantPool := pool
  accessFlags := fl
  thisClass := this
  superClass := sup
  interfaces := ifs
  fields := fds
  methods := ms
  attributes := attrs
def plain (name : String) (sup : Option ClassId) : Class where
  name := name
  kind := .ordinary
  loader := none
  accessFlags := 33
  super := sup
  interfaces := #[]
  cf := none
  fields := #[]
  methods := #[]
  instanceTypes := #[]
  staticTypes := #[]
  resolved := #[]
  callSites := []
  init := .initialized
  statics := none
  mirror := none

def pool0 : Array CpInfo := pool [(5, u "<init>"), (0, u "()V"), (1, .class_ 10), (1, u "java/lang/Object")] 113

def k0c0 : Code := { maxStack := 0, maxLocals := 1, code := object_method_1_code, exceptionTable := #[], attributes := #[] }
def k0m0 : Method := { name := "<init>", desc := "()V", sig := { parameters := [], returnType := none }, accessFlags := 1, code := some k0c0 }
/-- java/lang/Object -/
def k0 : Class := { plain "java/lang/Object" none with
  accessFlags := 33
  interfaces := #[]
  cf := some (fileOf pool0 8 #[] #[{ accessFlags := 1, nameIndex := 5, descriptorIndex := 6, attributes := #[] }] 33 0 #[] #[])
  fields := #[]
  methods := #[k0m0]
  instanceTypes := #[]
  staticTypes := #[]
  resolved := Array.replicate 124 none
  statics := none }

def pool1 : Array CpInfo := pool [(2, .class_ 4), (1, u "java/lang/Object"), (0, u "<init>"), (0, u "()V"), (0, .class_ 8), (0, u "com/example/slipway/slipway/model/Coordinate"), (0, .methodref 7 10), (0, .nameAndType 5 11), (0, u "(II)V"), (0, .methodref 13 14), (0, .class_ 15), (0, .nameAndType 16 17), (0, u "java/lang/Integer"), (0, u "valueOf"), (0, u "(I)Ljava/lang/Integer;"), (0, .methodref 7 19), (0, .nameAndType 20 21), (0, u "equals"), (0, u "(Ljava/lang/Object;)Z"), (0, .class_ 23), (0, u "com/example/slipway/slipway/model/CoordinateEqualsPinLaw"), (2, u "law"), (0, u "(IIIII)Z")] 3

def k1m0 : Method := { name := "<init>", desc := "()V", sig := { parameters := [], returnType := none }, accessFlags := 1, code := none }
def k1c1 : Code := { maxStack := 4, maxLocals := 11, code := code, exceptionTable := #[], attributes := #[] }
def k1m1 : Method := { name := "law", desc := "(IIIII)Z", sig := { parameters := [.int, .int, .int, .int, .int], returnType := some .boolean }, accessFlags := 9, code := some k1c1 }
/-- com/example/slipway/slipway/model/CoordinateEqualsPinLaw -/
def k1 : Class := { plain "com/example/slipway/slipway/model/CoordinateEqualsPinLaw" (some 0) with
  accessFlags := 49
  interfaces := #[]
  cf := some (fileOf pool1 22 #[] #[{ accessFlags := 1, nameIndex := 5, descriptorIndex := 6, attributes := #[] }, { accessFlags := 9, nameIndex := 26, descriptorIndex := 27, attributes := #[] }] 49 2 #[] #[])
  fields := #[]
  methods := #[k1m0, k1m1]
  instanceTypes := #[]
  staticTypes := #[]
  resolved := Array.replicate 31 none
  statics := none }

def pool2 : Array CpInfo := pool [(1, .methodref 2 3), (0, .class_ 4), (0, .nameAndType 5 6), (0, u "java/lang/Object"), (0, u "<init>"), (0, u "()V"), (0, .class_ 8), (0, u "java/lang/Record")] 13

def k2c0 : Code := { maxStack := 1, maxLocals := 1, code := jdk_30_method_1_code, exceptionTable := #[], attributes := #[] }
def k2m0 : Method := { name := "<init>", desc := "()V", sig := { parameters := [], returnType := none }, accessFlags := 4, code := some k2c0 }
/-- java/lang/Record -/
def k2 : Class := { plain "java/lang/Record" (some 0) with
  accessFlags := 1057
  interfaces := #[]
  cf := some (fileOf pool2 7 #[] #[{ accessFlags := 4, nameIndex := 5, descriptorIndex := 6, attributes := #[] }] 1057 2 #[] #[])
  fields := #[]
  methods := #[k2m0]
  instanceTypes := #[]
  staticTypes := #[]
  resolved := Array.replicate 22 none
  statics := none }

def pool3 : Array CpInfo := pool [(1, .methodref 2 3), (0, .class_ 4), (0, .nameAndType 5 6), (0, u "java/lang/Record"), (0, u "<init>"), (0, u "()V"), (0, .fieldref 8 9), (0, .class_ 10), (0, .nameAndType 11 12), (0, u "com/example/slipway/slipway/model/Coordinate"), (0, u "column"), (0, u "I"), (0, .fieldref 8 14), (0, .nameAndType 15 12), (0, u "row"), (2, u "(II)V"), (11, u "equals"), (0, u "(Ljava/lang/Object;)Z")] 21

def k3c0 : Code := { maxStack := 2, maxLocals := 3, code := prog_16_method_1_code, exceptionTable := #[], attributes := #[] }
def k3m0 : Method := { name := "<init>", desc := "(II)V", sig := { parameters := [.int, .int], returnType := none }, accessFlags := 1, code := some k3c0 }
def k3c1 : Code := { maxStack := 2, maxLocals := 3, code := prog_16_method_4_code, exceptionTable := #[], attributes := #[] }
def k3m1 : Method := { name := "equals", desc := "(Ljava/lang/Object;)Z", sig := { parameters := [(.object "java/lang/Object")], returnType := some .boolean }, accessFlags := 1, code := some k3c1 }
/-- com/example/slipway/slipway/model/Coordinate -/
def k3 : Class := { plain "com/example/slipway/slipway/model/Coordinate" (some 2) with
  accessFlags := 49
  interfaces := #[]
  cf := some (fileOf pool3 8 #[] #[{ accessFlags := 1, nameIndex := 5, descriptorIndex := 18, attributes := #[] }, { accessFlags := 1, nameIndex := 30, descriptorIndex := 31, attributes := #[] }] 49 2 #[] #[{ accessFlags := 18, nameIndex := 11, descriptorIndex := 12, attributes := #[] }, { accessFlags := 18, nameIndex := 15, descriptorIndex := 12, attributes := #[] }])
  fields := #[{ name := "column", type := .int, accessFlags := 18, slot := 0, constantValue := 0 }, { name := "row", type := .int, accessFlags := 18, slot := 1, constantValue := 0 }]
  methods := #[k3m0, k3m1]
  instanceTypes := #[.int, .int]
  staticTypes := #[]
  resolved := Array.replicate 53 none
  statics := none }

def pool4 : Array CpInfo := pool [(1, .class_ 2), (0, u "java/io/Serializable"), (0, .class_ 4), (0, u "java/lang/Object")] 2

/-- java/io/Serializable -/
def k4 : Class := { plain "java/io/Serializable" (some 0) with
  accessFlags := 1537
  interfaces := #[]
  cf := some (fileOf pool4 1 #[] #[] 1537 3 #[] #[])
  fields := #[]
  methods := #[]
  instanceTypes := #[]
  staticTypes := #[]
  resolved := Array.replicate 7 none
  statics := none }

def pool5 : Array CpInfo := pool [(1, .methodref 2 3), (0, .class_ 4), (0, .nameAndType 5 6), (0, u "java/lang/Object"), (0, u "<init>"), (0, u "()V"), (1, .class_ 10), (1, u "java/lang/Number"), (2, .class_ 14), (0, u "java/io/Serializable"), (0, u "serialVersionUID"), (0, u "J")] 20

def k5c0 : Code := { maxStack := 1, maxLocals := 1, code := jdk_18_method_1_code, exceptionTable := #[], attributes := #[] }
def k5m0 : Method := { name := "<init>", desc := "()V", sig := { parameters := [], returnType := none }, accessFlags := 1, code := some k5c0 }
/-- java/lang/Number -/
def k5 : Class := { plain "java/lang/Number" (some 0) with
  accessFlags := 1057
  interfaces := #[4]
  cf := some (fileOf pool5 8 #[] #[{ accessFlags := 1, nameIndex := 5, descriptorIndex := 6, attributes := #[] }] 1057 2 #[13] #[{ accessFlags := 26, nameIndex := 15, descriptorIndex := 16, attributes := #[] }])
  fields := #[{ name := "serialVersionUID", type := .long, accessFlags := 26, slot := 0, constantValue := 0 }]
  methods := #[k5m0]
  instanceTypes := #[]
  staticTypes := #[.long]
  resolved := Array.replicate 37 none
  statics := none }

def pool6 : Array CpInfo := pool [(1, .class_ 2), (0, u "java/lang/Comparable"), (0, .class_ 4), (0, u "java/lang/Object")] 7

/-- java/lang/Comparable -/
def k6 : Class := { plain "java/lang/Comparable" (some 0) with
  accessFlags := 1537
  interfaces := #[]
  cf := some (fileOf pool6 1 #[] #[] 1537 3 #[] #[])
  fields := #[]
  methods := #[]
  instanceTypes := #[]
  staticTypes := #[]
  resolved := Array.replicate 12 none
  statics := none }

def pool7 : Array CpInfo := pool [(1, .class_ 2), (0, u "java/lang/constant/Constable"), (0, .class_ 4), (0, u "java/lang/Object")] 6

/-- java/lang/constant/Constable -/
def k7 : Class := { plain "java/lang/constant/Constable" (some 0) with
  accessFlags := 1537
  interfaces := #[]
  cf := some (fileOf pool7 1 #[] #[] 1537 3 #[] #[])
  fields := #[]
  methods := #[]
  instanceTypes := #[]
  staticTypes := #[]
  resolved := Array.replicate 11 none
  statics := none }

def pool8 : Array CpInfo := pool [(1, .class_ 2), (0, u "java/lang/constant/ConstantDesc"), (0, .class_ 4), (0, u "java/lang/Object")] 32

/-- java/lang/constant/ConstantDesc -/
def k8 : Class := { plain "java/lang/constant/ConstantDesc" (some 0) with
  accessFlags := 1537
  interfaces := #[]
  cf := some (fileOf pool8 1 #[] #[] 1537 3 #[] #[])
  fields := #[]
  methods := #[]
  instanceTypes := #[]
  staticTypes := #[]
  resolved := Array.replicate 37 none
  statics := none }

def pool9 : Array CpInfo := pool [(1, .class_ 2), (0, u "java/lang/Integer"), (16, u "digits"), (0, u "[C"), (46, u "<init>"), (17, u "DigitOnes"), (0, u "[B"), (2, u "DigitTens"), (10, .nameAndType 67 101), (0, u "()V"), (85, u "valueOf"), (0, u "(I)Ljava/lang/Integer;"), (0, .class_ 190), (0, u "java/lang/Integer$IntegerCache"), (0, .fieldref 189 192), (0, .nameAndType 193 194), (0, u "high"), (0, u "I"), (0, .fieldref 189 196), (0, .nameAndType 197 198), (0, u "cache"), (0, u "[Ljava/lang/Integer;"), (0, .methodref 1 200), (0, .nameAndType 67 201), (0, u "(I)V"), (0, .methodref 203 100), (0, .class_ 204), (0, u "java/lang/Number"), (0, .fieldref 1 206), (0, .nameAndType 207 194), (0, u "value"), (94, u "TYPE"), (0, u "Ljava/lang/Class;"), (0, .class_ 305), (0, u "java/lang/Comparable"), (0, .class_ 307), (0, u "java/lang/constant/Constable"), (0, .class_ 309), (0, u "java/lang/constant/ConstantDesc"), (0, u "MIN_VALUE"), (1, u "MAX_VALUE"), (3, u "SIZE"), (1, u "BYTES"), (1, u "serialVersionUID"), (0, u "J")] 131

def k9c0 : Code := { maxStack := 3, maxLocals := 1, code := jdk_33_method_22_code, exceptionTable := #[], attributes := #[] }
def k9m0 : Method := { name := "valueOf", desc := "(I)Ljava/lang/Integer;", sig := { parameters := [.int], returnType := some (.object "java/lang/Integer") }, accessFlags := 9, code := some k9c0 }
def k9c1 : Code := { maxStack := 2, maxLocals := 2, code := jdk_33_method_23_code, exceptionTable := #[], attributes := #[] }
def k9m1 : Method := { name := "<init>", desc := "(I)V", sig := { parameters := [.int], returnType := none }, accessFlags := 1, code := some k9c1 }
/-- java/lang/Integer -/
def k9 : Class := { plain "java/lang/Integer" (some 5) with
  accessFlags := 49
  interfaces := #[6, 7, 8]
  cf := some (fileOf pool9 1 #[.nestMembers #[189]] #[{ accessFlags := 9, nameIndex := 187, descriptorIndex := 188, attributes := #[] }, { accessFlags := 1, nameIndex := 67, descriptorIndex := 201, attributes := #[] }] 49 203 #[304, 306, 308] #[{ accessFlags := 25, nameIndex := 310, descriptorIndex := 194, attributes := #[] }, { accessFlags := 25, nameIndex := 312, descriptorIndex := 194, attributes := #[] }, { accessFlags := 25, nameIndex := 302, descriptorIndex := 303, attributes := #[] }, { accessFlags := 24, nameIndex := 19, descriptorIndex := 20, attributes := #[] }, { accessFlags := 24, nameIndex := 89, descriptorIndex := 86, attributes := #[] }, { accessFlags := 24, nameIndex := 85, descriptorIndex := 86, attributes := #[] }, { accessFlags := 18, nameIndex := 207, descriptorIndex := 194, attributes := #[] }, { accessFlags := 25, nameIndex := 316, descriptorIndex := 194, attributes := #[] }, { accessFlags := 25, nameIndex := 318, descriptorIndex := 194, attributes := #[] }, { accessFlags := 26, nameIndex := 320, descriptorIndex := 321, attributes := #[] }])
  fields := #[{ name := "MIN_VALUE", type := .int, accessFlags := 25, slot := 0, constantValue := 0 }, { name := "MAX_VALUE", type := .int, accessFlags := 25, slot := 1, constantValue := 0 }, { name := "TYPE", type := (.object "java/lang/Class"), accessFlags := 25, slot := 2, constantValue := 0 }, { name := "digits", type := (.array .char), accessFlags := 24, slot := 3, constantValue := 0 }, { name := "DigitTens", type := (.array .byte), accessFlags := 24, slot := 4, constantValue := 0 }, { name := "DigitOnes", type := (.array .byte), accessFlags := 24, slot := 5, constantValue := 0 }, { name := "value", type := .int, accessFlags := 18, slot := 0, constantValue := 0 }, { name := "SIZE", type := .int, accessFlags := 25, slot := 6, constantValue := 0 }, { name := "BYTES", type := .int, accessFlags := 25, slot := 7, constantValue := 0 }, { name := "serialVersionUID", type := .long, accessFlags := 26, slot := 8, constantValue := 0 }]
  methods := #[k9m0, k9m1]
  instanceTypes := #[.int]
  staticTypes := #[.int, .int, (.object "java/lang/Class"), (.array .char), (.array .byte), (.array .byte), .int, .int, .long]
  resolved := Array.replicate 453 none
  statics := none }

def pool10 : Array CpInfo := pool [(2, .class_ 4), (1, u "java/lang/Object"), (0, u "<init>"), (0, u "()V"), (0, .class_ 8), (0, u "java/lang/Integer"), (7, .class_ 18), (1, u "java/lang/Integer$IntegerCache"), (0, u "$assertionsDisabled"), (0, u "Z"), (26, u "high"), (0, u "I"), (8, u "archivedCache"), (0, u "[Ljava/lang/Integer;"), (12, u "cache"), (0, u "low")] 27

def k10m0 : Method := { name := "<init>", desc := "()V", sig := { parameters := [], returnType := none }, accessFlags := 2, code := none }
/-- java/lang/Integer$IntegerCache -/
def k10 : Class := { plain "java/lang/Integer$IntegerCache" (some 0) with
  accessFlags := 48
  interfaces := #[]
  cf := some (fileOf pool10 16 #[.nestHost 7] #[{ accessFlags := 2, nameIndex := 5, descriptorIndex := 6, attributes := #[] }] 48 2 #[] #[{ accessFlags := 24, nameIndex := 72, descriptorIndex := 48, attributes := #[] }, { accessFlags := 24, nameIndex := 47, descriptorIndex := 48, attributes := #[] }, { accessFlags := 24, nameIndex := 71, descriptorIndex := 58, attributes := #[] }, { accessFlags := 8, nameIndex := 57, descriptorIndex := 58, attributes := #[] }, { accessFlags := 4120, nameIndex := 19, descriptorIndex := 20, attributes := #[] }])
  fields := #[{ name := "low", type := .int, accessFlags := 24, slot := 0, constantValue := 0 }, { name := "high", type := .int, accessFlags := 24, slot := 1, constantValue := 0 }, { name := "cache", type := (.array (.object "java/lang/Integer")), accessFlags := 24, slot := 2, constantValue := 0 }, { name := "archivedCache", type := (.array (.object "java/lang/Integer")), accessFlags := 8, slot := 3, constantValue := 0 }, { name := "$assertionsDisabled", type := .boolean, accessFlags := 4120, slot := 4, constantValue := 0 }]
  methods := #[k10m0]
  instanceTypes := #[]
  staticTypes := #[.int, .int, (.array (.object "java/lang/Integer")), (.array (.object "java/lang/Integer")), .boolean]
  resolved := Array.replicate 100 none
  statics := some 0 }

def pool11 : Array CpInfo := pool [(1, u "java/lang/Cloneable"), (0, .class_ 1), (0, u "java/lang/Object"), (0, .class_ 3)] 3

/-- java/lang/Cloneable -/
def k11 : Class := { plain "java/lang/Cloneable" (some 0) with
  accessFlags := 1537
  interfaces := #[]
  cf := some (fileOf pool11 2 #[] #[] 1537 4 #[] #[])
  fields := #[]
  methods := #[]
  instanceTypes := #[]
  staticTypes := #[]
  resolved := Array.replicate 8 none
  statics := none }

/-- the primitive byte -/
def k12 : Class := { plain "byte" none with kind := .primitive 'B', accessFlags := 0x411 }
/-- [B -/
def k13 : Class := { plain "[B" (some 0) with kind := .array 12 .byte, interfaces := #[11, 4], accessFlags := 1041 }

/-- the primitive int -/
def k14 : Class := { plain "int" none with kind := .primitive 'I', accessFlags := 0x411 }
/-- [I -/
def k15 : Class := { plain "[I" (some 0) with kind := .array 14 .int, interfaces := #[11, 4], accessFlags := 1041 }

/-- [Ljava/lang/Integer; -/
def k16 : Class := { plain "[Ljava/lang/Integer;" (some 0) with kind := .array 9 (.object "java/lang/Integer"), interfaces := #[11, 4], accessFlags := 1041 }

def heap : Heap := #[{ cls := 10, slots := #[.int 0, .int 127, .ref 1, .null, .int 0], vm := .statics 10 },
  { cls := 16, slots := #[.ref 2, .ref 3, .ref 4, .ref 5, .ref 6, .ref 7, .ref 8, .ref 9, .ref 10, .ref 11, .ref 12, .ref 13, .ref 14, .ref 15, .ref 16, .ref 17, .ref 18, .ref 19, .ref 20, .ref 21, .ref 22, .ref 23, .ref 24, .ref 25, .ref 26, .ref 27, .ref 28, .ref 29, .ref 30, .ref 31, .ref 32, .ref 33, .ref 34, .ref 35, .ref 36, .ref 37, .ref 38, .ref 39, .ref 40, .ref 41, .ref 42, .ref 43, .ref 44, .ref 45, .ref 46, .ref 47, .ref 48, .ref 49, .ref 50, .ref 51, .ref 52, .ref 53, .ref 54, .ref 55, .ref 56, .ref 57, .ref 58, .ref 59, .ref 60, .ref 61, .ref 62, .ref 63, .ref 64, .ref 65, .ref 66, .ref 67, .ref 68, .ref 69, .ref 70, .ref 71, .ref 72, .ref 73, .ref 74, .ref 75, .ref 76, .ref 77, .ref 78, .ref 79, .ref 80, .ref 81, .ref 82, .ref 83, .ref 84, .ref 85, .ref 86, .ref 87, .ref 88, .ref 89, .ref 90, .ref 91, .ref 92, .ref 93, .ref 94, .ref 95, .ref 96, .ref 97, .ref 98, .ref 99, .ref 100, .ref 101, .ref 102, .ref 103, .ref 104, .ref 105, .ref 106, .ref 107, .ref 108, .ref 109, .ref 110, .ref 111, .ref 112, .ref 113, .ref 114, .ref 115, .ref 116, .ref 117, .ref 118, .ref 119, .ref 120, .ref 121, .ref 122, .ref 123, .ref 124, .ref 125, .ref 126, .ref 127, .ref 128, .ref 129, .ref 130, .ref 131, .ref 132, .ref 133, .ref 134, .ref 135, .ref 136, .ref 137, .ref 138, .ref 139, .ref 140, .ref 141, .ref 142, .ref 143, .ref 144, .ref 145, .ref 146, .ref 147, .ref 148, .ref 149, .ref 150, .ref 151, .ref 152, .ref 153, .ref 154, .ref 155, .ref 156, .ref 157, .ref 158, .ref 159, .ref 160, .ref 161, .ref 162, .ref 163, .ref 164, .ref 165, .ref 166, .ref 167, .ref 168, .ref 169, .ref 170, .ref 171, .ref 172, .ref 173, .ref 174, .ref 175, .ref 176, .ref 177, .ref 178, .ref 179, .ref 180, .ref 181, .ref 182, .ref 183, .ref 184, .ref 185, .ref 186, .ref 187, .ref 188, .ref 189, .ref 190, .ref 191, .ref 192, .ref 193, .ref 194, .ref 195, .ref 196, .ref 197, .ref 198, .ref 199, .ref 200, .ref 201, .ref 202, .ref 203, .ref 204, .ref 205, .ref 206, .ref 207, .ref 208, .ref 209, .ref 210, .ref 211, .ref 212, .ref 213, .ref 214, .ref 215, .ref 216, .ref 217, .ref 218, .ref 219, .ref 220, .ref 221, .ref 222, .ref 223, .ref 224, .ref 225, .ref 226, .ref 227, .ref 228, .ref 229, .ref 230, .ref 231, .ref 232, .ref 233, .ref 234, .ref 235, .ref 236, .ref 237, .ref 238, .ref 239, .ref 240, .ref 241, .ref 242, .ref 243, .ref 244, .ref 245, .ref 246, .ref 247, .ref 248, .ref 249, .ref 250, .ref 251, .ref 252, .ref 253, .ref 254, .ref 255, .ref 256, .ref 257], vm := .none },
  { cls := 9, slots := #[.int (-128)], vm := .none },
  { cls := 9, slots := #[.int (-127)], vm := .none },
  { cls := 9, slots := #[.int (-126)], vm := .none },
  { cls := 9, slots := #[.int (-125)], vm := .none },
  { cls := 9, slots := #[.int (-124)], vm := .none },
  { cls := 9, slots := #[.int (-123)], vm := .none },
  { cls := 9, slots := #[.int (-122)], vm := .none },
  { cls := 9, slots := #[.int (-121)], vm := .none },
  { cls := 9, slots := #[.int (-120)], vm := .none },
  { cls := 9, slots := #[.int (-119)], vm := .none },
  { cls := 9, slots := #[.int (-118)], vm := .none },
  { cls := 9, slots := #[.int (-117)], vm := .none },
  { cls := 9, slots := #[.int (-116)], vm := .none },
  { cls := 9, slots := #[.int (-115)], vm := .none },
  { cls := 9, slots := #[.int (-114)], vm := .none },
  { cls := 9, slots := #[.int (-113)], vm := .none },
  { cls := 9, slots := #[.int (-112)], vm := .none },
  { cls := 9, slots := #[.int (-111)], vm := .none },
  { cls := 9, slots := #[.int (-110)], vm := .none },
  { cls := 9, slots := #[.int (-109)], vm := .none },
  { cls := 9, slots := #[.int (-108)], vm := .none },
  { cls := 9, slots := #[.int (-107)], vm := .none },
  { cls := 9, slots := #[.int (-106)], vm := .none },
  { cls := 9, slots := #[.int (-105)], vm := .none },
  { cls := 9, slots := #[.int (-104)], vm := .none },
  { cls := 9, slots := #[.int (-103)], vm := .none },
  { cls := 9, slots := #[.int (-102)], vm := .none },
  { cls := 9, slots := #[.int (-101)], vm := .none },
  { cls := 9, slots := #[.int (-100)], vm := .none },
  { cls := 9, slots := #[.int (-99)], vm := .none },
  { cls := 9, slots := #[.int (-98)], vm := .none },
  { cls := 9, slots := #[.int (-97)], vm := .none },
  { cls := 9, slots := #[.int (-96)], vm := .none },
  { cls := 9, slots := #[.int (-95)], vm := .none },
  { cls := 9, slots := #[.int (-94)], vm := .none },
  { cls := 9, slots := #[.int (-93)], vm := .none },
  { cls := 9, slots := #[.int (-92)], vm := .none },
  { cls := 9, slots := #[.int (-91)], vm := .none },
  { cls := 9, slots := #[.int (-90)], vm := .none },
  { cls := 9, slots := #[.int (-89)], vm := .none },
  { cls := 9, slots := #[.int (-88)], vm := .none },
  { cls := 9, slots := #[.int (-87)], vm := .none },
  { cls := 9, slots := #[.int (-86)], vm := .none },
  { cls := 9, slots := #[.int (-85)], vm := .none },
  { cls := 9, slots := #[.int (-84)], vm := .none },
  { cls := 9, slots := #[.int (-83)], vm := .none },
  { cls := 9, slots := #[.int (-82)], vm := .none },
  { cls := 9, slots := #[.int (-81)], vm := .none },
  { cls := 9, slots := #[.int (-80)], vm := .none },
  { cls := 9, slots := #[.int (-79)], vm := .none },
  { cls := 9, slots := #[.int (-78)], vm := .none },
  { cls := 9, slots := #[.int (-77)], vm := .none },
  { cls := 9, slots := #[.int (-76)], vm := .none },
  { cls := 9, slots := #[.int (-75)], vm := .none },
  { cls := 9, slots := #[.int (-74)], vm := .none },
  { cls := 9, slots := #[.int (-73)], vm := .none },
  { cls := 9, slots := #[.int (-72)], vm := .none },
  { cls := 9, slots := #[.int (-71)], vm := .none },
  { cls := 9, slots := #[.int (-70)], vm := .none },
  { cls := 9, slots := #[.int (-69)], vm := .none },
  { cls := 9, slots := #[.int (-68)], vm := .none },
  { cls := 9, slots := #[.int (-67)], vm := .none },
  { cls := 9, slots := #[.int (-66)], vm := .none },
  { cls := 9, slots := #[.int (-65)], vm := .none },
  { cls := 9, slots := #[.int (-64)], vm := .none },
  { cls := 9, slots := #[.int (-63)], vm := .none },
  { cls := 9, slots := #[.int (-62)], vm := .none },
  { cls := 9, slots := #[.int (-61)], vm := .none },
  { cls := 9, slots := #[.int (-60)], vm := .none },
  { cls := 9, slots := #[.int (-59)], vm := .none },
  { cls := 9, slots := #[.int (-58)], vm := .none },
  { cls := 9, slots := #[.int (-57)], vm := .none },
  { cls := 9, slots := #[.int (-56)], vm := .none },
  { cls := 9, slots := #[.int (-55)], vm := .none },
  { cls := 9, slots := #[.int (-54)], vm := .none },
  { cls := 9, slots := #[.int (-53)], vm := .none },
  { cls := 9, slots := #[.int (-52)], vm := .none },
  { cls := 9, slots := #[.int (-51)], vm := .none },
  { cls := 9, slots := #[.int (-50)], vm := .none },
  { cls := 9, slots := #[.int (-49)], vm := .none },
  { cls := 9, slots := #[.int (-48)], vm := .none },
  { cls := 9, slots := #[.int (-47)], vm := .none },
  { cls := 9, slots := #[.int (-46)], vm := .none },
  { cls := 9, slots := #[.int (-45)], vm := .none },
  { cls := 9, slots := #[.int (-44)], vm := .none },
  { cls := 9, slots := #[.int (-43)], vm := .none },
  { cls := 9, slots := #[.int (-42)], vm := .none },
  { cls := 9, slots := #[.int (-41)], vm := .none },
  { cls := 9, slots := #[.int (-40)], vm := .none },
  { cls := 9, slots := #[.int (-39)], vm := .none },
  { cls := 9, slots := #[.int (-38)], vm := .none },
  { cls := 9, slots := #[.int (-37)], vm := .none },
  { cls := 9, slots := #[.int (-36)], vm := .none },
  { cls := 9, slots := #[.int (-35)], vm := .none },
  { cls := 9, slots := #[.int (-34)], vm := .none },
  { cls := 9, slots := #[.int (-33)], vm := .none },
  { cls := 9, slots := #[.int (-32)], vm := .none },
  { cls := 9, slots := #[.int (-31)], vm := .none },
  { cls := 9, slots := #[.int (-30)], vm := .none },
  { cls := 9, slots := #[.int (-29)], vm := .none },
  { cls := 9, slots := #[.int (-28)], vm := .none },
  { cls := 9, slots := #[.int (-27)], vm := .none },
  { cls := 9, slots := #[.int (-26)], vm := .none },
  { cls := 9, slots := #[.int (-25)], vm := .none },
  { cls := 9, slots := #[.int (-24)], vm := .none },
  { cls := 9, slots := #[.int (-23)], vm := .none },
  { cls := 9, slots := #[.int (-22)], vm := .none },
  { cls := 9, slots := #[.int (-21)], vm := .none },
  { cls := 9, slots := #[.int (-20)], vm := .none },
  { cls := 9, slots := #[.int (-19)], vm := .none },
  { cls := 9, slots := #[.int (-18)], vm := .none },
  { cls := 9, slots := #[.int (-17)], vm := .none },
  { cls := 9, slots := #[.int (-16)], vm := .none },
  { cls := 9, slots := #[.int (-15)], vm := .none },
  { cls := 9, slots := #[.int (-14)], vm := .none },
  { cls := 9, slots := #[.int (-13)], vm := .none },
  { cls := 9, slots := #[.int (-12)], vm := .none },
  { cls := 9, slots := #[.int (-11)], vm := .none },
  { cls := 9, slots := #[.int (-10)], vm := .none },
  { cls := 9, slots := #[.int (-9)], vm := .none },
  { cls := 9, slots := #[.int (-8)], vm := .none },
  { cls := 9, slots := #[.int (-7)], vm := .none },
  { cls := 9, slots := #[.int (-6)], vm := .none },
  { cls := 9, slots := #[.int (-5)], vm := .none },
  { cls := 9, slots := #[.int (-4)], vm := .none },
  { cls := 9, slots := #[.int (-3)], vm := .none },
  { cls := 9, slots := #[.int (-2)], vm := .none },
  { cls := 9, slots := #[.int (-1)], vm := .none },
  { cls := 9, slots := #[.int (0)], vm := .none },
  { cls := 9, slots := #[.int (1)], vm := .none },
  { cls := 9, slots := #[.int (2)], vm := .none },
  { cls := 9, slots := #[.int (3)], vm := .none },
  { cls := 9, slots := #[.int (4)], vm := .none },
  { cls := 9, slots := #[.int (5)], vm := .none },
  { cls := 9, slots := #[.int (6)], vm := .none },
  { cls := 9, slots := #[.int (7)], vm := .none },
  { cls := 9, slots := #[.int (8)], vm := .none },
  { cls := 9, slots := #[.int (9)], vm := .none },
  { cls := 9, slots := #[.int (10)], vm := .none },
  { cls := 9, slots := #[.int (11)], vm := .none },
  { cls := 9, slots := #[.int (12)], vm := .none },
  { cls := 9, slots := #[.int (13)], vm := .none },
  { cls := 9, slots := #[.int (14)], vm := .none },
  { cls := 9, slots := #[.int (15)], vm := .none },
  { cls := 9, slots := #[.int (16)], vm := .none },
  { cls := 9, slots := #[.int (17)], vm := .none },
  { cls := 9, slots := #[.int (18)], vm := .none },
  { cls := 9, slots := #[.int (19)], vm := .none },
  { cls := 9, slots := #[.int (20)], vm := .none },
  { cls := 9, slots := #[.int (21)], vm := .none },
  { cls := 9, slots := #[.int (22)], vm := .none },
  { cls := 9, slots := #[.int (23)], vm := .none },
  { cls := 9, slots := #[.int (24)], vm := .none },
  { cls := 9, slots := #[.int (25)], vm := .none },
  { cls := 9, slots := #[.int (26)], vm := .none },
  { cls := 9, slots := #[.int (27)], vm := .none },
  { cls := 9, slots := #[.int (28)], vm := .none },
  { cls := 9, slots := #[.int (29)], vm := .none },
  { cls := 9, slots := #[.int (30)], vm := .none },
  { cls := 9, slots := #[.int (31)], vm := .none },
  { cls := 9, slots := #[.int (32)], vm := .none },
  { cls := 9, slots := #[.int (33)], vm := .none },
  { cls := 9, slots := #[.int (34)], vm := .none },
  { cls := 9, slots := #[.int (35)], vm := .none },
  { cls := 9, slots := #[.int (36)], vm := .none },
  { cls := 9, slots := #[.int (37)], vm := .none },
  { cls := 9, slots := #[.int (38)], vm := .none },
  { cls := 9, slots := #[.int (39)], vm := .none },
  { cls := 9, slots := #[.int (40)], vm := .none },
  { cls := 9, slots := #[.int (41)], vm := .none },
  { cls := 9, slots := #[.int (42)], vm := .none },
  { cls := 9, slots := #[.int (43)], vm := .none },
  { cls := 9, slots := #[.int (44)], vm := .none },
  { cls := 9, slots := #[.int (45)], vm := .none },
  { cls := 9, slots := #[.int (46)], vm := .none },
  { cls := 9, slots := #[.int (47)], vm := .none },
  { cls := 9, slots := #[.int (48)], vm := .none },
  { cls := 9, slots := #[.int (49)], vm := .none },
  { cls := 9, slots := #[.int (50)], vm := .none },
  { cls := 9, slots := #[.int (51)], vm := .none },
  { cls := 9, slots := #[.int (52)], vm := .none },
  { cls := 9, slots := #[.int (53)], vm := .none },
  { cls := 9, slots := #[.int (54)], vm := .none },
  { cls := 9, slots := #[.int (55)], vm := .none },
  { cls := 9, slots := #[.int (56)], vm := .none },
  { cls := 9, slots := #[.int (57)], vm := .none },
  { cls := 9, slots := #[.int (58)], vm := .none },
  { cls := 9, slots := #[.int (59)], vm := .none },
  { cls := 9, slots := #[.int (60)], vm := .none },
  { cls := 9, slots := #[.int (61)], vm := .none },
  { cls := 9, slots := #[.int (62)], vm := .none },
  { cls := 9, slots := #[.int (63)], vm := .none },
  { cls := 9, slots := #[.int (64)], vm := .none },
  { cls := 9, slots := #[.int (65)], vm := .none },
  { cls := 9, slots := #[.int (66)], vm := .none },
  { cls := 9, slots := #[.int (67)], vm := .none },
  { cls := 9, slots := #[.int (68)], vm := .none },
  { cls := 9, slots := #[.int (69)], vm := .none },
  { cls := 9, slots := #[.int (70)], vm := .none },
  { cls := 9, slots := #[.int (71)], vm := .none },
  { cls := 9, slots := #[.int (72)], vm := .none },
  { cls := 9, slots := #[.int (73)], vm := .none },
  { cls := 9, slots := #[.int (74)], vm := .none },
  { cls := 9, slots := #[.int (75)], vm := .none },
  { cls := 9, slots := #[.int (76)], vm := .none },
  { cls := 9, slots := #[.int (77)], vm := .none },
  { cls := 9, slots := #[.int (78)], vm := .none },
  { cls := 9, slots := #[.int (79)], vm := .none },
  { cls := 9, slots := #[.int (80)], vm := .none },
  { cls := 9, slots := #[.int (81)], vm := .none },
  { cls := 9, slots := #[.int (82)], vm := .none },
  { cls := 9, slots := #[.int (83)], vm := .none },
  { cls := 9, slots := #[.int (84)], vm := .none },
  { cls := 9, slots := #[.int (85)], vm := .none },
  { cls := 9, slots := #[.int (86)], vm := .none },
  { cls := 9, slots := #[.int (87)], vm := .none },
  { cls := 9, slots := #[.int (88)], vm := .none },
  { cls := 9, slots := #[.int (89)], vm := .none },
  { cls := 9, slots := #[.int (90)], vm := .none },
  { cls := 9, slots := #[.int (91)], vm := .none },
  { cls := 9, slots := #[.int (92)], vm := .none },
  { cls := 9, slots := #[.int (93)], vm := .none },
  { cls := 9, slots := #[.int (94)], vm := .none },
  { cls := 9, slots := #[.int (95)], vm := .none },
  { cls := 9, slots := #[.int (96)], vm := .none },
  { cls := 9, slots := #[.int (97)], vm := .none },
  { cls := 9, slots := #[.int (98)], vm := .none },
  { cls := 9, slots := #[.int (99)], vm := .none },
  { cls := 9, slots := #[.int (100)], vm := .none },
  { cls := 9, slots := #[.int (101)], vm := .none },
  { cls := 9, slots := #[.int (102)], vm := .none },
  { cls := 9, slots := #[.int (103)], vm := .none },
  { cls := 9, slots := #[.int (104)], vm := .none },
  { cls := 9, slots := #[.int (105)], vm := .none },
  { cls := 9, slots := #[.int (106)], vm := .none },
  { cls := 9, slots := #[.int (107)], vm := .none },
  { cls := 9, slots := #[.int (108)], vm := .none },
  { cls := 9, slots := #[.int (109)], vm := .none },
  { cls := 9, slots := #[.int (110)], vm := .none },
  { cls := 9, slots := #[.int (111)], vm := .none },
  { cls := 9, slots := #[.int (112)], vm := .none },
  { cls := 9, slots := #[.int (113)], vm := .none },
  { cls := 9, slots := #[.int (114)], vm := .none },
  { cls := 9, slots := #[.int (115)], vm := .none },
  { cls := 9, slots := #[.int (116)], vm := .none },
  { cls := 9, slots := #[.int (117)], vm := .none },
  { cls := 9, slots := #[.int (118)], vm := .none },
  { cls := 9, slots := #[.int (119)], vm := .none },
  { cls := 9, slots := #[.int (120)], vm := .none },
  { cls := 9, slots := #[.int (121)], vm := .none },
  { cls := 9, slots := #[.int (122)], vm := .none },
  { cls := 9, slots := #[.int (123)], vm := .none },
  { cls := 9, slots := #[.int (124)], vm := .none },
  { cls := 9, slots := #[.int (125)], vm := .none },
  { cls := 9, slots := #[.int (126)], vm := .none },
  { cls := 9, slots := #[.int (127)], vm := .none }]
def classes : Array Class := #[k0, k1, k2, k3, k4, k5, k6, k7, k8, k9, k10, k11, k12, k13, k14, k15, k16]
def interned : List (Array UInt16 × Addr) := []
def slotsUsed : Nat := 517
def theMethod : MethodId := ⟨1, 1⟩
def args0 : Array Value := #[.int 5, .int 6, .int 7, .int 8, .int 9]
def aboutOver (below : List Frame) : State where
  vm := { classes := classes, interned := interned.toArray }
  heap := heap
  slotsUsed := slotsUsed
  threads := #[{ frames := .invoking theMethod args0 :: below }]
def below0 : List Frame := [.native { method := ⟨0, 0⟩, args := #[] }]
def about1 : State := aboutOver below0
def p0 : Program := .bare "" "" ""
def e0 : Env := launch0.env 0 0 0
theorem w_frames : about1.frames = Frame.invoking theMethod args0 :: below0 := rfl
set_option maxRecDepth 65536 in
theorem w_args : argsFit about1.vm theMethod args0 = true := by decide +kernel
set_option maxRecDepth 65536 in
theorem w_heap : heapFits about1 = true := by decide +kernel
set_option maxRecDepth 65536 in
theorem w_runnable : about1.curStatus? = some .runnable := by decide +kernel
set_option maxRecDepth 65536 in
theorem w_alone : about1.alone = true := by decide +kernel
set_option maxRecDepth 65536 in
theorem w_named : about1.methodNamed? x = some theMethod := by decide +kernel
set_option maxRecDepth 65536 in
theorem w_hears : about1.hears theMethod below0 = true := by decide +kernel
set_option maxRecDepth 65536 in
theorem w_ripe : about1.ripe theMethod args0 below0 = true := by decide +kernel
theorem w_running : about1.status = .running := rfl
set_option maxRecDepth 65536 in
theorem w_room : about1.hasRoom e0.platform room_1 = true :=
  launch0.hasRoom_least _ room_1 (by decide +kernel) (by decide +kernel) (by decide +kernel) (by decide +kernel) (by decide +kernel) (by decide +kernel)
theorem allAtoms_all (ts : List Jvm.Cond) (a : Array Jvm.Value) (st : Jvm.State) : (allAtoms ts).before a st = ts.all (fun c => c.before a st) := by
  induction ts with
  | nil => rfl
  | cons c t ih =>
    show (Jvm.Cond.and c (allAtoms t)).before a st = _
    rw [Jvm.Cond.before_and, ih, List.all_cons]
def words1 : List Jvm.Cond := Jvm.Cond.code x code maxLocals ret :: tables_1
/-- a 'code' word, met by the world's own term for the bytes: nothing is compared byte by byte -/
theorem code_word {y : MethodName} {bytes : ByteArray} {mx : Nat} {rt : Option FieldType} {a : Array Value} {s : State} {m : MethodId} {meth : Method} {c : Code} (h1 : s.methodNamed? y = some m) (h2 : s.vm.method? m = some meth) (h3 : meth.code = some c) (h4 : c.code = bytes)
    (h5 : (c.maxLocals == mx && c.exceptionTable.isEmpty && decide (c.maxStack ≤ mostOperands) && decide (meth.sig.returnType = rt) && !meth.locks && decide (parseMethodDescriptor y.desc = some meth.sig)) = true) : (Jvm.Cond.code y bytes mx rt).before a s = true := by
  simp only [Bool.and_eq_true, beq_iff_eq, Bool.not_eq_true', decide_eq_true_eq] at h5
  obtain ⟨⟨⟨⟨⟨g1, g2⟩, g3⟩, g4⟩, g5⟩, g6⟩ := h5
  simp [Cond.before, Cond.holds, Cond.value, h1, h2, h3, h4, g1, g2, g3, g4, g5, g6]
def isCode : Jvm.Cond → Bool
  | .code _ _ _ _ => true
  | _ => false
theorem all_split {L : List Jvm.Cond} {P : Jvm.Cond → Bool} (h1 : L.all (fun c => isCode c || P c) = true) (h2 : ∀ c ∈ L.filter isCode, P c = true) : L.all P = true := by
  refine List.all_eq_true.mpr fun c hc => ?_
  have h := List.all_eq_true.mp h1 c hc
  rcases Bool.eq_false_or_eq_true (isCode c) with hi | hi
  · exact h2 c (List.mem_filter.mpr ⟨hc, hi⟩)
  · simpa [hi] using h
set_option maxRecDepth 65536 in
theorem w_c0 : (Jvm.Cond.code x code maxLocals ret).before args0 about1 = true := code_word (m := ⟨1, 1⟩) (meth := k1m1) (c := k1c1) (by decide +kernel) rfl rfl rfl (by decide +kernel)
set_option maxRecDepth 65536 in
theorem w_c1 : (Jvm.Cond.code ({ cls := "com/example/slipway/slipway/model/Coordinate", name := "<init>", desc := "(II)V" } : Jvm.MethodName) prog_16_method_1_code (3 : Nat) (Option.none : Option Jvm.ClassFile.FieldType)).before args0 about1 = true := code_word (m := ⟨3, 0⟩) (meth := k3m0) (c := k3c0) (by decide +kernel) rfl rfl rfl (by decide +kernel)
set_option maxRecDepth 65536 in
theorem w_c2 : (Jvm.Cond.code ({ cls := "java/lang/Record", name := "<init>", desc := "()V" } : Jvm.MethodName) jdk_30_method_1_code (1 : Nat) (Option.none : Option Jvm.ClassFile.FieldType)).before args0 about1 = true := code_word (m := ⟨2, 0⟩) (meth := k2m0) (c := k2c0) (by decide +kernel) rfl rfl rfl (by decide +kernel)
set_option maxRecDepth 65536 in
theorem w_c3 : (Jvm.Cond.code ({ cls := "java/lang/Object", name := "<init>", desc := "()V" } : Jvm.MethodName) object_method_1_code (1 : Nat) (Option.none : Option Jvm.ClassFile.FieldType)).before args0 about1 = true := code_word (m := ⟨0, 0⟩) (meth := k0m0) (c := k0c0) (by decide +kernel) rfl rfl rfl (by decide +kernel)
set_option maxRecDepth 65536 in
theorem w_c4 : (Jvm.Cond.code ({ cls := "com/example/slipway/slipway/model/Coordinate", name := "equals", desc := "(Ljava/lang/Object;)Z" } : Jvm.MethodName) prog_16_method_4_code (3 : Nat) (Option.some Jvm.ClassFile.FieldType.boolean)).before args0 about1 = true := code_word (m := ⟨3, 1⟩) (meth := k3m1) (c := k3c1) (by decide +kernel) rfl rfl rfl (by decide +kernel)
set_option maxRecDepth 65536 in
theorem w_c5 : (Jvm.Cond.code ({ cls := "java/lang/Integer", name := "valueOf", desc := "(I)Ljava/lang/Integer;" } : Jvm.MethodName) jdk_33_method_22_code (1 : Nat) (Option.some (Jvm.ClassFile.FieldType.object "java/lang/Integer"))).before args0 about1 = true := code_word (m := ⟨9, 0⟩) (meth := k9m0) (c := k9c0) (by decide +kernel) rfl rfl rfl (by decide +kernel)
set_option maxRecDepth 65536 in
theorem w_c6 : (Jvm.Cond.code ({ cls := "java/lang/Integer", name := "<init>", desc := "(I)V" } : Jvm.MethodName) jdk_33_method_23_code (2 : Nat) (Option.none : Option Jvm.ClassFile.FieldType)).before args0 about1 = true := code_word (m := ⟨9, 1⟩) (meth := k9m1) (c := k9c1) (by decide +kernel) rfl rfl rfl (by decide +kernel)
set_option maxRecDepth 65536 in
theorem w_c7 : (Jvm.Cond.code ({ cls := "java/lang/Number", name := "<init>", desc := "()V" } : Jvm.MethodName) jdk_18_method_1_code (1 : Nat) (Option.none : Option Jvm.ClassFile.FieldType)).before args0 about1 = true := code_word (m := ⟨5, 0⟩) (meth := k5m0) (c := k5c0) (by decide +kernel) rfl rfl rfl (by decide +kernel)
def codes1 : List Jvm.Cond := [Jvm.Cond.code x code maxLocals ret, Jvm.Cond.code ({ cls := "com/example/slipway/slipway/model/Coordinate", name := "<init>", desc := "(II)V" } : Jvm.MethodName) prog_16_method_1_code (3 : Nat) (Option.none : Option Jvm.ClassFile.FieldType), Jvm.Cond.code ({ cls := "java/lang/Record", name := "<init>", desc := "()V" } : Jvm.MethodName) jdk_30_method_1_code (1 : Nat) (Option.none : Option Jvm.ClassFile.FieldType), Jvm.Cond.code ({ cls := "java/lang/Object", name := "<init>", desc := "()V" } : Jvm.MethodName) object_method_1_code (1 : Nat) (Option.none : Option Jvm.ClassFile.FieldType), Jvm.Cond.code ({ cls := "com/example/slipway/slipway/model/Coordinate", name := "equals", desc := "(Ljava/lang/Object;)Z" } : Jvm.MethodName) prog_16_method_4_code (3 : Nat) (Option.some Jvm.ClassFile.FieldType.boolean), Jvm.Cond.code ({ cls := "java/lang/Integer", name := "valueOf", desc := "(I)Ljava/lang/Integer;" } : Jvm.MethodName) jdk_33_method_22_code (1 : Nat) (Option.some (Jvm.ClassFile.FieldType.object "java/lang/Integer")), Jvm.Cond.code ({ cls := "java/lang/Integer", name := "<init>", desc := "(I)V" } : Jvm.MethodName) jdk_33_method_23_code (2 : Nat) (Option.none : Option Jvm.ClassFile.FieldType), Jvm.Cond.code ({ cls := "java/lang/Number", name := "<init>", desc := "()V" } : Jvm.MethodName) jdk_18_method_1_code (1 : Nat) (Option.none : Option Jvm.ClassFile.FieldType)]
set_option maxRecDepth 65536 in
theorem codes_eq : words1.filter isCode = codes1 := rfl
theorem w_codes : ∀ c ∈ words1.filter isCode, c.before args0 about1 = true := by
  rw [codes_eq]
  intro c hc
  simp only [codes1, List.mem_cons, List.not_mem_nil, or_false] at hc
  rcases hc with rfl | rfl | rfl | rfl | rfl | rfl | rfl | rfl
  · exact w_c0
  · exact w_c1
  · exact w_c2
  · exact w_c3
  · exact w_c4
  · exact w_c5
  · exact w_c6
  · exact w_c7
set_option maxRecDepth 65536 in
theorem w_t1 : (words1.take 24).all (fun c => isCode c || c.before args0 about1) = true := by decide +kernel
set_option maxRecDepth 65536 in
theorem w_t2 : ((words1.drop 24).take 24).all (fun c => isCode c || c.before args0 about1) = true := by decide +kernel
set_option maxRecDepth 65536 in
theorem w_t3 : ((words1.drop 24).drop 24).all (fun c => isCode c || c.before args0 about1) = true := by decide +kernel
theorem w_tables : (allAtoms (Jvm.Cond.code x code maxLocals ret :: tables_1)).before args0 about1 = true := by
  rw [allAtoms_all]
  show words1.all (fun c => c.before args0 about1) = true
  refine all_split ?_ w_codes
  rw [← List.take_append_drop 24 words1, List.all_append, w_t1, ← List.take_append_drop 24 (words1.drop 24), List.all_append, w_t2, w_t3]
  rfl
set_option maxRecDepth 65536 in
theorem w_rest : rest_1_c.before args0 about1 = true := by decide +kernel
set_option maxRecDepth 65536 in
theorem w_case : (Jvm.Cond.and given_1 narrow_1).before args0 about1 = true := by decide +kernel
theorem w_applies : (headSpec (Jvm.Cond.code x code maxLocals ret :: tables_1) room_1).applies x e0.platform about1 = true :=
  (Spec.applies_iff w_frames).mpr ⟨w_running, w_runnable, w_alone, w_named, w_hears, w_ripe, w_room, w_tables⟩
theorem atStart : AtStart classFile x code maxLocals ret World_1 tables_1 room_1 Calls_1 rest_1 Pre_1 launch0 p0 e0 about1 theMethod args0 below0 :=
  ⟨lists_1, trivial, launch0.admits_env _ _ _, launch0.least_env, fairChoices_fair.cas, fairChoices_fair.clock, w_frames, w_args, w_heap, w_applies, trivial, w_rest, w_case⟩
end start1
theorem witness_1 : WitnessClaimed_1 := ⟨start1.p0, start1.e0, start1.about1, start1.theMethod, start1.args0, start1.below0, start1.atStart⟩
end Jvm.Pilot.@@N@@
