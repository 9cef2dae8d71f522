import JvmDerived
import JvmDerived.Pilot.@@N@@Statement
import JvmDerived.Pilot.@@N@@Code
set_option linter.unusedVariables false
set_option linter.unusedSimpArgs false
namespace Jvm.Pilot.@@N@@
open Jvm Jvm.ClassFile Sem Op Lib Jvm.Free Jvm.Stand Jvm.LawKit Jvm.RoadKit Bundle Jvm.Free.Fl Jvm.Pilot.@@N@@.Jvm.D
/-! the run stands at F in T, and comes to an end that P says -/
def own_Go (p : Program) (e : Env) (below : List Frame) (P : Outcome → State → Prop) (T : State) (F : JFrame) : Prop :=
  ∃ s₂ o, Steps p.tables e below (T.setTop F) s₂ ∧ s₂.status = .running ∧ Ended s₂ below o ∧ P o s₂
theorem own_step {p : Program} {e : Env} {below : List Frame} {P : Outcome → State → Prop} {T T' : State} {F F' : JFrame} (st : ∀ t, Steps p.tables e below (T'.setTop F') t → Steps p.tables e below (T.setTop F) t) (h : own_Go p e below P T' F') : own_Go p e below P T F := by
  obtain ⟨s₂, o, h1, h2⟩ := h
  exact ⟨s₂, o, st _ h1, h2⟩
theorem own_cast {p : Program} {e : Env} {below : List Frame} {P : Outcome → State → Prop} {T : State} {F F' : JFrame} (q : F = F') (h : own_Go p e below P T F') : own_Go p e below P T F := q ▸ h
theorem own_all {p : Program} {e : Env} {below : List Frame} {Q : Outcome → State → Prop} {T : State} {F : JFrame} (h : ∀ P : Outcome → State → Prop, (∀ o U, Q o U → P o U) → own_Go p e below P T F) : own_Go p e below Q T F := h Q fun _ _ q => q
theorem own_eqi {t : Term} {n : Int32} {args : Array Value} {s : State} (h : (Jvm.Cond.eq t (.int n)).value args s none s [] = some true) : t.eval args s none [] s = some (.int n) := by
  obtain ⟨x, y, h1, h2, k1, k2⟩ := cmp_v (Or.inl h)
  cases (show some (Value.int n) = some y from h2)
  obtain ⟨z, rfl⟩ := k2
  have h3 : (Jvm.Cond.eq t (.int n)).value args s none s [] = some (decide (z = n)) := by simp [Jvm.Cond.value, h1, h2]
  rw [h1, gotT h3 h]
theorem own_static2 {args : Array Value} {s : State} {C n d K : String} (hx : (Jvm.Cond.exactly (Term.static C n d) K).value args s none s [] = some true) (hi : (Jvm.Cond.initializedFor C n d).before args s = true ∨ ((Jvm.Cond.initialized C).before args s = true ∧ (Jvm.Cond.laysStatic C n d).before args s = true)) : ∃ a, (Term.static C n d).eval args s none [] s = some (.ref a) ∧ Sta s s.heap C n d (.ref a) ∧ Exa s s.heap a K := by
  obtain ⟨a, c', cell, k, e1, -⟩ := Cond.exactly_spec (Cond.before_iff.mpr hx)
  exact ⟨a, e1, Sta.start e1 hi, Exa.start e1 hx⟩
theorem own_fld {t : Term} {args : Array Value} {s : State} {a : Addr} {C n d : String} {k : Int32} (ev : t.eval args s none [] s = some (.ref a)) (h : (Jvm.Cond.eq (Term.field t C n d) (.int k)).value args s none s [] = some true) : Fld s s.heap a C n d (.int k) :=
  Fld.start ((fld_at ev).symm.trans (own_eqi h))
theorem own_sta_keep {Z : State} {h h' : Heap} {ws : List Addr} {C n d : String} {v : Value} (F : Sta Z h C n d v) (K : Keep h h' ws) (q : ∀ x ∈ ws, ∀ cell : Cell, h[x]? = some cell → cell.vm.isStatics = false) : Sta Z h' C n d v := by
  obtain ⟨cf, i, k, f, st, cell, h1, h2, h3, h4, h5, h6, h7⟩ := F
  refine ⟨cf, i, k, f, st, cell, h1, h2, h3, h4, K.2.1 st cell h5 (fun hm => ?_), h6, h7⟩
  have := q st hm cell h5
  rw [h6] at this; cases this
theorem own_ldc {p : Program} {l : Launch} {e : Env} {R : Room} {s : State} {vm0 : Vm} {m : MethodId} {args : Array Value} {below : List Frame} {meth : Method} {c : Code} {T : State} {locs : List Loc} {cells slots : Nat} {Z : State} {a0 : Array Value} {h : Heap}
    (X : Stand p l e R (s.setVm vm0) m args below meth c T locs cells slots) (hx : p.tables.exec = Jvm.exec) (hZ : Z.Warmed39 vm0) {own text : String} {index : Nat} (hown : vm0.findClass own = some m.cls) (w : (Jvm.Cond.stringLink own index text).before a0 Z = true) (wS : ∀ a ∈ Bundle.stringAtoms, a.before a0 Z = true)
    (eT : T.heap = h) {k0 : Nat} (hS : s.Since vm0 k0) (hk : k0 ≤ h.size) {g : JFrame} (hg : g.method = m) (hd : decode c.code g.pc = .ok (.ldc index, 2)) {n : Nat} (hn : 4 * text.toList.length ≤ n) (hbig : n ≤ 536870912) (hc : cells + 2 ≤ R.cells) (hl : slots + (n + 4) ≤ R.slots) :
    ∃ (a : Addr) (T' : State) (h' : Heap) (k1 : Nat), Stand p l e R (s.setVm T'.vm) m args below meth c T' locs (cells + 2) (slots + (n + 4)) ∧ T'.heap = h' ∧ Ext h h' ∧ s.Since T'.vm k1 ∧ k1 ≤ h'.size ∧ Z.Warmed39 (s.setVm T'.vm).vm ∧ (s.setVm T'.vm).vm.findClass own = some m.cls ∧
      ∀ target, Steps p.tables e below (T'.setTop { g with pc := g.pc + 2, stack := .ref a :: g.stack }) target → Steps p.tables e below (T.setTop g) target := by
  obtain ⟨a, T', X', hS', -, hb, -, st⟩ := X.ldcStringCold hx (own := own) hown (mvS hZ w) (fun d hd => by
    have q := wS d hd
    simp only [Bundle.stringAtoms, List.mem_cons, List.not_mem_nil, or_false] at hd
    rcases hd with rfl | rfl | rfl | rfl | rfl | rfl | rfl
    · exact mv (s := s.setVm vm0) hZ q
    · exact mv (s := s.setVm vm0) hZ q
    · exact mvA (s := s.setVm vm0) hZ q
    all_goals exact mv (s := s.setVm vm0) hZ q) hg hd hn hbig hc hl
  subst eT
  have E := ext_of hb
  exact ⟨a, T', _, _, X', rfl, E, hS.trans hS' (Nat.le_trans hk E.1), Nat.le_refl _, State.Warmed39.trans (t := s.setVm vm0) hZ hS'.1, by rw [show (s.setVm T'.vm).vm = T'.vm from rfl, hS'.1.alike.findClass]; exact hown, st⟩
theorem own_wS {a0 : Array Value} {Z : State} (hw : ∀ d ∈ tables_1, d.before a0 Z = true) : ∀ a ∈ Bundle.stringAtoms, a.before a0 Z = true := fun d hd => by
  simp only [Bundle.stringAtoms, List.mem_cons, List.not_mem_nil, or_false] at hd
  rcases hd with rfl | rfl | rfl | rfl | rfl | rfl | rfl
  all_goals first | exact (hw _ (List.mem_of_getElem? (i := 8) rfl)) | exact (hw _ (List.mem_of_getElem? (i := 9) rfl)) | exact (hw _ (List.mem_of_getElem? (i := 10) rfl)) | exact (hw _ (List.mem_of_getElem? (i := 11) rfl)) | exact (hw _ (List.mem_of_getElem? (i := 12) rfl)) | exact (hw _ (List.mem_of_getElem? (i := 13) rfl)) | exact (hw _ (List.mem_of_getElem? (i := 14) rfl))
theorem own_isfin {x : UInt64} (h : Fin64 x) : ¬ (0 : Int32) < cmpValue (FP.dcmp (x &&& 0x7fffffffffffffff) (9218868437227405311 : UInt64)) .g := by
  intro hc
  have h1 := (fin64_iff x).mp h
  have e1 := FP.Core.mask_toNat x
  have n1 : FP.Core.val64 (x &&& 0x7fffffffffffffff) ≠ .nan := by rw [FP.Core.ne_nan, e1]; omega
  have n2 : FP.Core.val64 (9218868437227405311 : UInt64) ≠ .nan := by decide +kernel
  rw [cmpV_g] at hc
  rcases (FP.Core.cmpInt_g_gt _).mp hc with q | q
  · have k := (FP.Core.dcmp_gt_key n1 n2).mp q
    have e2 : FP.Core.dkey (9218868437227405311 : UInt64) = 9218868437227405311 := by decide +kernel
    rw [e2] at k
    unfold FP.Core.dkey at k
    rw [e1] at k
    split at k <;> omega
  · rcases (FP.Core.dcmp_none _ _).mp q with r | r
    · exact n1 r
    · exact n2 r
theorem own_nm {x : UInt64} (h : Fin64 x) : NoNaN64 (x &&& 0x7fffffffffffffff) := (abs_fin h).noNaN

theorem ef_2 (m : MethodId) (x0 : Addr) : entryFrame m #[(.ref x0)] 1 = mkF m 0 #[.val (.ref x0)] [] := by first | (simp [entryFrame, mkF, argsToLocals, Value.category]; done) | rfl
theorem pn_java_lang_Record : plainName "java/lang/Record" = true := by first | (simp [plainName, overriddenIn]; done) | decide +kernel
theorem d2_0 : decode jdk_30_method_1_code 0 = .ok (.aload_n 0, 1) := by decide +kernel
theorem d2_1 : decode jdk_30_method_1_code 1 = .ok (.invokespecial 1, 3) := by decide +kernel
theorem d2_4 : decode jdk_30_method_1_code 4 = .ok (.return_, 1) := by decide +kernel
def Q2 (Z : State) (ob : Addr) (h0 : Heap) (n0 : Nat) (v : Option Value) (h : Heap) (L : List Loc) : Prop := v = none ∧ Fr n0 L ∧ h = h0
set_option maxRecDepth 65536 in
set_option maxHeartbeats 40000000 in
theorem rm2 (l : Launch) (Z : State) (a0 : Array Value) (hw : ∀ d ∈ tables_1, d.before a0 Z = true) (ws : List Jvm.Cond) (ob : Addr) (h0 : Heap) (n0 : Nat) (Z0 : n0 ≤ h0.size) :
    MetFree l (⟨"java/lang/Record", "<init>", "()V"⟩ : MethodName) (head1 (Jvm.Cond.code (⟨"java/lang/Record", "<init>", "()V"⟩ : MethodName) jdk_30_method_1_code 1 none :: ws) ({ frames := 1, cells := 0, slots := 0, locals := 12 } : Room)) (fun a U => a = #[(.ref ob)] ∧ Z.Warmed39 U.vm ∧ U.heap = h0) (fun _ _ _ _ _ => True) (fun _ U o U' => ∃ v L, o = .returned v ∧ Q2 Z ob h0 n0 v U'.heap L ∧ FrameEnd U o U' L ({ frames := 1, cells := 0, slots := 0, locals := 12 } : Room).cells ({ frames := 1, cells := 0, slots := 0, locals := 12 } : Room).slots) := by
  refine MetFree.of_bodySF (plainFor_of_name pn_java_lang_Record) hisR ?_
  intro p e s m args below meth c s₁ Bd hml0 hP hK
  obtain ⟨rfl, hZ, hh⟩ := hP
  have hx := Bd.exec
  have hby := Bd.bytes
  have hml : c.maxLocals = 1 := hml0
  have hown : s.vm.findClass "java/lang/Record" = some m.cls := findClass_of_methodNamed Bd.named
  have hnm := (name_of_methodNamed Bd.named Bd.method).1
  have X0 : Stand p l e ({ frames := 1, cells := 0, slots := 0, locals := 12 } : Room) s m #[(.ref ob)] below meth c s₁ [] 0 0 := Stand.of_body Bd
  have e0 : s₁.heap = h0 := by rw [← hh, Bd.state]; rfl
  have N0 := Fr.nil n0
  refine own_all ?_
  intro P hfin
  refine own_cast (ef_2 m ob) ?_
  show own_Go p e below P s₁ (mkF m 0 #[.val (.ref ob)] [])
  refine own_step (fun _ k => XS.aloadN X0.here hx rfl (hb hby d2_0) rfl rfl k) ?_
  show own_Go p e below P s₁ (mkF m 1 #[.val (.ref ob)] [(.ref ob)])
  obtain ⟨T1, X1, e1, st1⟩ := initO X0 hx hZ hown (hw _ (List.mem_of_getElem? (i := 24) rfl)) (hw _ (List.mem_of_getElem? (i := 25) rfl)) (hw _ (List.mem_of_getElem? (i := 26) rfl)) e0 (g := (mkF m 1 #[.val (.ref ob)] [(.ref ob)])) rfl (by rw [hml]; rfl) rfl (hb hby d2_1) (by decide) (W := 0) (by show 2 * 0 + _ ≤ _; exact Nat.le_of_eq rfl) (by decide)
  refine own_step st1 ?_
  show own_Go p e below P T1 (mkF m 4 #[.val (.ref ob)] [])
  obtain ⟨fs, hr, hrun, hended, hW, hsame⟩ := X1.leave (v := none) (fun _ => rfl)
  refine ⟨_, _, X1.returnOut hx Bd.returns (hb hby d2_4) hr, hrun, hended, hfin _ _ ⟨_, _, rfl, ?_, ⟨_, rfl⟩, hW, hsame.mono (by decide) (by decide)⟩⟩
  show Q2 Z ob h0 n0 none T1.heap _
  rw [e1]
  exact ⟨rfl, N0, rfl⟩
theorem own_nz {t : Term} {args : Array Value} {s : State} {cc k : Int32} (e : t.eval args s none [] s = some (.int cc)) (h : (Jvm.Cond.eq t (.int k)).value args s none s [] = some (!true)) : ¬ (cc = k) := by
  have h3 : (Jvm.Cond.eq t (.int k)).value args s none s [] = some (decide (cc = k)) := by simp [Jvm.Cond.value, e, show (Term.int k).eval args s none [] s = some (.int k) from rfl]
  exact gotF h3 h
/-- a char that is no blank by its code -/
def own_ch (ch : Int32) : Prop := (ch &&& (255 : Int32)).toUInt32.toUInt16.toUInt32.toInt32 = ch ∧ ch.toUInt32.toUInt16.toUInt32.toInt32 = ch ∧ ¬ (ch = (32 : Int32)) ∧ ¬ (ch = (9 : Int32))
theorem ef_12 (m : MethodId) (x0 : Addr) : entryFrame m #[(.ref x0)] 1 = mkF m 0 #[.val (.ref x0)] [] := by first | (simp [entryFrame, mkF, argsToLocals, Value.category]; done) | rfl
theorem pn_java_lang_String : plainName "java/lang/String" = true := by first | (simp [plainName, overriddenIn]; done) | decide +kernel
theorem d12_0 : decode jdk_42_method_152_code 0 = .ok (.getstatic 38, 3) := by decide +kernel
theorem d12_3 : decode jdk_42_method_152_code 3 = .ok (.ifCond .eq 10, 3) := by decide +kernel
theorem d12_6 : decode jdk_42_method_152_code 6 = .ok (.aload_n 0, 1) := by decide +kernel
theorem d12_7 : decode jdk_42_method_152_code 7 = .ok (.getfield 15, 3) := by decide +kernel
theorem d12_10 : decode jdk_42_method_152_code 10 = .ok (.goto 4, 3) := by decide +kernel
theorem d12_14 : decode jdk_42_method_152_code 14 = .ok (.ireturn, 1) := by decide +kernel
def Q12 (Z : State) (sa : Addr) (sv : Addr) (kb : ClassId) (ch : Int32) (cc : Int32) (ci : Addr) (ta : Addr) (tc : Cell) (pv : Int32) (h0 : Heap) (n0 : Nat) (v : Option Value) (h : Heap) (L : List Loc) : Prop := v = some (.int (0 : Int32)) ∧ Fr n0 L ∧ h = h0
set_option maxRecDepth 65536 in
set_option maxHeartbeats 40000000 in
theorem rm12 (l : Launch) (Z : State) (a0 : Array Value) (hw : ∀ d ∈ tables_1, d.before a0 Z = true) (ws : List Jvm.Cond) (sa : Addr) (sv : Addr) (kb : ClassId) (ch : Int32) (cc : Int32) (ci : Addr) (ta : Addr) (tc : Cell) (pv : Int32) (h0 : Heap) (n0 : Nat) (Z0 : n0 ≤ h0.size) (F_coder_sa : Fld Z h0 sa "java/lang/String" "coder" "B" (.int (0 : Int32))) (F_value_sa : Fld Z h0 sa "java/lang/String" "value" "[B" (.ref sv)) (E_sa : Exa Z h0 sa "java/lang/String") (V_sv : Arv Z h0 sv kb .byte (1 : Int32) [(.int ch)] (.int (0 : Int32))) (S_cs : Sta Z h0 "java/lang/String" "COMPACT_STRINGS" "Z" (.int cc)) (hcc : ¬ (cc = (0 : Int32))) (S_ci : Sta Z h0 "java/lang/CharacterDataLatin1" "instance" "Ljava/lang/CharacterDataLatin1;" (.ref ci)) (E_ci : Exa Z h0 ci "java/lang/CharacterDataLatin1") (S_ta : Sta Z h0 "java/lang/CharacterDataLatin1" "A" "[I" (.ref ta)) (A_ta : Arr Z h0 ta tc .int) (hti : ¬ (ch < 0 ∨ tc.slots.size ≤ (ch).toNatClampNeg)) (htv : tc.slots[(ch).toNatClampNeg]? = some (.int pv)) (hpw : ¬ ((pv &&& (28672 : Int32)) = (16384 : Int32))) (hch : own_ch ch) :
    MetFree l (⟨"java/lang/String", "coder", "()B"⟩ : MethodName) (head1 (Jvm.Cond.code (⟨"java/lang/String", "coder", "()B"⟩ : MethodName) jdk_42_method_152_code 1 (some .byte) :: ws) ({ frames := 0, cells := 0, slots := 0, locals := 0 } : Room)) (fun a U => a = #[(.ref sa)] ∧ Z.Warmed39 U.vm ∧ U.heap = h0) (fun _ _ _ _ _ => True) (fun _ U o U' => ∃ v L, o = .returned v ∧ Q12 Z sa sv kb ch cc ci ta tc pv h0 n0 v U'.heap L ∧ FrameEnd U o U' L ({ frames := 0, cells := 0, slots := 0, locals := 0 } : Room).cells ({ frames := 0, cells := 0, slots := 0, locals := 0 } : Room).slots) := by
  refine MetFree.of_bodySF (plainFor_of_name pn_java_lang_String) hisR ?_
  intro p e s m args below meth c s₁ Bd hml0 hP hK
  obtain ⟨rfl, hZ, hh⟩ := hP
  have hx := Bd.exec
  have hby := Bd.bytes
  have hml : c.maxLocals = 1 := hml0
  have hown : s.vm.findClass "java/lang/String" = some m.cls := findClass_of_methodNamed Bd.named
  have hnm := (name_of_methodNamed Bd.named Bd.method).1
  have X0 : Stand p l e ({ frames := 0, cells := 0, slots := 0, locals := 0 } : Room) s m #[(.ref sa)] below meth c s₁ [] 0 0 := Stand.of_body Bd
  have e0 : s₁.heap = h0 := by rw [← hh, Bd.state]; rfl
  have N0 := Fr.nil n0
  refine own_all ?_
  intro P hfin
  refine own_cast (ef_12 m sa) ?_
  show own_Go p e below P s₁ (mkF m 0 #[.val (.ref sa)] [])
  obtain ⟨T1, X1, e1, st1⟩ := getS2 X0 hx hZ hown (host := "") (Or.inl (hw _ (List.mem_of_getElem? (i := 42) rfl))) Via.refl e0 S_cs (g := (mkF m 0 #[.val (.ref sa)] [])) rfl (hb hby d12_0)
  refine own_step st1 ?_
  show own_Go p e below P T1 (mkF m 3 #[.val (.ref sa)] [(.int cc)])
  refine own_step (fun _ k => XS.ifNo X1.here hx rfl (hb hby d12_3) rfl ((if0 _ _).trans (feq hcc).1) k) ?_
  show own_Go p e below P T1 (mkF m 6 #[.val (.ref sa)] [])
  refine own_step (fun _ k => XS.aloadN X1.here hx rfl (hb hby d12_6) rfl rfl k) ?_
  show own_Go p e below P T1 (mkF m 7 #[.val (.ref sa)] [(.ref sa)])
  obtain ⟨T2, X2, e2, st2⟩ := getF X1 hx hZ hown (host := "") (Or.inl (hw _ (List.mem_of_getElem? (i := 43) rfl))) Via.refl e1 F_coder_sa (g := (mkF m 7 #[.val (.ref sa)] [(.ref sa)])) rfl rfl (hb hby d12_7)
  refine own_step st2 ?_
  show own_Go p e below P T2 (mkF m 10 #[.val (.ref sa)] [(.int (0 : Int32))])
  refine own_step (fun _ k => XS.goto X2.here hx rfl (pc0 := 10) (pc' := 14) rfl (hb hby d12_10) (by decide) (by decide) k) ?_
  show own_Go p e below P T2 (mkF m 14 #[.val (.ref sa)] [(.int (0 : Int32))])
  obtain ⟨fs, hr, hrun, hended, hW, hsame⟩ := X2.leave (v := some (.int (0 : Int32))) (fun h => by rw [Bd.returns] at h; cases h)
  refine ⟨_, _, retN X2 hx (t := .byte) Bd.returns (by simp) (hb hby d12_14) hr, hrun, hended, hfin _ _ ⟨_, _, rfl, ?_, ⟨_, rfl⟩, hW, hsame.mono (by decide) (by decide)⟩⟩
  show Q12 Z sa sv kb ch cc ci ta tc pv h0 n0 (some (.int (0 : Int32))) T2.heap _
  rw [e2]
  exact ⟨rfl, N0, rfl⟩
theorem ef_11 (m : MethodId) (x0 : Addr) : entryFrame m #[(.ref x0)] 1 = mkF m 0 #[.val (.ref x0)] [] := by first | (simp [entryFrame, mkF, argsToLocals, Value.category]; done) | rfl
theorem d11_0 : decode jdk_42_method_54_code 0 = .ok (.aload_n 0, 1) := by decide +kernel
theorem d11_1 : decode jdk_42_method_54_code 1 = .ok (.getfield 9, 3) := by decide +kernel
theorem d11_4 : decode jdk_42_method_54_code 4 = .ok (.arraylength, 1) := by decide +kernel
theorem d11_5 : decode jdk_42_method_54_code 5 = .ok (.aload_n 0, 1) := by decide +kernel
theorem pd____B : parseMethodDescriptor "()B" = some ⟨[], some .byte⟩ := by decide +kernel
theorem d11_6 : decode jdk_42_method_54_code 6 = .ok (.invokevirtual 335, 3) := by decide +kernel
theorem d11_9 : decode jdk_42_method_54_code 9 = .ok (.ishr, 1) := by decide +kernel
theorem d11_10 : decode jdk_42_method_54_code 10 = .ok (.ireturn, 1) := by decide +kernel
def Q11 (Z : State) (sa : Addr) (sv : Addr) (kb : ClassId) (ch : Int32) (cc : Int32) (ci : Addr) (ta : Addr) (tc : Cell) (pv : Int32) (h0 : Heap) (n0 : Nat) (v : Option Value) (h : Heap) (L : List Loc) : Prop := v = some (.int (1 : Int32)) ∧ Fr n0 L ∧ h = h0
set_option maxRecDepth 65536 in
set_option maxHeartbeats 40000000 in
theorem rm11 (l : Launch) (Z : State) (a0 : Array Value) (hw : ∀ d ∈ tables_1, d.before a0 Z = true) (ws : List Jvm.Cond) (sa : Addr) (sv : Addr) (kb : ClassId) (ch : Int32) (cc : Int32) (ci : Addr) (ta : Addr) (tc : Cell) (pv : Int32) (h0 : Heap) (n0 : Nat) (Z0 : n0 ≤ h0.size) (F_coder_sa : Fld Z h0 sa "java/lang/String" "coder" "B" (.int (0 : Int32))) (F_value_sa : Fld Z h0 sa "java/lang/String" "value" "[B" (.ref sv)) (E_sa : Exa Z h0 sa "java/lang/String") (V_sv : Arv Z h0 sv kb .byte (1 : Int32) [(.int ch)] (.int (0 : Int32))) (S_cs : Sta Z h0 "java/lang/String" "COMPACT_STRINGS" "Z" (.int cc)) (hcc : ¬ (cc = (0 : Int32))) (S_ci : Sta Z h0 "java/lang/CharacterDataLatin1" "instance" "Ljava/lang/CharacterDataLatin1;" (.ref ci)) (E_ci : Exa Z h0 ci "java/lang/CharacterDataLatin1") (S_ta : Sta Z h0 "java/lang/CharacterDataLatin1" "A" "[I" (.ref ta)) (A_ta : Arr Z h0 ta tc .int) (hti : ¬ (ch < 0 ∨ tc.slots.size ≤ (ch).toNatClampNeg)) (htv : tc.slots[(ch).toNatClampNeg]? = some (.int pv)) (hpw : ¬ ((pv &&& (28672 : Int32)) = (16384 : Int32))) (hch : own_ch ch) :
    MetFree l (⟨"java/lang/String", "length", "()I"⟩ : MethodName) (head1 (Jvm.Cond.code (⟨"java/lang/String", "length", "()I"⟩ : MethodName) jdk_42_method_54_code 1 (some .int) :: ws) ({ frames := 1, cells := 0, slots := 0, locals := 13 } : Room)) (fun a U => a = #[(.ref sa)] ∧ Z.Warmed39 U.vm ∧ U.heap = h0) (fun _ _ _ _ _ => True) (fun _ U o U' => ∃ v L, o = .returned v ∧ Q11 Z sa sv kb ch cc ci ta tc pv h0 n0 v U'.heap L ∧ FrameEnd U o U' L ({ frames := 1, cells := 0, slots := 0, locals := 13 } : Room).cells ({ frames := 1, cells := 0, slots := 0, locals := 13 } : Room).slots) := by
  refine MetFree.of_bodySF (plainFor_of_name pn_java_lang_String) hisR ?_
  intro p e s m args below meth c s₁ Bd hml0 hP hK
  obtain ⟨rfl, hZ, hh⟩ := hP
  have hx := Bd.exec
  have hby := Bd.bytes
  have hml : c.maxLocals = 1 := hml0
  have hown : s.vm.findClass "java/lang/String" = some m.cls := findClass_of_methodNamed Bd.named
  have hnm := (name_of_methodNamed Bd.named Bd.method).1
  have X0 : Stand p l e ({ frames := 1, cells := 0, slots := 0, locals := 13 } : Room) s m #[(.ref sa)] below meth c s₁ [] 0 0 := Stand.of_body Bd
  have e0 : s₁.heap = h0 := by rw [← hh, Bd.state]; rfl
  have N0 := Fr.nil n0
  refine own_all ?_
  intro P hfin
  refine own_cast (ef_11 m sa) ?_
  show own_Go p e below P s₁ (mkF m 0 #[.val (.ref sa)] [])
  refine own_step (fun _ k => XS.aloadN X0.here hx rfl (hb hby d11_0) rfl rfl k) ?_
  show own_Go p e below P s₁ (mkF m 1 #[.val (.ref sa)] [(.ref sa)])
  obtain ⟨T1, X1, e1, st1⟩ := getF X0 hx hZ hown (host := "") (Or.inl (hw _ (List.mem_of_getElem? (i := 44) rfl))) Via.refl e0 F_value_sa (g := (mkF m 1 #[.val (.ref sa)] [(.ref sa)])) rfl rfl (hb hby d11_1)
  refine own_step st1 ?_
  show own_Go p e below P T1 (mkF m 4 #[.val (.ref sa)] [(.ref sv)])
  obtain ⟨cl2, Ar2, -, S2, M2, -, -⟩ := (id V_sv)
  refine own_step (fun t k => X1.arraylength hx (by rw [e1]; exact Ar2.1) (State.isArrayOf_alike hZ.alike Ar2.2.1) (g := (mkF m 4 #[.val (.ref sa)] [(.ref sv)])) rfl rfl (hb hby d11_4) t k) ?_
  rw [len_of S2 M2]
  show own_Go p e below P T1 (mkF m 5 #[.val (.ref sa)] [(.int (1 : Int32))])
  refine own_step (fun _ k => XS.aloadN X1.here hx rfl (hb hby d11_5) rfl rfl k) ?_
  show own_Go p e below P T1 (mkF m 6 #[.val (.ref sa)] [(.ref sa), (.int (1 : Int32))])
  obtain ⟨cq3, kq3, q3a, q3b, q3c⟩ := isOf hZ e1 E_sa
  obtain ⟨_, _, ⟨T3, L3, k3, n3⟩, -, X3, ⟨Lc3, hQ3, l3, y3, z3⟩, st3⟩ := X1.virtualBack hx (y := (⟨"java/lang/String", "coder", "()B"⟩ : MethodName)) (z := (⟨"java/lang/String", "coder", "()B"⟩ : MethodName)) hown (mvT hZ (hw _ (List.mem_of_getElem? (i := 70) rfl))) (mvT hZ (hw _ (List.mem_of_getElem? (i := 71) rfl))) (notFace_of_selects (args := #[]) (mvT hZ (hw _ (List.mem_of_getElem? (i := 73) rfl)))) (mvT hZ (hw _ (List.mem_of_getElem? (i := 73) rfl))) (mvT hZ (hw _ (List.mem_of_getElem? (i := 72) rfl))) (by decide) (backOf (W := 1) (rm12 l Z a0 hw [] sa sv kb ch cc ci ta tc pv h0 n0 Z0 F_coder_sa F_value_sa E_sa V_sv S_cs hcc S_ci E_ci S_ta A_ta hti htv hpw hch) hZ (hw _ (List.mem_of_getElem? (i := 74) rfl)) (hw _ (List.mem_of_getElem? (i := 8) rfl)) (by decide) (by decide)) q3a q3c (g := (mkF m 6 #[.val (.ref sa)] [(.ref sa), (.int (1 : Int32))])) rfl (by rw [hml]; rfl) (Steps.refl _) (argsL := []) (rest := [(.int (1 : Int32))]) (lenOf pd____B rfl) rfl (by show 2 * 0 + _ ≤ _; exact Nat.le_of_eq rfl) (hb hby d11_6) (fun _ _ => ⟨rfl, e1, (by decide : 0 + 0 ≤ _), (by decide : 0 + 0 ≤ _)⟩)
  dsimp only [Pt.U, Pt.locs, Pt.cells, Pt.slots] at X3 l3 y3 z3 st3 hQ3
  subst l3 y3 z3
  obtain ⟨rfl, N3q, e3⟩ := hQ3
  have N3 := Fr.app N0 N3q
  refine own_step (fun _ k => st3.trans k) ?_
  show own_Go p e below P T3 (mkF m 9 #[.val (.ref sa)] [(.int (0 : Int32)), (.int (1 : Int32))])
  refine own_step (fun _ k => XS.ishr X3.here hx rfl (hb hby d11_9) rfl k) ?_
  show own_Go p e below P T3 (mkF m 10 #[.val (.ref sa)] [(.int (1 : Int32))])
  obtain ⟨fs, hr, hrun, hended, hW, hsame⟩ := X3.leave (v := some (.int (1 : Int32))) (fun h => by rw [Bd.returns] at h; cases h)
  refine ⟨_, _, retOut X3 hx (t := .int) Bd.returns rfl (Or.inl ⟨rfl, Or.inl rfl, _, rfl⟩) (hb hby d11_10) hr, hrun, hended, hfin _ _ ⟨_, _, rfl, ?_, ⟨_, rfl⟩, hW, hsame.mono (by decide) (by decide)⟩⟩
  show Q11 Z sa sv kb ch cc ci ta tc pv h0 n0 (some (.int (1 : Int32))) T3.heap _
  rw [e3]
  exact ⟨rfl, N3, rfl⟩
theorem ef_6 (m : MethodId) (x0 : Addr) : entryFrame m #[(.ref x0)] 1 = mkF m 0 #[.val (.ref x0)] [] := by first | (simp [entryFrame, mkF, argsToLocals, Value.category]; done) | rfl
theorem d6_0 : decode jdk_42_method_154_code 0 = .ok (.getstatic 38, 3) := by decide +kernel
theorem d6_3 : decode jdk_42_method_154_code 3 = .ok (.ifCond .eq 14, 3) := by decide +kernel
theorem d6_6 : decode jdk_42_method_154_code 6 = .ok (.aload_n 0, 1) := by decide +kernel
theorem d6_7 : decode jdk_42_method_154_code 7 = .ok (.getfield 15, 3) := by decide +kernel
theorem d6_10 : decode jdk_42_method_154_code 10 = .ok (.ifCond .ne 7, 3) := by decide +kernel
theorem d6_13 : decode jdk_42_method_154_code 13 = .ok (.iconst 1, 1) := by decide +kernel
theorem d6_14 : decode jdk_42_method_154_code 14 = .ok (.goto 4, 3) := by decide +kernel
theorem d6_18 : decode jdk_42_method_154_code 18 = .ok (.ireturn, 1) := by decide +kernel
def Q6 (Z : State) (sa : Addr) (sv : Addr) (kb : ClassId) (ch : Int32) (cc : Int32) (ci : Addr) (ta : Addr) (tc : Cell) (pv : Int32) (h0 : Heap) (n0 : Nat) (v : Option Value) (h : Heap) (L : List Loc) : Prop := v = some (.int (1 : Int32)) ∧ Fr n0 L ∧ h = h0
set_option maxRecDepth 65536 in
set_option maxHeartbeats 40000000 in
theorem rm6 (l : Launch) (Z : State) (a0 : Array Value) (hw : ∀ d ∈ tables_1, d.before a0 Z = true) (ws : List Jvm.Cond) (sa : Addr) (sv : Addr) (kb : ClassId) (ch : Int32) (cc : Int32) (ci : Addr) (ta : Addr) (tc : Cell) (pv : Int32) (h0 : Heap) (n0 : Nat) (Z0 : n0 ≤ h0.size) (F_coder_sa : Fld Z h0 sa "java/lang/String" "coder" "B" (.int (0 : Int32))) (F_value_sa : Fld Z h0 sa "java/lang/String" "value" "[B" (.ref sv)) (E_sa : Exa Z h0 sa "java/lang/String") (V_sv : Arv Z h0 sv kb .byte (1 : Int32) [(.int ch)] (.int (0 : Int32))) (S_cs : Sta Z h0 "java/lang/String" "COMPACT_STRINGS" "Z" (.int cc)) (hcc : ¬ (cc = (0 : Int32))) (S_ci : Sta Z h0 "java/lang/CharacterDataLatin1" "instance" "Ljava/lang/CharacterDataLatin1;" (.ref ci)) (E_ci : Exa Z h0 ci "java/lang/CharacterDataLatin1") (S_ta : Sta Z h0 "java/lang/CharacterDataLatin1" "A" "[I" (.ref ta)) (A_ta : Arr Z h0 ta tc .int) (hti : ¬ (ch < 0 ∨ tc.slots.size ≤ (ch).toNatClampNeg)) (htv : tc.slots[(ch).toNatClampNeg]? = some (.int pv)) (hpw : ¬ ((pv &&& (28672 : Int32)) = (16384 : Int32))) (hch : own_ch ch) :
    MetFree l (⟨"java/lang/String", "isLatin1", "()Z"⟩ : MethodName) (head1 (Jvm.Cond.code (⟨"java/lang/String", "isLatin1", "()Z"⟩ : MethodName) jdk_42_method_154_code 1 (some .boolean) :: ws) ({ frames := 0, cells := 0, slots := 0, locals := 0 } : Room)) (fun a U => a = #[(.ref sa)] ∧ Z.Warmed39 U.vm ∧ U.heap = h0) (fun _ _ _ _ _ => True) (fun _ U o U' => ∃ v L, o = .returned v ∧ Q6 Z sa sv kb ch cc ci ta tc pv h0 n0 v U'.heap L ∧ FrameEnd U o U' L ({ frames := 0, cells := 0, slots := 0, locals := 0 } : Room).cells ({ frames := 0, cells := 0, slots := 0, locals := 0 } : Room).slots) := by
  refine MetFree.of_bodySF (plainFor_of_name pn_java_lang_String) hisR ?_
  intro p e s m args below meth c s₁ Bd hml0 hP hK
  obtain ⟨rfl, hZ, hh⟩ := hP
  have hx := Bd.exec
  have hby := Bd.bytes
  have hml : c.maxLocals = 1 := hml0
  have hown : s.vm.findClass "java/lang/String" = some m.cls := findClass_of_methodNamed Bd.named
  have hnm := (name_of_methodNamed Bd.named Bd.method).1
  have X0 : Stand p l e ({ frames := 0, cells := 0, slots := 0, locals := 0 } : Room) s m #[(.ref sa)] below meth c s₁ [] 0 0 := Stand.of_body Bd
  have e0 : s₁.heap = h0 := by rw [← hh, Bd.state]; rfl
  have N0 := Fr.nil n0
  refine own_all ?_
  intro P hfin
  refine own_cast (ef_6 m sa) ?_
  show own_Go p e below P s₁ (mkF m 0 #[.val (.ref sa)] [])
  obtain ⟨T1, X1, e1, st1⟩ := getS2 X0 hx hZ hown (host := "") (Or.inl (hw _ (List.mem_of_getElem? (i := 42) rfl))) Via.refl e0 S_cs (g := (mkF m 0 #[.val (.ref sa)] [])) rfl (hb hby d6_0)
  refine own_step st1 ?_
  show own_Go p e below P T1 (mkF m 3 #[.val (.ref sa)] [(.int cc)])
  refine own_step (fun _ k => XS.ifNo X1.here hx rfl (hb hby d6_3) rfl ((if0 _ _).trans (feq hcc).1) k) ?_
  show own_Go p e below P T1 (mkF m 6 #[.val (.ref sa)] [])
  refine own_step (fun _ k => XS.aloadN X1.here hx rfl (hb hby d6_6) rfl rfl k) ?_
  show own_Go p e below P T1 (mkF m 7 #[.val (.ref sa)] [(.ref sa)])
  obtain ⟨T2, X2, e2, st2⟩ := getF X1 hx hZ hown (host := "") (Or.inl (hw _ (List.mem_of_getElem? (i := 43) rfl))) Via.refl e1 F_coder_sa (g := (mkF m 7 #[.val (.ref sa)] [(.ref sa)])) rfl rfl (hb hby d6_7)
  refine own_step st2 ?_
  show own_Go p e below P T2 (mkF m 10 #[.val (.ref sa)] [(.int (0 : Int32))])
  refine own_step (fun _ k => XS.ifNo X2.here hx rfl (hb hby d6_10) rfl ((if0 _ _).trans (teq (rfl : (0 : Int32) = (0 : Int32))).2) k) ?_
  show own_Go p e below P T2 (mkF m 13 #[.val (.ref sa)] [])
  refine own_step (fun _ k => XS.iconst X2.here hx rfl (hb hby d6_13) k) ?_
  show own_Go p e below P T2 (mkF m 14 #[.val (.ref sa)] [(.int (1 : Int32))])
  refine own_step (fun _ k => XS.goto X2.here hx rfl (pc0 := 14) (pc' := 18) rfl (hb hby d6_14) (by decide) (by decide) k) ?_
  show own_Go p e below P T2 (mkF m 18 #[.val (.ref sa)] [(.int (1 : Int32))])
  obtain ⟨fs, hr, hrun, hended, hW, hsame⟩ := X2.leave (v := some (.int (1 : Int32))) (fun h => by rw [Bd.returns] at h; cases h)
  refine ⟨_, _, retN X2 hx (t := .boolean) Bd.returns (by simp) (hb hby d6_18) hr, hrun, hended, hfin _ _ ⟨_, _, rfl, ?_, ⟨_, rfl⟩, hW, hsame.mono (by decide) (by decide)⟩⟩
  show Q6 Z sa sv kb ch cc ci ta tc pv h0 n0 (some (.int (1 : Int32))) T2.heap _
  rw [e2]
  exact ⟨rfl, N0, rfl⟩
theorem ef_8 (m : MethodId) (x0 : Addr) (x1 : Int32) : entryFrame m #[(.ref x0), (.int x1)] 2 = mkF m 0 #[.val (.ref x0), .val (.int x1)] [] := by first | (simp [entryFrame, mkF, argsToLocals, Value.category]; done) | rfl
theorem pn_java_lang_StringLatin1 : plainName "java/lang/StringLatin1" = true := by first | (simp [plainName, overriddenIn]; done) | decide +kernel
theorem d8_0 : decode jdk_43_method_44_code 0 = .ok (.aload_n 0, 1) := by decide +kernel
theorem d8_1 : decode jdk_43_method_44_code 1 = .ok (.iload_n 1, 1) := by decide +kernel
theorem d8_2 : decode jdk_43_method_44_code 2 = .ok (.baload, 1) := by decide +kernel
theorem d8_3 : decode jdk_43_method_44_code 3 = .ok (.sipush 255, 3) := by decide +kernel
theorem d8_6 : decode jdk_43_method_44_code 6 = .ok (.iand, 1) := by decide +kernel
theorem d8_7 : decode jdk_43_method_44_code 7 = .ok (.i2c, 1) := by decide +kernel
theorem d8_8 : decode jdk_43_method_44_code 8 = .ok (.ireturn, 1) := by decide +kernel
def Q8 (Z : State) (sa : Addr) (sv : Addr) (kb : ClassId) (ch : Int32) (cc : Int32) (ci : Addr) (ta : Addr) (tc : Cell) (pv : Int32) (h0 : Heap) (n0 : Nat) (v : Option Value) (h : Heap) (L : List Loc) : Prop := v = some (.int ch) ∧ Fr n0 L ∧ h = h0
set_option maxRecDepth 65536 in
set_option maxHeartbeats 40000000 in
theorem rm8 (l : Launch) (Z : State) (a0 : Array Value) (hw : ∀ d ∈ tables_1, d.before a0 Z = true) (ws : List Jvm.Cond) (sa : Addr) (sv : Addr) (kb : ClassId) (ch : Int32) (cc : Int32) (ci : Addr) (ta : Addr) (tc : Cell) (pv : Int32) (h0 : Heap) (n0 : Nat) (Z0 : n0 ≤ h0.size) (F_coder_sa : Fld Z h0 sa "java/lang/String" "coder" "B" (.int (0 : Int32))) (F_value_sa : Fld Z h0 sa "java/lang/String" "value" "[B" (.ref sv)) (E_sa : Exa Z h0 sa "java/lang/String") (V_sv : Arv Z h0 sv kb .byte (1 : Int32) [(.int ch)] (.int (0 : Int32))) (S_cs : Sta Z h0 "java/lang/String" "COMPACT_STRINGS" "Z" (.int cc)) (hcc : ¬ (cc = (0 : Int32))) (S_ci : Sta Z h0 "java/lang/CharacterDataLatin1" "instance" "Ljava/lang/CharacterDataLatin1;" (.ref ci)) (E_ci : Exa Z h0 ci "java/lang/CharacterDataLatin1") (S_ta : Sta Z h0 "java/lang/CharacterDataLatin1" "A" "[I" (.ref ta)) (A_ta : Arr Z h0 ta tc .int) (hti : ¬ (ch < 0 ∨ tc.slots.size ≤ (ch).toNatClampNeg)) (htv : tc.slots[(ch).toNatClampNeg]? = some (.int pv)) (hpw : ¬ ((pv &&& (28672 : Int32)) = (16384 : Int32))) (hch : own_ch ch) :
    MetFree l (⟨"java/lang/StringLatin1", "getChar", "([BI)C"⟩ : MethodName) (head1 (Jvm.Cond.code (⟨"java/lang/StringLatin1", "getChar", "([BI)C"⟩ : MethodName) jdk_43_method_44_code 2 (some .char) :: ws) ({ frames := 0, cells := 0, slots := 0, locals := 0 } : Room)) (fun a U => a = #[(.ref sv), (.int (0 : Int32))] ∧ Z.Warmed39 U.vm ∧ U.heap = h0) (fun _ _ _ _ _ => True) (fun _ U o U' => ∃ v L, o = .returned v ∧ Q8 Z sa sv kb ch cc ci ta tc pv h0 n0 v U'.heap L ∧ FrameEnd U o U' L ({ frames := 0, cells := 0, slots := 0, locals := 0 } : Room).cells ({ frames := 0, cells := 0, slots := 0, locals := 0 } : Room).slots) := by
  refine MetFree.of_bodySF (plainFor_of_name pn_java_lang_StringLatin1) hisR ?_
  intro p e s m args below meth c s₁ Bd hml0 hP hK
  obtain ⟨rfl, hZ, hh⟩ := hP
  have hx := Bd.exec
  have hby := Bd.bytes
  have hml : c.maxLocals = 2 := hml0
  have hown : s.vm.findClass "java/lang/StringLatin1" = some m.cls := findClass_of_methodNamed Bd.named
  have hnm := (name_of_methodNamed Bd.named Bd.method).1
  have X0 : Stand p l e ({ frames := 0, cells := 0, slots := 0, locals := 0 } : Room) s m #[(.ref sv), (.int (0 : Int32))] below meth c s₁ [] 0 0 := Stand.of_body Bd
  have e0 : s₁.heap = h0 := by rw [← hh, Bd.state]; rfl
  have N0 := Fr.nil n0
  refine own_all ?_
  intro P hfin
  refine own_cast (ef_8 m sv (0 : Int32)) ?_
  show own_Go p e below P s₁ (mkF m 0 #[.val (.ref sv), .val (.int (0 : Int32))] [])
  refine own_step (fun _ k => XS.aloadN X0.here hx rfl (hb hby d8_0) rfl rfl k) ?_
  show own_Go p e below P s₁ (mkF m 1 #[.val (.ref sv), .val (.int (0 : Int32))] [(.ref sv)])
  refine own_step (fun _ k => XS.iloadN X0.here hx rfl (hb hby d8_1) rfl k) ?_
  show own_Go p e below P s₁ (mkF m 2 #[.val (.ref sv), .val (.int (0 : Int32))] [(.int (0 : Int32)), (.ref sv)])
  obtain ⟨cl1, Ar1, -, S1, M1, H1, -⟩ := (id V_sv)
  have hin1 : ¬ ((0 : Int32) < 0 ∨ cl1.slots.size ≤ ((0 : Int32)).toNatClampNeg) := inb_of S1 ⟨by decide, by decide⟩
  refine own_step (fun t k => X0.baloadBytes hx (j := (0 : Int32)) (v := (.int ch)) (by rw [e0]; exact Ar1.1) (State.isArrayOf_alike hZ.alike Ar1.2.1) Ar1.2.2 hin1 (Has.at H1 hin1 rfl) (g := (mkF m 2 #[.val (.ref sv), .val (.int (0 : Int32))] [(.int (0 : Int32)), (.ref sv)])) rfl rfl (hb hby d8_2) t k) ?_
  show own_Go p e below P s₁ (mkF m 3 #[.val (.ref sv), .val (.int (0 : Int32))] [(.int ch)])
  refine own_step (fun _ k => XS.sipush X0.here hx rfl (hb hby d8_3) k) ?_
  show own_Go p e below P s₁ (mkF m 6 #[.val (.ref sv), .val (.int (0 : Int32))] [(.int (255 : Int32)), (.int ch)])
  refine own_step (fun _ k => XS.iand X0.here hx rfl (hb hby d8_6) rfl k) ?_
  show own_Go p e below P s₁ (mkF m 7 #[.val (.ref sv), .val (.int (0 : Int32))] [(.int (ch &&& (255 : Int32)))])
  refine own_step (fun _ k => XS.i2c X0.here hx rfl (hb hby d8_7) rfl k) ?_
  show own_Go p e below P s₁ (mkF m 8 #[.val (.ref sv), .val (.int (0 : Int32))] [(.int (ch &&& (255 : Int32)).toUInt32.toUInt16.toUInt32.toInt32)])
  rw [hch.1]
  show own_Go p e below P s₁ (mkF m 8 #[.val (.ref sv), .val (.int (0 : Int32))] [(.int ch)])
  obtain ⟨fs, hr, hrun, hended, hW, hsame⟩ := X0.leave (v := some (.int (nar .char ch))) (fun h => by rw [Bd.returns] at h; cases h)
  refine ⟨_, _, retN X0 hx (t := .char) Bd.returns (by simp) (hb hby d8_8) hr, hrun, hended, hfin _ _ ⟨_, _, rfl, ?_, ⟨_, rfl⟩, hW, hsame.mono (by decide) (by decide)⟩⟩
  show Q8 Z sa sv kb ch cc ci ta tc pv h0 n0 (some (.int (nar .char ch))) s₁.heap _
  rw [e0]
  exact ⟨congrArg (fun z => some (Value.int z)) hch.2.1, N0, rfl⟩
theorem ef_10 (m : MethodId) (x0 : Addr) (x1 : Int32) : entryFrame m #[(.ref x0), (.int x1)] 4 = mkF m 0 #[.val (.ref x0), .val (.int x1), .unset, .unset] [] := by first | (simp [entryFrame, mkF, argsToLocals, Value.category]; done) | rfl
theorem pn_java_lang_CharacterDataLatin1 : plainName "java/lang/CharacterDataLatin1" = true := by first | (simp [plainName, overriddenIn]; done) | decide +kernel
theorem d10_0 : decode jdk_116_method_1_code 0 = .ok (.iload_n 1, 1) := by decide +kernel
theorem d10_1 : decode jdk_116_method_1_code 1 = .ok (.i2c, 1) := by decide +kernel
theorem d10_2 : decode jdk_116_method_1_code 2 = .ok (.istore_n 2, 1) := by decide +kernel
theorem d10_3 : decode jdk_116_method_1_code 3 = .ok (.getstatic 1, 3) := by decide +kernel
theorem d10_6 : decode jdk_116_method_1_code 6 = .ok (.iload_n 2, 1) := by decide +kernel
theorem d10_7 : decode jdk_116_method_1_code 7 = .ok (.iaload, 1) := by decide +kernel
theorem d10_8 : decode jdk_116_method_1_code 8 = .ok (.istore_n 3, 1) := by decide +kernel
theorem d10_9 : decode jdk_116_method_1_code 9 = .ok (.iload_n 3, 1) := by decide +kernel
theorem d10_10 : decode jdk_116_method_1_code 10 = .ok (.ireturn, 1) := by decide +kernel
def Q10 (Z : State) (sa : Addr) (sv : Addr) (kb : ClassId) (ch : Int32) (cc : Int32) (ci : Addr) (ta : Addr) (tc : Cell) (pv : Int32) (h0 : Heap) (n0 : Nat) (v : Option Value) (h : Heap) (L : List Loc) : Prop := v = some (.int pv) ∧ Fr n0 L ∧ h = h0
set_option maxRecDepth 65536 in
set_option maxHeartbeats 40000000 in
theorem rm10 (l : Launch) (Z : State) (a0 : Array Value) (hw : ∀ d ∈ tables_1, d.before a0 Z = true) (ws : List Jvm.Cond) (sa : Addr) (sv : Addr) (kb : ClassId) (ch : Int32) (cc : Int32) (ci : Addr) (ta : Addr) (tc : Cell) (pv : Int32) (h0 : Heap) (n0 : Nat) (Z0 : n0 ≤ h0.size) (F_coder_sa : Fld Z h0 sa "java/lang/String" "coder" "B" (.int (0 : Int32))) (F_value_sa : Fld Z h0 sa "java/lang/String" "value" "[B" (.ref sv)) (E_sa : Exa Z h0 sa "java/lang/String") (V_sv : Arv Z h0 sv kb .byte (1 : Int32) [(.int ch)] (.int (0 : Int32))) (S_cs : Sta Z h0 "java/lang/String" "COMPACT_STRINGS" "Z" (.int cc)) (hcc : ¬ (cc = (0 : Int32))) (S_ci : Sta Z h0 "java/lang/CharacterDataLatin1" "instance" "Ljava/lang/CharacterDataLatin1;" (.ref ci)) (E_ci : Exa Z h0 ci "java/lang/CharacterDataLatin1") (S_ta : Sta Z h0 "java/lang/CharacterDataLatin1" "A" "[I" (.ref ta)) (A_ta : Arr Z h0 ta tc .int) (hti : ¬ (ch < 0 ∨ tc.slots.size ≤ (ch).toNatClampNeg)) (htv : tc.slots[(ch).toNatClampNeg]? = some (.int pv)) (hpw : ¬ ((pv &&& (28672 : Int32)) = (16384 : Int32))) (hch : own_ch ch) :
    MetFree l (⟨"java/lang/CharacterDataLatin1", "getProperties", "(I)I"⟩ : MethodName) (head1 (Jvm.Cond.code (⟨"java/lang/CharacterDataLatin1", "getProperties", "(I)I"⟩ : MethodName) jdk_116_method_1_code 4 (some .int) :: ws) ({ frames := 0, cells := 0, slots := 0, locals := 0 } : Room)) (fun a U => a = #[(.ref ci), (.int ch)] ∧ Z.Warmed39 U.vm ∧ U.heap = h0) (fun _ _ _ _ _ => True) (fun _ U o U' => ∃ v L, o = .returned v ∧ Q10 Z sa sv kb ch cc ci ta tc pv h0 n0 v U'.heap L ∧ FrameEnd U o U' L ({ frames := 0, cells := 0, slots := 0, locals := 0 } : Room).cells ({ frames := 0, cells := 0, slots := 0, locals := 0 } : Room).slots) := by
  refine MetFree.of_bodySF (plainFor_of_name pn_java_lang_CharacterDataLatin1) hisR ?_
  intro p e s m args below meth c s₁ Bd hml0 hP hK
  obtain ⟨rfl, hZ, hh⟩ := hP
  have hx := Bd.exec
  have hby := Bd.bytes
  have hml : c.maxLocals = 4 := hml0
  have hown : s.vm.findClass "java/lang/CharacterDataLatin1" = some m.cls := findClass_of_methodNamed Bd.named
  have hnm := (name_of_methodNamed Bd.named Bd.method).1
  have X0 : Stand p l e ({ frames := 0, cells := 0, slots := 0, locals := 0 } : Room) s m #[(.ref ci), (.int ch)] below meth c s₁ [] 0 0 := Stand.of_body Bd
  have e0 : s₁.heap = h0 := by rw [← hh, Bd.state]; rfl
  have N0 := Fr.nil n0
  refine own_all ?_
  intro P hfin
  refine own_cast (ef_10 m ci ch) ?_
  show own_Go p e below P s₁ (mkF m 0 #[.val (.ref ci), .val (.int ch), .unset, .unset] [])
  refine own_step (fun _ k => XS.iloadN X0.here hx rfl (hb hby d10_0) rfl k) ?_
  show own_Go p e below P s₁ (mkF m 1 #[.val (.ref ci), .val (.int ch), .unset, .unset] [(.int ch)])
  refine own_step (fun _ k => XS.i2c X0.here hx rfl (hb hby d10_1) rfl k) ?_
  show own_Go p e below P s₁ (mkF m 2 #[.val (.ref ci), .val (.int ch), .unset, .unset] [(.int ch.toUInt32.toUInt16.toUInt32.toInt32)])
  refine own_step (fun _ k => XS.istoreN X0.here hx rfl (hb hby d10_2) rfl (l' := #[.val (.ref ci), .val (.int ch), .val (.int ch.toUInt32.toUInt16.toUInt32.toInt32), .unset]) rfl k) ?_
  show own_Go p e below P s₁ (mkF m 3 #[.val (.ref ci), .val (.int ch), .val (.int ch.toUInt32.toUInt16.toUInt32.toInt32), .unset] [])
  rw [hch.2.1]
  show own_Go p e below P s₁ (mkF m 3 #[.val (.ref ci), .val (.int ch), .val (.int ch), .unset] [])
  obtain ⟨T1, X1, e1, st1⟩ := getS2 X0 hx hZ hown (host := "") (Or.inl (hw _ (List.mem_of_getElem? (i := 64) rfl))) Via.refl e0 S_ta (g := (mkF m 3 #[.val (.ref ci), .val (.int ch), .val (.int ch), .unset] [])) rfl (hb hby d10_3)
  refine own_step st1 ?_
  show own_Go p e below P T1 (mkF m 6 #[.val (.ref ci), .val (.int ch), .val (.int ch), .unset] [(.ref ta)])
  refine own_step (fun _ k => XS.iloadN X1.here hx rfl (hb hby d10_6) rfl k) ?_
  show own_Go p e below P T1 (mkF m 7 #[.val (.ref ci), .val (.int ch), .val (.int ch), .unset] [(.int ch), (.ref ta)])
  refine own_step (fun t k => X1.iaload hx (j := ch) (v := (.int pv)) (by rw [e1]; exact A_ta.1) (State.isArrayOf_alike hZ.alike A_ta.2.1) A_ta.2.2 hti htv (g := (mkF m 7 #[.val (.ref ci), .val (.int ch), .val (.int ch), .unset] [(.int ch), (.ref ta)])) rfl rfl (hb hby d10_7) t k) ?_
  show own_Go p e below P T1 (mkF m 8 #[.val (.ref ci), .val (.int ch), .val (.int ch), .unset] [(.int pv)])
  refine own_step (fun _ k => XS.istoreN X1.here hx rfl (hb hby d10_8) rfl (l' := #[.val (.ref ci), .val (.int ch), .val (.int ch), .val (.int pv)]) rfl k) ?_
  show own_Go p e below P T1 (mkF m 9 #[.val (.ref ci), .val (.int ch), .val (.int ch), .val (.int pv)] [])
  refine own_step (fun _ k => XS.iloadN X1.here hx rfl (hb hby d10_9) rfl k) ?_
  show own_Go p e below P T1 (mkF m 10 #[.val (.ref ci), .val (.int ch), .val (.int ch), .val (.int pv)] [(.int pv)])
  obtain ⟨fs, hr, hrun, hended, hW, hsame⟩ := X1.leave (v := some (.int pv)) (fun h => by rw [Bd.returns] at h; cases h)
  refine ⟨_, _, retOut X1 hx (t := .int) Bd.returns rfl (Or.inl ⟨rfl, Or.inl rfl, _, rfl⟩) (hb hby d10_10) hr, hrun, hended, hfin _ _ ⟨_, _, rfl, ?_, ⟨_, rfl⟩, hW, hsame.mono (by decide) (by decide)⟩⟩
  show Q10 Z sa sv kb ch cc ci ta tc pv h0 n0 (some (.int pv)) T1.heap _
  rw [e1]
  exact ⟨rfl, N0, rfl⟩
theorem ef_9 (m : MethodId) (x0 : Addr) (x1 : Int32) : entryFrame m #[(.ref x0), (.int x1)] 3 = mkF m 0 #[.val (.ref x0), .val (.int x1), .unset] [] := by first | (simp [entryFrame, mkF, argsToLocals, Value.category]; done) | rfl
theorem d9_0 : decode jdk_116_method_26_code 0 = .ok (.aload_n 0, 1) := by decide +kernel
theorem d9_1 : decode jdk_116_method_26_code 1 = .ok (.iload_n 1, 1) := by decide +kernel
theorem pd__I__I : parseMethodDescriptor "(I)I" = some ⟨[.int], some .int⟩ := by decide +kernel
theorem d9_2 : decode jdk_116_method_26_code 2 = .ok (.invokevirtual 15, 3) := by decide +kernel
theorem d9_5 : decode jdk_116_method_26_code 5 = .ok (.istore_n 2, 1) := by decide +kernel
theorem d9_6 : decode jdk_116_method_26_code 6 = .ok (.iload_n 2, 1) := by decide +kernel
theorem d9_7 : decode jdk_116_method_26_code 7 = .ok (.sipush 28672, 3) := by decide +kernel
theorem d9_10 : decode jdk_116_method_26_code 10 = .ok (.iand, 1) := by decide +kernel
theorem d9_11 : decode jdk_116_method_26_code 11 = .ok (.sipush 16384, 3) := by decide +kernel
theorem d9_14 : decode jdk_116_method_26_code 14 = .ok (.if_icmp .ne 7, 3) := by decide +kernel
theorem d9_21 : decode jdk_116_method_26_code 21 = .ok (.iconst 0, 1) := by decide +kernel
theorem d9_22 : decode jdk_116_method_26_code 22 = .ok (.ireturn, 1) := by decide +kernel
def Q9 (Z : State) (sa : Addr) (sv : Addr) (kb : ClassId) (ch : Int32) (cc : Int32) (ci : Addr) (ta : Addr) (tc : Cell) (pv : Int32) (h0 : Heap) (n0 : Nat) (v : Option Value) (h : Heap) (L : List Loc) : Prop := v = some (.int (0 : Int32)) ∧ Fr n0 L ∧ h = h0
set_option maxRecDepth 65536 in
set_option maxHeartbeats 40000000 in
theorem rm9 (l : Launch) (Z : State) (a0 : Array Value) (hw : ∀ d ∈ tables_1, d.before a0 Z = true) (ws : List Jvm.Cond) (sa : Addr) (sv : Addr) (kb : ClassId) (ch : Int32) (cc : Int32) (ci : Addr) (ta : Addr) (tc : Cell) (pv : Int32) (h0 : Heap) (n0 : Nat) (Z0 : n0 ≤ h0.size) (F_coder_sa : Fld Z h0 sa "java/lang/String" "coder" "B" (.int (0 : Int32))) (F_value_sa : Fld Z h0 sa "java/lang/String" "value" "[B" (.ref sv)) (E_sa : Exa Z h0 sa "java/lang/String") (V_sv : Arv Z h0 sv kb .byte (1 : Int32) [(.int ch)] (.int (0 : Int32))) (S_cs : Sta Z h0 "java/lang/String" "COMPACT_STRINGS" "Z" (.int cc)) (hcc : ¬ (cc = (0 : Int32))) (S_ci : Sta Z h0 "java/lang/CharacterDataLatin1" "instance" "Ljava/lang/CharacterDataLatin1;" (.ref ci)) (E_ci : Exa Z h0 ci "java/lang/CharacterDataLatin1") (S_ta : Sta Z h0 "java/lang/CharacterDataLatin1" "A" "[I" (.ref ta)) (A_ta : Arr Z h0 ta tc .int) (hti : ¬ (ch < 0 ∨ tc.slots.size ≤ (ch).toNatClampNeg)) (htv : tc.slots[(ch).toNatClampNeg]? = some (.int pv)) (hpw : ¬ ((pv &&& (28672 : Int32)) = (16384 : Int32))) (hch : own_ch ch) :
    MetFree l (⟨"java/lang/CharacterDataLatin1", "isWhitespace", "(I)Z"⟩ : MethodName) (head1 (Jvm.Cond.code (⟨"java/lang/CharacterDataLatin1", "isWhitespace", "(I)Z"⟩ : MethodName) jdk_116_method_26_code 3 (some .boolean) :: ws) ({ frames := 1, cells := 0, slots := 0, locals := 15 } : Room)) (fun a U => a = #[(.ref ci), (.int ch)] ∧ Z.Warmed39 U.vm ∧ U.heap = h0) (fun _ _ _ _ _ => True) (fun _ U o U' => ∃ v L, o = .returned v ∧ Q9 Z sa sv kb ch cc ci ta tc pv h0 n0 v U'.heap L ∧ FrameEnd U o U' L ({ frames := 1, cells := 0, slots := 0, locals := 15 } : Room).cells ({ frames := 1, cells := 0, slots := 0, locals := 15 } : Room).slots) := by
  refine MetFree.of_bodySF (plainFor_of_name pn_java_lang_CharacterDataLatin1) hisR ?_
  intro p e s m args below meth c s₁ Bd hml0 hP hK
  obtain ⟨rfl, hZ, hh⟩ := hP
  have hx := Bd.exec
  have hby := Bd.bytes
  have hml : c.maxLocals = 3 := hml0
  have hown : s.vm.findClass "java/lang/CharacterDataLatin1" = some m.cls := findClass_of_methodNamed Bd.named
  have hnm := (name_of_methodNamed Bd.named Bd.method).1
  have X0 : Stand p l e ({ frames := 1, cells := 0, slots := 0, locals := 15 } : Room) s m #[(.ref ci), (.int ch)] below meth c s₁ [] 0 0 := Stand.of_body Bd
  have e0 : s₁.heap = h0 := by rw [← hh, Bd.state]; rfl
  have N0 := Fr.nil n0
  refine own_all ?_
  intro P hfin
  refine own_cast (ef_9 m ci ch) ?_
  show own_Go p e below P s₁ (mkF m 0 #[.val (.ref ci), .val (.int ch), .unset] [])
  refine own_step (fun _ k => XS.aloadN X0.here hx rfl (hb hby d9_0) rfl rfl k) ?_
  show own_Go p e below P s₁ (mkF m 1 #[.val (.ref ci), .val (.int ch), .unset] [(.ref ci)])
  refine own_step (fun _ k => XS.iloadN X0.here hx rfl (hb hby d9_1) rfl k) ?_
  show own_Go p e below P s₁ (mkF m 2 #[.val (.ref ci), .val (.int ch), .unset] [(.int ch), (.ref ci)])
  obtain ⟨cq1, kq1, q1a, q1b, q1c⟩ := isOf hZ e0 E_ci
  obtain ⟨_, _, ⟨T1, L1, k1, n1⟩, -, X1, ⟨Lc1, hQ1, l1, y1, z1⟩, st1⟩ := X0.virtualBack hx (y := (⟨"java/lang/CharacterDataLatin1", "getProperties", "(I)I"⟩ : MethodName)) (z := (⟨"java/lang/CharacterDataLatin1", "getProperties", "(I)I"⟩ : MethodName)) hown (mvT hZ (hw _ (List.mem_of_getElem? (i := 59) rfl))) (mvT hZ (hw _ (List.mem_of_getElem? (i := 60) rfl))) (notFace_of_selects (args := #[]) (mvT hZ (hw _ (List.mem_of_getElem? (i := 62) rfl)))) (mvT hZ (hw _ (List.mem_of_getElem? (i := 62) rfl))) (mvT hZ (hw _ (List.mem_of_getElem? (i := 61) rfl))) (by decide) (backOf (W := 0) (rm10 l Z a0 hw [] sa sv kb ch cc ci ta tc pv h0 n0 Z0 F_coder_sa F_value_sa E_sa V_sv S_cs hcc S_ci E_ci S_ta A_ta hti htv hpw hch) hZ (hw _ (List.mem_of_getElem? (i := 63) rfl)) (hw _ (List.mem_of_getElem? (i := 53) rfl)) (by decide) (by decide)) q1a q1c (g := (mkF m 2 #[.val (.ref ci), .val (.int ch), .unset] [(.int ch), (.ref ci)])) rfl (by rw [hml]; rfl) (Steps.refl _) (argsL := [(.int ch)]) (rest := []) (lenOf pd__I__I rfl) rfl (by show 2 * 0 + _ ≤ _; exact Nat.le_of_eq rfl) (hb hby d9_2) (fun _ _ => ⟨rfl, e0, (by decide : 0 + 0 ≤ _), (by decide : 0 + 0 ≤ _)⟩)
  dsimp only [Pt.U, Pt.locs, Pt.cells, Pt.slots] at X1 l1 y1 z1 st1 hQ1
  subst l1 y1 z1
  obtain ⟨rfl, N1q, e1⟩ := hQ1
  have N1 := Fr.app N0 N1q
  refine own_step (fun _ k => st1.trans k) ?_
  show own_Go p e below P T1 (mkF m 5 #[.val (.ref ci), .val (.int ch), .unset] [(.int pv)])
  refine own_step (fun _ k => XS.istoreN X1.here hx rfl (hb hby d9_5) rfl (l' := #[.val (.ref ci), .val (.int ch), .val (.int pv)]) rfl k) ?_
  show own_Go p e below P T1 (mkF m 6 #[.val (.ref ci), .val (.int ch), .val (.int pv)] [])
  refine own_step (fun _ k => XS.iloadN X1.here hx rfl (hb hby d9_6) rfl k) ?_
  show own_Go p e below P T1 (mkF m 7 #[.val (.ref ci), .val (.int ch), .val (.int pv)] [(.int pv)])
  refine own_step (fun _ k => XS.sipush X1.here hx rfl (hb hby d9_7) k) ?_
  show own_Go p e below P T1 (mkF m 10 #[.val (.ref ci), .val (.int ch), .val (.int pv)] [(.int (28672 : Int32)), (.int pv)])
  refine own_step (fun _ k => XS.iand X1.here hx rfl (hb hby d9_10) rfl k) ?_
  show own_Go p e below P T1 (mkF m 11 #[.val (.ref ci), .val (.int ch), .val (.int pv)] [(.int (pv &&& (28672 : Int32)))])
  refine own_step (fun _ k => XS.sipush X1.here hx rfl (hb hby d9_11) k) ?_
  show own_Go p e below P T1 (mkF m 14 #[.val (.ref ci), .val (.int ch), .val (.int pv)] [(.int (16384 : Int32)), (.int (pv &&& (28672 : Int32)))])
  refine own_step (fun _ k => XS.icmpYes X1.here hx rfl (pc0 := 14) (pc' := 21) rfl (hb hby d9_14) rfl (feq hpw).2 (by decide) (by decide) k) ?_
  show own_Go p e below P T1 (mkF m 21 #[.val (.ref ci), .val (.int ch), .val (.int pv)] [])
  refine own_step (fun _ k => XS.iconst X1.here hx rfl (hb hby d9_21) k) ?_
  show own_Go p e below P T1 (mkF m 22 #[.val (.ref ci), .val (.int ch), .val (.int pv)] [(.int (0 : Int32))])
  obtain ⟨fs, hr, hrun, hended, hW, hsame⟩ := X1.leave (v := some (.int (0 : Int32))) (fun h => by rw [Bd.returns] at h; cases h)
  refine ⟨_, _, retN X1 hx (t := .boolean) Bd.returns (by simp) (hb hby d9_22) hr, hrun, hended, hfin _ _ ⟨_, _, rfl, ?_, ⟨_, rfl⟩, hW, hsame.mono (by decide) (by decide)⟩⟩
  show Q9 Z sa sv kb ch cc ci ta tc pv h0 n0 (some (.int (0 : Int32))) T1.heap _
  rw [e1]
  exact ⟨rfl, N1, rfl⟩
theorem ef_7 (m : MethodId) (x0 : Addr) : entryFrame m #[(.ref x0)] 4 = mkF m 0 #[.val (.ref x0), .unset, .unset, .unset] [] := by first | (simp [entryFrame, mkF, argsToLocals, Value.category]; done) | rfl
theorem d7_0 : decode jdk_43_method_37_code 0 = .ok (.aload_n 0, 1) := by decide +kernel
theorem d7_1 : decode jdk_43_method_37_code 1 = .ok (.arraylength, 1) := by decide +kernel
theorem d7_2 : decode jdk_43_method_37_code 2 = .ok (.istore_n 1, 1) := by decide +kernel
theorem d7_3 : decode jdk_43_method_37_code 3 = .ok (.iconst 0, 1) := by decide +kernel
theorem d7_4 : decode jdk_43_method_37_code 4 = .ok (.istore_n 2, 1) := by decide +kernel
theorem d7_5 : decode jdk_43_method_37_code 5 = .ok (.iload_n 2, 1) := by decide +kernel
theorem d7_6 : decode jdk_43_method_37_code 6 = .ok (.iload_n 1, 1) := by decide +kernel
theorem d7_7 : decode jdk_43_method_37_code 7 = .ok (.if_icmp .ge 40, 3) := by decide +kernel
theorem d7_10 : decode jdk_43_method_37_code 10 = .ok (.aload_n 0, 1) := by decide +kernel
theorem d7_11 : decode jdk_43_method_37_code 11 = .ok (.iload_n 2, 1) := by decide +kernel
theorem pd__ABI__C : parseMethodDescriptor "([BI)C" = some ⟨[(.array .byte), .int], some .char⟩ := by decide +kernel
theorem d7_12 : decode jdk_43_method_37_code 12 = .ok (.invokestatic 50, 3) := by decide +kernel
theorem d7_15 : decode jdk_43_method_37_code 15 = .ok (.istore_n 3, 1) := by decide +kernel
theorem d7_16 : decode jdk_43_method_37_code 16 = .ok (.iload_n 3, 1) := by decide +kernel
theorem d7_17 : decode jdk_43_method_37_code 17 = .ok (.bipush 32, 2) := by decide +kernel
theorem d7_19 : decode jdk_43_method_37_code 19 = .ok (.if_icmp .eq 22, 3) := by decide +kernel
theorem d7_22 : decode jdk_43_method_37_code 22 = .ok (.iload_n 3, 1) := by decide +kernel
theorem d7_23 : decode jdk_43_method_37_code 23 = .ok (.bipush 9, 2) := by decide +kernel
theorem d7_25 : decode jdk_43_method_37_code 25 = .ok (.if_icmp .eq 16, 3) := by decide +kernel
theorem d7_28 : decode jdk_43_method_37_code 28 = .ok (.getstatic 66, 3) := by decide +kernel
theorem d7_31 : decode jdk_43_method_37_code 31 = .ok (.iload_n 3, 1) := by decide +kernel
theorem pd__I__Z : parseMethodDescriptor "(I)Z" = some ⟨[.int], some .boolean⟩ := by decide +kernel
theorem d7_32 : decode jdk_43_method_37_code 32 = .ok (.invokevirtual 211, 3) := by decide +kernel
theorem d7_35 : decode jdk_43_method_37_code 35 = .ok (.ifCond .ne 6, 3) := by decide +kernel
theorem d7_38 : decode jdk_43_method_37_code 38 = .ok (.goto 9, 3) := by decide +kernel
theorem d7_47 : decode jdk_43_method_37_code 47 = .ok (.iload_n 2, 1) := by decide +kernel
theorem d7_48 : decode jdk_43_method_37_code 48 = .ok (.ireturn, 1) := by decide +kernel
def Q7 (Z : State) (sa : Addr) (sv : Addr) (kb : ClassId) (ch : Int32) (cc : Int32) (ci : Addr) (ta : Addr) (tc : Cell) (pv : Int32) (h0 : Heap) (n0 : Nat) (v : Option Value) (h : Heap) (L : List Loc) : Prop := v = some (.int (0 : Int32)) ∧ Fr n0 L ∧ h = h0
set_option maxRecDepth 65536 in
set_option maxHeartbeats 40000000 in
theorem rm7 (l : Launch) (Z : State) (a0 : Array Value) (hw : ∀ d ∈ tables_1, d.before a0 Z = true) (ws : List Jvm.Cond) (sa : Addr) (sv : Addr) (kb : ClassId) (ch : Int32) (cc : Int32) (ci : Addr) (ta : Addr) (tc : Cell) (pv : Int32) (h0 : Heap) (n0 : Nat) (Z0 : n0 ≤ h0.size) (F_coder_sa : Fld Z h0 sa "java/lang/String" "coder" "B" (.int (0 : Int32))) (F_value_sa : Fld Z h0 sa "java/lang/String" "value" "[B" (.ref sv)) (E_sa : Exa Z h0 sa "java/lang/String") (V_sv : Arv Z h0 sv kb .byte (1 : Int32) [(.int ch)] (.int (0 : Int32))) (S_cs : Sta Z h0 "java/lang/String" "COMPACT_STRINGS" "Z" (.int cc)) (hcc : ¬ (cc = (0 : Int32))) (S_ci : Sta Z h0 "java/lang/CharacterDataLatin1" "instance" "Ljava/lang/CharacterDataLatin1;" (.ref ci)) (E_ci : Exa Z h0 ci "java/lang/CharacterDataLatin1") (S_ta : Sta Z h0 "java/lang/CharacterDataLatin1" "A" "[I" (.ref ta)) (A_ta : Arr Z h0 ta tc .int) (hti : ¬ (ch < 0 ∨ tc.slots.size ≤ (ch).toNatClampNeg)) (htv : tc.slots[(ch).toNatClampNeg]? = some (.int pv)) (hpw : ¬ ((pv &&& (28672 : Int32)) = (16384 : Int32))) (hch : own_ch ch) :
    MetFree l (⟨"java/lang/StringLatin1", "indexOfNonWhitespace", "([B)I"⟩ : MethodName) (head1 (Jvm.Cond.code (⟨"java/lang/StringLatin1", "indexOfNonWhitespace", "([B)I"⟩ : MethodName) jdk_43_method_37_code 4 (some .int) :: ws) ({ frames := 2, cells := 0, slots := 0, locals := 29 } : Room)) (fun a U => a = #[(.ref sv)] ∧ Z.Warmed39 U.vm ∧ U.heap = h0) (fun _ _ _ _ _ => True) (fun _ U o U' => ∃ v L, o = .returned v ∧ Q7 Z sa sv kb ch cc ci ta tc pv h0 n0 v U'.heap L ∧ FrameEnd U o U' L ({ frames := 2, cells := 0, slots := 0, locals := 29 } : Room).cells ({ frames := 2, cells := 0, slots := 0, locals := 29 } : Room).slots) := by
  refine MetFree.of_bodySF (plainFor_of_name pn_java_lang_StringLatin1) hisR ?_
  intro p e s m args below meth c s₁ Bd hml0 hP hK
  obtain ⟨rfl, hZ, hh⟩ := hP
  have hx := Bd.exec
  have hby := Bd.bytes
  have hml : c.maxLocals = 4 := hml0
  have hown : s.vm.findClass "java/lang/StringLatin1" = some m.cls := findClass_of_methodNamed Bd.named
  have hnm := (name_of_methodNamed Bd.named Bd.method).1
  have X0 : Stand p l e ({ frames := 2, cells := 0, slots := 0, locals := 29 } : Room) s m #[(.ref sv)] below meth c s₁ [] 0 0 := Stand.of_body Bd
  have e0 : s₁.heap = h0 := by rw [← hh, Bd.state]; rfl
  have N0 := Fr.nil n0
  refine own_all ?_
  intro P hfin
  refine own_cast (ef_7 m sv) ?_
  show own_Go p e below P s₁ (mkF m 0 #[.val (.ref sv), .unset, .unset, .unset] [])
  refine own_step (fun _ k => XS.aloadN X0.here hx rfl (hb hby d7_0) rfl rfl k) ?_
  show own_Go p e below P s₁ (mkF m 1 #[.val (.ref sv), .unset, .unset, .unset] [(.ref sv)])
  obtain ⟨cl1, Ar1, -, S1, M1, -, -⟩ := (id V_sv)
  refine own_step (fun t k => X0.arraylength hx (by rw [e0]; exact Ar1.1) (State.isArrayOf_alike hZ.alike Ar1.2.1) (g := (mkF m 1 #[.val (.ref sv), .unset, .unset, .unset] [(.ref sv)])) rfl rfl (hb hby d7_1) t k) ?_
  rw [len_of S1 M1]
  show own_Go p e below P s₁ (mkF m 2 #[.val (.ref sv), .unset, .unset, .unset] [(.int (1 : Int32))])
  refine own_step (fun _ k => XS.istoreN X0.here hx rfl (hb hby d7_2) rfl (l' := #[.val (.ref sv), .val (.int (1 : Int32)), .unset, .unset]) rfl k) ?_
  show own_Go p e below P s₁ (mkF m 3 #[.val (.ref sv), .val (.int (1 : Int32)), .unset, .unset] [])
  refine own_step (fun _ k => XS.iconst X0.here hx rfl (hb hby d7_3) k) ?_
  show own_Go p e below P s₁ (mkF m 4 #[.val (.ref sv), .val (.int (1 : Int32)), .unset, .unset] [(.int (0 : Int32))])
  refine own_step (fun _ k => XS.istoreN X0.here hx rfl (hb hby d7_4) rfl (l' := #[.val (.ref sv), .val (.int (1 : Int32)), .val (.int (0 : Int32)), .unset]) rfl k) ?_
  show own_Go p e below P s₁ (mkF m 5 #[.val (.ref sv), .val (.int (1 : Int32)), .val (.int (0 : Int32)), .unset] [])
  refine own_step (fun _ k => XS.iloadN X0.here hx rfl (hb hby d7_5) rfl k) ?_
  show own_Go p e below P s₁ (mkF m 6 #[.val (.ref sv), .val (.int (1 : Int32)), .val (.int (0 : Int32)), .unset] [(.int (0 : Int32))])
  refine own_step (fun _ k => XS.iloadN X0.here hx rfl (hb hby d7_6) rfl k) ?_
  show own_Go p e below P s₁ (mkF m 7 #[.val (.ref sv), .val (.int (1 : Int32)), .val (.int (0 : Int32)), .unset] [(.int (1 : Int32)), (.int (0 : Int32))])
  refine own_step (fun _ k => XS.icmpNo X0.here hx rfl (hb hby d7_7) rfl (tlt (by decide : (0 : Int32) < (1 : Int32))).2.1 k) ?_
  show own_Go p e below P s₁ (mkF m 10 #[.val (.ref sv), .val (.int (1 : Int32)), .val (.int (0 : Int32)), .unset] [])
  refine own_step (fun _ k => XS.aloadN X0.here hx rfl (hb hby d7_10) rfl rfl k) ?_
  show own_Go p e below P s₁ (mkF m 11 #[.val (.ref sv), .val (.int (1 : Int32)), .val (.int (0 : Int32)), .unset] [(.ref sv)])
  refine own_step (fun _ k => XS.iloadN X0.here hx rfl (hb hby d7_11) rfl k) ?_
  show own_Go p e below P s₁ (mkF m 12 #[.val (.ref sv), .val (.int (1 : Int32)), .val (.int (0 : Int32)), .unset] [(.int (0 : Int32)), (.ref sv)])
  obtain ⟨_, _, ⟨T2, L2, k2, n2⟩, -, X2, ⟨Lc2, hQ2, l2, y2, z2⟩, st2⟩ := Jvm.LawKit.callS X0 hx (y := (⟨"java/lang/StringLatin1", "getChar", "([BI)C"⟩ : MethodName)) hown (mvT hZ (hw _ (List.mem_of_getElem? (i := 49) rfl))) (mvT hZ (hw _ (List.mem_of_getElem? (i := 50) rfl))) (mvT hZ (hw _ (List.mem_of_getElem? (i := 47) rfl))) (mvT hZ (hw _ (List.mem_of_getElem? (i := 51) rfl))) (by decide) (backOf (W := 0) (rm8 l Z a0 hw [] sa sv kb ch cc ci ta tc pv h0 n0 Z0 F_coder_sa F_value_sa E_sa V_sv S_cs hcc S_ci E_ci S_ta A_ta hti htv hpw hch) hZ (hw _ (List.mem_of_getElem? (i := 51) rfl)) (hw _ (List.mem_of_getElem? (i := 47) rfl)) (by decide) (by decide)) (g := (mkF m 12 #[.val (.ref sv), .val (.int (1 : Int32)), .val (.int (0 : Int32)), .unset] [(.int (0 : Int32)), (.ref sv)])) rfl (by rw [hml]; rfl) (argsL := [(.ref sv), (.int (0 : Int32))]) (rest := []) (lenOf pd__ABI__C rfl) rfl (by show 2 * 0 + _ ≤ _; exact Nat.le_of_eq rfl) (hb hby d7_12) (fun _ _ => ⟨rfl, e0, (by decide : 0 + 0 ≤ _), (by decide : 0 + 0 ≤ _)⟩)
  dsimp only [Pt.U, Pt.locs, Pt.cells, Pt.slots] at X2 l2 y2 z2 st2 hQ2
  subst l2 y2 z2
  obtain ⟨rfl, N2q, e2⟩ := hQ2
  have N2 := Fr.app N0 N2q
  refine own_step st2 ?_
  show own_Go p e below P T2 (mkF m 15 #[.val (.ref sv), .val (.int (1 : Int32)), .val (.int (0 : Int32)), .unset] [(.int ch)])
  refine own_step (fun _ k => XS.istoreN X2.here hx rfl (hb hby d7_15) rfl (l' := #[.val (.ref sv), .val (.int (1 : Int32)), .val (.int (0 : Int32)), .val (.int ch)]) rfl k) ?_
  show own_Go p e below P T2 (mkF m 16 #[.val (.ref sv), .val (.int (1 : Int32)), .val (.int (0 : Int32)), .val (.int ch)] [])
  refine own_step (fun _ k => XS.iloadN X2.here hx rfl (hb hby d7_16) rfl k) ?_
  show own_Go p e below P T2 (mkF m 17 #[.val (.ref sv), .val (.int (1 : Int32)), .val (.int (0 : Int32)), .val (.int ch)] [(.int ch)])
  refine own_step (fun _ k => XS.bipush X2.here hx rfl (hb hby d7_17) k) ?_
  show own_Go p e below P T2 (mkF m 19 #[.val (.ref sv), .val (.int (1 : Int32)), .val (.int (0 : Int32)), .val (.int ch)] [(.int (32 : Int32)), (.int ch)])
  refine own_step (fun _ k => XS.icmpNo X2.here hx rfl (hb hby d7_19) rfl (feq hch.2.2.1).1 k) ?_
  show own_Go p e below P T2 (mkF m 22 #[.val (.ref sv), .val (.int (1 : Int32)), .val (.int (0 : Int32)), .val (.int ch)] [])
  refine own_step (fun _ k => XS.iloadN X2.here hx rfl (hb hby d7_22) rfl k) ?_
  show own_Go p e below P T2 (mkF m 23 #[.val (.ref sv), .val (.int (1 : Int32)), .val (.int (0 : Int32)), .val (.int ch)] [(.int ch)])
  refine own_step (fun _ k => XS.bipush X2.here hx rfl (hb hby d7_23) k) ?_
  show own_Go p e below P T2 (mkF m 25 #[.val (.ref sv), .val (.int (1 : Int32)), .val (.int (0 : Int32)), .val (.int ch)] [(.int (9 : Int32)), (.int ch)])
  refine own_step (fun _ k => XS.icmpNo X2.here hx rfl (hb hby d7_25) rfl (feq hch.2.2.2).1 k) ?_
  show own_Go p e below P T2 (mkF m 28 #[.val (.ref sv), .val (.int (1 : Int32)), .val (.int (0 : Int32)), .val (.int ch)] [])
  obtain ⟨T3, X3, e3, st3⟩ := getS2 X2 hx hZ hown (host := "") (Or.inl (hw _ (List.mem_of_getElem? (i := 52) rfl))) Via.refl e2 S_ci (g := (mkF m 28 #[.val (.ref sv), .val (.int (1 : Int32)), .val (.int (0 : Int32)), .val (.int ch)] [])) rfl (hb hby d7_28)
  refine own_step st3 ?_
  show own_Go p e below P T3 (mkF m 31 #[.val (.ref sv), .val (.int (1 : Int32)), .val (.int (0 : Int32)), .val (.int ch)] [(.ref ci)])
  refine own_step (fun _ k => XS.iloadN X3.here hx rfl (hb hby d7_31) rfl k) ?_
  show own_Go p e below P T3 (mkF m 32 #[.val (.ref sv), .val (.int (1 : Int32)), .val (.int (0 : Int32)), .val (.int ch)] [(.int ch), (.ref ci)])
  obtain ⟨cq4, kq4, q4a, q4b, q4c⟩ := isOf hZ e3 E_ci
  obtain ⟨_, _, ⟨T4, L4, k4, n4⟩, -, X4, ⟨Lc4, hQ4, l4, y4, z4⟩, st4⟩ := X3.virtualBack hx (y := (⟨"java/lang/CharacterDataLatin1", "isWhitespace", "(I)Z"⟩ : MethodName)) (z := (⟨"java/lang/CharacterDataLatin1", "isWhitespace", "(I)Z"⟩ : MethodName)) hown (mvT hZ (hw _ (List.mem_of_getElem? (i := 54) rfl))) (mvT hZ (hw _ (List.mem_of_getElem? (i := 55) rfl))) (notFace_of_selects (args := #[]) (mvT hZ (hw _ (List.mem_of_getElem? (i := 57) rfl)))) (mvT hZ (hw _ (List.mem_of_getElem? (i := 57) rfl))) (mvT hZ (hw _ (List.mem_of_getElem? (i := 56) rfl))) (by decide) (backOf (W := 0) (rm9 l Z a0 hw [] sa sv kb ch cc ci ta tc pv h0 n0 Z0 F_coder_sa F_value_sa E_sa V_sv S_cs hcc S_ci E_ci S_ta A_ta hti htv hpw hch) hZ (hw _ (List.mem_of_getElem? (i := 58) rfl)) (hw _ (List.mem_of_getElem? (i := 53) rfl)) (by decide) (by decide)) q4a q4c (g := (mkF m 32 #[.val (.ref sv), .val (.int (1 : Int32)), .val (.int (0 : Int32)), .val (.int ch)] [(.int ch), (.ref ci)])) rfl (by rw [hml]; rfl) (Steps.refl _) (argsL := [(.int ch)]) (rest := []) (lenOf pd__I__Z rfl) rfl (by show 2 * 0 + _ ≤ _; exact Nat.le_of_eq rfl) (hb hby d7_32) (fun _ _ => ⟨rfl, e3, (by decide : 0 + 0 ≤ _), (by decide : 0 + 0 ≤ _)⟩)
  dsimp only [Pt.U, Pt.locs, Pt.cells, Pt.slots] at X4 l4 y4 z4 st4 hQ4
  subst l4 y4 z4
  obtain ⟨rfl, N4q, e4⟩ := hQ4
  have N4 := Fr.app N2 N4q
  refine own_step (fun _ k => st4.trans k) ?_
  show own_Go p e below P T4 (mkF m 35 #[.val (.ref sv), .val (.int (1 : Int32)), .val (.int (0 : Int32)), .val (.int ch)] [(.int (0 : Int32))])
  refine own_step (fun _ k => XS.ifNo X4.here hx rfl (hb hby d7_35) rfl ((if0 _ _).trans (teq (rfl : (0 : Int32) = (0 : Int32))).2) k) ?_
  show own_Go p e below P T4 (mkF m 38 #[.val (.ref sv), .val (.int (1 : Int32)), .val (.int (0 : Int32)), .val (.int ch)] [])
  refine own_step (fun _ k => XS.goto X4.here hx rfl (pc0 := 38) (pc' := 47) rfl (hb hby d7_38) (by decide) (by decide) k) ?_
  show own_Go p e below P T4 (mkF m 47 #[.val (.ref sv), .val (.int (1 : Int32)), .val (.int (0 : Int32)), .val (.int ch)] [])
  refine own_step (fun _ k => XS.iloadN X4.here hx rfl (hb hby d7_47) rfl k) ?_
  show own_Go p e below P T4 (mkF m 48 #[.val (.ref sv), .val (.int (1 : Int32)), .val (.int (0 : Int32)), .val (.int ch)] [(.int (0 : Int32))])
  obtain ⟨fs, hr, hrun, hended, hW, hsame⟩ := X4.leave (v := some (.int (0 : Int32))) (fun h => by rw [Bd.returns] at h; cases h)
  refine ⟨_, _, retOut X4 hx (t := .int) Bd.returns rfl (Or.inl ⟨rfl, Or.inl rfl, _, rfl⟩) (hb hby d7_48) hr, hrun, hended, hfin _ _ ⟨_, _, rfl, ?_, ⟨_, rfl⟩, hW, hsame.mono (by decide) (by decide)⟩⟩
  show Q7 Z sa sv kb ch cc ci ta tc pv h0 n0 (some (.int (0 : Int32))) T4.heap _
  rw [e4]
  exact ⟨rfl, N4, rfl⟩
theorem ef_5 (m : MethodId) (x0 : Addr) : entryFrame m #[(.ref x0)] 1 = mkF m 0 #[.val (.ref x0)] [] := by first | (simp [entryFrame, mkF, argsToLocals, Value.category]; done) | rfl
theorem d5_0 : decode jdk_42_method_120_code 0 = .ok (.aload_n 0, 1) := by decide +kernel
theorem pd____Z : parseMethodDescriptor "()Z" = some ⟨[], some .boolean⟩ := by decide +kernel
theorem d5_1 : decode jdk_42_method_120_code 1 = .ok (.invokevirtual 492, 3) := by decide +kernel
theorem d5_4 : decode jdk_42_method_120_code 4 = .ok (.ifCond .eq 13, 3) := by decide +kernel
theorem d5_7 : decode jdk_42_method_120_code 7 = .ok (.aload_n 0, 1) := by decide +kernel
theorem d5_8 : decode jdk_42_method_120_code 8 = .ok (.getfield 9, 3) := by decide +kernel
theorem pd__AB__I : parseMethodDescriptor "([B)I" = some ⟨[(.array .byte)], some .int⟩ := by decide +kernel
theorem d5_11 : decode jdk_42_method_120_code 11 = .ok (.invokestatic 924, 3) := by decide +kernel
theorem d5_14 : decode jdk_42_method_120_code 14 = .ok (.goto 10, 3) := by decide +kernel
theorem d5_24 : decode jdk_42_method_120_code 24 = .ok (.ireturn, 1) := by decide +kernel
def Q5 (Z : State) (sa : Addr) (sv : Addr) (kb : ClassId) (ch : Int32) (cc : Int32) (ci : Addr) (ta : Addr) (tc : Cell) (pv : Int32) (h0 : Heap) (n0 : Nat) (v : Option Value) (h : Heap) (L : List Loc) : Prop := v = some (.int (0 : Int32)) ∧ Fr n0 L ∧ h = h0
set_option maxRecDepth 65536 in
set_option maxHeartbeats 40000000 in
theorem rm5 (l : Launch) (Z : State) (a0 : Array Value) (hw : ∀ d ∈ tables_1, d.before a0 Z = true) (ws : List Jvm.Cond) (sa : Addr) (sv : Addr) (kb : ClassId) (ch : Int32) (cc : Int32) (ci : Addr) (ta : Addr) (tc : Cell) (pv : Int32) (h0 : Heap) (n0 : Nat) (Z0 : n0 ≤ h0.size) (F_coder_sa : Fld Z h0 sa "java/lang/String" "coder" "B" (.int (0 : Int32))) (F_value_sa : Fld Z h0 sa "java/lang/String" "value" "[B" (.ref sv)) (E_sa : Exa Z h0 sa "java/lang/String") (V_sv : Arv Z h0 sv kb .byte (1 : Int32) [(.int ch)] (.int (0 : Int32))) (S_cs : Sta Z h0 "java/lang/String" "COMPACT_STRINGS" "Z" (.int cc)) (hcc : ¬ (cc = (0 : Int32))) (S_ci : Sta Z h0 "java/lang/CharacterDataLatin1" "instance" "Ljava/lang/CharacterDataLatin1;" (.ref ci)) (E_ci : Exa Z h0 ci "java/lang/CharacterDataLatin1") (S_ta : Sta Z h0 "java/lang/CharacterDataLatin1" "A" "[I" (.ref ta)) (A_ta : Arr Z h0 ta tc .int) (hti : ¬ (ch < 0 ∨ tc.slots.size ≤ (ch).toNatClampNeg)) (htv : tc.slots[(ch).toNatClampNeg]? = some (.int pv)) (hpw : ¬ ((pv &&& (28672 : Int32)) = (16384 : Int32))) (hch : own_ch ch) :
    MetFree l (⟨"java/lang/String", "indexOfNonWhitespace", "()I"⟩ : MethodName) (head1 (Jvm.Cond.code (⟨"java/lang/String", "indexOfNonWhitespace", "()I"⟩ : MethodName) jdk_42_method_120_code 1 (some .int) :: ws) ({ frames := 3, cells := 0, slots := 0, locals := 44 } : Room)) (fun a U => a = #[(.ref sa)] ∧ Z.Warmed39 U.vm ∧ U.heap = h0) (fun _ _ _ _ _ => True) (fun _ U o U' => ∃ v L, o = .returned v ∧ Q5 Z sa sv kb ch cc ci ta tc pv h0 n0 v U'.heap L ∧ FrameEnd U o U' L ({ frames := 3, cells := 0, slots := 0, locals := 44 } : Room).cells ({ frames := 3, cells := 0, slots := 0, locals := 44 } : Room).slots) := by
  refine MetFree.of_bodySF (plainFor_of_name pn_java_lang_String) hisR ?_
  intro p e s m args below meth c s₁ Bd hml0 hP hK
  obtain ⟨rfl, hZ, hh⟩ := hP
  have hx := Bd.exec
  have hby := Bd.bytes
  have hml : c.maxLocals = 1 := hml0
  have hown : s.vm.findClass "java/lang/String" = some m.cls := findClass_of_methodNamed Bd.named
  have hnm := (name_of_methodNamed Bd.named Bd.method).1
  have X0 : Stand p l e ({ frames := 3, cells := 0, slots := 0, locals := 44 } : Room) s m #[(.ref sa)] below meth c s₁ [] 0 0 := Stand.of_body Bd
  have e0 : s₁.heap = h0 := by rw [← hh, Bd.state]; rfl
  have N0 := Fr.nil n0
  refine own_all ?_
  intro P hfin
  refine own_cast (ef_5 m sa) ?_
  show own_Go p e below P s₁ (mkF m 0 #[.val (.ref sa)] [])
  refine own_step (fun _ k => XS.aloadN X0.here hx rfl (hb hby d5_0) rfl rfl k) ?_
  show own_Go p e below P s₁ (mkF m 1 #[.val (.ref sa)] [(.ref sa)])
  obtain ⟨cq1, kq1, q1a, q1b, q1c⟩ := isOf hZ e0 E_sa
  obtain ⟨_, _, ⟨T1, L1, k1, n1⟩, -, X1, ⟨Lc1, hQ1, l1, y1, z1⟩, st1⟩ := X0.virtualBack hx (y := (⟨"java/lang/String", "isLatin1", "()Z"⟩ : MethodName)) (z := (⟨"java/lang/String", "isLatin1", "()Z"⟩ : MethodName)) hown (mvT hZ (hw _ (List.mem_of_getElem? (i := 37) rfl))) (mvT hZ (hw _ (List.mem_of_getElem? (i := 38) rfl))) (notFace_of_selects (args := #[]) (mvT hZ (hw _ (List.mem_of_getElem? (i := 40) rfl)))) (mvT hZ (hw _ (List.mem_of_getElem? (i := 40) rfl))) (mvT hZ (hw _ (List.mem_of_getElem? (i := 39) rfl))) (by decide) (backOf (W := 0) (rm6 l Z a0 hw [] sa sv kb ch cc ci ta tc pv h0 n0 Z0 F_coder_sa F_value_sa E_sa V_sv S_cs hcc S_ci E_ci S_ta A_ta hti htv hpw hch) hZ (hw _ (List.mem_of_getElem? (i := 41) rfl)) (hw _ (List.mem_of_getElem? (i := 8) rfl)) (by decide) (by decide)) q1a q1c (g := (mkF m 1 #[.val (.ref sa)] [(.ref sa)])) rfl (by rw [hml]; rfl) (Steps.refl _) (argsL := []) (rest := []) (lenOf pd____Z rfl) rfl (by show 2 * 0 + _ ≤ _; exact Nat.le_of_eq rfl) (hb hby d5_1) (fun _ _ => ⟨rfl, e0, (by decide : 0 + 0 ≤ _), (by decide : 0 + 0 ≤ _)⟩)
  dsimp only [Pt.U, Pt.locs, Pt.cells, Pt.slots] at X1 l1 y1 z1 st1 hQ1
  subst l1 y1 z1
  obtain ⟨rfl, N1q, e1⟩ := hQ1
  have N1 := Fr.app N0 N1q
  refine own_step (fun _ k => st1.trans k) ?_
  show own_Go p e below P T1 (mkF m 4 #[.val (.ref sa)] [(.int (1 : Int32))])
  refine own_step (fun _ k => XS.ifNo X1.here hx rfl (hb hby d5_4) rfl ((if0 _ _).trans (feq (by decide : ¬ ((1 : Int32) = (0 : Int32)))).1) k) ?_
  show own_Go p e below P T1 (mkF m 7 #[.val (.ref sa)] [])
  refine own_step (fun _ k => XS.aloadN X1.here hx rfl (hb hby d5_7) rfl rfl k) ?_
  show own_Go p e below P T1 (mkF m 8 #[.val (.ref sa)] [(.ref sa)])
  obtain ⟨T2, X2, e2, st2⟩ := getF X1 hx hZ hown (host := "") (Or.inl (hw _ (List.mem_of_getElem? (i := 44) rfl))) Via.refl e1 F_value_sa (g := (mkF m 8 #[.val (.ref sa)] [(.ref sa)])) rfl rfl (hb hby d5_8)
  refine own_step st2 ?_
  show own_Go p e below P T2 (mkF m 11 #[.val (.ref sa)] [(.ref sv)])
  obtain ⟨_, _, ⟨T3, L3, k3, n3⟩, -, X3, ⟨Lc3, hQ3, l3, y3, z3⟩, st3⟩ := Jvm.LawKit.callS X2 hx (y := (⟨"java/lang/StringLatin1", "indexOfNonWhitespace", "([B)I"⟩ : MethodName)) hown (mvT hZ (hw _ (List.mem_of_getElem? (i := 45) rfl))) (mvT hZ (hw _ (List.mem_of_getElem? (i := 46) rfl))) (mvT hZ (hw _ (List.mem_of_getElem? (i := 47) rfl))) (mvT hZ (hw _ (List.mem_of_getElem? (i := 48) rfl))) (by decide) (backOf (W := 0) (rm7 l Z a0 hw [] sa sv kb ch cc ci ta tc pv h0 n0 Z0 F_coder_sa F_value_sa E_sa V_sv S_cs hcc S_ci E_ci S_ta A_ta hti htv hpw hch) hZ (hw _ (List.mem_of_getElem? (i := 48) rfl)) (hw _ (List.mem_of_getElem? (i := 47) rfl)) (by decide) (by decide)) (g := (mkF m 11 #[.val (.ref sa)] [(.ref sv)])) rfl (by rw [hml]; rfl) (argsL := [(.ref sv)]) (rest := []) (lenOf pd__AB__I rfl) rfl (by show 2 * 0 + _ ≤ _; exact Nat.le_of_eq rfl) (hb hby d5_11) (fun _ _ => ⟨rfl, e2, (by decide : 0 + 0 ≤ _), (by decide : 0 + 0 ≤ _)⟩)
  dsimp only [Pt.U, Pt.locs, Pt.cells, Pt.slots] at X3 l3 y3 z3 st3 hQ3
  subst l3 y3 z3
  obtain ⟨rfl, N3q, e3⟩ := hQ3
  have N3 := Fr.app N1 N3q
  refine own_step st3 ?_
  show own_Go p e below P T3 (mkF m 14 #[.val (.ref sa)] [(.int (0 : Int32))])
  refine own_step (fun _ k => XS.goto X3.here hx rfl (pc0 := 14) (pc' := 24) rfl (hb hby d5_14) (by decide) (by decide) k) ?_
  show own_Go p e below P T3 (mkF m 24 #[.val (.ref sa)] [(.int (0 : Int32))])
  obtain ⟨fs, hr, hrun, hended, hW, hsame⟩ := X3.leave (v := some (.int (0 : Int32))) (fun h => by rw [Bd.returns] at h; cases h)
  refine ⟨_, _, retOut X3 hx (t := .int) Bd.returns rfl (Or.inl ⟨rfl, Or.inl rfl, _, rfl⟩) (hb hby d5_24) hr, hrun, hended, hfin _ _ ⟨_, _, rfl, ?_, ⟨_, rfl⟩, hW, hsame.mono (by decide) (by decide)⟩⟩
  show Q5 Z sa sv kb ch cc ci ta tc pv h0 n0 (some (.int (0 : Int32))) T3.heap _
  rw [e3]
  exact ⟨rfl, N3, rfl⟩
theorem ef_4 (m : MethodId) (x0 : Addr) : entryFrame m #[(.ref x0)] 1 = mkF m 0 #[.val (.ref x0)] [] := by first | (simp [entryFrame, mkF, argsToLocals, Value.category]; done) | rfl
theorem d4_0 : decode jdk_42_method_117_code 0 = .ok (.aload_n 0, 1) := by decide +kernel
theorem pd____I : parseMethodDescriptor "()I" = some ⟨[], some .int⟩ := by decide +kernel
theorem d4_1 : decode jdk_42_method_117_code 1 = .ok (.invokevirtual 876, 3) := by decide +kernel
theorem d4_4 : decode jdk_42_method_117_code 4 = .ok (.aload_n 0, 1) := by decide +kernel
theorem d4_5 : decode jdk_42_method_117_code 5 = .ok (.invokevirtual 505, 3) := by decide +kernel
theorem d4_8 : decode jdk_42_method_117_code 8 = .ok (.if_icmp .ne 7, 3) := by decide +kernel
theorem d4_15 : decode jdk_42_method_117_code 15 = .ok (.iconst 0, 1) := by decide +kernel
theorem d4_16 : decode jdk_42_method_117_code 16 = .ok (.ireturn, 1) := by decide +kernel
def Q4 (Z : State) (sa : Addr) (sv : Addr) (kb : ClassId) (ch : Int32) (cc : Int32) (ci : Addr) (ta : Addr) (tc : Cell) (pv : Int32) (h0 : Heap) (n0 : Nat) (v : Option Value) (h : Heap) (L : List Loc) : Prop := v = some (.int (0 : Int32)) ∧ Fr n0 L ∧ h = h0
set_option maxRecDepth 65536 in
set_option maxHeartbeats 40000000 in
theorem rm4 (l : Launch) (Z : State) (a0 : Array Value) (hw : ∀ d ∈ tables_1, d.before a0 Z = true) (ws : List Jvm.Cond) (sa : Addr) (sv : Addr) (kb : ClassId) (ch : Int32) (cc : Int32) (ci : Addr) (ta : Addr) (tc : Cell) (pv : Int32) (h0 : Heap) (n0 : Nat) (Z0 : n0 ≤ h0.size) (F_coder_sa : Fld Z h0 sa "java/lang/String" "coder" "B" (.int (0 : Int32))) (F_value_sa : Fld Z h0 sa "java/lang/String" "value" "[B" (.ref sv)) (E_sa : Exa Z h0 sa "java/lang/String") (V_sv : Arv Z h0 sv kb .byte (1 : Int32) [(.int ch)] (.int (0 : Int32))) (S_cs : Sta Z h0 "java/lang/String" "COMPACT_STRINGS" "Z" (.int cc)) (hcc : ¬ (cc = (0 : Int32))) (S_ci : Sta Z h0 "java/lang/CharacterDataLatin1" "instance" "Ljava/lang/CharacterDataLatin1;" (.ref ci)) (E_ci : Exa Z h0 ci "java/lang/CharacterDataLatin1") (S_ta : Sta Z h0 "java/lang/CharacterDataLatin1" "A" "[I" (.ref ta)) (A_ta : Arr Z h0 ta tc .int) (hti : ¬ (ch < 0 ∨ tc.slots.size ≤ (ch).toNatClampNeg)) (htv : tc.slots[(ch).toNatClampNeg]? = some (.int pv)) (hpw : ¬ ((pv &&& (28672 : Int32)) = (16384 : Int32))) (hch : own_ch ch) :
    MetFree l (⟨"java/lang/String", "isBlank", "()Z"⟩ : MethodName) (head1 (Jvm.Cond.code (⟨"java/lang/String", "isBlank", "()Z"⟩ : MethodName) jdk_42_method_117_code 1 (some .boolean) :: ws) ({ frames := 4, cells := 0, slots := 0, locals := 56 } : Room)) (fun a U => a = #[(.ref sa)] ∧ Z.Warmed39 U.vm ∧ U.heap = h0) (fun _ _ _ _ _ => True) (fun _ U o U' => ∃ v L, o = .returned v ∧ Q4 Z sa sv kb ch cc ci ta tc pv h0 n0 v U'.heap L ∧ FrameEnd U o U' L ({ frames := 4, cells := 0, slots := 0, locals := 56 } : Room).cells ({ frames := 4, cells := 0, slots := 0, locals := 56 } : Room).slots) := by
  refine MetFree.of_bodySF (plainFor_of_name pn_java_lang_String) hisR ?_
  intro p e s m args below meth c s₁ Bd hml0 hP hK
  obtain ⟨rfl, hZ, hh⟩ := hP
  have hx := Bd.exec
  have hby := Bd.bytes
  have hml : c.maxLocals = 1 := hml0
  have hown : s.vm.findClass "java/lang/String" = some m.cls := findClass_of_methodNamed Bd.named
  have hnm := (name_of_methodNamed Bd.named Bd.method).1
  have X0 : Stand p l e ({ frames := 4, cells := 0, slots := 0, locals := 56 } : Room) s m #[(.ref sa)] below meth c s₁ [] 0 0 := Stand.of_body Bd
  have e0 : s₁.heap = h0 := by rw [← hh, Bd.state]; rfl
  have N0 := Fr.nil n0
  refine own_all ?_
  intro P hfin
  refine own_cast (ef_4 m sa) ?_
  show own_Go p e below P s₁ (mkF m 0 #[.val (.ref sa)] [])
  refine own_step (fun _ k => XS.aloadN X0.here hx rfl (hb hby d4_0) rfl rfl k) ?_
  show own_Go p e below P s₁ (mkF m 1 #[.val (.ref sa)] [(.ref sa)])
  obtain ⟨cq1, q1, q1'⟩ := E_sa.cell
  obtain ⟨_, _, ⟨T1, L1, k1, n1⟩, -, X1, ⟨Lc1, hQ1, l1, y1, z1⟩, st1⟩ := X0.privateBack hx (y := (⟨"java/lang/String", "indexOfNonWhitespace", "()I"⟩ : MethodName)) hown (mvT hZ (hw _ (List.mem_of_getElem? (i := 32) rfl))) (mvT hZ (hw _ (List.mem_of_getElem? (i := 33) rfl))) (mvT hZ (hw _ (List.mem_of_getElem? (i := 35) rfl))) (Cond.privateMethod_at (mvP hZ (hw _ (List.mem_of_getElem? (i := 34) rfl)) (args := #[]))) (mvT hZ (hw _ (List.mem_of_getElem? (i := 36) rfl))) (by decide) (backOf (W := 0) (rm5 l Z a0 hw [] sa sv kb ch cc ci ta tc pv h0 n0 Z0 F_coder_sa F_value_sa E_sa V_sv S_cs hcc S_ci E_ci S_ta A_ta hti htv hpw hch) hZ (hw _ (List.mem_of_getElem? (i := 36) rfl)) (hw _ (List.mem_of_getElem? (i := 8) rfl)) (by decide) (by decide)) (g := (mkF m 1 #[.val (.ref sa)] [(.ref sa)])) rfl (by rw [hml]; rfl) (Steps.refl _) (a := sa) (by rw [e0]; exact q1) q1' (argsL := []) (rest := []) (lenOf pd____I rfl) rfl (by show 2 * 0 + _ ≤ _; exact Nat.le_of_eq rfl) (hb hby d4_1) (fun _ _ => ⟨rfl, e0, (by decide : 0 + 0 ≤ _), (by decide : 0 + 0 ≤ _)⟩)
  dsimp only [Pt.U, Pt.locs, Pt.cells, Pt.slots] at X1 l1 y1 z1 st1 hQ1
  subst l1 y1 z1
  obtain ⟨rfl, N1q, e1⟩ := hQ1
  have N1 := Fr.app N0 N1q
  refine own_step (fun _ k => st1.trans k) ?_
  show own_Go p e below P T1 (mkF m 4 #[.val (.ref sa)] [(.int (0 : Int32))])
  refine own_step (fun _ k => XS.aloadN X1.here hx rfl (hb hby d4_4) rfl rfl k) ?_
  show own_Go p e below P T1 (mkF m 5 #[.val (.ref sa)] [(.ref sa), (.int (0 : Int32))])
  obtain ⟨cq2, kq2, q2a, q2b, q2c⟩ := isOf hZ e1 E_sa
  obtain ⟨_, _, ⟨T2, L2, k2, n2⟩, -, X2, ⟨Lc2, hQ2, l2, y2, z2⟩, st2⟩ := X1.virtualBack hx (y := (⟨"java/lang/String", "length", "()I"⟩ : MethodName)) (z := (⟨"java/lang/String", "length", "()I"⟩ : MethodName)) hown (mvT hZ (hw _ (List.mem_of_getElem? (i := 65) rfl))) (mvT hZ (hw _ (List.mem_of_getElem? (i := 66) rfl))) (notFace_of_selects (args := #[]) (mvT hZ (hw _ (List.mem_of_getElem? (i := 68) rfl)))) (mvT hZ (hw _ (List.mem_of_getElem? (i := 68) rfl))) (mvT hZ (hw _ (List.mem_of_getElem? (i := 67) rfl))) (by decide) (backOf (W := 1) (rm11 l Z a0 hw [] sa sv kb ch cc ci ta tc pv h0 n0 Z0 F_coder_sa F_value_sa E_sa V_sv S_cs hcc S_ci E_ci S_ta A_ta hti htv hpw hch) hZ (hw _ (List.mem_of_getElem? (i := 69) rfl)) (hw _ (List.mem_of_getElem? (i := 8) rfl)) (by decide) (by decide)) q2a q2c (g := (mkF m 5 #[.val (.ref sa)] [(.ref sa), (.int (0 : Int32))])) rfl (by rw [hml]; rfl) (Steps.refl _) (argsL := []) (rest := [(.int (0 : Int32))]) (lenOf pd____I rfl) rfl (by show 2 * 0 + _ ≤ _; exact Nat.le_of_eq rfl) (hb hby d4_5) (fun _ _ => ⟨rfl, e1, (by decide : 0 + 0 ≤ _), (by decide : 0 + 0 ≤ _)⟩)
  dsimp only [Pt.U, Pt.locs, Pt.cells, Pt.slots] at X2 l2 y2 z2 st2 hQ2
  subst l2 y2 z2
  obtain ⟨rfl, N2q, e2⟩ := hQ2
  have N2 := Fr.app N1 N2q
  refine own_step (fun _ k => st2.trans k) ?_
  show own_Go p e below P T2 (mkF m 8 #[.val (.ref sa)] [(.int (1 : Int32)), (.int (0 : Int32))])
  refine own_step (fun _ k => XS.icmpYes X2.here hx rfl (pc0 := 8) (pc' := 15) rfl (hb hby d4_8) rfl (feq (by decide : ¬ ((0 : Int32) = (1 : Int32)))).2 (by decide) (by decide) k) ?_
  show own_Go p e below P T2 (mkF m 15 #[.val (.ref sa)] [])
  refine own_step (fun _ k => XS.iconst X2.here hx rfl (hb hby d4_15) k) ?_
  show own_Go p e below P T2 (mkF m 16 #[.val (.ref sa)] [(.int (0 : Int32))])
  obtain ⟨fs, hr, hrun, hended, hW, hsame⟩ := X2.leave (v := some (.int (0 : Int32))) (fun h => by rw [Bd.returns] at h; cases h)
  refine ⟨_, _, retN X2 hx (t := .boolean) Bd.returns (by simp) (hb hby d4_16) hr, hrun, hended, hfin _ _ ⟨_, _, rfl, ?_, ⟨_, rfl⟩, hW, hsame.mono (by decide) (by decide)⟩⟩
  show Q4 Z sa sv kb ch cc ci ta tc pv h0 n0 (some (.int (0 : Int32))) T2.heap _
  rw [e2]
  exact ⟨rfl, N2, rfl⟩
theorem ef_14 (m : MethodId) (x0 : UInt64) : entryFrame m #[(.double x0)] 2 = mkF m 0 #[.val (.double x0), .second] [] := by first | (simp [entryFrame, mkF, argsToLocals, Value.category]; done) | rfl
theorem pn_java_lang_Double : plainName "java/lang/Double" = true := by first | (simp [plainName, overriddenIn]; done) | decide +kernel
theorem d14_0 : decode jdk_117_method_8_code 0 = .ok (.dload_n 0, 1) := by decide +kernel
theorem pd__D__D : parseMethodDescriptor "(D)D" = some ⟨[.double], some .double⟩ := by decide +kernel
theorem d14_1 : decode jdk_117_method_8_code 1 = .ok (.invokestatic 38, 3) := by decide +kernel
theorem d14_4 : decode jdk_117_method_8_code 4 = .ok (.ldc2_w 111, 3) := by decide +kernel
theorem d14_7 : decode jdk_117_method_8_code 7 = .ok (.dcmp .g, 1) := by decide +kernel
theorem d14_8 : decode jdk_117_method_8_code 8 = .ok (.ifCond .gt 7, 3) := by decide +kernel
theorem d14_11 : decode jdk_117_method_8_code 11 = .ok (.iconst 1, 1) := by decide +kernel
theorem d14_12 : decode jdk_117_method_8_code 12 = .ok (.goto 4, 3) := by decide +kernel
theorem d14_16 : decode jdk_117_method_8_code 16 = .ok (.ireturn, 1) := by decide +kernel
def Q14 (Z : State) (x0 : UInt64) (h0 : Heap) (n0 : Nat) (v : Option Value) (h : Heap) (L : List Loc) : Prop := v = some (.int (1 : Int32)) ∧ Fr n0 L ∧ h = h0
set_option maxRecDepth 65536 in
set_option maxHeartbeats 40000000 in
theorem rm14 (l : Launch) (Z : State) (a0 : Array Value) (hw : ∀ d ∈ tables_1, d.before a0 Z = true) (ws : List Jvm.Cond) (x0 : UInt64) (h0 : Heap) (n0 : Nat) (Z0 : n0 ≤ h0.size) (hf : Fin64 x0) :
    MetFree l (⟨"java/lang/Double", "isFinite", "(D)Z"⟩ : MethodName) (head1 (Jvm.Cond.code (⟨"java/lang/Double", "isFinite", "(D)Z"⟩ : MethodName) jdk_117_method_8_code 2 (some .boolean) :: ws) ({ frames := 1, cells := 0, slots := 0, locals := 13 } : Room)) (fun a U => a = #[(.double x0)] ∧ Z.Warmed39 U.vm ∧ U.heap = h0) (fun _ _ _ _ _ => True) (fun _ U o U' => ∃ v L, o = .returned v ∧ Q14 Z x0 h0 n0 v U'.heap L ∧ FrameEnd U o U' L ({ frames := 1, cells := 0, slots := 0, locals := 13 } : Room).cells ({ frames := 1, cells := 0, slots := 0, locals := 13 } : Room).slots) := by
  refine MetFree.of_bodySF (plainFor_of_name pn_java_lang_Double) hisR ?_
  intro p e s m args below meth c s₁ Bd hml0 hP hK
  obtain ⟨rfl, hZ, hh⟩ := hP
  have hx := Bd.exec
  have hby := Bd.bytes
  have hml : c.maxLocals = 2 := hml0
  have hown : s.vm.findClass "java/lang/Double" = some m.cls := findClass_of_methodNamed Bd.named
  have hnm := (name_of_methodNamed Bd.named Bd.method).1
  have X0 : Stand p l e ({ frames := 1, cells := 0, slots := 0, locals := 13 } : Room) s m #[(.double x0)] below meth c s₁ [] 0 0 := Stand.of_body Bd
  have e0 : s₁.heap = h0 := by rw [← hh, Bd.state]; rfl
  have N0 := Fr.nil n0
  refine own_all ?_
  intro P hfin
  refine own_cast (ef_14 m x0) ?_
  show own_Go p e below P s₁ (mkF m 0 #[.val (.double x0), .second] [])
  refine own_step (fun _ k => XS.dloadN X0.here hx rfl (hb hby d14_0) rfl k) ?_
  show own_Go p e below P s₁ (mkF m 1 #[.val (.double x0), .second] [(.double x0)])
  obtain ⟨T1, X1, e1, st1⟩ := natS X0 hx hZ (y := (⟨"java/lang/Math", "abs", "(D)D"⟩ : MethodName)) hown (hw _ (List.mem_of_getElem? (i := 83) rfl)) (hw _ (List.mem_of_getElem? (i := 84) rfl)) (hw _ (List.mem_of_getElem? (i := 85) rfl)) (hw _ (List.mem_of_getElem? (i := 86) rfl)) (by decide) e0 (W := 0) (fun c4 => Jvm.Free.Fl.Abs.absD_pays x0 c4 (by decide) (by decide)) (g := (mkF m 1 #[.val (.double x0), .second] [(.double x0)])) rfl (by rw [hml]; rfl) (argsL := [(.double x0)]) (rest := []) (lenOf pd__D__D rfl) rfl (by show 2 * 0 + _ ≤ _; exact Nat.le_of_eq rfl) (hb hby d14_1) (by decide) (by decide) ⟨rfl, hf.noNaN⟩ rfl
  refine own_step st1 ?_
  show own_Go p e below P T1 (mkF m 4 #[.val (.double x0), .second] [(.double (x0 &&& 0x7fffffffffffffff))])
  refine own_step (fun t k => X1.ldc2DoubleC hx hown (mvT hZ (hw _ (List.mem_of_getElem? (i := 87) rfl))) (g := (mkF m 4 #[.val (.double x0), .second] [(.double (x0 &&& 0x7fffffffffffffff))])) rfl (hb hby d14_4) t k) ?_
  show own_Go p e below P T1 (mkF m 7 #[.val (.double x0), .second] [(.double (9218868437227405311 : UInt64)), (.double (x0 &&& 0x7fffffffffffffff))])
  refine own_step (fun _ k => XS.dcmpS X1.here hx rfl (hb hby d14_7) rfl rfl k) ?_
  show own_Go p e below P T1 (mkF m 8 #[.val (.double x0), .second] [(.int (cmpValue (FP.dcmp (x0 &&& 0x7fffffffffffffff) (9218868437227405311 : UInt64)) .g))])
  refine own_step (fun _ k => XS.ifNo X1.here hx rfl (hb hby d14_8) rfl ((if0 _ _).trans (flt (own_isfin hf)).2.2.1) k) ?_
  show own_Go p e below P T1 (mkF m 11 #[.val (.double x0), .second] [])
  refine own_step (fun _ k => XS.iconst X1.here hx rfl (hb hby d14_11) k) ?_
  show own_Go p e below P T1 (mkF m 12 #[.val (.double x0), .second] [(.int (1 : Int32))])
  refine own_step (fun _ k => XS.goto X1.here hx rfl (pc0 := 12) (pc' := 16) rfl (hb hby d14_12) (by decide) (by decide) k) ?_
  show own_Go p e below P T1 (mkF m 16 #[.val (.double x0), .second] [(.int (1 : Int32))])
  obtain ⟨fs, hr, hrun, hended, hW, hsame⟩ := X1.leave (v := some (.int (1 : Int32))) (fun h => by rw [Bd.returns] at h; cases h)
  refine ⟨_, _, retN X1 hx (t := .boolean) Bd.returns (by simp) (hb hby d14_16) hr, hrun, hended, hfin _ _ ⟨_, _, rfl, ?_, ⟨_, rfl⟩, hW, hsame.mono (by decide) (by decide)⟩⟩
  show Q14 Z x0 h0 n0 (some (.int (1 : Int32))) T1.heap _
  rw [e1]
  exact ⟨rfl, N0, rfl⟩
theorem ef_13 (m : MethodId) (x0 : Addr) (x1 : Addr) (x2 : UInt64) : entryFrame m #[(.ref x0), (.ref x1), (.double x2)] 4 = mkF m 0 #[.val (.ref x0), .val (.ref x1), .val (.double x2), .second] [] := by first | (simp [entryFrame, mkF, argsToLocals, Value.category]; done) | rfl
theorem pn_com_example_brinequil_brinequil_model_Component : plainName "com/example/brinequil/brinequil/model/Component" = true := by first | (simp [plainName, overriddenIn]; done) | decide +kernel
theorem d13_0 : decode prog_24_method_4_code 0 = .ok (.dload_n 2, 1) := by decide +kernel
theorem pd__D__Z : parseMethodDescriptor "(D)Z" = some ⟨[.double], some .boolean⟩ := by decide +kernel
theorem d13_1 : decode prog_24_method_4_code 1 = .ok (.invokestatic 32, 3) := by decide +kernel
theorem d13_4 : decode prog_24_method_4_code 4 = .ok (.ifCond .eq 9, 3) := by decide +kernel
theorem d13_7 : decode prog_24_method_4_code 7 = .ok (.dload_n 2, 1) := by decide +kernel
theorem d13_8 : decode prog_24_method_4_code 8 = .ok (.dconst 0, 1) := by decide +kernel
theorem d13_9 : decode prog_24_method_4_code 9 = .ok (.dcmp .g, 1) := by decide +kernel
theorem d13_10 : decode prog_24_method_4_code 10 = .ok (.ifCond .gt 19, 3) := by decide +kernel
theorem d13_29 : decode prog_24_method_4_code 29 = .ok (.return_, 1) := by decide +kernel
def Q13 (Z : State) (s0 : Addr) (s1 : Addr) (x2 : UInt64) (h0 : Heap) (n0 : Nat) (v : Option Value) (h : Heap) (L : List Loc) : Prop := v = none ∧ Fr n0 L ∧ h = h0
set_option maxRecDepth 65536 in
set_option maxHeartbeats 40000000 in
theorem rm13 (l : Launch) (Z : State) (a0 : Array Value) (hw : ∀ d ∈ tables_1, d.before a0 Z = true) (ws : List Jvm.Cond) (s0 : Addr) (s1 : Addr) (x2 : UInt64) (h0 : Heap) (n0 : Nat) (Z0 : n0 ≤ h0.size) (hf : Fin64 x2) (hp : (0 : Int32) < (cmpValue (FP.dcmp x2 FP.dconst0) .g)) :
    MetFree l (⟨"com/example/brinequil/brinequil/model/Component", "requirePositive", "(Ljava/lang/String;Ljava/lang/String;D)V"⟩ : MethodName) (head1 (Jvm.Cond.code (⟨"com/example/brinequil/brinequil/model/Component", "requirePositive", "(Ljava/lang/String;Ljava/lang/String;D)V"⟩ : MethodName) prog_24_method_4_code 4 none :: ws) ({ frames := 2, cells := 0, slots := 0, locals := 26 } : Room)) (fun a U => a = #[(.ref s0), (.ref s1), (.double x2)] ∧ Z.Warmed39 U.vm ∧ U.heap = h0) (fun _ _ _ _ _ => True) (fun _ U o U' => ∃ v L, o = .returned v ∧ Q13 Z s0 s1 x2 h0 n0 v U'.heap L ∧ FrameEnd U o U' L ({ frames := 2, cells := 0, slots := 0, locals := 26 } : Room).cells ({ frames := 2, cells := 0, slots := 0, locals := 26 } : Room).slots) := by
  refine MetFree.of_bodySF (plainFor_of_name pn_com_example_brinequil_brinequil_model_Component) hisR ?_
  intro p e s m args below meth c s₁ Bd hml0 hP hK
  obtain ⟨rfl, hZ, hh⟩ := hP
  have hx := Bd.exec
  have hby := Bd.bytes
  have hml : c.maxLocals = 4 := hml0
  have hown : s.vm.findClass "com/example/brinequil/brinequil/model/Component" = some m.cls := findClass_of_methodNamed Bd.named
  have hnm := (name_of_methodNamed Bd.named Bd.method).1
  have X0 : Stand p l e ({ frames := 2, cells := 0, slots := 0, locals := 26 } : Room) s m #[(.ref s0), (.ref s1), (.double x2)] below meth c s₁ [] 0 0 := Stand.of_body Bd
  have e0 : s₁.heap = h0 := by rw [← hh, Bd.state]; rfl
  have N0 := Fr.nil n0
  refine own_all ?_
  intro P hfin
  refine own_cast (ef_13 m s0 s1 x2) ?_
  show own_Go p e below P s₁ (mkF m 0 #[.val (.ref s0), .val (.ref s1), .val (.double x2), .second] [])
  refine own_step (fun _ k => XS.dloadN X0.here hx rfl (hb hby d13_0) rfl k) ?_
  show own_Go p e below P s₁ (mkF m 1 #[.val (.ref s0), .val (.ref s1), .val (.double x2), .second] [(.double x2)])
  obtain ⟨_, _, ⟨T1, L1, k1, n1⟩, -, X1, ⟨Lc1, hQ1, l1, y1, z1⟩, st1⟩ := Jvm.LawKit.callS X0 hx (y := (⟨"java/lang/Double", "isFinite", "(D)Z"⟩ : MethodName)) hown (mvT hZ (hw _ (List.mem_of_getElem? (i := 79) rfl))) (mvT hZ (hw _ (List.mem_of_getElem? (i := 80) rfl))) (mvT hZ (hw _ (List.mem_of_getElem? (i := 81) rfl))) (mvT hZ (hw _ (List.mem_of_getElem? (i := 82) rfl))) (by decide) (backOf (W := 0) (rm14 l Z a0 hw [] x2 h0 n0 Z0 hf) hZ (hw _ (List.mem_of_getElem? (i := 82) rfl)) (hw _ (List.mem_of_getElem? (i := 81) rfl)) (by decide) (by decide)) (g := (mkF m 1 #[.val (.ref s0), .val (.ref s1), .val (.double x2), .second] [(.double x2)])) rfl (by rw [hml]; rfl) (argsL := [(.double x2)]) (rest := []) (lenOf pd__D__Z rfl) rfl (by show 2 * 0 + _ ≤ _; exact Nat.le_of_eq rfl) (hb hby d13_1) (fun _ _ => ⟨rfl, e0, (by decide : 0 + 0 ≤ _), (by decide : 0 + 0 ≤ _)⟩)
  dsimp only [Pt.U, Pt.locs, Pt.cells, Pt.slots] at X1 l1 y1 z1 st1 hQ1
  subst l1 y1 z1
  obtain ⟨rfl, N1q, e1⟩ := hQ1
  have N1 := Fr.app N0 N1q
  refine own_step st1 ?_
  show own_Go p e below P T1 (mkF m 4 #[.val (.ref s0), .val (.ref s1), .val (.double x2), .second] [(.int (1 : Int32))])
  refine own_step (fun _ k => XS.ifNo X1.here hx rfl (hb hby d13_4) rfl ((if0 _ _).trans (feq (by decide : ¬ ((1 : Int32) = (0 : Int32)))).1) k) ?_
  show own_Go p e below P T1 (mkF m 7 #[.val (.ref s0), .val (.ref s1), .val (.double x2), .second] [])
  refine own_step (fun _ k => XS.dloadN X1.here hx rfl (hb hby d13_7) rfl k) ?_
  show own_Go p e below P T1 (mkF m 8 #[.val (.ref s0), .val (.ref s1), .val (.double x2), .second] [(.double x2)])
  refine own_step (fun _ k => XS.dconst0 X1.here hx rfl (hb hby d13_8) rfl k) ?_
  show own_Go p e below P T1 (mkF m 9 #[.val (.ref s0), .val (.ref s1), .val (.double x2), .second] [(.double FP.dconst0), (.double x2)])
  refine own_step (fun _ k => XS.dcmpS X1.here hx rfl (hb hby d13_9) rfl rfl k) ?_
  show own_Go p e below P T1 (mkF m 10 #[.val (.ref s0), .val (.ref s1), .val (.double x2), .second] [(.int (cmpValue (FP.dcmp x2 FP.dconst0) .g))])
  refine own_step (fun _ k => XS.ifYes X1.here hx rfl (pc0 := 10) (pc' := 29) rfl (hb hby d13_10) rfl ((if0 _ _).trans (tlt hp).2.2.1) (by decide) (by decide) k) ?_
  show own_Go p e below P T1 (mkF m 29 #[.val (.ref s0), .val (.ref s1), .val (.double x2), .second] [])
  obtain ⟨fs, hr, hrun, hended, hW, hsame⟩ := X1.leave (v := none) (fun _ => rfl)
  refine ⟨_, _, X1.returnOut hx Bd.returns (hb hby d13_29) hr, hrun, hended, hfin _ _ ⟨_, _, rfl, ?_, ⟨_, rfl⟩, hW, hsame.mono (by decide) (by decide)⟩⟩
  show Q13 Z s0 s1 x2 h0 n0 none T1.heap _
  rw [e1]
  exact ⟨rfl, N1, rfl⟩
theorem own_ch119 : own_ch 119 := ⟨by decide, by decide, by decide, by decide⟩
theorem own_pos {z : Int32} (h : 0 < z.toInt) : (0 : Int32) < cmpValue (FP.dcmp (FP.i2d z) FP.dconst0) .g := by
  have d0 : FP.Core.DInt 0 FP.dconst0 := by
    have := FP.Core.i2d_int 0
    rwa [show FP.Core.i2d 0 = FP.dconst0 by decide +kernel] at this
  have q : FP.dcmp (FP.i2d z) FP.dconst0 = some (compare z.toInt 0) := FP.Core.dcmp_int (FP.Core.i2d_int z) d0
  rw [q, (FP.Core.compare_gt_iff _ _).mpr h]; decide
theorem own_m16 (p : Int32) : 0 < ((p &&& (65535 : Int32)) + (1 : Int32)).toInt := by
  have e := c_mask p 65535 16 (by decide) (by decide)
  have q := c_iadd (p &&& (65535 : Int32)) 1; have r := rng32 ((p &&& (65535 : Int32)) + 1)
  rw [show (1 : Int32).toInt = 1 from rfl] at q
  omega
theorem own_d00 : cmpValue (FP.dcmp FP.dconst0 FP.dconst0) .l = (0 : Int32) := by decide +kernel
theorem ef_1N (m : MethodId) (x0 : Addr) (x1 : Addr) (x2 : UInt64) (x3 : UInt64) (x4 : UInt64) (x5 : UInt64) (x6 : UInt64) (x7 : UInt64) (x8 : Addr) : entryFrame m #[(.ref x0), (.ref x1), (.double x2), (.double x3), (.double x4), (.double x5), (.double x7), (.double x7), (.ref x8)] 15 = mkF m 0 #[.val (.ref x0), .val (.ref x1), .val (.double x2), .second, .val (.double x3), .second, .val (.double x4), .second, .val (.double x5), .second, .val (.double x7), .second, .val (.double x7), .second, .val (.ref x8)] [] := by first | (simp [entryFrame, mkF, argsToLocals, Value.category]; done) | rfl
theorem d1_0 : decode prog_24_method_1_code 0 = .ok (.aload_n 0, 1) := by decide +kernel
theorem pd____V : parseMethodDescriptor "()V" = some ⟨[], none⟩ := by decide +kernel
theorem d1_1 : decode prog_24_method_1_code 1 = .ok (.invokespecial 1, 3) := by decide +kernel
theorem d1_4 : decode prog_24_method_1_code 4 = .ok (.aload_n 1, 1) := by decide +kernel
theorem d1_5 : decode prog_24_method_1_code 5 = .ok (.ifnull 10, 3) := by decide +kernel
theorem d1_8 : decode prog_24_method_1_code 8 = .ok (.aload_n 1, 1) := by decide +kernel
theorem d1_9 : decode prog_24_method_1_code 9 = .ok (.invokevirtual 7, 3) := by decide +kernel
theorem d1_12 : decode prog_24_method_1_code 12 = .ok (.ifCond .eq 13, 3) := by decide +kernel
theorem d1_25 : decode prog_24_method_1_code 25 = .ok (.aload_n 1, 1) := by decide +kernel
theorem d1_26 : decode prog_24_method_1_code 26 = .ok (.ldc 20, 2) := by decide +kernel
theorem d1_28 : decode prog_24_method_1_code 28 = .ok (.dload_n 2, 1) := by decide +kernel
theorem pd__Ljava_lang_StringLjava_lang_StringD__V : parseMethodDescriptor "(Ljava/lang/String;Ljava/lang/String;D)V" = some ⟨[(.object "java/lang/String"), (.object "java/lang/String"), .double], none⟩ := by decide +kernel
theorem d1_29 : decode prog_24_method_1_code 29 = .ok (.invokestatic 22, 3) := by decide +kernel
theorem d1_32 : decode prog_24_method_1_code 32 = .ok (.aload_n 1, 1) := by decide +kernel
theorem d1_33 : decode prog_24_method_1_code 33 = .ok (.ldc 28, 2) := by decide +kernel
theorem d1_35 : decode prog_24_method_1_code 35 = .ok (.dload 4, 2) := by decide +kernel
theorem d1_37 : decode prog_24_method_1_code 37 = .ok (.invokestatic 22, 3) := by decide +kernel
theorem d1_40 : decode prog_24_method_1_code 40 = .ok (.aload_n 1, 1) := by decide +kernel
theorem d1_41 : decode prog_24_method_1_code 41 = .ok (.ldc 30, 2) := by decide +kernel
theorem d1_43 : decode prog_24_method_1_code 43 = .ok (.dload 6, 2) := by decide +kernel
theorem d1_45 : decode prog_24_method_1_code 45 = .ok (.invokestatic 22, 3) := by decide +kernel
theorem d1_48 : decode prog_24_method_1_code 48 = .ok (.dload 8, 2) := by decide +kernel
theorem d1_50 : decode prog_24_method_1_code 50 = .ok (.invokestatic 32, 3) := by decide +kernel
theorem d1_53 : decode prog_24_method_1_code 53 = .ok (.ifCond .ne 19, 3) := by decide +kernel
theorem d1_72 : decode prog_24_method_1_code 72 = .ok (.aload 14, 2) := by decide +kernel
theorem d1_74 : decode prog_24_method_1_code 74 = .ok (.ifnonnull 17, 3) := by decide +kernel
theorem d1_91 : decode prog_24_method_1_code 91 = .ok (.aload 14, 2) := by decide +kernel
theorem d1_93 : decode prog_24_method_1_code 93 = .ok (.getstatic 45, 3) := by decide +kernel
theorem d1_96 : decode prog_24_method_1_code 96 = .ok (.if_acmp .ne 35, 3) := by decide +kernel
theorem d1_99 : decode prog_24_method_1_code 99 = .ok (.dload 10, 2) := by decide +kernel
theorem d1_101 : decode prog_24_method_1_code 101 = .ok (.dconst 0, 1) := by decide +kernel
theorem d1_102 : decode prog_24_method_1_code 102 = .ok (.dcmp .l, 1) := by decide +kernel
theorem d1_103 : decode prog_24_method_1_code 103 = .ok (.ifCond .ne 10, 3) := by decide +kernel
theorem d1_106 : decode prog_24_method_1_code 106 = .ok (.dload 12, 2) := by decide +kernel
theorem d1_108 : decode prog_24_method_1_code 108 = .ok (.dconst 0, 1) := by decide +kernel
theorem d1_109 : decode prog_24_method_1_code 109 = .ok (.dcmp .l, 1) := by decide +kernel
theorem d1_110 : decode prog_24_method_1_code 110 = .ok (.ifCond .eq 37, 3) := by decide +kernel
theorem d1_147 : decode prog_24_method_1_code 147 = .ok (.aload_n 0, 1) := by decide +kernel
theorem d1_148 : decode prog_24_method_1_code 148 = .ok (.aload_n 1, 1) := by decide +kernel
theorem d1_149 : decode prog_24_method_1_code 149 = .ok (.putfield 58, 3) := by decide +kernel
theorem d1_152 : decode prog_24_method_1_code 152 = .ok (.aload_n 0, 1) := by decide +kernel
theorem d1_153 : decode prog_24_method_1_code 153 = .ok (.dload_n 2, 1) := by decide +kernel
theorem d1_154 : decode prog_24_method_1_code 154 = .ok (.putfield 62, 3) := by decide +kernel
theorem d1_157 : decode prog_24_method_1_code 157 = .ok (.aload_n 0, 1) := by decide +kernel
theorem d1_158 : decode prog_24_method_1_code 158 = .ok (.dload 4, 2) := by decide +kernel
theorem d1_160 : decode prog_24_method_1_code 160 = .ok (.putfield 66, 3) := by decide +kernel
theorem d1_163 : decode prog_24_method_1_code 163 = .ok (.aload_n 0, 1) := by decide +kernel
theorem d1_164 : decode prog_24_method_1_code 164 = .ok (.dload 6, 2) := by decide +kernel
theorem d1_166 : decode prog_24_method_1_code 166 = .ok (.putfield 68, 3) := by decide +kernel
theorem d1_169 : decode prog_24_method_1_code 169 = .ok (.aload_n 0, 1) := by decide +kernel
theorem d1_170 : decode prog_24_method_1_code 170 = .ok (.dload 8, 2) := by decide +kernel
theorem d1_172 : decode prog_24_method_1_code 172 = .ok (.putfield 70, 3) := by decide +kernel
theorem d1_175 : decode prog_24_method_1_code 175 = .ok (.aload_n 0, 1) := by decide +kernel
theorem d1_176 : decode prog_24_method_1_code 176 = .ok (.dload 10, 2) := by decide +kernel
theorem d1_178 : decode prog_24_method_1_code 178 = .ok (.putfield 73, 3) := by decide +kernel
theorem d1_181 : decode prog_24_method_1_code 181 = .ok (.aload_n 0, 1) := by decide +kernel
theorem d1_182 : decode prog_24_method_1_code 182 = .ok (.dload 12, 2) := by decide +kernel
theorem d1_184 : decode prog_24_method_1_code 184 = .ok (.putfield 76, 3) := by decide +kernel
theorem d1_187 : decode prog_24_method_1_code 187 = .ok (.aload_n 0, 1) := by decide +kernel
theorem d1_188 : decode prog_24_method_1_code 188 = .ok (.aload 14, 2) := by decide +kernel
theorem d1_190 : decode prog_24_method_1_code 190 = .ok (.putfield 79, 3) := by decide +kernel
theorem d1_193 : decode prog_24_method_1_code 193 = .ok (.return_, 1) := by decide +kernel
def Q1N (Z : State) (ob : Addr) (x2 : UInt64) (x3 : UInt64) (x4 : UInt64) (x5 : UInt64) (sa : Addr) (sv : Addr) (kb : ClassId) (ch : Int32) (cc : Int32) (ci : Addr) (ta : Addr) (tc : Cell) (pv : Int32) (an : Addr) (h0 : Heap) (n0 : Nat) (v : Option Value) (h : Heap) (L : List Loc) : Prop := v = none ∧ Fr n0 L ∧ Keep h0 h [ob] ∧ Exa Z h ob "com/example/brinequil/brinequil/model/Component" ∧ Fld Z h ob "com/example/brinequil/brinequil/model/Component" "scheme" "Lcom/example/brinequil/brinequil/model/AssociationScheme;" (.ref an)
set_option maxRecDepth 65536 in
set_option maxHeartbeats 40000000 in
theorem rm1N (l : Launch) (Z : State) (a0 : Array Value) (hw : ∀ d ∈ tables_1, d.before a0 Z = true) (ws : List Jvm.Cond) (ob : Addr) (x2 : UInt64) (x3 : UInt64) (x4 : UInt64) (x5 : UInt64) (sa : Addr) (sv : Addr) (kb : ClassId) (ch : Int32) (cc : Int32) (ci : Addr) (ta : Addr) (tc : Cell) (pv : Int32) (an : Addr) (h0 : Heap) (n0 : Nat) (Z0 : n0 ≤ h0.size) (F_coder_sa : Fld Z h0 sa "java/lang/String" "coder" "B" (.int (0 : Int32))) (F_value_sa : Fld Z h0 sa "java/lang/String" "value" "[B" (.ref sv)) (E_sa : Exa Z h0 sa "java/lang/String") (V_sv : Arv Z h0 sv kb .byte (1 : Int32) [(.int ch)] (.int (0 : Int32))) (S_cs : Sta Z h0 "java/lang/String" "COMPACT_STRINGS" "Z" (.int cc)) (hcc : ¬ (cc = (0 : Int32))) (S_ci : Sta Z h0 "java/lang/CharacterDataLatin1" "instance" "Ljava/lang/CharacterDataLatin1;" (.ref ci)) (E_ci : Exa Z h0 ci "java/lang/CharacterDataLatin1") (S_ta : Sta Z h0 "java/lang/CharacterDataLatin1" "A" "[I" (.ref ta)) (A_ta : Arr Z h0 ta tc .int) (hti : ¬ (ch < 0 ∨ tc.slots.size ≤ (ch).toNatClampNeg)) (htv : tc.slots[(ch).toNatClampNeg]? = some (.int pv)) (hpw : ¬ ((pv &&& (28672 : Int32)) = (16384 : Int32))) (hch : own_ch ch) (E_ob : Exa Z h0 ob "com/example/brinequil/brinequil/model/Component") (F_name_ob : Fld Z h0 ob "com/example/brinequil/brinequil/model/Component" "name" "Ljava/lang/String;" .null) (F_criticalTemperature_ob : Fld Z h0 ob "com/example/brinequil/brinequil/model/Component" "criticalTemperature" "D" (.double (0 : UInt64))) (F_a0_ob : Fld Z h0 ob "com/example/brinequil/brinequil/model/Component" "a0" "D" (.double (0 : UInt64))) (F_b_ob : Fld Z h0 ob "com/example/brinequil/brinequil/model/Component" "b" "D" (.double (0 : UInt64))) (F_c1_ob : Fld Z h0 ob "com/example/brinequil/brinequil/model/Component" "c1" "D" (.double (0 : UInt64))) (F_associationEnergy_ob : Fld Z h0 ob "com/example/brinequil/brinequil/model/Component" "associationEnergy" "D" (.double (0 : UInt64))) (F_associationVolume_ob : Fld Z h0 ob "com/example/brinequil/brinequil/model/Component" "associationVolume" "D" (.double (0 : UInt64))) (F_scheme_ob : Fld Z h0 ob "com/example/brinequil/brinequil/model/Component" "scheme" "Lcom/example/brinequil/brinequil/model/AssociationScheme;" .null) (g_ob : n0 ≤ ob) (S_NONE : Sta Z h0 "com/example/brinequil/brinequil/model/AssociationScheme" "NONE" "Lcom/example/brinequil/brinequil/model/AssociationScheme;" (.ref an)) (f_x2 : Fin64 x2) (f_x3 : Fin64 x3) (f_x4 : Fin64 x4) (f_x5 : Fin64 x5) (p_x2 : (0 : Int32) < (cmpValue (FP.dcmp x2 FP.dconst0) .g)) (p_x3 : (0 : Int32) < (cmpValue (FP.dcmp x3 FP.dconst0) .g)) (p_x4 : (0 : Int32) < (cmpValue (FP.dcmp x4 FP.dconst0) .g)) :
    MetFree l (⟨"com/example/brinequil/brinequil/model/Component", "<init>", "(Ljava/lang/String;DDDDDDLcom/example/brinequil/brinequil/model/AssociationScheme;)V"⟩ : MethodName) (head1 (Jvm.Cond.code (⟨"com/example/brinequil/brinequil/model/Component", "<init>", "(Ljava/lang/String;DDDDDDLcom/example/brinequil/brinequil/model/AssociationScheme;)V"⟩ : MethodName) prog_24_method_1_code 15 none :: ws) ({ frames := 5, cells := 6, slots := 32, locals := 68 } : Room)) (fun a U => a = #[(.ref ob), (.ref sa), (.double x2), (.double x3), (.double x4), (.double x5), (.double FP.dconst0), (.double FP.dconst0), (.ref an)] ∧ Z.Warmed39 U.vm ∧ U.heap = h0) (fun _ _ _ _ _ => True) (fun _ U o U' => ∃ v L, o = .returned v ∧ Q1N Z ob x2 x3 x4 x5 sa sv kb ch cc ci ta tc pv an h0 n0 v U'.heap L ∧ ReturnedEndW U o U' L ({ frames := 5, cells := 6, slots := 32, locals := 68 } : Room).cells ({ frames := 5, cells := 6, slots := 32, locals := 68 } : Room).slots) := by
  refine MetFree.of_bodySF (plainFor_of_name pn_com_example_brinequil_brinequil_model_Component) hisR ?_
  intro p e s m args below meth c s₁ Bd hml0 hP hK
  obtain ⟨rfl, hZ, hh⟩ := hP
  have hx := Bd.exec
  have hby := Bd.bytes
  have hml : c.maxLocals = 15 := hml0
  have hown : s.vm.findClass "com/example/brinequil/brinequil/model/Component" = some m.cls := findClass_of_methodNamed Bd.named
  have hnm := (name_of_methodNamed Bd.named Bd.method).1
  have hS0 : s.Since s.vm 0 := (State.WarmedH.refl s).since 0
  have hk0 : 0 ≤ h0.size := Nat.zero_le _
  have X0 : Stand p l e ({ frames := 5, cells := 6, slots := 32, locals := 68 } : Room) (s.setVm s.vm) m #[(.ref ob), (.ref sa), (.double x2), (.double x3), (.double x4), (.double x5), (.double FP.dconst0), (.double FP.dconst0), (.ref an)] below meth c s₁ [] 0 0 := Stand.of_body Bd
  have e0 : s₁.heap = h0 := by rw [← hh, Bd.state]; rfl
  have N0 := Fr.nil n0
  refine own_all ?_
  intro P hfin
  refine own_cast (ef_1N m ob sa x2 x3 x4 x5 FP.dconst0 FP.dconst0 an) ?_
  show own_Go p e below P s₁ (mkF m 0 #[.val (.ref ob), .val (.ref sa), .val (.double x2), .second, .val (.double x3), .second, .val (.double x4), .second, .val (.double x5), .second, .val (.double FP.dconst0), .second, .val (.double FP.dconst0), .second, .val (.ref an)] [])
  refine own_step (fun _ k => XS.aloadN X0.here hx rfl (hb hby d1_0) rfl rfl k) ?_
  show own_Go p e below P s₁ (mkF m 1 #[.val (.ref ob), .val (.ref sa), .val (.double x2), .second, .val (.double x3), .second, .val (.double x4), .second, .val (.double x5), .second, .val (.double FP.dconst0), .second, .val (.double FP.dconst0), .second, .val (.ref an)] [(.ref ob)])
  obtain ⟨_, _, ⟨T1, L1, k1, n1⟩, -, X1, ⟨Lc1, hQ1, l1, y1, z1⟩, st1⟩ := X0.specialBack hx (y := (⟨"java/lang/Record", "<init>", "()V"⟩ : MethodName)) rfl hown (mvT hZ (hw _ (List.mem_of_getElem? (i := 19) rfl))) (mvT hZ (hw _ (List.mem_of_getElem? (i := 20) rfl))) (mvT hZ (hw _ (List.mem_of_getElem? (i := 23) rfl))) (by decide) (backOf (W := 0) (rm2 l Z a0 hw [] ob h0 n0 Z0) hZ (hw _ (List.mem_of_getElem? (i := 23) rfl)) (hw _ (List.mem_of_getElem? (i := 22) rfl)) (by decide) (by decide)) (g := (mkF m 1 #[.val (.ref ob), .val (.ref sa), .val (.double x2), .second, .val (.double x3), .second, .val (.double x4), .second, .val (.double x5), .second, .val (.double FP.dconst0), .second, .val (.double FP.dconst0), .second, .val (.ref an)] [(.ref ob)])) rfl (by rw [hml]; rfl) (Steps.refl _) (a := ob) (argsL := []) (rest := []) (lenOf pd____V rfl) rfl (by show 2 * 0 + _ ≤ _; exact Nat.le_of_eq rfl) (hb hby d1_1) (fun _ _ => ⟨rfl, e0, (by decide : 0 + 0 ≤ _), (by decide : 0 + 0 ≤ _)⟩)
  dsimp only [Pt.U, Pt.locs, Pt.cells, Pt.slots] at X1 l1 y1 z1 st1 hQ1
  subst l1 y1 z1
  obtain ⟨rfl, N1q, e1⟩ := hQ1
  have N1 := Fr.app N0 N1q
  refine own_step (fun _ k => st1.trans k) ?_
  show own_Go p e below P T1 (mkF m 4 #[.val (.ref ob), .val (.ref sa), .val (.double x2), .second, .val (.double x3), .second, .val (.double x4), .second, .val (.double x5), .second, .val (.double FP.dconst0), .second, .val (.double FP.dconst0), .second, .val (.ref an)] [])
  refine own_step (fun _ k => XS.aloadN X1.here hx rfl (hb hby d1_4) rfl rfl k) ?_
  show own_Go p e below P T1 (mkF m 5 #[.val (.ref ob), .val (.ref sa), .val (.double x2), .second, .val (.double x3), .second, .val (.double x4), .second, .val (.double x5), .second, .val (.double FP.dconst0), .second, .val (.double FP.dconst0), .second, .val (.ref an)] [(.ref sa)])
  refine own_step (fun _ k => XS.ifnullNo X1.here hx rfl (hb hby d1_5) rfl k) ?_
  show own_Go p e below P T1 (mkF m 8 #[.val (.ref ob), .val (.ref sa), .val (.double x2), .second, .val (.double x3), .second, .val (.double x4), .second, .val (.double x5), .second, .val (.double FP.dconst0), .second, .val (.double FP.dconst0), .second, .val (.ref an)] [])
  refine own_step (fun _ k => XS.aloadN X1.here hx rfl (hb hby d1_8) rfl rfl k) ?_
  show own_Go p e below P T1 (mkF m 9 #[.val (.ref ob), .val (.ref sa), .val (.double x2), .second, .val (.double x3), .second, .val (.double x4), .second, .val (.double x5), .second, .val (.double FP.dconst0), .second, .val (.double FP.dconst0), .second, .val (.ref an)] [(.ref sa)])
  obtain ⟨cq2, kq2, q2a, q2b, q2c⟩ := isOf hZ e1 E_sa
  obtain ⟨_, _, ⟨T2, L2, k2, n2⟩, -, X2, ⟨Lc2, hQ2, l2, y2, z2⟩, st2⟩ := X1.virtualBack hx (y := (⟨"java/lang/String", "isBlank", "()Z"⟩ : MethodName)) (z := (⟨"java/lang/String", "isBlank", "()Z"⟩ : MethodName)) hown (mvT hZ (hw _ (List.mem_of_getElem? (i := 27) rfl))) (mvT hZ (hw _ (List.mem_of_getElem? (i := 28) rfl))) (notFace_of_selects (args := #[]) (mvT hZ (hw _ (List.mem_of_getElem? (i := 30) rfl)))) (mvT hZ (hw _ (List.mem_of_getElem? (i := 30) rfl))) (mvT hZ (hw _ (List.mem_of_getElem? (i := 29) rfl))) (by decide) (backOf (W := 0) (rm4 l Z a0 hw [] sa sv kb ch cc ci ta tc pv h0 n0 Z0 F_coder_sa F_value_sa E_sa V_sv S_cs hcc S_ci E_ci S_ta A_ta hti htv hpw hch) hZ (hw _ (List.mem_of_getElem? (i := 31) rfl)) (hw _ (List.mem_of_getElem? (i := 8) rfl)) (by decide) (by decide)) q2a q2c (g := (mkF m 9 #[.val (.ref ob), .val (.ref sa), .val (.double x2), .second, .val (.double x3), .second, .val (.double x4), .second, .val (.double x5), .second, .val (.double FP.dconst0), .second, .val (.double FP.dconst0), .second, .val (.ref an)] [(.ref sa)])) rfl (by rw [hml]; rfl) (Steps.refl _) (argsL := []) (rest := []) (lenOf pd____Z rfl) rfl (by show 2 * 0 + _ ≤ _; exact Nat.le_of_eq rfl) (hb hby d1_9) (fun _ _ => ⟨rfl, e1, (by decide : 0 + 0 ≤ _), (by decide : 0 + 0 ≤ _)⟩)
  dsimp only [Pt.U, Pt.locs, Pt.cells, Pt.slots] at X2 l2 y2 z2 st2 hQ2
  subst l2 y2 z2
  obtain ⟨rfl, N2q, e2⟩ := hQ2
  have N2 := Fr.app N1 N2q
  refine own_step (fun _ k => st2.trans k) ?_
  show own_Go p e below P T2 (mkF m 12 #[.val (.ref ob), .val (.ref sa), .val (.double x2), .second, .val (.double x3), .second, .val (.double x4), .second, .val (.double x5), .second, .val (.double FP.dconst0), .second, .val (.double FP.dconst0), .second, .val (.ref an)] [(.int (0 : Int32))])
  refine own_step (fun _ k => XS.ifYes X2.here hx rfl (pc0 := 12) (pc' := 25) rfl (hb hby d1_12) rfl ((if0 _ _).trans (teq (rfl : (0 : Int32) = (0 : Int32))).1) (by decide) (by decide) k) ?_
  show own_Go p e below P T2 (mkF m 25 #[.val (.ref ob), .val (.ref sa), .val (.double x2), .second, .val (.double x3), .second, .val (.double x4), .second, .val (.double x5), .second, .val (.double FP.dconst0), .second, .val (.double FP.dconst0), .second, .val (.ref an)] [])
  refine own_step (fun _ k => XS.aloadN X2.here hx rfl (hb hby d1_25) rfl rfl k) ?_
  show own_Go p e below P T2 (mkF m 26 #[.val (.ref ob), .val (.ref sa), .val (.double x2), .second, .val (.double x3), .second, .val (.double x4), .second, .val (.double x5), .second, .val (.double FP.dconst0), .second, .val (.double FP.dconst0), .second, .val (.ref an)] [(.ref sa)])
  obtain ⟨b3, T3, h3, kk3, X3, e3, E3, hS3, hk3, hZ3, hown3, st3⟩ := own_ldc X2 hx hZ hown (hw _ (List.mem_of_getElem? (i := 75) rfl)) (own_wS hw) e2 hS0 hk0 (g := (mkF m 26 #[.val (.ref ob), .val (.ref sa), .val (.double x2), .second, .val (.double x3), .second, .val (.double x4), .second, .val (.double x5), .second, .val (.double FP.dconst0), .second, .val (.double FP.dconst0), .second, .val (.ref an)] [(.ref sa)])) rfl (hb hby d1_26) (n := 8) (by decide) (by decide) (by decide) (by decide)
  refine own_step st3 ?_
  show own_Go p e below P T3 (mkF m 28 #[.val (.ref ob), .val (.ref sa), .val (.double x2), .second, .val (.double x3), .second, .val (.double x4), .second, .val (.double x5), .second, .val (.double FP.dconst0), .second, .val (.double FP.dconst0), .second, .val (.ref an)] [(.ref b3), (.ref sa)])
  refine own_step (fun _ k => XS.dloadN X3.here hx rfl (hb hby d1_28) rfl k) ?_
  show own_Go p e below P T3 (mkF m 29 #[.val (.ref ob), .val (.ref sa), .val (.double x2), .second, .val (.double x3), .second, .val (.double x4), .second, .val (.double x5), .second, .val (.double FP.dconst0), .second, .val (.double FP.dconst0), .second, .val (.ref an)] [(.double x2), (.ref b3), (.ref sa)])
  obtain ⟨_, _, ⟨T4, L4, k4, n4⟩, -, X4, ⟨Lc4, hQ4, l4, y4, z4⟩, st4⟩ := Jvm.LawKit.callS X3 hx (y := (⟨"com/example/brinequil/brinequil/model/Component", "requirePositive", "(Ljava/lang/String;Ljava/lang/String;D)V"⟩ : MethodName)) hown3 (mvT hZ3 (hw _ (List.mem_of_getElem? (i := 76) rfl))) (mvT hZ3 (hw _ (List.mem_of_getElem? (i := 77) rfl))) (mvT hZ3 (hw _ (List.mem_of_getElem? (i := 6) rfl))) (mvT hZ3 (hw _ (List.mem_of_getElem? (i := 78) rfl))) (by decide) (backOf (W := 0) (rm13 l Z a0 hw [] sa b3 x2 h3 n0 (Nat.le_trans Z0 E3.1) f_x2 p_x2) hZ3 (hw _ (List.mem_of_getElem? (i := 78) rfl)) (hw _ (List.mem_of_getElem? (i := 6) rfl)) (by decide) (by decide)) (g := (mkF m 29 #[.val (.ref ob), .val (.ref sa), .val (.double x2), .second, .val (.double x3), .second, .val (.double x4), .second, .val (.double x5), .second, .val (.double FP.dconst0), .second, .val (.double FP.dconst0), .second, .val (.ref an)] [(.double x2), (.ref b3), (.ref sa)])) rfl (by rw [hml]; rfl) (argsL := [(.ref sa), (.ref b3), (.double x2)]) (rest := []) (lenOf pd__Ljava_lang_StringLjava_lang_StringD__V rfl) rfl (by show 2 * 0 + _ ≤ _; exact Nat.le_of_eq rfl) (hb hby d1_29) (fun _ _ => ⟨rfl, e3, (by decide : 2 + 0 ≤ _), (by decide : 12 + 0 ≤ _)⟩)
  dsimp only [Pt.U, Pt.locs, Pt.cells, Pt.slots] at X4 l4 y4 z4 st4 hQ4
  subst l4 y4 z4
  obtain ⟨rfl, N4q, e4⟩ := hQ4
  have N4 := Fr.app N2 N4q
  refine own_step st4 ?_
  show own_Go p e below P T4 (mkF m 32 #[.val (.ref ob), .val (.ref sa), .val (.double x2), .second, .val (.double x3), .second, .val (.double x4), .second, .val (.double x5), .second, .val (.double FP.dconst0), .second, .val (.double FP.dconst0), .second, .val (.ref an)] [])
  refine own_step (fun _ k => XS.aloadN X4.here hx rfl (hb hby d1_32) rfl rfl k) ?_
  show own_Go p e below P T4 (mkF m 33 #[.val (.ref ob), .val (.ref sa), .val (.double x2), .second, .val (.double x3), .second, .val (.double x4), .second, .val (.double x5), .second, .val (.double FP.dconst0), .second, .val (.double FP.dconst0), .second, .val (.ref an)] [(.ref sa)])
  obtain ⟨b5, T5, h5, kk5, X5, e5, E5, hS5, hk5, hZ5, hown5, st5⟩ := own_ldc X4 hx hZ3 hown3 (hw _ (List.mem_of_getElem? (i := 88) rfl)) (own_wS hw) e4 hS3 hk3 (g := (mkF m 33 #[.val (.ref ob), .val (.ref sa), .val (.double x2), .second, .val (.double x3), .second, .val (.double x4), .second, .val (.double x5), .second, .val (.double FP.dconst0), .second, .val (.double FP.dconst0), .second, .val (.ref an)] [(.ref sa)])) rfl (hb hby d1_33) (n := 8) (by decide) (by decide) (by decide) (by decide)
  refine own_step st5 ?_
  show own_Go p e below P T5 (mkF m 35 #[.val (.ref ob), .val (.ref sa), .val (.double x2), .second, .val (.double x3), .second, .val (.double x4), .second, .val (.double x5), .second, .val (.double FP.dconst0), .second, .val (.double FP.dconst0), .second, .val (.ref an)] [(.ref b5), (.ref sa)])
  refine own_step (fun _ k => XS.dload X5.here hx rfl (hb hby d1_35) rfl k) ?_
  show own_Go p e below P T5 (mkF m 37 #[.val (.ref ob), .val (.ref sa), .val (.double x2), .second, .val (.double x3), .second, .val (.double x4), .second, .val (.double x5), .second, .val (.double FP.dconst0), .second, .val (.double FP.dconst0), .second, .val (.ref an)] [(.double x3), (.ref b5), (.ref sa)])
  obtain ⟨_, _, ⟨T6, L6, k6, n6⟩, -, X6, ⟨Lc6, hQ6, l6, y6, z6⟩, st6⟩ := Jvm.LawKit.callS X5 hx (y := (⟨"com/example/brinequil/brinequil/model/Component", "requirePositive", "(Ljava/lang/String;Ljava/lang/String;D)V"⟩ : MethodName)) hown5 (mvT hZ5 (hw _ (List.mem_of_getElem? (i := 76) rfl))) (mvT hZ5 (hw _ (List.mem_of_getElem? (i := 77) rfl))) (mvT hZ5 (hw _ (List.mem_of_getElem? (i := 6) rfl))) (mvT hZ5 (hw _ (List.mem_of_getElem? (i := 78) rfl))) (by decide) (backOf (W := 0) (rm13 l Z a0 hw [] sa b5 x3 h5 n0 (Nat.le_trans (Nat.le_trans Z0 E3.1) E5.1) f_x3 p_x3) hZ5 (hw _ (List.mem_of_getElem? (i := 78) rfl)) (hw _ (List.mem_of_getElem? (i := 6) rfl)) (by decide) (by decide)) (g := (mkF m 37 #[.val (.ref ob), .val (.ref sa), .val (.double x2), .second, .val (.double x3), .second, .val (.double x4), .second, .val (.double x5), .second, .val (.double FP.dconst0), .second, .val (.double FP.dconst0), .second, .val (.ref an)] [(.double x3), (.ref b5), (.ref sa)])) rfl (by rw [hml]; rfl) (argsL := [(.ref sa), (.ref b5), (.double x3)]) (rest := []) (lenOf pd__Ljava_lang_StringLjava_lang_StringD__V rfl) rfl (by show 2 * 0 + _ ≤ _; exact Nat.le_of_eq rfl) (hb hby d1_37) (fun _ _ => ⟨rfl, e5, (by decide : 4 + 0 ≤ _), (by decide : 24 + 0 ≤ _)⟩)
  dsimp only [Pt.U, Pt.locs, Pt.cells, Pt.slots] at X6 l6 y6 z6 st6 hQ6
  subst l6 y6 z6
  obtain ⟨rfl, N6q, e6⟩ := hQ6
  have N6 := Fr.app N4 N6q
  refine own_step st6 ?_
  show own_Go p e below P T6 (mkF m 40 #[.val (.ref ob), .val (.ref sa), .val (.double x2), .second, .val (.double x3), .second, .val (.double x4), .second, .val (.double x5), .second, .val (.double FP.dconst0), .second, .val (.double FP.dconst0), .second, .val (.ref an)] [])
  refine own_step (fun _ k => XS.aloadN X6.here hx rfl (hb hby d1_40) rfl rfl k) ?_
  show own_Go p e below P T6 (mkF m 41 #[.val (.ref ob), .val (.ref sa), .val (.double x2), .second, .val (.double x3), .second, .val (.double x4), .second, .val (.double x5), .second, .val (.double FP.dconst0), .second, .val (.double FP.dconst0), .second, .val (.ref an)] [(.ref sa)])
  obtain ⟨b7, T7, h7, kk7, X7, e7, E7, hS7, hk7, hZ7, hown7, st7⟩ := own_ldc X6 hx hZ5 hown5 (hw _ (List.mem_of_getElem? (i := 89) rfl)) (own_wS hw) e6 hS5 hk5 (g := (mkF m 41 #[.val (.ref ob), .val (.ref sa), .val (.double x2), .second, .val (.double x3), .second, .val (.double x4), .second, .val (.double x5), .second, .val (.double FP.dconst0), .second, .val (.double FP.dconst0), .second, .val (.ref an)] [(.ref sa)])) rfl (hb hby d1_41) (n := 4) (by decide) (by decide) (by decide) (by decide)
  refine own_step st7 ?_
  show own_Go p e below P T7 (mkF m 43 #[.val (.ref ob), .val (.ref sa), .val (.double x2), .second, .val (.double x3), .second, .val (.double x4), .second, .val (.double x5), .second, .val (.double FP.dconst0), .second, .val (.double FP.dconst0), .second, .val (.ref an)] [(.ref b7), (.ref sa)])
  refine own_step (fun _ k => XS.dload X7.here hx rfl (hb hby d1_43) rfl k) ?_
  show own_Go p e below P T7 (mkF m 45 #[.val (.ref ob), .val (.ref sa), .val (.double x2), .second, .val (.double x3), .second, .val (.double x4), .second, .val (.double x5), .second, .val (.double FP.dconst0), .second, .val (.double FP.dconst0), .second, .val (.ref an)] [(.double x4), (.ref b7), (.ref sa)])
  obtain ⟨_, _, ⟨T8, L8, k8, n8⟩, -, X8, ⟨Lc8, hQ8, l8, y8, z8⟩, st8⟩ := Jvm.LawKit.callS X7 hx (y := (⟨"com/example/brinequil/brinequil/model/Component", "requirePositive", "(Ljava/lang/String;Ljava/lang/String;D)V"⟩ : MethodName)) hown7 (mvT hZ7 (hw _ (List.mem_of_getElem? (i := 76) rfl))) (mvT hZ7 (hw _ (List.mem_of_getElem? (i := 77) rfl))) (mvT hZ7 (hw _ (List.mem_of_getElem? (i := 6) rfl))) (mvT hZ7 (hw _ (List.mem_of_getElem? (i := 78) rfl))) (by decide) (backOf (W := 0) (rm13 l Z a0 hw [] sa b7 x4 h7 n0 (Nat.le_trans (Nat.le_trans (Nat.le_trans Z0 E3.1) E5.1) E7.1) f_x4 p_x4) hZ7 (hw _ (List.mem_of_getElem? (i := 78) rfl)) (hw _ (List.mem_of_getElem? (i := 6) rfl)) (by decide) (by decide)) (g := (mkF m 45 #[.val (.ref ob), .val (.ref sa), .val (.double x2), .second, .val (.double x3), .second, .val (.double x4), .second, .val (.double x5), .second, .val (.double FP.dconst0), .second, .val (.double FP.dconst0), .second, .val (.ref an)] [(.double x4), (.ref b7), (.ref sa)])) rfl (by rw [hml]; rfl) (argsL := [(.ref sa), (.ref b7), (.double x4)]) (rest := []) (lenOf pd__Ljava_lang_StringLjava_lang_StringD__V rfl) rfl (by show 2 * 0 + _ ≤ _; exact Nat.le_of_eq rfl) (hb hby d1_45) (fun _ _ => ⟨rfl, e7, (by decide : 6 + 0 ≤ _), (by decide : 32 + 0 ≤ _)⟩)
  dsimp only [Pt.U, Pt.locs, Pt.cells, Pt.slots] at X8 l8 y8 z8 st8 hQ8
  subst l8 y8 z8
  obtain ⟨rfl, N8q, e8⟩ := hQ8
  have N8 := Fr.app N6 N8q
  refine own_step st8 ?_
  show own_Go p e below P T8 (mkF m 48 #[.val (.ref ob), .val (.ref sa), .val (.double x2), .second, .val (.double x3), .second, .val (.double x4), .second, .val (.double x5), .second, .val (.double FP.dconst0), .second, .val (.double FP.dconst0), .second, .val (.ref an)] [])
  refine own_step (fun _ k => XS.dload X8.here hx rfl (hb hby d1_48) rfl k) ?_
  show own_Go p e below P T8 (mkF m 50 #[.val (.ref ob), .val (.ref sa), .val (.double x2), .second, .val (.double x3), .second, .val (.double x4), .second, .val (.double x5), .second, .val (.double FP.dconst0), .second, .val (.double FP.dconst0), .second, .val (.ref an)] [(.double x5)])
  obtain ⟨_, _, ⟨T9, L9, k9, n9⟩, -, X9, ⟨Lc9, hQ9, l9, y9, z9⟩, st9⟩ := Jvm.LawKit.callS X8 hx (y := (⟨"java/lang/Double", "isFinite", "(D)Z"⟩ : MethodName)) hown7 (mvT hZ7 (hw _ (List.mem_of_getElem? (i := 79) rfl))) (mvT hZ7 (hw _ (List.mem_of_getElem? (i := 80) rfl))) (mvT hZ7 (hw _ (List.mem_of_getElem? (i := 81) rfl))) (mvT hZ7 (hw _ (List.mem_of_getElem? (i := 82) rfl))) (by decide) (backOf (W := 0) (rm14 l Z a0 hw [] x5 h7 n0 (Nat.le_trans (Nat.le_trans (Nat.le_trans Z0 E3.1) E5.1) E7.1) f_x5) hZ7 (hw _ (List.mem_of_getElem? (i := 82) rfl)) (hw _ (List.mem_of_getElem? (i := 81) rfl)) (by decide) (by decide)) (g := (mkF m 50 #[.val (.ref ob), .val (.ref sa), .val (.double x2), .second, .val (.double x3), .second, .val (.double x4), .second, .val (.double x5), .second, .val (.double FP.dconst0), .second, .val (.double FP.dconst0), .second, .val (.ref an)] [(.double x5)])) rfl (by rw [hml]; rfl) (argsL := [(.double x5)]) (rest := []) (lenOf pd__D__Z rfl) rfl (by show 2 * 0 + _ ≤ _; exact Nat.le_of_eq rfl) (hb hby d1_50) (fun _ _ => ⟨rfl, e8, (by decide : 6 + 0 ≤ _), (by decide : 32 + 0 ≤ _)⟩)
  dsimp only [Pt.U, Pt.locs, Pt.cells, Pt.slots] at X9 l9 y9 z9 st9 hQ9
  subst l9 y9 z9
  obtain ⟨rfl, N9q, e9⟩ := hQ9
  have N9 := Fr.app N8 N9q
  refine own_step st9 ?_
  show own_Go p e below P T9 (mkF m 53 #[.val (.ref ob), .val (.ref sa), .val (.double x2), .second, .val (.double x3), .second, .val (.double x4), .second, .val (.double x5), .second, .val (.double FP.dconst0), .second, .val (.double FP.dconst0), .second, .val (.ref an)] [(.int (1 : Int32))])
  refine own_step (fun _ k => XS.ifYes X9.here hx rfl (pc0 := 53) (pc' := 72) rfl (hb hby d1_53) rfl ((if0 _ _).trans (feq (by decide : ¬ ((1 : Int32) = (0 : Int32)))).2) (by decide) (by decide) k) ?_
  show own_Go p e below P T9 (mkF m 72 #[.val (.ref ob), .val (.ref sa), .val (.double x2), .second, .val (.double x3), .second, .val (.double x4), .second, .val (.double x5), .second, .val (.double FP.dconst0), .second, .val (.double FP.dconst0), .second, .val (.ref an)] [])
  refine own_step (fun _ k => XS.aload X9.here hx rfl (hb hby d1_72) rfl rfl k) ?_
  show own_Go p e below P T9 (mkF m 74 #[.val (.ref ob), .val (.ref sa), .val (.double x2), .second, .val (.double x3), .second, .val (.double x4), .second, .val (.double x5), .second, .val (.double FP.dconst0), .second, .val (.double FP.dconst0), .second, .val (.ref an)] [(.ref an)])
  refine own_step (fun _ k => XS.ifnonnullYes X9.here hx rfl (pc0 := 74) (pc' := 91) rfl (hb hby d1_74) rfl (by decide) (by decide) k) ?_
  show own_Go p e below P T9 (mkF m 91 #[.val (.ref ob), .val (.ref sa), .val (.double x2), .second, .val (.double x3), .second, .val (.double x4), .second, .val (.double x5), .second, .val (.double FP.dconst0), .second, .val (.double FP.dconst0), .second, .val (.ref an)] [])
  refine own_step (fun _ k => XS.aload X9.here hx rfl (hb hby d1_91) rfl rfl k) ?_
  show own_Go p e below P T9 (mkF m 93 #[.val (.ref ob), .val (.ref sa), .val (.double x2), .second, .val (.double x3), .second, .val (.double x4), .second, .val (.double x5), .second, .val (.double FP.dconst0), .second, .val (.double FP.dconst0), .second, .val (.ref an)] [(.ref an)])
  obtain ⟨T10, X10, e10, st10⟩ := getS2 X9 hx hZ7 hown7 (host := "") (Or.inl (hw _ (List.mem_of_getElem? (i := 90) rfl))) Via.refl e9 (((S_NONE.ext E3).ext E5).ext E7) (g := (mkF m 93 #[.val (.ref ob), .val (.ref sa), .val (.double x2), .second, .val (.double x3), .second, .val (.double x4), .second, .val (.double x5), .second, .val (.double FP.dconst0), .second, .val (.double FP.dconst0), .second, .val (.ref an)] [(.ref an)])) rfl (hb hby d1_93)
  refine own_step st10 ?_
  show own_Go p e below P T10 (mkF m 96 #[.val (.ref ob), .val (.ref sa), .val (.double x2), .second, .val (.double x3), .second, .val (.double x4), .second, .val (.double x5), .second, .val (.double FP.dconst0), .second, .val (.double FP.dconst0), .second, .val (.ref an)] [(.ref an), (.ref an)])
  refine own_step (fun _ k => Jvm.RoadKit.acmp (g := (mkF m 96 #[.val (.ref ob), .val (.ref sa), .val (.double x2), .second, .val (.double x3), .second, .val (.double x4), .second, .val (.double x5), .second, .val (.double FP.dconst0), .second, .val (.double FP.dconst0), .second, .val (.ref an)] [(.ref an), (.ref an)])) X10 hx rfl rfl rfl (pc0 := 96) (pc' := 99) (same := true) rfl (hb hby d1_96) rfl (decide_eq_true rfl) (by decide) (by decide) k) ?_
  show own_Go p e below P T10 (mkF m 99 #[.val (.ref ob), .val (.ref sa), .val (.double x2), .second, .val (.double x3), .second, .val (.double x4), .second, .val (.double x5), .second, .val (.double FP.dconst0), .second, .val (.double FP.dconst0), .second, .val (.ref an)] [])
  refine own_step (fun _ k => XS.dload X10.here hx rfl (hb hby d1_99) rfl k) ?_
  show own_Go p e below P T10 (mkF m 101 #[.val (.ref ob), .val (.ref sa), .val (.double x2), .second, .val (.double x3), .second, .val (.double x4), .second, .val (.double x5), .second, .val (.double FP.dconst0), .second, .val (.double FP.dconst0), .second, .val (.ref an)] [(.double FP.dconst0)])
  refine own_step (fun _ k => XS.dconst0 X10.here hx rfl (hb hby d1_101) rfl k) ?_
  show own_Go p e below P T10 (mkF m 102 #[.val (.ref ob), .val (.ref sa), .val (.double x2), .second, .val (.double x3), .second, .val (.double x4), .second, .val (.double x5), .second, .val (.double FP.dconst0), .second, .val (.double FP.dconst0), .second, .val (.ref an)] [(.double FP.dconst0), (.double FP.dconst0)])
  refine own_step (fun _ k => XS.dcmpS X10.here hx rfl (hb hby d1_102) rfl rfl k) ?_
  show own_Go p e below P T10 (mkF m 103 #[.val (.ref ob), .val (.ref sa), .val (.double x2), .second, .val (.double x3), .second, .val (.double x4), .second, .val (.double x5), .second, .val (.double FP.dconst0), .second, .val (.double FP.dconst0), .second, .val (.ref an)] [(.int (cmpValue (FP.dcmp FP.dconst0 FP.dconst0) .l))])
  refine own_step (fun _ k => XS.ifNo X10.here hx rfl (hb hby d1_103) rfl ((if0 _ _).trans (teq own_d00).2) k) ?_
  show own_Go p e below P T10 (mkF m 106 #[.val (.ref ob), .val (.ref sa), .val (.double x2), .second, .val (.double x3), .second, .val (.double x4), .second, .val (.double x5), .second, .val (.double FP.dconst0), .second, .val (.double FP.dconst0), .second, .val (.ref an)] [])
  refine own_step (fun _ k => XS.dload X10.here hx rfl (hb hby d1_106) rfl k) ?_
  show own_Go p e below P T10 (mkF m 108 #[.val (.ref ob), .val (.ref sa), .val (.double x2), .second, .val (.double x3), .second, .val (.double x4), .second, .val (.double x5), .second, .val (.double FP.dconst0), .second, .val (.double FP.dconst0), .second, .val (.ref an)] [(.double FP.dconst0)])
  refine own_step (fun _ k => XS.dconst0 X10.here hx rfl (hb hby d1_108) rfl k) ?_
  show own_Go p e below P T10 (mkF m 109 #[.val (.ref ob), .val (.ref sa), .val (.double x2), .second, .val (.double x3), .second, .val (.double x4), .second, .val (.double x5), .second, .val (.double FP.dconst0), .second, .val (.double FP.dconst0), .second, .val (.ref an)] [(.double FP.dconst0), (.double FP.dconst0)])
  refine own_step (fun _ k => XS.dcmpS X10.here hx rfl (hb hby d1_109) rfl rfl k) ?_
  show own_Go p e below P T10 (mkF m 110 #[.val (.ref ob), .val (.ref sa), .val (.double x2), .second, .val (.double x3), .second, .val (.double x4), .second, .val (.double x5), .second, .val (.double FP.dconst0), .second, .val (.double FP.dconst0), .second, .val (.ref an)] [(.int (cmpValue (FP.dcmp FP.dconst0 FP.dconst0) .l))])
  refine own_step (fun _ k => XS.ifYes X10.here hx rfl (pc0 := 110) (pc' := 147) rfl (hb hby d1_110) rfl ((if0 _ _).trans (teq own_d00).1) (by decide) (by decide) k) ?_
  show own_Go p e below P T10 (mkF m 147 #[.val (.ref ob), .val (.ref sa), .val (.double x2), .second, .val (.double x3), .second, .val (.double x4), .second, .val (.double x5), .second, .val (.double FP.dconst0), .second, .val (.double FP.dconst0), .second, .val (.ref an)] [])
  refine own_step (fun _ k => XS.aloadN X10.here hx rfl (hb hby d1_147) rfl rfl k) ?_
  show own_Go p e below P T10 (mkF m 148 #[.val (.ref ob), .val (.ref sa), .val (.double x2), .second, .val (.double x3), .second, .val (.double x4), .second, .val (.double x5), .second, .val (.double FP.dconst0), .second, .val (.double FP.dconst0), .second, .val (.ref an)] [(.ref ob)])
  refine own_step (fun _ k => XS.aloadN X10.here hx rfl (hb hby d1_148) rfl rfl k) ?_
  show own_Go p e below P T10 (mkF m 149 #[.val (.ref ob), .val (.ref sa), .val (.double x2), .second, .val (.double x3), .second, .val (.double x4), .second, .val (.double x5), .second, .val (.double FP.dconst0), .second, .val (.double FP.dconst0), .second, .val (.ref an)] [(.ref sa), (.ref ob)])
  obtain ⟨T11, h11, X11, e11, W11, st11⟩ := putF X10 hx hZ7 hown7 (host := "") (Or.inl (hw _ (List.mem_of_getElem? (i := 91) rfl))) Via.refl e10 (((F_name_ob.ext E3).ext E5).ext E7) (((E_ob.ext E3).ext E5).ext E7) (Or.inr ⟨(hw _ (List.mem_of_getElem? (i := 92) rfl)), rfl, hnm⟩) (hw _ (List.mem_of_getElem? (i := 5) rfl)) (ty := (.object "java/lang/String")) (by decide) rfl rfl (g := (mkF m 149 #[.val (.ref ob), .val (.ref sa), .val (.double x2), .second, .val (.double x3), .second, .val (.double x4), .second, .val (.double x5), .second, .val (.double FP.dconst0), .second, .val (.double FP.dconst0), .second, .val (.ref an)] [(.ref sa), (.ref ob)])) rfl rfl (hb hby d1_149)
  have Fw11 := (((F_name_ob.ext E3).ext E5).ext E7).same W11
  have N11 := Fr.snoc X11 N9 g_ob
  refine own_step st11 ?_
  show own_Go p e below P T11 (mkF m 152 #[.val (.ref ob), .val (.ref sa), .val (.double x2), .second, .val (.double x3), .second, .val (.double x4), .second, .val (.double x5), .second, .val (.double FP.dconst0), .second, .val (.double FP.dconst0), .second, .val (.ref an)] [])
  refine own_step (fun _ k => XS.aloadN X11.here hx rfl (hb hby d1_152) rfl rfl k) ?_
  show own_Go p e below P T11 (mkF m 153 #[.val (.ref ob), .val (.ref sa), .val (.double x2), .second, .val (.double x3), .second, .val (.double x4), .second, .val (.double x5), .second, .val (.double FP.dconst0), .second, .val (.double FP.dconst0), .second, .val (.ref an)] [(.ref ob)])
  refine own_step (fun _ k => XS.dloadN X11.here hx rfl (hb hby d1_153) rfl k) ?_
  show own_Go p e below P T11 (mkF m 154 #[.val (.ref ob), .val (.ref sa), .val (.double x2), .second, .val (.double x3), .second, .val (.double x4), .second, .val (.double x5), .second, .val (.double FP.dconst0), .second, .val (.double FP.dconst0), .second, .val (.ref an)] [(.double x2), (.ref ob)])
  obtain ⟨T12, h12, X12, e12, W12, st12⟩ := putF X11 hx hZ7 hown7 (host := "") (Or.inl (hw _ (List.mem_of_getElem? (i := 93) rfl))) Via.refl e11 ((((F_criticalTemperature_ob.ext E3).ext E5).ext E7).other W11 (Or.inr (slot_ne (Or.inr (hw _ (List.mem_of_getElem? (i := 94) rfl))) (Or.inr (hw _ (List.mem_of_getElem? (i := 92) rfl))) (by decide) (t := .double) (t' := (.object "java/lang/String")) (by decide) (by decide)))) ((((E_ob.ext E3).ext E5).ext E7).wr W11) (Or.inr ⟨(hw _ (List.mem_of_getElem? (i := 94) rfl)), rfl, hnm⟩) (hw _ (List.mem_of_getElem? (i := 5) rfl)) (ty := .double) (by decide) rfl rfl (g := (mkF m 154 #[.val (.ref ob), .val (.ref sa), .val (.double x2), .second, .val (.double x3), .second, .val (.double x4), .second, .val (.double x5), .second, .val (.double FP.dconst0), .second, .val (.double FP.dconst0), .second, .val (.ref an)] [(.double x2), (.ref ob)])) rfl rfl (hb hby d1_154)
  have Fw12 := ((((F_criticalTemperature_ob.ext E3).ext E5).ext E7).other W11 (Or.inr (slot_ne (Or.inr (hw _ (List.mem_of_getElem? (i := 94) rfl))) (Or.inr (hw _ (List.mem_of_getElem? (i := 92) rfl))) (by decide) (t := .double) (t' := (.object "java/lang/String")) (by decide) (by decide)))).same W12
  have N12 := Fr.snoc X12 N11 g_ob
  refine own_step st12 ?_
  show own_Go p e below P T12 (mkF m 157 #[.val (.ref ob), .val (.ref sa), .val (.double x2), .second, .val (.double x3), .second, .val (.double x4), .second, .val (.double x5), .second, .val (.double FP.dconst0), .second, .val (.double FP.dconst0), .second, .val (.ref an)] [])
  refine own_step (fun _ k => XS.aloadN X12.here hx rfl (hb hby d1_157) rfl rfl k) ?_
  show own_Go p e below P T12 (mkF m 158 #[.val (.ref ob), .val (.ref sa), .val (.double x2), .second, .val (.double x3), .second, .val (.double x4), .second, .val (.double x5), .second, .val (.double FP.dconst0), .second, .val (.double FP.dconst0), .second, .val (.ref an)] [(.ref ob)])
  refine own_step (fun _ k => XS.dload X12.here hx rfl (hb hby d1_158) rfl k) ?_
  show own_Go p e below P T12 (mkF m 160 #[.val (.ref ob), .val (.ref sa), .val (.double x2), .second, .val (.double x3), .second, .val (.double x4), .second, .val (.double x5), .second, .val (.double FP.dconst0), .second, .val (.double FP.dconst0), .second, .val (.ref an)] [(.double x3), (.ref ob)])
  obtain ⟨T13, h13, X13, e13, W13, st13⟩ := putF X12 hx hZ7 hown7 (host := "") (Or.inl (hw _ (List.mem_of_getElem? (i := 95) rfl))) Via.refl e12 (((((F_a0_ob.ext E3).ext E5).ext E7).other W11 (Or.inr (slot_ne (Or.inr (hw _ (List.mem_of_getElem? (i := 96) rfl))) (Or.inr (hw _ (List.mem_of_getElem? (i := 92) rfl))) (by decide) (t := .double) (t' := (.object "java/lang/String")) (by decide) (by decide)))).other W12 (Or.inr (slot_ne (Or.inr (hw _ (List.mem_of_getElem? (i := 96) rfl))) (Or.inr (hw _ (List.mem_of_getElem? (i := 94) rfl))) (by decide) (t := .double) (t' := .double) (by decide) (by decide)))) (((((E_ob.ext E3).ext E5).ext E7).wr W11).wr W12) (Or.inr ⟨(hw _ (List.mem_of_getElem? (i := 96) rfl)), rfl, hnm⟩) (hw _ (List.mem_of_getElem? (i := 5) rfl)) (ty := .double) (by decide) rfl rfl (g := (mkF m 160 #[.val (.ref ob), .val (.ref sa), .val (.double x2), .second, .val (.double x3), .second, .val (.double x4), .second, .val (.double x5), .second, .val (.double FP.dconst0), .second, .val (.double FP.dconst0), .second, .val (.ref an)] [(.double x3), (.ref ob)])) rfl rfl (hb hby d1_160)
  have Fw13 := (((((F_a0_ob.ext E3).ext E5).ext E7).other W11 (Or.inr (slot_ne (Or.inr (hw _ (List.mem_of_getElem? (i := 96) rfl))) (Or.inr (hw _ (List.mem_of_getElem? (i := 92) rfl))) (by decide) (t := .double) (t' := (.object "java/lang/String")) (by decide) (by decide)))).other W12 (Or.inr (slot_ne (Or.inr (hw _ (List.mem_of_getElem? (i := 96) rfl))) (Or.inr (hw _ (List.mem_of_getElem? (i := 94) rfl))) (by decide) (t := .double) (t' := .double) (by decide) (by decide)))).same W13
  have N13 := Fr.snoc X13 N12 g_ob
  refine own_step st13 ?_
  show own_Go p e below P T13 (mkF m 163 #[.val (.ref ob), .val (.ref sa), .val (.double x2), .second, .val (.double x3), .second, .val (.double x4), .second, .val (.double x5), .second, .val (.double FP.dconst0), .second, .val (.double FP.dconst0), .second, .val (.ref an)] [])
  refine own_step (fun _ k => XS.aloadN X13.here hx rfl (hb hby d1_163) rfl rfl k) ?_
  show own_Go p e below P T13 (mkF m 164 #[.val (.ref ob), .val (.ref sa), .val (.double x2), .second, .val (.double x3), .second, .val (.double x4), .second, .val (.double x5), .second, .val (.double FP.dconst0), .second, .val (.double FP.dconst0), .second, .val (.ref an)] [(.ref ob)])
  refine own_step (fun _ k => XS.dload X13.here hx rfl (hb hby d1_164) rfl k) ?_
  show own_Go p e below P T13 (mkF m 166 #[.val (.ref ob), .val (.ref sa), .val (.double x2), .second, .val (.double x3), .second, .val (.double x4), .second, .val (.double x5), .second, .val (.double FP.dconst0), .second, .val (.double FP.dconst0), .second, .val (.ref an)] [(.double x4), (.ref ob)])
  obtain ⟨T14, h14, X14, e14, W14, st14⟩ := putF X13 hx hZ7 hown7 (host := "") (Or.inl (hw _ (List.mem_of_getElem? (i := 97) rfl))) Via.refl e13 ((((((F_b_ob.ext E3).ext E5).ext E7).other W11 (Or.inr (slot_ne (Or.inr (hw _ (List.mem_of_getElem? (i := 98) rfl))) (Or.inr (hw _ (List.mem_of_getElem? (i := 92) rfl))) (by decide) (t := .double) (t' := (.object "java/lang/String")) (by decide) (by decide)))).other W12 (Or.inr (slot_ne (Or.inr (hw _ (List.mem_of_getElem? (i := 98) rfl))) (Or.inr (hw _ (List.mem_of_getElem? (i := 94) rfl))) (by decide) (t := .double) (t' := .double) (by decide) (by decide)))).other W13 (Or.inr (slot_ne (Or.inr (hw _ (List.mem_of_getElem? (i := 98) rfl))) (Or.inr (hw _ (List.mem_of_getElem? (i := 96) rfl))) (by decide) (t := .double) (t' := .double) (by decide) (by decide)))) ((((((E_ob.ext E3).ext E5).ext E7).wr W11).wr W12).wr W13) (Or.inr ⟨(hw _ (List.mem_of_getElem? (i := 98) rfl)), rfl, hnm⟩) (hw _ (List.mem_of_getElem? (i := 5) rfl)) (ty := .double) (by decide) rfl rfl (g := (mkF m 166 #[.val (.ref ob), .val (.ref sa), .val (.double x2), .second, .val (.double x3), .second, .val (.double x4), .second, .val (.double x5), .second, .val (.double FP.dconst0), .second, .val (.double FP.dconst0), .second, .val (.ref an)] [(.double x4), (.ref ob)])) rfl rfl (hb hby d1_166)
  have Fw14 := ((((((F_b_ob.ext E3).ext E5).ext E7).other W11 (Or.inr (slot_ne (Or.inr (hw _ (List.mem_of_getElem? (i := 98) rfl))) (Or.inr (hw _ (List.mem_of_getElem? (i := 92) rfl))) (by decide) (t := .double) (t' := (.object "java/lang/String")) (by decide) (by decide)))).other W12 (Or.inr (slot_ne (Or.inr (hw _ (List.mem_of_getElem? (i := 98) rfl))) (Or.inr (hw _ (List.mem_of_getElem? (i := 94) rfl))) (by decide) (t := .double) (t' := .double) (by decide) (by decide)))).other W13 (Or.inr (slot_ne (Or.inr (hw _ (List.mem_of_getElem? (i := 98) rfl))) (Or.inr (hw _ (List.mem_of_getElem? (i := 96) rfl))) (by decide) (t := .double) (t' := .double) (by decide) (by decide)))).same W14
  have N14 := Fr.snoc X14 N13 g_ob
  refine own_step st14 ?_
  show own_Go p e below P T14 (mkF m 169 #[.val (.ref ob), .val (.ref sa), .val (.double x2), .second, .val (.double x3), .second, .val (.double x4), .second, .val (.double x5), .second, .val (.double FP.dconst0), .second, .val (.double FP.dconst0), .second, .val (.ref an)] [])
  refine own_step (fun _ k => XS.aloadN X14.here hx rfl (hb hby d1_169) rfl rfl k) ?_
  show own_Go p e below P T14 (mkF m 170 #[.val (.ref ob), .val (.ref sa), .val (.double x2), .second, .val (.double x3), .second, .val (.double x4), .second, .val (.double x5), .second, .val (.double FP.dconst0), .second, .val (.double FP.dconst0), .second, .val (.ref an)] [(.ref ob)])
  refine own_step (fun _ k => XS.dload X14.here hx rfl (hb hby d1_170) rfl k) ?_
  show own_Go p e below P T14 (mkF m 172 #[.val (.ref ob), .val (.ref sa), .val (.double x2), .second, .val (.double x3), .second, .val (.double x4), .second, .val (.double x5), .second, .val (.double FP.dconst0), .second, .val (.double FP.dconst0), .second, .val (.ref an)] [(.double x5), (.ref ob)])
  obtain ⟨T15, h15, X15, e15, W15, st15⟩ := putF X14 hx hZ7 hown7 (host := "") (Or.inl (hw _ (List.mem_of_getElem? (i := 99) rfl))) Via.refl e14 (((((((F_c1_ob.ext E3).ext E5).ext E7).other W11 (Or.inr (slot_ne (Or.inr (hw _ (List.mem_of_getElem? (i := 100) rfl))) (Or.inr (hw _ (List.mem_of_getElem? (i := 92) rfl))) (by decide) (t := .double) (t' := (.object "java/lang/String")) (by decide) (by decide)))).other W12 (Or.inr (slot_ne (Or.inr (hw _ (List.mem_of_getElem? (i := 100) rfl))) (Or.inr (hw _ (List.mem_of_getElem? (i := 94) rfl))) (by decide) (t := .double) (t' := .double) (by decide) (by decide)))).other W13 (Or.inr (slot_ne (Or.inr (hw _ (List.mem_of_getElem? (i := 100) rfl))) (Or.inr (hw _ (List.mem_of_getElem? (i := 96) rfl))) (by decide) (t := .double) (t' := .double) (by decide) (by decide)))).other W14 (Or.inr (slot_ne (Or.inr (hw _ (List.mem_of_getElem? (i := 100) rfl))) (Or.inr (hw _ (List.mem_of_getElem? (i := 98) rfl))) (by decide) (t := .double) (t' := .double) (by decide) (by decide)))) (((((((E_ob.ext E3).ext E5).ext E7).wr W11).wr W12).wr W13).wr W14) (Or.inr ⟨(hw _ (List.mem_of_getElem? (i := 100) rfl)), rfl, hnm⟩) (hw _ (List.mem_of_getElem? (i := 5) rfl)) (ty := .double) (by decide) rfl rfl (g := (mkF m 172 #[.val (.ref ob), .val (.ref sa), .val (.double x2), .second, .val (.double x3), .second, .val (.double x4), .second, .val (.double x5), .second, .val (.double FP.dconst0), .second, .val (.double FP.dconst0), .second, .val (.ref an)] [(.double x5), (.ref ob)])) rfl rfl (hb hby d1_172)
  have Fw15 := (((((((F_c1_ob.ext E3).ext E5).ext E7).other W11 (Or.inr (slot_ne (Or.inr (hw _ (List.mem_of_getElem? (i := 100) rfl))) (Or.inr (hw _ (List.mem_of_getElem? (i := 92) rfl))) (by decide) (t := .double) (t' := (.object "java/lang/String")) (by decide) (by decide)))).other W12 (Or.inr (slot_ne (Or.inr (hw _ (List.mem_of_getElem? (i := 100) rfl))) (Or.inr (hw _ (List.mem_of_getElem? (i := 94) rfl))) (by decide) (t := .double) (t' := .double) (by decide) (by decide)))).other W13 (Or.inr (slot_ne (Or.inr (hw _ (List.mem_of_getElem? (i := 100) rfl))) (Or.inr (hw _ (List.mem_of_getElem? (i := 96) rfl))) (by decide) (t := .double) (t' := .double) (by decide) (by decide)))).other W14 (Or.inr (slot_ne (Or.inr (hw _ (List.mem_of_getElem? (i := 100) rfl))) (Or.inr (hw _ (List.mem_of_getElem? (i := 98) rfl))) (by decide) (t := .double) (t' := .double) (by decide) (by decide)))).same W15
  have N15 := Fr.snoc X15 N14 g_ob
  refine own_step st15 ?_
  show own_Go p e below P T15 (mkF m 175 #[.val (.ref ob), .val (.ref sa), .val (.double x2), .second, .val (.double x3), .second, .val (.double x4), .second, .val (.double x5), .second, .val (.double FP.dconst0), .second, .val (.double FP.dconst0), .second, .val (.ref an)] [])
  refine own_step (fun _ k => XS.aloadN X15.here hx rfl (hb hby d1_175) rfl rfl k) ?_
  show own_Go p e below P T15 (mkF m 176 #[.val (.ref ob), .val (.ref sa), .val (.double x2), .second, .val (.double x3), .second, .val (.double x4), .second, .val (.double x5), .second, .val (.double FP.dconst0), .second, .val (.double FP.dconst0), .second, .val (.ref an)] [(.ref ob)])
  refine own_step (fun _ k => XS.dload X15.here hx rfl (hb hby d1_176) rfl k) ?_
  show own_Go p e below P T15 (mkF m 178 #[.val (.ref ob), .val (.ref sa), .val (.double x2), .second, .val (.double x3), .second, .val (.double x4), .second, .val (.double x5), .second, .val (.double FP.dconst0), .second, .val (.double FP.dconst0), .second, .val (.ref an)] [(.double FP.dconst0), (.ref ob)])
  obtain ⟨T16, h16, X16, e16, W16, st16⟩ := putF X15 hx hZ7 hown7 (host := "") (Or.inl (hw _ (List.mem_of_getElem? (i := 101) rfl))) Via.refl e15 ((((((((F_associationEnergy_ob.ext E3).ext E5).ext E7).other W11 (Or.inr (slot_ne (Or.inr (hw _ (List.mem_of_getElem? (i := 102) rfl))) (Or.inr (hw _ (List.mem_of_getElem? (i := 92) rfl))) (by decide) (t := .double) (t' := (.object "java/lang/String")) (by decide) (by decide)))).other W12 (Or.inr (slot_ne (Or.inr (hw _ (List.mem_of_getElem? (i := 102) rfl))) (Or.inr (hw _ (List.mem_of_getElem? (i := 94) rfl))) (by decide) (t := .double) (t' := .double) (by decide) (by decide)))).other W13 (Or.inr (slot_ne (Or.inr (hw _ (List.mem_of_getElem? (i := 102) rfl))) (Or.inr (hw _ (List.mem_of_getElem? (i := 96) rfl))) (by decide) (t := .double) (t' := .double) (by decide) (by decide)))).other W14 (Or.inr (slot_ne (Or.inr (hw _ (List.mem_of_getElem? (i := 102) rfl))) (Or.inr (hw _ (List.mem_of_getElem? (i := 98) rfl))) (by decide) (t := .double) (t' := .double) (by decide) (by decide)))).other W15 (Or.inr (slot_ne (Or.inr (hw _ (List.mem_of_getElem? (i := 102) rfl))) (Or.inr (hw _ (List.mem_of_getElem? (i := 100) rfl))) (by decide) (t := .double) (t' := .double) (by decide) (by decide)))) ((((((((E_ob.ext E3).ext E5).ext E7).wr W11).wr W12).wr W13).wr W14).wr W15) (Or.inr ⟨(hw _ (List.mem_of_getElem? (i := 102) rfl)), rfl, hnm⟩) (hw _ (List.mem_of_getElem? (i := 5) rfl)) (ty := .double) (by decide) rfl rfl (g := (mkF m 178 #[.val (.ref ob), .val (.ref sa), .val (.double x2), .second, .val (.double x3), .second, .val (.double x4), .second, .val (.double x5), .second, .val (.double FP.dconst0), .second, .val (.double FP.dconst0), .second, .val (.ref an)] [(.double FP.dconst0), (.ref ob)])) rfl rfl (hb hby d1_178)
  have Fw16 := ((((((((F_associationEnergy_ob.ext E3).ext E5).ext E7).other W11 (Or.inr (slot_ne (Or.inr (hw _ (List.mem_of_getElem? (i := 102) rfl))) (Or.inr (hw _ (List.mem_of_getElem? (i := 92) rfl))) (by decide) (t := .double) (t' := (.object "java/lang/String")) (by decide) (by decide)))).other W12 (Or.inr (slot_ne (Or.inr (hw _ (List.mem_of_getElem? (i := 102) rfl))) (Or.inr (hw _ (List.mem_of_getElem? (i := 94) rfl))) (by decide) (t := .double) (t' := .double) (by decide) (by decide)))).other W13 (Or.inr (slot_ne (Or.inr (hw _ (List.mem_of_getElem? (i := 102) rfl))) (Or.inr (hw _ (List.mem_of_getElem? (i := 96) rfl))) (by decide) (t := .double) (t' := .double) (by decide) (by decide)))).other W14 (Or.inr (slot_ne (Or.inr (hw _ (List.mem_of_getElem? (i := 102) rfl))) (Or.inr (hw _ (List.mem_of_getElem? (i := 98) rfl))) (by decide) (t := .double) (t' := .double) (by decide) (by decide)))).other W15 (Or.inr (slot_ne (Or.inr (hw _ (List.mem_of_getElem? (i := 102) rfl))) (Or.inr (hw _ (List.mem_of_getElem? (i := 100) rfl))) (by decide) (t := .double) (t' := .double) (by decide) (by decide)))).same W16
  have N16 := Fr.snoc X16 N15 g_ob
  refine own_step st16 ?_
  show own_Go p e below P T16 (mkF m 181 #[.val (.ref ob), .val (.ref sa), .val (.double x2), .second, .val (.double x3), .second, .val (.double x4), .second, .val (.double x5), .second, .val (.double FP.dconst0), .second, .val (.double FP.dconst0), .second, .val (.ref an)] [])
  refine own_step (fun _ k => XS.aloadN X16.here hx rfl (hb hby d1_181) rfl rfl k) ?_
  show own_Go p e below P T16 (mkF m 182 #[.val (.ref ob), .val (.ref sa), .val (.double x2), .second, .val (.double x3), .second, .val (.double x4), .second, .val (.double x5), .second, .val (.double FP.dconst0), .second, .val (.double FP.dconst0), .second, .val (.ref an)] [(.ref ob)])
  refine own_step (fun _ k => XS.dload X16.here hx rfl (hb hby d1_182) rfl k) ?_
  show own_Go p e below P T16 (mkF m 184 #[.val (.ref ob), .val (.ref sa), .val (.double x2), .second, .val (.double x3), .second, .val (.double x4), .second, .val (.double x5), .second, .val (.double FP.dconst0), .second, .val (.double FP.dconst0), .second, .val (.ref an)] [(.double FP.dconst0), (.ref ob)])
  obtain ⟨T17, h17, X17, e17, W17, st17⟩ := putF X16 hx hZ7 hown7 (host := "") (Or.inl (hw _ (List.mem_of_getElem? (i := 103) rfl))) Via.refl e16 (((((((((F_associationVolume_ob.ext E3).ext E5).ext E7).other W11 (Or.inr (slot_ne (Or.inr (hw _ (List.mem_of_getElem? (i := 104) rfl))) (Or.inr (hw _ (List.mem_of_getElem? (i := 92) rfl))) (by decide) (t := .double) (t' := (.object "java/lang/String")) (by decide) (by decide)))).other W12 (Or.inr (slot_ne (Or.inr (hw _ (List.mem_of_getElem? (i := 104) rfl))) (Or.inr (hw _ (List.mem_of_getElem? (i := 94) rfl))) (by decide) (t := .double) (t' := .double) (by decide) (by decide)))).other W13 (Or.inr (slot_ne (Or.inr (hw _ (List.mem_of_getElem? (i := 104) rfl))) (Or.inr (hw _ (List.mem_of_getElem? (i := 96) rfl))) (by decide) (t := .double) (t' := .double) (by decide) (by decide)))).other W14 (Or.inr (slot_ne (Or.inr (hw _ (List.mem_of_getElem? (i := 104) rfl))) (Or.inr (hw _ (List.mem_of_getElem? (i := 98) rfl))) (by decide) (t := .double) (t' := .double) (by decide) (by decide)))).other W15 (Or.inr (slot_ne (Or.inr (hw _ (List.mem_of_getElem? (i := 104) rfl))) (Or.inr (hw _ (List.mem_of_getElem? (i := 100) rfl))) (by decide) (t := .double) (t' := .double) (by decide) (by decide)))).other W16 (Or.inr (slot_ne (Or.inr (hw _ (List.mem_of_getElem? (i := 104) rfl))) (Or.inr (hw _ (List.mem_of_getElem? (i := 102) rfl))) (by decide) (t := .double) (t' := .double) (by decide) (by decide)))) (((((((((E_ob.ext E3).ext E5).ext E7).wr W11).wr W12).wr W13).wr W14).wr W15).wr W16) (Or.inr ⟨(hw _ (List.mem_of_getElem? (i := 104) rfl)), rfl, hnm⟩) (hw _ (List.mem_of_getElem? (i := 5) rfl)) (ty := .double) (by decide) rfl rfl (g := (mkF m 184 #[.val (.ref ob), .val (.ref sa), .val (.double x2), .second, .val (.double x3), .second, .val (.double x4), .second, .val (.double x5), .second, .val (.double FP.dconst0), .second, .val (.double FP.dconst0), .second, .val (.ref an)] [(.double FP.dconst0), (.ref ob)])) rfl rfl (hb hby d1_184)
  have Fw17 := (((((((((F_associationVolume_ob.ext E3).ext E5).ext E7).other W11 (Or.inr (slot_ne (Or.inr (hw _ (List.mem_of_getElem? (i := 104) rfl))) (Or.inr (hw _ (List.mem_of_getElem? (i := 92) rfl))) (by decide) (t := .double) (t' := (.object "java/lang/String")) (by decide) (by decide)))).other W12 (Or.inr (slot_ne (Or.inr (hw _ (List.mem_of_getElem? (i := 104) rfl))) (Or.inr (hw _ (List.mem_of_getElem? (i := 94) rfl))) (by decide) (t := .double) (t' := .double) (by decide) (by decide)))).other W13 (Or.inr (slot_ne (Or.inr (hw _ (List.mem_of_getElem? (i := 104) rfl))) (Or.inr (hw _ (List.mem_of_getElem? (i := 96) rfl))) (by decide) (t := .double) (t' := .double) (by decide) (by decide)))).other W14 (Or.inr (slot_ne (Or.inr (hw _ (List.mem_of_getElem? (i := 104) rfl))) (Or.inr (hw _ (List.mem_of_getElem? (i := 98) rfl))) (by decide) (t := .double) (t' := .double) (by decide) (by decide)))).other W15 (Or.inr (slot_ne (Or.inr (hw _ (List.mem_of_getElem? (i := 104) rfl))) (Or.inr (hw _ (List.mem_of_getElem? (i := 100) rfl))) (by decide) (t := .double) (t' := .double) (by decide) (by decide)))).other W16 (Or.inr (slot_ne (Or.inr (hw _ (List.mem_of_getElem? (i := 104) rfl))) (Or.inr (hw _ (List.mem_of_getElem? (i := 102) rfl))) (by decide) (t := .double) (t' := .double) (by decide) (by decide)))).same W17
  have N17 := Fr.snoc X17 N16 g_ob
  refine own_step st17 ?_
  show own_Go p e below P T17 (mkF m 187 #[.val (.ref ob), .val (.ref sa), .val (.double x2), .second, .val (.double x3), .second, .val (.double x4), .second, .val (.double x5), .second, .val (.double FP.dconst0), .second, .val (.double FP.dconst0), .second, .val (.ref an)] [])
  refine own_step (fun _ k => XS.aloadN X17.here hx rfl (hb hby d1_187) rfl rfl k) ?_
  show own_Go p e below P T17 (mkF m 188 #[.val (.ref ob), .val (.ref sa), .val (.double x2), .second, .val (.double x3), .second, .val (.double x4), .second, .val (.double x5), .second, .val (.double FP.dconst0), .second, .val (.double FP.dconst0), .second, .val (.ref an)] [(.ref ob)])
  refine own_step (fun _ k => XS.aload X17.here hx rfl (hb hby d1_188) rfl rfl k) ?_
  show own_Go p e below P T17 (mkF m 190 #[.val (.ref ob), .val (.ref sa), .val (.double x2), .second, .val (.double x3), .second, .val (.double x4), .second, .val (.double x5), .second, .val (.double FP.dconst0), .second, .val (.double FP.dconst0), .second, .val (.ref an)] [(.ref an), (.ref ob)])
  obtain ⟨T18, h18, X18, e18, W18, st18⟩ := putF X17 hx hZ7 hown7 (host := "") (Or.inl (hw _ (List.mem_of_getElem? (i := 105) rfl))) Via.refl e17 ((((((((((F_scheme_ob.ext E3).ext E5).ext E7).other W11 (Or.inr (slot_ne (Or.inr (hw _ (List.mem_of_getElem? (i := 106) rfl))) (Or.inr (hw _ (List.mem_of_getElem? (i := 92) rfl))) (by decide) (t := (.object "com/example/brinequil/brinequil/model/AssociationScheme")) (t' := (.object "java/lang/String")) (by decide) (by decide)))).other W12 (Or.inr (slot_ne (Or.inr (hw _ (List.mem_of_getElem? (i := 106) rfl))) (Or.inr (hw _ (List.mem_of_getElem? (i := 94) rfl))) (by decide) (t := (.object "com/example/brinequil/brinequil/model/AssociationScheme")) (t' := .double) (by decide) (by decide)))).other W13 (Or.inr (slot_ne (Or.inr (hw _ (List.mem_of_getElem? (i := 106) rfl))) (Or.inr (hw _ (List.mem_of_getElem? (i := 96) rfl))) (by decide) (t := (.object "com/example/brinequil/brinequil/model/AssociationScheme")) (t' := .double) (by decide) (by decide)))).other W14 (Or.inr (slot_ne (Or.inr (hw _ (List.mem_of_getElem? (i := 106) rfl))) (Or.inr (hw _ (List.mem_of_getElem? (i := 98) rfl))) (by decide) (t := (.object "com/example/brinequil/brinequil/model/AssociationScheme")) (t' := .double) (by decide) (by decide)))).other W15 (Or.inr (slot_ne (Or.inr (hw _ (List.mem_of_getElem? (i := 106) rfl))) (Or.inr (hw _ (List.mem_of_getElem? (i := 100) rfl))) (by decide) (t := (.object "com/example/brinequil/brinequil/model/AssociationScheme")) (t' := .double) (by decide) (by decide)))).other W16 (Or.inr (slot_ne (Or.inr (hw _ (List.mem_of_getElem? (i := 106) rfl))) (Or.inr (hw _ (List.mem_of_getElem? (i := 102) rfl))) (by decide) (t := (.object "com/example/brinequil/brinequil/model/AssociationScheme")) (t' := .double) (by decide) (by decide)))).other W17 (Or.inr (slot_ne (Or.inr (hw _ (List.mem_of_getElem? (i := 106) rfl))) (Or.inr (hw _ (List.mem_of_getElem? (i := 104) rfl))) (by decide) (t := (.object "com/example/brinequil/brinequil/model/AssociationScheme")) (t' := .double) (by decide) (by decide)))) ((((((((((E_ob.ext E3).ext E5).ext E7).wr W11).wr W12).wr W13).wr W14).wr W15).wr W16).wr W17) (Or.inr ⟨(hw _ (List.mem_of_getElem? (i := 106) rfl)), rfl, hnm⟩) (hw _ (List.mem_of_getElem? (i := 5) rfl)) (ty := (.object "com/example/brinequil/brinequil/model/AssociationScheme")) (by decide) rfl rfl (g := (mkF m 190 #[.val (.ref ob), .val (.ref sa), .val (.double x2), .second, .val (.double x3), .second, .val (.double x4), .second, .val (.double x5), .second, .val (.double FP.dconst0), .second, .val (.double FP.dconst0), .second, .val (.ref an)] [(.ref an), (.ref ob)])) rfl rfl (hb hby d1_190)
  have Fw18 := ((((((((((F_scheme_ob.ext E3).ext E5).ext E7).other W11 (Or.inr (slot_ne (Or.inr (hw _ (List.mem_of_getElem? (i := 106) rfl))) (Or.inr (hw _ (List.mem_of_getElem? (i := 92) rfl))) (by decide) (t := (.object "com/example/brinequil/brinequil/model/AssociationScheme")) (t' := (.object "java/lang/String")) (by decide) (by decide)))).other W12 (Or.inr (slot_ne (Or.inr (hw _ (List.mem_of_getElem? (i := 106) rfl))) (Or.inr (hw _ (List.mem_of_getElem? (i := 94) rfl))) (by decide) (t := (.object "com/example/brinequil/brinequil/model/AssociationScheme")) (t' := .double) (by decide) (by decide)))).other W13 (Or.inr (slot_ne (Or.inr (hw _ (List.mem_of_getElem? (i := 106) rfl))) (Or.inr (hw _ (List.mem_of_getElem? (i := 96) rfl))) (by decide) (t := (.object "com/example/brinequil/brinequil/model/AssociationScheme")) (t' := .double) (by decide) (by decide)))).other W14 (Or.inr (slot_ne (Or.inr (hw _ (List.mem_of_getElem? (i := 106) rfl))) (Or.inr (hw _ (List.mem_of_getElem? (i := 98) rfl))) (by decide) (t := (.object "com/example/brinequil/brinequil/model/AssociationScheme")) (t' := .double) (by decide) (by decide)))).other W15 (Or.inr (slot_ne (Or.inr (hw _ (List.mem_of_getElem? (i := 106) rfl))) (Or.inr (hw _ (List.mem_of_getElem? (i := 100) rfl))) (by decide) (t := (.object "com/example/brinequil/brinequil/model/AssociationScheme")) (t' := .double) (by decide) (by decide)))).other W16 (Or.inr (slot_ne (Or.inr (hw _ (List.mem_of_getElem? (i := 106) rfl))) (Or.inr (hw _ (List.mem_of_getElem? (i := 102) rfl))) (by decide) (t := (.object "com/example/brinequil/brinequil/model/AssociationScheme")) (t' := .double) (by decide) (by decide)))).other W17 (Or.inr (slot_ne (Or.inr (hw _ (List.mem_of_getElem? (i := 106) rfl))) (Or.inr (hw _ (List.mem_of_getElem? (i := 104) rfl))) (by decide) (t := (.object "com/example/brinequil/brinequil/model/AssociationScheme")) (t' := .double) (by decide) (by decide)))).same W18
  have N18 := Fr.snoc X18 N17 g_ob
  refine own_step st18 ?_
  show own_Go p e below P T18 (mkF m 193 #[.val (.ref ob), .val (.ref sa), .val (.double x2), .second, .val (.double x3), .second, .val (.double x4), .second, .val (.double x5), .second, .val (.double FP.dconst0), .second, .val (.double FP.dconst0), .second, .val (.ref an)] [])
  obtain ⟨fs, hr, hrun, hended, hend⟩ := X18.leaveW hS7 (by rw [e18]; exact (Nat.le_trans (Nat.le_trans (Nat.le_trans (Nat.le_trans (Nat.le_trans (Nat.le_trans (Nat.le_trans (Nat.le_trans hk7 (Keep.of_wr W11).1) (Keep.of_wr W12).1) (Keep.of_wr W13).1) (Keep.of_wr W14).1) (Keep.of_wr W15).1) (Keep.of_wr W16).1) (Keep.of_wr W17).1) (Keep.of_wr W18).1)) (v := none) (fun _ => rfl)
  refine ⟨_, _, X18.returnOut hx Bd.returns (hb hby d1_193) hr, hrun, hended, hfin _ _ ⟨_, _, rfl, ?_, hend.1, hend.2.1, hend.2.2.1, hend.2.2.2.mono (by decide) (by decide)⟩⟩
  show Q1N Z ob x2 x3 x4 x5 sa sv kb ch cc ci ta tc pv an h0 n0 none T18.heap _
  rw [e18]
  exact ⟨rfl, N18, ((((((((((((Keep.refl h0 [ob]).ext E3).ext E5).ext E7).wr W11 (Or.inl (List.mem_of_getElem? (i := 0) rfl))).wr W12 (Or.inl (List.mem_of_getElem? (i := 0) rfl))).wr W13 (Or.inl (List.mem_of_getElem? (i := 0) rfl))).wr W14 (Or.inl (List.mem_of_getElem? (i := 0) rfl))).wr W15 (Or.inl (List.mem_of_getElem? (i := 0) rfl))).wr W16 (Or.inl (List.mem_of_getElem? (i := 0) rfl))).wr W17 (Or.inl (List.mem_of_getElem? (i := 0) rfl))).wr W18 (Or.inl (List.mem_of_getElem? (i := 0) rfl))), (((((((((((E_ob.ext E3).ext E5).ext E7).wr W11).wr W12).wr W13).wr W14).wr W15).wr W16).wr W17).wr W18), Fw18⟩
theorem ef_1P (m : MethodId) (x0 : Addr) (x1 : Addr) (x2 : UInt64) (x3 : UInt64) (x4 : UInt64) (x5 : UInt64) (x6 : UInt64) (x7 : UInt64) (x8 : Addr) : entryFrame m #[(.ref x0), (.ref x1), (.double x2), (.double x3), (.double x4), (.double x5), (.double x6), (.double x7), (.ref x8)] 15 = mkF m 0 #[.val (.ref x0), .val (.ref x1), .val (.double x2), .second, .val (.double x3), .second, .val (.double x4), .second, .val (.double x5), .second, .val (.double x6), .second, .val (.double x7), .second, .val (.ref x8)] [] := by first | (simp [entryFrame, mkF, argsToLocals, Value.category]; done) | rfl
theorem d1_131 : decode prog_24_method_1_code 131 = .ok (.aload_n 1, 1) := by decide +kernel
theorem d1_132 : decode prog_24_method_1_code 132 = .ok (.ldc 54, 2) := by decide +kernel
theorem d1_134 : decode prog_24_method_1_code 134 = .ok (.dload 10, 2) := by decide +kernel
theorem d1_136 : decode prog_24_method_1_code 136 = .ok (.invokestatic 22, 3) := by decide +kernel
theorem d1_139 : decode prog_24_method_1_code 139 = .ok (.aload_n 1, 1) := by decide +kernel
theorem d1_140 : decode prog_24_method_1_code 140 = .ok (.ldc 56, 2) := by decide +kernel
theorem d1_142 : decode prog_24_method_1_code 142 = .ok (.dload 12, 2) := by decide +kernel
theorem d1_144 : decode prog_24_method_1_code 144 = .ok (.invokestatic 22, 3) := by decide +kernel
def Q1P (Z : State) (ob : Addr) (x2 : UInt64) (x3 : UInt64) (x4 : UInt64) (x5 : UInt64) (x6 : UInt64) (x7 : UInt64) (sa : Addr) (sv : Addr) (kb : ClassId) (ch : Int32) (cc : Int32) (ci : Addr) (ta : Addr) (tc : Cell) (pv : Int32) (an : Addr) (sc : Addr) (h0 : Heap) (n0 : Nat) (v : Option Value) (h : Heap) (L : List Loc) : Prop := v = none ∧ Fr n0 L ∧ Keep h0 h [ob] ∧ Exa Z h ob "com/example/brinequil/brinequil/model/Component" ∧ Fld Z h ob "com/example/brinequil/brinequil/model/Component" "scheme" "Lcom/example/brinequil/brinequil/model/AssociationScheme;" (.ref sc)
set_option maxRecDepth 65536 in
set_option maxHeartbeats 40000000 in
theorem rm1P (l : Launch) (Z : State) (a0 : Array Value) (hw : ∀ d ∈ tables_1, d.before a0 Z = true) (ws : List Jvm.Cond) (ob : Addr) (x2 : UInt64) (x3 : UInt64) (x4 : UInt64) (x5 : UInt64) (x6 : UInt64) (x7 : UInt64) (sa : Addr) (sv : Addr) (kb : ClassId) (ch : Int32) (cc : Int32) (ci : Addr) (ta : Addr) (tc : Cell) (pv : Int32) (an : Addr) (sc : Addr) (h0 : Heap) (n0 : Nat) (Z0 : n0 ≤ h0.size) (F_coder_sa : Fld Z h0 sa "java/lang/String" "coder" "B" (.int (0 : Int32))) (F_value_sa : Fld Z h0 sa "java/lang/String" "value" "[B" (.ref sv)) (E_sa : Exa Z h0 sa "java/lang/String") (V_sv : Arv Z h0 sv kb .byte (1 : Int32) [(.int ch)] (.int (0 : Int32))) (S_cs : Sta Z h0 "java/lang/String" "COMPACT_STRINGS" "Z" (.int cc)) (hcc : ¬ (cc = (0 : Int32))) (S_ci : Sta Z h0 "java/lang/CharacterDataLatin1" "instance" "Ljava/lang/CharacterDataLatin1;" (.ref ci)) (E_ci : Exa Z h0 ci "java/lang/CharacterDataLatin1") (S_ta : Sta Z h0 "java/lang/CharacterDataLatin1" "A" "[I" (.ref ta)) (A_ta : Arr Z h0 ta tc .int) (hti : ¬ (ch < 0 ∨ tc.slots.size ≤ (ch).toNatClampNeg)) (htv : tc.slots[(ch).toNatClampNeg]? = some (.int pv)) (hpw : ¬ ((pv &&& (28672 : Int32)) = (16384 : Int32))) (hch : own_ch ch) (E_ob : Exa Z h0 ob "com/example/brinequil/brinequil/model/Component") (F_name_ob : Fld Z h0 ob "com/example/brinequil/brinequil/model/Component" "name" "Ljava/lang/String;" .null) (F_criticalTemperature_ob : Fld Z h0 ob "com/example/brinequil/brinequil/model/Component" "criticalTemperature" "D" (.double (0 : UInt64))) (F_a0_ob : Fld Z h0 ob "com/example/brinequil/brinequil/model/Component" "a0" "D" (.double (0 : UInt64))) (F_b_ob : Fld Z h0 ob "com/example/brinequil/brinequil/model/Component" "b" "D" (.double (0 : UInt64))) (F_c1_ob : Fld Z h0 ob "com/example/brinequil/brinequil/model/Component" "c1" "D" (.double (0 : UInt64))) (F_associationEnergy_ob : Fld Z h0 ob "com/example/brinequil/brinequil/model/Component" "associationEnergy" "D" (.double (0 : UInt64))) (F_associationVolume_ob : Fld Z h0 ob "com/example/brinequil/brinequil/model/Component" "associationVolume" "D" (.double (0 : UInt64))) (F_scheme_ob : Fld Z h0 ob "com/example/brinequil/brinequil/model/Component" "scheme" "Lcom/example/brinequil/brinequil/model/AssociationScheme;" .null) (g_ob : n0 ≤ ob) (S_NONE : Sta Z h0 "com/example/brinequil/brinequil/model/AssociationScheme" "NONE" "Lcom/example/brinequil/brinequil/model/AssociationScheme;" (.ref an)) (f_x2 : Fin64 x2) (f_x3 : Fin64 x3) (f_x4 : Fin64 x4) (f_x6 : Fin64 x6) (f_x7 : Fin64 x7) (f_x5 : Fin64 x5) (p_x2 : (0 : Int32) < (cmpValue (FP.dcmp x2 FP.dconst0) .g)) (p_x3 : (0 : Int32) < (cmpValue (FP.dcmp x3 FP.dconst0) .g)) (p_x4 : (0 : Int32) < (cmpValue (FP.dcmp x4 FP.dconst0) .g)) (p_x6 : (0 : Int32) < (cmpValue (FP.dcmp x6 FP.dconst0) .g)) (p_x7 : (0 : Int32) < (cmpValue (FP.dcmp x7 FP.dconst0) .g)) (hne : ¬ (sc = an)) :
    MetFree l (⟨"com/example/brinequil/brinequil/model/Component", "<init>", "(Ljava/lang/String;DDDDDDLcom/example/brinequil/brinequil/model/AssociationScheme;)V"⟩ : MethodName) (head1 (Jvm.Cond.code (⟨"com/example/brinequil/brinequil/model/Component", "<init>", "(Ljava/lang/String;DDDDDDLcom/example/brinequil/brinequil/model/AssociationScheme;)V"⟩ : MethodName) prog_24_method_1_code 15 none :: ws) ({ frames := 5, cells := 10, slots := 84, locals := 68 } : Room)) (fun a U => a = #[(.ref ob), (.ref sa), (.double x2), (.double x3), (.double x4), (.double x5), (.double x6), (.double x7), (.ref sc)] ∧ Z.Warmed39 U.vm ∧ U.heap = h0) (fun _ _ _ _ _ => True) (fun _ U o U' => ∃ v L, o = .returned v ∧ Q1P Z ob x2 x3 x4 x5 x6 x7 sa sv kb ch cc ci ta tc pv an sc h0 n0 v U'.heap L ∧ ReturnedEndW U o U' L ({ frames := 5, cells := 10, slots := 84, locals := 68 } : Room).cells ({ frames := 5, cells := 10, slots := 84, locals := 68 } : Room).slots) := by
  refine MetFree.of_bodySF (plainFor_of_name pn_com_example_brinequil_brinequil_model_Component) hisR ?_
  intro p e s m args below meth c s₁ Bd hml0 hP hK
  obtain ⟨rfl, hZ, hh⟩ := hP
  have hx := Bd.exec
  have hby := Bd.bytes
  have hml : c.maxLocals = 15 := hml0
  have hown : s.vm.findClass "com/example/brinequil/brinequil/model/Component" = some m.cls := findClass_of_methodNamed Bd.named
  have hnm := (name_of_methodNamed Bd.named Bd.method).1
  have hS0 : s.Since s.vm 0 := (State.WarmedH.refl s).since 0
  have hk0 : 0 ≤ h0.size := Nat.zero_le _
  have X0 : Stand p l e ({ frames := 5, cells := 10, slots := 84, locals := 68 } : Room) (s.setVm s.vm) m #[(.ref ob), (.ref sa), (.double x2), (.double x3), (.double x4), (.double x5), (.double x6), (.double x7), (.ref sc)] below meth c s₁ [] 0 0 := Stand.of_body Bd
  have e0 : s₁.heap = h0 := by rw [← hh, Bd.state]; rfl
  have N0 := Fr.nil n0
  refine own_all ?_
  intro P hfin
  refine own_cast (ef_1P m ob sa x2 x3 x4 x5 x6 x7 sc) ?_
  show own_Go p e below P s₁ (mkF m 0 #[.val (.ref ob), .val (.ref sa), .val (.double x2), .second, .val (.double x3), .second, .val (.double x4), .second, .val (.double x5), .second, .val (.double x6), .second, .val (.double x7), .second, .val (.ref sc)] [])
  refine own_step (fun _ k => XS.aloadN X0.here hx rfl (hb hby d1_0) rfl rfl k) ?_
  show own_Go p e below P s₁ (mkF m 1 #[.val (.ref ob), .val (.ref sa), .val (.double x2), .second, .val (.double x3), .second, .val (.double x4), .second, .val (.double x5), .second, .val (.double x6), .second, .val (.double x7), .second, .val (.ref sc)] [(.ref ob)])
  obtain ⟨_, _, ⟨T1, L1, k1, n1⟩, -, X1, ⟨Lc1, hQ1, l1, y1, z1⟩, st1⟩ := X0.specialBack hx (y := (⟨"java/lang/Record", "<init>", "()V"⟩ : MethodName)) rfl hown (mvT hZ (hw _ (List.mem_of_getElem? (i := 19) rfl))) (mvT hZ (hw _ (List.mem_of_getElem? (i := 20) rfl))) (mvT hZ (hw _ (List.mem_of_getElem? (i := 23) rfl))) (by decide) (backOf (W := 0) (rm2 l Z a0 hw [] ob h0 n0 Z0) hZ (hw _ (List.mem_of_getElem? (i := 23) rfl)) (hw _ (List.mem_of_getElem? (i := 22) rfl)) (by decide) (by decide)) (g := (mkF m 1 #[.val (.ref ob), .val (.ref sa), .val (.double x2), .second, .val (.double x3), .second, .val (.double x4), .second, .val (.double x5), .second, .val (.double x6), .second, .val (.double x7), .second, .val (.ref sc)] [(.ref ob)])) rfl (by rw [hml]; rfl) (Steps.refl _) (a := ob) (argsL := []) (rest := []) (lenOf pd____V rfl) rfl (by show 2 * 0 + _ ≤ _; exact Nat.le_of_eq rfl) (hb hby d1_1) (fun _ _ => ⟨rfl, e0, (by decide : 0 + 0 ≤ _), (by decide : 0 + 0 ≤ _)⟩)
  dsimp only [Pt.U, Pt.locs, Pt.cells, Pt.slots] at X1 l1 y1 z1 st1 hQ1
  subst l1 y1 z1
  obtain ⟨rfl, N1q, e1⟩ := hQ1
  have N1 := Fr.app N0 N1q
  refine own_step (fun _ k => st1.trans k) ?_
  show own_Go p e below P T1 (mkF m 4 #[.val (.ref ob), .val (.ref sa), .val (.double x2), .second, .val (.double x3), .second, .val (.double x4), .second, .val (.double x5), .second, .val (.double x6), .second, .val (.double x7), .second, .val (.ref sc)] [])
  refine own_step (fun _ k => XS.aloadN X1.here hx rfl (hb hby d1_4) rfl rfl k) ?_
  show own_Go p e below P T1 (mkF m 5 #[.val (.ref ob), .val (.ref sa), .val (.double x2), .second, .val (.double x3), .second, .val (.double x4), .second, .val (.double x5), .second, .val (.double x6), .second, .val (.double x7), .second, .val (.ref sc)] [(.ref sa)])
  refine own_step (fun _ k => XS.ifnullNo X1.here hx rfl (hb hby d1_5) rfl k) ?_
  show own_Go p e below P T1 (mkF m 8 #[.val (.ref ob), .val (.ref sa), .val (.double x2), .second, .val (.double x3), .second, .val (.double x4), .second, .val (.double x5), .second, .val (.double x6), .second, .val (.double x7), .second, .val (.ref sc)] [])
  refine own_step (fun _ k => XS.aloadN X1.here hx rfl (hb hby d1_8) rfl rfl k) ?_
  show own_Go p e below P T1 (mkF m 9 #[.val (.ref ob), .val (.ref sa), .val (.double x2), .second, .val (.double x3), .second, .val (.double x4), .second, .val (.double x5), .second, .val (.double x6), .second, .val (.double x7), .second, .val (.ref sc)] [(.ref sa)])
  obtain ⟨cq2, kq2, q2a, q2b, q2c⟩ := isOf hZ e1 E_sa
  obtain ⟨_, _, ⟨T2, L2, k2, n2⟩, -, X2, ⟨Lc2, hQ2, l2, y2, z2⟩, st2⟩ := X1.virtualBack hx (y := (⟨"java/lang/String", "isBlank", "()Z"⟩ : MethodName)) (z := (⟨"java/lang/String", "isBlank", "()Z"⟩ : MethodName)) hown (mvT hZ (hw _ (List.mem_of_getElem? (i := 27) rfl))) (mvT hZ (hw _ (List.mem_of_getElem? (i := 28) rfl))) (notFace_of_selects (args := #[]) (mvT hZ (hw _ (List.mem_of_getElem? (i := 30) rfl)))) (mvT hZ (hw _ (List.mem_of_getElem? (i := 30) rfl))) (mvT hZ (hw _ (List.mem_of_getElem? (i := 29) rfl))) (by decide) (backOf (W := 0) (rm4 l Z a0 hw [] sa sv kb ch cc ci ta tc pv h0 n0 Z0 F_coder_sa F_value_sa E_sa V_sv S_cs hcc S_ci E_ci S_ta A_ta hti htv hpw hch) hZ (hw _ (List.mem_of_getElem? (i := 31) rfl)) (hw _ (List.mem_of_getElem? (i := 8) rfl)) (by decide) (by decide)) q2a q2c (g := (mkF m 9 #[.val (.ref ob), .val (.ref sa), .val (.double x2), .second, .val (.double x3), .second, .val (.double x4), .second, .val (.double x5), .second, .val (.double x6), .second, .val (.double x7), .second, .val (.ref sc)] [(.ref sa)])) rfl (by rw [hml]; rfl) (Steps.refl _) (argsL := []) (rest := []) (lenOf pd____Z rfl) rfl (by show 2 * 0 + _ ≤ _; exact Nat.le_of_eq rfl) (hb hby d1_9) (fun _ _ => ⟨rfl, e1, (by decide : 0 + 0 ≤ _), (by decide : 0 + 0 ≤ _)⟩)
  dsimp only [Pt.U, Pt.locs, Pt.cells, Pt.slots] at X2 l2 y2 z2 st2 hQ2
  subst l2 y2 z2
  obtain ⟨rfl, N2q, e2⟩ := hQ2
  have N2 := Fr.app N1 N2q
  refine own_step (fun _ k => st2.trans k) ?_
  show own_Go p e below P T2 (mkF m 12 #[.val (.ref ob), .val (.ref sa), .val (.double x2), .second, .val (.double x3), .second, .val (.double x4), .second, .val (.double x5), .second, .val (.double x6), .second, .val (.double x7), .second, .val (.ref sc)] [(.int (0 : Int32))])
  refine own_step (fun _ k => XS.ifYes X2.here hx rfl (pc0 := 12) (pc' := 25) rfl (hb hby d1_12) rfl ((if0 _ _).trans (teq (rfl : (0 : Int32) = (0 : Int32))).1) (by decide) (by decide) k) ?_
  show own_Go p e below P T2 (mkF m 25 #[.val (.ref ob), .val (.ref sa), .val (.double x2), .second, .val (.double x3), .second, .val (.double x4), .second, .val (.double x5), .second, .val (.double x6), .second, .val (.double x7), .second, .val (.ref sc)] [])
  refine own_step (fun _ k => XS.aloadN X2.here hx rfl (hb hby d1_25) rfl rfl k) ?_
  show own_Go p e below P T2 (mkF m 26 #[.val (.ref ob), .val (.ref sa), .val (.double x2), .second, .val (.double x3), .second, .val (.double x4), .second, .val (.double x5), .second, .val (.double x6), .second, .val (.double x7), .second, .val (.ref sc)] [(.ref sa)])
  obtain ⟨b3, T3, h3, kk3, X3, e3, E3, hS3, hk3, hZ3, hown3, st3⟩ := own_ldc X2 hx hZ hown (hw _ (List.mem_of_getElem? (i := 75) rfl)) (own_wS hw) e2 hS0 hk0 (g := (mkF m 26 #[.val (.ref ob), .val (.ref sa), .val (.double x2), .second, .val (.double x3), .second, .val (.double x4), .second, .val (.double x5), .second, .val (.double x6), .second, .val (.double x7), .second, .val (.ref sc)] [(.ref sa)])) rfl (hb hby d1_26) (n := 8) (by decide) (by decide) (by decide) (by decide)
  refine own_step st3 ?_
  show own_Go p e below P T3 (mkF m 28 #[.val (.ref ob), .val (.ref sa), .val (.double x2), .second, .val (.double x3), .second, .val (.double x4), .second, .val (.double x5), .second, .val (.double x6), .second, .val (.double x7), .second, .val (.ref sc)] [(.ref b3), (.ref sa)])
  refine own_step (fun _ k => XS.dloadN X3.here hx rfl (hb hby d1_28) rfl k) ?_
  show own_Go p e below P T3 (mkF m 29 #[.val (.ref ob), .val (.ref sa), .val (.double x2), .second, .val (.double x3), .second, .val (.double x4), .second, .val (.double x5), .second, .val (.double x6), .second, .val (.double x7), .second, .val (.ref sc)] [(.double x2), (.ref b3), (.ref sa)])
  obtain ⟨_, _, ⟨T4, L4, k4, n4⟩, -, X4, ⟨Lc4, hQ4, l4, y4, z4⟩, st4⟩ := Jvm.LawKit.callS X3 hx (y := (⟨"com/example/brinequil/brinequil/model/Component", "requirePositive", "(Ljava/lang/String;Ljava/lang/String;D)V"⟩ : MethodName)) hown3 (mvT hZ3 (hw _ (List.mem_of_getElem? (i := 76) rfl))) (mvT hZ3 (hw _ (List.mem_of_getElem? (i := 77) rfl))) (mvT hZ3 (hw _ (List.mem_of_getElem? (i := 6) rfl))) (mvT hZ3 (hw _ (List.mem_of_getElem? (i := 78) rfl))) (by decide) (backOf (W := 0) (rm13 l Z a0 hw [] sa b3 x2 h3 n0 (Nat.le_trans Z0 E3.1) f_x2 p_x2) hZ3 (hw _ (List.mem_of_getElem? (i := 78) rfl)) (hw _ (List.mem_of_getElem? (i := 6) rfl)) (by decide) (by decide)) (g := (mkF m 29 #[.val (.ref ob), .val (.ref sa), .val (.double x2), .second, .val (.double x3), .second, .val (.double x4), .second, .val (.double x5), .second, .val (.double x6), .second, .val (.double x7), .second, .val (.ref sc)] [(.double x2), (.ref b3), (.ref sa)])) rfl (by rw [hml]; rfl) (argsL := [(.ref sa), (.ref b3), (.double x2)]) (rest := []) (lenOf pd__Ljava_lang_StringLjava_lang_StringD__V rfl) rfl (by show 2 * 0 + _ ≤ _; exact Nat.le_of_eq rfl) (hb hby d1_29) (fun _ _ => ⟨rfl, e3, (by decide : 2 + 0 ≤ _), (by decide : 12 + 0 ≤ _)⟩)
  dsimp only [Pt.U, Pt.locs, Pt.cells, Pt.slots] at X4 l4 y4 z4 st4 hQ4
  subst l4 y4 z4
  obtain ⟨rfl, N4q, e4⟩ := hQ4
  have N4 := Fr.app N2 N4q
  refine own_step st4 ?_
  show own_Go p e below P T4 (mkF m 32 #[.val (.ref ob), .val (.ref sa), .val (.double x2), .second, .val (.double x3), .second, .val (.double x4), .second, .val (.double x5), .second, .val (.double x6), .second, .val (.double x7), .second, .val (.ref sc)] [])
  refine own_step (fun _ k => XS.aloadN X4.here hx rfl (hb hby d1_32) rfl rfl k) ?_
  show own_Go p e below P T4 (mkF m 33 #[.val (.ref ob), .val (.ref sa), .val (.double x2), .second, .val (.double x3), .second, .val (.double x4), .second, .val (.double x5), .second, .val (.double x6), .second, .val (.double x7), .second, .val (.ref sc)] [(.ref sa)])
  obtain ⟨b5, T5, h5, kk5, X5, e5, E5, hS5, hk5, hZ5, hown5, st5⟩ := own_ldc X4 hx hZ3 hown3 (hw _ (List.mem_of_getElem? (i := 88) rfl)) (own_wS hw) e4 hS3 hk3 (g := (mkF m 33 #[.val (.ref ob), .val (.ref sa), .val (.double x2), .second, .val (.double x3), .second, .val (.double x4), .second, .val (.double x5), .second, .val (.double x6), .second, .val (.double x7), .second, .val (.ref sc)] [(.ref sa)])) rfl (hb hby d1_33) (n := 8) (by decide) (by decide) (by decide) (by decide)
  refine own_step st5 ?_
  show own_Go p e below P T5 (mkF m 35 #[.val (.ref ob), .val (.ref sa), .val (.double x2), .second, .val (.double x3), .second, .val (.double x4), .second, .val (.double x5), .second, .val (.double x6), .second, .val (.double x7), .second, .val (.ref sc)] [(.ref b5), (.ref sa)])
  refine own_step (fun _ k => XS.dload X5.here hx rfl (hb hby d1_35) rfl k) ?_
  show own_Go p e below P T5 (mkF m 37 #[.val (.ref ob), .val (.ref sa), .val (.double x2), .second, .val (.double x3), .second, .val (.double x4), .second, .val (.double x5), .second, .val (.double x6), .second, .val (.double x7), .second, .val (.ref sc)] [(.double x3), (.ref b5), (.ref sa)])
  obtain ⟨_, _, ⟨T6, L6, k6, n6⟩, -, X6, ⟨Lc6, hQ6, l6, y6, z6⟩, st6⟩ := Jvm.LawKit.callS X5 hx (y := (⟨"com/example/brinequil/brinequil/model/Component", "requirePositive", "(Ljava/lang/String;Ljava/lang/String;D)V"⟩ : MethodName)) hown5 (mvT hZ5 (hw _ (List.mem_of_getElem? (i := 76) rfl))) (mvT hZ5 (hw _ (List.mem_of_getElem? (i := 77) rfl))) (mvT hZ5 (hw _ (List.mem_of_getElem? (i := 6) rfl))) (mvT hZ5 (hw _ (List.mem_of_getElem? (i := 78) rfl))) (by decide) (backOf (W := 0) (rm13 l Z a0 hw [] sa b5 x3 h5 n0 (Nat.le_trans (Nat.le_trans Z0 E3.1) E5.1) f_x3 p_x3) hZ5 (hw _ (List.mem_of_getElem? (i := 78) rfl)) (hw _ (List.mem_of_getElem? (i := 6) rfl)) (by decide) (by decide)) (g := (mkF m 37 #[.val (.ref ob), .val (.ref sa), .val (.double x2), .second, .val (.double x3), .second, .val (.double x4), .second, .val (.double x5), .second, .val (.double x6), .second, .val (.double x7), .second, .val (.ref sc)] [(.double x3), (.ref b5), (.ref sa)])) rfl (by rw [hml]; rfl) (argsL := [(.ref sa), (.ref b5), (.double x3)]) (rest := []) (lenOf pd__Ljava_lang_StringLjava_lang_StringD__V rfl) rfl (by show 2 * 0 + _ ≤ _; exact Nat.le_of_eq rfl) (hb hby d1_37) (fun _ _ => ⟨rfl, e5, (by decide : 4 + 0 ≤ _), (by decide : 24 + 0 ≤ _)⟩)
  dsimp only [Pt.U, Pt.locs, Pt.cells, Pt.slots] at X6 l6 y6 z6 st6 hQ6
  subst l6 y6 z6
  obtain ⟨rfl, N6q, e6⟩ := hQ6
  have N6 := Fr.app N4 N6q
  refine own_step st6 ?_
  show own_Go p e below P T6 (mkF m 40 #[.val (.ref ob), .val (.ref sa), .val (.double x2), .second, .val (.double x3), .second, .val (.double x4), .second, .val (.double x5), .second, .val (.double x6), .second, .val (.double x7), .second, .val (.ref sc)] [])
  refine own_step (fun _ k => XS.aloadN X6.here hx rfl (hb hby d1_40) rfl rfl k) ?_
  show own_Go p e below P T6 (mkF m 41 #[.val (.ref ob), .val (.ref sa), .val (.double x2), .second, .val (.double x3), .second, .val (.double x4), .second, .val (.double x5), .second, .val (.double x6), .second, .val (.double x7), .second, .val (.ref sc)] [(.ref sa)])
  obtain ⟨b7, T7, h7, kk7, X7, e7, E7, hS7, hk7, hZ7, hown7, st7⟩ := own_ldc X6 hx hZ5 hown5 (hw _ (List.mem_of_getElem? (i := 89) rfl)) (own_wS hw) e6 hS5 hk5 (g := (mkF m 41 #[.val (.ref ob), .val (.ref sa), .val (.double x2), .second, .val (.double x3), .second, .val (.double x4), .second, .val (.double x5), .second, .val (.double x6), .second, .val (.double x7), .second, .val (.ref sc)] [(.ref sa)])) rfl (hb hby d1_41) (n := 4) (by decide) (by decide) (by decide) (by decide)
  refine own_step st7 ?_
  show own_Go p e below P T7 (mkF m 43 #[.val (.ref ob), .val (.ref sa), .val (.double x2), .second, .val (.double x3), .second, .val (.double x4), .second, .val (.double x5), .second, .val (.double x6), .second, .val (.double x7), .second, .val (.ref sc)] [(.ref b7), (.ref sa)])
  refine own_step (fun _ k => XS.dload X7.here hx rfl (hb hby d1_43) rfl k) ?_
  show own_Go p e below P T7 (mkF m 45 #[.val (.ref ob), .val (.ref sa), .val (.double x2), .second, .val (.double x3), .second, .val (.double x4), .second, .val (.double x5), .second, .val (.double x6), .second, .val (.double x7), .second, .val (.ref sc)] [(.double x4), (.ref b7), (.ref sa)])
  obtain ⟨_, _, ⟨T8, L8, k8, n8⟩, -, X8, ⟨Lc8, hQ8, l8, y8, z8⟩, st8⟩ := Jvm.LawKit.callS X7 hx (y := (⟨"com/example/brinequil/brinequil/model/Component", "requirePositive", "(Ljava/lang/String;Ljava/lang/String;D)V"⟩ : MethodName)) hown7 (mvT hZ7 (hw _ (List.mem_of_getElem? (i := 76) rfl))) (mvT hZ7 (hw _ (List.mem_of_getElem? (i := 77) rfl))) (mvT hZ7 (hw _ (List.mem_of_getElem? (i := 6) rfl))) (mvT hZ7 (hw _ (List.mem_of_getElem? (i := 78) rfl))) (by decide) (backOf (W := 0) (rm13 l Z a0 hw [] sa b7 x4 h7 n0 (Nat.le_trans (Nat.le_trans (Nat.le_trans Z0 E3.1) E5.1) E7.1) f_x4 p_x4) hZ7 (hw _ (List.mem_of_getElem? (i := 78) rfl)) (hw _ (List.mem_of_getElem? (i := 6) rfl)) (by decide) (by decide)) (g := (mkF m 45 #[.val (.ref ob), .val (.ref sa), .val (.double x2), .second, .val (.double x3), .second, .val (.double x4), .second, .val (.double x5), .second, .val (.double x6), .second, .val (.double x7), .second, .val (.ref sc)] [(.double x4), (.ref b7), (.ref sa)])) rfl (by rw [hml]; rfl) (argsL := [(.ref sa), (.ref b7), (.double x4)]) (rest := []) (lenOf pd__Ljava_lang_StringLjava_lang_StringD__V rfl) rfl (by show 2 * 0 + _ ≤ _; exact Nat.le_of_eq rfl) (hb hby d1_45) (fun _ _ => ⟨rfl, e7, (by decide : 6 + 0 ≤ _), (by decide : 32 + 0 ≤ _)⟩)
  dsimp only [Pt.U, Pt.locs, Pt.cells, Pt.slots] at X8 l8 y8 z8 st8 hQ8
  subst l8 y8 z8
  obtain ⟨rfl, N8q, e8⟩ := hQ8
  have N8 := Fr.app N6 N8q
  refine own_step st8 ?_
  show own_Go p e below P T8 (mkF m 48 #[.val (.ref ob), .val (.ref sa), .val (.double x2), .second, .val (.double x3), .second, .val (.double x4), .second, .val (.double x5), .second, .val (.double x6), .second, .val (.double x7), .second, .val (.ref sc)] [])
  refine own_step (fun _ k => XS.dload X8.here hx rfl (hb hby d1_48) rfl k) ?_
  show own_Go p e below P T8 (mkF m 50 #[.val (.ref ob), .val (.ref sa), .val (.double x2), .second, .val (.double x3), .second, .val (.double x4), .second, .val (.double x5), .second, .val (.double x6), .second, .val (.double x7), .second, .val (.ref sc)] [(.double x5)])
  obtain ⟨_, _, ⟨T9, L9, k9, n9⟩, -, X9, ⟨Lc9, hQ9, l9, y9, z9⟩, st9⟩ := Jvm.LawKit.callS X8 hx (y := (⟨"java/lang/Double", "isFinite", "(D)Z"⟩ : MethodName)) hown7 (mvT hZ7 (hw _ (List.mem_of_getElem? (i := 79) rfl))) (mvT hZ7 (hw _ (List.mem_of_getElem? (i := 80) rfl))) (mvT hZ7 (hw _ (List.mem_of_getElem? (i := 81) rfl))) (mvT hZ7 (hw _ (List.mem_of_getElem? (i := 82) rfl))) (by decide) (backOf (W := 0) (rm14 l Z a0 hw [] x5 h7 n0 (Nat.le_trans (Nat.le_trans (Nat.le_trans Z0 E3.1) E5.1) E7.1) f_x5) hZ7 (hw _ (List.mem_of_getElem? (i := 82) rfl)) (hw _ (List.mem_of_getElem? (i := 81) rfl)) (by decide) (by decide)) (g := (mkF m 50 #[.val (.ref ob), .val (.ref sa), .val (.double x2), .second, .val (.double x3), .second, .val (.double x4), .second, .val (.double x5), .second, .val (.double x6), .second, .val (.double x7), .second, .val (.ref sc)] [(.double x5)])) rfl (by rw [hml]; rfl) (argsL := [(.double x5)]) (rest := []) (lenOf pd__D__Z rfl) rfl (by show 2 * 0 + _ ≤ _; exact Nat.le_of_eq rfl) (hb hby d1_50) (fun _ _ => ⟨rfl, e8, (by decide : 6 + 0 ≤ _), (by decide : 32 + 0 ≤ _)⟩)
  dsimp only [Pt.U, Pt.locs, Pt.cells, Pt.slots] at X9 l9 y9 z9 st9 hQ9
  subst l9 y9 z9
  obtain ⟨rfl, N9q, e9⟩ := hQ9
  have N9 := Fr.app N8 N9q
  refine own_step st9 ?_
  show own_Go p e below P T9 (mkF m 53 #[.val (.ref ob), .val (.ref sa), .val (.double x2), .second, .val (.double x3), .second, .val (.double x4), .second, .val (.double x5), .second, .val (.double x6), .second, .val (.double x7), .second, .val (.ref sc)] [(.int (1 : Int32))])
  refine own_step (fun _ k => XS.ifYes X9.here hx rfl (pc0 := 53) (pc' := 72) rfl (hb hby d1_53) rfl ((if0 _ _).trans (feq (by decide : ¬ ((1 : Int32) = (0 : Int32)))).2) (by decide) (by decide) k) ?_
  show own_Go p e below P T9 (mkF m 72 #[.val (.ref ob), .val (.ref sa), .val (.double x2), .second, .val (.double x3), .second, .val (.double x4), .second, .val (.double x5), .second, .val (.double x6), .second, .val (.double x7), .second, .val (.ref sc)] [])
  refine own_step (fun _ k => XS.aload X9.here hx rfl (hb hby d1_72) rfl rfl k) ?_
  show own_Go p e below P T9 (mkF m 74 #[.val (.ref ob), .val (.ref sa), .val (.double x2), .second, .val (.double x3), .second, .val (.double x4), .second, .val (.double x5), .second, .val (.double x6), .second, .val (.double x7), .second, .val (.ref sc)] [(.ref sc)])
  refine own_step (fun _ k => XS.ifnonnullYes X9.here hx rfl (pc0 := 74) (pc' := 91) rfl (hb hby d1_74) rfl (by decide) (by decide) k) ?_
  show own_Go p e below P T9 (mkF m 91 #[.val (.ref ob), .val (.ref sa), .val (.double x2), .second, .val (.double x3), .second, .val (.double x4), .second, .val (.double x5), .second, .val (.double x6), .second, .val (.double x7), .second, .val (.ref sc)] [])
  refine own_step (fun _ k => XS.aload X9.here hx rfl (hb hby d1_91) rfl rfl k) ?_
  show own_Go p e below P T9 (mkF m 93 #[.val (.ref ob), .val (.ref sa), .val (.double x2), .second, .val (.double x3), .second, .val (.double x4), .second, .val (.double x5), .second, .val (.double x6), .second, .val (.double x7), .second, .val (.ref sc)] [(.ref sc)])
  obtain ⟨T10, X10, e10, st10⟩ := getS2 X9 hx hZ7 hown7 (host := "") (Or.inl (hw _ (List.mem_of_getElem? (i := 90) rfl))) Via.refl e9 (((S_NONE.ext E3).ext E5).ext E7) (g := (mkF m 93 #[.val (.ref ob), .val (.ref sa), .val (.double x2), .second, .val (.double x3), .second, .val (.double x4), .second, .val (.double x5), .second, .val (.double x6), .second, .val (.double x7), .second, .val (.ref sc)] [(.ref sc)])) rfl (hb hby d1_93)
  refine own_step st10 ?_
  show own_Go p e below P T10 (mkF m 96 #[.val (.ref ob), .val (.ref sa), .val (.double x2), .second, .val (.double x3), .second, .val (.double x4), .second, .val (.double x5), .second, .val (.double x6), .second, .val (.double x7), .second, .val (.ref sc)] [(.ref an), (.ref sc)])
  refine own_step (fun _ k => Jvm.RoadKit.acmp (g := (mkF m 96 #[.val (.ref ob), .val (.ref sa), .val (.double x2), .second, .val (.double x3), .second, .val (.double x4), .second, .val (.double x5), .second, .val (.double x6), .second, .val (.double x7), .second, .val (.ref sc)] [(.ref an), (.ref sc)])) X10 hx rfl rfl rfl (pc0 := 96) (pc' := 131) (same := false) rfl (hb hby d1_96) rfl (decide_eq_false fun q => hne (Value.ref.inj q)) (by decide) (by decide) k) ?_
  show own_Go p e below P T10 (mkF m 131 #[.val (.ref ob), .val (.ref sa), .val (.double x2), .second, .val (.double x3), .second, .val (.double x4), .second, .val (.double x5), .second, .val (.double x6), .second, .val (.double x7), .second, .val (.ref sc)] [])
  refine own_step (fun _ k => XS.aloadN X10.here hx rfl (hb hby d1_131) rfl rfl k) ?_
  show own_Go p e below P T10 (mkF m 132 #[.val (.ref ob), .val (.ref sa), .val (.double x2), .second, .val (.double x3), .second, .val (.double x4), .second, .val (.double x5), .second, .val (.double x6), .second, .val (.double x7), .second, .val (.ref sc)] [(.ref sa)])
  obtain ⟨b11, T11, h11, kk11, X11, e11, E11, hS11, hk11, hZ11, hown11, st11⟩ := own_ldc X10 hx hZ7 hown7 (hw _ (List.mem_of_getElem? (i := 128) rfl)) (own_wS hw) e10 hS7 hk7 (g := (mkF m 132 #[.val (.ref ob), .val (.ref sa), .val (.double x2), .second, .val (.double x3), .second, .val (.double x4), .second, .val (.double x5), .second, .val (.double x6), .second, .val (.double x7), .second, .val (.ref sc)] [(.ref sa)])) rfl (hb hby d1_132) (n := 28) (by decide) (by decide) (by decide) (by decide)
  refine own_step st11 ?_
  show own_Go p e below P T11 (mkF m 134 #[.val (.ref ob), .val (.ref sa), .val (.double x2), .second, .val (.double x3), .second, .val (.double x4), .second, .val (.double x5), .second, .val (.double x6), .second, .val (.double x7), .second, .val (.ref sc)] [(.ref b11), (.ref sa)])
  refine own_step (fun _ k => XS.dload X11.here hx rfl (hb hby d1_134) rfl k) ?_
  show own_Go p e below P T11 (mkF m 136 #[.val (.ref ob), .val (.ref sa), .val (.double x2), .second, .val (.double x3), .second, .val (.double x4), .second, .val (.double x5), .second, .val (.double x6), .second, .val (.double x7), .second, .val (.ref sc)] [(.double x6), (.ref b11), (.ref sa)])
  obtain ⟨_, _, ⟨T12, L12, k12, n12⟩, -, X12, ⟨Lc12, hQ12, l12, y12, z12⟩, st12⟩ := Jvm.LawKit.callS X11 hx (y := (⟨"com/example/brinequil/brinequil/model/Component", "requirePositive", "(Ljava/lang/String;Ljava/lang/String;D)V"⟩ : MethodName)) hown11 (mvT hZ11 (hw _ (List.mem_of_getElem? (i := 76) rfl))) (mvT hZ11 (hw _ (List.mem_of_getElem? (i := 77) rfl))) (mvT hZ11 (hw _ (List.mem_of_getElem? (i := 6) rfl))) (mvT hZ11 (hw _ (List.mem_of_getElem? (i := 78) rfl))) (by decide) (backOf (W := 0) (rm13 l Z a0 hw [] sa b11 x6 h11 n0 (Nat.le_trans (Nat.le_trans (Nat.le_trans (Nat.le_trans Z0 E3.1) E5.1) E7.1) E11.1) f_x6 p_x6) hZ11 (hw _ (List.mem_of_getElem? (i := 78) rfl)) (hw _ (List.mem_of_getElem? (i := 6) rfl)) (by decide) (by decide)) (g := (mkF m 136 #[.val (.ref ob), .val (.ref sa), .val (.double x2), .second, .val (.double x3), .second, .val (.double x4), .second, .val (.double x5), .second, .val (.double x6), .second, .val (.double x7), .second, .val (.ref sc)] [(.double x6), (.ref b11), (.ref sa)])) rfl (by rw [hml]; rfl) (argsL := [(.ref sa), (.ref b11), (.double x6)]) (rest := []) (lenOf pd__Ljava_lang_StringLjava_lang_StringD__V rfl) rfl (by show 2 * 0 + _ ≤ _; exact Nat.le_of_eq rfl) (hb hby d1_136) (fun _ _ => ⟨rfl, e11, (by decide : 8 + 0 ≤ _), (by decide : 64 + 0 ≤ _)⟩)
  dsimp only [Pt.U, Pt.locs, Pt.cells, Pt.slots] at X12 l12 y12 z12 st12 hQ12
  subst l12 y12 z12
  obtain ⟨rfl, N12q, e12⟩ := hQ12
  have N12 := Fr.app N9 N12q
  refine own_step st12 ?_
  show own_Go p e below P T12 (mkF m 139 #[.val (.ref ob), .val (.ref sa), .val (.double x2), .second, .val (.double x3), .second, .val (.double x4), .second, .val (.double x5), .second, .val (.double x6), .second, .val (.double x7), .second, .val (.ref sc)] [])
  refine own_step (fun _ k => XS.aloadN X12.here hx rfl (hb hby d1_139) rfl rfl k) ?_
  show own_Go p e below P T12 (mkF m 140 #[.val (.ref ob), .val (.ref sa), .val (.double x2), .second, .val (.double x3), .second, .val (.double x4), .second, .val (.double x5), .second, .val (.double x6), .second, .val (.double x7), .second, .val (.ref sc)] [(.ref sa)])
  obtain ⟨b13, T13, h13, kk13, X13, e13, E13, hS13, hk13, hZ13, hown13, st13⟩ := own_ldc X12 hx hZ11 hown11 (hw _ (List.mem_of_getElem? (i := 129) rfl)) (own_wS hw) e12 hS11 hk11 (g := (mkF m 140 #[.val (.ref ob), .val (.ref sa), .val (.double x2), .second, .val (.double x3), .second, .val (.double x4), .second, .val (.double x5), .second, .val (.double x6), .second, .val (.double x7), .second, .val (.ref sc)] [(.ref sa)])) rfl (hb hby d1_140) (n := 16) (by decide) (by decide) (by decide) (by decide)
  refine own_step st13 ?_
  show own_Go p e below P T13 (mkF m 142 #[.val (.ref ob), .val (.ref sa), .val (.double x2), .second, .val (.double x3), .second, .val (.double x4), .second, .val (.double x5), .second, .val (.double x6), .second, .val (.double x7), .second, .val (.ref sc)] [(.ref b13), (.ref sa)])
  refine own_step (fun _ k => XS.dload X13.here hx rfl (hb hby d1_142) rfl k) ?_
  show own_Go p e below P T13 (mkF m 144 #[.val (.ref ob), .val (.ref sa), .val (.double x2), .second, .val (.double x3), .second, .val (.double x4), .second, .val (.double x5), .second, .val (.double x6), .second, .val (.double x7), .second, .val (.ref sc)] [(.double x7), (.ref b13), (.ref sa)])
  obtain ⟨_, _, ⟨T14, L14, k14, n14⟩, -, X14, ⟨Lc14, hQ14, l14, y14, z14⟩, st14⟩ := Jvm.LawKit.callS X13 hx (y := (⟨"com/example/brinequil/brinequil/model/Component", "requirePositive", "(Ljava/lang/String;Ljava/lang/String;D)V"⟩ : MethodName)) hown13 (mvT hZ13 (hw _ (List.mem_of_getElem? (i := 76) rfl))) (mvT hZ13 (hw _ (List.mem_of_getElem? (i := 77) rfl))) (mvT hZ13 (hw _ (List.mem_of_getElem? (i := 6) rfl))) (mvT hZ13 (hw _ (List.mem_of_getElem? (i := 78) rfl))) (by decide) (backOf (W := 0) (rm13 l Z a0 hw [] sa b13 x7 h13 n0 (Nat.le_trans (Nat.le_trans (Nat.le_trans (Nat.le_trans (Nat.le_trans Z0 E3.1) E5.1) E7.1) E11.1) E13.1) f_x7 p_x7) hZ13 (hw _ (List.mem_of_getElem? (i := 78) rfl)) (hw _ (List.mem_of_getElem? (i := 6) rfl)) (by decide) (by decide)) (g := (mkF m 144 #[.val (.ref ob), .val (.ref sa), .val (.double x2), .second, .val (.double x3), .second, .val (.double x4), .second, .val (.double x5), .second, .val (.double x6), .second, .val (.double x7), .second, .val (.ref sc)] [(.double x7), (.ref b13), (.ref sa)])) rfl (by rw [hml]; rfl) (argsL := [(.ref sa), (.ref b13), (.double x7)]) (rest := []) (lenOf pd__Ljava_lang_StringLjava_lang_StringD__V rfl) rfl (by show 2 * 0 + _ ≤ _; exact Nat.le_of_eq rfl) (hb hby d1_144) (fun _ _ => ⟨rfl, e13, (by decide : 10 + 0 ≤ _), (by decide : 84 + 0 ≤ _)⟩)
  dsimp only [Pt.U, Pt.locs, Pt.cells, Pt.slots] at X14 l14 y14 z14 st14 hQ14
  subst l14 y14 z14
  obtain ⟨rfl, N14q, e14⟩ := hQ14
  have N14 := Fr.app N12 N14q
  refine own_step st14 ?_
  show own_Go p e below P T14 (mkF m 147 #[.val (.ref ob), .val (.ref sa), .val (.double x2), .second, .val (.double x3), .second, .val (.double x4), .second, .val (.double x5), .second, .val (.double x6), .second, .val (.double x7), .second, .val (.ref sc)] [])
  refine own_step (fun _ k => XS.aloadN X14.here hx rfl (hb hby d1_147) rfl rfl k) ?_
  show own_Go p e below P T14 (mkF m 148 #[.val (.ref ob), .val (.ref sa), .val (.double x2), .second, .val (.double x3), .second, .val (.double x4), .second, .val (.double x5), .second, .val (.double x6), .second, .val (.double x7), .second, .val (.ref sc)] [(.ref ob)])
  refine own_step (fun _ k => XS.aloadN X14.here hx rfl (hb hby d1_148) rfl rfl k) ?_
  show own_Go p e below P T14 (mkF m 149 #[.val (.ref ob), .val (.ref sa), .val (.double x2), .second, .val (.double x3), .second, .val (.double x4), .second, .val (.double x5), .second, .val (.double x6), .second, .val (.double x7), .second, .val (.ref sc)] [(.ref sa), (.ref ob)])
  obtain ⟨T15, h15, X15, e15, W15, st15⟩ := putF X14 hx hZ13 hown13 (host := "") (Or.inl (hw _ (List.mem_of_getElem? (i := 91) rfl))) Via.refl e14 (((((F_name_ob.ext E3).ext E5).ext E7).ext E11).ext E13) (((((E_ob.ext E3).ext E5).ext E7).ext E11).ext E13) (Or.inr ⟨(hw _ (List.mem_of_getElem? (i := 92) rfl)), rfl, hnm⟩) (hw _ (List.mem_of_getElem? (i := 5) rfl)) (ty := (.object "java/lang/String")) (by decide) rfl rfl (g := (mkF m 149 #[.val (.ref ob), .val (.ref sa), .val (.double x2), .second, .val (.double x3), .second, .val (.double x4), .second, .val (.double x5), .second, .val (.double x6), .second, .val (.double x7), .second, .val (.ref sc)] [(.ref sa), (.ref ob)])) rfl rfl (hb hby d1_149)
  have Fw15 := (((((F_name_ob.ext E3).ext E5).ext E7).ext E11).ext E13).same W15
  have N15 := Fr.snoc X15 N14 g_ob
  refine own_step st15 ?_
  show own_Go p e below P T15 (mkF m 152 #[.val (.ref ob), .val (.ref sa), .val (.double x2), .second, .val (.double x3), .second, .val (.double x4), .second, .val (.double x5), .second, .val (.double x6), .second, .val (.double x7), .second, .val (.ref sc)] [])
  refine own_step (fun _ k => XS.aloadN X15.here hx rfl (hb hby d1_152) rfl rfl k) ?_
  show own_Go p e below P T15 (mkF m 153 #[.val (.ref ob), .val (.ref sa), .val (.double x2), .second, .val (.double x3), .second, .val (.double x4), .second, .val (.double x5), .second, .val (.double x6), .second, .val (.double x7), .second, .val (.ref sc)] [(.ref ob)])
  refine own_step (fun _ k => XS.dloadN X15.here hx rfl (hb hby d1_153) rfl k) ?_
  show own_Go p e below P T15 (mkF m 154 #[.val (.ref ob), .val (.ref sa), .val (.double x2), .second, .val (.double x3), .second, .val (.double x4), .second, .val (.double x5), .second, .val (.double x6), .second, .val (.double x7), .second, .val (.ref sc)] [(.double x2), (.ref ob)])
  obtain ⟨T16, h16, X16, e16, W16, st16⟩ := putF X15 hx hZ13 hown13 (host := "") (Or.inl (hw _ (List.mem_of_getElem? (i := 93) rfl))) Via.refl e15 ((((((F_criticalTemperature_ob.ext E3).ext E5).ext E7).ext E11).ext E13).other W15 (Or.inr (slot_ne (Or.inr (hw _ (List.mem_of_getElem? (i := 94) rfl))) (Or.inr (hw _ (List.mem_of_getElem? (i := 92) rfl))) (by decide) (t := .double) (t' := (.object "java/lang/String")) (by decide) (by decide)))) ((((((E_ob.ext E3).ext E5).ext E7).ext E11).ext E13).wr W15) (Or.inr ⟨(hw _ (List.mem_of_getElem? (i := 94) rfl)), rfl, hnm⟩) (hw _ (List.mem_of_getElem? (i := 5) rfl)) (ty := .double) (by decide) rfl rfl (g := (mkF m 154 #[.val (.ref ob), .val (.ref sa), .val (.double x2), .second, .val (.double x3), .second, .val (.double x4), .second, .val (.double x5), .second, .val (.double x6), .second, .val (.double x7), .second, .val (.ref sc)] [(.double x2), (.ref ob)])) rfl rfl (hb hby d1_154)
  have Fw16 := ((((((F_criticalTemperature_ob.ext E3).ext E5).ext E7).ext E11).ext E13).other W15 (Or.inr (slot_ne (Or.inr (hw _ (List.mem_of_getElem? (i := 94) rfl))) (Or.inr (hw _ (List.mem_of_getElem? (i := 92) rfl))) (by decide) (t := .double) (t' := (.object "java/lang/String")) (by decide) (by decide)))).same W16
  have N16 := Fr.snoc X16 N15 g_ob
  refine own_step st16 ?_
  show own_Go p e below P T16 (mkF m 157 #[.val (.ref ob), .val (.ref sa), .val (.double x2), .second, .val (.double x3), .second, .val (.double x4), .second, .val (.double x5), .second, .val (.double x6), .second, .val (.double x7), .second, .val (.ref sc)] [])
  refine own_step (fun _ k => XS.aloadN X16.here hx rfl (hb hby d1_157) rfl rfl k) ?_
  show own_Go p e below P T16 (mkF m 158 #[.val (.ref ob), .val (.ref sa), .val (.double x2), .second, .val (.double x3), .second, .val (.double x4), .second, .val (.double x5), .second, .val (.double x6), .second, .val (.double x7), .second, .val (.ref sc)] [(.ref ob)])
  refine own_step (fun _ k => XS.dload X16.here hx rfl (hb hby d1_158) rfl k) ?_
  show own_Go p e below P T16 (mkF m 160 #[.val (.ref ob), .val (.ref sa), .val (.double x2), .second, .val (.double x3), .second, .val (.double x4), .second, .val (.double x5), .second, .val (.double x6), .second, .val (.double x7), .second, .val (.ref sc)] [(.double x3), (.ref ob)])
  obtain ⟨T17, h17, X17, e17, W17, st17⟩ := putF X16 hx hZ13 hown13 (host := "") (Or.inl (hw _ (List.mem_of_getElem? (i := 95) rfl))) Via.refl e16 (((((((F_a0_ob.ext E3).ext E5).ext E7).ext E11).ext E13).other W15 (Or.inr (slot_ne (Or.inr (hw _ (List.mem_of_getElem? (i := 96) rfl))) (Or.inr (hw _ (List.mem_of_getElem? (i := 92) rfl))) (by decide) (t := .double) (t' := (.object "java/lang/String")) (by decide) (by decide)))).other W16 (Or.inr (slot_ne (Or.inr (hw _ (List.mem_of_getElem? (i := 96) rfl))) (Or.inr (hw _ (List.mem_of_getElem? (i := 94) rfl))) (by decide) (t := .double) (t' := .double) (by decide) (by decide)))) (((((((E_ob.ext E3).ext E5).ext E7).ext E11).ext E13).wr W15).wr W16) (Or.inr ⟨(hw _ (List.mem_of_getElem? (i := 96) rfl)), rfl, hnm⟩) (hw _ (List.mem_of_getElem? (i := 5) rfl)) (ty := .double) (by decide) rfl rfl (g := (mkF m 160 #[.val (.ref ob), .val (.ref sa), .val (.double x2), .second, .val (.double x3), .second, .val (.double x4), .second, .val (.double x5), .second, .val (.double x6), .second, .val (.double x7), .second, .val (.ref sc)] [(.double x3), (.ref ob)])) rfl rfl (hb hby d1_160)
  have Fw17 := (((((((F_a0_ob.ext E3).ext E5).ext E7).ext E11).ext E13).other W15 (Or.inr (slot_ne (Or.inr (hw _ (List.mem_of_getElem? (i := 96) rfl))) (Or.inr (hw _ (List.mem_of_getElem? (i := 92) rfl))) (by decide) (t := .double) (t' := (.object "java/lang/String")) (by decide) (by decide)))).other W16 (Or.inr (slot_ne (Or.inr (hw _ (List.mem_of_getElem? (i := 96) rfl))) (Or.inr (hw _ (List.mem_of_getElem? (i := 94) rfl))) (by decide) (t := .double) (t' := .double) (by decide) (by decide)))).same W17
  have N17 := Fr.snoc X17 N16 g_ob
  refine own_step st17 ?_
  show own_Go p e below P T17 (mkF m 163 #[.val (.ref ob), .val (.ref sa), .val (.double x2), .second, .val (.double x3), .second, .val (.double x4), .second, .val (.double x5), .second, .val (.double x6), .second, .val (.double x7), .second, .val (.ref sc)] [])
  refine own_step (fun _ k => XS.aloadN X17.here hx rfl (hb hby d1_163) rfl rfl k) ?_
  show own_Go p e below P T17 (mkF m 164 #[.val (.ref ob), .val (.ref sa), .val (.double x2), .second, .val (.double x3), .second, .val (.double x4), .second, .val (.double x5), .second, .val (.double x6), .second, .val (.double x7), .second, .val (.ref sc)] [(.ref ob)])
  refine own_step (fun _ k => XS.dload X17.here hx rfl (hb hby d1_164) rfl k) ?_
  show own_Go p e below P T17 (mkF m 166 #[.val (.ref ob), .val (.ref sa), .val (.double x2), .second, .val (.double x3), .second, .val (.double x4), .second, .val (.double x5), .second, .val (.double x6), .second, .val (.double x7), .second, .val (.ref sc)] [(.double x4), (.ref ob)])
  obtain ⟨T18, h18, X18, e18, W18, st18⟩ := putF X17 hx hZ13 hown13 (host := "") (Or.inl (hw _ (List.mem_of_getElem? (i := 97) rfl))) Via.refl e17 ((((((((F_b_ob.ext E3).ext E5).ext E7).ext E11).ext E13).other W15 (Or.inr (slot_ne (Or.inr (hw _ (List.mem_of_getElem? (i := 98) rfl))) (Or.inr (hw _ (List.mem_of_getElem? (i := 92) rfl))) (by decide) (t := .double) (t' := (.object "java/lang/String")) (by decide) (by decide)))).other W16 (Or.inr (slot_ne (Or.inr (hw _ (List.mem_of_getElem? (i := 98) rfl))) (Or.inr (hw _ (List.mem_of_getElem? (i := 94) rfl))) (by decide) (t := .double) (t' := .double) (by decide) (by decide)))).other W17 (Or.inr (slot_ne (Or.inr (hw _ (List.mem_of_getElem? (i := 98) rfl))) (Or.inr (hw _ (List.mem_of_getElem? (i := 96) rfl))) (by decide) (t := .double) (t' := .double) (by decide) (by decide)))) ((((((((E_ob.ext E3).ext E5).ext E7).ext E11).ext E13).wr W15).wr W16).wr W17) (Or.inr ⟨(hw _ (List.mem_of_getElem? (i := 98) rfl)), rfl, hnm⟩) (hw _ (List.mem_of_getElem? (i := 5) rfl)) (ty := .double) (by decide) rfl rfl (g := (mkF m 166 #[.val (.ref ob), .val (.ref sa), .val (.double x2), .second, .val (.double x3), .second, .val (.double x4), .second, .val (.double x5), .second, .val (.double x6), .second, .val (.double x7), .second, .val (.ref sc)] [(.double x4), (.ref ob)])) rfl rfl (hb hby d1_166)
  have Fw18 := ((((((((F_b_ob.ext E3).ext E5).ext E7).ext E11).ext E13).other W15 (Or.inr (slot_ne (Or.inr (hw _ (List.mem_of_getElem? (i := 98) rfl))) (Or.inr (hw _ (List.mem_of_getElem? (i := 92) rfl))) (by decide) (t := .double) (t' := (.object "java/lang/String")) (by decide) (by decide)))).other W16 (Or.inr (slot_ne (Or.inr (hw _ (List.mem_of_getElem? (i := 98) rfl))) (Or.inr (hw _ (List.mem_of_getElem? (i := 94) rfl))) (by decide) (t := .double) (t' := .double) (by decide) (by decide)))).other W17 (Or.inr (slot_ne (Or.inr (hw _ (List.mem_of_getElem? (i := 98) rfl))) (Or.inr (hw _ (List.mem_of_getElem? (i := 96) rfl))) (by decide) (t := .double) (t' := .double) (by decide) (by decide)))).same W18
  have N18 := Fr.snoc X18 N17 g_ob
  refine own_step st18 ?_
  show own_Go p e below P T18 (mkF m 169 #[.val (.ref ob), .val (.ref sa), .val (.double x2), .second, .val (.double x3), .second, .val (.double x4), .second, .val (.double x5), .second, .val (.double x6), .second, .val (.double x7), .second, .val (.ref sc)] [])
  refine own_step (fun _ k => XS.aloadN X18.here hx rfl (hb hby d1_169) rfl rfl k) ?_
  show own_Go p e below P T18 (mkF m 170 #[.val (.ref ob), .val (.ref sa), .val (.double x2), .second, .val (.double x3), .second, .val (.double x4), .second, .val (.double x5), .second, .val (.double x6), .second, .val (.double x7), .second, .val (.ref sc)] [(.ref ob)])
  refine own_step (fun _ k => XS.dload X18.here hx rfl (hb hby d1_170) rfl k) ?_
  show own_Go p e below P T18 (mkF m 172 #[.val (.ref ob), .val (.ref sa), .val (.double x2), .second, .val (.double x3), .second, .val (.double x4), .second, .val (.double x5), .second, .val (.double x6), .second, .val (.double x7), .second, .val (.ref sc)] [(.double x5), (.ref ob)])
  obtain ⟨T19, h19, X19, e19, W19, st19⟩ := putF X18 hx hZ13 hown13 (host := "") (Or.inl (hw _ (List.mem_of_getElem? (i := 99) rfl))) Via.refl e18 (((((((((F_c1_ob.ext E3).ext E5).ext E7).ext E11).ext E13).other W15 (Or.inr (slot_ne (Or.inr (hw _ (List.mem_of_getElem? (i := 100) rfl))) (Or.inr (hw _ (List.mem_of_getElem? (i := 92) rfl))) (by decide) (t := .double) (t' := (.object "java/lang/String")) (by decide) (by decide)))).other W16 (Or.inr (slot_ne (Or.inr (hw _ (List.mem_of_getElem? (i := 100) rfl))) (Or.inr (hw _ (List.mem_of_getElem? (i := 94) rfl))) (by decide) (t := .double) (t' := .double) (by decide) (by decide)))).other W17 (Or.inr (slot_ne (Or.inr (hw _ (List.mem_of_getElem? (i := 100) rfl))) (Or.inr (hw _ (List.mem_of_getElem? (i := 96) rfl))) (by decide) (t := .double) (t' := .double) (by decide) (by decide)))).other W18 (Or.inr (slot_ne (Or.inr (hw _ (List.mem_of_getElem? (i := 100) rfl))) (Or.inr (hw _ (List.mem_of_getElem? (i := 98) rfl))) (by decide) (t := .double) (t' := .double) (by decide) (by decide)))) (((((((((E_ob.ext E3).ext E5).ext E7).ext E11).ext E13).wr W15).wr W16).wr W17).wr W18) (Or.inr ⟨(hw _ (List.mem_of_getElem? (i := 100) rfl)), rfl, hnm⟩) (hw _ (List.mem_of_getElem? (i := 5) rfl)) (ty := .double) (by decide) rfl rfl (g := (mkF m 172 #[.val (.ref ob), .val (.ref sa), .val (.double x2), .second, .val (.double x3), .second, .val (.double x4), .second, .val (.double x5), .second, .val (.double x6), .second, .val (.double x7), .second, .val (.ref sc)] [(.double x5), (.ref ob)])) rfl rfl (hb hby d1_172)
  have Fw19 := (((((((((F_c1_ob.ext E3).ext E5).ext E7).ext E11).ext E13).other W15 (Or.inr (slot_ne (Or.inr (hw _ (List.mem_of_getElem? (i := 100) rfl))) (Or.inr (hw _ (List.mem_of_getElem? (i := 92) rfl))) (by decide) (t := .double) (t' := (.object "java/lang/String")) (by decide) (by decide)))).other W16 (Or.inr (slot_ne (Or.inr (hw _ (List.mem_of_getElem? (i := 100) rfl))) (Or.inr (hw _ (List.mem_of_getElem? (i := 94) rfl))) (by decide) (t := .double) (t' := .double) (by decide) (by decide)))).other W17 (Or.inr (slot_ne (Or.inr (hw _ (List.mem_of_getElem? (i := 100) rfl))) (Or.inr (hw _ (List.mem_of_getElem? (i := 96) rfl))) (by decide) (t := .double) (t' := .double) (by decide) (by decide)))).other W18 (Or.inr (slot_ne (Or.inr (hw _ (List.mem_of_getElem? (i := 100) rfl))) (Or.inr (hw _ (List.mem_of_getElem? (i := 98) rfl))) (by decide) (t := .double) (t' := .double) (by decide) (by decide)))).same W19
  have N19 := Fr.snoc X19 N18 g_ob
  refine own_step st19 ?_
  show own_Go p e below P T19 (mkF m 175 #[.val (.ref ob), .val (.ref sa), .val (.double x2), .second, .val (.double x3), .second, .val (.double x4), .second, .val (.double x5), .second, .val (.double x6), .second, .val (.double x7), .second, .val (.ref sc)] [])
  refine own_step (fun _ k => XS.aloadN X19.here hx rfl (hb hby d1_175) rfl rfl k) ?_
  show own_Go p e below P T19 (mkF m 176 #[.val (.ref ob), .val (.ref sa), .val (.double x2), .second, .val (.double x3), .second, .val (.double x4), .second, .val (.double x5), .second, .val (.double x6), .second, .val (.double x7), .second, .val (.ref sc)] [(.ref ob)])
  refine own_step (fun _ k => XS.dload X19.here hx rfl (hb hby d1_176) rfl k) ?_
  show own_Go p e below P T19 (mkF m 178 #[.val (.ref ob), .val (.ref sa), .val (.double x2), .second, .val (.double x3), .second, .val (.double x4), .second, .val (.double x5), .second, .val (.double x6), .second, .val (.double x7), .second, .val (.ref sc)] [(.double x6), (.ref ob)])
  obtain ⟨T20, h20, X20, e20, W20, st20⟩ := putF X19 hx hZ13 hown13 (host := "") (Or.inl (hw _ (List.mem_of_getElem? (i := 101) rfl))) Via.refl e19 ((((((((((F_associationEnergy_ob.ext E3).ext E5).ext E7).ext E11).ext E13).other W15 (Or.inr (slot_ne (Or.inr (hw _ (List.mem_of_getElem? (i := 102) rfl))) (Or.inr (hw _ (List.mem_of_getElem? (i := 92) rfl))) (by decide) (t := .double) (t' := (.object "java/lang/String")) (by decide) (by decide)))).other W16 (Or.inr (slot_ne (Or.inr (hw _ (List.mem_of_getElem? (i := 102) rfl))) (Or.inr (hw _ (List.mem_of_getElem? (i := 94) rfl))) (by decide) (t := .double) (t' := .double) (by decide) (by decide)))).other W17 (Or.inr (slot_ne (Or.inr (hw _ (List.mem_of_getElem? (i := 102) rfl))) (Or.inr (hw _ (List.mem_of_getElem? (i := 96) rfl))) (by decide) (t := .double) (t' := .double) (by decide) (by decide)))).other W18 (Or.inr (slot_ne (Or.inr (hw _ (List.mem_of_getElem? (i := 102) rfl))) (Or.inr (hw _ (List.mem_of_getElem? (i := 98) rfl))) (by decide) (t := .double) (t' := .double) (by decide) (by decide)))).other W19 (Or.inr (slot_ne (Or.inr (hw _ (List.mem_of_getElem? (i := 102) rfl))) (Or.inr (hw _ (List.mem_of_getElem? (i := 100) rfl))) (by decide) (t := .double) (t' := .double) (by decide) (by decide)))) ((((((((((E_ob.ext E3).ext E5).ext E7).ext E11).ext E13).wr W15).wr W16).wr W17).wr W18).wr W19) (Or.inr ⟨(hw _ (List.mem_of_getElem? (i := 102) rfl)), rfl, hnm⟩) (hw _ (List.mem_of_getElem? (i := 5) rfl)) (ty := .double) (by decide) rfl rfl (g := (mkF m 178 #[.val (.ref ob), .val (.ref sa), .val (.double x2), .second, .val (.double x3), .second, .val (.double x4), .second, .val (.double x5), .second, .val (.double x6), .second, .val (.double x7), .second, .val (.ref sc)] [(.double x6), (.ref ob)])) rfl rfl (hb hby d1_178)
  have Fw20 := ((((((((((F_associationEnergy_ob.ext E3).ext E5).ext E7).ext E11).ext E13).other W15 (Or.inr (slot_ne (Or.inr (hw _ (List.mem_of_getElem? (i := 102) rfl))) (Or.inr (hw _ (List.mem_of_getElem? (i := 92) rfl))) (by decide) (t := .double) (t' := (.object "java/lang/String")) (by decide) (by decide)))).other W16 (Or.inr (slot_ne (Or.inr (hw _ (List.mem_of_getElem? (i := 102) rfl))) (Or.inr (hw _ (List.mem_of_getElem? (i := 94) rfl))) (by decide) (t := .double) (t' := .double) (by decide) (by decide)))).other W17 (Or.inr (slot_ne (Or.inr (hw _ (List.mem_of_getElem? (i := 102) rfl))) (Or.inr (hw _ (List.mem_of_getElem? (i := 96) rfl))) (by decide) (t := .double) (t' := .double) (by decide) (by decide)))).other W18 (Or.inr (slot_ne (Or.inr (hw _ (List.mem_of_getElem? (i := 102) rfl))) (Or.inr (hw _ (List.mem_of_getElem? (i := 98) rfl))) (by decide) (t := .double) (t' := .double) (by decide) (by decide)))).other W19 (Or.inr (slot_ne (Or.inr (hw _ (List.mem_of_getElem? (i := 102) rfl))) (Or.inr (hw _ (List.mem_of_getElem? (i := 100) rfl))) (by decide) (t := .double) (t' := .double) (by decide) (by decide)))).same W20
  have N20 := Fr.snoc X20 N19 g_ob
  refine own_step st20 ?_
  show own_Go p e below P T20 (mkF m 181 #[.val (.ref ob), .val (.ref sa), .val (.double x2), .second, .val (.double x3), .second, .val (.double x4), .second, .val (.double x5), .second, .val (.double x6), .second, .val (.double x7), .second, .val (.ref sc)] [])
  refine own_step (fun _ k => XS.aloadN X20.here hx rfl (hb hby d1_181) rfl rfl k) ?_
  show own_Go p e below P T20 (mkF m 182 #[.val (.ref ob), .val (.ref sa), .val (.double x2), .second, .val (.double x3), .second, .val (.double x4), .second, .val (.double x5), .second, .val (.double x6), .second, .val (.double x7), .second, .val (.ref sc)] [(.ref ob)])
  refine own_step (fun _ k => XS.dload X20.here hx rfl (hb hby d1_182) rfl k) ?_
  show own_Go p e below P T20 (mkF m 184 #[.val (.ref ob), .val (.ref sa), .val (.double x2), .second, .val (.double x3), .second, .val (.double x4), .second, .val (.double x5), .second, .val (.double x6), .second, .val (.double x7), .second, .val (.ref sc)] [(.double x7), (.ref ob)])
  obtain ⟨T21, h21, X21, e21, W21, st21⟩ := putF X20 hx hZ13 hown13 (host := "") (Or.inl (hw _ (List.mem_of_getElem? (i := 103) rfl))) Via.refl e20 (((((((((((F_associationVolume_ob.ext E3).ext E5).ext E7).ext E11).ext E13).other W15 (Or.inr (slot_ne (Or.inr (hw _ (List.mem_of_getElem? (i := 104) rfl))) (Or.inr (hw _ (List.mem_of_getElem? (i := 92) rfl))) (by decide) (t := .double) (t' := (.object "java/lang/String")) (by decide) (by decide)))).other W16 (Or.inr (slot_ne (Or.inr (hw _ (List.mem_of_getElem? (i := 104) rfl))) (Or.inr (hw _ (List.mem_of_getElem? (i := 94) rfl))) (by decide) (t := .double) (t' := .double) (by decide) (by decide)))).other W17 (Or.inr (slot_ne (Or.inr (hw _ (List.mem_of_getElem? (i := 104) rfl))) (Or.inr (hw _ (List.mem_of_getElem? (i := 96) rfl))) (by decide) (t := .double) (t' := .double) (by decide) (by decide)))).other W18 (Or.inr (slot_ne (Or.inr (hw _ (List.mem_of_getElem? (i := 104) rfl))) (Or.inr (hw _ (List.mem_of_getElem? (i := 98) rfl))) (by decide) (t := .double) (t' := .double) (by decide) (by decide)))).other W19 (Or.inr (slot_ne (Or.inr (hw _ (List.mem_of_getElem? (i := 104) rfl))) (Or.inr (hw _ (List.mem_of_getElem? (i := 100) rfl))) (by decide) (t := .double) (t' := .double) (by decide) (by decide)))).other W20 (Or.inr (slot_ne (Or.inr (hw _ (List.mem_of_getElem? (i := 104) rfl))) (Or.inr (hw _ (List.mem_of_getElem? (i := 102) rfl))) (by decide) (t := .double) (t' := .double) (by decide) (by decide)))) (((((((((((E_ob.ext E3).ext E5).ext E7).ext E11).ext E13).wr W15).wr W16).wr W17).wr W18).wr W19).wr W20) (Or.inr ⟨(hw _ (List.mem_of_getElem? (i := 104) rfl)), rfl, hnm⟩) (hw _ (List.mem_of_getElem? (i := 5) rfl)) (ty := .double) (by decide) rfl rfl (g := (mkF m 184 #[.val (.ref ob), .val (.ref sa), .val (.double x2), .second, .val (.double x3), .second, .val (.double x4), .second, .val (.double x5), .second, .val (.double x6), .second, .val (.double x7), .second, .val (.ref sc)] [(.double x7), (.ref ob)])) rfl rfl (hb hby d1_184)
  have Fw21 := (((((((((((F_associationVolume_ob.ext E3).ext E5).ext E7).ext E11).ext E13).other W15 (Or.inr (slot_ne (Or.inr (hw _ (List.mem_of_getElem? (i := 104) rfl))) (Or.inr (hw _ (List.mem_of_getElem? (i := 92) rfl))) (by decide) (t := .double) (t' := (.object "java/lang/String")) (by decide) (by decide)))).other W16 (Or.inr (slot_ne (Or.inr (hw _ (List.mem_of_getElem? (i := 104) rfl))) (Or.inr (hw _ (List.mem_of_getElem? (i := 94) rfl))) (by decide) (t := .double) (t' := .double) (by decide) (by decide)))).other W17 (Or.inr (slot_ne (Or.inr (hw _ (List.mem_of_getElem? (i := 104) rfl))) (Or.inr (hw _ (List.mem_of_getElem? (i := 96) rfl))) (by decide) (t := .double) (t' := .double) (by decide) (by decide)))).other W18 (Or.inr (slot_ne (Or.inr (hw _ (List.mem_of_getElem? (i := 104) rfl))) (Or.inr (hw _ (List.mem_of_getElem? (i := 98) rfl))) (by decide) (t := .double) (t' := .double) (by decide) (by decide)))).other W19 (Or.inr (slot_ne (Or.inr (hw _ (List.mem_of_getElem? (i := 104) rfl))) (Or.inr (hw _ (List.mem_of_getElem? (i := 100) rfl))) (by decide) (t := .double) (t' := .double) (by decide) (by decide)))).other W20 (Or.inr (slot_ne (Or.inr (hw _ (List.mem_of_getElem? (i := 104) rfl))) (Or.inr (hw _ (List.mem_of_getElem? (i := 102) rfl))) (by decide) (t := .double) (t' := .double) (by decide) (by decide)))).same W21
  have N21 := Fr.snoc X21 N20 g_ob
  refine own_step st21 ?_
  show own_Go p e below P T21 (mkF m 187 #[.val (.ref ob), .val (.ref sa), .val (.double x2), .second, .val (.double x3), .second, .val (.double x4), .second, .val (.double x5), .second, .val (.double x6), .second, .val (.double x7), .second, .val (.ref sc)] [])
  refine own_step (fun _ k => XS.aloadN X21.here hx rfl (hb hby d1_187) rfl rfl k) ?_
  show own_Go p e below P T21 (mkF m 188 #[.val (.ref ob), .val (.ref sa), .val (.double x2), .second, .val (.double x3), .second, .val (.double x4), .second, .val (.double x5), .second, .val (.double x6), .second, .val (.double x7), .second, .val (.ref sc)] [(.ref ob)])
  refine own_step (fun _ k => XS.aload X21.here hx rfl (hb hby d1_188) rfl rfl k) ?_
  show own_Go p e below P T21 (mkF m 190 #[.val (.ref ob), .val (.ref sa), .val (.double x2), .second, .val (.double x3), .second, .val (.double x4), .second, .val (.double x5), .second, .val (.double x6), .second, .val (.double x7), .second, .val (.ref sc)] [(.ref sc), (.ref ob)])
  obtain ⟨T22, h22, X22, e22, W22, st22⟩ := putF X21 hx hZ13 hown13 (host := "") (Or.inl (hw _ (List.mem_of_getElem? (i := 105) rfl))) Via.refl e21 ((((((((((((F_scheme_ob.ext E3).ext E5).ext E7).ext E11).ext E13).other W15 (Or.inr (slot_ne (Or.inr (hw _ (List.mem_of_getElem? (i := 106) rfl))) (Or.inr (hw _ (List.mem_of_getElem? (i := 92) rfl))) (by decide) (t := (.object "com/example/brinequil/brinequil/model/AssociationScheme")) (t' := (.object "java/lang/String")) (by decide) (by decide)))).other W16 (Or.inr (slot_ne (Or.inr (hw _ (List.mem_of_getElem? (i := 106) rfl))) (Or.inr (hw _ (List.mem_of_getElem? (i := 94) rfl))) (by decide) (t := (.object "com/example/brinequil/brinequil/model/AssociationScheme")) (t' := .double) (by decide) (by decide)))).other W17 (Or.inr (slot_ne (Or.inr (hw _ (List.mem_of_getElem? (i := 106) rfl))) (Or.inr (hw _ (List.mem_of_getElem? (i := 96) rfl))) (by decide) (t := (.object "com/example/brinequil/brinequil/model/AssociationScheme")) (t' := .double) (by decide) (by decide)))).other W18 (Or.inr (slot_ne (Or.inr (hw _ (List.mem_of_getElem? (i := 106) rfl))) (Or.inr (hw _ (List.mem_of_getElem? (i := 98) rfl))) (by decide) (t := (.object "com/example/brinequil/brinequil/model/AssociationScheme")) (t' := .double) (by decide) (by decide)))).other W19 (Or.inr (slot_ne (Or.inr (hw _ (List.mem_of_getElem? (i := 106) rfl))) (Or.inr (hw _ (List.mem_of_getElem? (i := 100) rfl))) (by decide) (t := (.object "com/example/brinequil/brinequil/model/AssociationScheme")) (t' := .double) (by decide) (by decide)))).other W20 (Or.inr (slot_ne (Or.inr (hw _ (List.mem_of_getElem? (i := 106) rfl))) (Or.inr (hw _ (List.mem_of_getElem? (i := 102) rfl))) (by decide) (t := (.object "com/example/brinequil/brinequil/model/AssociationScheme")) (t' := .double) (by decide) (by decide)))).other W21 (Or.inr (slot_ne (Or.inr (hw _ (List.mem_of_getElem? (i := 106) rfl))) (Or.inr (hw _ (List.mem_of_getElem? (i := 104) rfl))) (by decide) (t := (.object "com/example/brinequil/brinequil/model/AssociationScheme")) (t' := .double) (by decide) (by decide)))) ((((((((((((E_ob.ext E3).ext E5).ext E7).ext E11).ext E13).wr W15).wr W16).wr W17).wr W18).wr W19).wr W20).wr W21) (Or.inr ⟨(hw _ (List.mem_of_getElem? (i := 106) rfl)), rfl, hnm⟩) (hw _ (List.mem_of_getElem? (i := 5) rfl)) (ty := (.object "com/example/brinequil/brinequil/model/AssociationScheme")) (by decide) rfl rfl (g := (mkF m 190 #[.val (.ref ob), .val (.ref sa), .val (.double x2), .second, .val (.double x3), .second, .val (.double x4), .second, .val (.double x5), .second, .val (.double x6), .second, .val (.double x7), .second, .val (.ref sc)] [(.ref sc), (.ref ob)])) rfl rfl (hb hby d1_190)
  have Fw22 := ((((((((((((F_scheme_ob.ext E3).ext E5).ext E7).ext E11).ext E13).other W15 (Or.inr (slot_ne (Or.inr (hw _ (List.mem_of_getElem? (i := 106) rfl))) (Or.inr (hw _ (List.mem_of_getElem? (i := 92) rfl))) (by decide) (t := (.object "com/example/brinequil/brinequil/model/AssociationScheme")) (t' := (.object "java/lang/String")) (by decide) (by decide)))).other W16 (Or.inr (slot_ne (Or.inr (hw _ (List.mem_of_getElem? (i := 106) rfl))) (Or.inr (hw _ (List.mem_of_getElem? (i := 94) rfl))) (by decide) (t := (.object "com/example/brinequil/brinequil/model/AssociationScheme")) (t' := .double) (by decide) (by decide)))).other W17 (Or.inr (slot_ne (Or.inr (hw _ (List.mem_of_getElem? (i := 106) rfl))) (Or.inr (hw _ (List.mem_of_getElem? (i := 96) rfl))) (by decide) (t := (.object "com/example/brinequil/brinequil/model/AssociationScheme")) (t' := .double) (by decide) (by decide)))).other W18 (Or.inr (slot_ne (Or.inr (hw _ (List.mem_of_getElem? (i := 106) rfl))) (Or.inr (hw _ (List.mem_of_getElem? (i := 98) rfl))) (by decide) (t := (.object "com/example/brinequil/brinequil/model/AssociationScheme")) (t' := .double) (by decide) (by decide)))).other W19 (Or.inr (slot_ne (Or.inr (hw _ (List.mem_of_getElem? (i := 106) rfl))) (Or.inr (hw _ (List.mem_of_getElem? (i := 100) rfl))) (by decide) (t := (.object "com/example/brinequil/brinequil/model/AssociationScheme")) (t' := .double) (by decide) (by decide)))).other W20 (Or.inr (slot_ne (Or.inr (hw _ (List.mem_of_getElem? (i := 106) rfl))) (Or.inr (hw _ (List.mem_of_getElem? (i := 102) rfl))) (by decide) (t := (.object "com/example/brinequil/brinequil/model/AssociationScheme")) (t' := .double) (by decide) (by decide)))).other W21 (Or.inr (slot_ne (Or.inr (hw _ (List.mem_of_getElem? (i := 106) rfl))) (Or.inr (hw _ (List.mem_of_getElem? (i := 104) rfl))) (by decide) (t := (.object "com/example/brinequil/brinequil/model/AssociationScheme")) (t' := .double) (by decide) (by decide)))).same W22
  have N22 := Fr.snoc X22 N21 g_ob
  refine own_step st22 ?_
  show own_Go p e below P T22 (mkF m 193 #[.val (.ref ob), .val (.ref sa), .val (.double x2), .second, .val (.double x3), .second, .val (.double x4), .second, .val (.double x5), .second, .val (.double x6), .second, .val (.double x7), .second, .val (.ref sc)] [])
  obtain ⟨fs, hr, hrun, hended, hend⟩ := X22.leaveW hS13 (by rw [e22]; exact (Nat.le_trans (Nat.le_trans (Nat.le_trans (Nat.le_trans (Nat.le_trans (Nat.le_trans (Nat.le_trans (Nat.le_trans hk13 (Keep.of_wr W15).1) (Keep.of_wr W16).1) (Keep.of_wr W17).1) (Keep.of_wr W18).1) (Keep.of_wr W19).1) (Keep.of_wr W20).1) (Keep.of_wr W21).1) (Keep.of_wr W22).1)) (v := none) (fun _ => rfl)
  refine ⟨_, _, X22.returnOut hx Bd.returns (hb hby d1_193) hr, hrun, hended, hfin _ _ ⟨_, _, rfl, ?_, hend.1, hend.2.1, hend.2.2.1, hend.2.2.2.mono (by decide) (by decide)⟩⟩
  show Q1P Z ob x2 x3 x4 x5 x6 x7 sa sv kb ch cc ci ta tc pv an sc h0 n0 none T22.heap _
  rw [e22]
  exact ⟨rfl, N22, ((((((((((((((Keep.refl h0 [ob]).ext E3).ext E5).ext E7).ext E11).ext E13).wr W15 (Or.inl (List.mem_of_getElem? (i := 0) rfl))).wr W16 (Or.inl (List.mem_of_getElem? (i := 0) rfl))).wr W17 (Or.inl (List.mem_of_getElem? (i := 0) rfl))).wr W18 (Or.inl (List.mem_of_getElem? (i := 0) rfl))).wr W19 (Or.inl (List.mem_of_getElem? (i := 0) rfl))).wr W20 (Or.inl (List.mem_of_getElem? (i := 0) rfl))).wr W21 (Or.inl (List.mem_of_getElem? (i := 0) rfl))).wr W22 (Or.inl (List.mem_of_getElem? (i := 0) rfl))), (((((((((((((E_ob.ext E3).ext E5).ext E7).ext E11).ext E13).wr W15).wr W16).wr W17).wr W18).wr W19).wr W20).wr W21).wr W22), Fw22⟩
theorem ef_16 (m : MethodId) (x0 : Addr) : entryFrame m #[(.ref x0)] 1 = mkF m 0 #[.val (.ref x0)] [] := by first | (simp [entryFrame, mkF, argsToLocals, Value.category]; done) | rfl
theorem pn_com_example_brinequil_brinequil_model_AssociationScheme : plainName "com/example/brinequil/brinequil/model/AssociationScheme" = true := by first | (simp [plainName, overriddenIn]; done) | decide +kernel
theorem d16_0 : decode prog_18_method_4_code 0 = .ok (.aload_n 0, 1) := by decide +kernel
theorem d16_1 : decode prog_18_method_4_code 1 = .ok (.getfield 36, 3) := by decide +kernel
theorem d16_4 : decode prog_18_method_4_code 4 = .ok (.ireturn, 1) := by decide +kernel
def Q16 (Z : State) (ob : Addr) (fv : Int32) (h0 : Heap) (n0 : Nat) (v : Option Value) (h : Heap) (L : List Loc) : Prop := v = some (.int fv) ∧ Fr n0 L ∧ h = h0
set_option maxRecDepth 65536 in
set_option maxHeartbeats 40000000 in
theorem rm16 (l : Launch) (Z : State) (a0 : Array Value) (hw : ∀ d ∈ tables_1, d.before a0 Z = true) (ws : List Jvm.Cond) (ob : Addr) (fv : Int32) (h0 : Heap) (n0 : Nat) (Z0 : n0 ≤ h0.size) (F_donors_ob : Fld Z h0 ob "com/example/brinequil/brinequil/model/AssociationScheme" "donors" "I" (.int fv)) :
    MetFree l (⟨"com/example/brinequil/brinequil/model/AssociationScheme", "donors", "()I"⟩ : MethodName) (head1 (Jvm.Cond.code (⟨"com/example/brinequil/brinequil/model/AssociationScheme", "donors", "()I"⟩ : MethodName) prog_18_method_4_code 1 (some .int) :: ws) ({ frames := 0, cells := 0, slots := 0, locals := 0 } : Room)) (fun a U => a = #[(.ref ob)] ∧ Z.Warmed39 U.vm ∧ U.heap = h0) (fun _ _ _ _ _ => True) (fun _ U o U' => ∃ v L, o = .returned v ∧ Q16 Z ob fv h0 n0 v U'.heap L ∧ FrameEnd U o U' L ({ frames := 0, cells := 0, slots := 0, locals := 0 } : Room).cells ({ frames := 0, cells := 0, slots := 0, locals := 0 } : Room).slots) := by
  refine MetFree.of_bodySF (plainFor_of_name pn_com_example_brinequil_brinequil_model_AssociationScheme) hisR ?_
  intro p e s m args below meth c s₁ Bd hml0 hP hK
  obtain ⟨rfl, hZ, hh⟩ := hP
  have hx := Bd.exec
  have hby := Bd.bytes
  have hml : c.maxLocals = 1 := hml0
  have hown : s.vm.findClass "com/example/brinequil/brinequil/model/AssociationScheme" = some m.cls := findClass_of_methodNamed Bd.named
  have hnm := (name_of_methodNamed Bd.named Bd.method).1
  have X0 : Stand p l e ({ frames := 0, cells := 0, slots := 0, locals := 0 } : Room) s m #[(.ref ob)] below meth c s₁ [] 0 0 := Stand.of_body Bd
  have e0 : s₁.heap = h0 := by rw [← hh, Bd.state]; rfl
  have N0 := Fr.nil n0
  refine own_all ?_
  intro P hfin
  refine own_cast (ef_16 m ob) ?_
  show own_Go p e below P s₁ (mkF m 0 #[.val (.ref ob)] [])
  refine own_step (fun _ k => XS.aloadN X0.here hx rfl (hb hby d16_0) rfl rfl k) ?_
  show own_Go p e below P s₁ (mkF m 1 #[.val (.ref ob)] [(.ref ob)])
  obtain ⟨T1, X1, e1, st1⟩ := getF X0 hx hZ hown (host := "") (Or.inl (hw _ (List.mem_of_getElem? (i := 112) rfl))) Via.refl e0 F_donors_ob (g := (mkF m 1 #[.val (.ref ob)] [(.ref ob)])) rfl rfl (hb hby d16_1)
  refine own_step st1 ?_
  show own_Go p e below P T1 (mkF m 4 #[.val (.ref ob)] [(.int fv)])
  obtain ⟨fs, hr, hrun, hended, hW, hsame⟩ := X1.leave (v := some (.int fv)) (fun h => by rw [Bd.returns] at h; cases h)
  refine ⟨_, _, retOut X1 hx (t := .int) Bd.returns rfl (Or.inl ⟨rfl, Or.inl rfl, _, rfl⟩) (hb hby d16_4) hr, hrun, hended, hfin _ _ ⟨_, _, rfl, ?_, ⟨_, rfl⟩, hW, hsame.mono (by decide) (by decide)⟩⟩
  show Q16 Z ob fv h0 n0 (some (.int fv)) T1.heap _
  rw [e1]
  exact ⟨rfl, N0, rfl⟩
theorem ef_17 (m : MethodId) (x0 : Addr) : entryFrame m #[(.ref x0)] 1 = mkF m 0 #[.val (.ref x0)] [] := by first | (simp [entryFrame, mkF, argsToLocals, Value.category]; done) | rfl
theorem d17_0 : decode prog_18_method_5_code 0 = .ok (.aload_n 0, 1) := by decide +kernel
theorem d17_1 : decode prog_18_method_5_code 1 = .ok (.getfield 40, 3) := by decide +kernel
theorem d17_4 : decode prog_18_method_5_code 4 = .ok (.ireturn, 1) := by decide +kernel
def Q17 (Z : State) (ob : Addr) (fv : Int32) (h0 : Heap) (n0 : Nat) (v : Option Value) (h : Heap) (L : List Loc) : Prop := v = some (.int fv) ∧ Fr n0 L ∧ h = h0
set_option maxRecDepth 65536 in
set_option maxHeartbeats 40000000 in
theorem rm17 (l : Launch) (Z : State) (a0 : Array Value) (hw : ∀ d ∈ tables_1, d.before a0 Z = true) (ws : List Jvm.Cond) (ob : Addr) (fv : Int32) (h0 : Heap) (n0 : Nat) (Z0 : n0 ≤ h0.size) (F_acceptors_ob : Fld Z h0 ob "com/example/brinequil/brinequil/model/AssociationScheme" "acceptors" "I" (.int fv)) :
    MetFree l (⟨"com/example/brinequil/brinequil/model/AssociationScheme", "acceptors", "()I"⟩ : MethodName) (head1 (Jvm.Cond.code (⟨"com/example/brinequil/brinequil/model/AssociationScheme", "acceptors", "()I"⟩ : MethodName) prog_18_method_5_code 1 (some .int) :: ws) ({ frames := 0, cells := 0, slots := 0, locals := 0 } : Room)) (fun a U => a = #[(.ref ob)] ∧ Z.Warmed39 U.vm ∧ U.heap = h0) (fun _ _ _ _ _ => True) (fun _ U o U' => ∃ v L, o = .returned v ∧ Q17 Z ob fv h0 n0 v U'.heap L ∧ FrameEnd U o U' L ({ frames := 0, cells := 0, slots := 0, locals := 0 } : Room).cells ({ frames := 0, cells := 0, slots := 0, locals := 0 } : Room).slots) := by
  refine MetFree.of_bodySF (plainFor_of_name pn_com_example_brinequil_brinequil_model_AssociationScheme) hisR ?_
  intro p e s m args below meth c s₁ Bd hml0 hP hK
  obtain ⟨rfl, hZ, hh⟩ := hP
  have hx := Bd.exec
  have hby := Bd.bytes
  have hml : c.maxLocals = 1 := hml0
  have hown : s.vm.findClass "com/example/brinequil/brinequil/model/AssociationScheme" = some m.cls := findClass_of_methodNamed Bd.named
  have hnm := (name_of_methodNamed Bd.named Bd.method).1
  have X0 : Stand p l e ({ frames := 0, cells := 0, slots := 0, locals := 0 } : Room) s m #[(.ref ob)] below meth c s₁ [] 0 0 := Stand.of_body Bd
  have e0 : s₁.heap = h0 := by rw [← hh, Bd.state]; rfl
  have N0 := Fr.nil n0
  refine own_all ?_
  intro P hfin
  refine own_cast (ef_17 m ob) ?_
  show own_Go p e below P s₁ (mkF m 0 #[.val (.ref ob)] [])
  refine own_step (fun _ k => XS.aloadN X0.here hx rfl (hb hby d17_0) rfl rfl k) ?_
  show own_Go p e below P s₁ (mkF m 1 #[.val (.ref ob)] [(.ref ob)])
  obtain ⟨T1, X1, e1, st1⟩ := getF X0 hx hZ hown (host := "") (Or.inl (hw _ (List.mem_of_getElem? (i := 119) rfl))) Via.refl e0 F_acceptors_ob (g := (mkF m 1 #[.val (.ref ob)] [(.ref ob)])) rfl rfl (hb hby d17_1)
  refine own_step st1 ?_
  show own_Go p e below P T1 (mkF m 4 #[.val (.ref ob)] [(.int fv)])
  obtain ⟨fs, hr, hrun, hended, hW, hsame⟩ := X1.leave (v := some (.int fv)) (fun h => by rw [Bd.returns] at h; cases h)
  refine ⟨_, _, retOut X1 hx (t := .int) Bd.returns rfl (Or.inl ⟨rfl, Or.inl rfl, _, rfl⟩) (hb hby d17_4) hr, hrun, hended, hfin _ _ ⟨_, _, rfl, ?_, ⟨_, rfl⟩, hW, hsame.mono (by decide) (by decide)⟩⟩
  show Q17 Z ob fv h0 n0 (some (.int fv)) T1.heap _
  rw [e1]
  exact ⟨rfl, N0, rfl⟩
theorem ef_18 (m : MethodId) (x0 : Addr) : entryFrame m #[(.ref x0)] 1 = mkF m 0 #[.val (.ref x0)] [] := by first | (simp [entryFrame, mkF, argsToLocals, Value.category]; done) | rfl
theorem d18_0 : decode prog_24_method_3_code 0 = .ok (.aload_n 0, 1) := by decide +kernel
theorem d18_1 : decode prog_24_method_3_code 1 = .ok (.getfield 79, 3) := by decide +kernel
theorem d18_4 : decode prog_24_method_3_code 4 = .ok (.getstatic 45, 3) := by decide +kernel
theorem d18_7 : decode prog_24_method_3_code 7 = .ok (.if_acmp .eq 7, 3) := by decide +kernel
theorem d18_14 : decode prog_24_method_3_code 14 = .ok (.iconst 0, 1) := by decide +kernel
theorem d18_15 : decode prog_24_method_3_code 15 = .ok (.ireturn, 1) := by decide +kernel
theorem d18_10 : decode prog_24_method_3_code 10 = .ok (.iconst 1, 1) := by decide +kernel
theorem d18_11 : decode prog_24_method_3_code 11 = .ok (.goto 4, 3) := by decide +kernel
def Q18 (Z : State) (ob : Addr) (sc : Addr) (an : Addr) (rr : Int32) (h0 : Heap) (n0 : Nat) (v : Option Value) (h : Heap) (L : List Loc) : Prop := v = some (.int rr) ∧ Fr n0 L ∧ h = h0
set_option maxRecDepth 65536 in
set_option maxHeartbeats 40000000 in
theorem rm18 (l : Launch) (Z : State) (a0 : Array Value) (hw : ∀ d ∈ tables_1, d.before a0 Z = true) (ws : List Jvm.Cond) (ob : Addr) (sc : Addr) (an : Addr) (rr : Int32) (h0 : Heap) (n0 : Nat) (Z0 : n0 ≤ h0.size) (hrr : (if sc = an then (0 : Int32) else 1) = rr) (F_s : Fld Z h0 ob "com/example/brinequil/brinequil/model/Component" "scheme" "Lcom/example/brinequil/brinequil/model/AssociationScheme;" (.ref sc)) (S_NONE : Sta Z h0 "com/example/brinequil/brinequil/model/AssociationScheme" "NONE" "Lcom/example/brinequil/brinequil/model/AssociationScheme;" (.ref an)) :
    MetFree l (⟨"com/example/brinequil/brinequil/model/Component", "associates", "()Z"⟩ : MethodName) (head1 (Jvm.Cond.code (⟨"com/example/brinequil/brinequil/model/Component", "associates", "()Z"⟩ : MethodName) prog_24_method_3_code 1 (some .boolean) :: ws) ({ frames := 0, cells := 0, slots := 0, locals := 0 } : Room)) (fun a U => a = #[(.ref ob)] ∧ Z.Warmed39 U.vm ∧ U.heap = h0) (fun _ _ _ _ _ => True) (fun _ U o U' => ∃ v L, o = .returned v ∧ Q18 Z ob sc an rr h0 n0 v U'.heap L ∧ FrameEnd U o U' L ({ frames := 0, cells := 0, slots := 0, locals := 0 } : Room).cells ({ frames := 0, cells := 0, slots := 0, locals := 0 } : Room).slots) := by
  refine MetFree.of_bodySF (plainFor_of_name pn_com_example_brinequil_brinequil_model_Component) hisR ?_
  intro p e s m args below meth c s₁ Bd hml0 hP hK
  obtain ⟨rfl, hZ, hh⟩ := hP
  have hx := Bd.exec
  have hby := Bd.bytes
  have hml : c.maxLocals = 1 := hml0
  have hown : s.vm.findClass "com/example/brinequil/brinequil/model/Component" = some m.cls := findClass_of_methodNamed Bd.named
  have hnm := (name_of_methodNamed Bd.named Bd.method).1
  have X0 : Stand p l e ({ frames := 0, cells := 0, slots := 0, locals := 0 } : Room) s m #[(.ref ob)] below meth c s₁ [] 0 0 := Stand.of_body Bd
  have e0 : s₁.heap = h0 := by rw [← hh, Bd.state]; rfl
  have N0 := Fr.nil n0
  refine own_all ?_
  intro P hfin
  refine own_cast (ef_18 m ob) ?_
  show own_Go p e below P s₁ (mkF m 0 #[.val (.ref ob)] [])
  refine own_step (fun _ k => XS.aloadN X0.here hx rfl (hb hby d18_0) rfl rfl k) ?_
  show own_Go p e below P s₁ (mkF m 1 #[.val (.ref ob)] [(.ref ob)])
  obtain ⟨T1, X1, e1, st1⟩ := getF X0 hx hZ hown (host := "") (Or.inl (hw _ (List.mem_of_getElem? (i := 105) rfl))) Via.refl e0 F_s (g := (mkF m 1 #[.val (.ref ob)] [(.ref ob)])) rfl rfl (hb hby d18_1)
  refine own_step st1 ?_
  show own_Go p e below P T1 (mkF m 4 #[.val (.ref ob)] [(.ref sc)])
  obtain ⟨T2, X2, e2, st2⟩ := getS2 X1 hx hZ hown (host := "") (Or.inl (hw _ (List.mem_of_getElem? (i := 90) rfl))) Via.refl e1 S_NONE (g := (mkF m 4 #[.val (.ref ob)] [(.ref sc)])) rfl (hb hby d18_4)
  refine own_step st2 ?_
  show own_Go p e below P T2 (mkF m 7 #[.val (.ref ob)] [(.ref an), (.ref sc)])
  by_cases hc3 : sc = an
  · refine own_step (fun _ k => Jvm.RoadKit.acmp (g := (mkF m 7 #[.val (.ref ob)] [(.ref an), (.ref sc)])) X2 hx rfl rfl rfl (pc0 := 7) (pc' := 14) (same := true) rfl (hb hby d18_7) rfl (decide_eq_true (congrArg Value.ref hc3)) (by decide) (by decide) k) ?_
    show own_Go p e below P T2 (mkF m 14 #[.val (.ref ob)] [])
    refine own_step (fun _ k => XS.iconst X2.here hx rfl (hb hby d18_14) k) ?_
    show own_Go p e below P T2 (mkF m 15 #[.val (.ref ob)] [(.int (0 : Int32))])
    obtain ⟨fs, hr, hrun, hended, hW, hsame⟩ := X2.leave (v := some (.int (0 : Int32))) (fun h => by rw [Bd.returns] at h; cases h)
    refine ⟨_, _, retN X2 hx (t := .boolean) Bd.returns (by simp) (hb hby d18_15) hr, hrun, hended, hfin _ _ ⟨_, _, rfl, ?_, ⟨_, rfl⟩, hW, hsame.mono (by decide) (by decide)⟩⟩
    show Q18 Z ob sc an rr h0 n0 (some (.int (0 : Int32))) T2.heap _
    rw [e2]
    exact ⟨(congrArg (fun z => some (Value.int z)) (if_pos hc3).symm).trans (congrArg (fun z => some (Value.int z)) hrr), N0, rfl⟩
  · refine own_step (fun _ k => Jvm.RoadKit.acmp (g := (mkF m 7 #[.val (.ref ob)] [(.ref an), (.ref sc)])) X2 hx rfl rfl rfl (pc0 := 7) (pc' := 10) (same := false) rfl (hb hby d18_7) rfl (decide_eq_false fun q => hc3 (Value.ref.inj q)) (by decide) (by decide) k) ?_
    show own_Go p e below P T2 (mkF m 10 #[.val (.ref ob)] [])
    refine own_step (fun _ k => XS.iconst X2.here hx rfl (hb hby d18_10) k) ?_
    show own_Go p e below P T2 (mkF m 11 #[.val (.ref ob)] [(.int (1 : Int32))])
    refine own_step (fun _ k => XS.goto X2.here hx rfl (pc0 := 11) (pc' := 15) rfl (hb hby d18_11) (by decide) (by decide) k) ?_
    show own_Go p e below P T2 (mkF m 15 #[.val (.ref ob)] [(.int (1 : Int32))])
    obtain ⟨fs, hr, hrun, hended, hW, hsame⟩ := X2.leave (v := some (.int (1 : Int32))) (fun h => by rw [Bd.returns] at h; cases h)
    refine ⟨_, _, retN X2 hx (t := .boolean) Bd.returns (by simp) (hb hby d18_15) hr, hrun, hended, hfin _ _ ⟨_, _, rfl, ?_, ⟨_, rfl⟩, hW, hsame.mono (by decide) (by decide)⟩⟩
    show Q18 Z ob sc an rr h0 n0 (some (.int (1 : Int32))) T2.heap _
    rw [e2]
    exact ⟨(congrArg (fun z => some (Value.int z)) (if_neg hc3).symm).trans (congrArg (fun z => some (Value.int z)) hrr), N0, rfl⟩
theorem ef_0 (m : MethodId) (x0 : Int32) (x1 : Int32) (x2 : Int32) (x3 : Int32) (x4 : Int32) (x5 : Int32) : entryFrame m #[(.int x0), (.int x1), (.int x2), (.int x3), (.int x4), (.int x5)] maxLocals = mkF m 0 #[.val (.int x0), .val (.int x1), .val (.int x2), .val (.int x3), .val (.int x4), .val (.int x5), .unset, .unset, .unset, .unset, .unset, .unset, .unset, .unset, .unset] [] := by first | (simp [entryFrame, mkF, argsToLocals, Value.category, maxLocals]; done) | rfl
theorem pn_com_example_brinequil_brinequil_model_ComponentAssociatesPinLaw : plainName "com/example/brinequil/brinequil/model/ComponentAssociatesPinLaw" = true := by first | (simp [plainName, overriddenIn]; done) | decide +kernel
theorem pd__Ljava_lang_StringDDDDDDLcom_example_brinequil_brinequil_model_AssociationScheme__V : parseMethodDescriptor "(Ljava/lang/String;DDDDDDLcom/example/brinequil/brinequil/model/AssociationScheme;)V" = some ⟨[(.object "java/lang/String"), .double, .double, .double, .double, .double, .double, (.object "com/example/brinequil/brinequil/model/AssociationScheme")], none⟩ := by decide +kernel
def Q0 (Z : State) (p0 : Int32) (p1 : Int32) (p2 : Int32) (p3 : Int32) (p4 : Int32) (p5 : Int32) (cc : Int32) (ci : Addr) (ta : Addr) (tc : Cell) (pv : Int32) (an : Addr) (at_ : Addr) (af : Addr) (h0 : Heap) (n0 : Nat) (v : Option Value) (h : Heap) (L : List Loc) : Prop := v = some (.int 1) ∧ Fr n0 L
set_option maxRecDepth 65536 in
set_option maxHeartbeats 40000000 in
theorem rm0 (l : Launch) (Z : State) (a0 : Array Value) (hw : ∀ d ∈ tables_1, d.before a0 Z = true) (ws : List Jvm.Cond) (p0 : Int32) (p1 : Int32) (p2 : Int32) (p3 : Int32) (p4 : Int32) (p5 : Int32) (cc : Int32) (ci : Addr) (ta : Addr) (tc : Cell) (pv : Int32) (an : Addr) (at_ : Addr) (af : Addr) (h0 : Heap) (n0 : Nat) (Z0 : n0 ≤ h0.size) (S_cs : Sta Z h0 "java/lang/String" "COMPACT_STRINGS" "Z" (.int cc)) (hcc : ¬ (cc = (0 : Int32))) (S_ci : Sta Z h0 "java/lang/CharacterDataLatin1" "instance" "Ljava/lang/CharacterDataLatin1;" (.ref ci)) (E_ci : Exa Z h0 ci "java/lang/CharacterDataLatin1") (S_ta : Sta Z h0 "java/lang/CharacterDataLatin1" "A" "[I" (.ref ta)) (A_ta : Arr Z h0 ta tc .int) (hti : ¬ ((119 : Int32) < 0 ∨ tc.slots.size ≤ ((119 : Int32)).toNatClampNeg)) (htv : tc.slots[((119 : Int32)).toNatClampNeg]? = some (.int pv)) (hpw : ¬ ((pv &&& (28672 : Int32)) = (16384 : Int32))) (hheld : Jvm.Lit.constHeld Z "com/example/brinequil/brinequil/model/ComponentAssociatesPinLaw" 23) (hcw : Jvm.Lit.compactW.before a0 Z = true) (S_NONE : Sta Z h0 "com/example/brinequil/brinequil/model/AssociationScheme" "NONE" "Lcom/example/brinequil/brinequil/model/AssociationScheme;" (.ref an)) (E_NONE : Exa Z h0 an "com/example/brinequil/brinequil/model/AssociationScheme") (Fd_NONE : Fld Z h0 an "com/example/brinequil/brinequil/model/AssociationScheme" "donors" "I" (.int (0 : Int32))) (Fa_NONE : Fld Z h0 an "com/example/brinequil/brinequil/model/AssociationScheme" "acceptors" "I" (.int (0 : Int32))) (S_TWO_B : Sta Z h0 "com/example/brinequil/brinequil/model/AssociationScheme" "TWO_B" "Lcom/example/brinequil/brinequil/model/AssociationScheme;" (.ref at_)) (E_TWO_B : Exa Z h0 at_ "com/example/brinequil/brinequil/model/AssociationScheme") (Fd_TWO_B : Fld Z h0 at_ "com/example/brinequil/brinequil/model/AssociationScheme" "donors" "I" (.int (1 : Int32))) (Fa_TWO_B : Fld Z h0 at_ "com/example/brinequil/brinequil/model/AssociationScheme" "acceptors" "I" (.int (1 : Int32))) (S_FOUR_C : Sta Z h0 "com/example/brinequil/brinequil/model/AssociationScheme" "FOUR_C" "Lcom/example/brinequil/brinequil/model/AssociationScheme;" (.ref af)) (E_FOUR_C : Exa Z h0 af "com/example/brinequil/brinequil/model/AssociationScheme") (Fd_FOUR_C : Fld Z h0 af "com/example/brinequil/brinequil/model/AssociationScheme" "donors" "I" (.int (2 : Int32))) (Fa_FOUR_C : Fld Z h0 af "com/example/brinequil/brinequil/model/AssociationScheme" "acceptors" "I" (.int (2 : Int32))) (hne1 : ¬ (at_ = an)) (hne2 : ¬ (af = an)) :
    MetFree l x (head1 (Jvm.Cond.code x code maxLocals ret :: ws) room_1) (fun a U => a = #[(.int p0), (.int p1), (.int p2), (.int p3), (.int p4), (.int p5)] ∧ Z = U ∧ U.heap = h0) (fun _ _ _ _ _ => True) (fun _ U o U' => ∃ v L, o = .returned v ∧ Q0 Z p0 p1 p2 p3 p4 p5 cc ci ta tc pv an at_ af h0 n0 v U'.heap L ∧ ReturnedEndW U o U' L room_1.cells room_1.slots) := by
  refine MetFree.of_bodySF (plainFor_of_name pn_com_example_brinequil_brinequil_model_ComponentAssociatesPinLaw) hisR ?_
  intro p e s m args below meth c s₁ Bd hml0 hP hK
  obtain ⟨rfl, hZU, hh⟩ := hP
  have hZ : Z.Warmed39 s.vm := hZU ▸ State.Warmed39.refl Z
  have hx := Bd.exec
  have hby := Bd.bytes
  have hml : c.maxLocals = 15 := hml0
  have hown : s.vm.findClass "com/example/brinequil/brinequil/model/ComponentAssociatesPinLaw" = some m.cls := findClass_of_methodNamed Bd.named
  have hnm := (name_of_methodNamed Bd.named Bd.method).1
  have hS0 : s.Since s.vm 0 := (State.WarmedH.refl s).since 0
  have hk0 : 0 ≤ h0.size := Nat.zero_le _
  have X0 : Stand p l e room_1 (s.setVm s.vm) m #[(.int p0), (.int p1), (.int p2), (.int p3), (.int p4), (.int p5)] below meth c s₁ [] 0 0 := Stand.of_body Bd
  have e0 : s₁.heap = h0 := by rw [← hh, Bd.state]; rfl
  have N0 := Fr.nil n0
  refine own_all ?_
  intro P hfin
  refine own_cast (ef_0 m p0 p1 p2 p3 p4 p5) ?_
  show own_Go p e below P s₁ (mkF m 0 #[.val (.int p0), .val (.int p1), .val (.int p2), .val (.int p3), .val (.int p4), .val (.int p5), .unset, .unset, .unset, .unset, .unset, .unset, .unset, .unset, .unset] [])
  refine own_step (fun _ k => XS.iloadN X0.here hx rfl (hb hby at_0) rfl k) ?_
  show own_Go p e below P s₁ (mkF m 1 #[.val (.int p0), .val (.int p1), .val (.int p2), .val (.int p3), .val (.int p4), .val (.int p5), .unset, .unset, .unset, .unset, .unset, .unset, .unset, .unset, .unset] [(.int p0)])
  refine own_step (fun t k => X0.ldcInt hx hown (mvT hZ (hw _ (List.mem_of_getElem? (i := 0) rfl))) (g := (mkF m 1 #[.val (.int p0), .val (.int p1), .val (.int p2), .val (.int p3), .val (.int p4), .val (.int p5), .unset, .unset, .unset, .unset, .unset, .unset, .unset, .unset, .unset] [(.int p0)])) rfl (hb hby at_1) t k) ?_
  show own_Go p e below P s₁ (mkF m 3 #[.val (.int p0), .val (.int p1), .val (.int p2), .val (.int p3), .val (.int p4), .val (.int p5), .unset, .unset, .unset, .unset, .unset, .unset, .unset, .unset, .unset] [(.int (2147483647 : Int32)), (.int p0)])
  refine own_step (fun _ k => XS.iand X0.here hx rfl (hb hby at_3) rfl k) ?_
  show own_Go p e below P s₁ (mkF m 4 #[.val (.int p0), .val (.int p1), .val (.int p2), .val (.int p3), .val (.int p4), .val (.int p5), .unset, .unset, .unset, .unset, .unset, .unset, .unset, .unset, .unset] [(.int (p0 &&& (2147483647 : Int32)))])
  refine own_step (fun _ k => XS.iconst X0.here hx rfl (hb hby at_4) k) ?_
  show own_Go p e below P s₁ (mkF m 5 #[.val (.int p0), .val (.int p1), .val (.int p2), .val (.int p3), .val (.int p4), .val (.int p5), .unset, .unset, .unset, .unset, .unset, .unset, .unset, .unset, .unset] [(.int (3 : Int32)), (.int (p0 &&& (2147483647 : Int32)))])
  refine own_step (fun _ k => iremM X0 hx rfl (hb hby at_5) rfl (by decide : ¬ ((3 : Int32) = (0 : Int32))) k) ?_
  show own_Go p e below P s₁ (mkF m 6 #[.val (.int p0), .val (.int p1), .val (.int p2), .val (.int p3), .val (.int p4), .val (.int p5), .unset, .unset, .unset, .unset, .unset, .unset, .unset, .unset, .unset] [(.int ((p0 &&& (2147483647 : Int32)) % (3 : Int32)))])
  refine own_step (fun _ k => XS.istore X0.here hx rfl (hb hby at_6) rfl (l' := #[.val (.int p0), .val (.int p1), .val (.int p2), .val (.int p3), .val (.int p4), .val (.int p5), .val (.int ((p0 &&& (2147483647 : Int32)) % (3 : Int32))), .unset, .unset, .unset, .unset, .unset, .unset, .unset, .unset]) rfl k) ?_
  show own_Go p e below P s₁ (mkF m 8 #[.val (.int p0), .val (.int p1), .val (.int p2), .val (.int p3), .val (.int p4), .val (.int p5), .val (.int ((p0 &&& (2147483647 : Int32)) % (3 : Int32))), .unset, .unset, .unset, .unset, .unset, .unset, .unset, .unset] [])
  generalize hn_kk : ((p0 &&& (2147483647 : Int32)) % (3 : Int32)) = kk
  refine own_step (fun _ k => XS.iload X0.here hx rfl (hb hby at_8) rfl k) ?_
  show own_Go p e below P s₁ (mkF m 10 #[.val (.int p0), .val (.int p1), .val (.int p2), .val (.int p3), .val (.int p4), .val (.int p5), .val (.int kk), .unset, .unset, .unset, .unset, .unset, .unset, .unset, .unset] [(.int kk)])
  by_cases hc1 : kk = (0 : Int32)
  · refine own_step (fun _ k => XS.ifNo X0.here hx rfl (hb hby at_10) rfl ((if0 _ _).trans (teq hc1).2) k) ?_
    show own_Go p e below P s₁ (mkF m 13 #[.val (.int p0), .val (.int p1), .val (.int p2), .val (.int p3), .val (.int p4), .val (.int p5), .val (.int kk), .unset, .unset, .unset, .unset, .unset, .unset, .unset, .unset] [])
    obtain ⟨T2, X2, e2, st2⟩ := getS2 X0 hx hZ hown (host := "") (Or.inl (hw _ (List.mem_of_getElem? (i := 1) rfl))) Via.refl e0 S_NONE (g := (mkF m 13 #[.val (.int p0), .val (.int p1), .val (.int p2), .val (.int p3), .val (.int p4), .val (.int p5), .val (.int kk), .unset, .unset, .unset, .unset, .unset, .unset, .unset, .unset] [])) rfl (hb hby at_13)
    refine own_step st2 ?_
    show own_Go p e below P T2 (mkF m 16 #[.val (.int p0), .val (.int p1), .val (.int p2), .val (.int p3), .val (.int p4), .val (.int p5), .val (.int kk), .unset, .unset, .unset, .unset, .unset, .unset, .unset, .unset] [(.ref an)])
    refine own_step (fun _ k => XS.astore X2.here hx rfl (hb hby at_16) rfl rfl (l' := #[.val (.int p0), .val (.int p1), .val (.int p2), .val (.int p3), .val (.int p4), .val (.int p5), .val (.int kk), .val (.ref an), .unset, .unset, .unset, .unset, .unset, .unset, .unset]) rfl k) ?_
    show own_Go p e below P T2 (mkF m 18 #[.val (.int p0), .val (.int p1), .val (.int p2), .val (.int p3), .val (.int p4), .val (.int p5), .val (.int kk), .val (.ref an), .unset, .unset, .unset, .unset, .unset, .unset, .unset] [])
    refine own_step (fun _ k => XS.goto X2.here hx rfl (pc0 := 18) (pc' := 40) rfl (hb hby at_18) (by decide) (by decide) k) ?_
    show own_Go p e below P T2 (mkF m 40 #[.val (.int p0), .val (.int p1), .val (.int p2), .val (.int p3), .val (.int p4), .val (.int p5), .val (.int kk), .val (.ref an), .unset, .unset, .unset, .unset, .unset, .unset, .unset] [])
    refine own_step (fun _ k => XS.iload X2.here hx rfl (hb hby at_40) rfl k) ?_
    show own_Go p e below P T2 (mkF m 42 #[.val (.int p0), .val (.int p1), .val (.int p2), .val (.int p3), .val (.int p4), .val (.int p5), .val (.int kk), .val (.ref an), .unset, .unset, .unset, .unset, .unset, .unset, .unset] [(.int kk)])
    refine own_step (fun _ k => XS.ifNo X2.here hx rfl (hb hby at_42) rfl ((if0 _ _).trans (teq hc1).2) k) ?_
    show own_Go p e below P T2 (mkF m 45 #[.val (.int p0), .val (.int p1), .val (.int p2), .val (.int p3), .val (.int p4), .val (.int p5), .val (.int kk), .val (.ref an), .unset, .unset, .unset, .unset, .unset, .unset, .unset] [])
    refine own_step (fun _ k => XS.dconst0 X2.here hx rfl (hb hby at_45) rfl k) ?_
    show own_Go p e below P T2 (mkF m 46 #[.val (.int p0), .val (.int p1), .val (.int p2), .val (.int p3), .val (.int p4), .val (.int p5), .val (.int kk), .val (.ref an), .unset, .unset, .unset, .unset, .unset, .unset, .unset] [(.double FP.dconst0)])
    refine own_step (fun _ k => XS.dstore X2.here hx rfl (hb hby at_46) rfl (l' := #[.val (.int p0), .val (.int p1), .val (.int p2), .val (.int p3), .val (.int p4), .val (.int p5), .val (.int kk), .val (.ref an), .val (.double FP.dconst0), .second, .unset, .unset, .unset, .unset, .unset]) rfl k) ?_
    show own_Go p e below P T2 (mkF m 48 #[.val (.int p0), .val (.int p1), .val (.int p2), .val (.int p3), .val (.int p4), .val (.int p5), .val (.int kk), .val (.ref an), .val (.double FP.dconst0), .second, .unset, .unset, .unset, .unset, .unset] [])
    refine own_step (fun _ k => XS.dconst0 X2.here hx rfl (hb hby at_48) rfl k) ?_
    show own_Go p e below P T2 (mkF m 49 #[.val (.int p0), .val (.int p1), .val (.int p2), .val (.int p3), .val (.int p4), .val (.int p5), .val (.int kk), .val (.ref an), .val (.double FP.dconst0), .second, .unset, .unset, .unset, .unset, .unset] [(.double FP.dconst0)])
    refine own_step (fun _ k => XS.dstore X2.here hx rfl (hb hby at_49) rfl (l' := #[.val (.int p0), .val (.int p1), .val (.int p2), .val (.int p3), .val (.int p4), .val (.int p5), .val (.int kk), .val (.ref an), .val (.double FP.dconst0), .second, .val (.double FP.dconst0), .second, .unset, .unset, .unset]) rfl k) ?_
    show own_Go p e below P T2 (mkF m 51 #[.val (.int p0), .val (.int p1), .val (.int p2), .val (.int p3), .val (.int p4), .val (.int p5), .val (.int kk), .val (.ref an), .val (.double FP.dconst0), .second, .val (.double FP.dconst0), .second, .unset, .unset, .unset] [])
    refine own_step (fun _ k => XS.goto X2.here hx rfl (pc0 := 51) (pc' := 77) rfl (hb hby at_51) (by decide) (by decide) k) ?_
    show own_Go p e below P T2 (mkF m 77 #[.val (.int p0), .val (.int p1), .val (.int p2), .val (.int p3), .val (.int p4), .val (.int p5), .val (.int kk), .val (.ref an), .val (.double FP.dconst0), .second, .val (.double FP.dconst0), .second, .unset, .unset, .unset] [])
    obtain ⟨T3, h3, X3, e3, E3, A3, D3, -, st3⟩ := newO X2 hx hZ hown (hw _ (List.mem_of_getElem? (i := 4) rfl)) (hw _ (List.mem_of_getElem? (i := 5) rfl)) (hw _ (List.mem_of_getElem? (i := 6) rfl)) e2 (g := (mkF m 77 #[.val (.int p0), .val (.int p1), .val (.int p2), .val (.int p3), .val (.int p4), .val (.int p5), .val (.int kk), .val (.ref an), .val (.double FP.dconst0), .second, .val (.double FP.dconst0), .second, .unset, .unset, .unset] [])) rfl (hb hby at_77) (by decide) (by decide)
    obtain ⟨b3, g3⟩ : ∃ z, z = h0.size := ⟨_, rfl⟩
    rw [← g3] at A3 D3 st3
    have g_b3 : n0 ≤ b3 := Nat.le_trans Z0 (Nat.le_of_eq g3.symm)
    have sz_b3 : h0.size ≤ b3 := Nat.le_trans (Keep.refl h0 []).1 (Nat.le_of_eq g3.symm)
    have E_b3 := A3
    have F_name_b3 : Fld Z h3 b3 "com/example/brinequil/brinequil/model/Component" "name" "Ljava/lang/String;" .null := D3 (Or.inr (hw _ (List.mem_of_getElem? (i := 92) rfl))) (ty := (.object "java/lang/String")) (by decide)
    have F_criticalTemperature_b3 : Fld Z h3 b3 "com/example/brinequil/brinequil/model/Component" "criticalTemperature" "D" (.double (0 : UInt64)) := D3 (Or.inr (hw _ (List.mem_of_getElem? (i := 94) rfl))) (ty := .double) (by decide)
    have F_a0_b3 : Fld Z h3 b3 "com/example/brinequil/brinequil/model/Component" "a0" "D" (.double (0 : UInt64)) := D3 (Or.inr (hw _ (List.mem_of_getElem? (i := 96) rfl))) (ty := .double) (by decide)
    have F_b_b3 : Fld Z h3 b3 "com/example/brinequil/brinequil/model/Component" "b" "D" (.double (0 : UInt64)) := D3 (Or.inr (hw _ (List.mem_of_getElem? (i := 98) rfl))) (ty := .double) (by decide)
    have F_c1_b3 : Fld Z h3 b3 "com/example/brinequil/brinequil/model/Component" "c1" "D" (.double (0 : UInt64)) := D3 (Or.inr (hw _ (List.mem_of_getElem? (i := 100) rfl))) (ty := .double) (by decide)
    have F_associationEnergy_b3 : Fld Z h3 b3 "com/example/brinequil/brinequil/model/Component" "associationEnergy" "D" (.double (0 : UInt64)) := D3 (Or.inr (hw _ (List.mem_of_getElem? (i := 102) rfl))) (ty := .double) (by decide)
    have F_associationVolume_b3 : Fld Z h3 b3 "com/example/brinequil/brinequil/model/Component" "associationVolume" "D" (.double (0 : UInt64)) := D3 (Or.inr (hw _ (List.mem_of_getElem? (i := 104) rfl))) (ty := .double) (by decide)
    have F_scheme_b3 : Fld Z h3 b3 "com/example/brinequil/brinequil/model/Component" "scheme" "Lcom/example/brinequil/brinequil/model/AssociationScheme;" .null := D3 (Or.inr (hw _ (List.mem_of_getElem? (i := 106) rfl))) (ty := (.object "com/example/brinequil/brinequil/model/AssociationScheme")) (by decide)
    refine own_step st3 ?_
    show own_Go p e below P T3 (mkF m 80 #[.val (.int p0), .val (.int p1), .val (.int p2), .val (.int p3), .val (.int p4), .val (.int p5), .val (.int kk), .val (.ref an), .val (.double FP.dconst0), .second, .val (.double FP.dconst0), .second, .unset, .unset, .unset] [(.ref b3)])
    refine own_step (fun _ k => XS.dup X3.here hx rfl (hb hby at_80) rfl rfl k) ?_
    show own_Go p e below P T3 (mkF m 81 #[.val (.int p0), .val (.int p1), .val (.int p2), .val (.int p3), .val (.int p4), .val (.int p5), .val (.int kk), .val (.ref an), .val (.double FP.dconst0), .second, .val (.double FP.dconst0), .second, .unset, .unset, .unset] [(.ref b3), (.ref b3)])
    obtain ⟨b4, T4, h4, kk4, b4v, kc4, X4, e4, E4, hS4, hk4, hZ4, hown4, Es4, Fc4, Fv4, V4, lt4, ltv4, I4, st4⟩ := ldcSV X3 hx hZ hown (hw _ (List.mem_of_getElem? (i := 7) rfl)) (own_wS hw) e3 hS0 (Nat.le_trans hk0 E3.1) (Fr.nil _) (fun b cl q => hZU ▸ q) (by rw [hZU]; exact IB.start) List.not_mem_nil hheld hcw (vs := [(.int (119 : Int32))]) (z := (1 : Int32)) ⟨by decide, by decide +kernel⟩ (by decide) (by decide) (g := (mkF m 81 #[.val (.int p0), .val (.int p1), .val (.int p2), .val (.int p3), .val (.int p4), .val (.int p5), .val (.int kk), .val (.ref an), .val (.double FP.dconst0), .second, .val (.double FP.dconst0), .second, .unset, .unset, .unset] [(.ref b3), (.ref b3)])) rfl (hb hby at_81) (n := 4) (by decide) (by decide) (by decide) (by decide)
    refine own_step st4 ?_
    show own_Go p e below P T4 (mkF m 83 #[.val (.int p0), .val (.int p1), .val (.int p2), .val (.int p3), .val (.int p4), .val (.int p5), .val (.int kk), .val (.ref an), .val (.double FP.dconst0), .second, .val (.double FP.dconst0), .second, .unset, .unset, .unset] [(.ref b4), (.ref b3), (.ref b3)])
    refine own_step (fun _ k => XS.iloadN X4.here hx rfl (hb hby at_83) rfl k) ?_
    show own_Go p e below P T4 (mkF m 84 #[.val (.int p0), .val (.int p1), .val (.int p2), .val (.int p3), .val (.int p4), .val (.int p5), .val (.int kk), .val (.ref an), .val (.double FP.dconst0), .second, .val (.double FP.dconst0), .second, .unset, .unset, .unset] [(.int p1), (.ref b4), (.ref b3), (.ref b3)])
    refine own_step (fun t k => X4.ldcInt hx hown4 (mvT hZ4 (hw _ (List.mem_of_getElem? (i := 15) rfl))) (g := (mkF m 84 #[.val (.int p0), .val (.int p1), .val (.int p2), .val (.int p3), .val (.int p4), .val (.int p5), .val (.int kk), .val (.ref an), .val (.double FP.dconst0), .second, .val (.double FP.dconst0), .second, .unset, .unset, .unset] [(.int p1), (.ref b4), (.ref b3), (.ref b3)])) rfl (hb hby at_84) t k) ?_
    show own_Go p e below P T4 (mkF m 86 #[.val (.int p0), .val (.int p1), .val (.int p2), .val (.int p3), .val (.int p4), .val (.int p5), .val (.int kk), .val (.ref an), .val (.double FP.dconst0), .second, .val (.double FP.dconst0), .second, .unset, .unset, .unset] [(.int (65535 : Int32)), (.int p1), (.ref b4), (.ref b3), (.ref b3)])
    refine own_step (fun _ k => XS.iand X4.here hx rfl (hb hby at_86) rfl k) ?_
    show own_Go p e below P T4 (mkF m 87 #[.val (.int p0), .val (.int p1), .val (.int p2), .val (.int p3), .val (.int p4), .val (.int p5), .val (.int kk), .val (.ref an), .val (.double FP.dconst0), .second, .val (.double FP.dconst0), .second, .unset, .unset, .unset] [(.int (p1 &&& (65535 : Int32))), (.ref b4), (.ref b3), (.ref b3)])
    refine own_step (fun _ k => XS.iconst X4.here hx rfl (hb hby at_87) k) ?_
    show own_Go p e below P T4 (mkF m 88 #[.val (.int p0), .val (.int p1), .val (.int p2), .val (.int p3), .val (.int p4), .val (.int p5), .val (.int kk), .val (.ref an), .val (.double FP.dconst0), .second, .val (.double FP.dconst0), .second, .unset, .unset, .unset] [(.int (1 : Int32)), (.int (p1 &&& (65535 : Int32))), (.ref b4), (.ref b3), (.ref b3)])
    refine own_step (fun _ k => XS.iadd X4.here hx rfl (hb hby at_88) rfl k) ?_
    show own_Go p e below P T4 (mkF m 89 #[.val (.int p0), .val (.int p1), .val (.int p2), .val (.int p3), .val (.int p4), .val (.int p5), .val (.int kk), .val (.ref an), .val (.double FP.dconst0), .second, .val (.double FP.dconst0), .second, .unset, .unset, .unset] [(.int ((p1 &&& (65535 : Int32)) + (1 : Int32))), (.ref b4), (.ref b3), (.ref b3)])
    refine own_step (fun _ k => XS.i2dS X4.here hx rfl (hb hby at_89) rfl rfl k) ?_
    show own_Go p e below P T4 (mkF m 90 #[.val (.int p0), .val (.int p1), .val (.int p2), .val (.int p3), .val (.int p4), .val (.int p5), .val (.int kk), .val (.ref an), .val (.double FP.dconst0), .second, .val (.double FP.dconst0), .second, .unset, .unset, .unset] [(.double (FP.i2d ((p1 &&& (65535 : Int32)) + (1 : Int32)))), (.ref b4), (.ref b3), (.ref b3)])
    refine own_step (fun _ k => XS.iloadN X4.here hx rfl (hb hby at_90) rfl k) ?_
    show own_Go p e below P T4 (mkF m 91 #[.val (.int p0), .val (.int p1), .val (.int p2), .val (.int p3), .val (.int p4), .val (.int p5), .val (.int kk), .val (.ref an), .val (.double FP.dconst0), .second, .val (.double FP.dconst0), .second, .unset, .unset, .unset] [(.int p2), (.double (FP.i2d ((p1 &&& (65535 : Int32)) + (1 : Int32)))), (.ref b4), (.ref b3), (.ref b3)])
    refine own_step (fun t k => X4.ldcInt hx hown4 (mvT hZ4 (hw _ (List.mem_of_getElem? (i := 15) rfl))) (g := (mkF m 91 #[.val (.int p0), .val (.int p1), .val (.int p2), .val (.int p3), .val (.int p4), .val (.int p5), .val (.int kk), .val (.ref an), .val (.double FP.dconst0), .second, .val (.double FP.dconst0), .second, .unset, .unset, .unset] [(.int p2), (.double (FP.i2d ((p1 &&& (65535 : Int32)) + (1 : Int32)))), (.ref b4), (.ref b3), (.ref b3)])) rfl (hb hby at_91) t k) ?_
    show own_Go p e below P T4 (mkF m 93 #[.val (.int p0), .val (.int p1), .val (.int p2), .val (.int p3), .val (.int p4), .val (.int p5), .val (.int kk), .val (.ref an), .val (.double FP.dconst0), .second, .val (.double FP.dconst0), .second, .unset, .unset, .unset] [(.int (65535 : Int32)), (.int p2), (.double (FP.i2d ((p1 &&& (65535 : Int32)) + (1 : Int32)))), (.ref b4), (.ref b3), (.ref b3)])
    refine own_step (fun _ k => XS.iand X4.here hx rfl (hb hby at_93) rfl k) ?_
    show own_Go p e below P T4 (mkF m 94 #[.val (.int p0), .val (.int p1), .val (.int p2), .val (.int p3), .val (.int p4), .val (.int p5), .val (.int kk), .val (.ref an), .val (.double FP.dconst0), .second, .val (.double FP.dconst0), .second, .unset, .unset, .unset] [(.int (p2 &&& (65535 : Int32))), (.double (FP.i2d ((p1 &&& (65535 : Int32)) + (1 : Int32)))), (.ref b4), (.ref b3), (.ref b3)])
    refine own_step (fun _ k => XS.iconst X4.here hx rfl (hb hby at_94) k) ?_
    show own_Go p e below P T4 (mkF m 95 #[.val (.int p0), .val (.int p1), .val (.int p2), .val (.int p3), .val (.int p4), .val (.int p5), .val (.int kk), .val (.ref an), .val (.double FP.dconst0), .second, .val (.double FP.dconst0), .second, .unset, .unset, .unset] [(.int (1 : Int32)), (.int (p2 &&& (65535 : Int32))), (.double (FP.i2d ((p1 &&& (65535 : Int32)) + (1 : Int32)))), (.ref b4), (.ref b3), (.ref b3)])
    refine own_step (fun _ k => XS.iadd X4.here hx rfl (hb hby at_95) rfl k) ?_
    show own_Go p e below P T4 (mkF m 96 #[.val (.int p0), .val (.int p1), .val (.int p2), .val (.int p3), .val (.int p4), .val (.int p5), .val (.int kk), .val (.ref an), .val (.double FP.dconst0), .second, .val (.double FP.dconst0), .second, .unset, .unset, .unset] [(.int ((p2 &&& (65535 : Int32)) + (1 : Int32))), (.double (FP.i2d ((p1 &&& (65535 : Int32)) + (1 : Int32)))), (.ref b4), (.ref b3), (.ref b3)])
    refine own_step (fun _ k => XS.i2dS X4.here hx rfl (hb hby at_96) rfl rfl k) ?_
    show own_Go p e below P T4 (mkF m 97 #[.val (.int p0), .val (.int p1), .val (.int p2), .val (.int p3), .val (.int p4), .val (.int p5), .val (.int kk), .val (.ref an), .val (.double FP.dconst0), .second, .val (.double FP.dconst0), .second, .unset, .unset, .unset] [(.double (FP.i2d ((p2 &&& (65535 : Int32)) + (1 : Int32)))), (.double (FP.i2d ((p1 &&& (65535 : Int32)) + (1 : Int32)))), (.ref b4), (.ref b3), (.ref b3)])
    refine own_step (fun _ k => XS.iloadN X4.here hx rfl (hb hby at_97) rfl k) ?_
    show own_Go p e below P T4 (mkF m 98 #[.val (.int p0), .val (.int p1), .val (.int p2), .val (.int p3), .val (.int p4), .val (.int p5), .val (.int kk), .val (.ref an), .val (.double FP.dconst0), .second, .val (.double FP.dconst0), .second, .unset, .unset, .unset] [(.int p3), (.double (FP.i2d ((p2 &&& (65535 : Int32)) + (1 : Int32)))), (.double (FP.i2d ((p1 &&& (65535 : Int32)) + (1 : Int32)))), (.ref b4), (.ref b3), (.ref b3)])
    refine own_step (fun t k => X4.ldcInt hx hown4 (mvT hZ4 (hw _ (List.mem_of_getElem? (i := 15) rfl))) (g := (mkF m 98 #[.val (.int p0), .val (.int p1), .val (.int p2), .val (.int p3), .val (.int p4), .val (.int p5), .val (.int kk), .val (.ref an), .val (.double FP.dconst0), .second, .val (.double FP.dconst0), .second, .unset, .unset, .unset] [(.int p3), (.double (FP.i2d ((p2 &&& (65535 : Int32)) + (1 : Int32)))), (.double (FP.i2d ((p1 &&& (65535 : Int32)) + (1 : Int32)))), (.ref b4), (.ref b3), (.ref b3)])) rfl (hb hby at_98) t k) ?_
    show own_Go p e below P T4 (mkF m 100 #[.val (.int p0), .val (.int p1), .val (.int p2), .val (.int p3), .val (.int p4), .val (.int p5), .val (.int kk), .val (.ref an), .val (.double FP.dconst0), .second, .val (.double FP.dconst0), .second, .unset, .unset, .unset] [(.int (65535 : Int32)), (.int p3), (.double (FP.i2d ((p2 &&& (65535 : Int32)) + (1 : Int32)))), (.double (FP.i2d ((p1 &&& (65535 : Int32)) + (1 : Int32)))), (.ref b4), (.ref b3), (.ref b3)])
    refine own_step (fun _ k => XS.iand X4.here hx rfl (hb hby at_100) rfl k) ?_
    show own_Go p e below P T4 (mkF m 101 #[.val (.int p0), .val (.int p1), .val (.int p2), .val (.int p3), .val (.int p4), .val (.int p5), .val (.int kk), .val (.ref an), .val (.double FP.dconst0), .second, .val (.double FP.dconst0), .second, .unset, .unset, .unset] [(.int (p3 &&& (65535 : Int32))), (.double (FP.i2d ((p2 &&& (65535 : Int32)) + (1 : Int32)))), (.double (FP.i2d ((p1 &&& (65535 : Int32)) + (1 : Int32)))), (.ref b4), (.ref b3), (.ref b3)])
    refine own_step (fun _ k => XS.iconst X4.here hx rfl (hb hby at_101) k) ?_
    show own_Go p e below P T4 (mkF m 102 #[.val (.int p0), .val (.int p1), .val (.int p2), .val (.int p3), .val (.int p4), .val (.int p5), .val (.int kk), .val (.ref an), .val (.double FP.dconst0), .second, .val (.double FP.dconst0), .second, .unset, .unset, .unset] [(.int (1 : Int32)), (.int (p3 &&& (65535 : Int32))), (.double (FP.i2d ((p2 &&& (65535 : Int32)) + (1 : Int32)))), (.double (FP.i2d ((p1 &&& (65535 : Int32)) + (1 : Int32)))), (.ref b4), (.ref b3), (.ref b3)])
    refine own_step (fun _ k => XS.iadd X4.here hx rfl (hb hby at_102) rfl k) ?_
    show own_Go p e below P T4 (mkF m 103 #[.val (.int p0), .val (.int p1), .val (.int p2), .val (.int p3), .val (.int p4), .val (.int p5), .val (.int kk), .val (.ref an), .val (.double FP.dconst0), .second, .val (.double FP.dconst0), .second, .unset, .unset, .unset] [(.int ((p3 &&& (65535 : Int32)) + (1 : Int32))), (.double (FP.i2d ((p2 &&& (65535 : Int32)) + (1 : Int32)))), (.double (FP.i2d ((p1 &&& (65535 : Int32)) + (1 : Int32)))), (.ref b4), (.ref b3), (.ref b3)])
    refine own_step (fun _ k => XS.i2dS X4.here hx rfl (hb hby at_103) rfl rfl k) ?_
    show own_Go p e below P T4 (mkF m 104 #[.val (.int p0), .val (.int p1), .val (.int p2), .val (.int p3), .val (.int p4), .val (.int p5), .val (.int kk), .val (.ref an), .val (.double FP.dconst0), .second, .val (.double FP.dconst0), .second, .unset, .unset, .unset] [(.double (FP.i2d ((p3 &&& (65535 : Int32)) + (1 : Int32)))), (.double (FP.i2d ((p2 &&& (65535 : Int32)) + (1 : Int32)))), (.double (FP.i2d ((p1 &&& (65535 : Int32)) + (1 : Int32)))), (.ref b4), (.ref b3), (.ref b3)])
    refine own_step (fun _ k => XS.iload X4.here hx rfl (hb hby at_104) rfl k) ?_
    show own_Go p e below P T4 (mkF m 106 #[.val (.int p0), .val (.int p1), .val (.int p2), .val (.int p3), .val (.int p4), .val (.int p5), .val (.int kk), .val (.ref an), .val (.double FP.dconst0), .second, .val (.double FP.dconst0), .second, .unset, .unset, .unset] [(.int p4), (.double (FP.i2d ((p3 &&& (65535 : Int32)) + (1 : Int32)))), (.double (FP.i2d ((p2 &&& (65535 : Int32)) + (1 : Int32)))), (.double (FP.i2d ((p1 &&& (65535 : Int32)) + (1 : Int32)))), (.ref b4), (.ref b3), (.ref b3)])
    refine own_step (fun _ k => XS.i2dS X4.here hx rfl (hb hby at_106) rfl rfl k) ?_
    show own_Go p e below P T4 (mkF m 107 #[.val (.int p0), .val (.int p1), .val (.int p2), .val (.int p3), .val (.int p4), .val (.int p5), .val (.int kk), .val (.ref an), .val (.double FP.dconst0), .second, .val (.double FP.dconst0), .second, .unset, .unset, .unset] [(.double (FP.i2d p4)), (.double (FP.i2d ((p3 &&& (65535 : Int32)) + (1 : Int32)))), (.double (FP.i2d ((p2 &&& (65535 : Int32)) + (1 : Int32)))), (.double (FP.i2d ((p1 &&& (65535 : Int32)) + (1 : Int32)))), (.ref b4), (.ref b3), (.ref b3)])
    refine own_step (fun _ k => XS.dload X4.here hx rfl (hb hby at_107) rfl k) ?_
    show own_Go p e below P T4 (mkF m 109 #[.val (.int p0), .val (.int p1), .val (.int p2), .val (.int p3), .val (.int p4), .val (.int p5), .val (.int kk), .val (.ref an), .val (.double FP.dconst0), .second, .val (.double FP.dconst0), .second, .unset, .unset, .unset] [(.double FP.dconst0), (.double (FP.i2d p4)), (.double (FP.i2d ((p3 &&& (65535 : Int32)) + (1 : Int32)))), (.double (FP.i2d ((p2 &&& (65535 : Int32)) + (1 : Int32)))), (.double (FP.i2d ((p1 &&& (65535 : Int32)) + (1 : Int32)))), (.ref b4), (.ref b3), (.ref b3)])
    refine own_step (fun _ k => XS.dload X4.here hx rfl (hb hby at_109) rfl k) ?_
    show own_Go p e below P T4 (mkF m 111 #[.val (.int p0), .val (.int p1), .val (.int p2), .val (.int p3), .val (.int p4), .val (.int p5), .val (.int kk), .val (.ref an), .val (.double FP.dconst0), .second, .val (.double FP.dconst0), .second, .unset, .unset, .unset] [(.double FP.dconst0), (.double FP.dconst0), (.double (FP.i2d p4)), (.double (FP.i2d ((p3 &&& (65535 : Int32)) + (1 : Int32)))), (.double (FP.i2d ((p2 &&& (65535 : Int32)) + (1 : Int32)))), (.double (FP.i2d ((p1 &&& (65535 : Int32)) + (1 : Int32)))), (.ref b4), (.ref b3), (.ref b3)])
    refine own_step (fun _ k => XS.aload X4.here hx rfl (hb hby at_111) rfl rfl k) ?_
    show own_Go p e below P T4 (mkF m 113 #[.val (.int p0), .val (.int p1), .val (.int p2), .val (.int p3), .val (.int p4), .val (.int p5), .val (.int kk), .val (.ref an), .val (.double FP.dconst0), .second, .val (.double FP.dconst0), .second, .unset, .unset, .unset] [(.ref an), (.double FP.dconst0), (.double FP.dconst0), (.double (FP.i2d p4)), (.double (FP.i2d ((p3 &&& (65535 : Int32)) + (1 : Int32)))), (.double (FP.i2d ((p2 &&& (65535 : Int32)) + (1 : Int32)))), (.double (FP.i2d ((p1 &&& (65535 : Int32)) + (1 : Int32)))), (.ref b4), (.ref b3), (.ref b3)])
    obtain ⟨_, _, ⟨T5, L5, k5, n5⟩, -, X5r, hSr5, hgr5, ⟨Lc5, hQ5, l5, y5, z5⟩, st5⟩ := X4.specialBackS hx (y := (⟨"com/example/brinequil/brinequil/model/Component", "<init>", "(Ljava/lang/String;DDDDDDLcom/example/brinequil/brinequil/model/AssociationScheme;)V"⟩ : MethodName)) rfl hown4 (mvT hZ4 (hw _ (List.mem_of_getElem? (i := 16) rfl))) (mvT hZ4 (hw _ (List.mem_of_getElem? (i := 17) rfl))) (mvT hZ4 (hw _ (List.mem_of_getElem? (i := 18) rfl))) (by decide) (backOfS (W := 1) (rm1N l Z a0 hw [] b3 (FP.i2d ((p1 &&& (65535 : Int32)) + (1 : Int32))) (FP.i2d ((p2 &&& (65535 : Int32)) + (1 : Int32))) (FP.i2d ((p3 &&& (65535 : Int32)) + (1 : Int32))) (FP.i2d p4) b4 b4v kc4 (119 : Int32) cc ci ta tc pv an h4 n0 (Nat.le_trans (Nat.le_trans Z0 E3.1) E4.1) Fc4 Fv4 Es4 V4 ((S_cs.ext E3).ext E4) hcc ((S_ci.ext E3).ext E4) ((E_ci.ext E3).ext E4) ((S_ta.ext E3).ext E4) ((A_ta.ext E3).ext E4) hti htv hpw own_ch119 (E_b3.ext E4) (F_name_b3.ext E4) (F_criticalTemperature_b3.ext E4) (F_a0_b3.ext E4) (F_b_b3.ext E4) (F_c1_b3.ext E4) (F_associationEnergy_b3.ext E4) (F_associationVolume_b3.ext E4) (F_scheme_b3.ext E4) g_b3 ((S_NONE.ext E3).ext E4) (i2d_fin _) (i2d_fin _) (i2d_fin _) (i2d_fin _) (own_pos (own_m16 _)) (own_pos (own_m16 _)) (own_pos (own_m16 _))) hZ4 (hw _ (List.mem_of_getElem? (i := 18) rfl)) (hw _ (List.mem_of_getElem? (i := 6) rfl)) (by decide) (by decide)) (g := (mkF m 113 #[.val (.int p0), .val (.int p1), .val (.int p2), .val (.int p3), .val (.int p4), .val (.int p5), .val (.int kk), .val (.ref an), .val (.double FP.dconst0), .second, .val (.double FP.dconst0), .second, .unset, .unset, .unset] [(.ref an), (.double FP.dconst0), (.double FP.dconst0), (.double (FP.i2d p4)), (.double (FP.i2d ((p3 &&& (65535 : Int32)) + (1 : Int32)))), (.double (FP.i2d ((p2 &&& (65535 : Int32)) + (1 : Int32)))), (.double (FP.i2d ((p1 &&& (65535 : Int32)) + (1 : Int32)))), (.ref b4), (.ref b3), (.ref b3)])) rfl (by rw [hml]; rfl) (Steps.refl _) (a := b3) (argsL := [(.ref b4), (.double (FP.i2d ((p1 &&& (65535 : Int32)) + (1 : Int32)))), (.double (FP.i2d ((p2 &&& (65535 : Int32)) + (1 : Int32)))), (.double (FP.i2d ((p3 &&& (65535 : Int32)) + (1 : Int32)))), (.double (FP.i2d p4)), (.double FP.dconst0), (.double FP.dconst0), (.ref an)]) (rest := [(.ref b3)]) (lenOf pd__Ljava_lang_StringDDDDDDLcom_example_brinequil_brinequil_model_AssociationScheme__V rfl) rfl (by show 2 * 0 + _ ≤ _; exact Nat.le_of_eq rfl) (hb hby at_113) (fun _ _ => ⟨rfl, e4, (by decide : 3 + 6 ≤ _), (by decide : 16 + 32 ≤ _)⟩)
    dsimp only [Pt.U, Pt.locs, Pt.cells, Pt.slots] at X5r hSr5 hgr5 l5 y5 z5 st5 hQ5
    subst l5 y5 z5
    obtain ⟨X5, hS5, hZ5, hown5⟩ := rebS hS4 (by rw [e4]; exact hk4) X5r hSr5 hgr5 hZ4 hown4
    have hk5 := Nat.le_refl T5.heap.size
    obtain ⟨rfl, N5q, K5, E5_o, Fs5⟩ := hQ5
    have N5 := Fr.app N0 N5q
    refine own_step (fun _ k => st5.trans k) ?_
    show own_Go p e below P T5 (mkF m 116 #[.val (.int p0), .val (.int p1), .val (.int p2), .val (.int p3), .val (.int p4), .val (.int p5), .val (.int kk), .val (.ref an), .val (.double FP.dconst0), .second, .val (.double FP.dconst0), .second, .unset, .unset, .unset] [(.ref b3)])
    refine own_step (fun _ k => XS.astore X5.here hx rfl (hb hby at_116) rfl rfl (l' := #[.val (.int p0), .val (.int p1), .val (.int p2), .val (.int p3), .val (.int p4), .val (.int p5), .val (.int kk), .val (.ref an), .val (.double FP.dconst0), .second, .val (.double FP.dconst0), .second, .val (.ref b3), .unset, .unset]) rfl k) ?_
    show own_Go p e below P T5 (mkF m 118 #[.val (.int p0), .val (.int p1), .val (.int p2), .val (.int p3), .val (.int p4), .val (.int p5), .val (.int kk), .val (.ref an), .val (.double FP.dconst0), .second, .val (.double FP.dconst0), .second, .val (.ref b3), .unset, .unset] [])
    refine own_step (fun _ k => XS.iload X5.here hx rfl (hb hby at_118) rfl k) ?_
    show own_Go p e below P T5 (mkF m 120 #[.val (.int p0), .val (.int p1), .val (.int p2), .val (.int p3), .val (.int p4), .val (.int p5), .val (.int kk), .val (.ref an), .val (.double FP.dconst0), .second, .val (.double FP.dconst0), .second, .val (.ref b3), .unset, .unset] [(.int kk)])
    refine own_step (fun _ k => XS.ifYes X5.here hx rfl (pc0 := 120) (pc' := 127) rfl (hb hby at_120) rfl ((if0 _ _).trans (teq hc1).1) (by decide) (by decide) k) ?_
    show own_Go p e below P T5 (mkF m 127 #[.val (.int p0), .val (.int p1), .val (.int p2), .val (.int p3), .val (.int p4), .val (.int p5), .val (.int kk), .val (.ref an), .val (.double FP.dconst0), .second, .val (.double FP.dconst0), .second, .val (.ref b3), .unset, .unset] [])
    refine own_step (fun _ k => XS.iconst X5.here hx rfl (hb hby at_127) k) ?_
    show own_Go p e below P T5 (mkF m 128 #[.val (.int p0), .val (.int p1), .val (.int p2), .val (.int p3), .val (.int p4), .val (.int p5), .val (.int kk), .val (.ref an), .val (.double FP.dconst0), .second, .val (.double FP.dconst0), .second, .val (.ref b3), .unset, .unset] [(.int (0 : Int32))])
    refine own_step (fun _ k => XS.istore X5.here hx rfl (hb hby at_128) rfl (l' := #[.val (.int p0), .val (.int p1), .val (.int p2), .val (.int p3), .val (.int p4), .val (.int p5), .val (.int kk), .val (.ref an), .val (.double FP.dconst0), .second, .val (.double FP.dconst0), .second, .val (.ref b3), .val (.int (0 : Int32)), .unset]) rfl k) ?_
    show own_Go p e below P T5 (mkF m 130 #[.val (.int p0), .val (.int p1), .val (.int p2), .val (.int p3), .val (.int p4), .val (.int p5), .val (.int kk), .val (.ref an), .val (.double FP.dconst0), .second, .val (.double FP.dconst0), .second, .val (.ref b3), .val (.int (0 : Int32)), .unset] [])
    refine own_step (fun _ k => XS.aload X5.here hx rfl (hb hby at_130) rfl rfl k) ?_
    show own_Go p e below P T5 (mkF m 132 #[.val (.int p0), .val (.int p1), .val (.int p2), .val (.int p3), .val (.int p4), .val (.int p5), .val (.int kk), .val (.ref an), .val (.double FP.dconst0), .second, .val (.double FP.dconst0), .second, .val (.ref b3), .val (.int (0 : Int32)), .unset] [(.ref an)])
    obtain ⟨cq6, kq6, q6a, q6b, q6c⟩ := isOf hZ5 rfl (((E_NONE.ext E3).ext E4).keep K5)
    obtain ⟨_, _, ⟨T6, L6, k6, n6⟩, -, X6, ⟨Lc6, hQ6, l6, y6, z6⟩, st6⟩ := X5.virtualBack hx (y := (⟨"com/example/brinequil/brinequil/model/AssociationScheme", "donors", "()I"⟩ : MethodName)) (z := (⟨"com/example/brinequil/brinequil/model/AssociationScheme", "donors", "()I"⟩ : MethodName)) hown5 (mvT hZ5 (hw _ (List.mem_of_getElem? (i := 107) rfl))) (mvT hZ5 (hw _ (List.mem_of_getElem? (i := 108) rfl))) (notFace_of_selects (args := #[]) (mvT hZ5 (hw _ (List.mem_of_getElem? (i := 110) rfl)))) (mvT hZ5 (hw _ (List.mem_of_getElem? (i := 110) rfl))) (mvT hZ5 (hw _ (List.mem_of_getElem? (i := 109) rfl))) (by decide) (backOf (W := 0) (rm16 l Z a0 hw [] an (0 : Int32) T5.heap n0 (Nat.le_trans (Nat.le_trans (Nat.le_trans Z0 E3.1) E4.1) K5.1) (((Fd_NONE.ext E3).ext E4).keep K5 (ninS (Nat.ne_of_lt (Nat.lt_of_lt_of_le E_NONE.lt (Nat.le_of_eq g3.symm))) nin0))) hZ5 (hw _ (List.mem_of_getElem? (i := 111) rfl)) (hw _ (List.mem_of_getElem? (i := 2) rfl)) (by decide) (by decide)) q6a q6c (g := (mkF m 132 #[.val (.int p0), .val (.int p1), .val (.int p2), .val (.int p3), .val (.int p4), .val (.int p5), .val (.int kk), .val (.ref an), .val (.double FP.dconst0), .second, .val (.double FP.dconst0), .second, .val (.ref b3), .val (.int (0 : Int32)), .unset] [(.ref an)])) rfl (by rw [hml]; rfl) (Steps.refl _) (argsL := []) (rest := []) (lenOf pd____I rfl) rfl (by show 2 * 0 + _ ≤ _; exact Nat.le_of_eq rfl) (hb hby at_132) (fun _ _ => ⟨rfl, rfl, (by decide : 9 + 0 ≤ _), (by decide : 48 + 0 ≤ _)⟩)
    dsimp only [Pt.U, Pt.locs, Pt.cells, Pt.slots] at X6 l6 y6 z6 st6 hQ6
    subst l6 y6 z6
    obtain ⟨rfl, N6q, e6⟩ := hQ6
    have N6 := Fr.app N5 N6q
    refine own_step (fun _ k => st6.trans k) ?_
    show own_Go p e below P T6 (mkF m 135 #[.val (.int p0), .val (.int p1), .val (.int p2), .val (.int p3), .val (.int p4), .val (.int p5), .val (.int kk), .val (.ref an), .val (.double FP.dconst0), .second, .val (.double FP.dconst0), .second, .val (.ref b3), .val (.int (0 : Int32)), .unset] [(.int (0 : Int32))])
    refine own_step (fun _ k => XS.aload X6.here hx rfl (hb hby at_135) rfl rfl k) ?_
    show own_Go p e below P T6 (mkF m 137 #[.val (.int p0), .val (.int p1), .val (.int p2), .val (.int p3), .val (.int p4), .val (.int p5), .val (.int kk), .val (.ref an), .val (.double FP.dconst0), .second, .val (.double FP.dconst0), .second, .val (.ref b3), .val (.int (0 : Int32)), .unset] [(.ref an), (.int (0 : Int32))])
    obtain ⟨cq7, kq7, q7a, q7b, q7c⟩ := isOf hZ5 e6 (((E_NONE.ext E3).ext E4).keep K5)
    obtain ⟨_, _, ⟨T7, L7, k7, n7⟩, -, X7, ⟨Lc7, hQ7, l7, y7, z7⟩, st7⟩ := X6.virtualBack hx (y := (⟨"com/example/brinequil/brinequil/model/AssociationScheme", "acceptors", "()I"⟩ : MethodName)) (z := (⟨"com/example/brinequil/brinequil/model/AssociationScheme", "acceptors", "()I"⟩ : MethodName)) hown5 (mvT hZ5 (hw _ (List.mem_of_getElem? (i := 114) rfl))) (mvT hZ5 (hw _ (List.mem_of_getElem? (i := 115) rfl))) (notFace_of_selects (args := #[]) (mvT hZ5 (hw _ (List.mem_of_getElem? (i := 117) rfl)))) (mvT hZ5 (hw _ (List.mem_of_getElem? (i := 117) rfl))) (mvT hZ5 (hw _ (List.mem_of_getElem? (i := 116) rfl))) (by decide) (backOf (W := 1) (rm17 l Z a0 hw [] an (0 : Int32) T5.heap n0 (Nat.le_trans (Nat.le_trans (Nat.le_trans Z0 E3.1) E4.1) K5.1) (((Fa_NONE.ext E3).ext E4).keep K5 (ninS (Nat.ne_of_lt (Nat.lt_of_lt_of_le E_NONE.lt (Nat.le_of_eq g3.symm))) nin0))) hZ5 (hw _ (List.mem_of_getElem? (i := 118) rfl)) (hw _ (List.mem_of_getElem? (i := 2) rfl)) (by decide) (by decide)) q7a q7c (g := (mkF m 137 #[.val (.int p0), .val (.int p1), .val (.int p2), .val (.int p3), .val (.int p4), .val (.int p5), .val (.int kk), .val (.ref an), .val (.double FP.dconst0), .second, .val (.double FP.dconst0), .second, .val (.ref b3), .val (.int (0 : Int32)), .unset] [(.ref an), (.int (0 : Int32))])) rfl (by rw [hml]; rfl) (Steps.refl _) (argsL := []) (rest := [(.int (0 : Int32))]) (lenOf pd____I rfl) rfl (by show 2 * 0 + _ ≤ _; exact Nat.le_of_eq rfl) (hb hby at_137) (fun _ _ => ⟨rfl, e6, (by decide : 9 + 0 ≤ _), (by decide : 48 + 0 ≤ _)⟩)
    dsimp only [Pt.U, Pt.locs, Pt.cells, Pt.slots] at X7 l7 y7 z7 st7 hQ7
    subst l7 y7 z7
    obtain ⟨rfl, N7q, e7⟩ := hQ7
    have N7 := Fr.app N6 N7q
    refine own_step (fun _ k => st7.trans k) ?_
    show own_Go p e below P T7 (mkF m 140 #[.val (.int p0), .val (.int p1), .val (.int p2), .val (.int p3), .val (.int p4), .val (.int p5), .val (.int kk), .val (.ref an), .val (.double FP.dconst0), .second, .val (.double FP.dconst0), .second, .val (.ref b3), .val (.int (0 : Int32)), .unset] [(.int (0 : Int32)), (.int (0 : Int32))])
    refine own_step (fun _ k => XS.iadd X7.here hx rfl (hb hby at_140) rfl k) ?_
    show own_Go p e below P T7 (mkF m 141 #[.val (.int p0), .val (.int p1), .val (.int p2), .val (.int p3), .val (.int p4), .val (.int p5), .val (.int kk), .val (.ref an), .val (.double FP.dconst0), .second, .val (.double FP.dconst0), .second, .val (.ref b3), .val (.int (0 : Int32)), .unset] [(.int (0 : Int32))])
    refine own_step (fun _ k => XS.ifYes X7.here hx rfl (pc0 := 141) (pc' := 148) rfl (hb hby at_141) rfl ((if0 _ _).trans (flt (by decide : ¬ ((0 : Int32) < (0 : Int32)))).2.2.2) (by decide) (by decide) k) ?_
    show own_Go p e below P T7 (mkF m 148 #[.val (.int p0), .val (.int p1), .val (.int p2), .val (.int p3), .val (.int p4), .val (.int p5), .val (.int kk), .val (.ref an), .val (.double FP.dconst0), .second, .val (.double FP.dconst0), .second, .val (.ref b3), .val (.int (0 : Int32)), .unset] [])
    refine own_step (fun _ k => XS.iconst X7.here hx rfl (hb hby at_148) k) ?_
    show own_Go p e below P T7 (mkF m 149 #[.val (.int p0), .val (.int p1), .val (.int p2), .val (.int p3), .val (.int p4), .val (.int p5), .val (.int kk), .val (.ref an), .val (.double FP.dconst0), .second, .val (.double FP.dconst0), .second, .val (.ref b3), .val (.int (0 : Int32)), .unset] [(.int (0 : Int32))])
    refine own_step (fun _ k => XS.istore X7.here hx rfl (hb hby at_149) rfl (l' := #[.val (.int p0), .val (.int p1), .val (.int p2), .val (.int p3), .val (.int p4), .val (.int p5), .val (.int kk), .val (.ref an), .val (.double FP.dconst0), .second, .val (.double FP.dconst0), .second, .val (.ref b3), .val (.int (0 : Int32)), .val (.int (0 : Int32))]) rfl k) ?_
    show own_Go p e below P T7 (mkF m 151 #[.val (.int p0), .val (.int p1), .val (.int p2), .val (.int p3), .val (.int p4), .val (.int p5), .val (.int kk), .val (.ref an), .val (.double FP.dconst0), .second, .val (.double FP.dconst0), .second, .val (.ref b3), .val (.int (0 : Int32)), .val (.int (0 : Int32))] [])
    refine own_step (fun _ k => XS.aload X7.here hx rfl (hb hby at_151) rfl rfl k) ?_
    show own_Go p e below P T7 (mkF m 153 #[.val (.int p0), .val (.int p1), .val (.int p2), .val (.int p3), .val (.int p4), .val (.int p5), .val (.int kk), .val (.ref an), .val (.double FP.dconst0), .second, .val (.double FP.dconst0), .second, .val (.ref b3), .val (.int (0 : Int32)), .val (.int (0 : Int32))] [(.ref b3)])
    obtain ⟨cq8, kq8, q8a, q8b, q8c⟩ := isOf hZ5 e7 E5_o
    obtain ⟨_, _, ⟨T8, L8, k8, n8⟩, -, X8, ⟨Lc8, hQ8, l8, y8, z8⟩, st8⟩ := X7.virtualBack hx (y := (⟨"com/example/brinequil/brinequil/model/Component", "associates", "()Z"⟩ : MethodName)) (z := (⟨"com/example/brinequil/brinequil/model/Component", "associates", "()Z"⟩ : MethodName)) hown5 (mvT hZ5 (hw _ (List.mem_of_getElem? (i := 121) rfl))) (mvT hZ5 (hw _ (List.mem_of_getElem? (i := 122) rfl))) (notFace_of_selects (args := #[]) (mvT hZ5 (hw _ (List.mem_of_getElem? (i := 124) rfl)))) (mvT hZ5 (hw _ (List.mem_of_getElem? (i := 124) rfl))) (mvT hZ5 (hw _ (List.mem_of_getElem? (i := 123) rfl))) (by decide) (backOf (W := 0) (rm18 l Z a0 hw [] b3 an an (0 : Int32) T5.heap n0 (Nat.le_trans (Nat.le_trans (Nat.le_trans Z0 E3.1) E4.1) K5.1) (if_pos rfl) Fs5 (own_sta_keep ((S_NONE.ext E3).ext E4) K5 (allS (old_plain (F_name_b3.ext E4)) all0))) hZ5 (hw _ (List.mem_of_getElem? (i := 125) rfl)) (hw _ (List.mem_of_getElem? (i := 6) rfl)) (by decide) (by decide)) q8a q8c (g := (mkF m 153 #[.val (.int p0), .val (.int p1), .val (.int p2), .val (.int p3), .val (.int p4), .val (.int p5), .val (.int kk), .val (.ref an), .val (.double FP.dconst0), .second, .val (.double FP.dconst0), .second, .val (.ref b3), .val (.int (0 : Int32)), .val (.int (0 : Int32))] [(.ref b3)])) rfl (by rw [hml]; rfl) (Steps.refl _) (argsL := []) (rest := []) (lenOf pd____Z rfl) rfl (by show 2 * 0 + _ ≤ _; exact Nat.le_of_eq rfl) (hb hby at_153) (fun _ _ => ⟨rfl, e7, (by decide : 9 + 0 ≤ _), (by decide : 48 + 0 ≤ _)⟩)
    dsimp only [Pt.U, Pt.locs, Pt.cells, Pt.slots] at X8 l8 y8 z8 st8 hQ8
    subst l8 y8 z8
    obtain ⟨rfl, N8q, e8⟩ := hQ8
    have N8 := Fr.app N7 N8q
    refine own_step (fun _ k => st8.trans k) ?_
    show own_Go p e below P T8 (mkF m 156 #[.val (.int p0), .val (.int p1), .val (.int p2), .val (.int p3), .val (.int p4), .val (.int p5), .val (.int kk), .val (.ref an), .val (.double FP.dconst0), .second, .val (.double FP.dconst0), .second, .val (.ref b3), .val (.int (0 : Int32)), .val (.int (0 : Int32))] [(.int (0 : Int32))])
    refine own_step (fun _ k => XS.iload X8.here hx rfl (hb hby at_156) rfl k) ?_
    show own_Go p e below P T8 (mkF m 158 #[.val (.int p0), .val (.int p1), .val (.int p2), .val (.int p3), .val (.int p4), .val (.int p5), .val (.int kk), .val (.ref an), .val (.double FP.dconst0), .second, .val (.double FP.dconst0), .second, .val (.ref b3), .val (.int (0 : Int32)), .val (.int (0 : Int32))] [(.int (0 : Int32)), (.int (0 : Int32))])
    refine own_step (fun _ k => XS.icmpNo X8.here hx rfl (hb hby at_158) rfl (teq (rfl : (0 : Int32) = (0 : Int32))).2 k) ?_
    show own_Go p e below P T8 (mkF m 161 #[.val (.int p0), .val (.int p1), .val (.int p2), .val (.int p3), .val (.int p4), .val (.int p5), .val (.int kk), .val (.ref an), .val (.double FP.dconst0), .second, .val (.double FP.dconst0), .second, .val (.ref b3), .val (.int (0 : Int32)), .val (.int (0 : Int32))] [])
    refine own_step (fun _ k => XS.iload X8.here hx rfl (hb hby at_161) rfl k) ?_
    show own_Go p e below P T8 (mkF m 163 #[.val (.int p0), .val (.int p1), .val (.int p2), .val (.int p3), .val (.int p4), .val (.int p5), .val (.int kk), .val (.ref an), .val (.double FP.dconst0), .second, .val (.double FP.dconst0), .second, .val (.ref b3), .val (.int (0 : Int32)), .val (.int (0 : Int32))] [(.int (0 : Int32))])
    refine own_step (fun _ k => XS.iload X8.here hx rfl (hb hby at_163) rfl k) ?_
    show own_Go p e below P T8 (mkF m 165 #[.val (.int p0), .val (.int p1), .val (.int p2), .val (.int p3), .val (.int p4), .val (.int p5), .val (.int kk), .val (.ref an), .val (.double FP.dconst0), .second, .val (.double FP.dconst0), .second, .val (.ref b3), .val (.int (0 : Int32)), .val (.int (0 : Int32))] [(.int (0 : Int32)), (.int (0 : Int32))])
    refine own_step (fun _ k => XS.icmpNo X8.here hx rfl (hb hby at_165) rfl (teq (rfl : (0 : Int32) = (0 : Int32))).2 k) ?_
    show own_Go p e below P T8 (mkF m 168 #[.val (.int p0), .val (.int p1), .val (.int p2), .val (.int p3), .val (.int p4), .val (.int p5), .val (.int kk), .val (.ref an), .val (.double FP.dconst0), .second, .val (.double FP.dconst0), .second, .val (.ref b3), .val (.int (0 : Int32)), .val (.int (0 : Int32))] [])
    refine own_step (fun _ k => XS.iconst X8.here hx rfl (hb hby at_168) k) ?_
    show own_Go p e below P T8 (mkF m 169 #[.val (.int p0), .val (.int p1), .val (.int p2), .val (.int p3), .val (.int p4), .val (.int p5), .val (.int kk), .val (.ref an), .val (.double FP.dconst0), .second, .val (.double FP.dconst0), .second, .val (.ref b3), .val (.int (0 : Int32)), .val (.int (0 : Int32))] [(.int (1 : Int32))])
    refine own_step (fun _ k => XS.goto X8.here hx rfl (pc0 := 169) (pc' := 173) rfl (hb hby at_169) (by decide) (by decide) k) ?_
    show own_Go p e below P T8 (mkF m 173 #[.val (.int p0), .val (.int p1), .val (.int p2), .val (.int p3), .val (.int p4), .val (.int p5), .val (.int kk), .val (.ref an), .val (.double FP.dconst0), .second, .val (.double FP.dconst0), .second, .val (.ref b3), .val (.int (0 : Int32)), .val (.int (0 : Int32))] [(.int (1 : Int32))])
    obtain ⟨fs, hr, hrun, hended, hend⟩ := X8.leaveW hS5 (by rw [e8]; exact hk5) (v := some (.int (1 : Int32))) (fun h => by rw [Bd.returns] at h; cases h)
    refine ⟨_, _, retN X8 hx (t := .boolean) Bd.returns (by simp) (hb hby at_173) hr, hrun, hended, hfin _ _ ⟨_, _, rfl, ?_, hend.1, hend.2.1, hend.2.2.1, hend.2.2.2.mono (by decide) (by decide)⟩⟩
    show Q0 Z p0 p1 p2 p3 p4 p5 cc ci ta tc pv an at_ af h0 n0 (some (.int (1 : Int32))) T8.heap _
    rw [e8]
    exact ⟨rfl, N8⟩
  · refine own_step (fun _ k => XS.ifYes X0.here hx rfl (pc0 := 10) (pc' := 21) rfl (hb hby at_10) rfl ((if0 _ _).trans (feq hc1).2) (by decide) (by decide) k) ?_
    show own_Go p e below P s₁ (mkF m 21 #[.val (.int p0), .val (.int p1), .val (.int p2), .val (.int p3), .val (.int p4), .val (.int p5), .val (.int kk), .unset, .unset, .unset, .unset, .unset, .unset, .unset, .unset] [])
    refine own_step (fun _ k => XS.iload X0.here hx rfl (hb hby at_21) rfl k) ?_
    show own_Go p e below P s₁ (mkF m 23 #[.val (.int p0), .val (.int p1), .val (.int p2), .val (.int p3), .val (.int p4), .val (.int p5), .val (.int kk), .unset, .unset, .unset, .unset, .unset, .unset, .unset, .unset] [(.int kk)])
    refine own_step (fun _ k => XS.iconst X0.here hx rfl (hb hby at_23) k) ?_
    show own_Go p e below P s₁ (mkF m 24 #[.val (.int p0), .val (.int p1), .val (.int p2), .val (.int p3), .val (.int p4), .val (.int p5), .val (.int kk), .unset, .unset, .unset, .unset, .unset, .unset, .unset, .unset] [(.int (1 : Int32)), (.int kk)])
    by_cases hc10 : kk = (1 : Int32)
    · refine own_step (fun _ k => XS.icmpNo X0.here hx rfl (hb hby at_24) rfl (teq hc10).2 k) ?_
      show own_Go p e below P s₁ (mkF m 27 #[.val (.int p0), .val (.int p1), .val (.int p2), .val (.int p3), .val (.int p4), .val (.int p5), .val (.int kk), .unset, .unset, .unset, .unset, .unset, .unset, .unset, .unset] [])
      obtain ⟨T11, X11, e11, st11⟩ := getS2 X0 hx hZ hown (host := "") (Or.inl (hw _ (List.mem_of_getElem? (i := 126) rfl))) Via.refl e0 S_TWO_B (g := (mkF m 27 #[.val (.int p0), .val (.int p1), .val (.int p2), .val (.int p3), .val (.int p4), .val (.int p5), .val (.int kk), .unset, .unset, .unset, .unset, .unset, .unset, .unset, .unset] [])) rfl (hb hby at_27)
      refine own_step st11 ?_
      show own_Go p e below P T11 (mkF m 30 #[.val (.int p0), .val (.int p1), .val (.int p2), .val (.int p3), .val (.int p4), .val (.int p5), .val (.int kk), .unset, .unset, .unset, .unset, .unset, .unset, .unset, .unset] [(.ref at_)])
      refine own_step (fun _ k => XS.astore X11.here hx rfl (hb hby at_30) rfl rfl (l' := #[.val (.int p0), .val (.int p1), .val (.int p2), .val (.int p3), .val (.int p4), .val (.int p5), .val (.int kk), .val (.ref at_), .unset, .unset, .unset, .unset, .unset, .unset, .unset]) rfl k) ?_
      show own_Go p e below P T11 (mkF m 32 #[.val (.int p0), .val (.int p1), .val (.int p2), .val (.int p3), .val (.int p4), .val (.int p5), .val (.int kk), .val (.ref at_), .unset, .unset, .unset, .unset, .unset, .unset, .unset] [])
      refine own_step (fun _ k => XS.goto X11.here hx rfl (pc0 := 32) (pc' := 40) rfl (hb hby at_32) (by decide) (by decide) k) ?_
      show own_Go p e below P T11 (mkF m 40 #[.val (.int p0), .val (.int p1), .val (.int p2), .val (.int p3), .val (.int p4), .val (.int p5), .val (.int kk), .val (.ref at_), .unset, .unset, .unset, .unset, .unset, .unset, .unset] [])
      refine own_step (fun _ k => XS.iload X11.here hx rfl (hb hby at_40) rfl k) ?_
      show own_Go p e below P T11 (mkF m 42 #[.val (.int p0), .val (.int p1), .val (.int p2), .val (.int p3), .val (.int p4), .val (.int p5), .val (.int kk), .val (.ref at_), .unset, .unset, .unset, .unset, .unset, .unset, .unset] [(.int kk)])
      refine own_step (fun _ k => XS.ifYes X11.here hx rfl (pc0 := 42) (pc' := 54) rfl (hb hby at_42) rfl ((if0 _ _).trans (feq hc1).2) (by decide) (by decide) k) ?_
      show own_Go p e below P T11 (mkF m 54 #[.val (.int p0), .val (.int p1), .val (.int p2), .val (.int p3), .val (.int p4), .val (.int p5), .val (.int kk), .val (.ref at_), .unset, .unset, .unset, .unset, .unset, .unset, .unset] [])
      refine own_step (fun _ k => XS.iload X11.here hx rfl (hb hby at_54) rfl k) ?_
      show own_Go p e below P T11 (mkF m 56 #[.val (.int p0), .val (.int p1), .val (.int p2), .val (.int p3), .val (.int p4), .val (.int p5), .val (.int kk), .val (.ref at_), .unset, .unset, .unset, .unset, .unset, .unset, .unset] [(.int p5)])
      refine own_step (fun t k => X11.ldcInt hx hown (mvT hZ (hw _ (List.mem_of_getElem? (i := 15) rfl))) (g := (mkF m 56 #[.val (.int p0), .val (.int p1), .val (.int p2), .val (.int p3), .val (.int p4), .val (.int p5), .val (.int kk), .val (.ref at_), .unset, .unset, .unset, .unset, .unset, .unset, .unset] [(.int p5)])) rfl (hb hby at_56) t k) ?_
      show own_Go p e below P T11 (mkF m 58 #[.val (.int p0), .val (.int p1), .val (.int p2), .val (.int p3), .val (.int p4), .val (.int p5), .val (.int kk), .val (.ref at_), .unset, .unset, .unset, .unset, .unset, .unset, .unset] [(.int (65535 : Int32)), (.int p5)])
      refine own_step (fun _ k => XS.iand X11.here hx rfl (hb hby at_58) rfl k) ?_
      show own_Go p e below P T11 (mkF m 59 #[.val (.int p0), .val (.int p1), .val (.int p2), .val (.int p3), .val (.int p4), .val (.int p5), .val (.int kk), .val (.ref at_), .unset, .unset, .unset, .unset, .unset, .unset, .unset] [(.int (p5 &&& (65535 : Int32)))])
      refine own_step (fun _ k => XS.iconst X11.here hx rfl (hb hby at_59) k) ?_
      show own_Go p e below P T11 (mkF m 60 #[.val (.int p0), .val (.int p1), .val (.int p2), .val (.int p3), .val (.int p4), .val (.int p5), .val (.int kk), .val (.ref at_), .unset, .unset, .unset, .unset, .unset, .unset, .unset] [(.int (1 : Int32)), (.int (p5 &&& (65535 : Int32)))])
      refine own_step (fun _ k => XS.iadd X11.here hx rfl (hb hby at_60) rfl k) ?_
      show own_Go p e below P T11 (mkF m 61 #[.val (.int p0), .val (.int p1), .val (.int p2), .val (.int p3), .val (.int p4), .val (.int p5), .val (.int kk), .val (.ref at_), .unset, .unset, .unset, .unset, .unset, .unset, .unset] [(.int ((p5 &&& (65535 : Int32)) + (1 : Int32)))])
      refine own_step (fun _ k => XS.i2dS X11.here hx rfl (hb hby at_61) rfl rfl k) ?_
      show own_Go p e below P T11 (mkF m 62 #[.val (.int p0), .val (.int p1), .val (.int p2), .val (.int p3), .val (.int p4), .val (.int p5), .val (.int kk), .val (.ref at_), .unset, .unset, .unset, .unset, .unset, .unset, .unset] [(.double (FP.i2d ((p5 &&& (65535 : Int32)) + (1 : Int32))))])
      refine own_step (fun _ k => XS.dstore X11.here hx rfl (hb hby at_62) rfl (l' := #[.val (.int p0), .val (.int p1), .val (.int p2), .val (.int p3), .val (.int p4), .val (.int p5), .val (.int kk), .val (.ref at_), .val (.double (FP.i2d ((p5 &&& (65535 : Int32)) + (1 : Int32)))), .second, .unset, .unset, .unset, .unset, .unset]) rfl k) ?_
      show own_Go p e below P T11 (mkF m 64 #[.val (.int p0), .val (.int p1), .val (.int p2), .val (.int p3), .val (.int p4), .val (.int p5), .val (.int kk), .val (.ref at_), .val (.double (FP.i2d ((p5 &&& (65535 : Int32)) + (1 : Int32)))), .second, .unset, .unset, .unset, .unset, .unset] [])
      refine own_step (fun _ k => XS.iload X11.here hx rfl (hb hby at_64) rfl k) ?_
      show own_Go p e below P T11 (mkF m 66 #[.val (.int p0), .val (.int p1), .val (.int p2), .val (.int p3), .val (.int p4), .val (.int p5), .val (.int kk), .val (.ref at_), .val (.double (FP.i2d ((p5 &&& (65535 : Int32)) + (1 : Int32)))), .second, .unset, .unset, .unset, .unset, .unset] [(.int p5)])
      refine own_step (fun _ k => XS.bipush X11.here hx rfl (hb hby at_66) k) ?_
      show own_Go p e below P T11 (mkF m 68 #[.val (.int p0), .val (.int p1), .val (.int p2), .val (.int p3), .val (.int p4), .val (.int p5), .val (.int kk), .val (.ref at_), .val (.double (FP.i2d ((p5 &&& (65535 : Int32)) + (1 : Int32)))), .second, .unset, .unset, .unset, .unset, .unset] [(.int (16 : Int32)), (.int p5)])
      refine own_step (fun _ k => XS.iushr X11.here hx rfl (hb hby at_68) rfl k) ?_
      show own_Go p e below P T11 (mkF m 69 #[.val (.int p0), .val (.int p1), .val (.int p2), .val (.int p3), .val (.int p4), .val (.int p5), .val (.int kk), .val (.ref at_), .val (.double (FP.i2d ((p5 &&& (65535 : Int32)) + (1 : Int32)))), .second, .unset, .unset, .unset, .unset, .unset] [(.int ((p5.toUInt32 >>> ((16 : Int32) &&& 31).toUInt32).toInt32))])
      refine own_step (fun t k => X11.ldcInt hx hown (mvT hZ (hw _ (List.mem_of_getElem? (i := 15) rfl))) (g := (mkF m 69 #[.val (.int p0), .val (.int p1), .val (.int p2), .val (.int p3), .val (.int p4), .val (.int p5), .val (.int kk), .val (.ref at_), .val (.double (FP.i2d ((p5 &&& (65535 : Int32)) + (1 : Int32)))), .second, .unset, .unset, .unset, .unset, .unset] [(.int ((p5.toUInt32 >>> ((16 : Int32) &&& 31).toUInt32).toInt32))])) rfl (hb hby at_69) t k) ?_
      show own_Go p e below P T11 (mkF m 71 #[.val (.int p0), .val (.int p1), .val (.int p2), .val (.int p3), .val (.int p4), .val (.int p5), .val (.int kk), .val (.ref at_), .val (.double (FP.i2d ((p5 &&& (65535 : Int32)) + (1 : Int32)))), .second, .unset, .unset, .unset, .unset, .unset] [(.int (65535 : Int32)), (.int ((p5.toUInt32 >>> ((16 : Int32) &&& 31).toUInt32).toInt32))])
      refine own_step (fun _ k => XS.iand X11.here hx rfl (hb hby at_71) rfl k) ?_
      show own_Go p e below P T11 (mkF m 72 #[.val (.int p0), .val (.int p1), .val (.int p2), .val (.int p3), .val (.int p4), .val (.int p5), .val (.int kk), .val (.ref at_), .val (.double (FP.i2d ((p5 &&& (65535 : Int32)) + (1 : Int32)))), .second, .unset, .unset, .unset, .unset, .unset] [(.int (((p5.toUInt32 >>> ((16 : Int32) &&& 31).toUInt32).toInt32) &&& (65535 : Int32)))])
      refine own_step (fun _ k => XS.iconst X11.here hx rfl (hb hby at_72) k) ?_
      show own_Go p e below P T11 (mkF m 73 #[.val (.int p0), .val (.int p1), .val (.int p2), .val (.int p3), .val (.int p4), .val (.int p5), .val (.int kk), .val (.ref at_), .val (.double (FP.i2d ((p5 &&& (65535 : Int32)) + (1 : Int32)))), .second, .unset, .unset, .unset, .unset, .unset] [(.int (1 : Int32)), (.int (((p5.toUInt32 >>> ((16 : Int32) &&& 31).toUInt32).toInt32) &&& (65535 : Int32)))])
      refine own_step (fun _ k => XS.iadd X11.here hx rfl (hb hby at_73) rfl k) ?_
      show own_Go p e below P T11 (mkF m 74 #[.val (.int p0), .val (.int p1), .val (.int p2), .val (.int p3), .val (.int p4), .val (.int p5), .val (.int kk), .val (.ref at_), .val (.double (FP.i2d ((p5 &&& (65535 : Int32)) + (1 : Int32)))), .second, .unset, .unset, .unset, .unset, .unset] [(.int ((((p5.toUInt32 >>> ((16 : Int32) &&& 31).toUInt32).toInt32) &&& (65535 : Int32)) + (1 : Int32)))])
      refine own_step (fun _ k => XS.i2dS X11.here hx rfl (hb hby at_74) rfl rfl k) ?_
      show own_Go p e below P T11 (mkF m 75 #[.val (.int p0), .val (.int p1), .val (.int p2), .val (.int p3), .val (.int p4), .val (.int p5), .val (.int kk), .val (.ref at_), .val (.double (FP.i2d ((p5 &&& (65535 : Int32)) + (1 : Int32)))), .second, .unset, .unset, .unset, .unset, .unset] [(.double (FP.i2d ((((p5.toUInt32 >>> ((16 : Int32) &&& 31).toUInt32).toInt32) &&& (65535 : Int32)) + (1 : Int32))))])
      refine own_step (fun _ k => XS.dstore X11.here hx rfl (hb hby at_75) rfl (l' := #[.val (.int p0), .val (.int p1), .val (.int p2), .val (.int p3), .val (.int p4), .val (.int p5), .val (.int kk), .val (.ref at_), .val (.double (FP.i2d ((p5 &&& (65535 : Int32)) + (1 : Int32)))), .second, .val (.double (FP.i2d ((((p5.toUInt32 >>> ((16 : Int32) &&& 31).toUInt32).toInt32) &&& (65535 : Int32)) + (1 : Int32)))), .second, .unset, .unset, .unset]) rfl k) ?_
      show own_Go p e below P T11 (mkF m 77 #[.val (.int p0), .val (.int p1), .val (.int p2), .val (.int p3), .val (.int p4), .val (.int p5), .val (.int kk), .val (.ref at_), .val (.double (FP.i2d ((p5 &&& (65535 : Int32)) + (1 : Int32)))), .second, .val (.double (FP.i2d ((((p5.toUInt32 >>> ((16 : Int32) &&& 31).toUInt32).toInt32) &&& (65535 : Int32)) + (1 : Int32)))), .second, .unset, .unset, .unset] [])
      obtain ⟨T12, h12, X12, e12, E12, A12, D12, -, st12⟩ := newO X11 hx hZ hown (hw _ (List.mem_of_getElem? (i := 4) rfl)) (hw _ (List.mem_of_getElem? (i := 5) rfl)) (hw _ (List.mem_of_getElem? (i := 6) rfl)) e11 (g := (mkF m 77 #[.val (.int p0), .val (.int p1), .val (.int p2), .val (.int p3), .val (.int p4), .val (.int p5), .val (.int kk), .val (.ref at_), .val (.double (FP.i2d ((p5 &&& (65535 : Int32)) + (1 : Int32)))), .second, .val (.double (FP.i2d ((((p5.toUInt32 >>> ((16 : Int32) &&& 31).toUInt32).toInt32) &&& (65535 : Int32)) + (1 : Int32)))), .second, .unset, .unset, .unset] [])) rfl (hb hby at_77) (by decide) (by decide)
      obtain ⟨b12, g12⟩ : ∃ z, z = h0.size := ⟨_, rfl⟩
      rw [← g12] at A12 D12 st12
      have g_b12 : n0 ≤ b12 := Nat.le_trans Z0 (Nat.le_of_eq g12.symm)
      have sz_b12 : h0.size ≤ b12 := Nat.le_trans (Keep.refl h0 []).1 (Nat.le_of_eq g12.symm)
      have E_b12 := A12
      have F_name_b12 : Fld Z h12 b12 "com/example/brinequil/brinequil/model/Component" "name" "Ljava/lang/String;" .null := D12 (Or.inr (hw _ (List.mem_of_getElem? (i := 92) rfl))) (ty := (.object "java/lang/String")) (by decide)
      have F_criticalTemperature_b12 : Fld Z h12 b12 "com/example/brinequil/brinequil/model/Component" "criticalTemperature" "D" (.double (0 : UInt64)) := D12 (Or.inr (hw _ (List.mem_of_getElem? (i := 94) rfl))) (ty := .double) (by decide)
      have F_a0_b12 : Fld Z h12 b12 "com/example/brinequil/brinequil/model/Component" "a0" "D" (.double (0 : UInt64)) := D12 (Or.inr (hw _ (List.mem_of_getElem? (i := 96) rfl))) (ty := .double) (by decide)
      have F_b_b12 : Fld Z h12 b12 "com/example/brinequil/brinequil/model/Component" "b" "D" (.double (0 : UInt64)) := D12 (Or.inr (hw _ (List.mem_of_getElem? (i := 98) rfl))) (ty := .double) (by decide)
      have F_c1_b12 : Fld Z h12 b12 "com/example/brinequil/brinequil/model/Component" "c1" "D" (.double (0 : UInt64)) := D12 (Or.inr (hw _ (List.mem_of_getElem? (i := 100) rfl))) (ty := .double) (by decide)
      have F_associationEnergy_b12 : Fld Z h12 b12 "com/example/brinequil/brinequil/model/Component" "associationEnergy" "D" (.double (0 : UInt64)) := D12 (Or.inr (hw _ (List.mem_of_getElem? (i := 102) rfl))) (ty := .double) (by decide)
      have F_associationVolume_b12 : Fld Z h12 b12 "com/example/brinequil/brinequil/model/Component" "associationVolume" "D" (.double (0 : UInt64)) := D12 (Or.inr (hw _ (List.mem_of_getElem? (i := 104) rfl))) (ty := .double) (by decide)
      have F_scheme_b12 : Fld Z h12 b12 "com/example/brinequil/brinequil/model/Component" "scheme" "Lcom/example/brinequil/brinequil/model/AssociationScheme;" .null := D12 (Or.inr (hw _ (List.mem_of_getElem? (i := 106) rfl))) (ty := (.object "com/example/brinequil/brinequil/model/AssociationScheme")) (by decide)
      refine own_step st12 ?_
      show own_Go p e below P T12 (mkF m 80 #[.val (.int p0), .val (.int p1), .val (.int p2), .val (.int p3), .val (.int p4), .val (.int p5), .val (.int kk), .val (.ref at_), .val (.double (FP.i2d ((p5 &&& (65535 : Int32)) + (1 : Int32)))), .second, .val (.double (FP.i2d ((((p5.toUInt32 >>> ((16 : Int32) &&& 31).toUInt32).toInt32) &&& (65535 : Int32)) + (1 : Int32)))), .second, .unset, .unset, .unset] [(.ref b12)])
      refine own_step (fun _ k => XS.dup X12.here hx rfl (hb hby at_80) rfl rfl k) ?_
      show own_Go p e below P T12 (mkF m 81 #[.val (.int p0), .val (.int p1), .val (.int p2), .val (.int p3), .val (.int p4), .val (.int p5), .val (.int kk), .val (.ref at_), .val (.double (FP.i2d ((p5 &&& (65535 : Int32)) + (1 : Int32)))), .second, .val (.double (FP.i2d ((((p5.toUInt32 >>> ((16 : Int32) &&& 31).toUInt32).toInt32) &&& (65535 : Int32)) + (1 : Int32)))), .second, .unset, .unset, .unset] [(.ref b12), (.ref b12)])
      obtain ⟨b13, T13, h13, kk13, b13v, kc13, X13, e13, E13, hS13, hk13, hZ13, hown13, Es13, Fc13, Fv13, V13, lt13, ltv13, I13, st13⟩ := ldcSV X12 hx hZ hown (hw _ (List.mem_of_getElem? (i := 7) rfl)) (own_wS hw) e12 hS0 (Nat.le_trans hk0 E12.1) (Fr.nil _) (fun b cl q => hZU ▸ q) (by rw [hZU]; exact IB.start) List.not_mem_nil hheld hcw (vs := [(.int (119 : Int32))]) (z := (1 : Int32)) ⟨by decide, by decide +kernel⟩ (by decide) (by decide) (g := (mkF m 81 #[.val (.int p0), .val (.int p1), .val (.int p2), .val (.int p3), .val (.int p4), .val (.int p5), .val (.int kk), .val (.ref at_), .val (.double (FP.i2d ((p5 &&& (65535 : Int32)) + (1 : Int32)))), .second, .val (.double (FP.i2d ((((p5.toUInt32 >>> ((16 : Int32) &&& 31).toUInt32).toInt32) &&& (65535 : Int32)) + (1 : Int32)))), .second, .unset, .unset, .unset] [(.ref b12), (.ref b12)])) rfl (hb hby at_81) (n := 4) (by decide) (by decide) (by decide) (by decide)
      refine own_step st13 ?_
      show own_Go p e below P T13 (mkF m 83 #[.val (.int p0), .val (.int p1), .val (.int p2), .val (.int p3), .val (.int p4), .val (.int p5), .val (.int kk), .val (.ref at_), .val (.double (FP.i2d ((p5 &&& (65535 : Int32)) + (1 : Int32)))), .second, .val (.double (FP.i2d ((((p5.toUInt32 >>> ((16 : Int32) &&& 31).toUInt32).toInt32) &&& (65535 : Int32)) + (1 : Int32)))), .second, .unset, .unset, .unset] [(.ref b13), (.ref b12), (.ref b12)])
      refine own_step (fun _ k => XS.iloadN X13.here hx rfl (hb hby at_83) rfl k) ?_
      show own_Go p e below P T13 (mkF m 84 #[.val (.int p0), .val (.int p1), .val (.int p2), .val (.int p3), .val (.int p4), .val (.int p5), .val (.int kk), .val (.ref at_), .val (.double (FP.i2d ((p5 &&& (65535 : Int32)) + (1 : Int32)))), .second, .val (.double (FP.i2d ((((p5.toUInt32 >>> ((16 : Int32) &&& 31).toUInt32).toInt32) &&& (65535 : Int32)) + (1 : Int32)))), .second, .unset, .unset, .unset] [(.int p1), (.ref b13), (.ref b12), (.ref b12)])
      refine own_step (fun t k => X13.ldcInt hx hown13 (mvT hZ13 (hw _ (List.mem_of_getElem? (i := 15) rfl))) (g := (mkF m 84 #[.val (.int p0), .val (.int p1), .val (.int p2), .val (.int p3), .val (.int p4), .val (.int p5), .val (.int kk), .val (.ref at_), .val (.double (FP.i2d ((p5 &&& (65535 : Int32)) + (1 : Int32)))), .second, .val (.double (FP.i2d ((((p5.toUInt32 >>> ((16 : Int32) &&& 31).toUInt32).toInt32) &&& (65535 : Int32)) + (1 : Int32)))), .second, .unset, .unset, .unset] [(.int p1), (.ref b13), (.ref b12), (.ref b12)])) rfl (hb hby at_84) t k) ?_
      show own_Go p e below P T13 (mkF m 86 #[.val (.int p0), .val (.int p1), .val (.int p2), .val (.int p3), .val (.int p4), .val (.int p5), .val (.int kk), .val (.ref at_), .val (.double (FP.i2d ((p5 &&& (65535 : Int32)) + (1 : Int32)))), .second, .val (.double (FP.i2d ((((p5.toUInt32 >>> ((16 : Int32) &&& 31).toUInt32).toInt32) &&& (65535 : Int32)) + (1 : Int32)))), .second, .unset, .unset, .unset] [(.int (65535 : Int32)), (.int p1), (.ref b13), (.ref b12), (.ref b12)])
      refine own_step (fun _ k => XS.iand X13.here hx rfl (hb hby at_86) rfl k) ?_
      show own_Go p e below P T13 (mkF m 87 #[.val (.int p0), .val (.int p1), .val (.int p2), .val (.int p3), .val (.int p4), .val (.int p5), .val (.int kk), .val (.ref at_), .val (.double (FP.i2d ((p5 &&& (65535 : Int32)) + (1 : Int32)))), .second, .val (.double (FP.i2d ((((p5.toUInt32 >>> ((16 : Int32) &&& 31).toUInt32).toInt32) &&& (65535 : Int32)) + (1 : Int32)))), .second, .unset, .unset, .unset] [(.int (p1 &&& (65535 : Int32))), (.ref b13), (.ref b12), (.ref b12)])
      refine own_step (fun _ k => XS.iconst X13.here hx rfl (hb hby at_87) k) ?_
      show own_Go p e below P T13 (mkF m 88 #[.val (.int p0), .val (.int p1), .val (.int p2), .val (.int p3), .val (.int p4), .val (.int p5), .val (.int kk), .val (.ref at_), .val (.double (FP.i2d ((p5 &&& (65535 : Int32)) + (1 : Int32)))), .second, .val (.double (FP.i2d ((((p5.toUInt32 >>> ((16 : Int32) &&& 31).toUInt32).toInt32) &&& (65535 : Int32)) + (1 : Int32)))), .second, .unset, .unset, .unset] [(.int (1 : Int32)), (.int (p1 &&& (65535 : Int32))), (.ref b13), (.ref b12), (.ref b12)])
      refine own_step (fun _ k => XS.iadd X13.here hx rfl (hb hby at_88) rfl k) ?_
      show own_Go p e below P T13 (mkF m 89 #[.val (.int p0), .val (.int p1), .val (.int p2), .val (.int p3), .val (.int p4), .val (.int p5), .val (.int kk), .val (.ref at_), .val (.double (FP.i2d ((p5 &&& (65535 : Int32)) + (1 : Int32)))), .second, .val (.double (FP.i2d ((((p5.toUInt32 >>> ((16 : Int32) &&& 31).toUInt32).toInt32) &&& (65535 : Int32)) + (1 : Int32)))), .second, .unset, .unset, .unset] [(.int ((p1 &&& (65535 : Int32)) + (1 : Int32))), (.ref b13), (.ref b12), (.ref b12)])
      refine own_step (fun _ k => XS.i2dS X13.here hx rfl (hb hby at_89) rfl rfl k) ?_
      show own_Go p e below P T13 (mkF m 90 #[.val (.int p0), .val (.int p1), .val (.int p2), .val (.int p3), .val (.int p4), .val (.int p5), .val (.int kk), .val (.ref at_), .val (.double (FP.i2d ((p5 &&& (65535 : Int32)) + (1 : Int32)))), .second, .val (.double (FP.i2d ((((p5.toUInt32 >>> ((16 : Int32) &&& 31).toUInt32).toInt32) &&& (65535 : Int32)) + (1 : Int32)))), .second, .unset, .unset, .unset] [(.double (FP.i2d ((p1 &&& (65535 : Int32)) + (1 : Int32)))), (.ref b13), (.ref b12), (.ref b12)])
      refine own_step (fun _ k => XS.iloadN X13.here hx rfl (hb hby at_90) rfl k) ?_
      show own_Go p e below P T13 (mkF m 91 #[.val (.int p0), .val (.int p1), .val (.int p2), .val (.int p3), .val (.int p4), .val (.int p5), .val (.int kk), .val (.ref at_), .val (.double (FP.i2d ((p5 &&& (65535 : Int32)) + (1 : Int32)))), .second, .val (.double (FP.i2d ((((p5.toUInt32 >>> ((16 : Int32) &&& 31).toUInt32).toInt32) &&& (65535 : Int32)) + (1 : Int32)))), .second, .unset, .unset, .unset] [(.int p2), (.double (FP.i2d ((p1 &&& (65535 : Int32)) + (1 : Int32)))), (.ref b13), (.ref b12), (.ref b12)])
      refine own_step (fun t k => X13.ldcInt hx hown13 (mvT hZ13 (hw _ (List.mem_of_getElem? (i := 15) rfl))) (g := (mkF m 91 #[.val (.int p0), .val (.int p1), .val (.int p2), .val (.int p3), .val (.int p4), .val (.int p5), .val (.int kk), .val (.ref at_), .val (.double (FP.i2d ((p5 &&& (65535 : Int32)) + (1 : Int32)))), .second, .val (.double (FP.i2d ((((p5.toUInt32 >>> ((16 : Int32) &&& 31).toUInt32).toInt32) &&& (65535 : Int32)) + (1 : Int32)))), .second, .unset, .unset, .unset] [(.int p2), (.double (FP.i2d ((p1 &&& (65535 : Int32)) + (1 : Int32)))), (.ref b13), (.ref b12), (.ref b12)])) rfl (hb hby at_91) t k) ?_
      show own_Go p e below P T13 (mkF m 93 #[.val (.int p0), .val (.int p1), .val (.int p2), .val (.int p3), .val (.int p4), .val (.int p5), .val (.int kk), .val (.ref at_), .val (.double (FP.i2d ((p5 &&& (65535 : Int32)) + (1 : Int32)))), .second, .val (.double (FP.i2d ((((p5.toUInt32 >>> ((16 : Int32) &&& 31).toUInt32).toInt32) &&& (65535 : Int32)) + (1 : Int32)))), .second, .unset, .unset, .unset] [(.int (65535 : Int32)), (.int p2), (.double (FP.i2d ((p1 &&& (65535 : Int32)) + (1 : Int32)))), (.ref b13), (.ref b12), (.ref b12)])
      refine own_step (fun _ k => XS.iand X13.here hx rfl (hb hby at_93) rfl k) ?_
      show own_Go p e below P T13 (mkF m 94 #[.val (.int p0), .val (.int p1), .val (.int p2), .val (.int p3), .val (.int p4), .val (.int p5), .val (.int kk), .val (.ref at_), .val (.double (FP.i2d ((p5 &&& (65535 : Int32)) + (1 : Int32)))), .second, .val (.double (FP.i2d ((((p5.toUInt32 >>> ((16 : Int32) &&& 31).toUInt32).toInt32) &&& (65535 : Int32)) + (1 : Int32)))), .second, .unset, .unset, .unset] [(.int (p2 &&& (65535 : Int32))), (.double (FP.i2d ((p1 &&& (65535 : Int32)) + (1 : Int32)))), (.ref b13), (.ref b12), (.ref b12)])
      refine own_step (fun _ k => XS.iconst X13.here hx rfl (hb hby at_94) k) ?_
      show own_Go p e below P T13 (mkF m 95 #[.val (.int p0), .val (.int p1), .val (.int p2), .val (.int p3), .val (.int p4), .val (.int p5), .val (.int kk), .val (.ref at_), .val (.double (FP.i2d ((p5 &&& (65535 : Int32)) + (1 : Int32)))), .second, .val (.double (FP.i2d ((((p5.toUInt32 >>> ((16 : Int32) &&& 31).toUInt32).toInt32) &&& (65535 : Int32)) + (1 : Int32)))), .second, .unset, .unset, .unset] [(.int (1 : Int32)), (.int (p2 &&& (65535 : Int32))), (.double (FP.i2d ((p1 &&& (65535 : Int32)) + (1 : Int32)))), (.ref b13), (.ref b12), (.ref b12)])
      refine own_step (fun _ k => XS.iadd X13.here hx rfl (hb hby at_95) rfl k) ?_
      show own_Go p e below P T13 (mkF m 96 #[.val (.int p0), .val (.int p1), .val (.int p2), .val (.int p3), .val (.int p4), .val (.int p5), .val (.int kk), .val (.ref at_), .val (.double (FP.i2d ((p5 &&& (65535 : Int32)) + (1 : Int32)))), .second, .val (.double (FP.i2d ((((p5.toUInt32 >>> ((16 : Int32) &&& 31).toUInt32).toInt32) &&& (65535 : Int32)) + (1 : Int32)))), .second, .unset, .unset, .unset] [(.int ((p2 &&& (65535 : Int32)) + (1 : Int32))), (.double (FP.i2d ((p1 &&& (65535 : Int32)) + (1 : Int32)))), (.ref b13), (.ref b12), (.ref b12)])
      refine own_step (fun _ k => XS.i2dS X13.here hx rfl (hb hby at_96) rfl rfl k) ?_
      show own_Go p e below P T13 (mkF m 97 #[.val (.int p0), .val (.int p1), .val (.int p2), .val (.int p3), .val (.int p4), .val (.int p5), .val (.int kk), .val (.ref at_), .val (.double (FP.i2d ((p5 &&& (65535 : Int32)) + (1 : Int32)))), .second, .val (.double (FP.i2d ((((p5.toUInt32 >>> ((16 : Int32) &&& 31).toUInt32).toInt32) &&& (65535 : Int32)) + (1 : Int32)))), .second, .unset, .unset, .unset] [(.double (FP.i2d ((p2 &&& (65535 : Int32)) + (1 : Int32)))), (.double (FP.i2d ((p1 &&& (65535 : Int32)) + (1 : Int32)))), (.ref b13), (.ref b12), (.ref b12)])
      refine own_step (fun _ k => XS.iloadN X13.here hx rfl (hb hby at_97) rfl k) ?_
      show own_Go p e below P T13 (mkF m 98 #[.val (.int p0), .val (.int p1), .val (.int p2), .val (.int p3), .val (.int p4), .val (.int p5), .val (.int kk), .val (.ref at_), .val (.double (FP.i2d ((p5 &&& (65535 : Int32)) + (1 : Int32)))), .second, .val (.double (FP.i2d ((((p5.toUInt32 >>> ((16 : Int32) &&& 31).toUInt32).toInt32) &&& (65535 : Int32)) + (1 : Int32)))), .second, .unset, .unset, .unset] [(.int p3), (.double (FP.i2d ((p2 &&& (65535 : Int32)) + (1 : Int32)))), (.double (FP.i2d ((p1 &&& (65535 : Int32)) + (1 : Int32)))), (.ref b13), (.ref b12), (.ref b12)])
      refine own_step (fun t k => X13.ldcInt hx hown13 (mvT hZ13 (hw _ (List.mem_of_getElem? (i := 15) rfl))) (g := (mkF m 98 #[.val (.int p0), .val (.int p1), .val (.int p2), .val (.int p3), .val (.int p4), .val (.int p5), .val (.int kk), .val (.ref at_), .val (.double (FP.i2d ((p5 &&& (65535 : Int32)) + (1 : Int32)))), .second, .val (.double (FP.i2d ((((p5.toUInt32 >>> ((16 : Int32) &&& 31).toUInt32).toInt32) &&& (65535 : Int32)) + (1 : Int32)))), .second, .unset, .unset, .unset] [(.int p3), (.double (FP.i2d ((p2 &&& (65535 : Int32)) + (1 : Int32)))), (.double (FP.i2d ((p1 &&& (65535 : Int32)) + (1 : Int32)))), (.ref b13), (.ref b12), (.ref b12)])) rfl (hb hby at_98) t k) ?_
      show own_Go p e below P T13 (mkF m 100 #[.val (.int p0), .val (.int p1), .val (.int p2), .val (.int p3), .val (.int p4), .val (.int p5), .val (.int kk), .val (.ref at_), .val (.double (FP.i2d ((p5 &&& (65535 : Int32)) + (1 : Int32)))), .second, .val (.double (FP.i2d ((((p5.toUInt32 >>> ((16 : Int32) &&& 31).toUInt32).toInt32) &&& (65535 : Int32)) + (1 : Int32)))), .second, .unset, .unset, .unset] [(.int (65535 : Int32)), (.int p3), (.double (FP.i2d ((p2 &&& (65535 : Int32)) + (1 : Int32)))), (.double (FP.i2d ((p1 &&& (65535 : Int32)) + (1 : Int32)))), (.ref b13), (.ref b12), (.ref b12)])
      refine own_step (fun _ k => XS.iand X13.here hx rfl (hb hby at_100) rfl k) ?_
      show own_Go p e below P T13 (mkF m 101 #[.val (.int p0), .val (.int p1), .val (.int p2), .val (.int p3), .val (.int p4), .val (.int p5), .val (.int kk), .val (.ref at_), .val (.double (FP.i2d ((p5 &&& (65535 : Int32)) + (1 : Int32)))), .second, .val (.double (FP.i2d ((((p5.toUInt32 >>> ((16 : Int32) &&& 31).toUInt32).toInt32) &&& (65535 : Int32)) + (1 : Int32)))), .second, .unset, .unset, .unset] [(.int (p3 &&& (65535 : Int32))), (.double (FP.i2d ((p2 &&& (65535 : Int32)) + (1 : Int32)))), (.double (FP.i2d ((p1 &&& (65535 : Int32)) + (1 : Int32)))), (.ref b13), (.ref b12), (.ref b12)])
      refine own_step (fun _ k => XS.iconst X13.here hx rfl (hb hby at_101) k) ?_
      show own_Go p e below P T13 (mkF m 102 #[.val (.int p0), .val (.int p1), .val (.int p2), .val (.int p3), .val (.int p4), .val (.int p5), .val (.int kk), .val (.ref at_), .val (.double (FP.i2d ((p5 &&& (65535 : Int32)) + (1 : Int32)))), .second, .val (.double (FP.i2d ((((p5.toUInt32 >>> ((16 : Int32) &&& 31).toUInt32).toInt32) &&& (65535 : Int32)) + (1 : Int32)))), .second, .unset, .unset, .unset] [(.int (1 : Int32)), (.int (p3 &&& (65535 : Int32))), (.double (FP.i2d ((p2 &&& (65535 : Int32)) + (1 : Int32)))), (.double (FP.i2d ((p1 &&& (65535 : Int32)) + (1 : Int32)))), (.ref b13), (.ref b12), (.ref b12)])
      refine own_step (fun _ k => XS.iadd X13.here hx rfl (hb hby at_102) rfl k) ?_
      show own_Go p e below P T13 (mkF m 103 #[.val (.int p0), .val (.int p1), .val (.int p2), .val (.int p3), .val (.int p4), .val (.int p5), .val (.int kk), .val (.ref at_), .val (.double (FP.i2d ((p5 &&& (65535 : Int32)) + (1 : Int32)))), .second, .val (.double (FP.i2d ((((p5.toUInt32 >>> ((16 : Int32) &&& 31).toUInt32).toInt32) &&& (65535 : Int32)) + (1 : Int32)))), .second, .unset, .unset, .unset] [(.int ((p3 &&& (65535 : Int32)) + (1 : Int32))), (.double (FP.i2d ((p2 &&& (65535 : Int32)) + (1 : Int32)))), (.double (FP.i2d ((p1 &&& (65535 : Int32)) + (1 : Int32)))), (.ref b13), (.ref b12), (.ref b12)])
      refine own_step (fun _ k => XS.i2dS X13.here hx rfl (hb hby at_103) rfl rfl k) ?_
      show own_Go p e below P T13 (mkF m 104 #[.val (.int p0), .val (.int p1), .val (.int p2), .val (.int p3), .val (.int p4), .val (.int p5), .val (.int kk), .val (.ref at_), .val (.double (FP.i2d ((p5 &&& (65535 : Int32)) + (1 : Int32)))), .second, .val (.double (FP.i2d ((((p5.toUInt32 >>> ((16 : Int32) &&& 31).toUInt32).toInt32) &&& (65535 : Int32)) + (1 : Int32)))), .second, .unset, .unset, .unset] [(.double (FP.i2d ((p3 &&& (65535 : Int32)) + (1 : Int32)))), (.double (FP.i2d ((p2 &&& (65535 : Int32)) + (1 : Int32)))), (.double (FP.i2d ((p1 &&& (65535 : Int32)) + (1 : Int32)))), (.ref b13), (.ref b12), (.ref b12)])
      refine own_step (fun _ k => XS.iload X13.here hx rfl (hb hby at_104) rfl k) ?_
      show own_Go p e below P T13 (mkF m 106 #[.val (.int p0), .val (.int p1), .val (.int p2), .val (.int p3), .val (.int p4), .val (.int p5), .val (.int kk), .val (.ref at_), .val (.double (FP.i2d ((p5 &&& (65535 : Int32)) + (1 : Int32)))), .second, .val (.double (FP.i2d ((((p5.toUInt32 >>> ((16 : Int32) &&& 31).toUInt32).toInt32) &&& (65535 : Int32)) + (1 : Int32)))), .second, .unset, .unset, .unset] [(.int p4), (.double (FP.i2d ((p3 &&& (65535 : Int32)) + (1 : Int32)))), (.double (FP.i2d ((p2 &&& (65535 : Int32)) + (1 : Int32)))), (.double (FP.i2d ((p1 &&& (65535 : Int32)) + (1 : Int32)))), (.ref b13), (.ref b12), (.ref b12)])
      refine own_step (fun _ k => XS.i2dS X13.here hx rfl (hb hby at_106) rfl rfl k) ?_
      show own_Go p e below P T13 (mkF m 107 #[.val (.int p0), .val (.int p1), .val (.int p2), .val (.int p3), .val (.int p4), .val (.int p5), .val (.int kk), .val (.ref at_), .val (.double (FP.i2d ((p5 &&& (65535 : Int32)) + (1 : Int32)))), .second, .val (.double (FP.i2d ((((p5.toUInt32 >>> ((16 : Int32) &&& 31).toUInt32).toInt32) &&& (65535 : Int32)) + (1 : Int32)))), .second, .unset, .unset, .unset] [(.double (FP.i2d p4)), (.double (FP.i2d ((p3 &&& (65535 : Int32)) + (1 : Int32)))), (.double (FP.i2d ((p2 &&& (65535 : Int32)) + (1 : Int32)))), (.double (FP.i2d ((p1 &&& (65535 : Int32)) + (1 : Int32)))), (.ref b13), (.ref b12), (.ref b12)])
      refine own_step (fun _ k => XS.dload X13.here hx rfl (hb hby at_107) rfl k) ?_
      show own_Go p e below P T13 (mkF m 109 #[.val (.int p0), .val (.int p1), .val (.int p2), .val (.int p3), .val (.int p4), .val (.int p5), .val (.int kk), .val (.ref at_), .val (.double (FP.i2d ((p5 &&& (65535 : Int32)) + (1 : Int32)))), .second, .val (.double (FP.i2d ((((p5.toUInt32 >>> ((16 : Int32) &&& 31).toUInt32).toInt32) &&& (65535 : Int32)) + (1 : Int32)))), .second, .unset, .unset, .unset] [(.double (FP.i2d ((p5 &&& (65535 : Int32)) + (1 : Int32)))), (.double (FP.i2d p4)), (.double (FP.i2d ((p3 &&& (65535 : Int32)) + (1 : Int32)))), (.double (FP.i2d ((p2 &&& (65535 : Int32)) + (1 : Int32)))), (.double (FP.i2d ((p1 &&& (65535 : Int32)) + (1 : Int32)))), (.ref b13), (.ref b12), (.ref b12)])
      refine own_step (fun _ k => XS.dload X13.here hx rfl (hb hby at_109) rfl k) ?_
      show own_Go p e below P T13 (mkF m 111 #[.val (.int p0), .val (.int p1), .val (.int p2), .val (.int p3), .val (.int p4), .val (.int p5), .val (.int kk), .val (.ref at_), .val (.double (FP.i2d ((p5 &&& (65535 : Int32)) + (1 : Int32)))), .second, .val (.double (FP.i2d ((((p5.toUInt32 >>> ((16 : Int32) &&& 31).toUInt32).toInt32) &&& (65535 : Int32)) + (1 : Int32)))), .second, .unset, .unset, .unset] [(.double (FP.i2d ((((p5.toUInt32 >>> ((16 : Int32) &&& 31).toUInt32).toInt32) &&& (65535 : Int32)) + (1 : Int32)))), (.double (FP.i2d ((p5 &&& (65535 : Int32)) + (1 : Int32)))), (.double (FP.i2d p4)), (.double (FP.i2d ((p3 &&& (65535 : Int32)) + (1 : Int32)))), (.double (FP.i2d ((p2 &&& (65535 : Int32)) + (1 : Int32)))), (.double (FP.i2d ((p1 &&& (65535 : Int32)) + (1 : Int32)))), (.ref b13), (.ref b12), (.ref b12)])
      refine own_step (fun _ k => XS.aload X13.here hx rfl (hb hby at_111) rfl rfl k) ?_
      show own_Go p e below P T13 (mkF m 113 #[.val (.int p0), .val (.int p1), .val (.int p2), .val (.int p3), .val (.int p4), .val (.int p5), .val (.int kk), .val (.ref at_), .val (.double (FP.i2d ((p5 &&& (65535 : Int32)) + (1 : Int32)))), .second, .val (.double (FP.i2d ((((p5.toUInt32 >>> ((16 : Int32) &&& 31).toUInt32).toInt32) &&& (65535 : Int32)) + (1 : Int32)))), .second, .unset, .unset, .unset] [(.ref at_), (.double (FP.i2d ((((p5.toUInt32 >>> ((16 : Int32) &&& 31).toUInt32).toInt32) &&& (65535 : Int32)) + (1 : Int32)))), (.double (FP.i2d ((p5 &&& (65535 : Int32)) + (1 : Int32)))), (.double (FP.i2d p4)), (.double (FP.i2d ((p3 &&& (65535 : Int32)) + (1 : Int32)))), (.double (FP.i2d ((p2 &&& (65535 : Int32)) + (1 : Int32)))), (.double (FP.i2d ((p1 &&& (65535 : Int32)) + (1 : Int32)))), (.ref b13), (.ref b12), (.ref b12)])
      obtain ⟨_, _, ⟨T14, L14, k14, n14⟩, -, X14r, hSr14, hgr14, ⟨Lc14, hQ14, l14, y14, z14⟩, st14⟩ := X13.specialBackS hx (y := (⟨"com/example/brinequil/brinequil/model/Component", "<init>", "(Ljava/lang/String;DDDDDDLcom/example/brinequil/brinequil/model/AssociationScheme;)V"⟩ : MethodName)) rfl hown13 (mvT hZ13 (hw _ (List.mem_of_getElem? (i := 16) rfl))) (mvT hZ13 (hw _ (List.mem_of_getElem? (i := 17) rfl))) (mvT hZ13 (hw _ (List.mem_of_getElem? (i := 18) rfl))) (by decide) (backOfS (W := 1) (rm1P l Z a0 hw [] b12 (FP.i2d ((p1 &&& (65535 : Int32)) + (1 : Int32))) (FP.i2d ((p2 &&& (65535 : Int32)) + (1 : Int32))) (FP.i2d ((p3 &&& (65535 : Int32)) + (1 : Int32))) (FP.i2d p4) (FP.i2d ((p5 &&& (65535 : Int32)) + (1 : Int32))) (FP.i2d ((((p5.toUInt32 >>> ((16 : Int32) &&& 31).toUInt32).toInt32) &&& (65535 : Int32)) + (1 : Int32))) b13 b13v kc13 (119 : Int32) cc ci ta tc pv an at_ h13 n0 (Nat.le_trans (Nat.le_trans Z0 E12.1) E13.1) Fc13 Fv13 Es13 V13 ((S_cs.ext E12).ext E13) hcc ((S_ci.ext E12).ext E13) ((E_ci.ext E12).ext E13) ((S_ta.ext E12).ext E13) ((A_ta.ext E12).ext E13) hti htv hpw own_ch119 (E_b12.ext E13) (F_name_b12.ext E13) (F_criticalTemperature_b12.ext E13) (F_a0_b12.ext E13) (F_b_b12.ext E13) (F_c1_b12.ext E13) (F_associationEnergy_b12.ext E13) (F_associationVolume_b12.ext E13) (F_scheme_b12.ext E13) g_b12 ((S_NONE.ext E12).ext E13) (i2d_fin _) (i2d_fin _) (i2d_fin _) (i2d_fin _) (i2d_fin _) (i2d_fin _) (own_pos (own_m16 _)) (own_pos (own_m16 _)) (own_pos (own_m16 _)) (own_pos (own_m16 _)) (own_pos (own_m16 _)) hne1) hZ13 (hw _ (List.mem_of_getElem? (i := 18) rfl)) (hw _ (List.mem_of_getElem? (i := 6) rfl)) (by decide) (by decide)) (g := (mkF m 113 #[.val (.int p0), .val (.int p1), .val (.int p2), .val (.int p3), .val (.int p4), .val (.int p5), .val (.int kk), .val (.ref at_), .val (.double (FP.i2d ((p5 &&& (65535 : Int32)) + (1 : Int32)))), .second, .val (.double (FP.i2d ((((p5.toUInt32 >>> ((16 : Int32) &&& 31).toUInt32).toInt32) &&& (65535 : Int32)) + (1 : Int32)))), .second, .unset, .unset, .unset] [(.ref at_), (.double (FP.i2d ((((p5.toUInt32 >>> ((16 : Int32) &&& 31).toUInt32).toInt32) &&& (65535 : Int32)) + (1 : Int32)))), (.double (FP.i2d ((p5 &&& (65535 : Int32)) + (1 : Int32)))), (.double (FP.i2d p4)), (.double (FP.i2d ((p3 &&& (65535 : Int32)) + (1 : Int32)))), (.double (FP.i2d ((p2 &&& (65535 : Int32)) + (1 : Int32)))), (.double (FP.i2d ((p1 &&& (65535 : Int32)) + (1 : Int32)))), (.ref b13), (.ref b12), (.ref b12)])) rfl (by rw [hml]; rfl) (Steps.refl _) (a := b12) (argsL := [(.ref b13), (.double (FP.i2d ((p1 &&& (65535 : Int32)) + (1 : Int32)))), (.double (FP.i2d ((p2 &&& (65535 : Int32)) + (1 : Int32)))), (.double (FP.i2d ((p3 &&& (65535 : Int32)) + (1 : Int32)))), (.double (FP.i2d p4)), (.double (FP.i2d ((p5 &&& (65535 : Int32)) + (1 : Int32)))), (.double (FP.i2d ((((p5.toUInt32 >>> ((16 : Int32) &&& 31).toUInt32).toInt32) &&& (65535 : Int32)) + (1 : Int32)))), (.ref at_)]) (rest := [(.ref b12)]) (lenOf pd__Ljava_lang_StringDDDDDDLcom_example_brinequil_brinequil_model_AssociationScheme__V rfl) rfl (by show 2 * 0 + _ ≤ _; exact Nat.le_of_eq rfl) (hb hby at_113) (fun _ _ => ⟨rfl, e13, (by decide : 3 + 10 ≤ _), (by decide : 16 + 84 ≤ _)⟩)
      dsimp only [Pt.U, Pt.locs, Pt.cells, Pt.slots] at X14r hSr14 hgr14 l14 y14 z14 st14 hQ14
      subst l14 y14 z14
      obtain ⟨X14, hS14, hZ14, hown14⟩ := rebS hS13 (by rw [e13]; exact hk13) X14r hSr14 hgr14 hZ13 hown13
      have hk14 := Nat.le_refl T14.heap.size
      obtain ⟨rfl, N14q, K14, E14_o, Fs14⟩ := hQ14
      have N14 := Fr.app N0 N14q
      refine own_step (fun _ k => st14.trans k) ?_
      show own_Go p e below P T14 (mkF m 116 #[.val (.int p0), .val (.int p1), .val (.int p2), .val (.int p3), .val (.int p4), .val (.int p5), .val (.int kk), .val (.ref at_), .val (.double (FP.i2d ((p5 &&& (65535 : Int32)) + (1 : Int32)))), .second, .val (.double (FP.i2d ((((p5.toUInt32 >>> ((16 : Int32) &&& 31).toUInt32).toInt32) &&& (65535 : Int32)) + (1 : Int32)))), .second, .unset, .unset, .unset] [(.ref b12)])
      refine own_step (fun _ k => XS.astore X14.here hx rfl (hb hby at_116) rfl rfl (l' := #[.val (.int p0), .val (.int p1), .val (.int p2), .val (.int p3), .val (.int p4), .val (.int p5), .val (.int kk), .val (.ref at_), .val (.double (FP.i2d ((p5 &&& (65535 : Int32)) + (1 : Int32)))), .second, .val (.double (FP.i2d ((((p5.toUInt32 >>> ((16 : Int32) &&& 31).toUInt32).toInt32) &&& (65535 : Int32)) + (1 : Int32)))), .second, .val (.ref b12), .unset, .unset]) rfl k) ?_
      show own_Go p e below P T14 (mkF m 118 #[.val (.int p0), .val (.int p1), .val (.int p2), .val (.int p3), .val (.int p4), .val (.int p5), .val (.int kk), .val (.ref at_), .val (.double (FP.i2d ((p5 &&& (65535 : Int32)) + (1 : Int32)))), .second, .val (.double (FP.i2d ((((p5.toUInt32 >>> ((16 : Int32) &&& 31).toUInt32).toInt32) &&& (65535 : Int32)) + (1 : Int32)))), .second, .val (.ref b12), .unset, .unset] [])
      refine own_step (fun _ k => XS.iload X14.here hx rfl (hb hby at_118) rfl k) ?_
      show own_Go p e below P T14 (mkF m 120 #[.val (.int p0), .val (.int p1), .val (.int p2), .val (.int p3), .val (.int p4), .val (.int p5), .val (.int kk), .val (.ref at_), .val (.double (FP.i2d ((p5 &&& (65535 : Int32)) + (1 : Int32)))), .second, .val (.double (FP.i2d ((((p5.toUInt32 >>> ((16 : Int32) &&& 31).toUInt32).toInt32) &&& (65535 : Int32)) + (1 : Int32)))), .second, .val (.ref b12), .unset, .unset] [(.int kk)])
      refine own_step (fun _ k => XS.ifNo X14.here hx rfl (hb hby at_120) rfl ((if0 _ _).trans (feq hc1).1) k) ?_
      show own_Go p e below P T14 (mkF m 123 #[.val (.int p0), .val (.int p1), .val (.int p2), .val (.int p3), .val (.int p4), .val (.int p5), .val (.int kk), .val (.ref at_), .val (.double (FP.i2d ((p5 &&& (65535 : Int32)) + (1 : Int32)))), .second, .val (.double (FP.i2d ((((p5.toUInt32 >>> ((16 : Int32) &&& 31).toUInt32).toInt32) &&& (65535 : Int32)) + (1 : Int32)))), .second, .val (.ref b12), .unset, .unset] [])
      refine own_step (fun _ k => XS.iconst X14.here hx rfl (hb hby at_123) k) ?_
      show own_Go p e below P T14 (mkF m 124 #[.val (.int p0), .val (.int p1), .val (.int p2), .val (.int p3), .val (.int p4), .val (.int p5), .val (.int kk), .val (.ref at_), .val (.double (FP.i2d ((p5 &&& (65535 : Int32)) + (1 : Int32)))), .second, .val (.double (FP.i2d ((((p5.toUInt32 >>> ((16 : Int32) &&& 31).toUInt32).toInt32) &&& (65535 : Int32)) + (1 : Int32)))), .second, .val (.ref b12), .unset, .unset] [(.int (1 : Int32))])
      refine own_step (fun _ k => XS.goto X14.here hx rfl (pc0 := 124) (pc' := 128) rfl (hb hby at_124) (by decide) (by decide) k) ?_
      show own_Go p e below P T14 (mkF m 128 #[.val (.int p0), .val (.int p1), .val (.int p2), .val (.int p3), .val (.int p4), .val (.int p5), .val (.int kk), .val (.ref at_), .val (.double (FP.i2d ((p5 &&& (65535 : Int32)) + (1 : Int32)))), .second, .val (.double (FP.i2d ((((p5.toUInt32 >>> ((16 : Int32) &&& 31).toUInt32).toInt32) &&& (65535 : Int32)) + (1 : Int32)))), .second, .val (.ref b12), .unset, .unset] [(.int (1 : Int32))])
      refine own_step (fun _ k => XS.istore X14.here hx rfl (hb hby at_128) rfl (l' := #[.val (.int p0), .val (.int p1), .val (.int p2), .val (.int p3), .val (.int p4), .val (.int p5), .val (.int kk), .val (.ref at_), .val (.double (FP.i2d ((p5 &&& (65535 : Int32)) + (1 : Int32)))), .second, .val (.double (FP.i2d ((((p5.toUInt32 >>> ((16 : Int32) &&& 31).toUInt32).toInt32) &&& (65535 : Int32)) + (1 : Int32)))), .second, .val (.ref b12), .val (.int (1 : Int32)), .unset]) rfl k) ?_
      show own_Go p e below P T14 (mkF m 130 #[.val (.int p0), .val (.int p1), .val (.int p2), .val (.int p3), .val (.int p4), .val (.int p5), .val (.int kk), .val (.ref at_), .val (.double (FP.i2d ((p5 &&& (65535 : Int32)) + (1 : Int32)))), .second, .val (.double (FP.i2d ((((p5.toUInt32 >>> ((16 : Int32) &&& 31).toUInt32).toInt32) &&& (65535 : Int32)) + (1 : Int32)))), .second, .val (.ref b12), .val (.int (1 : Int32)), .unset] [])
      refine own_step (fun _ k => XS.aload X14.here hx rfl (hb hby at_130) rfl rfl k) ?_
      show own_Go p e below P T14 (mkF m 132 #[.val (.int p0), .val (.int p1), .val (.int p2), .val (.int p3), .val (.int p4), .val (.int p5), .val (.int kk), .val (.ref at_), .val (.double (FP.i2d ((p5 &&& (65535 : Int32)) + (1 : Int32)))), .second, .val (.double (FP.i2d ((((p5.toUInt32 >>> ((16 : Int32) &&& 31).toUInt32).toInt32) &&& (65535 : Int32)) + (1 : Int32)))), .second, .val (.ref b12), .val (.int (1 : Int32)), .unset] [(.ref at_)])
      obtain ⟨cq15, kq15, q15a, q15b, q15c⟩ := isOf hZ14 rfl (((E_TWO_B.ext E12).ext E13).keep K14)
      obtain ⟨_, _, ⟨T15, L15, k15, n15⟩, -, X15, ⟨Lc15, hQ15, l15, y15, z15⟩, st15⟩ := X14.virtualBack hx (y := (⟨"com/example/brinequil/brinequil/model/AssociationScheme", "donors", "()I"⟩ : MethodName)) (z := (⟨"com/example/brinequil/brinequil/model/AssociationScheme", "donors", "()I"⟩ : MethodName)) hown14 (mvT hZ14 (hw _ (List.mem_of_getElem? (i := 107) rfl))) (mvT hZ14 (hw _ (List.mem_of_getElem? (i := 108) rfl))) (notFace_of_selects (args := #[]) (mvT hZ14 (hw _ (List.mem_of_getElem? (i := 110) rfl)))) (mvT hZ14 (hw _ (List.mem_of_getElem? (i := 110) rfl))) (mvT hZ14 (hw _ (List.mem_of_getElem? (i := 109) rfl))) (by decide) (backOf (W := 0) (rm16 l Z a0 hw [] at_ (1 : Int32) T14.heap n0 (Nat.le_trans (Nat.le_trans (Nat.le_trans Z0 E12.1) E13.1) K14.1) (((Fd_TWO_B.ext E12).ext E13).keep K14 (ninS (Nat.ne_of_lt (Nat.lt_of_lt_of_le E_TWO_B.lt (Nat.le_of_eq g12.symm))) nin0))) hZ14 (hw _ (List.mem_of_getElem? (i := 111) rfl)) (hw _ (List.mem_of_getElem? (i := 2) rfl)) (by decide) (by decide)) q15a q15c (g := (mkF m 132 #[.val (.int p0), .val (.int p1), .val (.int p2), .val (.int p3), .val (.int p4), .val (.int p5), .val (.int kk), .val (.ref at_), .val (.double (FP.i2d ((p5 &&& (65535 : Int32)) + (1 : Int32)))), .second, .val (.double (FP.i2d ((((p5.toUInt32 >>> ((16 : Int32) &&& 31).toUInt32).toInt32) &&& (65535 : Int32)) + (1 : Int32)))), .second, .val (.ref b12), .val (.int (1 : Int32)), .unset] [(.ref at_)])) rfl (by rw [hml]; rfl) (Steps.refl _) (argsL := []) (rest := []) (lenOf pd____I rfl) rfl (by show 2 * 0 + _ ≤ _; exact Nat.le_of_eq rfl) (hb hby at_132) (fun _ _ => ⟨rfl, rfl, (by decide : 13 + 0 ≤ _), (by decide : 100 + 0 ≤ _)⟩)
      dsimp only [Pt.U, Pt.locs, Pt.cells, Pt.slots] at X15 l15 y15 z15 st15 hQ15
      subst l15 y15 z15
      obtain ⟨rfl, N15q, e15⟩ := hQ15
      have N15 := Fr.app N14 N15q
      refine own_step (fun _ k => st15.trans k) ?_
      show own_Go p e below P T15 (mkF m 135 #[.val (.int p0), .val (.int p1), .val (.int p2), .val (.int p3), .val (.int p4), .val (.int p5), .val (.int kk), .val (.ref at_), .val (.double (FP.i2d ((p5 &&& (65535 : Int32)) + (1 : Int32)))), .second, .val (.double (FP.i2d ((((p5.toUInt32 >>> ((16 : Int32) &&& 31).toUInt32).toInt32) &&& (65535 : Int32)) + (1 : Int32)))), .second, .val (.ref b12), .val (.int (1 : Int32)), .unset] [(.int (1 : Int32))])
      refine own_step (fun _ k => XS.aload X15.here hx rfl (hb hby at_135) rfl rfl k) ?_
      show own_Go p e below P T15 (mkF m 137 #[.val (.int p0), .val (.int p1), .val (.int p2), .val (.int p3), .val (.int p4), .val (.int p5), .val (.int kk), .val (.ref at_), .val (.double (FP.i2d ((p5 &&& (65535 : Int32)) + (1 : Int32)))), .second, .val (.double (FP.i2d ((((p5.toUInt32 >>> ((16 : Int32) &&& 31).toUInt32).toInt32) &&& (65535 : Int32)) + (1 : Int32)))), .second, .val (.ref b12), .val (.int (1 : Int32)), .unset] [(.ref at_), (.int (1 : Int32))])
      obtain ⟨cq16, kq16, q16a, q16b, q16c⟩ := isOf hZ14 e15 (((E_TWO_B.ext E12).ext E13).keep K14)
      obtain ⟨_, _, ⟨T16, L16, k16, n16⟩, -, X16, ⟨Lc16, hQ16, l16, y16, z16⟩, st16⟩ := X15.virtualBack hx (y := (⟨"com/example/brinequil/brinequil/model/AssociationScheme", "acceptors", "()I"⟩ : MethodName)) (z := (⟨"com/example/brinequil/brinequil/model/AssociationScheme", "acceptors", "()I"⟩ : MethodName)) hown14 (mvT hZ14 (hw _ (List.mem_of_getElem? (i := 114) rfl))) (mvT hZ14 (hw _ (List.mem_of_getElem? (i := 115) rfl))) (notFace_of_selects (args := #[]) (mvT hZ14 (hw _ (List.mem_of_getElem? (i := 117) rfl)))) (mvT hZ14 (hw _ (List.mem_of_getElem? (i := 117) rfl))) (mvT hZ14 (hw _ (List.mem_of_getElem? (i := 116) rfl))) (by decide) (backOf (W := 1) (rm17 l Z a0 hw [] at_ (1 : Int32) T14.heap n0 (Nat.le_trans (Nat.le_trans (Nat.le_trans Z0 E12.1) E13.1) K14.1) (((Fa_TWO_B.ext E12).ext E13).keep K14 (ninS (Nat.ne_of_lt (Nat.lt_of_lt_of_le E_TWO_B.lt (Nat.le_of_eq g12.symm))) nin0))) hZ14 (hw _ (List.mem_of_getElem? (i := 118) rfl)) (hw _ (List.mem_of_getElem? (i := 2) rfl)) (by decide) (by decide)) q16a q16c (g := (mkF m 137 #[.val (.int p0), .val (.int p1), .val (.int p2), .val (.int p3), .val (.int p4), .val (.int p5), .val (.int kk), .val (.ref at_), .val (.double (FP.i2d ((p5 &&& (65535 : Int32)) + (1 : Int32)))), .second, .val (.double (FP.i2d ((((p5.toUInt32 >>> ((16 : Int32) &&& 31).toUInt32).toInt32) &&& (65535 : Int32)) + (1 : Int32)))), .second, .val (.ref b12), .val (.int (1 : Int32)), .unset] [(.ref at_), (.int (1 : Int32))])) rfl (by rw [hml]; rfl) (Steps.refl _) (argsL := []) (rest := [(.int (1 : Int32))]) (lenOf pd____I rfl) rfl (by show 2 * 0 + _ ≤ _; exact Nat.le_of_eq rfl) (hb hby at_137) (fun _ _ => ⟨rfl, e15, (by decide : 13 + 0 ≤ _), (by decide : 100 + 0 ≤ _)⟩)
      dsimp only [Pt.U, Pt.locs, Pt.cells, Pt.slots] at X16 l16 y16 z16 st16 hQ16
      subst l16 y16 z16
      obtain ⟨rfl, N16q, e16⟩ := hQ16
      have N16 := Fr.app N15 N16q
      refine own_step (fun _ k => st16.trans k) ?_
      show own_Go p e below P T16 (mkF m 140 #[.val (.int p0), .val (.int p1), .val (.int p2), .val (.int p3), .val (.int p4), .val (.int p5), .val (.int kk), .val (.ref at_), .val (.double (FP.i2d ((p5 &&& (65535 : Int32)) + (1 : Int32)))), .second, .val (.double (FP.i2d ((((p5.toUInt32 >>> ((16 : Int32) &&& 31).toUInt32).toInt32) &&& (65535 : Int32)) + (1 : Int32)))), .second, .val (.ref b12), .val (.int (1 : Int32)), .unset] [(.int (1 : Int32)), (.int (1 : Int32))])
      refine own_step (fun _ k => XS.iadd X16.here hx rfl (hb hby at_140) rfl k) ?_
      show own_Go p e below P T16 (mkF m 141 #[.val (.int p0), .val (.int p1), .val (.int p2), .val (.int p3), .val (.int p4), .val (.int p5), .val (.int kk), .val (.ref at_), .val (.double (FP.i2d ((p5 &&& (65535 : Int32)) + (1 : Int32)))), .second, .val (.double (FP.i2d ((((p5.toUInt32 >>> ((16 : Int32) &&& 31).toUInt32).toInt32) &&& (65535 : Int32)) + (1 : Int32)))), .second, .val (.ref b12), .val (.int (1 : Int32)), .unset] [(.int (2 : Int32))])
      refine own_step (fun _ k => XS.ifNo X16.here hx rfl (hb hby at_141) rfl ((if0 _ _).trans (tlt (by decide : (0 : Int32) < (2 : Int32))).2.2.2) k) ?_
      show own_Go p e below P T16 (mkF m 144 #[.val (.int p0), .val (.int p1), .val (.int p2), .val (.int p3), .val (.int p4), .val (.int p5), .val (.int kk), .val (.ref at_), .val (.double (FP.i2d ((p5 &&& (65535 : Int32)) + (1 : Int32)))), .second, .val (.double (FP.i2d ((((p5.toUInt32 >>> ((16 : Int32) &&& 31).toUInt32).toInt32) &&& (65535 : Int32)) + (1 : Int32)))), .second, .val (.ref b12), .val (.int (1 : Int32)), .unset] [])
      refine own_step (fun _ k => XS.iconst X16.here hx rfl (hb hby at_144) k) ?_
      show own_Go p e below P T16 (mkF m 145 #[.val (.int p0), .val (.int p1), .val (.int p2), .val (.int p3), .val (.int p4), .val (.int p5), .val (.int kk), .val (.ref at_), .val (.double (FP.i2d ((p5 &&& (65535 : Int32)) + (1 : Int32)))), .second, .val (.double (FP.i2d ((((p5.toUInt32 >>> ((16 : Int32) &&& 31).toUInt32).toInt32) &&& (65535 : Int32)) + (1 : Int32)))), .second, .val (.ref b12), .val (.int (1 : Int32)), .unset] [(.int (1 : Int32))])
      refine own_step (fun _ k => XS.goto X16.here hx rfl (pc0 := 145) (pc' := 149) rfl (hb hby at_145) (by decide) (by decide) k) ?_
      show own_Go p e below P T16 (mkF m 149 #[.val (.int p0), .val (.int p1), .val (.int p2), .val (.int p3), .val (.int p4), .val (.int p5), .val (.int kk), .val (.ref at_), .val (.double (FP.i2d ((p5 &&& (65535 : Int32)) + (1 : Int32)))), .second, .val (.double (FP.i2d ((((p5.toUInt32 >>> ((16 : Int32) &&& 31).toUInt32).toInt32) &&& (65535 : Int32)) + (1 : Int32)))), .second, .val (.ref b12), .val (.int (1 : Int32)), .unset] [(.int (1 : Int32))])
      refine own_step (fun _ k => XS.istore X16.here hx rfl (hb hby at_149) rfl (l' := #[.val (.int p0), .val (.int p1), .val (.int p2), .val (.int p3), .val (.int p4), .val (.int p5), .val (.int kk), .val (.ref at_), .val (.double (FP.i2d ((p5 &&& (65535 : Int32)) + (1 : Int32)))), .second, .val (.double (FP.i2d ((((p5.toUInt32 >>> ((16 : Int32) &&& 31).toUInt32).toInt32) &&& (65535 : Int32)) + (1 : Int32)))), .second, .val (.ref b12), .val (.int (1 : Int32)), .val (.int (1 : Int32))]) rfl k) ?_
      show own_Go p e below P T16 (mkF m 151 #[.val (.int p0), .val (.int p1), .val (.int p2), .val (.int p3), .val (.int p4), .val (.int p5), .val (.int kk), .val (.ref at_), .val (.double (FP.i2d ((p5 &&& (65535 : Int32)) + (1 : Int32)))), .second, .val (.double (FP.i2d ((((p5.toUInt32 >>> ((16 : Int32) &&& 31).toUInt32).toInt32) &&& (65535 : Int32)) + (1 : Int32)))), .second, .val (.ref b12), .val (.int (1 : Int32)), .val (.int (1 : Int32))] [])
      refine own_step (fun _ k => XS.aload X16.here hx rfl (hb hby at_151) rfl rfl k) ?_
      show own_Go p e below P T16 (mkF m 153 #[.val (.int p0), .val (.int p1), .val (.int p2), .val (.int p3), .val (.int p4), .val (.int p5), .val (.int kk), .val (.ref at_), .val (.double (FP.i2d ((p5 &&& (65535 : Int32)) + (1 : Int32)))), .second, .val (.double (FP.i2d ((((p5.toUInt32 >>> ((16 : Int32) &&& 31).toUInt32).toInt32) &&& (65535 : Int32)) + (1 : Int32)))), .second, .val (.ref b12), .val (.int (1 : Int32)), .val (.int (1 : Int32))] [(.ref b12)])
      obtain ⟨cq17, kq17, q17a, q17b, q17c⟩ := isOf hZ14 e16 E14_o
      obtain ⟨_, _, ⟨T17, L17, k17, n17⟩, -, X17, ⟨Lc17, hQ17, l17, y17, z17⟩, st17⟩ := X16.virtualBack hx (y := (⟨"com/example/brinequil/brinequil/model/Component", "associates", "()Z"⟩ : MethodName)) (z := (⟨"com/example/brinequil/brinequil/model/Component", "associates", "()Z"⟩ : MethodName)) hown14 (mvT hZ14 (hw _ (List.mem_of_getElem? (i := 121) rfl))) (mvT hZ14 (hw _ (List.mem_of_getElem? (i := 122) rfl))) (notFace_of_selects (args := #[]) (mvT hZ14 (hw _ (List.mem_of_getElem? (i := 124) rfl)))) (mvT hZ14 (hw _ (List.mem_of_getElem? (i := 124) rfl))) (mvT hZ14 (hw _ (List.mem_of_getElem? (i := 123) rfl))) (by decide) (backOf (W := 0) (rm18 l Z a0 hw [] b12 at_ an (1 : Int32) T14.heap n0 (Nat.le_trans (Nat.le_trans (Nat.le_trans Z0 E12.1) E13.1) K14.1) (if_neg hne1) Fs14 (own_sta_keep ((S_NONE.ext E12).ext E13) K14 (allS (old_plain (F_name_b12.ext E13)) all0))) hZ14 (hw _ (List.mem_of_getElem? (i := 125) rfl)) (hw _ (List.mem_of_getElem? (i := 6) rfl)) (by decide) (by decide)) q17a q17c (g := (mkF m 153 #[.val (.int p0), .val (.int p1), .val (.int p2), .val (.int p3), .val (.int p4), .val (.int p5), .val (.int kk), .val (.ref at_), .val (.double (FP.i2d ((p5 &&& (65535 : Int32)) + (1 : Int32)))), .second, .val (.double (FP.i2d ((((p5.toUInt32 >>> ((16 : Int32) &&& 31).toUInt32).toInt32) &&& (65535 : Int32)) + (1 : Int32)))), .second, .val (.ref b12), .val (.int (1 : Int32)), .val (.int (1 : Int32))] [(.ref b12)])) rfl (by rw [hml]; rfl) (Steps.refl _) (argsL := []) (rest := []) (lenOf pd____Z rfl) rfl (by show 2 * 0 + _ ≤ _; exact Nat.le_of_eq rfl) (hb hby at_153) (fun _ _ => ⟨rfl, e16, (by decide : 13 + 0 ≤ _), (by decide : 100 + 0 ≤ _)⟩)
      dsimp only [Pt.U, Pt.locs, Pt.cells, Pt.slots] at X17 l17 y17 z17 st17 hQ17
      subst l17 y17 z17
      obtain ⟨rfl, N17q, e17⟩ := hQ17
      have N17 := Fr.app N16 N17q
      refine own_step (fun _ k => st17.trans k) ?_
      show own_Go p e below P T17 (mkF m 156 #[.val (.int p0), .val (.int p1), .val (.int p2), .val (.int p3), .val (.int p4), .val (.int p5), .val (.int kk), .val (.ref at_), .val (.double (FP.i2d ((p5 &&& (65535 : Int32)) + (1 : Int32)))), .second, .val (.double (FP.i2d ((((p5.toUInt32 >>> ((16 : Int32) &&& 31).toUInt32).toInt32) &&& (65535 : Int32)) + (1 : Int32)))), .second, .val (.ref b12), .val (.int (1 : Int32)), .val (.int (1 : Int32))] [(.int (1 : Int32))])
      refine own_step (fun _ k => XS.iload X17.here hx rfl (hb hby at_156) rfl k) ?_
      show own_Go p e below P T17 (mkF m 158 #[.val (.int p0), .val (.int p1), .val (.int p2), .val (.int p3), .val (.int p4), .val (.int p5), .val (.int kk), .val (.ref at_), .val (.double (FP.i2d ((p5 &&& (65535 : Int32)) + (1 : Int32)))), .second, .val (.double (FP.i2d ((((p5.toUInt32 >>> ((16 : Int32) &&& 31).toUInt32).toInt32) &&& (65535 : Int32)) + (1 : Int32)))), .second, .val (.ref b12), .val (.int (1 : Int32)), .val (.int (1 : Int32))] [(.int (1 : Int32)), (.int (1 : Int32))])
      refine own_step (fun _ k => XS.icmpNo X17.here hx rfl (hb hby at_158) rfl (teq (rfl : (1 : Int32) = (1 : Int32))).2 k) ?_
      show own_Go p e below P T17 (mkF m 161 #[.val (.int p0), .val (.int p1), .val (.int p2), .val (.int p3), .val (.int p4), .val (.int p5), .val (.int kk), .val (.ref at_), .val (.double (FP.i2d ((p5 &&& (65535 : Int32)) + (1 : Int32)))), .second, .val (.double (FP.i2d ((((p5.toUInt32 >>> ((16 : Int32) &&& 31).toUInt32).toInt32) &&& (65535 : Int32)) + (1 : Int32)))), .second, .val (.ref b12), .val (.int (1 : Int32)), .val (.int (1 : Int32))] [])
      refine own_step (fun _ k => XS.iload X17.here hx rfl (hb hby at_161) rfl k) ?_
      show own_Go p e below P T17 (mkF m 163 #[.val (.int p0), .val (.int p1), .val (.int p2), .val (.int p3), .val (.int p4), .val (.int p5), .val (.int kk), .val (.ref at_), .val (.double (FP.i2d ((p5 &&& (65535 : Int32)) + (1 : Int32)))), .second, .val (.double (FP.i2d ((((p5.toUInt32 >>> ((16 : Int32) &&& 31).toUInt32).toInt32) &&& (65535 : Int32)) + (1 : Int32)))), .second, .val (.ref b12), .val (.int (1 : Int32)), .val (.int (1 : Int32))] [(.int (1 : Int32))])
      refine own_step (fun _ k => XS.iload X17.here hx rfl (hb hby at_163) rfl k) ?_
      show own_Go p e below P T17 (mkF m 165 #[.val (.int p0), .val (.int p1), .val (.int p2), .val (.int p3), .val (.int p4), .val (.int p5), .val (.int kk), .val (.ref at_), .val (.double (FP.i2d ((p5 &&& (65535 : Int32)) + (1 : Int32)))), .second, .val (.double (FP.i2d ((((p5.toUInt32 >>> ((16 : Int32) &&& 31).toUInt32).toInt32) &&& (65535 : Int32)) + (1 : Int32)))), .second, .val (.ref b12), .val (.int (1 : Int32)), .val (.int (1 : Int32))] [(.int (1 : Int32)), (.int (1 : Int32))])
      refine own_step (fun _ k => XS.icmpNo X17.here hx rfl (hb hby at_165) rfl (teq (rfl : (1 : Int32) = (1 : Int32))).2 k) ?_
      show own_Go p e below P T17 (mkF m 168 #[.val (.int p0), .val (.int p1), .val (.int p2), .val (.int p3), .val (.int p4), .val (.int p5), .val (.int kk), .val (.ref at_), .val (.double (FP.i2d ((p5 &&& (65535 : Int32)) + (1 : Int32)))), .second, .val (.double (FP.i2d ((((p5.toUInt32 >>> ((16 : Int32) &&& 31).toUInt32).toInt32) &&& (65535 : Int32)) + (1 : Int32)))), .second, .val (.ref b12), .val (.int (1 : Int32)), .val (.int (1 : Int32))] [])
      refine own_step (fun _ k => XS.iconst X17.here hx rfl (hb hby at_168) k) ?_
      show own_Go p e below P T17 (mkF m 169 #[.val (.int p0), .val (.int p1), .val (.int p2), .val (.int p3), .val (.int p4), .val (.int p5), .val (.int kk), .val (.ref at_), .val (.double (FP.i2d ((p5 &&& (65535 : Int32)) + (1 : Int32)))), .second, .val (.double (FP.i2d ((((p5.toUInt32 >>> ((16 : Int32) &&& 31).toUInt32).toInt32) &&& (65535 : Int32)) + (1 : Int32)))), .second, .val (.ref b12), .val (.int (1 : Int32)), .val (.int (1 : Int32))] [(.int (1 : Int32))])
      refine own_step (fun _ k => XS.goto X17.here hx rfl (pc0 := 169) (pc' := 173) rfl (hb hby at_169) (by decide) (by decide) k) ?_
      show own_Go p e below P T17 (mkF m 173 #[.val (.int p0), .val (.int p1), .val (.int p2), .val (.int p3), .val (.int p4), .val (.int p5), .val (.int kk), .val (.ref at_), .val (.double (FP.i2d ((p5 &&& (65535 : Int32)) + (1 : Int32)))), .second, .val (.double (FP.i2d ((((p5.toUInt32 >>> ((16 : Int32) &&& 31).toUInt32).toInt32) &&& (65535 : Int32)) + (1 : Int32)))), .second, .val (.ref b12), .val (.int (1 : Int32)), .val (.int (1 : Int32))] [(.int (1 : Int32))])
      obtain ⟨fs, hr, hrun, hended, hend⟩ := X17.leaveW hS14 (by rw [e17]; exact hk14) (v := some (.int (1 : Int32))) (fun h => by rw [Bd.returns] at h; cases h)
      refine ⟨_, _, retN X17 hx (t := .boolean) Bd.returns (by simp) (hb hby at_173) hr, hrun, hended, hfin _ _ ⟨_, _, rfl, ?_, hend.1, hend.2.1, hend.2.2.1, hend.2.2.2.mono (by decide) (by decide)⟩⟩
      show Q0 Z p0 p1 p2 p3 p4 p5 cc ci ta tc pv an at_ af h0 n0 (some (.int (1 : Int32))) T17.heap _
      rw [e17]
      exact ⟨rfl, N17⟩
    · refine own_step (fun _ k => XS.icmpYes X0.here hx rfl (pc0 := 24) (pc' := 35) rfl (hb hby at_24) rfl (feq hc10).2 (by decide) (by decide) k) ?_
      show own_Go p e below P s₁ (mkF m 35 #[.val (.int p0), .val (.int p1), .val (.int p2), .val (.int p3), .val (.int p4), .val (.int p5), .val (.int kk), .unset, .unset, .unset, .unset, .unset, .unset, .unset, .unset] [])
      obtain ⟨T19, X19, e19, st19⟩ := getS2 X0 hx hZ hown (host := "") (Or.inl (hw _ (List.mem_of_getElem? (i := 130) rfl))) Via.refl e0 S_FOUR_C (g := (mkF m 35 #[.val (.int p0), .val (.int p1), .val (.int p2), .val (.int p3), .val (.int p4), .val (.int p5), .val (.int kk), .unset, .unset, .unset, .unset, .unset, .unset, .unset, .unset] [])) rfl (hb hby at_35)
      refine own_step st19 ?_
      show own_Go p e below P T19 (mkF m 38 #[.val (.int p0), .val (.int p1), .val (.int p2), .val (.int p3), .val (.int p4), .val (.int p5), .val (.int kk), .unset, .unset, .unset, .unset, .unset, .unset, .unset, .unset] [(.ref af)])
      refine own_step (fun _ k => XS.astore X19.here hx rfl (hb hby at_38) rfl rfl (l' := #[.val (.int p0), .val (.int p1), .val (.int p2), .val (.int p3), .val (.int p4), .val (.int p5), .val (.int kk), .val (.ref af), .unset, .unset, .unset, .unset, .unset, .unset, .unset]) rfl k) ?_
      show own_Go p e below P T19 (mkF m 40 #[.val (.int p0), .val (.int p1), .val (.int p2), .val (.int p3), .val (.int p4), .val (.int p5), .val (.int kk), .val (.ref af), .unset, .unset, .unset, .unset, .unset, .unset, .unset] [])
      refine own_step (fun _ k => XS.iload X19.here hx rfl (hb hby at_40) rfl k) ?_
      show own_Go p e below P T19 (mkF m 42 #[.val (.int p0), .val (.int p1), .val (.int p2), .val (.int p3), .val (.int p4), .val (.int p5), .val (.int kk), .val (.ref af), .unset, .unset, .unset, .unset, .unset, .unset, .unset] [(.int kk)])
      refine own_step (fun _ k => XS.ifYes X19.here hx rfl (pc0 := 42) (pc' := 54) rfl (hb hby at_42) rfl ((if0 _ _).trans (feq hc1).2) (by decide) (by decide) k) ?_
      show own_Go p e below P T19 (mkF m 54 #[.val (.int p0), .val (.int p1), .val (.int p2), .val (.int p3), .val (.int p4), .val (.int p5), .val (.int kk), .val (.ref af), .unset, .unset, .unset, .unset, .unset, .unset, .unset] [])
      refine own_step (fun _ k => XS.iload X19.here hx rfl (hb hby at_54) rfl k) ?_
      show own_Go p e below P T19 (mkF m 56 #[.val (.int p0), .val (.int p1), .val (.int p2), .val (.int p3), .val (.int p4), .val (.int p5), .val (.int kk), .val (.ref af), .unset, .unset, .unset, .unset, .unset, .unset, .unset] [(.int p5)])
      refine own_step (fun t k => X19.ldcInt hx hown (mvT hZ (hw _ (List.mem_of_getElem? (i := 15) rfl))) (g := (mkF m 56 #[.val (.int p0), .val (.int p1), .val (.int p2), .val (.int p3), .val (.int p4), .val (.int p5), .val (.int kk), .val (.ref af), .unset, .unset, .unset, .unset, .unset, .unset, .unset] [(.int p5)])) rfl (hb hby at_56) t k) ?_
      show own_Go p e below P T19 (mkF m 58 #[.val (.int p0), .val (.int p1), .val (.int p2), .val (.int p3), .val (.int p4), .val (.int p5), .val (.int kk), .val (.ref af), .unset, .unset, .unset, .unset, .unset, .unset, .unset] [(.int (65535 : Int32)), (.int p5)])
      refine own_step (fun _ k => XS.iand X19.here hx rfl (hb hby at_58) rfl k) ?_
      show own_Go p e below P T19 (mkF m 59 #[.val (.int p0), .val (.int p1), .val (.int p2), .val (.int p3), .val (.int p4), .val (.int p5), .val (.int kk), .val (.ref af), .unset, .unset, .unset, .unset, .unset, .unset, .unset] [(.int (p5 &&& (65535 : Int32)))])
      refine own_step (fun _ k => XS.iconst X19.here hx rfl (hb hby at_59) k) ?_
      show own_Go p e below P T19 (mkF m 60 #[.val (.int p0), .val (.int p1), .val (.int p2), .val (.int p3), .val (.int p4), .val (.int p5), .val (.int kk), .val (.ref af), .unset, .unset, .unset, .unset, .unset, .unset, .unset] [(.int (1 : Int32)), (.int (p5 &&& (65535 : Int32)))])
      refine own_step (fun _ k => XS.iadd X19.here hx rfl (hb hby at_60) rfl k) ?_
      show own_Go p e below P T19 (mkF m 61 #[.val (.int p0), .val (.int p1), .val (.int p2), .val (.int p3), .val (.int p4), .val (.int p5), .val (.int kk), .val (.ref af), .unset, .unset, .unset, .unset, .unset, .unset, .unset] [(.int ((p5 &&& (65535 : Int32)) + (1 : Int32)))])
      refine own_step (fun _ k => XS.i2dS X19.here hx rfl (hb hby at_61) rfl rfl k) ?_
      show own_Go p e below P T19 (mkF m 62 #[.val (.int p0), .val (.int p1), .val (.int p2), .val (.int p3), .val (.int p4), .val (.int p5), .val (.int kk), .val (.ref af), .unset, .unset, .unset, .unset, .unset, .unset, .unset] [(.double (FP.i2d ((p5 &&& (65535 : Int32)) + (1 : Int32))))])
      refine own_step (fun _ k => XS.dstore X19.here hx rfl (hb hby at_62) rfl (l' := #[.val (.int p0), .val (.int p1), .val (.int p2), .val (.int p3), .val (.int p4), .val (.int p5), .val (.int kk), .val (.ref af), .val (.double (FP.i2d ((p5 &&& (65535 : Int32)) + (1 : Int32)))), .second, .unset, .unset, .unset, .unset, .unset]) rfl k) ?_
      show own_Go p e below P T19 (mkF m 64 #[.val (.int p0), .val (.int p1), .val (.int p2), .val (.int p3), .val (.int p4), .val (.int p5), .val (.int kk), .val (.ref af), .val (.double (FP.i2d ((p5 &&& (65535 : Int32)) + (1 : Int32)))), .second, .unset, .unset, .unset, .unset, .unset] [])
      refine own_step (fun _ k => XS.iload X19.here hx rfl (hb hby at_64) rfl k) ?_
      show own_Go p e below P T19 (mkF m 66 #[.val (.int p0), .val (.int p1), .val (.int p2), .val (.int p3), .val (.int p4), .val (.int p5), .val (.int kk), .val (.ref af), .val (.double (FP.i2d ((p5 &&& (65535 : Int32)) + (1 : Int32)))), .second, .unset, .unset, .unset, .unset, .unset] [(.int p5)])
      refine own_step (fun _ k => XS.bipush X19.here hx rfl (hb hby at_66) k) ?_
      show own_Go p e below P T19 (mkF m 68 #[.val (.int p0), .val (.int p1), .val (.int p2), .val (.int p3), .val (.int p4), .val (.int p5), .val (.int kk), .val (.ref af), .val (.double (FP.i2d ((p5 &&& (65535 : Int32)) + (1 : Int32)))), .second, .unset, .unset, .unset, .unset, .unset] [(.int (16 : Int32)), (.int p5)])
      refine own_step (fun _ k => XS.iushr X19.here hx rfl (hb hby at_68) rfl k) ?_
      show own_Go p e below P T19 (mkF m 69 #[.val (.int p0), .val (.int p1), .val (.int p2), .val (.int p3), .val (.int p4), .val (.int p5), .val (.int kk), .val (.ref af), .val (.double (FP.i2d ((p5 &&& (65535 : Int32)) + (1 : Int32)))), .second, .unset, .unset, .unset, .unset, .unset] [(.int ((p5.toUInt32 >>> ((16 : Int32) &&& 31).toUInt32).toInt32))])
      refine own_step (fun t k => X19.ldcInt hx hown (mvT hZ (hw _ (List.mem_of_getElem? (i := 15) rfl))) (g := (mkF m 69 #[.val (.int p0), .val (.int p1), .val (.int p2), .val (.int p3), .val (.int p4), .val (.int p5), .val (.int kk), .val (.ref af), .val (.double (FP.i2d ((p5 &&& (65535 : Int32)) + (1 : Int32)))), .second, .unset, .unset, .unset, .unset, .unset] [(.int ((p5.toUInt32 >>> ((16 : Int32) &&& 31).toUInt32).toInt32))])) rfl (hb hby at_69) t k) ?_
      show own_Go p e below P T19 (mkF m 71 #[.val (.int p0), .val (.int p1), .val (.int p2), .val (.int p3), .val (.int p4), .val (.int p5), .val (.int kk), .val (.ref af), .val (.double (FP.i2d ((p5 &&& (65535 : Int32)) + (1 : Int32)))), .second, .unset, .unset, .unset, .unset, .unset] [(.int (65535 : Int32)), (.int ((p5.toUInt32 >>> ((16 : Int32) &&& 31).toUInt32).toInt32))])
      refine own_step (fun _ k => XS.iand X19.here hx rfl (hb hby at_71) rfl k) ?_
      show own_Go p e below P T19 (mkF m 72 #[.val (.int p0), .val (.int p1), .val (.int p2), .val (.int p3), .val (.int p4), .val (.int p5), .val (.int kk), .val (.ref af), .val (.double (FP.i2d ((p5 &&& (65535 : Int32)) + (1 : Int32)))), .second, .unset, .unset, .unset, .unset, .unset] [(.int (((p5.toUInt32 >>> ((16 : Int32) &&& 31).toUInt32).toInt32) &&& (65535 : Int32)))])
      refine own_step (fun _ k => XS.iconst X19.here hx rfl (hb hby at_72) k) ?_
      show own_Go p e below P T19 (mkF m 73 #[.val (.int p0), .val (.int p1), .val (.int p2), .val (.int p3), .val (.int p4), .val (.int p5), .val (.int kk), .val (.ref af), .val (.double (FP.i2d ((p5 &&& (65535 : Int32)) + (1 : Int32)))), .second, .unset, .unset, .unset, .unset, .unset] [(.int (1 : Int32)), (.int (((p5.toUInt32 >>> ((16 : Int32) &&& 31).toUInt32).toInt32) &&& (65535 : Int32)))])
      refine own_step (fun _ k => XS.iadd X19.here hx rfl (hb hby at_73) rfl k) ?_
      show own_Go p e below P T19 (mkF m 74 #[.val (.int p0), .val (.int p1), .val (.int p2), .val (.int p3), .val (.int p4), .val (.int p5), .val (.int kk), .val (.ref af), .val (.double (FP.i2d ((p5 &&& (65535 : Int32)) + (1 : Int32)))), .second, .unset, .unset, .unset, .unset, .unset] [(.int ((((p5.toUInt32 >>> ((16 : Int32) &&& 31).toUInt32).toInt32) &&& (65535 : Int32)) + (1 : Int32)))])
      refine own_step (fun _ k => XS.i2dS X19.here hx rfl (hb hby at_74) rfl rfl k) ?_
      show own_Go p e below P T19 (mkF m 75 #[.val (.int p0), .val (.int p1), .val (.int p2), .val (.int p3), .val (.int p4), .val (.int p5), .val (.int kk), .val (.ref af), .val (.double (FP.i2d ((p5 &&& (65535 : Int32)) + (1 : Int32)))), .second, .unset, .unset, .unset, .unset, .unset] [(.double (FP.i2d ((((p5.toUInt32 >>> ((16 : Int32) &&& 31).toUInt32).toInt32) &&& (65535 : Int32)) + (1 : Int32))))])
      refine own_step (fun _ k => XS.dstore X19.here hx rfl (hb hby at_75) rfl (l' := #[.val (.int p0), .val (.int p1), .val (.int p2), .val (.int p3), .val (.int p4), .val (.int p5), .val (.int kk), .val (.ref af), .val (.double (FP.i2d ((p5 &&& (65535 : Int32)) + (1 : Int32)))), .second, .val (.double (FP.i2d ((((p5.toUInt32 >>> ((16 : Int32) &&& 31).toUInt32).toInt32) &&& (65535 : Int32)) + (1 : Int32)))), .second, .unset, .unset, .unset]) rfl k) ?_
      show own_Go p e below P T19 (mkF m 77 #[.val (.int p0), .val (.int p1), .val (.int p2), .val (.int p3), .val (.int p4), .val (.int p5), .val (.int kk), .val (.ref af), .val (.double (FP.i2d ((p5 &&& (65535 : Int32)) + (1 : Int32)))), .second, .val (.double (FP.i2d ((((p5.toUInt32 >>> ((16 : Int32) &&& 31).toUInt32).toInt32) &&& (65535 : Int32)) + (1 : Int32)))), .second, .unset, .unset, .unset] [])
      obtain ⟨T20, h20, X20, e20, E20, A20, D20, -, st20⟩ := newO X19 hx hZ hown (hw _ (List.mem_of_getElem? (i := 4) rfl)) (hw _ (List.mem_of_getElem? (i := 5) rfl)) (hw _ (List.mem_of_getElem? (i := 6) rfl)) e19 (g := (mkF m 77 #[.val (.int p0), .val (.int p1), .val (.int p2), .val (.int p3), .val (.int p4), .val (.int p5), .val (.int kk), .val (.ref af), .val (.double (FP.i2d ((p5 &&& (65535 : Int32)) + (1 : Int32)))), .second, .val (.double (FP.i2d ((((p5.toUInt32 >>> ((16 : Int32) &&& 31).toUInt32).toInt32) &&& (65535 : Int32)) + (1 : Int32)))), .second, .unset, .unset, .unset] [])) rfl (hb hby at_77) (by decide) (by decide)
      obtain ⟨b20, g20⟩ : ∃ z, z = h0.size := ⟨_, rfl⟩
      rw [← g20] at A20 D20 st20
      have g_b20 : n0 ≤ b20 := Nat.le_trans Z0 (Nat.le_of_eq g20.symm)
      have sz_b20 : h0.size ≤ b20 := Nat.le_trans (Keep.refl h0 []).1 (Nat.le_of_eq g20.symm)
      have E_b20 := A20
      have F_name_b20 : Fld Z h20 b20 "com/example/brinequil/brinequil/model/Component" "name" "Ljava/lang/String;" .null := D20 (Or.inr (hw _ (List.mem_of_getElem? (i := 92) rfl))) (ty := (.object "java/lang/String")) (by decide)
      have F_criticalTemperature_b20 : Fld Z h20 b20 "com/example/brinequil/brinequil/model/Component" "criticalTemperature" "D" (.double (0 : UInt64)) := D20 (Or.inr (hw _ (List.mem_of_getElem? (i := 94) rfl))) (ty := .double) (by decide)
      have F_a0_b20 : Fld Z h20 b20 "com/example/brinequil/brinequil/model/Component" "a0" "D" (.double (0 : UInt64)) := D20 (Or.inr (hw _ (List.mem_of_getElem? (i := 96) rfl))) (ty := .double) (by decide)
      have F_b_b20 : Fld Z h20 b20 "com/example/brinequil/brinequil/model/Component" "b" "D" (.double (0 : UInt64)) := D20 (Or.inr (hw _ (List.mem_of_getElem? (i := 98) rfl))) (ty := .double) (by decide)
      have F_c1_b20 : Fld Z h20 b20 "com/example/brinequil/brinequil/model/Component" "c1" "D" (.double (0 : UInt64)) := D20 (Or.inr (hw _ (List.mem_of_getElem? (i := 100) rfl))) (ty := .double) (by decide)
      have F_associationEnergy_b20 : Fld Z h20 b20 "com/example/brinequil/brinequil/model/Component" "associationEnergy" "D" (.double (0 : UInt64)) := D20 (Or.inr (hw _ (List.mem_of_getElem? (i := 102) rfl))) (ty := .double) (by decide)
      have F_associationVolume_b20 : Fld Z h20 b20 "com/example/brinequil/brinequil/model/Component" "associationVolume" "D" (.double (0 : UInt64)) := D20 (Or.inr (hw _ (List.mem_of_getElem? (i := 104) rfl))) (ty := .double) (by decide)
      have F_scheme_b20 : Fld Z h20 b20 "com/example/brinequil/brinequil/model/Component" "scheme" "Lcom/example/brinequil/brinequil/model/AssociationScheme;" .null := D20 (Or.inr (hw _ (List.mem_of_getElem? (i := 106) rfl))) (ty := (.object "com/example/brinequil/brinequil/model/AssociationScheme")) (by decide)
      refine own_step st20 ?_
      show own_Go p e below P T20 (mkF m 80 #[.val (.int p0), .val (.int p1), .val (.int p2), .val (.int p3), .val (.int p4), .val (.int p5), .val (.int kk), .val (.ref af), .val (.double (FP.i2d ((p5 &&& (65535 : Int32)) + (1 : Int32)))), .second, .val (.double (FP.i2d ((((p5.toUInt32 >>> ((16 : Int32) &&& 31).toUInt32).toInt32) &&& (65535 : Int32)) + (1 : Int32)))), .second, .unset, .unset, .unset] [(.ref b20)])
      refine own_step (fun _ k => XS.dup X20.here hx rfl (hb hby at_80) rfl rfl k) ?_
      show own_Go p e below P T20 (mkF m 81 #[.val (.int p0), .val (.int p1), .val (.int p2), .val (.int p3), .val (.int p4), .val (.int p5), .val (.int kk), .val (.ref af), .val (.double (FP.i2d ((p5 &&& (65535 : Int32)) + (1 : Int32)))), .second, .val (.double (FP.i2d ((((p5.toUInt32 >>> ((16 : Int32) &&& 31).toUInt32).toInt32) &&& (65535 : Int32)) + (1 : Int32)))), .second, .unset, .unset, .unset] [(.ref b20), (.ref b20)])
      obtain ⟨b21, T21, h21, kk21, b21v, kc21, X21, e21, E21, hS21, hk21, hZ21, hown21, Es21, Fc21, Fv21, V21, lt21, ltv21, I21, st21⟩ := ldcSV X20 hx hZ hown (hw _ (List.mem_of_getElem? (i := 7) rfl)) (own_wS hw) e20 hS0 (Nat.le_trans hk0 E20.1) (Fr.nil _) (fun b cl q => hZU ▸ q) (by rw [hZU]; exact IB.start) List.not_mem_nil hheld hcw (vs := [(.int (119 : Int32))]) (z := (1 : Int32)) ⟨by decide, by decide +kernel⟩ (by decide) (by decide) (g := (mkF m 81 #[.val (.int p0), .val (.int p1), .val (.int p2), .val (.int p3), .val (.int p4), .val (.int p5), .val (.int kk), .val (.ref af), .val (.double (FP.i2d ((p5 &&& (65535 : Int32)) + (1 : Int32)))), .second, .val (.double (FP.i2d ((((p5.toUInt32 >>> ((16 : Int32) &&& 31).toUInt32).toInt32) &&& (65535 : Int32)) + (1 : Int32)))), .second, .unset, .unset, .unset] [(.ref b20), (.ref b20)])) rfl (hb hby at_81) (n := 4) (by decide) (by decide) (by decide) (by decide)
      refine own_step st21 ?_
      show own_Go p e below P T21 (mkF m 83 #[.val (.int p0), .val (.int p1), .val (.int p2), .val (.int p3), .val (.int p4), .val (.int p5), .val (.int kk), .val (.ref af), .val (.double (FP.i2d ((p5 &&& (65535 : Int32)) + (1 : Int32)))), .second, .val (.double (FP.i2d ((((p5.toUInt32 >>> ((16 : Int32) &&& 31).toUInt32).toInt32) &&& (65535 : Int32)) + (1 : Int32)))), .second, .unset, .unset, .unset] [(.ref b21), (.ref b20), (.ref b20)])
      refine own_step (fun _ k => XS.iloadN X21.here hx rfl (hb hby at_83) rfl k) ?_
      show own_Go p e below P T21 (mkF m 84 #[.val (.int p0), .val (.int p1), .val (.int p2), .val (.int p3), .val (.int p4), .val (.int p5), .val (.int kk), .val (.ref af), .val (.double (FP.i2d ((p5 &&& (65535 : Int32)) + (1 : Int32)))), .second, .val (.double (FP.i2d ((((p5.toUInt32 >>> ((16 : Int32) &&& 31).toUInt32).toInt32) &&& (65535 : Int32)) + (1 : Int32)))), .second, .unset, .unset, .unset] [(.int p1), (.ref b21), (.ref b20), (.ref b20)])
      refine own_step (fun t k => X21.ldcInt hx hown21 (mvT hZ21 (hw _ (List.mem_of_getElem? (i := 15) rfl))) (g := (mkF m 84 #[.val (.int p0), .val (.int p1), .val (.int p2), .val (.int p3), .val (.int p4), .val (.int p5), .val (.int kk), .val (.ref af), .val (.double (FP.i2d ((p5 &&& (65535 : Int32)) + (1 : Int32)))), .second, .val (.double (FP.i2d ((((p5.toUInt32 >>> ((16 : Int32) &&& 31).toUInt32).toInt32) &&& (65535 : Int32)) + (1 : Int32)))), .second, .unset, .unset, .unset] [(.int p1), (.ref b21), (.ref b20), (.ref b20)])) rfl (hb hby at_84) t k) ?_
      show own_Go p e below P T21 (mkF m 86 #[.val (.int p0), .val (.int p1), .val (.int p2), .val (.int p3), .val (.int p4), .val (.int p5), .val (.int kk), .val (.ref af), .val (.double (FP.i2d ((p5 &&& (65535 : Int32)) + (1 : Int32)))), .second, .val (.double (FP.i2d ((((p5.toUInt32 >>> ((16 : Int32) &&& 31).toUInt32).toInt32) &&& (65535 : Int32)) + (1 : Int32)))), .second, .unset, .unset, .unset] [(.int (65535 : Int32)), (.int p1), (.ref b21), (.ref b20), (.ref b20)])
      refine own_step (fun _ k => XS.iand X21.here hx rfl (hb hby at_86) rfl k) ?_
      show own_Go p e below P T21 (mkF m 87 #[.val (.int p0), .val (.int p1), .val (.int p2), .val (.int p3), .val (.int p4), .val (.int p5), .val (.int kk), .val (.ref af), .val (.double (FP.i2d ((p5 &&& (65535 : Int32)) + (1 : Int32)))), .second, .val (.double (FP.i2d ((((p5.toUInt32 >>> ((16 : Int32) &&& 31).toUInt32).toInt32) &&& (65535 : Int32)) + (1 : Int32)))), .second, .unset, .unset, .unset] [(.int (p1 &&& (65535 : Int32))), (.ref b21), (.ref b20), (.ref b20)])
      refine own_step (fun _ k => XS.iconst X21.here hx rfl (hb hby at_87) k) ?_
      show own_Go p e below P T21 (mkF m 88 #[.val (.int p0), .val (.int p1), .val (.int p2), .val (.int p3), .val (.int p4), .val (.int p5), .val (.int kk), .val (.ref af), .val (.double (FP.i2d ((p5 &&& (65535 : Int32)) + (1 : Int32)))), .second, .val (.double (FP.i2d ((((p5.toUInt32 >>> ((16 : Int32) &&& 31).toUInt32).toInt32) &&& (65535 : Int32)) + (1 : Int32)))), .second, .unset, .unset, .unset] [(.int (1 : Int32)), (.int (p1 &&& (65535 : Int32))), (.ref b21), (.ref b20), (.ref b20)])
      refine own_step (fun _ k => XS.iadd X21.here hx rfl (hb hby at_88) rfl k) ?_
      show own_Go p e below P T21 (mkF m 89 #[.val (.int p0), .val (.int p1), .val (.int p2), .val (.int p3), .val (.int p4), .val (.int p5), .val (.int kk), .val (.ref af), .val (.double (FP.i2d ((p5 &&& (65535 : Int32)) + (1 : Int32)))), .second, .val (.double (FP.i2d ((((p5.toUInt32 >>> ((16 : Int32) &&& 31).toUInt32).toInt32) &&& (65535 : Int32)) + (1 : Int32)))), .second, .unset, .unset, .unset] [(.int ((p1 &&& (65535 : Int32)) + (1 : Int32))), (.ref b21), (.ref b20), (.ref b20)])
      refine own_step (fun _ k => XS.i2dS X21.here hx rfl (hb hby at_89) rfl rfl k) ?_
      show own_Go p e below P T21 (mkF m 90 #[.val (.int p0), .val (.int p1), .val (.int p2), .val (.int p3), .val (.int p4), .val (.int p5), .val (.int kk), .val (.ref af), .val (.double (FP.i2d ((p5 &&& (65535 : Int32)) + (1 : Int32)))), .second, .val (.double (FP.i2d ((((p5.toUInt32 >>> ((16 : Int32) &&& 31).toUInt32).toInt32) &&& (65535 : Int32)) + (1 : Int32)))), .second, .unset, .unset, .unset] [(.double (FP.i2d ((p1 &&& (65535 : Int32)) + (1 : Int32)))), (.ref b21), (.ref b20), (.ref b20)])
      refine own_step (fun _ k => XS.iloadN X21.here hx rfl (hb hby at_90) rfl k) ?_
      show own_Go p e below P T21 (mkF m 91 #[.val (.int p0), .val (.int p1), .val (.int p2), .val (.int p3), .val (.int p4), .val (.int p5), .val (.int kk), .val (.ref af), .val (.double (FP.i2d ((p5 &&& (65535 : Int32)) + (1 : Int32)))), .second, .val (.double (FP.i2d ((((p5.toUInt32 >>> ((16 : Int32) &&& 31).toUInt32).toInt32) &&& (65535 : Int32)) + (1 : Int32)))), .second, .unset, .unset, .unset] [(.int p2), (.double (FP.i2d ((p1 &&& (65535 : Int32)) + (1 : Int32)))), (.ref b21), (.ref b20), (.ref b20)])
      refine own_step (fun t k => X21.ldcInt hx hown21 (mvT hZ21 (hw _ (List.mem_of_getElem? (i := 15) rfl))) (g := (mkF m 91 #[.val (.int p0), .val (.int p1), .val (.int p2), .val (.int p3), .val (.int p4), .val (.int p5), .val (.int kk), .val (.ref af), .val (.double (FP.i2d ((p5 &&& (65535 : Int32)) + (1 : Int32)))), .second, .val (.double (FP.i2d ((((p5.toUInt32 >>> ((16 : Int32) &&& 31).toUInt32).toInt32) &&& (65535 : Int32)) + (1 : Int32)))), .second, .unset, .unset, .unset] [(.int p2), (.double (FP.i2d ((p1 &&& (65535 : Int32)) + (1 : Int32)))), (.ref b21), (.ref b20), (.ref b20)])) rfl (hb hby at_91) t k) ?_
      show own_Go p e below P T21 (mkF m 93 #[.val (.int p0), .val (.int p1), .val (.int p2), .val (.int p3), .val (.int p4), .val (.int p5), .val (.int kk), .val (.ref af), .val (.double (FP.i2d ((p5 &&& (65535 : Int32)) + (1 : Int32)))), .second, .val (.double (FP.i2d ((((p5.toUInt32 >>> ((16 : Int32) &&& 31).toUInt32).toInt32) &&& (65535 : Int32)) + (1 : Int32)))), .second, .unset, .unset, .unset] [(.int (65535 : Int32)), (.int p2), (.double (FP.i2d ((p1 &&& (65535 : Int32)) + (1 : Int32)))), (.ref b21), (.ref b20), (.ref b20)])
      refine own_step (fun _ k => XS.iand X21.here hx rfl (hb hby at_93) rfl k) ?_
      show own_Go p e below P T21 (mkF m 94 #[.val (.int p0), .val (.int p1), .val (.int p2), .val (.int p3), .val (.int p4), .val (.int p5), .val (.int kk), .val (.ref af), .val (.double (FP.i2d ((p5 &&& (65535 : Int32)) + (1 : Int32)))), .second, .val (.double (FP.i2d ((((p5.toUInt32 >>> ((16 : Int32) &&& 31).toUInt32).toInt32) &&& (65535 : Int32)) + (1 : Int32)))), .second, .unset, .unset, .unset] [(.int (p2 &&& (65535 : Int32))), (.double (FP.i2d ((p1 &&& (65535 : Int32)) + (1 : Int32)))), (.ref b21), (.ref b20), (.ref b20)])
      refine own_step (fun _ k => XS.iconst X21.here hx rfl (hb hby at_94) k) ?_
      show own_Go p e below P T21 (mkF m 95 #[.val (.int p0), .val (.int p1), .val (.int p2), .val (.int p3), .val (.int p4), .val (.int p5), .val (.int kk), .val (.ref af), .val (.double (FP.i2d ((p5 &&& (65535 : Int32)) + (1 : Int32)))), .second, .val (.double (FP.i2d ((((p5.toUInt32 >>> ((16 : Int32) &&& 31).toUInt32).toInt32) &&& (65535 : Int32)) + (1 : Int32)))), .second, .unset, .unset, .unset] [(.int (1 : Int32)), (.int (p2 &&& (65535 : Int32))), (.double (FP.i2d ((p1 &&& (65535 : Int32)) + (1 : Int32)))), (.ref b21), (.ref b20), (.ref b20)])
      refine own_step (fun _ k => XS.iadd X21.here hx rfl (hb hby at_95) rfl k) ?_
      show own_Go p e below P T21 (mkF m 96 #[.val (.int p0), .val (.int p1), .val (.int p2), .val (.int p3), .val (.int p4), .val (.int p5), .val (.int kk), .val (.ref af), .val (.double (FP.i2d ((p5 &&& (65535 : Int32)) + (1 : Int32)))), .second, .val (.double (FP.i2d ((((p5.toUInt32 >>> ((16 : Int32) &&& 31).toUInt32).toInt32) &&& (65535 : Int32)) + (1 : Int32)))), .second, .unset, .unset, .unset] [(.int ((p2 &&& (65535 : Int32)) + (1 : Int32))), (.double (FP.i2d ((p1 &&& (65535 : Int32)) + (1 : Int32)))), (.ref b21), (.ref b20), (.ref b20)])
      refine own_step (fun _ k => XS.i2dS X21.here hx rfl (hb hby at_96) rfl rfl k) ?_
      show own_Go p e below P T21 (mkF m 97 #[.val (.int p0), .val (.int p1), .val (.int p2), .val (.int p3), .val (.int p4), .val (.int p5), .val (.int kk), .val (.ref af), .val (.double (FP.i2d ((p5 &&& (65535 : Int32)) + (1 : Int32)))), .second, .val (.double (FP.i2d ((((p5.toUInt32 >>> ((16 : Int32) &&& 31).toUInt32).toInt32) &&& (65535 : Int32)) + (1 : Int32)))), .second, .unset, .unset, .unset] [(.double (FP.i2d ((p2 &&& (65535 : Int32)) + (1 : Int32)))), (.double (FP.i2d ((p1 &&& (65535 : Int32)) + (1 : Int32)))), (.ref b21), (.ref b20), (.ref b20)])
      refine own_step (fun _ k => XS.iloadN X21.here hx rfl (hb hby at_97) rfl k) ?_
      show own_Go p e below P T21 (mkF m 98 #[.val (.int p0), .val (.int p1), .val (.int p2), .val (.int p3), .val (.int p4), .val (.int p5), .val (.int kk), .val (.ref af), .val (.double (FP.i2d ((p5 &&& (65535 : Int32)) + (1 : Int32)))), .second, .val (.double (FP.i2d ((((p5.toUInt32 >>> ((16 : Int32) &&& 31).toUInt32).toInt32) &&& (65535 : Int32)) + (1 : Int32)))), .second, .unset, .unset, .unset] [(.int p3), (.double (FP.i2d ((p2 &&& (65535 : Int32)) + (1 : Int32)))), (.double (FP.i2d ((p1 &&& (65535 : Int32)) + (1 : Int32)))), (.ref b21), (.ref b20), (.ref b20)])
      refine own_step (fun t k => X21.ldcInt hx hown21 (mvT hZ21 (hw _ (List.mem_of_getElem? (i := 15) rfl))) (g := (mkF m 98 #[.val (.int p0), .val (.int p1), .val (.int p2), .val (.int p3), .val (.int p4), .val (.int p5), .val (.int kk), .val (.ref af), .val (.double (FP.i2d ((p5 &&& (65535 : Int32)) + (1 : Int32)))), .second, .val (.double (FP.i2d ((((p5.toUInt32 >>> ((16 : Int32) &&& 31).toUInt32).toInt32) &&& (65535 : Int32)) + (1 : Int32)))), .second, .unset, .unset, .unset] [(.int p3), (.double (FP.i2d ((p2 &&& (65535 : Int32)) + (1 : Int32)))), (.double (FP.i2d ((p1 &&& (65535 : Int32)) + (1 : Int32)))), (.ref b21), (.ref b20), (.ref b20)])) rfl (hb hby at_98) t k) ?_
      show own_Go p e below P T21 (mkF m 100 #[.val (.int p0), .val (.int p1), .val (.int p2), .val (.int p3), .val (.int p4), .val (.int p5), .val (.int kk), .val (.ref af), .val (.double (FP.i2d ((p5 &&& (65535 : Int32)) + (1 : Int32)))), .second, .val (.double (FP.i2d ((((p5.toUInt32 >>> ((16 : Int32) &&& 31).toUInt32).toInt32) &&& (65535 : Int32)) + (1 : Int32)))), .second, .unset, .unset, .unset] [(.int (65535 : Int32)), (.int p3), (.double (FP.i2d ((p2 &&& (65535 : Int32)) + (1 : Int32)))), (.double (FP.i2d ((p1 &&& (65535 : Int32)) + (1 : Int32)))), (.ref b21), (.ref b20), (.ref b20)])
      refine own_step (fun _ k => XS.iand X21.here hx rfl (hb hby at_100) rfl k) ?_
      show own_Go p e below P T21 (mkF m 101 #[.val (.int p0), .val (.int p1), .val (.int p2), .val (.int p3), .val (.int p4), .val (.int p5), .val (.int kk), .val (.ref af), .val (.double (FP.i2d ((p5 &&& (65535 : Int32)) + (1 : Int32)))), .second, .val (.double (FP.i2d ((((p5.toUInt32 >>> ((16 : Int32) &&& 31).toUInt32).toInt32) &&& (65535 : Int32)) + (1 : Int32)))), .second, .unset, .unset, .unset] [(.int (p3 &&& (65535 : Int32))), (.double (FP.i2d ((p2 &&& (65535 : Int32)) + (1 : Int32)))), (.double (FP.i2d ((p1 &&& (65535 : Int32)) + (1 : Int32)))), (.ref b21), (.ref b20), (.ref b20)])
      refine own_step (fun _ k => XS.iconst X21.here hx rfl (hb hby at_101) k) ?_
      show own_Go p e below P T21 (mkF m 102 #[.val (.int p0), .val (.int p1), .val (.int p2), .val (.int p3), .val (.int p4), .val (.int p5), .val (.int kk), .val (.ref af), .val (.double (FP.i2d ((p5 &&& (65535 : Int32)) + (1 : Int32)))), .second, .val (.double (FP.i2d ((((p5.toUInt32 >>> ((16 : Int32) &&& 31).toUInt32).toInt32) &&& (65535 : Int32)) + (1 : Int32)))), .second, .unset, .unset, .unset] [(.int (1 : Int32)), (.int (p3 &&& (65535 : Int32))), (.double (FP.i2d ((p2 &&& (65535 : Int32)) + (1 : Int32)))), (.double (FP.i2d ((p1 &&& (65535 : Int32)) + (1 : Int32)))), (.ref b21), (.ref b20), (.ref b20)])
      refine own_step (fun _ k => XS.iadd X21.here hx rfl (hb hby at_102) rfl k) ?_
      show own_Go p e below P T21 (mkF m 103 #[.val (.int p0), .val (.int p1), .val (.int p2), .val (.int p3), .val (.int p4), .val (.int p5), .val (.int kk), .val (.ref af), .val (.double (FP.i2d ((p5 &&& (65535 : Int32)) + (1 : Int32)))), .second, .val (.double (FP.i2d ((((p5.toUInt32 >>> ((16 : Int32) &&& 31).toUInt32).toInt32) &&& (65535 : Int32)) + (1 : Int32)))), .second, .unset, .unset, .unset] [(.int ((p3 &&& (65535 : Int32)) + (1 : Int32))), (.double (FP.i2d ((p2 &&& (65535 : Int32)) + (1 : Int32)))), (.double (FP.i2d ((p1 &&& (65535 : Int32)) + (1 : Int32)))), (.ref b21), (.ref b20), (.ref b20)])
      refine own_step (fun _ k => XS.i2dS X21.here hx rfl (hb hby at_103) rfl rfl k) ?_
      show own_Go p e below P T21 (mkF m 104 #[.val (.int p0), .val (.int p1), .val (.int p2), .val (.int p3), .val (.int p4), .val (.int p5), .val (.int kk), .val (.ref af), .val (.double (FP.i2d ((p5 &&& (65535 : Int32)) + (1 : Int32)))), .second, .val (.double (FP.i2d ((((p5.toUInt32 >>> ((16 : Int32) &&& 31).toUInt32).toInt32) &&& (65535 : Int32)) + (1 : Int32)))), .second, .unset, .unset, .unset] [(.double (FP.i2d ((p3 &&& (65535 : Int32)) + (1 : Int32)))), (.double (FP.i2d ((p2 &&& (65535 : Int32)) + (1 : Int32)))), (.double (FP.i2d ((p1 &&& (65535 : Int32)) + (1 : Int32)))), (.ref b21), (.ref b20), (.ref b20)])
      refine own_step (fun _ k => XS.iload X21.here hx rfl (hb hby at_104) rfl k) ?_
      show own_Go p e below P T21 (mkF m 106 #[.val (.int p0), .val (.int p1), .val (.int p2), .val (.int p3), .val (.int p4), .val (.int p5), .val (.int kk), .val (.ref af), .val (.double (FP.i2d ((p5 &&& (65535 : Int32)) + (1 : Int32)))), .second, .val (.double (FP.i2d ((((p5.toUInt32 >>> ((16 : Int32) &&& 31).toUInt32).toInt32) &&& (65535 : Int32)) + (1 : Int32)))), .second, .unset, .unset, .unset] [(.int p4), (.double (FP.i2d ((p3 &&& (65535 : Int32)) + (1 : Int32)))), (.double (FP.i2d ((p2 &&& (65535 : Int32)) + (1 : Int32)))), (.double (FP.i2d ((p1 &&& (65535 : Int32)) + (1 : Int32)))), (.ref b21), (.ref b20), (.ref b20)])
      refine own_step (fun _ k => XS.i2dS X21.here hx rfl (hb hby at_106) rfl rfl k) ?_
      show own_Go p e below P T21 (mkF m 107 #[.val (.int p0), .val (.int p1), .val (.int p2), .val (.int p3), .val (.int p4), .val (.int p5), .val (.int kk), .val (.ref af), .val (.double (FP.i2d ((p5 &&& (65535 : Int32)) + (1 : Int32)))), .second, .val (.double (FP.i2d ((((p5.toUInt32 >>> ((16 : Int32) &&& 31).toUInt32).toInt32) &&& (65535 : Int32)) + (1 : Int32)))), .second, .unset, .unset, .unset] [(.double (FP.i2d p4)), (.double (FP.i2d ((p3 &&& (65535 : Int32)) + (1 : Int32)))), (.double (FP.i2d ((p2 &&& (65535 : Int32)) + (1 : Int32)))), (.double (FP.i2d ((p1 &&& (65535 : Int32)) + (1 : Int32)))), (.ref b21), (.ref b20), (.ref b20)])
      refine own_step (fun _ k => XS.dload X21.here hx rfl (hb hby at_107) rfl k) ?_
      show own_Go p e below P T21 (mkF m 109 #[.val (.int p0), .val (.int p1), .val (.int p2), .val (.int p3), .val (.int p4), .val (.int p5), .val (.int kk), .val (.ref af), .val (.double (FP.i2d ((p5 &&& (65535 : Int32)) + (1 : Int32)))), .second, .val (.double (FP.i2d ((((p5.toUInt32 >>> ((16 : Int32) &&& 31).toUInt32).toInt32) &&& (65535 : Int32)) + (1 : Int32)))), .second, .unset, .unset, .unset] [(.double (FP.i2d ((p5 &&& (65535 : Int32)) + (1 : Int32)))), (.double (FP.i2d p4)), (.double (FP.i2d ((p3 &&& (65535 : Int32)) + (1 : Int32)))), (.double (FP.i2d ((p2 &&& (65535 : Int32)) + (1 : Int32)))), (.double (FP.i2d ((p1 &&& (65535 : Int32)) + (1 : Int32)))), (.ref b21), (.ref b20), (.ref b20)])
      refine own_step (fun _ k => XS.dload X21.here hx rfl (hb hby at_109) rfl k) ?_
      show own_Go p e below P T21 (mkF m 111 #[.val (.int p0), .val (.int p1), .val (.int p2), .val (.int p3), .val (.int p4), .val (.int p5), .val (.int kk), .val (.ref af), .val (.double (FP.i2d ((p5 &&& (65535 : Int32)) + (1 : Int32)))), .second, .val (.double (FP.i2d ((((p5.toUInt32 >>> ((16 : Int32) &&& 31).toUInt32).toInt32) &&& (65535 : Int32)) + (1 : Int32)))), .second, .unset, .unset, .unset] [(.double (FP.i2d ((((p5.toUInt32 >>> ((16 : Int32) &&& 31).toUInt32).toInt32) &&& (65535 : Int32)) + (1 : Int32)))), (.double (FP.i2d ((p5 &&& (65535 : Int32)) + (1 : Int32)))), (.double (FP.i2d p4)), (.double (FP.i2d ((p3 &&& (65535 : Int32)) + (1 : Int32)))), (.double (FP.i2d ((p2 &&& (65535 : Int32)) + (1 : Int32)))), (.double (FP.i2d ((p1 &&& (65535 : Int32)) + (1 : Int32)))), (.ref b21), (.ref b20), (.ref b20)])
      refine own_step (fun _ k => XS.aload X21.here hx rfl (hb hby at_111) rfl rfl k) ?_
      show own_Go p e below P T21 (mkF m 113 #[.val (.int p0), .val (.int p1), .val (.int p2), .val (.int p3), .val (.int p4), .val (.int p5), .val (.int kk), .val (.ref af), .val (.double (FP.i2d ((p5 &&& (65535 : Int32)) + (1 : Int32)))), .second, .val (.double (FP.i2d ((((p5.toUInt32 >>> ((16 : Int32) &&& 31).toUInt32).toInt32) &&& (65535 : Int32)) + (1 : Int32)))), .second, .unset, .unset, .unset] [(.ref af), (.double (FP.i2d ((((p5.toUInt32 >>> ((16 : Int32) &&& 31).toUInt32).toInt32) &&& (65535 : Int32)) + (1 : Int32)))), (.double (FP.i2d ((p5 &&& (65535 : Int32)) + (1 : Int32)))), (.double (FP.i2d p4)), (.double (FP.i2d ((p3 &&& (65535 : Int32)) + (1 : Int32)))), (.double (FP.i2d ((p2 &&& (65535 : Int32)) + (1 : Int32)))), (.double (FP.i2d ((p1 &&& (65535 : Int32)) + (1 : Int32)))), (.ref b21), (.ref b20), (.ref b20)])
      obtain ⟨_, _, ⟨T22, L22, k22, n22⟩, -, X22r, hSr22, hgr22, ⟨Lc22, hQ22, l22, y22, z22⟩, st22⟩ := X21.specialBackS hx (y := (⟨"com/example/brinequil/brinequil/model/Component", "<init>", "(Ljava/lang/String;DDDDDDLcom/example/brinequil/brinequil/model/AssociationScheme;)V"⟩ : MethodName)) rfl hown21 (mvT hZ21 (hw _ (List.mem_of_getElem? (i := 16) rfl))) (mvT hZ21 (hw _ (List.mem_of_getElem? (i := 17) rfl))) (mvT hZ21 (hw _ (List.mem_of_getElem? (i := 18) rfl))) (by decide) (backOfS (W := 1) (rm1P l Z a0 hw [] b20 (FP.i2d ((p1 &&& (65535 : Int32)) + (1 : Int32))) (FP.i2d ((p2 &&& (65535 : Int32)) + (1 : Int32))) (FP.i2d ((p3 &&& (65535 : Int32)) + (1 : Int32))) (FP.i2d p4) (FP.i2d ((p5 &&& (65535 : Int32)) + (1 : Int32))) (FP.i2d ((((p5.toUInt32 >>> ((16 : Int32) &&& 31).toUInt32).toInt32) &&& (65535 : Int32)) + (1 : Int32))) b21 b21v kc21 (119 : Int32) cc ci ta tc pv an af h21 n0 (Nat.le_trans (Nat.le_trans Z0 E20.1) E21.1) Fc21 Fv21 Es21 V21 ((S_cs.ext E20).ext E21) hcc ((S_ci.ext E20).ext E21) ((E_ci.ext E20).ext E21) ((S_ta.ext E20).ext E21) ((A_ta.ext E20).ext E21) hti htv hpw own_ch119 (E_b20.ext E21) (F_name_b20.ext E21) (F_criticalTemperature_b20.ext E21) (F_a0_b20.ext E21) (F_b_b20.ext E21) (F_c1_b20.ext E21) (F_associationEnergy_b20.ext E21) (F_associationVolume_b20.ext E21) (F_scheme_b20.ext E21) g_b20 ((S_NONE.ext E20).ext E21) (i2d_fin _) (i2d_fin _) (i2d_fin _) (i2d_fin _) (i2d_fin _) (i2d_fin _) (own_pos (own_m16 _)) (own_pos (own_m16 _)) (own_pos (own_m16 _)) (own_pos (own_m16 _)) (own_pos (own_m16 _)) hne2) hZ21 (hw _ (List.mem_of_getElem? (i := 18) rfl)) (hw _ (List.mem_of_getElem? (i := 6) rfl)) (by decide) (by decide)) (g := (mkF m 113 #[.val (.int p0), .val (.int p1), .val (.int p2), .val (.int p3), .val (.int p4), .val (.int p5), .val (.int kk), .val (.ref af), .val (.double (FP.i2d ((p5 &&& (65535 : Int32)) + (1 : Int32)))), .second, .val (.double (FP.i2d ((((p5.toUInt32 >>> ((16 : Int32) &&& 31).toUInt32).toInt32) &&& (65535 : Int32)) + (1 : Int32)))), .second, .unset, .unset, .unset] [(.ref af), (.double (FP.i2d ((((p5.toUInt32 >>> ((16 : Int32) &&& 31).toUInt32).toInt32) &&& (65535 : Int32)) + (1 : Int32)))), (.double (FP.i2d ((p5 &&& (65535 : Int32)) + (1 : Int32)))), (.double (FP.i2d p4)), (.double (FP.i2d ((p3 &&& (65535 : Int32)) + (1 : Int32)))), (.double (FP.i2d ((p2 &&& (65535 : Int32)) + (1 : Int32)))), (.double (FP.i2d ((p1 &&& (65535 : Int32)) + (1 : Int32)))), (.ref b21), (.ref b20), (.ref b20)])) rfl (by rw [hml]; rfl) (Steps.refl _) (a := b20) (argsL := [(.ref b21), (.double (FP.i2d ((p1 &&& (65535 : Int32)) + (1 : Int32)))), (.double (FP.i2d ((p2 &&& (65535 : Int32)) + (1 : Int32)))), (.double (FP.i2d ((p3 &&& (65535 : Int32)) + (1 : Int32)))), (.double (FP.i2d p4)), (.double (FP.i2d ((p5 &&& (65535 : Int32)) + (1 : Int32)))), (.double (FP.i2d ((((p5.toUInt32 >>> ((16 : Int32) &&& 31).toUInt32).toInt32) &&& (65535 : Int32)) + (1 : Int32)))), (.ref af)]) (rest := [(.ref b20)]) (lenOf pd__Ljava_lang_StringDDDDDDLcom_example_brinequil_brinequil_model_AssociationScheme__V rfl) rfl (by show 2 * 0 + _ ≤ _; exact Nat.le_of_eq rfl) (hb hby at_113) (fun _ _ => ⟨rfl, e21, (by decide : 3 + 10 ≤ _), (by decide : 16 + 84 ≤ _)⟩)
      dsimp only [Pt.U, Pt.locs, Pt.cells, Pt.slots] at X22r hSr22 hgr22 l22 y22 z22 st22 hQ22
      subst l22 y22 z22
      obtain ⟨X22, hS22, hZ22, hown22⟩ := rebS hS21 (by rw [e21]; exact hk21) X22r hSr22 hgr22 hZ21 hown21
      have hk22 := Nat.le_refl T22.heap.size
      obtain ⟨rfl, N22q, K22, E22_o, Fs22⟩ := hQ22
      have N22 := Fr.app N0 N22q
      refine own_step (fun _ k => st22.trans k) ?_
      show own_Go p e below P T22 (mkF m 116 #[.val (.int p0), .val (.int p1), .val (.int p2), .val (.int p3), .val (.int p4), .val (.int p5), .val (.int kk), .val (.ref af), .val (.double (FP.i2d ((p5 &&& (65535 : Int32)) + (1 : Int32)))), .second, .val (.double (FP.i2d ((((p5.toUInt32 >>> ((16 : Int32) &&& 31).toUInt32).toInt32) &&& (65535 : Int32)) + (1 : Int32)))), .second, .unset, .unset, .unset] [(.ref b20)])
      refine own_step (fun _ k => XS.astore X22.here hx rfl (hb hby at_116) rfl rfl (l' := #[.val (.int p0), .val (.int p1), .val (.int p2), .val (.int p3), .val (.int p4), .val (.int p5), .val (.int kk), .val (.ref af), .val (.double (FP.i2d ((p5 &&& (65535 : Int32)) + (1 : Int32)))), .second, .val (.double (FP.i2d ((((p5.toUInt32 >>> ((16 : Int32) &&& 31).toUInt32).toInt32) &&& (65535 : Int32)) + (1 : Int32)))), .second, .val (.ref b20), .unset, .unset]) rfl k) ?_
      show own_Go p e below P T22 (mkF m 118 #[.val (.int p0), .val (.int p1), .val (.int p2), .val (.int p3), .val (.int p4), .val (.int p5), .val (.int kk), .val (.ref af), .val (.double (FP.i2d ((p5 &&& (65535 : Int32)) + (1 : Int32)))), .second, .val (.double (FP.i2d ((((p5.toUInt32 >>> ((16 : Int32) &&& 31).toUInt32).toInt32) &&& (65535 : Int32)) + (1 : Int32)))), .second, .val (.ref b20), .unset, .unset] [])
      refine own_step (fun _ k => XS.iload X22.here hx rfl (hb hby at_118) rfl k) ?_
      show own_Go p e below P T22 (mkF m 120 #[.val (.int p0), .val (.int p1), .val (.int p2), .val (.int p3), .val (.int p4), .val (.int p5), .val (.int kk), .val (.ref af), .val (.double (FP.i2d ((p5 &&& (65535 : Int32)) + (1 : Int32)))), .second, .val (.double (FP.i2d ((((p5.toUInt32 >>> ((16 : Int32) &&& 31).toUInt32).toInt32) &&& (65535 : Int32)) + (1 : Int32)))), .second, .val (.ref b20), .unset, .unset] [(.int kk)])
      refine own_step (fun _ k => XS.ifNo X22.here hx rfl (hb hby at_120) rfl ((if0 _ _).trans (feq hc1).1) k) ?_
      show own_Go p e below P T22 (mkF m 123 #[.val (.int p0), .val (.int p1), .val (.int p2), .val (.int p3), .val (.int p4), .val (.int p5), .val (.int kk), .val (.ref af), .val (.double (FP.i2d ((p5 &&& (65535 : Int32)) + (1 : Int32)))), .second, .val (.double (FP.i2d ((((p5.toUInt32 >>> ((16 : Int32) &&& 31).toUInt32).toInt32) &&& (65535 : Int32)) + (1 : Int32)))), .second, .val (.ref b20), .unset, .unset] [])
      refine own_step (fun _ k => XS.iconst X22.here hx rfl (hb hby at_123) k) ?_
      show own_Go p e below P T22 (mkF m 124 #[.val (.int p0), .val (.int p1), .val (.int p2), .val (.int p3), .val (.int p4), .val (.int p5), .val (.int kk), .val (.ref af), .val (.double (FP.i2d ((p5 &&& (65535 : Int32)) + (1 : Int32)))), .second, .val (.double (FP.i2d ((((p5.toUInt32 >>> ((16 : Int32) &&& 31).toUInt32).toInt32) &&& (65535 : Int32)) + (1 : Int32)))), .second, .val (.ref b20), .unset, .unset] [(.int (1 : Int32))])
      refine own_step (fun _ k => XS.goto X22.here hx rfl (pc0 := 124) (pc' := 128) rfl (hb hby at_124) (by decide) (by decide) k) ?_
      show own_Go p e below P T22 (mkF m 128 #[.val (.int p0), .val (.int p1), .val (.int p2), .val (.int p3), .val (.int p4), .val (.int p5), .val (.int kk), .val (.ref af), .val (.double (FP.i2d ((p5 &&& (65535 : Int32)) + (1 : Int32)))), .second, .val (.double (FP.i2d ((((p5.toUInt32 >>> ((16 : Int32) &&& 31).toUInt32).toInt32) &&& (65535 : Int32)) + (1 : Int32)))), .second, .val (.ref b20), .unset, .unset] [(.int (1 : Int32))])
      refine own_step (fun _ k => XS.istore X22.here hx rfl (hb hby at_128) rfl (l' := #[.val (.int p0), .val (.int p1), .val (.int p2), .val (.int p3), .val (.int p4), .val (.int p5), .val (.int kk), .val (.ref af), .val (.double (FP.i2d ((p5 &&& (65535 : Int32)) + (1 : Int32)))), .second, .val (.double (FP.i2d ((((p5.toUInt32 >>> ((16 : Int32) &&& 31).toUInt32).toInt32) &&& (65535 : Int32)) + (1 : Int32)))), .second, .val (.ref b20), .val (.int (1 : Int32)), .unset]) rfl k) ?_
      show own_Go p e below P T22 (mkF m 130 #[.val (.int p0), .val (.int p1), .val (.int p2), .val (.int p3), .val (.int p4), .val (.int p5), .val (.int kk), .val (.ref af), .val (.double (FP.i2d ((p5 &&& (65535 : Int32)) + (1 : Int32)))), .second, .val (.double (FP.i2d ((((p5.toUInt32 >>> ((16 : Int32) &&& 31).toUInt32).toInt32) &&& (65535 : Int32)) + (1 : Int32)))), .second, .val (.ref b20), .val (.int (1 : Int32)), .unset] [])
      refine own_step (fun _ k => XS.aload X22.here hx rfl (hb hby at_130) rfl rfl k) ?_
      show own_Go p e below P T22 (mkF m 132 #[.val (.int p0), .val (.int p1), .val (.int p2), .val (.int p3), .val (.int p4), .val (.int p5), .val (.int kk), .val (.ref af), .val (.double (FP.i2d ((p5 &&& (65535 : Int32)) + (1 : Int32)))), .second, .val (.double (FP.i2d ((((p5.toUInt32 >>> ((16 : Int32) &&& 31).toUInt32).toInt32) &&& (65535 : Int32)) + (1 : Int32)))), .second, .val (.ref b20), .val (.int (1 : Int32)), .unset] [(.ref af)])
      obtain ⟨cq23, kq23, q23a, q23b, q23c⟩ := isOf hZ22 rfl (((E_FOUR_C.ext E20).ext E21).keep K22)
      obtain ⟨_, _, ⟨T23, L23, k23, n23⟩, -, X23, ⟨Lc23, hQ23, l23, y23, z23⟩, st23⟩ := X22.virtualBack hx (y := (⟨"com/example/brinequil/brinequil/model/AssociationScheme", "donors", "()I"⟩ : MethodName)) (z := (⟨"com/example/brinequil/brinequil/model/AssociationScheme", "donors", "()I"⟩ : MethodName)) hown22 (mvT hZ22 (hw _ (List.mem_of_getElem? (i := 107) rfl))) (mvT hZ22 (hw _ (List.mem_of_getElem? (i := 108) rfl))) (notFace_of_selects (args := #[]) (mvT hZ22 (hw _ (List.mem_of_getElem? (i := 110) rfl)))) (mvT hZ22 (hw _ (List.mem_of_getElem? (i := 110) rfl))) (mvT hZ22 (hw _ (List.mem_of_getElem? (i := 109) rfl))) (by decide) (backOf (W := 0) (rm16 l Z a0 hw [] af (2 : Int32) T22.heap n0 (Nat.le_trans (Nat.le_trans (Nat.le_trans Z0 E20.1) E21.1) K22.1) (((Fd_FOUR_C.ext E20).ext E21).keep K22 (ninS (Nat.ne_of_lt (Nat.lt_of_lt_of_le E_FOUR_C.lt (Nat.le_of_eq g20.symm))) nin0))) hZ22 (hw _ (List.mem_of_getElem? (i := 111) rfl)) (hw _ (List.mem_of_getElem? (i := 2) rfl)) (by decide) (by decide)) q23a q23c (g := (mkF m 132 #[.val (.int p0), .val (.int p1), .val (.int p2), .val (.int p3), .val (.int p4), .val (.int p5), .val (.int kk), .val (.ref af), .val (.double (FP.i2d ((p5 &&& (65535 : Int32)) + (1 : Int32)))), .second, .val (.double (FP.i2d ((((p5.toUInt32 >>> ((16 : Int32) &&& 31).toUInt32).toInt32) &&& (65535 : Int32)) + (1 : Int32)))), .second, .val (.ref b20), .val (.int (1 : Int32)), .unset] [(.ref af)])) rfl (by rw [hml]; rfl) (Steps.refl _) (argsL := []) (rest := []) (lenOf pd____I rfl) rfl (by show 2 * 0 + _ ≤ _; exact Nat.le_of_eq rfl) (hb hby at_132) (fun _ _ => ⟨rfl, rfl, (by decide : 13 + 0 ≤ _), (by decide : 100 + 0 ≤ _)⟩)
      dsimp only [Pt.U, Pt.locs, Pt.cells, Pt.slots] at X23 l23 y23 z23 st23 hQ23
      subst l23 y23 z23
      obtain ⟨rfl, N23q, e23⟩ := hQ23
      have N23 := Fr.app N22 N23q
      refine own_step (fun _ k => st23.trans k) ?_
      show own_Go p e below P T23 (mkF m 135 #[.val (.int p0), .val (.int p1), .val (.int p2), .val (.int p3), .val (.int p4), .val (.int p5), .val (.int kk), .val (.ref af), .val (.double (FP.i2d ((p5 &&& (65535 : Int32)) + (1 : Int32)))), .second, .val (.double (FP.i2d ((((p5.toUInt32 >>> ((16 : Int32) &&& 31).toUInt32).toInt32) &&& (65535 : Int32)) + (1 : Int32)))), .second, .val (.ref b20), .val (.int (1 : Int32)), .unset] [(.int (2 : Int32))])
      refine own_step (fun _ k => XS.aload X23.here hx rfl (hb hby at_135) rfl rfl k) ?_
      show own_Go p e below P T23 (mkF m 137 #[.val (.int p0), .val (.int p1), .val (.int p2), .val (.int p3), .val (.int p4), .val (.int p5), .val (.int kk), .val (.ref af), .val (.double (FP.i2d ((p5 &&& (65535 : Int32)) + (1 : Int32)))), .second, .val (.double (FP.i2d ((((p5.toUInt32 >>> ((16 : Int32) &&& 31).toUInt32).toInt32) &&& (65535 : Int32)) + (1 : Int32)))), .second, .val (.ref b20), .val (.int (1 : Int32)), .unset] [(.ref af), (.int (2 : Int32))])
      obtain ⟨cq24, kq24, q24a, q24b, q24c⟩ := isOf hZ22 e23 (((E_FOUR_C.ext E20).ext E21).keep K22)
      obtain ⟨_, _, ⟨T24, L24, k24, n24⟩, -, X24, ⟨Lc24, hQ24, l24, y24, z24⟩, st24⟩ := X23.virtualBack hx (y := (⟨"com/example/brinequil/brinequil/model/AssociationScheme", "acceptors", "()I"⟩ : MethodName)) (z := (⟨"com/example/brinequil/brinequil/model/AssociationScheme", "acceptors", "()I"⟩ : MethodName)) hown22 (mvT hZ22 (hw _ (List.mem_of_getElem? (i := 114) rfl))) (mvT hZ22 (hw _ (List.mem_of_getElem? (i := 115) rfl))) (notFace_of_selects (args := #[]) (mvT hZ22 (hw _ (List.mem_of_getElem? (i := 117) rfl)))) (mvT hZ22 (hw _ (List.mem_of_getElem? (i := 117) rfl))) (mvT hZ22 (hw _ (List.mem_of_getElem? (i := 116) rfl))) (by decide) (backOf (W := 1) (rm17 l Z a0 hw [] af (2 : Int32) T22.heap n0 (Nat.le_trans (Nat.le_trans (Nat.le_trans Z0 E20.1) E21.1) K22.1) (((Fa_FOUR_C.ext E20).ext E21).keep K22 (ninS (Nat.ne_of_lt (Nat.lt_of_lt_of_le E_FOUR_C.lt (Nat.le_of_eq g20.symm))) nin0))) hZ22 (hw _ (List.mem_of_getElem? (i := 118) rfl)) (hw _ (List.mem_of_getElem? (i := 2) rfl)) (by decide) (by decide)) q24a q24c (g := (mkF m 137 #[.val (.int p0), .val (.int p1), .val (.int p2), .val (.int p3), .val (.int p4), .val (.int p5), .val (.int kk), .val (.ref af), .val (.double (FP.i2d ((p5 &&& (65535 : Int32)) + (1 : Int32)))), .second, .val (.double (FP.i2d ((((p5.toUInt32 >>> ((16 : Int32) &&& 31).toUInt32).toInt32) &&& (65535 : Int32)) + (1 : Int32)))), .second, .val (.ref b20), .val (.int (1 : Int32)), .unset] [(.ref af), (.int (2 : Int32))])) rfl (by rw [hml]; rfl) (Steps.refl _) (argsL := []) (rest := [(.int (2 : Int32))]) (lenOf pd____I rfl) rfl (by show 2 * 0 + _ ≤ _; exact Nat.le_of_eq rfl) (hb hby at_137) (fun _ _ => ⟨rfl, e23, (by decide : 13 + 0 ≤ _), (by decide : 100 + 0 ≤ _)⟩)
      dsimp only [Pt.U, Pt.locs, Pt.cells, Pt.slots] at X24 l24 y24 z24 st24 hQ24
      subst l24 y24 z24
      obtain ⟨rfl, N24q, e24⟩ := hQ24
      have N24 := Fr.app N23 N24q
      refine own_step (fun _ k => st24.trans k) ?_
      show own_Go p e below P T24 (mkF m 140 #[.val (.int p0), .val (.int p1), .val (.int p2), .val (.int p3), .val (.int p4), .val (.int p5), .val (.int kk), .val (.ref af), .val (.double (FP.i2d ((p5 &&& (65535 : Int32)) + (1 : Int32)))), .second, .val (.double (FP.i2d ((((p5.toUInt32 >>> ((16 : Int32) &&& 31).toUInt32).toInt32) &&& (65535 : Int32)) + (1 : Int32)))), .second, .val (.ref b20), .val (.int (1 : Int32)), .unset] [(.int (2 : Int32)), (.int (2 : Int32))])
      refine own_step (fun _ k => XS.iadd X24.here hx rfl (hb hby at_140) rfl k) ?_
      show own_Go p e below P T24 (mkF m 141 #[.val (.int p0), .val (.int p1), .val (.int p2), .val (.int p3), .val (.int p4), .val (.int p5), .val (.int kk), .val (.ref af), .val (.double (FP.i2d ((p5 &&& (65535 : Int32)) + (1 : Int32)))), .second, .val (.double (FP.i2d ((((p5.toUInt32 >>> ((16 : Int32) &&& 31).toUInt32).toInt32) &&& (65535 : Int32)) + (1 : Int32)))), .second, .val (.ref b20), .val (.int (1 : Int32)), .unset] [(.int (4 : Int32))])
      refine own_step (fun _ k => XS.ifNo X24.here hx rfl (hb hby at_141) rfl ((if0 _ _).trans (tlt (by decide : (0 : Int32) < (4 : Int32))).2.2.2) k) ?_
      show own_Go p e below P T24 (mkF m 144 #[.val (.int p0), .val (.int p1), .val (.int p2), .val (.int p3), .val (.int p4), .val (.int p5), .val (.int kk), .val (.ref af), .val (.double (FP.i2d ((p5 &&& (65535 : Int32)) + (1 : Int32)))), .second, .val (.double (FP.i2d ((((p5.toUInt32 >>> ((16 : Int32) &&& 31).toUInt32).toInt32) &&& (65535 : Int32)) + (1 : Int32)))), .second, .val (.ref b20), .val (.int (1 : Int32)), .unset] [])
      refine own_step (fun _ k => XS.iconst X24.here hx rfl (hb hby at_144) k) ?_
      show own_Go p e below P T24 (mkF m 145 #[.val (.int p0), .val (.int p1), .val (.int p2), .val (.int p3), .val (.int p4), .val (.int p5), .val (.int kk), .val (.ref af), .val (.double (FP.i2d ((p5 &&& (65535 : Int32)) + (1 : Int32)))), .second, .val (.double (FP.i2d ((((p5.toUInt32 >>> ((16 : Int32) &&& 31).toUInt32).toInt32) &&& (65535 : Int32)) + (1 : Int32)))), .second, .val (.ref b20), .val (.int (1 : Int32)), .unset] [(.int (1 : Int32))])
      refine own_step (fun _ k => XS.goto X24.here hx rfl (pc0 := 145) (pc' := 149) rfl (hb hby at_145) (by decide) (by decide) k) ?_
      show own_Go p e below P T24 (mkF m 149 #[.val (.int p0), .val (.int p1), .val (.int p2), .val (.int p3), .val (.int p4), .val (.int p5), .val (.int kk), .val (.ref af), .val (.double (FP.i2d ((p5 &&& (65535 : Int32)) + (1 : Int32)))), .second, .val (.double (FP.i2d ((((p5.toUInt32 >>> ((16 : Int32) &&& 31).toUInt32).toInt32) &&& (65535 : Int32)) + (1 : Int32)))), .second, .val (.ref b20), .val (.int (1 : Int32)), .unset] [(.int (1 : Int32))])
      refine own_step (fun _ k => XS.istore X24.here hx rfl (hb hby at_149) rfl (l' := #[.val (.int p0), .val (.int p1), .val (.int p2), .val (.int p3), .val (.int p4), .val (.int p5), .val (.int kk), .val (.ref af), .val (.double (FP.i2d ((p5 &&& (65535 : Int32)) + (1 : Int32)))), .second, .val (.double (FP.i2d ((((p5.toUInt32 >>> ((16 : Int32) &&& 31).toUInt32).toInt32) &&& (65535 : Int32)) + (1 : Int32)))), .second, .val (.ref b20), .val (.int (1 : Int32)), .val (.int (1 : Int32))]) rfl k) ?_
      show own_Go p e below P T24 (mkF m 151 #[.val (.int p0), .val (.int p1), .val (.int p2), .val (.int p3), .val (.int p4), .val (.int p5), .val (.int kk), .val (.ref af), .val (.double (FP.i2d ((p5 &&& (65535 : Int32)) + (1 : Int32)))), .second, .val (.double (FP.i2d ((((p5.toUInt32 >>> ((16 : Int32) &&& 31).toUInt32).toInt32) &&& (65535 : Int32)) + (1 : Int32)))), .second, .val (.ref b20), .val (.int (1 : Int32)), .val (.int (1 : Int32))] [])
      refine own_step (fun _ k => XS.aload X24.here hx rfl (hb hby at_151) rfl rfl k) ?_
      show own_Go p e below P T24 (mkF m 153 #[.val (.int p0), .val (.int p1), .val (.int p2), .val (.int p3), .val (.int p4), .val (.int p5), .val (.int kk), .val (.ref af), .val (.double (FP.i2d ((p5 &&& (65535 : Int32)) + (1 : Int32)))), .second, .val (.double (FP.i2d ((((p5.toUInt32 >>> ((16 : Int32) &&& 31).toUInt32).toInt32) &&& (65535 : Int32)) + (1 : Int32)))), .second, .val (.ref b20), .val (.int (1 : Int32)), .val (.int (1 : Int32))] [(.ref b20)])
      obtain ⟨cq25, kq25, q25a, q25b, q25c⟩ := isOf hZ22 e24 E22_o
      obtain ⟨_, _, ⟨T25, L25, k25, n25⟩, -, X25, ⟨Lc25, hQ25, l25, y25, z25⟩, st25⟩ := X24.virtualBack hx (y := (⟨"com/example/brinequil/brinequil/model/Component", "associates", "()Z"⟩ : MethodName)) (z := (⟨"com/example/brinequil/brinequil/model/Component", "associates", "()Z"⟩ : MethodName)) hown22 (mvT hZ22 (hw _ (List.mem_of_getElem? (i := 121) rfl))) (mvT hZ22 (hw _ (List.mem_of_getElem? (i := 122) rfl))) (notFace_of_selects (args := #[]) (mvT hZ22 (hw _ (List.mem_of_getElem? (i := 124) rfl)))) (mvT hZ22 (hw _ (List.mem_of_getElem? (i := 124) rfl))) (mvT hZ22 (hw _ (List.mem_of_getElem? (i := 123) rfl))) (by decide) (backOf (W := 0) (rm18 l Z a0 hw [] b20 af an (1 : Int32) T22.heap n0 (Nat.le_trans (Nat.le_trans (Nat.le_trans Z0 E20.1) E21.1) K22.1) (if_neg hne2) Fs22 (own_sta_keep ((S_NONE.ext E20).ext E21) K22 (allS (old_plain (F_name_b20.ext E21)) all0))) hZ22 (hw _ (List.mem_of_getElem? (i := 125) rfl)) (hw _ (List.mem_of_getElem? (i := 6) rfl)) (by decide) (by decide)) q25a q25c (g := (mkF m 153 #[.val (.int p0), .val (.int p1), .val (.int p2), .val (.int p3), .val (.int p4), .val (.int p5), .val (.int kk), .val (.ref af), .val (.double (FP.i2d ((p5 &&& (65535 : Int32)) + (1 : Int32)))), .second, .val (.double (FP.i2d ((((p5.toUInt32 >>> ((16 : Int32) &&& 31).toUInt32).toInt32) &&& (65535 : Int32)) + (1 : Int32)))), .second, .val (.ref b20), .val (.int (1 : Int32)), .val (.int (1 : Int32))] [(.ref b20)])) rfl (by rw [hml]; rfl) (Steps.refl _) (argsL := []) (rest := []) (lenOf pd____Z rfl) rfl (by show 2 * 0 + _ ≤ _; exact Nat.le_of_eq rfl) (hb hby at_153) (fun _ _ => ⟨rfl, e24, (by decide : 13 + 0 ≤ _), (by decide : 100 + 0 ≤ _)⟩)
      dsimp only [Pt.U, Pt.locs, Pt.cells, Pt.slots] at X25 l25 y25 z25 st25 hQ25
      subst l25 y25 z25
      obtain ⟨rfl, N25q, e25⟩ := hQ25
      have N25 := Fr.app N24 N25q
      refine own_step (fun _ k => st25.trans k) ?_
      show own_Go p e below P T25 (mkF m 156 #[.val (.int p0), .val (.int p1), .val (.int p2), .val (.int p3), .val (.int p4), .val (.int p5), .val (.int kk), .val (.ref af), .val (.double (FP.i2d ((p5 &&& (65535 : Int32)) + (1 : Int32)))), .second, .val (.double (FP.i2d ((((p5.toUInt32 >>> ((16 : Int32) &&& 31).toUInt32).toInt32) &&& (65535 : Int32)) + (1 : Int32)))), .second, .val (.ref b20), .val (.int (1 : Int32)), .val (.int (1 : Int32))] [(.int (1 : Int32))])
      refine own_step (fun _ k => XS.iload X25.here hx rfl (hb hby at_156) rfl k) ?_
      show own_Go p e below P T25 (mkF m 158 #[.val (.int p0), .val (.int p1), .val (.int p2), .val (.int p3), .val (.int p4), .val (.int p5), .val (.int kk), .val (.ref af), .val (.double (FP.i2d ((p5 &&& (65535 : Int32)) + (1 : Int32)))), .second, .val (.double (FP.i2d ((((p5.toUInt32 >>> ((16 : Int32) &&& 31).toUInt32).toInt32) &&& (65535 : Int32)) + (1 : Int32)))), .second, .val (.ref b20), .val (.int (1 : Int32)), .val (.int (1 : Int32))] [(.int (1 : Int32)), (.int (1 : Int32))])
      refine own_step (fun _ k => XS.icmpNo X25.here hx rfl (hb hby at_158) rfl (teq (rfl : (1 : Int32) = (1 : Int32))).2 k) ?_
      show own_Go p e below P T25 (mkF m 161 #[.val (.int p0), .val (.int p1), .val (.int p2), .val (.int p3), .val (.int p4), .val (.int p5), .val (.int kk), .val (.ref af), .val (.double (FP.i2d ((p5 &&& (65535 : Int32)) + (1 : Int32)))), .second, .val (.double (FP.i2d ((((p5.toUInt32 >>> ((16 : Int32) &&& 31).toUInt32).toInt32) &&& (65535 : Int32)) + (1 : Int32)))), .second, .val (.ref b20), .val (.int (1 : Int32)), .val (.int (1 : Int32))] [])
      refine own_step (fun _ k => XS.iload X25.here hx rfl (hb hby at_161) rfl k) ?_
      show own_Go p e below P T25 (mkF m 163 #[.val (.int p0), .val (.int p1), .val (.int p2), .val (.int p3), .val (.int p4), .val (.int p5), .val (.int kk), .val (.ref af), .val (.double (FP.i2d ((p5 &&& (65535 : Int32)) + (1 : Int32)))), .second, .val (.double (FP.i2d ((((p5.toUInt32 >>> ((16 : Int32) &&& 31).toUInt32).toInt32) &&& (65535 : Int32)) + (1 : Int32)))), .second, .val (.ref b20), .val (.int (1 : Int32)), .val (.int (1 : Int32))] [(.int (1 : Int32))])
      refine own_step (fun _ k => XS.iload X25.here hx rfl (hb hby at_163) rfl k) ?_
      show own_Go p e below P T25 (mkF m 165 #[.val (.int p0), .val (.int p1), .val (.int p2), .val (.int p3), .val (.int p4), .val (.int p5), .val (.int kk), .val (.ref af), .val (.double (FP.i2d ((p5 &&& (65535 : Int32)) + (1 : Int32)))), .second, .val (.double (FP.i2d ((((p5.toUInt32 >>> ((16 : Int32) &&& 31).toUInt32).toInt32) &&& (65535 : Int32)) + (1 : Int32)))), .second, .val (.ref b20), .val (.int (1 : Int32)), .val (.int (1 : Int32))] [(.int (1 : Int32)), (.int (1 : Int32))])
      refine own_step (fun _ k => XS.icmpNo X25.here hx rfl (hb hby at_165) rfl (teq (rfl : (1 : Int32) = (1 : Int32))).2 k) ?_
      show own_Go p e below P T25 (mkF m 168 #[.val (.int p0), .val (.int p1), .val (.int p2), .val (.int p3), .val (.int p4), .val (.int p5), .val (.int kk), .val (.ref af), .val (.double (FP.i2d ((p5 &&& (65535 : Int32)) + (1 : Int32)))), .second, .val (.double (FP.i2d ((((p5.toUInt32 >>> ((16 : Int32) &&& 31).toUInt32).toInt32) &&& (65535 : Int32)) + (1 : Int32)))), .second, .val (.ref b20), .val (.int (1 : Int32)), .val (.int (1 : Int32))] [])
      refine own_step (fun _ k => XS.iconst X25.here hx rfl (hb hby at_168) k) ?_
      show own_Go p e below P T25 (mkF m 169 #[.val (.int p0), .val (.int p1), .val (.int p2), .val (.int p3), .val (.int p4), .val (.int p5), .val (.int kk), .val (.ref af), .val (.double (FP.i2d ((p5 &&& (65535 : Int32)) + (1 : Int32)))), .second, .val (.double (FP.i2d ((((p5.toUInt32 >>> ((16 : Int32) &&& 31).toUInt32).toInt32) &&& (65535 : Int32)) + (1 : Int32)))), .second, .val (.ref b20), .val (.int (1 : Int32)), .val (.int (1 : Int32))] [(.int (1 : Int32))])
      refine own_step (fun _ k => XS.goto X25.here hx rfl (pc0 := 169) (pc' := 173) rfl (hb hby at_169) (by decide) (by decide) k) ?_
      show own_Go p e below P T25 (mkF m 173 #[.val (.int p0), .val (.int p1), .val (.int p2), .val (.int p3), .val (.int p4), .val (.int p5), .val (.int kk), .val (.ref af), .val (.double (FP.i2d ((p5 &&& (65535 : Int32)) + (1 : Int32)))), .second, .val (.double (FP.i2d ((((p5.toUInt32 >>> ((16 : Int32) &&& 31).toUInt32).toInt32) &&& (65535 : Int32)) + (1 : Int32)))), .second, .val (.ref b20), .val (.int (1 : Int32)), .val (.int (1 : Int32))] [(.int (1 : Int32))])
      obtain ⟨fs, hr, hrun, hended, hend⟩ := X25.leaveW hS22 (by rw [e25]; exact hk22) (v := some (.int (1 : Int32))) (fun h => by rw [Bd.returns] at h; cases h)
      refine ⟨_, _, retN X25 hx (t := .boolean) Bd.returns (by simp) (hb hby at_173) hr, hrun, hended, hfin _ _ ⟨_, _, rfl, ?_, hend.1, hend.2.1, hend.2.2.1, hend.2.2.2.mono (by decide) (by decide)⟩⟩
      show Q0 Z p0 p1 p2 p3 p4 p5 cc ci ta tc pv an at_ af h0 n0 (some (.int (1 : Int32))) T25.heap _
      rw [e25]
      exact ⟨rfl, N25⟩
set_option maxRecDepth 65536 in
set_option maxHeartbeats 40000000 in
theorem comes_1 {Post : Tables → Env → Array Value → State → Outcome → State → Prop} (hpost : ∀ tb e args s v u, (limb_1_1.after args s (.returned v) u = true ∧ limb_1_2.after args s (.returned v) u = true ∧ True) → ReturnedEndW s (.returned v) u (Jvm.fieldLocs frame_1_writes args s ++ Jvm.arrayLocs frame_1_arrays args s ++ Jvm.staticLocs frame_1_statics s) 24 6272 → Post tb e args s (.returned v) u) :
    ArmFor flags0 classFile x code maxLocals ret World_1 tables_1 room_1 Calls_1 rest_1 Pre_1 Post := by
  intro l hfl _ _ p e ha hc hk s m args below hf hA hF happ hP
  obtain ⟨hcalls, hrest, hpre⟩ := hP
  obtain ⟨-, -, -, hnamed, -, -, -, hat⟩ := (Spec.applies_iff hf).mp happ
  obtain ⟨hg, hn⟩ := and_e (Cond.before_iff.mp (show (Jvm.Cond.and given_1 narrow_1).before args s = true from hpre))
  obtain ⟨hcnt, hg0⟩ := and_e hg
  obtain ⟨ga0, hg1⟩ := and_e hg0
  obtain ⟨ga1, hg2⟩ := and_e hg1
  obtain ⟨ga2, hg3⟩ := and_e hg2
  obtain ⟨ga3, hg4⟩ := and_e hg3
  obtain ⟨ga4, hg5⟩ := and_e hg4
  have ga5 := hg5
  obtain ⟨w0, w1, w2, w3, w4, w5, rfl⟩ : ∃ w0 w1 w2 w3 w4 w5 : Value, args = #[w0, w1, w2, w3, w4, w5] := by
    have hs : args.size = 6 := by simpa [Cond.value, given_1] using hcnt
    obtain ⟨L⟩ := args
    match L, hs with
    | [w0, w1, w2, w3, w4, w5], _ => exact ⟨w0, w1, w2, w3, w4, w5, rfl⟩
  have hw := fun d (hd : d ∈ tables_1) => atoms_spec (ws := Jvm.Cond.code x code maxLocals ret :: tables_1) hat d (List.mem_cons_of_mem _ hd)
  have hfit : Fit s := fun {y c} hc i hi => by
    obtain ⟨ha, rfl⟩ := Array.getElem?_eq_some_iff.mp hc
    have q := List.all_eq_true.mp ((Array.all_eq_true_iff_forall_mem.mp hF) _ (Array.getElem_mem ha)) i (List.mem_range.mpr hi)
    simpa [Array.getElem?_eq_getElem hi] using q
  obtain ⟨hsets, hown0⟩ := atoms_of _ (rest_1_c_eq ▸ (show rest_1_c.before _ s = true from hrest))
  have hr0 := Cond.before_iff.mp hown0
  obtain ⟨i0, ei0⟩ := is_v ga0
  obtain rfl : w0 = (.int i0) := Option.some.inj ei0
  obtain ⟨i1, ei1⟩ := is_v ga1
  obtain rfl : w1 = (.int i1) := Option.some.inj ei1
  obtain ⟨i2, ei2⟩ := is_v ga2
  obtain rfl : w2 = (.int i2) := Option.some.inj ei2
  obtain ⟨i3, ei3⟩ := is_v ga3
  obtain rfl : w3 = (.int i3) := Option.some.inj ei3
  obtain ⟨i4, ei4⟩ := is_v ga4
  obtain rfl : w4 = (.int i4) := Option.some.inj ei4
  obtain ⟨i5, ei5⟩ := is_v ga5
  obtain rfl : w5 = (.int i5) := Option.some.inj ei5
  obtain ⟨cc, ecc⟩ := is_v (Cond.before_iff.mp (hsets _ (List.mem_of_getElem? (i := 1) rfl)))
  have S_cs := Sta.start ecc (Or.inl (hsets _ (List.mem_of_getElem? (i := 0) rfl)))
  have hcw : Jvm.Lit.compactW.before #[(.int i0), (.int i1), (.int i2), (.int i3), (.int i4), (.int i5)] s = true := (hsets _ (List.mem_of_getElem? (i := 2) rfl))
  have hcc : ¬ (cc = (0 : Int32)) := own_nz ecc (not_v (Cond.before_iff.mp hcw))
  obtain ⟨ci, -, S_ci, E_ci⟩ := own_static2 (Cond.before_iff.mp (hsets _ (List.mem_of_getElem? (i := 11) rfl))) (Or.inl (hsets _ (List.mem_of_getElem? (i := 10) rfl)))
  have hta := Cond.before_iff.mp (hsets _ (List.mem_of_getElem? (i := 14) rfl))
  obtain ⟨ta, eta⟩ := arr_v hta
  have S_ta := Sta.start eta (Or.inl (hsets _ (List.mem_of_getElem? (i := 13) rfl)))
  obtain ⟨tc, A_ta⟩ := Arr.start eta hta
  obtain ⟨hti119, htv119⟩ := elem_in (own_eqi (Cond.before_iff.mp (hsets _ (List.mem_of_getElem? (i := 136) rfl)))) eta rfl A_ta.1
  obtain ⟨hx0, hy0⟩ := and_e hn
  obtain ⟨hx1, hy1⟩ := and_e hy0
  obtain ⟨hx2, hy2⟩ := and_e hy1
  obtain ⟨hx3, hy3⟩ := and_e hy2
  obtain ⟨hx4, hy4⟩ := and_e hy3
  obtain ⟨hx5, hy5⟩ := and_e hy4
  obtain ⟨hx6, hy6⟩ := and_e hy5
  obtain ⟨hx7, hy7⟩ := and_e hy6
  obtain ⟨hx8, hy8⟩ := and_e hy7
  obtain ⟨hx9, hy9⟩ := and_e hy8
  obtain ⟨hx10, hy10⟩ := and_e hy9
  have hx11 := hy10
  obtain ⟨an, ev_NONE, S_NONE, E_NONE⟩ := own_static2 hx0 (Or.inr ⟨(hw _ (List.mem_of_getElem? (i := 2) rfl)), (hw _ (List.mem_of_getElem? (i := 3) rfl))⟩)
  obtain ⟨at_, ev_TWO_B, S_TWO_B, E_TWO_B⟩ := own_static2 hx3 (Or.inr ⟨(hw _ (List.mem_of_getElem? (i := 2) rfl)), (hw _ (List.mem_of_getElem? (i := 127) rfl))⟩)
  obtain ⟨af, ev_FOUR_C, S_FOUR_C, E_FOUR_C⟩ := own_static2 hx8 (Or.inr ⟨(hw _ (List.mem_of_getElem? (i := 2) rfl)), (hw _ (List.mem_of_getElem? (i := 131) rfl))⟩)
  have Fd_NONE := own_fld ev_NONE hx1
  have Fa_NONE := own_fld ev_NONE hx2
  have Fo_NONE := own_fld ev_NONE hx5
  have Fd_TWO_B := own_fld ev_TWO_B hx6
  have Fa_TWO_B := own_fld ev_TWO_B hx7
  have Fo_TWO_B := own_fld ev_TWO_B hx4
  have Fd_FOUR_C := own_fld ev_FOUR_C hx10
  have Fa_FOUR_C := own_fld ev_FOUR_C hx11
  have Fo_FOUR_C := own_fld ev_FOUR_C hx9
  have hne1 : ¬ (at_ = an) := Fld.ne Fo_TWO_B Fo_NONE (by decide)
  have hne2 : ¬ (af = an) := Fld.ne Fo_FOUR_C Fo_NONE (by decide)
  have hheld : Jvm.Lit.constHeld s "com/example/brinequil/brinequil/model/ComponentAssociatesPinLaw" 23 := hcalls.1 ("com/example/brinequil/brinequil/model/ComponentAssociatesPinLaw", 23) (by simp [consts_1])
  obtain ⟨n, o, h1, h2, h3, _, L, rfl, ⟨rfl, N⟩, hq⟩ := rm0 l s _ hw tables_1 i0 i1 i2 i3 i4 i5 cc ci ta tc (8486882 : Int32) an at_ af s.heap s.heap.size (Nat.le_refl _) S_cs hcc S_ci E_ci S_ta A_ta hti119 htv119 (by decide) hheld hcw S_NONE E_NONE Fd_NONE Fa_NONE S_TWO_B E_TWO_B Fd_TWO_B Fa_TWO_B S_FOUR_C E_FOUR_C Fd_FOUR_C Fa_FOUR_C hne1 hne2 p e ha hc hk s m _ below hf ((Spec.applies_iff_loose hf).mp happ).1 ⟨rfl, rfl, rfl⟩ trivial
  refine ⟨n, _, h1, h2, h3, hpost _ _ _ _ _ _ ⟨Cond.after_iff.mpr rfl, Cond.after_iff.mpr (eq_i res_at (Term.int_eval (1)) rfl), trivial⟩ ⟨hq.1, hq.2.1, hq.2.2.1, (hq.2.2.2.sift fun y hy => Or.inr (N y hy)).mono (by decide) (by decide)⟩⟩
theorem main_1_1 : Claimed_1_1 := comes_1 fun _ _ _ _ _ _ h hF => ⟨h.1, hF⟩
theorem main_1_2 : Claimed_1_2 := comes_1 fun _ _ _ _ _ _ h hF => ⟨h.2.1, hF⟩
end Jvm.Pilot.@@N@@
namespace Jvm.Pilot.@@N@@
open Jvm Jvm.ClassFile Sem Op Lib Jvm.Free Jvm.Stand Jvm.Pilot.@@N@@.Jvm.D
/-! MADE BY PROGRAM (witnessworld.py) out of the Statement's table words and the real class files: 25 classes; the members and pool entries that the words name. The judged class is class 1, her method 1. -/
namespace start1
open Jvm.ClassFile
def u (s : String) : CpInfo := .utf8 (stringToUtf16 s)
/-- a pool by its gaps: so many unusable entries, then the entry; so many at the end -/
def gap : Nat → List CpInfo → List CpInfo
  | 0, r => r
  | n + 1, r => .unusable :: gap n r
def poolList (es : List (Nat × CpInfo)) (last : Nat) : List CpInfo := es.foldr (fun e r => gap e.1 (e.2 :: r)) (gap last [])
def pool (es : List (Nat × CpInfo)) (last : Nat) : Array CpInfo := ⟨poolList es last⟩
def fileOf (pool : Array CpInfo) (this : Nat) (attrs : Array Attribute := #[]) (ms : Array MethodInfo := #[]) (fl : Nat := 33) (sup : Nat := 0) (ifs : Array Nat := #[]) (fds : Array FieldInfo := #[]) : ClassFile where
  minorVersion := 0
  majorVersion := 65
  constantPool := pool
  accessFlags := fl
  thisClass := this
  superClass := sup
  interfaces := ifs
  fields := fds
  methods := ms
  attributes := attrs
def plain (name : String) (sup : Option ClassId) : Class where
  name := name
  kind := .ordinary
  loader := none
  accessFlags := 33
  super := sup
  interfaces := #[]
  cf := none
  fields := #[]
  methods := #[]
  instanceTypes := #[]
  staticTypes := #[]
  resolved := #[]
  callSites := []
  init := .initialized
  statics := none
  mirror := none

def pool0 : Array CpInfo := pool [(5, u "<init>"), (0, u "()V"), (1, .class_ 10), (1, u "java/lang/Object")] 113

def k0c0 : Code := { maxStack := 0, maxLocals := 1, code := object_method_1_code, exceptionTable := #[], attributes := #[] }
def k0m0 : Method := { name := "<init>", desc := "()V", sig := { parameters := [], returnType := none }, accessFlags := 1, code := some k0c0 }
/-- java/lang/Object -/
def k0 : Class := { plain "java/lang/Object" none with
  accessFlags := 33
  interfaces := #[]
  cf := some (fileOf pool0 8 #[] #[{ accessFlags := 1, nameIndex := 5, descriptorIndex := 6, attributes := #[] }] 33 0 #[] #[])
  fields := #[]
  methods := #[k0m0]
  instanceTypes := #[]
  staticTypes := #[]
  resolved := Array.replicate 124 none
  statics := none }

def pool1 : Array CpInfo := pool [(2, .class_ 4), (1, u "java/lang/Object"), (0, u "<init>"), (0, u "()V"), (0, .integer 2147483647), (0, .fieldref 9 10), (0, .class_ 11), (0, .nameAndType 12 13), (0, u "com/example/brinequil/brinequil/model/AssociationScheme"), (0, u "NONE"), (0, u "Lcom/example/brinequil/brinequil/model/AssociationScheme;"), (0, .fieldref 9 15), (0, .nameAndType 16 13), (0, u "TWO_B"), (0, .fieldref 9 18), (0, .nameAndType 19 13), (0, u "FOUR_C"), (0, .integer 65535), (0, .class_ 22), (0, u "com/example/brinequil/brinequil/model/Component"), (0, .string 24), (0, u "w"), (0, .methodref 21 26), (0, .nameAndType 5 27), (0, u "(Ljava/lang/String;DDDDDDLcom/example/brinequil/brinequil/model/AssociationScheme;)V"), (0, .methodref 9 29), (0, .nameAndType 30 31), (0, u "donors"), (0, u "()I"), (0, .methodref 9 33), (0, .nameAndType 34 31), (0, u "acceptors"), (0, .methodref 21 36), (0, .nameAndType 37 38), (0, u "associates"), (0, u "()Z"), (0, .class_ 40), (0, u "com/example/brinequil/brinequil/model/ComponentAssociatesPinLaw"), (2, u "law"), (0, u "(IIIIII)Z")] 3

def k1m0 : Method := { name := "<init>", desc := "()V", sig := { parameters := [], returnType := none }, accessFlags := 1, code := none }
def k1c1 : Code := { maxStack := 16, maxLocals := 15, code := code, exceptionTable := #[], attributes := #[] }
def k1m1 : Method := { name := "law", desc := "(IIIIII)Z", sig := { parameters := [.int, .int, .int, .int, .int, .int], returnType := some .boolean }, accessFlags := 9, code := some k1c1 }
/-- com/example/brinequil/brinequil/model/ComponentAssociatesPinLaw -/
def k1 : Class := { plain "com/example/brinequil/brinequil/model/ComponentAssociatesPinLaw" (some 0) with
  accessFlags := 49
  interfaces := #[]
  cf := some (fileOf pool1 39 #[] #[{ accessFlags := 1, nameIndex := 5, descriptorIndex := 6, attributes := #[] }, { accessFlags := 9, nameIndex := 43, descriptorIndex := 44, attributes := #[] }] 49 2 #[] #[])
  fields := #[]
  methods := #[k1m0, k1m1]
  instanceTypes := #[]
  staticTypes := #[]
  resolved := Array.replicate 48 none
  statics := none }

def pool2 : Array CpInfo := pool [(1, .class_ 2), (0, u "java/lang/constant/Constable"), (0, .class_ 4), (0, u "java/lang/Object")] 6

/-- java/lang/constant/Constable -/
def k2 : Class := { plain "java/lang/constant/Constable" (some 0) with
  accessFlags := 1537
  interfaces := #[]
  cf := some (fileOf pool2 1 #[] #[] 1537 3 #[] #[])
  fields := #[]
  methods := #[]
  instanceTypes := #[]
  staticTypes := #[]
  resolved := Array.replicate 11 none
  statics := none }

def pool3 : Array CpInfo := pool [(1, .class_ 2), (0, u "java/lang/Comparable"), (0, .class_ 4), (0, u "java/lang/Object")] 7

/-- java/lang/Comparable -/
def k3 : Class := { plain "java/lang/Comparable" (some 0) with
  accessFlags := 1537
  interfaces := #[]
  cf := some (fileOf pool3 1 #[] #[] 1537 3 #[] #[])
  fields := #[]
  methods := #[]
  instanceTypes := #[]
  staticTypes := #[]
  resolved := Array.replicate 12 none
  statics := none }

def pool4 : Array CpInfo := pool [(1, .class_ 2), (0, u "java/io/Serializable"), (0, .class_ 4), (0, u "java/lang/Object")] 2

/-- java/io/Serializable -/
def k4 : Class := { plain "java/io/Serializable" (some 0) with
  accessFlags := 1537
  interfaces := #[]
  cf := some (fileOf pool4 1 #[] #[] 1537 3 #[] #[])
  fields := #[]
  methods := #[]
  instanceTypes := #[]
  staticTypes := #[]
  resolved := Array.replicate 7 none
  statics := none }

def pool5 : Array CpInfo := pool [(2, .class_ 4), (1, u "java/lang/Enum"), (0, u "name"), (0, u "Ljava/lang/String;"), (2, u "ordinal"), (0, u "I"), (1, .class_ 14), (1, u "java/lang/Object"), (4, u "hash"), (86, .class_ 108), (1, u "java/lang/Enum$EnumDesc"), (2, .class_ 112), (0, u "java/lang/constant/Constable"), (0, .class_ 114), (0, u "java/lang/Comparable"), (0, .class_ 116), (0, u "java/io/Serializable")] 87

/-- java/lang/Enum -/
def k5 : Class := { plain "java/lang/Enum" (some 0) with
  accessFlags := 1057
  interfaces := #[2, 3, 4]
  cf := some (fileOf pool5 2 #[.nestMembers #[106]] #[] 1057 12 #[111, 113, 115] #[{ accessFlags := 18, nameIndex := 5, descriptorIndex := 6, attributes := #[] }, { accessFlags := 18, nameIndex := 9, descriptorIndex := 10, attributes := #[] }, { accessFlags := 2, nameIndex := 19, descriptorIndex := 10, attributes := #[] }])
  fields := #[{ name := "name", type := (.object "java/lang/String"), accessFlags := 18, slot := 0, constantValue := 0 }, { name := "ordinal", type := .int, accessFlags := 18, slot := 1, constantValue := 0 }, { name := "hash", type := .int, accessFlags := 2, slot := 2, constantValue := 0 }]
  methods := #[]
  instanceTypes := #[(.object "java/lang/String"), .int, .int]
  staticTypes := #[]
  resolved := Array.replicate 204 none
  statics := none }

def pool6 : Array CpInfo := pool [(1, .class_ 2), (0, u "com/example/brinequil/brinequil/model/AssociationScheme"), (2, u "NONE"), (0, u "Lcom/example/brinequil/brinequil/model/AssociationScheme;"), (2, u "TWO_B"), (2, u "FOUR_C"), (2, u "$VALUES"), (0, u "[Lcom/example/brinequil/brinequil/model/AssociationScheme;"), (6, .class_ 25), (1, u "java/lang/Enum"), (8, u "label"), (0, u "Ljava/lang/String;"), (0, .fieldref 1 37), (0, .nameAndType 38 39), (0, u "donors"), (0, u "I"), (0, .fieldref 1 41), (0, .nameAndType 42 39), (0, u "acceptors"), (23, u "()I")] 7

def k6c0 : Code := { maxStack := 1, maxLocals := 1, code := prog_18_method_4_code, exceptionTable := #[], attributes := #[] }
def k6m0 : Method := { name := "donors", desc := "()I", sig := { parameters := [], returnType := some .int }, accessFlags := 1, code := some k6c0 }
def k6c1 : Code := { maxStack := 1, maxLocals := 1, code := prog_18_method_5_code, exceptionTable := #[], attributes := #[] }
def k6m1 : Method := { name := "acceptors", desc := "()I", sig := { parameters := [], returnType := some .int }, accessFlags := 1, code := some k6c1 }
/-- com/example/brinequil/brinequil/model/AssociationScheme -/
def k6 : Class := { plain "com/example/brinequil/brinequil/model/AssociationScheme" (some 5) with
  accessFlags := 16433
  interfaces := #[]
  cf := some (fileOf pool6 1 #[] #[{ accessFlags := 1, nameIndex := 38, descriptorIndex := 66, attributes := #[] }, { accessFlags := 1, nameIndex := 42, descriptorIndex := 66, attributes := #[] }] 16433 23 #[] #[{ accessFlags := 16409, nameIndex := 5, descriptorIndex := 6, attributes := #[] }, { accessFlags := 16409, nameIndex := 9, descriptorIndex := 6, attributes := #[] }, { accessFlags := 16409, nameIndex := 12, descriptorIndex := 6, attributes := #[] }, { accessFlags := 18, nameIndex := 34, descriptorIndex := 35, attributes := #[] }, { accessFlags := 18, nameIndex := 38, descriptorIndex := 39, attributes := #[] }, { accessFlags := 18, nameIndex := 42, descriptorIndex := 39, attributes := #[] }, { accessFlags := 4122, nameIndex := 15, descriptorIndex := 16, attributes := #[] }])
  fields := #[{ name := "NONE", type := (.object "com/example/brinequil/brinequil/model/AssociationScheme"), accessFlags := 16409, slot := 0, constantValue := 0 }, { name := "TWO_B", type := (.object "com/example/brinequil/brinequil/model/AssociationScheme"), accessFlags := 16409, slot := 1, constantValue := 0 }, { name := "FOUR_C", type := (.object "com/example/brinequil/brinequil/model/AssociationScheme"), accessFlags := 16409, slot := 2, constantValue := 0 }, { name := "label", type := (.object "java/lang/String"), accessFlags := 18, slot := 3, constantValue := 0 }, { name := "donors", type := .int, accessFlags := 18, slot := 4, constantValue := 0 }, { name := "acceptors", type := .int, accessFlags := 18, slot := 5, constantValue := 0 }, { name := "$VALUES", type := (.array (.object "com/example/brinequil/brinequil/model/AssociationScheme")), accessFlags := 4122, slot := 3, constantValue := 0 }]
  methods := #[k6m0, k6m1]
  instanceTypes := #[(.object "java/lang/String"), .int, .int, (.object "java/lang/String"), .int, .int]
  staticTypes := #[(.object "com/example/brinequil/brinequil/model/AssociationScheme"), (.object "com/example/brinequil/brinequil/model/AssociationScheme"), (.object "com/example/brinequil/brinequil/model/AssociationScheme"), (.array (.object "com/example/brinequil/brinequil/model/AssociationScheme"))]
  resolved := Array.replicate 74 none
  statics := some 0 }

def pool7 : Array CpInfo := pool [(1, .methodref 2 3), (0, .class_ 4), (0, .nameAndType 5 6), (0, u "java/lang/Object"), (0, u "<init>"), (0, u "()V"), (0, .class_ 8), (0, u "java/lang/Record")] 13

def k7c0 : Code := { maxStack := 1, maxLocals := 1, code := jdk_30_method_1_code, exceptionTable := #[], attributes := #[] }
def k7m0 : Method := { name := "<init>", desc := "()V", sig := { parameters := [], returnType := none }, accessFlags := 4, code := some k7c0 }
/-- java/lang/Record -/
def k7 : Class := { plain "java/lang/Record" (some 0) with
  accessFlags := 1057
  interfaces := #[]
  cf := some (fileOf pool7 7 #[] #[{ accessFlags := 4, nameIndex := 5, descriptorIndex := 6, attributes := #[] }] 1057 2 #[] #[])
  fields := #[]
  methods := #[k7m0]
  instanceTypes := #[]
  staticTypes := #[]
  resolved := Array.replicate 22 none
  statics := none }

def pool8 : Array CpInfo := pool [(1, .methodref 2 3), (0, .class_ 4), (0, .nameAndType 5 6), (0, u "java/lang/Record"), (0, u "<init>"), (0, u "()V"), (0, .methodref 8 9), (0, .class_ 10), (0, .nameAndType 11 12), (0, u "java/lang/String"), (0, u "isBlank"), (0, u "()Z"), (7, .string 21), (0, u "Tc"), (0, .methodref 23 24), (0, .class_ 25), (0, .nameAndType 26 27), (0, u "com/example/brinequil/brinequil/model/Component"), (0, u "requirePositive"), (0, u "(Ljava/lang/String;Ljava/lang/String;D)V"), (0, .string 29), (0, u "a0"), (0, .string 31), (0, u "b"), (0, .methodref 33 34), (0, .class_ 35), (0, .nameAndType 36 37), (0, u "java/lang/Double"), (0, u "isFinite"), (0, u "(D)Z"), (7, .fieldref 46 47), (0, .class_ 48), (0, .nameAndType 49 50), (0, u "com/example/brinequil/brinequil/model/AssociationScheme"), (0, u "NONE"), (0, u "Lcom/example/brinequil/brinequil/model/AssociationScheme;"), (3, .string 55), (0, u "epsilon"), (0, .string 57), (0, u "beta"), (0, .fieldref 23 59), (0, .nameAndType 60 61), (0, u "name"), (0, u "Ljava/lang/String;"), (0, .fieldref 23 63), (0, .nameAndType 64 65), (0, u "criticalTemperature"), (0, u "D"), (0, .fieldref 23 67), (0, .nameAndType 29 65), (0, .fieldref 23 69), (0, .nameAndType 31 65), (0, .fieldref 23 71), (0, .nameAndType 72 65), (0, u "c1"), (0, .fieldref 23 74), (0, .nameAndType 75 65), (0, u "associationEnergy"), (0, .fieldref 23 77), (0, .nameAndType 78 65), (0, u "associationVolume"), (0, .fieldref 23 80), (0, .nameAndType 81 50), (0, u "scheme"), (19, u "(Ljava/lang/String;DDDDDDLcom/example/brinequil/brinequil/model/AssociationScheme;)V"), (15, u "OMEGA_A"), (1, u "OMEGA_B"), (6, u "associates")] 48

def k8c0 : Code := { maxStack := 7, maxLocals := 15, code := prog_24_method_1_code, exceptionTable := #[], attributes := #[] }
def k8m0 : Method := { name := "<init>", desc := "(Ljava/lang/String;DDDDDDLcom/example/brinequil/brinequil/model/AssociationScheme;)V", sig := { parameters := [(.object "java/lang/String"), .double, .double, .double, .double, .double, .double, (.object "com/example/brinequil/brinequil/model/AssociationScheme")], returnType := none }, accessFlags := 1, code := some k8c0 }
def k8c1 : Code := { maxStack := 2, maxLocals := 1, code := prog_24_method_3_code, exceptionTable := #[], attributes := #[] }
def k8m1 : Method := { name := "associates", desc := "()Z", sig := { parameters := [], returnType := some .boolean }, accessFlags := 1, code := some k8c1 }
def k8c2 : Code := { maxStack := 6, maxLocals := 4, code := prog_24_method_4_code, exceptionTable := #[], attributes := #[] }
def k8m2 : Method := { name := "requirePositive", desc := "(Ljava/lang/String;Ljava/lang/String;D)V", sig := { parameters := [(.object "java/lang/String"), (.object "java/lang/String"), .double], returnType := none }, accessFlags := 8, code := some k8c2 }
/-- com/example/brinequil/brinequil/model/Component -/
def k8 : Class := { plain "com/example/brinequil/brinequil/model/Component" (some 7) with
  accessFlags := 49
  interfaces := #[]
  cf := some (fileOf pool8 23 #[] #[{ accessFlags := 1, nameIndex := 5, descriptorIndex := 101, attributes := #[] }, { accessFlags := 1, nameIndex := 126, descriptorIndex := 12, attributes := #[] }, { accessFlags := 8, nameIndex := 26, descriptorIndex := 27, attributes := #[] }] 49 2 #[] #[{ accessFlags := 18, nameIndex := 60, descriptorIndex := 61, attributes := #[] }, { accessFlags := 18, nameIndex := 64, descriptorIndex := 65, attributes := #[] }, { accessFlags := 18, nameIndex := 29, descriptorIndex := 65, attributes := #[] }, { accessFlags := 18, nameIndex := 31, descriptorIndex := 65, attributes := #[] }, { accessFlags := 18, nameIndex := 72, descriptorIndex := 65, attributes := #[] }, { accessFlags := 18, nameIndex := 75, descriptorIndex := 65, attributes := #[] }, { accessFlags := 18, nameIndex := 78, descriptorIndex := 65, attributes := #[] }, { accessFlags := 18, nameIndex := 81, descriptorIndex := 50, attributes := #[] }, { accessFlags := 26, nameIndex := 117, descriptorIndex := 65, attributes := #[] }, { accessFlags := 26, nameIndex := 119, descriptorIndex := 65, attributes := #[] }])
  fields := #[{ name := "name", type := (.object "java/lang/String"), accessFlags := 18, slot := 0, constantValue := 0 }, { name := "criticalTemperature", type := .double, accessFlags := 18, slot := 1, constantValue := 0 }, { name := "a0", type := .double, accessFlags := 18, slot := 2, constantValue := 0 }, { name := "b", type := .double, accessFlags := 18, slot := 3, constantValue := 0 }, { name := "c1", type := .double, accessFlags := 18, slot := 4, constantValue := 0 }, { name := "associationEnergy", type := .double, accessFlags := 18, slot := 5, constantValue := 0 }, { name := "associationVolume", type := .double, accessFlags := 18, slot := 6, constantValue := 0 }, { name := "scheme", type := (.object "com/example/brinequil/brinequil/model/AssociationScheme"), accessFlags := 18, slot := 7, constantValue := 0 }, { name := "OMEGA_A", type := .double, accessFlags := 26, slot := 0, constantValue := 0 }, { name := "OMEGA_B", type := .double, accessFlags := 26, slot := 1, constantValue := 0 }]
  methods := #[k8m0, k8m1, k8m2]
  instanceTypes := #[(.object "java/lang/String"), .double, .double, .double, .double, .double, .double, (.object "com/example/brinequil/brinequil/model/AssociationScheme")]
  staticTypes := #[.double, .double]
  resolved := Array.replicate 175 none
  statics := none }

def pool9 : Array CpInfo := pool [(2, .class_ 4), (1, u "java/lang/CharSequence"), (42, .class_ 48), (0, u "java/lang/CharSequence$1CodePointIterator"), (10, .class_ 60), (0, u "java/lang/CharSequence$1CharIterator"), (5, .class_ 67), (0, u "java/lang/Object")] 63

/-- java/lang/CharSequence -/
def k9 : Class := { plain "java/lang/CharSequence" (some 0) with
  accessFlags := 1537
  interfaces := #[]
  cf := some (fileOf pool9 2 #[.nestMembers #[47, 59]] #[] 1537 66 #[] #[])
  fields := #[]
  methods := #[]
  instanceTypes := #[]
  staticTypes := #[]
  resolved := Array.replicate 131 none
  statics := none }

def pool10 : Array CpInfo := pool [(1, .class_ 2), (0, u "java/lang/constant/ConstantDesc"), (0, .class_ 4), (0, u "java/lang/Object")] 32

/-- java/lang/constant/ConstantDesc -/
def k10 : Class := { plain "java/lang/constant/ConstantDesc" (some 0) with
  accessFlags := 1537
  interfaces := #[]
  cf := some (fileOf pool10 1 #[] #[] 1537 3 #[] #[])
  fields := #[]
  methods := #[]
  instanceTypes := #[]
  staticTypes := #[]
  resolved := Array.replicate 37 none
  statics := none }

def pool11 : Array CpInfo := pool [(2, .class_ 4), (1, u "java/lang/Object"), (0, u "<init>"), (0, u "()V"), (2, .fieldref 10 11), (0, .class_ 12), (0, .nameAndType 13 14), (0, u "java/lang/String"), (0, u "value"), (0, u "[B"), (0, .fieldref 10 16), (0, .nameAndType 17 18), (0, u "coder"), (0, u "B"), (2, u "hash"), (0, u "I"), (2, u "hashIsZero"), (0, u "Z"), (11, .fieldref 10 39), (0, .nameAndType 40 26), (0, u "COMPACT_STRINGS"), (66, .class_ 109), (1, u "java/lang/StringLatin1"), (32, u "()Z"), (191, u "()I"), (0, .methodref 10 336), (0, .nameAndType 17 337), (0, u "()B"), (154, .methodref 10 493), (0, .nameAndType 494 142), (0, u "isLatin1"), (10, .methodref 10 506), (0, .nameAndType 507 334), (0, u "length"), (67, .class_ 576), (0, u "java/lang/CharSequence"), (22, u "CASE_INSENSITIVE_ORDER"), (0, u "Ljava/util/Comparator;"), (30, u "([B)I"), (244, .methodref 10 877), (0, .nameAndType 878 334), (0, u "indexOfNonWhitespace"), (45, .methodref 107 925), (0, .nameAndType 878 631), (26, u "isBlank"), (148, u "serialPersistentFields"), (0, u "[Ljava/io/ObjectStreamField;"), (0, .class_ 1104), (0, u "java/lang/String$CaseInsensitiveComparator"), (1, .class_ 1107), (0, u "java/io/Serializable"), (0, .class_ 1109), (0, u "java/lang/Comparable"), (0, .class_ 1111), (0, u "java/lang/constant/Constable"), (0, .class_ 1113), (0, u "java/lang/constant/ConstantDesc"), (2, u "serialVersionUID"), (0, u "J"), (3, u "REPL"), (0, u "C"), (2, u "LATIN1"), (1, u "UTF16")] 323

def k11m0 : Method := { name := "<init>", desc := "()V", sig := { parameters := [], returnType := none }, accessFlags := 1, code := none }
def k11c1 : Code := { maxStack := 2, maxLocals := 1, code := jdk_42_method_54_code, exceptionTable := #[], attributes := #[] }
def k11m1 : Method := { name := "length", desc := "()I", sig := { parameters := [], returnType := some .int }, accessFlags := 1, code := some k11c1 }
def k11c2 : Code := { maxStack := 2, maxLocals := 1, code := jdk_42_method_117_code, exceptionTable := #[], attributes := #[] }
def k11m2 : Method := { name := "isBlank", desc := "()Z", sig := { parameters := [], returnType := some .boolean }, accessFlags := 1, code := some k11c2 }
def k11c3 : Code := { maxStack := 1, maxLocals := 1, code := jdk_42_method_120_code, exceptionTable := #[], attributes := #[] }
def k11m3 : Method := { name := "indexOfNonWhitespace", desc := "()I", sig := { parameters := [], returnType := some .int }, accessFlags := 2, code := some k11c3 }
def k11c4 : Code := { maxStack := 1, maxLocals := 1, code := jdk_42_method_152_code, exceptionTable := #[], attributes := #[] }
def k11m4 : Method := { name := "coder", desc := "()B", sig := { parameters := [], returnType := some .byte }, accessFlags := 0, code := some k11c4 }
def k11c5 : Code := { maxStack := 1, maxLocals := 1, code := jdk_42_method_154_code, exceptionTable := #[], attributes := #[] }
def k11m5 : Method := { name := "isLatin1", desc := "()Z", sig := { parameters := [], returnType := some .boolean }, accessFlags := 0, code := some k11c5 }
/-- java/lang/String -/
def k11 : Class := { plain "java/lang/String" (some 0) with
  accessFlags := 49
  interfaces := #[4, 3, 9, 2, 10]
  cf := some (fileOf pool11 10 #[.nestMembers #[1103]] #[{ accessFlags := 1, nameIndex := 5, descriptorIndex := 6, attributes := #[] }, { accessFlags := 1, nameIndex := 507, descriptorIndex := 334, attributes := #[] }, { accessFlags := 1, nameIndex := 952, descriptorIndex := 142, attributes := #[] }, { accessFlags := 2, nameIndex := 878, descriptorIndex := 334, attributes := #[] }, { accessFlags := 0, nameIndex := 17, descriptorIndex := 337, attributes := #[] }, { accessFlags := 0, nameIndex := 494, descriptorIndex := 142, attributes := #[] }] 49 2 #[1106, 1108, 575, 1110, 1112] #[{ accessFlags := 18, nameIndex := 13, descriptorIndex := 14, attributes := #[] }, { accessFlags := 18, nameIndex := 17, descriptorIndex := 18, attributes := #[] }, { accessFlags := 2, nameIndex := 21, descriptorIndex := 22, attributes := #[] }, { accessFlags := 2, nameIndex := 25, descriptorIndex := 26, attributes := #[] }, { accessFlags := 26, nameIndex := 1116, descriptorIndex := 1117, attributes := #[] }, { accessFlags := 24, nameIndex := 40, descriptorIndex := 26, attributes := #[] }, { accessFlags := 26, nameIndex := 1101, descriptorIndex := 1102, attributes := #[] }, { accessFlags := 26, nameIndex := 1121, descriptorIndex := 1122, attributes := #[] }, { accessFlags := 25, nameIndex := 599, descriptorIndex := 600, attributes := #[] }, { accessFlags := 24, nameIndex := 1125, descriptorIndex := 18, attributes := #[] }, { accessFlags := 24, nameIndex := 1127, descriptorIndex := 18, attributes := #[] }])
  fields := #[{ name := "value", type := (.array .byte), accessFlags := 18, slot := 0, constantValue := 0 }, { name := "coder", type := .byte, accessFlags := 18, slot := 1, constantValue := 0 }, { name := "hash", type := .int, accessFlags := 2, slot := 2, constantValue := 0 }, { name := "hashIsZero", type := .boolean, accessFlags := 2, slot := 3, constantValue := 0 }, { name := "serialVersionUID", type := .long, accessFlags := 26, slot := 0, constantValue := 0 }, { name := "COMPACT_STRINGS", type := .boolean, accessFlags := 24, slot := 1, constantValue := 0 }, { name := "serialPersistentFields", type := (.array (.object "java/io/ObjectStreamField")), accessFlags := 26, slot := 2, constantValue := 0 }, { name := "REPL", type := .char, accessFlags := 26, slot := 3, constantValue := 0 }, { name := "CASE_INSENSITIVE_ORDER", type := (.object "java/util/Comparator"), accessFlags := 25, slot := 4, constantValue := 0 }, { name := "LATIN1", type := .byte, accessFlags := 24, slot := 5, constantValue := 0 }, { name := "UTF16", type := .byte, accessFlags := 24, slot := 6, constantValue := 0 }]
  methods := #[k11m0, k11m1, k11m2, k11m3, k11m4, k11m5]
  instanceTypes := #[(.array .byte), .byte, .int, .boolean]
  staticTypes := #[.long, .boolean, (.array (.object "java/io/ObjectStreamField")), .char, (.object "java/util/Comparator"), .byte, .byte]
  resolved := Array.replicate 1451 none
  statics := some 1 }

def pool12 : Array CpInfo := pool [(4, .class_ 6), (1, u "java/lang/Object"), (0, u "<init>"), (0, u "()V"), (5, .class_ 16), (1, u "java/lang/StringLatin1"), (33, .methodref 14 51), (0, .nameAndType 52 53), (0, u "getChar"), (0, u "([BI)C"), (3, u "([B)I"), (8, .fieldref 67 68), (0, .class_ 69), (0, .nameAndType 70 71), (0, u "java/lang/CharacterDataLatin1"), (0, u "instance"), (0, u "Ljava/lang/CharacterDataLatin1;"), (19, u "(I)Z"), (29, u "$assertionsDisabled"), (0, u "Z"), (88, .methodref 67 212), (0, .nameAndType 213 91), (0, u "isWhitespace"), (2, u "indexOfNonWhitespace"), (4, .class_ 223), (1, u "java/lang/StringLatin1$LinesSpliterator"), (166, .class_ 391), (0, u "java/lang/StringLatin1$CharsSpliterator")] 3

def k12m0 : Method := { name := "<init>", desc := "()V", sig := { parameters := [], returnType := none }, accessFlags := 0, code := none }
def k12c1 : Code := { maxStack := 2, maxLocals := 4, code := jdk_43_method_37_code, exceptionTable := #[], attributes := #[] }
def k12m1 : Method := { name := "indexOfNonWhitespace", desc := "([B)I", sig := { parameters := [(.array .byte)], returnType := some .int }, accessFlags := 9, code := some k12c1 }
def k12c2 : Code := { maxStack := 2, maxLocals := 2, code := jdk_43_method_44_code, exceptionTable := #[], attributes := #[] }
def k12m2 : Method := { name := "getChar", desc := "([BI)C", sig := { parameters := [(.array .byte), .int], returnType := some .char }, accessFlags := 9, code := some k12c2 }
/-- java/lang/StringLatin1 -/
def k12 : Class := { plain "java/lang/StringLatin1" (some 0) with
  accessFlags := 48
  interfaces := #[]
  cf := some (fileOf pool12 14 #[.nestMembers #[390, 221]] #[{ accessFlags := 0, nameIndex := 7, descriptorIndex := 8, attributes := #[] }, { accessFlags := 9, nameIndex := 216, descriptorIndex := 57, attributes := #[] }, { accessFlags := 9, nameIndex := 52, descriptorIndex := 53, attributes := #[] }] 48 4 #[] #[{ accessFlags := 4120, nameIndex := 121, descriptorIndex := 122, attributes := #[] }])
  fields := #[{ name := "$assertionsDisabled", type := .boolean, accessFlags := 4120, slot := 0, constantValue := 0 }]
  methods := #[k12m0, k12m1, k12m2]
  instanceTypes := #[]
  staticTypes := #[.boolean]
  resolved := Array.replicate 395 none
  statics := none }

def pool13 : Array CpInfo := pool [(2, .class_ 4), (1, u "java/lang/Object"), (0, u "<init>"), (0, u "()V"), (1, .class_ 10), (1, u "java/lang/CharacterData")] 75

def k13m0 : Method := { name := "<init>", desc := "()V", sig := { parameters := [], returnType := none }, accessFlags := 0, code := none }
/-- java/lang/CharacterData -/
def k13 : Class := { plain "java/lang/CharacterData" (some 0) with
  accessFlags := 1056
  interfaces := #[]
  cf := some (fileOf pool13 8 #[] #[{ accessFlags := 0, nameIndex := 5, descriptorIndex := 6, attributes := #[] }] 1056 2 #[] #[])
  fields := #[]
  methods := #[k13m0]
  instanceTypes := #[]
  staticTypes := #[]
  resolved := Array.replicate 86 none
  statics := none }

def pool14 : Array CpInfo := pool [(1, .fieldref 2 3), (0, .class_ 4), (0, .nameAndType 5 6), (0, u "java/lang/CharacterDataLatin1"), (0, u "A"), (0, u "[I"), (2, u "B"), (0, u "[C"), (3, u "(I)I"), (0, .methodref 2 16), (0, .nameAndType 17 14), (0, u "getProperties"), (3, u "(I)Z"), (5, u "DIGITS"), (0, u "[B"), (8, u "sharpsMap"), (1, .class_ 41), (1, u "java/lang/CharacterData"), (0, u "<init>"), (0, u "()V"), (3, u "instance"), (0, u "Ljava/lang/CharacterDataLatin1;"), (78, u "isWhitespace")] 13

def k14c0 : Code := { maxStack := 2, maxLocals := 4, code := jdk_116_method_1_code, exceptionTable := #[], attributes := #[] }
def k14m0 : Method := { name := "getProperties", desc := "(I)I", sig := { parameters := [.int], returnType := some .int }, accessFlags := 0, code := some k14c0 }
def k14c1 : Code := { maxStack := 2, maxLocals := 3, code := jdk_116_method_26_code, exceptionTable := #[], attributes := #[] }
def k14m1 : Method := { name := "isWhitespace", desc := "(I)Z", sig := { parameters := [.int], returnType := some .boolean }, accessFlags := 0, code := some k14c1 }
def k14m2 : Method := { name := "<init>", desc := "()V", sig := { parameters := [], returnType := none }, accessFlags := 2, code := none }
/-- java/lang/CharacterDataLatin1 -/
def k14 : Class := { plain "java/lang/CharacterDataLatin1" (some 13) with
  accessFlags := 32
  interfaces := #[]
  cf := some (fileOf pool14 2 #[] #[{ accessFlags := 0, nameIndex := 17, descriptorIndex := 14, attributes := #[] }, { accessFlags := 0, nameIndex := 127, descriptorIndex := 21, attributes := #[] }, { accessFlags := 2, nameIndex := 42, descriptorIndex := 43, attributes := #[] }] 32 39 #[] #[{ accessFlags := 26, nameIndex := 27, descriptorIndex := 28, attributes := #[] }, { accessFlags := 8, nameIndex := 37, descriptorIndex := 10, attributes := #[] }, { accessFlags := 24, nameIndex := 47, descriptorIndex := 48, attributes := #[] }, { accessFlags := 24, nameIndex := 5, descriptorIndex := 6, attributes := #[] }, { accessFlags := 24, nameIndex := 9, descriptorIndex := 10, attributes := #[] }])
  fields := #[{ name := "DIGITS", type := (.array .byte), accessFlags := 26, slot := 0, constantValue := 0 }, { name := "sharpsMap", type := (.array .char), accessFlags := 8, slot := 1, constantValue := 0 }, { name := "instance", type := (.object "java/lang/CharacterDataLatin1"), accessFlags := 24, slot := 2, constantValue := 0 }, { name := "A", type := (.array .int), accessFlags := 24, slot := 3, constantValue := 0 }, { name := "B", type := (.array .char), accessFlags := 24, slot := 4, constantValue := 0 }]
  methods := #[k14m0, k14m1, k14m2]
  instanceTypes := #[]
  staticTypes := #[(.array .byte), (.array .char), (.object "java/lang/CharacterDataLatin1"), (.array .int), (.array .char)]
  resolved := Array.replicate 141 none
  statics := some 2 }

def pool15 : Array CpInfo := pool [(2, .class_ 4), (1, u "java/lang/Object"), (0, u "<init>"), (0, u "()V"), (1, .class_ 10), (1, u "java/lang/Number"), (2, .class_ 14), (0, u "java/io/Serializable"), (0, u "serialVersionUID"), (0, u "J")] 20

def k15m0 : Method := { name := "<init>", desc := "()V", sig := { parameters := [], returnType := none }, accessFlags := 1, code := none }
/-- java/lang/Number -/
def k15 : Class := { plain "java/lang/Number" (some 0) with
  accessFlags := 1057
  interfaces := #[4]
  cf := some (fileOf pool15 8 #[] #[{ accessFlags := 1, nameIndex := 5, descriptorIndex := 6, attributes := #[] }] 1057 2 #[13] #[{ accessFlags := 26, nameIndex := 15, descriptorIndex := 16, attributes := #[] }])
  fields := #[{ name := "serialVersionUID", type := .long, accessFlags := 26, slot := 0, constantValue := 0 }]
  methods := #[k15m0]
  instanceTypes := #[]
  staticTypes := #[.long]
  resolved := Array.replicate 37 none
  statics := none }

def pool16 : Array CpInfo := pool [(1, .class_ 2), (0, u "java/lang/Double"), (10, u "isFinite"), (0, u "(D)Z"), (8, .class_ 25), (1, u "java/lang/Math"), (12, .methodref 23 39), (0, .nameAndType 40 41), (0, u "abs"), (0, u "(D)D"), (69, .double 9218868437227405311), (2, .class_ 116), (1, u "java/lang/Number"), (3, u "value"), (0, u "D"), (51, u "TYPE"), (0, u "Ljava/lang/Class;"), (0, .class_ 176), (0, u "java/lang/Comparable"), (0, .class_ 178), (0, u "java/lang/constant/Constable"), (0, .class_ 180), (0, u "java/lang/constant/ConstantDesc"), (0, u "POSITIVE_INFINITY"), (3, u "NEGATIVE_INFINITY"), (2, u "NaN"), (2, u "MAX_VALUE"), (0, u "MIN_NORMAL"), (0, u "MIN_VALUE"), (2, u "SIZE"), (0, u "I"), (1, u "PRECISION"), (1, u "MAX_EXPONENT"), (1, u "MIN_EXPONENT"), (1, u "BYTES"), (3, u "serialVersionUID"), (0, u "J")] 79

def k16c0 : Code := { maxStack := 4, maxLocals := 2, code := jdk_117_method_8_code, exceptionTable := #[], attributes := #[] }
def k16m0 : Method := { name := "isFinite", desc := "(D)Z", sig := { parameters := [.double], returnType := some .boolean }, accessFlags := 9, code := some k16c0 }
/-- java/lang/Double -/
def k16 : Class := { plain "java/lang/Double" (some 15) with
  accessFlags := 49
  interfaces := #[3, 2, 10]
  cf := some (fileOf pool16 1 #[] #[{ accessFlags := 9, nameIndex := 13, descriptorIndex := 14, attributes := #[] }] 49 114 #[175, 177, 179] #[{ accessFlags := 25, nameIndex := 181, descriptorIndex := 121, attributes := #[] }, { accessFlags := 25, nameIndex := 185, descriptorIndex := 121, attributes := #[] }, { accessFlags := 25, nameIndex := 188, descriptorIndex := 121, attributes := #[] }, { accessFlags := 25, nameIndex := 191, descriptorIndex := 121, attributes := #[] }, { accessFlags := 25, nameIndex := 192, descriptorIndex := 121, attributes := #[] }, { accessFlags := 25, nameIndex := 193, descriptorIndex := 121, attributes := #[] }, { accessFlags := 25, nameIndex := 196, descriptorIndex := 197, attributes := #[] }, { accessFlags := 25, nameIndex := 199, descriptorIndex := 197, attributes := #[] }, { accessFlags := 25, nameIndex := 201, descriptorIndex := 197, attributes := #[] }, { accessFlags := 25, nameIndex := 203, descriptorIndex := 197, attributes := #[] }, { accessFlags := 25, nameIndex := 205, descriptorIndex := 197, attributes := #[] }, { accessFlags := 25, nameIndex := 173, descriptorIndex := 174, attributes := #[] }, { accessFlags := 18, nameIndex := 120, descriptorIndex := 121, attributes := #[] }, { accessFlags := 26, nameIndex := 209, descriptorIndex := 210, attributes := #[] }])
  fields := #[{ name := "POSITIVE_INFINITY", type := .double, accessFlags := 25, slot := 0, constantValue := 0 }, { name := "NEGATIVE_INFINITY", type := .double, accessFlags := 25, slot := 1, constantValue := 0 }, { name := "NaN", type := .double, accessFlags := 25, slot := 2, constantValue := 0 }, { name := "MAX_VALUE", type := .double, accessFlags := 25, slot := 3, constantValue := 0 }, { name := "MIN_NORMAL", type := .double, accessFlags := 25, slot := 4, constantValue := 0 }, { name := "MIN_VALUE", type := .double, accessFlags := 25, slot := 5, constantValue := 0 }, { name := "SIZE", type := .int, accessFlags := 25, slot := 6, constantValue := 0 }, { name := "PRECISION", type := .int, accessFlags := 25, slot := 7, constantValue := 0 }, { name := "MAX_EXPONENT", type := .int, accessFlags := 25, slot := 8, constantValue := 0 }, { name := "MIN_EXPONENT", type := .int, accessFlags := 25, slot := 9, constantValue := 0 }, { name := "BYTES", type := .int, accessFlags := 25, slot := 10, constantValue := 0 }, { name := "TYPE", type := (.object "java/lang/Class"), accessFlags := 25, slot := 11, constantValue := 0 }, { name := "value", type := .double, accessFlags := 18, slot := 0, constantValue := 0 }, { name := "serialVersionUID", type := .long, accessFlags := 26, slot := 12, constantValue := 0 }]
  methods := #[k16m0]
  instanceTypes := #[.double]
  staticTypes := #[.double, .double, .double, .double, .double, .double, .int, .int, .int, .int, .int, (.object "java/lang/Class"), .long]
  resolved := Array.replicate 290 none
  statics := none }

def pool17 : Array CpInfo := pool [(1, .class_ 2), (0, u "java/lang/Math"), (1, .class_ 6), (1, u "java/lang/Object"), (0, u "<init>"), (0, u "()V"), (5, u "(D)D"), (83, .class_ 100), (1, u "java/lang/Math$RandomNumberGeneratorHolder"), (23, u "abs"), (47, u "negativeZeroFloatBits"), (0, u "J"), (2, u "negativeZeroDoubleBits"), (68, u "$assertionsDisabled"), (0, u "Z"), (91, u "twoToTheDoubleScaleDown"), (0, u "D"), (4, u "twoToTheDoubleScaleUp"), (9, u "E"), (3, u "PI"), (2, u "TAU"), (2, u "DEGREES_TO_RADIANS"), (0, u "RADIANS_TO_DEGREES")] 94

def k17m0 : Method := { name := "<init>", desc := "()V", sig := { parameters := [], returnType := none }, accessFlags := 2, code := none }
def k17c1 : Code := { maxStack := 4, maxLocals := 2, code := jdk_29_method_64_code, exceptionTable := #[], attributes := #[] }
def k17m1 : Method := { name := "abs", desc := "(D)D", sig := { parameters := [.double], returnType := some .double }, accessFlags := 9, code := some k17c1 }
/-- java/lang/Math -/
def k17 : Class := { plain "java/lang/Math" (some 0) with
  accessFlags := 49
  interfaces := #[]
  cf := some (fileOf pool17 1 #[.nestMembers #[98]] #[{ accessFlags := 2, nameIndex := 7, descriptorIndex := 8, attributes := #[] }, { accessFlags := 9, nameIndex := 124, descriptorIndex := 14, attributes := #[] }] 49 4 #[] #[{ accessFlags := 25, nameIndex := 354, descriptorIndex := 339, attributes := #[] }, { accessFlags := 25, nameIndex := 358, descriptorIndex := 339, attributes := #[] }, { accessFlags := 25, nameIndex := 361, descriptorIndex := 339, attributes := #[] }, { accessFlags := 26, nameIndex := 364, descriptorIndex := 339, attributes := #[] }, { accessFlags := 26, nameIndex := 365, descriptorIndex := 339, attributes := #[] }, { accessFlags := 26, nameIndex := 172, descriptorIndex := 173, attributes := #[] }, { accessFlags := 26, nameIndex := 176, descriptorIndex := 173, attributes := #[] }, { accessFlags := 8, nameIndex := 344, descriptorIndex := 339, attributes := #[] }, { accessFlags := 8, nameIndex := 338, descriptorIndex := 339, attributes := #[] }, { accessFlags := 4120, nameIndex := 245, descriptorIndex := 246, attributes := #[] }])
  fields := #[{ name := "E", type := .double, accessFlags := 25, slot := 0, constantValue := 0 }, { name := "PI", type := .double, accessFlags := 25, slot := 1, constantValue := 0 }, { name := "TAU", type := .double, accessFlags := 25, slot := 2, constantValue := 0 }, { name := "DEGREES_TO_RADIANS", type := .double, accessFlags := 26, slot := 3, constantValue := 0 }, { name := "RADIANS_TO_DEGREES", type := .double, accessFlags := 26, slot := 4, constantValue := 0 }, { name := "negativeZeroFloatBits", type := .long, accessFlags := 26, slot := 5, constantValue := 0 }, { name := "negativeZeroDoubleBits", type := .long, accessFlags := 26, slot := 6, constantValue := 0 }, { name := "twoToTheDoubleScaleUp", type := .double, accessFlags := 8, slot := 7, constantValue := 0 }, { name := "twoToTheDoubleScaleDown", type := .double, accessFlags := 8, slot := 8, constantValue := 0 }, { name := "$assertionsDisabled", type := .boolean, accessFlags := 4120, slot := 9, constantValue := 0 }]
  methods := #[k17m0, k17m1]
  instanceTypes := #[]
  staticTypes := #[.double, .double, .double, .double, .double, .long, .long, .double, .double, .boolean]
  resolved := Array.replicate 460 none
  statics := none }

def pool18 : Array CpInfo := pool [(2, .class_ 4), (1, u "java/lang/Object"), (0, u "<init>"), (0, u "()V"), (17, .class_ 26), (1, u "jdk/internal/util/Preconditions"), (28, .class_ 56), (0, u "jdk/internal/util/Preconditions$4"), (57, .class_ 115), (0, u "jdk/internal/util/Preconditions$1"), (7, u "SIOOBE_FORMATTER"), (0, u "Ljava/util/function/BiFunction;"), (0, .class_ 126), (0, u "jdk/internal/util/Preconditions$2"), (3, u "AIOOBE_FORMATTER"), (0, .class_ 132), (0, u "jdk/internal/util/Preconditions$3"), (3, u "IOOBE_FORMATTER")] 57

def k18m0 : Method := { name := "<init>", desc := "()V", sig := { parameters := [], returnType := none }, accessFlags := 1, code := none }
/-- jdk/internal/util/Preconditions -/
def k18 : Class := { plain "jdk/internal/util/Preconditions" (some 0) with
  accessFlags := 33
  interfaces := #[]
  cf := some (fileOf pool18 24 #[.nestMembers #[55, 131, 125, 114]] #[{ accessFlags := 1, nameIndex := 5, descriptorIndex := 6, attributes := #[] }] 33 2 #[] #[{ accessFlags := 25, nameIndex := 123, descriptorIndex := 124, attributes := #[] }, { accessFlags := 25, nameIndex := 130, descriptorIndex := 124, attributes := #[] }, { accessFlags := 25, nameIndex := 136, descriptorIndex := 124, attributes := #[] }])
  fields := #[{ name := "SIOOBE_FORMATTER", type := (.object "java/util/function/BiFunction"), accessFlags := 25, slot := 0, constantValue := 0 }, { name := "AIOOBE_FORMATTER", type := (.object "java/util/function/BiFunction"), accessFlags := 25, slot := 1, constantValue := 0 }, { name := "IOOBE_FORMATTER", type := (.object "java/util/function/BiFunction"), accessFlags := 25, slot := 2, constantValue := 0 }]
  methods := #[k18m0]
  instanceTypes := #[]
  staticTypes := #[(.object "java/util/function/BiFunction"), (.object "java/util/function/BiFunction"), (.object "java/util/function/BiFunction")]
  resolved := Array.replicate 194 none
  statics := some 3 }

def pool19 : Array CpInfo := pool [(9, u "<init>"), (6, .class_ 18), (1, u "java/lang/Object"), (0, u "()V"), (1, .class_ 23), (1, u "jdk/internal/util/ArraysSupport"), (0, u "LOG2_ARRAY_LONG_INDEX_SCALE"), (0, u "I"), (2, u "U"), (0, u "Ljdk/internal/misc/Unsafe;"), (8, u "BIG_ENDIAN"), (0, u "Z"), (8, u "LOG2_BYTE_BIT_SIZE"), (4, u "LOG2_ARRAY_INT_INDEX_SCALE"), (54, u "JLA"), (0, u "Ljdk/internal/access/JavaLangAccess;"), (11, u "LOG2_ARRAY_BOOLEAN_INDEX_SCALE"), (9, u "LOG2_ARRAY_BYTE_INDEX_SCALE"), (5, u "LOG2_ARRAY_CHAR_INDEX_SCALE"), (5, u "LOG2_ARRAY_SHORT_INDEX_SCALE"), (18, u "LOG2_ARRAY_FLOAT_INDEX_SCALE"), (24, u "LOG2_ARRAY_DOUBLE_INDEX_SCALE"), (89, u "T_BOOLEAN"), (2, u "T_CHAR"), (1, u "T_FLOAT"), (1, u "T_DOUBLE"), (1, u "T_BYTE"), (1, u "T_SHORT"), (1, u "T_INT"), (1, u "T_LONG"), (1, u "SOFT_MAX_ARRAY_LENGTH")] 83

def k19m0 : Method := { name := "<init>", desc := "()V", sig := { parameters := [], returnType := none }, accessFlags := 2, code := none }
/-- jdk/internal/util/ArraysSupport -/
def k19 : Class := { plain "jdk/internal/util/ArraysSupport" (some 0) with
  accessFlags := 33
  interfaces := #[]
  cf := some (fileOf pool19 21 #[] #[{ accessFlags := 2, nameIndex := 9, descriptorIndex := 19, attributes := #[] }] 33 16 #[] #[{ accessFlags := 24, nameIndex := 28, descriptorIndex := 29, attributes := #[] }, { accessFlags := 26, nameIndex := 38, descriptorIndex := 39, attributes := #[] }, { accessFlags := 25, nameIndex := 121, descriptorIndex := 25, attributes := #[] }, { accessFlags := 25, nameIndex := 131, descriptorIndex := 25, attributes := #[] }, { accessFlags := 25, nameIndex := 137, descriptorIndex := 25, attributes := #[] }, { accessFlags := 25, nameIndex := 143, descriptorIndex := 25, attributes := #[] }, { accessFlags := 25, nameIndex := 53, descriptorIndex := 25, attributes := #[] }, { accessFlags := 25, nameIndex := 24, descriptorIndex := 25, attributes := #[] }, { accessFlags := 25, nameIndex := 162, descriptorIndex := 25, attributes := #[] }, { accessFlags := 25, nameIndex := 187, descriptorIndex := 25, attributes := #[] }, { accessFlags := 26, nameIndex := 48, descriptorIndex := 25, attributes := #[] }, { accessFlags := 25, nameIndex := 277, descriptorIndex := 25, attributes := #[] }, { accessFlags := 25, nameIndex := 280, descriptorIndex := 25, attributes := #[] }, { accessFlags := 25, nameIndex := 282, descriptorIndex := 25, attributes := #[] }, { accessFlags := 25, nameIndex := 284, descriptorIndex := 25, attributes := #[] }, { accessFlags := 25, nameIndex := 286, descriptorIndex := 25, attributes := #[] }, { accessFlags := 25, nameIndex := 288, descriptorIndex := 25, attributes := #[] }, { accessFlags := 25, nameIndex := 290, descriptorIndex := 25, attributes := #[] }, { accessFlags := 25, nameIndex := 292, descriptorIndex := 25, attributes := #[] }, { accessFlags := 26, nameIndex := 108, descriptorIndex := 109, attributes := #[] }, { accessFlags := 25, nameIndex := 294, descriptorIndex := 25, attributes := #[] }])
  fields := #[{ name := "U", type := (.object "jdk/internal/misc/Unsafe"), accessFlags := 24, slot := 0, constantValue := 0 }, { name := "BIG_ENDIAN", type := .boolean, accessFlags := 26, slot := 1, constantValue := 0 }, { name := "LOG2_ARRAY_BOOLEAN_INDEX_SCALE", type := .int, accessFlags := 25, slot := 2, constantValue := 0 }, { name := "LOG2_ARRAY_BYTE_INDEX_SCALE", type := .int, accessFlags := 25, slot := 3, constantValue := 0 }, { name := "LOG2_ARRAY_CHAR_INDEX_SCALE", type := .int, accessFlags := 25, slot := 4, constantValue := 0 }, { name := "LOG2_ARRAY_SHORT_INDEX_SCALE", type := .int, accessFlags := 25, slot := 5, constantValue := 0 }, { name := "LOG2_ARRAY_INT_INDEX_SCALE", type := .int, accessFlags := 25, slot := 6, constantValue := 0 }, { name := "LOG2_ARRAY_LONG_INDEX_SCALE", type := .int, accessFlags := 25, slot := 7, constantValue := 0 }, { name := "LOG2_ARRAY_FLOAT_INDEX_SCALE", type := .int, accessFlags := 25, slot := 8, constantValue := 0 }, { name := "LOG2_ARRAY_DOUBLE_INDEX_SCALE", type := .int, accessFlags := 25, slot := 9, constantValue := 0 }, { name := "LOG2_BYTE_BIT_SIZE", type := .int, accessFlags := 26, slot := 10, constantValue := 0 }, { name := "T_BOOLEAN", type := .int, accessFlags := 25, slot := 11, constantValue := 0 }, { name := "T_CHAR", type := .int, accessFlags := 25, slot := 12, constantValue := 0 }, { name := "T_FLOAT", type := .int, accessFlags := 25, slot := 13, constantValue := 0 }, { name := "T_DOUBLE", type := .int, accessFlags := 25, slot := 14, constantValue := 0 }, { name := "T_BYTE", type := .int, accessFlags := 25, slot := 15, constantValue := 0 }, { name := "T_SHORT", type := .int, accessFlags := 25, slot := 16, constantValue := 0 }, { name := "T_INT", type := .int, accessFlags := 25, slot := 17, constantValue := 0 }, { name := "T_LONG", type := .int, accessFlags := 25, slot := 18, constantValue := 0 }, { name := "JLA", type := (.object "jdk/internal/access/JavaLangAccess"), accessFlags := 26, slot := 19, constantValue := 0 }, { name := "SOFT_MAX_ARRAY_LENGTH", type := .int, accessFlags := 25, slot := 20, constantValue := 0 }]
  methods := #[k19m0]
  instanceTypes := #[]
  staticTypes := #[(.object "jdk/internal/misc/Unsafe"), .boolean, .int, .int, .int, .int, .int, .int, .int, .int, .int, .int, .int, .int, .int, .int, .int, .int, .int, (.object "jdk/internal/access/JavaLangAccess"), .int]
  resolved := Array.replicate 378 none
  statics := none }

def pool20 : Array CpInfo := pool [(1, u "java/lang/Cloneable"), (0, .class_ 1), (0, u "java/lang/Object"), (0, .class_ 3)] 3

/-- java/lang/Cloneable -/
def k20 : Class := { plain "java/lang/Cloneable" (some 0) with
  accessFlags := 1537
  interfaces := #[]
  cf := some (fileOf pool20 2 #[] #[] 1537 4 #[] #[])
  fields := #[]
  methods := #[]
  instanceTypes := #[]
  staticTypes := #[]
  resolved := Array.replicate 8 none
  statics := none }

/-- the primitive byte -/
def k21 : Class := { plain "byte" none with kind := .primitive 'B', accessFlags := 0x411 }
/-- [B -/
def k22 : Class := { plain "[B" (some 0) with kind := .array 21 .byte, interfaces := #[20, 4], accessFlags := 1041 }

/-- the primitive int -/
def k23 : Class := { plain "int" none with kind := .primitive 'I', accessFlags := 0x411 }
/-- [I -/
def k24 : Class := { plain "[I" (some 0) with kind := .array 23 .int, interfaces := #[20, 4], accessFlags := 1041 }

def heap : Heap := #[{ cls := 6, slots := #[.ref 4, .ref 5, .ref 6, .null], vm := .statics 6 },
  { cls := 11, slots := #[.long 0, .int 1, .null, .int 0, .null, .int 0, .int 0], vm := .statics 11 },
  { cls := 14, slots := #[.null, .null, .ref 7, .ref 8, .null], vm := .statics 14 },
  { cls := 18, slots := #[.null, .null, .null], vm := .statics 18 },
  { cls := 6, slots := #[.null, .int 0, .int 0, .null, .int 0, .int 0], vm := .none },
  { cls := 6, slots := #[.null, .int 1, .int 0, .null, .int 1, .int 1], vm := .none },
  { cls := 6, slots := #[.null, .int 2, .int 0, .null, .int 2, .int 2], vm := .none },
  { cls := 14, slots := #[], vm := .none },
  { cls := 24, slots := #[.int 1207963663, .int 1207963663, .int 1207963663, .int 1207963663, .int 1207963663, .int 1207963663, .int 1207963663, .int 1207963663, .int 1207963663, .int 1476411407, .int 1342193679, .int 1476411407, .int 1610629135, .int 1342193679, .int 1207963663, .int 1207963663, .int 1207963663, .int 1207963663, .int 1207963663, .int 1207963663, .int 1207963663, .int 1207963663, .int 1207963663, .int 1207963663, .int 1207963663, .int 1207963663, .int 1207963663, .int 1207963663, .int 1342193679, .int 1342193679, .int 1342193679, .int 1476411407, .int 1610629132, .int 1744830488, .int 1744830488, .int 671088664, .int 671113242, .int 671088664, .int 1744830488, .int 1744830488, .int (-402653163), .int (-402653162), .int 1744830488, .int 536870937, .int 939524120, .int 536870932, .int 939524120, .int 939524120, .int 402667017, .int 402667017, .int 402667017, .int 402667017, .int 402667017, .int 402667017, .int 402667017, .int 402667017, .int 402667017, .int 402667017, .int 939524120, .int 1744830488, .int (-402653159), .int 1744830489, .int (-402653159), .int 1744830488, .int 1744830488, .int 8552417, .int 8552417, .int 8552417, .int 8552417, .int 8552417, .int 8552417, .int 8552417, .int 8552417, .int 8552417, .int 8552417, .int 8552417, .int 8552417, .int 8552417, .int 8552417, .int 8552417, .int 8552417, .int 8552417, .int 8552417, .int 8552417, .int 8552417, .int 8552417, .int 8552417, .int 8552417, .int 8552417, .int 8552417, .int 8552417, .int (-402653163), .int 1744830488, .int (-402653162), .int 1744830491, .int 1744850967, .int 1744830491, .int 8486882, .int 8486882, .int 8486882, .int 8486882, .int 8486882, .int 8486882, .int 8486882, .int 8486882, .int 8486882, .int 8486882, .int 8486882, .int 8486882, .int 8486882, .int 8486882, .int 8486882, .int 8486882, .int 8486882, .int 8486882, .int 8486882, .int 8486882, .int 8486882, .int 8486882, .int 8486882, .int 8486882, .int 8486882, .int 8486882, .int (-402653163), .int 1744830489, .int (-402653162), .int 1744830489, .int 1207963663, .int 1207963663, .int 1207963663, .int 1207963663, .int 1207963663, .int 1207963663, .int 1342181391, .int 1207963663, .int 1207963663, .int 1207963663, .int 1207963663, .int 1207963663, .int 1207963663, .int 1207963663, .int 1207963663, .int 1207963663, .int 1207963663, .int 1207963663, .int 1207963663, .int 1207963663, .int 1207963663, .int 1207963663, .int 1207963663, .int 1207963663, .int 1207963663, .int 1207963663, .int 1207963663, .int 1207963663, .int 1207963663, .int 1207963663, .int 1207963663, .int 1207963663, .int 1207963663, .int 939524108, .int 1744830488, .int 671113242, .int 671113242, .int 671113242, .int 671113242, .int 1744830492, .int 1744830488, .int 1744830491, .int 1744830492, .int 28677, .int (-402653155), .int 1744830489, .int 1207963664, .int 1744830492, .int 1744830491, .int 671088668, .int 671088665, .int 402654731, .int 402654731, .int 1744830491, .int 134049794, .int 1744830488, .int 1744830488, .int 1744830491, .int 402654475, .int 28677, .int (-402653154), .int 1744832523, .int 1744832523, .int 1744832523, .int 1744830488, .int 8548353, .int 8548353, .int 8548353, .int 8548353, .int 8548353, .int 8548353, .int 8548353, .int 8548353, .int 8548353, .int 8548353, .int 8548353, .int 8548353, .int 8548353, .int 8548353, .int 8548353, .int 8548353, .int 8548353, .int 8548353, .int 8548353, .int 8548353, .int 8548353, .int 8548353, .int 8548353, .int 1744830489, .int 8548353, .int 8548353, .int 8548353, .int 8548353, .int 8548353, .int 8548353, .int 8548353, .int 134049794, .int 8482818, .int 8482818, .int 8482818, .int 8482818, .int 8482818, .int 8482818, .int 8482818, .int 8482818, .int 8482818, .int 8482818, .int 8482818, .int 8482818, .int 8482818, .int 8482818, .int 8482818, .int 8482818, .int 8482818, .int 8482818, .int 8482818, .int 8482818, .int 8482818, .int 8482818, .int 8482818, .int 1744830489, .int 8482818, .int 8482818, .int 8482818, .int 8482818, .int 8482818, .int 8482818, .int 8482818, .int 102592514], vm := .none }]
def classes : Array Class := #[k0, k1, k2, k3, k4, k5, k6, k7, k8, k9, k10, k11, k12, k13, k14, k15, k16, k17, k18, k19, k20, k21, k22, k23, k24]
def interned : List (Array UInt16 × Addr) := []
def slotsUsed : Nat := 293
def theMethod : MethodId := ⟨1, 1⟩
def args0 : Array Value := #[.int 5, .int 7, .int 4, .int 9, .int 9, .int 9]
def aboutOver (below : List Frame) : State where
  vm := { classes := classes, interned := interned.toArray }
  heap := heap
  slotsUsed := slotsUsed
  threads := #[{ frames := .invoking theMethod args0 :: below }]
def below0 : List Frame := [.native { method := ⟨0, 0⟩, args := #[] }]
def about1 : State := aboutOver below0
def p0 : Program := .bare "" "" ""
def e0 : Env := launch0.env 0 0 0
theorem w_frames : about1.frames = Frame.invoking theMethod args0 :: below0 := rfl
set_option maxRecDepth 65536 in
theorem w_args : argsFit about1.vm theMethod args0 = true := by decide +kernel
set_option maxRecDepth 65536 in
theorem w_heap : heapFits about1 = true := by decide +kernel
set_option maxRecDepth 65536 in
theorem w_runnable : about1.curStatus? = some .runnable := by decide +kernel
set_option maxRecDepth 65536 in
theorem w_alone : about1.alone = true := by decide +kernel
set_option maxRecDepth 65536 in
theorem w_named : about1.methodNamed? x = some theMethod := by decide +kernel
set_option maxRecDepth 65536 in
theorem w_hears : about1.hears theMethod below0 = true := by decide +kernel
set_option maxRecDepth 65536 in
theorem w_ripe : about1.ripe theMethod args0 below0 = true := by decide +kernel
theorem w_running : about1.status = .running := rfl
set_option maxRecDepth 65536 in
theorem w_room : about1.hasRoom e0.platform room_1 = true :=
  launch0.hasRoom_least _ room_1 (by decide +kernel) (by decide +kernel) (by decide +kernel) (by decide +kernel) (by decide +kernel) (by decide +kernel)
theorem allAtoms_all (ts : List Jvm.Cond) (a : Array Jvm.Value) (st : Jvm.State) : (allAtoms ts).before a st = ts.all (fun c => c.before a st) := by
  induction ts with
  | nil => rfl
  | cons c t ih =>
    show (Jvm.Cond.and c (allAtoms t)).before a st = _
    rw [Jvm.Cond.before_and, ih, List.all_cons]
def words1 : List Jvm.Cond := Jvm.Cond.code x code maxLocals ret :: tables_1
/-- a 'code' word, met by the world's own term for the bytes: nothing is compared byte by byte -/
theorem code_word {y : MethodName} {bytes : ByteArray} {mx : Nat} {rt : Option FieldType} {a : Array Value} {s : State} {m : MethodId} {meth : Method} {c : Code} (h1 : s.methodNamed? y = some m) (h2 : s.vm.method? m = some meth) (h3 : meth.code = some c) (h4 : c.code = bytes)
    (h5 : (c.maxLocals == mx && c.exceptionTable.isEmpty && decide (c.maxStack ≤ mostOperands) && decide (meth.sig.returnType = rt) && !meth.locks && decide (parseMethodDescriptor y.desc = some meth.sig)) = true) : (Jvm.Cond.code y bytes mx rt).before a s = true := by
  simp only [Bool.and_eq_true, beq_iff_eq, Bool.not_eq_true', decide_eq_true_eq] at h5
  obtain ⟨⟨⟨⟨⟨g1, g2⟩, g3⟩, g4⟩, g5⟩, g6⟩ := h5
  simp [Cond.before, Cond.holds, Cond.value, h1, h2, h3, h4, g1, g2, g3, g4, g5, g6]
def isCode : Jvm.Cond → Bool
  | .code _ _ _ _ => true
  | _ => false
theorem all_split {L : List Jvm.Cond} {P : Jvm.Cond → Bool} (h1 : L.all (fun c => isCode c || P c) = true) (h2 : ∀ c ∈ L.filter isCode, P c = true) : L.all P = true := by
  refine List.all_eq_true.mpr fun c hc => ?_
  have h := List.all_eq_true.mp h1 c hc
  rcases Bool.eq_false_or_eq_true (isCode c) with hi | hi
  · exact h2 c (List.mem_filter.mpr ⟨hc, hi⟩)
  · simpa [hi] using h
set_option maxRecDepth 65536 in
theorem w_c0 : (Jvm.Cond.code x code maxLocals ret).before args0 about1 = true := code_word (m := ⟨1, 1⟩) (meth := k1m1) (c := k1c1) (by decide +kernel) rfl rfl rfl (by decide +kernel)
set_option maxRecDepth 65536 in
theorem w_c1 : (Jvm.Cond.code ({ cls := "com/example/brinequil/brinequil/model/Component", name := "<init>", desc := "(Ljava/lang/String;DDDDDDLcom/example/brinequil/brinequil/model/AssociationScheme;)V" } : Jvm.MethodName) prog_24_method_1_code (15 : Nat) (Option.none : Option Jvm.ClassFile.FieldType)).before args0 about1 = true := code_word (m := ⟨8, 0⟩) (meth := k8m0) (c := k8c0) (by decide +kernel) rfl rfl rfl (by decide +kernel)
set_option maxRecDepth 65536 in
theorem w_c2 : (Jvm.Cond.code ({ cls := "java/lang/Record", name := "<init>", desc := "()V" } : Jvm.MethodName) jdk_30_method_1_code (1 : Nat) (Option.none : Option Jvm.ClassFile.FieldType)).before args0 about1 = true := code_word (m := ⟨7, 0⟩) (meth := k7m0) (c := k7c0) (by decide +kernel) rfl rfl rfl (by decide +kernel)
set_option maxRecDepth 65536 in
theorem w_c3 : (Jvm.Cond.code ({ cls := "java/lang/Object", name := "<init>", desc := "()V" } : Jvm.MethodName) object_method_1_code (1 : Nat) (Option.none : Option Jvm.ClassFile.FieldType)).before args0 about1 = true := code_word (m := ⟨0, 0⟩) (meth := k0m0) (c := k0c0) (by decide +kernel) rfl rfl rfl (by decide +kernel)
set_option maxRecDepth 65536 in
theorem w_c4 : (Jvm.Cond.code ({ cls := "java/lang/String", name := "isBlank", desc := "()Z" } : Jvm.MethodName) jdk_42_method_117_code (1 : Nat) (Option.some Jvm.ClassFile.FieldType.boolean)).before args0 about1 = true := code_word (m := ⟨11, 2⟩) (meth := k11m2) (c := k11c2) (by decide +kernel) rfl rfl rfl (by decide +kernel)
set_option maxRecDepth 65536 in
theorem w_c5 : (Jvm.Cond.code ({ cls := "java/lang/String", name := "indexOfNonWhitespace", desc := "()I" } : Jvm.MethodName) jdk_42_method_120_code (1 : Nat) (Option.some Jvm.ClassFile.FieldType.int)).before args0 about1 = true := code_word (m := ⟨11, 3⟩) (meth := k11m3) (c := k11c3) (by decide +kernel) rfl rfl rfl (by decide +kernel)
set_option maxRecDepth 65536 in
theorem w_c6 : (Jvm.Cond.code ({ cls := "java/lang/String", name := "isLatin1", desc := "()Z" } : Jvm.MethodName) jdk_42_method_154_code (1 : Nat) (Option.some Jvm.ClassFile.FieldType.boolean)).before args0 about1 = true := code_word (m := ⟨11, 5⟩) (meth := k11m5) (c := k11c5) (by decide +kernel) rfl rfl rfl (by decide +kernel)
set_option maxRecDepth 65536 in
theorem w_c7 : (Jvm.Cond.code ({ cls := "java/lang/StringLatin1", name := "indexOfNonWhitespace", desc := "([B)I" } : Jvm.MethodName) jdk_43_method_37_code (4 : Nat) (Option.some Jvm.ClassFile.FieldType.int)).before args0 about1 = true := code_word (m := ⟨12, 1⟩) (meth := k12m1) (c := k12c1) (by decide +kernel) rfl rfl rfl (by decide +kernel)
set_option maxRecDepth 65536 in
theorem w_c8 : (Jvm.Cond.code ({ cls := "java/lang/StringLatin1", name := "getChar", desc := "([BI)C" } : Jvm.MethodName) jdk_43_method_44_code (2 : Nat) (Option.some Jvm.ClassFile.FieldType.char)).before args0 about1 = true := code_word (m := ⟨12, 2⟩) (meth := k12m2) (c := k12c2) (by decide +kernel) rfl rfl rfl (by decide +kernel)
set_option maxRecDepth 65536 in
theorem w_c9 : (Jvm.Cond.code ({ cls := "java/lang/CharacterDataLatin1", name := "isWhitespace", desc := "(I)Z" } : Jvm.MethodName) jdk_116_method_26_code (3 : Nat) (Option.some Jvm.ClassFile.FieldType.boolean)).before args0 about1 = true := code_word (m := ⟨14, 1⟩) (meth := k14m1) (c := k14c1) (by decide +kernel) rfl rfl rfl (by decide +kernel)
set_option maxRecDepth 65536 in
theorem w_c10 : (Jvm.Cond.code ({ cls := "java/lang/CharacterDataLatin1", name := "getProperties", desc := "(I)I" } : Jvm.MethodName) jdk_116_method_1_code (4 : Nat) (Option.some Jvm.ClassFile.FieldType.int)).before args0 about1 = true := code_word (m := ⟨14, 0⟩) (meth := k14m0) (c := k14c0) (by decide +kernel) rfl rfl rfl (by decide +kernel)
set_option maxRecDepth 65536 in
theorem w_c11 : (Jvm.Cond.code ({ cls := "java/lang/String", name := "length", desc := "()I" } : Jvm.MethodName) jdk_42_method_54_code (1 : Nat) (Option.some Jvm.ClassFile.FieldType.int)).before args0 about1 = true := code_word (m := ⟨11, 1⟩) (meth := k11m1) (c := k11c1) (by decide +kernel) rfl rfl rfl (by decide +kernel)
set_option maxRecDepth 65536 in
theorem w_c12 : (Jvm.Cond.code ({ cls := "java/lang/String", name := "coder", desc := "()B" } : Jvm.MethodName) jdk_42_method_152_code (1 : Nat) (Option.some Jvm.ClassFile.FieldType.byte)).before args0 about1 = true := code_word (m := ⟨11, 4⟩) (meth := k11m4) (c := k11c4) (by decide +kernel) rfl rfl rfl (by decide +kernel)
set_option maxRecDepth 65536 in
theorem w_c13 : (Jvm.Cond.code ({ cls := "com/example/brinequil/brinequil/model/Component", name := "requirePositive", desc := "(Ljava/lang/String;Ljava/lang/String;D)V" } : Jvm.MethodName) prog_24_method_4_code (4 : Nat) (Option.none : Option Jvm.ClassFile.FieldType)).before args0 about1 = true := code_word (m := ⟨8, 2⟩) (meth := k8m2) (c := k8c2) (by decide +kernel) rfl rfl rfl (by decide +kernel)
set_option maxRecDepth 65536 in
theorem w_c14 : (Jvm.Cond.code ({ cls := "java/lang/Double", name := "isFinite", desc := "(D)Z" } : Jvm.MethodName) jdk_117_method_8_code (2 : Nat) (Option.some Jvm.ClassFile.FieldType.boolean)).before args0 about1 = true := code_word (m := ⟨16, 0⟩) (meth := k16m0) (c := k16c0) (by decide +kernel) rfl rfl rfl (by decide +kernel)
set_option maxRecDepth 65536 in
theorem w_c15 : (Jvm.Cond.code ({ cls := "java/lang/Math", name := "abs", desc := "(D)D" } : Jvm.MethodName) jdk_29_method_64_code (2 : Nat) (Option.some Jvm.ClassFile.FieldType.double)).before args0 about1 = true := code_word (m := ⟨17, 1⟩) (meth := k17m1) (c := k17c1) (by decide +kernel) rfl rfl rfl (by decide +kernel)
set_option maxRecDepth 65536 in
theorem w_c16 : (Jvm.Cond.code ({ cls := "com/example/brinequil/brinequil/model/AssociationScheme", name := "donors", desc := "()I" } : Jvm.MethodName) prog_18_method_4_code (1 : Nat) (Option.some Jvm.ClassFile.FieldType.int)).before args0 about1 = true := code_word (m := ⟨6, 0⟩) (meth := k6m0) (c := k6c0) (by decide +kernel) rfl rfl rfl (by decide +kernel)
set_option maxRecDepth 65536 in
theorem w_c17 : (Jvm.Cond.code ({ cls := "com/example/brinequil/brinequil/model/AssociationScheme", name := "acceptors", desc := "()I" } : Jvm.MethodName) prog_18_method_5_code (1 : Nat) (Option.some Jvm.ClassFile.FieldType.int)).before args0 about1 = true := code_word (m := ⟨6, 1⟩) (meth := k6m1) (c := k6c1) (by decide +kernel) rfl rfl rfl (by decide +kernel)
set_option maxRecDepth 65536 in
theorem w_c18 : (Jvm.Cond.code ({ cls := "com/example/brinequil/brinequil/model/Component", name := "associates", desc := "()Z" } : Jvm.MethodName) prog_24_method_3_code (1 : Nat) (Option.some Jvm.ClassFile.FieldType.boolean)).before args0 about1 = true := code_word (m := ⟨8, 1⟩) (meth := k8m1) (c := k8c1) (by decide +kernel) rfl rfl rfl (by decide +kernel)
def codes1 : List Jvm.Cond := [Jvm.Cond.code x code maxLocals ret, Jvm.Cond.code ({ cls := "com/example/brinequil/brinequil/model/Component", name := "<init>", desc := "(Ljava/lang/String;DDDDDDLcom/example/brinequil/brinequil/model/AssociationScheme;)V" } : Jvm.MethodName) prog_24_method_1_code (15 : Nat) (Option.none : Option Jvm.ClassFile.FieldType), Jvm.Cond.code ({ cls := "java/lang/Record", name := "<init>", desc := "()V" } : Jvm.MethodName) jdk_30_method_1_code (1 : Nat) (Option.none : Option Jvm.ClassFile.FieldType), Jvm.Cond.code ({ cls := "java/lang/Object", name := "<init>", desc := "()V" } : Jvm.MethodName) object_method_1_code (1 : Nat) (Option.none : Option Jvm.ClassFile.FieldType), Jvm.Cond.code ({ cls := "java/lang/String", name := "isBlank", desc := "()Z" } : Jvm.MethodName) jdk_42_method_117_code (1 : Nat) (Option.some Jvm.ClassFile.FieldType.boolean), Jvm.Cond.code ({ cls := "java/lang/String", name := "indexOfNonWhitespace", desc := "()I" } : Jvm.MethodName) jdk_42_method_120_code (1 : Nat) (Option.some Jvm.ClassFile.FieldType.int), Jvm.Cond.code ({ cls := "java/lang/String", name := "isLatin1", desc := "()Z" } : Jvm.MethodName) jdk_42_method_154_code (1 : Nat) (Option.some Jvm.ClassFile.FieldType.boolean), Jvm.Cond.code ({ cls := "java/lang/StringLatin1", name := "indexOfNonWhitespace", desc := "([B)I" } : Jvm.MethodName) jdk_43_method_37_code (4 : Nat) (Option.some Jvm.ClassFile.FieldType.int), Jvm.Cond.code ({ cls := "java/lang/StringLatin1", name := "getChar", desc := "([BI)C" } : Jvm.MethodName) jdk_43_method_44_code (2 : Nat) (Option.some Jvm.ClassFile.FieldType.char), Jvm.Cond.code ({ cls := "java/lang/CharacterDataLatin1", name := "isWhitespace", desc := "(I)Z" } : Jvm.MethodName) jdk_116_method_26_code (3 : Nat) (Option.some Jvm.ClassFile.FieldType.boolean), Jvm.Cond.code ({ cls := "java/lang/CharacterDataLatin1", name := "getProperties", desc := "(I)I" } : Jvm.MethodName) jdk_116_method_1_code (4 : Nat) (Option.some Jvm.ClassFile.FieldType.int), Jvm.Cond.code ({ cls := "java/lang/String", name := "length", desc := "()I" } : Jvm.MethodName) jdk_42_method_54_code (1 : Nat) (Option.some Jvm.ClassFile.FieldType.int), Jvm.Cond.code ({ cls := "java/lang/String", name := "coder", desc := "()B" } : Jvm.MethodName) jdk_42_method_152_code (1 : Nat) (Option.some Jvm.ClassFile.FieldType.byte), Jvm.Cond.code ({ cls := "com/example/brinequil/brinequil/model/Component", name := "requirePositive", desc := "(Ljava/lang/String;Ljava/lang/String;D)V" } : Jvm.MethodName) prog_24_method_4_code (4 : Nat) (Option.none : Option Jvm.ClassFile.FieldType), Jvm.Cond.code ({ cls := "java/lang/Double", name := "isFinite", desc := "(D)Z" } : Jvm.MethodName) jdk_117_method_8_code (2 : Nat) (Option.some Jvm.ClassFile.FieldType.boolean), Jvm.Cond.code ({ cls := "java/lang/Math", name := "abs", desc := "(D)D" } : Jvm.MethodName) jdk_29_method_64_code (2 : Nat) (Option.some Jvm.ClassFile.FieldType.double), Jvm.Cond.code ({ cls := "com/example/brinequil/brinequil/model/AssociationScheme", name := "donors", desc := "()I" } : Jvm.MethodName) prog_18_method_4_code (1 : Nat) (Option.some Jvm.ClassFile.FieldType.int), Jvm.Cond.code ({ cls := "com/example/brinequil/brinequil/model/AssociationScheme", name := "acceptors", desc := "()I" } : Jvm.MethodName) prog_18_method_5_code (1 : Nat) (Option.some Jvm.ClassFile.FieldType.int), Jvm.Cond.code ({ cls := "com/example/brinequil/brinequil/model/Component", name := "associates", desc := "()Z" } : Jvm.MethodName) prog_24_method_3_code (1 : Nat) (Option.some Jvm.ClassFile.FieldType.boolean)]
set_option maxRecDepth 65536 in
theorem codes_eq : words1.filter isCode = codes1 := rfl
theorem w_codes : ∀ c ∈ words1.filter isCode, c.before args0 about1 = true := by
  rw [codes_eq]
  intro c hc
  simp only [codes1, List.mem_cons, List.not_mem_nil, or_false] at hc
  rcases hc with rfl | rfl | rfl | rfl | rfl | rfl | rfl | rfl | rfl | rfl | rfl | rfl | rfl | rfl | rfl | rfl | rfl | rfl | rfl
  · exact w_c0
  · exact w_c1
  · exact w_c2
  · exact w_c3
  · exact w_c4
  · exact w_c5
  · exact w_c6
  · exact w_c7
  · exact w_c8
  · exact w_c9
  · exact w_c10
  · exact w_c11
  · exact w_c12
  · exact w_c13
  · exact w_c14
  · exact w_c15
  · exact w_c16
  · exact w_c17
  · exact w_c18
set_option maxRecDepth 65536 in
theorem w_t1 : (words1.take 24).all (fun c => isCode c || c.before args0 about1) = true := by decide +kernel
set_option maxRecDepth 65536 in
theorem w_t2 : ((words1.drop 24).take 24).all (fun c => isCode c || c.before args0 about1) = true := by decide +kernel
set_option maxRecDepth 65536 in
theorem w_t3 : (((words1.drop 24).drop 24).take 24).all (fun c => isCode c || c.before args0 about1) = true := by decide +kernel
set_option maxRecDepth 65536 in
theorem w_t4 : ((((words1.drop 24).drop 24).drop 24).take 24).all (fun c => isCode c || c.before args0 about1) = true := by decide +kernel
set_option maxRecDepth 65536 in
theorem w_t5 : (((((words1.drop 24).drop 24).drop 24).drop 24).take 24).all (fun c => isCode c || c.before args0 about1) = true := by decide +kernel
set_option maxRecDepth 65536 in
theorem w_t6 : (((((words1.drop 24).drop 24).drop 24).drop 24).drop 24).all (fun c => isCode c || c.before args0 about1) = true := by decide +kernel
theorem w_tables : (allAtoms (Jvm.Cond.code x code maxLocals ret :: tables_1)).before args0 about1 = true := by
  rw [allAtoms_all]
  show words1.all (fun c => c.before args0 about1) = true
  refine all_split ?_ w_codes
  rw [← List.take_append_drop 24 words1, List.all_append, w_t1, ← List.take_append_drop 24 (words1.drop 24), List.all_append, w_t2, ← List.take_append_drop 24 ((words1.drop 24).drop 24), List.all_append, w_t3, ← List.take_append_drop 24 (((words1.drop 24).drop 24).drop 24), List.all_append, w_t4, ← List.take_append_drop 24 ((((words1.drop 24).drop 24).drop 24).drop 24), List.all_append, w_t5, w_t6]
  rfl
set_option maxRecDepth 65536 in
theorem w_rest : rest_1_c.before args0 about1 = true := by decide +kernel
set_option maxRecDepth 65536 in
theorem w_case : (Jvm.Cond.and given_1 narrow_1).before args0 about1 = true := by decide +kernel
set_option maxRecDepth 65536 in
theorem w_consts : constsHeld consts_1 about1 := Jvm.Lit.constsHeldB_iff.mp (by decide +kernel)
theorem w_applies : (headSpec (Jvm.Cond.code x code maxLocals ret :: tables_1) room_1).applies x e0.platform about1 = true :=
  (Spec.applies_iff w_frames).mpr ⟨w_running, w_runnable, w_alone, w_named, w_hears, w_ripe, w_room, w_tables⟩
theorem atStart : AtStart classFile x code maxLocals ret World_1 tables_1 room_1 Calls_1 rest_1 Pre_1 launch0 p0 e0 about1 theMethod args0 below0 :=
  ⟨lists_1, trivial, launch0.admits_env _ _ _, launch0.least_env, fairChoices_fair.cas, fairChoices_fair.clock, w_frames, w_args, w_heap, w_applies, ⟨w_consts, trivial⟩, w_rest, w_case⟩
end start1
theorem witness_1 : WitnessClaimed_1 := ⟨start1.p0, start1.e0, start1.about1, start1.theMethod, start1.args0, start1.below0, start1.atStart⟩
end Jvm.Pilot.@@N@@
