import JvmDerived
import JvmDerived.Pilot.@@N@@Statement
import JvmDerived.Pilot.@@N@@Code
set_option linter.unusedVariables false
set_option linter.unusedSimpArgs false
namespace Jvm.Pilot.@@N@@
open Jvm Jvm.ClassFile Sem Op Lib Jvm.Free Jvm.Stand Jvm.LawKit Jvm.RoadKit Bundle Jvm.Free.Fl Jvm.Pilot.@@N@@.Jvm.D
/-! the run stands at F in T, and comes to an end that P says -/
def own_Go (p : Program) (e : Env) (below : List Frame) (P : Outcome → State → Prop) (T : State) (F : JFrame) : Prop :=
  ∃ s₂ o, Steps p.tables e below (T.setTop F) s₂ ∧ s₂.status = .running ∧ Ended s₂ below o ∧ P o s₂
theorem own_step {p : Program} {e : Env} {below : List Frame} {P : Outcome → State → Prop} {T T' : State} {F F' : JFrame} (st : ∀ t, Steps p.tables e below (T'.setTop F') t → Steps p.tables e below (T.setTop F) t) (h : own_Go p e below P T' F') : own_Go p e below P T F := by
  obtain ⟨s₂, o, h1, h2⟩ := h
  exact ⟨s₂, o, st _ h1, h2⟩
theorem own_cast {p : Program} {e : Env} {below : List Frame} {P : Outcome → State → Prop} {T : State} {F F' : JFrame} (q : F = F') (h : own_Go p e below P T F') : own_Go p e below P T F := q ▸ h
theorem own_all {p : Program} {e : Env} {below : List Frame} {Q : Outcome → State → Prop} {T : State} {F : JFrame} (h : ∀ P : Outcome → State → Prop, (∀ o U, Q o U → P o U) → own_Go p e below P T F) : own_Go p e below Q T F := h Q fun _ _ q => q
/-! the doubles hold whole numbers: what is reckoned of them is reckoned of the longs -/
theorem own_zero : FP.dconst0 = FP.l2d 0 := by decide +kernel
theorem own_b (x : Int32) : B53 x.toInt64 := by have := rng32 x; have := c_i2l x; exact ⟨by omega, by omega⟩
theorem own_sub (x y : Int32) : (x.toInt64 - y.toInt64).toInt = x.toInt - y.toInt := by rw [sub64 (own_b x) (own_b y), c_i2l, c_i2l]
theorem own_bs (x y : Int32) : B53 (x.toInt64 - y.toInt64) := by have := rng32 x; have := rng32 y; have := own_sub x y; exact ⟨by omega, by omega⟩
def own_m (u w : Int64) : Int64 := if u < w then w else u
def own_M (u w : Int64) : Int64 := own_m 0 (own_m u w)
theorem own_bm {u w : Int64} (hu : B53 u) (hw : B53 w) : B53 (own_m u w) := by unfold own_m; split <;> assumption
theorem own_b0 : B53 0 := ⟨by decide, by decide⟩
theorem own_pick {u w : Int64} (hu : B53 u) (hw : B53 w) : Jvm.Native.java_lang_Math.nans.pick64 true (FP.l2d u) (FP.l2d w) = FP.l2d (own_m u w) := by
  unfold own_m; split
  · rename_i h; exact max_l hu hw h
  · rename_i h; exact max_g hu hw h
theorem own_mi (u w : Int64) : (own_m u w).toInt = if u.toInt < w.toInt then w.toInt else u.toInt := by
  unfold own_m; simp only [Int64.lt_iff_toInt_lt]; split <;> rfl
theorem own_ge0 (u w : Int64) : ¬ lcmpW (own_M u w) 0 < 0 ∧ ¬ lcmpW (own_M u w) u < 0 ∧ ¬ lcmpW (own_M u w) w < 0 := by
  have h1 := own_mi 0 (own_m u w); have h2 := own_mi u w
  have h0 : (0 : Int64).toInt = 0 := rfl
  rw [h0] at h1
  refine ⟨fun h => ?_, fun h => ?_, fun h => ?_⟩ <;> rw [lw_lt, Int64.lt_iff_toInt_lt] at h <;> unfold own_M at h <;> rw [h1] at h <;> (try rw [h0] at h) <;> repeat' split at * <;> omega
theorem own_one (u w : Int64) (h1 : ¬ lcmpW (own_M u w) 0 = 0) (h2 : ¬ lcmpW (own_M u w) u = 0) : lcmpW (own_M u w) w = 0 := by
  rw [lw_eq, ← Int64.toInt_inj] at h1 h2 ⊢
  have a2 := own_mi u w
  have a1 := own_mi 0 (own_m u w)
  have h0 : (0 : Int64).toInt = 0 := rfl
  rw [h0] at a1 h1
  unfold own_M at *
  generalize (own_m 0 (own_m u w)).toInt = M at *
  generalize (own_m u w).toInt = mm at *
  split at a1 <;> split at a2 <;> omega
theorem ef_1 (m : MethodId) (x0 : UInt64) (x1 : UInt64) (x2 : UInt64) (x3 : UInt64) : entryFrame m #[(.double x0), (.double x1), (.double x2), (.double x3)] 8 = mkF m 0 #[.val (.double x0), .second, .val (.double x1), .second, .val (.double x2), .second, .val (.double x3), .second] [] := by first | (simp [entryFrame, mkF, argsToLocals, Value.category]; done) | rfl
theorem pn_com_example_synopsis_synopsis_DistanceBound : plainName "com/example/synopsis/synopsis/DistanceBound" = true := by first | (simp [plainName, overriddenIn]; done) | decide +kernel
theorem d1_0 : decode prog_10_method_2_code 0 = .ok (.dconst 0, 1) := by decide +kernel
theorem d1_1 : decode prog_10_method_2_code 1 = .ok (.dload_n 2, 1) := by decide +kernel
theorem d1_2 : decode prog_10_method_2_code 2 = .ok (.dload 6, 2) := by decide +kernel
theorem d1_4 : decode prog_10_method_2_code 4 = .ok (.dsub, 1) := by decide +kernel
theorem d1_5 : decode prog_10_method_2_code 5 = .ok (.dload 4, 2) := by decide +kernel
theorem d1_7 : decode prog_10_method_2_code 7 = .ok (.dload_n 0, 1) := by decide +kernel
theorem d1_8 : decode prog_10_method_2_code 8 = .ok (.dsub, 1) := by decide +kernel
theorem pd__DD__D : parseMethodDescriptor "(DD)D" = some ⟨[.double, .double], some .double⟩ := by decide +kernel
theorem d1_9 : decode prog_10_method_2_code 9 = .ok (.invokestatic 7, 3) := by decide +kernel
theorem d1_12 : decode prog_10_method_2_code 12 = .ok (.invokestatic 7, 3) := by decide +kernel
theorem d1_15 : decode prog_10_method_2_code 15 = .ok (.dreturn, 1) := by decide +kernel
def Q1 (Z : State) (p0 : Int32) (p1 : Int32) (p2 : Int32) (p3 : Int32) (h0 : Heap) (n0 : Nat) (v : Option Value) (h : Heap) (L : List Loc) : Prop := v = some (.double (FP.l2d (own_M (p1.toInt64 - p3.toInt64) (p2.toInt64 - p0.toInt64)))) ∧ Fr n0 L ∧ h = h0
set_option maxRecDepth 65536 in
set_option maxHeartbeats 40000000 in
theorem rm1 (l : Launch) (Z : State) (a0 : Array Value) (hw : ∀ d ∈ tables_1, d.before a0 Z = true) (ws : List Jvm.Cond) (p0 : Int32) (p1 : Int32) (p2 : Int32) (p3 : Int32) (h0 : Heap) (n0 : Nat) (Z0 : n0 ≤ h0.size) :
    MetFree l (⟨"com/example/synopsis/synopsis/DistanceBound", "covering", "(DDDD)D"⟩ : MethodName) (head1 (Jvm.Cond.code (⟨"com/example/synopsis/synopsis/DistanceBound", "covering", "(DDDD)D"⟩ : MethodName) prog_10_method_2_code 8 (some .double) :: ws) ({ frames := 1, cells := 0, slots := 0, locals := 17 } : Room)) (fun a U => a = #[(.double (FP.l2d p0.toInt64)), (.double (FP.l2d p1.toInt64)), (.double (FP.l2d p2.toInt64)), (.double (FP.l2d p3.toInt64))] ∧ Z.Warmed39 U.vm ∧ U.heap = h0) (fun _ _ _ _ _ => True) (fun _ U o U' => ∃ v L, o = .returned v ∧ Q1 Z p0 p1 p2 p3 h0 n0 v U'.heap L ∧ FrameEnd U o U' L ({ frames := 1, cells := 0, slots := 0, locals := 17 } : Room).cells ({ frames := 1, cells := 0, slots := 0, locals := 17 } : Room).slots) := by
  refine MetFree.of_bodySF (plainFor_of_name pn_com_example_synopsis_synopsis_DistanceBound) hisR ?_
  intro p e s m args below meth c s₁ Bd hml0 hP hK
  obtain ⟨rfl, hZ, hh⟩ := hP
  have hx := Bd.exec
  have hby := Bd.bytes
  have hml : c.maxLocals = 8 := hml0
  have hown : s.vm.findClass "com/example/synopsis/synopsis/DistanceBound" = some m.cls := findClass_of_methodNamed Bd.named
  have hnm := (name_of_methodNamed Bd.named Bd.method).1
  have X0 : Stand p l e ({ frames := 1, cells := 0, slots := 0, locals := 17 } : Room) s m #[(.double (FP.l2d p0.toInt64)), (.double (FP.l2d p1.toInt64)), (.double (FP.l2d p2.toInt64)), (.double (FP.l2d p3.toInt64))] below meth c s₁ [] 0 0 := Stand.of_body Bd
  have e0 : s₁.heap = h0 := by rw [← hh, Bd.state]; rfl
  have N0 := Fr.nil n0
  refine own_all ?_
  intro P hfin
  refine own_cast (ef_1 m (FP.l2d p0.toInt64) (FP.l2d p1.toInt64) (FP.l2d p2.toInt64) (FP.l2d p3.toInt64)) ?_
  show own_Go p e below P s₁ (mkF m 0 #[.val (.double (FP.l2d p0.toInt64)), .second, .val (.double (FP.l2d p1.toInt64)), .second, .val (.double (FP.l2d p2.toInt64)), .second, .val (.double (FP.l2d p3.toInt64)), .second] [])
  refine own_step (fun _ k => XS.dconst0 X0.here hx rfl (hb hby d1_0) own_zero k) ?_
  show own_Go p e below P s₁ (mkF m 1 #[.val (.double (FP.l2d p0.toInt64)), .second, .val (.double (FP.l2d p1.toInt64)), .second, .val (.double (FP.l2d p2.toInt64)), .second, .val (.double (FP.l2d p3.toInt64)), .second] [(.double (FP.l2d 0))])
  refine own_step (fun _ k => XS.dloadN X0.here hx rfl (hb hby d1_1) rfl k) ?_
  show own_Go p e below P s₁ (mkF m 2 #[.val (.double (FP.l2d p0.toInt64)), .second, .val (.double (FP.l2d p1.toInt64)), .second, .val (.double (FP.l2d p2.toInt64)), .second, .val (.double (FP.l2d p3.toInt64)), .second] [(.double (FP.l2d p1.toInt64)), (.double (FP.l2d 0))])
  refine own_step (fun _ k => XS.dload X0.here hx rfl (hb hby d1_2) rfl k) ?_
  show own_Go p e below P s₁ (mkF m 4 #[.val (.double (FP.l2d p0.toInt64)), .second, .val (.double (FP.l2d p1.toInt64)), .second, .val (.double (FP.l2d p2.toInt64)), .second, .val (.double (FP.l2d p3.toInt64)), .second] [(.double (FP.l2d p3.toInt64)), (.double (FP.l2d p1.toInt64)), (.double (FP.l2d 0))])
  refine own_step (fun _ k => XS.dsubS X0.here hx rfl (hb hby d1_4) rfl (nn_w (dsub_w (own_b p1) (own_b p3))) (dsub_w (own_b p1) (own_b p3)) k) ?_
  show own_Go p e below P s₁ (mkF m 5 #[.val (.double (FP.l2d p0.toInt64)), .second, .val (.double (FP.l2d p1.toInt64)), .second, .val (.double (FP.l2d p2.toInt64)), .second, .val (.double (FP.l2d p3.toInt64)), .second] [(.double (FP.l2d (p1.toInt64 - p3.toInt64))), (.double (FP.l2d 0))])
  refine own_step (fun _ k => XS.dload X0.here hx rfl (hb hby d1_5) rfl k) ?_
  show own_Go p e below P s₁ (mkF m 7 #[.val (.double (FP.l2d p0.toInt64)), .second, .val (.double (FP.l2d p1.toInt64)), .second, .val (.double (FP.l2d p2.toInt64)), .second, .val (.double (FP.l2d p3.toInt64)), .second] [(.double (FP.l2d p2.toInt64)), (.double (FP.l2d (p1.toInt64 - p3.toInt64))), (.double (FP.l2d 0))])
  refine own_step (fun _ k => XS.dloadN X0.here hx rfl (hb hby d1_7) rfl k) ?_
  show own_Go p e below P s₁ (mkF m 8 #[.val (.double (FP.l2d p0.toInt64)), .second, .val (.double (FP.l2d p1.toInt64)), .second, .val (.double (FP.l2d p2.toInt64)), .second, .val (.double (FP.l2d p3.toInt64)), .second] [(.double (FP.l2d p0.toInt64)), (.double (FP.l2d p2.toInt64)), (.double (FP.l2d (p1.toInt64 - p3.toInt64))), (.double (FP.l2d 0))])
  refine own_step (fun _ k => XS.dsubS X0.here hx rfl (hb hby d1_8) rfl (nn_w (dsub_w (own_b p2) (own_b p0))) (dsub_w (own_b p2) (own_b p0)) k) ?_
  show own_Go p e below P s₁ (mkF m 9 #[.val (.double (FP.l2d p0.toInt64)), .second, .val (.double (FP.l2d p1.toInt64)), .second, .val (.double (FP.l2d p2.toInt64)), .second, .val (.double (FP.l2d p3.toInt64)), .second] [(.double (FP.l2d (p2.toInt64 - p0.toInt64))), (.double (FP.l2d (p1.toInt64 - p3.toInt64))), (.double (FP.l2d 0))])
  obtain ⟨T1, X1, e1, st1⟩ := natS X0 hx hZ (y := (⟨"java/lang/Math", "max", "(DD)D"⟩ : MethodName)) hown (hw _ (List.mem_of_getElem? (i := 4) rfl)) (hw _ (List.mem_of_getElem? (i := 5) rfl)) (hw _ (List.mem_of_getElem? (i := 6) rfl)) (hw _ (List.mem_of_getElem? (i := 7) rfl)) (by decide) e0 (W := 2) (fun c4 => Jvm.Free.Fl.Abs.maxD_pays (FP.l2d (p1.toInt64 - p3.toInt64)) (FP.l2d (p2.toInt64 - p0.toInt64)) c4 (by decide) (by decide)) (g := (mkF m 9 #[.val (.double (FP.l2d p0.toInt64)), .second, .val (.double (FP.l2d p1.toInt64)), .second, .val (.double (FP.l2d p2.toInt64)), .second, .val (.double (FP.l2d p3.toInt64)), .second] [(.double (FP.l2d (p2.toInt64 - p0.toInt64))), (.double (FP.l2d (p1.toInt64 - p3.toInt64))), (.double (FP.l2d 0))])) rfl (by rw [hml]; rfl) (argsL := [(.double (FP.l2d (p1.toInt64 - p3.toInt64))), (.double (FP.l2d (p2.toInt64 - p0.toInt64)))]) (rest := [(.double (FP.l2d 0))]) (lenOf pd__DD__D rfl) rfl (by show 2 * 0 + _ ≤ _; exact Nat.le_of_eq rfl) (hb hby d1_9) (by decide) (by decide) ⟨rfl, nn_w rfl, nn_w rfl⟩ (congrArg Value.double (own_pick (own_bs p1 p3) (own_bs p2 p0)))
  refine own_step st1 ?_
  show own_Go p e below P T1 (mkF m 12 #[.val (.double (FP.l2d p0.toInt64)), .second, .val (.double (FP.l2d p1.toInt64)), .second, .val (.double (FP.l2d p2.toInt64)), .second, .val (.double (FP.l2d p3.toInt64)), .second] [(.double (FP.l2d (own_m (p1.toInt64 - p3.toInt64) (p2.toInt64 - p0.toInt64)))), (.double (FP.l2d 0))])
  obtain ⟨T2, X2, e2, st2⟩ := natS X1 hx hZ (y := (⟨"java/lang/Math", "max", "(DD)D"⟩ : MethodName)) hown (hw _ (List.mem_of_getElem? (i := 4) rfl)) (hw _ (List.mem_of_getElem? (i := 5) rfl)) (hw _ (List.mem_of_getElem? (i := 6) rfl)) (hw _ (List.mem_of_getElem? (i := 7) rfl)) (by decide) e1 (W := 0) (fun c4 => Jvm.Free.Fl.Abs.maxD_pays (FP.l2d 0) (FP.l2d (own_m (p1.toInt64 - p3.toInt64) (p2.toInt64 - p0.toInt64))) c4 (by decide) (by decide)) (g := (mkF m 12 #[.val (.double (FP.l2d p0.toInt64)), .second, .val (.double (FP.l2d p1.toInt64)), .second, .val (.double (FP.l2d p2.toInt64)), .second, .val (.double (FP.l2d p3.toInt64)), .second] [(.double (FP.l2d (own_m (p1.toInt64 - p3.toInt64) (p2.toInt64 - p0.toInt64)))), (.double (FP.l2d 0))])) rfl (by rw [hml]; rfl) (argsL := [(.double (FP.l2d 0)), (.double (FP.l2d (own_m (p1.toInt64 - p3.toInt64) (p2.toInt64 - p0.toInt64))))]) (rest := []) (lenOf pd__DD__D rfl) rfl (by show 2 * 0 + _ ≤ _; exact Nat.le_of_eq rfl) (hb hby d1_12) (by decide) (by decide) ⟨rfl, nn_w rfl, nn_w rfl⟩ (congrArg Value.double (own_pick own_b0 (own_bm (own_bs p1 p3) (own_bs p2 p0))))
  refine own_step st2 ?_
  show own_Go p e below P T2 (mkF m 15 #[.val (.double (FP.l2d p0.toInt64)), .second, .val (.double (FP.l2d p1.toInt64)), .second, .val (.double (FP.l2d p2.toInt64)), .second, .val (.double (FP.l2d p3.toInt64)), .second] [(.double (FP.l2d (own_M (p1.toInt64 - p3.toInt64) (p2.toInt64 - p0.toInt64))))])
  obtain ⟨fs, hr, hrun, hended, hW, hsame⟩ := X2.leave (v := some (.double (FP.l2d (own_M (p1.toInt64 - p3.toInt64) (p2.toInt64 - p0.toInt64))))) (fun h => by rw [Bd.returns] at h; cases h)
  refine ⟨_, _, retOut X2 hx (t := .double) Bd.returns rfl (Or.inr (Or.inr (Or.inl ⟨rfl, rfl, _, rfl⟩))) (hb hby d1_15) hr, hrun, hended, hfin _ _ ⟨_, _, rfl, ?_, ⟨_, rfl⟩, hW, hsame.mono (by decide) (by decide)⟩⟩
  show Q1 Z p0 p1 p2 p3 h0 n0 (some (.double (FP.l2d (own_M (p1.toInt64 - p3.toInt64) (p2.toInt64 - p0.toInt64))))) T2.heap _
  rw [e2]
  exact ⟨rfl, N0, rfl⟩
theorem ef_0 (m : MethodId) (x0 : Int32) (x1 : Int32) (x2 : Int32) (x3 : Int32) : entryFrame m #[(.int x0), (.int x1), (.int x2), (.int x3)] maxLocals = mkF m 0 #[.val (.int x0), .val (.int x1), .val (.int x2), .val (.int x3), .unset, .unset, .unset, .unset, .unset, .unset, .unset, .unset, .unset, .unset, .unset, .unset] [] := by first | (simp [entryFrame, mkF, argsToLocals, Value.category, maxLocals]; done) | rfl
theorem pn_com_example_synopsis_synopsis_DistanceBoundCoveringPinLaw : plainName "com/example/synopsis/synopsis/DistanceBoundCoveringPinLaw" = true := by first | (simp [plainName, overriddenIn]; done) | decide +kernel
theorem pd__DDDD__D : parseMethodDescriptor "(DDDD)D" = some ⟨[.double, .double, .double, .double], some .double⟩ := by decide +kernel
def Q0 (Z : State) (p0 : Int32) (p1 : Int32) (p2 : Int32) (p3 : Int32) (h0 : Heap) (n0 : Nat) (v : Option Value) (h : Heap) (L : List Loc) : Prop := v = some (.int 1) ∧ Fr n0 L
set_option maxRecDepth 65536 in
set_option maxHeartbeats 40000000 in
theorem rm0 (l : Launch) (Z : State) (a0 : Array Value) (hw : ∀ d ∈ tables_1, d.before a0 Z = true) (ws : List Jvm.Cond) (p0 : Int32) (p1 : Int32) (p2 : Int32) (p3 : Int32) (h0 : Heap) (n0 : Nat) (Z0 : n0 ≤ h0.size) :
    MetFree l x (head1 (Jvm.Cond.code x code maxLocals ret :: ws) room_1) (fun a U => a = #[(.int p0), (.int p1), (.int p2), (.int p3)] ∧ Z.Warmed39 U.vm ∧ U.heap = h0) (fun _ _ _ _ _ => True) (fun _ U o U' => ∃ v L, o = .returned v ∧ Q0 Z p0 p1 p2 p3 h0 n0 v U'.heap L ∧ FrameEnd U o U' L room_1.cells room_1.slots) := by
  refine MetFree.of_bodySF (plainFor_of_name pn_com_example_synopsis_synopsis_DistanceBoundCoveringPinLaw) hisR ?_
  intro p e s m args below meth c s₁ Bd hml0 hP hK
  obtain ⟨rfl, hZ, hh⟩ := hP
  have hx := Bd.exec
  have hby := Bd.bytes
  have hml : c.maxLocals = 16 := hml0
  have hown : s.vm.findClass "com/example/synopsis/synopsis/DistanceBoundCoveringPinLaw" = some m.cls := findClass_of_methodNamed Bd.named
  have hnm := (name_of_methodNamed Bd.named Bd.method).1
  have X0 : Stand p l e room_1 s m #[(.int p0), (.int p1), (.int p2), (.int p3)] below meth c s₁ [] 0 0 := Stand.of_body Bd
  have e0 : s₁.heap = h0 := by rw [← hh, Bd.state]; rfl
  have N0 := Fr.nil n0
  refine own_all ?_
  intro P hfin
  refine own_cast (ef_0 m p0 p1 p2 p3) ?_
  show own_Go p e below P s₁ (mkF m 0 #[.val (.int p0), .val (.int p1), .val (.int p2), .val (.int p3), .unset, .unset, .unset, .unset, .unset, .unset, .unset, .unset, .unset, .unset, .unset, .unset] [])
  refine own_step (fun _ k => XS.iloadN X0.here hx rfl (hb hby at_0) rfl k) ?_
  show own_Go p e below P s₁ (mkF m 1 #[.val (.int p0), .val (.int p1), .val (.int p2), .val (.int p3), .unset, .unset, .unset, .unset, .unset, .unset, .unset, .unset, .unset, .unset, .unset, .unset] [(.int p0)])
  refine own_step (fun _ k => XS.i2dS X0.here hx rfl (hb hby at_1) rfl (i2d_w _) k) ?_
  show own_Go p e below P s₁ (mkF m 2 #[.val (.int p0), .val (.int p1), .val (.int p2), .val (.int p3), .unset, .unset, .unset, .unset, .unset, .unset, .unset, .unset, .unset, .unset, .unset, .unset] [(.double (FP.l2d p0.toInt64))])
  refine own_step (fun _ k => XS.iloadN X0.here hx rfl (hb hby at_2) rfl k) ?_
  show own_Go p e below P s₁ (mkF m 3 #[.val (.int p0), .val (.int p1), .val (.int p2), .val (.int p3), .unset, .unset, .unset, .unset, .unset, .unset, .unset, .unset, .unset, .unset, .unset, .unset] [(.int p1), (.double (FP.l2d p0.toInt64))])
  refine own_step (fun _ k => XS.i2dS X0.here hx rfl (hb hby at_3) rfl (i2d_w _) k) ?_
  show own_Go p e below P s₁ (mkF m 4 #[.val (.int p0), .val (.int p1), .val (.int p2), .val (.int p3), .unset, .unset, .unset, .unset, .unset, .unset, .unset, .unset, .unset, .unset, .unset, .unset] [(.double (FP.l2d p1.toInt64)), (.double (FP.l2d p0.toInt64))])
  refine own_step (fun _ k => XS.iloadN X0.here hx rfl (hb hby at_4) rfl k) ?_
  show own_Go p e below P s₁ (mkF m 5 #[.val (.int p0), .val (.int p1), .val (.int p2), .val (.int p3), .unset, .unset, .unset, .unset, .unset, .unset, .unset, .unset, .unset, .unset, .unset, .unset] [(.int p2), (.double (FP.l2d p1.toInt64)), (.double (FP.l2d p0.toInt64))])
  refine own_step (fun _ k => XS.i2dS X0.here hx rfl (hb hby at_5) rfl (i2d_w _) k) ?_
  show own_Go p e below P s₁ (mkF m 6 #[.val (.int p0), .val (.int p1), .val (.int p2), .val (.int p3), .unset, .unset, .unset, .unset, .unset, .unset, .unset, .unset, .unset, .unset, .unset, .unset] [(.double (FP.l2d p2.toInt64)), (.double (FP.l2d p1.toInt64)), (.double (FP.l2d p0.toInt64))])
  refine own_step (fun _ k => XS.iloadN X0.here hx rfl (hb hby at_6) rfl k) ?_
  show own_Go p e below P s₁ (mkF m 7 #[.val (.int p0), .val (.int p1), .val (.int p2), .val (.int p3), .unset, .unset, .unset, .unset, .unset, .unset, .unset, .unset, .unset, .unset, .unset, .unset] [(.int p3), (.double (FP.l2d p2.toInt64)), (.double (FP.l2d p1.toInt64)), (.double (FP.l2d p0.toInt64))])
  refine own_step (fun _ k => XS.i2dS X0.here hx rfl (hb hby at_7) rfl (i2d_w _) k) ?_
  show own_Go p e below P s₁ (mkF m 8 #[.val (.int p0), .val (.int p1), .val (.int p2), .val (.int p3), .unset, .unset, .unset, .unset, .unset, .unset, .unset, .unset, .unset, .unset, .unset, .unset] [(.double (FP.l2d p3.toInt64)), (.double (FP.l2d p2.toInt64)), (.double (FP.l2d p1.toInt64)), (.double (FP.l2d p0.toInt64))])
  obtain ⟨_, _, ⟨T1, L1, k1, n1⟩, -, X1, ⟨Lc1, hQ1, l1, y1, z1⟩, st1⟩ := Jvm.LawKit.callS X0 hx (y := (⟨"com/example/synopsis/synopsis/DistanceBound", "covering", "(DDDD)D"⟩ : MethodName)) hown (mvT hZ (hw _ (List.mem_of_getElem? (i := 0) rfl))) (mvT hZ (hw _ (List.mem_of_getElem? (i := 1) rfl))) (mvT hZ (hw _ (List.mem_of_getElem? (i := 2) rfl))) (mvT hZ (hw _ (List.mem_of_getElem? (i := 3) rfl))) (by decide) (backOf (W := 0) (rm1 l Z a0 hw [] p0 p1 p2 p3 h0 n0 Z0) hZ (hw _ (List.mem_of_getElem? (i := 3) rfl)) (hw _ (List.mem_of_getElem? (i := 2) rfl)) (by decide) (by decide)) (g := (mkF m 8 #[.val (.int p0), .val (.int p1), .val (.int p2), .val (.int p3), .unset, .unset, .unset, .unset, .unset, .unset, .unset, .unset, .unset, .unset, .unset, .unset] [(.double (FP.l2d p3.toInt64)), (.double (FP.l2d p2.toInt64)), (.double (FP.l2d p1.toInt64)), (.double (FP.l2d p0.toInt64))])) rfl (by rw [hml]; rfl) (argsL := [(.double (FP.l2d p0.toInt64)), (.double (FP.l2d p1.toInt64)), (.double (FP.l2d p2.toInt64)), (.double (FP.l2d p3.toInt64))]) (rest := []) (lenOf pd__DDDD__D rfl) rfl (by show 2 * 0 + _ ≤ _; exact Nat.le_of_eq rfl) (hb hby at_8) (fun _ _ => ⟨rfl, e0, (by decide : 0 + 0 ≤ _), (by decide : 0 + 0 ≤ _)⟩)
  dsimp only [Pt.U, Pt.locs, Pt.cells, Pt.slots] at X1 l1 y1 z1 st1 hQ1
  subst l1 y1 z1
  obtain ⟨rfl, N1q, e1⟩ := hQ1
  have N1 := Fr.app N0 N1q
  refine own_step st1 ?_
  show own_Go p e below P T1 (mkF m 11 #[.val (.int p0), .val (.int p1), .val (.int p2), .val (.int p3), .unset, .unset, .unset, .unset, .unset, .unset, .unset, .unset, .unset, .unset, .unset, .unset] [(.double (FP.l2d (own_M (p1.toInt64 - p3.toInt64) (p2.toInt64 - p0.toInt64))))])
  refine own_step (fun _ k => XS.dstore X1.here hx rfl (hb hby at_11) rfl (l' := #[.val (.int p0), .val (.int p1), .val (.int p2), .val (.int p3), .val (.double (FP.l2d (own_M (p1.toInt64 - p3.toInt64) (p2.toInt64 - p0.toInt64)))), .second, .unset, .unset, .unset, .unset, .unset, .unset, .unset, .unset, .unset, .unset]) rfl k) ?_
  show own_Go p e below P T1 (mkF m 13 #[.val (.int p0), .val (.int p1), .val (.int p2), .val (.int p3), .val (.double (FP.l2d (own_M (p1.toInt64 - p3.toInt64) (p2.toInt64 - p0.toInt64)))), .second, .unset, .unset, .unset, .unset, .unset, .unset, .unset, .unset, .unset, .unset] [])
  refine own_step (fun _ k => XS.iloadN X1.here hx rfl (hb hby at_13) rfl k) ?_
  show own_Go p e below P T1 (mkF m 14 #[.val (.int p0), .val (.int p1), .val (.int p2), .val (.int p3), .val (.double (FP.l2d (own_M (p1.toInt64 - p3.toInt64) (p2.toInt64 - p0.toInt64)))), .second, .unset, .unset, .unset, .unset, .unset, .unset, .unset, .unset, .unset, .unset] [(.int p1)])
  refine own_step (fun _ k => XS.i2l X1.here hx rfl (hb hby at_14) rfl k) ?_
  show own_Go p e below P T1 (mkF m 15 #[.val (.int p0), .val (.int p1), .val (.int p2), .val (.int p3), .val (.double (FP.l2d (own_M (p1.toInt64 - p3.toInt64) (p2.toInt64 - p0.toInt64)))), .second, .unset, .unset, .unset, .unset, .unset, .unset, .unset, .unset, .unset, .unset] [(.long p1.toInt64)])
  refine own_step (fun _ k => XS.iloadN X1.here hx rfl (hb hby at_15) rfl k) ?_
  show own_Go p e below P T1 (mkF m 16 #[.val (.int p0), .val (.int p1), .val (.int p2), .val (.int p3), .val (.double (FP.l2d (own_M (p1.toInt64 - p3.toInt64) (p2.toInt64 - p0.toInt64)))), .second, .unset, .unset, .unset, .unset, .unset, .unset, .unset, .unset, .unset, .unset] [(.int p3), (.long p1.toInt64)])
  refine own_step (fun _ k => XS.i2l X1.here hx rfl (hb hby at_16) rfl k) ?_
  show own_Go p e below P T1 (mkF m 17 #[.val (.int p0), .val (.int p1), .val (.int p2), .val (.int p3), .val (.double (FP.l2d (own_M (p1.toInt64 - p3.toInt64) (p2.toInt64 - p0.toInt64)))), .second, .unset, .unset, .unset, .unset, .unset, .unset, .unset, .unset, .unset, .unset] [(.long p3.toInt64), (.long p1.toInt64)])
  refine own_step (fun _ k => XS.lsub X1.here hx rfl (hb hby at_17) rfl k) ?_
  show own_Go p e below P T1 (mkF m 18 #[.val (.int p0), .val (.int p1), .val (.int p2), .val (.int p3), .val (.double (FP.l2d (own_M (p1.toInt64 - p3.toInt64) (p2.toInt64 - p0.toInt64)))), .second, .unset, .unset, .unset, .unset, .unset, .unset, .unset, .unset, .unset, .unset] [(.long (p1.toInt64 - p3.toInt64))])
  refine own_step (fun _ k => XS.lstore X1.here hx rfl (hb hby at_18) rfl (l' := #[.val (.int p0), .val (.int p1), .val (.int p2), .val (.int p3), .val (.double (FP.l2d (own_M (p1.toInt64 - p3.toInt64) (p2.toInt64 - p0.toInt64)))), .second, .val (.long (p1.toInt64 - p3.toInt64)), .second, .unset, .unset, .unset, .unset, .unset, .unset, .unset, .unset]) rfl k) ?_
  show own_Go p e below P T1 (mkF m 20 #[.val (.int p0), .val (.int p1), .val (.int p2), .val (.int p3), .val (.double (FP.l2d (own_M (p1.toInt64 - p3.toInt64) (p2.toInt64 - p0.toInt64)))), .second, .val (.long (p1.toInt64 - p3.toInt64)), .second, .unset, .unset, .unset, .unset, .unset, .unset, .unset, .unset] [])
  refine own_step (fun _ k => XS.iloadN X1.here hx rfl (hb hby at_20) rfl k) ?_
  show own_Go p e below P T1 (mkF m 21 #[.val (.int p0), .val (.int p1), .val (.int p2), .val (.int p3), .val (.double (FP.l2d (own_M (p1.toInt64 - p3.toInt64) (p2.toInt64 - p0.toInt64)))), .second, .val (.long (p1.toInt64 - p3.toInt64)), .second, .unset, .unset, .unset, .unset, .unset, .unset, .unset, .unset] [(.int p2)])
  refine own_step (fun _ k => XS.i2l X1.here hx rfl (hb hby at_21) rfl k) ?_
  show own_Go p e below P T1 (mkF m 22 #[.val (.int p0), .val (.int p1), .val (.int p2), .val (.int p3), .val (.double (FP.l2d (own_M (p1.toInt64 - p3.toInt64) (p2.toInt64 - p0.toInt64)))), .second, .val (.long (p1.toInt64 - p3.toInt64)), .second, .unset, .unset, .unset, .unset, .unset, .unset, .unset, .unset] [(.long p2.toInt64)])
  refine own_step (fun _ k => XS.iloadN X1.here hx rfl (hb hby at_22) rfl k) ?_
  show own_Go p e below P T1 (mkF m 23 #[.val (.int p0), .val (.int p1), .val (.int p2), .val (.int p3), .val (.double (FP.l2d (own_M (p1.toInt64 - p3.toInt64) (p2.toInt64 - p0.toInt64)))), .second, .val (.long (p1.toInt64 - p3.toInt64)), .second, .unset, .unset, .unset, .unset, .unset, .unset, .unset, .unset] [(.int p0), (.long p2.toInt64)])
  refine own_step (fun _ k => XS.i2l X1.here hx rfl (hb hby at_23) rfl k) ?_
  show own_Go p e below P T1 (mkF m 24 #[.val (.int p0), .val (.int p1), .val (.int p2), .val (.int p3), .val (.double (FP.l2d (own_M (p1.toInt64 - p3.toInt64) (p2.toInt64 - p0.toInt64)))), .second, .val (.long (p1.toInt64 - p3.toInt64)), .second, .unset, .unset, .unset, .unset, .unset, .unset, .unset, .unset] [(.long p0.toInt64), (.long p2.toInt64)])
  refine own_step (fun _ k => XS.lsub X1.here hx rfl (hb hby at_24) rfl k) ?_
  show own_Go p e below P T1 (mkF m 25 #[.val (.int p0), .val (.int p1), .val (.int p2), .val (.int p3), .val (.double (FP.l2d (own_M (p1.toInt64 - p3.toInt64) (p2.toInt64 - p0.toInt64)))), .second, .val (.long (p1.toInt64 - p3.toInt64)), .second, .unset, .unset, .unset, .unset, .unset, .unset, .unset, .unset] [(.long (p2.toInt64 - p0.toInt64))])
  refine own_step (fun _ k => XS.lstore X1.here hx rfl (hb hby at_25) rfl (l' := #[.val (.int p0), .val (.int p1), .val (.int p2), .val (.int p3), .val (.double (FP.l2d (own_M (p1.toInt64 - p3.toInt64) (p2.toInt64 - p0.toInt64)))), .second, .val (.long (p1.toInt64 - p3.toInt64)), .second, .val (.long (p2.toInt64 - p0.toInt64)), .second, .unset, .unset, .unset, .unset, .unset, .unset]) rfl k) ?_
  show own_Go p e below P T1 (mkF m 27 #[.val (.int p0), .val (.int p1), .val (.int p2), .val (.int p3), .val (.double (FP.l2d (own_M (p1.toInt64 - p3.toInt64) (p2.toInt64 - p0.toInt64)))), .second, .val (.long (p1.toInt64 - p3.toInt64)), .second, .val (.long (p2.toInt64 - p0.toInt64)), .second, .unset, .unset, .unset, .unset, .unset, .unset] [])
  refine own_step (fun _ k => XS.lload X1.here hx rfl (hb hby at_27) rfl k) ?_
  show own_Go p e below P T1 (mkF m 29 #[.val (.int p0), .val (.int p1), .val (.int p2), .val (.int p3), .val (.double (FP.l2d (own_M (p1.toInt64 - p3.toInt64) (p2.toInt64 - p0.toInt64)))), .second, .val (.long (p1.toInt64 - p3.toInt64)), .second, .val (.long (p2.toInt64 - p0.toInt64)), .second, .unset, .unset, .unset, .unset, .unset, .unset] [(.long (p1.toInt64 - p3.toInt64))])
  refine own_step (fun _ k => XS.l2dS X1.here hx rfl (hb hby at_29) rfl rfl k) ?_
  show own_Go p e below P T1 (mkF m 30 #[.val (.int p0), .val (.int p1), .val (.int p2), .val (.int p3), .val (.double (FP.l2d (own_M (p1.toInt64 - p3.toInt64) (p2.toInt64 - p0.toInt64)))), .second, .val (.long (p1.toInt64 - p3.toInt64)), .second, .val (.long (p2.toInt64 - p0.toInt64)), .second, .unset, .unset, .unset, .unset, .unset, .unset] [(.double (FP.l2d (p1.toInt64 - p3.toInt64)))])
  refine own_step (fun _ k => XS.dstore X1.here hx rfl (hb hby at_30) rfl (l' := #[.val (.int p0), .val (.int p1), .val (.int p2), .val (.int p3), .val (.double (FP.l2d (own_M (p1.toInt64 - p3.toInt64) (p2.toInt64 - p0.toInt64)))), .second, .val (.long (p1.toInt64 - p3.toInt64)), .second, .val (.long (p2.toInt64 - p0.toInt64)), .second, .val (.double (FP.l2d (p1.toInt64 - p3.toInt64))), .second, .unset, .unset, .unset, .unset]) rfl k) ?_
  show own_Go p e below P T1 (mkF m 32 #[.val (.int p0), .val (.int p1), .val (.int p2), .val (.int p3), .val (.double (FP.l2d (own_M (p1.toInt64 - p3.toInt64) (p2.toInt64 - p0.toInt64)))), .second, .val (.long (p1.toInt64 - p3.toInt64)), .second, .val (.long (p2.toInt64 - p0.toInt64)), .second, .val (.double (FP.l2d (p1.toInt64 - p3.toInt64))), .second, .unset, .unset, .unset, .unset] [])
  refine own_step (fun _ k => XS.lload X1.here hx rfl (hb hby at_32) rfl k) ?_
  show own_Go p e below P T1 (mkF m 34 #[.val (.int p0), .val (.int p1), .val (.int p2), .val (.int p3), .val (.double (FP.l2d (own_M (p1.toInt64 - p3.toInt64) (p2.toInt64 - p0.toInt64)))), .second, .val (.long (p1.toInt64 - p3.toInt64)), .second, .val (.long (p2.toInt64 - p0.toInt64)), .second, .val (.double (FP.l2d (p1.toInt64 - p3.toInt64))), .second, .unset, .unset, .unset, .unset] [(.long (p2.toInt64 - p0.toInt64))])
  refine own_step (fun _ k => XS.l2dS X1.here hx rfl (hb hby at_34) rfl rfl k) ?_
  show own_Go p e below P T1 (mkF m 35 #[.val (.int p0), .val (.int p1), .val (.int p2), .val (.int p3), .val (.double (FP.l2d (own_M (p1.toInt64 - p3.toInt64) (p2.toInt64 - p0.toInt64)))), .second, .val (.long (p1.toInt64 - p3.toInt64)), .second, .val (.long (p2.toInt64 - p0.toInt64)), .second, .val (.double (FP.l2d (p1.toInt64 - p3.toInt64))), .second, .unset, .unset, .unset, .unset] [(.double (FP.l2d (p2.toInt64 - p0.toInt64)))])
  refine own_step (fun _ k => XS.dstore X1.here hx rfl (hb hby at_35) rfl (l' := #[.val (.int p0), .val (.int p1), .val (.int p2), .val (.int p3), .val (.double (FP.l2d (own_M (p1.toInt64 - p3.toInt64) (p2.toInt64 - p0.toInt64)))), .second, .val (.long (p1.toInt64 - p3.toInt64)), .second, .val (.long (p2.toInt64 - p0.toInt64)), .second, .val (.double (FP.l2d (p1.toInt64 - p3.toInt64))), .second, .val (.double (FP.l2d (p2.toInt64 - p0.toInt64))), .second, .unset, .unset]) rfl k) ?_
  show own_Go p e below P T1 (mkF m 37 #[.val (.int p0), .val (.int p1), .val (.int p2), .val (.int p3), .val (.double (FP.l2d (own_M (p1.toInt64 - p3.toInt64) (p2.toInt64 - p0.toInt64)))), .second, .val (.long (p1.toInt64 - p3.toInt64)), .second, .val (.long (p2.toInt64 - p0.toInt64)), .second, .val (.double (FP.l2d (p1.toInt64 - p3.toInt64))), .second, .val (.double (FP.l2d (p2.toInt64 - p0.toInt64))), .second, .unset, .unset] [])
  refine own_step (fun _ k => XS.dload X1.here hx rfl (hb hby at_37) rfl k) ?_
  show own_Go p e below P T1 (mkF m 39 #[.val (.int p0), .val (.int p1), .val (.int p2), .val (.int p3), .val (.double (FP.l2d (own_M (p1.toInt64 - p3.toInt64) (p2.toInt64 - p0.toInt64)))), .second, .val (.long (p1.toInt64 - p3.toInt64)), .second, .val (.long (p2.toInt64 - p0.toInt64)), .second, .val (.double (FP.l2d (p1.toInt64 - p3.toInt64))), .second, .val (.double (FP.l2d (p2.toInt64 - p0.toInt64))), .second, .unset, .unset] [(.double (FP.l2d (own_M (p1.toInt64 - p3.toInt64) (p2.toInt64 - p0.toInt64))))])
  refine own_step (fun _ k => XS.dconst0 X1.here hx rfl (hb hby at_39) own_zero k) ?_
  show own_Go p e below P T1 (mkF m 40 #[.val (.int p0), .val (.int p1), .val (.int p2), .val (.int p3), .val (.double (FP.l2d (own_M (p1.toInt64 - p3.toInt64) (p2.toInt64 - p0.toInt64)))), .second, .val (.long (p1.toInt64 - p3.toInt64)), .second, .val (.long (p2.toInt64 - p0.toInt64)), .second, .val (.double (FP.l2d (p1.toInt64 - p3.toInt64))), .second, .val (.double (FP.l2d (p2.toInt64 - p0.toInt64))), .second, .unset, .unset] [(.double (FP.l2d 0)), (.double (FP.l2d (own_M (p1.toInt64 - p3.toInt64) (p2.toInt64 - p0.toInt64))))])
  refine own_step (fun _ k => XS.dcmpS X1.here hx rfl (hb hby at_40) rfl (dcmpV_w (own_bm own_b0 (own_bm (own_bs p1 p3) (own_bs p2 p0))) own_b0 .l) k) ?_
  show own_Go p e below P T1 (mkF m 41 #[.val (.int p0), .val (.int p1), .val (.int p2), .val (.int p3), .val (.double (FP.l2d (own_M (p1.toInt64 - p3.toInt64) (p2.toInt64 - p0.toInt64)))), .second, .val (.long (p1.toInt64 - p3.toInt64)), .second, .val (.long (p2.toInt64 - p0.toInt64)), .second, .val (.double (FP.l2d (p1.toInt64 - p3.toInt64))), .second, .val (.double (FP.l2d (p2.toInt64 - p0.toInt64))), .second, .unset, .unset] [(.int (lcmpW (own_M (p1.toInt64 - p3.toInt64) (p2.toInt64 - p0.toInt64)) 0))])
  refine own_step (fun _ k => XS.ifNo X1.here hx rfl (hb hby at_41) rfl ((if0 _ _).trans (flt (own_ge0 (p1.toInt64 - p3.toInt64) (p2.toInt64 - p0.toInt64)).1).1) k) ?_
  show own_Go p e below P T1 (mkF m 44 #[.val (.int p0), .val (.int p1), .val (.int p2), .val (.int p3), .val (.double (FP.l2d (own_M (p1.toInt64 - p3.toInt64) (p2.toInt64 - p0.toInt64)))), .second, .val (.long (p1.toInt64 - p3.toInt64)), .second, .val (.long (p2.toInt64 - p0.toInt64)), .second, .val (.double (FP.l2d (p1.toInt64 - p3.toInt64))), .second, .val (.double (FP.l2d (p2.toInt64 - p0.toInt64))), .second, .unset, .unset] [])
  refine own_step (fun _ k => XS.dload X1.here hx rfl (hb hby at_44) rfl k) ?_
  show own_Go p e below P T1 (mkF m 46 #[.val (.int p0), .val (.int p1), .val (.int p2), .val (.int p3), .val (.double (FP.l2d (own_M (p1.toInt64 - p3.toInt64) (p2.toInt64 - p0.toInt64)))), .second, .val (.long (p1.toInt64 - p3.toInt64)), .second, .val (.long (p2.toInt64 - p0.toInt64)), .second, .val (.double (FP.l2d (p1.toInt64 - p3.toInt64))), .second, .val (.double (FP.l2d (p2.toInt64 - p0.toInt64))), .second, .unset, .unset] [(.double (FP.l2d (own_M (p1.toInt64 - p3.toInt64) (p2.toInt64 - p0.toInt64))))])
  refine own_step (fun _ k => XS.dload X1.here hx rfl (hb hby at_46) rfl k) ?_
  show own_Go p e below P T1 (mkF m 48 #[.val (.int p0), .val (.int p1), .val (.int p2), .val (.int p3), .val (.double (FP.l2d (own_M (p1.toInt64 - p3.toInt64) (p2.toInt64 - p0.toInt64)))), .second, .val (.long (p1.toInt64 - p3.toInt64)), .second, .val (.long (p2.toInt64 - p0.toInt64)), .second, .val (.double (FP.l2d (p1.toInt64 - p3.toInt64))), .second, .val (.double (FP.l2d (p2.toInt64 - p0.toInt64))), .second, .unset, .unset] [(.double (FP.l2d (p1.toInt64 - p3.toInt64))), (.double (FP.l2d (own_M (p1.toInt64 - p3.toInt64) (p2.toInt64 - p0.toInt64))))])
  refine own_step (fun _ k => XS.dcmpS X1.here hx rfl (hb hby at_48) rfl (dcmpV_w (own_bm own_b0 (own_bm (own_bs p1 p3) (own_bs p2 p0))) (own_bs p1 p3) .l) k) ?_
  show own_Go p e below P T1 (mkF m 49 #[.val (.int p0), .val (.int p1), .val (.int p2), .val (.int p3), .val (.double (FP.l2d (own_M (p1.toInt64 - p3.toInt64) (p2.toInt64 - p0.toInt64)))), .second, .val (.long (p1.toInt64 - p3.toInt64)), .second, .val (.long (p2.toInt64 - p0.toInt64)), .second, .val (.double (FP.l2d (p1.toInt64 - p3.toInt64))), .second, .val (.double (FP.l2d (p2.toInt64 - p0.toInt64))), .second, .unset, .unset] [(.int (lcmpW (own_M (p1.toInt64 - p3.toInt64) (p2.toInt64 - p0.toInt64)) (p1.toInt64 - p3.toInt64)))])
  refine own_step (fun _ k => XS.ifNo X1.here hx rfl (hb hby at_49) rfl ((if0 _ _).trans (flt (own_ge0 (p1.toInt64 - p3.toInt64) (p2.toInt64 - p0.toInt64)).2.1).1) k) ?_
  show own_Go p e below P T1 (mkF m 52 #[.val (.int p0), .val (.int p1), .val (.int p2), .val (.int p3), .val (.double (FP.l2d (own_M (p1.toInt64 - p3.toInt64) (p2.toInt64 - p0.toInt64)))), .second, .val (.long (p1.toInt64 - p3.toInt64)), .second, .val (.long (p2.toInt64 - p0.toInt64)), .second, .val (.double (FP.l2d (p1.toInt64 - p3.toInt64))), .second, .val (.double (FP.l2d (p2.toInt64 - p0.toInt64))), .second, .unset, .unset] [])
  refine own_step (fun _ k => XS.dload X1.here hx rfl (hb hby at_52) rfl k) ?_
  show own_Go p e below P T1 (mkF m 54 #[.val (.int p0), .val (.int p1), .val (.int p2), .val (.int p3), .val (.double (FP.l2d (own_M (p1.toInt64 - p3.toInt64) (p2.toInt64 - p0.toInt64)))), .second, .val (.long (p1.toInt64 - p3.toInt64)), .second, .val (.long (p2.toInt64 - p0.toInt64)), .second, .val (.double (FP.l2d (p1.toInt64 - p3.toInt64))), .second, .val (.double (FP.l2d (p2.toInt64 - p0.toInt64))), .second, .unset, .unset] [(.double (FP.l2d (own_M (p1.toInt64 - p3.toInt64) (p2.toInt64 - p0.toInt64))))])
  refine own_step (fun _ k => XS.dload X1.here hx rfl (hb hby at_54) rfl k) ?_
  show own_Go p e below P T1 (mkF m 56 #[.val (.int p0), .val (.int p1), .val (.int p2), .val (.int p3), .val (.double (FP.l2d (own_M (p1.toInt64 - p3.toInt64) (p2.toInt64 - p0.toInt64)))), .second, .val (.long (p1.toInt64 - p3.toInt64)), .second, .val (.long (p2.toInt64 - p0.toInt64)), .second, .val (.double (FP.l2d (p1.toInt64 - p3.toInt64))), .second, .val (.double (FP.l2d (p2.toInt64 - p0.toInt64))), .second, .unset, .unset] [(.double (FP.l2d (p2.toInt64 - p0.toInt64))), (.double (FP.l2d (own_M (p1.toInt64 - p3.toInt64) (p2.toInt64 - p0.toInt64))))])
  refine own_step (fun _ k => XS.dcmpS X1.here hx rfl (hb hby at_56) rfl (dcmpV_w (own_bm own_b0 (own_bm (own_bs p1 p3) (own_bs p2 p0))) (own_bs p2 p0) .l) k) ?_
  show own_Go p e below P T1 (mkF m 57 #[.val (.int p0), .val (.int p1), .val (.int p2), .val (.int p3), .val (.double (FP.l2d (own_M (p1.toInt64 - p3.toInt64) (p2.toInt64 - p0.toInt64)))), .second, .val (.long (p1.toInt64 - p3.toInt64)), .second, .val (.long (p2.toInt64 - p0.toInt64)), .second, .val (.double (FP.l2d (p1.toInt64 - p3.toInt64))), .second, .val (.double (FP.l2d (p2.toInt64 - p0.toInt64))), .second, .unset, .unset] [(.int (lcmpW (own_M (p1.toInt64 - p3.toInt64) (p2.toInt64 - p0.toInt64)) (p2.toInt64 - p0.toInt64)))])
  refine own_step (fun _ k => XS.ifNo X1.here hx rfl (hb hby at_57) rfl ((if0 _ _).trans (flt (own_ge0 (p1.toInt64 - p3.toInt64) (p2.toInt64 - p0.toInt64)).2.2).1) k) ?_
  show own_Go p e below P T1 (mkF m 60 #[.val (.int p0), .val (.int p1), .val (.int p2), .val (.int p3), .val (.double (FP.l2d (own_M (p1.toInt64 - p3.toInt64) (p2.toInt64 - p0.toInt64)))), .second, .val (.long (p1.toInt64 - p3.toInt64)), .second, .val (.long (p2.toInt64 - p0.toInt64)), .second, .val (.double (FP.l2d (p1.toInt64 - p3.toInt64))), .second, .val (.double (FP.l2d (p2.toInt64 - p0.toInt64))), .second, .unset, .unset] [])
  refine own_step (fun _ k => XS.iconst X1.here hx rfl (hb hby at_60) k) ?_
  show own_Go p e below P T1 (mkF m 61 #[.val (.int p0), .val (.int p1), .val (.int p2), .val (.int p3), .val (.double (FP.l2d (own_M (p1.toInt64 - p3.toInt64) (p2.toInt64 - p0.toInt64)))), .second, .val (.long (p1.toInt64 - p3.toInt64)), .second, .val (.long (p2.toInt64 - p0.toInt64)), .second, .val (.double (FP.l2d (p1.toInt64 - p3.toInt64))), .second, .val (.double (FP.l2d (p2.toInt64 - p0.toInt64))), .second, .unset, .unset] [(.int (1 : Int32))])
  refine own_step (fun _ k => XS.goto X1.here hx rfl (pc0 := 61) (pc' := 65) rfl (hb hby at_61) (by decide) (by decide) k) ?_
  show own_Go p e below P T1 (mkF m 65 #[.val (.int p0), .val (.int p1), .val (.int p2), .val (.int p3), .val (.double (FP.l2d (own_M (p1.toInt64 - p3.toInt64) (p2.toInt64 - p0.toInt64)))), .second, .val (.long (p1.toInt64 - p3.toInt64)), .second, .val (.long (p2.toInt64 - p0.toInt64)), .second, .val (.double (FP.l2d (p1.toInt64 - p3.toInt64))), .second, .val (.double (FP.l2d (p2.toInt64 - p0.toInt64))), .second, .unset, .unset] [(.int (1 : Int32))])
  refine own_step (fun _ k => XS.istore X1.here hx rfl (hb hby at_65) rfl (l' := #[.val (.int p0), .val (.int p1), .val (.int p2), .val (.int p3), .val (.double (FP.l2d (own_M (p1.toInt64 - p3.toInt64) (p2.toInt64 - p0.toInt64)))), .second, .val (.long (p1.toInt64 - p3.toInt64)), .second, .val (.long (p2.toInt64 - p0.toInt64)), .second, .val (.double (FP.l2d (p1.toInt64 - p3.toInt64))), .second, .val (.double (FP.l2d (p2.toInt64 - p0.toInt64))), .second, .val (.int (1 : Int32)), .unset]) rfl k) ?_
  show own_Go p e below P T1 (mkF m 67 #[.val (.int p0), .val (.int p1), .val (.int p2), .val (.int p3), .val (.double (FP.l2d (own_M (p1.toInt64 - p3.toInt64) (p2.toInt64 - p0.toInt64)))), .second, .val (.long (p1.toInt64 - p3.toInt64)), .second, .val (.long (p2.toInt64 - p0.toInt64)), .second, .val (.double (FP.l2d (p1.toInt64 - p3.toInt64))), .second, .val (.double (FP.l2d (p2.toInt64 - p0.toInt64))), .second, .val (.int (1 : Int32)), .unset] [])
  refine own_step (fun _ k => XS.dload X1.here hx rfl (hb hby at_67) rfl k) ?_
  show own_Go p e below P T1 (mkF m 69 #[.val (.int p0), .val (.int p1), .val (.int p2), .val (.int p3), .val (.double (FP.l2d (own_M (p1.toInt64 - p3.toInt64) (p2.toInt64 - p0.toInt64)))), .second, .val (.long (p1.toInt64 - p3.toInt64)), .second, .val (.long (p2.toInt64 - p0.toInt64)), .second, .val (.double (FP.l2d (p1.toInt64 - p3.toInt64))), .second, .val (.double (FP.l2d (p2.toInt64 - p0.toInt64))), .second, .val (.int (1 : Int32)), .unset] [(.double (FP.l2d (own_M (p1.toInt64 - p3.toInt64) (p2.toInt64 - p0.toInt64))))])
  refine own_step (fun _ k => XS.dconst0 X1.here hx rfl (hb hby at_69) own_zero k) ?_
  show own_Go p e below P T1 (mkF m 70 #[.val (.int p0), .val (.int p1), .val (.int p2), .val (.int p3), .val (.double (FP.l2d (own_M (p1.toInt64 - p3.toInt64) (p2.toInt64 - p0.toInt64)))), .second, .val (.long (p1.toInt64 - p3.toInt64)), .second, .val (.long (p2.toInt64 - p0.toInt64)), .second, .val (.double (FP.l2d (p1.toInt64 - p3.toInt64))), .second, .val (.double (FP.l2d (p2.toInt64 - p0.toInt64))), .second, .val (.int (1 : Int32)), .unset] [(.double (FP.l2d 0)), (.double (FP.l2d (own_M (p1.toInt64 - p3.toInt64) (p2.toInt64 - p0.toInt64))))])
  refine own_step (fun _ k => XS.dcmpS X1.here hx rfl (hb hby at_70) rfl (dcmpV_w (own_bm own_b0 (own_bm (own_bs p1 p3) (own_bs p2 p0))) own_b0 .l) k) ?_
  show own_Go p e below P T1 (mkF m 71 #[.val (.int p0), .val (.int p1), .val (.int p2), .val (.int p3), .val (.double (FP.l2d (own_M (p1.toInt64 - p3.toInt64) (p2.toInt64 - p0.toInt64)))), .second, .val (.long (p1.toInt64 - p3.toInt64)), .second, .val (.long (p2.toInt64 - p0.toInt64)), .second, .val (.double (FP.l2d (p1.toInt64 - p3.toInt64))), .second, .val (.double (FP.l2d (p2.toInt64 - p0.toInt64))), .second, .val (.int (1 : Int32)), .unset] [(.int (lcmpW (own_M (p1.toInt64 - p3.toInt64) (p2.toInt64 - p0.toInt64)) 0))])
  by_cases hc2 : (lcmpW (own_M (p1.toInt64 - p3.toInt64) (p2.toInt64 - p0.toInt64)) 0) = (0 : Int32)
  · refine own_step (fun _ k => XS.ifYes X1.here hx rfl (pc0 := 71) (pc' := 90) rfl (hb hby at_71) rfl ((if0 _ _).trans (teq hc2).1) (by decide) (by decide) k) ?_
    show own_Go p e below P T1 (mkF m 90 #[.val (.int p0), .val (.int p1), .val (.int p2), .val (.int p3), .val (.double (FP.l2d (own_M (p1.toInt64 - p3.toInt64) (p2.toInt64 - p0.toInt64)))), .second, .val (.long (p1.toInt64 - p3.toInt64)), .second, .val (.long (p2.toInt64 - p0.toInt64)), .second, .val (.double (FP.l2d (p1.toInt64 - p3.toInt64))), .second, .val (.double (FP.l2d (p2.toInt64 - p0.toInt64))), .second, .val (.int (1 : Int32)), .unset] [])
    refine own_step (fun _ k => XS.iconst X1.here hx rfl (hb hby at_90) k) ?_
    show own_Go p e below P T1 (mkF m 91 #[.val (.int p0), .val (.int p1), .val (.int p2), .val (.int p3), .val (.double (FP.l2d (own_M (p1.toInt64 - p3.toInt64) (p2.toInt64 - p0.toInt64)))), .second, .val (.long (p1.toInt64 - p3.toInt64)), .second, .val (.long (p2.toInt64 - p0.toInt64)), .second, .val (.double (FP.l2d (p1.toInt64 - p3.toInt64))), .second, .val (.double (FP.l2d (p2.toInt64 - p0.toInt64))), .second, .val (.int (1 : Int32)), .unset] [(.int (1 : Int32))])
    refine own_step (fun _ k => XS.goto X1.here hx rfl (pc0 := 91) (pc' := 95) rfl (hb hby at_91) (by decide) (by decide) k) ?_
    show own_Go p e below P T1 (mkF m 95 #[.val (.int p0), .val (.int p1), .val (.int p2), .val (.int p3), .val (.double (FP.l2d (own_M (p1.toInt64 - p3.toInt64) (p2.toInt64 - p0.toInt64)))), .second, .val (.long (p1.toInt64 - p3.toInt64)), .second, .val (.long (p2.toInt64 - p0.toInt64)), .second, .val (.double (FP.l2d (p1.toInt64 - p3.toInt64))), .second, .val (.double (FP.l2d (p2.toInt64 - p0.toInt64))), .second, .val (.int (1 : Int32)), .unset] [(.int (1 : Int32))])
    refine own_step (fun _ k => XS.istore X1.here hx rfl (hb hby at_95) rfl (l' := #[.val (.int p0), .val (.int p1), .val (.int p2), .val (.int p3), .val (.double (FP.l2d (own_M (p1.toInt64 - p3.toInt64) (p2.toInt64 - p0.toInt64)))), .second, .val (.long (p1.toInt64 - p3.toInt64)), .second, .val (.long (p2.toInt64 - p0.toInt64)), .second, .val (.double (FP.l2d (p1.toInt64 - p3.toInt64))), .second, .val (.double (FP.l2d (p2.toInt64 - p0.toInt64))), .second, .val (.int (1 : Int32)), .val (.int (1 : Int32))]) rfl k) ?_
    show own_Go p e below P T1 (mkF m 97 #[.val (.int p0), .val (.int p1), .val (.int p2), .val (.int p3), .val (.double (FP.l2d (own_M (p1.toInt64 - p3.toInt64) (p2.toInt64 - p0.toInt64)))), .second, .val (.long (p1.toInt64 - p3.toInt64)), .second, .val (.long (p2.toInt64 - p0.toInt64)), .second, .val (.double (FP.l2d (p1.toInt64 - p3.toInt64))), .second, .val (.double (FP.l2d (p2.toInt64 - p0.toInt64))), .second, .val (.int (1 : Int32)), .val (.int (1 : Int32))] [])
    refine own_step (fun _ k => XS.iload X1.here hx rfl (hb hby at_97) rfl k) ?_
    show own_Go p e below P T1 (mkF m 99 #[.val (.int p0), .val (.int p1), .val (.int p2), .val (.int p3), .val (.double (FP.l2d (own_M (p1.toInt64 - p3.toInt64) (p2.toInt64 - p0.toInt64)))), .second, .val (.long (p1.toInt64 - p3.toInt64)), .second, .val (.long (p2.toInt64 - p0.toInt64)), .second, .val (.double (FP.l2d (p1.toInt64 - p3.toInt64))), .second, .val (.double (FP.l2d (p2.toInt64 - p0.toInt64))), .second, .val (.int (1 : Int32)), .val (.int (1 : Int32))] [(.int (1 : Int32))])
    refine own_step (fun _ k => XS.ifNo X1.here hx rfl (hb hby at_99) rfl ((if0 _ _).trans (feq (by decide : ¬ ((1 : Int32) = (0 : Int32)))).1) k) ?_
    show own_Go p e below P T1 (mkF m 102 #[.val (.int p0), .val (.int p1), .val (.int p2), .val (.int p3), .val (.double (FP.l2d (own_M (p1.toInt64 - p3.toInt64) (p2.toInt64 - p0.toInt64)))), .second, .val (.long (p1.toInt64 - p3.toInt64)), .second, .val (.long (p2.toInt64 - p0.toInt64)), .second, .val (.double (FP.l2d (p1.toInt64 - p3.toInt64))), .second, .val (.double (FP.l2d (p2.toInt64 - p0.toInt64))), .second, .val (.int (1 : Int32)), .val (.int (1 : Int32))] [])
    refine own_step (fun _ k => XS.iload X1.here hx rfl (hb hby at_102) rfl k) ?_
    show own_Go p e below P T1 (mkF m 104 #[.val (.int p0), .val (.int p1), .val (.int p2), .val (.int p3), .val (.double (FP.l2d (own_M (p1.toInt64 - p3.toInt64) (p2.toInt64 - p0.toInt64)))), .second, .val (.long (p1.toInt64 - p3.toInt64)), .second, .val (.long (p2.toInt64 - p0.toInt64)), .second, .val (.double (FP.l2d (p1.toInt64 - p3.toInt64))), .second, .val (.double (FP.l2d (p2.toInt64 - p0.toInt64))), .second, .val (.int (1 : Int32)), .val (.int (1 : Int32))] [(.int (1 : Int32))])
    refine own_step (fun _ k => XS.ifNo X1.here hx rfl (hb hby at_104) rfl ((if0 _ _).trans (feq (by decide : ¬ ((1 : Int32) = (0 : Int32)))).1) k) ?_
    show own_Go p e below P T1 (mkF m 107 #[.val (.int p0), .val (.int p1), .val (.int p2), .val (.int p3), .val (.double (FP.l2d (own_M (p1.toInt64 - p3.toInt64) (p2.toInt64 - p0.toInt64)))), .second, .val (.long (p1.toInt64 - p3.toInt64)), .second, .val (.long (p2.toInt64 - p0.toInt64)), .second, .val (.double (FP.l2d (p1.toInt64 - p3.toInt64))), .second, .val (.double (FP.l2d (p2.toInt64 - p0.toInt64))), .second, .val (.int (1 : Int32)), .val (.int (1 : Int32))] [])
    refine own_step (fun _ k => XS.iconst X1.here hx rfl (hb hby at_107) k) ?_
    show own_Go p e below P T1 (mkF m 108 #[.val (.int p0), .val (.int p1), .val (.int p2), .val (.int p3), .val (.double (FP.l2d (own_M (p1.toInt64 - p3.toInt64) (p2.toInt64 - p0.toInt64)))), .second, .val (.long (p1.toInt64 - p3.toInt64)), .second, .val (.long (p2.toInt64 - p0.toInt64)), .second, .val (.double (FP.l2d (p1.toInt64 - p3.toInt64))), .second, .val (.double (FP.l2d (p2.toInt64 - p0.toInt64))), .second, .val (.int (1 : Int32)), .val (.int (1 : Int32))] [(.int (1 : Int32))])
    refine own_step (fun _ k => XS.goto X1.here hx rfl (pc0 := 108) (pc' := 112) rfl (hb hby at_108) (by decide) (by decide) k) ?_
    show own_Go p e below P T1 (mkF m 112 #[.val (.int p0), .val (.int p1), .val (.int p2), .val (.int p3), .val (.double (FP.l2d (own_M (p1.toInt64 - p3.toInt64) (p2.toInt64 - p0.toInt64)))), .second, .val (.long (p1.toInt64 - p3.toInt64)), .second, .val (.long (p2.toInt64 - p0.toInt64)), .second, .val (.double (FP.l2d (p1.toInt64 - p3.toInt64))), .second, .val (.double (FP.l2d (p2.toInt64 - p0.toInt64))), .second, .val (.int (1 : Int32)), .val (.int (1 : Int32))] [(.int (1 : Int32))])
    obtain ⟨fs, hr, hrun, hended, hW, hsame⟩ := X1.leave (v := some (.int (1 : Int32))) (fun h => by rw [Bd.returns] at h; cases h)
    refine ⟨_, _, retN X1 hx (t := .boolean) Bd.returns (by simp) (hb hby at_112) hr, hrun, hended, hfin _ _ ⟨_, _, rfl, ?_, ⟨_, rfl⟩, hW, hsame.mono (by decide) (by decide)⟩⟩
    show Q0 Z p0 p1 p2 p3 h0 n0 (some (.int (1 : Int32))) T1.heap _
    rw [e1]
    exact ⟨rfl, N1⟩
  · refine own_step (fun _ k => XS.ifNo X1.here hx rfl (hb hby at_71) rfl ((if0 _ _).trans (feq hc2).1) k) ?_
    show own_Go p e below P T1 (mkF m 74 #[.val (.int p0), .val (.int p1), .val (.int p2), .val (.int p3), .val (.double (FP.l2d (own_M (p1.toInt64 - p3.toInt64) (p2.toInt64 - p0.toInt64)))), .second, .val (.long (p1.toInt64 - p3.toInt64)), .second, .val (.long (p2.toInt64 - p0.toInt64)), .second, .val (.double (FP.l2d (p1.toInt64 - p3.toInt64))), .second, .val (.double (FP.l2d (p2.toInt64 - p0.toInt64))), .second, .val (.int (1 : Int32)), .unset] [])
    refine own_step (fun _ k => XS.dload X1.here hx rfl (hb hby at_74) rfl k) ?_
    show own_Go p e below P T1 (mkF m 76 #[.val (.int p0), .val (.int p1), .val (.int p2), .val (.int p3), .val (.double (FP.l2d (own_M (p1.toInt64 - p3.toInt64) (p2.toInt64 - p0.toInt64)))), .second, .val (.long (p1.toInt64 - p3.toInt64)), .second, .val (.long (p2.toInt64 - p0.toInt64)), .second, .val (.double (FP.l2d (p1.toInt64 - p3.toInt64))), .second, .val (.double (FP.l2d (p2.toInt64 - p0.toInt64))), .second, .val (.int (1 : Int32)), .unset] [(.double (FP.l2d (own_M (p1.toInt64 - p3.toInt64) (p2.toInt64 - p0.toInt64))))])
    refine own_step (fun _ k => XS.dload X1.here hx rfl (hb hby at_76) rfl k) ?_
    show own_Go p e below P T1 (mkF m 78 #[.val (.int p0), .val (.int p1), .val (.int p2), .val (.int p3), .val (.double (FP.l2d (own_M (p1.toInt64 - p3.toInt64) (p2.toInt64 - p0.toInt64)))), .second, .val (.long (p1.toInt64 - p3.toInt64)), .second, .val (.long (p2.toInt64 - p0.toInt64)), .second, .val (.double (FP.l2d (p1.toInt64 - p3.toInt64))), .second, .val (.double (FP.l2d (p2.toInt64 - p0.toInt64))), .second, .val (.int (1 : Int32)), .unset] [(.double (FP.l2d (p1.toInt64 - p3.toInt64))), (.double (FP.l2d (own_M (p1.toInt64 - p3.toInt64) (p2.toInt64 - p0.toInt64))))])
    refine own_step (fun _ k => XS.dcmpS X1.here hx rfl (hb hby at_78) rfl (dcmpV_w (own_bm own_b0 (own_bm (own_bs p1 p3) (own_bs p2 p0))) (own_bs p1 p3) .l) k) ?_
    show own_Go p e below P T1 (mkF m 79 #[.val (.int p0), .val (.int p1), .val (.int p2), .val (.int p3), .val (.double (FP.l2d (own_M (p1.toInt64 - p3.toInt64) (p2.toInt64 - p0.toInt64)))), .second, .val (.long (p1.toInt64 - p3.toInt64)), .second, .val (.long (p2.toInt64 - p0.toInt64)), .second, .val (.double (FP.l2d (p1.toInt64 - p3.toInt64))), .second, .val (.double (FP.l2d (p2.toInt64 - p0.toInt64))), .second, .val (.int (1 : Int32)), .unset] [(.int (lcmpW (own_M (p1.toInt64 - p3.toInt64) (p2.toInt64 - p0.toInt64)) (p1.toInt64 - p3.toInt64)))])
    by_cases hc4 : (lcmpW (own_M (p1.toInt64 - p3.toInt64) (p2.toInt64 - p0.toInt64)) (p1.toInt64 - p3.toInt64)) = (0 : Int32)
    · refine own_step (fun _ k => XS.ifYes X1.here hx rfl (pc0 := 79) (pc' := 90) rfl (hb hby at_79) rfl ((if0 _ _).trans (teq hc4).1) (by decide) (by decide) k) ?_
      show own_Go p e below P T1 (mkF m 90 #[.val (.int p0), .val (.int p1), .val (.int p2), .val (.int p3), .val (.double (FP.l2d (own_M (p1.toInt64 - p3.toInt64) (p2.toInt64 - p0.toInt64)))), .second, .val (.long (p1.toInt64 - p3.toInt64)), .second, .val (.long (p2.toInt64 - p0.toInt64)), .second, .val (.double (FP.l2d (p1.toInt64 - p3.toInt64))), .second, .val (.double (FP.l2d (p2.toInt64 - p0.toInt64))), .second, .val (.int (1 : Int32)), .unset] [])
      refine own_step (fun _ k => XS.iconst X1.here hx rfl (hb hby at_90) k) ?_
      show own_Go p e below P T1 (mkF m 91 #[.val (.int p0), .val (.int p1), .val (.int p2), .val (.int p3), .val (.double (FP.l2d (own_M (p1.toInt64 - p3.toInt64) (p2.toInt64 - p0.toInt64)))), .second, .val (.long (p1.toInt64 - p3.toInt64)), .second, .val (.long (p2.toInt64 - p0.toInt64)), .second, .val (.double (FP.l2d (p1.toInt64 - p3.toInt64))), .second, .val (.double (FP.l2d (p2.toInt64 - p0.toInt64))), .second, .val (.int (1 : Int32)), .unset] [(.int (1 : Int32))])
      refine own_step (fun _ k => XS.goto X1.here hx rfl (pc0 := 91) (pc' := 95) rfl (hb hby at_91) (by decide) (by decide) k) ?_
      show own_Go p e below P T1 (mkF m 95 #[.val (.int p0), .val (.int p1), .val (.int p2), .val (.int p3), .val (.double (FP.l2d (own_M (p1.toInt64 - p3.toInt64) (p2.toInt64 - p0.toInt64)))), .second, .val (.long (p1.toInt64 - p3.toInt64)), .second, .val (.long (p2.toInt64 - p0.toInt64)), .second, .val (.double (FP.l2d (p1.toInt64 - p3.toInt64))), .second, .val (.double (FP.l2d (p2.toInt64 - p0.toInt64))), .second, .val (.int (1 : Int32)), .unset] [(.int (1 : Int32))])
      refine own_step (fun _ k => XS.istore X1.here hx rfl (hb hby at_95) rfl (l' := #[.val (.int p0), .val (.int p1), .val (.int p2), .val (.int p3), .val (.double (FP.l2d (own_M (p1.toInt64 - p3.toInt64) (p2.toInt64 - p0.toInt64)))), .second, .val (.long (p1.toInt64 - p3.toInt64)), .second, .val (.long (p2.toInt64 - p0.toInt64)), .second, .val (.double (FP.l2d (p1.toInt64 - p3.toInt64))), .second, .val (.double (FP.l2d (p2.toInt64 - p0.toInt64))), .second, .val (.int (1 : Int32)), .val (.int (1 : Int32))]) rfl k) ?_
      show own_Go p e below P T1 (mkF m 97 #[.val (.int p0), .val (.int p1), .val (.int p2), .val (.int p3), .val (.double (FP.l2d (own_M (p1.toInt64 - p3.toInt64) (p2.toInt64 - p0.toInt64)))), .second, .val (.long (p1.toInt64 - p3.toInt64)), .second, .val (.long (p2.toInt64 - p0.toInt64)), .second, .val (.double (FP.l2d (p1.toInt64 - p3.toInt64))), .second, .val (.double (FP.l2d (p2.toInt64 - p0.toInt64))), .second, .val (.int (1 : Int32)), .val (.int (1 : Int32))] [])
      refine own_step (fun _ k => XS.iload X1.here hx rfl (hb hby at_97) rfl k) ?_
      show own_Go p e below P T1 (mkF m 99 #[.val (.int p0), .val (.int p1), .val (.int p2), .val (.int p3), .val (.double (FP.l2d (own_M (p1.toInt64 - p3.toInt64) (p2.toInt64 - p0.toInt64)))), .second, .val (.long (p1.toInt64 - p3.toInt64)), .second, .val (.long (p2.toInt64 - p0.toInt64)), .second, .val (.double (FP.l2d (p1.toInt64 - p3.toInt64))), .second, .val (.double (FP.l2d (p2.toInt64 - p0.toInt64))), .second, .val (.int (1 : Int32)), .val (.int (1 : Int32))] [(.int (1 : Int32))])
      refine own_step (fun _ k => XS.ifNo X1.here hx rfl (hb hby at_99) rfl ((if0 _ _).trans (feq (by decide : ¬ ((1 : Int32) = (0 : Int32)))).1) k) ?_
      show own_Go p e below P T1 (mkF m 102 #[.val (.int p0), .val (.int p1), .val (.int p2), .val (.int p3), .val (.double (FP.l2d (own_M (p1.toInt64 - p3.toInt64) (p2.toInt64 - p0.toInt64)))), .second, .val (.long (p1.toInt64 - p3.toInt64)), .second, .val (.long (p2.toInt64 - p0.toInt64)), .second, .val (.double (FP.l2d (p1.toInt64 - p3.toInt64))), .second, .val (.double (FP.l2d (p2.toInt64 - p0.toInt64))), .second, .val (.int (1 : Int32)), .val (.int (1 : Int32))] [])
      refine own_step (fun _ k => XS.iload X1.here hx rfl (hb hby at_102) rfl k) ?_
      show own_Go p e below P T1 (mkF m 104 #[.val (.int p0), .val (.int p1), .val (.int p2), .val (.int p3), .val (.double (FP.l2d (own_M (p1.toInt64 - p3.toInt64) (p2.toInt64 - p0.toInt64)))), .second, .val (.long (p1.toInt64 - p3.toInt64)), .second, .val (.long (p2.toInt64 - p0.toInt64)), .second, .val (.double (FP.l2d (p1.toInt64 - p3.toInt64))), .second, .val (.double (FP.l2d (p2.toInt64 - p0.toInt64))), .second, .val (.int (1 : Int32)), .val (.int (1 : Int32))] [(.int (1 : Int32))])
      refine own_step (fun _ k => XS.ifNo X1.here hx rfl (hb hby at_104) rfl ((if0 _ _).trans (feq (by decide : ¬ ((1 : Int32) = (0 : Int32)))).1) k) ?_
      show own_Go p e below P T1 (mkF m 107 #[.val (.int p0), .val (.int p1), .val (.int p2), .val (.int p3), .val (.double (FP.l2d (own_M (p1.toInt64 - p3.toInt64) (p2.toInt64 - p0.toInt64)))), .second, .val (.long (p1.toInt64 - p3.toInt64)), .second, .val (.long (p2.toInt64 - p0.toInt64)), .second, .val (.double (FP.l2d (p1.toInt64 - p3.toInt64))), .second, .val (.double (FP.l2d (p2.toInt64 - p0.toInt64))), .second, .val (.int (1 : Int32)), .val (.int (1 : Int32))] [])
      refine own_step (fun _ k => XS.iconst X1.here hx rfl (hb hby at_107) k) ?_
      show own_Go p e below P T1 (mkF m 108 #[.val (.int p0), .val (.int p1), .val (.int p2), .val (.int p3), .val (.double (FP.l2d (own_M (p1.toInt64 - p3.toInt64) (p2.toInt64 - p0.toInt64)))), .second, .val (.long (p1.toInt64 - p3.toInt64)), .second, .val (.long (p2.toInt64 - p0.toInt64)), .second, .val (.double (FP.l2d (p1.toInt64 - p3.toInt64))), .second, .val (.double (FP.l2d (p2.toInt64 - p0.toInt64))), .second, .val (.int (1 : Int32)), .val (.int (1 : Int32))] [(.int (1 : Int32))])
      refine own_step (fun _ k => XS.goto X1.here hx rfl (pc0 := 108) (pc' := 112) rfl (hb hby at_108) (by decide) (by decide) k) ?_
      show own_Go p e below P T1 (mkF m 112 #[.val (.int p0), .val (.int p1), .val (.int p2), .val (.int p3), .val (.double (FP.l2d (own_M (p1.toInt64 - p3.toInt64) (p2.toInt64 - p0.toInt64)))), .second, .val (.long (p1.toInt64 - p3.toInt64)), .second, .val (.long (p2.toInt64 - p0.toInt64)), .second, .val (.double (FP.l2d (p1.toInt64 - p3.toInt64))), .second, .val (.double (FP.l2d (p2.toInt64 - p0.toInt64))), .second, .val (.int (1 : Int32)), .val (.int (1 : Int32))] [(.int (1 : Int32))])
      obtain ⟨fs, hr, hrun, hended, hW, hsame⟩ := X1.leave (v := some (.int (1 : Int32))) (fun h => by rw [Bd.returns] at h; cases h)
      refine ⟨_, _, retN X1 hx (t := .boolean) Bd.returns (by simp) (hb hby at_112) hr, hrun, hended, hfin _ _ ⟨_, _, rfl, ?_, ⟨_, rfl⟩, hW, hsame.mono (by decide) (by decide)⟩⟩
      show Q0 Z p0 p1 p2 p3 h0 n0 (some (.int (1 : Int32))) T1.heap _
      rw [e1]
      exact ⟨rfl, N1⟩
    · refine own_step (fun _ k => XS.ifNo X1.here hx rfl (hb hby at_79) rfl ((if0 _ _).trans (feq hc4).1) k) ?_
      show own_Go p e below P T1 (mkF m 82 #[.val (.int p0), .val (.int p1), .val (.int p2), .val (.int p3), .val (.double (FP.l2d (own_M (p1.toInt64 - p3.toInt64) (p2.toInt64 - p0.toInt64)))), .second, .val (.long (p1.toInt64 - p3.toInt64)), .second, .val (.long (p2.toInt64 - p0.toInt64)), .second, .val (.double (FP.l2d (p1.toInt64 - p3.toInt64))), .second, .val (.double (FP.l2d (p2.toInt64 - p0.toInt64))), .second, .val (.int (1 : Int32)), .unset] [])
      refine own_step (fun _ k => XS.dload X1.here hx rfl (hb hby at_82) rfl k) ?_
      show own_Go p e below P T1 (mkF m 84 #[.val (.int p0), .val (.int p1), .val (.int p2), .val (.int p3), .val (.double (FP.l2d (own_M (p1.toInt64 - p3.toInt64) (p2.toInt64 - p0.toInt64)))), .second, .val (.long (p1.toInt64 - p3.toInt64)), .second, .val (.long (p2.toInt64 - p0.toInt64)), .second, .val (.double (FP.l2d (p1.toInt64 - p3.toInt64))), .second, .val (.double (FP.l2d (p2.toInt64 - p0.toInt64))), .second, .val (.int (1 : Int32)), .unset] [(.double (FP.l2d (own_M (p1.toInt64 - p3.toInt64) (p2.toInt64 - p0.toInt64))))])
      refine own_step (fun _ k => XS.dload X1.here hx rfl (hb hby at_84) rfl k) ?_
      show own_Go p e below P T1 (mkF m 86 #[.val (.int p0), .val (.int p1), .val (.int p2), .val (.int p3), .val (.double (FP.l2d (own_M (p1.toInt64 - p3.toInt64) (p2.toInt64 - p0.toInt64)))), .second, .val (.long (p1.toInt64 - p3.toInt64)), .second, .val (.long (p2.toInt64 - p0.toInt64)), .second, .val (.double (FP.l2d (p1.toInt64 - p3.toInt64))), .second, .val (.double (FP.l2d (p2.toInt64 - p0.toInt64))), .second, .val (.int (1 : Int32)), .unset] [(.double (FP.l2d (p2.toInt64 - p0.toInt64))), (.double (FP.l2d (own_M (p1.toInt64 - p3.toInt64) (p2.toInt64 - p0.toInt64))))])
      refine own_step (fun _ k => XS.dcmpS X1.here hx rfl (hb hby at_86) rfl (dcmpV_w (own_bm own_b0 (own_bm (own_bs p1 p3) (own_bs p2 p0))) (own_bs p2 p0) .l) k) ?_
      show own_Go p e below P T1 (mkF m 87 #[.val (.int p0), .val (.int p1), .val (.int p2), .val (.int p3), .val (.double (FP.l2d (own_M (p1.toInt64 - p3.toInt64) (p2.toInt64 - p0.toInt64)))), .second, .val (.long (p1.toInt64 - p3.toInt64)), .second, .val (.long (p2.toInt64 - p0.toInt64)), .second, .val (.double (FP.l2d (p1.toInt64 - p3.toInt64))), .second, .val (.double (FP.l2d (p2.toInt64 - p0.toInt64))), .second, .val (.int (1 : Int32)), .unset] [(.int (lcmpW (own_M (p1.toInt64 - p3.toInt64) (p2.toInt64 - p0.toInt64)) (p2.toInt64 - p0.toInt64)))])
      refine own_step (fun _ k => XS.ifNo X1.here hx rfl (hb hby at_87) rfl ((if0 _ _).trans (teq (own_one (p1.toInt64 - p3.toInt64) (p2.toInt64 - p0.toInt64) hc2 hc4)).2) k) ?_
      show own_Go p e below P T1 (mkF m 90 #[.val (.int p0), .val (.int p1), .val (.int p2), .val (.int p3), .val (.double (FP.l2d (own_M (p1.toInt64 - p3.toInt64) (p2.toInt64 - p0.toInt64)))), .second, .val (.long (p1.toInt64 - p3.toInt64)), .second, .val (.long (p2.toInt64 - p0.toInt64)), .second, .val (.double (FP.l2d (p1.toInt64 - p3.toInt64))), .second, .val (.double (FP.l2d (p2.toInt64 - p0.toInt64))), .second, .val (.int (1 : Int32)), .unset] [])
      refine own_step (fun _ k => XS.iconst X1.here hx rfl (hb hby at_90) k) ?_
      show own_Go p e below P T1 (mkF m 91 #[.val (.int p0), .val (.int p1), .val (.int p2), .val (.int p3), .val (.double (FP.l2d (own_M (p1.toInt64 - p3.toInt64) (p2.toInt64 - p0.toInt64)))), .second, .val (.long (p1.toInt64 - p3.toInt64)), .second, .val (.long (p2.toInt64 - p0.toInt64)), .second, .val (.double (FP.l2d (p1.toInt64 - p3.toInt64))), .second, .val (.double (FP.l2d (p2.toInt64 - p0.toInt64))), .second, .val (.int (1 : Int32)), .unset] [(.int (1 : Int32))])
      refine own_step (fun _ k => XS.goto X1.here hx rfl (pc0 := 91) (pc' := 95) rfl (hb hby at_91) (by decide) (by decide) k) ?_
      show own_Go p e below P T1 (mkF m 95 #[.val (.int p0), .val (.int p1), .val (.int p2), .val (.int p3), .val (.double (FP.l2d (own_M (p1.toInt64 - p3.toInt64) (p2.toInt64 - p0.toInt64)))), .second, .val (.long (p1.toInt64 - p3.toInt64)), .second, .val (.long (p2.toInt64 - p0.toInt64)), .second, .val (.double (FP.l2d (p1.toInt64 - p3.toInt64))), .second, .val (.double (FP.l2d (p2.toInt64 - p0.toInt64))), .second, .val (.int (1 : Int32)), .unset] [(.int (1 : Int32))])
      refine own_step (fun _ k => XS.istore X1.here hx rfl (hb hby at_95) rfl (l' := #[.val (.int p0), .val (.int p1), .val (.int p2), .val (.int p3), .val (.double (FP.l2d (own_M (p1.toInt64 - p3.toInt64) (p2.toInt64 - p0.toInt64)))), .second, .val (.long (p1.toInt64 - p3.toInt64)), .second, .val (.long (p2.toInt64 - p0.toInt64)), .second, .val (.double (FP.l2d (p1.toInt64 - p3.toInt64))), .second, .val (.double (FP.l2d (p2.toInt64 - p0.toInt64))), .second, .val (.int (1 : Int32)), .val (.int (1 : Int32))]) rfl k) ?_
      show own_Go p e below P T1 (mkF m 97 #[.val (.int p0), .val (.int p1), .val (.int p2), .val (.int p3), .val (.double (FP.l2d (own_M (p1.toInt64 - p3.toInt64) (p2.toInt64 - p0.toInt64)))), .second, .val (.long (p1.toInt64 - p3.toInt64)), .second, .val (.long (p2.toInt64 - p0.toInt64)), .second, .val (.double (FP.l2d (p1.toInt64 - p3.toInt64))), .second, .val (.double (FP.l2d (p2.toInt64 - p0.toInt64))), .second, .val (.int (1 : Int32)), .val (.int (1 : Int32))] [])
      refine own_step (fun _ k => XS.iload X1.here hx rfl (hb hby at_97) rfl k) ?_
      show own_Go p e below P T1 (mkF m 99 #[.val (.int p0), .val (.int p1), .val (.int p2), .val (.int p3), .val (.double (FP.l2d (own_M (p1.toInt64 - p3.toInt64) (p2.toInt64 - p0.toInt64)))), .second, .val (.long (p1.toInt64 - p3.toInt64)), .second, .val (.long (p2.toInt64 - p0.toInt64)), .second, .val (.double (FP.l2d (p1.toInt64 - p3.toInt64))), .second, .val (.double (FP.l2d (p2.toInt64 - p0.toInt64))), .second, .val (.int (1 : Int32)), .val (.int (1 : Int32))] [(.int (1 : Int32))])
      refine own_step (fun _ k => XS.ifNo X1.here hx rfl (hb hby at_99) rfl ((if0 _ _).trans (feq (by decide : ¬ ((1 : Int32) = (0 : Int32)))).1) k) ?_
      show own_Go p e below P T1 (mkF m 102 #[.val (.int p0), .val (.int p1), .val (.int p2), .val (.int p3), .val (.double (FP.l2d (own_M (p1.toInt64 - p3.toInt64) (p2.toInt64 - p0.toInt64)))), .second, .val (.long (p1.toInt64 - p3.toInt64)), .second, .val (.long (p2.toInt64 - p0.toInt64)), .second, .val (.double (FP.l2d (p1.toInt64 - p3.toInt64))), .second, .val (.double (FP.l2d (p2.toInt64 - p0.toInt64))), .second, .val (.int (1 : Int32)), .val (.int (1 : Int32))] [])
      refine own_step (fun _ k => XS.iload X1.here hx rfl (hb hby at_102) rfl k) ?_
      show own_Go p e below P T1 (mkF m 104 #[.val (.int p0), .val (.int p1), .val (.int p2), .val (.int p3), .val (.double (FP.l2d (own_M (p1.toInt64 - p3.toInt64) (p2.toInt64 - p0.toInt64)))), .second, .val (.long (p1.toInt64 - p3.toInt64)), .second, .val (.long (p2.toInt64 - p0.toInt64)), .second, .val (.double (FP.l2d (p1.toInt64 - p3.toInt64))), .second, .val (.double (FP.l2d (p2.toInt64 - p0.toInt64))), .second, .val (.int (1 : Int32)), .val (.int (1 : Int32))] [(.int (1 : Int32))])
      refine own_step (fun _ k => XS.ifNo X1.here hx rfl (hb hby at_104) rfl ((if0 _ _).trans (feq (by decide : ¬ ((1 : Int32) = (0 : Int32)))).1) k) ?_
      show own_Go p e below P T1 (mkF m 107 #[.val (.int p0), .val (.int p1), .val (.int p2), .val (.int p3), .val (.double (FP.l2d (own_M (p1.toInt64 - p3.toInt64) (p2.toInt64 - p0.toInt64)))), .second, .val (.long (p1.toInt64 - p3.toInt64)), .second, .val (.long (p2.toInt64 - p0.toInt64)), .second, .val (.double (FP.l2d (p1.toInt64 - p3.toInt64))), .second, .val (.double (FP.l2d (p2.toInt64 - p0.toInt64))), .second, .val (.int (1 : Int32)), .val (.int (1 : Int32))] [])
      refine own_step (fun _ k => XS.iconst X1.here hx rfl (hb hby at_107) k) ?_
      show own_Go p e below P T1 (mkF m 108 #[.val (.int p0), .val (.int p1), .val (.int p2), .val (.int p3), .val (.double (FP.l2d (own_M (p1.toInt64 - p3.toInt64) (p2.toInt64 - p0.toInt64)))), .second, .val (.long (p1.toInt64 - p3.toInt64)), .second, .val (.long (p2.toInt64 - p0.toInt64)), .second, .val (.double (FP.l2d (p1.toInt64 - p3.toInt64))), .second, .val (.double (FP.l2d (p2.toInt64 - p0.toInt64))), .second, .val (.int (1 : Int32)), .val (.int (1 : Int32))] [(.int (1 : Int32))])
      refine own_step (fun _ k => XS.goto X1.here hx rfl (pc0 := 108) (pc' := 112) rfl (hb hby at_108) (by decide) (by decide) k) ?_
      show own_Go p e below P T1 (mkF m 112 #[.val (.int p0), .val (.int p1), .val (.int p2), .val (.int p3), .val (.double (FP.l2d (own_M (p1.toInt64 - p3.toInt64) (p2.toInt64 - p0.toInt64)))), .second, .val (.long (p1.toInt64 - p3.toInt64)), .second, .val (.long (p2.toInt64 - p0.toInt64)), .second, .val (.double (FP.l2d (p1.toInt64 - p3.toInt64))), .second, .val (.double (FP.l2d (p2.toInt64 - p0.toInt64))), .second, .val (.int (1 : Int32)), .val (.int (1 : Int32))] [(.int (1 : Int32))])
      obtain ⟨fs, hr, hrun, hended, hW, hsame⟩ := X1.leave (v := some (.int (1 : Int32))) (fun h => by rw [Bd.returns] at h; cases h)
      refine ⟨_, _, retN X1 hx (t := .boolean) Bd.returns (by simp) (hb hby at_112) hr, hrun, hended, hfin _ _ ⟨_, _, rfl, ?_, ⟨_, rfl⟩, hW, hsame.mono (by decide) (by decide)⟩⟩
      show Q0 Z p0 p1 p2 p3 h0 n0 (some (.int (1 : Int32))) T1.heap _
      rw [e1]
      exact ⟨rfl, N1⟩
set_option maxRecDepth 65536 in
set_option maxHeartbeats 40000000 in
theorem comes_1 {Post : Tables → Env → Array Value → State → Outcome → State → Prop} (hpost : ∀ tb e args s v u, (limb_1_1.after args s (.returned v) u = true ∧ limb_1_2.after args s (.returned v) u = true ∧ True) → FrameEnd s (.returned v) u (Jvm.fieldLocs frame_1_writes args s ++ Jvm.arrayLocs frame_1_arrays args s ++ Jvm.staticLocs frame_1_statics s) 0 0 → Post tb e args s (.returned v) u) :
    ArmFor flags0 classFile x code maxLocals ret World_1 tables_1 room_1 Calls_1 rest_1 Pre_1 Post := by
  intro l hfl _ _ p e ha hc hk s m args below hf hA hF happ hP
  obtain ⟨hcalls, hrest, hpre⟩ := hP
  obtain ⟨-, -, -, hnamed, -, -, -, hat⟩ := (Spec.applies_iff hf).mp happ
  obtain ⟨hg, hn⟩ := and_e (Cond.before_iff.mp (show (Jvm.Cond.and given_1 narrow_1).before args s = true from hpre))
  obtain ⟨hcnt, hg0⟩ := and_e hg
  obtain ⟨ga0, hg1⟩ := and_e hg0
  obtain ⟨ga1, hg2⟩ := and_e hg1
  obtain ⟨ga2, hg3⟩ := and_e hg2
  have ga3 := hg3
  obtain ⟨w0, w1, w2, w3, rfl⟩ : ∃ w0 w1 w2 w3 : Value, args = #[w0, w1, w2, w3] := by
    have hs : args.size = 4 := by simpa [Cond.value, given_1] using hcnt
    obtain ⟨L⟩ := args
    match L, hs with
    | [w0, w1, w2, w3], _ => exact ⟨w0, w1, w2, w3, rfl⟩
  have hw := fun d (hd : d ∈ tables_1) => atoms_spec (ws := Jvm.Cond.code x code maxLocals ret :: tables_1) hat d (List.mem_cons_of_mem _ hd)
  have hfit : Fit s := fun {y c} hc i hi => by
    obtain ⟨ha, rfl⟩ := Array.getElem?_eq_some_iff.mp hc
    have q := List.all_eq_true.mp ((Array.all_eq_true_iff_forall_mem.mp hF) _ (Array.getElem_mem ha)) i (List.mem_range.mpr hi)
    simpa [Array.getElem?_eq_getElem hi] using q
  obtain ⟨i0, ei0⟩ := is_v ga0
  obtain rfl : w0 = (.int i0) := Option.some.inj ei0
  obtain ⟨i1, ei1⟩ := is_v ga1
  obtain rfl : w1 = (.int i1) := Option.some.inj ei1
  obtain ⟨i2, ei2⟩ := is_v ga2
  obtain rfl : w2 = (.int i2) := Option.some.inj ei2
  obtain ⟨i3, ei3⟩ := is_v ga3
  obtain rfl : w3 = (.int i3) := Option.some.inj ei3
  obtain ⟨n, o, h1, h2, h3, _, L, rfl, ⟨rfl, N⟩, hq⟩ := rm0 l s _ hw tables_1 i0 i1 i2 i3  s.heap s.heap.size (Nat.le_refl _)  p e ha hc hk s m _ below hf ((Spec.applies_iff_loose hf).mp happ).1 ⟨rfl, State.Warmed39.refl s, rfl⟩ trivial
  refine ⟨n, _, h1, h2, h3, hpost _ _ _ _ _ _ ⟨Cond.after_iff.mpr rfl, Cond.after_iff.mpr (eq_i res_at (Term.int_eval (1)) rfl), trivial⟩ ⟨hq.1, hq.2.1, (hq.2.2.sift fun y hy => Or.inr (N y hy)).mono (by decide) (by decide)⟩⟩
theorem main_1_1 : Claimed_1_1 := comes_1 fun _ _ _ _ _ _ h hF => ⟨h.1, hF⟩
theorem main_1_2 : Claimed_1_2 := comes_1 fun _ _ _ _ _ _ h hF => ⟨h.2.1, hF⟩
end Jvm.Pilot.@@N@@
namespace Jvm.Pilot.@@N@@
open Jvm Jvm.ClassFile Sem Op Lib Jvm.Free Jvm.Stand Jvm.Pilot.@@N@@.Jvm.D
/-! MADE BY PROGRAM (witnessworld.py) out of the Statement's table words and the real class files: 10 classes; the members and pool entries that the words name. The judged class is class 1, her method 1. -/
namespace start1
open Jvm.ClassFile
def u (s : String) : CpInfo := .utf8 (stringToUtf16 s)
/-- a pool by its gaps: so many unusable entries, then the entry; so many at the end -/
def gap : Nat → List CpInfo → List CpInfo
  | 0, r => r
  | n + 1, r => .unusable :: gap n r
def poolList (es : List (Nat × CpInfo)) (last : Nat) : List CpInfo := es.foldr (fun e r => gap e.1 (e.2 :: r)) (gap last [])
def pool (es : List (Nat × CpInfo)) (last : Nat) : Array CpInfo := ⟨poolList es last⟩
def fileOf (pool : Array CpInfo) (this : Nat) (attrs : Array Attribute := #[]) (ms : Array MethodInfo := #[]) (fl : Nat := 33) (sup : Nat := 0) (ifs : Array Nat := #[]) (fds : Array FieldInfo := #[]) : ClassFile where
  minorVersion := 0
  majorVersion := 65
  constantPool := pool
  accessFlags := fl
  thisClass := this
  superClass := sup
  interfaces := ifs
  fields := fds
  methods := ms
  attributes := attrs
def plain (name : String) (sup : Option ClassId) : Class where
  name := name
  kind := .ordinary
  loader := none
  accessFlags := 33
  super := sup
  interfaces := #[]
  cf := none
  fields := #[]
  methods := #[]
  instanceTypes := #[]
  staticTypes := #[]
  resolved := #[]
  callSites := []
  init := .initialized
  statics := none
  mirror := none

def pool0 : Array CpInfo := pool [(5, u "<init>"), (0, u "()V"), (1, .class_ 10), (1, u "java/lang/Object")] 113

def k0m0 : Method := { name := "<init>", desc := "()V", sig := { parameters := [], returnType := none }, accessFlags := 1, code := none }
/-- java/lang/Object -/
def k0 : Class := { plain "java/lang/Object" none with
  accessFlags := 33
  interfaces := #[]
  cf := some (fileOf pool0 8 #[] #[{ accessFlags := 1, nameIndex := 5, descriptorIndex := 6, attributes := #[] }] 33 0 #[] #[])
  fields := #[]
  methods := #[k0m0]
  instanceTypes := #[]
  staticTypes := #[]
  resolved := Array.replicate 124 none
  statics := none }

def pool1 : Array CpInfo := pool [(2, .class_ 4), (1, u "java/lang/Object"), (0, u "<init>"), (0, u "()V"), (0, .methodref 8 9), (0, .class_ 10), (0, .nameAndType 11 12), (0, u "com/example/synopsis/synopsis/DistanceBound"), (0, u "covering"), (0, u "(DDDD)D"), (0, .class_ 14), (0, u "com/example/synopsis/synopsis/DistanceBoundCoveringPinLaw"), (2, u "law"), (0, u "(IIII)Z")] 3

def k1m0 : Method := { name := "<init>", desc := "()V", sig := { parameters := [], returnType := none }, accessFlags := 1, code := none }
def k1c1 : Code := { maxStack := 8, maxLocals := 16, code := code, exceptionTable := #[], attributes := #[] }
def k1m1 : Method := { name := "law", desc := "(IIII)Z", sig := { parameters := [.int, .int, .int, .int], returnType := some .boolean }, accessFlags := 9, code := some k1c1 }
/-- com/example/synopsis/synopsis/DistanceBoundCoveringPinLaw -/
def k1 : Class := { plain "com/example/synopsis/synopsis/DistanceBoundCoveringPinLaw" (some 0) with
  accessFlags := 49
  interfaces := #[]
  cf := some (fileOf pool1 13 #[] #[{ accessFlags := 1, nameIndex := 5, descriptorIndex := 6, attributes := #[] }, { accessFlags := 9, nameIndex := 17, descriptorIndex := 18, attributes := #[] }] 49 2 #[] #[])
  fields := #[]
  methods := #[k1m0, k1m1]
  instanceTypes := #[]
  staticTypes := #[]
  resolved := Array.replicate 22 none
  statics := none }

def pool2 : Array CpInfo := pool [(2, .class_ 4), (1, u "java/lang/Object"), (0, u "<init>"), (0, u "()V"), (0, .methodref 8 9), (0, .class_ 10), (0, .nameAndType 11 12), (0, u "java/lang/Math"), (0, u "max"), (0, u "(DD)D"), (1, .class_ 16), (1, u "com/example/synopsis/synopsis/DistanceBound"), (8, u "covering"), (0, u "(DDDD)D")] 2

def k2m0 : Method := { name := "<init>", desc := "()V", sig := { parameters := [], returnType := none }, accessFlags := 2, code := none }
def k2c1 : Code := { maxStack := 8, maxLocals := 8, code := prog_10_method_2_code, exceptionTable := #[], attributes := #[] }
def k2m1 : Method := { name := "covering", desc := "(DDDD)D", sig := { parameters := [.double, .double, .double, .double], returnType := some .double }, accessFlags := 8, code := some k2c1 }
/-- com/example/synopsis/synopsis/DistanceBound -/
def k2 : Class := { plain "com/example/synopsis/synopsis/DistanceBound" (some 0) with
  accessFlags := 32
  interfaces := #[]
  cf := some (fileOf pool2 14 #[] #[{ accessFlags := 2, nameIndex := 5, descriptorIndex := 6, attributes := #[] }, { accessFlags := 8, nameIndex := 25, descriptorIndex := 26, attributes := #[] }] 32 2 #[] #[])
  fields := #[]
  methods := #[k2m0, k2m1]
  instanceTypes := #[]
  staticTypes := #[]
  resolved := Array.replicate 29 none
  statics := none }

def pool3 : Array CpInfo := pool [(1, .class_ 2), (0, u "java/lang/Math"), (1, .class_ 6), (1, u "java/lang/Object"), (0, u "<init>"), (0, u "()V"), (43, u "(DD)D"), (45, .class_ 100), (1, u "java/lang/Math$RandomNumberGeneratorHolder"), (71, u "negativeZeroFloatBits"), (0, u "J"), (2, u "negativeZeroDoubleBits"), (21, u "max"), (46, u "$assertionsDisabled"), (0, u "Z"), (91, u "twoToTheDoubleScaleDown"), (0, u "D"), (4, u "twoToTheDoubleScaleUp"), (9, u "E"), (3, u "PI"), (2, u "TAU"), (2, u "DEGREES_TO_RADIANS"), (0, u "RADIANS_TO_DEGREES")] 94

def k3m0 : Method := { name := "<init>", desc := "()V", sig := { parameters := [], returnType := none }, accessFlags := 2, code := none }
def k3c1 : Code := { maxStack := 4, maxLocals := 4, code := jdk_29_method_68_code, exceptionTable := #[], attributes := #[] }
def k3m1 : Method := { name := "max", desc := "(DD)D", sig := { parameters := [.double, .double], returnType := some .double }, accessFlags := 9, code := some k3c1 }
/-- java/lang/Math -/
def k3 : Class := { plain "java/lang/Math" (some 0) with
  accessFlags := 49
  interfaces := #[]
  cf := some (fileOf pool3 1 #[.nestMembers #[98]] #[{ accessFlags := 2, nameIndex := 7, descriptorIndex := 8, attributes := #[] }, { accessFlags := 9, nameIndex := 198, descriptorIndex := 52, attributes := #[] }] 49 4 #[] #[{ accessFlags := 25, nameIndex := 354, descriptorIndex := 339, attributes := #[] }, { accessFlags := 25, nameIndex := 358, descriptorIndex := 339, attributes := #[] }, { accessFlags := 25, nameIndex := 361, descriptorIndex := 339, attributes := #[] }, { accessFlags := 26, nameIndex := 364, descriptorIndex := 339, attributes := #[] }, { accessFlags := 26, nameIndex := 365, descriptorIndex := 339, attributes := #[] }, { accessFlags := 26, nameIndex := 172, descriptorIndex := 173, attributes := #[] }, { accessFlags := 26, nameIndex := 176, descriptorIndex := 173, attributes := #[] }, { accessFlags := 8, nameIndex := 344, descriptorIndex := 339, attributes := #[] }, { accessFlags := 8, nameIndex := 338, descriptorIndex := 339, attributes := #[] }, { accessFlags := 4120, nameIndex := 245, descriptorIndex := 246, attributes := #[] }])
  fields := #[{ name := "E", type := .double, accessFlags := 25, slot := 0, constantValue := 0 }, { name := "PI", type := .double, accessFlags := 25, slot := 1, constantValue := 0 }, { name := "TAU", type := .double, accessFlags := 25, slot := 2, constantValue := 0 }, { name := "DEGREES_TO_RADIANS", type := .double, accessFlags := 26, slot := 3, constantValue := 0 }, { name := "RADIANS_TO_DEGREES", type := .double, accessFlags := 26, slot := 4, constantValue := 0 }, { name := "negativeZeroFloatBits", type := .long, accessFlags := 26, slot := 5, constantValue := 0 }, { name := "negativeZeroDoubleBits", type := .long, accessFlags := 26, slot := 6, constantValue := 0 }, { name := "twoToTheDoubleScaleUp", type := .double, accessFlags := 8, slot := 7, constantValue := 0 }, { name := "twoToTheDoubleScaleDown", type := .double, accessFlags := 8, slot := 8, constantValue := 0 }, { name := "$assertionsDisabled", type := .boolean, accessFlags := 4120, slot := 9, constantValue := 0 }]
  methods := #[k3m0, k3m1]
  instanceTypes := #[]
  staticTypes := #[.double, .double, .double, .double, .double, .long, .long, .double, .double, .boolean]
  resolved := Array.replicate 460 none
  statics := none }

def pool4 : Array CpInfo := pool [(1, u "java/lang/Cloneable"), (0, .class_ 1), (0, u "java/lang/Object"), (0, .class_ 3)] 3

/-- java/lang/Cloneable -/
def k4 : Class := { plain "java/lang/Cloneable" (some 0) with
  accessFlags := 1537
  interfaces := #[]
  cf := some (fileOf pool4 2 #[] #[] 1537 4 #[] #[])
  fields := #[]
  methods := #[]
  instanceTypes := #[]
  staticTypes := #[]
  resolved := Array.replicate 8 none
  statics := none }

def pool5 : Array CpInfo := pool [(1, u "java/io/Serializable"), (0, .class_ 1), (0, u "java/lang/Object"), (0, .class_ 3)] 3

/-- java/io/Serializable -/
def k5 : Class := { plain "java/io/Serializable" (some 0) with
  accessFlags := 1537
  interfaces := #[]
  cf := some (fileOf pool5 2 #[] #[] 1537 4 #[] #[])
  fields := #[]
  methods := #[]
  instanceTypes := #[]
  staticTypes := #[]
  resolved := Array.replicate 8 none
  statics := none }

/-- the primitive byte -/
def k6 : Class := { plain "byte" none with kind := .primitive 'B', accessFlags := 0x411 }
/-- [B -/
def k7 : Class := { plain "[B" (some 0) with kind := .array 6 .byte, interfaces := #[4, 5], accessFlags := 1041 }

/-- the primitive int -/
def k8 : Class := { plain "int" none with kind := .primitive 'I', accessFlags := 0x411 }
/-- [I -/
def k9 : Class := { plain "[I" (some 0) with kind := .array 8 .int, interfaces := #[4, 5], accessFlags := 1041 }

def heap : Heap := #[]
def classes : Array Class := #[k0, k1, k2, k3, k4, k5, k6, k7, k8, k9]
def interned : List (Array UInt16 × Addr) := []
def slotsUsed : Nat := 0
def theMethod : MethodId := ⟨1, 1⟩
def args0 : Array Value := #[.int 5, .int 7, .int 4, .int 9]
def aboutOver (below : List Frame) : State where
  vm := { classes := classes, interned := interned.toArray }
  heap := heap
  slotsUsed := slotsUsed
  threads := #[{ frames := .invoking theMethod args0 :: below }]
def below0 : List Frame := [.native { method := ⟨0, 0⟩, args := #[] }]
def about1 : State := aboutOver below0
def p0 : Program := .bare "" "" ""
def e0 : Env := launch0.env 0 0 0
theorem w_frames : about1.frames = Frame.invoking theMethod args0 :: below0 := rfl
set_option maxRecDepth 65536 in
theorem w_args : argsFit about1.vm theMethod args0 = true := by decide +kernel
set_option maxRecDepth 65536 in
theorem w_heap : heapFits about1 = true := by decide +kernel
set_option maxRecDepth 65536 in
theorem w_runnable : about1.curStatus? = some .runnable := by decide +kernel
set_option maxRecDepth 65536 in
theorem w_alone : about1.alone = true := by decide +kernel
set_option maxRecDepth 65536 in
theorem w_named : about1.methodNamed? x = some theMethod := by decide +kernel
set_option maxRecDepth 65536 in
theorem w_hears : about1.hears theMethod below0 = true := by decide +kernel
set_option maxRecDepth 65536 in
theorem w_ripe : about1.ripe theMethod args0 below0 = true := by decide +kernel
theorem w_running : about1.status = .running := rfl
set_option maxRecDepth 65536 in
theorem w_room : about1.hasRoom e0.platform room_1 = true :=
  launch0.hasRoom_least _ room_1 (by decide +kernel) (by decide +kernel) (by decide +kernel) (by decide +kernel) (by decide +kernel) (by decide +kernel)
theorem allAtoms_all (ts : List Jvm.Cond) (a : Array Jvm.Value) (st : Jvm.State) : (allAtoms ts).before a st = ts.all (fun c => c.before a st) := by
  induction ts with
  | nil => rfl
  | cons c t ih =>
    show (Jvm.Cond.and c (allAtoms t)).before a st = _
    rw [Jvm.Cond.before_and, ih, List.all_cons]
def words1 : List Jvm.Cond := Jvm.Cond.code x code maxLocals ret :: tables_1
/-- a 'code' word, met by the world's own term for the bytes: nothing is compared byte by byte -/
theorem code_word {y : MethodName} {bytes : ByteArray} {mx : Nat} {rt : Option FieldType} {a : Array Value} {s : State} {m : MethodId} {meth : Method} {c : Code} (h1 : s.methodNamed? y = some m) (h2 : s.vm.method? m = some meth) (h3 : meth.code = some c) (h4 : c.code = bytes)
    (h5 : (c.maxLocals == mx && c.exceptionTable.isEmpty && decide (c.maxStack ≤ mostOperands) && decide (meth.sig.returnType = rt) && !meth.locks && decide (parseMethodDescriptor y.desc = some meth.sig)) = true) : (Jvm.Cond.code y bytes mx rt).before a s = true := by
  simp only [Bool.and_eq_true, beq_iff_eq, Bool.not_eq_true', decide_eq_true_eq] at h5
  obtain ⟨⟨⟨⟨⟨g1, g2⟩, g3⟩, g4⟩, g5⟩, g6⟩ := h5
  simp [Cond.before, Cond.holds, Cond.value, h1, h2, h3, h4, g1, g2, g3, g4, g5, g6]
def isCode : Jvm.Cond → Bool
  | .code _ _ _ _ => true
  | _ => false
theorem all_split {L : List Jvm.Cond} {P : Jvm.Cond → Bool} (h1 : L.all (fun c => isCode c || P c) = true) (h2 : ∀ c ∈ L.filter isCode, P c = true) : L.all P = true := by
  refine List.all_eq_true.mpr fun c hc => ?_
  have h := List.all_eq_true.mp h1 c hc
  rcases Bool.eq_false_or_eq_true (isCode c) with hi | hi
  · exact h2 c (List.mem_filter.mpr ⟨hc, hi⟩)
  · simpa [hi] using h
set_option maxRecDepth 65536 in
theorem w_c0 : (Jvm.Cond.code x code maxLocals ret).before args0 about1 = true := code_word (m := ⟨1, 1⟩) (meth := k1m1) (c := k1c1) (by decide +kernel) rfl rfl rfl (by decide +kernel)
set_option maxRecDepth 65536 in
theorem w_c1 : (Jvm.Cond.code ({ cls := "com/example/synopsis/synopsis/DistanceBound", name := "covering", desc := "(DDDD)D" } : Jvm.MethodName) prog_10_method_2_code (8 : Nat) (Option.some Jvm.ClassFile.FieldType.double)).before args0 about1 = true := code_word (m := ⟨2, 1⟩) (meth := k2m1) (c := k2c1) (by decide +kernel) rfl rfl rfl (by decide +kernel)
set_option maxRecDepth 65536 in
theorem w_c2 : (Jvm.Cond.code ({ cls := "java/lang/Math", name := "max", desc := "(DD)D" } : Jvm.MethodName) jdk_29_method_68_code (4 : Nat) (Option.some Jvm.ClassFile.FieldType.double)).before args0 about1 = true := code_word (m := ⟨3, 1⟩) (meth := k3m1) (c := k3c1) (by decide +kernel) rfl rfl rfl (by decide +kernel)
def codes1 : List Jvm.Cond := [Jvm.Cond.code x code maxLocals ret, Jvm.Cond.code ({ cls := "com/example/synopsis/synopsis/DistanceBound", name := "covering", desc := "(DDDD)D" } : Jvm.MethodName) prog_10_method_2_code (8 : Nat) (Option.some Jvm.ClassFile.FieldType.double), Jvm.Cond.code ({ cls := "java/lang/Math", name := "max", desc := "(DD)D" } : Jvm.MethodName) jdk_29_method_68_code (4 : Nat) (Option.some Jvm.ClassFile.FieldType.double)]
set_option maxRecDepth 65536 in
theorem codes_eq : words1.filter isCode = codes1 := rfl
theorem w_codes : ∀ c ∈ words1.filter isCode, c.before args0 about1 = true := by
  rw [codes_eq]
  intro c hc
  simp only [codes1, List.mem_cons, List.not_mem_nil, or_false] at hc
  rcases hc with rfl | rfl | rfl
  · exact w_c0
  · exact w_c1
  · exact w_c2
set_option maxRecDepth 65536 in
theorem w_t1 : words1.all (fun c => isCode c || c.before args0 about1) = true := by decide +kernel
theorem w_tables : (allAtoms (Jvm.Cond.code x code maxLocals ret :: tables_1)).before args0 about1 = true := by
  rw [allAtoms_all]
  show words1.all (fun c => c.before args0 about1) = true
  refine all_split ?_ w_codes
  rw [w_t1]
set_option maxRecDepth 65536 in
theorem w_case : (Jvm.Cond.and given_1 narrow_1).before args0 about1 = true := by decide +kernel
theorem w_applies : (headSpec (Jvm.Cond.code x code maxLocals ret :: tables_1) room_1).applies x e0.platform about1 = true :=
  (Spec.applies_iff w_frames).mpr ⟨w_running, w_runnable, w_alone, w_named, w_hears, w_ripe, w_room, w_tables⟩
theorem atStart : AtStart classFile x code maxLocals ret World_1 tables_1 room_1 Calls_1 rest_1 Pre_1 launch0 p0 e0 about1 theMethod args0 below0 :=
  ⟨lists_1, trivial, launch0.admits_env _ _ _, launch0.least_env, fairChoices_fair.cas, fairChoices_fair.clock, w_frames, w_args, w_heap, w_applies, trivial, trivial, w_case⟩
end start1
theorem witness_1 : WitnessClaimed_1 := ⟨start1.p0, start1.e0, start1.about1, start1.theMethod, start1.args0, start1.below0, start1.atStart⟩
end Jvm.Pilot.@@N@@
