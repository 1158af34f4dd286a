import JvmDerived
import JvmDerived.Pilot.@@N@@Statement
import JvmDerived.Pilot.@@N@@Code
set_option linter.unusedVariables false
set_option linter.unusedSimpArgs false
namespace Jvm.RoadKit
open Sem ClassFile Op Lib Jvm.Stand Jvm.Free Jvm.LawKit
section New
variable {p : Program} {l : Launch} {e : Env} {R : Room} {s : State} {m : MethodId} {args : Array Value} {below : List Frame} {meth : Method} {c : Code} {T : State} {locs : List Loc} {cells slots : Nat}
theorem retI (X : Stand p l e R s m args below meth c T locs cells slots) (hx : p.tables.exec = Jvm.exec) {pc : Nat} {Ls : Array Slot} {z : Int32} {rest : List Value} (hret : meth.sig.returnType = some .int) (hd : decode c.code pc = .ok (.ireturn, 1)) {fs : List Frame}
    (hl : ∀ (f : JFrame) (acts : List Action), f.method = m → f.locked = none → f.entered = [] → (doReturn e (T.setTop f) acts (some (.int z))).1 = T.setFrames fs) : Steps p.tables e below (T.setTop (mkF m pc Ls (.int z :: rest))) (T.setFrames fs) := by
  have hm' : T.vm.method? m = some meth := X.method'
  have hn : narrow .int (.int z) = .int z := rfl
  show Steps p.tables e below (T.setTop { method := m, pc := pc, locals := Ls, stack := _ :: rest, locked := none }) _
  jvm_step X.here [X.here.top, hx, hd, hm', hret, hn]
  first | (intro acts; rw [hl _ acts rfl rfl rfl]) | rw [hl _ _ rfl rfl rfl]
  exact Steps.refl _
end New
end Jvm.RoadKit
namespace Jvm.Pilot.@@N@@
open Jvm Jvm.ClassFile Sem Op Lib Jvm.Free Jvm.Stand Jvm.LawKit Jvm.RoadKit Bundle Jvm.Pilot.@@N@@.Jvm.D
abbrev Sp (p : Program) (e : Env) (b : List Frame) (T : State) (f : JFrame) (t : State) : Prop := Steps p.tables e b (T.setTop f) t
theorem own_fld {args : Array Value} {Z : State} {t : Term} {C n d : String} {k : Int32} {x : Addr} (ev : t.eval args Z none [] Z = some (.ref x)) (h : (Jvm.Cond.eq (.field t C n d) (.int k)).value args Z none Z [] = some true) : Fld Z Z.heap x C n d (.int k) := by
  refine Fld.start ?_
  have h1 := fld_at (C := C) (n := n) (dd := d) ev
  obtain ⟨u, w, e1, e2, -, -⟩ := cmp_v (Or.inl h)
  have e3 : w = .int k := (Option.some.inj (e2.symm.trans (Term.int_eval k)))
  subst e3
  rw [← h1, e1]
  simp only [Jvm.Cond.value, e1, e2] at h
  cases u <;> simp_all
theorem own_sta_keep0 {Z : State} {h h' : Heap} {C n d : String} {v : Value} (F : Sta Z h C n d v) (K : Keep h h' []) : Sta Z h' C n d v := by
  obtain ⟨cf, i, k, f, st, cell, h1, h2, h3, h4, h5, r⟩ := F
  exact ⟨cf, i, k, f, st, cell, h1, h2, h3, h4, K.2.1 _ _ h5 nin0, r⟩
theorem d1_0 : decode prog_144_method_4_code 0 = .ok (.aload_n 0, 1) := by decide +kernel
theorem d1_1 : decode prog_144_method_4_code 1 = .ok (.getstatic 7, 3) := by decide +kernel
theorem d1_4 : decode prog_144_method_4_code 4 = .ok (.if_acmp .eq 17, 3) := by decide +kernel
theorem d1_7 : decode prog_144_method_4_code 7 = .ok (.aload_n 0, 1) := by decide +kernel
theorem d1_8 : decode prog_144_method_4_code 8 = .ok (.getstatic 10, 3) := by decide +kernel
theorem d1_11 : decode prog_144_method_4_code 11 = .ok (.if_acmp .eq 10, 3) := by decide +kernel
theorem d1_14 : decode prog_144_method_4_code 14 = .ok (.aload_n 0, 1) := by decide +kernel
theorem d1_15 : decode prog_144_method_4_code 15 = .ok (.getstatic 13, 3) := by decide +kernel
theorem d1_18 : decode prog_144_method_4_code 18 = .ok (.if_acmp .ne 7, 3) := by decide +kernel
theorem d1_21 : decode prog_144_method_4_code 21 = .ok (.iconst 1, 1) := by decide +kernel
theorem d1_22 : decode prog_144_method_4_code 22 = .ok (.goto 4, 3) := by decide +kernel
theorem d1_25 : decode prog_144_method_4_code 25 = .ok (.iconst 0, 1) := by decide +kernel
theorem d1_26 : decode prog_144_method_4_code 26 = .ok (.ireturn, 1) := by decide +kernel
theorem pn_0 : plainName "com/example/unbraid/unbraid/junit/Outcome$Status" = true := by first | (simp [plainName, overriddenIn]; done) | decide +kernel
theorem ef_1_R (m : MethodId) (x0 : Addr) : entryFrame m #[(.ref x0)] 1 = mkF m 0 #[.val (.ref x0)] [] := by first | (simp [entryFrame, mkF, argsToLocals, Value.category]; done) | rfl
def Q_callee (Z : State) (a : Addr) (w_FAILED : Addr) (w_ERRORED : Addr) (w_NO_SUCH_TEST : Addr) (r : Int32) (h0 : Heap) (n0 : Nat) (v : Option Value) (h : Heap) (L : List Loc) : Prop := v = some (.int r) ∧ Fr n0 L ∧ h = h0
set_option maxRecDepth 65536 in
set_option maxHeartbeats 40000000 in
theorem rm_callee (l : Launch) (Z : State) (a0 : Array Value) (hw : ∀ d ∈ tables_1, d.before a0 Z = true) (ws : List Jvm.Cond) (a : Addr) (w_FAILED : Addr) (w_ERRORED : Addr) (w_NO_SUCH_TEST : Addr) (r : Int32) (h0 : Heap) (n0 : Nat) (Z0 : n0 ≤ h0.size) (S_FAILED : Sta Z h0 "com/example/unbraid/unbraid/junit/Outcome$Status" "FAILED" "Lcom/example/unbraid/unbraid/junit/Outcome$Status;" (.ref w_FAILED)) (S_ERRORED : Sta Z h0 "com/example/unbraid/unbraid/junit/Outcome$Status" "ERRORED" "Lcom/example/unbraid/unbraid/junit/Outcome$Status;" (.ref w_ERRORED)) (S_NO_SUCH_TEST : Sta Z h0 "com/example/unbraid/unbraid/junit/Outcome$Status" "NO_SUCH_TEST" "Lcom/example/unbraid/unbraid/junit/Outcome$Status;" (.ref w_NO_SUCH_TEST)) (hres : r = if a = w_FAILED then (1 : Int32) else if a = w_ERRORED then (1 : Int32) else if a = w_NO_SUCH_TEST then (1 : Int32) else 0) :
    MetFree l (⟨"com/example/unbraid/unbraid/junit/Outcome$Status", "failed", "()Z"⟩ : MethodName) (head1 (Jvm.Cond.code (⟨"com/example/unbraid/unbraid/junit/Outcome$Status", "failed", "()Z"⟩ : MethodName) prog_144_method_4_code 1 (some .boolean) :: ws) ({ frames := 0, cells := 0, slots := 0, locals := 0 } : Room)) (fun A_ U => A_ = #[(.ref a)] ∧ Z.Warmed39 U.vm ∧ U.heap = h0) (fun _ _ _ _ _ => True) (fun _ U o U' => ∃ v L, o = .returned v ∧ Q_callee Z a w_FAILED w_ERRORED w_NO_SUCH_TEST r h0 n0 v U'.heap L ∧ FrameEnd U o U' L ({ frames := 0, cells := 0, slots := 0, locals := 0 } : Room).cells ({ frames := 0, cells := 0, slots := 0, locals := 0 } : Room).slots) := by
  refine MetFree.of_bodySF (plainFor_of_name pn_0) hisR ?_
  intro p e s m args below meth c s₁ Bd hml0 hP hK
  obtain ⟨rfl, hZ, hh⟩ := hP
  have hx := Bd.exec
  have hby := Bd.bytes
  have hml : c.maxLocals = 1 := hml0
  have hown : s.vm.findClass "com/example/unbraid/unbraid/junit/Outcome$Status" = some m.cls := findClass_of_methodNamed Bd.named
  have hnm := (name_of_methodNamed Bd.named Bd.method).1
  have hret := Bd.returns
  have X0 : Stand p l e ({ frames := 0, cells := 0, slots := 0, locals := 0 } : Room) s m #[(.ref a)] below meth c s₁ [] 0 0 := Stand.of_body Bd
  have e0 : s₁.heap = h0 := by rw [← hh, Bd.state]; rfl
  have N0 := Fr.nil n0
  have pre0 : ∀ t, Sp p e below s₁ (mkF m 0 #[.val (.ref a)] []) t → Sp p e below s₁ (entryFrame m #[(.ref a)] 1) t := fun t k => castTop (ef_1_R m a) k
  obtain ⟨Tg1, Xg1, eg1, stg1⟩ := getS2 X0 hx hZ hown (host := "") (Or.inl (hw _ (List.mem_of_getElem? (i := 9) rfl))) Via.refl e0 S_FAILED (g := (mkF m 1 #[.val (.ref a)] [(.ref a)])) rfl (hb hby d1_1)
  have r2 : ∀ t, Sp p e below Tg1 (mkF m 4 #[.val (.ref a)] [(.ref w_FAILED), (.ref a)]) t → Sp p e below s₁ (entryFrame m #[(.ref a)] 1) t := by
    intro t k
    refine pre0 _ ?_
    refine XS.aloadN X0.here hx rfl (hb hby d1_0) rfl rfl ?_
    show Sp p e below s₁ (mkF m 1 #[.val (.ref a)] [(.ref a)]) _
    refine stg1 _ ?_
    show Sp p e below Tg1 (mkF m 4 #[.val (.ref a)] [(.ref w_FAILED), (.ref a)]) _
    exact k
  by_cases c3 : a = w_FAILED
  · obtain ⟨fs, hlv, hrun, hended, hW, hsame⟩ := Xg1.leave (v := some (.int (1 : Int32))) (fun h => by rw [hret] at h; cases h)
    refine ⟨_, _, r2 _ ?_, hrun, hended, _, _, rfl, ?_, ⟨_, rfl⟩, hW, hsame.mono (by decide) (by decide)⟩
    · refine Jvm.RoadKit.acmp (g := (mkF m 4 #[.val (.ref a)] [(.ref w_FAILED), (.ref a)])) Xg1 hx rfl rfl rfl (pc0 := 4) (pc' := 21) (same := true) rfl (hb hby d1_4) rfl (decide_eq_true (congrArg Value.ref c3)) (by decide) (by decide) ?_
      show Sp p e below Tg1 (mkF m 21 #[.val (.ref a)] []) _
      refine XS.iconst Xg1.here hx rfl (hb hby d1_21) ?_
      show Sp p e below Tg1 (mkF m 22 #[.val (.ref a)] [(.int (1 : Int32))]) _
      refine XS.goto Xg1.here hx rfl (pc0 := 22) (pc' := 26) rfl (hb hby d1_22) (by decide) (by decide) ?_
      show Sp p e below Tg1 (mkF m 26 #[.val (.ref a)] [(.int (1 : Int32))]) _
      exact retN Xg1 hx (t := .boolean) hret (by simp) (hb hby d1_26) hlv
    · show Q_callee Z a w_FAILED w_ERRORED w_NO_SUCH_TEST r h0 n0 _ Tg1.heap _
      rw [eg1]
      exact ⟨by rw [hres]; simp [c3], N0, rfl⟩
  · obtain ⟨Tg4, Xg4, eg4, stg4⟩ := getS2 Xg1 hx hZ hown (host := "") (Or.inl (hw _ (List.mem_of_getElem? (i := 11) rfl))) Via.refl eg1 S_ERRORED (g := (mkF m 8 #[.val (.ref a)] [(.ref a)])) rfl (hb hby d1_8)
    have r5 : ∀ t, Sp p e below Tg4 (mkF m 11 #[.val (.ref a)] [(.ref w_ERRORED), (.ref a)]) t → Sp p e below s₁ (entryFrame m #[(.ref a)] 1) t := by
      intro t k
      refine r2 _ ?_
      refine Jvm.RoadKit.acmp (g := (mkF m 4 #[.val (.ref a)] [(.ref w_FAILED), (.ref a)])) Xg1 hx rfl rfl rfl (pc0 := 4) (pc' := 7) (same := false) rfl (hb hby d1_4) rfl (decide_eq_false fun q => c3 (Value.ref.inj q)) (by decide) (by decide) ?_
      show Sp p e below Tg1 (mkF m 7 #[.val (.ref a)] []) _
      refine XS.aloadN Xg1.here hx rfl (hb hby d1_7) rfl rfl ?_
      show Sp p e below Tg1 (mkF m 8 #[.val (.ref a)] [(.ref a)]) _
      refine stg4 _ ?_
      show Sp p e below Tg4 (mkF m 11 #[.val (.ref a)] [(.ref w_ERRORED), (.ref a)]) _
      exact k
    by_cases c6 : a = w_ERRORED
    · obtain ⟨fs, hlv, hrun, hended, hW, hsame⟩ := Xg4.leave (v := some (.int (1 : Int32))) (fun h => by rw [hret] at h; cases h)
      refine ⟨_, _, r5 _ ?_, hrun, hended, _, _, rfl, ?_, ⟨_, rfl⟩, hW, hsame.mono (by decide) (by decide)⟩
      · refine Jvm.RoadKit.acmp (g := (mkF m 11 #[.val (.ref a)] [(.ref w_ERRORED), (.ref a)])) Xg4 hx rfl rfl rfl (pc0 := 11) (pc' := 21) (same := true) rfl (hb hby d1_11) rfl (decide_eq_true (congrArg Value.ref c6)) (by decide) (by decide) ?_
        show Sp p e below Tg4 (mkF m 21 #[.val (.ref a)] []) _
        refine XS.iconst Xg4.here hx rfl (hb hby d1_21) ?_
        show Sp p e below Tg4 (mkF m 22 #[.val (.ref a)] [(.int (1 : Int32))]) _
        refine XS.goto Xg4.here hx rfl (pc0 := 22) (pc' := 26) rfl (hb hby d1_22) (by decide) (by decide) ?_
        show Sp p e below Tg4 (mkF m 26 #[.val (.ref a)] [(.int (1 : Int32))]) _
        exact retN Xg4 hx (t := .boolean) hret (by simp) (hb hby d1_26) hlv
      · show Q_callee Z a w_FAILED w_ERRORED w_NO_SUCH_TEST r h0 n0 _ Tg4.heap _
        rw [eg4]
        exact ⟨by rw [hres]; simp [c3, c6], N0, rfl⟩
    · obtain ⟨Tg7, Xg7, eg7, stg7⟩ := getS2 Xg4 hx hZ hown (host := "") (Or.inl (hw _ (List.mem_of_getElem? (i := 13) rfl))) Via.refl eg4 S_NO_SUCH_TEST (g := (mkF m 15 #[.val (.ref a)] [(.ref a)])) rfl (hb hby d1_15)
      have r8 : ∀ t, Sp p e below Tg7 (mkF m 18 #[.val (.ref a)] [(.ref w_NO_SUCH_TEST), (.ref a)]) t → Sp p e below s₁ (entryFrame m #[(.ref a)] 1) t := by
        intro t k
        refine r5 _ ?_
        refine Jvm.RoadKit.acmp (g := (mkF m 11 #[.val (.ref a)] [(.ref w_ERRORED), (.ref a)])) Xg4 hx rfl rfl rfl (pc0 := 11) (pc' := 14) (same := false) rfl (hb hby d1_11) rfl (decide_eq_false fun q => c6 (Value.ref.inj q)) (by decide) (by decide) ?_
        show Sp p e below Tg4 (mkF m 14 #[.val (.ref a)] []) _
        refine XS.aloadN Xg4.here hx rfl (hb hby d1_14) rfl rfl ?_
        show Sp p e below Tg4 (mkF m 15 #[.val (.ref a)] [(.ref a)]) _
        refine stg7 _ ?_
        show Sp p e below Tg7 (mkF m 18 #[.val (.ref a)] [(.ref w_NO_SUCH_TEST), (.ref a)]) _
        exact k
      by_cases c9 : a = w_NO_SUCH_TEST
      · obtain ⟨fs, hlv, hrun, hended, hW, hsame⟩ := Xg7.leave (v := some (.int (1 : Int32))) (fun h => by rw [hret] at h; cases h)
        refine ⟨_, _, r8 _ ?_, hrun, hended, _, _, rfl, ?_, ⟨_, rfl⟩, hW, hsame.mono (by decide) (by decide)⟩
        · refine Jvm.RoadKit.acmp (g := (mkF m 18 #[.val (.ref a)] [(.ref w_NO_SUCH_TEST), (.ref a)])) Xg7 hx rfl rfl rfl (pc0 := 18) (pc' := 21) (same := true) rfl (hb hby d1_18) rfl (decide_eq_true (congrArg Value.ref c9)) (by decide) (by decide) ?_
          show Sp p e below Tg7 (mkF m 21 #[.val (.ref a)] []) _
          refine XS.iconst Xg7.here hx rfl (hb hby d1_21) ?_
          show Sp p e below Tg7 (mkF m 22 #[.val (.ref a)] [(.int (1 : Int32))]) _
          refine XS.goto Xg7.here hx rfl (pc0 := 22) (pc' := 26) rfl (hb hby d1_22) (by decide) (by decide) ?_
          show Sp p e below Tg7 (mkF m 26 #[.val (.ref a)] [(.int (1 : Int32))]) _
          exact retN Xg7 hx (t := .boolean) hret (by simp) (hb hby d1_26) hlv
        · show Q_callee Z a w_FAILED w_ERRORED w_NO_SUCH_TEST r h0 n0 _ Tg7.heap _
          rw [eg7]
          exact ⟨by rw [hres]; simp [c3, c6, c9], N0, rfl⟩
      · obtain ⟨fs, hlv, hrun, hended, hW, hsame⟩ := Xg7.leave (v := some (.int (0 : Int32))) (fun h => by rw [hret] at h; cases h)
        refine ⟨_, _, r8 _ ?_, hrun, hended, _, _, rfl, ?_, ⟨_, rfl⟩, hW, hsame.mono (by decide) (by decide)⟩
        · refine Jvm.RoadKit.acmp (g := (mkF m 18 #[.val (.ref a)] [(.ref w_NO_SUCH_TEST), (.ref a)])) Xg7 hx rfl rfl rfl (pc0 := 18) (pc' := 25) (same := false) rfl (hb hby d1_18) rfl (decide_eq_false fun q => c9 (Value.ref.inj q)) (by decide) (by decide) ?_
          show Sp p e below Tg7 (mkF m 25 #[.val (.ref a)] []) _
          refine XS.iconst Xg7.here hx rfl (hb hby d1_25) ?_
          show Sp p e below Tg7 (mkF m 26 #[.val (.ref a)] [(.int (0 : Int32))]) _
          exact retN Xg7 hx (t := .boolean) hret (by simp) (hb hby d1_26) hlv
        · show Q_callee Z a w_FAILED w_ERRORED w_NO_SUCH_TEST r h0 n0 _ Tg7.heap _
          rw [eg7]
          exact ⟨by rw [hres]; simp [c3, c6, c9], N0, rfl⟩
theorem pn_1 : plainName "com/example/unbraid/unbraid/junit/StatusFailedPinLaw" = true := by first | (simp [plainName, overriddenIn]; done) | decide +kernel
theorem ef_0_I (m : MethodId) (x0 : Int32) : entryFrame m #[(.int x0)] maxLocals = mkF m 0 #[.val (.int x0), .unset, .unset, .unset] [] := by first | (simp [entryFrame, mkF, argsToLocals, Value.category, maxLocals]; done) | rfl
theorem pd___Z : parseMethodDescriptor "()Z" = some ⟨[], some .boolean⟩ := by decide +kernel
def Q_law (Z : State) (p1 : Int32) (w_PASSED : Addr) (w_FAILED : Addr) (w_ERRORED : Addr) (w_NO_SUCH_TEST : Addr) (w_SKIPPED : Addr) (h0 : Heap) (n0 : Nat) (v : Option Value) (h : Heap) (L : List Loc) : Prop := v = some (.int 1) ∧ Fr n0 L
set_option maxRecDepth 65536 in
set_option maxHeartbeats 40000000 in
theorem rm_law (l : Launch) (Z : State) (a0 : Array Value) (hw : ∀ d ∈ tables_1, d.before a0 Z = true) (ws : List Jvm.Cond) (p1 : Int32) (w_PASSED : Addr) (w_FAILED : Addr) (w_ERRORED : Addr) (w_NO_SUCH_TEST : Addr) (w_SKIPPED : Addr) (h0 : Heap) (n0 : Nat) (Z0 : n0 ≤ h0.size) (S_PASSED : Sta Z h0 "com/example/unbraid/unbraid/junit/Outcome$Status" "PASSED" "Lcom/example/unbraid/unbraid/junit/Outcome$Status;" (.ref w_PASSED)) (S_FAILED : Sta Z h0 "com/example/unbraid/unbraid/junit/Outcome$Status" "FAILED" "Lcom/example/unbraid/unbraid/junit/Outcome$Status;" (.ref w_FAILED)) (S_ERRORED : Sta Z h0 "com/example/unbraid/unbraid/junit/Outcome$Status" "ERRORED" "Lcom/example/unbraid/unbraid/junit/Outcome$Status;" (.ref w_ERRORED)) (S_NO_SUCH_TEST : Sta Z h0 "com/example/unbraid/unbraid/junit/Outcome$Status" "NO_SUCH_TEST" "Lcom/example/unbraid/unbraid/junit/Outcome$Status;" (.ref w_NO_SUCH_TEST)) (S_SKIPPED : Sta Z h0 "com/example/unbraid/unbraid/junit/Outcome$Status" "SKIPPED" "Lcom/example/unbraid/unbraid/junit/Outcome$Status;" (.ref w_SKIPPED)) (E_PASSED : Exa Z h0 w_PASSED "com/example/unbraid/unbraid/junit/Outcome$Status") (E_FAILED : Exa Z h0 w_FAILED "com/example/unbraid/unbraid/junit/Outcome$Status") (E_ERRORED : Exa Z h0 w_ERRORED "com/example/unbraid/unbraid/junit/Outcome$Status") (E_NO_SUCH_TEST : Exa Z h0 w_NO_SUCH_TEST "com/example/unbraid/unbraid/junit/Outcome$Status") (E_SKIPPED : Exa Z h0 w_SKIPPED "com/example/unbraid/unbraid/junit/Outcome$Status") (n_PASSED_FAILED : ¬ (w_PASSED = w_FAILED)) (n_PASSED_ERRORED : ¬ (w_PASSED = w_ERRORED)) (n_PASSED_NO_SUCH_TEST : ¬ (w_PASSED = w_NO_SUCH_TEST)) (n_FAILED_ERRORED : ¬ (w_FAILED = w_ERRORED)) (n_FAILED_NO_SUCH_TEST : ¬ (w_FAILED = w_NO_SUCH_TEST)) (n_ERRORED_FAILED : ¬ (w_ERRORED = w_FAILED)) (n_ERRORED_NO_SUCH_TEST : ¬ (w_ERRORED = w_NO_SUCH_TEST)) (n_NO_SUCH_TEST_FAILED : ¬ (w_NO_SUCH_TEST = w_FAILED)) (n_NO_SUCH_TEST_ERRORED : ¬ (w_NO_SUCH_TEST = w_ERRORED)) (n_SKIPPED_FAILED : ¬ (w_SKIPPED = w_FAILED)) (n_SKIPPED_ERRORED : ¬ (w_SKIPPED = w_ERRORED)) (n_SKIPPED_NO_SUCH_TEST : ¬ (w_SKIPPED = w_NO_SUCH_TEST)) :
    MetFree l x (head1 (Jvm.Cond.code x code maxLocals ret :: ws) room_1) (fun A_ U => A_ = #[(.int p1)] ∧ Z.Warmed39 U.vm ∧ U.heap = h0) (fun _ _ _ _ _ => True) (fun _ U o U' => ∃ v L, o = .returned v ∧ Q_law Z p1 w_PASSED w_FAILED w_ERRORED w_NO_SUCH_TEST w_SKIPPED h0 n0 v U'.heap L ∧ FrameEnd U o U' L room_1.cells room_1.slots) := by
  refine MetFree.of_bodySF (plainFor_of_name pn_1) hisR ?_
  intro p e s m args below meth c s₁ Bd hml0 hP hK
  obtain ⟨rfl, hZ, hh⟩ := hP
  have hx := Bd.exec
  have hby := Bd.bytes
  have hml : c.maxLocals = 4 := hml0
  have hown : s.vm.findClass "com/example/unbraid/unbraid/junit/StatusFailedPinLaw" = some m.cls := findClass_of_methodNamed Bd.named
  have hnm := (name_of_methodNamed Bd.named Bd.method).1
  have hret := Bd.returns
  have X0 : Stand p l e room_1 s m #[(.int p1)] below meth c s₁ [] 0 0 := Stand.of_body Bd
  have e0 : s₁.heap = h0 := by rw [← hh, Bd.state]; rfl
  have N0 := Fr.nil n0
  have pre0 : ∀ t, Sp p e below s₁ (mkF m 0 #[.val (.int p1), .unset, .unset, .unset] []) t → Sp p e below s₁ (entryFrame m #[(.int p1)] maxLocals) t := fun t k => castTop (ef_0_I m p1) k
  have r1 : ∀ t, Sp p e below s₁ (mkF m 8 #[.val (.int p1), .val (.int ((p1 &&& (2147483647 : Int32)) % (5 : Int32))), .unset, .unset] [(.int ((p1 &&& (2147483647 : Int32)) % (5 : Int32)))]) t → Sp p e below s₁ (entryFrame m #[(.int p1)] maxLocals) t := by
    intro t k
    refine pre0 _ ?_
    refine XS.iloadN X0.here hx rfl (hb hby at_0) rfl ?_
    show Sp p e below s₁ (mkF m 1 #[.val (.int p1), .unset, .unset, .unset] [(.int p1)]) _
    refine Jvm.Stand.ldcI X0 hx hown (mvT hZ (hw _ (List.mem_of_getElem? (i := 0) rfl))) rfl (hb hby at_1) ?_
    show Sp p e below s₁ (mkF m 3 #[.val (.int p1), .unset, .unset, .unset] [(.int (2147483647 : Int32)), (.int p1)]) _
    refine XS.iand X0.here hx rfl (hb hby at_3) rfl ?_
    show Sp p e below s₁ (mkF m 4 #[.val (.int p1), .unset, .unset, .unset] [(.int (p1 &&& (2147483647 : Int32)))]) _
    refine XS.iconst X0.here hx rfl (hb hby at_4) ?_
    show Sp p e below s₁ (mkF m 5 #[.val (.int p1), .unset, .unset, .unset] [(.int (5 : Int32)), (.int (p1 &&& (2147483647 : Int32)))]) _
    refine iremM X0 hx rfl (hb hby at_5) rfl (by decide) ?_
    show Sp p e below s₁ (mkF m 6 #[.val (.int p1), .unset, .unset, .unset] [(.int ((p1 &&& (2147483647 : Int32)) % (5 : Int32)))]) _
    refine XS.istoreN X0.here hx rfl (hb hby at_6) rfl (l' := #[.val (.int p1), .val (.int ((p1 &&& (2147483647 : Int32)) % (5 : Int32))), .unset, .unset]) rfl ?_
    show Sp p e below s₁ (mkF m 7 #[.val (.int p1), .val (.int ((p1 &&& (2147483647 : Int32)) % (5 : Int32))), .unset, .unset] []) _
    refine XS.iloadN X0.here hx rfl (hb hby at_7) rfl ?_
    show Sp p e below s₁ (mkF m 8 #[.val (.int p1), .val (.int ((p1 &&& (2147483647 : Int32)) % (5 : Int32))), .unset, .unset] [(.int ((p1 &&& (2147483647 : Int32)) % (5 : Int32)))]) _
    exact k
  by_cases c2 : ((p1 &&& (2147483647 : Int32)) % (5 : Int32)) = (0 : Int32)
  · obtain ⟨Tg3, Xg3, eg3, stg3⟩ := getS2 X0 hx hZ hown (host := "") (Or.inl (hw _ (List.mem_of_getElem? (i := 1) rfl))) Via.refl e0 S_PASSED (g := (mkF m 11 #[.val (.int p1), .val (.int ((p1 &&& (2147483647 : Int32)) % (5 : Int32))), .unset, .unset] [])) rfl (hb hby at_11)
    obtain ⟨cqk4, kqk4, qk4a, qk4b, qk4c⟩ := isOf hZ eg3 E_PASSED
    obtain ⟨_, _, ⟨Tk4, Lk4, kk4, nk4⟩, -, Xk4, ⟨Lck4, hQk4, lk4, yk4, zk4⟩, stk4⟩ := Xg3.virtualBack hx (y := (⟨"com/example/unbraid/unbraid/junit/Outcome$Status", "failed", "()Z"⟩ : MethodName)) (z := (⟨"com/example/unbraid/unbraid/junit/Outcome$Status", "failed", "()Z"⟩ : MethodName)) hown (mvT hZ (hw _ (List.mem_of_getElem? (i := 4) rfl))) (mvT hZ (hw _ (List.mem_of_getElem? (i := 5) rfl))) (notFace_of_selects (args := #[]) (mvT hZ (hw _ (List.mem_of_getElem? (i := 7) rfl)))) (mvT hZ (hw _ (List.mem_of_getElem? (i := 7) rfl))) (mvT hZ (hw _ (List.mem_of_getElem? (i := 6) rfl))) (by decide) (backOf (W := 0) (rm_callee l Z a0 hw [] w_PASSED w_FAILED w_ERRORED w_NO_SUCH_TEST (0 : Int32) h0 n0 Z0 S_FAILED S_ERRORED S_NO_SUCH_TEST (by simp [n_PASSED_FAILED, n_PASSED_ERRORED, n_PASSED_NO_SUCH_TEST])) hZ (hw _ (List.mem_of_getElem? (i := 8) rfl)) (hw _ (List.mem_of_getElem? (i := 2) rfl)) (by decide) (by decide)) qk4a qk4c (g := (mkF m 69 #[.val (.int p1), .val (.int ((p1 &&& (2147483647 : Int32)) % (5 : Int32))), .val (.ref w_PASSED), .val (.int (0 : Int32))] [(.ref w_PASSED)])) rfl (by rw [hml]; rfl) (Steps.refl _) (argsL := []) (rest := []) (lenOf pd___Z rfl) rfl (by show 2 * 0 + _ ≤ _; exact Nat.le_of_eq rfl) (hb hby at_69) (fun _ _ => ⟨rfl, eg3, (by decide : 0 + 0 ≤ _), (by decide : 0 + 0 ≤ _)⟩)
    dsimp only [Pt.U, Pt.locs, Pt.cells, Pt.slots] at Xk4 lk4 yk4 zk4 stk4 hQk4
    subst lk4 yk4 zk4
    obtain ⟨rfl, Nk4q, ek4⟩ := hQk4
    have Nk4 := Fr.app N0 Nk4q
    obtain ⟨fs, hlv, hrun, hended, hW, hsame⟩ := Xk4.leave (v := some (.int (1 : Int32))) (fun h => by rw [hret] at h; cases h)
    refine ⟨_, _, r1 _ ?_, hrun, hended, _, _, rfl, ?_, ⟨_, rfl⟩, hW, hsame.mono (by decide) (by decide)⟩
    · refine XS.ifNo X0.here hx rfl (hb hby at_8) rfl ((if0 _ _).trans (teq c2).2) ?_
      show Sp p e below s₁ (mkF m 11 #[.val (.int p1), .val (.int ((p1 &&& (2147483647 : Int32)) % (5 : Int32))), .unset, .unset] []) _
      refine stg3 _ ?_
      show Sp p e below Tg3 (mkF m 14 #[.val (.int p1), .val (.int ((p1 &&& (2147483647 : Int32)) % (5 : Int32))), .unset, .unset] [(.ref w_PASSED)]) _
      refine XS.astoreN Xg3.here hx rfl (hb hby at_14) rfl rfl (l' := #[.val (.int p1), .val (.int ((p1 &&& (2147483647 : Int32)) % (5 : Int32))), .val (.ref w_PASSED), .unset]) rfl ?_
      show Sp p e below Tg3 (mkF m 15 #[.val (.int p1), .val (.int ((p1 &&& (2147483647 : Int32)) % (5 : Int32))), .val (.ref w_PASSED), .unset] []) _
      refine XS.iconst Xg3.here hx rfl (hb hby at_15) ?_
      show Sp p e below Tg3 (mkF m 16 #[.val (.int p1), .val (.int ((p1 &&& (2147483647 : Int32)) % (5 : Int32))), .val (.ref w_PASSED), .unset] [(.int (0 : Int32))]) _
      refine XS.istoreN Xg3.here hx rfl (hb hby at_16) rfl (l' := #[.val (.int p1), .val (.int ((p1 &&& (2147483647 : Int32)) % (5 : Int32))), .val (.ref w_PASSED), .val (.int (0 : Int32))]) rfl ?_
      show Sp p e below Tg3 (mkF m 17 #[.val (.int p1), .val (.int ((p1 &&& (2147483647 : Int32)) % (5 : Int32))), .val (.ref w_PASSED), .val (.int (0 : Int32))] []) _
      refine XS.goto Xg3.here hx rfl (pc0 := 17) (pc' := 68) rfl (hb hby at_17) (by decide) (by decide) ?_
      show Sp p e below Tg3 (mkF m 68 #[.val (.int p1), .val (.int ((p1 &&& (2147483647 : Int32)) % (5 : Int32))), .val (.ref w_PASSED), .val (.int (0 : Int32))] []) _
      refine XS.aloadN Xg3.here hx rfl (hb hby at_68) rfl rfl ?_
      show Sp p e below Tg3 (mkF m 69 #[.val (.int p1), .val (.int ((p1 &&& (2147483647 : Int32)) % (5 : Int32))), .val (.ref w_PASSED), .val (.int (0 : Int32))] [(.ref w_PASSED)]) _
      refine stk4.trans ?_
      show Sp p e below Tk4 (mkF m 72 #[.val (.int p1), .val (.int ((p1 &&& (2147483647 : Int32)) % (5 : Int32))), .val (.ref w_PASSED), .val (.int (0 : Int32))] [(.int (0 : Int32))]) _
      refine XS.iloadN Xk4.here hx rfl (hb hby at_72) rfl ?_
      show Sp p e below Tk4 (mkF m 73 #[.val (.int p1), .val (.int ((p1 &&& (2147483647 : Int32)) % (5 : Int32))), .val (.ref w_PASSED), .val (.int (0 : Int32))] [(.int (0 : Int32)), (.int (0 : Int32))]) _
      refine XS.icmpNo Xk4.here hx rfl (hb hby at_73) rfl (teq (by decide : (0 : Int32) = (0 : Int32))).2 ?_
      show Sp p e below Tk4 (mkF m 76 #[.val (.int p1), .val (.int ((p1 &&& (2147483647 : Int32)) % (5 : Int32))), .val (.ref w_PASSED), .val (.int (0 : Int32))] []) _
      refine XS.iconst Xk4.here hx rfl (hb hby at_76) ?_
      show Sp p e below Tk4 (mkF m 77 #[.val (.int p1), .val (.int ((p1 &&& (2147483647 : Int32)) % (5 : Int32))), .val (.ref w_PASSED), .val (.int (0 : Int32))] [(.int (1 : Int32))]) _
      refine XS.goto Xk4.here hx rfl (pc0 := 77) (pc' := 81) rfl (hb hby at_77) (by decide) (by decide) ?_
      show Sp p e below Tk4 (mkF m 81 #[.val (.int p1), .val (.int ((p1 &&& (2147483647 : Int32)) % (5 : Int32))), .val (.ref w_PASSED), .val (.int (0 : Int32))] [(.int (1 : Int32))]) _
      exact retN Xk4 hx (t := .boolean) hret (by simp) (hb hby at_81) hlv
    · show Q_law Z p1 w_PASSED w_FAILED w_ERRORED w_NO_SUCH_TEST w_SKIPPED h0 n0 _ Tk4.heap _
      rw [ek4]
      exact ⟨rfl, Nk4⟩
  · have r5 : ∀ t, Sp p e below s₁ (mkF m 22 #[.val (.int p1), .val (.int ((p1 &&& (2147483647 : Int32)) % (5 : Int32))), .unset, .unset] [(.int (1 : Int32)), (.int ((p1 &&& (2147483647 : Int32)) % (5 : Int32)))]) t → Sp p e below s₁ (entryFrame m #[(.int p1)] maxLocals) t := by
      intro t k
      refine r1 _ ?_
      refine XS.ifYes X0.here hx rfl (pc0 := 8) (pc' := 20) rfl (hb hby at_8) rfl ((if0 _ _).trans (feq c2).2) (by decide) (by decide) ?_
      show Sp p e below s₁ (mkF m 20 #[.val (.int p1), .val (.int ((p1 &&& (2147483647 : Int32)) % (5 : Int32))), .unset, .unset] []) _
      refine XS.iloadN X0.here hx rfl (hb hby at_20) rfl ?_
      show Sp p e below s₁ (mkF m 21 #[.val (.int p1), .val (.int ((p1 &&& (2147483647 : Int32)) % (5 : Int32))), .unset, .unset] [(.int ((p1 &&& (2147483647 : Int32)) % (5 : Int32)))]) _
      refine XS.iconst X0.here hx rfl (hb hby at_21) ?_
      show Sp p e below s₁ (mkF m 22 #[.val (.int p1), .val (.int ((p1 &&& (2147483647 : Int32)) % (5 : Int32))), .unset, .unset] [(.int (1 : Int32)), (.int ((p1 &&& (2147483647 : Int32)) % (5 : Int32)))]) _
      exact k
    by_cases c6 : ((p1 &&& (2147483647 : Int32)) % (5 : Int32)) = (1 : Int32)
    · obtain ⟨Tg7, Xg7, eg7, stg7⟩ := getS2 X0 hx hZ hown (host := "") (Or.inl (hw _ (List.mem_of_getElem? (i := 16) rfl))) Via.refl e0 S_FAILED (g := (mkF m 25 #[.val (.int p1), .val (.int ((p1 &&& (2147483647 : Int32)) % (5 : Int32))), .unset, .unset] [])) rfl (hb hby at_25)
      obtain ⟨cqk8, kqk8, qk8a, qk8b, qk8c⟩ := isOf hZ eg7 E_FAILED
      obtain ⟨_, _, ⟨Tk8, Lk8, kk8, nk8⟩, -, Xk8, ⟨Lck8, hQk8, lk8, yk8, zk8⟩, stk8⟩ := Xg7.virtualBack hx (y := (⟨"com/example/unbraid/unbraid/junit/Outcome$Status", "failed", "()Z"⟩ : MethodName)) (z := (⟨"com/example/unbraid/unbraid/junit/Outcome$Status", "failed", "()Z"⟩ : MethodName)) hown (mvT hZ (hw _ (List.mem_of_getElem? (i := 4) rfl))) (mvT hZ (hw _ (List.mem_of_getElem? (i := 5) rfl))) (notFace_of_selects (args := #[]) (mvT hZ (hw _ (List.mem_of_getElem? (i := 7) rfl)))) (mvT hZ (hw _ (List.mem_of_getElem? (i := 7) rfl))) (mvT hZ (hw _ (List.mem_of_getElem? (i := 6) rfl))) (by decide) (backOf (W := 0) (rm_callee l Z a0 hw [] w_FAILED w_FAILED w_ERRORED w_NO_SUCH_TEST (1 : Int32) h0 n0 Z0 S_FAILED S_ERRORED S_NO_SUCH_TEST (by simp [n_FAILED_ERRORED, n_FAILED_NO_SUCH_TEST])) hZ (hw _ (List.mem_of_getElem? (i := 8) rfl)) (hw _ (List.mem_of_getElem? (i := 2) rfl)) (by decide) (by decide)) qk8a qk8c (g := (mkF m 69 #[.val (.int p1), .val (.int ((p1 &&& (2147483647 : Int32)) % (5 : Int32))), .val (.ref w_FAILED), .val (.int (1 : Int32))] [(.ref w_FAILED)])) rfl (by rw [hml]; rfl) (Steps.refl _) (argsL := []) (rest := []) (lenOf pd___Z rfl) rfl (by show 2 * 0 + _ ≤ _; exact Nat.le_of_eq rfl) (hb hby at_69) (fun _ _ => ⟨rfl, eg7, (by decide : 0 + 0 ≤ _), (by decide : 0 + 0 ≤ _)⟩)
      dsimp only [Pt.U, Pt.locs, Pt.cells, Pt.slots] at Xk8 lk8 yk8 zk8 stk8 hQk8
      subst lk8 yk8 zk8
      obtain ⟨rfl, Nk8q, ek8⟩ := hQk8
      have Nk8 := Fr.app N0 Nk8q
      obtain ⟨fs, hlv, hrun, hended, hW, hsame⟩ := Xk8.leave (v := some (.int (1 : Int32))) (fun h => by rw [hret] at h; cases h)
      refine ⟨_, _, r5 _ ?_, hrun, hended, _, _, rfl, ?_, ⟨_, rfl⟩, hW, hsame.mono (by decide) (by decide)⟩
      · refine XS.icmpNo X0.here hx rfl (hb hby at_22) rfl (teq c6).2 ?_
        show Sp p e below s₁ (mkF m 25 #[.val (.int p1), .val (.int ((p1 &&& (2147483647 : Int32)) % (5 : Int32))), .unset, .unset] []) _
        refine stg7 _ ?_
        show Sp p e below Tg7 (mkF m 28 #[.val (.int p1), .val (.int ((p1 &&& (2147483647 : Int32)) % (5 : Int32))), .unset, .unset] [(.ref w_FAILED)]) _
        refine XS.astoreN Xg7.here hx rfl (hb hby at_28) rfl rfl (l' := #[.val (.int p1), .val (.int ((p1 &&& (2147483647 : Int32)) % (5 : Int32))), .val (.ref w_FAILED), .unset]) rfl ?_
        show Sp p e below Tg7 (mkF m 29 #[.val (.int p1), .val (.int ((p1 &&& (2147483647 : Int32)) % (5 : Int32))), .val (.ref w_FAILED), .unset] []) _
        refine XS.iconst Xg7.here hx rfl (hb hby at_29) ?_
        show Sp p e below Tg7 (mkF m 30 #[.val (.int p1), .val (.int ((p1 &&& (2147483647 : Int32)) % (5 : Int32))), .val (.ref w_FAILED), .unset] [(.int (1 : Int32))]) _
        refine XS.istoreN Xg7.here hx rfl (hb hby at_30) rfl (l' := #[.val (.int p1), .val (.int ((p1 &&& (2147483647 : Int32)) % (5 : Int32))), .val (.ref w_FAILED), .val (.int (1 : Int32))]) rfl ?_
        show Sp p e below Tg7 (mkF m 31 #[.val (.int p1), .val (.int ((p1 &&& (2147483647 : Int32)) % (5 : Int32))), .val (.ref w_FAILED), .val (.int (1 : Int32))] []) _
        refine XS.goto Xg7.here hx rfl (pc0 := 31) (pc' := 68) rfl (hb hby at_31) (by decide) (by decide) ?_
        show Sp p e below Tg7 (mkF m 68 #[.val (.int p1), .val (.int ((p1 &&& (2147483647 : Int32)) % (5 : Int32))), .val (.ref w_FAILED), .val (.int (1 : Int32))] []) _
        refine XS.aloadN Xg7.here hx rfl (hb hby at_68) rfl rfl ?_
        show Sp p e below Tg7 (mkF m 69 #[.val (.int p1), .val (.int ((p1 &&& (2147483647 : Int32)) % (5 : Int32))), .val (.ref w_FAILED), .val (.int (1 : Int32))] [(.ref w_FAILED)]) _
        refine stk8.trans ?_
        show Sp p e below Tk8 (mkF m 72 #[.val (.int p1), .val (.int ((p1 &&& (2147483647 : Int32)) % (5 : Int32))), .val (.ref w_FAILED), .val (.int (1 : Int32))] [(.int (1 : Int32))]) _
        refine XS.iloadN Xk8.here hx rfl (hb hby at_72) rfl ?_
        show Sp p e below Tk8 (mkF m 73 #[.val (.int p1), .val (.int ((p1 &&& (2147483647 : Int32)) % (5 : Int32))), .val (.ref w_FAILED), .val (.int (1 : Int32))] [(.int (1 : Int32)), (.int (1 : Int32))]) _
        refine XS.icmpNo Xk8.here hx rfl (hb hby at_73) rfl (teq (by decide : (1 : Int32) = (1 : Int32))).2 ?_
        show Sp p e below Tk8 (mkF m 76 #[.val (.int p1), .val (.int ((p1 &&& (2147483647 : Int32)) % (5 : Int32))), .val (.ref w_FAILED), .val (.int (1 : Int32))] []) _
        refine XS.iconst Xk8.here hx rfl (hb hby at_76) ?_
        show Sp p e below Tk8 (mkF m 77 #[.val (.int p1), .val (.int ((p1 &&& (2147483647 : Int32)) % (5 : Int32))), .val (.ref w_FAILED), .val (.int (1 : Int32))] [(.int (1 : Int32))]) _
        refine XS.goto Xk8.here hx rfl (pc0 := 77) (pc' := 81) rfl (hb hby at_77) (by decide) (by decide) ?_
        show Sp p e below Tk8 (mkF m 81 #[.val (.int p1), .val (.int ((p1 &&& (2147483647 : Int32)) % (5 : Int32))), .val (.ref w_FAILED), .val (.int (1 : Int32))] [(.int (1 : Int32))]) _
        exact retN Xk8 hx (t := .boolean) hret (by simp) (hb hby at_81) hlv
      · show Q_law Z p1 w_PASSED w_FAILED w_ERRORED w_NO_SUCH_TEST w_SKIPPED h0 n0 _ Tk8.heap _
        rw [ek8]
        exact ⟨rfl, Nk8⟩
    · have r9 : ∀ t, Sp p e below s₁ (mkF m 36 #[.val (.int p1), .val (.int ((p1 &&& (2147483647 : Int32)) % (5 : Int32))), .unset, .unset] [(.int (2 : Int32)), (.int ((p1 &&& (2147483647 : Int32)) % (5 : Int32)))]) t → Sp p e below s₁ (entryFrame m #[(.int p1)] maxLocals) t := by
        intro t k
        refine r5 _ ?_
        refine XS.icmpYes X0.here hx rfl (pc0 := 22) (pc' := 34) rfl (hb hby at_22) rfl (feq c6).2 (by decide) (by decide) ?_
        show Sp p e below s₁ (mkF m 34 #[.val (.int p1), .val (.int ((p1 &&& (2147483647 : Int32)) % (5 : Int32))), .unset, .unset] []) _
        refine XS.iloadN X0.here hx rfl (hb hby at_34) rfl ?_
        show Sp p e below s₁ (mkF m 35 #[.val (.int p1), .val (.int ((p1 &&& (2147483647 : Int32)) % (5 : Int32))), .unset, .unset] [(.int ((p1 &&& (2147483647 : Int32)) % (5 : Int32)))]) _
        refine XS.iconst X0.here hx rfl (hb hby at_35) ?_
        show Sp p e below s₁ (mkF m 36 #[.val (.int p1), .val (.int ((p1 &&& (2147483647 : Int32)) % (5 : Int32))), .unset, .unset] [(.int (2 : Int32)), (.int ((p1 &&& (2147483647 : Int32)) % (5 : Int32)))]) _
        exact k
      by_cases c10 : ((p1 &&& (2147483647 : Int32)) % (5 : Int32)) = (2 : Int32)
      · obtain ⟨Tg11, Xg11, eg11, stg11⟩ := getS2 X0 hx hZ hown (host := "") (Or.inl (hw _ (List.mem_of_getElem? (i := 19) rfl))) Via.refl e0 S_ERRORED (g := (mkF m 39 #[.val (.int p1), .val (.int ((p1 &&& (2147483647 : Int32)) % (5 : Int32))), .unset, .unset] [])) rfl (hb hby at_39)
        obtain ⟨cqk12, kqk12, qk12a, qk12b, qk12c⟩ := isOf hZ eg11 E_ERRORED
        obtain ⟨_, _, ⟨Tk12, Lk12, kk12, nk12⟩, -, Xk12, ⟨Lck12, hQk12, lk12, yk12, zk12⟩, stk12⟩ := Xg11.virtualBack hx (y := (⟨"com/example/unbraid/unbraid/junit/Outcome$Status", "failed", "()Z"⟩ : MethodName)) (z := (⟨"com/example/unbraid/unbraid/junit/Outcome$Status", "failed", "()Z"⟩ : MethodName)) hown (mvT hZ (hw _ (List.mem_of_getElem? (i := 4) rfl))) (mvT hZ (hw _ (List.mem_of_getElem? (i := 5) rfl))) (notFace_of_selects (args := #[]) (mvT hZ (hw _ (List.mem_of_getElem? (i := 7) rfl)))) (mvT hZ (hw _ (List.mem_of_getElem? (i := 7) rfl))) (mvT hZ (hw _ (List.mem_of_getElem? (i := 6) rfl))) (by decide) (backOf (W := 0) (rm_callee l Z a0 hw [] w_ERRORED w_FAILED w_ERRORED w_NO_SUCH_TEST (1 : Int32) h0 n0 Z0 S_FAILED S_ERRORED S_NO_SUCH_TEST (by simp [n_ERRORED_FAILED, n_ERRORED_NO_SUCH_TEST])) hZ (hw _ (List.mem_of_getElem? (i := 8) rfl)) (hw _ (List.mem_of_getElem? (i := 2) rfl)) (by decide) (by decide)) qk12a qk12c (g := (mkF m 69 #[.val (.int p1), .val (.int ((p1 &&& (2147483647 : Int32)) % (5 : Int32))), .val (.ref w_ERRORED), .val (.int (1 : Int32))] [(.ref w_ERRORED)])) rfl (by rw [hml]; rfl) (Steps.refl _) (argsL := []) (rest := []) (lenOf pd___Z rfl) rfl (by show 2 * 0 + _ ≤ _; exact Nat.le_of_eq rfl) (hb hby at_69) (fun _ _ => ⟨rfl, eg11, (by decide : 0 + 0 ≤ _), (by decide : 0 + 0 ≤ _)⟩)
        dsimp only [Pt.U, Pt.locs, Pt.cells, Pt.slots] at Xk12 lk12 yk12 zk12 stk12 hQk12
        subst lk12 yk12 zk12
        obtain ⟨rfl, Nk12q, ek12⟩ := hQk12
        have Nk12 := Fr.app N0 Nk12q
        obtain ⟨fs, hlv, hrun, hended, hW, hsame⟩ := Xk12.leave (v := some (.int (1 : Int32))) (fun h => by rw [hret] at h; cases h)
        refine ⟨_, _, r9 _ ?_, hrun, hended, _, _, rfl, ?_, ⟨_, rfl⟩, hW, hsame.mono (by decide) (by decide)⟩
        · refine XS.icmpNo X0.here hx rfl (hb hby at_36) rfl (teq c10).2 ?_
          show Sp p e below s₁ (mkF m 39 #[.val (.int p1), .val (.int ((p1 &&& (2147483647 : Int32)) % (5 : Int32))), .unset, .unset] []) _
          refine stg11 _ ?_
          show Sp p e below Tg11 (mkF m 42 #[.val (.int p1), .val (.int ((p1 &&& (2147483647 : Int32)) % (5 : Int32))), .unset, .unset] [(.ref w_ERRORED)]) _
          refine XS.astoreN Xg11.here hx rfl (hb hby at_42) rfl rfl (l' := #[.val (.int p1), .val (.int ((p1 &&& (2147483647 : Int32)) % (5 : Int32))), .val (.ref w_ERRORED), .unset]) rfl ?_
          show Sp p e below Tg11 (mkF m 43 #[.val (.int p1), .val (.int ((p1 &&& (2147483647 : Int32)) % (5 : Int32))), .val (.ref w_ERRORED), .unset] []) _
          refine XS.iconst Xg11.here hx rfl (hb hby at_43) ?_
          show Sp p e below Tg11 (mkF m 44 #[.val (.int p1), .val (.int ((p1 &&& (2147483647 : Int32)) % (5 : Int32))), .val (.ref w_ERRORED), .unset] [(.int (1 : Int32))]) _
          refine XS.istoreN Xg11.here hx rfl (hb hby at_44) rfl (l' := #[.val (.int p1), .val (.int ((p1 &&& (2147483647 : Int32)) % (5 : Int32))), .val (.ref w_ERRORED), .val (.int (1 : Int32))]) rfl ?_
          show Sp p e below Tg11 (mkF m 45 #[.val (.int p1), .val (.int ((p1 &&& (2147483647 : Int32)) % (5 : Int32))), .val (.ref w_ERRORED), .val (.int (1 : Int32))] []) _
          refine XS.goto Xg11.here hx rfl (pc0 := 45) (pc' := 68) rfl (hb hby at_45) (by decide) (by decide) ?_
          show Sp p e below Tg11 (mkF m 68 #[.val (.int p1), .val (.int ((p1 &&& (2147483647 : Int32)) % (5 : Int32))), .val (.ref w_ERRORED), .val (.int (1 : Int32))] []) _
          refine XS.aloadN Xg11.here hx rfl (hb hby at_68) rfl rfl ?_
          show Sp p e below Tg11 (mkF m 69 #[.val (.int p1), .val (.int ((p1 &&& (2147483647 : Int32)) % (5 : Int32))), .val (.ref w_ERRORED), .val (.int (1 : Int32))] [(.ref w_ERRORED)]) _
          refine stk12.trans ?_
          show Sp p e below Tk12 (mkF m 72 #[.val (.int p1), .val (.int ((p1 &&& (2147483647 : Int32)) % (5 : Int32))), .val (.ref w_ERRORED), .val (.int (1 : Int32))] [(.int (1 : Int32))]) _
          refine XS.iloadN Xk12.here hx rfl (hb hby at_72) rfl ?_
          show Sp p e below Tk12 (mkF m 73 #[.val (.int p1), .val (.int ((p1 &&& (2147483647 : Int32)) % (5 : Int32))), .val (.ref w_ERRORED), .val (.int (1 : Int32))] [(.int (1 : Int32)), (.int (1 : Int32))]) _
          refine XS.icmpNo Xk12.here hx rfl (hb hby at_73) rfl (teq (by decide : (1 : Int32) = (1 : Int32))).2 ?_
          show Sp p e below Tk12 (mkF m 76 #[.val (.int p1), .val (.int ((p1 &&& (2147483647 : Int32)) % (5 : Int32))), .val (.ref w_ERRORED), .val (.int (1 : Int32))] []) _
          refine XS.iconst Xk12.here hx rfl (hb hby at_76) ?_
          show Sp p e below Tk12 (mkF m 77 #[.val (.int p1), .val (.int ((p1 &&& (2147483647 : Int32)) % (5 : Int32))), .val (.ref w_ERRORED), .val (.int (1 : Int32))] [(.int (1 : Int32))]) _
          refine XS.goto Xk12.here hx rfl (pc0 := 77) (pc' := 81) rfl (hb hby at_77) (by decide) (by decide) ?_
          show Sp p e below Tk12 (mkF m 81 #[.val (.int p1), .val (.int ((p1 &&& (2147483647 : Int32)) % (5 : Int32))), .val (.ref w_ERRORED), .val (.int (1 : Int32))] [(.int (1 : Int32))]) _
          exact retN Xk12 hx (t := .boolean) hret (by simp) (hb hby at_81) hlv
        · show Q_law Z p1 w_PASSED w_FAILED w_ERRORED w_NO_SUCH_TEST w_SKIPPED h0 n0 _ Tk12.heap _
          rw [ek12]
          exact ⟨rfl, Nk12⟩
      · have r13 : ∀ t, Sp p e below s₁ (mkF m 50 #[.val (.int p1), .val (.int ((p1 &&& (2147483647 : Int32)) % (5 : Int32))), .unset, .unset] [(.int (3 : Int32)), (.int ((p1 &&& (2147483647 : Int32)) % (5 : Int32)))]) t → Sp p e below s₁ (entryFrame m #[(.int p1)] maxLocals) t := by
          intro t k
          refine r9 _ ?_
          refine XS.icmpYes X0.here hx rfl (pc0 := 36) (pc' := 48) rfl (hb hby at_36) rfl (feq c10).2 (by decide) (by decide) ?_
          show Sp p e below s₁ (mkF m 48 #[.val (.int p1), .val (.int ((p1 &&& (2147483647 : Int32)) % (5 : Int32))), .unset, .unset] []) _
          refine XS.iloadN X0.here hx rfl (hb hby at_48) rfl ?_
          show Sp p e below s₁ (mkF m 49 #[.val (.int p1), .val (.int ((p1 &&& (2147483647 : Int32)) % (5 : Int32))), .unset, .unset] [(.int ((p1 &&& (2147483647 : Int32)) % (5 : Int32)))]) _
          refine XS.iconst X0.here hx rfl (hb hby at_49) ?_
          show Sp p e below s₁ (mkF m 50 #[.val (.int p1), .val (.int ((p1 &&& (2147483647 : Int32)) % (5 : Int32))), .unset, .unset] [(.int (3 : Int32)), (.int ((p1 &&& (2147483647 : Int32)) % (5 : Int32)))]) _
          exact k
        by_cases c14 : ((p1 &&& (2147483647 : Int32)) % (5 : Int32)) = (3 : Int32)
        · obtain ⟨Tg15, Xg15, eg15, stg15⟩ := getS2 X0 hx hZ hown (host := "") (Or.inl (hw _ (List.mem_of_getElem? (i := 15) rfl))) Via.refl e0 S_NO_SUCH_TEST (g := (mkF m 53 #[.val (.int p1), .val (.int ((p1 &&& (2147483647 : Int32)) % (5 : Int32))), .unset, .unset] [])) rfl (hb hby at_53)
          obtain ⟨cqk16, kqk16, qk16a, qk16b, qk16c⟩ := isOf hZ eg15 E_NO_SUCH_TEST
          obtain ⟨_, _, ⟨Tk16, Lk16, kk16, nk16⟩, -, Xk16, ⟨Lck16, hQk16, lk16, yk16, zk16⟩, stk16⟩ := Xg15.virtualBack hx (y := (⟨"com/example/unbraid/unbraid/junit/Outcome$Status", "failed", "()Z"⟩ : MethodName)) (z := (⟨"com/example/unbraid/unbraid/junit/Outcome$Status", "failed", "()Z"⟩ : MethodName)) hown (mvT hZ (hw _ (List.mem_of_getElem? (i := 4) rfl))) (mvT hZ (hw _ (List.mem_of_getElem? (i := 5) rfl))) (notFace_of_selects (args := #[]) (mvT hZ (hw _ (List.mem_of_getElem? (i := 7) rfl)))) (mvT hZ (hw _ (List.mem_of_getElem? (i := 7) rfl))) (mvT hZ (hw _ (List.mem_of_getElem? (i := 6) rfl))) (by decide) (backOf (W := 0) (rm_callee l Z a0 hw [] w_NO_SUCH_TEST w_FAILED w_ERRORED w_NO_SUCH_TEST (1 : Int32) h0 n0 Z0 S_FAILED S_ERRORED S_NO_SUCH_TEST (by simp [n_NO_SUCH_TEST_FAILED, n_NO_SUCH_TEST_ERRORED])) hZ (hw _ (List.mem_of_getElem? (i := 8) rfl)) (hw _ (List.mem_of_getElem? (i := 2) rfl)) (by decide) (by decide)) qk16a qk16c (g := (mkF m 69 #[.val (.int p1), .val (.int ((p1 &&& (2147483647 : Int32)) % (5 : Int32))), .val (.ref w_NO_SUCH_TEST), .val (.int (1 : Int32))] [(.ref w_NO_SUCH_TEST)])) rfl (by rw [hml]; rfl) (Steps.refl _) (argsL := []) (rest := []) (lenOf pd___Z rfl) rfl (by show 2 * 0 + _ ≤ _; exact Nat.le_of_eq rfl) (hb hby at_69) (fun _ _ => ⟨rfl, eg15, (by decide : 0 + 0 ≤ _), (by decide : 0 + 0 ≤ _)⟩)
          dsimp only [Pt.U, Pt.locs, Pt.cells, Pt.slots] at Xk16 lk16 yk16 zk16 stk16 hQk16
          subst lk16 yk16 zk16
          obtain ⟨rfl, Nk16q, ek16⟩ := hQk16
          have Nk16 := Fr.app N0 Nk16q
          obtain ⟨fs, hlv, hrun, hended, hW, hsame⟩ := Xk16.leave (v := some (.int (1 : Int32))) (fun h => by rw [hret] at h; cases h)
          refine ⟨_, _, r13 _ ?_, hrun, hended, _, _, rfl, ?_, ⟨_, rfl⟩, hW, hsame.mono (by decide) (by decide)⟩
          · refine XS.icmpNo X0.here hx rfl (hb hby at_50) rfl (teq c14).2 ?_
            show Sp p e below s₁ (mkF m 53 #[.val (.int p1), .val (.int ((p1 &&& (2147483647 : Int32)) % (5 : Int32))), .unset, .unset] []) _
            refine stg15 _ ?_
            show Sp p e below Tg15 (mkF m 56 #[.val (.int p1), .val (.int ((p1 &&& (2147483647 : Int32)) % (5 : Int32))), .unset, .unset] [(.ref w_NO_SUCH_TEST)]) _
            refine XS.astoreN Xg15.here hx rfl (hb hby at_56) rfl rfl (l' := #[.val (.int p1), .val (.int ((p1 &&& (2147483647 : Int32)) % (5 : Int32))), .val (.ref w_NO_SUCH_TEST), .unset]) rfl ?_
            show Sp p e below Tg15 (mkF m 57 #[.val (.int p1), .val (.int ((p1 &&& (2147483647 : Int32)) % (5 : Int32))), .val (.ref w_NO_SUCH_TEST), .unset] []) _
            refine XS.iconst Xg15.here hx rfl (hb hby at_57) ?_
            show Sp p e below Tg15 (mkF m 58 #[.val (.int p1), .val (.int ((p1 &&& (2147483647 : Int32)) % (5 : Int32))), .val (.ref w_NO_SUCH_TEST), .unset] [(.int (1 : Int32))]) _
            refine XS.istoreN Xg15.here hx rfl (hb hby at_58) rfl (l' := #[.val (.int p1), .val (.int ((p1 &&& (2147483647 : Int32)) % (5 : Int32))), .val (.ref w_NO_SUCH_TEST), .val (.int (1 : Int32))]) rfl ?_
            show Sp p e below Tg15 (mkF m 59 #[.val (.int p1), .val (.int ((p1 &&& (2147483647 : Int32)) % (5 : Int32))), .val (.ref w_NO_SUCH_TEST), .val (.int (1 : Int32))] []) _
            refine XS.goto Xg15.here hx rfl (pc0 := 59) (pc' := 68) rfl (hb hby at_59) (by decide) (by decide) ?_
            show Sp p e below Tg15 (mkF m 68 #[.val (.int p1), .val (.int ((p1 &&& (2147483647 : Int32)) % (5 : Int32))), .val (.ref w_NO_SUCH_TEST), .val (.int (1 : Int32))] []) _
            refine XS.aloadN Xg15.here hx rfl (hb hby at_68) rfl rfl ?_
            show Sp p e below Tg15 (mkF m 69 #[.val (.int p1), .val (.int ((p1 &&& (2147483647 : Int32)) % (5 : Int32))), .val (.ref w_NO_SUCH_TEST), .val (.int (1 : Int32))] [(.ref w_NO_SUCH_TEST)]) _
            refine stk16.trans ?_
            show Sp p e below Tk16 (mkF m 72 #[.val (.int p1), .val (.int ((p1 &&& (2147483647 : Int32)) % (5 : Int32))), .val (.ref w_NO_SUCH_TEST), .val (.int (1 : Int32))] [(.int (1 : Int32))]) _
            refine XS.iloadN Xk16.here hx rfl (hb hby at_72) rfl ?_
            show Sp p e below Tk16 (mkF m 73 #[.val (.int p1), .val (.int ((p1 &&& (2147483647 : Int32)) % (5 : Int32))), .val (.ref w_NO_SUCH_TEST), .val (.int (1 : Int32))] [(.int (1 : Int32)), (.int (1 : Int32))]) _
            refine XS.icmpNo Xk16.here hx rfl (hb hby at_73) rfl (teq (by decide : (1 : Int32) = (1 : Int32))).2 ?_
            show Sp p e below Tk16 (mkF m 76 #[.val (.int p1), .val (.int ((p1 &&& (2147483647 : Int32)) % (5 : Int32))), .val (.ref w_NO_SUCH_TEST), .val (.int (1 : Int32))] []) _
            refine XS.iconst Xk16.here hx rfl (hb hby at_76) ?_
            show Sp p e below Tk16 (mkF m 77 #[.val (.int p1), .val (.int ((p1 &&& (2147483647 : Int32)) % (5 : Int32))), .val (.ref w_NO_SUCH_TEST), .val (.int (1 : Int32))] [(.int (1 : Int32))]) _
            refine XS.goto Xk16.here hx rfl (pc0 := 77) (pc' := 81) rfl (hb hby at_77) (by decide) (by decide) ?_
            show Sp p e below Tk16 (mkF m 81 #[.val (.int p1), .val (.int ((p1 &&& (2147483647 : Int32)) % (5 : Int32))), .val (.ref w_NO_SUCH_TEST), .val (.int (1 : Int32))] [(.int (1 : Int32))]) _
            exact retN Xk16 hx (t := .boolean) hret (by simp) (hb hby at_81) hlv
          · show Q_law Z p1 w_PASSED w_FAILED w_ERRORED w_NO_SUCH_TEST w_SKIPPED h0 n0 _ Tk16.heap _
            rw [ek16]
            exact ⟨rfl, Nk16⟩
        · obtain ⟨Tg17, Xg17, eg17, stg17⟩ := getS2 X0 hx hZ hown (host := "") (Or.inl (hw _ (List.mem_of_getElem? (i := 17) rfl))) Via.refl e0 S_SKIPPED (g := (mkF m 62 #[.val (.int p1), .val (.int ((p1 &&& (2147483647 : Int32)) % (5 : Int32))), .unset, .unset] [])) rfl (hb hby at_62)
          obtain ⟨cqk18, kqk18, qk18a, qk18b, qk18c⟩ := isOf hZ eg17 E_SKIPPED
          obtain ⟨_, _, ⟨Tk18, Lk18, kk18, nk18⟩, -, Xk18, ⟨Lck18, hQk18, lk18, yk18, zk18⟩, stk18⟩ := Xg17.virtualBack hx (y := (⟨"com/example/unbraid/unbraid/junit/Outcome$Status", "failed", "()Z"⟩ : MethodName)) (z := (⟨"com/example/unbraid/unbraid/junit/Outcome$Status", "failed", "()Z"⟩ : MethodName)) hown (mvT hZ (hw _ (List.mem_of_getElem? (i := 4) rfl))) (mvT hZ (hw _ (List.mem_of_getElem? (i := 5) rfl))) (notFace_of_selects (args := #[]) (mvT hZ (hw _ (List.mem_of_getElem? (i := 7) rfl)))) (mvT hZ (hw _ (List.mem_of_getElem? (i := 7) rfl))) (mvT hZ (hw _ (List.mem_of_getElem? (i := 6) rfl))) (by decide) (backOf (W := 0) (rm_callee l Z a0 hw [] w_SKIPPED w_FAILED w_ERRORED w_NO_SUCH_TEST (0 : Int32) h0 n0 Z0 S_FAILED S_ERRORED S_NO_SUCH_TEST (by simp [n_SKIPPED_FAILED, n_SKIPPED_ERRORED, n_SKIPPED_NO_SUCH_TEST])) hZ (hw _ (List.mem_of_getElem? (i := 8) rfl)) (hw _ (List.mem_of_getElem? (i := 2) rfl)) (by decide) (by decide)) qk18a qk18c (g := (mkF m 69 #[.val (.int p1), .val (.int ((p1 &&& (2147483647 : Int32)) % (5 : Int32))), .val (.ref w_SKIPPED), .val (.int (0 : Int32))] [(.ref w_SKIPPED)])) rfl (by rw [hml]; rfl) (Steps.refl _) (argsL := []) (rest := []) (lenOf pd___Z rfl) rfl (by show 2 * 0 + _ ≤ _; exact Nat.le_of_eq rfl) (hb hby at_69) (fun _ _ => ⟨rfl, eg17, (by decide : 0 + 0 ≤ _), (by decide : 0 + 0 ≤ _)⟩)
          dsimp only [Pt.U, Pt.locs, Pt.cells, Pt.slots] at Xk18 lk18 yk18 zk18 stk18 hQk18
          subst lk18 yk18 zk18
          obtain ⟨rfl, Nk18q, ek18⟩ := hQk18
          have Nk18 := Fr.app N0 Nk18q
          obtain ⟨fs, hlv, hrun, hended, hW, hsame⟩ := Xk18.leave (v := some (.int (1 : Int32))) (fun h => by rw [hret] at h; cases h)
          refine ⟨_, _, r13 _ ?_, hrun, hended, _, _, rfl, ?_, ⟨_, rfl⟩, hW, hsame.mono (by decide) (by decide)⟩
          · refine XS.icmpYes X0.here hx rfl (pc0 := 50) (pc' := 62) rfl (hb hby at_50) rfl (feq c14).2 (by decide) (by decide) ?_
            show Sp p e below s₁ (mkF m 62 #[.val (.int p1), .val (.int ((p1 &&& (2147483647 : Int32)) % (5 : Int32))), .unset, .unset] []) _
            refine stg17 _ ?_
            show Sp p e below Tg17 (mkF m 65 #[.val (.int p1), .val (.int ((p1 &&& (2147483647 : Int32)) % (5 : Int32))), .unset, .unset] [(.ref w_SKIPPED)]) _
            refine XS.astoreN Xg17.here hx rfl (hb hby at_65) rfl rfl (l' := #[.val (.int p1), .val (.int ((p1 &&& (2147483647 : Int32)) % (5 : Int32))), .val (.ref w_SKIPPED), .unset]) rfl ?_
            show Sp p e below Tg17 (mkF m 66 #[.val (.int p1), .val (.int ((p1 &&& (2147483647 : Int32)) % (5 : Int32))), .val (.ref w_SKIPPED), .unset] []) _
            refine XS.iconst Xg17.here hx rfl (hb hby at_66) ?_
            show Sp p e below Tg17 (mkF m 67 #[.val (.int p1), .val (.int ((p1 &&& (2147483647 : Int32)) % (5 : Int32))), .val (.ref w_SKIPPED), .unset] [(.int (0 : Int32))]) _
            refine XS.istoreN Xg17.here hx rfl (hb hby at_67) rfl (l' := #[.val (.int p1), .val (.int ((p1 &&& (2147483647 : Int32)) % (5 : Int32))), .val (.ref w_SKIPPED), .val (.int (0 : Int32))]) rfl ?_
            show Sp p e below Tg17 (mkF m 68 #[.val (.int p1), .val (.int ((p1 &&& (2147483647 : Int32)) % (5 : Int32))), .val (.ref w_SKIPPED), .val (.int (0 : Int32))] []) _
            refine XS.aloadN Xg17.here hx rfl (hb hby at_68) rfl rfl ?_
            show Sp p e below Tg17 (mkF m 69 #[.val (.int p1), .val (.int ((p1 &&& (2147483647 : Int32)) % (5 : Int32))), .val (.ref w_SKIPPED), .val (.int (0 : Int32))] [(.ref w_SKIPPED)]) _
            refine stk18.trans ?_
            show Sp p e below Tk18 (mkF m 72 #[.val (.int p1), .val (.int ((p1 &&& (2147483647 : Int32)) % (5 : Int32))), .val (.ref w_SKIPPED), .val (.int (0 : Int32))] [(.int (0 : Int32))]) _
            refine XS.iloadN Xk18.here hx rfl (hb hby at_72) rfl ?_
            show Sp p e below Tk18 (mkF m 73 #[.val (.int p1), .val (.int ((p1 &&& (2147483647 : Int32)) % (5 : Int32))), .val (.ref w_SKIPPED), .val (.int (0 : Int32))] [(.int (0 : Int32)), (.int (0 : Int32))]) _
            refine XS.icmpNo Xk18.here hx rfl (hb hby at_73) rfl (teq (by decide : (0 : Int32) = (0 : Int32))).2 ?_
            show Sp p e below Tk18 (mkF m 76 #[.val (.int p1), .val (.int ((p1 &&& (2147483647 : Int32)) % (5 : Int32))), .val (.ref w_SKIPPED), .val (.int (0 : Int32))] []) _
            refine XS.iconst Xk18.here hx rfl (hb hby at_76) ?_
            show Sp p e below Tk18 (mkF m 77 #[.val (.int p1), .val (.int ((p1 &&& (2147483647 : Int32)) % (5 : Int32))), .val (.ref w_SKIPPED), .val (.int (0 : Int32))] [(.int (1 : Int32))]) _
            refine XS.goto Xk18.here hx rfl (pc0 := 77) (pc' := 81) rfl (hb hby at_77) (by decide) (by decide) ?_
            show Sp p e below Tk18 (mkF m 81 #[.val (.int p1), .val (.int ((p1 &&& (2147483647 : Int32)) % (5 : Int32))), .val (.ref w_SKIPPED), .val (.int (0 : Int32))] [(.int (1 : Int32))]) _
            exact retN Xk18 hx (t := .boolean) hret (by simp) (hb hby at_81) hlv
          · show Q_law Z p1 w_PASSED w_FAILED w_ERRORED w_NO_SUCH_TEST w_SKIPPED h0 n0 _ Tk18.heap _
            rw [ek18]
            exact ⟨rfl, Nk18⟩
set_option maxRecDepth 65536 in
set_option maxHeartbeats 40000000 in
theorem comes_1 {Post : Tables → Env → Array Value → State → Outcome → State → Prop} (hpost : ∀ tb e args s v u, (limb_1_1.after args s (.returned v) u = true ∧ limb_1_2.after args s (.returned v) u = true ∧ True) → FrameEnd s (.returned v) u (Jvm.fieldLocs frame_1_writes args s ++ Jvm.arrayLocs frame_1_arrays args s ++ Jvm.staticLocs frame_1_statics s) 0 0 → Post tb e args s (.returned v) u) :
    ArmFor flags0 classFile x code maxLocals ret World_1 tables_1 room_1 Calls_1 rest_1 Pre_1 Post := by
  intro l hfl _ _ p e ha hc hk s m args below hf hA hF happ hP
  obtain ⟨hcalls, hrest, hpre⟩ := hP
  obtain ⟨-, -, -, hnamed, -, -, -, hat⟩ := (Spec.applies_iff hf).mp happ
  obtain ⟨hg, hn⟩ := and_e (Cond.before_iff.mp (show (Jvm.Cond.and given_1 narrow_1).before args s = true from hpre))
  obtain ⟨hcount, hg0⟩ := and_e hg
  obtain ⟨w0, rfl⟩ : ∃ w0 : Value, args = #[w0] := by
    have hs : args.size = 1 := by simpa [Cond.value, given_1] using hcount
    obtain ⟨L⟩ := args
    match L, hs with
    | [w0], _ => exact ⟨w0, rfl⟩
  obtain ⟨i0, ei0⟩ := is_v hg0
  obtain rfl : w0 = (.int i0) := Option.some.inj ei0
  have hw := fun d (hd : d ∈ tables_1) => atoms_spec (ws := Jvm.Cond.code x code maxLocals ret :: tables_1) hat d (List.mem_cons_of_mem _ hd)
  have hfit : Fit s := fun {y c} hc i hi => by
    obtain ⟨ha, rfl⟩ := Array.getElem?_eq_some_iff.mp hc
    have q := List.all_eq_true.mp ((Array.all_eq_true_iff_forall_mem.mp hF) _ (Array.getElem_mem ha)) i (List.mem_range.mpr hi)
    simpa [Array.getElem?_eq_getElem hi] using q
  obtain ⟨nw0, hn0⟩ := and_e hn
  obtain ⟨nw1, hn1⟩ := and_e hn0
  obtain ⟨nw2, hn2⟩ := and_e hn1
  obtain ⟨nw3, hn3⟩ := and_e hn2
  obtain ⟨nw4, hn4⟩ := and_e hn3
  obtain ⟨nw5, hn5⟩ := and_e hn4
  obtain ⟨nw6, hn6⟩ := and_e hn5
  obtain ⟨nw7, hn7⟩ := and_e hn6
  obtain ⟨nw8, hn8⟩ := and_e hn7
  have nw9 := hn8
  obtain ⟨w_PASSED, ev_PASSED⟩ := exa_v nw0
  have S_PASSED := Sta.start ev_PASSED (Or.inr ⟨(hw _ (List.mem_of_getElem? (i := 2) rfl)), (hw _ (List.mem_of_getElem? (i := 3) rfl))⟩)
  have E_PASSED := Exa.start ev_PASSED nw0
  have O_PASSED := own_fld ev_PASSED nw2
  obtain ⟨w_FAILED, ev_FAILED⟩ := exa_v nw1
  have S_FAILED := Sta.start ev_FAILED (Or.inr ⟨(hw _ (List.mem_of_getElem? (i := 2) rfl)), (hw _ (List.mem_of_getElem? (i := 10) rfl))⟩)
  have E_FAILED := Exa.start ev_FAILED nw1
  have O_FAILED := own_fld ev_FAILED nw3
  obtain ⟨w_ERRORED, ev_ERRORED⟩ := exa_v nw4
  have S_ERRORED := Sta.start ev_ERRORED (Or.inr ⟨(hw _ (List.mem_of_getElem? (i := 2) rfl)), (hw _ (List.mem_of_getElem? (i := 12) rfl))⟩)
  have E_ERRORED := Exa.start ev_ERRORED nw4
  have O_ERRORED := own_fld ev_ERRORED nw5
  obtain ⟨w_NO_SUCH_TEST, ev_NO_SUCH_TEST⟩ := exa_v nw6
  have S_NO_SUCH_TEST := Sta.start ev_NO_SUCH_TEST (Or.inr ⟨(hw _ (List.mem_of_getElem? (i := 2) rfl)), (hw _ (List.mem_of_getElem? (i := 14) rfl))⟩)
  have E_NO_SUCH_TEST := Exa.start ev_NO_SUCH_TEST nw6
  have O_NO_SUCH_TEST := own_fld ev_NO_SUCH_TEST nw7
  obtain ⟨w_SKIPPED, ev_SKIPPED⟩ := exa_v nw8
  have S_SKIPPED := Sta.start ev_SKIPPED (Or.inr ⟨(hw _ (List.mem_of_getElem? (i := 2) rfl)), (hw _ (List.mem_of_getElem? (i := 18) rfl))⟩)
  have E_SKIPPED := Exa.start ev_SKIPPED nw8
  have O_SKIPPED := own_fld ev_SKIPPED nw9
  obtain ⟨n, o, h1, h2, h3, _, L, rfl, ⟨rfl, N⟩, hq⟩ := rm_law l s _ hw tables_1 i0 w_PASSED w_FAILED w_ERRORED w_NO_SUCH_TEST w_SKIPPED s.heap s.heap.size (Nat.le_refl _) S_PASSED S_FAILED S_ERRORED S_NO_SUCH_TEST S_SKIPPED E_PASSED E_FAILED E_ERRORED E_NO_SUCH_TEST E_SKIPPED (Fld.ne O_PASSED O_FAILED (fun q => absurd (Value.int.inj q) (by decide))) (Fld.ne O_PASSED O_ERRORED (fun q => absurd (Value.int.inj q) (by decide))) (Fld.ne O_PASSED O_NO_SUCH_TEST (fun q => absurd (Value.int.inj q) (by decide))) (Fld.ne O_FAILED O_ERRORED (fun q => absurd (Value.int.inj q) (by decide))) (Fld.ne O_FAILED O_NO_SUCH_TEST (fun q => absurd (Value.int.inj q) (by decide))) (Fld.ne O_ERRORED O_FAILED (fun q => absurd (Value.int.inj q) (by decide))) (Fld.ne O_ERRORED O_NO_SUCH_TEST (fun q => absurd (Value.int.inj q) (by decide))) (Fld.ne O_NO_SUCH_TEST O_FAILED (fun q => absurd (Value.int.inj q) (by decide))) (Fld.ne O_NO_SUCH_TEST O_ERRORED (fun q => absurd (Value.int.inj q) (by decide))) (Fld.ne O_SKIPPED O_FAILED (fun q => absurd (Value.int.inj q) (by decide))) (Fld.ne O_SKIPPED O_ERRORED (fun q => absurd (Value.int.inj q) (by decide))) (Fld.ne O_SKIPPED O_NO_SUCH_TEST (fun q => absurd (Value.int.inj q) (by decide))) p e ha hc hk s m _ below hf ((Spec.applies_iff_loose hf).mp happ).1 ⟨rfl, State.Warmed39.refl s, rfl⟩ trivial
  refine ⟨n, _, h1, h2, h3, hpost _ _ _ _ _ _ ⟨Cond.after_iff.mpr rfl, Cond.after_iff.mpr (eq_i res_at (Term.int_eval (1)) rfl), trivial⟩ ⟨hq.1, hq.2.1, (hq.2.2.sift fun y hy => Or.inr (N y hy)).mono (by decide) (by decide)⟩⟩
theorem main_1_1 : Claimed_1_1 := comes_1 fun _ _ _ _ _ _ h hF => ⟨h.1, hF⟩
theorem main_1_2 : Claimed_1_2 := comes_1 fun _ _ _ _ _ _ h hF => ⟨h.2.1, hF⟩
end Jvm.Pilot.@@N@@
namespace Jvm.Pilot.@@N@@
open Jvm Jvm.ClassFile Sem Op Lib Jvm.Free Jvm.Stand Jvm.Pilot.@@N@@.Jvm.D
/-! MADE BY PROGRAM (witnessworld.py) out of the Statement's table words and the real class files: 12 classes; the members and pool entries that the words name. The judged class is class 1, her method 1. -/
namespace start1
open Jvm.ClassFile
def u (s : String) : CpInfo := .utf8 (stringToUtf16 s)
/-- a pool by its gaps: so many unusable entries, then the entry; so many at the end -/
def gap : Nat → List CpInfo → List CpInfo
  | 0, r => r
  | n + 1, r => .unusable :: gap n r
def poolList (es : List (Nat × CpInfo)) (last : Nat) : List CpInfo := es.foldr (fun e r => gap e.1 (e.2 :: r)) (gap last [])
def pool (es : List (Nat × CpInfo)) (last : Nat) : Array CpInfo := ⟨poolList es last⟩
def fileOf (pool : Array CpInfo) (this : Nat) (attrs : Array Attribute := #[]) (ms : Array MethodInfo := #[]) (fl : Nat := 33) (sup : Nat := 0) (ifs : Array Nat := #[]) (fds : Array FieldInfo := #[]) : ClassFile where
  minorVersion := 0
  majorVersion := 65
  constantPool := pool
  accessFlags := fl
  thisClass := this
  superClass := sup
  interfaces := ifs
  fields := fds
  methods := ms
  attributes := attrs
def plain (name : String) (sup : Option ClassId) : Class where
  name := name
  kind := .ordinary
  loader := none
  accessFlags := 33
  super := sup
  interfaces := #[]
  cf := none
  fields := #[]
  methods := #[]
  instanceTypes := #[]
  staticTypes := #[]
  resolved := #[]
  callSites := []
  init := .initialized
  statics := none
  mirror := none

def pool0 : Array CpInfo := pool [(5, u "<init>"), (0, u "()V"), (1, .class_ 10), (1, u "java/lang/Object")] 113

def k0m0 : Method := { name := "<init>", desc := "()V", sig := { parameters := [], returnType := none }, accessFlags := 1, code := none }
/-- java/lang/Object -/
def k0 : Class := { plain "java/lang/Object" none with
  accessFlags := 33
  interfaces := #[]
  cf := some (fileOf pool0 8 #[] #[{ accessFlags := 1, nameIndex := 5, descriptorIndex := 6, attributes := #[] }] 33 0 #[] #[])
  fields := #[]
  methods := #[k0m0]
  instanceTypes := #[]
  staticTypes := #[]
  resolved := Array.replicate 124 none
  statics := none }

def pool1 : Array CpInfo := pool [(2, .class_ 4), (1, u "java/lang/Object"), (0, u "<init>"), (0, u "()V"), (0, .integer 2147483647), (0, .fieldref 9 10), (0, .class_ 11), (0, .nameAndType 12 13), (0, u "com/example/unbraid/unbraid/junit/Outcome$Status"), (0, u "PASSED"), (0, u "Lcom/example/unbraid/unbraid/junit/Outcome$Status;"), (0, .fieldref 9 15), (0, .nameAndType 16 13), (0, u "FAILED"), (0, .fieldref 9 18), (0, .nameAndType 19 13), (0, u "ERRORED"), (0, .fieldref 9 21), (0, .nameAndType 22 13), (0, u "NO_SUCH_TEST"), (0, .fieldref 9 24), (0, .nameAndType 25 13), (0, u "SKIPPED"), (0, .methodref 9 27), (0, .nameAndType 28 29), (0, u "failed"), (0, u "()Z"), (0, .class_ 31), (0, u "com/example/unbraid/unbraid/junit/StatusFailedPinLaw"), (2, u "law"), (0, u "(I)Z")] 7

def k1m0 : Method := { name := "<init>", desc := "()V", sig := { parameters := [], returnType := none }, accessFlags := 2, code := none }
def k1c1 : Code := { maxStack := 2, maxLocals := 4, code := code, exceptionTable := #[], attributes := #[] }
def k1m1 : Method := { name := "law", desc := "(I)Z", sig := { parameters := [.int], returnType := some .boolean }, accessFlags := 9, code := some k1c1 }
/-- com/example/unbraid/unbraid/junit/StatusFailedPinLaw -/
def k1 : Class := { plain "com/example/unbraid/unbraid/junit/StatusFailedPinLaw" (some 0) with
  accessFlags := 49
  interfaces := #[]
  cf := some (fileOf pool1 30 #[] #[{ accessFlags := 2, nameIndex := 5, descriptorIndex := 6, attributes := #[] }, { accessFlags := 9, nameIndex := 34, descriptorIndex := 35, attributes := #[] }] 49 2 #[] #[])
  fields := #[]
  methods := #[k1m0, k1m1]
  instanceTypes := #[]
  staticTypes := #[]
  resolved := Array.replicate 43 none
  statics := none }

def pool2 : Array CpInfo := pool [(1, .class_ 2), (0, u "java/lang/constant/Constable"), (0, .class_ 4), (0, u "java/lang/Object")] 6

/-- java/lang/constant/Constable -/
def k2 : Class := { plain "java/lang/constant/Constable" (some 0) with
  accessFlags := 1537
  interfaces := #[]
  cf := some (fileOf pool2 1 #[] #[] 1537 3 #[] #[])
  fields := #[]
  methods := #[]
  instanceTypes := #[]
  staticTypes := #[]
  resolved := Array.replicate 11 none
  statics := none }

def pool3 : Array CpInfo := pool [(1, .class_ 2), (0, u "java/lang/Comparable"), (0, .class_ 4), (0, u "java/lang/Object")] 7

/-- java/lang/Comparable -/
def k3 : Class := { plain "java/lang/Comparable" (some 0) with
  accessFlags := 1537
  interfaces := #[]
  cf := some (fileOf pool3 1 #[] #[] 1537 3 #[] #[])
  fields := #[]
  methods := #[]
  instanceTypes := #[]
  staticTypes := #[]
  resolved := Array.replicate 12 none
  statics := none }

def pool4 : Array CpInfo := pool [(1, .class_ 2), (0, u "java/io/Serializable"), (0, .class_ 4), (0, u "java/lang/Object")] 2

/-- java/io/Serializable -/
def k4 : Class := { plain "java/io/Serializable" (some 0) with
  accessFlags := 1537
  interfaces := #[]
  cf := some (fileOf pool4 1 #[] #[] 1537 3 #[] #[])
  fields := #[]
  methods := #[]
  instanceTypes := #[]
  staticTypes := #[]
  resolved := Array.replicate 7 none
  statics := none }

def pool5 : Array CpInfo := pool [(2, .class_ 4), (1, u "java/lang/Enum"), (0, u "name"), (0, u "Ljava/lang/String;"), (2, u "ordinal"), (0, u "I"), (1, .class_ 14), (1, u "java/lang/Object"), (4, u "hash"), (86, .class_ 108), (1, u "java/lang/Enum$EnumDesc"), (2, .class_ 112), (0, u "java/lang/constant/Constable"), (0, .class_ 114), (0, u "java/lang/Comparable"), (0, .class_ 116), (0, u "java/io/Serializable")] 87

/-- java/lang/Enum -/
def k5 : Class := { plain "java/lang/Enum" (some 0) with
  accessFlags := 1057
  interfaces := #[2, 3, 4]
  cf := some (fileOf pool5 2 #[.nestMembers #[106]] #[] 1057 12 #[111, 113, 115] #[{ accessFlags := 18, nameIndex := 5, descriptorIndex := 6, attributes := #[] }, { accessFlags := 18, nameIndex := 9, descriptorIndex := 10, attributes := #[] }, { accessFlags := 2, nameIndex := 19, descriptorIndex := 10, attributes := #[] }])
  fields := #[{ name := "name", type := (.object "java/lang/String"), accessFlags := 18, slot := 0, constantValue := 0 }, { name := "ordinal", type := .int, accessFlags := 18, slot := 1, constantValue := 0 }, { name := "hash", type := .int, accessFlags := 2, slot := 2, constantValue := 0 }]
  methods := #[]
  instanceTypes := #[(.object "java/lang/String"), .int, .int]
  staticTypes := #[]
  resolved := Array.replicate 204 none
  statics := none }

def pool6 : Array CpInfo := pool [(1, .class_ 2), (0, u "com/example/unbraid/unbraid/junit/Outcome$Status"), (2, u "PASSED"), (0, u "Lcom/example/unbraid/unbraid/junit/Outcome$Status;"), (0, .fieldref 1 8), (0, .nameAndType 9 6), (0, u "FAILED"), (0, .fieldref 1 11), (0, .nameAndType 12 6), (0, u "ERRORED"), (0, .fieldref 1 14), (0, .nameAndType 15 6), (0, u "NO_SUCH_TEST"), (2, u "SKIPPED"), (2, u "$VALUES"), (0, u "[Lcom/example/unbraid/unbraid/junit/Outcome$Status;"), (6, .class_ 31), (1, u "java/lang/Enum"), (23, u "failed"), (0, u "()Z"), (6, .class_ 64), (0, u "com/example/unbraid/unbraid/junit/Outcome")] 2

def k6c0 : Code := { maxStack := 2, maxLocals := 1, code := prog_144_method_4_code, exceptionTable := #[], attributes := #[] }
def k6m0 : Method := { name := "failed", desc := "()Z", sig := { parameters := [], returnType := some .boolean }, accessFlags := 0, code := some k6c0 }
/-- com/example/unbraid/unbraid/junit/Outcome$Status -/
def k6 : Class := { plain "com/example/unbraid/unbraid/junit/Outcome$Status" (some 5) with
  accessFlags := 16432
  interfaces := #[]
  cf := some (fileOf pool6 1 #[.nestHost 63] #[{ accessFlags := 0, nameIndex := 55, descriptorIndex := 56, attributes := #[] }] 16432 29 #[] #[{ accessFlags := 16409, nameIndex := 5, descriptorIndex := 6, attributes := #[] }, { accessFlags := 16409, nameIndex := 9, descriptorIndex := 6, attributes := #[] }, { accessFlags := 16409, nameIndex := 12, descriptorIndex := 6, attributes := #[] }, { accessFlags := 16409, nameIndex := 15, descriptorIndex := 6, attributes := #[] }, { accessFlags := 16409, nameIndex := 18, descriptorIndex := 6, attributes := #[] }, { accessFlags := 4122, nameIndex := 21, descriptorIndex := 22, attributes := #[] }])
  fields := #[{ name := "PASSED", type := (.object "com/example/unbraid/unbraid/junit/Outcome$Status"), accessFlags := 16409, slot := 0, constantValue := 0 }, { name := "FAILED", type := (.object "com/example/unbraid/unbraid/junit/Outcome$Status"), accessFlags := 16409, slot := 1, constantValue := 0 }, { name := "ERRORED", type := (.object "com/example/unbraid/unbraid/junit/Outcome$Status"), accessFlags := 16409, slot := 2, constantValue := 0 }, { name := "NO_SUCH_TEST", type := (.object "com/example/unbraid/unbraid/junit/Outcome$Status"), accessFlags := 16409, slot := 3, constantValue := 0 }, { name := "SKIPPED", type := (.object "com/example/unbraid/unbraid/junit/Outcome$Status"), accessFlags := 16409, slot := 4, constantValue := 0 }, { name := "$VALUES", type := (.array (.object "com/example/unbraid/unbraid/junit/Outcome$Status")), accessFlags := 4122, slot := 5, constantValue := 0 }]
  methods := #[k6m0]
  instanceTypes := #[(.object "java/lang/String"), .int, .int]
  staticTypes := #[(.object "com/example/unbraid/unbraid/junit/Outcome$Status"), (.object "com/example/unbraid/unbraid/junit/Outcome$Status"), (.object "com/example/unbraid/unbraid/junit/Outcome$Status"), (.object "com/example/unbraid/unbraid/junit/Outcome$Status"), (.object "com/example/unbraid/unbraid/junit/Outcome$Status"), (.array (.object "com/example/unbraid/unbraid/junit/Outcome$Status"))]
  resolved := Array.replicate 67 none
  statics := some 0 }

def pool7 : Array CpInfo := pool [(1, u "java/lang/Cloneable"), (0, .class_ 1), (0, u "java/lang/Object"), (0, .class_ 3)] 3

/-- java/lang/Cloneable -/
def k7 : Class := { plain "java/lang/Cloneable" (some 0) with
  accessFlags := 1537
  interfaces := #[]
  cf := some (fileOf pool7 2 #[] #[] 1537 4 #[] #[])
  fields := #[]
  methods := #[]
  instanceTypes := #[]
  staticTypes := #[]
  resolved := Array.replicate 8 none
  statics := none }

/-- the primitive byte -/
def k8 : Class := { plain "byte" none with kind := .primitive 'B', accessFlags := 0x411 }
/-- [B -/
def k9 : Class := { plain "[B" (some 0) with kind := .array 8 .byte, interfaces := #[7, 4], accessFlags := 1041 }

/-- the primitive int -/
def k10 : Class := { plain "int" none with kind := .primitive 'I', accessFlags := 0x411 }
/-- [I -/
def k11 : Class := { plain "[I" (some 0) with kind := .array 10 .int, interfaces := #[7, 4], accessFlags := 1041 }

def heap : Heap := #[{ cls := 6, slots := #[.ref 1, .ref 2, .ref 3, .ref 4, .ref 5, .null], vm := .statics 6 },
  { cls := 6, slots := #[.null, .int 0, .int 0], vm := .none },
  { cls := 6, slots := #[.null, .int 1, .int 0], vm := .none },
  { cls := 6, slots := #[.null, .int 2, .int 0], vm := .none },
  { cls := 6, slots := #[.null, .int 3, .int 0], vm := .none },
  { cls := 6, slots := #[.null, .int 4, .int 0], vm := .none }]
def classes : Array Class := #[k0, k1, k2, k3, k4, k5, k6, k7, k8, k9, k10, k11]
def interned : List (Array UInt16 × Addr) := []
def slotsUsed : Nat := 21
def theMethod : MethodId := ⟨1, 1⟩
def args0 : Array Value := #[.int 5]
def aboutOver (below : List Frame) : State where
  vm := { classes := classes, interned := interned.toArray }
  heap := heap
  slotsUsed := slotsUsed
  threads := #[{ frames := .invoking theMethod args0 :: below }]
def below0 : List Frame := [.native { method := ⟨0, 0⟩, args := #[] }]
def about1 : State := aboutOver below0
def p0 : Program := .bare "" "" ""
def e0 : Env := launch0.env 0 0 0
theorem w_frames : about1.frames = Frame.invoking theMethod args0 :: below0 := rfl
set_option maxRecDepth 65536 in
theorem w_args : argsFit about1.vm theMethod args0 = true := by decide +kernel
set_option maxRecDepth 65536 in
theorem w_heap : heapFits about1 = true := by decide +kernel
set_option maxRecDepth 65536 in
theorem w_runnable : about1.curStatus? = some .runnable := by decide +kernel
set_option maxRecDepth 65536 in
theorem w_alone : about1.alone = true := by decide +kernel
set_option maxRecDepth 65536 in
theorem w_named : about1.methodNamed? x = some theMethod := by decide +kernel
set_option maxRecDepth 65536 in
theorem w_hears : about1.hears theMethod below0 = true := by decide +kernel
set_option maxRecDepth 65536 in
theorem w_ripe : about1.ripe theMethod args0 below0 = true := by decide +kernel
theorem w_running : about1.status = .running := rfl
set_option maxRecDepth 65536 in
theorem w_room : about1.hasRoom e0.platform room_1 = true :=
  launch0.hasRoom_least _ room_1 (by decide +kernel) (by decide +kernel) (by decide +kernel) (by decide +kernel) (by decide +kernel) (by decide +kernel)
theorem allAtoms_all (ts : List Jvm.Cond) (a : Array Jvm.Value) (st : Jvm.State) : (allAtoms ts).before a st = ts.all (fun c => c.before a st) := by
  induction ts with
  | nil => rfl
  | cons c t ih =>
    show (Jvm.Cond.and c (allAtoms t)).before a st = _
    rw [Jvm.Cond.before_and, ih, List.all_cons]
def words1 : List Jvm.Cond := Jvm.Cond.code x code maxLocals ret :: tables_1
/-- a 'code' word, met by the world's own term for the bytes: nothing is compared byte by byte -/
theorem code_word {y : MethodName} {bytes : ByteArray} {mx : Nat} {rt : Option FieldType} {a : Array Value} {s : State} {m : MethodId} {meth : Method} {c : Code} (h1 : s.methodNamed? y = some m) (h2 : s.vm.method? m = some meth) (h3 : meth.code = some c) (h4 : c.code = bytes)
    (h5 : (c.maxLocals == mx && c.exceptionTable.isEmpty && decide (c.maxStack ≤ mostOperands) && decide (meth.sig.returnType = rt) && !meth.locks && decide (parseMethodDescriptor y.desc = some meth.sig)) = true) : (Jvm.Cond.code y bytes mx rt).before a s = true := by
  simp only [Bool.and_eq_true, beq_iff_eq, Bool.not_eq_true', decide_eq_true_eq] at h5
  obtain ⟨⟨⟨⟨⟨g1, g2⟩, g3⟩, g4⟩, g5⟩, g6⟩ := h5
  simp [Cond.before, Cond.holds, Cond.value, h1, h2, h3, h4, g1, g2, g3, g4, g5, g6]
def isCode : Jvm.Cond → Bool
  | .code _ _ _ _ => true
  | _ => false
theorem all_split {L : List Jvm.Cond} {P : Jvm.Cond → Bool} (h1 : L.all (fun c => isCode c || P c) = true) (h2 : ∀ c ∈ L.filter isCode, P c = true) : L.all P = true := by
  refine List.all_eq_true.mpr fun c hc => ?_
  have h := List.all_eq_true.mp h1 c hc
  rcases Bool.eq_false_or_eq_true (isCode c) with hi | hi
  · exact h2 c (List.mem_filter.mpr ⟨hc, hi⟩)
  · simpa [hi] using h
set_option maxRecDepth 65536 in
theorem w_c0 : (Jvm.Cond.code x code maxLocals ret).before args0 about1 = true := code_word (m := ⟨1, 1⟩) (meth := k1m1) (c := k1c1) (by decide +kernel) rfl rfl rfl (by decide +kernel)
set_option maxRecDepth 65536 in
theorem w_c1 : (Jvm.Cond.code ({ cls := "com/example/unbraid/unbraid/junit/Outcome$Status", name := "failed", desc := "()Z" } : Jvm.MethodName) prog_144_method_4_code (1 : Nat) (Option.some Jvm.ClassFile.FieldType.boolean)).before args0 about1 = true := code_word (m := ⟨6, 0⟩) (meth := k6m0) (c := k6c0) (by decide +kernel) rfl rfl rfl (by decide +kernel)
def codes1 : List Jvm.Cond := [Jvm.Cond.code x code maxLocals ret, Jvm.Cond.code ({ cls := "com/example/unbraid/unbraid/junit/Outcome$Status", name := "failed", desc := "()Z" } : Jvm.MethodName) prog_144_method_4_code (1 : Nat) (Option.some Jvm.ClassFile.FieldType.boolean)]
set_option maxRecDepth 65536 in
theorem codes_eq : words1.filter isCode = codes1 := rfl
theorem w_codes : ∀ c ∈ words1.filter isCode, c.before args0 about1 = true := by
  rw [codes_eq]
  intro c hc
  simp only [codes1, List.mem_cons, List.not_mem_nil, or_false] at hc
  rcases hc with rfl | rfl
  · exact w_c0
  · exact w_c1
set_option maxRecDepth 65536 in
theorem w_t1 : words1.all (fun c => isCode c || c.before args0 about1) = true := by decide +kernel
theorem w_tables : (allAtoms (Jvm.Cond.code x code maxLocals ret :: tables_1)).before args0 about1 = true := by
  rw [allAtoms_all]
  show words1.all (fun c => c.before args0 about1) = true
  refine all_split ?_ w_codes
  rw [w_t1]
set_option maxRecDepth 65536 in
theorem w_case : (Jvm.Cond.and given_1 narrow_1).before args0 about1 = true := by decide +kernel
theorem w_applies : (headSpec (Jvm.Cond.code x code maxLocals ret :: tables_1) room_1).applies x e0.platform about1 = true :=
  (Spec.applies_iff w_frames).mpr ⟨w_running, w_runnable, w_alone, w_named, w_hears, w_ripe, w_room, w_tables⟩
theorem atStart : AtStart classFile x code maxLocals ret World_1 tables_1 room_1 Calls_1 rest_1 Pre_1 launch0 p0 e0 about1 theMethod args0 below0 :=
  ⟨lists_1, trivial, launch0.admits_env _ _ _, launch0.least_env, fairChoices_fair.cas, fairChoices_fair.clock, w_frames, w_args, w_heap, w_applies, trivial, trivial, w_case⟩
end start1
theorem witness_1 : WitnessClaimed_1 := ⟨start1.p0, start1.e0, start1.about1, start1.theMethod, start1.args0, start1.below0, start1.atStart⟩
end Jvm.Pilot.@@N@@
