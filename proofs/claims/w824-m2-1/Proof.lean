import JvmDerived
import JvmDerived.Pilot.@@N@@Statement
import JvmDerived.Pilot.@@N@@Code
set_option linter.unusedVariables false
set_option linter.unusedSimpArgs false
namespace Jvm.RoadKit
open Sem ClassFile Op Lib Jvm.Stand Jvm.Free Jvm.LawKit
section New
variable {p : Program} {l : Launch} {e : Env} {R : Room} {s : State} {m : MethodId} {args : Array Value} {below : List Frame} {meth : Method} {c : Code} {T : State} {locs : List Loc} {cells slots : Nat}
theorem retI (X : Stand p l e R s m args below meth c T locs cells slots) (hx : p.tables.exec = Jvm.exec) {pc : Nat} {Ls : Array Slot} {z : Int32} {rest : List Value} (hret : meth.sig.returnType = some .int) (hd : decode c.code pc = .ok (.ireturn, 1)) {fs : List Frame}
    (hl : ∀ (f : JFrame) (acts : List Action), f.method = m → f.locked = none → f.entered = [] → (doReturn e (T.setTop f) acts (some (.int z))).1 = T.setFrames fs) : Steps p.tables e below (T.setTop (mkF m pc Ls (.int z :: rest))) (T.setFrames fs) := by
  have hm' : T.vm.method? m = some meth := X.method'
  have hn : narrow .int (.int z) = .int z := rfl
  show Steps p.tables e below (T.setTop { method := m, pc := pc, locals := Ls, stack := _ :: rest, locked := none }) _
  jvm_step X.here [X.here.top, hx, hd, hm', hret, hn]
  first | (intro acts; rw [hl _ acts rfl rfl rfl]) | rw [hl _ _ rfl rfl rfl]
  exact Steps.refl _
end New
end Jvm.RoadKit
namespace Jvm.Pilot.@@N@@
open Jvm Jvm.ClassFile Sem Op Lib Jvm.Free Jvm.Stand Jvm.LawKit Jvm.RoadKit Bundle Jvm.Pilot.@@N@@.Jvm.D
abbrev Sp (p : Program) (e : Env) (b : List Frame) (T : State) (f : JFrame) (t : State) : Prop := Steps p.tables e b (T.setTop f) t
theorem own_fld {args : Array Value} {Z : State} {t : Term} {C n d : String} {k : Int32} {x : Addr} (ev : t.eval args Z none [] Z = some (.ref x)) (h : (Jvm.Cond.eq (.field t C n d) (.int k)).value args Z none Z [] = some true) : Fld Z Z.heap x C n d (.int k) := by
  refine Fld.start ?_
  have h1 := fld_at (C := C) (n := n) (dd := d) ev
  obtain ⟨u, w, e1, e2, -, -⟩ := cmp_v (Or.inl h)
  have e3 : w = .int k := (Option.some.inj (e2.symm.trans (Term.int_eval k)))
  subst e3
  rw [← h1, e1]
  simp only [Jvm.Cond.value, e1, e2] at h
  cases u <;> simp_all
theorem own_sta_keep0 {Z : State} {h h' : Heap} {C n d : String} {v : Value} (F : Sta Z h C n d v) (K : Keep h h' []) : Sta Z h' C n d v := by
  obtain ⟨cf, i, k, f, st, cell, h1, h2, h3, h4, h5, r⟩ := F
  exact ⟨cf, i, k, f, st, cell, h1, h2, h3, h4, K.2.1 _ _ h5 nin0, r⟩
theorem d1_0 : decode prog_145_method_7_code 0 = .ok (.aload_n 0, 1) := by decide +kernel
theorem d1_1 : decode prog_145_method_7_code 1 = .ok (.getstatic 3, 3) := by decide +kernel
theorem d1_4 : decode prog_145_method_7_code 4 = .ok (.if_acmp .eq 17, 3) := by decide +kernel
theorem d1_7 : decode prog_145_method_7_code 7 = .ok (.aload_n 0, 1) := by decide +kernel
theorem d1_8 : decode prog_145_method_7_code 8 = .ok (.getstatic 7, 3) := by decide +kernel
theorem d1_11 : decode prog_145_method_7_code 11 = .ok (.if_acmp .eq 10, 3) := by decide +kernel
theorem d1_14 : decode prog_145_method_7_code 14 = .ok (.aload_n 0, 1) := by decide +kernel
theorem d1_15 : decode prog_145_method_7_code 15 = .ok (.getstatic 10, 3) := by decide +kernel
theorem d1_18 : decode prog_145_method_7_code 18 = .ok (.if_acmp .ne 7, 3) := by decide +kernel
theorem d1_21 : decode prog_145_method_7_code 21 = .ok (.iconst 1, 1) := by decide +kernel
theorem d1_22 : decode prog_145_method_7_code 22 = .ok (.goto 4, 3) := by decide +kernel
theorem d1_25 : decode prog_145_method_7_code 25 = .ok (.iconst 0, 1) := by decide +kernel
theorem d1_26 : decode prog_145_method_7_code 26 = .ok (.ireturn, 1) := by decide +kernel
theorem pn_0 : plainName "com/example/unbraid/unbraid/maven/RunOrder" = true := by first | (simp [plainName, overriddenIn]; done) | decide +kernel
theorem ef_1_R (m : MethodId) (x0 : Addr) : entryFrame m #[(.ref x0)] 1 = mkF m 0 #[.val (.ref x0)] [] := by first | (simp [entryFrame, mkF, argsToLocals, Value.category]; done) | rfl
def Q_callee (Z : State) (a : Addr) (w_FILESYSTEM : Addr) (w_ALPHABETICAL : Addr) (w_REVERSE_ALPHABETICAL : Addr) (r : Int32) (h0 : Heap) (n0 : Nat) (v : Option Value) (h : Heap) (L : List Loc) : Prop := v = some (.int r) ∧ Fr n0 L ∧ h = h0
set_option maxRecDepth 65536 in
set_option maxHeartbeats 40000000 in
theorem rm_callee (l : Launch) (Z : State) (a0 : Array Value) (hw : ∀ d ∈ tables_1, d.before a0 Z = true) (ws : List Jvm.Cond) (a : Addr) (w_FILESYSTEM : Addr) (w_ALPHABETICAL : Addr) (w_REVERSE_ALPHABETICAL : Addr) (r : Int32) (h0 : Heap) (n0 : Nat) (Z0 : n0 ≤ h0.size) (S_FILESYSTEM : Sta Z h0 "com/example/unbraid/unbraid/maven/RunOrder" "FILESYSTEM" "Lcom/example/unbraid/unbraid/maven/RunOrder;" (.ref w_FILESYSTEM)) (S_ALPHABETICAL : Sta Z h0 "com/example/unbraid/unbraid/maven/RunOrder" "ALPHABETICAL" "Lcom/example/unbraid/unbraid/maven/RunOrder;" (.ref w_ALPHABETICAL)) (S_REVERSE_ALPHABETICAL : Sta Z h0 "com/example/unbraid/unbraid/maven/RunOrder" "REVERSE_ALPHABETICAL" "Lcom/example/unbraid/unbraid/maven/RunOrder;" (.ref w_REVERSE_ALPHABETICAL)) (hres : r = if a = w_FILESYSTEM then (1 : Int32) else if a = w_ALPHABETICAL then (1 : Int32) else if a = w_REVERSE_ALPHABETICAL then (1 : Int32) else 0) :
    MetFree l (⟨"com/example/unbraid/unbraid/maven/RunOrder", "isFixed", "()Z"⟩ : MethodName) (head1 (Jvm.Cond.code (⟨"com/example/unbraid/unbraid/maven/RunOrder", "isFixed", "()Z"⟩ : MethodName) prog_145_method_7_code 1 (some .boolean) :: ws) ({ frames := 0, cells := 0, slots := 0, locals := 0 } : Room)) (fun A_ U => A_ = #[(.ref a)] ∧ Z.Warmed39 U.vm ∧ U.heap = h0) (fun _ _ _ _ _ => True) (fun _ U o U' => ∃ v L, o = .returned v ∧ Q_callee Z a w_FILESYSTEM w_ALPHABETICAL w_REVERSE_ALPHABETICAL r h0 n0 v U'.heap L ∧ FrameEnd U o U' L ({ frames := 0, cells := 0, slots := 0, locals := 0 } : Room).cells ({ frames := 0, cells := 0, slots := 0, locals := 0 } : Room).slots) := by
  refine MetFree.of_bodySF (plainFor_of_name pn_0) hisR ?_
  intro p e s m args below meth c s₁ Bd hml0 hP hK
  obtain ⟨rfl, hZ, hh⟩ := hP
  have hx := Bd.exec
  have hby := Bd.bytes
  have hml : c.maxLocals = 1 := hml0
  have hown : s.vm.findClass "com/example/unbraid/unbraid/maven/RunOrder" = some m.cls := findClass_of_methodNamed Bd.named
  have hnm := (name_of_methodNamed Bd.named Bd.method).1
  have hret := Bd.returns
  have X0 : Stand p l e ({ frames := 0, cells := 0, slots := 0, locals := 0 } : Room) s m #[(.ref a)] below meth c s₁ [] 0 0 := Stand.of_body Bd
  have e0 : s₁.heap = h0 := by rw [← hh, Bd.state]; rfl
  have N0 := Fr.nil n0
  have pre0 : ∀ t, Sp p e below s₁ (mkF m 0 #[.val (.ref a)] []) t → Sp p e below s₁ (entryFrame m #[(.ref a)] 1) t := fun t k => castTop (ef_1_R m a) k
  obtain ⟨Tg1, Xg1, eg1, stg1⟩ := getS2 X0 hx hZ hown (host := "") (Or.inl (hw _ (List.mem_of_getElem? (i := 9) rfl))) Via.refl e0 S_FILESYSTEM (g := (mkF m 1 #[.val (.ref a)] [(.ref a)])) rfl (hb hby d1_1)
  have r2 : ∀ t, Sp p e below Tg1 (mkF m 4 #[.val (.ref a)] [(.ref w_FILESYSTEM), (.ref a)]) t → Sp p e below s₁ (entryFrame m #[(.ref a)] 1) t := by
    intro t k
    refine pre0 _ ?_
    refine XS.aloadN X0.here hx rfl (hb hby d1_0) rfl rfl ?_
    show Sp p e below s₁ (mkF m 1 #[.val (.ref a)] [(.ref a)]) _
    refine stg1 _ ?_
    show Sp p e below Tg1 (mkF m 4 #[.val (.ref a)] [(.ref w_FILESYSTEM), (.ref a)]) _
    exact k
  by_cases c3 : a = w_FILESYSTEM
  · obtain ⟨fs, hlv, hrun, hended, hW, hsame⟩ := Xg1.leave (v := some (.int (1 : Int32))) (fun h => by rw [hret] at h; cases h)
    refine ⟨_, _, r2 _ ?_, hrun, hended, _, _, rfl, ?_, ⟨_, rfl⟩, hW, hsame.mono (by decide) (by decide)⟩
    · refine Jvm.RoadKit.acmp (g := (mkF m 4 #[.val (.ref a)] [(.ref w_FILESYSTEM), (.ref a)])) Xg1 hx rfl rfl rfl (pc0 := 4) (pc' := 21) (same := true) rfl (hb hby d1_4) rfl (decide_eq_true (congrArg Value.ref c3)) (by decide) (by decide) ?_
      show Sp p e below Tg1 (mkF m 21 #[.val (.ref a)] []) _
      refine XS.iconst Xg1.here hx rfl (hb hby d1_21) ?_
      show Sp p e below Tg1 (mkF m 22 #[.val (.ref a)] [(.int (1 : Int32))]) _
      refine XS.goto Xg1.here hx rfl (pc0 := 22) (pc' := 26) rfl (hb hby d1_22) (by decide) (by decide) ?_
      show Sp p e below Tg1 (mkF m 26 #[.val (.ref a)] [(.int (1 : Int32))]) _
      exact retN Xg1 hx (t := .boolean) hret (by simp) (hb hby d1_26) hlv
    · show Q_callee Z a w_FILESYSTEM w_ALPHABETICAL w_REVERSE_ALPHABETICAL r h0 n0 _ Tg1.heap _
      rw [eg1]
      exact ⟨by rw [hres]; simp [c3], N0, rfl⟩
  · obtain ⟨Tg4, Xg4, eg4, stg4⟩ := getS2 Xg1 hx hZ hown (host := "") (Or.inl (hw _ (List.mem_of_getElem? (i := 12) rfl))) Via.refl eg1 S_ALPHABETICAL (g := (mkF m 8 #[.val (.ref a)] [(.ref a)])) rfl (hb hby d1_8)
    have r5 : ∀ t, Sp p e below Tg4 (mkF m 11 #[.val (.ref a)] [(.ref w_ALPHABETICAL), (.ref a)]) t → Sp p e below s₁ (entryFrame m #[(.ref a)] 1) t := by
      intro t k
      refine r2 _ ?_
      refine Jvm.RoadKit.acmp (g := (mkF m 4 #[.val (.ref a)] [(.ref w_FILESYSTEM), (.ref a)])) Xg1 hx rfl rfl rfl (pc0 := 4) (pc' := 7) (same := false) rfl (hb hby d1_4) rfl (decide_eq_false fun q => c3 (Value.ref.inj q)) (by decide) (by decide) ?_
      show Sp p e below Tg1 (mkF m 7 #[.val (.ref a)] []) _
      refine XS.aloadN Xg1.here hx rfl (hb hby d1_7) rfl rfl ?_
      show Sp p e below Tg1 (mkF m 8 #[.val (.ref a)] [(.ref a)]) _
      refine stg4 _ ?_
      show Sp p e below Tg4 (mkF m 11 #[.val (.ref a)] [(.ref w_ALPHABETICAL), (.ref a)]) _
      exact k
    by_cases c6 : a = w_ALPHABETICAL
    · obtain ⟨fs, hlv, hrun, hended, hW, hsame⟩ := Xg4.leave (v := some (.int (1 : Int32))) (fun h => by rw [hret] at h; cases h)
      refine ⟨_, _, r5 _ ?_, hrun, hended, _, _, rfl, ?_, ⟨_, rfl⟩, hW, hsame.mono (by decide) (by decide)⟩
      · refine Jvm.RoadKit.acmp (g := (mkF m 11 #[.val (.ref a)] [(.ref w_ALPHABETICAL), (.ref a)])) Xg4 hx rfl rfl rfl (pc0 := 11) (pc' := 21) (same := true) rfl (hb hby d1_11) rfl (decide_eq_true (congrArg Value.ref c6)) (by decide) (by decide) ?_
        show Sp p e below Tg4 (mkF m 21 #[.val (.ref a)] []) _
        refine XS.iconst Xg4.here hx rfl (hb hby d1_21) ?_
        show Sp p e below Tg4 (mkF m 22 #[.val (.ref a)] [(.int (1 : Int32))]) _
        refine XS.goto Xg4.here hx rfl (pc0 := 22) (pc' := 26) rfl (hb hby d1_22) (by decide) (by decide) ?_
        show Sp p e below Tg4 (mkF m 26 #[.val (.ref a)] [(.int (1 : Int32))]) _
        exact retN Xg4 hx (t := .boolean) hret (by simp) (hb hby d1_26) hlv
      · show Q_callee Z a w_FILESYSTEM w_ALPHABETICAL w_REVERSE_ALPHABETICAL r h0 n0 _ Tg4.heap _
        rw [eg4]
        exact ⟨by rw [hres]; simp [c3, c6], N0, rfl⟩
    · obtain ⟨Tg7, Xg7, eg7, stg7⟩ := getS2 Xg4 hx hZ hown (host := "") (Or.inl (hw _ (List.mem_of_getElem? (i := 14) rfl))) Via.refl eg4 S_REVERSE_ALPHABETICAL (g := (mkF m 15 #[.val (.ref a)] [(.ref a)])) rfl (hb hby d1_15)
      have r8 : ∀ t, Sp p e below Tg7 (mkF m 18 #[.val (.ref a)] [(.ref w_REVERSE_ALPHABETICAL), (.ref a)]) t → Sp p e below s₁ (entryFrame m #[(.ref a)] 1) t := by
        intro t k
        refine r5 _ ?_
        refine Jvm.RoadKit.acmp (g := (mkF m 11 #[.val (.ref a)] [(.ref w_ALPHABETICAL), (.ref a)])) Xg4 hx rfl rfl rfl (pc0 := 11) (pc' := 14) (same := false) rfl (hb hby d1_11) rfl (decide_eq_false fun q => c6 (Value.ref.inj q)) (by decide) (by decide) ?_
        show Sp p e below Tg4 (mkF m 14 #[.val (.ref a)] []) _
        refine XS.aloadN Xg4.here hx rfl (hb hby d1_14) rfl rfl ?_
        show Sp p e below Tg4 (mkF m 15 #[.val (.ref a)] [(.ref a)]) _
        refine stg7 _ ?_
        show Sp p e below Tg7 (mkF m 18 #[.val (.ref a)] [(.ref w_REVERSE_ALPHABETICAL), (.ref a)]) _
        exact k
      by_cases c9 : a = w_REVERSE_ALPHABETICAL
      · obtain ⟨fs, hlv, hrun, hended, hW, hsame⟩ := Xg7.leave (v := some (.int (1 : Int32))) (fun h => by rw [hret] at h; cases h)
        refine ⟨_, _, r8 _ ?_, hrun, hended, _, _, rfl, ?_, ⟨_, rfl⟩, hW, hsame.mono (by decide) (by decide)⟩
        · refine Jvm.RoadKit.acmp (g := (mkF m 18 #[.val (.ref a)] [(.ref w_REVERSE_ALPHABETICAL), (.ref a)])) Xg7 hx rfl rfl rfl (pc0 := 18) (pc' := 21) (same := true) rfl (hb hby d1_18) rfl (decide_eq_true (congrArg Value.ref c9)) (by decide) (by decide) ?_
          show Sp p e below Tg7 (mkF m 21 #[.val (.ref a)] []) _
          refine XS.iconst Xg7.here hx rfl (hb hby d1_21) ?_
          show Sp p e below Tg7 (mkF m 22 #[.val (.ref a)] [(.int (1 : Int32))]) _
          refine XS.goto Xg7.here hx rfl (pc0 := 22) (pc' := 26) rfl (hb hby d1_22) (by decide) (by decide) ?_
          show Sp p e below Tg7 (mkF m 26 #[.val (.ref a)] [(.int (1 : Int32))]) _
          exact retN Xg7 hx (t := .boolean) hret (by simp) (hb hby d1_26) hlv
        · show Q_callee Z a w_FILESYSTEM w_ALPHABETICAL w_REVERSE_ALPHABETICAL r h0 n0 _ Tg7.heap _
          rw [eg7]
          exact ⟨by rw [hres]; simp [c3, c6, c9], N0, rfl⟩
      · obtain ⟨fs, hlv, hrun, hended, hW, hsame⟩ := Xg7.leave (v := some (.int (0 : Int32))) (fun h => by rw [hret] at h; cases h)
        refine ⟨_, _, r8 _ ?_, hrun, hended, _, _, rfl, ?_, ⟨_, rfl⟩, hW, hsame.mono (by decide) (by decide)⟩
        · refine Jvm.RoadKit.acmp (g := (mkF m 18 #[.val (.ref a)] [(.ref w_REVERSE_ALPHABETICAL), (.ref a)])) Xg7 hx rfl rfl rfl (pc0 := 18) (pc' := 25) (same := false) rfl (hb hby d1_18) rfl (decide_eq_false fun q => c9 (Value.ref.inj q)) (by decide) (by decide) ?_
          show Sp p e below Tg7 (mkF m 25 #[.val (.ref a)] []) _
          refine XS.iconst Xg7.here hx rfl (hb hby d1_25) ?_
          show Sp p e below Tg7 (mkF m 26 #[.val (.ref a)] [(.int (0 : Int32))]) _
          exact retN Xg7 hx (t := .boolean) hret (by simp) (hb hby d1_26) hlv
        · show Q_callee Z a w_FILESYSTEM w_ALPHABETICAL w_REVERSE_ALPHABETICAL r h0 n0 _ Tg7.heap _
          rw [eg7]
          exact ⟨by rw [hres]; simp [c3, c6, c9], N0, rfl⟩
theorem pn_1 : plainName "com/example/unbraid/unbraid/maven/RunOrderIsFixedPinLaw" = true := by first | (simp [plainName, overriddenIn]; done) | decide +kernel
theorem ef_0_I (m : MethodId) (x0 : Int32) : entryFrame m #[(.int x0)] maxLocals = mkF m 0 #[.val (.int x0), .unset, .unset, .unset] [] := by first | (simp [entryFrame, mkF, argsToLocals, Value.category, maxLocals]; done) | rfl
theorem pd___Z : parseMethodDescriptor "()Z" = some ⟨[], some .boolean⟩ := by decide +kernel
def Q_law (Z : State) (p1 : Int32) (w_FILESYSTEM : Addr) (w_ALPHABETICAL : Addr) (w_REVERSE_ALPHABETICAL : Addr) (w_RANDOM : Addr) (w_HOURLY : Addr) (w_FAILED_FIRST : Addr) (w_BALANCED : Addr) (h0 : Heap) (n0 : Nat) (v : Option Value) (h : Heap) (L : List Loc) : Prop := v = some (.int 1) ∧ Fr n0 L
set_option maxRecDepth 65536 in
set_option maxHeartbeats 40000000 in
theorem rm_law (l : Launch) (Z : State) (a0 : Array Value) (hw : ∀ d ∈ tables_1, d.before a0 Z = true) (ws : List Jvm.Cond) (p1 : Int32) (w_FILESYSTEM : Addr) (w_ALPHABETICAL : Addr) (w_REVERSE_ALPHABETICAL : Addr) (w_RANDOM : Addr) (w_HOURLY : Addr) (w_FAILED_FIRST : Addr) (w_BALANCED : Addr) (h0 : Heap) (n0 : Nat) (Z0 : n0 ≤ h0.size) (S_FILESYSTEM : Sta Z h0 "com/example/unbraid/unbraid/maven/RunOrder" "FILESYSTEM" "Lcom/example/unbraid/unbraid/maven/RunOrder;" (.ref w_FILESYSTEM)) (S_ALPHABETICAL : Sta Z h0 "com/example/unbraid/unbraid/maven/RunOrder" "ALPHABETICAL" "Lcom/example/unbraid/unbraid/maven/RunOrder;" (.ref w_ALPHABETICAL)) (S_REVERSE_ALPHABETICAL : Sta Z h0 "com/example/unbraid/unbraid/maven/RunOrder" "REVERSE_ALPHABETICAL" "Lcom/example/unbraid/unbraid/maven/RunOrder;" (.ref w_REVERSE_ALPHABETICAL)) (S_RANDOM : Sta Z h0 "com/example/unbraid/unbraid/maven/RunOrder" "RANDOM" "Lcom/example/unbraid/unbraid/maven/RunOrder;" (.ref w_RANDOM)) (S_HOURLY : Sta Z h0 "com/example/unbraid/unbraid/maven/RunOrder" "HOURLY" "Lcom/example/unbraid/unbraid/maven/RunOrder;" (.ref w_HOURLY)) (S_FAILED_FIRST : Sta Z h0 "com/example/unbraid/unbraid/maven/RunOrder" "FAILED_FIRST" "Lcom/example/unbraid/unbraid/maven/RunOrder;" (.ref w_FAILED_FIRST)) (S_BALANCED : Sta Z h0 "com/example/unbraid/unbraid/maven/RunOrder" "BALANCED" "Lcom/example/unbraid/unbraid/maven/RunOrder;" (.ref w_BALANCED)) (E_FILESYSTEM : Exa Z h0 w_FILESYSTEM "com/example/unbraid/unbraid/maven/RunOrder") (E_ALPHABETICAL : Exa Z h0 w_ALPHABETICAL "com/example/unbraid/unbraid/maven/RunOrder") (E_REVERSE_ALPHABETICAL : Exa Z h0 w_REVERSE_ALPHABETICAL "com/example/unbraid/unbraid/maven/RunOrder") (E_RANDOM : Exa Z h0 w_RANDOM "com/example/unbraid/unbraid/maven/RunOrder") (E_HOURLY : Exa Z h0 w_HOURLY "com/example/unbraid/unbraid/maven/RunOrder") (E_FAILED_FIRST : Exa Z h0 w_FAILED_FIRST "com/example/unbraid/unbraid/maven/RunOrder") (E_BALANCED : Exa Z h0 w_BALANCED "com/example/unbraid/unbraid/maven/RunOrder") (n_FILESYSTEM_ALPHABETICAL : ¬ (w_FILESYSTEM = w_ALPHABETICAL)) (n_FILESYSTEM_REVERSE_ALPHABETICAL : ¬ (w_FILESYSTEM = w_REVERSE_ALPHABETICAL)) (n_ALPHABETICAL_FILESYSTEM : ¬ (w_ALPHABETICAL = w_FILESYSTEM)) (n_ALPHABETICAL_REVERSE_ALPHABETICAL : ¬ (w_ALPHABETICAL = w_REVERSE_ALPHABETICAL)) (n_REVERSE_ALPHABETICAL_FILESYSTEM : ¬ (w_REVERSE_ALPHABETICAL = w_FILESYSTEM)) (n_REVERSE_ALPHABETICAL_ALPHABETICAL : ¬ (w_REVERSE_ALPHABETICAL = w_ALPHABETICAL)) (n_RANDOM_FILESYSTEM : ¬ (w_RANDOM = w_FILESYSTEM)) (n_RANDOM_ALPHABETICAL : ¬ (w_RANDOM = w_ALPHABETICAL)) (n_RANDOM_REVERSE_ALPHABETICAL : ¬ (w_RANDOM = w_REVERSE_ALPHABETICAL)) (n_HOURLY_FILESYSTEM : ¬ (w_HOURLY = w_FILESYSTEM)) (n_HOURLY_ALPHABETICAL : ¬ (w_HOURLY = w_ALPHABETICAL)) (n_HOURLY_REVERSE_ALPHABETICAL : ¬ (w_HOURLY = w_REVERSE_ALPHABETICAL)) (n_FAILED_FIRST_FILESYSTEM : ¬ (w_FAILED_FIRST = w_FILESYSTEM)) (n_FAILED_FIRST_ALPHABETICAL : ¬ (w_FAILED_FIRST = w_ALPHABETICAL)) (n_FAILED_FIRST_REVERSE_ALPHABETICAL : ¬ (w_FAILED_FIRST = w_REVERSE_ALPHABETICAL)) (n_BALANCED_FILESYSTEM : ¬ (w_BALANCED = w_FILESYSTEM)) (n_BALANCED_ALPHABETICAL : ¬ (w_BALANCED = w_ALPHABETICAL)) (n_BALANCED_REVERSE_ALPHABETICAL : ¬ (w_BALANCED = w_REVERSE_ALPHABETICAL)) :
    MetFree l x (head1 (Jvm.Cond.code x code maxLocals ret :: ws) room_1) (fun A_ U => A_ = #[(.int p1)] ∧ Z.Warmed39 U.vm ∧ U.heap = h0) (fun _ _ _ _ _ => True) (fun _ U o U' => ∃ v L, o = .returned v ∧ Q_law Z p1 w_FILESYSTEM w_ALPHABETICAL w_REVERSE_ALPHABETICAL w_RANDOM w_HOURLY w_FAILED_FIRST w_BALANCED h0 n0 v U'.heap L ∧ FrameEnd U o U' L room_1.cells room_1.slots) := by
  refine MetFree.of_bodySF (plainFor_of_name pn_1) hisR ?_
  intro p e s m args below meth c s₁ Bd hml0 hP hK
  obtain ⟨rfl, hZ, hh⟩ := hP
  have hx := Bd.exec
  have hby := Bd.bytes
  have hml : c.maxLocals = 4 := hml0
  have hown : s.vm.findClass "com/example/unbraid/unbraid/maven/RunOrderIsFixedPinLaw" = some m.cls := findClass_of_methodNamed Bd.named
  have hnm := (name_of_methodNamed Bd.named Bd.method).1
  have hret := Bd.returns
  have X0 : Stand p l e room_1 s m #[(.int p1)] below meth c s₁ [] 0 0 := Stand.of_body Bd
  have e0 : s₁.heap = h0 := by rw [← hh, Bd.state]; rfl
  have N0 := Fr.nil n0
  have pre0 : ∀ t, Sp p e below s₁ (mkF m 0 #[.val (.int p1), .unset, .unset, .unset] []) t → Sp p e below s₁ (entryFrame m #[(.int p1)] maxLocals) t := fun t k => castTop (ef_0_I m p1) k
  have r1 : ∀ t, Sp p e below s₁ (mkF m 9 #[.val (.int p1), .val (.int ((p1 &&& (2147483647 : Int32)) % (7 : Int32))), .unset, .unset] [(.int ((p1 &&& (2147483647 : Int32)) % (7 : Int32)))]) t → Sp p e below s₁ (entryFrame m #[(.int p1)] maxLocals) t := by
    intro t k
    refine pre0 _ ?_
    refine XS.iloadN X0.here hx rfl (hb hby at_0) rfl ?_
    show Sp p e below s₁ (mkF m 1 #[.val (.int p1), .unset, .unset, .unset] [(.int p1)]) _
    refine Jvm.Stand.ldcI X0 hx hown (mvT hZ (hw _ (List.mem_of_getElem? (i := 0) rfl))) rfl (hb hby at_1) ?_
    show Sp p e below s₁ (mkF m 3 #[.val (.int p1), .unset, .unset, .unset] [(.int (2147483647 : Int32)), (.int p1)]) _
    refine XS.iand X0.here hx rfl (hb hby at_3) rfl ?_
    show Sp p e below s₁ (mkF m 4 #[.val (.int p1), .unset, .unset, .unset] [(.int (p1 &&& (2147483647 : Int32)))]) _
    refine XS.bipush X0.here hx rfl (hb hby at_4) ?_
    show Sp p e below s₁ (mkF m 6 #[.val (.int p1), .unset, .unset, .unset] [(.int (7 : Int32)), (.int (p1 &&& (2147483647 : Int32)))]) _
    refine iremM X0 hx rfl (hb hby at_6) rfl (by decide) ?_
    show Sp p e below s₁ (mkF m 7 #[.val (.int p1), .unset, .unset, .unset] [(.int ((p1 &&& (2147483647 : Int32)) % (7 : Int32)))]) _
    refine XS.istoreN X0.here hx rfl (hb hby at_7) rfl (l' := #[.val (.int p1), .val (.int ((p1 &&& (2147483647 : Int32)) % (7 : Int32))), .unset, .unset]) rfl ?_
    show Sp p e below s₁ (mkF m 8 #[.val (.int p1), .val (.int ((p1 &&& (2147483647 : Int32)) % (7 : Int32))), .unset, .unset] []) _
    refine XS.iloadN X0.here hx rfl (hb hby at_8) rfl ?_
    show Sp p e below s₁ (mkF m 9 #[.val (.int p1), .val (.int ((p1 &&& (2147483647 : Int32)) % (7 : Int32))), .unset, .unset] [(.int ((p1 &&& (2147483647 : Int32)) % (7 : Int32)))]) _
    exact k
  by_cases c2 : ((p1 &&& (2147483647 : Int32)) % (7 : Int32)) = (0 : Int32)
  · obtain ⟨Tg3, Xg3, eg3, stg3⟩ := getS2 X0 hx hZ hown (host := "") (Or.inl (hw _ (List.mem_of_getElem? (i := 1) rfl))) Via.refl e0 S_FILESYSTEM (g := (mkF m 12 #[.val (.int p1), .val (.int ((p1 &&& (2147483647 : Int32)) % (7 : Int32))), .unset, .unset] [])) rfl (hb hby at_12)
    obtain ⟨cqk4, kqk4, qk4a, qk4b, qk4c⟩ := isOf hZ eg3 E_FILESYSTEM
    obtain ⟨_, _, ⟨Tk4, Lk4, kk4, nk4⟩, -, Xk4, ⟨Lck4, hQk4, lk4, yk4, zk4⟩, stk4⟩ := Xg3.virtualBack hx (y := (⟨"com/example/unbraid/unbraid/maven/RunOrder", "isFixed", "()Z"⟩ : MethodName)) (z := (⟨"com/example/unbraid/unbraid/maven/RunOrder", "isFixed", "()Z"⟩ : MethodName)) hown (mvT hZ (hw _ (List.mem_of_getElem? (i := 4) rfl))) (mvT hZ (hw _ (List.mem_of_getElem? (i := 5) rfl))) (notFace_of_selects (args := #[]) (mvT hZ (hw _ (List.mem_of_getElem? (i := 7) rfl)))) (mvT hZ (hw _ (List.mem_of_getElem? (i := 7) rfl))) (mvT hZ (hw _ (List.mem_of_getElem? (i := 6) rfl))) (by decide) (backOf (W := 0) (rm_callee l Z a0 hw [] w_FILESYSTEM w_FILESYSTEM w_ALPHABETICAL w_REVERSE_ALPHABETICAL (1 : Int32) h0 n0 Z0 S_FILESYSTEM S_ALPHABETICAL S_REVERSE_ALPHABETICAL (by simp [n_FILESYSTEM_ALPHABETICAL, n_FILESYSTEM_REVERSE_ALPHABETICAL])) hZ (hw _ (List.mem_of_getElem? (i := 8) rfl)) (hw _ (List.mem_of_getElem? (i := 2) rfl)) (by decide) (by decide)) qk4a qk4c (g := (mkF m 98 #[.val (.int p1), .val (.int ((p1 &&& (2147483647 : Int32)) % (7 : Int32))), .val (.ref w_FILESYSTEM), .val (.int (1 : Int32))] [(.ref w_FILESYSTEM)])) rfl (by rw [hml]; rfl) (Steps.refl _) (argsL := []) (rest := []) (lenOf pd___Z rfl) rfl (by show 2 * 0 + _ ≤ _; exact Nat.le_of_eq rfl) (hb hby at_98) (fun _ _ => ⟨rfl, eg3, (by decide : 0 + 0 ≤ _), (by decide : 0 + 0 ≤ _)⟩)
    dsimp only [Pt.U, Pt.locs, Pt.cells, Pt.slots] at Xk4 lk4 yk4 zk4 stk4 hQk4
    subst lk4 yk4 zk4
    obtain ⟨rfl, Nk4q, ek4⟩ := hQk4
    have Nk4 := Fr.app N0 Nk4q
    obtain ⟨fs, hlv, hrun, hended, hW, hsame⟩ := Xk4.leave (v := some (.int (1 : Int32))) (fun h => by rw [hret] at h; cases h)
    refine ⟨_, _, r1 _ ?_, hrun, hended, _, _, rfl, ?_, ⟨_, rfl⟩, hW, hsame.mono (by decide) (by decide)⟩
    · refine XS.ifNo X0.here hx rfl (hb hby at_9) rfl ((if0 _ _).trans (teq c2).2) ?_
      show Sp p e below s₁ (mkF m 12 #[.val (.int p1), .val (.int ((p1 &&& (2147483647 : Int32)) % (7 : Int32))), .unset, .unset] []) _
      refine stg3 _ ?_
      show Sp p e below Tg3 (mkF m 15 #[.val (.int p1), .val (.int ((p1 &&& (2147483647 : Int32)) % (7 : Int32))), .unset, .unset] [(.ref w_FILESYSTEM)]) _
      refine XS.astoreN Xg3.here hx rfl (hb hby at_15) rfl rfl (l' := #[.val (.int p1), .val (.int ((p1 &&& (2147483647 : Int32)) % (7 : Int32))), .val (.ref w_FILESYSTEM), .unset]) rfl ?_
      show Sp p e below Tg3 (mkF m 16 #[.val (.int p1), .val (.int ((p1 &&& (2147483647 : Int32)) % (7 : Int32))), .val (.ref w_FILESYSTEM), .unset] []) _
      refine XS.iconst Xg3.here hx rfl (hb hby at_16) ?_
      show Sp p e below Tg3 (mkF m 17 #[.val (.int p1), .val (.int ((p1 &&& (2147483647 : Int32)) % (7 : Int32))), .val (.ref w_FILESYSTEM), .unset] [(.int (1 : Int32))]) _
      refine XS.istoreN Xg3.here hx rfl (hb hby at_17) rfl (l' := #[.val (.int p1), .val (.int ((p1 &&& (2147483647 : Int32)) % (7 : Int32))), .val (.ref w_FILESYSTEM), .val (.int (1 : Int32))]) rfl ?_
      show Sp p e below Tg3 (mkF m 18 #[.val (.int p1), .val (.int ((p1 &&& (2147483647 : Int32)) % (7 : Int32))), .val (.ref w_FILESYSTEM), .val (.int (1 : Int32))] []) _
      refine XS.goto Xg3.here hx rfl (pc0 := 18) (pc' := 97) rfl (hb hby at_18) (by decide) (by decide) ?_
      show Sp p e below Tg3 (mkF m 97 #[.val (.int p1), .val (.int ((p1 &&& (2147483647 : Int32)) % (7 : Int32))), .val (.ref w_FILESYSTEM), .val (.int (1 : Int32))] []) _
      refine XS.aloadN Xg3.here hx rfl (hb hby at_97) rfl rfl ?_
      show Sp p e below Tg3 (mkF m 98 #[.val (.int p1), .val (.int ((p1 &&& (2147483647 : Int32)) % (7 : Int32))), .val (.ref w_FILESYSTEM), .val (.int (1 : Int32))] [(.ref w_FILESYSTEM)]) _
      refine stk4.trans ?_
      show Sp p e below Tk4 (mkF m 101 #[.val (.int p1), .val (.int ((p1 &&& (2147483647 : Int32)) % (7 : Int32))), .val (.ref w_FILESYSTEM), .val (.int (1 : Int32))] [(.int (1 : Int32))]) _
      refine XS.iloadN Xk4.here hx rfl (hb hby at_101) rfl ?_
      show Sp p e below Tk4 (mkF m 102 #[.val (.int p1), .val (.int ((p1 &&& (2147483647 : Int32)) % (7 : Int32))), .val (.ref w_FILESYSTEM), .val (.int (1 : Int32))] [(.int (1 : Int32)), (.int (1 : Int32))]) _
      refine XS.icmpNo Xk4.here hx rfl (hb hby at_102) rfl (teq (by decide : (1 : Int32) = (1 : Int32))).2 ?_
      show Sp p e below Tk4 (mkF m 105 #[.val (.int p1), .val (.int ((p1 &&& (2147483647 : Int32)) % (7 : Int32))), .val (.ref w_FILESYSTEM), .val (.int (1 : Int32))] []) _
      refine XS.iconst Xk4.here hx rfl (hb hby at_105) ?_
      show Sp p e below Tk4 (mkF m 106 #[.val (.int p1), .val (.int ((p1 &&& (2147483647 : Int32)) % (7 : Int32))), .val (.ref w_FILESYSTEM), .val (.int (1 : Int32))] [(.int (1 : Int32))]) _
      refine XS.goto Xk4.here hx rfl (pc0 := 106) (pc' := 110) rfl (hb hby at_106) (by decide) (by decide) ?_
      show Sp p e below Tk4 (mkF m 110 #[.val (.int p1), .val (.int ((p1 &&& (2147483647 : Int32)) % (7 : Int32))), .val (.ref w_FILESYSTEM), .val (.int (1 : Int32))] [(.int (1 : Int32))]) _
      exact retN Xk4 hx (t := .boolean) hret (by simp) (hb hby at_110) hlv
    · show Q_law Z p1 w_FILESYSTEM w_ALPHABETICAL w_REVERSE_ALPHABETICAL w_RANDOM w_HOURLY w_FAILED_FIRST w_BALANCED h0 n0 _ Tk4.heap _
      rw [ek4]
      exact ⟨rfl, Nk4⟩
  · have r5 : ∀ t, Sp p e below s₁ (mkF m 23 #[.val (.int p1), .val (.int ((p1 &&& (2147483647 : Int32)) % (7 : Int32))), .unset, .unset] [(.int (1 : Int32)), (.int ((p1 &&& (2147483647 : Int32)) % (7 : Int32)))]) t → Sp p e below s₁ (entryFrame m #[(.int p1)] maxLocals) t := by
      intro t k
      refine r1 _ ?_
      refine XS.ifYes X0.here hx rfl (pc0 := 9) (pc' := 21) rfl (hb hby at_9) rfl ((if0 _ _).trans (feq c2).2) (by decide) (by decide) ?_
      show Sp p e below s₁ (mkF m 21 #[.val (.int p1), .val (.int ((p1 &&& (2147483647 : Int32)) % (7 : Int32))), .unset, .unset] []) _
      refine XS.iloadN X0.here hx rfl (hb hby at_21) rfl ?_
      show Sp p e below s₁ (mkF m 22 #[.val (.int p1), .val (.int ((p1 &&& (2147483647 : Int32)) % (7 : Int32))), .unset, .unset] [(.int ((p1 &&& (2147483647 : Int32)) % (7 : Int32)))]) _
      refine XS.iconst X0.here hx rfl (hb hby at_22) ?_
      show Sp p e below s₁ (mkF m 23 #[.val (.int p1), .val (.int ((p1 &&& (2147483647 : Int32)) % (7 : Int32))), .unset, .unset] [(.int (1 : Int32)), (.int ((p1 &&& (2147483647 : Int32)) % (7 : Int32)))]) _
      exact k
    by_cases c6 : ((p1 &&& (2147483647 : Int32)) % (7 : Int32)) = (1 : Int32)
    · obtain ⟨Tg7, Xg7, eg7, stg7⟩ := getS2 X0 hx hZ hown (host := "") (Or.inl (hw _ (List.mem_of_getElem? (i := 23) rfl))) Via.refl e0 S_ALPHABETICAL (g := (mkF m 26 #[.val (.int p1), .val (.int ((p1 &&& (2147483647 : Int32)) % (7 : Int32))), .unset, .unset] [])) rfl (hb hby at_26)
      obtain ⟨cqk8, kqk8, qk8a, qk8b, qk8c⟩ := isOf hZ eg7 E_ALPHABETICAL
      obtain ⟨_, _, ⟨Tk8, Lk8, kk8, nk8⟩, -, Xk8, ⟨Lck8, hQk8, lk8, yk8, zk8⟩, stk8⟩ := Xg7.virtualBack hx (y := (⟨"com/example/unbraid/unbraid/maven/RunOrder", "isFixed", "()Z"⟩ : MethodName)) (z := (⟨"com/example/unbraid/unbraid/maven/RunOrder", "isFixed", "()Z"⟩ : MethodName)) hown (mvT hZ (hw _ (List.mem_of_getElem? (i := 4) rfl))) (mvT hZ (hw _ (List.mem_of_getElem? (i := 5) rfl))) (notFace_of_selects (args := #[]) (mvT hZ (hw _ (List.mem_of_getElem? (i := 7) rfl)))) (mvT hZ (hw _ (List.mem_of_getElem? (i := 7) rfl))) (mvT hZ (hw _ (List.mem_of_getElem? (i := 6) rfl))) (by decide) (backOf (W := 0) (rm_callee l Z a0 hw [] w_ALPHABETICAL w_FILESYSTEM w_ALPHABETICAL w_REVERSE_ALPHABETICAL (1 : Int32) h0 n0 Z0 S_FILESYSTEM S_ALPHABETICAL S_REVERSE_ALPHABETICAL (by simp [n_ALPHABETICAL_FILESYSTEM, n_ALPHABETICAL_REVERSE_ALPHABETICAL])) hZ (hw _ (List.mem_of_getElem? (i := 8) rfl)) (hw _ (List.mem_of_getElem? (i := 2) rfl)) (by decide) (by decide)) qk8a qk8c (g := (mkF m 98 #[.val (.int p1), .val (.int ((p1 &&& (2147483647 : Int32)) % (7 : Int32))), .val (.ref w_ALPHABETICAL), .val (.int (1 : Int32))] [(.ref w_ALPHABETICAL)])) rfl (by rw [hml]; rfl) (Steps.refl _) (argsL := []) (rest := []) (lenOf pd___Z rfl) rfl (by show 2 * 0 + _ ≤ _; exact Nat.le_of_eq rfl) (hb hby at_98) (fun _ _ => ⟨rfl, eg7, (by decide : 0 + 0 ≤ _), (by decide : 0 + 0 ≤ _)⟩)
      dsimp only [Pt.U, Pt.locs, Pt.cells, Pt.slots] at Xk8 lk8 yk8 zk8 stk8 hQk8
      subst lk8 yk8 zk8
      obtain ⟨rfl, Nk8q, ek8⟩ := hQk8
      have Nk8 := Fr.app N0 Nk8q
      obtain ⟨fs, hlv, hrun, hended, hW, hsame⟩ := Xk8.leave (v := some (.int (1 : Int32))) (fun h => by rw [hret] at h; cases h)
      refine ⟨_, _, r5 _ ?_, hrun, hended, _, _, rfl, ?_, ⟨_, rfl⟩, hW, hsame.mono (by decide) (by decide)⟩
      · refine XS.icmpNo X0.here hx rfl (hb hby at_23) rfl (teq c6).2 ?_
        show Sp p e below s₁ (mkF m 26 #[.val (.int p1), .val (.int ((p1 &&& (2147483647 : Int32)) % (7 : Int32))), .unset, .unset] []) _
        refine stg7 _ ?_
        show Sp p e below Tg7 (mkF m 29 #[.val (.int p1), .val (.int ((p1 &&& (2147483647 : Int32)) % (7 : Int32))), .unset, .unset] [(.ref w_ALPHABETICAL)]) _
        refine XS.astoreN Xg7.here hx rfl (hb hby at_29) rfl rfl (l' := #[.val (.int p1), .val (.int ((p1 &&& (2147483647 : Int32)) % (7 : Int32))), .val (.ref w_ALPHABETICAL), .unset]) rfl ?_
        show Sp p e below Tg7 (mkF m 30 #[.val (.int p1), .val (.int ((p1 &&& (2147483647 : Int32)) % (7 : Int32))), .val (.ref w_ALPHABETICAL), .unset] []) _
        refine XS.iconst Xg7.here hx rfl (hb hby at_30) ?_
        show Sp p e below Tg7 (mkF m 31 #[.val (.int p1), .val (.int ((p1 &&& (2147483647 : Int32)) % (7 : Int32))), .val (.ref w_ALPHABETICAL), .unset] [(.int (1 : Int32))]) _
        refine XS.istoreN Xg7.here hx rfl (hb hby at_31) rfl (l' := #[.val (.int p1), .val (.int ((p1 &&& (2147483647 : Int32)) % (7 : Int32))), .val (.ref w_ALPHABETICAL), .val (.int (1 : Int32))]) rfl ?_
        show Sp p e below Tg7 (mkF m 32 #[.val (.int p1), .val (.int ((p1 &&& (2147483647 : Int32)) % (7 : Int32))), .val (.ref w_ALPHABETICAL), .val (.int (1 : Int32))] []) _
        refine XS.goto Xg7.here hx rfl (pc0 := 32) (pc' := 97) rfl (hb hby at_32) (by decide) (by decide) ?_
        show Sp p e below Tg7 (mkF m 97 #[.val (.int p1), .val (.int ((p1 &&& (2147483647 : Int32)) % (7 : Int32))), .val (.ref w_ALPHABETICAL), .val (.int (1 : Int32))] []) _
        refine XS.aloadN Xg7.here hx rfl (hb hby at_97) rfl rfl ?_
        show Sp p e below Tg7 (mkF m 98 #[.val (.int p1), .val (.int ((p1 &&& (2147483647 : Int32)) % (7 : Int32))), .val (.ref w_ALPHABETICAL), .val (.int (1 : Int32))] [(.ref w_ALPHABETICAL)]) _
        refine stk8.trans ?_
        show Sp p e below Tk8 (mkF m 101 #[.val (.int p1), .val (.int ((p1 &&& (2147483647 : Int32)) % (7 : Int32))), .val (.ref w_ALPHABETICAL), .val (.int (1 : Int32))] [(.int (1 : Int32))]) _
        refine XS.iloadN Xk8.here hx rfl (hb hby at_101) rfl ?_
        show Sp p e below Tk8 (mkF m 102 #[.val (.int p1), .val (.int ((p1 &&& (2147483647 : Int32)) % (7 : Int32))), .val (.ref w_ALPHABETICAL), .val (.int (1 : Int32))] [(.int (1 : Int32)), (.int (1 : Int32))]) _
        refine XS.icmpNo Xk8.here hx rfl (hb hby at_102) rfl (teq (by decide : (1 : Int32) = (1 : Int32))).2 ?_
        show Sp p e below Tk8 (mkF m 105 #[.val (.int p1), .val (.int ((p1 &&& (2147483647 : Int32)) % (7 : Int32))), .val (.ref w_ALPHABETICAL), .val (.int (1 : Int32))] []) _
        refine XS.iconst Xk8.here hx rfl (hb hby at_105) ?_
        show Sp p e below Tk8 (mkF m 106 #[.val (.int p1), .val (.int ((p1 &&& (2147483647 : Int32)) % (7 : Int32))), .val (.ref w_ALPHABETICAL), .val (.int (1 : Int32))] [(.int (1 : Int32))]) _
        refine XS.goto Xk8.here hx rfl (pc0 := 106) (pc' := 110) rfl (hb hby at_106) (by decide) (by decide) ?_
        show Sp p e below Tk8 (mkF m 110 #[.val (.int p1), .val (.int ((p1 &&& (2147483647 : Int32)) % (7 : Int32))), .val (.ref w_ALPHABETICAL), .val (.int (1 : Int32))] [(.int (1 : Int32))]) _
        exact retN Xk8 hx (t := .boolean) hret (by simp) (hb hby at_110) hlv
      · show Q_law Z p1 w_FILESYSTEM w_ALPHABETICAL w_REVERSE_ALPHABETICAL w_RANDOM w_HOURLY w_FAILED_FIRST w_BALANCED h0 n0 _ Tk8.heap _
        rw [ek8]
        exact ⟨rfl, Nk8⟩
    · have r9 : ∀ t, Sp p e below s₁ (mkF m 37 #[.val (.int p1), .val (.int ((p1 &&& (2147483647 : Int32)) % (7 : Int32))), .unset, .unset] [(.int (2 : Int32)), (.int ((p1 &&& (2147483647 : Int32)) % (7 : Int32)))]) t → Sp p e below s₁ (entryFrame m #[(.int p1)] maxLocals) t := by
        intro t k
        refine r5 _ ?_
        refine XS.icmpYes X0.here hx rfl (pc0 := 23) (pc' := 35) rfl (hb hby at_23) rfl (feq c6).2 (by decide) (by decide) ?_
        show Sp p e below s₁ (mkF m 35 #[.val (.int p1), .val (.int ((p1 &&& (2147483647 : Int32)) % (7 : Int32))), .unset, .unset] []) _
        refine XS.iloadN X0.here hx rfl (hb hby at_35) rfl ?_
        show Sp p e below s₁ (mkF m 36 #[.val (.int p1), .val (.int ((p1 &&& (2147483647 : Int32)) % (7 : Int32))), .unset, .unset] [(.int ((p1 &&& (2147483647 : Int32)) % (7 : Int32)))]) _
        refine XS.iconst X0.here hx rfl (hb hby at_36) ?_
        show Sp p e below s₁ (mkF m 37 #[.val (.int p1), .val (.int ((p1 &&& (2147483647 : Int32)) % (7 : Int32))), .unset, .unset] [(.int (2 : Int32)), (.int ((p1 &&& (2147483647 : Int32)) % (7 : Int32)))]) _
        exact k
      by_cases c10 : ((p1 &&& (2147483647 : Int32)) % (7 : Int32)) = (2 : Int32)
      · obtain ⟨Tg11, Xg11, eg11, stg11⟩ := getS2 X0 hx hZ hown (host := "") (Or.inl (hw _ (List.mem_of_getElem? (i := 22) rfl))) Via.refl e0 S_REVERSE_ALPHABETICAL (g := (mkF m 40 #[.val (.int p1), .val (.int ((p1 &&& (2147483647 : Int32)) % (7 : Int32))), .unset, .unset] [])) rfl (hb hby at_40)
        obtain ⟨cqk12, kqk12, qk12a, qk12b, qk12c⟩ := isOf hZ eg11 E_REVERSE_ALPHABETICAL
        obtain ⟨_, _, ⟨Tk12, Lk12, kk12, nk12⟩, -, Xk12, ⟨Lck12, hQk12, lk12, yk12, zk12⟩, stk12⟩ := Xg11.virtualBack hx (y := (⟨"com/example/unbraid/unbraid/maven/RunOrder", "isFixed", "()Z"⟩ : MethodName)) (z := (⟨"com/example/unbraid/unbraid/maven/RunOrder", "isFixed", "()Z"⟩ : MethodName)) hown (mvT hZ (hw _ (List.mem_of_getElem? (i := 4) rfl))) (mvT hZ (hw _ (List.mem_of_getElem? (i := 5) rfl))) (notFace_of_selects (args := #[]) (mvT hZ (hw _ (List.mem_of_getElem? (i := 7) rfl)))) (mvT hZ (hw _ (List.mem_of_getElem? (i := 7) rfl))) (mvT hZ (hw _ (List.mem_of_getElem? (i := 6) rfl))) (by decide) (backOf (W := 0) (rm_callee l Z a0 hw [] w_REVERSE_ALPHABETICAL w_FILESYSTEM w_ALPHABETICAL w_REVERSE_ALPHABETICAL (1 : Int32) h0 n0 Z0 S_FILESYSTEM S_ALPHABETICAL S_REVERSE_ALPHABETICAL (by simp [n_REVERSE_ALPHABETICAL_FILESYSTEM, n_REVERSE_ALPHABETICAL_ALPHABETICAL])) hZ (hw _ (List.mem_of_getElem? (i := 8) rfl)) (hw _ (List.mem_of_getElem? (i := 2) rfl)) (by decide) (by decide)) qk12a qk12c (g := (mkF m 98 #[.val (.int p1), .val (.int ((p1 &&& (2147483647 : Int32)) % (7 : Int32))), .val (.ref w_REVERSE_ALPHABETICAL), .val (.int (1 : Int32))] [(.ref w_REVERSE_ALPHABETICAL)])) rfl (by rw [hml]; rfl) (Steps.refl _) (argsL := []) (rest := []) (lenOf pd___Z rfl) rfl (by show 2 * 0 + _ ≤ _; exact Nat.le_of_eq rfl) (hb hby at_98) (fun _ _ => ⟨rfl, eg11, (by decide : 0 + 0 ≤ _), (by decide : 0 + 0 ≤ _)⟩)
        dsimp only [Pt.U, Pt.locs, Pt.cells, Pt.slots] at Xk12 lk12 yk12 zk12 stk12 hQk12
        subst lk12 yk12 zk12
        obtain ⟨rfl, Nk12q, ek12⟩ := hQk12
        have Nk12 := Fr.app N0 Nk12q
        obtain ⟨fs, hlv, hrun, hended, hW, hsame⟩ := Xk12.leave (v := some (.int (1 : Int32))) (fun h => by rw [hret] at h; cases h)
        refine ⟨_, _, r9 _ ?_, hrun, hended, _, _, rfl, ?_, ⟨_, rfl⟩, hW, hsame.mono (by decide) (by decide)⟩
        · refine XS.icmpNo X0.here hx rfl (hb hby at_37) rfl (teq c10).2 ?_
          show Sp p e below s₁ (mkF m 40 #[.val (.int p1), .val (.int ((p1 &&& (2147483647 : Int32)) % (7 : Int32))), .unset, .unset] []) _
          refine stg11 _ ?_
          show Sp p e below Tg11 (mkF m 43 #[.val (.int p1), .val (.int ((p1 &&& (2147483647 : Int32)) % (7 : Int32))), .unset, .unset] [(.ref w_REVERSE_ALPHABETICAL)]) _
          refine XS.astoreN Xg11.here hx rfl (hb hby at_43) rfl rfl (l' := #[.val (.int p1), .val (.int ((p1 &&& (2147483647 : Int32)) % (7 : Int32))), .val (.ref w_REVERSE_ALPHABETICAL), .unset]) rfl ?_
          show Sp p e below Tg11 (mkF m 44 #[.val (.int p1), .val (.int ((p1 &&& (2147483647 : Int32)) % (7 : Int32))), .val (.ref w_REVERSE_ALPHABETICAL), .unset] []) _
          refine XS.iconst Xg11.here hx rfl (hb hby at_44) ?_
          show Sp p e below Tg11 (mkF m 45 #[.val (.int p1), .val (.int ((p1 &&& (2147483647 : Int32)) % (7 : Int32))), .val (.ref w_REVERSE_ALPHABETICAL), .unset] [(.int (1 : Int32))]) _
          refine XS.istoreN Xg11.here hx rfl (hb hby at_45) rfl (l' := #[.val (.int p1), .val (.int ((p1 &&& (2147483647 : Int32)) % (7 : Int32))), .val (.ref w_REVERSE_ALPHABETICAL), .val (.int (1 : Int32))]) rfl ?_
          show Sp p e below Tg11 (mkF m 46 #[.val (.int p1), .val (.int ((p1 &&& (2147483647 : Int32)) % (7 : Int32))), .val (.ref w_REVERSE_ALPHABETICAL), .val (.int (1 : Int32))] []) _
          refine XS.goto Xg11.here hx rfl (pc0 := 46) (pc' := 97) rfl (hb hby at_46) (by decide) (by decide) ?_
          show Sp p e below Tg11 (mkF m 97 #[.val (.int p1), .val (.int ((p1 &&& (2147483647 : Int32)) % (7 : Int32))), .val (.ref w_REVERSE_ALPHABETICAL), .val (.int (1 : Int32))] []) _
          refine XS.aloadN Xg11.here hx rfl (hb hby at_97) rfl rfl ?_
          show Sp p e below Tg11 (mkF m 98 #[.val (.int p1), .val (.int ((p1 &&& (2147483647 : Int32)) % (7 : Int32))), .val (.ref w_REVERSE_ALPHABETICAL), .val (.int (1 : Int32))] [(.ref w_REVERSE_ALPHABETICAL)]) _
          refine stk12.trans ?_
          show Sp p e below Tk12 (mkF m 101 #[.val (.int p1), .val (.int ((p1 &&& (2147483647 : Int32)) % (7 : Int32))), .val (.ref w_REVERSE_ALPHABETICAL), .val (.int (1 : Int32))] [(.int (1 : Int32))]) _
          refine XS.iloadN Xk12.here hx rfl (hb hby at_101) rfl ?_
          show Sp p e below Tk12 (mkF m 102 #[.val (.int p1), .val (.int ((p1 &&& (2147483647 : Int32)) % (7 : Int32))), .val (.ref w_REVERSE_ALPHABETICAL), .val (.int (1 : Int32))] [(.int (1 : Int32)), (.int (1 : Int32))]) _
          refine XS.icmpNo Xk12.here hx rfl (hb hby at_102) rfl (teq (by decide : (1 : Int32) = (1 : Int32))).2 ?_
          show Sp p e below Tk12 (mkF m 105 #[.val (.int p1), .val (.int ((p1 &&& (2147483647 : Int32)) % (7 : Int32))), .val (.ref w_REVERSE_ALPHABETICAL), .val (.int (1 : Int32))] []) _
          refine XS.iconst Xk12.here hx rfl (hb hby at_105) ?_
          show Sp p e below Tk12 (mkF m 106 #[.val (.int p1), .val (.int ((p1 &&& (2147483647 : Int32)) % (7 : Int32))), .val (.ref w_REVERSE_ALPHABETICAL), .val (.int (1 : Int32))] [(.int (1 : Int32))]) _
          refine XS.goto Xk12.here hx rfl (pc0 := 106) (pc' := 110) rfl (hb hby at_106) (by decide) (by decide) ?_
          show Sp p e below Tk12 (mkF m 110 #[.val (.int p1), .val (.int ((p1 &&& (2147483647 : Int32)) % (7 : Int32))), .val (.ref w_REVERSE_ALPHABETICAL), .val (.int (1 : Int32))] [(.int (1 : Int32))]) _
          exact retN Xk12 hx (t := .boolean) hret (by simp) (hb hby at_110) hlv
        · show Q_law Z p1 w_FILESYSTEM w_ALPHABETICAL w_REVERSE_ALPHABETICAL w_RANDOM w_HOURLY w_FAILED_FIRST w_BALANCED h0 n0 _ Tk12.heap _
          rw [ek12]
          exact ⟨rfl, Nk12⟩
      · have r13 : ∀ t, Sp p e below s₁ (mkF m 51 #[.val (.int p1), .val (.int ((p1 &&& (2147483647 : Int32)) % (7 : Int32))), .unset, .unset] [(.int (3 : Int32)), (.int ((p1 &&& (2147483647 : Int32)) % (7 : Int32)))]) t → Sp p e below s₁ (entryFrame m #[(.int p1)] maxLocals) t := by
          intro t k
          refine r9 _ ?_
          refine XS.icmpYes X0.here hx rfl (pc0 := 37) (pc' := 49) rfl (hb hby at_37) rfl (feq c10).2 (by decide) (by decide) ?_
          show Sp p e below s₁ (mkF m 49 #[.val (.int p1), .val (.int ((p1 &&& (2147483647 : Int32)) % (7 : Int32))), .unset, .unset] []) _
          refine XS.iloadN X0.here hx rfl (hb hby at_49) rfl ?_
          show Sp p e below s₁ (mkF m 50 #[.val (.int p1), .val (.int ((p1 &&& (2147483647 : Int32)) % (7 : Int32))), .unset, .unset] [(.int ((p1 &&& (2147483647 : Int32)) % (7 : Int32)))]) _
          refine XS.iconst X0.here hx rfl (hb hby at_50) ?_
          show Sp p e below s₁ (mkF m 51 #[.val (.int p1), .val (.int ((p1 &&& (2147483647 : Int32)) % (7 : Int32))), .unset, .unset] [(.int (3 : Int32)), (.int ((p1 &&& (2147483647 : Int32)) % (7 : Int32)))]) _
          exact k
        by_cases c14 : ((p1 &&& (2147483647 : Int32)) % (7 : Int32)) = (3 : Int32)
        · obtain ⟨Tg15, Xg15, eg15, stg15⟩ := getS2 X0 hx hZ hown (host := "") (Or.inl (hw _ (List.mem_of_getElem? (i := 10) rfl))) Via.refl e0 S_RANDOM (g := (mkF m 54 #[.val (.int p1), .val (.int ((p1 &&& (2147483647 : Int32)) % (7 : Int32))), .unset, .unset] [])) rfl (hb hby at_54)
          obtain ⟨cqk16, kqk16, qk16a, qk16b, qk16c⟩ := isOf hZ eg15 E_RANDOM
          obtain ⟨_, _, ⟨Tk16, Lk16, kk16, nk16⟩, -, Xk16, ⟨Lck16, hQk16, lk16, yk16, zk16⟩, stk16⟩ := Xg15.virtualBack hx (y := (⟨"com/example/unbraid/unbraid/maven/RunOrder", "isFixed", "()Z"⟩ : MethodName)) (z := (⟨"com/example/unbraid/unbraid/maven/RunOrder", "isFixed", "()Z"⟩ : MethodName)) hown (mvT hZ (hw _ (List.mem_of_getElem? (i := 4) rfl))) (mvT hZ (hw _ (List.mem_of_getElem? (i := 5) rfl))) (notFace_of_selects (args := #[]) (mvT hZ (hw _ (List.mem_of_getElem? (i := 7) rfl)))) (mvT hZ (hw _ (List.mem_of_getElem? (i := 7) rfl))) (mvT hZ (hw _ (List.mem_of_getElem? (i := 6) rfl))) (by decide) (backOf (W := 0) (rm_callee l Z a0 hw [] w_RANDOM w_FILESYSTEM w_ALPHABETICAL w_REVERSE_ALPHABETICAL (0 : Int32) h0 n0 Z0 S_FILESYSTEM S_ALPHABETICAL S_REVERSE_ALPHABETICAL (by simp [n_RANDOM_FILESYSTEM, n_RANDOM_ALPHABETICAL, n_RANDOM_REVERSE_ALPHABETICAL])) hZ (hw _ (List.mem_of_getElem? (i := 8) rfl)) (hw _ (List.mem_of_getElem? (i := 2) rfl)) (by decide) (by decide)) qk16a qk16c (g := (mkF m 98 #[.val (.int p1), .val (.int ((p1 &&& (2147483647 : Int32)) % (7 : Int32))), .val (.ref w_RANDOM), .val (.int (0 : Int32))] [(.ref w_RANDOM)])) rfl (by rw [hml]; rfl) (Steps.refl _) (argsL := []) (rest := []) (lenOf pd___Z rfl) rfl (by show 2 * 0 + _ ≤ _; exact Nat.le_of_eq rfl) (hb hby at_98) (fun _ _ => ⟨rfl, eg15, (by decide : 0 + 0 ≤ _), (by decide : 0 + 0 ≤ _)⟩)
          dsimp only [Pt.U, Pt.locs, Pt.cells, Pt.slots] at Xk16 lk16 yk16 zk16 stk16 hQk16
          subst lk16 yk16 zk16
          obtain ⟨rfl, Nk16q, ek16⟩ := hQk16
          have Nk16 := Fr.app N0 Nk16q
          obtain ⟨fs, hlv, hrun, hended, hW, hsame⟩ := Xk16.leave (v := some (.int (1 : Int32))) (fun h => by rw [hret] at h; cases h)
          refine ⟨_, _, r13 _ ?_, hrun, hended, _, _, rfl, ?_, ⟨_, rfl⟩, hW, hsame.mono (by decide) (by decide)⟩
          · refine XS.icmpNo X0.here hx rfl (hb hby at_51) rfl (teq c14).2 ?_
            show Sp p e below s₁ (mkF m 54 #[.val (.int p1), .val (.int ((p1 &&& (2147483647 : Int32)) % (7 : Int32))), .unset, .unset] []) _
            refine stg15 _ ?_
            show Sp p e below Tg15 (mkF m 57 #[.val (.int p1), .val (.int ((p1 &&& (2147483647 : Int32)) % (7 : Int32))), .unset, .unset] [(.ref w_RANDOM)]) _
            refine XS.astoreN Xg15.here hx rfl (hb hby at_57) rfl rfl (l' := #[.val (.int p1), .val (.int ((p1 &&& (2147483647 : Int32)) % (7 : Int32))), .val (.ref w_RANDOM), .unset]) rfl ?_
            show Sp p e below Tg15 (mkF m 58 #[.val (.int p1), .val (.int ((p1 &&& (2147483647 : Int32)) % (7 : Int32))), .val (.ref w_RANDOM), .unset] []) _
            refine XS.iconst Xg15.here hx rfl (hb hby at_58) ?_
            show Sp p e below Tg15 (mkF m 59 #[.val (.int p1), .val (.int ((p1 &&& (2147483647 : Int32)) % (7 : Int32))), .val (.ref w_RANDOM), .unset] [(.int (0 : Int32))]) _
            refine XS.istoreN Xg15.here hx rfl (hb hby at_59) rfl (l' := #[.val (.int p1), .val (.int ((p1 &&& (2147483647 : Int32)) % (7 : Int32))), .val (.ref w_RANDOM), .val (.int (0 : Int32))]) rfl ?_
            show Sp p e below Tg15 (mkF m 60 #[.val (.int p1), .val (.int ((p1 &&& (2147483647 : Int32)) % (7 : Int32))), .val (.ref w_RANDOM), .val (.int (0 : Int32))] []) _
            refine XS.goto Xg15.here hx rfl (pc0 := 60) (pc' := 97) rfl (hb hby at_60) (by decide) (by decide) ?_
            show Sp p e below Tg15 (mkF m 97 #[.val (.int p1), .val (.int ((p1 &&& (2147483647 : Int32)) % (7 : Int32))), .val (.ref w_RANDOM), .val (.int (0 : Int32))] []) _
            refine XS.aloadN Xg15.here hx rfl (hb hby at_97) rfl rfl ?_
            show Sp p e below Tg15 (mkF m 98 #[.val (.int p1), .val (.int ((p1 &&& (2147483647 : Int32)) % (7 : Int32))), .val (.ref w_RANDOM), .val (.int (0 : Int32))] [(.ref w_RANDOM)]) _
            refine stk16.trans ?_
            show Sp p e below Tk16 (mkF m 101 #[.val (.int p1), .val (.int ((p1 &&& (2147483647 : Int32)) % (7 : Int32))), .val (.ref w_RANDOM), .val (.int (0 : Int32))] [(.int (0 : Int32))]) _
            refine XS.iloadN Xk16.here hx rfl (hb hby at_101) rfl ?_
            show Sp p e below Tk16 (mkF m 102 #[.val (.int p1), .val (.int ((p1 &&& (2147483647 : Int32)) % (7 : Int32))), .val (.ref w_RANDOM), .val (.int (0 : Int32))] [(.int (0 : Int32)), (.int (0 : Int32))]) _
            refine XS.icmpNo Xk16.here hx rfl (hb hby at_102) rfl (teq (by decide : (0 : Int32) = (0 : Int32))).2 ?_
            show Sp p e below Tk16 (mkF m 105 #[.val (.int p1), .val (.int ((p1 &&& (2147483647 : Int32)) % (7 : Int32))), .val (.ref w_RANDOM), .val (.int (0 : Int32))] []) _
            refine XS.iconst Xk16.here hx rfl (hb hby at_105) ?_
            show Sp p e below Tk16 (mkF m 106 #[.val (.int p1), .val (.int ((p1 &&& (2147483647 : Int32)) % (7 : Int32))), .val (.ref w_RANDOM), .val (.int (0 : Int32))] [(.int (1 : Int32))]) _
            refine XS.goto Xk16.here hx rfl (pc0 := 106) (pc' := 110) rfl (hb hby at_106) (by decide) (by decide) ?_
            show Sp p e below Tk16 (mkF m 110 #[.val (.int p1), .val (.int ((p1 &&& (2147483647 : Int32)) % (7 : Int32))), .val (.ref w_RANDOM), .val (.int (0 : Int32))] [(.int (1 : Int32))]) _
            exact retN Xk16 hx (t := .boolean) hret (by simp) (hb hby at_110) hlv
          · show Q_law Z p1 w_FILESYSTEM w_ALPHABETICAL w_REVERSE_ALPHABETICAL w_RANDOM w_HOURLY w_FAILED_FIRST w_BALANCED h0 n0 _ Tk16.heap _
            rw [ek16]
            exact ⟨rfl, Nk16⟩
        · have r17 : ∀ t, Sp p e below s₁ (mkF m 65 #[.val (.int p1), .val (.int ((p1 &&& (2147483647 : Int32)) % (7 : Int32))), .unset, .unset] [(.int (4 : Int32)), (.int ((p1 &&& (2147483647 : Int32)) % (7 : Int32)))]) t → Sp p e below s₁ (entryFrame m #[(.int p1)] maxLocals) t := by
            intro t k
            refine r13 _ ?_
            refine XS.icmpYes X0.here hx rfl (pc0 := 51) (pc' := 63) rfl (hb hby at_51) rfl (feq c14).2 (by decide) (by decide) ?_
            show Sp p e below s₁ (mkF m 63 #[.val (.int p1), .val (.int ((p1 &&& (2147483647 : Int32)) % (7 : Int32))), .unset, .unset] []) _
            refine XS.iloadN X0.here hx rfl (hb hby at_63) rfl ?_
            show Sp p e below s₁ (mkF m 64 #[.val (.int p1), .val (.int ((p1 &&& (2147483647 : Int32)) % (7 : Int32))), .unset, .unset] [(.int ((p1 &&& (2147483647 : Int32)) % (7 : Int32)))]) _
            refine XS.iconst X0.here hx rfl (hb hby at_64) ?_
            show Sp p e below s₁ (mkF m 65 #[.val (.int p1), .val (.int ((p1 &&& (2147483647 : Int32)) % (7 : Int32))), .unset, .unset] [(.int (4 : Int32)), (.int ((p1 &&& (2147483647 : Int32)) % (7 : Int32)))]) _
            exact k
          by_cases c18 : ((p1 &&& (2147483647 : Int32)) % (7 : Int32)) = (4 : Int32)
          · obtain ⟨Tg19, Xg19, eg19, stg19⟩ := getS2 X0 hx hZ hown (host := "") (Or.inl (hw _ (List.mem_of_getElem? (i := 20) rfl))) Via.refl e0 S_HOURLY (g := (mkF m 68 #[.val (.int p1), .val (.int ((p1 &&& (2147483647 : Int32)) % (7 : Int32))), .unset, .unset] [])) rfl (hb hby at_68)
            obtain ⟨cqk20, kqk20, qk20a, qk20b, qk20c⟩ := isOf hZ eg19 E_HOURLY
            obtain ⟨_, _, ⟨Tk20, Lk20, kk20, nk20⟩, -, Xk20, ⟨Lck20, hQk20, lk20, yk20, zk20⟩, stk20⟩ := Xg19.virtualBack hx (y := (⟨"com/example/unbraid/unbraid/maven/RunOrder", "isFixed", "()Z"⟩ : MethodName)) (z := (⟨"com/example/unbraid/unbraid/maven/RunOrder", "isFixed", "()Z"⟩ : MethodName)) hown (mvT hZ (hw _ (List.mem_of_getElem? (i := 4) rfl))) (mvT hZ (hw _ (List.mem_of_getElem? (i := 5) rfl))) (notFace_of_selects (args := #[]) (mvT hZ (hw _ (List.mem_of_getElem? (i := 7) rfl)))) (mvT hZ (hw _ (List.mem_of_getElem? (i := 7) rfl))) (mvT hZ (hw _ (List.mem_of_getElem? (i := 6) rfl))) (by decide) (backOf (W := 0) (rm_callee l Z a0 hw [] w_HOURLY w_FILESYSTEM w_ALPHABETICAL w_REVERSE_ALPHABETICAL (0 : Int32) h0 n0 Z0 S_FILESYSTEM S_ALPHABETICAL S_REVERSE_ALPHABETICAL (by simp [n_HOURLY_FILESYSTEM, n_HOURLY_ALPHABETICAL, n_HOURLY_REVERSE_ALPHABETICAL])) hZ (hw _ (List.mem_of_getElem? (i := 8) rfl)) (hw _ (List.mem_of_getElem? (i := 2) rfl)) (by decide) (by decide)) qk20a qk20c (g := (mkF m 98 #[.val (.int p1), .val (.int ((p1 &&& (2147483647 : Int32)) % (7 : Int32))), .val (.ref w_HOURLY), .val (.int (0 : Int32))] [(.ref w_HOURLY)])) rfl (by rw [hml]; rfl) (Steps.refl _) (argsL := []) (rest := []) (lenOf pd___Z rfl) rfl (by show 2 * 0 + _ ≤ _; exact Nat.le_of_eq rfl) (hb hby at_98) (fun _ _ => ⟨rfl, eg19, (by decide : 0 + 0 ≤ _), (by decide : 0 + 0 ≤ _)⟩)
            dsimp only [Pt.U, Pt.locs, Pt.cells, Pt.slots] at Xk20 lk20 yk20 zk20 stk20 hQk20
            subst lk20 yk20 zk20
            obtain ⟨rfl, Nk20q, ek20⟩ := hQk20
            have Nk20 := Fr.app N0 Nk20q
            obtain ⟨fs, hlv, hrun, hended, hW, hsame⟩ := Xk20.leave (v := some (.int (1 : Int32))) (fun h => by rw [hret] at h; cases h)
            refine ⟨_, _, r17 _ ?_, hrun, hended, _, _, rfl, ?_, ⟨_, rfl⟩, hW, hsame.mono (by decide) (by decide)⟩
            · refine XS.icmpNo X0.here hx rfl (hb hby at_65) rfl (teq c18).2 ?_
              show Sp p e below s₁ (mkF m 68 #[.val (.int p1), .val (.int ((p1 &&& (2147483647 : Int32)) % (7 : Int32))), .unset, .unset] []) _
              refine stg19 _ ?_
              show Sp p e below Tg19 (mkF m 71 #[.val (.int p1), .val (.int ((p1 &&& (2147483647 : Int32)) % (7 : Int32))), .unset, .unset] [(.ref w_HOURLY)]) _
              refine XS.astoreN Xg19.here hx rfl (hb hby at_71) rfl rfl (l' := #[.val (.int p1), .val (.int ((p1 &&& (2147483647 : Int32)) % (7 : Int32))), .val (.ref w_HOURLY), .unset]) rfl ?_
              show Sp p e below Tg19 (mkF m 72 #[.val (.int p1), .val (.int ((p1 &&& (2147483647 : Int32)) % (7 : Int32))), .val (.ref w_HOURLY), .unset] []) _
              refine XS.iconst Xg19.here hx rfl (hb hby at_72) ?_
              show Sp p e below Tg19 (mkF m 73 #[.val (.int p1), .val (.int ((p1 &&& (2147483647 : Int32)) % (7 : Int32))), .val (.ref w_HOURLY), .unset] [(.int (0 : Int32))]) _
              refine XS.istoreN Xg19.here hx rfl (hb hby at_73) rfl (l' := #[.val (.int p1), .val (.int ((p1 &&& (2147483647 : Int32)) % (7 : Int32))), .val (.ref w_HOURLY), .val (.int (0 : Int32))]) rfl ?_
              show Sp p e below Tg19 (mkF m 74 #[.val (.int p1), .val (.int ((p1 &&& (2147483647 : Int32)) % (7 : Int32))), .val (.ref w_HOURLY), .val (.int (0 : Int32))] []) _
              refine XS.goto Xg19.here hx rfl (pc0 := 74) (pc' := 97) rfl (hb hby at_74) (by decide) (by decide) ?_
              show Sp p e below Tg19 (mkF m 97 #[.val (.int p1), .val (.int ((p1 &&& (2147483647 : Int32)) % (7 : Int32))), .val (.ref w_HOURLY), .val (.int (0 : Int32))] []) _
              refine XS.aloadN Xg19.here hx rfl (hb hby at_97) rfl rfl ?_
              show Sp p e below Tg19 (mkF m 98 #[.val (.int p1), .val (.int ((p1 &&& (2147483647 : Int32)) % (7 : Int32))), .val (.ref w_HOURLY), .val (.int (0 : Int32))] [(.ref w_HOURLY)]) _
              refine stk20.trans ?_
              show Sp p e below Tk20 (mkF m 101 #[.val (.int p1), .val (.int ((p1 &&& (2147483647 : Int32)) % (7 : Int32))), .val (.ref w_HOURLY), .val (.int (0 : Int32))] [(.int (0 : Int32))]) _
              refine XS.iloadN Xk20.here hx rfl (hb hby at_101) rfl ?_
              show Sp p e below Tk20 (mkF m 102 #[.val (.int p1), .val (.int ((p1 &&& (2147483647 : Int32)) % (7 : Int32))), .val (.ref w_HOURLY), .val (.int (0 : Int32))] [(.int (0 : Int32)), (.int (0 : Int32))]) _
              refine XS.icmpNo Xk20.here hx rfl (hb hby at_102) rfl (teq (by decide : (0 : Int32) = (0 : Int32))).2 ?_
              show Sp p e below Tk20 (mkF m 105 #[.val (.int p1), .val (.int ((p1 &&& (2147483647 : Int32)) % (7 : Int32))), .val (.ref w_HOURLY), .val (.int (0 : Int32))] []) _
              refine XS.iconst Xk20.here hx rfl (hb hby at_105) ?_
              show Sp p e below Tk20 (mkF m 106 #[.val (.int p1), .val (.int ((p1 &&& (2147483647 : Int32)) % (7 : Int32))), .val (.ref w_HOURLY), .val (.int (0 : Int32))] [(.int (1 : Int32))]) _
              refine XS.goto Xk20.here hx rfl (pc0 := 106) (pc' := 110) rfl (hb hby at_106) (by decide) (by decide) ?_
              show Sp p e below Tk20 (mkF m 110 #[.val (.int p1), .val (.int ((p1 &&& (2147483647 : Int32)) % (7 : Int32))), .val (.ref w_HOURLY), .val (.int (0 : Int32))] [(.int (1 : Int32))]) _
              exact retN Xk20 hx (t := .boolean) hret (by simp) (hb hby at_110) hlv
            · show Q_law Z p1 w_FILESYSTEM w_ALPHABETICAL w_REVERSE_ALPHABETICAL w_RANDOM w_HOURLY w_FAILED_FIRST w_BALANCED h0 n0 _ Tk20.heap _
              rw [ek20]
              exact ⟨rfl, Nk20⟩
          · have r21 : ∀ t, Sp p e below s₁ (mkF m 79 #[.val (.int p1), .val (.int ((p1 &&& (2147483647 : Int32)) % (7 : Int32))), .unset, .unset] [(.int (5 : Int32)), (.int ((p1 &&& (2147483647 : Int32)) % (7 : Int32)))]) t → Sp p e below s₁ (entryFrame m #[(.int p1)] maxLocals) t := by
              intro t k
              refine r17 _ ?_
              refine XS.icmpYes X0.here hx rfl (pc0 := 65) (pc' := 77) rfl (hb hby at_65) rfl (feq c18).2 (by decide) (by decide) ?_
              show Sp p e below s₁ (mkF m 77 #[.val (.int p1), .val (.int ((p1 &&& (2147483647 : Int32)) % (7 : Int32))), .unset, .unset] []) _
              refine XS.iloadN X0.here hx rfl (hb hby at_77) rfl ?_
              show Sp p e below s₁ (mkF m 78 #[.val (.int p1), .val (.int ((p1 &&& (2147483647 : Int32)) % (7 : Int32))), .unset, .unset] [(.int ((p1 &&& (2147483647 : Int32)) % (7 : Int32)))]) _
              refine XS.iconst X0.here hx rfl (hb hby at_78) ?_
              show Sp p e below s₁ (mkF m 79 #[.val (.int p1), .val (.int ((p1 &&& (2147483647 : Int32)) % (7 : Int32))), .unset, .unset] [(.int (5 : Int32)), (.int ((p1 &&& (2147483647 : Int32)) % (7 : Int32)))]) _
              exact k
            by_cases c22 : ((p1 &&& (2147483647 : Int32)) % (7 : Int32)) = (5 : Int32)
            · obtain ⟨Tg23, Xg23, eg23, stg23⟩ := getS2 X0 hx hZ hown (host := "") (Or.inl (hw _ (List.mem_of_getElem? (i := 16) rfl))) Via.refl e0 S_FAILED_FIRST (g := (mkF m 82 #[.val (.int p1), .val (.int ((p1 &&& (2147483647 : Int32)) % (7 : Int32))), .unset, .unset] [])) rfl (hb hby at_82)
              obtain ⟨cqk24, kqk24, qk24a, qk24b, qk24c⟩ := isOf hZ eg23 E_FAILED_FIRST
              obtain ⟨_, _, ⟨Tk24, Lk24, kk24, nk24⟩, -, Xk24, ⟨Lck24, hQk24, lk24, yk24, zk24⟩, stk24⟩ := Xg23.virtualBack hx (y := (⟨"com/example/unbraid/unbraid/maven/RunOrder", "isFixed", "()Z"⟩ : MethodName)) (z := (⟨"com/example/unbraid/unbraid/maven/RunOrder", "isFixed", "()Z"⟩ : MethodName)) hown (mvT hZ (hw _ (List.mem_of_getElem? (i := 4) rfl))) (mvT hZ (hw _ (List.mem_of_getElem? (i := 5) rfl))) (notFace_of_selects (args := #[]) (mvT hZ (hw _ (List.mem_of_getElem? (i := 7) rfl)))) (mvT hZ (hw _ (List.mem_of_getElem? (i := 7) rfl))) (mvT hZ (hw _ (List.mem_of_getElem? (i := 6) rfl))) (by decide) (backOf (W := 0) (rm_callee l Z a0 hw [] w_FAILED_FIRST w_FILESYSTEM w_ALPHABETICAL w_REVERSE_ALPHABETICAL (0 : Int32) h0 n0 Z0 S_FILESYSTEM S_ALPHABETICAL S_REVERSE_ALPHABETICAL (by simp [n_FAILED_FIRST_FILESYSTEM, n_FAILED_FIRST_ALPHABETICAL, n_FAILED_FIRST_REVERSE_ALPHABETICAL])) hZ (hw _ (List.mem_of_getElem? (i := 8) rfl)) (hw _ (List.mem_of_getElem? (i := 2) rfl)) (by decide) (by decide)) qk24a qk24c (g := (mkF m 98 #[.val (.int p1), .val (.int ((p1 &&& (2147483647 : Int32)) % (7 : Int32))), .val (.ref w_FAILED_FIRST), .val (.int (0 : Int32))] [(.ref w_FAILED_FIRST)])) rfl (by rw [hml]; rfl) (Steps.refl _) (argsL := []) (rest := []) (lenOf pd___Z rfl) rfl (by show 2 * 0 + _ ≤ _; exact Nat.le_of_eq rfl) (hb hby at_98) (fun _ _ => ⟨rfl, eg23, (by decide : 0 + 0 ≤ _), (by decide : 0 + 0 ≤ _)⟩)
              dsimp only [Pt.U, Pt.locs, Pt.cells, Pt.slots] at Xk24 lk24 yk24 zk24 stk24 hQk24
              subst lk24 yk24 zk24
              obtain ⟨rfl, Nk24q, ek24⟩ := hQk24
              have Nk24 := Fr.app N0 Nk24q
              obtain ⟨fs, hlv, hrun, hended, hW, hsame⟩ := Xk24.leave (v := some (.int (1 : Int32))) (fun h => by rw [hret] at h; cases h)
              refine ⟨_, _, r21 _ ?_, hrun, hended, _, _, rfl, ?_, ⟨_, rfl⟩, hW, hsame.mono (by decide) (by decide)⟩
              · refine XS.icmpNo X0.here hx rfl (hb hby at_79) rfl (teq c22).2 ?_
                show Sp p e below s₁ (mkF m 82 #[.val (.int p1), .val (.int ((p1 &&& (2147483647 : Int32)) % (7 : Int32))), .unset, .unset] []) _
                refine stg23 _ ?_
                show Sp p e below Tg23 (mkF m 85 #[.val (.int p1), .val (.int ((p1 &&& (2147483647 : Int32)) % (7 : Int32))), .unset, .unset] [(.ref w_FAILED_FIRST)]) _
                refine XS.astoreN Xg23.here hx rfl (hb hby at_85) rfl rfl (l' := #[.val (.int p1), .val (.int ((p1 &&& (2147483647 : Int32)) % (7 : Int32))), .val (.ref w_FAILED_FIRST), .unset]) rfl ?_
                show Sp p e below Tg23 (mkF m 86 #[.val (.int p1), .val (.int ((p1 &&& (2147483647 : Int32)) % (7 : Int32))), .val (.ref w_FAILED_FIRST), .unset] []) _
                refine XS.iconst Xg23.here hx rfl (hb hby at_86) ?_
                show Sp p e below Tg23 (mkF m 87 #[.val (.int p1), .val (.int ((p1 &&& (2147483647 : Int32)) % (7 : Int32))), .val (.ref w_FAILED_FIRST), .unset] [(.int (0 : Int32))]) _
                refine XS.istoreN Xg23.here hx rfl (hb hby at_87) rfl (l' := #[.val (.int p1), .val (.int ((p1 &&& (2147483647 : Int32)) % (7 : Int32))), .val (.ref w_FAILED_FIRST), .val (.int (0 : Int32))]) rfl ?_
                show Sp p e below Tg23 (mkF m 88 #[.val (.int p1), .val (.int ((p1 &&& (2147483647 : Int32)) % (7 : Int32))), .val (.ref w_FAILED_FIRST), .val (.int (0 : Int32))] []) _
                refine XS.goto Xg23.here hx rfl (pc0 := 88) (pc' := 97) rfl (hb hby at_88) (by decide) (by decide) ?_
                show Sp p e below Tg23 (mkF m 97 #[.val (.int p1), .val (.int ((p1 &&& (2147483647 : Int32)) % (7 : Int32))), .val (.ref w_FAILED_FIRST), .val (.int (0 : Int32))] []) _
                refine XS.aloadN Xg23.here hx rfl (hb hby at_97) rfl rfl ?_
                show Sp p e below Tg23 (mkF m 98 #[.val (.int p1), .val (.int ((p1 &&& (2147483647 : Int32)) % (7 : Int32))), .val (.ref w_FAILED_FIRST), .val (.int (0 : Int32))] [(.ref w_FAILED_FIRST)]) _
                refine stk24.trans ?_
                show Sp p e below Tk24 (mkF m 101 #[.val (.int p1), .val (.int ((p1 &&& (2147483647 : Int32)) % (7 : Int32))), .val (.ref w_FAILED_FIRST), .val (.int (0 : Int32))] [(.int (0 : Int32))]) _
                refine XS.iloadN Xk24.here hx rfl (hb hby at_101) rfl ?_
                show Sp p e below Tk24 (mkF m 102 #[.val (.int p1), .val (.int ((p1 &&& (2147483647 : Int32)) % (7 : Int32))), .val (.ref w_FAILED_FIRST), .val (.int (0 : Int32))] [(.int (0 : Int32)), (.int (0 : Int32))]) _
                refine XS.icmpNo Xk24.here hx rfl (hb hby at_102) rfl (teq (by decide : (0 : Int32) = (0 : Int32))).2 ?_
                show Sp p e below Tk24 (mkF m 105 #[.val (.int p1), .val (.int ((p1 &&& (2147483647 : Int32)) % (7 : Int32))), .val (.ref w_FAILED_FIRST), .val (.int (0 : Int32))] []) _
                refine XS.iconst Xk24.here hx rfl (hb hby at_105) ?_
                show Sp p e below Tk24 (mkF m 106 #[.val (.int p1), .val (.int ((p1 &&& (2147483647 : Int32)) % (7 : Int32))), .val (.ref w_FAILED_FIRST), .val (.int (0 : Int32))] [(.int (1 : Int32))]) _
                refine XS.goto Xk24.here hx rfl (pc0 := 106) (pc' := 110) rfl (hb hby at_106) (by decide) (by decide) ?_
                show Sp p e below Tk24 (mkF m 110 #[.val (.int p1), .val (.int ((p1 &&& (2147483647 : Int32)) % (7 : Int32))), .val (.ref w_FAILED_FIRST), .val (.int (0 : Int32))] [(.int (1 : Int32))]) _
                exact retN Xk24 hx (t := .boolean) hret (by simp) (hb hby at_110) hlv
              · show Q_law Z p1 w_FILESYSTEM w_ALPHABETICAL w_REVERSE_ALPHABETICAL w_RANDOM w_HOURLY w_FAILED_FIRST w_BALANCED h0 n0 _ Tk24.heap _
                rw [ek24]
                exact ⟨rfl, Nk24⟩
            · obtain ⟨Tg25, Xg25, eg25, stg25⟩ := getS2 X0 hx hZ hown (host := "") (Or.inl (hw _ (List.mem_of_getElem? (i := 18) rfl))) Via.refl e0 S_BALANCED (g := (mkF m 91 #[.val (.int p1), .val (.int ((p1 &&& (2147483647 : Int32)) % (7 : Int32))), .unset, .unset] [])) rfl (hb hby at_91)
              obtain ⟨cqk26, kqk26, qk26a, qk26b, qk26c⟩ := isOf hZ eg25 E_BALANCED
              obtain ⟨_, _, ⟨Tk26, Lk26, kk26, nk26⟩, -, Xk26, ⟨Lck26, hQk26, lk26, yk26, zk26⟩, stk26⟩ := Xg25.virtualBack hx (y := (⟨"com/example/unbraid/unbraid/maven/RunOrder", "isFixed", "()Z"⟩ : MethodName)) (z := (⟨"com/example/unbraid/unbraid/maven/RunOrder", "isFixed", "()Z"⟩ : MethodName)) hown (mvT hZ (hw _ (List.mem_of_getElem? (i := 4) rfl))) (mvT hZ (hw _ (List.mem_of_getElem? (i := 5) rfl))) (notFace_of_selects (args := #[]) (mvT hZ (hw _ (List.mem_of_getElem? (i := 7) rfl)))) (mvT hZ (hw _ (List.mem_of_getElem? (i := 7) rfl))) (mvT hZ (hw _ (List.mem_of_getElem? (i := 6) rfl))) (by decide) (backOf (W := 0) (rm_callee l Z a0 hw [] w_BALANCED w_FILESYSTEM w_ALPHABETICAL w_REVERSE_ALPHABETICAL (0 : Int32) h0 n0 Z0 S_FILESYSTEM S_ALPHABETICAL S_REVERSE_ALPHABETICAL (by simp [n_BALANCED_FILESYSTEM, n_BALANCED_ALPHABETICAL, n_BALANCED_REVERSE_ALPHABETICAL])) hZ (hw _ (List.mem_of_getElem? (i := 8) rfl)) (hw _ (List.mem_of_getElem? (i := 2) rfl)) (by decide) (by decide)) qk26a qk26c (g := (mkF m 98 #[.val (.int p1), .val (.int ((p1 &&& (2147483647 : Int32)) % (7 : Int32))), .val (.ref w_BALANCED), .val (.int (0 : Int32))] [(.ref w_BALANCED)])) rfl (by rw [hml]; rfl) (Steps.refl _) (argsL := []) (rest := []) (lenOf pd___Z rfl) rfl (by show 2 * 0 + _ ≤ _; exact Nat.le_of_eq rfl) (hb hby at_98) (fun _ _ => ⟨rfl, eg25, (by decide : 0 + 0 ≤ _), (by decide : 0 + 0 ≤ _)⟩)
              dsimp only [Pt.U, Pt.locs, Pt.cells, Pt.slots] at Xk26 lk26 yk26 zk26 stk26 hQk26
              subst lk26 yk26 zk26
              obtain ⟨rfl, Nk26q, ek26⟩ := hQk26
              have Nk26 := Fr.app N0 Nk26q
              obtain ⟨fs, hlv, hrun, hended, hW, hsame⟩ := Xk26.leave (v := some (.int (1 : Int32))) (fun h => by rw [hret] at h; cases h)
              refine ⟨_, _, r21 _ ?_, hrun, hended, _, _, rfl, ?_, ⟨_, rfl⟩, hW, hsame.mono (by decide) (by decide)⟩
              · refine XS.icmpYes X0.here hx rfl (pc0 := 79) (pc' := 91) rfl (hb hby at_79) rfl (feq c22).2 (by decide) (by decide) ?_
                show Sp p e below s₁ (mkF m 91 #[.val (.int p1), .val (.int ((p1 &&& (2147483647 : Int32)) % (7 : Int32))), .unset, .unset] []) _
                refine stg25 _ ?_
                show Sp p e below Tg25 (mkF m 94 #[.val (.int p1), .val (.int ((p1 &&& (2147483647 : Int32)) % (7 : Int32))), .unset, .unset] [(.ref w_BALANCED)]) _
                refine XS.astoreN Xg25.here hx rfl (hb hby at_94) rfl rfl (l' := #[.val (.int p1), .val (.int ((p1 &&& (2147483647 : Int32)) % (7 : Int32))), .val (.ref w_BALANCED), .unset]) rfl ?_
                show Sp p e below Tg25 (mkF m 95 #[.val (.int p1), .val (.int ((p1 &&& (2147483647 : Int32)) % (7 : Int32))), .val (.ref w_BALANCED), .unset] []) _
                refine XS.iconst Xg25.here hx rfl (hb hby at_95) ?_
                show Sp p e below Tg25 (mkF m 96 #[.val (.int p1), .val (.int ((p1 &&& (2147483647 : Int32)) % (7 : Int32))), .val (.ref w_BALANCED), .unset] [(.int (0 : Int32))]) _
                refine XS.istoreN Xg25.here hx rfl (hb hby at_96) rfl (l' := #[.val (.int p1), .val (.int ((p1 &&& (2147483647 : Int32)) % (7 : Int32))), .val (.ref w_BALANCED), .val (.int (0 : Int32))]) rfl ?_
                show Sp p e below Tg25 (mkF m 97 #[.val (.int p1), .val (.int ((p1 &&& (2147483647 : Int32)) % (7 : Int32))), .val (.ref w_BALANCED), .val (.int (0 : Int32))] []) _
                refine XS.aloadN Xg25.here hx rfl (hb hby at_97) rfl rfl ?_
                show Sp p e below Tg25 (mkF m 98 #[.val (.int p1), .val (.int ((p1 &&& (2147483647 : Int32)) % (7 : Int32))), .val (.ref w_BALANCED), .val (.int (0 : Int32))] [(.ref w_BALANCED)]) _
                refine stk26.trans ?_
                show Sp p e below Tk26 (mkF m 101 #[.val (.int p1), .val (.int ((p1 &&& (2147483647 : Int32)) % (7 : Int32))), .val (.ref w_BALANCED), .val (.int (0 : Int32))] [(.int (0 : Int32))]) _
                refine XS.iloadN Xk26.here hx rfl (hb hby at_101) rfl ?_
                show Sp p e below Tk26 (mkF m 102 #[.val (.int p1), .val (.int ((p1 &&& (2147483647 : Int32)) % (7 : Int32))), .val (.ref w_BALANCED), .val (.int (0 : Int32))] [(.int (0 : Int32)), (.int (0 : Int32))]) _
                refine XS.icmpNo Xk26.here hx rfl (hb hby at_102) rfl (teq (by decide : (0 : Int32) = (0 : Int32))).2 ?_
                show Sp p e below Tk26 (mkF m 105 #[.val (.int p1), .val (.int ((p1 &&& (2147483647 : Int32)) % (7 : Int32))), .val (.ref w_BALANCED), .val (.int (0 : Int32))] []) _
                refine XS.iconst Xk26.here hx rfl (hb hby at_105) ?_
                show Sp p e below Tk26 (mkF m 106 #[.val (.int p1), .val (.int ((p1 &&& (2147483647 : Int32)) % (7 : Int32))), .val (.ref w_BALANCED), .val (.int (0 : Int32))] [(.int (1 : Int32))]) _
                refine XS.goto Xk26.here hx rfl (pc0 := 106) (pc' := 110) rfl (hb hby at_106) (by decide) (by decide) ?_
                show Sp p e below Tk26 (mkF m 110 #[.val (.int p1), .val (.int ((p1 &&& (2147483647 : Int32)) % (7 : Int32))), .val (.ref w_BALANCED), .val (.int (0 : Int32))] [(.int (1 : Int32))]) _
                exact retN Xk26 hx (t := .boolean) hret (by simp) (hb hby at_110) hlv
              · show Q_law Z p1 w_FILESYSTEM w_ALPHABETICAL w_REVERSE_ALPHABETICAL w_RANDOM w_HOURLY w_FAILED_FIRST w_BALANCED h0 n0 _ Tk26.heap _
                rw [ek26]
                exact ⟨rfl, Nk26⟩
set_option maxRecDepth 65536 in
set_option maxHeartbeats 40000000 in
theorem comes_1 {Post : Tables → Env → Array Value → State → Outcome → State → Prop} (hpost : ∀ tb e args s v u, (limb_1_1.after args s (.returned v) u = true ∧ limb_1_2.after args s (.returned v) u = true ∧ True) → FrameEnd s (.returned v) u (Jvm.fieldLocs frame_1_writes args s ++ Jvm.arrayLocs frame_1_arrays args s ++ Jvm.staticLocs frame_1_statics s) 0 0 → Post tb e args s (.returned v) u) :
    ArmFor flags0 classFile x code maxLocals ret World_1 tables_1 room_1 Calls_1 rest_1 Pre_1 Post := by
  intro l hfl _ _ p e ha hc hk s m args below hf hA hF happ hP
  obtain ⟨hcalls, hrest, hpre⟩ := hP
  obtain ⟨-, -, -, hnamed, -, -, -, hat⟩ := (Spec.applies_iff hf).mp happ
  obtain ⟨hg, hn⟩ := and_e (Cond.before_iff.mp (show (Jvm.Cond.and given_1 narrow_1).before args s = true from hpre))
  obtain ⟨hcount, hg0⟩ := and_e hg
  obtain ⟨w0, rfl⟩ : ∃ w0 : Value, args = #[w0] := by
    have hs : args.size = 1 := by simpa [Cond.value, given_1] using hcount
    obtain ⟨L⟩ := args
    match L, hs with
    | [w0], _ => exact ⟨w0, rfl⟩
  obtain ⟨i0, ei0⟩ := is_v hg0
  obtain rfl : w0 = (.int i0) := Option.some.inj ei0
  have hw := fun d (hd : d ∈ tables_1) => atoms_spec (ws := Jvm.Cond.code x code maxLocals ret :: tables_1) hat d (List.mem_cons_of_mem _ hd)
  have hfit : Fit s := fun {y c} hc i hi => by
    obtain ⟨ha, rfl⟩ := Array.getElem?_eq_some_iff.mp hc
    have q := List.all_eq_true.mp ((Array.all_eq_true_iff_forall_mem.mp hF) _ (Array.getElem_mem ha)) i (List.mem_range.mpr hi)
    simpa [Array.getElem?_eq_getElem hi] using q
  obtain ⟨nw0, hn0⟩ := and_e hn
  obtain ⟨nw1, hn1⟩ := and_e hn0
  obtain ⟨nw2, hn2⟩ := and_e hn1
  obtain ⟨nw3, hn3⟩ := and_e hn2
  obtain ⟨nw4, hn4⟩ := and_e hn3
  obtain ⟨nw5, hn5⟩ := and_e hn4
  obtain ⟨nw6, hn6⟩ := and_e hn5
  obtain ⟨nw7, hn7⟩ := and_e hn6
  obtain ⟨nw8, hn8⟩ := and_e hn7
  obtain ⟨nw9, hn9⟩ := and_e hn8
  obtain ⟨nw10, hn10⟩ := and_e hn9
  obtain ⟨nw11, hn11⟩ := and_e hn10
  obtain ⟨nw12, hn12⟩ := and_e hn11
  have nw13 := hn12
  obtain ⟨w_FILESYSTEM, ev_FILESYSTEM⟩ := exa_v nw0
  have S_FILESYSTEM := Sta.start ev_FILESYSTEM (Or.inr ⟨(hw _ (List.mem_of_getElem? (i := 2) rfl)), (hw _ (List.mem_of_getElem? (i := 3) rfl))⟩)
  have E_FILESYSTEM := Exa.start ev_FILESYSTEM nw0
  have O_FILESYSTEM := own_fld ev_FILESYSTEM nw3
  obtain ⟨w_ALPHABETICAL, ev_ALPHABETICAL⟩ := exa_v nw4
  have S_ALPHABETICAL := Sta.start ev_ALPHABETICAL (Or.inr ⟨(hw _ (List.mem_of_getElem? (i := 2) rfl)), (hw _ (List.mem_of_getElem? (i := 13) rfl))⟩)
  have E_ALPHABETICAL := Exa.start ev_ALPHABETICAL nw4
  have O_ALPHABETICAL := own_fld ev_ALPHABETICAL nw5
  obtain ⟨w_REVERSE_ALPHABETICAL, ev_REVERSE_ALPHABETICAL⟩ := exa_v nw6
  have S_REVERSE_ALPHABETICAL := Sta.start ev_REVERSE_ALPHABETICAL (Or.inr ⟨(hw _ (List.mem_of_getElem? (i := 2) rfl)), (hw _ (List.mem_of_getElem? (i := 15) rfl))⟩)
  have E_REVERSE_ALPHABETICAL := Exa.start ev_REVERSE_ALPHABETICAL nw6
  have O_REVERSE_ALPHABETICAL := own_fld ev_REVERSE_ALPHABETICAL nw7
  obtain ⟨w_RANDOM, ev_RANDOM⟩ := exa_v nw1
  have S_RANDOM := Sta.start ev_RANDOM (Or.inr ⟨(hw _ (List.mem_of_getElem? (i := 2) rfl)), (hw _ (List.mem_of_getElem? (i := 11) rfl))⟩)
  have E_RANDOM := Exa.start ev_RANDOM nw1
  have O_RANDOM := own_fld ev_RANDOM nw2
  obtain ⟨w_HOURLY, ev_HOURLY⟩ := exa_v nw12
  have S_HOURLY := Sta.start ev_HOURLY (Or.inr ⟨(hw _ (List.mem_of_getElem? (i := 2) rfl)), (hw _ (List.mem_of_getElem? (i := 21) rfl))⟩)
  have E_HOURLY := Exa.start ev_HOURLY nw12
  have O_HOURLY := own_fld ev_HOURLY nw13
  obtain ⟨w_FAILED_FIRST, ev_FAILED_FIRST⟩ := exa_v nw8
  have S_FAILED_FIRST := Sta.start ev_FAILED_FIRST (Or.inr ⟨(hw _ (List.mem_of_getElem? (i := 2) rfl)), (hw _ (List.mem_of_getElem? (i := 17) rfl))⟩)
  have E_FAILED_FIRST := Exa.start ev_FAILED_FIRST nw8
  have O_FAILED_FIRST := own_fld ev_FAILED_FIRST nw9
  obtain ⟨w_BALANCED, ev_BALANCED⟩ := exa_v nw10
  have S_BALANCED := Sta.start ev_BALANCED (Or.inr ⟨(hw _ (List.mem_of_getElem? (i := 2) rfl)), (hw _ (List.mem_of_getElem? (i := 19) rfl))⟩)
  have E_BALANCED := Exa.start ev_BALANCED nw10
  have O_BALANCED := own_fld ev_BALANCED nw11
  obtain ⟨n, o, h1, h2, h3, _, L, rfl, ⟨rfl, N⟩, hq⟩ := rm_law l s _ hw tables_1 i0 w_FILESYSTEM w_ALPHABETICAL w_REVERSE_ALPHABETICAL w_RANDOM w_HOURLY w_FAILED_FIRST w_BALANCED s.heap s.heap.size (Nat.le_refl _) S_FILESYSTEM S_ALPHABETICAL S_REVERSE_ALPHABETICAL S_RANDOM S_HOURLY S_FAILED_FIRST S_BALANCED E_FILESYSTEM E_ALPHABETICAL E_REVERSE_ALPHABETICAL E_RANDOM E_HOURLY E_FAILED_FIRST E_BALANCED (Fld.ne O_FILESYSTEM O_ALPHABETICAL (fun q => absurd (Value.int.inj q) (by decide))) (Fld.ne O_FILESYSTEM O_REVERSE_ALPHABETICAL (fun q => absurd (Value.int.inj q) (by decide))) (Fld.ne O_ALPHABETICAL O_FILESYSTEM (fun q => absurd (Value.int.inj q) (by decide))) (Fld.ne O_ALPHABETICAL O_REVERSE_ALPHABETICAL (fun q => absurd (Value.int.inj q) (by decide))) (Fld.ne O_REVERSE_ALPHABETICAL O_FILESYSTEM (fun q => absurd (Value.int.inj q) (by decide))) (Fld.ne O_REVERSE_ALPHABETICAL O_ALPHABETICAL (fun q => absurd (Value.int.inj q) (by decide))) (Fld.ne O_RANDOM O_FILESYSTEM (fun q => absurd (Value.int.inj q) (by decide))) (Fld.ne O_RANDOM O_ALPHABETICAL (fun q => absurd (Value.int.inj q) (by decide))) (Fld.ne O_RANDOM O_REVERSE_ALPHABETICAL (fun q => absurd (Value.int.inj q) (by decide))) (Fld.ne O_HOURLY O_FILESYSTEM (fun q => absurd (Value.int.inj q) (by decide))) (Fld.ne O_HOURLY O_ALPHABETICAL (fun q => absurd (Value.int.inj q) (by decide))) (Fld.ne O_HOURLY O_REVERSE_ALPHABETICAL (fun q => absurd (Value.int.inj q) (by decide))) (Fld.ne O_FAILED_FIRST O_FILESYSTEM (fun q => absurd (Value.int.inj q) (by decide))) (Fld.ne O_FAILED_FIRST O_ALPHABETICAL (fun q => absurd (Value.int.inj q) (by decide))) (Fld.ne O_FAILED_FIRST O_REVERSE_ALPHABETICAL (fun q => absurd (Value.int.inj q) (by decide))) (Fld.ne O_BALANCED O_FILESYSTEM (fun q => absurd (Value.int.inj q) (by decide))) (Fld.ne O_BALANCED O_ALPHABETICAL (fun q => absurd (Value.int.inj q) (by decide))) (Fld.ne O_BALANCED O_REVERSE_ALPHABETICAL (fun q => absurd (Value.int.inj q) (by decide))) p e ha hc hk s m _ below hf ((Spec.applies_iff_loose hf).mp happ).1 ⟨rfl, State.Warmed39.refl s, rfl⟩ trivial
  refine ⟨n, _, h1, h2, h3, hpost _ _ _ _ _ _ ⟨Cond.after_iff.mpr rfl, Cond.after_iff.mpr (eq_i res_at (Term.int_eval (1)) rfl), trivial⟩ ⟨hq.1, hq.2.1, (hq.2.2.sift fun y hy => Or.inr (N y hy)).mono (by decide) (by decide)⟩⟩
theorem main_1_1 : Claimed_1_1 := comes_1 fun _ _ _ _ _ _ h hF => ⟨h.1, hF⟩
theorem main_1_2 : Claimed_1_2 := comes_1 fun _ _ _ _ _ _ h hF => ⟨h.2.1, hF⟩
end Jvm.Pilot.@@N@@
namespace Jvm.Pilot.@@N@@
open Jvm Jvm.ClassFile Sem Op Lib Jvm.Free Jvm.Stand Jvm.Pilot.@@N@@.Jvm.D
/-! MADE BY PROGRAM (witnessworld.py) out of the Statement's table words and the real class files: 12 classes; the members and pool entries that the words name. The judged class is class 1, her method 1. -/
namespace start1
open Jvm.ClassFile
def u (s : String) : CpInfo := .utf8 (stringToUtf16 s)
/-- a pool by its gaps: so many unusable entries, then the entry; so many at the end -/
def gap : Nat → List CpInfo → List CpInfo
  | 0, r => r
  | n + 1, r => .unusable :: gap n r
def poolList (es : List (Nat × CpInfo)) (last : Nat) : List CpInfo := es.foldr (fun e r => gap e.1 (e.2 :: r)) (gap last [])
def pool (es : List (Nat × CpInfo)) (last : Nat) : Array CpInfo := ⟨poolList es last⟩
def fileOf (pool : Array CpInfo) (this : Nat) (attrs : Array Attribute := #[]) (ms : Array MethodInfo := #[]) (fl : Nat := 33) (sup : Nat := 0) (ifs : Array Nat := #[]) (fds : Array FieldInfo := #[]) : ClassFile where
  minorVersion := 0
  majorVersion := 65
  constantPool := pool
  accessFlags := fl
  thisClass := this
  superClass := sup
  interfaces := ifs
  fields := fds
  methods := ms
  attributes := attrs
def plain (name : String) (sup : Option ClassId) : Class where
  name := name
  kind := .ordinary
  loader := none
  accessFlags := 33
  super := sup
  interfaces := #[]
  cf := none
  fields := #[]
  methods := #[]
  instanceTypes := #[]
  staticTypes := #[]
  resolved := #[]
  callSites := []
  init := .initialized
  statics := none
  mirror := none

def pool0 : Array CpInfo := pool [(5, u "<init>"), (0, u "()V"), (1, .class_ 10), (1, u "java/lang/Object")] 113

def k0m0 : Method := { name := "<init>", desc := "()V", sig := { parameters := [], returnType := none }, accessFlags := 1, code := none }
/-- java/lang/Object -/
def k0 : Class := { plain "java/lang/Object" none with
  accessFlags := 33
  interfaces := #[]
  cf := some (fileOf pool0 8 #[] #[{ accessFlags := 1, nameIndex := 5, descriptorIndex := 6, attributes := #[] }] 33 0 #[] #[])
  fields := #[]
  methods := #[k0m0]
  instanceTypes := #[]
  staticTypes := #[]
  resolved := Array.replicate 124 none
  statics := none }

def pool1 : Array CpInfo := pool [(2, .class_ 4), (1, u "java/lang/Object"), (0, u "<init>"), (0, u "()V"), (0, .integer 2147483647), (0, .fieldref 9 10), (0, .class_ 11), (0, .nameAndType 12 13), (0, u "com/example/unbraid/unbraid/maven/RunOrder"), (0, u "FILESYSTEM"), (0, u "Lcom/example/unbraid/unbraid/maven/RunOrder;"), (0, .fieldref 9 15), (0, .nameAndType 16 13), (0, u "ALPHABETICAL"), (0, .fieldref 9 18), (0, .nameAndType 19 13), (0, u "REVERSE_ALPHABETICAL"), (0, .fieldref 9 21), (0, .nameAndType 22 13), (0, u "RANDOM"), (0, .fieldref 9 24), (0, .nameAndType 25 13), (0, u "HOURLY"), (0, .fieldref 9 27), (0, .nameAndType 28 13), (0, u "FAILED_FIRST"), (0, .fieldref 9 30), (0, .nameAndType 31 13), (0, u "BALANCED"), (0, .methodref 9 33), (0, .nameAndType 34 35), (0, u "isFixed"), (0, u "()Z"), (0, .class_ 37), (0, u "com/example/unbraid/unbraid/maven/RunOrderIsFixedPinLaw"), (2, u "law"), (0, u "(I)Z")] 3

def k1m0 : Method := { name := "<init>", desc := "()V", sig := { parameters := [], returnType := none }, accessFlags := 1, code := none }
def k1c1 : Code := { maxStack := 2, maxLocals := 4, code := code, exceptionTable := #[], attributes := #[] }
def k1m1 : Method := { name := "law", desc := "(I)Z", sig := { parameters := [.int], returnType := some .boolean }, accessFlags := 9, code := some k1c1 }
/-- com/example/unbraid/unbraid/maven/RunOrderIsFixedPinLaw -/
def k1 : Class := { plain "com/example/unbraid/unbraid/maven/RunOrderIsFixedPinLaw" (some 0) with
  accessFlags := 49
  interfaces := #[]
  cf := some (fileOf pool1 36 #[] #[{ accessFlags := 1, nameIndex := 5, descriptorIndex := 6, attributes := #[] }, { accessFlags := 9, nameIndex := 40, descriptorIndex := 41, attributes := #[] }] 49 2 #[] #[])
  fields := #[]
  methods := #[k1m0, k1m1]
  instanceTypes := #[]
  staticTypes := #[]
  resolved := Array.replicate 45 none
  statics := none }

def pool2 : Array CpInfo := pool [(1, .class_ 2), (0, u "java/lang/constant/Constable"), (0, .class_ 4), (0, u "java/lang/Object")] 6

/-- java/lang/constant/Constable -/
def k2 : Class := { plain "java/lang/constant/Constable" (some 0) with
  accessFlags := 1537
  interfaces := #[]
  cf := some (fileOf pool2 1 #[] #[] 1537 3 #[] #[])
  fields := #[]
  methods := #[]
  instanceTypes := #[]
  staticTypes := #[]
  resolved := Array.replicate 11 none
  statics := none }

def pool3 : Array CpInfo := pool [(1, .class_ 2), (0, u "java/lang/Comparable"), (0, .class_ 4), (0, u "java/lang/Object")] 7

/-- java/lang/Comparable -/
def k3 : Class := { plain "java/lang/Comparable" (some 0) with
  accessFlags := 1537
  interfaces := #[]
  cf := some (fileOf pool3 1 #[] #[] 1537 3 #[] #[])
  fields := #[]
  methods := #[]
  instanceTypes := #[]
  staticTypes := #[]
  resolved := Array.replicate 12 none
  statics := none }

def pool4 : Array CpInfo := pool [(1, .class_ 2), (0, u "java/io/Serializable"), (0, .class_ 4), (0, u "java/lang/Object")] 2

/-- java/io/Serializable -/
def k4 : Class := { plain "java/io/Serializable" (some 0) with
  accessFlags := 1537
  interfaces := #[]
  cf := some (fileOf pool4 1 #[] #[] 1537 3 #[] #[])
  fields := #[]
  methods := #[]
  instanceTypes := #[]
  staticTypes := #[]
  resolved := Array.replicate 7 none
  statics := none }

def pool5 : Array CpInfo := pool [(2, .class_ 4), (1, u "java/lang/Enum"), (0, u "name"), (0, u "Ljava/lang/String;"), (2, u "ordinal"), (0, u "I"), (1, .class_ 14), (1, u "java/lang/Object"), (4, u "hash"), (86, .class_ 108), (1, u "java/lang/Enum$EnumDesc"), (2, .class_ 112), (0, u "java/lang/constant/Constable"), (0, .class_ 114), (0, u "java/lang/Comparable"), (0, .class_ 116), (0, u "java/io/Serializable")] 87

/-- java/lang/Enum -/
def k5 : Class := { plain "java/lang/Enum" (some 0) with
  accessFlags := 1057
  interfaces := #[2, 3, 4]
  cf := some (fileOf pool5 2 #[.nestMembers #[106]] #[] 1057 12 #[111, 113, 115] #[{ accessFlags := 18, nameIndex := 5, descriptorIndex := 6, attributes := #[] }, { accessFlags := 18, nameIndex := 9, descriptorIndex := 10, attributes := #[] }, { accessFlags := 2, nameIndex := 19, descriptorIndex := 10, attributes := #[] }])
  fields := #[{ name := "name", type := (.object "java/lang/String"), accessFlags := 18, slot := 0, constantValue := 0 }, { name := "ordinal", type := .int, accessFlags := 18, slot := 1, constantValue := 0 }, { name := "hash", type := .int, accessFlags := 2, slot := 2, constantValue := 0 }]
  methods := #[]
  instanceTypes := #[(.object "java/lang/String"), .int, .int]
  staticTypes := #[]
  resolved := Array.replicate 204 none
  statics := none }

def pool6 : Array CpInfo := pool [(1, .class_ 2), (0, u "com/example/unbraid/unbraid/maven/RunOrder"), (0, .fieldref 1 4), (0, .nameAndType 5 6), (0, u "FILESYSTEM"), (0, u "Lcom/example/unbraid/unbraid/maven/RunOrder;"), (0, .fieldref 1 8), (0, .nameAndType 9 6), (0, u "ALPHABETICAL"), (0, .fieldref 1 11), (0, .nameAndType 12 6), (0, u "REVERSE_ALPHABETICAL"), (2, u "RANDOM"), (2, u "HOURLY"), (2, u "FAILED_FIRST"), (2, u "BALANCED"), (2, u "$VALUES"), (0, u "[Lcom/example/unbraid/unbraid/maven/RunOrder;"), (6, .class_ 37), (1, u "java/lang/Enum"), (8, u "label"), (0, u "Ljava/lang/String;"), (16, u "()Z"), (90, u "isFixed")] 22

def k6c0 : Code := { maxStack := 2, maxLocals := 1, code := prog_145_method_7_code, exceptionTable := #[], attributes := #[] }
def k6m0 : Method := { name := "isFixed", desc := "()Z", sig := { parameters := [], returnType := some .boolean }, accessFlags := 0, code := some k6c0 }
/-- com/example/unbraid/unbraid/maven/RunOrder -/
def k6 : Class := { plain "com/example/unbraid/unbraid/maven/RunOrder" (some 5) with
  accessFlags := 16432
  interfaces := #[]
  cf := some (fileOf pool6 1 #[] #[{ accessFlags := 0, nameIndex := 155, descriptorIndex := 64, attributes := #[] }] 16432 35 #[] #[{ accessFlags := 16409, nameIndex := 5, descriptorIndex := 6, attributes := #[] }, { accessFlags := 16409, nameIndex := 9, descriptorIndex := 6, attributes := #[] }, { accessFlags := 16409, nameIndex := 12, descriptorIndex := 6, attributes := #[] }, { accessFlags := 16409, nameIndex := 15, descriptorIndex := 6, attributes := #[] }, { accessFlags := 16409, nameIndex := 18, descriptorIndex := 6, attributes := #[] }, { accessFlags := 16409, nameIndex := 21, descriptorIndex := 6, attributes := #[] }, { accessFlags := 16409, nameIndex := 24, descriptorIndex := 6, attributes := #[] }, { accessFlags := 18, nameIndex := 46, descriptorIndex := 47, attributes := #[] }, { accessFlags := 4122, nameIndex := 27, descriptorIndex := 28, attributes := #[] }])
  fields := #[{ name := "FILESYSTEM", type := (.object "com/example/unbraid/unbraid/maven/RunOrder"), accessFlags := 16409, slot := 0, constantValue := 0 }, { name := "ALPHABETICAL", type := (.object "com/example/unbraid/unbraid/maven/RunOrder"), accessFlags := 16409, slot := 1, constantValue := 0 }, { name := "REVERSE_ALPHABETICAL", type := (.object "com/example/unbraid/unbraid/maven/RunOrder"), accessFlags := 16409, slot := 2, constantValue := 0 }, { name := "RANDOM", type := (.object "com/example/unbraid/unbraid/maven/RunOrder"), accessFlags := 16409, slot := 3, constantValue := 0 }, { name := "HOURLY", type := (.object "com/example/unbraid/unbraid/maven/RunOrder"), accessFlags := 16409, slot := 4, constantValue := 0 }, { name := "FAILED_FIRST", type := (.object "com/example/unbraid/unbraid/maven/RunOrder"), accessFlags := 16409, slot := 5, constantValue := 0 }, { name := "BALANCED", type := (.object "com/example/unbraid/unbraid/maven/RunOrder"), accessFlags := 16409, slot := 6, constantValue := 0 }, { name := "label", type := (.object "java/lang/String"), accessFlags := 18, slot := 3, constantValue := 0 }, { name := "$VALUES", type := (.array (.object "com/example/unbraid/unbraid/maven/RunOrder")), accessFlags := 4122, slot := 7, constantValue := 0 }]
  methods := #[k6m0]
  instanceTypes := #[(.object "java/lang/String"), .int, .int, (.object "java/lang/String")]
  staticTypes := #[(.object "com/example/unbraid/unbraid/maven/RunOrder"), (.object "com/example/unbraid/unbraid/maven/RunOrder"), (.object "com/example/unbraid/unbraid/maven/RunOrder"), (.object "com/example/unbraid/unbraid/maven/RunOrder"), (.object "com/example/unbraid/unbraid/maven/RunOrder"), (.object "com/example/unbraid/unbraid/maven/RunOrder"), (.object "com/example/unbraid/unbraid/maven/RunOrder"), (.array (.object "com/example/unbraid/unbraid/maven/RunOrder"))]
  resolved := Array.replicate 178 none
  statics := some 0 }

def pool7 : Array CpInfo := pool [(1, u "java/lang/Cloneable"), (0, .class_ 1), (0, u "java/lang/Object"), (0, .class_ 3)] 3

/-- java/lang/Cloneable -/
def k7 : Class := { plain "java/lang/Cloneable" (some 0) with
  accessFlags := 1537
  interfaces := #[]
  cf := some (fileOf pool7 2 #[] #[] 1537 4 #[] #[])
  fields := #[]
  methods := #[]
  instanceTypes := #[]
  staticTypes := #[]
  resolved := Array.replicate 8 none
  statics := none }

/-- the primitive byte -/
def k8 : Class := { plain "byte" none with kind := .primitive 'B', accessFlags := 0x411 }
/-- [B -/
def k9 : Class := { plain "[B" (some 0) with kind := .array 8 .byte, interfaces := #[7, 4], accessFlags := 1041 }

/-- the primitive int -/
def k10 : Class := { plain "int" none with kind := .primitive 'I', accessFlags := 0x411 }
/-- [I -/
def k11 : Class := { plain "[I" (some 0) with kind := .array 10 .int, interfaces := #[7, 4], accessFlags := 1041 }

def heap : Heap := #[{ cls := 6, slots := #[.ref 1, .ref 2, .ref 3, .ref 4, .ref 5, .ref 6, .ref 7, .null], vm := .statics 6 },
  { cls := 6, slots := #[.null, .int 0, .int 0, .null], vm := .none },
  { cls := 6, slots := #[.null, .int 1, .int 0, .null], vm := .none },
  { cls := 6, slots := #[.null, .int 2, .int 0, .null], vm := .none },
  { cls := 6, slots := #[.null, .int 3, .int 0, .null], vm := .none },
  { cls := 6, slots := #[.null, .int 4, .int 0, .null], vm := .none },
  { cls := 6, slots := #[.null, .int 5, .int 0, .null], vm := .none },
  { cls := 6, slots := #[.null, .int 6, .int 0, .null], vm := .none }]
def classes : Array Class := #[k0, k1, k2, k3, k4, k5, k6, k7, k8, k9, k10, k11]
def interned : List (Array UInt16 × Addr) := []
def slotsUsed : Nat := 36
def theMethod : MethodId := ⟨1, 1⟩
def args0 : Array Value := #[.int 5]
def aboutOver (below : List Frame) : State where
  vm := { classes := classes, interned := interned.toArray }
  heap := heap
  slotsUsed := slotsUsed
  threads := #[{ frames := .invoking theMethod args0 :: below }]
def below0 : List Frame := [.native { method := ⟨0, 0⟩, args := #[] }]
def about1 : State := aboutOver below0
def p0 : Program := .bare "" "" ""
def e0 : Env := launch0.env 0 0 0
theorem w_frames : about1.frames = Frame.invoking theMethod args0 :: below0 := rfl
set_option maxRecDepth 65536 in
theorem w_args : argsFit about1.vm theMethod args0 = true := by decide +kernel
set_option maxRecDepth 65536 in
theorem w_heap : heapFits about1 = true := by decide +kernel
set_option maxRecDepth 65536 in
theorem w_runnable : about1.curStatus? = some .runnable := by decide +kernel
set_option maxRecDepth 65536 in
theorem w_alone : about1.alone = true := by decide +kernel
set_option maxRecDepth 65536 in
theorem w_named : about1.methodNamed? x = some theMethod := by decide +kernel
set_option maxRecDepth 65536 in
theorem w_hears : about1.hears theMethod below0 = true := by decide +kernel
set_option maxRecDepth 65536 in
theorem w_ripe : about1.ripe theMethod args0 below0 = true := by decide +kernel
theorem w_running : about1.status = .running := rfl
set_option maxRecDepth 65536 in
theorem w_room : about1.hasRoom e0.platform room_1 = true :=
  launch0.hasRoom_least _ room_1 (by decide +kernel) (by decide +kernel) (by decide +kernel) (by decide +kernel) (by decide +kernel) (by decide +kernel)
theorem allAtoms_all (ts : List Jvm.Cond) (a : Array Jvm.Value) (st : Jvm.State) : (allAtoms ts).before a st = ts.all (fun c => c.before a st) := by
  induction ts with
  | nil => rfl
  | cons c t ih =>
    show (Jvm.Cond.and c (allAtoms t)).before a st = _
    rw [Jvm.Cond.before_and, ih, List.all_cons]
def words1 : List Jvm.Cond := Jvm.Cond.code x code maxLocals ret :: tables_1
/-- a 'code' word, met by the world's own term for the bytes: nothing is compared byte by byte -/
theorem code_word {y : MethodName} {bytes : ByteArray} {mx : Nat} {rt : Option FieldType} {a : Array Value} {s : State} {m : MethodId} {meth : Method} {c : Code} (h1 : s.methodNamed? y = some m) (h2 : s.vm.method? m = some meth) (h3 : meth.code = some c) (h4 : c.code = bytes)
    (h5 : (c.maxLocals == mx && c.exceptionTable.isEmpty && decide (c.maxStack ≤ mostOperands) && decide (meth.sig.returnType = rt) && !meth.locks && decide (parseMethodDescriptor y.desc = some meth.sig)) = true) : (Jvm.Cond.code y bytes mx rt).before a s = true := by
  simp only [Bool.and_eq_true, beq_iff_eq, Bool.not_eq_true', decide_eq_true_eq] at h5
  obtain ⟨⟨⟨⟨⟨g1, g2⟩, g3⟩, g4⟩, g5⟩, g6⟩ := h5
  simp [Cond.before, Cond.holds, Cond.value, h1, h2, h3, h4, g1, g2, g3, g4, g5, g6]
def isCode : Jvm.Cond → Bool
  | .code _ _ _ _ => true
  | _ => false
theorem all_split {L : List Jvm.Cond} {P : Jvm.Cond → Bool} (h1 : L.all (fun c => isCode c || P c) = true) (h2 : ∀ c ∈ L.filter isCode, P c = true) : L.all P = true := by
  refine List.all_eq_true.mpr fun c hc => ?_
  have h := List.all_eq_true.mp h1 c hc
  rcases Bool.eq_false_or_eq_true (isCode c) with hi | hi
  · exact h2 c (List.mem_filter.mpr ⟨hc, hi⟩)
  · simpa [hi] using h
set_option maxRecDepth 65536 in
theorem w_c0 : (Jvm.Cond.code x code maxLocals ret).before args0 about1 = true := code_word (m := ⟨1, 1⟩) (meth := k1m1) (c := k1c1) (by decide +kernel) rfl rfl rfl (by decide +kernel)
set_option maxRecDepth 65536 in
theorem w_c1 : (Jvm.Cond.code ({ cls := "com/example/unbraid/unbraid/maven/RunOrder", name := "isFixed", desc := "()Z" } : Jvm.MethodName) prog_145_method_7_code (1 : Nat) (Option.some Jvm.ClassFile.FieldType.boolean)).before args0 about1 = true := code_word (m := ⟨6, 0⟩) (meth := k6m0) (c := k6c0) (by decide +kernel) rfl rfl rfl (by decide +kernel)
def codes1 : List Jvm.Cond := [Jvm.Cond.code x code maxLocals ret, Jvm.Cond.code ({ cls := "com/example/unbraid/unbraid/maven/RunOrder", name := "isFixed", desc := "()Z" } : Jvm.MethodName) prog_145_method_7_code (1 : Nat) (Option.some Jvm.ClassFile.FieldType.boolean)]
set_option maxRecDepth 65536 in
theorem codes_eq : words1.filter isCode = codes1 := rfl
theorem w_codes : ∀ c ∈ words1.filter isCode, c.before args0 about1 = true := by
  rw [codes_eq]
  intro c hc
  simp only [codes1, List.mem_cons, List.not_mem_nil, or_false] at hc
  rcases hc with rfl | rfl
  · exact w_c0
  · exact w_c1
set_option maxRecDepth 65536 in
theorem w_t1 : (words1.take 24).all (fun c => isCode c || c.before args0 about1) = true := by decide +kernel
set_option maxRecDepth 65536 in
theorem w_t2 : (words1.drop 24).all (fun c => isCode c || c.before args0 about1) = true := by decide +kernel
theorem w_tables : (allAtoms (Jvm.Cond.code x code maxLocals ret :: tables_1)).before args0 about1 = true := by
  rw [allAtoms_all]
  show words1.all (fun c => c.before args0 about1) = true
  refine all_split ?_ w_codes
  rw [← List.take_append_drop 24 words1, List.all_append, w_t1, w_t2]
  rfl
set_option maxRecDepth 65536 in
theorem w_case : (Jvm.Cond.and given_1 narrow_1).before args0 about1 = true := by decide +kernel
theorem w_applies : (headSpec (Jvm.Cond.code x code maxLocals ret :: tables_1) room_1).applies x e0.platform about1 = true :=
  (Spec.applies_iff w_frames).mpr ⟨w_running, w_runnable, w_alone, w_named, w_hears, w_ripe, w_room, w_tables⟩
theorem atStart : AtStart classFile x code maxLocals ret World_1 tables_1 room_1 Calls_1 rest_1 Pre_1 launch0 p0 e0 about1 theMethod args0 below0 :=
  ⟨lists_1, trivial, launch0.admits_env _ _ _, launch0.least_env, fairChoices_fair.cas, fairChoices_fair.clock, w_frames, w_args, w_heap, w_applies, trivial, trivial, w_case⟩
end start1
theorem witness_1 : WitnessClaimed_1 := ⟨start1.p0, start1.e0, start1.about1, start1.theMethod, start1.args0, start1.below0, start1.atStart⟩
end Jvm.Pilot.@@N@@
