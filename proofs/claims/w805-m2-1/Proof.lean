import JvmDerived
import JvmDerived.Pilot.@@N@@Statement
import JvmDerived.Pilot.@@N@@Code
set_option linter.unusedVariables false
set_option linter.unusedSimpArgs false
namespace Jvm.RoadKit
open Sem ClassFile Op Lib Jvm.Stand Jvm.Free Jvm.LawKit
section New
variable {p : Program} {l : Launch} {e : Env} {R : Room} {s : State} {m : MethodId} {args : Array Value} {below : List Frame} {meth : Method} {c : Code} {T : State} {locs : List Loc} {cells slots : Nat}
theorem retI (X : Stand p l e R s m args below meth c T locs cells slots) (hx : p.tables.exec = Jvm.exec) {pc : Nat} {Ls : Array Slot} {z : Int32} {rest : List Value} (hret : meth.sig.returnType = some .int) (hd : decode c.code pc = .ok (.ireturn, 1)) {fs : List Frame}
    (hl : ∀ (f : JFrame) (acts : List Action), f.method = m → f.locked = none → f.entered = [] → (doReturn e (T.setTop f) acts (some (.int z))).1 = T.setFrames fs) : Steps p.tables e below (T.setTop (mkF m pc Ls (.int z :: rest))) (T.setFrames fs) := by
  have hm' : T.vm.method? m = some meth := X.method'
  have hn : narrow .int (.int z) = .int z := rfl
  show Steps p.tables e below (T.setTop { method := m, pc := pc, locals := Ls, stack := _ :: rest, locked := none }) _
  jvm_step X.here [X.here.top, hx, hd, hm', hret, hn]
  first | (intro acts; rw [hl _ acts rfl rfl rfl]) | rw [hl _ _ rfl rfl rfl]
  exact Steps.refl _
end New
end Jvm.RoadKit
namespace Jvm.Pilot.@@N@@
open Jvm Jvm.ClassFile Sem Op Lib Jvm.Free Jvm.Stand Jvm.LawKit Jvm.RoadKit Bundle Jvm.Pilot.@@N@@.Jvm.D
abbrev Sp (p : Program) (e : Env) (b : List Frame) (T : State) (f : JFrame) (t : State) : Prop := Steps p.tables e b (T.setTop f) t
theorem own_fld {args : Array Value} {Z : State} {t : Term} {C n d : String} {k : Int32} {x : Addr} (ev : t.eval args Z none [] Z = some (.ref x)) (h : (Jvm.Cond.eq (.field t C n d) (.int k)).value args Z none Z [] = some true) : Fld Z Z.heap x C n d (.int k) := by
  refine Fld.start ?_
  have h1 := fld_at (C := C) (n := n) (dd := d) ev
  obtain ⟨u, w, e1, e2, -, -⟩ := cmp_v (Or.inl h)
  have e3 : w = .int k := (Option.some.inj (e2.symm.trans (Term.int_eval k)))
  subst e3
  rw [← h1, e1]
  simp only [Jvm.Cond.value, e1, e2] at h
  cases u <;> simp_all
theorem own_sta_keep0 {Z : State} {h h' : Heap} {C n d : String} {v : Value} (F : Sta Z h C n d v) (K : Keep h h' []) : Sta Z h' C n d v := by
  obtain ⟨cf, i, k, f, st, cell, h1, h2, h3, h4, h5, r⟩ := F
  exact ⟨cf, i, k, f, st, cell, h1, h2, h3, h4, K.2.1 _ _ h5 nin0, r⟩
theorem own_same {Z : State} {a0 : Array Value} {C : String} {y : MethodName} (hsel : (Jvm.Cond.selects C y y).before a0 Z = true) (hy : y.cls ≠ "java/lang/invoke/MethodHandle" ∧ y.cls ≠ "java/lang/invoke/VarHandle") : (Jvm.Cond.sameMethod y.cls y.cls y.name y.desc).before a0 Z = true := by
  obtain ⟨c, r, m, h1, h2, h3, h4, mk, h5, h6⟩ := Cond.selects_spec hsel
  have hf := State.methodFound?_of_named h3 hy
  have hc := findClass_of_methodNamed h3
  obtain ⟨cls, name, desc⟩ := y
  dsimp only at hf hc
  simp [Jvm.Cond.before, Jvm.Cond.holds, Jvm.Cond.value, hc, hf, h3, h5, h6]
theorem own_cases7 (p : Int32) : ((p &&& (2147483647 : Int32)) % (7 : Int32)) = (0 : Int32) ∨ ((p &&& (2147483647 : Int32)) % (7 : Int32)) = (1 : Int32) ∨ ((p &&& (2147483647 : Int32)) % (7 : Int32)) = (2 : Int32) ∨ ((p &&& (2147483647 : Int32)) % (7 : Int32)) = (3 : Int32) ∨ ((p &&& (2147483647 : Int32)) % (7 : Int32)) = (4 : Int32) ∨ ((p &&& (2147483647 : Int32)) % (7 : Int32)) = (5 : Int32) ∨ ((p &&& (2147483647 : Int32)) % (7 : Int32)) = (6 : Int32) := by
  have h1 := c_and p (2147483647 : Int32) (by decide)
  have h2 := (c_irem (p &&& (2147483647 : Int32)) (7 : Int32) 7 (by decide)).1 h1.1
  generalize ((p &&& (2147483647 : Int32)) % (7 : Int32)) = z at h2 ⊢
  have h3 : z.toInt = 0 ∨ z.toInt = 1 ∨ z.toInt = 2 ∨ z.toInt = 3 ∨ z.toInt = 4 ∨ z.toInt = 5 ∨ z.toInt = 6 := by omega
  rcases h3 with h | h | h | h | h | h | h
  · exact Or.inl (Int32.toInt_inj.mp (h.trans (by decide)))
  · exact Or.inr (Or.inl (Int32.toInt_inj.mp (h.trans (by decide))))
  · exact Or.inr (Or.inr (Or.inl (Int32.toInt_inj.mp (h.trans (by decide)))))
  · exact Or.inr (Or.inr (Or.inr (Or.inl (Int32.toInt_inj.mp (h.trans (by decide))))))
  · exact Or.inr (Or.inr (Or.inr (Or.inr (Or.inl (Int32.toInt_inj.mp (h.trans (by decide)))))))
  · exact Or.inr (Or.inr (Or.inr (Or.inr (Or.inr (Or.inl (Int32.toInt_inj.mp (h.trans (by decide))))))))
  · exact Or.inr (Or.inr (Or.inr (Or.inr (Or.inr (Or.inr ((Int32.toInt_inj.mp (h.trans (by decide)))))))))
theorem d1_0 : decode method_2_code 0 = .ok (.iload_n 0, 1) := by decide +kernel
theorem d1_1 : decode method_2_code 1 = .ok (.ifCond .ne 7, 3) := by decide +kernel
theorem d1_4 : decode method_2_code 4 = .ok (.getstatic 7, 3) := by decide +kernel
theorem d1_7 : decode method_2_code 7 = .ok (.areturn, 1) := by decide +kernel
theorem d1_8 : decode method_2_code 8 = .ok (.iload_n 0, 1) := by decide +kernel
theorem d1_9 : decode method_2_code 9 = .ok (.iconst 1, 1) := by decide +kernel
theorem d1_10 : decode method_2_code 10 = .ok (.if_icmp .ne 7, 3) := by decide +kernel
theorem d1_13 : decode method_2_code 13 = .ok (.getstatic 13, 3) := by decide +kernel
theorem d1_16 : decode method_2_code 16 = .ok (.areturn, 1) := by decide +kernel
theorem d1_17 : decode method_2_code 17 = .ok (.iload_n 0, 1) := by decide +kernel
theorem d1_18 : decode method_2_code 18 = .ok (.iconst 2, 1) := by decide +kernel
theorem d1_19 : decode method_2_code 19 = .ok (.if_icmp .ne 7, 3) := by decide +kernel
theorem d1_22 : decode method_2_code 22 = .ok (.getstatic 16, 3) := by decide +kernel
theorem d1_25 : decode method_2_code 25 = .ok (.areturn, 1) := by decide +kernel
theorem d1_26 : decode method_2_code 26 = .ok (.iload_n 0, 1) := by decide +kernel
theorem d1_27 : decode method_2_code 27 = .ok (.iconst 3, 1) := by decide +kernel
theorem d1_28 : decode method_2_code 28 = .ok (.if_icmp .ne 7, 3) := by decide +kernel
theorem d1_31 : decode method_2_code 31 = .ok (.getstatic 19, 3) := by decide +kernel
theorem d1_34 : decode method_2_code 34 = .ok (.areturn, 1) := by decide +kernel
theorem d1_35 : decode method_2_code 35 = .ok (.iload_n 0, 1) := by decide +kernel
theorem d1_36 : decode method_2_code 36 = .ok (.iconst 4, 1) := by decide +kernel
theorem d1_37 : decode method_2_code 37 = .ok (.if_icmp .ne 7, 3) := by decide +kernel
theorem d1_40 : decode method_2_code 40 = .ok (.getstatic 22, 3) := by decide +kernel
theorem d1_43 : decode method_2_code 43 = .ok (.areturn, 1) := by decide +kernel
theorem d1_44 : decode method_2_code 44 = .ok (.iload_n 0, 1) := by decide +kernel
theorem d1_45 : decode method_2_code 45 = .ok (.iconst 5, 1) := by decide +kernel
theorem d1_46 : decode method_2_code 46 = .ok (.if_icmp .ne 7, 3) := by decide +kernel
theorem d1_49 : decode method_2_code 49 = .ok (.getstatic 25, 3) := by decide +kernel
theorem d1_52 : decode method_2_code 52 = .ok (.areturn, 1) := by decide +kernel
theorem d1_53 : decode method_2_code 53 = .ok (.getstatic 28, 3) := by decide +kernel
theorem d1_56 : decode method_2_code 56 = .ok (.areturn, 1) := by decide +kernel
theorem pn_0 : plainName "com/example/kilit/kilit/ValueTypeIncludesPinLaw" = true := by first | (simp [plainName, overriddenIn]; done) | decide +kernel
theorem ef_1_I (m : MethodId) (x0 : Int32) : entryFrame m #[(.int x0)] 1 = mkF m 0 #[.val (.int x0)] [] := by first | (simp [entryFrame, mkF, argsToLocals, Value.category]; done) | rfl
def Q_pick (Z : State) (p1 : Int32) (w_INTEGER : Addr) (w_DECIMAL : Addr) (w_VARCHAR : Addr) (w_DATE : Addr) (w_TIMESTAMP : Addr) (w_BOOLEAN : Addr) (w_NULL : Addr) (r : Addr) (h0 : Heap) (n0 : Nat) (v : Option Value) (h : Heap) (L : List Loc) : Prop := v = some (.ref r) ∧ Fr n0 L ∧ h = h0
set_option maxRecDepth 65536 in
set_option maxHeartbeats 40000000 in
theorem rm_pick (l : Launch) (Z : State) (a0 : Array Value) (hw : ∀ d ∈ tables_1, d.before a0 Z = true) (ws : List Jvm.Cond) (p1 : Int32) (w_INTEGER : Addr) (w_DECIMAL : Addr) (w_VARCHAR : Addr) (w_DATE : Addr) (w_TIMESTAMP : Addr) (w_BOOLEAN : Addr) (w_NULL : Addr) (r : Addr) (h0 : Heap) (n0 : Nat) (Z0 : n0 ≤ h0.size) (S_INTEGER : Sta Z h0 "com/example/kilit/kilit/ValueType" "INTEGER" "Lcom/example/kilit/kilit/ValueType;" (.ref w_INTEGER)) (S_DECIMAL : Sta Z h0 "com/example/kilit/kilit/ValueType" "DECIMAL" "Lcom/example/kilit/kilit/ValueType;" (.ref w_DECIMAL)) (S_VARCHAR : Sta Z h0 "com/example/kilit/kilit/ValueType" "VARCHAR" "Lcom/example/kilit/kilit/ValueType;" (.ref w_VARCHAR)) (S_DATE : Sta Z h0 "com/example/kilit/kilit/ValueType" "DATE" "Lcom/example/kilit/kilit/ValueType;" (.ref w_DATE)) (S_TIMESTAMP : Sta Z h0 "com/example/kilit/kilit/ValueType" "TIMESTAMP" "Lcom/example/kilit/kilit/ValueType;" (.ref w_TIMESTAMP)) (S_BOOLEAN : Sta Z h0 "com/example/kilit/kilit/ValueType" "BOOLEAN" "Lcom/example/kilit/kilit/ValueType;" (.ref w_BOOLEAN)) (S_NULL : Sta Z h0 "com/example/kilit/kilit/ValueType" "NULL" "Lcom/example/kilit/kilit/ValueType;" (.ref w_NULL)) (hres : r = if p1 = (0 : Int32) then w_INTEGER else if p1 = (1 : Int32) then w_DECIMAL else if p1 = (2 : Int32) then w_VARCHAR else if p1 = (3 : Int32) then w_DATE else if p1 = (4 : Int32) then w_TIMESTAMP else if p1 = (5 : Int32) then w_BOOLEAN else w_NULL) :
    MetFree l (⟨"com/example/kilit/kilit/ValueTypeIncludesPinLaw", "pick", "(I)Lcom/example/kilit/kilit/ValueType;"⟩ : MethodName) (head1 (Jvm.Cond.code (⟨"com/example/kilit/kilit/ValueTypeIncludesPinLaw", "pick", "(I)Lcom/example/kilit/kilit/ValueType;"⟩ : MethodName) method_2_code 1 (some (.object "com/example/kilit/kilit/ValueType")) :: ws) ({ frames := 0, cells := 0, slots := 0, locals := 0 } : Room)) (fun A_ U => A_ = #[(.int p1)] ∧ Z.Warmed39 U.vm ∧ U.heap = h0) (fun _ _ _ _ _ => True) (fun _ U o_ U' => ∃ v_ L_, o_ = .returned v_ ∧ Q_pick Z p1 w_INTEGER w_DECIMAL w_VARCHAR w_DATE w_TIMESTAMP w_BOOLEAN w_NULL r h0 n0 v_ U'.heap L_ ∧ FrameEnd U o_ U' L_ ({ frames := 0, cells := 0, slots := 0, locals := 0 } : Room).cells ({ frames := 0, cells := 0, slots := 0, locals := 0 } : Room).slots) := by
  refine MetFree.of_bodySF (plainFor_of_name pn_0) hisR ?_
  intro p e s m args below meth c s₁ Bd hml0 hP hK
  obtain ⟨rfl, hZ, hh⟩ := hP
  have hx := Bd.exec
  have hby := Bd.bytes
  have hml : c.maxLocals = 1 := hml0
  have hown : s.vm.findClass "com/example/kilit/kilit/ValueTypeIncludesPinLaw" = some m.cls := findClass_of_methodNamed Bd.named
  have hnm := (name_of_methodNamed Bd.named Bd.method).1
  have hret := Bd.returns
  have X0 : Stand p l e ({ frames := 0, cells := 0, slots := 0, locals := 0 } : Room) s m #[(.int p1)] below meth c s₁ [] 0 0 := Stand.of_body Bd
  have e0 : s₁.heap = h0 := by rw [← hh, Bd.state]; rfl
  have N0 := Fr.nil n0
  have pre0 : ∀ t, Sp p e below s₁ (mkF m 0 #[.val (.int p1)] []) t → Sp p e below s₁ (entryFrame m #[(.int p1)] 1) t := fun t k => castTop (ef_1_I m p1) k
  have r1 : ∀ t, Sp p e below s₁ (mkF m 1 #[.val (.int p1)] [(.int p1)]) t → Sp p e below s₁ (entryFrame m #[(.int p1)] 1) t := by
    intro t k
    refine pre0 _ ?_
    refine XS.iloadN X0.here hx rfl (hb hby d1_0) rfl ?_
    show Sp p e below s₁ (mkF m 1 #[.val (.int p1)] [(.int p1)]) _
    exact k
  by_cases c2 : p1 = (0 : Int32)
  · obtain ⟨Tg3, Xg3, eg3, stg3⟩ := getS2 X0 hx hZ hown (host := "") (Or.inl (hw _ (List.mem_of_getElem? (i := 5) rfl))) Via.refl e0 S_INTEGER (g := (mkF m 4 #[.val (.int p1)] [])) rfl (hb hby d1_4)
    obtain ⟨fs, hlv, hrun, hended, hW, hsame⟩ := Xg3.leave (v := some (.ref w_INTEGER)) (fun h => by rw [hret] at h; cases h)
    refine ⟨_, _, r1 _ ?_, hrun, hended, _, _, rfl, ?_, ⟨_, rfl⟩, hW, hsame.mono (by decide) (by decide)⟩
    · refine XS.ifNo X0.here hx rfl (hb hby d1_1) rfl ((if0 _ _).trans (teq c2).2) ?_
      show Sp p e below s₁ (mkF m 4 #[.val (.int p1)] []) _
      refine stg3 _ ?_
      show Sp p e below Tg3 (mkF m 7 #[.val (.int p1)] [(.ref w_INTEGER)]) _
      jvm_step Xg3.here [Xg3.here.top, hx, (hb hby d1_7), Xg3.method', hret, Value.isRef, FieldType.isReference]
      first | (intro acts; rw [hlv _ acts rfl rfl rfl]) | rw [hlv _ _ rfl rfl rfl]
      exact Steps.refl _
    · show Q_pick Z p1 w_INTEGER w_DECIMAL w_VARCHAR w_DATE w_TIMESTAMP w_BOOLEAN w_NULL r h0 n0 _ Tg3.heap _
      rw [eg3]
      exact ⟨by rw [hres]; simp [c2], N0, rfl⟩
  · have r4 : ∀ t, Sp p e below s₁ (mkF m 10 #[.val (.int p1)] [(.int (1 : Int32)), (.int p1)]) t → Sp p e below s₁ (entryFrame m #[(.int p1)] 1) t := by
      intro t k
      refine r1 _ ?_
      refine XS.ifYes X0.here hx rfl (pc0 := 1) (pc' := 8) rfl (hb hby d1_1) rfl ((if0 _ _).trans (feq c2).2) (by decide) (by decide) ?_
      show Sp p e below s₁ (mkF m 8 #[.val (.int p1)] []) _
      refine XS.iloadN X0.here hx rfl (hb hby d1_8) rfl ?_
      show Sp p e below s₁ (mkF m 9 #[.val (.int p1)] [(.int p1)]) _
      refine XS.iconst X0.here hx rfl (hb hby d1_9) ?_
      show Sp p e below s₁ (mkF m 10 #[.val (.int p1)] [(.int (1 : Int32)), (.int p1)]) _
      exact k
    by_cases c5 : p1 = (1 : Int32)
    · obtain ⟨Tg6, Xg6, eg6, stg6⟩ := getS2 X0 hx hZ hown (host := "") (Or.inl (hw _ (List.mem_of_getElem? (i := 17) rfl))) Via.refl e0 S_DECIMAL (g := (mkF m 13 #[.val (.int p1)] [])) rfl (hb hby d1_13)
      obtain ⟨fs, hlv, hrun, hended, hW, hsame⟩ := Xg6.leave (v := some (.ref w_DECIMAL)) (fun h => by rw [hret] at h; cases h)
      refine ⟨_, _, r4 _ ?_, hrun, hended, _, _, rfl, ?_, ⟨_, rfl⟩, hW, hsame.mono (by decide) (by decide)⟩
      · refine XS.icmpNo X0.here hx rfl (hb hby d1_10) rfl (teq c5).2 ?_
        show Sp p e below s₁ (mkF m 13 #[.val (.int p1)] []) _
        refine stg6 _ ?_
        show Sp p e below Tg6 (mkF m 16 #[.val (.int p1)] [(.ref w_DECIMAL)]) _
        jvm_step Xg6.here [Xg6.here.top, hx, (hb hby d1_16), Xg6.method', hret, Value.isRef, FieldType.isReference]
        first | (intro acts; rw [hlv _ acts rfl rfl rfl]) | rw [hlv _ _ rfl rfl rfl]
        exact Steps.refl _
      · show Q_pick Z p1 w_INTEGER w_DECIMAL w_VARCHAR w_DATE w_TIMESTAMP w_BOOLEAN w_NULL r h0 n0 _ Tg6.heap _
        rw [eg6]
        exact ⟨by rw [hres]; simp [c2, c5], N0, rfl⟩
    · have r7 : ∀ t, Sp p e below s₁ (mkF m 19 #[.val (.int p1)] [(.int (2 : Int32)), (.int p1)]) t → Sp p e below s₁ (entryFrame m #[(.int p1)] 1) t := by
        intro t k
        refine r4 _ ?_
        refine XS.icmpYes X0.here hx rfl (pc0 := 10) (pc' := 17) rfl (hb hby d1_10) rfl (feq c5).2 (by decide) (by decide) ?_
        show Sp p e below s₁ (mkF m 17 #[.val (.int p1)] []) _
        refine XS.iloadN X0.here hx rfl (hb hby d1_17) rfl ?_
        show Sp p e below s₁ (mkF m 18 #[.val (.int p1)] [(.int p1)]) _
        refine XS.iconst X0.here hx rfl (hb hby d1_18) ?_
        show Sp p e below s₁ (mkF m 19 #[.val (.int p1)] [(.int (2 : Int32)), (.int p1)]) _
        exact k
      by_cases c8 : p1 = (2 : Int32)
      · obtain ⟨Tg9, Xg9, eg9, stg9⟩ := getS2 X0 hx hZ hown (host := "") (Or.inl (hw _ (List.mem_of_getElem? (i := 22) rfl))) Via.refl e0 S_VARCHAR (g := (mkF m 22 #[.val (.int p1)] [])) rfl (hb hby d1_22)
        obtain ⟨fs, hlv, hrun, hended, hW, hsame⟩ := Xg9.leave (v := some (.ref w_VARCHAR)) (fun h => by rw [hret] at h; cases h)
        refine ⟨_, _, r7 _ ?_, hrun, hended, _, _, rfl, ?_, ⟨_, rfl⟩, hW, hsame.mono (by decide) (by decide)⟩
        · refine XS.icmpNo X0.here hx rfl (hb hby d1_19) rfl (teq c8).2 ?_
          show Sp p e below s₁ (mkF m 22 #[.val (.int p1)] []) _
          refine stg9 _ ?_
          show Sp p e below Tg9 (mkF m 25 #[.val (.int p1)] [(.ref w_VARCHAR)]) _
          jvm_step Xg9.here [Xg9.here.top, hx, (hb hby d1_25), Xg9.method', hret, Value.isRef, FieldType.isReference]
          first | (intro acts; rw [hlv _ acts rfl rfl rfl]) | rw [hlv _ _ rfl rfl rfl]
          exact Steps.refl _
        · show Q_pick Z p1 w_INTEGER w_DECIMAL w_VARCHAR w_DATE w_TIMESTAMP w_BOOLEAN w_NULL r h0 n0 _ Tg9.heap _
          rw [eg9]
          exact ⟨by rw [hres]; simp [c2, c5, c8], N0, rfl⟩
      · have r10 : ∀ t, Sp p e below s₁ (mkF m 28 #[.val (.int p1)] [(.int (3 : Int32)), (.int p1)]) t → Sp p e below s₁ (entryFrame m #[(.int p1)] 1) t := by
          intro t k
          refine r7 _ ?_
          refine XS.icmpYes X0.here hx rfl (pc0 := 19) (pc' := 26) rfl (hb hby d1_19) rfl (feq c8).2 (by decide) (by decide) ?_
          show Sp p e below s₁ (mkF m 26 #[.val (.int p1)] []) _
          refine XS.iloadN X0.here hx rfl (hb hby d1_26) rfl ?_
          show Sp p e below s₁ (mkF m 27 #[.val (.int p1)] [(.int p1)]) _
          refine XS.iconst X0.here hx rfl (hb hby d1_27) ?_
          show Sp p e below s₁ (mkF m 28 #[.val (.int p1)] [(.int (3 : Int32)), (.int p1)]) _
          exact k
        by_cases c11 : p1 = (3 : Int32)
        · obtain ⟨Tg12, Xg12, eg12, stg12⟩ := getS2 X0 hx hZ hown (host := "") (Or.inl (hw _ (List.mem_of_getElem? (i := 8) rfl))) Via.refl e0 S_DATE (g := (mkF m 31 #[.val (.int p1)] [])) rfl (hb hby d1_31)
          obtain ⟨fs, hlv, hrun, hended, hW, hsame⟩ := Xg12.leave (v := some (.ref w_DATE)) (fun h => by rw [hret] at h; cases h)
          refine ⟨_, _, r10 _ ?_, hrun, hended, _, _, rfl, ?_, ⟨_, rfl⟩, hW, hsame.mono (by decide) (by decide)⟩
          · refine XS.icmpNo X0.here hx rfl (hb hby d1_28) rfl (teq c11).2 ?_
            show Sp p e below s₁ (mkF m 31 #[.val (.int p1)] []) _
            refine stg12 _ ?_
            show Sp p e below Tg12 (mkF m 34 #[.val (.int p1)] [(.ref w_DATE)]) _
            jvm_step Xg12.here [Xg12.here.top, hx, (hb hby d1_34), Xg12.method', hret, Value.isRef, FieldType.isReference]
            first | (intro acts; rw [hlv _ acts rfl rfl rfl]) | rw [hlv _ _ rfl rfl rfl]
            exact Steps.refl _
          · show Q_pick Z p1 w_INTEGER w_DECIMAL w_VARCHAR w_DATE w_TIMESTAMP w_BOOLEAN w_NULL r h0 n0 _ Tg12.heap _
            rw [eg12]
            exact ⟨by rw [hres]; simp [c2, c5, c8, c11], N0, rfl⟩
        · have r13 : ∀ t, Sp p e below s₁ (mkF m 37 #[.val (.int p1)] [(.int (4 : Int32)), (.int p1)]) t → Sp p e below s₁ (entryFrame m #[(.int p1)] 1) t := by
            intro t k
            refine r10 _ ?_
            refine XS.icmpYes X0.here hx rfl (pc0 := 28) (pc' := 35) rfl (hb hby d1_28) rfl (feq c11).2 (by decide) (by decide) ?_
            show Sp p e below s₁ (mkF m 35 #[.val (.int p1)] []) _
            refine XS.iloadN X0.here hx rfl (hb hby d1_35) rfl ?_
            show Sp p e below s₁ (mkF m 36 #[.val (.int p1)] [(.int p1)]) _
            refine XS.iconst X0.here hx rfl (hb hby d1_36) ?_
            show Sp p e below s₁ (mkF m 37 #[.val (.int p1)] [(.int (4 : Int32)), (.int p1)]) _
            exact k
          by_cases c14 : p1 = (4 : Int32)
          · obtain ⟨Tg15, Xg15, eg15, stg15⟩ := getS2 X0 hx hZ hown (host := "") (Or.inl (hw _ (List.mem_of_getElem? (i := 32) rfl))) Via.refl e0 S_TIMESTAMP (g := (mkF m 40 #[.val (.int p1)] [])) rfl (hb hby d1_40)
            obtain ⟨fs, hlv, hrun, hended, hW, hsame⟩ := Xg15.leave (v := some (.ref w_TIMESTAMP)) (fun h => by rw [hret] at h; cases h)
            refine ⟨_, _, r13 _ ?_, hrun, hended, _, _, rfl, ?_, ⟨_, rfl⟩, hW, hsame.mono (by decide) (by decide)⟩
            · refine XS.icmpNo X0.here hx rfl (hb hby d1_37) rfl (teq c14).2 ?_
              show Sp p e below s₁ (mkF m 40 #[.val (.int p1)] []) _
              refine stg15 _ ?_
              show Sp p e below Tg15 (mkF m 43 #[.val (.int p1)] [(.ref w_TIMESTAMP)]) _
              jvm_step Xg15.here [Xg15.here.top, hx, (hb hby d1_43), Xg15.method', hret, Value.isRef, FieldType.isReference]
              first | (intro acts; rw [hlv _ acts rfl rfl rfl]) | rw [hlv _ _ rfl rfl rfl]
              exact Steps.refl _
            · show Q_pick Z p1 w_INTEGER w_DECIMAL w_VARCHAR w_DATE w_TIMESTAMP w_BOOLEAN w_NULL r h0 n0 _ Tg15.heap _
              rw [eg15]
              exact ⟨by rw [hres]; simp [c2, c5, c8, c11, c14], N0, rfl⟩
          · have r16 : ∀ t, Sp p e below s₁ (mkF m 46 #[.val (.int p1)] [(.int (5 : Int32)), (.int p1)]) t → Sp p e below s₁ (entryFrame m #[(.int p1)] 1) t := by
              intro t k
              refine r13 _ ?_
              refine XS.icmpYes X0.here hx rfl (pc0 := 37) (pc' := 44) rfl (hb hby d1_37) rfl (feq c14).2 (by decide) (by decide) ?_
              show Sp p e below s₁ (mkF m 44 #[.val (.int p1)] []) _
              refine XS.iloadN X0.here hx rfl (hb hby d1_44) rfl ?_
              show Sp p e below s₁ (mkF m 45 #[.val (.int p1)] [(.int p1)]) _
              refine XS.iconst X0.here hx rfl (hb hby d1_45) ?_
              show Sp p e below s₁ (mkF m 46 #[.val (.int p1)] [(.int (5 : Int32)), (.int p1)]) _
              exact k
            by_cases c17 : p1 = (5 : Int32)
            · obtain ⟨Tg18, Xg18, eg18, stg18⟩ := getS2 X0 hx hZ hown (host := "") (Or.inl (hw _ (List.mem_of_getElem? (i := 19) rfl))) Via.refl e0 S_BOOLEAN (g := (mkF m 49 #[.val (.int p1)] [])) rfl (hb hby d1_49)
              obtain ⟨fs, hlv, hrun, hended, hW, hsame⟩ := Xg18.leave (v := some (.ref w_BOOLEAN)) (fun h => by rw [hret] at h; cases h)
              refine ⟨_, _, r16 _ ?_, hrun, hended, _, _, rfl, ?_, ⟨_, rfl⟩, hW, hsame.mono (by decide) (by decide)⟩
              · refine XS.icmpNo X0.here hx rfl (hb hby d1_46) rfl (teq c17).2 ?_
                show Sp p e below s₁ (mkF m 49 #[.val (.int p1)] []) _
                refine stg18 _ ?_
                show Sp p e below Tg18 (mkF m 52 #[.val (.int p1)] [(.ref w_BOOLEAN)]) _
                jvm_step Xg18.here [Xg18.here.top, hx, (hb hby d1_52), Xg18.method', hret, Value.isRef, FieldType.isReference]
                first | (intro acts; rw [hlv _ acts rfl rfl rfl]) | rw [hlv _ _ rfl rfl rfl]
                exact Steps.refl _
              · show Q_pick Z p1 w_INTEGER w_DECIMAL w_VARCHAR w_DATE w_TIMESTAMP w_BOOLEAN w_NULL r h0 n0 _ Tg18.heap _
                rw [eg18]
                exact ⟨by rw [hres]; simp [c2, c5, c8, c11, c14, c17], N0, rfl⟩
            · obtain ⟨Tg19, Xg19, eg19, stg19⟩ := getS2 X0 hx hZ hown (host := "") (Or.inl (hw _ (List.mem_of_getElem? (i := 42) rfl))) Via.refl e0 S_NULL (g := (mkF m 53 #[.val (.int p1)] [])) rfl (hb hby d1_53)
              obtain ⟨fs, hlv, hrun, hended, hW, hsame⟩ := Xg19.leave (v := some (.ref w_NULL)) (fun h => by rw [hret] at h; cases h)
              refine ⟨_, _, r16 _ ?_, hrun, hended, _, _, rfl, ?_, ⟨_, rfl⟩, hW, hsame.mono (by decide) (by decide)⟩
              · refine XS.icmpYes X0.here hx rfl (pc0 := 46) (pc' := 53) rfl (hb hby d1_46) rfl (feq c17).2 (by decide) (by decide) ?_
                show Sp p e below s₁ (mkF m 53 #[.val (.int p1)] []) _
                refine stg19 _ ?_
                show Sp p e below Tg19 (mkF m 56 #[.val (.int p1)] [(.ref w_NULL)]) _
                jvm_step Xg19.here [Xg19.here.top, hx, (hb hby d1_56), Xg19.method', hret, Value.isRef, FieldType.isReference]
                first | (intro acts; rw [hlv _ acts rfl rfl rfl]) | rw [hlv _ _ rfl rfl rfl]
                exact Steps.refl _
              · show Q_pick Z p1 w_INTEGER w_DECIMAL w_VARCHAR w_DATE w_TIMESTAMP w_BOOLEAN w_NULL r h0 n0 _ Tg19.heap _
                rw [eg19]
                exact ⟨by rw [hres]; simp [c2, c5, c8, c11, c14, c17], N0, rfl⟩
theorem d2_0 : decode prog_255_method_22_code 0 = .ok (.aload_n 1, 1) := by decide +kernel
theorem d2_1 : decode prog_255_method_22_code 1 = .ok (.aload_n 0, 1) := by decide +kernel
theorem d2_2 : decode prog_255_method_22_code 2 = .ok (.if_acmp .eq 10, 3) := by decide +kernel
theorem d2_5 : decode prog_255_method_22_code 5 = .ok (.aload_n 1, 1) := by decide +kernel
theorem d2_6 : decode prog_255_method_22_code 6 = .ok (.getstatic 26, 3) := by decide +kernel
theorem d2_9 : decode prog_255_method_22_code 9 = .ok (.if_acmp .ne 7, 3) := by decide +kernel
theorem d2_12 : decode prog_255_method_22_code 12 = .ok (.iconst 1, 1) := by decide +kernel
theorem d2_13 : decode prog_255_method_22_code 13 = .ok (.goto 4, 3) := by decide +kernel
theorem d2_16 : decode prog_255_method_22_code 16 = .ok (.iconst 0, 1) := by decide +kernel
theorem d2_17 : decode prog_255_method_22_code 17 = .ok (.ireturn, 1) := by decide +kernel
theorem pn_1 : plainName "com/example/kilit/kilit/ValueType" = true := by first | (simp [plainName, overriddenIn]; done) | decide +kernel
theorem ef_2_RR (m : MethodId) (x0 : Addr) (x1 : Addr) : entryFrame m #[(.ref x0), (.ref x1)] 2 = mkF m 0 #[.val (.ref x0), .val (.ref x1)] [] := by first | (simp [entryFrame, mkF, argsToLocals, Value.category]; done) | rfl
def Q_base (Z : State) (a : Addr) (o : Addr) (w_NULL : Addr) (r : Int32) (h0 : Heap) (n0 : Nat) (v : Option Value) (h : Heap) (L : List Loc) : Prop := v = some (.int r) ∧ Fr n0 L ∧ h = h0
set_option maxRecDepth 65536 in
set_option maxHeartbeats 40000000 in
theorem rm_base (l : Launch) (Z : State) (a0 : Array Value) (hw : ∀ d ∈ tables_1, d.before a0 Z = true) (ws : List Jvm.Cond) (a : Addr) (o : Addr) (w_NULL : Addr) (r : Int32) (h0 : Heap) (n0 : Nat) (Z0 : n0 ≤ h0.size) (S_NULL : Sta Z h0 "com/example/kilit/kilit/ValueType" "NULL" "Lcom/example/kilit/kilit/ValueType;" (.ref w_NULL)) (hres : r = if o = a then (1 : Int32) else if o = w_NULL then 1 else 0) :
    MetFree l (⟨"com/example/kilit/kilit/ValueType", "includes", "(Lcom/example/kilit/kilit/ValueType;)Z"⟩ : MethodName) (head1 (Jvm.Cond.code (⟨"com/example/kilit/kilit/ValueType", "includes", "(Lcom/example/kilit/kilit/ValueType;)Z"⟩ : MethodName) prog_255_method_22_code 2 (some .boolean) :: ws) ({ frames := 0, cells := 0, slots := 0, locals := 0 } : Room)) (fun A_ U => A_ = #[(.ref a), (.ref o)] ∧ Z.Warmed39 U.vm ∧ U.heap = h0) (fun _ _ _ _ _ => True) (fun _ U o_ U' => ∃ v_ L_, o_ = .returned v_ ∧ Q_base Z a o w_NULL r h0 n0 v_ U'.heap L_ ∧ FrameEnd U o_ U' L_ ({ frames := 0, cells := 0, slots := 0, locals := 0 } : Room).cells ({ frames := 0, cells := 0, slots := 0, locals := 0 } : Room).slots) := by
  refine MetFree.of_bodySF (plainFor_of_name pn_1) hisR ?_
  intro p e s m args below meth c s₁ Bd hml0 hP hK
  obtain ⟨rfl, hZ, hh⟩ := hP
  have hx := Bd.exec
  have hby := Bd.bytes
  have hml : c.maxLocals = 2 := hml0
  have hown : s.vm.findClass "com/example/kilit/kilit/ValueType" = some m.cls := findClass_of_methodNamed Bd.named
  have hnm := (name_of_methodNamed Bd.named Bd.method).1
  have hret := Bd.returns
  have X0 : Stand p l e ({ frames := 0, cells := 0, slots := 0, locals := 0 } : Room) s m #[(.ref a), (.ref o)] below meth c s₁ [] 0 0 := Stand.of_body Bd
  have e0 : s₁.heap = h0 := by rw [← hh, Bd.state]; rfl
  have N0 := Fr.nil n0
  have pre0 : ∀ t, Sp p e below s₁ (mkF m 0 #[.val (.ref a), .val (.ref o)] []) t → Sp p e below s₁ (entryFrame m #[(.ref a), (.ref o)] 2) t := fun t k => castTop (ef_2_RR m a o) k
  have r1 : ∀ t, Sp p e below s₁ (mkF m 2 #[.val (.ref a), .val (.ref o)] [(.ref a), (.ref o)]) t → Sp p e below s₁ (entryFrame m #[(.ref a), (.ref o)] 2) t := by
    intro t k
    refine pre0 _ ?_
    refine XS.aloadN X0.here hx rfl (hb hby d2_0) rfl rfl ?_
    show Sp p e below s₁ (mkF m 1 #[.val (.ref a), .val (.ref o)] [(.ref o)]) _
    refine XS.aloadN X0.here hx rfl (hb hby d2_1) rfl rfl ?_
    show Sp p e below s₁ (mkF m 2 #[.val (.ref a), .val (.ref o)] [(.ref a), (.ref o)]) _
    exact k
  by_cases c2 : o = a
  · obtain ⟨fs, hlv, hrun, hended, hW, hsame⟩ := X0.leave (v := some (.int (1 : Int32))) (fun h => by rw [hret] at h; cases h)
    refine ⟨_, _, r1 _ ?_, hrun, hended, _, _, rfl, ?_, ⟨_, rfl⟩, hW, hsame.mono (by decide) (by decide)⟩
    · refine Jvm.RoadKit.acmp (g := (mkF m 2 #[.val (.ref a), .val (.ref o)] [(.ref a), (.ref o)])) X0 hx rfl rfl rfl (pc0 := 2) (pc' := 12) (same := true) rfl (hb hby d2_2) rfl (decide_eq_true (congrArg Value.ref c2)) (by decide) (by decide) ?_
      show Sp p e below s₁ (mkF m 12 #[.val (.ref a), .val (.ref o)] []) _
      refine XS.iconst X0.here hx rfl (hb hby d2_12) ?_
      show Sp p e below s₁ (mkF m 13 #[.val (.ref a), .val (.ref o)] [(.int (1 : Int32))]) _
      refine XS.goto X0.here hx rfl (pc0 := 13) (pc' := 17) rfl (hb hby d2_13) (by decide) (by decide) ?_
      show Sp p e below s₁ (mkF m 17 #[.val (.ref a), .val (.ref o)] [(.int (1 : Int32))]) _
      exact retN X0 hx (t := .boolean) hret (by simp) (hb hby d2_17) hlv
    · show Q_base Z a o w_NULL r h0 n0 _ s₁.heap _
      rw [e0]
      exact ⟨by rw [hres]; simp [c2], N0, rfl⟩
  · obtain ⟨Tg3, Xg3, eg3, stg3⟩ := getS2 X0 hx hZ hown (host := "") (Or.inl (hw _ (List.mem_of_getElem? (i := 15) rfl))) Via.refl e0 S_NULL (g := (mkF m 6 #[.val (.ref a), .val (.ref o)] [(.ref o)])) rfl (hb hby d2_6)
    have r4 : ∀ t, Sp p e below Tg3 (mkF m 9 #[.val (.ref a), .val (.ref o)] [(.ref w_NULL), (.ref o)]) t → Sp p e below s₁ (entryFrame m #[(.ref a), (.ref o)] 2) t := by
      intro t k
      refine r1 _ ?_
      refine Jvm.RoadKit.acmp (g := (mkF m 2 #[.val (.ref a), .val (.ref o)] [(.ref a), (.ref o)])) X0 hx rfl rfl rfl (pc0 := 2) (pc' := 5) (same := false) rfl (hb hby d2_2) rfl (decide_eq_false fun q => c2 (Value.ref.inj q)) (by decide) (by decide) ?_
      show Sp p e below s₁ (mkF m 5 #[.val (.ref a), .val (.ref o)] []) _
      refine XS.aloadN X0.here hx rfl (hb hby d2_5) rfl rfl ?_
      show Sp p e below s₁ (mkF m 6 #[.val (.ref a), .val (.ref o)] [(.ref o)]) _
      refine stg3 _ ?_
      show Sp p e below Tg3 (mkF m 9 #[.val (.ref a), .val (.ref o)] [(.ref w_NULL), (.ref o)]) _
      exact k
    by_cases c5 : o = w_NULL
    · obtain ⟨fs, hlv, hrun, hended, hW, hsame⟩ := Xg3.leave (v := some (.int (1 : Int32))) (fun h => by rw [hret] at h; cases h)
      refine ⟨_, _, r4 _ ?_, hrun, hended, _, _, rfl, ?_, ⟨_, rfl⟩, hW, hsame.mono (by decide) (by decide)⟩
      · refine Jvm.RoadKit.acmp (g := (mkF m 9 #[.val (.ref a), .val (.ref o)] [(.ref w_NULL), (.ref o)])) Xg3 hx rfl rfl rfl (pc0 := 9) (pc' := 12) (same := true) rfl (hb hby d2_9) rfl (decide_eq_true (congrArg Value.ref c5)) (by decide) (by decide) ?_
        show Sp p e below Tg3 (mkF m 12 #[.val (.ref a), .val (.ref o)] []) _
        refine XS.iconst Xg3.here hx rfl (hb hby d2_12) ?_
        show Sp p e below Tg3 (mkF m 13 #[.val (.ref a), .val (.ref o)] [(.int (1 : Int32))]) _
        refine XS.goto Xg3.here hx rfl (pc0 := 13) (pc' := 17) rfl (hb hby d2_13) (by decide) (by decide) ?_
        show Sp p e below Tg3 (mkF m 17 #[.val (.ref a), .val (.ref o)] [(.int (1 : Int32))]) _
        exact retN Xg3 hx (t := .boolean) hret (by simp) (hb hby d2_17) hlv
      · show Q_base Z a o w_NULL r h0 n0 _ Tg3.heap _
        rw [eg3]
        exact ⟨by rw [hres]; simp [c2, c5], N0, rfl⟩
    · obtain ⟨fs, hlv, hrun, hended, hW, hsame⟩ := Xg3.leave (v := some (.int (0 : Int32))) (fun h => by rw [hret] at h; cases h)
      refine ⟨_, _, r4 _ ?_, hrun, hended, _, _, rfl, ?_, ⟨_, rfl⟩, hW, hsame.mono (by decide) (by decide)⟩
      · refine Jvm.RoadKit.acmp (g := (mkF m 9 #[.val (.ref a), .val (.ref o)] [(.ref w_NULL), (.ref o)])) Xg3 hx rfl rfl rfl (pc0 := 9) (pc' := 16) (same := false) rfl (hb hby d2_9) rfl (decide_eq_false fun q => c5 (Value.ref.inj q)) (by decide) (by decide) ?_
        show Sp p e below Tg3 (mkF m 16 #[.val (.ref a), .val (.ref o)] []) _
        refine XS.iconst Xg3.here hx rfl (hb hby d2_16) ?_
        show Sp p e below Tg3 (mkF m 17 #[.val (.ref a), .val (.ref o)] [(.int (0 : Int32))]) _
        exact retN Xg3 hx (t := .boolean) hret (by simp) (hb hby d2_17) hlv
      · show Q_base Z a o w_NULL r h0 n0 _ Tg3.heap _
        rw [eg3]
        exact ⟨by rw [hres]; simp [c2, c5], N0, rfl⟩
theorem d3_0 : decode prog_257_method_2_code 0 = .ok (.aload_n 1, 1) := by decide +kernel
theorem d3_1 : decode prog_257_method_2_code 1 = .ok (.getstatic 7, 3) := by decide +kernel
theorem d3_4 : decode prog_257_method_2_code 4 = .ok (.if_acmp .eq 11, 3) := by decide +kernel
theorem d3_7 : decode prog_257_method_2_code 7 = .ok (.aload_n 0, 1) := by decide +kernel
theorem d3_8 : decode prog_257_method_2_code 8 = .ok (.aload_n 1, 1) := by decide +kernel
theorem d3_9 : decode prog_257_method_2_code 9 = .ok (.invokespecial 13, 3) := by decide +kernel
theorem d3_12 : decode prog_257_method_2_code 12 = .ok (.ifCond .eq 7, 3) := by decide +kernel
theorem d3_15 : decode prog_257_method_2_code 15 = .ok (.iconst 1, 1) := by decide +kernel
theorem d3_16 : decode prog_257_method_2_code 16 = .ok (.goto 4, 3) := by decide +kernel
theorem d3_19 : decode prog_257_method_2_code 19 = .ok (.iconst 0, 1) := by decide +kernel
theorem d3_20 : decode prog_257_method_2_code 20 = .ok (.ireturn, 1) := by decide +kernel
theorem pn_2 : plainName "com/example/kilit/kilit/ValueType$2" = true := by first | (simp [plainName, overriddenIn]; done) | decide +kernel
theorem ef_3_RR (m : MethodId) (x0 : Addr) (x1 : Addr) : entryFrame m #[(.ref x0), (.ref x1)] 2 = mkF m 0 #[.val (.ref x0), .val (.ref x1)] [] := by first | (simp [entryFrame, mkF, argsToLocals, Value.category]; done) | rfl
theorem pd__Lcom_example_kilit_kilit_ValueType__Z : parseMethodDescriptor "(Lcom/example/kilit/kilit/ValueType;)Z" = some ⟨[(.object "com/example/kilit/kilit/ValueType")], some .boolean⟩ := by decide +kernel
def Q_inc2 (Z : State) (a : Addr) (o : Addr) (w_INTEGER : Addr) (w_NULL : Addr) (r : Int32) (h0 : Heap) (n0 : Nat) (v : Option Value) (h : Heap) (L : List Loc) : Prop := v = some (.int r) ∧ Fr n0 L ∧ h = h0
set_option maxRecDepth 65536 in
set_option maxHeartbeats 40000000 in
theorem rm_inc2 (l : Launch) (Z : State) (a0 : Array Value) (hw : ∀ d ∈ tables_1, d.before a0 Z = true) (ws : List Jvm.Cond) (a : Addr) (o : Addr) (w_INTEGER : Addr) (w_NULL : Addr) (r : Int32) (h0 : Heap) (n0 : Nat) (Z0 : n0 ≤ h0.size) (S_INTEGER : Sta Z h0 "com/example/kilit/kilit/ValueType" "INTEGER" "Lcom/example/kilit/kilit/ValueType;" (.ref w_INTEGER)) (S_NULL : Sta Z h0 "com/example/kilit/kilit/ValueType" "NULL" "Lcom/example/kilit/kilit/ValueType;" (.ref w_NULL)) (E_a : Exa Z h0 a "com/example/kilit/kilit/ValueType$2") (hres : r = if o = w_INTEGER then (1 : Int32) else if (if o = a then (1 : Int32) else if o = w_NULL then 1 else 0) = 0 then 0 else 1) :
    MetFree l (⟨"com/example/kilit/kilit/ValueType$2", "includes", "(Lcom/example/kilit/kilit/ValueType;)Z"⟩ : MethodName) (head1 (Jvm.Cond.code (⟨"com/example/kilit/kilit/ValueType$2", "includes", "(Lcom/example/kilit/kilit/ValueType;)Z"⟩ : MethodName) prog_257_method_2_code 2 (some .boolean) :: ws) ({ frames := 1, cells := 0, slots := 0, locals := 13 } : Room)) (fun A_ U => A_ = #[(.ref a), (.ref o)] ∧ Z.Warmed39 U.vm ∧ U.heap = h0) (fun _ _ _ _ _ => True) (fun _ U o_ U' => ∃ v_ L_, o_ = .returned v_ ∧ Q_inc2 Z a o w_INTEGER w_NULL r h0 n0 v_ U'.heap L_ ∧ FrameEnd U o_ U' L_ ({ frames := 1, cells := 0, slots := 0, locals := 13 } : Room).cells ({ frames := 1, cells := 0, slots := 0, locals := 13 } : Room).slots) := by
  refine MetFree.of_bodySF (plainFor_of_name pn_2) hisR ?_
  intro p e s m args below meth c s₁ Bd hml0 hP hK
  obtain ⟨rfl, hZ, hh⟩ := hP
  have hx := Bd.exec
  have hby := Bd.bytes
  have hml : c.maxLocals = 2 := hml0
  have hown : s.vm.findClass "com/example/kilit/kilit/ValueType$2" = some m.cls := findClass_of_methodNamed Bd.named
  have hnm := (name_of_methodNamed Bd.named Bd.method).1
  have hret := Bd.returns
  have X0 : Stand p l e ({ frames := 1, cells := 0, slots := 0, locals := 13 } : Room) s m #[(.ref a), (.ref o)] below meth c s₁ [] 0 0 := Stand.of_body Bd
  have e0 : s₁.heap = h0 := by rw [← hh, Bd.state]; rfl
  have N0 := Fr.nil n0
  have pre0 : ∀ t, Sp p e below s₁ (mkF m 0 #[.val (.ref a), .val (.ref o)] []) t → Sp p e below s₁ (entryFrame m #[(.ref a), (.ref o)] 2) t := fun t k => castTop (ef_3_RR m a o) k
  obtain ⟨Tg1, Xg1, eg1, stg1⟩ := getS2 X0 hx hZ hown (host := "") (Or.inl (hw _ (List.mem_of_getElem? (i := 28) rfl))) (Via.of (hw _ (List.mem_of_getElem? (i := 29) rfl))) e0 S_INTEGER (g := (mkF m 1 #[.val (.ref a), .val (.ref o)] [(.ref o)])) rfl (hb hby d3_1)
  have r2 : ∀ t, Sp p e below Tg1 (mkF m 4 #[.val (.ref a), .val (.ref o)] [(.ref w_INTEGER), (.ref o)]) t → Sp p e below s₁ (entryFrame m #[(.ref a), (.ref o)] 2) t := by
    intro t k
    refine pre0 _ ?_
    refine XS.aloadN X0.here hx rfl (hb hby d3_0) rfl rfl ?_
    show Sp p e below s₁ (mkF m 1 #[.val (.ref a), .val (.ref o)] [(.ref o)]) _
    refine stg1 _ ?_
    show Sp p e below Tg1 (mkF m 4 #[.val (.ref a), .val (.ref o)] [(.ref w_INTEGER), (.ref o)]) _
    exact k
  by_cases c3 : o = w_INTEGER
  · obtain ⟨fs, hlv, hrun, hended, hW, hsame⟩ := Xg1.leave (v := some (.int (1 : Int32))) (fun h => by rw [hret] at h; cases h)
    refine ⟨_, _, r2 _ ?_, hrun, hended, _, _, rfl, ?_, ⟨_, rfl⟩, hW, hsame.mono (by decide) (by decide)⟩
    · refine Jvm.RoadKit.acmp (g := (mkF m 4 #[.val (.ref a), .val (.ref o)] [(.ref w_INTEGER), (.ref o)])) Xg1 hx rfl rfl rfl (pc0 := 4) (pc' := 15) (same := true) rfl (hb hby d3_4) rfl (decide_eq_true (congrArg Value.ref c3)) (by decide) (by decide) ?_
      show Sp p e below Tg1 (mkF m 15 #[.val (.ref a), .val (.ref o)] []) _
      refine XS.iconst Xg1.here hx rfl (hb hby d3_15) ?_
      show Sp p e below Tg1 (mkF m 16 #[.val (.ref a), .val (.ref o)] [(.int (1 : Int32))]) _
      refine XS.goto Xg1.here hx rfl (pc0 := 16) (pc' := 20) rfl (hb hby d3_16) (by decide) (by decide) ?_
      show Sp p e below Tg1 (mkF m 20 #[.val (.ref a), .val (.ref o)] [(.int (1 : Int32))]) _
      exact retN Xg1 hx (t := .boolean) hret (by simp) (hb hby d3_20) hlv
    · show Q_inc2 Z a o w_INTEGER w_NULL r h0 n0 _ Tg1.heap _
      rw [eg1]
      exact ⟨by rw [hres]; simp [c3], N0, rfl⟩
  · obtain ⟨rb, hb0⟩ : ∃ z : Int32, z = if o = a then (1 : Int32) else if o = w_NULL then 1 else 0 := ⟨_, rfl⟩
    obtain ⟨_, _, ⟨Tk4, Lk4, kk4, nk4⟩, -, Xk4, ⟨Lck4, hQk4, lk4, yk4, zk4⟩, stk4⟩ := superBack Xg1 hx hZ (y := (⟨"com/example/kilit/kilit/ValueType", "includes", "(Lcom/example/kilit/kilit/ValueType;)Z"⟩ : MethodName)) hown (hw _ (List.mem_of_getElem? (i := 30) rfl)) (own_same (hw _ (List.mem_of_getElem? (i := 13) rfl)) (by decide)) (hw _ (List.mem_of_getElem? (i := 12) rfl)) (hw _ (List.mem_of_getElem? (i := 31) rfl)) (by decide) (backOf (W := 0) (rm_base l Z a0 hw [] a o w_NULL rb h0 n0 Z0 S_NULL hb0) hZ (hw _ (List.mem_of_getElem? (i := 14) rfl)) (hw _ (List.mem_of_getElem? (i := 6) rfl)) (by decide) (by decide)) eg1 (Ins.self E_a) (g := (mkF m 9 #[.val (.ref a), .val (.ref o)] [(.ref o), (.ref a)])) rfl (by rw [hml]; rfl) (hw _ (List.mem_of_getElem? (i := 14) rfl)) (argsL := [(.ref o)]) (rest := []) (lenOf pd__Lcom_example_kilit_kilit_ValueType__Z rfl) rfl (by show 2 * 0 + _ ≤ _; exact Nat.le_of_eq rfl) (hb hby d3_9) (fun _ _ => ⟨rfl, eg1, (by decide : 0 + 0 ≤ _), (by decide : 0 + 0 ≤ _)⟩)
    dsimp only [Pt.U, Pt.locs, Pt.cells, Pt.slots] at Xk4 lk4 yk4 zk4 stk4 hQk4
    subst lk4 yk4 zk4
    obtain ⟨rfl, Nk4q, ek4⟩ := hQk4
    have Nk4 := Fr.app N0 Nk4q
    have r5 : ∀ t, Sp p e below Tk4 (mkF m 12 #[.val (.ref a), .val (.ref o)] [(.int rb)]) t → Sp p e below s₁ (entryFrame m #[(.ref a), (.ref o)] 2) t := by
      intro t k
      refine r2 _ ?_
      refine Jvm.RoadKit.acmp (g := (mkF m 4 #[.val (.ref a), .val (.ref o)] [(.ref w_INTEGER), (.ref o)])) Xg1 hx rfl rfl rfl (pc0 := 4) (pc' := 7) (same := false) rfl (hb hby d3_4) rfl (decide_eq_false fun q => c3 (Value.ref.inj q)) (by decide) (by decide) ?_
      show Sp p e below Tg1 (mkF m 7 #[.val (.ref a), .val (.ref o)] []) _
      refine XS.aloadN Xg1.here hx rfl (hb hby d3_7) rfl rfl ?_
      show Sp p e below Tg1 (mkF m 8 #[.val (.ref a), .val (.ref o)] [(.ref a)]) _
      refine XS.aloadN Xg1.here hx rfl (hb hby d3_8) rfl rfl ?_
      show Sp p e below Tg1 (mkF m 9 #[.val (.ref a), .val (.ref o)] [(.ref o), (.ref a)]) _
      refine stk4.trans ?_
      show Sp p e below Tk4 (mkF m 12 #[.val (.ref a), .val (.ref o)] [(.int rb)]) _
      exact k
    by_cases c6 : rb = (0 : Int32)
    · obtain ⟨fs, hlv, hrun, hended, hW, hsame⟩ := Xk4.leave (v := some (.int (0 : Int32))) (fun h => by rw [hret] at h; cases h)
      refine ⟨_, _, r5 _ ?_, hrun, hended, _, _, rfl, ?_, ⟨_, rfl⟩, hW, hsame.mono (by decide) (by decide)⟩
      · refine XS.ifYes Xk4.here hx rfl (pc0 := 12) (pc' := 19) rfl (hb hby d3_12) rfl ((if0 _ _).trans (teq c6).1) (by decide) (by decide) ?_
        show Sp p e below Tk4 (mkF m 19 #[.val (.ref a), .val (.ref o)] []) _
        refine XS.iconst Xk4.here hx rfl (hb hby d3_19) ?_
        show Sp p e below Tk4 (mkF m 20 #[.val (.ref a), .val (.ref o)] [(.int (0 : Int32))]) _
        exact retN Xk4 hx (t := .boolean) hret (by simp) (hb hby d3_20) hlv
      · show Q_inc2 Z a o w_INTEGER w_NULL r h0 n0 _ Tk4.heap _
        rw [ek4]
        exact ⟨by rw [hres]; simp [c3, c6, ← hb0], Nk4, rfl⟩
    · obtain ⟨fs, hlv, hrun, hended, hW, hsame⟩ := Xk4.leave (v := some (.int (1 : Int32))) (fun h => by rw [hret] at h; cases h)
      refine ⟨_, _, r5 _ ?_, hrun, hended, _, _, rfl, ?_, ⟨_, rfl⟩, hW, hsame.mono (by decide) (by decide)⟩
      · refine XS.ifNo Xk4.here hx rfl (hb hby d3_12) rfl ((if0 _ _).trans (feq c6).1) ?_
        show Sp p e below Tk4 (mkF m 15 #[.val (.ref a), .val (.ref o)] []) _
        refine XS.iconst Xk4.here hx rfl (hb hby d3_15) ?_
        show Sp p e below Tk4 (mkF m 16 #[.val (.ref a), .val (.ref o)] [(.int (1 : Int32))]) _
        refine XS.goto Xk4.here hx rfl (pc0 := 16) (pc' := 20) rfl (hb hby d3_16) (by decide) (by decide) ?_
        show Sp p e below Tk4 (mkF m 20 #[.val (.ref a), .val (.ref o)] [(.int (1 : Int32))]) _
        exact retN Xk4 hx (t := .boolean) hret (by simp) (hb hby d3_20) hlv
      · show Q_inc2 Z a o w_INTEGER w_NULL r h0 n0 _ Tk4.heap _
        rw [ek4]
        exact ⟨by rw [hres]; simp [c3, c6, ← hb0], Nk4, rfl⟩
theorem d4_0 : decode prog_260_method_2_code 0 = .ok (.aload_n 1, 1) := by decide +kernel
theorem d4_1 : decode prog_260_method_2_code 1 = .ok (.getstatic 7, 3) := by decide +kernel
theorem d4_4 : decode prog_260_method_2_code 4 = .ok (.if_acmp .eq 11, 3) := by decide +kernel
theorem d4_7 : decode prog_260_method_2_code 7 = .ok (.aload_n 0, 1) := by decide +kernel
theorem d4_8 : decode prog_260_method_2_code 8 = .ok (.aload_n 1, 1) := by decide +kernel
theorem d4_9 : decode prog_260_method_2_code 9 = .ok (.invokespecial 13, 3) := by decide +kernel
theorem d4_12 : decode prog_260_method_2_code 12 = .ok (.ifCond .eq 7, 3) := by decide +kernel
theorem d4_15 : decode prog_260_method_2_code 15 = .ok (.iconst 1, 1) := by decide +kernel
theorem d4_16 : decode prog_260_method_2_code 16 = .ok (.goto 4, 3) := by decide +kernel
theorem d4_19 : decode prog_260_method_2_code 19 = .ok (.iconst 0, 1) := by decide +kernel
theorem d4_20 : decode prog_260_method_2_code 20 = .ok (.ireturn, 1) := by decide +kernel
theorem pn_3 : plainName "com/example/kilit/kilit/ValueType$5" = true := by first | (simp [plainName, overriddenIn]; done) | decide +kernel
theorem ef_4_RR (m : MethodId) (x0 : Addr) (x1 : Addr) : entryFrame m #[(.ref x0), (.ref x1)] 2 = mkF m 0 #[.val (.ref x0), .val (.ref x1)] [] := by first | (simp [entryFrame, mkF, argsToLocals, Value.category]; done) | rfl
def Q_inc5 (Z : State) (a : Addr) (o : Addr) (w_DATE : Addr) (w_NULL : Addr) (r : Int32) (h0 : Heap) (n0 : Nat) (v : Option Value) (h : Heap) (L : List Loc) : Prop := v = some (.int r) ∧ Fr n0 L ∧ h = h0
set_option maxRecDepth 65536 in
set_option maxHeartbeats 40000000 in
theorem rm_inc5 (l : Launch) (Z : State) (a0 : Array Value) (hw : ∀ d ∈ tables_1, d.before a0 Z = true) (ws : List Jvm.Cond) (a : Addr) (o : Addr) (w_DATE : Addr) (w_NULL : Addr) (r : Int32) (h0 : Heap) (n0 : Nat) (Z0 : n0 ≤ h0.size) (S_DATE : Sta Z h0 "com/example/kilit/kilit/ValueType" "DATE" "Lcom/example/kilit/kilit/ValueType;" (.ref w_DATE)) (S_NULL : Sta Z h0 "com/example/kilit/kilit/ValueType" "NULL" "Lcom/example/kilit/kilit/ValueType;" (.ref w_NULL)) (E_a : Exa Z h0 a "com/example/kilit/kilit/ValueType$5") (hres : r = if o = w_DATE then (1 : Int32) else if (if o = a then (1 : Int32) else if o = w_NULL then 1 else 0) = 0 then 0 else 1) :
    MetFree l (⟨"com/example/kilit/kilit/ValueType$5", "includes", "(Lcom/example/kilit/kilit/ValueType;)Z"⟩ : MethodName) (head1 (Jvm.Cond.code (⟨"com/example/kilit/kilit/ValueType$5", "includes", "(Lcom/example/kilit/kilit/ValueType;)Z"⟩ : MethodName) prog_260_method_2_code 2 (some .boolean) :: ws) ({ frames := 1, cells := 0, slots := 0, locals := 13 } : Room)) (fun A_ U => A_ = #[(.ref a), (.ref o)] ∧ Z.Warmed39 U.vm ∧ U.heap = h0) (fun _ _ _ _ _ => True) (fun _ U o_ U' => ∃ v_ L_, o_ = .returned v_ ∧ Q_inc5 Z a o w_DATE w_NULL r h0 n0 v_ U'.heap L_ ∧ FrameEnd U o_ U' L_ ({ frames := 1, cells := 0, slots := 0, locals := 13 } : Room).cells ({ frames := 1, cells := 0, slots := 0, locals := 13 } : Room).slots) := by
  refine MetFree.of_bodySF (plainFor_of_name pn_3) hisR ?_
  intro p e s m args below meth c s₁ Bd hml0 hP hK
  obtain ⟨rfl, hZ, hh⟩ := hP
  have hx := Bd.exec
  have hby := Bd.bytes
  have hml : c.maxLocals = 2 := hml0
  have hown : s.vm.findClass "com/example/kilit/kilit/ValueType$5" = some m.cls := findClass_of_methodNamed Bd.named
  have hnm := (name_of_methodNamed Bd.named Bd.method).1
  have hret := Bd.returns
  have X0 : Stand p l e ({ frames := 1, cells := 0, slots := 0, locals := 13 } : Room) s m #[(.ref a), (.ref o)] below meth c s₁ [] 0 0 := Stand.of_body Bd
  have e0 : s₁.heap = h0 := by rw [← hh, Bd.state]; rfl
  have N0 := Fr.nil n0
  have pre0 : ∀ t, Sp p e below s₁ (mkF m 0 #[.val (.ref a), .val (.ref o)] []) t → Sp p e below s₁ (entryFrame m #[(.ref a), (.ref o)] 2) t := fun t k => castTop (ef_4_RR m a o) k
  obtain ⟨Tg1, Xg1, eg1, stg1⟩ := getS2 X0 hx hZ hown (host := "") (Or.inl (hw _ (List.mem_of_getElem? (i := 38) rfl))) (Via.of (hw _ (List.mem_of_getElem? (i := 39) rfl))) e0 S_DATE (g := (mkF m 1 #[.val (.ref a), .val (.ref o)] [(.ref o)])) rfl (hb hby d4_1)
  have r2 : ∀ t, Sp p e below Tg1 (mkF m 4 #[.val (.ref a), .val (.ref o)] [(.ref w_DATE), (.ref o)]) t → Sp p e below s₁ (entryFrame m #[(.ref a), (.ref o)] 2) t := by
    intro t k
    refine pre0 _ ?_
    refine XS.aloadN X0.here hx rfl (hb hby d4_0) rfl rfl ?_
    show Sp p e below s₁ (mkF m 1 #[.val (.ref a), .val (.ref o)] [(.ref o)]) _
    refine stg1 _ ?_
    show Sp p e below Tg1 (mkF m 4 #[.val (.ref a), .val (.ref o)] [(.ref w_DATE), (.ref o)]) _
    exact k
  by_cases c3 : o = w_DATE
  · obtain ⟨fs, hlv, hrun, hended, hW, hsame⟩ := Xg1.leave (v := some (.int (1 : Int32))) (fun h => by rw [hret] at h; cases h)
    refine ⟨_, _, r2 _ ?_, hrun, hended, _, _, rfl, ?_, ⟨_, rfl⟩, hW, hsame.mono (by decide) (by decide)⟩
    · refine Jvm.RoadKit.acmp (g := (mkF m 4 #[.val (.ref a), .val (.ref o)] [(.ref w_DATE), (.ref o)])) Xg1 hx rfl rfl rfl (pc0 := 4) (pc' := 15) (same := true) rfl (hb hby d4_4) rfl (decide_eq_true (congrArg Value.ref c3)) (by decide) (by decide) ?_
      show Sp p e below Tg1 (mkF m 15 #[.val (.ref a), .val (.ref o)] []) _
      refine XS.iconst Xg1.here hx rfl (hb hby d4_15) ?_
      show Sp p e below Tg1 (mkF m 16 #[.val (.ref a), .val (.ref o)] [(.int (1 : Int32))]) _
      refine XS.goto Xg1.here hx rfl (pc0 := 16) (pc' := 20) rfl (hb hby d4_16) (by decide) (by decide) ?_
      show Sp p e below Tg1 (mkF m 20 #[.val (.ref a), .val (.ref o)] [(.int (1 : Int32))]) _
      exact retN Xg1 hx (t := .boolean) hret (by simp) (hb hby d4_20) hlv
    · show Q_inc5 Z a o w_DATE w_NULL r h0 n0 _ Tg1.heap _
      rw [eg1]
      exact ⟨by rw [hres]; simp [c3], N0, rfl⟩
  · obtain ⟨rb, hb0⟩ : ∃ z : Int32, z = if o = a then (1 : Int32) else if o = w_NULL then 1 else 0 := ⟨_, rfl⟩
    obtain ⟨_, _, ⟨Tk4, Lk4, kk4, nk4⟩, -, Xk4, ⟨Lck4, hQk4, lk4, yk4, zk4⟩, stk4⟩ := superBack Xg1 hx hZ (y := (⟨"com/example/kilit/kilit/ValueType", "includes", "(Lcom/example/kilit/kilit/ValueType;)Z"⟩ : MethodName)) hown (hw _ (List.mem_of_getElem? (i := 40) rfl)) (own_same (hw _ (List.mem_of_getElem? (i := 13) rfl)) (by decide)) (hw _ (List.mem_of_getElem? (i := 12) rfl)) (hw _ (List.mem_of_getElem? (i := 41) rfl)) (by decide) (backOf (W := 0) (rm_base l Z a0 hw [] a o w_NULL rb h0 n0 Z0 S_NULL hb0) hZ (hw _ (List.mem_of_getElem? (i := 14) rfl)) (hw _ (List.mem_of_getElem? (i := 6) rfl)) (by decide) (by decide)) eg1 (Ins.self E_a) (g := (mkF m 9 #[.val (.ref a), .val (.ref o)] [(.ref o), (.ref a)])) rfl (by rw [hml]; rfl) (hw _ (List.mem_of_getElem? (i := 14) rfl)) (argsL := [(.ref o)]) (rest := []) (lenOf pd__Lcom_example_kilit_kilit_ValueType__Z rfl) rfl (by show 2 * 0 + _ ≤ _; exact Nat.le_of_eq rfl) (hb hby d4_9) (fun _ _ => ⟨rfl, eg1, (by decide : 0 + 0 ≤ _), (by decide : 0 + 0 ≤ _)⟩)
    dsimp only [Pt.U, Pt.locs, Pt.cells, Pt.slots] at Xk4 lk4 yk4 zk4 stk4 hQk4
    subst lk4 yk4 zk4
    obtain ⟨rfl, Nk4q, ek4⟩ := hQk4
    have Nk4 := Fr.app N0 Nk4q
    have r5 : ∀ t, Sp p e below Tk4 (mkF m 12 #[.val (.ref a), .val (.ref o)] [(.int rb)]) t → Sp p e below s₁ (entryFrame m #[(.ref a), (.ref o)] 2) t := by
      intro t k
      refine r2 _ ?_
      refine Jvm.RoadKit.acmp (g := (mkF m 4 #[.val (.ref a), .val (.ref o)] [(.ref w_DATE), (.ref o)])) Xg1 hx rfl rfl rfl (pc0 := 4) (pc' := 7) (same := false) rfl (hb hby d4_4) rfl (decide_eq_false fun q => c3 (Value.ref.inj q)) (by decide) (by decide) ?_
      show Sp p e below Tg1 (mkF m 7 #[.val (.ref a), .val (.ref o)] []) _
      refine XS.aloadN Xg1.here hx rfl (hb hby d4_7) rfl rfl ?_
      show Sp p e below Tg1 (mkF m 8 #[.val (.ref a), .val (.ref o)] [(.ref a)]) _
      refine XS.aloadN Xg1.here hx rfl (hb hby d4_8) rfl rfl ?_
      show Sp p e below Tg1 (mkF m 9 #[.val (.ref a), .val (.ref o)] [(.ref o), (.ref a)]) _
      refine stk4.trans ?_
      show Sp p e below Tk4 (mkF m 12 #[.val (.ref a), .val (.ref o)] [(.int rb)]) _
      exact k
    by_cases c6 : rb = (0 : Int32)
    · obtain ⟨fs, hlv, hrun, hended, hW, hsame⟩ := Xk4.leave (v := some (.int (0 : Int32))) (fun h => by rw [hret] at h; cases h)
      refine ⟨_, _, r5 _ ?_, hrun, hended, _, _, rfl, ?_, ⟨_, rfl⟩, hW, hsame.mono (by decide) (by decide)⟩
      · refine XS.ifYes Xk4.here hx rfl (pc0 := 12) (pc' := 19) rfl (hb hby d4_12) rfl ((if0 _ _).trans (teq c6).1) (by decide) (by decide) ?_
        show Sp p e below Tk4 (mkF m 19 #[.val (.ref a), .val (.ref o)] []) _
        refine XS.iconst Xk4.here hx rfl (hb hby d4_19) ?_
        show Sp p e below Tk4 (mkF m 20 #[.val (.ref a), .val (.ref o)] [(.int (0 : Int32))]) _
        exact retN Xk4 hx (t := .boolean) hret (by simp) (hb hby d4_20) hlv
      · show Q_inc5 Z a o w_DATE w_NULL r h0 n0 _ Tk4.heap _
        rw [ek4]
        exact ⟨by rw [hres]; simp [c3, c6, ← hb0], Nk4, rfl⟩
    · obtain ⟨fs, hlv, hrun, hended, hW, hsame⟩ := Xk4.leave (v := some (.int (1 : Int32))) (fun h => by rw [hret] at h; cases h)
      refine ⟨_, _, r5 _ ?_, hrun, hended, _, _, rfl, ?_, ⟨_, rfl⟩, hW, hsame.mono (by decide) (by decide)⟩
      · refine XS.ifNo Xk4.here hx rfl (hb hby d4_12) rfl ((if0 _ _).trans (feq c6).1) ?_
        show Sp p e below Tk4 (mkF m 15 #[.val (.ref a), .val (.ref o)] []) _
        refine XS.iconst Xk4.here hx rfl (hb hby d4_15) ?_
        show Sp p e below Tk4 (mkF m 16 #[.val (.ref a), .val (.ref o)] [(.int (1 : Int32))]) _
        refine XS.goto Xk4.here hx rfl (pc0 := 16) (pc' := 20) rfl (hb hby d4_16) (by decide) (by decide) ?_
        show Sp p e below Tk4 (mkF m 20 #[.val (.ref a), .val (.ref o)] [(.int (1 : Int32))]) _
        exact retN Xk4 hx (t := .boolean) hret (by simp) (hb hby d4_20) hlv
      · show Q_inc5 Z a o w_DATE w_NULL r h0 n0 _ Tk4.heap _
        rw [ek4]
        exact ⟨by rw [hres]; simp [c3, c6, ← hb0], Nk4, rfl⟩
theorem ef_0_II (m : MethodId) (x0 : Int32) (x1 : Int32) : entryFrame m #[(.int x0), (.int x1)] maxLocals = mkF m 0 #[.val (.int x0), .val (.int x1), .unset, .unset, .unset, .unset, .unset] [] := by first | (simp [entryFrame, mkF, argsToLocals, Value.category, maxLocals]; done) | rfl
theorem pd__I_Lcom_example_kilit_kilit_ValueType_ : parseMethodDescriptor "(I)Lcom/example/kilit/kilit/ValueType;" = some ⟨[.int], some (.object "com/example/kilit/kilit/ValueType")⟩ := by decide +kernel
def Q_law (Z : State) (p1 : Int32) (p2 : Int32) (w_INTEGER : Addr) (w_DECIMAL : Addr) (w_VARCHAR : Addr) (w_DATE : Addr) (w_TIMESTAMP : Addr) (w_BOOLEAN : Addr) (w_NULL : Addr) (h0 : Heap) (n0 : Nat) (v : Option Value) (h : Heap) (L : List Loc) : Prop := v = some (.int 1) ∧ Fr n0 L
set_option maxRecDepth 65536 in
set_option maxHeartbeats 40000000 in
theorem rm_law (l : Launch) (Z : State) (a0 : Array Value) (hw : ∀ d ∈ tables_1, d.before a0 Z = true) (ws : List Jvm.Cond) (p1 : Int32) (p2 : Int32) (w_INTEGER : Addr) (w_DECIMAL : Addr) (w_VARCHAR : Addr) (w_DATE : Addr) (w_TIMESTAMP : Addr) (w_BOOLEAN : Addr) (w_NULL : Addr) (h0 : Heap) (n0 : Nat) (Z0 : n0 ≤ h0.size) (S_INTEGER : Sta Z h0 "com/example/kilit/kilit/ValueType" "INTEGER" "Lcom/example/kilit/kilit/ValueType;" (.ref w_INTEGER)) (S_DECIMAL : Sta Z h0 "com/example/kilit/kilit/ValueType" "DECIMAL" "Lcom/example/kilit/kilit/ValueType;" (.ref w_DECIMAL)) (S_VARCHAR : Sta Z h0 "com/example/kilit/kilit/ValueType" "VARCHAR" "Lcom/example/kilit/kilit/ValueType;" (.ref w_VARCHAR)) (S_DATE : Sta Z h0 "com/example/kilit/kilit/ValueType" "DATE" "Lcom/example/kilit/kilit/ValueType;" (.ref w_DATE)) (S_TIMESTAMP : Sta Z h0 "com/example/kilit/kilit/ValueType" "TIMESTAMP" "Lcom/example/kilit/kilit/ValueType;" (.ref w_TIMESTAMP)) (S_BOOLEAN : Sta Z h0 "com/example/kilit/kilit/ValueType" "BOOLEAN" "Lcom/example/kilit/kilit/ValueType;" (.ref w_BOOLEAN)) (S_NULL : Sta Z h0 "com/example/kilit/kilit/ValueType" "NULL" "Lcom/example/kilit/kilit/ValueType;" (.ref w_NULL)) (E_INTEGER : Exa Z h0 w_INTEGER "com/example/kilit/kilit/ValueType$1") (E_DECIMAL : Exa Z h0 w_DECIMAL "com/example/kilit/kilit/ValueType$2") (E_VARCHAR : Exa Z h0 w_VARCHAR "com/example/kilit/kilit/ValueType$3") (E_DATE : Exa Z h0 w_DATE "com/example/kilit/kilit/ValueType$4") (E_TIMESTAMP : Exa Z h0 w_TIMESTAMP "com/example/kilit/kilit/ValueType$5") (E_BOOLEAN : Exa Z h0 w_BOOLEAN "com/example/kilit/kilit/ValueType$6") (E_NULL : Exa Z h0 w_NULL "com/example/kilit/kilit/ValueType$7") (n_INTEGER_DECIMAL : ¬ (w_INTEGER = w_DECIMAL)) (n_INTEGER_VARCHAR : ¬ (w_INTEGER = w_VARCHAR)) (n_INTEGER_DATE : ¬ (w_INTEGER = w_DATE)) (n_INTEGER_TIMESTAMP : ¬ (w_INTEGER = w_TIMESTAMP)) (n_INTEGER_BOOLEAN : ¬ (w_INTEGER = w_BOOLEAN)) (n_INTEGER_NULL : ¬ (w_INTEGER = w_NULL)) (n_DECIMAL_INTEGER : ¬ (w_DECIMAL = w_INTEGER)) (n_DECIMAL_VARCHAR : ¬ (w_DECIMAL = w_VARCHAR)) (n_DECIMAL_DATE : ¬ (w_DECIMAL = w_DATE)) (n_DECIMAL_TIMESTAMP : ¬ (w_DECIMAL = w_TIMESTAMP)) (n_DECIMAL_BOOLEAN : ¬ (w_DECIMAL = w_BOOLEAN)) (n_DECIMAL_NULL : ¬ (w_DECIMAL = w_NULL)) (n_VARCHAR_INTEGER : ¬ (w_VARCHAR = w_INTEGER)) (n_VARCHAR_DECIMAL : ¬ (w_VARCHAR = w_DECIMAL)) (n_VARCHAR_DATE : ¬ (w_VARCHAR = w_DATE)) (n_VARCHAR_TIMESTAMP : ¬ (w_VARCHAR = w_TIMESTAMP)) (n_VARCHAR_BOOLEAN : ¬ (w_VARCHAR = w_BOOLEAN)) (n_VARCHAR_NULL : ¬ (w_VARCHAR = w_NULL)) (n_DATE_INTEGER : ¬ (w_DATE = w_INTEGER)) (n_DATE_DECIMAL : ¬ (w_DATE = w_DECIMAL)) (n_DATE_VARCHAR : ¬ (w_DATE = w_VARCHAR)) (n_DATE_TIMESTAMP : ¬ (w_DATE = w_TIMESTAMP)) (n_DATE_BOOLEAN : ¬ (w_DATE = w_BOOLEAN)) (n_DATE_NULL : ¬ (w_DATE = w_NULL)) (n_TIMESTAMP_INTEGER : ¬ (w_TIMESTAMP = w_INTEGER)) (n_TIMESTAMP_DECIMAL : ¬ (w_TIMESTAMP = w_DECIMAL)) (n_TIMESTAMP_VARCHAR : ¬ (w_TIMESTAMP = w_VARCHAR)) (n_TIMESTAMP_DATE : ¬ (w_TIMESTAMP = w_DATE)) (n_TIMESTAMP_BOOLEAN : ¬ (w_TIMESTAMP = w_BOOLEAN)) (n_TIMESTAMP_NULL : ¬ (w_TIMESTAMP = w_NULL)) (n_BOOLEAN_INTEGER : ¬ (w_BOOLEAN = w_INTEGER)) (n_BOOLEAN_DECIMAL : ¬ (w_BOOLEAN = w_DECIMAL)) (n_BOOLEAN_VARCHAR : ¬ (w_BOOLEAN = w_VARCHAR)) (n_BOOLEAN_DATE : ¬ (w_BOOLEAN = w_DATE)) (n_BOOLEAN_TIMESTAMP : ¬ (w_BOOLEAN = w_TIMESTAMP)) (n_BOOLEAN_NULL : ¬ (w_BOOLEAN = w_NULL)) (n_NULL_INTEGER : ¬ (w_NULL = w_INTEGER)) (n_NULL_DECIMAL : ¬ (w_NULL = w_DECIMAL)) (n_NULL_VARCHAR : ¬ (w_NULL = w_VARCHAR)) (n_NULL_DATE : ¬ (w_NULL = w_DATE)) (n_NULL_TIMESTAMP : ¬ (w_NULL = w_TIMESTAMP)) (n_NULL_BOOLEAN : ¬ (w_NULL = w_BOOLEAN)) :
    MetFree l x (head1 (Jvm.Cond.code x code maxLocals ret :: ws) room_1) (fun A_ U => A_ = #[(.int p1), (.int p2)] ∧ Z.Warmed39 U.vm ∧ U.heap = h0) (fun _ _ _ _ _ => True) (fun _ U o_ U' => ∃ v_ L_, o_ = .returned v_ ∧ Q_law Z p1 p2 w_INTEGER w_DECIMAL w_VARCHAR w_DATE w_TIMESTAMP w_BOOLEAN w_NULL h0 n0 v_ U'.heap L_ ∧ FrameEnd U o_ U' L_ room_1.cells room_1.slots) := by
  refine MetFree.of_bodySF (plainFor_of_name pn_0) hisR ?_
  intro p e s m args below meth c s₁ Bd hml0 hP hK
  obtain ⟨rfl, hZ, hh⟩ := hP
  have hx := Bd.exec
  have hby := Bd.bytes
  have hml : c.maxLocals = 7 := hml0
  have hown : s.vm.findClass "com/example/kilit/kilit/ValueTypeIncludesPinLaw" = some m.cls := findClass_of_methodNamed Bd.named
  have hnm := (name_of_methodNamed Bd.named Bd.method).1
  have hret := Bd.returns
  have X0 : Stand p l e room_1 s m #[(.int p1), (.int p2)] below meth c s₁ [] 0 0 := Stand.of_body Bd
  have e0 : s₁.heap = h0 := by rw [← hh, Bd.state]; rfl
  have N0 := Fr.nil n0
  have pre0 : ∀ t, Sp p e below s₁ (mkF m 0 #[.val (.int p1), .val (.int p2), .unset, .unset, .unset, .unset, .unset] []) t → Sp p e below s₁ (entryFrame m #[(.int p1), (.int p2)] maxLocals) t := fun t k => castTop (ef_0_II m p1 p2) k
  have r1 : ∀ t, Sp p e below s₁ (mkF m 7 #[.val (.int p1), .val (.int p2), .unset, .unset, .unset, .unset, .unset] [(.int ((p1 &&& (2147483647 : Int32)) % (7 : Int32)))]) t → Sp p e below s₁ (entryFrame m #[(.int p1), (.int p2)] maxLocals) t := by
    intro t k
    refine pre0 _ ?_
    refine XS.iloadN X0.here hx rfl (hb hby at_0) rfl ?_
    show Sp p e below s₁ (mkF m 1 #[.val (.int p1), .val (.int p2), .unset, .unset, .unset, .unset, .unset] [(.int p1)]) _
    refine Jvm.Stand.ldcI X0 hx hown (mvT hZ (hw _ (List.mem_of_getElem? (i := 0) rfl))) rfl (hb hby at_1) ?_
    show Sp p e below s₁ (mkF m 3 #[.val (.int p1), .val (.int p2), .unset, .unset, .unset, .unset, .unset] [(.int (2147483647 : Int32)), (.int p1)]) _
    refine XS.iand X0.here hx rfl (hb hby at_3) rfl ?_
    show Sp p e below s₁ (mkF m 4 #[.val (.int p1), .val (.int p2), .unset, .unset, .unset, .unset, .unset] [(.int (p1 &&& (2147483647 : Int32)))]) _
    refine XS.bipush X0.here hx rfl (hb hby at_4) ?_
    show Sp p e below s₁ (mkF m 6 #[.val (.int p1), .val (.int p2), .unset, .unset, .unset, .unset, .unset] [(.int (7 : Int32)), (.int (p1 &&& (2147483647 : Int32)))]) _
    refine iremM X0 hx rfl (hb hby at_6) rfl (by decide) ?_
    show Sp p e below s₁ (mkF m 7 #[.val (.int p1), .val (.int p2), .unset, .unset, .unset, .unset, .unset] [(.int ((p1 &&& (2147483647 : Int32)) % (7 : Int32)))]) _
    exact k
  obtain ⟨zi, hzi⟩ : ∃ z : Int32, z = ((p1 &&& (2147483647 : Int32)) % (7 : Int32)) := ⟨_, rfl⟩
  rw [← hzi] at r1
  have r2 : ∀ t, Sp p e below s₁ (mkF m 15 #[.val (.int p1), .val (.int p2), .val (.int zi), .unset, .unset, .unset, .unset] [(.int ((p2 &&& (2147483647 : Int32)) % (7 : Int32)))]) t → Sp p e below s₁ (entryFrame m #[(.int p1), (.int p2)] maxLocals) t := by
    intro t k
    refine r1 _ ?_
    refine XS.istoreN X0.here hx rfl (hb hby at_7) rfl (l' := #[.val (.int p1), .val (.int p2), .val (.int zi), .unset, .unset, .unset, .unset]) rfl ?_
    show Sp p e below s₁ (mkF m 8 #[.val (.int p1), .val (.int p2), .val (.int zi), .unset, .unset, .unset, .unset] []) _
    refine XS.iloadN X0.here hx rfl (hb hby at_8) rfl ?_
    show Sp p e below s₁ (mkF m 9 #[.val (.int p1), .val (.int p2), .val (.int zi), .unset, .unset, .unset, .unset] [(.int p2)]) _
    refine Jvm.Stand.ldcI X0 hx hown (mvT hZ (hw _ (List.mem_of_getElem? (i := 0) rfl))) rfl (hb hby at_9) ?_
    show Sp p e below s₁ (mkF m 11 #[.val (.int p1), .val (.int p2), .val (.int zi), .unset, .unset, .unset, .unset] [(.int (2147483647 : Int32)), (.int p2)]) _
    refine XS.iand X0.here hx rfl (hb hby at_11) rfl ?_
    show Sp p e below s₁ (mkF m 12 #[.val (.int p1), .val (.int p2), .val (.int zi), .unset, .unset, .unset, .unset] [(.int (p2 &&& (2147483647 : Int32)))]) _
    refine XS.bipush X0.here hx rfl (hb hby at_12) ?_
    show Sp p e below s₁ (mkF m 14 #[.val (.int p1), .val (.int p2), .val (.int zi), .unset, .unset, .unset, .unset] [(.int (7 : Int32)), (.int (p2 &&& (2147483647 : Int32)))]) _
    refine iremM X0 hx rfl (hb hby at_14) rfl (by decide) ?_
    show Sp p e below s₁ (mkF m 15 #[.val (.int p1), .val (.int p2), .val (.int zi), .unset, .unset, .unset, .unset] [(.int ((p2 &&& (2147483647 : Int32)) % (7 : Int32)))]) _
    exact k
  obtain ⟨zj, hzj⟩ : ∃ z : Int32, z = ((p2 &&& (2147483647 : Int32)) % (7 : Int32)) := ⟨_, rfl⟩
  rw [← hzj] at r2
  obtain ⟨ri, hpi⟩ : ∃ z : Addr, z = if zi = (0 : Int32) then w_INTEGER else if zi = (1 : Int32) then w_DECIMAL else if zi = (2 : Int32) then w_VARCHAR else if zi = (3 : Int32) then w_DATE else if zi = (4 : Int32) then w_TIMESTAMP else if zi = (5 : Int32) then w_BOOLEAN else w_NULL := ⟨_, rfl⟩
  obtain ⟨_, _, ⟨Tk3, Lk3, kk3, nk3⟩, -, Xk3, ⟨Lck3, hQk3, lk3, yk3, zk3⟩, stk3⟩ := Jvm.LawKit.callS X0 hx (y := (⟨"com/example/kilit/kilit/ValueTypeIncludesPinLaw", "pick", "(I)Lcom/example/kilit/kilit/ValueType;"⟩ : MethodName)) hown (mvT hZ (hw _ (List.mem_of_getElem? (i := 1) rfl))) (mvT hZ (hw _ (List.mem_of_getElem? (i := 2) rfl))) (mvT hZ (hw _ (List.mem_of_getElem? (i := 3) rfl))) (mvT hZ (hw _ (List.mem_of_getElem? (i := 4) rfl))) (by decide) (backOf (W := 0) (rm_pick l Z a0 hw [] zi w_INTEGER w_DECIMAL w_VARCHAR w_DATE w_TIMESTAMP w_BOOLEAN w_NULL ri h0 n0 Z0 S_INTEGER S_DECIMAL S_VARCHAR S_DATE S_TIMESTAMP S_BOOLEAN S_NULL hpi) hZ (hw _ (List.mem_of_getElem? (i := 4) rfl)) (hw _ (List.mem_of_getElem? (i := 3) rfl)) (by decide) (by decide)) (g := (mkF m 17 #[.val (.int p1), .val (.int p2), .val (.int zi), .val (.int zj), .unset, .unset, .unset] [(.int zi)])) rfl (by rw [hml]; rfl) (argsL := [(.int zi)]) (rest := []) (lenOf pd__I_Lcom_example_kilit_kilit_ValueType_ rfl) rfl (by show 2 * 0 + _ ≤ _; exact Nat.le_of_eq rfl) (hb hby at_17) (fun _ _ => ⟨rfl, e0, (by decide : 0 + 0 ≤ _), (by decide : 0 + 0 ≤ _)⟩)
  dsimp only [Pt.U, Pt.locs, Pt.cells, Pt.slots] at Xk3 lk3 yk3 zk3 stk3 hQk3
  subst lk3 yk3 zk3
  obtain ⟨rfl, Nk3q, ek3⟩ := hQk3
  have Nk3 := Fr.app N0 Nk3q
  obtain ⟨rj, hpj⟩ : ∃ z : Addr, z = if zj = (0 : Int32) then w_INTEGER else if zj = (1 : Int32) then w_DECIMAL else if zj = (2 : Int32) then w_VARCHAR else if zj = (3 : Int32) then w_DATE else if zj = (4 : Int32) then w_TIMESTAMP else if zj = (5 : Int32) then w_BOOLEAN else w_NULL := ⟨_, rfl⟩
  obtain ⟨_, _, ⟨Tk4, Lk4, kk4, nk4⟩, -, Xk4, ⟨Lck4, hQk4, lk4, yk4, zk4⟩, stk4⟩ := Jvm.LawKit.callS Xk3 hx (y := (⟨"com/example/kilit/kilit/ValueTypeIncludesPinLaw", "pick", "(I)Lcom/example/kilit/kilit/ValueType;"⟩ : MethodName)) hown (mvT hZ (hw _ (List.mem_of_getElem? (i := 1) rfl))) (mvT hZ (hw _ (List.mem_of_getElem? (i := 2) rfl))) (mvT hZ (hw _ (List.mem_of_getElem? (i := 3) rfl))) (mvT hZ (hw _ (List.mem_of_getElem? (i := 4) rfl))) (by decide) (backOf (W := 0) (rm_pick l Z a0 hw [] zj w_INTEGER w_DECIMAL w_VARCHAR w_DATE w_TIMESTAMP w_BOOLEAN w_NULL rj h0 n0 Z0 S_INTEGER S_DECIMAL S_VARCHAR S_DATE S_TIMESTAMP S_BOOLEAN S_NULL hpj) hZ (hw _ (List.mem_of_getElem? (i := 4) rfl)) (hw _ (List.mem_of_getElem? (i := 3) rfl)) (by decide) (by decide)) (g := (mkF m 23 #[.val (.int p1), .val (.int p2), .val (.int zi), .val (.int zj), .val (.ref ri), .unset, .unset] [(.int zj)])) rfl (by rw [hml]; rfl) (argsL := [(.int zj)]) (rest := []) (lenOf pd__I_Lcom_example_kilit_kilit_ValueType_ rfl) rfl (by show 2 * 0 + _ ≤ _; exact Nat.le_of_eq rfl) (hb hby at_23) (fun _ _ => ⟨rfl, ek3, (by decide : 0 + 0 ≤ _), (by decide : 0 + 0 ≤ _)⟩)
  dsimp only [Pt.U, Pt.locs, Pt.cells, Pt.slots] at Xk4 lk4 yk4 zk4 stk4 hQk4
  subst lk4 yk4 zk4
  obtain ⟨rfl, Nk4q, ek4⟩ := hQk4
  have Nk4 := Fr.app Nk3 Nk4q
  have r5 : ∀ t, Sp p e below Tk4 (mkF m 28 #[.val (.int p1), .val (.int p2), .val (.int zi), .val (.int zj), .val (.ref ri), .val (.ref rj), .unset] []) t → Sp p e below s₁ (entryFrame m #[(.int p1), (.int p2)] maxLocals) t := by
    intro t k
    refine r2 _ ?_
    refine XS.istoreN X0.here hx rfl (hb hby at_15) rfl (l' := #[.val (.int p1), .val (.int p2), .val (.int zi), .val (.int zj), .unset, .unset, .unset]) rfl ?_
    show Sp p e below s₁ (mkF m 16 #[.val (.int p1), .val (.int p2), .val (.int zi), .val (.int zj), .unset, .unset, .unset] []) _
    refine XS.iloadN X0.here hx rfl (hb hby at_16) rfl ?_
    show Sp p e below s₁ (mkF m 17 #[.val (.int p1), .val (.int p2), .val (.int zi), .val (.int zj), .unset, .unset, .unset] [(.int zi)]) _
    refine stk3 _ ?_
    show Sp p e below Tk3 (mkF m 20 #[.val (.int p1), .val (.int p2), .val (.int zi), .val (.int zj), .unset, .unset, .unset] [(.ref ri)]) _
    refine XS.astore Xk3.here hx rfl (hb hby at_20) rfl rfl (l' := #[.val (.int p1), .val (.int p2), .val (.int zi), .val (.int zj), .val (.ref ri), .unset, .unset]) rfl ?_
    show Sp p e below Tk3 (mkF m 22 #[.val (.int p1), .val (.int p2), .val (.int zi), .val (.int zj), .val (.ref ri), .unset, .unset] []) _
    refine XS.iloadN Xk3.here hx rfl (hb hby at_22) rfl ?_
    show Sp p e below Tk3 (mkF m 23 #[.val (.int p1), .val (.int p2), .val (.int zi), .val (.int zj), .val (.ref ri), .unset, .unset] [(.int zj)]) _
    refine stk4 _ ?_
    show Sp p e below Tk4 (mkF m 26 #[.val (.int p1), .val (.int p2), .val (.int zi), .val (.int zj), .val (.ref ri), .unset, .unset] [(.ref rj)]) _
    refine XS.astore Xk4.here hx rfl (hb hby at_26) rfl rfl (l' := #[.val (.int p1), .val (.int p2), .val (.int zi), .val (.int zj), .val (.ref ri), .val (.ref rj), .unset]) rfl ?_
    show Sp p e below Tk4 (mkF m 28 #[.val (.int p1), .val (.int p2), .val (.int zi), .val (.int zj), .val (.ref ri), .val (.ref rj), .unset] []) _
    exact k
  have ci := own_cases7 p1
  have cj := own_cases7 p2
  rw [← hzi] at ci
  rw [← hzj] at cj
  rcases ci with hi | hi | hi | hi | hi | hi | hi
  · have hri : ri = w_INTEGER := by rw [hpi]; simp [hi]
    rcases cj with hj | hj | hj | hj | hj | hj | hj
    · have hrj : rj = w_INTEGER := by rw [hpj]; simp [hj]
      rw [hi, hj, hri, hrj] at r5
      obtain ⟨cqk6, kqk6, qk6a, qk6b, qk6c⟩ := isOf hZ ek4 E_INTEGER
      obtain ⟨_, _, ⟨Tk6, Lk6, kk6, nk6⟩, -, Xk6, ⟨Lck6, hQk6, lk6, yk6, zk6⟩, stk6⟩ := Xk4.virtualBack hx (y := (⟨"com/example/kilit/kilit/ValueType", "includes", "(Lcom/example/kilit/kilit/ValueType;)Z"⟩ : MethodName)) (z := (⟨"com/example/kilit/kilit/ValueType", "includes", "(Lcom/example/kilit/kilit/ValueType;)Z"⟩ : MethodName)) hown (mvT hZ (hw _ (List.mem_of_getElem? (i := 10) rfl))) (mvT hZ (hw _ (List.mem_of_getElem? (i := 11) rfl))) (notFace_of_selects (args := #[]) (mvT hZ (hw _ (List.mem_of_getElem? (i := 13) rfl)))) (mvT hZ (hw _ (List.mem_of_getElem? (i := 13) rfl))) (mvT hZ (hw _ (List.mem_of_getElem? (i := 12) rfl))) (by decide) (backOf (W := 0) (rm_base l Z a0 hw [] w_INTEGER w_INTEGER w_NULL (1 : Int32) h0 n0 Z0 S_NULL (by simp [n_INTEGER_NULL, n_INTEGER_DATE])) hZ (hw _ (List.mem_of_getElem? (i := 14) rfl)) (hw _ (List.mem_of_getElem? (i := 6) rfl)) (by decide) (by decide)) qk6a qk6c (g := (mkF m 69 #[.val (.int p1), .val (.int p2), .val (.int (0 : Int32)), .val (.int (0 : Int32)), .val (.ref w_INTEGER), .val (.ref w_INTEGER), .val (.int (1 : Int32))] [(.ref w_INTEGER), (.ref w_INTEGER)])) rfl (by rw [hml]; rfl) (Steps.refl _) (argsL := [(.ref w_INTEGER)]) (rest := []) (lenOf pd__Lcom_example_kilit_kilit_ValueType__Z rfl) rfl (by show 2 * 0 + _ ≤ _; exact Nat.le_of_eq rfl) (hb hby at_69) (fun _ _ => ⟨rfl, ek4, (by decide : 0 + 0 ≤ _), (by decide : 0 + 0 ≤ _)⟩)
      dsimp only [Pt.U, Pt.locs, Pt.cells, Pt.slots] at Xk6 lk6 yk6 zk6 stk6 hQk6
      subst lk6 yk6 zk6
      obtain ⟨rfl, Nk6q, ek6⟩ := hQk6
      have Nk6 := Fr.app Nk4 Nk6q
      obtain ⟨fs, hlv, hrun, hended, hW, hsame⟩ := Xk6.leave (v := some (.int (1 : Int32))) (fun h => by rw [hret] at h; cases h)
      refine ⟨_, _, r5 _ ?_, hrun, hended, _, _, rfl, ?_, ⟨_, rfl⟩, hW, hsame.mono (by decide) (by decide)⟩
      · refine XS.iloadN Xk4.here hx rfl (hb hby at_28) rfl ?_
        show Sp p e below Tk4 (mkF m 29 #[.val (.int p1), .val (.int p2), .val (.int (0 : Int32)), .val (.int (0 : Int32)), .val (.ref w_INTEGER), .val (.ref w_INTEGER), .unset] [(.int (0 : Int32))]) _
        refine XS.iloadN Xk4.here hx rfl (hb hby at_29) rfl ?_
        show Sp p e below Tk4 (mkF m 30 #[.val (.int p1), .val (.int p2), .val (.int (0 : Int32)), .val (.int (0 : Int32)), .val (.ref w_INTEGER), .val (.ref w_INTEGER), .unset] [(.int (0 : Int32)), (.int (0 : Int32))]) _
        refine XS.icmpYes Xk4.here hx rfl (pc0 := 30) (pc' := 58) rfl (hb hby at_30) rfl (teq (by decide : (0 : Int32) = (0 : Int32))).1 (by decide) (by decide) ?_
        show Sp p e below Tk4 (mkF m 58 #[.val (.int p1), .val (.int p2), .val (.int (0 : Int32)), .val (.int (0 : Int32)), .val (.ref w_INTEGER), .val (.ref w_INTEGER), .unset] []) _
        refine XS.iconst Xk4.here hx rfl (hb hby at_58) ?_
        show Sp p e below Tk4 (mkF m 59 #[.val (.int p1), .val (.int p2), .val (.int (0 : Int32)), .val (.int (0 : Int32)), .val (.ref w_INTEGER), .val (.ref w_INTEGER), .unset] [(.int (1 : Int32))]) _
        refine XS.goto Xk4.here hx rfl (pc0 := 59) (pc' := 63) rfl (hb hby at_59) (by decide) (by decide) ?_
        show Sp p e below Tk4 (mkF m 63 #[.val (.int p1), .val (.int p2), .val (.int (0 : Int32)), .val (.int (0 : Int32)), .val (.ref w_INTEGER), .val (.ref w_INTEGER), .unset] [(.int (1 : Int32))]) _
        refine XS.istore Xk4.here hx rfl (hb hby at_63) rfl (l' := #[.val (.int p1), .val (.int p2), .val (.int (0 : Int32)), .val (.int (0 : Int32)), .val (.ref w_INTEGER), .val (.ref w_INTEGER), .val (.int (1 : Int32))]) rfl ?_
        show Sp p e below Tk4 (mkF m 65 #[.val (.int p1), .val (.int p2), .val (.int (0 : Int32)), .val (.int (0 : Int32)), .val (.ref w_INTEGER), .val (.ref w_INTEGER), .val (.int (1 : Int32))] []) _
        refine XS.aload Xk4.here hx rfl (hb hby at_65) rfl rfl ?_
        show Sp p e below Tk4 (mkF m 67 #[.val (.int p1), .val (.int p2), .val (.int (0 : Int32)), .val (.int (0 : Int32)), .val (.ref w_INTEGER), .val (.ref w_INTEGER), .val (.int (1 : Int32))] [(.ref w_INTEGER)]) _
        refine XS.aload Xk4.here hx rfl (hb hby at_67) rfl rfl ?_
        show Sp p e below Tk4 (mkF m 69 #[.val (.int p1), .val (.int p2), .val (.int (0 : Int32)), .val (.int (0 : Int32)), .val (.ref w_INTEGER), .val (.ref w_INTEGER), .val (.int (1 : Int32))] [(.ref w_INTEGER), (.ref w_INTEGER)]) _
        refine stk6.trans ?_
        show Sp p e below Tk6 (mkF m 72 #[.val (.int p1), .val (.int p2), .val (.int (0 : Int32)), .val (.int (0 : Int32)), .val (.ref w_INTEGER), .val (.ref w_INTEGER), .val (.int (1 : Int32))] [(.int (1 : Int32))]) _
        refine XS.iload Xk6.here hx rfl (hb hby at_72) rfl ?_
        show Sp p e below Tk6 (mkF m 74 #[.val (.int p1), .val (.int p2), .val (.int (0 : Int32)), .val (.int (0 : Int32)), .val (.ref w_INTEGER), .val (.ref w_INTEGER), .val (.int (1 : Int32))] [(.int (1 : Int32)), (.int (1 : Int32))]) _
        refine XS.icmpNo Xk6.here hx rfl (hb hby at_74) rfl (teq (by decide : (1 : Int32) = (1 : Int32))).2 ?_
        show Sp p e below Tk6 (mkF m 77 #[.val (.int p1), .val (.int p2), .val (.int (0 : Int32)), .val (.int (0 : Int32)), .val (.ref w_INTEGER), .val (.ref w_INTEGER), .val (.int (1 : Int32))] []) _
        refine XS.iconst Xk6.here hx rfl (hb hby at_77) ?_
        show Sp p e below Tk6 (mkF m 78 #[.val (.int p1), .val (.int p2), .val (.int (0 : Int32)), .val (.int (0 : Int32)), .val (.ref w_INTEGER), .val (.ref w_INTEGER), .val (.int (1 : Int32))] [(.int (1 : Int32))]) _
        refine XS.goto Xk6.here hx rfl (pc0 := 78) (pc' := 82) rfl (hb hby at_78) (by decide) (by decide) ?_
        show Sp p e below Tk6 (mkF m 82 #[.val (.int p1), .val (.int p2), .val (.int (0 : Int32)), .val (.int (0 : Int32)), .val (.ref w_INTEGER), .val (.ref w_INTEGER), .val (.int (1 : Int32))] [(.int (1 : Int32))]) _
        exact retN Xk6 hx (t := .boolean) hret (by simp) (hb hby at_82) hlv
      · show Q_law Z p1 p2 w_INTEGER w_DECIMAL w_VARCHAR w_DATE w_TIMESTAMP w_BOOLEAN w_NULL h0 n0 _ Tk6.heap _
        rw [ek6]
        exact ⟨rfl, Nk6⟩
    · have hrj : rj = w_DECIMAL := by rw [hpj]; simp [hj]
      rw [hi, hj, hri, hrj] at r5
      obtain ⟨cqk7, kqk7, qk7a, qk7b, qk7c⟩ := isOf hZ ek4 E_INTEGER
      obtain ⟨_, _, ⟨Tk7, Lk7, kk7, nk7⟩, -, Xk7, ⟨Lck7, hQk7, lk7, yk7, zk7⟩, stk7⟩ := Xk4.virtualBack hx (y := (⟨"com/example/kilit/kilit/ValueType", "includes", "(Lcom/example/kilit/kilit/ValueType;)Z"⟩ : MethodName)) (z := (⟨"com/example/kilit/kilit/ValueType", "includes", "(Lcom/example/kilit/kilit/ValueType;)Z"⟩ : MethodName)) hown (mvT hZ (hw _ (List.mem_of_getElem? (i := 10) rfl))) (mvT hZ (hw _ (List.mem_of_getElem? (i := 11) rfl))) (notFace_of_selects (args := #[]) (mvT hZ (hw _ (List.mem_of_getElem? (i := 13) rfl)))) (mvT hZ (hw _ (List.mem_of_getElem? (i := 13) rfl))) (mvT hZ (hw _ (List.mem_of_getElem? (i := 12) rfl))) (by decide) (backOf (W := 0) (rm_base l Z a0 hw [] w_INTEGER w_DECIMAL w_NULL (0 : Int32) h0 n0 Z0 S_NULL (by simp [n_DECIMAL_INTEGER, n_DECIMAL_NULL, n_DECIMAL_DATE])) hZ (hw _ (List.mem_of_getElem? (i := 14) rfl)) (hw _ (List.mem_of_getElem? (i := 6) rfl)) (by decide) (by decide)) qk7a qk7c (g := (mkF m 69 #[.val (.int p1), .val (.int p2), .val (.int (0 : Int32)), .val (.int (1 : Int32)), .val (.ref w_INTEGER), .val (.ref w_DECIMAL), .val (.int (0 : Int32))] [(.ref w_DECIMAL), (.ref w_INTEGER)])) rfl (by rw [hml]; rfl) (Steps.refl _) (argsL := [(.ref w_DECIMAL)]) (rest := []) (lenOf pd__Lcom_example_kilit_kilit_ValueType__Z rfl) rfl (by show 2 * 0 + _ ≤ _; exact Nat.le_of_eq rfl) (hb hby at_69) (fun _ _ => ⟨rfl, ek4, (by decide : 0 + 0 ≤ _), (by decide : 0 + 0 ≤ _)⟩)
      dsimp only [Pt.U, Pt.locs, Pt.cells, Pt.slots] at Xk7 lk7 yk7 zk7 stk7 hQk7
      subst lk7 yk7 zk7
      obtain ⟨rfl, Nk7q, ek7⟩ := hQk7
      have Nk7 := Fr.app Nk4 Nk7q
      obtain ⟨fs, hlv, hrun, hended, hW, hsame⟩ := Xk7.leave (v := some (.int (1 : Int32))) (fun h => by rw [hret] at h; cases h)
      refine ⟨_, _, r5 _ ?_, hrun, hended, _, _, rfl, ?_, ⟨_, rfl⟩, hW, hsame.mono (by decide) (by decide)⟩
      · refine XS.iloadN Xk4.here hx rfl (hb hby at_28) rfl ?_
        show Sp p e below Tk4 (mkF m 29 #[.val (.int p1), .val (.int p2), .val (.int (0 : Int32)), .val (.int (1 : Int32)), .val (.ref w_INTEGER), .val (.ref w_DECIMAL), .unset] [(.int (0 : Int32))]) _
        refine XS.iloadN Xk4.here hx rfl (hb hby at_29) rfl ?_
        show Sp p e below Tk4 (mkF m 30 #[.val (.int p1), .val (.int p2), .val (.int (0 : Int32)), .val (.int (1 : Int32)), .val (.ref w_INTEGER), .val (.ref w_DECIMAL), .unset] [(.int (1 : Int32)), (.int (0 : Int32))]) _
        refine XS.icmpNo Xk4.here hx rfl (hb hby at_30) rfl (feq (by decide : ¬ ((0 : Int32) = (1 : Int32)))).1 ?_
        show Sp p e below Tk4 (mkF m 33 #[.val (.int p1), .val (.int p2), .val (.int (0 : Int32)), .val (.int (1 : Int32)), .val (.ref w_INTEGER), .val (.ref w_DECIMAL), .unset] []) _
        refine XS.iloadN Xk4.here hx rfl (hb hby at_33) rfl ?_
        show Sp p e below Tk4 (mkF m 34 #[.val (.int p1), .val (.int p2), .val (.int (0 : Int32)), .val (.int (1 : Int32)), .val (.ref w_INTEGER), .val (.ref w_DECIMAL), .unset] [(.int (1 : Int32))]) _
        refine XS.bipush Xk4.here hx rfl (hb hby at_34) ?_
        show Sp p e below Tk4 (mkF m 36 #[.val (.int p1), .val (.int p2), .val (.int (0 : Int32)), .val (.int (1 : Int32)), .val (.ref w_INTEGER), .val (.ref w_DECIMAL), .unset] [(.int (6 : Int32)), (.int (1 : Int32))]) _
        refine XS.icmpNo Xk4.here hx rfl (hb hby at_36) rfl (feq (by decide : ¬ ((1 : Int32) = (6 : Int32)))).1 ?_
        show Sp p e below Tk4 (mkF m 39 #[.val (.int p1), .val (.int p2), .val (.int (0 : Int32)), .val (.int (1 : Int32)), .val (.ref w_INTEGER), .val (.ref w_DECIMAL), .unset] []) _
        refine XS.iloadN Xk4.here hx rfl (hb hby at_39) rfl ?_
        show Sp p e below Tk4 (mkF m 40 #[.val (.int p1), .val (.int p2), .val (.int (0 : Int32)), .val (.int (1 : Int32)), .val (.ref w_INTEGER), .val (.ref w_DECIMAL), .unset] [(.int (0 : Int32))]) _
        refine XS.iconst Xk4.here hx rfl (hb hby at_40) ?_
        show Sp p e below Tk4 (mkF m 41 #[.val (.int p1), .val (.int p2), .val (.int (0 : Int32)), .val (.int (1 : Int32)), .val (.ref w_INTEGER), .val (.ref w_DECIMAL), .unset] [(.int (1 : Int32)), (.int (0 : Int32))]) _
        refine XS.icmpYes Xk4.here hx rfl (pc0 := 41) (pc' := 48) rfl (hb hby at_41) rfl (feq (by decide : ¬ ((0 : Int32) = (1 : Int32)))).2 (by decide) (by decide) ?_
        show Sp p e below Tk4 (mkF m 48 #[.val (.int p1), .val (.int p2), .val (.int (0 : Int32)), .val (.int (1 : Int32)), .val (.ref w_INTEGER), .val (.ref w_DECIMAL), .unset] []) _
        refine XS.iloadN Xk4.here hx rfl (hb hby at_48) rfl ?_
        show Sp p e below Tk4 (mkF m 49 #[.val (.int p1), .val (.int p2), .val (.int (0 : Int32)), .val (.int (1 : Int32)), .val (.ref w_INTEGER), .val (.ref w_DECIMAL), .unset] [(.int (0 : Int32))]) _
        refine XS.iconst Xk4.here hx rfl (hb hby at_49) ?_
        show Sp p e below Tk4 (mkF m 50 #[.val (.int p1), .val (.int p2), .val (.int (0 : Int32)), .val (.int (1 : Int32)), .val (.ref w_INTEGER), .val (.ref w_DECIMAL), .unset] [(.int (4 : Int32)), (.int (0 : Int32))]) _
        refine XS.icmpYes Xk4.here hx rfl (pc0 := 50) (pc' := 62) rfl (hb hby at_50) rfl (feq (by decide : ¬ ((0 : Int32) = (4 : Int32)))).2 (by decide) (by decide) ?_
        show Sp p e below Tk4 (mkF m 62 #[.val (.int p1), .val (.int p2), .val (.int (0 : Int32)), .val (.int (1 : Int32)), .val (.ref w_INTEGER), .val (.ref w_DECIMAL), .unset] []) _
        refine XS.iconst Xk4.here hx rfl (hb hby at_62) ?_
        show Sp p e below Tk4 (mkF m 63 #[.val (.int p1), .val (.int p2), .val (.int (0 : Int32)), .val (.int (1 : Int32)), .val (.ref w_INTEGER), .val (.ref w_DECIMAL), .unset] [(.int (0 : Int32))]) _
        refine XS.istore Xk4.here hx rfl (hb hby at_63) rfl (l' := #[.val (.int p1), .val (.int p2), .val (.int (0 : Int32)), .val (.int (1 : Int32)), .val (.ref w_INTEGER), .val (.ref w_DECIMAL), .val (.int (0 : Int32))]) rfl ?_
        show Sp p e below Tk4 (mkF m 65 #[.val (.int p1), .val (.int p2), .val (.int (0 : Int32)), .val (.int (1 : Int32)), .val (.ref w_INTEGER), .val (.ref w_DECIMAL), .val (.int (0 : Int32))] []) _
        refine XS.aload Xk4.here hx rfl (hb hby at_65) rfl rfl ?_
        show Sp p e below Tk4 (mkF m 67 #[.val (.int p1), .val (.int p2), .val (.int (0 : Int32)), .val (.int (1 : Int32)), .val (.ref w_INTEGER), .val (.ref w_DECIMAL), .val (.int (0 : Int32))] [(.ref w_INTEGER)]) _
        refine XS.aload Xk4.here hx rfl (hb hby at_67) rfl rfl ?_
        show Sp p e below Tk4 (mkF m 69 #[.val (.int p1), .val (.int p2), .val (.int (0 : Int32)), .val (.int (1 : Int32)), .val (.ref w_INTEGER), .val (.ref w_DECIMAL), .val (.int (0 : Int32))] [(.ref w_DECIMAL), (.ref w_INTEGER)]) _
        refine stk7.trans ?_
        show Sp p e below Tk7 (mkF m 72 #[.val (.int p1), .val (.int p2), .val (.int (0 : Int32)), .val (.int (1 : Int32)), .val (.ref w_INTEGER), .val (.ref w_DECIMAL), .val (.int (0 : Int32))] [(.int (0 : Int32))]) _
        refine XS.iload Xk7.here hx rfl (hb hby at_72) rfl ?_
        show Sp p e below Tk7 (mkF m 74 #[.val (.int p1), .val (.int p2), .val (.int (0 : Int32)), .val (.int (1 : Int32)), .val (.ref w_INTEGER), .val (.ref w_DECIMAL), .val (.int (0 : Int32))] [(.int (0 : Int32)), (.int (0 : Int32))]) _
        refine XS.icmpNo Xk7.here hx rfl (hb hby at_74) rfl (teq (by decide : (0 : Int32) = (0 : Int32))).2 ?_
        show Sp p e below Tk7 (mkF m 77 #[.val (.int p1), .val (.int p2), .val (.int (0 : Int32)), .val (.int (1 : Int32)), .val (.ref w_INTEGER), .val (.ref w_DECIMAL), .val (.int (0 : Int32))] []) _
        refine XS.iconst Xk7.here hx rfl (hb hby at_77) ?_
        show Sp p e below Tk7 (mkF m 78 #[.val (.int p1), .val (.int p2), .val (.int (0 : Int32)), .val (.int (1 : Int32)), .val (.ref w_INTEGER), .val (.ref w_DECIMAL), .val (.int (0 : Int32))] [(.int (1 : Int32))]) _
        refine XS.goto Xk7.here hx rfl (pc0 := 78) (pc' := 82) rfl (hb hby at_78) (by decide) (by decide) ?_
        show Sp p e below Tk7 (mkF m 82 #[.val (.int p1), .val (.int p2), .val (.int (0 : Int32)), .val (.int (1 : Int32)), .val (.ref w_INTEGER), .val (.ref w_DECIMAL), .val (.int (0 : Int32))] [(.int (1 : Int32))]) _
        exact retN Xk7 hx (t := .boolean) hret (by simp) (hb hby at_82) hlv
      · show Q_law Z p1 p2 w_INTEGER w_DECIMAL w_VARCHAR w_DATE w_TIMESTAMP w_BOOLEAN w_NULL h0 n0 _ Tk7.heap _
        rw [ek7]
        exact ⟨rfl, Nk7⟩
    · have hrj : rj = w_VARCHAR := by rw [hpj]; simp [hj]
      rw [hi, hj, hri, hrj] at r5
      obtain ⟨cqk8, kqk8, qk8a, qk8b, qk8c⟩ := isOf hZ ek4 E_INTEGER
      obtain ⟨_, _, ⟨Tk8, Lk8, kk8, nk8⟩, -, Xk8, ⟨Lck8, hQk8, lk8, yk8, zk8⟩, stk8⟩ := Xk4.virtualBack hx (y := (⟨"com/example/kilit/kilit/ValueType", "includes", "(Lcom/example/kilit/kilit/ValueType;)Z"⟩ : MethodName)) (z := (⟨"com/example/kilit/kilit/ValueType", "includes", "(Lcom/example/kilit/kilit/ValueType;)Z"⟩ : MethodName)) hown (mvT hZ (hw _ (List.mem_of_getElem? (i := 10) rfl))) (mvT hZ (hw _ (List.mem_of_getElem? (i := 11) rfl))) (notFace_of_selects (args := #[]) (mvT hZ (hw _ (List.mem_of_getElem? (i := 13) rfl)))) (mvT hZ (hw _ (List.mem_of_getElem? (i := 13) rfl))) (mvT hZ (hw _ (List.mem_of_getElem? (i := 12) rfl))) (by decide) (backOf (W := 0) (rm_base l Z a0 hw [] w_INTEGER w_VARCHAR w_NULL (0 : Int32) h0 n0 Z0 S_NULL (by simp [n_VARCHAR_INTEGER, n_VARCHAR_NULL, n_VARCHAR_DATE])) hZ (hw _ (List.mem_of_getElem? (i := 14) rfl)) (hw _ (List.mem_of_getElem? (i := 6) rfl)) (by decide) (by decide)) qk8a qk8c (g := (mkF m 69 #[.val (.int p1), .val (.int p2), .val (.int (0 : Int32)), .val (.int (2 : Int32)), .val (.ref w_INTEGER), .val (.ref w_VARCHAR), .val (.int (0 : Int32))] [(.ref w_VARCHAR), (.ref w_INTEGER)])) rfl (by rw [hml]; rfl) (Steps.refl _) (argsL := [(.ref w_VARCHAR)]) (rest := []) (lenOf pd__Lcom_example_kilit_kilit_ValueType__Z rfl) rfl (by show 2 * 0 + _ ≤ _; exact Nat.le_of_eq rfl) (hb hby at_69) (fun _ _ => ⟨rfl, ek4, (by decide : 0 + 0 ≤ _), (by decide : 0 + 0 ≤ _)⟩)
      dsimp only [Pt.U, Pt.locs, Pt.cells, Pt.slots] at Xk8 lk8 yk8 zk8 stk8 hQk8
      subst lk8 yk8 zk8
      obtain ⟨rfl, Nk8q, ek8⟩ := hQk8
      have Nk8 := Fr.app Nk4 Nk8q
      obtain ⟨fs, hlv, hrun, hended, hW, hsame⟩ := Xk8.leave (v := some (.int (1 : Int32))) (fun h => by rw [hret] at h; cases h)
      refine ⟨_, _, r5 _ ?_, hrun, hended, _, _, rfl, ?_, ⟨_, rfl⟩, hW, hsame.mono (by decide) (by decide)⟩
      · refine XS.iloadN Xk4.here hx rfl (hb hby at_28) rfl ?_
        show Sp p e below Tk4 (mkF m 29 #[.val (.int p1), .val (.int p2), .val (.int (0 : Int32)), .val (.int (2 : Int32)), .val (.ref w_INTEGER), .val (.ref w_VARCHAR), .unset] [(.int (0 : Int32))]) _
        refine XS.iloadN Xk4.here hx rfl (hb hby at_29) rfl ?_
        show Sp p e below Tk4 (mkF m 30 #[.val (.int p1), .val (.int p2), .val (.int (0 : Int32)), .val (.int (2 : Int32)), .val (.ref w_INTEGER), .val (.ref w_VARCHAR), .unset] [(.int (2 : Int32)), (.int (0 : Int32))]) _
        refine XS.icmpNo Xk4.here hx rfl (hb hby at_30) rfl (feq (by decide : ¬ ((0 : Int32) = (2 : Int32)))).1 ?_
        show Sp p e below Tk4 (mkF m 33 #[.val (.int p1), .val (.int p2), .val (.int (0 : Int32)), .val (.int (2 : Int32)), .val (.ref w_INTEGER), .val (.ref w_VARCHAR), .unset] []) _
        refine XS.iloadN Xk4.here hx rfl (hb hby at_33) rfl ?_
        show Sp p e below Tk4 (mkF m 34 #[.val (.int p1), .val (.int p2), .val (.int (0 : Int32)), .val (.int (2 : Int32)), .val (.ref w_INTEGER), .val (.ref w_VARCHAR), .unset] [(.int (2 : Int32))]) _
        refine XS.bipush Xk4.here hx rfl (hb hby at_34) ?_
        show Sp p e below Tk4 (mkF m 36 #[.val (.int p1), .val (.int p2), .val (.int (0 : Int32)), .val (.int (2 : Int32)), .val (.ref w_INTEGER), .val (.ref w_VARCHAR), .unset] [(.int (6 : Int32)), (.int (2 : Int32))]) _
        refine XS.icmpNo Xk4.here hx rfl (hb hby at_36) rfl (feq (by decide : ¬ ((2 : Int32) = (6 : Int32)))).1 ?_
        show Sp p e below Tk4 (mkF m 39 #[.val (.int p1), .val (.int p2), .val (.int (0 : Int32)), .val (.int (2 : Int32)), .val (.ref w_INTEGER), .val (.ref w_VARCHAR), .unset] []) _
        refine XS.iloadN Xk4.here hx rfl (hb hby at_39) rfl ?_
        show Sp p e below Tk4 (mkF m 40 #[.val (.int p1), .val (.int p2), .val (.int (0 : Int32)), .val (.int (2 : Int32)), .val (.ref w_INTEGER), .val (.ref w_VARCHAR), .unset] [(.int (0 : Int32))]) _
        refine XS.iconst Xk4.here hx rfl (hb hby at_40) ?_
        show Sp p e below Tk4 (mkF m 41 #[.val (.int p1), .val (.int p2), .val (.int (0 : Int32)), .val (.int (2 : Int32)), .val (.ref w_INTEGER), .val (.ref w_VARCHAR), .unset] [(.int (1 : Int32)), (.int (0 : Int32))]) _
        refine XS.icmpYes Xk4.here hx rfl (pc0 := 41) (pc' := 48) rfl (hb hby at_41) rfl (feq (by decide : ¬ ((0 : Int32) = (1 : Int32)))).2 (by decide) (by decide) ?_
        show Sp p e below Tk4 (mkF m 48 #[.val (.int p1), .val (.int p2), .val (.int (0 : Int32)), .val (.int (2 : Int32)), .val (.ref w_INTEGER), .val (.ref w_VARCHAR), .unset] []) _
        refine XS.iloadN Xk4.here hx rfl (hb hby at_48) rfl ?_
        show Sp p e below Tk4 (mkF m 49 #[.val (.int p1), .val (.int p2), .val (.int (0 : Int32)), .val (.int (2 : Int32)), .val (.ref w_INTEGER), .val (.ref w_VARCHAR), .unset] [(.int (0 : Int32))]) _
        refine XS.iconst Xk4.here hx rfl (hb hby at_49) ?_
        show Sp p e below Tk4 (mkF m 50 #[.val (.int p1), .val (.int p2), .val (.int (0 : Int32)), .val (.int (2 : Int32)), .val (.ref w_INTEGER), .val (.ref w_VARCHAR), .unset] [(.int (4 : Int32)), (.int (0 : Int32))]) _
        refine XS.icmpYes Xk4.here hx rfl (pc0 := 50) (pc' := 62) rfl (hb hby at_50) rfl (feq (by decide : ¬ ((0 : Int32) = (4 : Int32)))).2 (by decide) (by decide) ?_
        show Sp p e below Tk4 (mkF m 62 #[.val (.int p1), .val (.int p2), .val (.int (0 : Int32)), .val (.int (2 : Int32)), .val (.ref w_INTEGER), .val (.ref w_VARCHAR), .unset] []) _
        refine XS.iconst Xk4.here hx rfl (hb hby at_62) ?_
        show Sp p e below Tk4 (mkF m 63 #[.val (.int p1), .val (.int p2), .val (.int (0 : Int32)), .val (.int (2 : Int32)), .val (.ref w_INTEGER), .val (.ref w_VARCHAR), .unset] [(.int (0 : Int32))]) _
        refine XS.istore Xk4.here hx rfl (hb hby at_63) rfl (l' := #[.val (.int p1), .val (.int p2), .val (.int (0 : Int32)), .val (.int (2 : Int32)), .val (.ref w_INTEGER), .val (.ref w_VARCHAR), .val (.int (0 : Int32))]) rfl ?_
        show Sp p e below Tk4 (mkF m 65 #[.val (.int p1), .val (.int p2), .val (.int (0 : Int32)), .val (.int (2 : Int32)), .val (.ref w_INTEGER), .val (.ref w_VARCHAR), .val (.int (0 : Int32))] []) _
        refine XS.aload Xk4.here hx rfl (hb hby at_65) rfl rfl ?_
        show Sp p e below Tk4 (mkF m 67 #[.val (.int p1), .val (.int p2), .val (.int (0 : Int32)), .val (.int (2 : Int32)), .val (.ref w_INTEGER), .val (.ref w_VARCHAR), .val (.int (0 : Int32))] [(.ref w_INTEGER)]) _
        refine XS.aload Xk4.here hx rfl (hb hby at_67) rfl rfl ?_
        show Sp p e below Tk4 (mkF m 69 #[.val (.int p1), .val (.int p2), .val (.int (0 : Int32)), .val (.int (2 : Int32)), .val (.ref w_INTEGER), .val (.ref w_VARCHAR), .val (.int (0 : Int32))] [(.ref w_VARCHAR), (.ref w_INTEGER)]) _
        refine stk8.trans ?_
        show Sp p e below Tk8 (mkF m 72 #[.val (.int p1), .val (.int p2), .val (.int (0 : Int32)), .val (.int (2 : Int32)), .val (.ref w_INTEGER), .val (.ref w_VARCHAR), .val (.int (0 : Int32))] [(.int (0 : Int32))]) _
        refine XS.iload Xk8.here hx rfl (hb hby at_72) rfl ?_
        show Sp p e below Tk8 (mkF m 74 #[.val (.int p1), .val (.int p2), .val (.int (0 : Int32)), .val (.int (2 : Int32)), .val (.ref w_INTEGER), .val (.ref w_VARCHAR), .val (.int (0 : Int32))] [(.int (0 : Int32)), (.int (0 : Int32))]) _
        refine XS.icmpNo Xk8.here hx rfl (hb hby at_74) rfl (teq (by decide : (0 : Int32) = (0 : Int32))).2 ?_
        show Sp p e below Tk8 (mkF m 77 #[.val (.int p1), .val (.int p2), .val (.int (0 : Int32)), .val (.int (2 : Int32)), .val (.ref w_INTEGER), .val (.ref w_VARCHAR), .val (.int (0 : Int32))] []) _
        refine XS.iconst Xk8.here hx rfl (hb hby at_77) ?_
        show Sp p e below Tk8 (mkF m 78 #[.val (.int p1), .val (.int p2), .val (.int (0 : Int32)), .val (.int (2 : Int32)), .val (.ref w_INTEGER), .val (.ref w_VARCHAR), .val (.int (0 : Int32))] [(.int (1 : Int32))]) _
        refine XS.goto Xk8.here hx rfl (pc0 := 78) (pc' := 82) rfl (hb hby at_78) (by decide) (by decide) ?_
        show Sp p e below Tk8 (mkF m 82 #[.val (.int p1), .val (.int p2), .val (.int (0 : Int32)), .val (.int (2 : Int32)), .val (.ref w_INTEGER), .val (.ref w_VARCHAR), .val (.int (0 : Int32))] [(.int (1 : Int32))]) _
        exact retN Xk8 hx (t := .boolean) hret (by simp) (hb hby at_82) hlv
      · show Q_law Z p1 p2 w_INTEGER w_DECIMAL w_VARCHAR w_DATE w_TIMESTAMP w_BOOLEAN w_NULL h0 n0 _ Tk8.heap _
        rw [ek8]
        exact ⟨rfl, Nk8⟩
    · have hrj : rj = w_DATE := by rw [hpj]; simp [hj]
      rw [hi, hj, hri, hrj] at r5
      obtain ⟨cqk9, kqk9, qk9a, qk9b, qk9c⟩ := isOf hZ ek4 E_INTEGER
      obtain ⟨_, _, ⟨Tk9, Lk9, kk9, nk9⟩, -, Xk9, ⟨Lck9, hQk9, lk9, yk9, zk9⟩, stk9⟩ := Xk4.virtualBack hx (y := (⟨"com/example/kilit/kilit/ValueType", "includes", "(Lcom/example/kilit/kilit/ValueType;)Z"⟩ : MethodName)) (z := (⟨"com/example/kilit/kilit/ValueType", "includes", "(Lcom/example/kilit/kilit/ValueType;)Z"⟩ : MethodName)) hown (mvT hZ (hw _ (List.mem_of_getElem? (i := 10) rfl))) (mvT hZ (hw _ (List.mem_of_getElem? (i := 11) rfl))) (notFace_of_selects (args := #[]) (mvT hZ (hw _ (List.mem_of_getElem? (i := 13) rfl)))) (mvT hZ (hw _ (List.mem_of_getElem? (i := 13) rfl))) (mvT hZ (hw _ (List.mem_of_getElem? (i := 12) rfl))) (by decide) (backOf (W := 0) (rm_base l Z a0 hw [] w_INTEGER w_DATE w_NULL (0 : Int32) h0 n0 Z0 S_NULL (by simp [n_DATE_INTEGER, n_DATE_NULL])) hZ (hw _ (List.mem_of_getElem? (i := 14) rfl)) (hw _ (List.mem_of_getElem? (i := 6) rfl)) (by decide) (by decide)) qk9a qk9c (g := (mkF m 69 #[.val (.int p1), .val (.int p2), .val (.int (0 : Int32)), .val (.int (3 : Int32)), .val (.ref w_INTEGER), .val (.ref w_DATE), .val (.int (0 : Int32))] [(.ref w_DATE), (.ref w_INTEGER)])) rfl (by rw [hml]; rfl) (Steps.refl _) (argsL := [(.ref w_DATE)]) (rest := []) (lenOf pd__Lcom_example_kilit_kilit_ValueType__Z rfl) rfl (by show 2 * 0 + _ ≤ _; exact Nat.le_of_eq rfl) (hb hby at_69) (fun _ _ => ⟨rfl, ek4, (by decide : 0 + 0 ≤ _), (by decide : 0 + 0 ≤ _)⟩)
      dsimp only [Pt.U, Pt.locs, Pt.cells, Pt.slots] at Xk9 lk9 yk9 zk9 stk9 hQk9
      subst lk9 yk9 zk9
      obtain ⟨rfl, Nk9q, ek9⟩ := hQk9
      have Nk9 := Fr.app Nk4 Nk9q
      obtain ⟨fs, hlv, hrun, hended, hW, hsame⟩ := Xk9.leave (v := some (.int (1 : Int32))) (fun h => by rw [hret] at h; cases h)
      refine ⟨_, _, r5 _ ?_, hrun, hended, _, _, rfl, ?_, ⟨_, rfl⟩, hW, hsame.mono (by decide) (by decide)⟩
      · refine XS.iloadN Xk4.here hx rfl (hb hby at_28) rfl ?_
        show Sp p e below Tk4 (mkF m 29 #[.val (.int p1), .val (.int p2), .val (.int (0 : Int32)), .val (.int (3 : Int32)), .val (.ref w_INTEGER), .val (.ref w_DATE), .unset] [(.int (0 : Int32))]) _
        refine XS.iloadN Xk4.here hx rfl (hb hby at_29) rfl ?_
        show Sp p e below Tk4 (mkF m 30 #[.val (.int p1), .val (.int p2), .val (.int (0 : Int32)), .val (.int (3 : Int32)), .val (.ref w_INTEGER), .val (.ref w_DATE), .unset] [(.int (3 : Int32)), (.int (0 : Int32))]) _
        refine XS.icmpNo Xk4.here hx rfl (hb hby at_30) rfl (feq (by decide : ¬ ((0 : Int32) = (3 : Int32)))).1 ?_
        show Sp p e below Tk4 (mkF m 33 #[.val (.int p1), .val (.int p2), .val (.int (0 : Int32)), .val (.int (3 : Int32)), .val (.ref w_INTEGER), .val (.ref w_DATE), .unset] []) _
        refine XS.iloadN Xk4.here hx rfl (hb hby at_33) rfl ?_
        show Sp p e below Tk4 (mkF m 34 #[.val (.int p1), .val (.int p2), .val (.int (0 : Int32)), .val (.int (3 : Int32)), .val (.ref w_INTEGER), .val (.ref w_DATE), .unset] [(.int (3 : Int32))]) _
        refine XS.bipush Xk4.here hx rfl (hb hby at_34) ?_
        show Sp p e below Tk4 (mkF m 36 #[.val (.int p1), .val (.int p2), .val (.int (0 : Int32)), .val (.int (3 : Int32)), .val (.ref w_INTEGER), .val (.ref w_DATE), .unset] [(.int (6 : Int32)), (.int (3 : Int32))]) _
        refine XS.icmpNo Xk4.here hx rfl (hb hby at_36) rfl (feq (by decide : ¬ ((3 : Int32) = (6 : Int32)))).1 ?_
        show Sp p e below Tk4 (mkF m 39 #[.val (.int p1), .val (.int p2), .val (.int (0 : Int32)), .val (.int (3 : Int32)), .val (.ref w_INTEGER), .val (.ref w_DATE), .unset] []) _
        refine XS.iloadN Xk4.here hx rfl (hb hby at_39) rfl ?_
        show Sp p e below Tk4 (mkF m 40 #[.val (.int p1), .val (.int p2), .val (.int (0 : Int32)), .val (.int (3 : Int32)), .val (.ref w_INTEGER), .val (.ref w_DATE), .unset] [(.int (0 : Int32))]) _
        refine XS.iconst Xk4.here hx rfl (hb hby at_40) ?_
        show Sp p e below Tk4 (mkF m 41 #[.val (.int p1), .val (.int p2), .val (.int (0 : Int32)), .val (.int (3 : Int32)), .val (.ref w_INTEGER), .val (.ref w_DATE), .unset] [(.int (1 : Int32)), (.int (0 : Int32))]) _
        refine XS.icmpYes Xk4.here hx rfl (pc0 := 41) (pc' := 48) rfl (hb hby at_41) rfl (feq (by decide : ¬ ((0 : Int32) = (1 : Int32)))).2 (by decide) (by decide) ?_
        show Sp p e below Tk4 (mkF m 48 #[.val (.int p1), .val (.int p2), .val (.int (0 : Int32)), .val (.int (3 : Int32)), .val (.ref w_INTEGER), .val (.ref w_DATE), .unset] []) _
        refine XS.iloadN Xk4.here hx rfl (hb hby at_48) rfl ?_
        show Sp p e below Tk4 (mkF m 49 #[.val (.int p1), .val (.int p2), .val (.int (0 : Int32)), .val (.int (3 : Int32)), .val (.ref w_INTEGER), .val (.ref w_DATE), .unset] [(.int (0 : Int32))]) _
        refine XS.iconst Xk4.here hx rfl (hb hby at_49) ?_
        show Sp p e below Tk4 (mkF m 50 #[.val (.int p1), .val (.int p2), .val (.int (0 : Int32)), .val (.int (3 : Int32)), .val (.ref w_INTEGER), .val (.ref w_DATE), .unset] [(.int (4 : Int32)), (.int (0 : Int32))]) _
        refine XS.icmpYes Xk4.here hx rfl (pc0 := 50) (pc' := 62) rfl (hb hby at_50) rfl (feq (by decide : ¬ ((0 : Int32) = (4 : Int32)))).2 (by decide) (by decide) ?_
        show Sp p e below Tk4 (mkF m 62 #[.val (.int p1), .val (.int p2), .val (.int (0 : Int32)), .val (.int (3 : Int32)), .val (.ref w_INTEGER), .val (.ref w_DATE), .unset] []) _
        refine XS.iconst Xk4.here hx rfl (hb hby at_62) ?_
        show Sp p e below Tk4 (mkF m 63 #[.val (.int p1), .val (.int p2), .val (.int (0 : Int32)), .val (.int (3 : Int32)), .val (.ref w_INTEGER), .val (.ref w_DATE), .unset] [(.int (0 : Int32))]) _
        refine XS.istore Xk4.here hx rfl (hb hby at_63) rfl (l' := #[.val (.int p1), .val (.int p2), .val (.int (0 : Int32)), .val (.int (3 : Int32)), .val (.ref w_INTEGER), .val (.ref w_DATE), .val (.int (0 : Int32))]) rfl ?_
        show Sp p e below Tk4 (mkF m 65 #[.val (.int p1), .val (.int p2), .val (.int (0 : Int32)), .val (.int (3 : Int32)), .val (.ref w_INTEGER), .val (.ref w_DATE), .val (.int (0 : Int32))] []) _
        refine XS.aload Xk4.here hx rfl (hb hby at_65) rfl rfl ?_
        show Sp p e below Tk4 (mkF m 67 #[.val (.int p1), .val (.int p2), .val (.int (0 : Int32)), .val (.int (3 : Int32)), .val (.ref w_INTEGER), .val (.ref w_DATE), .val (.int (0 : Int32))] [(.ref w_INTEGER)]) _
        refine XS.aload Xk4.here hx rfl (hb hby at_67) rfl rfl ?_
        show Sp p e below Tk4 (mkF m 69 #[.val (.int p1), .val (.int p2), .val (.int (0 : Int32)), .val (.int (3 : Int32)), .val (.ref w_INTEGER), .val (.ref w_DATE), .val (.int (0 : Int32))] [(.ref w_DATE), (.ref w_INTEGER)]) _
        refine stk9.trans ?_
        show Sp p e below Tk9 (mkF m 72 #[.val (.int p1), .val (.int p2), .val (.int (0 : Int32)), .val (.int (3 : Int32)), .val (.ref w_INTEGER), .val (.ref w_DATE), .val (.int (0 : Int32))] [(.int (0 : Int32))]) _
        refine XS.iload Xk9.here hx rfl (hb hby at_72) rfl ?_
        show Sp p e below Tk9 (mkF m 74 #[.val (.int p1), .val (.int p2), .val (.int (0 : Int32)), .val (.int (3 : Int32)), .val (.ref w_INTEGER), .val (.ref w_DATE), .val (.int (0 : Int32))] [(.int (0 : Int32)), (.int (0 : Int32))]) _
        refine XS.icmpNo Xk9.here hx rfl (hb hby at_74) rfl (teq (by decide : (0 : Int32) = (0 : Int32))).2 ?_
        show Sp p e below Tk9 (mkF m 77 #[.val (.int p1), .val (.int p2), .val (.int (0 : Int32)), .val (.int (3 : Int32)), .val (.ref w_INTEGER), .val (.ref w_DATE), .val (.int (0 : Int32))] []) _
        refine XS.iconst Xk9.here hx rfl (hb hby at_77) ?_
        show Sp p e below Tk9 (mkF m 78 #[.val (.int p1), .val (.int p2), .val (.int (0 : Int32)), .val (.int (3 : Int32)), .val (.ref w_INTEGER), .val (.ref w_DATE), .val (.int (0 : Int32))] [(.int (1 : Int32))]) _
        refine XS.goto Xk9.here hx rfl (pc0 := 78) (pc' := 82) rfl (hb hby at_78) (by decide) (by decide) ?_
        show Sp p e below Tk9 (mkF m 82 #[.val (.int p1), .val (.int p2), .val (.int (0 : Int32)), .val (.int (3 : Int32)), .val (.ref w_INTEGER), .val (.ref w_DATE), .val (.int (0 : Int32))] [(.int (1 : Int32))]) _
        exact retN Xk9 hx (t := .boolean) hret (by simp) (hb hby at_82) hlv
      · show Q_law Z p1 p2 w_INTEGER w_DECIMAL w_VARCHAR w_DATE w_TIMESTAMP w_BOOLEAN w_NULL h0 n0 _ Tk9.heap _
        rw [ek9]
        exact ⟨rfl, Nk9⟩
    · have hrj : rj = w_TIMESTAMP := by rw [hpj]; simp [hj]
      rw [hi, hj, hri, hrj] at r5
      obtain ⟨cqk10, kqk10, qk10a, qk10b, qk10c⟩ := isOf hZ ek4 E_INTEGER
      obtain ⟨_, _, ⟨Tk10, Lk10, kk10, nk10⟩, -, Xk10, ⟨Lck10, hQk10, lk10, yk10, zk10⟩, stk10⟩ := Xk4.virtualBack hx (y := (⟨"com/example/kilit/kilit/ValueType", "includes", "(Lcom/example/kilit/kilit/ValueType;)Z"⟩ : MethodName)) (z := (⟨"com/example/kilit/kilit/ValueType", "includes", "(Lcom/example/kilit/kilit/ValueType;)Z"⟩ : MethodName)) hown (mvT hZ (hw _ (List.mem_of_getElem? (i := 10) rfl))) (mvT hZ (hw _ (List.mem_of_getElem? (i := 11) rfl))) (notFace_of_selects (args := #[]) (mvT hZ (hw _ (List.mem_of_getElem? (i := 13) rfl)))) (mvT hZ (hw _ (List.mem_of_getElem? (i := 13) rfl))) (mvT hZ (hw _ (List.mem_of_getElem? (i := 12) rfl))) (by decide) (backOf (W := 0) (rm_base l Z a0 hw [] w_INTEGER w_TIMESTAMP w_NULL (0 : Int32) h0 n0 Z0 S_NULL (by simp [n_TIMESTAMP_INTEGER, n_TIMESTAMP_NULL, n_TIMESTAMP_DATE])) hZ (hw _ (List.mem_of_getElem? (i := 14) rfl)) (hw _ (List.mem_of_getElem? (i := 6) rfl)) (by decide) (by decide)) qk10a qk10c (g := (mkF m 69 #[.val (.int p1), .val (.int p2), .val (.int (0 : Int32)), .val (.int (4 : Int32)), .val (.ref w_INTEGER), .val (.ref w_TIMESTAMP), .val (.int (0 : Int32))] [(.ref w_TIMESTAMP), (.ref w_INTEGER)])) rfl (by rw [hml]; rfl) (Steps.refl _) (argsL := [(.ref w_TIMESTAMP)]) (rest := []) (lenOf pd__Lcom_example_kilit_kilit_ValueType__Z rfl) rfl (by show 2 * 0 + _ ≤ _; exact Nat.le_of_eq rfl) (hb hby at_69) (fun _ _ => ⟨rfl, ek4, (by decide : 0 + 0 ≤ _), (by decide : 0 + 0 ≤ _)⟩)
      dsimp only [Pt.U, Pt.locs, Pt.cells, Pt.slots] at Xk10 lk10 yk10 zk10 stk10 hQk10
      subst lk10 yk10 zk10
      obtain ⟨rfl, Nk10q, ek10⟩ := hQk10
      have Nk10 := Fr.app Nk4 Nk10q
      obtain ⟨fs, hlv, hrun, hended, hW, hsame⟩ := Xk10.leave (v := some (.int (1 : Int32))) (fun h => by rw [hret] at h; cases h)
      refine ⟨_, _, r5 _ ?_, hrun, hended, _, _, rfl, ?_, ⟨_, rfl⟩, hW, hsame.mono (by decide) (by decide)⟩
      · refine XS.iloadN Xk4.here hx rfl (hb hby at_28) rfl ?_
        show Sp p e below Tk4 (mkF m 29 #[.val (.int p1), .val (.int p2), .val (.int (0 : Int32)), .val (.int (4 : Int32)), .val (.ref w_INTEGER), .val (.ref w_TIMESTAMP), .unset] [(.int (0 : Int32))]) _
        refine XS.iloadN Xk4.here hx rfl (hb hby at_29) rfl ?_
        show Sp p e below Tk4 (mkF m 30 #[.val (.int p1), .val (.int p2), .val (.int (0 : Int32)), .val (.int (4 : Int32)), .val (.ref w_INTEGER), .val (.ref w_TIMESTAMP), .unset] [(.int (4 : Int32)), (.int (0 : Int32))]) _
        refine XS.icmpNo Xk4.here hx rfl (hb hby at_30) rfl (feq (by decide : ¬ ((0 : Int32) = (4 : Int32)))).1 ?_
        show Sp p e below Tk4 (mkF m 33 #[.val (.int p1), .val (.int p2), .val (.int (0 : Int32)), .val (.int (4 : Int32)), .val (.ref w_INTEGER), .val (.ref w_TIMESTAMP), .unset] []) _
        refine XS.iloadN Xk4.here hx rfl (hb hby at_33) rfl ?_
        show Sp p e below Tk4 (mkF m 34 #[.val (.int p1), .val (.int p2), .val (.int (0 : Int32)), .val (.int (4 : Int32)), .val (.ref w_INTEGER), .val (.ref w_TIMESTAMP), .unset] [(.int (4 : Int32))]) _
        refine XS.bipush Xk4.here hx rfl (hb hby at_34) ?_
        show Sp p e below Tk4 (mkF m 36 #[.val (.int p1), .val (.int p2), .val (.int (0 : Int32)), .val (.int (4 : Int32)), .val (.ref w_INTEGER), .val (.ref w_TIMESTAMP), .unset] [(.int (6 : Int32)), (.int (4 : Int32))]) _
        refine XS.icmpNo Xk4.here hx rfl (hb hby at_36) rfl (feq (by decide : ¬ ((4 : Int32) = (6 : Int32)))).1 ?_
        show Sp p e below Tk4 (mkF m 39 #[.val (.int p1), .val (.int p2), .val (.int (0 : Int32)), .val (.int (4 : Int32)), .val (.ref w_INTEGER), .val (.ref w_TIMESTAMP), .unset] []) _
        refine XS.iloadN Xk4.here hx rfl (hb hby at_39) rfl ?_
        show Sp p e below Tk4 (mkF m 40 #[.val (.int p1), .val (.int p2), .val (.int (0 : Int32)), .val (.int (4 : Int32)), .val (.ref w_INTEGER), .val (.ref w_TIMESTAMP), .unset] [(.int (0 : Int32))]) _
        refine XS.iconst Xk4.here hx rfl (hb hby at_40) ?_
        show Sp p e below Tk4 (mkF m 41 #[.val (.int p1), .val (.int p2), .val (.int (0 : Int32)), .val (.int (4 : Int32)), .val (.ref w_INTEGER), .val (.ref w_TIMESTAMP), .unset] [(.int (1 : Int32)), (.int (0 : Int32))]) _
        refine XS.icmpYes Xk4.here hx rfl (pc0 := 41) (pc' := 48) rfl (hb hby at_41) rfl (feq (by decide : ¬ ((0 : Int32) = (1 : Int32)))).2 (by decide) (by decide) ?_
        show Sp p e below Tk4 (mkF m 48 #[.val (.int p1), .val (.int p2), .val (.int (0 : Int32)), .val (.int (4 : Int32)), .val (.ref w_INTEGER), .val (.ref w_TIMESTAMP), .unset] []) _
        refine XS.iloadN Xk4.here hx rfl (hb hby at_48) rfl ?_
        show Sp p e below Tk4 (mkF m 49 #[.val (.int p1), .val (.int p2), .val (.int (0 : Int32)), .val (.int (4 : Int32)), .val (.ref w_INTEGER), .val (.ref w_TIMESTAMP), .unset] [(.int (0 : Int32))]) _
        refine XS.iconst Xk4.here hx rfl (hb hby at_49) ?_
        show Sp p e below Tk4 (mkF m 50 #[.val (.int p1), .val (.int p2), .val (.int (0 : Int32)), .val (.int (4 : Int32)), .val (.ref w_INTEGER), .val (.ref w_TIMESTAMP), .unset] [(.int (4 : Int32)), (.int (0 : Int32))]) _
        refine XS.icmpYes Xk4.here hx rfl (pc0 := 50) (pc' := 62) rfl (hb hby at_50) rfl (feq (by decide : ¬ ((0 : Int32) = (4 : Int32)))).2 (by decide) (by decide) ?_
        show Sp p e below Tk4 (mkF m 62 #[.val (.int p1), .val (.int p2), .val (.int (0 : Int32)), .val (.int (4 : Int32)), .val (.ref w_INTEGER), .val (.ref w_TIMESTAMP), .unset] []) _
        refine XS.iconst Xk4.here hx rfl (hb hby at_62) ?_
        show Sp p e below Tk4 (mkF m 63 #[.val (.int p1), .val (.int p2), .val (.int (0 : Int32)), .val (.int (4 : Int32)), .val (.ref w_INTEGER), .val (.ref w_TIMESTAMP), .unset] [(.int (0 : Int32))]) _
        refine XS.istore Xk4.here hx rfl (hb hby at_63) rfl (l' := #[.val (.int p1), .val (.int p2), .val (.int (0 : Int32)), .val (.int (4 : Int32)), .val (.ref w_INTEGER), .val (.ref w_TIMESTAMP), .val (.int (0 : Int32))]) rfl ?_
        show Sp p e below Tk4 (mkF m 65 #[.val (.int p1), .val (.int p2), .val (.int (0 : Int32)), .val (.int (4 : Int32)), .val (.ref w_INTEGER), .val (.ref w_TIMESTAMP), .val (.int (0 : Int32))] []) _
        refine XS.aload Xk4.here hx rfl (hb hby at_65) rfl rfl ?_
        show Sp p e below Tk4 (mkF m 67 #[.val (.int p1), .val (.int p2), .val (.int (0 : Int32)), .val (.int (4 : Int32)), .val (.ref w_INTEGER), .val (.ref w_TIMESTAMP), .val (.int (0 : Int32))] [(.ref w_INTEGER)]) _
        refine XS.aload Xk4.here hx rfl (hb hby at_67) rfl rfl ?_
        show Sp p e below Tk4 (mkF m 69 #[.val (.int p1), .val (.int p2), .val (.int (0 : Int32)), .val (.int (4 : Int32)), .val (.ref w_INTEGER), .val (.ref w_TIMESTAMP), .val (.int (0 : Int32))] [(.ref w_TIMESTAMP), (.ref w_INTEGER)]) _
        refine stk10.trans ?_
        show Sp p e below Tk10 (mkF m 72 #[.val (.int p1), .val (.int p2), .val (.int (0 : Int32)), .val (.int (4 : Int32)), .val (.ref w_INTEGER), .val (.ref w_TIMESTAMP), .val (.int (0 : Int32))] [(.int (0 : Int32))]) _
        refine XS.iload Xk10.here hx rfl (hb hby at_72) rfl ?_
        show Sp p e below Tk10 (mkF m 74 #[.val (.int p1), .val (.int p2), .val (.int (0 : Int32)), .val (.int (4 : Int32)), .val (.ref w_INTEGER), .val (.ref w_TIMESTAMP), .val (.int (0 : Int32))] [(.int (0 : Int32)), (.int (0 : Int32))]) _
        refine XS.icmpNo Xk10.here hx rfl (hb hby at_74) rfl (teq (by decide : (0 : Int32) = (0 : Int32))).2 ?_
        show Sp p e below Tk10 (mkF m 77 #[.val (.int p1), .val (.int p2), .val (.int (0 : Int32)), .val (.int (4 : Int32)), .val (.ref w_INTEGER), .val (.ref w_TIMESTAMP), .val (.int (0 : Int32))] []) _
        refine XS.iconst Xk10.here hx rfl (hb hby at_77) ?_
        show Sp p e below Tk10 (mkF m 78 #[.val (.int p1), .val (.int p2), .val (.int (0 : Int32)), .val (.int (4 : Int32)), .val (.ref w_INTEGER), .val (.ref w_TIMESTAMP), .val (.int (0 : Int32))] [(.int (1 : Int32))]) _
        refine XS.goto Xk10.here hx rfl (pc0 := 78) (pc' := 82) rfl (hb hby at_78) (by decide) (by decide) ?_
        show Sp p e below Tk10 (mkF m 82 #[.val (.int p1), .val (.int p2), .val (.int (0 : Int32)), .val (.int (4 : Int32)), .val (.ref w_INTEGER), .val (.ref w_TIMESTAMP), .val (.int (0 : Int32))] [(.int (1 : Int32))]) _
        exact retN Xk10 hx (t := .boolean) hret (by simp) (hb hby at_82) hlv
      · show Q_law Z p1 p2 w_INTEGER w_DECIMAL w_VARCHAR w_DATE w_TIMESTAMP w_BOOLEAN w_NULL h0 n0 _ Tk10.heap _
        rw [ek10]
        exact ⟨rfl, Nk10⟩
    · have hrj : rj = w_BOOLEAN := by rw [hpj]; simp [hj]
      rw [hi, hj, hri, hrj] at r5
      obtain ⟨cqk11, kqk11, qk11a, qk11b, qk11c⟩ := isOf hZ ek4 E_INTEGER
      obtain ⟨_, _, ⟨Tk11, Lk11, kk11, nk11⟩, -, Xk11, ⟨Lck11, hQk11, lk11, yk11, zk11⟩, stk11⟩ := Xk4.virtualBack hx (y := (⟨"com/example/kilit/kilit/ValueType", "includes", "(Lcom/example/kilit/kilit/ValueType;)Z"⟩ : MethodName)) (z := (⟨"com/example/kilit/kilit/ValueType", "includes", "(Lcom/example/kilit/kilit/ValueType;)Z"⟩ : MethodName)) hown (mvT hZ (hw _ (List.mem_of_getElem? (i := 10) rfl))) (mvT hZ (hw _ (List.mem_of_getElem? (i := 11) rfl))) (notFace_of_selects (args := #[]) (mvT hZ (hw _ (List.mem_of_getElem? (i := 13) rfl)))) (mvT hZ (hw _ (List.mem_of_getElem? (i := 13) rfl))) (mvT hZ (hw _ (List.mem_of_getElem? (i := 12) rfl))) (by decide) (backOf (W := 0) (rm_base l Z a0 hw [] w_INTEGER w_BOOLEAN w_NULL (0 : Int32) h0 n0 Z0 S_NULL (by simp [n_BOOLEAN_INTEGER, n_BOOLEAN_NULL, n_BOOLEAN_DATE])) hZ (hw _ (List.mem_of_getElem? (i := 14) rfl)) (hw _ (List.mem_of_getElem? (i := 6) rfl)) (by decide) (by decide)) qk11a qk11c (g := (mkF m 69 #[.val (.int p1), .val (.int p2), .val (.int (0 : Int32)), .val (.int (5 : Int32)), .val (.ref w_INTEGER), .val (.ref w_BOOLEAN), .val (.int (0 : Int32))] [(.ref w_BOOLEAN), (.ref w_INTEGER)])) rfl (by rw [hml]; rfl) (Steps.refl _) (argsL := [(.ref w_BOOLEAN)]) (rest := []) (lenOf pd__Lcom_example_kilit_kilit_ValueType__Z rfl) rfl (by show 2 * 0 + _ ≤ _; exact Nat.le_of_eq rfl) (hb hby at_69) (fun _ _ => ⟨rfl, ek4, (by decide : 0 + 0 ≤ _), (by decide : 0 + 0 ≤ _)⟩)
      dsimp only [Pt.U, Pt.locs, Pt.cells, Pt.slots] at Xk11 lk11 yk11 zk11 stk11 hQk11
      subst lk11 yk11 zk11
      obtain ⟨rfl, Nk11q, ek11⟩ := hQk11
      have Nk11 := Fr.app Nk4 Nk11q
      obtain ⟨fs, hlv, hrun, hended, hW, hsame⟩ := Xk11.leave (v := some (.int (1 : Int32))) (fun h => by rw [hret] at h; cases h)
      refine ⟨_, _, r5 _ ?_, hrun, hended, _, _, rfl, ?_, ⟨_, rfl⟩, hW, hsame.mono (by decide) (by decide)⟩
      · refine XS.iloadN Xk4.here hx rfl (hb hby at_28) rfl ?_
        show Sp p e below Tk4 (mkF m 29 #[.val (.int p1), .val (.int p2), .val (.int (0 : Int32)), .val (.int (5 : Int32)), .val (.ref w_INTEGER), .val (.ref w_BOOLEAN), .unset] [(.int (0 : Int32))]) _
        refine XS.iloadN Xk4.here hx rfl (hb hby at_29) rfl ?_
        show Sp p e below Tk4 (mkF m 30 #[.val (.int p1), .val (.int p2), .val (.int (0 : Int32)), .val (.int (5 : Int32)), .val (.ref w_INTEGER), .val (.ref w_BOOLEAN), .unset] [(.int (5 : Int32)), (.int (0 : Int32))]) _
        refine XS.icmpNo Xk4.here hx rfl (hb hby at_30) rfl (feq (by decide : ¬ ((0 : Int32) = (5 : Int32)))).1 ?_
        show Sp p e below Tk4 (mkF m 33 #[.val (.int p1), .val (.int p2), .val (.int (0 : Int32)), .val (.int (5 : Int32)), .val (.ref w_INTEGER), .val (.ref w_BOOLEAN), .unset] []) _
        refine XS.iloadN Xk4.here hx rfl (hb hby at_33) rfl ?_
        show Sp p e below Tk4 (mkF m 34 #[.val (.int p1), .val (.int p2), .val (.int (0 : Int32)), .val (.int (5 : Int32)), .val (.ref w_INTEGER), .val (.ref w_BOOLEAN), .unset] [(.int (5 : Int32))]) _
        refine XS.bipush Xk4.here hx rfl (hb hby at_34) ?_
        show Sp p e below Tk4 (mkF m 36 #[.val (.int p1), .val (.int p2), .val (.int (0 : Int32)), .val (.int (5 : Int32)), .val (.ref w_INTEGER), .val (.ref w_BOOLEAN), .unset] [(.int (6 : Int32)), (.int (5 : Int32))]) _
        refine XS.icmpNo Xk4.here hx rfl (hb hby at_36) rfl (feq (by decide : ¬ ((5 : Int32) = (6 : Int32)))).1 ?_
        show Sp p e below Tk4 (mkF m 39 #[.val (.int p1), .val (.int p2), .val (.int (0 : Int32)), .val (.int (5 : Int32)), .val (.ref w_INTEGER), .val (.ref w_BOOLEAN), .unset] []) _
        refine XS.iloadN Xk4.here hx rfl (hb hby at_39) rfl ?_
        show Sp p e below Tk4 (mkF m 40 #[.val (.int p1), .val (.int p2), .val (.int (0 : Int32)), .val (.int (5 : Int32)), .val (.ref w_INTEGER), .val (.ref w_BOOLEAN), .unset] [(.int (0 : Int32))]) _
        refine XS.iconst Xk4.here hx rfl (hb hby at_40) ?_
        show Sp p e below Tk4 (mkF m 41 #[.val (.int p1), .val (.int p2), .val (.int (0 : Int32)), .val (.int (5 : Int32)), .val (.ref w_INTEGER), .val (.ref w_BOOLEAN), .unset] [(.int (1 : Int32)), (.int (0 : Int32))]) _
        refine XS.icmpYes Xk4.here hx rfl (pc0 := 41) (pc' := 48) rfl (hb hby at_41) rfl (feq (by decide : ¬ ((0 : Int32) = (1 : Int32)))).2 (by decide) (by decide) ?_
        show Sp p e below Tk4 (mkF m 48 #[.val (.int p1), .val (.int p2), .val (.int (0 : Int32)), .val (.int (5 : Int32)), .val (.ref w_INTEGER), .val (.ref w_BOOLEAN), .unset] []) _
        refine XS.iloadN Xk4.here hx rfl (hb hby at_48) rfl ?_
        show Sp p e below Tk4 (mkF m 49 #[.val (.int p1), .val (.int p2), .val (.int (0 : Int32)), .val (.int (5 : Int32)), .val (.ref w_INTEGER), .val (.ref w_BOOLEAN), .unset] [(.int (0 : Int32))]) _
        refine XS.iconst Xk4.here hx rfl (hb hby at_49) ?_
        show Sp p e below Tk4 (mkF m 50 #[.val (.int p1), .val (.int p2), .val (.int (0 : Int32)), .val (.int (5 : Int32)), .val (.ref w_INTEGER), .val (.ref w_BOOLEAN), .unset] [(.int (4 : Int32)), (.int (0 : Int32))]) _
        refine XS.icmpYes Xk4.here hx rfl (pc0 := 50) (pc' := 62) rfl (hb hby at_50) rfl (feq (by decide : ¬ ((0 : Int32) = (4 : Int32)))).2 (by decide) (by decide) ?_
        show Sp p e below Tk4 (mkF m 62 #[.val (.int p1), .val (.int p2), .val (.int (0 : Int32)), .val (.int (5 : Int32)), .val (.ref w_INTEGER), .val (.ref w_BOOLEAN), .unset] []) _
        refine XS.iconst Xk4.here hx rfl (hb hby at_62) ?_
        show Sp p e below Tk4 (mkF m 63 #[.val (.int p1), .val (.int p2), .val (.int (0 : Int32)), .val (.int (5 : Int32)), .val (.ref w_INTEGER), .val (.ref w_BOOLEAN), .unset] [(.int (0 : Int32))]) _
        refine XS.istore Xk4.here hx rfl (hb hby at_63) rfl (l' := #[.val (.int p1), .val (.int p2), .val (.int (0 : Int32)), .val (.int (5 : Int32)), .val (.ref w_INTEGER), .val (.ref w_BOOLEAN), .val (.int (0 : Int32))]) rfl ?_
        show Sp p e below Tk4 (mkF m 65 #[.val (.int p1), .val (.int p2), .val (.int (0 : Int32)), .val (.int (5 : Int32)), .val (.ref w_INTEGER), .val (.ref w_BOOLEAN), .val (.int (0 : Int32))] []) _
        refine XS.aload Xk4.here hx rfl (hb hby at_65) rfl rfl ?_
        show Sp p e below Tk4 (mkF m 67 #[.val (.int p1), .val (.int p2), .val (.int (0 : Int32)), .val (.int (5 : Int32)), .val (.ref w_INTEGER), .val (.ref w_BOOLEAN), .val (.int (0 : Int32))] [(.ref w_INTEGER)]) _
        refine XS.aload Xk4.here hx rfl (hb hby at_67) rfl rfl ?_
        show Sp p e below Tk4 (mkF m 69 #[.val (.int p1), .val (.int p2), .val (.int (0 : Int32)), .val (.int (5 : Int32)), .val (.ref w_INTEGER), .val (.ref w_BOOLEAN), .val (.int (0 : Int32))] [(.ref w_BOOLEAN), (.ref w_INTEGER)]) _
        refine stk11.trans ?_
        show Sp p e below Tk11 (mkF m 72 #[.val (.int p1), .val (.int p2), .val (.int (0 : Int32)), .val (.int (5 : Int32)), .val (.ref w_INTEGER), .val (.ref w_BOOLEAN), .val (.int (0 : Int32))] [(.int (0 : Int32))]) _
        refine XS.iload Xk11.here hx rfl (hb hby at_72) rfl ?_
        show Sp p e below Tk11 (mkF m 74 #[.val (.int p1), .val (.int p2), .val (.int (0 : Int32)), .val (.int (5 : Int32)), .val (.ref w_INTEGER), .val (.ref w_BOOLEAN), .val (.int (0 : Int32))] [(.int (0 : Int32)), (.int (0 : Int32))]) _
        refine XS.icmpNo Xk11.here hx rfl (hb hby at_74) rfl (teq (by decide : (0 : Int32) = (0 : Int32))).2 ?_
        show Sp p e below Tk11 (mkF m 77 #[.val (.int p1), .val (.int p2), .val (.int (0 : Int32)), .val (.int (5 : Int32)), .val (.ref w_INTEGER), .val (.ref w_BOOLEAN), .val (.int (0 : Int32))] []) _
        refine XS.iconst Xk11.here hx rfl (hb hby at_77) ?_
        show Sp p e below Tk11 (mkF m 78 #[.val (.int p1), .val (.int p2), .val (.int (0 : Int32)), .val (.int (5 : Int32)), .val (.ref w_INTEGER), .val (.ref w_BOOLEAN), .val (.int (0 : Int32))] [(.int (1 : Int32))]) _
        refine XS.goto Xk11.here hx rfl (pc0 := 78) (pc' := 82) rfl (hb hby at_78) (by decide) (by decide) ?_
        show Sp p e below Tk11 (mkF m 82 #[.val (.int p1), .val (.int p2), .val (.int (0 : Int32)), .val (.int (5 : Int32)), .val (.ref w_INTEGER), .val (.ref w_BOOLEAN), .val (.int (0 : Int32))] [(.int (1 : Int32))]) _
        exact retN Xk11 hx (t := .boolean) hret (by simp) (hb hby at_82) hlv
      · show Q_law Z p1 p2 w_INTEGER w_DECIMAL w_VARCHAR w_DATE w_TIMESTAMP w_BOOLEAN w_NULL h0 n0 _ Tk11.heap _
        rw [ek11]
        exact ⟨rfl, Nk11⟩
    · have hrj : rj = w_NULL := by rw [hpj]; simp [hj]
      rw [hi, hj, hri, hrj] at r5
      obtain ⟨cqk12, kqk12, qk12a, qk12b, qk12c⟩ := isOf hZ ek4 E_INTEGER
      obtain ⟨_, _, ⟨Tk12, Lk12, kk12, nk12⟩, -, Xk12, ⟨Lck12, hQk12, lk12, yk12, zk12⟩, stk12⟩ := Xk4.virtualBack hx (y := (⟨"com/example/kilit/kilit/ValueType", "includes", "(Lcom/example/kilit/kilit/ValueType;)Z"⟩ : MethodName)) (z := (⟨"com/example/kilit/kilit/ValueType", "includes", "(Lcom/example/kilit/kilit/ValueType;)Z"⟩ : MethodName)) hown (mvT hZ (hw _ (List.mem_of_getElem? (i := 10) rfl))) (mvT hZ (hw _ (List.mem_of_getElem? (i := 11) rfl))) (notFace_of_selects (args := #[]) (mvT hZ (hw _ (List.mem_of_getElem? (i := 13) rfl)))) (mvT hZ (hw _ (List.mem_of_getElem? (i := 13) rfl))) (mvT hZ (hw _ (List.mem_of_getElem? (i := 12) rfl))) (by decide) (backOf (W := 0) (rm_base l Z a0 hw [] w_INTEGER w_NULL w_NULL (1 : Int32) h0 n0 Z0 S_NULL (by simp [n_NULL_INTEGER, n_NULL_DATE])) hZ (hw _ (List.mem_of_getElem? (i := 14) rfl)) (hw _ (List.mem_of_getElem? (i := 6) rfl)) (by decide) (by decide)) qk12a qk12c (g := (mkF m 69 #[.val (.int p1), .val (.int p2), .val (.int (0 : Int32)), .val (.int (6 : Int32)), .val (.ref w_INTEGER), .val (.ref w_NULL), .val (.int (1 : Int32))] [(.ref w_NULL), (.ref w_INTEGER)])) rfl (by rw [hml]; rfl) (Steps.refl _) (argsL := [(.ref w_NULL)]) (rest := []) (lenOf pd__Lcom_example_kilit_kilit_ValueType__Z rfl) rfl (by show 2 * 0 + _ ≤ _; exact Nat.le_of_eq rfl) (hb hby at_69) (fun _ _ => ⟨rfl, ek4, (by decide : 0 + 0 ≤ _), (by decide : 0 + 0 ≤ _)⟩)
      dsimp only [Pt.U, Pt.locs, Pt.cells, Pt.slots] at Xk12 lk12 yk12 zk12 stk12 hQk12
      subst lk12 yk12 zk12
      obtain ⟨rfl, Nk12q, ek12⟩ := hQk12
      have Nk12 := Fr.app Nk4 Nk12q
      obtain ⟨fs, hlv, hrun, hended, hW, hsame⟩ := Xk12.leave (v := some (.int (1 : Int32))) (fun h => by rw [hret] at h; cases h)
      refine ⟨_, _, r5 _ ?_, hrun, hended, _, _, rfl, ?_, ⟨_, rfl⟩, hW, hsame.mono (by decide) (by decide)⟩
      · refine XS.iloadN Xk4.here hx rfl (hb hby at_28) rfl ?_
        show Sp p e below Tk4 (mkF m 29 #[.val (.int p1), .val (.int p2), .val (.int (0 : Int32)), .val (.int (6 : Int32)), .val (.ref w_INTEGER), .val (.ref w_NULL), .unset] [(.int (0 : Int32))]) _
        refine XS.iloadN Xk4.here hx rfl (hb hby at_29) rfl ?_
        show Sp p e below Tk4 (mkF m 30 #[.val (.int p1), .val (.int p2), .val (.int (0 : Int32)), .val (.int (6 : Int32)), .val (.ref w_INTEGER), .val (.ref w_NULL), .unset] [(.int (6 : Int32)), (.int (0 : Int32))]) _
        refine XS.icmpNo Xk4.here hx rfl (hb hby at_30) rfl (feq (by decide : ¬ ((0 : Int32) = (6 : Int32)))).1 ?_
        show Sp p e below Tk4 (mkF m 33 #[.val (.int p1), .val (.int p2), .val (.int (0 : Int32)), .val (.int (6 : Int32)), .val (.ref w_INTEGER), .val (.ref w_NULL), .unset] []) _
        refine XS.iloadN Xk4.here hx rfl (hb hby at_33) rfl ?_
        show Sp p e below Tk4 (mkF m 34 #[.val (.int p1), .val (.int p2), .val (.int (0 : Int32)), .val (.int (6 : Int32)), .val (.ref w_INTEGER), .val (.ref w_NULL), .unset] [(.int (6 : Int32))]) _
        refine XS.bipush Xk4.here hx rfl (hb hby at_34) ?_
        show Sp p e below Tk4 (mkF m 36 #[.val (.int p1), .val (.int p2), .val (.int (0 : Int32)), .val (.int (6 : Int32)), .val (.ref w_INTEGER), .val (.ref w_NULL), .unset] [(.int (6 : Int32)), (.int (6 : Int32))]) _
        refine XS.icmpYes Xk4.here hx rfl (pc0 := 36) (pc' := 58) rfl (hb hby at_36) rfl (teq (by decide : (6 : Int32) = (6 : Int32))).1 (by decide) (by decide) ?_
        show Sp p e below Tk4 (mkF m 58 #[.val (.int p1), .val (.int p2), .val (.int (0 : Int32)), .val (.int (6 : Int32)), .val (.ref w_INTEGER), .val (.ref w_NULL), .unset] []) _
        refine XS.iconst Xk4.here hx rfl (hb hby at_58) ?_
        show Sp p e below Tk4 (mkF m 59 #[.val (.int p1), .val (.int p2), .val (.int (0 : Int32)), .val (.int (6 : Int32)), .val (.ref w_INTEGER), .val (.ref w_NULL), .unset] [(.int (1 : Int32))]) _
        refine XS.goto Xk4.here hx rfl (pc0 := 59) (pc' := 63) rfl (hb hby at_59) (by decide) (by decide) ?_
        show Sp p e below Tk4 (mkF m 63 #[.val (.int p1), .val (.int p2), .val (.int (0 : Int32)), .val (.int (6 : Int32)), .val (.ref w_INTEGER), .val (.ref w_NULL), .unset] [(.int (1 : Int32))]) _
        refine XS.istore Xk4.here hx rfl (hb hby at_63) rfl (l' := #[.val (.int p1), .val (.int p2), .val (.int (0 : Int32)), .val (.int (6 : Int32)), .val (.ref w_INTEGER), .val (.ref w_NULL), .val (.int (1 : Int32))]) rfl ?_
        show Sp p e below Tk4 (mkF m 65 #[.val (.int p1), .val (.int p2), .val (.int (0 : Int32)), .val (.int (6 : Int32)), .val (.ref w_INTEGER), .val (.ref w_NULL), .val (.int (1 : Int32))] []) _
        refine XS.aload Xk4.here hx rfl (hb hby at_65) rfl rfl ?_
        show Sp p e below Tk4 (mkF m 67 #[.val (.int p1), .val (.int p2), .val (.int (0 : Int32)), .val (.int (6 : Int32)), .val (.ref w_INTEGER), .val (.ref w_NULL), .val (.int (1 : Int32))] [(.ref w_INTEGER)]) _
        refine XS.aload Xk4.here hx rfl (hb hby at_67) rfl rfl ?_
        show Sp p e below Tk4 (mkF m 69 #[.val (.int p1), .val (.int p2), .val (.int (0 : Int32)), .val (.int (6 : Int32)), .val (.ref w_INTEGER), .val (.ref w_NULL), .val (.int (1 : Int32))] [(.ref w_NULL), (.ref w_INTEGER)]) _
        refine stk12.trans ?_
        show Sp p e below Tk12 (mkF m 72 #[.val (.int p1), .val (.int p2), .val (.int (0 : Int32)), .val (.int (6 : Int32)), .val (.ref w_INTEGER), .val (.ref w_NULL), .val (.int (1 : Int32))] [(.int (1 : Int32))]) _
        refine XS.iload Xk12.here hx rfl (hb hby at_72) rfl ?_
        show Sp p e below Tk12 (mkF m 74 #[.val (.int p1), .val (.int p2), .val (.int (0 : Int32)), .val (.int (6 : Int32)), .val (.ref w_INTEGER), .val (.ref w_NULL), .val (.int (1 : Int32))] [(.int (1 : Int32)), (.int (1 : Int32))]) _
        refine XS.icmpNo Xk12.here hx rfl (hb hby at_74) rfl (teq (by decide : (1 : Int32) = (1 : Int32))).2 ?_
        show Sp p e below Tk12 (mkF m 77 #[.val (.int p1), .val (.int p2), .val (.int (0 : Int32)), .val (.int (6 : Int32)), .val (.ref w_INTEGER), .val (.ref w_NULL), .val (.int (1 : Int32))] []) _
        refine XS.iconst Xk12.here hx rfl (hb hby at_77) ?_
        show Sp p e below Tk12 (mkF m 78 #[.val (.int p1), .val (.int p2), .val (.int (0 : Int32)), .val (.int (6 : Int32)), .val (.ref w_INTEGER), .val (.ref w_NULL), .val (.int (1 : Int32))] [(.int (1 : Int32))]) _
        refine XS.goto Xk12.here hx rfl (pc0 := 78) (pc' := 82) rfl (hb hby at_78) (by decide) (by decide) ?_
        show Sp p e below Tk12 (mkF m 82 #[.val (.int p1), .val (.int p2), .val (.int (0 : Int32)), .val (.int (6 : Int32)), .val (.ref w_INTEGER), .val (.ref w_NULL), .val (.int (1 : Int32))] [(.int (1 : Int32))]) _
        exact retN Xk12 hx (t := .boolean) hret (by simp) (hb hby at_82) hlv
      · show Q_law Z p1 p2 w_INTEGER w_DECIMAL w_VARCHAR w_DATE w_TIMESTAMP w_BOOLEAN w_NULL h0 n0 _ Tk12.heap _
        rw [ek12]
        exact ⟨rfl, Nk12⟩
  · have hri : ri = w_DECIMAL := by rw [hpi]; simp [hi]
    rcases cj with hj | hj | hj | hj | hj | hj | hj
    · have hrj : rj = w_INTEGER := by rw [hpj]; simp [hj]
      rw [hi, hj, hri, hrj] at r5
      obtain ⟨cqk13, kqk13, qk13a, qk13b, qk13c⟩ := isOf hZ ek4 E_DECIMAL
      obtain ⟨_, _, ⟨Tk13, Lk13, kk13, nk13⟩, -, Xk13, ⟨Lck13, hQk13, lk13, yk13, zk13⟩, stk13⟩ := Xk4.virtualBack hx (y := (⟨"com/example/kilit/kilit/ValueType", "includes", "(Lcom/example/kilit/kilit/ValueType;)Z"⟩ : MethodName)) (z := (⟨"com/example/kilit/kilit/ValueType$2", "includes", "(Lcom/example/kilit/kilit/ValueType;)Z"⟩ : MethodName)) hown (mvT hZ (hw _ (List.mem_of_getElem? (i := 10) rfl))) (mvT hZ (hw _ (List.mem_of_getElem? (i := 11) rfl))) (notFace_of_selects (args := #[]) (mvT hZ (hw _ (List.mem_of_getElem? (i := 13) rfl)))) (mvT hZ (hw _ (List.mem_of_getElem? (i := 24) rfl))) (mvT hZ (hw _ (List.mem_of_getElem? (i := 25) rfl))) (by decide) (backOf (W := 0) (rm_inc2 l Z a0 hw [] w_DECIMAL w_INTEGER w_INTEGER w_NULL (1 : Int32) h0 n0 Z0 S_INTEGER S_NULL E_DECIMAL (by simp [n_INTEGER_DECIMAL, n_INTEGER_NULL, n_INTEGER_DATE])) hZ (hw _ (List.mem_of_getElem? (i := 27) rfl)) (hw _ (List.mem_of_getElem? (i := 26) rfl)) (by decide) (by decide)) qk13a qk13c (g := (mkF m 69 #[.val (.int p1), .val (.int p2), .val (.int (1 : Int32)), .val (.int (0 : Int32)), .val (.ref w_DECIMAL), .val (.ref w_INTEGER), .val (.int (1 : Int32))] [(.ref w_INTEGER), (.ref w_DECIMAL)])) rfl (by rw [hml]; rfl) (Steps.refl _) (argsL := [(.ref w_INTEGER)]) (rest := []) (lenOf pd__Lcom_example_kilit_kilit_ValueType__Z rfl) rfl (by show 2 * 0 + _ ≤ _; exact Nat.le_of_eq rfl) (hb hby at_69) (fun _ _ => ⟨rfl, ek4, (by decide : 0 + 0 ≤ _), (by decide : 0 + 0 ≤ _)⟩)
      dsimp only [Pt.U, Pt.locs, Pt.cells, Pt.slots] at Xk13 lk13 yk13 zk13 stk13 hQk13
      subst lk13 yk13 zk13
      obtain ⟨rfl, Nk13q, ek13⟩ := hQk13
      have Nk13 := Fr.app Nk4 Nk13q
      obtain ⟨fs, hlv, hrun, hended, hW, hsame⟩ := Xk13.leave (v := some (.int (1 : Int32))) (fun h => by rw [hret] at h; cases h)
      refine ⟨_, _, r5 _ ?_, hrun, hended, _, _, rfl, ?_, ⟨_, rfl⟩, hW, hsame.mono (by decide) (by decide)⟩
      · refine XS.iloadN Xk4.here hx rfl (hb hby at_28) rfl ?_
        show Sp p e below Tk4 (mkF m 29 #[.val (.int p1), .val (.int p2), .val (.int (1 : Int32)), .val (.int (0 : Int32)), .val (.ref w_DECIMAL), .val (.ref w_INTEGER), .unset] [(.int (1 : Int32))]) _
        refine XS.iloadN Xk4.here hx rfl (hb hby at_29) rfl ?_
        show Sp p e below Tk4 (mkF m 30 #[.val (.int p1), .val (.int p2), .val (.int (1 : Int32)), .val (.int (0 : Int32)), .val (.ref w_DECIMAL), .val (.ref w_INTEGER), .unset] [(.int (0 : Int32)), (.int (1 : Int32))]) _
        refine XS.icmpNo Xk4.here hx rfl (hb hby at_30) rfl (feq (by decide : ¬ ((1 : Int32) = (0 : Int32)))).1 ?_
        show Sp p e below Tk4 (mkF m 33 #[.val (.int p1), .val (.int p2), .val (.int (1 : Int32)), .val (.int (0 : Int32)), .val (.ref w_DECIMAL), .val (.ref w_INTEGER), .unset] []) _
        refine XS.iloadN Xk4.here hx rfl (hb hby at_33) rfl ?_
        show Sp p e below Tk4 (mkF m 34 #[.val (.int p1), .val (.int p2), .val (.int (1 : Int32)), .val (.int (0 : Int32)), .val (.ref w_DECIMAL), .val (.ref w_INTEGER), .unset] [(.int (0 : Int32))]) _
        refine XS.bipush Xk4.here hx rfl (hb hby at_34) ?_
        show Sp p e below Tk4 (mkF m 36 #[.val (.int p1), .val (.int p2), .val (.int (1 : Int32)), .val (.int (0 : Int32)), .val (.ref w_DECIMAL), .val (.ref w_INTEGER), .unset] [(.int (6 : Int32)), (.int (0 : Int32))]) _
        refine XS.icmpNo Xk4.here hx rfl (hb hby at_36) rfl (feq (by decide : ¬ ((0 : Int32) = (6 : Int32)))).1 ?_
        show Sp p e below Tk4 (mkF m 39 #[.val (.int p1), .val (.int p2), .val (.int (1 : Int32)), .val (.int (0 : Int32)), .val (.ref w_DECIMAL), .val (.ref w_INTEGER), .unset] []) _
        refine XS.iloadN Xk4.here hx rfl (hb hby at_39) rfl ?_
        show Sp p e below Tk4 (mkF m 40 #[.val (.int p1), .val (.int p2), .val (.int (1 : Int32)), .val (.int (0 : Int32)), .val (.ref w_DECIMAL), .val (.ref w_INTEGER), .unset] [(.int (1 : Int32))]) _
        refine XS.iconst Xk4.here hx rfl (hb hby at_40) ?_
        show Sp p e below Tk4 (mkF m 41 #[.val (.int p1), .val (.int p2), .val (.int (1 : Int32)), .val (.int (0 : Int32)), .val (.ref w_DECIMAL), .val (.ref w_INTEGER), .unset] [(.int (1 : Int32)), (.int (1 : Int32))]) _
        refine XS.icmpNo Xk4.here hx rfl (hb hby at_41) rfl (teq (by decide : (1 : Int32) = (1 : Int32))).2 ?_
        show Sp p e below Tk4 (mkF m 44 #[.val (.int p1), .val (.int p2), .val (.int (1 : Int32)), .val (.int (0 : Int32)), .val (.ref w_DECIMAL), .val (.ref w_INTEGER), .unset] []) _
        refine XS.iloadN Xk4.here hx rfl (hb hby at_44) rfl ?_
        show Sp p e below Tk4 (mkF m 45 #[.val (.int p1), .val (.int p2), .val (.int (1 : Int32)), .val (.int (0 : Int32)), .val (.ref w_DECIMAL), .val (.ref w_INTEGER), .unset] [(.int (0 : Int32))]) _
        refine XS.ifYes Xk4.here hx rfl (pc0 := 45) (pc' := 58) rfl (hb hby at_45) rfl ((if0 _ _).trans (teq (by decide : (0 : Int32) = (0 : Int32))).1) (by decide) (by decide) ?_
        show Sp p e below Tk4 (mkF m 58 #[.val (.int p1), .val (.int p2), .val (.int (1 : Int32)), .val (.int (0 : Int32)), .val (.ref w_DECIMAL), .val (.ref w_INTEGER), .unset] []) _
        refine XS.iconst Xk4.here hx rfl (hb hby at_58) ?_
        show Sp p e below Tk4 (mkF m 59 #[.val (.int p1), .val (.int p2), .val (.int (1 : Int32)), .val (.int (0 : Int32)), .val (.ref w_DECIMAL), .val (.ref w_INTEGER), .unset] [(.int (1 : Int32))]) _
        refine XS.goto Xk4.here hx rfl (pc0 := 59) (pc' := 63) rfl (hb hby at_59) (by decide) (by decide) ?_
        show Sp p e below Tk4 (mkF m 63 #[.val (.int p1), .val (.int p2), .val (.int (1 : Int32)), .val (.int (0 : Int32)), .val (.ref w_DECIMAL), .val (.ref w_INTEGER), .unset] [(.int (1 : Int32))]) _
        refine XS.istore Xk4.here hx rfl (hb hby at_63) rfl (l' := #[.val (.int p1), .val (.int p2), .val (.int (1 : Int32)), .val (.int (0 : Int32)), .val (.ref w_DECIMAL), .val (.ref w_INTEGER), .val (.int (1 : Int32))]) rfl ?_
        show Sp p e below Tk4 (mkF m 65 #[.val (.int p1), .val (.int p2), .val (.int (1 : Int32)), .val (.int (0 : Int32)), .val (.ref w_DECIMAL), .val (.ref w_INTEGER), .val (.int (1 : Int32))] []) _
        refine XS.aload Xk4.here hx rfl (hb hby at_65) rfl rfl ?_
        show Sp p e below Tk4 (mkF m 67 #[.val (.int p1), .val (.int p2), .val (.int (1 : Int32)), .val (.int (0 : Int32)), .val (.ref w_DECIMAL), .val (.ref w_INTEGER), .val (.int (1 : Int32))] [(.ref w_DECIMAL)]) _
        refine XS.aload Xk4.here hx rfl (hb hby at_67) rfl rfl ?_
        show Sp p e below Tk4 (mkF m 69 #[.val (.int p1), .val (.int p2), .val (.int (1 : Int32)), .val (.int (0 : Int32)), .val (.ref w_DECIMAL), .val (.ref w_INTEGER), .val (.int (1 : Int32))] [(.ref w_INTEGER), (.ref w_DECIMAL)]) _
        refine stk13.trans ?_
        show Sp p e below Tk13 (mkF m 72 #[.val (.int p1), .val (.int p2), .val (.int (1 : Int32)), .val (.int (0 : Int32)), .val (.ref w_DECIMAL), .val (.ref w_INTEGER), .val (.int (1 : Int32))] [(.int (1 : Int32))]) _
        refine XS.iload Xk13.here hx rfl (hb hby at_72) rfl ?_
        show Sp p e below Tk13 (mkF m 74 #[.val (.int p1), .val (.int p2), .val (.int (1 : Int32)), .val (.int (0 : Int32)), .val (.ref w_DECIMAL), .val (.ref w_INTEGER), .val (.int (1 : Int32))] [(.int (1 : Int32)), (.int (1 : Int32))]) _
        refine XS.icmpNo Xk13.here hx rfl (hb hby at_74) rfl (teq (by decide : (1 : Int32) = (1 : Int32))).2 ?_
        show Sp p e below Tk13 (mkF m 77 #[.val (.int p1), .val (.int p2), .val (.int (1 : Int32)), .val (.int (0 : Int32)), .val (.ref w_DECIMAL), .val (.ref w_INTEGER), .val (.int (1 : Int32))] []) _
        refine XS.iconst Xk13.here hx rfl (hb hby at_77) ?_
        show Sp p e below Tk13 (mkF m 78 #[.val (.int p1), .val (.int p2), .val (.int (1 : Int32)), .val (.int (0 : Int32)), .val (.ref w_DECIMAL), .val (.ref w_INTEGER), .val (.int (1 : Int32))] [(.int (1 : Int32))]) _
        refine XS.goto Xk13.here hx rfl (pc0 := 78) (pc' := 82) rfl (hb hby at_78) (by decide) (by decide) ?_
        show Sp p e below Tk13 (mkF m 82 #[.val (.int p1), .val (.int p2), .val (.int (1 : Int32)), .val (.int (0 : Int32)), .val (.ref w_DECIMAL), .val (.ref w_INTEGER), .val (.int (1 : Int32))] [(.int (1 : Int32))]) _
        exact retN Xk13 hx (t := .boolean) hret (by simp) (hb hby at_82) hlv
      · show Q_law Z p1 p2 w_INTEGER w_DECIMAL w_VARCHAR w_DATE w_TIMESTAMP w_BOOLEAN w_NULL h0 n0 _ Tk13.heap _
        rw [ek13]
        exact ⟨rfl, Nk13⟩
    · have hrj : rj = w_DECIMAL := by rw [hpj]; simp [hj]
      rw [hi, hj, hri, hrj] at r5
      obtain ⟨cqk14, kqk14, qk14a, qk14b, qk14c⟩ := isOf hZ ek4 E_DECIMAL
      obtain ⟨_, _, ⟨Tk14, Lk14, kk14, nk14⟩, -, Xk14, ⟨Lck14, hQk14, lk14, yk14, zk14⟩, stk14⟩ := Xk4.virtualBack hx (y := (⟨"com/example/kilit/kilit/ValueType", "includes", "(Lcom/example/kilit/kilit/ValueType;)Z"⟩ : MethodName)) (z := (⟨"com/example/kilit/kilit/ValueType$2", "includes", "(Lcom/example/kilit/kilit/ValueType;)Z"⟩ : MethodName)) hown (mvT hZ (hw _ (List.mem_of_getElem? (i := 10) rfl))) (mvT hZ (hw _ (List.mem_of_getElem? (i := 11) rfl))) (notFace_of_selects (args := #[]) (mvT hZ (hw _ (List.mem_of_getElem? (i := 13) rfl)))) (mvT hZ (hw _ (List.mem_of_getElem? (i := 24) rfl))) (mvT hZ (hw _ (List.mem_of_getElem? (i := 25) rfl))) (by decide) (backOf (W := 0) (rm_inc2 l Z a0 hw [] w_DECIMAL w_DECIMAL w_INTEGER w_NULL (1 : Int32) h0 n0 Z0 S_INTEGER S_NULL E_DECIMAL (by simp [n_DECIMAL_NULL, n_DECIMAL_INTEGER, n_DECIMAL_DATE])) hZ (hw _ (List.mem_of_getElem? (i := 27) rfl)) (hw _ (List.mem_of_getElem? (i := 26) rfl)) (by decide) (by decide)) qk14a qk14c (g := (mkF m 69 #[.val (.int p1), .val (.int p2), .val (.int (1 : Int32)), .val (.int (1 : Int32)), .val (.ref w_DECIMAL), .val (.ref w_DECIMAL), .val (.int (1 : Int32))] [(.ref w_DECIMAL), (.ref w_DECIMAL)])) rfl (by rw [hml]; rfl) (Steps.refl _) (argsL := [(.ref w_DECIMAL)]) (rest := []) (lenOf pd__Lcom_example_kilit_kilit_ValueType__Z rfl) rfl (by show 2 * 0 + _ ≤ _; exact Nat.le_of_eq rfl) (hb hby at_69) (fun _ _ => ⟨rfl, ek4, (by decide : 0 + 0 ≤ _), (by decide : 0 + 0 ≤ _)⟩)
      dsimp only [Pt.U, Pt.locs, Pt.cells, Pt.slots] at Xk14 lk14 yk14 zk14 stk14 hQk14
      subst lk14 yk14 zk14
      obtain ⟨rfl, Nk14q, ek14⟩ := hQk14
      have Nk14 := Fr.app Nk4 Nk14q
      obtain ⟨fs, hlv, hrun, hended, hW, hsame⟩ := Xk14.leave (v := some (.int (1 : Int32))) (fun h => by rw [hret] at h; cases h)
      refine ⟨_, _, r5 _ ?_, hrun, hended, _, _, rfl, ?_, ⟨_, rfl⟩, hW, hsame.mono (by decide) (by decide)⟩
      · refine XS.iloadN Xk4.here hx rfl (hb hby at_28) rfl ?_
        show Sp p e below Tk4 (mkF m 29 #[.val (.int p1), .val (.int p2), .val (.int (1 : Int32)), .val (.int (1 : Int32)), .val (.ref w_DECIMAL), .val (.ref w_DECIMAL), .unset] [(.int (1 : Int32))]) _
        refine XS.iloadN Xk4.here hx rfl (hb hby at_29) rfl ?_
        show Sp p e below Tk4 (mkF m 30 #[.val (.int p1), .val (.int p2), .val (.int (1 : Int32)), .val (.int (1 : Int32)), .val (.ref w_DECIMAL), .val (.ref w_DECIMAL), .unset] [(.int (1 : Int32)), (.int (1 : Int32))]) _
        refine XS.icmpYes Xk4.here hx rfl (pc0 := 30) (pc' := 58) rfl (hb hby at_30) rfl (teq (by decide : (1 : Int32) = (1 : Int32))).1 (by decide) (by decide) ?_
        show Sp p e below Tk4 (mkF m 58 #[.val (.int p1), .val (.int p2), .val (.int (1 : Int32)), .val (.int (1 : Int32)), .val (.ref w_DECIMAL), .val (.ref w_DECIMAL), .unset] []) _
        refine XS.iconst Xk4.here hx rfl (hb hby at_58) ?_
        show Sp p e below Tk4 (mkF m 59 #[.val (.int p1), .val (.int p2), .val (.int (1 : Int32)), .val (.int (1 : Int32)), .val (.ref w_DECIMAL), .val (.ref w_DECIMAL), .unset] [(.int (1 : Int32))]) _
        refine XS.goto Xk4.here hx rfl (pc0 := 59) (pc' := 63) rfl (hb hby at_59) (by decide) (by decide) ?_
        show Sp p e below Tk4 (mkF m 63 #[.val (.int p1), .val (.int p2), .val (.int (1 : Int32)), .val (.int (1 : Int32)), .val (.ref w_DECIMAL), .val (.ref w_DECIMAL), .unset] [(.int (1 : Int32))]) _
        refine XS.istore Xk4.here hx rfl (hb hby at_63) rfl (l' := #[.val (.int p1), .val (.int p2), .val (.int (1 : Int32)), .val (.int (1 : Int32)), .val (.ref w_DECIMAL), .val (.ref w_DECIMAL), .val (.int (1 : Int32))]) rfl ?_
        show Sp p e below Tk4 (mkF m 65 #[.val (.int p1), .val (.int p2), .val (.int (1 : Int32)), .val (.int (1 : Int32)), .val (.ref w_DECIMAL), .val (.ref w_DECIMAL), .val (.int (1 : Int32))] []) _
        refine XS.aload Xk4.here hx rfl (hb hby at_65) rfl rfl ?_
        show Sp p e below Tk4 (mkF m 67 #[.val (.int p1), .val (.int p2), .val (.int (1 : Int32)), .val (.int (1 : Int32)), .val (.ref w_DECIMAL), .val (.ref w_DECIMAL), .val (.int (1 : Int32))] [(.ref w_DECIMAL)]) _
        refine XS.aload Xk4.here hx rfl (hb hby at_67) rfl rfl ?_
        show Sp p e below Tk4 (mkF m 69 #[.val (.int p1), .val (.int p2), .val (.int (1 : Int32)), .val (.int (1 : Int32)), .val (.ref w_DECIMAL), .val (.ref w_DECIMAL), .val (.int (1 : Int32))] [(.ref w_DECIMAL), (.ref w_DECIMAL)]) _
        refine stk14.trans ?_
        show Sp p e below Tk14 (mkF m 72 #[.val (.int p1), .val (.int p2), .val (.int (1 : Int32)), .val (.int (1 : Int32)), .val (.ref w_DECIMAL), .val (.ref w_DECIMAL), .val (.int (1 : Int32))] [(.int (1 : Int32))]) _
        refine XS.iload Xk14.here hx rfl (hb hby at_72) rfl ?_
        show Sp p e below Tk14 (mkF m 74 #[.val (.int p1), .val (.int p2), .val (.int (1 : Int32)), .val (.int (1 : Int32)), .val (.ref w_DECIMAL), .val (.ref w_DECIMAL), .val (.int (1 : Int32))] [(.int (1 : Int32)), (.int (1 : Int32))]) _
        refine XS.icmpNo Xk14.here hx rfl (hb hby at_74) rfl (teq (by decide : (1 : Int32) = (1 : Int32))).2 ?_
        show Sp p e below Tk14 (mkF m 77 #[.val (.int p1), .val (.int p2), .val (.int (1 : Int32)), .val (.int (1 : Int32)), .val (.ref w_DECIMAL), .val (.ref w_DECIMAL), .val (.int (1 : Int32))] []) _
        refine XS.iconst Xk14.here hx rfl (hb hby at_77) ?_
        show Sp p e below Tk14 (mkF m 78 #[.val (.int p1), .val (.int p2), .val (.int (1 : Int32)), .val (.int (1 : Int32)), .val (.ref w_DECIMAL), .val (.ref w_DECIMAL), .val (.int (1 : Int32))] [(.int (1 : Int32))]) _
        refine XS.goto Xk14.here hx rfl (pc0 := 78) (pc' := 82) rfl (hb hby at_78) (by decide) (by decide) ?_
        show Sp p e below Tk14 (mkF m 82 #[.val (.int p1), .val (.int p2), .val (.int (1 : Int32)), .val (.int (1 : Int32)), .val (.ref w_DECIMAL), .val (.ref w_DECIMAL), .val (.int (1 : Int32))] [(.int (1 : Int32))]) _
        exact retN Xk14 hx (t := .boolean) hret (by simp) (hb hby at_82) hlv
      · show Q_law Z p1 p2 w_INTEGER w_DECIMAL w_VARCHAR w_DATE w_TIMESTAMP w_BOOLEAN w_NULL h0 n0 _ Tk14.heap _
        rw [ek14]
        exact ⟨rfl, Nk14⟩
    · have hrj : rj = w_VARCHAR := by rw [hpj]; simp [hj]
      rw [hi, hj, hri, hrj] at r5
      obtain ⟨cqk15, kqk15, qk15a, qk15b, qk15c⟩ := isOf hZ ek4 E_DECIMAL
      obtain ⟨_, _, ⟨Tk15, Lk15, kk15, nk15⟩, -, Xk15, ⟨Lck15, hQk15, lk15, yk15, zk15⟩, stk15⟩ := Xk4.virtualBack hx (y := (⟨"com/example/kilit/kilit/ValueType", "includes", "(Lcom/example/kilit/kilit/ValueType;)Z"⟩ : MethodName)) (z := (⟨"com/example/kilit/kilit/ValueType$2", "includes", "(Lcom/example/kilit/kilit/ValueType;)Z"⟩ : MethodName)) hown (mvT hZ (hw _ (List.mem_of_getElem? (i := 10) rfl))) (mvT hZ (hw _ (List.mem_of_getElem? (i := 11) rfl))) (notFace_of_selects (args := #[]) (mvT hZ (hw _ (List.mem_of_getElem? (i := 13) rfl)))) (mvT hZ (hw _ (List.mem_of_getElem? (i := 24) rfl))) (mvT hZ (hw _ (List.mem_of_getElem? (i := 25) rfl))) (by decide) (backOf (W := 0) (rm_inc2 l Z a0 hw [] w_DECIMAL w_VARCHAR w_INTEGER w_NULL (0 : Int32) h0 n0 Z0 S_INTEGER S_NULL E_DECIMAL (by simp [n_VARCHAR_DECIMAL, n_VARCHAR_NULL, n_VARCHAR_INTEGER, n_VARCHAR_DATE])) hZ (hw _ (List.mem_of_getElem? (i := 27) rfl)) (hw _ (List.mem_of_getElem? (i := 26) rfl)) (by decide) (by decide)) qk15a qk15c (g := (mkF m 69 #[.val (.int p1), .val (.int p2), .val (.int (1 : Int32)), .val (.int (2 : Int32)), .val (.ref w_DECIMAL), .val (.ref w_VARCHAR), .val (.int (0 : Int32))] [(.ref w_VARCHAR), (.ref w_DECIMAL)])) rfl (by rw [hml]; rfl) (Steps.refl _) (argsL := [(.ref w_VARCHAR)]) (rest := []) (lenOf pd__Lcom_example_kilit_kilit_ValueType__Z rfl) rfl (by show 2 * 0 + _ ≤ _; exact Nat.le_of_eq rfl) (hb hby at_69) (fun _ _ => ⟨rfl, ek4, (by decide : 0 + 0 ≤ _), (by decide : 0 + 0 ≤ _)⟩)
      dsimp only [Pt.U, Pt.locs, Pt.cells, Pt.slots] at Xk15 lk15 yk15 zk15 stk15 hQk15
      subst lk15 yk15 zk15
      obtain ⟨rfl, Nk15q, ek15⟩ := hQk15
      have Nk15 := Fr.app Nk4 Nk15q
      obtain ⟨fs, hlv, hrun, hended, hW, hsame⟩ := Xk15.leave (v := some (.int (1 : Int32))) (fun h => by rw [hret] at h; cases h)
      refine ⟨_, _, r5 _ ?_, hrun, hended, _, _, rfl, ?_, ⟨_, rfl⟩, hW, hsame.mono (by decide) (by decide)⟩
      · refine XS.iloadN Xk4.here hx rfl (hb hby at_28) rfl ?_
        show Sp p e below Tk4 (mkF m 29 #[.val (.int p1), .val (.int p2), .val (.int (1 : Int32)), .val (.int (2 : Int32)), .val (.ref w_DECIMAL), .val (.ref w_VARCHAR), .unset] [(.int (1 : Int32))]) _
        refine XS.iloadN Xk4.here hx rfl (hb hby at_29) rfl ?_
        show Sp p e below Tk4 (mkF m 30 #[.val (.int p1), .val (.int p2), .val (.int (1 : Int32)), .val (.int (2 : Int32)), .val (.ref w_DECIMAL), .val (.ref w_VARCHAR), .unset] [(.int (2 : Int32)), (.int (1 : Int32))]) _
        refine XS.icmpNo Xk4.here hx rfl (hb hby at_30) rfl (feq (by decide : ¬ ((1 : Int32) = (2 : Int32)))).1 ?_
        show Sp p e below Tk4 (mkF m 33 #[.val (.int p1), .val (.int p2), .val (.int (1 : Int32)), .val (.int (2 : Int32)), .val (.ref w_DECIMAL), .val (.ref w_VARCHAR), .unset] []) _
        refine XS.iloadN Xk4.here hx rfl (hb hby at_33) rfl ?_
        show Sp p e below Tk4 (mkF m 34 #[.val (.int p1), .val (.int p2), .val (.int (1 : Int32)), .val (.int (2 : Int32)), .val (.ref w_DECIMAL), .val (.ref w_VARCHAR), .unset] [(.int (2 : Int32))]) _
        refine XS.bipush Xk4.here hx rfl (hb hby at_34) ?_
        show Sp p e below Tk4 (mkF m 36 #[.val (.int p1), .val (.int p2), .val (.int (1 : Int32)), .val (.int (2 : Int32)), .val (.ref w_DECIMAL), .val (.ref w_VARCHAR), .unset] [(.int (6 : Int32)), (.int (2 : Int32))]) _
        refine XS.icmpNo Xk4.here hx rfl (hb hby at_36) rfl (feq (by decide : ¬ ((2 : Int32) = (6 : Int32)))).1 ?_
        show Sp p e below Tk4 (mkF m 39 #[.val (.int p1), .val (.int p2), .val (.int (1 : Int32)), .val (.int (2 : Int32)), .val (.ref w_DECIMAL), .val (.ref w_VARCHAR), .unset] []) _
        refine XS.iloadN Xk4.here hx rfl (hb hby at_39) rfl ?_
        show Sp p e below Tk4 (mkF m 40 #[.val (.int p1), .val (.int p2), .val (.int (1 : Int32)), .val (.int (2 : Int32)), .val (.ref w_DECIMAL), .val (.ref w_VARCHAR), .unset] [(.int (1 : Int32))]) _
        refine XS.iconst Xk4.here hx rfl (hb hby at_40) ?_
        show Sp p e below Tk4 (mkF m 41 #[.val (.int p1), .val (.int p2), .val (.int (1 : Int32)), .val (.int (2 : Int32)), .val (.ref w_DECIMAL), .val (.ref w_VARCHAR), .unset] [(.int (1 : Int32)), (.int (1 : Int32))]) _
        refine XS.icmpNo Xk4.here hx rfl (hb hby at_41) rfl (teq (by decide : (1 : Int32) = (1 : Int32))).2 ?_
        show Sp p e below Tk4 (mkF m 44 #[.val (.int p1), .val (.int p2), .val (.int (1 : Int32)), .val (.int (2 : Int32)), .val (.ref w_DECIMAL), .val (.ref w_VARCHAR), .unset] []) _
        refine XS.iloadN Xk4.here hx rfl (hb hby at_44) rfl ?_
        show Sp p e below Tk4 (mkF m 45 #[.val (.int p1), .val (.int p2), .val (.int (1 : Int32)), .val (.int (2 : Int32)), .val (.ref w_DECIMAL), .val (.ref w_VARCHAR), .unset] [(.int (2 : Int32))]) _
        refine XS.ifNo Xk4.here hx rfl (hb hby at_45) rfl ((if0 _ _).trans (feq (by decide : ¬ ((2 : Int32) = (0 : Int32)))).1) ?_
        show Sp p e below Tk4 (mkF m 48 #[.val (.int p1), .val (.int p2), .val (.int (1 : Int32)), .val (.int (2 : Int32)), .val (.ref w_DECIMAL), .val (.ref w_VARCHAR), .unset] []) _
        refine XS.iloadN Xk4.here hx rfl (hb hby at_48) rfl ?_
        show Sp p e below Tk4 (mkF m 49 #[.val (.int p1), .val (.int p2), .val (.int (1 : Int32)), .val (.int (2 : Int32)), .val (.ref w_DECIMAL), .val (.ref w_VARCHAR), .unset] [(.int (1 : Int32))]) _
        refine XS.iconst Xk4.here hx rfl (hb hby at_49) ?_
        show Sp p e below Tk4 (mkF m 50 #[.val (.int p1), .val (.int p2), .val (.int (1 : Int32)), .val (.int (2 : Int32)), .val (.ref w_DECIMAL), .val (.ref w_VARCHAR), .unset] [(.int (4 : Int32)), (.int (1 : Int32))]) _
        refine XS.icmpYes Xk4.here hx rfl (pc0 := 50) (pc' := 62) rfl (hb hby at_50) rfl (feq (by decide : ¬ ((1 : Int32) = (4 : Int32)))).2 (by decide) (by decide) ?_
        show Sp p e below Tk4 (mkF m 62 #[.val (.int p1), .val (.int p2), .val (.int (1 : Int32)), .val (.int (2 : Int32)), .val (.ref w_DECIMAL), .val (.ref w_VARCHAR), .unset] []) _
        refine XS.iconst Xk4.here hx rfl (hb hby at_62) ?_
        show Sp p e below Tk4 (mkF m 63 #[.val (.int p1), .val (.int p2), .val (.int (1 : Int32)), .val (.int (2 : Int32)), .val (.ref w_DECIMAL), .val (.ref w_VARCHAR), .unset] [(.int (0 : Int32))]) _
        refine XS.istore Xk4.here hx rfl (hb hby at_63) rfl (l' := #[.val (.int p1), .val (.int p2), .val (.int (1 : Int32)), .val (.int (2 : Int32)), .val (.ref w_DECIMAL), .val (.ref w_VARCHAR), .val (.int (0 : Int32))]) rfl ?_
        show Sp p e below Tk4 (mkF m 65 #[.val (.int p1), .val (.int p2), .val (.int (1 : Int32)), .val (.int (2 : Int32)), .val (.ref w_DECIMAL), .val (.ref w_VARCHAR), .val (.int (0 : Int32))] []) _
        refine XS.aload Xk4.here hx rfl (hb hby at_65) rfl rfl ?_
        show Sp p e below Tk4 (mkF m 67 #[.val (.int p1), .val (.int p2), .val (.int (1 : Int32)), .val (.int (2 : Int32)), .val (.ref w_DECIMAL), .val (.ref w_VARCHAR), .val (.int (0 : Int32))] [(.ref w_DECIMAL)]) _
        refine XS.aload Xk4.here hx rfl (hb hby at_67) rfl rfl ?_
        show Sp p e below Tk4 (mkF m 69 #[.val (.int p1), .val (.int p2), .val (.int (1 : Int32)), .val (.int (2 : Int32)), .val (.ref w_DECIMAL), .val (.ref w_VARCHAR), .val (.int (0 : Int32))] [(.ref w_VARCHAR), (.ref w_DECIMAL)]) _
        refine stk15.trans ?_
        show Sp p e below Tk15 (mkF m 72 #[.val (.int p1), .val (.int p2), .val (.int (1 : Int32)), .val (.int (2 : Int32)), .val (.ref w_DECIMAL), .val (.ref w_VARCHAR), .val (.int (0 : Int32))] [(.int (0 : Int32))]) _
        refine XS.iload Xk15.here hx rfl (hb hby at_72) rfl ?_
        show Sp p e below Tk15 (mkF m 74 #[.val (.int p1), .val (.int p2), .val (.int (1 : Int32)), .val (.int (2 : Int32)), .val (.ref w_DECIMAL), .val (.ref w_VARCHAR), .val (.int (0 : Int32))] [(.int (0 : Int32)), (.int (0 : Int32))]) _
        refine XS.icmpNo Xk15.here hx rfl (hb hby at_74) rfl (teq (by decide : (0 : Int32) = (0 : Int32))).2 ?_
        show Sp p e below Tk15 (mkF m 77 #[.val (.int p1), .val (.int p2), .val (.int (1 : Int32)), .val (.int (2 : Int32)), .val (.ref w_DECIMAL), .val (.ref w_VARCHAR), .val (.int (0 : Int32))] []) _
        refine XS.iconst Xk15.here hx rfl (hb hby at_77) ?_
        show Sp p e below Tk15 (mkF m 78 #[.val (.int p1), .val (.int p2), .val (.int (1 : Int32)), .val (.int (2 : Int32)), .val (.ref w_DECIMAL), .val (.ref w_VARCHAR), .val (.int (0 : Int32))] [(.int (1 : Int32))]) _
        refine XS.goto Xk15.here hx rfl (pc0 := 78) (pc' := 82) rfl (hb hby at_78) (by decide) (by decide) ?_
        show Sp p e below Tk15 (mkF m 82 #[.val (.int p1), .val (.int p2), .val (.int (1 : Int32)), .val (.int (2 : Int32)), .val (.ref w_DECIMAL), .val (.ref w_VARCHAR), .val (.int (0 : Int32))] [(.int (1 : Int32))]) _
        exact retN Xk15 hx (t := .boolean) hret (by simp) (hb hby at_82) hlv
      · show Q_law Z p1 p2 w_INTEGER w_DECIMAL w_VARCHAR w_DATE w_TIMESTAMP w_BOOLEAN w_NULL h0 n0 _ Tk15.heap _
        rw [ek15]
        exact ⟨rfl, Nk15⟩
    · have hrj : rj = w_DATE := by rw [hpj]; simp [hj]
      rw [hi, hj, hri, hrj] at r5
      obtain ⟨cqk16, kqk16, qk16a, qk16b, qk16c⟩ := isOf hZ ek4 E_DECIMAL
      obtain ⟨_, _, ⟨Tk16, Lk16, kk16, nk16⟩, -, Xk16, ⟨Lck16, hQk16, lk16, yk16, zk16⟩, stk16⟩ := Xk4.virtualBack hx (y := (⟨"com/example/kilit/kilit/ValueType", "includes", "(Lcom/example/kilit/kilit/ValueType;)Z"⟩ : MethodName)) (z := (⟨"com/example/kilit/kilit/ValueType$2", "includes", "(Lcom/example/kilit/kilit/ValueType;)Z"⟩ : MethodName)) hown (mvT hZ (hw _ (List.mem_of_getElem? (i := 10) rfl))) (mvT hZ (hw _ (List.mem_of_getElem? (i := 11) rfl))) (notFace_of_selects (args := #[]) (mvT hZ (hw _ (List.mem_of_getElem? (i := 13) rfl)))) (mvT hZ (hw _ (List.mem_of_getElem? (i := 24) rfl))) (mvT hZ (hw _ (List.mem_of_getElem? (i := 25) rfl))) (by decide) (backOf (W := 0) (rm_inc2 l Z a0 hw [] w_DECIMAL w_DATE w_INTEGER w_NULL (0 : Int32) h0 n0 Z0 S_INTEGER S_NULL E_DECIMAL (by simp [n_DATE_DECIMAL, n_DATE_NULL, n_DATE_INTEGER])) hZ (hw _ (List.mem_of_getElem? (i := 27) rfl)) (hw _ (List.mem_of_getElem? (i := 26) rfl)) (by decide) (by decide)) qk16a qk16c (g := (mkF m 69 #[.val (.int p1), .val (.int p2), .val (.int (1 : Int32)), .val (.int (3 : Int32)), .val (.ref w_DECIMAL), .val (.ref w_DATE), .val (.int (0 : Int32))] [(.ref w_DATE), (.ref w_DECIMAL)])) rfl (by rw [hml]; rfl) (Steps.refl _) (argsL := [(.ref w_DATE)]) (rest := []) (lenOf pd__Lcom_example_kilit_kilit_ValueType__Z rfl) rfl (by show 2 * 0 + _ ≤ _; exact Nat.le_of_eq rfl) (hb hby at_69) (fun _ _ => ⟨rfl, ek4, (by decide : 0 + 0 ≤ _), (by decide : 0 + 0 ≤ _)⟩)
      dsimp only [Pt.U, Pt.locs, Pt.cells, Pt.slots] at Xk16 lk16 yk16 zk16 stk16 hQk16
      subst lk16 yk16 zk16
      obtain ⟨rfl, Nk16q, ek16⟩ := hQk16
      have Nk16 := Fr.app Nk4 Nk16q
      obtain ⟨fs, hlv, hrun, hended, hW, hsame⟩ := Xk16.leave (v := some (.int (1 : Int32))) (fun h => by rw [hret] at h; cases h)
      refine ⟨_, _, r5 _ ?_, hrun, hended, _, _, rfl, ?_, ⟨_, rfl⟩, hW, hsame.mono (by decide) (by decide)⟩
      · refine XS.iloadN Xk4.here hx rfl (hb hby at_28) rfl ?_
        show Sp p e below Tk4 (mkF m 29 #[.val (.int p1), .val (.int p2), .val (.int (1 : Int32)), .val (.int (3 : Int32)), .val (.ref w_DECIMAL), .val (.ref w_DATE), .unset] [(.int (1 : Int32))]) _
        refine XS.iloadN Xk4.here hx rfl (hb hby at_29) rfl ?_
        show Sp p e below Tk4 (mkF m 30 #[.val (.int p1), .val (.int p2), .val (.int (1 : Int32)), .val (.int (3 : Int32)), .val (.ref w_DECIMAL), .val (.ref w_DATE), .unset] [(.int (3 : Int32)), (.int (1 : Int32))]) _
        refine XS.icmpNo Xk4.here hx rfl (hb hby at_30) rfl (feq (by decide : ¬ ((1 : Int32) = (3 : Int32)))).1 ?_
        show Sp p e below Tk4 (mkF m 33 #[.val (.int p1), .val (.int p2), .val (.int (1 : Int32)), .val (.int (3 : Int32)), .val (.ref w_DECIMAL), .val (.ref w_DATE), .unset] []) _
        refine XS.iloadN Xk4.here hx rfl (hb hby at_33) rfl ?_
        show Sp p e below Tk4 (mkF m 34 #[.val (.int p1), .val (.int p2), .val (.int (1 : Int32)), .val (.int (3 : Int32)), .val (.ref w_DECIMAL), .val (.ref w_DATE), .unset] [(.int (3 : Int32))]) _
        refine XS.bipush Xk4.here hx rfl (hb hby at_34) ?_
        show Sp p e below Tk4 (mkF m 36 #[.val (.int p1), .val (.int p2), .val (.int (1 : Int32)), .val (.int (3 : Int32)), .val (.ref w_DECIMAL), .val (.ref w_DATE), .unset] [(.int (6 : Int32)), (.int (3 : Int32))]) _
        refine XS.icmpNo Xk4.here hx rfl (hb hby at_36) rfl (feq (by decide : ¬ ((3 : Int32) = (6 : Int32)))).1 ?_
        show Sp p e below Tk4 (mkF m 39 #[.val (.int p1), .val (.int p2), .val (.int (1 : Int32)), .val (.int (3 : Int32)), .val (.ref w_DECIMAL), .val (.ref w_DATE), .unset] []) _
        refine XS.iloadN Xk4.here hx rfl (hb hby at_39) rfl ?_
        show Sp p e below Tk4 (mkF m 40 #[.val (.int p1), .val (.int p2), .val (.int (1 : Int32)), .val (.int (3 : Int32)), .val (.ref w_DECIMAL), .val (.ref w_DATE), .unset] [(.int (1 : Int32))]) _
        refine XS.iconst Xk4.here hx rfl (hb hby at_40) ?_
        show Sp p e below Tk4 (mkF m 41 #[.val (.int p1), .val (.int p2), .val (.int (1 : Int32)), .val (.int (3 : Int32)), .val (.ref w_DECIMAL), .val (.ref w_DATE), .unset] [(.int (1 : Int32)), (.int (1 : Int32))]) _
        refine XS.icmpNo Xk4.here hx rfl (hb hby at_41) rfl (teq (by decide : (1 : Int32) = (1 : Int32))).2 ?_
        show Sp p e below Tk4 (mkF m 44 #[.val (.int p1), .val (.int p2), .val (.int (1 : Int32)), .val (.int (3 : Int32)), .val (.ref w_DECIMAL), .val (.ref w_DATE), .unset] []) _
        refine XS.iloadN Xk4.here hx rfl (hb hby at_44) rfl ?_
        show Sp p e below Tk4 (mkF m 45 #[.val (.int p1), .val (.int p2), .val (.int (1 : Int32)), .val (.int (3 : Int32)), .val (.ref w_DECIMAL), .val (.ref w_DATE), .unset] [(.int (3 : Int32))]) _
        refine XS.ifNo Xk4.here hx rfl (hb hby at_45) rfl ((if0 _ _).trans (feq (by decide : ¬ ((3 : Int32) = (0 : Int32)))).1) ?_
        show Sp p e below Tk4 (mkF m 48 #[.val (.int p1), .val (.int p2), .val (.int (1 : Int32)), .val (.int (3 : Int32)), .val (.ref w_DECIMAL), .val (.ref w_DATE), .unset] []) _
        refine XS.iloadN Xk4.here hx rfl (hb hby at_48) rfl ?_
        show Sp p e below Tk4 (mkF m 49 #[.val (.int p1), .val (.int p2), .val (.int (1 : Int32)), .val (.int (3 : Int32)), .val (.ref w_DECIMAL), .val (.ref w_DATE), .unset] [(.int (1 : Int32))]) _
        refine XS.iconst Xk4.here hx rfl (hb hby at_49) ?_
        show Sp p e below Tk4 (mkF m 50 #[.val (.int p1), .val (.int p2), .val (.int (1 : Int32)), .val (.int (3 : Int32)), .val (.ref w_DECIMAL), .val (.ref w_DATE), .unset] [(.int (4 : Int32)), (.int (1 : Int32))]) _
        refine XS.icmpYes Xk4.here hx rfl (pc0 := 50) (pc' := 62) rfl (hb hby at_50) rfl (feq (by decide : ¬ ((1 : Int32) = (4 : Int32)))).2 (by decide) (by decide) ?_
        show Sp p e below Tk4 (mkF m 62 #[.val (.int p1), .val (.int p2), .val (.int (1 : Int32)), .val (.int (3 : Int32)), .val (.ref w_DECIMAL), .val (.ref w_DATE), .unset] []) _
        refine XS.iconst Xk4.here hx rfl (hb hby at_62) ?_
        show Sp p e below Tk4 (mkF m 63 #[.val (.int p1), .val (.int p2), .val (.int (1 : Int32)), .val (.int (3 : Int32)), .val (.ref w_DECIMAL), .val (.ref w_DATE), .unset] [(.int (0 : Int32))]) _
        refine XS.istore Xk4.here hx rfl (hb hby at_63) rfl (l' := #[.val (.int p1), .val (.int p2), .val (.int (1 : Int32)), .val (.int (3 : Int32)), .val (.ref w_DECIMAL), .val (.ref w_DATE), .val (.int (0 : Int32))]) rfl ?_
        show Sp p e below Tk4 (mkF m 65 #[.val (.int p1), .val (.int p2), .val (.int (1 : Int32)), .val (.int (3 : Int32)), .val (.ref w_DECIMAL), .val (.ref w_DATE), .val (.int (0 : Int32))] []) _
        refine XS.aload Xk4.here hx rfl (hb hby at_65) rfl rfl ?_
        show Sp p e below Tk4 (mkF m 67 #[.val (.int p1), .val (.int p2), .val (.int (1 : Int32)), .val (.int (3 : Int32)), .val (.ref w_DECIMAL), .val (.ref w_DATE), .val (.int (0 : Int32))] [(.ref w_DECIMAL)]) _
        refine XS.aload Xk4.here hx rfl (hb hby at_67) rfl rfl ?_
        show Sp p e below Tk4 (mkF m 69 #[.val (.int p1), .val (.int p2), .val (.int (1 : Int32)), .val (.int (3 : Int32)), .val (.ref w_DECIMAL), .val (.ref w_DATE), .val (.int (0 : Int32))] [(.ref w_DATE), (.ref w_DECIMAL)]) _
        refine stk16.trans ?_
        show Sp p e below Tk16 (mkF m 72 #[.val (.int p1), .val (.int p2), .val (.int (1 : Int32)), .val (.int (3 : Int32)), .val (.ref w_DECIMAL), .val (.ref w_DATE), .val (.int (0 : Int32))] [(.int (0 : Int32))]) _
        refine XS.iload Xk16.here hx rfl (hb hby at_72) rfl ?_
        show Sp p e below Tk16 (mkF m 74 #[.val (.int p1), .val (.int p2), .val (.int (1 : Int32)), .val (.int (3 : Int32)), .val (.ref w_DECIMAL), .val (.ref w_DATE), .val (.int (0 : Int32))] [(.int (0 : Int32)), (.int (0 : Int32))]) _
        refine XS.icmpNo Xk16.here hx rfl (hb hby at_74) rfl (teq (by decide : (0 : Int32) = (0 : Int32))).2 ?_
        show Sp p e below Tk16 (mkF m 77 #[.val (.int p1), .val (.int p2), .val (.int (1 : Int32)), .val (.int (3 : Int32)), .val (.ref w_DECIMAL), .val (.ref w_DATE), .val (.int (0 : Int32))] []) _
        refine XS.iconst Xk16.here hx rfl (hb hby at_77) ?_
        show Sp p e below Tk16 (mkF m 78 #[.val (.int p1), .val (.int p2), .val (.int (1 : Int32)), .val (.int (3 : Int32)), .val (.ref w_DECIMAL), .val (.ref w_DATE), .val (.int (0 : Int32))] [(.int (1 : Int32))]) _
        refine XS.goto Xk16.here hx rfl (pc0 := 78) (pc' := 82) rfl (hb hby at_78) (by decide) (by decide) ?_
        show Sp p e below Tk16 (mkF m 82 #[.val (.int p1), .val (.int p2), .val (.int (1 : Int32)), .val (.int (3 : Int32)), .val (.ref w_DECIMAL), .val (.ref w_DATE), .val (.int (0 : Int32))] [(.int (1 : Int32))]) _
        exact retN Xk16 hx (t := .boolean) hret (by simp) (hb hby at_82) hlv
      · show Q_law Z p1 p2 w_INTEGER w_DECIMAL w_VARCHAR w_DATE w_TIMESTAMP w_BOOLEAN w_NULL h0 n0 _ Tk16.heap _
        rw [ek16]
        exact ⟨rfl, Nk16⟩
    · have hrj : rj = w_TIMESTAMP := by rw [hpj]; simp [hj]
      rw [hi, hj, hri, hrj] at r5
      obtain ⟨cqk17, kqk17, qk17a, qk17b, qk17c⟩ := isOf hZ ek4 E_DECIMAL
      obtain ⟨_, _, ⟨Tk17, Lk17, kk17, nk17⟩, -, Xk17, ⟨Lck17, hQk17, lk17, yk17, zk17⟩, stk17⟩ := Xk4.virtualBack hx (y := (⟨"com/example/kilit/kilit/ValueType", "includes", "(Lcom/example/kilit/kilit/ValueType;)Z"⟩ : MethodName)) (z := (⟨"com/example/kilit/kilit/ValueType$2", "includes", "(Lcom/example/kilit/kilit/ValueType;)Z"⟩ : MethodName)) hown (mvT hZ (hw _ (List.mem_of_getElem? (i := 10) rfl))) (mvT hZ (hw _ (List.mem_of_getElem? (i := 11) rfl))) (notFace_of_selects (args := #[]) (mvT hZ (hw _ (List.mem_of_getElem? (i := 13) rfl)))) (mvT hZ (hw _ (List.mem_of_getElem? (i := 24) rfl))) (mvT hZ (hw _ (List.mem_of_getElem? (i := 25) rfl))) (by decide) (backOf (W := 0) (rm_inc2 l Z a0 hw [] w_DECIMAL w_TIMESTAMP w_INTEGER w_NULL (0 : Int32) h0 n0 Z0 S_INTEGER S_NULL E_DECIMAL (by simp [n_TIMESTAMP_DECIMAL, n_TIMESTAMP_NULL, n_TIMESTAMP_INTEGER, n_TIMESTAMP_DATE])) hZ (hw _ (List.mem_of_getElem? (i := 27) rfl)) (hw _ (List.mem_of_getElem? (i := 26) rfl)) (by decide) (by decide)) qk17a qk17c (g := (mkF m 69 #[.val (.int p1), .val (.int p2), .val (.int (1 : Int32)), .val (.int (4 : Int32)), .val (.ref w_DECIMAL), .val (.ref w_TIMESTAMP), .val (.int (0 : Int32))] [(.ref w_TIMESTAMP), (.ref w_DECIMAL)])) rfl (by rw [hml]; rfl) (Steps.refl _) (argsL := [(.ref w_TIMESTAMP)]) (rest := []) (lenOf pd__Lcom_example_kilit_kilit_ValueType__Z rfl) rfl (by show 2 * 0 + _ ≤ _; exact Nat.le_of_eq rfl) (hb hby at_69) (fun _ _ => ⟨rfl, ek4, (by decide : 0 + 0 ≤ _), (by decide : 0 + 0 ≤ _)⟩)
      dsimp only [Pt.U, Pt.locs, Pt.cells, Pt.slots] at Xk17 lk17 yk17 zk17 stk17 hQk17
      subst lk17 yk17 zk17
      obtain ⟨rfl, Nk17q, ek17⟩ := hQk17
      have Nk17 := Fr.app Nk4 Nk17q
      obtain ⟨fs, hlv, hrun, hended, hW, hsame⟩ := Xk17.leave (v := some (.int (1 : Int32))) (fun h => by rw [hret] at h; cases h)
      refine ⟨_, _, r5 _ ?_, hrun, hended, _, _, rfl, ?_, ⟨_, rfl⟩, hW, hsame.mono (by decide) (by decide)⟩
      · refine XS.iloadN Xk4.here hx rfl (hb hby at_28) rfl ?_
        show Sp p e below Tk4 (mkF m 29 #[.val (.int p1), .val (.int p2), .val (.int (1 : Int32)), .val (.int (4 : Int32)), .val (.ref w_DECIMAL), .val (.ref w_TIMESTAMP), .unset] [(.int (1 : Int32))]) _
        refine XS.iloadN Xk4.here hx rfl (hb hby at_29) rfl ?_
        show Sp p e below Tk4 (mkF m 30 #[.val (.int p1), .val (.int p2), .val (.int (1 : Int32)), .val (.int (4 : Int32)), .val (.ref w_DECIMAL), .val (.ref w_TIMESTAMP), .unset] [(.int (4 : Int32)), (.int (1 : Int32))]) _
        refine XS.icmpNo Xk4.here hx rfl (hb hby at_30) rfl (feq (by decide : ¬ ((1 : Int32) = (4 : Int32)))).1 ?_
        show Sp p e below Tk4 (mkF m 33 #[.val (.int p1), .val (.int p2), .val (.int (1 : Int32)), .val (.int (4 : Int32)), .val (.ref w_DECIMAL), .val (.ref w_TIMESTAMP), .unset] []) _
        refine XS.iloadN Xk4.here hx rfl (hb hby at_33) rfl ?_
        show Sp p e below Tk4 (mkF m 34 #[.val (.int p1), .val (.int p2), .val (.int (1 : Int32)), .val (.int (4 : Int32)), .val (.ref w_DECIMAL), .val (.ref w_TIMESTAMP), .unset] [(.int (4 : Int32))]) _
        refine XS.bipush Xk4.here hx rfl (hb hby at_34) ?_
        show Sp p e below Tk4 (mkF m 36 #[.val (.int p1), .val (.int p2), .val (.int (1 : Int32)), .val (.int (4 : Int32)), .val (.ref w_DECIMAL), .val (.ref w_TIMESTAMP), .unset] [(.int (6 : Int32)), (.int (4 : Int32))]) _
        refine XS.icmpNo Xk4.here hx rfl (hb hby at_36) rfl (feq (by decide : ¬ ((4 : Int32) = (6 : Int32)))).1 ?_
        show Sp p e below Tk4 (mkF m 39 #[.val (.int p1), .val (.int p2), .val (.int (1 : Int32)), .val (.int (4 : Int32)), .val (.ref w_DECIMAL), .val (.ref w_TIMESTAMP), .unset] []) _
        refine XS.iloadN Xk4.here hx rfl (hb hby at_39) rfl ?_
        show Sp p e below Tk4 (mkF m 40 #[.val (.int p1), .val (.int p2), .val (.int (1 : Int32)), .val (.int (4 : Int32)), .val (.ref w_DECIMAL), .val (.ref w_TIMESTAMP), .unset] [(.int (1 : Int32))]) _
        refine XS.iconst Xk4.here hx rfl (hb hby at_40) ?_
        show Sp p e below Tk4 (mkF m 41 #[.val (.int p1), .val (.int p2), .val (.int (1 : Int32)), .val (.int (4 : Int32)), .val (.ref w_DECIMAL), .val (.ref w_TIMESTAMP), .unset] [(.int (1 : Int32)), (.int (1 : Int32))]) _
        refine XS.icmpNo Xk4.here hx rfl (hb hby at_41) rfl (teq (by decide : (1 : Int32) = (1 : Int32))).2 ?_
        show Sp p e below Tk4 (mkF m 44 #[.val (.int p1), .val (.int p2), .val (.int (1 : Int32)), .val (.int (4 : Int32)), .val (.ref w_DECIMAL), .val (.ref w_TIMESTAMP), .unset] []) _
        refine XS.iloadN Xk4.here hx rfl (hb hby at_44) rfl ?_
        show Sp p e below Tk4 (mkF m 45 #[.val (.int p1), .val (.int p2), .val (.int (1 : Int32)), .val (.int (4 : Int32)), .val (.ref w_DECIMAL), .val (.ref w_TIMESTAMP), .unset] [(.int (4 : Int32))]) _
        refine XS.ifNo Xk4.here hx rfl (hb hby at_45) rfl ((if0 _ _).trans (feq (by decide : ¬ ((4 : Int32) = (0 : Int32)))).1) ?_
        show Sp p e below Tk4 (mkF m 48 #[.val (.int p1), .val (.int p2), .val (.int (1 : Int32)), .val (.int (4 : Int32)), .val (.ref w_DECIMAL), .val (.ref w_TIMESTAMP), .unset] []) _
        refine XS.iloadN Xk4.here hx rfl (hb hby at_48) rfl ?_
        show Sp p e below Tk4 (mkF m 49 #[.val (.int p1), .val (.int p2), .val (.int (1 : Int32)), .val (.int (4 : Int32)), .val (.ref w_DECIMAL), .val (.ref w_TIMESTAMP), .unset] [(.int (1 : Int32))]) _
        refine XS.iconst Xk4.here hx rfl (hb hby at_49) ?_
        show Sp p e below Tk4 (mkF m 50 #[.val (.int p1), .val (.int p2), .val (.int (1 : Int32)), .val (.int (4 : Int32)), .val (.ref w_DECIMAL), .val (.ref w_TIMESTAMP), .unset] [(.int (4 : Int32)), (.int (1 : Int32))]) _
        refine XS.icmpYes Xk4.here hx rfl (pc0 := 50) (pc' := 62) rfl (hb hby at_50) rfl (feq (by decide : ¬ ((1 : Int32) = (4 : Int32)))).2 (by decide) (by decide) ?_
        show Sp p e below Tk4 (mkF m 62 #[.val (.int p1), .val (.int p2), .val (.int (1 : Int32)), .val (.int (4 : Int32)), .val (.ref w_DECIMAL), .val (.ref w_TIMESTAMP), .unset] []) _
        refine XS.iconst Xk4.here hx rfl (hb hby at_62) ?_
        show Sp p e below Tk4 (mkF m 63 #[.val (.int p1), .val (.int p2), .val (.int (1 : Int32)), .val (.int (4 : Int32)), .val (.ref w_DECIMAL), .val (.ref w_TIMESTAMP), .unset] [(.int (0 : Int32))]) _
        refine XS.istore Xk4.here hx rfl (hb hby at_63) rfl (l' := #[.val (.int p1), .val (.int p2), .val (.int (1 : Int32)), .val (.int (4 : Int32)), .val (.ref w_DECIMAL), .val (.ref w_TIMESTAMP), .val (.int (0 : Int32))]) rfl ?_
        show Sp p e below Tk4 (mkF m 65 #[.val (.int p1), .val (.int p2), .val (.int (1 : Int32)), .val (.int (4 : Int32)), .val (.ref w_DECIMAL), .val (.ref w_TIMESTAMP), .val (.int (0 : Int32))] []) _
        refine XS.aload Xk4.here hx rfl (hb hby at_65) rfl rfl ?_
        show Sp p e below Tk4 (mkF m 67 #[.val (.int p1), .val (.int p2), .val (.int (1 : Int32)), .val (.int (4 : Int32)), .val (.ref w_DECIMAL), .val (.ref w_TIMESTAMP), .val (.int (0 : Int32))] [(.ref w_DECIMAL)]) _
        refine XS.aload Xk4.here hx rfl (hb hby at_67) rfl rfl ?_
        show Sp p e below Tk4 (mkF m 69 #[.val (.int p1), .val (.int p2), .val (.int (1 : Int32)), .val (.int (4 : Int32)), .val (.ref w_DECIMAL), .val (.ref w_TIMESTAMP), .val (.int (0 : Int32))] [(.ref w_TIMESTAMP), (.ref w_DECIMAL)]) _
        refine stk17.trans ?_
        show Sp p e below Tk17 (mkF m 72 #[.val (.int p1), .val (.int p2), .val (.int (1 : Int32)), .val (.int (4 : Int32)), .val (.ref w_DECIMAL), .val (.ref w_TIMESTAMP), .val (.int (0 : Int32))] [(.int (0 : Int32))]) _
        refine XS.iload Xk17.here hx rfl (hb hby at_72) rfl ?_
        show Sp p e below Tk17 (mkF m 74 #[.val (.int p1), .val (.int p2), .val (.int (1 : Int32)), .val (.int (4 : Int32)), .val (.ref w_DECIMAL), .val (.ref w_TIMESTAMP), .val (.int (0 : Int32))] [(.int (0 : Int32)), (.int (0 : Int32))]) _
        refine XS.icmpNo Xk17.here hx rfl (hb hby at_74) rfl (teq (by decide : (0 : Int32) = (0 : Int32))).2 ?_
        show Sp p e below Tk17 (mkF m 77 #[.val (.int p1), .val (.int p2), .val (.int (1 : Int32)), .val (.int (4 : Int32)), .val (.ref w_DECIMAL), .val (.ref w_TIMESTAMP), .val (.int (0 : Int32))] []) _
        refine XS.iconst Xk17.here hx rfl (hb hby at_77) ?_
        show Sp p e below Tk17 (mkF m 78 #[.val (.int p1), .val (.int p2), .val (.int (1 : Int32)), .val (.int (4 : Int32)), .val (.ref w_DECIMAL), .val (.ref w_TIMESTAMP), .val (.int (0 : Int32))] [(.int (1 : Int32))]) _
        refine XS.goto Xk17.here hx rfl (pc0 := 78) (pc' := 82) rfl (hb hby at_78) (by decide) (by decide) ?_
        show Sp p e below Tk17 (mkF m 82 #[.val (.int p1), .val (.int p2), .val (.int (1 : Int32)), .val (.int (4 : Int32)), .val (.ref w_DECIMAL), .val (.ref w_TIMESTAMP), .val (.int (0 : Int32))] [(.int (1 : Int32))]) _
        exact retN Xk17 hx (t := .boolean) hret (by simp) (hb hby at_82) hlv
      · show Q_law Z p1 p2 w_INTEGER w_DECIMAL w_VARCHAR w_DATE w_TIMESTAMP w_BOOLEAN w_NULL h0 n0 _ Tk17.heap _
        rw [ek17]
        exact ⟨rfl, Nk17⟩
    · have hrj : rj = w_BOOLEAN := by rw [hpj]; simp [hj]
      rw [hi, hj, hri, hrj] at r5
      obtain ⟨cqk18, kqk18, qk18a, qk18b, qk18c⟩ := isOf hZ ek4 E_DECIMAL
      obtain ⟨_, _, ⟨Tk18, Lk18, kk18, nk18⟩, -, Xk18, ⟨Lck18, hQk18, lk18, yk18, zk18⟩, stk18⟩ := Xk4.virtualBack hx (y := (⟨"com/example/kilit/kilit/ValueType", "includes", "(Lcom/example/kilit/kilit/ValueType;)Z"⟩ : MethodName)) (z := (⟨"com/example/kilit/kilit/ValueType$2", "includes", "(Lcom/example/kilit/kilit/ValueType;)Z"⟩ : MethodName)) hown (mvT hZ (hw _ (List.mem_of_getElem? (i := 10) rfl))) (mvT hZ (hw _ (List.mem_of_getElem? (i := 11) rfl))) (notFace_of_selects (args := #[]) (mvT hZ (hw _ (List.mem_of_getElem? (i := 13) rfl)))) (mvT hZ (hw _ (List.mem_of_getElem? (i := 24) rfl))) (mvT hZ (hw _ (List.mem_of_getElem? (i := 25) rfl))) (by decide) (backOf (W := 0) (rm_inc2 l Z a0 hw [] w_DECIMAL w_BOOLEAN w_INTEGER w_NULL (0 : Int32) h0 n0 Z0 S_INTEGER S_NULL E_DECIMAL (by simp [n_BOOLEAN_DECIMAL, n_BOOLEAN_NULL, n_BOOLEAN_INTEGER, n_BOOLEAN_DATE])) hZ (hw _ (List.mem_of_getElem? (i := 27) rfl)) (hw _ (List.mem_of_getElem? (i := 26) rfl)) (by decide) (by decide)) qk18a qk18c (g := (mkF m 69 #[.val (.int p1), .val (.int p2), .val (.int (1 : Int32)), .val (.int (5 : Int32)), .val (.ref w_DECIMAL), .val (.ref w_BOOLEAN), .val (.int (0 : Int32))] [(.ref w_BOOLEAN), (.ref w_DECIMAL)])) rfl (by rw [hml]; rfl) (Steps.refl _) (argsL := [(.ref w_BOOLEAN)]) (rest := []) (lenOf pd__Lcom_example_kilit_kilit_ValueType__Z rfl) rfl (by show 2 * 0 + _ ≤ _; exact Nat.le_of_eq rfl) (hb hby at_69) (fun _ _ => ⟨rfl, ek4, (by decide : 0 + 0 ≤ _), (by decide : 0 + 0 ≤ _)⟩)
      dsimp only [Pt.U, Pt.locs, Pt.cells, Pt.slots] at Xk18 lk18 yk18 zk18 stk18 hQk18
      subst lk18 yk18 zk18
      obtain ⟨rfl, Nk18q, ek18⟩ := hQk18
      have Nk18 := Fr.app Nk4 Nk18q
      obtain ⟨fs, hlv, hrun, hended, hW, hsame⟩ := Xk18.leave (v := some (.int (1 : Int32))) (fun h => by rw [hret] at h; cases h)
      refine ⟨_, _, r5 _ ?_, hrun, hended, _, _, rfl, ?_, ⟨_, rfl⟩, hW, hsame.mono (by decide) (by decide)⟩
      · refine XS.iloadN Xk4.here hx rfl (hb hby at_28) rfl ?_
        show Sp p e below Tk4 (mkF m 29 #[.val (.int p1), .val (.int p2), .val (.int (1 : Int32)), .val (.int (5 : Int32)), .val (.ref w_DECIMAL), .val (.ref w_BOOLEAN), .unset] [(.int (1 : Int32))]) _
        refine XS.iloadN Xk4.here hx rfl (hb hby at_29) rfl ?_
        show Sp p e below Tk4 (mkF m 30 #[.val (.int p1), .val (.int p2), .val (.int (1 : Int32)), .val (.int (5 : Int32)), .val (.ref w_DECIMAL), .val (.ref w_BOOLEAN), .unset] [(.int (5 : Int32)), (.int (1 : Int32))]) _
        refine XS.icmpNo Xk4.here hx rfl (hb hby at_30) rfl (feq (by decide : ¬ ((1 : Int32) = (5 : Int32)))).1 ?_
        show Sp p e below Tk4 (mkF m 33 #[.val (.int p1), .val (.int p2), .val (.int (1 : Int32)), .val (.int (5 : Int32)), .val (.ref w_DECIMAL), .val (.ref w_BOOLEAN), .unset] []) _
        refine XS.iloadN Xk4.here hx rfl (hb hby at_33) rfl ?_
        show Sp p e below Tk4 (mkF m 34 #[.val (.int p1), .val (.int p2), .val (.int (1 : Int32)), .val (.int (5 : Int32)), .val (.ref w_DECIMAL), .val (.ref w_BOOLEAN), .unset] [(.int (5 : Int32))]) _
        refine XS.bipush Xk4.here hx rfl (hb hby at_34) ?_
        show Sp p e below Tk4 (mkF m 36 #[.val (.int p1), .val (.int p2), .val (.int (1 : Int32)), .val (.int (5 : Int32)), .val (.ref w_DECIMAL), .val (.ref w_BOOLEAN), .unset] [(.int (6 : Int32)), (.int (5 : Int32))]) _
        refine XS.icmpNo Xk4.here hx rfl (hb hby at_36) rfl (feq (by decide : ¬ ((5 : Int32) = (6 : Int32)))).1 ?_
        show Sp p e below Tk4 (mkF m 39 #[.val (.int p1), .val (.int p2), .val (.int (1 : Int32)), .val (.int (5 : Int32)), .val (.ref w_DECIMAL), .val (.ref w_BOOLEAN), .unset] []) _
        refine XS.iloadN Xk4.here hx rfl (hb hby at_39) rfl ?_
        show Sp p e below Tk4 (mkF m 40 #[.val (.int p1), .val (.int p2), .val (.int (1 : Int32)), .val (.int (5 : Int32)), .val (.ref w_DECIMAL), .val (.ref w_BOOLEAN), .unset] [(.int (1 : Int32))]) _
        refine XS.iconst Xk4.here hx rfl (hb hby at_40) ?_
        show Sp p e below Tk4 (mkF m 41 #[.val (.int p1), .val (.int p2), .val (.int (1 : Int32)), .val (.int (5 : Int32)), .val (.ref w_DECIMAL), .val (.ref w_BOOLEAN), .unset] [(.int (1 : Int32)), (.int (1 : Int32))]) _
        refine XS.icmpNo Xk4.here hx rfl (hb hby at_41) rfl (teq (by decide : (1 : Int32) = (1 : Int32))).2 ?_
        show Sp p e below Tk4 (mkF m 44 #[.val (.int p1), .val (.int p2), .val (.int (1 : Int32)), .val (.int (5 : Int32)), .val (.ref w_DECIMAL), .val (.ref w_BOOLEAN), .unset] []) _
        refine XS.iloadN Xk4.here hx rfl (hb hby at_44) rfl ?_
        show Sp p e below Tk4 (mkF m 45 #[.val (.int p1), .val (.int p2), .val (.int (1 : Int32)), .val (.int (5 : Int32)), .val (.ref w_DECIMAL), .val (.ref w_BOOLEAN), .unset] [(.int (5 : Int32))]) _
        refine XS.ifNo Xk4.here hx rfl (hb hby at_45) rfl ((if0 _ _).trans (feq (by decide : ¬ ((5 : Int32) = (0 : Int32)))).1) ?_
        show Sp p e below Tk4 (mkF m 48 #[.val (.int p1), .val (.int p2), .val (.int (1 : Int32)), .val (.int (5 : Int32)), .val (.ref w_DECIMAL), .val (.ref w_BOOLEAN), .unset] []) _
        refine XS.iloadN Xk4.here hx rfl (hb hby at_48) rfl ?_
        show Sp p e below Tk4 (mkF m 49 #[.val (.int p1), .val (.int p2), .val (.int (1 : Int32)), .val (.int (5 : Int32)), .val (.ref w_DECIMAL), .val (.ref w_BOOLEAN), .unset] [(.int (1 : Int32))]) _
        refine XS.iconst Xk4.here hx rfl (hb hby at_49) ?_
        show Sp p e below Tk4 (mkF m 50 #[.val (.int p1), .val (.int p2), .val (.int (1 : Int32)), .val (.int (5 : Int32)), .val (.ref w_DECIMAL), .val (.ref w_BOOLEAN), .unset] [(.int (4 : Int32)), (.int (1 : Int32))]) _
        refine XS.icmpYes Xk4.here hx rfl (pc0 := 50) (pc' := 62) rfl (hb hby at_50) rfl (feq (by decide : ¬ ((1 : Int32) = (4 : Int32)))).2 (by decide) (by decide) ?_
        show Sp p e below Tk4 (mkF m 62 #[.val (.int p1), .val (.int p2), .val (.int (1 : Int32)), .val (.int (5 : Int32)), .val (.ref w_DECIMAL), .val (.ref w_BOOLEAN), .unset] []) _
        refine XS.iconst Xk4.here hx rfl (hb hby at_62) ?_
        show Sp p e below Tk4 (mkF m 63 #[.val (.int p1), .val (.int p2), .val (.int (1 : Int32)), .val (.int (5 : Int32)), .val (.ref w_DECIMAL), .val (.ref w_BOOLEAN), .unset] [(.int (0 : Int32))]) _
        refine XS.istore Xk4.here hx rfl (hb hby at_63) rfl (l' := #[.val (.int p1), .val (.int p2), .val (.int (1 : Int32)), .val (.int (5 : Int32)), .val (.ref w_DECIMAL), .val (.ref w_BOOLEAN), .val (.int (0 : Int32))]) rfl ?_
        show Sp p e below Tk4 (mkF m 65 #[.val (.int p1), .val (.int p2), .val (.int (1 : Int32)), .val (.int (5 : Int32)), .val (.ref w_DECIMAL), .val (.ref w_BOOLEAN), .val (.int (0 : Int32))] []) _
        refine XS.aload Xk4.here hx rfl (hb hby at_65) rfl rfl ?_
        show Sp p e below Tk4 (mkF m 67 #[.val (.int p1), .val (.int p2), .val (.int (1 : Int32)), .val (.int (5 : Int32)), .val (.ref w_DECIMAL), .val (.ref w_BOOLEAN), .val (.int (0 : Int32))] [(.ref w_DECIMAL)]) _
        refine XS.aload Xk4.here hx rfl (hb hby at_67) rfl rfl ?_
        show Sp p e below Tk4 (mkF m 69 #[.val (.int p1), .val (.int p2), .val (.int (1 : Int32)), .val (.int (5 : Int32)), .val (.ref w_DECIMAL), .val (.ref w_BOOLEAN), .val (.int (0 : Int32))] [(.ref w_BOOLEAN), (.ref w_DECIMAL)]) _
        refine stk18.trans ?_
        show Sp p e below Tk18 (mkF m 72 #[.val (.int p1), .val (.int p2), .val (.int (1 : Int32)), .val (.int (5 : Int32)), .val (.ref w_DECIMAL), .val (.ref w_BOOLEAN), .val (.int (0 : Int32))] [(.int (0 : Int32))]) _
        refine XS.iload Xk18.here hx rfl (hb hby at_72) rfl ?_
        show Sp p e below Tk18 (mkF m 74 #[.val (.int p1), .val (.int p2), .val (.int (1 : Int32)), .val (.int (5 : Int32)), .val (.ref w_DECIMAL), .val (.ref w_BOOLEAN), .val (.int (0 : Int32))] [(.int (0 : Int32)), (.int (0 : Int32))]) _
        refine XS.icmpNo Xk18.here hx rfl (hb hby at_74) rfl (teq (by decide : (0 : Int32) = (0 : Int32))).2 ?_
        show Sp p e below Tk18 (mkF m 77 #[.val (.int p1), .val (.int p2), .val (.int (1 : Int32)), .val (.int (5 : Int32)), .val (.ref w_DECIMAL), .val (.ref w_BOOLEAN), .val (.int (0 : Int32))] []) _
        refine XS.iconst Xk18.here hx rfl (hb hby at_77) ?_
        show Sp p e below Tk18 (mkF m 78 #[.val (.int p1), .val (.int p2), .val (.int (1 : Int32)), .val (.int (5 : Int32)), .val (.ref w_DECIMAL), .val (.ref w_BOOLEAN), .val (.int (0 : Int32))] [(.int (1 : Int32))]) _
        refine XS.goto Xk18.here hx rfl (pc0 := 78) (pc' := 82) rfl (hb hby at_78) (by decide) (by decide) ?_
        show Sp p e below Tk18 (mkF m 82 #[.val (.int p1), .val (.int p2), .val (.int (1 : Int32)), .val (.int (5 : Int32)), .val (.ref w_DECIMAL), .val (.ref w_BOOLEAN), .val (.int (0 : Int32))] [(.int (1 : Int32))]) _
        exact retN Xk18 hx (t := .boolean) hret (by simp) (hb hby at_82) hlv
      · show Q_law Z p1 p2 w_INTEGER w_DECIMAL w_VARCHAR w_DATE w_TIMESTAMP w_BOOLEAN w_NULL h0 n0 _ Tk18.heap _
        rw [ek18]
        exact ⟨rfl, Nk18⟩
    · have hrj : rj = w_NULL := by rw [hpj]; simp [hj]
      rw [hi, hj, hri, hrj] at r5
      obtain ⟨cqk19, kqk19, qk19a, qk19b, qk19c⟩ := isOf hZ ek4 E_DECIMAL
      obtain ⟨_, _, ⟨Tk19, Lk19, kk19, nk19⟩, -, Xk19, ⟨Lck19, hQk19, lk19, yk19, zk19⟩, stk19⟩ := Xk4.virtualBack hx (y := (⟨"com/example/kilit/kilit/ValueType", "includes", "(Lcom/example/kilit/kilit/ValueType;)Z"⟩ : MethodName)) (z := (⟨"com/example/kilit/kilit/ValueType$2", "includes", "(Lcom/example/kilit/kilit/ValueType;)Z"⟩ : MethodName)) hown (mvT hZ (hw _ (List.mem_of_getElem? (i := 10) rfl))) (mvT hZ (hw _ (List.mem_of_getElem? (i := 11) rfl))) (notFace_of_selects (args := #[]) (mvT hZ (hw _ (List.mem_of_getElem? (i := 13) rfl)))) (mvT hZ (hw _ (List.mem_of_getElem? (i := 24) rfl))) (mvT hZ (hw _ (List.mem_of_getElem? (i := 25) rfl))) (by decide) (backOf (W := 0) (rm_inc2 l Z a0 hw [] w_DECIMAL w_NULL w_INTEGER w_NULL (1 : Int32) h0 n0 Z0 S_INTEGER S_NULL E_DECIMAL (by simp [n_NULL_DECIMAL, n_NULL_INTEGER, n_NULL_DATE])) hZ (hw _ (List.mem_of_getElem? (i := 27) rfl)) (hw _ (List.mem_of_getElem? (i := 26) rfl)) (by decide) (by decide)) qk19a qk19c (g := (mkF m 69 #[.val (.int p1), .val (.int p2), .val (.int (1 : Int32)), .val (.int (6 : Int32)), .val (.ref w_DECIMAL), .val (.ref w_NULL), .val (.int (1 : Int32))] [(.ref w_NULL), (.ref w_DECIMAL)])) rfl (by rw [hml]; rfl) (Steps.refl _) (argsL := [(.ref w_NULL)]) (rest := []) (lenOf pd__Lcom_example_kilit_kilit_ValueType__Z rfl) rfl (by show 2 * 0 + _ ≤ _; exact Nat.le_of_eq rfl) (hb hby at_69) (fun _ _ => ⟨rfl, ek4, (by decide : 0 + 0 ≤ _), (by decide : 0 + 0 ≤ _)⟩)
      dsimp only [Pt.U, Pt.locs, Pt.cells, Pt.slots] at Xk19 lk19 yk19 zk19 stk19 hQk19
      subst lk19 yk19 zk19
      obtain ⟨rfl, Nk19q, ek19⟩ := hQk19
      have Nk19 := Fr.app Nk4 Nk19q
      obtain ⟨fs, hlv, hrun, hended, hW, hsame⟩ := Xk19.leave (v := some (.int (1 : Int32))) (fun h => by rw [hret] at h; cases h)
      refine ⟨_, _, r5 _ ?_, hrun, hended, _, _, rfl, ?_, ⟨_, rfl⟩, hW, hsame.mono (by decide) (by decide)⟩
      · refine XS.iloadN Xk4.here hx rfl (hb hby at_28) rfl ?_
        show Sp p e below Tk4 (mkF m 29 #[.val (.int p1), .val (.int p2), .val (.int (1 : Int32)), .val (.int (6 : Int32)), .val (.ref w_DECIMAL), .val (.ref w_NULL), .unset] [(.int (1 : Int32))]) _
        refine XS.iloadN Xk4.here hx rfl (hb hby at_29) rfl ?_
        show Sp p e below Tk4 (mkF m 30 #[.val (.int p1), .val (.int p2), .val (.int (1 : Int32)), .val (.int (6 : Int32)), .val (.ref w_DECIMAL), .val (.ref w_NULL), .unset] [(.int (6 : Int32)), (.int (1 : Int32))]) _
        refine XS.icmpNo Xk4.here hx rfl (hb hby at_30) rfl (feq (by decide : ¬ ((1 : Int32) = (6 : Int32)))).1 ?_
        show Sp p e below Tk4 (mkF m 33 #[.val (.int p1), .val (.int p2), .val (.int (1 : Int32)), .val (.int (6 : Int32)), .val (.ref w_DECIMAL), .val (.ref w_NULL), .unset] []) _
        refine XS.iloadN Xk4.here hx rfl (hb hby at_33) rfl ?_
        show Sp p e below Tk4 (mkF m 34 #[.val (.int p1), .val (.int p2), .val (.int (1 : Int32)), .val (.int (6 : Int32)), .val (.ref w_DECIMAL), .val (.ref w_NULL), .unset] [(.int (6 : Int32))]) _
        refine XS.bipush Xk4.here hx rfl (hb hby at_34) ?_
        show Sp p e below Tk4 (mkF m 36 #[.val (.int p1), .val (.int p2), .val (.int (1 : Int32)), .val (.int (6 : Int32)), .val (.ref w_DECIMAL), .val (.ref w_NULL), .unset] [(.int (6 : Int32)), (.int (6 : Int32))]) _
        refine XS.icmpYes Xk4.here hx rfl (pc0 := 36) (pc' := 58) rfl (hb hby at_36) rfl (teq (by decide : (6 : Int32) = (6 : Int32))).1 (by decide) (by decide) ?_
        show Sp p e below Tk4 (mkF m 58 #[.val (.int p1), .val (.int p2), .val (.int (1 : Int32)), .val (.int (6 : Int32)), .val (.ref w_DECIMAL), .val (.ref w_NULL), .unset] []) _
        refine XS.iconst Xk4.here hx rfl (hb hby at_58) ?_
        show Sp p e below Tk4 (mkF m 59 #[.val (.int p1), .val (.int p2), .val (.int (1 : Int32)), .val (.int (6 : Int32)), .val (.ref w_DECIMAL), .val (.ref w_NULL), .unset] [(.int (1 : Int32))]) _
        refine XS.goto Xk4.here hx rfl (pc0 := 59) (pc' := 63) rfl (hb hby at_59) (by decide) (by decide) ?_
        show Sp p e below Tk4 (mkF m 63 #[.val (.int p1), .val (.int p2), .val (.int (1 : Int32)), .val (.int (6 : Int32)), .val (.ref w_DECIMAL), .val (.ref w_NULL), .unset] [(.int (1 : Int32))]) _
        refine XS.istore Xk4.here hx rfl (hb hby at_63) rfl (l' := #[.val (.int p1), .val (.int p2), .val (.int (1 : Int32)), .val (.int (6 : Int32)), .val (.ref w_DECIMAL), .val (.ref w_NULL), .val (.int (1 : Int32))]) rfl ?_
        show Sp p e below Tk4 (mkF m 65 #[.val (.int p1), .val (.int p2), .val (.int (1 : Int32)), .val (.int (6 : Int32)), .val (.ref w_DECIMAL), .val (.ref w_NULL), .val (.int (1 : Int32))] []) _
        refine XS.aload Xk4.here hx rfl (hb hby at_65) rfl rfl ?_
        show Sp p e below Tk4 (mkF m 67 #[.val (.int p1), .val (.int p2), .val (.int (1 : Int32)), .val (.int (6 : Int32)), .val (.ref w_DECIMAL), .val (.ref w_NULL), .val (.int (1 : Int32))] [(.ref w_DECIMAL)]) _
        refine XS.aload Xk4.here hx rfl (hb hby at_67) rfl rfl ?_
        show Sp p e below Tk4 (mkF m 69 #[.val (.int p1), .val (.int p2), .val (.int (1 : Int32)), .val (.int (6 : Int32)), .val (.ref w_DECIMAL), .val (.ref w_NULL), .val (.int (1 : Int32))] [(.ref w_NULL), (.ref w_DECIMAL)]) _
        refine stk19.trans ?_
        show Sp p e below Tk19 (mkF m 72 #[.val (.int p1), .val (.int p2), .val (.int (1 : Int32)), .val (.int (6 : Int32)), .val (.ref w_DECIMAL), .val (.ref w_NULL), .val (.int (1 : Int32))] [(.int (1 : Int32))]) _
        refine XS.iload Xk19.here hx rfl (hb hby at_72) rfl ?_
        show Sp p e below Tk19 (mkF m 74 #[.val (.int p1), .val (.int p2), .val (.int (1 : Int32)), .val (.int (6 : Int32)), .val (.ref w_DECIMAL), .val (.ref w_NULL), .val (.int (1 : Int32))] [(.int (1 : Int32)), (.int (1 : Int32))]) _
        refine XS.icmpNo Xk19.here hx rfl (hb hby at_74) rfl (teq (by decide : (1 : Int32) = (1 : Int32))).2 ?_
        show Sp p e below Tk19 (mkF m 77 #[.val (.int p1), .val (.int p2), .val (.int (1 : Int32)), .val (.int (6 : Int32)), .val (.ref w_DECIMAL), .val (.ref w_NULL), .val (.int (1 : Int32))] []) _
        refine XS.iconst Xk19.here hx rfl (hb hby at_77) ?_
        show Sp p e below Tk19 (mkF m 78 #[.val (.int p1), .val (.int p2), .val (.int (1 : Int32)), .val (.int (6 : Int32)), .val (.ref w_DECIMAL), .val (.ref w_NULL), .val (.int (1 : Int32))] [(.int (1 : Int32))]) _
        refine XS.goto Xk19.here hx rfl (pc0 := 78) (pc' := 82) rfl (hb hby at_78) (by decide) (by decide) ?_
        show Sp p e below Tk19 (mkF m 82 #[.val (.int p1), .val (.int p2), .val (.int (1 : Int32)), .val (.int (6 : Int32)), .val (.ref w_DECIMAL), .val (.ref w_NULL), .val (.int (1 : Int32))] [(.int (1 : Int32))]) _
        exact retN Xk19 hx (t := .boolean) hret (by simp) (hb hby at_82) hlv
      · show Q_law Z p1 p2 w_INTEGER w_DECIMAL w_VARCHAR w_DATE w_TIMESTAMP w_BOOLEAN w_NULL h0 n0 _ Tk19.heap _
        rw [ek19]
        exact ⟨rfl, Nk19⟩
  · have hri : ri = w_VARCHAR := by rw [hpi]; simp [hi]
    rcases cj with hj | hj | hj | hj | hj | hj | hj
    · have hrj : rj = w_INTEGER := by rw [hpj]; simp [hj]
      rw [hi, hj, hri, hrj] at r5
      obtain ⟨cqk20, kqk20, qk20a, qk20b, qk20c⟩ := isOf hZ ek4 E_VARCHAR
      obtain ⟨_, _, ⟨Tk20, Lk20, kk20, nk20⟩, -, Xk20, ⟨Lck20, hQk20, lk20, yk20, zk20⟩, stk20⟩ := Xk4.virtualBack hx (y := (⟨"com/example/kilit/kilit/ValueType", "includes", "(Lcom/example/kilit/kilit/ValueType;)Z"⟩ : MethodName)) (z := (⟨"com/example/kilit/kilit/ValueType", "includes", "(Lcom/example/kilit/kilit/ValueType;)Z"⟩ : MethodName)) hown (mvT hZ (hw _ (List.mem_of_getElem? (i := 10) rfl))) (mvT hZ (hw _ (List.mem_of_getElem? (i := 11) rfl))) (notFace_of_selects (args := #[]) (mvT hZ (hw _ (List.mem_of_getElem? (i := 13) rfl)))) (mvT hZ (hw _ (List.mem_of_getElem? (i := 45) rfl))) (mvT hZ (hw _ (List.mem_of_getElem? (i := 12) rfl))) (by decide) (backOf (W := 0) (rm_base l Z a0 hw [] w_VARCHAR w_INTEGER w_NULL (0 : Int32) h0 n0 Z0 S_NULL (by simp [n_INTEGER_VARCHAR, n_INTEGER_NULL, n_INTEGER_DATE])) hZ (hw _ (List.mem_of_getElem? (i := 14) rfl)) (hw _ (List.mem_of_getElem? (i := 6) rfl)) (by decide) (by decide)) qk20a qk20c (g := (mkF m 69 #[.val (.int p1), .val (.int p2), .val (.int (2 : Int32)), .val (.int (0 : Int32)), .val (.ref w_VARCHAR), .val (.ref w_INTEGER), .val (.int (0 : Int32))] [(.ref w_INTEGER), (.ref w_VARCHAR)])) rfl (by rw [hml]; rfl) (Steps.refl _) (argsL := [(.ref w_INTEGER)]) (rest := []) (lenOf pd__Lcom_example_kilit_kilit_ValueType__Z rfl) rfl (by show 2 * 0 + _ ≤ _; exact Nat.le_of_eq rfl) (hb hby at_69) (fun _ _ => ⟨rfl, ek4, (by decide : 0 + 0 ≤ _), (by decide : 0 + 0 ≤ _)⟩)
      dsimp only [Pt.U, Pt.locs, Pt.cells, Pt.slots] at Xk20 lk20 yk20 zk20 stk20 hQk20
      subst lk20 yk20 zk20
      obtain ⟨rfl, Nk20q, ek20⟩ := hQk20
      have Nk20 := Fr.app Nk4 Nk20q
      obtain ⟨fs, hlv, hrun, hended, hW, hsame⟩ := Xk20.leave (v := some (.int (1 : Int32))) (fun h => by rw [hret] at h; cases h)
      refine ⟨_, _, r5 _ ?_, hrun, hended, _, _, rfl, ?_, ⟨_, rfl⟩, hW, hsame.mono (by decide) (by decide)⟩
      · refine XS.iloadN Xk4.here hx rfl (hb hby at_28) rfl ?_
        show Sp p e below Tk4 (mkF m 29 #[.val (.int p1), .val (.int p2), .val (.int (2 : Int32)), .val (.int (0 : Int32)), .val (.ref w_VARCHAR), .val (.ref w_INTEGER), .unset] [(.int (2 : Int32))]) _
        refine XS.iloadN Xk4.here hx rfl (hb hby at_29) rfl ?_
        show Sp p e below Tk4 (mkF m 30 #[.val (.int p1), .val (.int p2), .val (.int (2 : Int32)), .val (.int (0 : Int32)), .val (.ref w_VARCHAR), .val (.ref w_INTEGER), .unset] [(.int (0 : Int32)), (.int (2 : Int32))]) _
        refine XS.icmpNo Xk4.here hx rfl (hb hby at_30) rfl (feq (by decide : ¬ ((2 : Int32) = (0 : Int32)))).1 ?_
        show Sp p e below Tk4 (mkF m 33 #[.val (.int p1), .val (.int p2), .val (.int (2 : Int32)), .val (.int (0 : Int32)), .val (.ref w_VARCHAR), .val (.ref w_INTEGER), .unset] []) _
        refine XS.iloadN Xk4.here hx rfl (hb hby at_33) rfl ?_
        show Sp p e below Tk4 (mkF m 34 #[.val (.int p1), .val (.int p2), .val (.int (2 : Int32)), .val (.int (0 : Int32)), .val (.ref w_VARCHAR), .val (.ref w_INTEGER), .unset] [(.int (0 : Int32))]) _
        refine XS.bipush Xk4.here hx rfl (hb hby at_34) ?_
        show Sp p e below Tk4 (mkF m 36 #[.val (.int p1), .val (.int p2), .val (.int (2 : Int32)), .val (.int (0 : Int32)), .val (.ref w_VARCHAR), .val (.ref w_INTEGER), .unset] [(.int (6 : Int32)), (.int (0 : Int32))]) _
        refine XS.icmpNo Xk4.here hx rfl (hb hby at_36) rfl (feq (by decide : ¬ ((0 : Int32) = (6 : Int32)))).1 ?_
        show Sp p e below Tk4 (mkF m 39 #[.val (.int p1), .val (.int p2), .val (.int (2 : Int32)), .val (.int (0 : Int32)), .val (.ref w_VARCHAR), .val (.ref w_INTEGER), .unset] []) _
        refine XS.iloadN Xk4.here hx rfl (hb hby at_39) rfl ?_
        show Sp p e below Tk4 (mkF m 40 #[.val (.int p1), .val (.int p2), .val (.int (2 : Int32)), .val (.int (0 : Int32)), .val (.ref w_VARCHAR), .val (.ref w_INTEGER), .unset] [(.int (2 : Int32))]) _
        refine XS.iconst Xk4.here hx rfl (hb hby at_40) ?_
        show Sp p e below Tk4 (mkF m 41 #[.val (.int p1), .val (.int p2), .val (.int (2 : Int32)), .val (.int (0 : Int32)), .val (.ref w_VARCHAR), .val (.ref w_INTEGER), .unset] [(.int (1 : Int32)), (.int (2 : Int32))]) _
        refine XS.icmpYes Xk4.here hx rfl (pc0 := 41) (pc' := 48) rfl (hb hby at_41) rfl (feq (by decide : ¬ ((2 : Int32) = (1 : Int32)))).2 (by decide) (by decide) ?_
        show Sp p e below Tk4 (mkF m 48 #[.val (.int p1), .val (.int p2), .val (.int (2 : Int32)), .val (.int (0 : Int32)), .val (.ref w_VARCHAR), .val (.ref w_INTEGER), .unset] []) _
        refine XS.iloadN Xk4.here hx rfl (hb hby at_48) rfl ?_
        show Sp p e below Tk4 (mkF m 49 #[.val (.int p1), .val (.int p2), .val (.int (2 : Int32)), .val (.int (0 : Int32)), .val (.ref w_VARCHAR), .val (.ref w_INTEGER), .unset] [(.int (2 : Int32))]) _
        refine XS.iconst Xk4.here hx rfl (hb hby at_49) ?_
        show Sp p e below Tk4 (mkF m 50 #[.val (.int p1), .val (.int p2), .val (.int (2 : Int32)), .val (.int (0 : Int32)), .val (.ref w_VARCHAR), .val (.ref w_INTEGER), .unset] [(.int (4 : Int32)), (.int (2 : Int32))]) _
        refine XS.icmpYes Xk4.here hx rfl (pc0 := 50) (pc' := 62) rfl (hb hby at_50) rfl (feq (by decide : ¬ ((2 : Int32) = (4 : Int32)))).2 (by decide) (by decide) ?_
        show Sp p e below Tk4 (mkF m 62 #[.val (.int p1), .val (.int p2), .val (.int (2 : Int32)), .val (.int (0 : Int32)), .val (.ref w_VARCHAR), .val (.ref w_INTEGER), .unset] []) _
        refine XS.iconst Xk4.here hx rfl (hb hby at_62) ?_
        show Sp p e below Tk4 (mkF m 63 #[.val (.int p1), .val (.int p2), .val (.int (2 : Int32)), .val (.int (0 : Int32)), .val (.ref w_VARCHAR), .val (.ref w_INTEGER), .unset] [(.int (0 : Int32))]) _
        refine XS.istore Xk4.here hx rfl (hb hby at_63) rfl (l' := #[.val (.int p1), .val (.int p2), .val (.int (2 : Int32)), .val (.int (0 : Int32)), .val (.ref w_VARCHAR), .val (.ref w_INTEGER), .val (.int (0 : Int32))]) rfl ?_
        show Sp p e below Tk4 (mkF m 65 #[.val (.int p1), .val (.int p2), .val (.int (2 : Int32)), .val (.int (0 : Int32)), .val (.ref w_VARCHAR), .val (.ref w_INTEGER), .val (.int (0 : Int32))] []) _
        refine XS.aload Xk4.here hx rfl (hb hby at_65) rfl rfl ?_
        show Sp p e below Tk4 (mkF m 67 #[.val (.int p1), .val (.int p2), .val (.int (2 : Int32)), .val (.int (0 : Int32)), .val (.ref w_VARCHAR), .val (.ref w_INTEGER), .val (.int (0 : Int32))] [(.ref w_VARCHAR)]) _
        refine XS.aload Xk4.here hx rfl (hb hby at_67) rfl rfl ?_
        show Sp p e below Tk4 (mkF m 69 #[.val (.int p1), .val (.int p2), .val (.int (2 : Int32)), .val (.int (0 : Int32)), .val (.ref w_VARCHAR), .val (.ref w_INTEGER), .val (.int (0 : Int32))] [(.ref w_INTEGER), (.ref w_VARCHAR)]) _
        refine stk20.trans ?_
        show Sp p e below Tk20 (mkF m 72 #[.val (.int p1), .val (.int p2), .val (.int (2 : Int32)), .val (.int (0 : Int32)), .val (.ref w_VARCHAR), .val (.ref w_INTEGER), .val (.int (0 : Int32))] [(.int (0 : Int32))]) _
        refine XS.iload Xk20.here hx rfl (hb hby at_72) rfl ?_
        show Sp p e below Tk20 (mkF m 74 #[.val (.int p1), .val (.int p2), .val (.int (2 : Int32)), .val (.int (0 : Int32)), .val (.ref w_VARCHAR), .val (.ref w_INTEGER), .val (.int (0 : Int32))] [(.int (0 : Int32)), (.int (0 : Int32))]) _
        refine XS.icmpNo Xk20.here hx rfl (hb hby at_74) rfl (teq (by decide : (0 : Int32) = (0 : Int32))).2 ?_
        show Sp p e below Tk20 (mkF m 77 #[.val (.int p1), .val (.int p2), .val (.int (2 : Int32)), .val (.int (0 : Int32)), .val (.ref w_VARCHAR), .val (.ref w_INTEGER), .val (.int (0 : Int32))] []) _
        refine XS.iconst Xk20.here hx rfl (hb hby at_77) ?_
        show Sp p e below Tk20 (mkF m 78 #[.val (.int p1), .val (.int p2), .val (.int (2 : Int32)), .val (.int (0 : Int32)), .val (.ref w_VARCHAR), .val (.ref w_INTEGER), .val (.int (0 : Int32))] [(.int (1 : Int32))]) _
        refine XS.goto Xk20.here hx rfl (pc0 := 78) (pc' := 82) rfl (hb hby at_78) (by decide) (by decide) ?_
        show Sp p e below Tk20 (mkF m 82 #[.val (.int p1), .val (.int p2), .val (.int (2 : Int32)), .val (.int (0 : Int32)), .val (.ref w_VARCHAR), .val (.ref w_INTEGER), .val (.int (0 : Int32))] [(.int (1 : Int32))]) _
        exact retN Xk20 hx (t := .boolean) hret (by simp) (hb hby at_82) hlv
      · show Q_law Z p1 p2 w_INTEGER w_DECIMAL w_VARCHAR w_DATE w_TIMESTAMP w_BOOLEAN w_NULL h0 n0 _ Tk20.heap _
        rw [ek20]
        exact ⟨rfl, Nk20⟩
    · have hrj : rj = w_DECIMAL := by rw [hpj]; simp [hj]
      rw [hi, hj, hri, hrj] at r5
      obtain ⟨cqk21, kqk21, qk21a, qk21b, qk21c⟩ := isOf hZ ek4 E_VARCHAR
      obtain ⟨_, _, ⟨Tk21, Lk21, kk21, nk21⟩, -, Xk21, ⟨Lck21, hQk21, lk21, yk21, zk21⟩, stk21⟩ := Xk4.virtualBack hx (y := (⟨"com/example/kilit/kilit/ValueType", "includes", "(Lcom/example/kilit/kilit/ValueType;)Z"⟩ : MethodName)) (z := (⟨"com/example/kilit/kilit/ValueType", "includes", "(Lcom/example/kilit/kilit/ValueType;)Z"⟩ : MethodName)) hown (mvT hZ (hw _ (List.mem_of_getElem? (i := 10) rfl))) (mvT hZ (hw _ (List.mem_of_getElem? (i := 11) rfl))) (notFace_of_selects (args := #[]) (mvT hZ (hw _ (List.mem_of_getElem? (i := 13) rfl)))) (mvT hZ (hw _ (List.mem_of_getElem? (i := 45) rfl))) (mvT hZ (hw _ (List.mem_of_getElem? (i := 12) rfl))) (by decide) (backOf (W := 0) (rm_base l Z a0 hw [] w_VARCHAR w_DECIMAL w_NULL (0 : Int32) h0 n0 Z0 S_NULL (by simp [n_DECIMAL_VARCHAR, n_DECIMAL_NULL, n_DECIMAL_INTEGER, n_DECIMAL_DATE])) hZ (hw _ (List.mem_of_getElem? (i := 14) rfl)) (hw _ (List.mem_of_getElem? (i := 6) rfl)) (by decide) (by decide)) qk21a qk21c (g := (mkF m 69 #[.val (.int p1), .val (.int p2), .val (.int (2 : Int32)), .val (.int (1 : Int32)), .val (.ref w_VARCHAR), .val (.ref w_DECIMAL), .val (.int (0 : Int32))] [(.ref w_DECIMAL), (.ref w_VARCHAR)])) rfl (by rw [hml]; rfl) (Steps.refl _) (argsL := [(.ref w_DECIMAL)]) (rest := []) (lenOf pd__Lcom_example_kilit_kilit_ValueType__Z rfl) rfl (by show 2 * 0 + _ ≤ _; exact Nat.le_of_eq rfl) (hb hby at_69) (fun _ _ => ⟨rfl, ek4, (by decide : 0 + 0 ≤ _), (by decide : 0 + 0 ≤ _)⟩)
      dsimp only [Pt.U, Pt.locs, Pt.cells, Pt.slots] at Xk21 lk21 yk21 zk21 stk21 hQk21
      subst lk21 yk21 zk21
      obtain ⟨rfl, Nk21q, ek21⟩ := hQk21
      have Nk21 := Fr.app Nk4 Nk21q
      obtain ⟨fs, hlv, hrun, hended, hW, hsame⟩ := Xk21.leave (v := some (.int (1 : Int32))) (fun h => by rw [hret] at h; cases h)
      refine ⟨_, _, r5 _ ?_, hrun, hended, _, _, rfl, ?_, ⟨_, rfl⟩, hW, hsame.mono (by decide) (by decide)⟩
      · refine XS.iloadN Xk4.here hx rfl (hb hby at_28) rfl ?_
        show Sp p e below Tk4 (mkF m 29 #[.val (.int p1), .val (.int p2), .val (.int (2 : Int32)), .val (.int (1 : Int32)), .val (.ref w_VARCHAR), .val (.ref w_DECIMAL), .unset] [(.int (2 : Int32))]) _
        refine XS.iloadN Xk4.here hx rfl (hb hby at_29) rfl ?_
        show Sp p e below Tk4 (mkF m 30 #[.val (.int p1), .val (.int p2), .val (.int (2 : Int32)), .val (.int (1 : Int32)), .val (.ref w_VARCHAR), .val (.ref w_DECIMAL), .unset] [(.int (1 : Int32)), (.int (2 : Int32))]) _
        refine XS.icmpNo Xk4.here hx rfl (hb hby at_30) rfl (feq (by decide : ¬ ((2 : Int32) = (1 : Int32)))).1 ?_
        show Sp p e below Tk4 (mkF m 33 #[.val (.int p1), .val (.int p2), .val (.int (2 : Int32)), .val (.int (1 : Int32)), .val (.ref w_VARCHAR), .val (.ref w_DECIMAL), .unset] []) _
        refine XS.iloadN Xk4.here hx rfl (hb hby at_33) rfl ?_
        show Sp p e below Tk4 (mkF m 34 #[.val (.int p1), .val (.int p2), .val (.int (2 : Int32)), .val (.int (1 : Int32)), .val (.ref w_VARCHAR), .val (.ref w_DECIMAL), .unset] [(.int (1 : Int32))]) _
        refine XS.bipush Xk4.here hx rfl (hb hby at_34) ?_
        show Sp p e below Tk4 (mkF m 36 #[.val (.int p1), .val (.int p2), .val (.int (2 : Int32)), .val (.int (1 : Int32)), .val (.ref w_VARCHAR), .val (.ref w_DECIMAL), .unset] [(.int (6 : Int32)), (.int (1 : Int32))]) _
        refine XS.icmpNo Xk4.here hx rfl (hb hby at_36) rfl (feq (by decide : ¬ ((1 : Int32) = (6 : Int32)))).1 ?_
        show Sp p e below Tk4 (mkF m 39 #[.val (.int p1), .val (.int p2), .val (.int (2 : Int32)), .val (.int (1 : Int32)), .val (.ref w_VARCHAR), .val (.ref w_DECIMAL), .unset] []) _
        refine XS.iloadN Xk4.here hx rfl (hb hby at_39) rfl ?_
        show Sp p e below Tk4 (mkF m 40 #[.val (.int p1), .val (.int p2), .val (.int (2 : Int32)), .val (.int (1 : Int32)), .val (.ref w_VARCHAR), .val (.ref w_DECIMAL), .unset] [(.int (2 : Int32))]) _
        refine XS.iconst Xk4.here hx rfl (hb hby at_40) ?_
        show Sp p e below Tk4 (mkF m 41 #[.val (.int p1), .val (.int p2), .val (.int (2 : Int32)), .val (.int (1 : Int32)), .val (.ref w_VARCHAR), .val (.ref w_DECIMAL), .unset] [(.int (1 : Int32)), (.int (2 : Int32))]) _
        refine XS.icmpYes Xk4.here hx rfl (pc0 := 41) (pc' := 48) rfl (hb hby at_41) rfl (feq (by decide : ¬ ((2 : Int32) = (1 : Int32)))).2 (by decide) (by decide) ?_
        show Sp p e below Tk4 (mkF m 48 #[.val (.int p1), .val (.int p2), .val (.int (2 : Int32)), .val (.int (1 : Int32)), .val (.ref w_VARCHAR), .val (.ref w_DECIMAL), .unset] []) _
        refine XS.iloadN Xk4.here hx rfl (hb hby at_48) rfl ?_
        show Sp p e below Tk4 (mkF m 49 #[.val (.int p1), .val (.int p2), .val (.int (2 : Int32)), .val (.int (1 : Int32)), .val (.ref w_VARCHAR), .val (.ref w_DECIMAL), .unset] [(.int (2 : Int32))]) _
        refine XS.iconst Xk4.here hx rfl (hb hby at_49) ?_
        show Sp p e below Tk4 (mkF m 50 #[.val (.int p1), .val (.int p2), .val (.int (2 : Int32)), .val (.int (1 : Int32)), .val (.ref w_VARCHAR), .val (.ref w_DECIMAL), .unset] [(.int (4 : Int32)), (.int (2 : Int32))]) _
        refine XS.icmpYes Xk4.here hx rfl (pc0 := 50) (pc' := 62) rfl (hb hby at_50) rfl (feq (by decide : ¬ ((2 : Int32) = (4 : Int32)))).2 (by decide) (by decide) ?_
        show Sp p e below Tk4 (mkF m 62 #[.val (.int p1), .val (.int p2), .val (.int (2 : Int32)), .val (.int (1 : Int32)), .val (.ref w_VARCHAR), .val (.ref w_DECIMAL), .unset] []) _
        refine XS.iconst Xk4.here hx rfl (hb hby at_62) ?_
        show Sp p e below Tk4 (mkF m 63 #[.val (.int p1), .val (.int p2), .val (.int (2 : Int32)), .val (.int (1 : Int32)), .val (.ref w_VARCHAR), .val (.ref w_DECIMAL), .unset] [(.int (0 : Int32))]) _
        refine XS.istore Xk4.here hx rfl (hb hby at_63) rfl (l' := #[.val (.int p1), .val (.int p2), .val (.int (2 : Int32)), .val (.int (1 : Int32)), .val (.ref w_VARCHAR), .val (.ref w_DECIMAL), .val (.int (0 : Int32))]) rfl ?_
        show Sp p e below Tk4 (mkF m 65 #[.val (.int p1), .val (.int p2), .val (.int (2 : Int32)), .val (.int (1 : Int32)), .val (.ref w_VARCHAR), .val (.ref w_DECIMAL), .val (.int (0 : Int32))] []) _
        refine XS.aload Xk4.here hx rfl (hb hby at_65) rfl rfl ?_
        show Sp p e below Tk4 (mkF m 67 #[.val (.int p1), .val (.int p2), .val (.int (2 : Int32)), .val (.int (1 : Int32)), .val (.ref w_VARCHAR), .val (.ref w_DECIMAL), .val (.int (0 : Int32))] [(.ref w_VARCHAR)]) _
        refine XS.aload Xk4.here hx rfl (hb hby at_67) rfl rfl ?_
        show Sp p e below Tk4 (mkF m 69 #[.val (.int p1), .val (.int p2), .val (.int (2 : Int32)), .val (.int (1 : Int32)), .val (.ref w_VARCHAR), .val (.ref w_DECIMAL), .val (.int (0 : Int32))] [(.ref w_DECIMAL), (.ref w_VARCHAR)]) _
        refine stk21.trans ?_
        show Sp p e below Tk21 (mkF m 72 #[.val (.int p1), .val (.int p2), .val (.int (2 : Int32)), .val (.int (1 : Int32)), .val (.ref w_VARCHAR), .val (.ref w_DECIMAL), .val (.int (0 : Int32))] [(.int (0 : Int32))]) _
        refine XS.iload Xk21.here hx rfl (hb hby at_72) rfl ?_
        show Sp p e below Tk21 (mkF m 74 #[.val (.int p1), .val (.int p2), .val (.int (2 : Int32)), .val (.int (1 : Int32)), .val (.ref w_VARCHAR), .val (.ref w_DECIMAL), .val (.int (0 : Int32))] [(.int (0 : Int32)), (.int (0 : Int32))]) _
        refine XS.icmpNo Xk21.here hx rfl (hb hby at_74) rfl (teq (by decide : (0 : Int32) = (0 : Int32))).2 ?_
        show Sp p e below Tk21 (mkF m 77 #[.val (.int p1), .val (.int p2), .val (.int (2 : Int32)), .val (.int (1 : Int32)), .val (.ref w_VARCHAR), .val (.ref w_DECIMAL), .val (.int (0 : Int32))] []) _
        refine XS.iconst Xk21.here hx rfl (hb hby at_77) ?_
        show Sp p e below Tk21 (mkF m 78 #[.val (.int p1), .val (.int p2), .val (.int (2 : Int32)), .val (.int (1 : Int32)), .val (.ref w_VARCHAR), .val (.ref w_DECIMAL), .val (.int (0 : Int32))] [(.int (1 : Int32))]) _
        refine XS.goto Xk21.here hx rfl (pc0 := 78) (pc' := 82) rfl (hb hby at_78) (by decide) (by decide) ?_
        show Sp p e below Tk21 (mkF m 82 #[.val (.int p1), .val (.int p2), .val (.int (2 : Int32)), .val (.int (1 : Int32)), .val (.ref w_VARCHAR), .val (.ref w_DECIMAL), .val (.int (0 : Int32))] [(.int (1 : Int32))]) _
        exact retN Xk21 hx (t := .boolean) hret (by simp) (hb hby at_82) hlv
      · show Q_law Z p1 p2 w_INTEGER w_DECIMAL w_VARCHAR w_DATE w_TIMESTAMP w_BOOLEAN w_NULL h0 n0 _ Tk21.heap _
        rw [ek21]
        exact ⟨rfl, Nk21⟩
    · have hrj : rj = w_VARCHAR := by rw [hpj]; simp [hj]
      rw [hi, hj, hri, hrj] at r5
      obtain ⟨cqk22, kqk22, qk22a, qk22b, qk22c⟩ := isOf hZ ek4 E_VARCHAR
      obtain ⟨_, _, ⟨Tk22, Lk22, kk22, nk22⟩, -, Xk22, ⟨Lck22, hQk22, lk22, yk22, zk22⟩, stk22⟩ := Xk4.virtualBack hx (y := (⟨"com/example/kilit/kilit/ValueType", "includes", "(Lcom/example/kilit/kilit/ValueType;)Z"⟩ : MethodName)) (z := (⟨"com/example/kilit/kilit/ValueType", "includes", "(Lcom/example/kilit/kilit/ValueType;)Z"⟩ : MethodName)) hown (mvT hZ (hw _ (List.mem_of_getElem? (i := 10) rfl))) (mvT hZ (hw _ (List.mem_of_getElem? (i := 11) rfl))) (notFace_of_selects (args := #[]) (mvT hZ (hw _ (List.mem_of_getElem? (i := 13) rfl)))) (mvT hZ (hw _ (List.mem_of_getElem? (i := 45) rfl))) (mvT hZ (hw _ (List.mem_of_getElem? (i := 12) rfl))) (by decide) (backOf (W := 0) (rm_base l Z a0 hw [] w_VARCHAR w_VARCHAR w_NULL (1 : Int32) h0 n0 Z0 S_NULL (by simp [n_VARCHAR_NULL, n_VARCHAR_INTEGER, n_VARCHAR_DATE])) hZ (hw _ (List.mem_of_getElem? (i := 14) rfl)) (hw _ (List.mem_of_getElem? (i := 6) rfl)) (by decide) (by decide)) qk22a qk22c (g := (mkF m 69 #[.val (.int p1), .val (.int p2), .val (.int (2 : Int32)), .val (.int (2 : Int32)), .val (.ref w_VARCHAR), .val (.ref w_VARCHAR), .val (.int (1 : Int32))] [(.ref w_VARCHAR), (.ref w_VARCHAR)])) rfl (by rw [hml]; rfl) (Steps.refl _) (argsL := [(.ref w_VARCHAR)]) (rest := []) (lenOf pd__Lcom_example_kilit_kilit_ValueType__Z rfl) rfl (by show 2 * 0 + _ ≤ _; exact Nat.le_of_eq rfl) (hb hby at_69) (fun _ _ => ⟨rfl, ek4, (by decide : 0 + 0 ≤ _), (by decide : 0 + 0 ≤ _)⟩)
      dsimp only [Pt.U, Pt.locs, Pt.cells, Pt.slots] at Xk22 lk22 yk22 zk22 stk22 hQk22
      subst lk22 yk22 zk22
      obtain ⟨rfl, Nk22q, ek22⟩ := hQk22
      have Nk22 := Fr.app Nk4 Nk22q
      obtain ⟨fs, hlv, hrun, hended, hW, hsame⟩ := Xk22.leave (v := some (.int (1 : Int32))) (fun h => by rw [hret] at h; cases h)
      refine ⟨_, _, r5 _ ?_, hrun, hended, _, _, rfl, ?_, ⟨_, rfl⟩, hW, hsame.mono (by decide) (by decide)⟩
      · refine XS.iloadN Xk4.here hx rfl (hb hby at_28) rfl ?_
        show Sp p e below Tk4 (mkF m 29 #[.val (.int p1), .val (.int p2), .val (.int (2 : Int32)), .val (.int (2 : Int32)), .val (.ref w_VARCHAR), .val (.ref w_VARCHAR), .unset] [(.int (2 : Int32))]) _
        refine XS.iloadN Xk4.here hx rfl (hb hby at_29) rfl ?_
        show Sp p e below Tk4 (mkF m 30 #[.val (.int p1), .val (.int p2), .val (.int (2 : Int32)), .val (.int (2 : Int32)), .val (.ref w_VARCHAR), .val (.ref w_VARCHAR), .unset] [(.int (2 : Int32)), (.int (2 : Int32))]) _
        refine XS.icmpYes Xk4.here hx rfl (pc0 := 30) (pc' := 58) rfl (hb hby at_30) rfl (teq (by decide : (2 : Int32) = (2 : Int32))).1 (by decide) (by decide) ?_
        show Sp p e below Tk4 (mkF m 58 #[.val (.int p1), .val (.int p2), .val (.int (2 : Int32)), .val (.int (2 : Int32)), .val (.ref w_VARCHAR), .val (.ref w_VARCHAR), .unset] []) _
        refine XS.iconst Xk4.here hx rfl (hb hby at_58) ?_
        show Sp p e below Tk4 (mkF m 59 #[.val (.int p1), .val (.int p2), .val (.int (2 : Int32)), .val (.int (2 : Int32)), .val (.ref w_VARCHAR), .val (.ref w_VARCHAR), .unset] [(.int (1 : Int32))]) _
        refine XS.goto Xk4.here hx rfl (pc0 := 59) (pc' := 63) rfl (hb hby at_59) (by decide) (by decide) ?_
        show Sp p e below Tk4 (mkF m 63 #[.val (.int p1), .val (.int p2), .val (.int (2 : Int32)), .val (.int (2 : Int32)), .val (.ref w_VARCHAR), .val (.ref w_VARCHAR), .unset] [(.int (1 : Int32))]) _
        refine XS.istore Xk4.here hx rfl (hb hby at_63) rfl (l' := #[.val (.int p1), .val (.int p2), .val (.int (2 : Int32)), .val (.int (2 : Int32)), .val (.ref w_VARCHAR), .val (.ref w_VARCHAR), .val (.int (1 : Int32))]) rfl ?_
        show Sp p e below Tk4 (mkF m 65 #[.val (.int p1), .val (.int p2), .val (.int (2 : Int32)), .val (.int (2 : Int32)), .val (.ref w_VARCHAR), .val (.ref w_VARCHAR), .val (.int (1 : Int32))] []) _
        refine XS.aload Xk4.here hx rfl (hb hby at_65) rfl rfl ?_
        show Sp p e below Tk4 (mkF m 67 #[.val (.int p1), .val (.int p2), .val (.int (2 : Int32)), .val (.int (2 : Int32)), .val (.ref w_VARCHAR), .val (.ref w_VARCHAR), .val (.int (1 : Int32))] [(.ref w_VARCHAR)]) _
        refine XS.aload Xk4.here hx rfl (hb hby at_67) rfl rfl ?_
        show Sp p e below Tk4 (mkF m 69 #[.val (.int p1), .val (.int p2), .val (.int (2 : Int32)), .val (.int (2 : Int32)), .val (.ref w_VARCHAR), .val (.ref w_VARCHAR), .val (.int (1 : Int32))] [(.ref w_VARCHAR), (.ref w_VARCHAR)]) _
        refine stk22.trans ?_
        show Sp p e below Tk22 (mkF m 72 #[.val (.int p1), .val (.int p2), .val (.int (2 : Int32)), .val (.int (2 : Int32)), .val (.ref w_VARCHAR), .val (.ref w_VARCHAR), .val (.int (1 : Int32))] [(.int (1 : Int32))]) _
        refine XS.iload Xk22.here hx rfl (hb hby at_72) rfl ?_
        show Sp p e below Tk22 (mkF m 74 #[.val (.int p1), .val (.int p2), .val (.int (2 : Int32)), .val (.int (2 : Int32)), .val (.ref w_VARCHAR), .val (.ref w_VARCHAR), .val (.int (1 : Int32))] [(.int (1 : Int32)), (.int (1 : Int32))]) _
        refine XS.icmpNo Xk22.here hx rfl (hb hby at_74) rfl (teq (by decide : (1 : Int32) = (1 : Int32))).2 ?_
        show Sp p e below Tk22 (mkF m 77 #[.val (.int p1), .val (.int p2), .val (.int (2 : Int32)), .val (.int (2 : Int32)), .val (.ref w_VARCHAR), .val (.ref w_VARCHAR), .val (.int (1 : Int32))] []) _
        refine XS.iconst Xk22.here hx rfl (hb hby at_77) ?_
        show Sp p e below Tk22 (mkF m 78 #[.val (.int p1), .val (.int p2), .val (.int (2 : Int32)), .val (.int (2 : Int32)), .val (.ref w_VARCHAR), .val (.ref w_VARCHAR), .val (.int (1 : Int32))] [(.int (1 : Int32))]) _
        refine XS.goto Xk22.here hx rfl (pc0 := 78) (pc' := 82) rfl (hb hby at_78) (by decide) (by decide) ?_
        show Sp p e below Tk22 (mkF m 82 #[.val (.int p1), .val (.int p2), .val (.int (2 : Int32)), .val (.int (2 : Int32)), .val (.ref w_VARCHAR), .val (.ref w_VARCHAR), .val (.int (1 : Int32))] [(.int (1 : Int32))]) _
        exact retN Xk22 hx (t := .boolean) hret (by simp) (hb hby at_82) hlv
      · show Q_law Z p1 p2 w_INTEGER w_DECIMAL w_VARCHAR w_DATE w_TIMESTAMP w_BOOLEAN w_NULL h0 n0 _ Tk22.heap _
        rw [ek22]
        exact ⟨rfl, Nk22⟩
    · have hrj : rj = w_DATE := by rw [hpj]; simp [hj]
      rw [hi, hj, hri, hrj] at r5
      obtain ⟨cqk23, kqk23, qk23a, qk23b, qk23c⟩ := isOf hZ ek4 E_VARCHAR
      obtain ⟨_, _, ⟨Tk23, Lk23, kk23, nk23⟩, -, Xk23, ⟨Lck23, hQk23, lk23, yk23, zk23⟩, stk23⟩ := Xk4.virtualBack hx (y := (⟨"com/example/kilit/kilit/ValueType", "includes", "(Lcom/example/kilit/kilit/ValueType;)Z"⟩ : MethodName)) (z := (⟨"com/example/kilit/kilit/ValueType", "includes", "(Lcom/example/kilit/kilit/ValueType;)Z"⟩ : MethodName)) hown (mvT hZ (hw _ (List.mem_of_getElem? (i := 10) rfl))) (mvT hZ (hw _ (List.mem_of_getElem? (i := 11) rfl))) (notFace_of_selects (args := #[]) (mvT hZ (hw _ (List.mem_of_getElem? (i := 13) rfl)))) (mvT hZ (hw _ (List.mem_of_getElem? (i := 45) rfl))) (mvT hZ (hw _ (List.mem_of_getElem? (i := 12) rfl))) (by decide) (backOf (W := 0) (rm_base l Z a0 hw [] w_VARCHAR w_DATE w_NULL (0 : Int32) h0 n0 Z0 S_NULL (by simp [n_DATE_VARCHAR, n_DATE_NULL, n_DATE_INTEGER])) hZ (hw _ (List.mem_of_getElem? (i := 14) rfl)) (hw _ (List.mem_of_getElem? (i := 6) rfl)) (by decide) (by decide)) qk23a qk23c (g := (mkF m 69 #[.val (.int p1), .val (.int p2), .val (.int (2 : Int32)), .val (.int (3 : Int32)), .val (.ref w_VARCHAR), .val (.ref w_DATE), .val (.int (0 : Int32))] [(.ref w_DATE), (.ref w_VARCHAR)])) rfl (by rw [hml]; rfl) (Steps.refl _) (argsL := [(.ref w_DATE)]) (rest := []) (lenOf pd__Lcom_example_kilit_kilit_ValueType__Z rfl) rfl (by show 2 * 0 + _ ≤ _; exact Nat.le_of_eq rfl) (hb hby at_69) (fun _ _ => ⟨rfl, ek4, (by decide : 0 + 0 ≤ _), (by decide : 0 + 0 ≤ _)⟩)
      dsimp only [Pt.U, Pt.locs, Pt.cells, Pt.slots] at Xk23 lk23 yk23 zk23 stk23 hQk23
      subst lk23 yk23 zk23
      obtain ⟨rfl, Nk23q, ek23⟩ := hQk23
      have Nk23 := Fr.app Nk4 Nk23q
      obtain ⟨fs, hlv, hrun, hended, hW, hsame⟩ := Xk23.leave (v := some (.int (1 : Int32))) (fun h => by rw [hret] at h; cases h)
      refine ⟨_, _, r5 _ ?_, hrun, hended, _, _, rfl, ?_, ⟨_, rfl⟩, hW, hsame.mono (by decide) (by decide)⟩
      · refine XS.iloadN Xk4.here hx rfl (hb hby at_28) rfl ?_
        show Sp p e below Tk4 (mkF m 29 #[.val (.int p1), .val (.int p2), .val (.int (2 : Int32)), .val (.int (3 : Int32)), .val (.ref w_VARCHAR), .val (.ref w_DATE), .unset] [(.int (2 : Int32))]) _
        refine XS.iloadN Xk4.here hx rfl (hb hby at_29) rfl ?_
        show Sp p e below Tk4 (mkF m 30 #[.val (.int p1), .val (.int p2), .val (.int (2 : Int32)), .val (.int (3 : Int32)), .val (.ref w_VARCHAR), .val (.ref w_DATE), .unset] [(.int (3 : Int32)), (.int (2 : Int32))]) _
        refine XS.icmpNo Xk4.here hx rfl (hb hby at_30) rfl (feq (by decide : ¬ ((2 : Int32) = (3 : Int32)))).1 ?_
        show Sp p e below Tk4 (mkF m 33 #[.val (.int p1), .val (.int p2), .val (.int (2 : Int32)), .val (.int (3 : Int32)), .val (.ref w_VARCHAR), .val (.ref w_DATE), .unset] []) _
        refine XS.iloadN Xk4.here hx rfl (hb hby at_33) rfl ?_
        show Sp p e below Tk4 (mkF m 34 #[.val (.int p1), .val (.int p2), .val (.int (2 : Int32)), .val (.int (3 : Int32)), .val (.ref w_VARCHAR), .val (.ref w_DATE), .unset] [(.int (3 : Int32))]) _
        refine XS.bipush Xk4.here hx rfl (hb hby at_34) ?_
        show Sp p e below Tk4 (mkF m 36 #[.val (.int p1), .val (.int p2), .val (.int (2 : Int32)), .val (.int (3 : Int32)), .val (.ref w_VARCHAR), .val (.ref w_DATE), .unset] [(.int (6 : Int32)), (.int (3 : Int32))]) _
        refine XS.icmpNo Xk4.here hx rfl (hb hby at_36) rfl (feq (by decide : ¬ ((3 : Int32) = (6 : Int32)))).1 ?_
        show Sp p e below Tk4 (mkF m 39 #[.val (.int p1), .val (.int p2), .val (.int (2 : Int32)), .val (.int (3 : Int32)), .val (.ref w_VARCHAR), .val (.ref w_DATE), .unset] []) _
        refine XS.iloadN Xk4.here hx rfl (hb hby at_39) rfl ?_
        show Sp p e below Tk4 (mkF m 40 #[.val (.int p1), .val (.int p2), .val (.int (2 : Int32)), .val (.int (3 : Int32)), .val (.ref w_VARCHAR), .val (.ref w_DATE), .unset] [(.int (2 : Int32))]) _
        refine XS.iconst Xk4.here hx rfl (hb hby at_40) ?_
        show Sp p e below Tk4 (mkF m 41 #[.val (.int p1), .val (.int p2), .val (.int (2 : Int32)), .val (.int (3 : Int32)), .val (.ref w_VARCHAR), .val (.ref w_DATE), .unset] [(.int (1 : Int32)), (.int (2 : Int32))]) _
        refine XS.icmpYes Xk4.here hx rfl (pc0 := 41) (pc' := 48) rfl (hb hby at_41) rfl (feq (by decide : ¬ ((2 : Int32) = (1 : Int32)))).2 (by decide) (by decide) ?_
        show Sp p e below Tk4 (mkF m 48 #[.val (.int p1), .val (.int p2), .val (.int (2 : Int32)), .val (.int (3 : Int32)), .val (.ref w_VARCHAR), .val (.ref w_DATE), .unset] []) _
        refine XS.iloadN Xk4.here hx rfl (hb hby at_48) rfl ?_
        show Sp p e below Tk4 (mkF m 49 #[.val (.int p1), .val (.int p2), .val (.int (2 : Int32)), .val (.int (3 : Int32)), .val (.ref w_VARCHAR), .val (.ref w_DATE), .unset] [(.int (2 : Int32))]) _
        refine XS.iconst Xk4.here hx rfl (hb hby at_49) ?_
        show Sp p e below Tk4 (mkF m 50 #[.val (.int p1), .val (.int p2), .val (.int (2 : Int32)), .val (.int (3 : Int32)), .val (.ref w_VARCHAR), .val (.ref w_DATE), .unset] [(.int (4 : Int32)), (.int (2 : Int32))]) _
        refine XS.icmpYes Xk4.here hx rfl (pc0 := 50) (pc' := 62) rfl (hb hby at_50) rfl (feq (by decide : ¬ ((2 : Int32) = (4 : Int32)))).2 (by decide) (by decide) ?_
        show Sp p e below Tk4 (mkF m 62 #[.val (.int p1), .val (.int p2), .val (.int (2 : Int32)), .val (.int (3 : Int32)), .val (.ref w_VARCHAR), .val (.ref w_DATE), .unset] []) _
        refine XS.iconst Xk4.here hx rfl (hb hby at_62) ?_
        show Sp p e below Tk4 (mkF m 63 #[.val (.int p1), .val (.int p2), .val (.int (2 : Int32)), .val (.int (3 : Int32)), .val (.ref w_VARCHAR), .val (.ref w_DATE), .unset] [(.int (0 : Int32))]) _
        refine XS.istore Xk4.here hx rfl (hb hby at_63) rfl (l' := #[.val (.int p1), .val (.int p2), .val (.int (2 : Int32)), .val (.int (3 : Int32)), .val (.ref w_VARCHAR), .val (.ref w_DATE), .val (.int (0 : Int32))]) rfl ?_
        show Sp p e below Tk4 (mkF m 65 #[.val (.int p1), .val (.int p2), .val (.int (2 : Int32)), .val (.int (3 : Int32)), .val (.ref w_VARCHAR), .val (.ref w_DATE), .val (.int (0 : Int32))] []) _
        refine XS.aload Xk4.here hx rfl (hb hby at_65) rfl rfl ?_
        show Sp p e below Tk4 (mkF m 67 #[.val (.int p1), .val (.int p2), .val (.int (2 : Int32)), .val (.int (3 : Int32)), .val (.ref w_VARCHAR), .val (.ref w_DATE), .val (.int (0 : Int32))] [(.ref w_VARCHAR)]) _
        refine XS.aload Xk4.here hx rfl (hb hby at_67) rfl rfl ?_
        show Sp p e below Tk4 (mkF m 69 #[.val (.int p1), .val (.int p2), .val (.int (2 : Int32)), .val (.int (3 : Int32)), .val (.ref w_VARCHAR), .val (.ref w_DATE), .val (.int (0 : Int32))] [(.ref w_DATE), (.ref w_VARCHAR)]) _
        refine stk23.trans ?_
        show Sp p e below Tk23 (mkF m 72 #[.val (.int p1), .val (.int p2), .val (.int (2 : Int32)), .val (.int (3 : Int32)), .val (.ref w_VARCHAR), .val (.ref w_DATE), .val (.int (0 : Int32))] [(.int (0 : Int32))]) _
        refine XS.iload Xk23.here hx rfl (hb hby at_72) rfl ?_
        show Sp p e below Tk23 (mkF m 74 #[.val (.int p1), .val (.int p2), .val (.int (2 : Int32)), .val (.int (3 : Int32)), .val (.ref w_VARCHAR), .val (.ref w_DATE), .val (.int (0 : Int32))] [(.int (0 : Int32)), (.int (0 : Int32))]) _
        refine XS.icmpNo Xk23.here hx rfl (hb hby at_74) rfl (teq (by decide : (0 : Int32) = (0 : Int32))).2 ?_
        show Sp p e below Tk23 (mkF m 77 #[.val (.int p1), .val (.int p2), .val (.int (2 : Int32)), .val (.int (3 : Int32)), .val (.ref w_VARCHAR), .val (.ref w_DATE), .val (.int (0 : Int32))] []) _
        refine XS.iconst Xk23.here hx rfl (hb hby at_77) ?_
        show Sp p e below Tk23 (mkF m 78 #[.val (.int p1), .val (.int p2), .val (.int (2 : Int32)), .val (.int (3 : Int32)), .val (.ref w_VARCHAR), .val (.ref w_DATE), .val (.int (0 : Int32))] [(.int (1 : Int32))]) _
        refine XS.goto Xk23.here hx rfl (pc0 := 78) (pc' := 82) rfl (hb hby at_78) (by decide) (by decide) ?_
        show Sp p e below Tk23 (mkF m 82 #[.val (.int p1), .val (.int p2), .val (.int (2 : Int32)), .val (.int (3 : Int32)), .val (.ref w_VARCHAR), .val (.ref w_DATE), .val (.int (0 : Int32))] [(.int (1 : Int32))]) _
        exact retN Xk23 hx (t := .boolean) hret (by simp) (hb hby at_82) hlv
      · show Q_law Z p1 p2 w_INTEGER w_DECIMAL w_VARCHAR w_DATE w_TIMESTAMP w_BOOLEAN w_NULL h0 n0 _ Tk23.heap _
        rw [ek23]
        exact ⟨rfl, Nk23⟩
    · have hrj : rj = w_TIMESTAMP := by rw [hpj]; simp [hj]
      rw [hi, hj, hri, hrj] at r5
      obtain ⟨cqk24, kqk24, qk24a, qk24b, qk24c⟩ := isOf hZ ek4 E_VARCHAR
      obtain ⟨_, _, ⟨Tk24, Lk24, kk24, nk24⟩, -, Xk24, ⟨Lck24, hQk24, lk24, yk24, zk24⟩, stk24⟩ := Xk4.virtualBack hx (y := (⟨"com/example/kilit/kilit/ValueType", "includes", "(Lcom/example/kilit/kilit/ValueType;)Z"⟩ : MethodName)) (z := (⟨"com/example/kilit/kilit/ValueType", "includes", "(Lcom/example/kilit/kilit/ValueType;)Z"⟩ : MethodName)) hown (mvT hZ (hw _ (List.mem_of_getElem? (i := 10) rfl))) (mvT hZ (hw _ (List.mem_of_getElem? (i := 11) rfl))) (notFace_of_selects (args := #[]) (mvT hZ (hw _ (List.mem_of_getElem? (i := 13) rfl)))) (mvT hZ (hw _ (List.mem_of_getElem? (i := 45) rfl))) (mvT hZ (hw _ (List.mem_of_getElem? (i := 12) rfl))) (by decide) (backOf (W := 0) (rm_base l Z a0 hw [] w_VARCHAR w_TIMESTAMP w_NULL (0 : Int32) h0 n0 Z0 S_NULL (by simp [n_TIMESTAMP_VARCHAR, n_TIMESTAMP_NULL, n_TIMESTAMP_INTEGER, n_TIMESTAMP_DATE])) hZ (hw _ (List.mem_of_getElem? (i := 14) rfl)) (hw _ (List.mem_of_getElem? (i := 6) rfl)) (by decide) (by decide)) qk24a qk24c (g := (mkF m 69 #[.val (.int p1), .val (.int p2), .val (.int (2 : Int32)), .val (.int (4 : Int32)), .val (.ref w_VARCHAR), .val (.ref w_TIMESTAMP), .val (.int (0 : Int32))] [(.ref w_TIMESTAMP), (.ref w_VARCHAR)])) rfl (by rw [hml]; rfl) (Steps.refl _) (argsL := [(.ref w_TIMESTAMP)]) (rest := []) (lenOf pd__Lcom_example_kilit_kilit_ValueType__Z rfl) rfl (by show 2 * 0 + _ ≤ _; exact Nat.le_of_eq rfl) (hb hby at_69) (fun _ _ => ⟨rfl, ek4, (by decide : 0 + 0 ≤ _), (by decide : 0 + 0 ≤ _)⟩)
      dsimp only [Pt.U, Pt.locs, Pt.cells, Pt.slots] at Xk24 lk24 yk24 zk24 stk24 hQk24
      subst lk24 yk24 zk24
      obtain ⟨rfl, Nk24q, ek24⟩ := hQk24
      have Nk24 := Fr.app Nk4 Nk24q
      obtain ⟨fs, hlv, hrun, hended, hW, hsame⟩ := Xk24.leave (v := some (.int (1 : Int32))) (fun h => by rw [hret] at h; cases h)
      refine ⟨_, _, r5 _ ?_, hrun, hended, _, _, rfl, ?_, ⟨_, rfl⟩, hW, hsame.mono (by decide) (by decide)⟩
      · refine XS.iloadN Xk4.here hx rfl (hb hby at_28) rfl ?_
        show Sp p e below Tk4 (mkF m 29 #[.val (.int p1), .val (.int p2), .val (.int (2 : Int32)), .val (.int (4 : Int32)), .val (.ref w_VARCHAR), .val (.ref w_TIMESTAMP), .unset] [(.int (2 : Int32))]) _
        refine XS.iloadN Xk4.here hx rfl (hb hby at_29) rfl ?_
        show Sp p e below Tk4 (mkF m 30 #[.val (.int p1), .val (.int p2), .val (.int (2 : Int32)), .val (.int (4 : Int32)), .val (.ref w_VARCHAR), .val (.ref w_TIMESTAMP), .unset] [(.int (4 : Int32)), (.int (2 : Int32))]) _
        refine XS.icmpNo Xk4.here hx rfl (hb hby at_30) rfl (feq (by decide : ¬ ((2 : Int32) = (4 : Int32)))).1 ?_
        show Sp p e below Tk4 (mkF m 33 #[.val (.int p1), .val (.int p2), .val (.int (2 : Int32)), .val (.int (4 : Int32)), .val (.ref w_VARCHAR), .val (.ref w_TIMESTAMP), .unset] []) _
        refine XS.iloadN Xk4.here hx rfl (hb hby at_33) rfl ?_
        show Sp p e below Tk4 (mkF m 34 #[.val (.int p1), .val (.int p2), .val (.int (2 : Int32)), .val (.int (4 : Int32)), .val (.ref w_VARCHAR), .val (.ref w_TIMESTAMP), .unset] [(.int (4 : Int32))]) _
        refine XS.bipush Xk4.here hx rfl (hb hby at_34) ?_
        show Sp p e below Tk4 (mkF m 36 #[.val (.int p1), .val (.int p2), .val (.int (2 : Int32)), .val (.int (4 : Int32)), .val (.ref w_VARCHAR), .val (.ref w_TIMESTAMP), .unset] [(.int (6 : Int32)), (.int (4 : Int32))]) _
        refine XS.icmpNo Xk4.here hx rfl (hb hby at_36) rfl (feq (by decide : ¬ ((4 : Int32) = (6 : Int32)))).1 ?_
        show Sp p e below Tk4 (mkF m 39 #[.val (.int p1), .val (.int p2), .val (.int (2 : Int32)), .val (.int (4 : Int32)), .val (.ref w_VARCHAR), .val (.ref w_TIMESTAMP), .unset] []) _
        refine XS.iloadN Xk4.here hx rfl (hb hby at_39) rfl ?_
        show Sp p e below Tk4 (mkF m 40 #[.val (.int p1), .val (.int p2), .val (.int (2 : Int32)), .val (.int (4 : Int32)), .val (.ref w_VARCHAR), .val (.ref w_TIMESTAMP), .unset] [(.int (2 : Int32))]) _
        refine XS.iconst Xk4.here hx rfl (hb hby at_40) ?_
        show Sp p e below Tk4 (mkF m 41 #[.val (.int p1), .val (.int p2), .val (.int (2 : Int32)), .val (.int (4 : Int32)), .val (.ref w_VARCHAR), .val (.ref w_TIMESTAMP), .unset] [(.int (1 : Int32)), (.int (2 : Int32))]) _
        refine XS.icmpYes Xk4.here hx rfl (pc0 := 41) (pc' := 48) rfl (hb hby at_41) rfl (feq (by decide : ¬ ((2 : Int32) = (1 : Int32)))).2 (by decide) (by decide) ?_
        show Sp p e below Tk4 (mkF m 48 #[.val (.int p1), .val (.int p2), .val (.int (2 : Int32)), .val (.int (4 : Int32)), .val (.ref w_VARCHAR), .val (.ref w_TIMESTAMP), .unset] []) _
        refine XS.iloadN Xk4.here hx rfl (hb hby at_48) rfl ?_
        show Sp p e below Tk4 (mkF m 49 #[.val (.int p1), .val (.int p2), .val (.int (2 : Int32)), .val (.int (4 : Int32)), .val (.ref w_VARCHAR), .val (.ref w_TIMESTAMP), .unset] [(.int (2 : Int32))]) _
        refine XS.iconst Xk4.here hx rfl (hb hby at_49) ?_
        show Sp p e below Tk4 (mkF m 50 #[.val (.int p1), .val (.int p2), .val (.int (2 : Int32)), .val (.int (4 : Int32)), .val (.ref w_VARCHAR), .val (.ref w_TIMESTAMP), .unset] [(.int (4 : Int32)), (.int (2 : Int32))]) _
        refine XS.icmpYes Xk4.here hx rfl (pc0 := 50) (pc' := 62) rfl (hb hby at_50) rfl (feq (by decide : ¬ ((2 : Int32) = (4 : Int32)))).2 (by decide) (by decide) ?_
        show Sp p e below Tk4 (mkF m 62 #[.val (.int p1), .val (.int p2), .val (.int (2 : Int32)), .val (.int (4 : Int32)), .val (.ref w_VARCHAR), .val (.ref w_TIMESTAMP), .unset] []) _
        refine XS.iconst Xk4.here hx rfl (hb hby at_62) ?_
        show Sp p e below Tk4 (mkF m 63 #[.val (.int p1), .val (.int p2), .val (.int (2 : Int32)), .val (.int (4 : Int32)), .val (.ref w_VARCHAR), .val (.ref w_TIMESTAMP), .unset] [(.int (0 : Int32))]) _
        refine XS.istore Xk4.here hx rfl (hb hby at_63) rfl (l' := #[.val (.int p1), .val (.int p2), .val (.int (2 : Int32)), .val (.int (4 : Int32)), .val (.ref w_VARCHAR), .val (.ref w_TIMESTAMP), .val (.int (0 : Int32))]) rfl ?_
        show Sp p e below Tk4 (mkF m 65 #[.val (.int p1), .val (.int p2), .val (.int (2 : Int32)), .val (.int (4 : Int32)), .val (.ref w_VARCHAR), .val (.ref w_TIMESTAMP), .val (.int (0 : Int32))] []) _
        refine XS.aload Xk4.here hx rfl (hb hby at_65) rfl rfl ?_
        show Sp p e below Tk4 (mkF m 67 #[.val (.int p1), .val (.int p2), .val (.int (2 : Int32)), .val (.int (4 : Int32)), .val (.ref w_VARCHAR), .val (.ref w_TIMESTAMP), .val (.int (0 : Int32))] [(.ref w_VARCHAR)]) _
        refine XS.aload Xk4.here hx rfl (hb hby at_67) rfl rfl ?_
        show Sp p e below Tk4 (mkF m 69 #[.val (.int p1), .val (.int p2), .val (.int (2 : Int32)), .val (.int (4 : Int32)), .val (.ref w_VARCHAR), .val (.ref w_TIMESTAMP), .val (.int (0 : Int32))] [(.ref w_TIMESTAMP), (.ref w_VARCHAR)]) _
        refine stk24.trans ?_
        show Sp p e below Tk24 (mkF m 72 #[.val (.int p1), .val (.int p2), .val (.int (2 : Int32)), .val (.int (4 : Int32)), .val (.ref w_VARCHAR), .val (.ref w_TIMESTAMP), .val (.int (0 : Int32))] [(.int (0 : Int32))]) _
        refine XS.iload Xk24.here hx rfl (hb hby at_72) rfl ?_
        show Sp p e below Tk24 (mkF m 74 #[.val (.int p1), .val (.int p2), .val (.int (2 : Int32)), .val (.int (4 : Int32)), .val (.ref w_VARCHAR), .val (.ref w_TIMESTAMP), .val (.int (0 : Int32))] [(.int (0 : Int32)), (.int (0 : Int32))]) _
        refine XS.icmpNo Xk24.here hx rfl (hb hby at_74) rfl (teq (by decide : (0 : Int32) = (0 : Int32))).2 ?_
        show Sp p e below Tk24 (mkF m 77 #[.val (.int p1), .val (.int p2), .val (.int (2 : Int32)), .val (.int (4 : Int32)), .val (.ref w_VARCHAR), .val (.ref w_TIMESTAMP), .val (.int (0 : Int32))] []) _
        refine XS.iconst Xk24.here hx rfl (hb hby at_77) ?_
        show Sp p e below Tk24 (mkF m 78 #[.val (.int p1), .val (.int p2), .val (.int (2 : Int32)), .val (.int (4 : Int32)), .val (.ref w_VARCHAR), .val (.ref w_TIMESTAMP), .val (.int (0 : Int32))] [(.int (1 : Int32))]) _
        refine XS.goto Xk24.here hx rfl (pc0 := 78) (pc' := 82) rfl (hb hby at_78) (by decide) (by decide) ?_
        show Sp p e below Tk24 (mkF m 82 #[.val (.int p1), .val (.int p2), .val (.int (2 : Int32)), .val (.int (4 : Int32)), .val (.ref w_VARCHAR), .val (.ref w_TIMESTAMP), .val (.int (0 : Int32))] [(.int (1 : Int32))]) _
        exact retN Xk24 hx (t := .boolean) hret (by simp) (hb hby at_82) hlv
      · show Q_law Z p1 p2 w_INTEGER w_DECIMAL w_VARCHAR w_DATE w_TIMESTAMP w_BOOLEAN w_NULL h0 n0 _ Tk24.heap _
        rw [ek24]
        exact ⟨rfl, Nk24⟩
    · have hrj : rj = w_BOOLEAN := by rw [hpj]; simp [hj]
      rw [hi, hj, hri, hrj] at r5
      obtain ⟨cqk25, kqk25, qk25a, qk25b, qk25c⟩ := isOf hZ ek4 E_VARCHAR
      obtain ⟨_, _, ⟨Tk25, Lk25, kk25, nk25⟩, -, Xk25, ⟨Lck25, hQk25, lk25, yk25, zk25⟩, stk25⟩ := Xk4.virtualBack hx (y := (⟨"com/example/kilit/kilit/ValueType", "includes", "(Lcom/example/kilit/kilit/ValueType;)Z"⟩ : MethodName)) (z := (⟨"com/example/kilit/kilit/ValueType", "includes", "(Lcom/example/kilit/kilit/ValueType;)Z"⟩ : MethodName)) hown (mvT hZ (hw _ (List.mem_of_getElem? (i := 10) rfl))) (mvT hZ (hw _ (List.mem_of_getElem? (i := 11) rfl))) (notFace_of_selects (args := #[]) (mvT hZ (hw _ (List.mem_of_getElem? (i := 13) rfl)))) (mvT hZ (hw _ (List.mem_of_getElem? (i := 45) rfl))) (mvT hZ (hw _ (List.mem_of_getElem? (i := 12) rfl))) (by decide) (backOf (W := 0) (rm_base l Z a0 hw [] w_VARCHAR w_BOOLEAN w_NULL (0 : Int32) h0 n0 Z0 S_NULL (by simp [n_BOOLEAN_VARCHAR, n_BOOLEAN_NULL, n_BOOLEAN_INTEGER, n_BOOLEAN_DATE])) hZ (hw _ (List.mem_of_getElem? (i := 14) rfl)) (hw _ (List.mem_of_getElem? (i := 6) rfl)) (by decide) (by decide)) qk25a qk25c (g := (mkF m 69 #[.val (.int p1), .val (.int p2), .val (.int (2 : Int32)), .val (.int (5 : Int32)), .val (.ref w_VARCHAR), .val (.ref w_BOOLEAN), .val (.int (0 : Int32))] [(.ref w_BOOLEAN), (.ref w_VARCHAR)])) rfl (by rw [hml]; rfl) (Steps.refl _) (argsL := [(.ref w_BOOLEAN)]) (rest := []) (lenOf pd__Lcom_example_kilit_kilit_ValueType__Z rfl) rfl (by show 2 * 0 + _ ≤ _; exact Nat.le_of_eq rfl) (hb hby at_69) (fun _ _ => ⟨rfl, ek4, (by decide : 0 + 0 ≤ _), (by decide : 0 + 0 ≤ _)⟩)
      dsimp only [Pt.U, Pt.locs, Pt.cells, Pt.slots] at Xk25 lk25 yk25 zk25 stk25 hQk25
      subst lk25 yk25 zk25
      obtain ⟨rfl, Nk25q, ek25⟩ := hQk25
      have Nk25 := Fr.app Nk4 Nk25q
      obtain ⟨fs, hlv, hrun, hended, hW, hsame⟩ := Xk25.leave (v := some (.int (1 : Int32))) (fun h => by rw [hret] at h; cases h)
      refine ⟨_, _, r5 _ ?_, hrun, hended, _, _, rfl, ?_, ⟨_, rfl⟩, hW, hsame.mono (by decide) (by decide)⟩
      · refine XS.iloadN Xk4.here hx rfl (hb hby at_28) rfl ?_
        show Sp p e below Tk4 (mkF m 29 #[.val (.int p1), .val (.int p2), .val (.int (2 : Int32)), .val (.int (5 : Int32)), .val (.ref w_VARCHAR), .val (.ref w_BOOLEAN), .unset] [(.int (2 : Int32))]) _
        refine XS.iloadN Xk4.here hx rfl (hb hby at_29) rfl ?_
        show Sp p e below Tk4 (mkF m 30 #[.val (.int p1), .val (.int p2), .val (.int (2 : Int32)), .val (.int (5 : Int32)), .val (.ref w_VARCHAR), .val (.ref w_BOOLEAN), .unset] [(.int (5 : Int32)), (.int (2 : Int32))]) _
        refine XS.icmpNo Xk4.here hx rfl (hb hby at_30) rfl (feq (by decide : ¬ ((2 : Int32) = (5 : Int32)))).1 ?_
        show Sp p e below Tk4 (mkF m 33 #[.val (.int p1), .val (.int p2), .val (.int (2 : Int32)), .val (.int (5 : Int32)), .val (.ref w_VARCHAR), .val (.ref w_BOOLEAN), .unset] []) _
        refine XS.iloadN Xk4.here hx rfl (hb hby at_33) rfl ?_
        show Sp p e below Tk4 (mkF m 34 #[.val (.int p1), .val (.int p2), .val (.int (2 : Int32)), .val (.int (5 : Int32)), .val (.ref w_VARCHAR), .val (.ref w_BOOLEAN), .unset] [(.int (5 : Int32))]) _
        refine XS.bipush Xk4.here hx rfl (hb hby at_34) ?_
        show Sp p e below Tk4 (mkF m 36 #[.val (.int p1), .val (.int p2), .val (.int (2 : Int32)), .val (.int (5 : Int32)), .val (.ref w_VARCHAR), .val (.ref w_BOOLEAN), .unset] [(.int (6 : Int32)), (.int (5 : Int32))]) _
        refine XS.icmpNo Xk4.here hx rfl (hb hby at_36) rfl (feq (by decide : ¬ ((5 : Int32) = (6 : Int32)))).1 ?_
        show Sp p e below Tk4 (mkF m 39 #[.val (.int p1), .val (.int p2), .val (.int (2 : Int32)), .val (.int (5 : Int32)), .val (.ref w_VARCHAR), .val (.ref w_BOOLEAN), .unset] []) _
        refine XS.iloadN Xk4.here hx rfl (hb hby at_39) rfl ?_
        show Sp p e below Tk4 (mkF m 40 #[.val (.int p1), .val (.int p2), .val (.int (2 : Int32)), .val (.int (5 : Int32)), .val (.ref w_VARCHAR), .val (.ref w_BOOLEAN), .unset] [(.int (2 : Int32))]) _
        refine XS.iconst Xk4.here hx rfl (hb hby at_40) ?_
        show Sp p e below Tk4 (mkF m 41 #[.val (.int p1), .val (.int p2), .val (.int (2 : Int32)), .val (.int (5 : Int32)), .val (.ref w_VARCHAR), .val (.ref w_BOOLEAN), .unset] [(.int (1 : Int32)), (.int (2 : Int32))]) _
        refine XS.icmpYes Xk4.here hx rfl (pc0 := 41) (pc' := 48) rfl (hb hby at_41) rfl (feq (by decide : ¬ ((2 : Int32) = (1 : Int32)))).2 (by decide) (by decide) ?_
        show Sp p e below Tk4 (mkF m 48 #[.val (.int p1), .val (.int p2), .val (.int (2 : Int32)), .val (.int (5 : Int32)), .val (.ref w_VARCHAR), .val (.ref w_BOOLEAN), .unset] []) _
        refine XS.iloadN Xk4.here hx rfl (hb hby at_48) rfl ?_
        show Sp p e below Tk4 (mkF m 49 #[.val (.int p1), .val (.int p2), .val (.int (2 : Int32)), .val (.int (5 : Int32)), .val (.ref w_VARCHAR), .val (.ref w_BOOLEAN), .unset] [(.int (2 : Int32))]) _
        refine XS.iconst Xk4.here hx rfl (hb hby at_49) ?_
        show Sp p e below Tk4 (mkF m 50 #[.val (.int p1), .val (.int p2), .val (.int (2 : Int32)), .val (.int (5 : Int32)), .val (.ref w_VARCHAR), .val (.ref w_BOOLEAN), .unset] [(.int (4 : Int32)), (.int (2 : Int32))]) _
        refine XS.icmpYes Xk4.here hx rfl (pc0 := 50) (pc' := 62) rfl (hb hby at_50) rfl (feq (by decide : ¬ ((2 : Int32) = (4 : Int32)))).2 (by decide) (by decide) ?_
        show Sp p e below Tk4 (mkF m 62 #[.val (.int p1), .val (.int p2), .val (.int (2 : Int32)), .val (.int (5 : Int32)), .val (.ref w_VARCHAR), .val (.ref w_BOOLEAN), .unset] []) _
        refine XS.iconst Xk4.here hx rfl (hb hby at_62) ?_
        show Sp p e below Tk4 (mkF m 63 #[.val (.int p1), .val (.int p2), .val (.int (2 : Int32)), .val (.int (5 : Int32)), .val (.ref w_VARCHAR), .val (.ref w_BOOLEAN), .unset] [(.int (0 : Int32))]) _
        refine XS.istore Xk4.here hx rfl (hb hby at_63) rfl (l' := #[.val (.int p1), .val (.int p2), .val (.int (2 : Int32)), .val (.int (5 : Int32)), .val (.ref w_VARCHAR), .val (.ref w_BOOLEAN), .val (.int (0 : Int32))]) rfl ?_
        show Sp p e below Tk4 (mkF m 65 #[.val (.int p1), .val (.int p2), .val (.int (2 : Int32)), .val (.int (5 : Int32)), .val (.ref w_VARCHAR), .val (.ref w_BOOLEAN), .val (.int (0 : Int32))] []) _
        refine XS.aload Xk4.here hx rfl (hb hby at_65) rfl rfl ?_
        show Sp p e below Tk4 (mkF m 67 #[.val (.int p1), .val (.int p2), .val (.int (2 : Int32)), .val (.int (5 : Int32)), .val (.ref w_VARCHAR), .val (.ref w_BOOLEAN), .val (.int (0 : Int32))] [(.ref w_VARCHAR)]) _
        refine XS.aload Xk4.here hx rfl (hb hby at_67) rfl rfl ?_
        show Sp p e below Tk4 (mkF m 69 #[.val (.int p1), .val (.int p2), .val (.int (2 : Int32)), .val (.int (5 : Int32)), .val (.ref w_VARCHAR), .val (.ref w_BOOLEAN), .val (.int (0 : Int32))] [(.ref w_BOOLEAN), (.ref w_VARCHAR)]) _
        refine stk25.trans ?_
        show Sp p e below Tk25 (mkF m 72 #[.val (.int p1), .val (.int p2), .val (.int (2 : Int32)), .val (.int (5 : Int32)), .val (.ref w_VARCHAR), .val (.ref w_BOOLEAN), .val (.int (0 : Int32))] [(.int (0 : Int32))]) _
        refine XS.iload Xk25.here hx rfl (hb hby at_72) rfl ?_
        show Sp p e below Tk25 (mkF m 74 #[.val (.int p1), .val (.int p2), .val (.int (2 : Int32)), .val (.int (5 : Int32)), .val (.ref w_VARCHAR), .val (.ref w_BOOLEAN), .val (.int (0 : Int32))] [(.int (0 : Int32)), (.int (0 : Int32))]) _
        refine XS.icmpNo Xk25.here hx rfl (hb hby at_74) rfl (teq (by decide : (0 : Int32) = (0 : Int32))).2 ?_
        show Sp p e below Tk25 (mkF m 77 #[.val (.int p1), .val (.int p2), .val (.int (2 : Int32)), .val (.int (5 : Int32)), .val (.ref w_VARCHAR), .val (.ref w_BOOLEAN), .val (.int (0 : Int32))] []) _
        refine XS.iconst Xk25.here hx rfl (hb hby at_77) ?_
        show Sp p e below Tk25 (mkF m 78 #[.val (.int p1), .val (.int p2), .val (.int (2 : Int32)), .val (.int (5 : Int32)), .val (.ref w_VARCHAR), .val (.ref w_BOOLEAN), .val (.int (0 : Int32))] [(.int (1 : Int32))]) _
        refine XS.goto Xk25.here hx rfl (pc0 := 78) (pc' := 82) rfl (hb hby at_78) (by decide) (by decide) ?_
        show Sp p e below Tk25 (mkF m 82 #[.val (.int p1), .val (.int p2), .val (.int (2 : Int32)), .val (.int (5 : Int32)), .val (.ref w_VARCHAR), .val (.ref w_BOOLEAN), .val (.int (0 : Int32))] [(.int (1 : Int32))]) _
        exact retN Xk25 hx (t := .boolean) hret (by simp) (hb hby at_82) hlv
      · show Q_law Z p1 p2 w_INTEGER w_DECIMAL w_VARCHAR w_DATE w_TIMESTAMP w_BOOLEAN w_NULL h0 n0 _ Tk25.heap _
        rw [ek25]
        exact ⟨rfl, Nk25⟩
    · have hrj : rj = w_NULL := by rw [hpj]; simp [hj]
      rw [hi, hj, hri, hrj] at r5
      obtain ⟨cqk26, kqk26, qk26a, qk26b, qk26c⟩ := isOf hZ ek4 E_VARCHAR
      obtain ⟨_, _, ⟨Tk26, Lk26, kk26, nk26⟩, -, Xk26, ⟨Lck26, hQk26, lk26, yk26, zk26⟩, stk26⟩ := Xk4.virtualBack hx (y := (⟨"com/example/kilit/kilit/ValueType", "includes", "(Lcom/example/kilit/kilit/ValueType;)Z"⟩ : MethodName)) (z := (⟨"com/example/kilit/kilit/ValueType", "includes", "(Lcom/example/kilit/kilit/ValueType;)Z"⟩ : MethodName)) hown (mvT hZ (hw _ (List.mem_of_getElem? (i := 10) rfl))) (mvT hZ (hw _ (List.mem_of_getElem? (i := 11) rfl))) (notFace_of_selects (args := #[]) (mvT hZ (hw _ (List.mem_of_getElem? (i := 13) rfl)))) (mvT hZ (hw _ (List.mem_of_getElem? (i := 45) rfl))) (mvT hZ (hw _ (List.mem_of_getElem? (i := 12) rfl))) (by decide) (backOf (W := 0) (rm_base l Z a0 hw [] w_VARCHAR w_NULL w_NULL (1 : Int32) h0 n0 Z0 S_NULL (by simp [n_NULL_VARCHAR, n_NULL_INTEGER, n_NULL_DATE])) hZ (hw _ (List.mem_of_getElem? (i := 14) rfl)) (hw _ (List.mem_of_getElem? (i := 6) rfl)) (by decide) (by decide)) qk26a qk26c (g := (mkF m 69 #[.val (.int p1), .val (.int p2), .val (.int (2 : Int32)), .val (.int (6 : Int32)), .val (.ref w_VARCHAR), .val (.ref w_NULL), .val (.int (1 : Int32))] [(.ref w_NULL), (.ref w_VARCHAR)])) rfl (by rw [hml]; rfl) (Steps.refl _) (argsL := [(.ref w_NULL)]) (rest := []) (lenOf pd__Lcom_example_kilit_kilit_ValueType__Z rfl) rfl (by show 2 * 0 + _ ≤ _; exact Nat.le_of_eq rfl) (hb hby at_69) (fun _ _ => ⟨rfl, ek4, (by decide : 0 + 0 ≤ _), (by decide : 0 + 0 ≤ _)⟩)
      dsimp only [Pt.U, Pt.locs, Pt.cells, Pt.slots] at Xk26 lk26 yk26 zk26 stk26 hQk26
      subst lk26 yk26 zk26
      obtain ⟨rfl, Nk26q, ek26⟩ := hQk26
      have Nk26 := Fr.app Nk4 Nk26q
      obtain ⟨fs, hlv, hrun, hended, hW, hsame⟩ := Xk26.leave (v := some (.int (1 : Int32))) (fun h => by rw [hret] at h; cases h)
      refine ⟨_, _, r5 _ ?_, hrun, hended, _, _, rfl, ?_, ⟨_, rfl⟩, hW, hsame.mono (by decide) (by decide)⟩
      · refine XS.iloadN Xk4.here hx rfl (hb hby at_28) rfl ?_
        show Sp p e below Tk4 (mkF m 29 #[.val (.int p1), .val (.int p2), .val (.int (2 : Int32)), .val (.int (6 : Int32)), .val (.ref w_VARCHAR), .val (.ref w_NULL), .unset] [(.int (2 : Int32))]) _
        refine XS.iloadN Xk4.here hx rfl (hb hby at_29) rfl ?_
        show Sp p e below Tk4 (mkF m 30 #[.val (.int p1), .val (.int p2), .val (.int (2 : Int32)), .val (.int (6 : Int32)), .val (.ref w_VARCHAR), .val (.ref w_NULL), .unset] [(.int (6 : Int32)), (.int (2 : Int32))]) _
        refine XS.icmpNo Xk4.here hx rfl (hb hby at_30) rfl (feq (by decide : ¬ ((2 : Int32) = (6 : Int32)))).1 ?_
        show Sp p e below Tk4 (mkF m 33 #[.val (.int p1), .val (.int p2), .val (.int (2 : Int32)), .val (.int (6 : Int32)), .val (.ref w_VARCHAR), .val (.ref w_NULL), .unset] []) _
        refine XS.iloadN Xk4.here hx rfl (hb hby at_33) rfl ?_
        show Sp p e below Tk4 (mkF m 34 #[.val (.int p1), .val (.int p2), .val (.int (2 : Int32)), .val (.int (6 : Int32)), .val (.ref w_VARCHAR), .val (.ref w_NULL), .unset] [(.int (6 : Int32))]) _
        refine XS.bipush Xk4.here hx rfl (hb hby at_34) ?_
        show Sp p e below Tk4 (mkF m 36 #[.val (.int p1), .val (.int p2), .val (.int (2 : Int32)), .val (.int (6 : Int32)), .val (.ref w_VARCHAR), .val (.ref w_NULL), .unset] [(.int (6 : Int32)), (.int (6 : Int32))]) _
        refine XS.icmpYes Xk4.here hx rfl (pc0 := 36) (pc' := 58) rfl (hb hby at_36) rfl (teq (by decide : (6 : Int32) = (6 : Int32))).1 (by decide) (by decide) ?_
        show Sp p e below Tk4 (mkF m 58 #[.val (.int p1), .val (.int p2), .val (.int (2 : Int32)), .val (.int (6 : Int32)), .val (.ref w_VARCHAR), .val (.ref w_NULL), .unset] []) _
        refine XS.iconst Xk4.here hx rfl (hb hby at_58) ?_
        show Sp p e below Tk4 (mkF m 59 #[.val (.int p1), .val (.int p2), .val (.int (2 : Int32)), .val (.int (6 : Int32)), .val (.ref w_VARCHAR), .val (.ref w_NULL), .unset] [(.int (1 : Int32))]) _
        refine XS.goto Xk4.here hx rfl (pc0 := 59) (pc' := 63) rfl (hb hby at_59) (by decide) (by decide) ?_
        show Sp p e below Tk4 (mkF m 63 #[.val (.int p1), .val (.int p2), .val (.int (2 : Int32)), .val (.int (6 : Int32)), .val (.ref w_VARCHAR), .val (.ref w_NULL), .unset] [(.int (1 : Int32))]) _
        refine XS.istore Xk4.here hx rfl (hb hby at_63) rfl (l' := #[.val (.int p1), .val (.int p2), .val (.int (2 : Int32)), .val (.int (6 : Int32)), .val (.ref w_VARCHAR), .val (.ref w_NULL), .val (.int (1 : Int32))]) rfl ?_
        show Sp p e below Tk4 (mkF m 65 #[.val (.int p1), .val (.int p2), .val (.int (2 : Int32)), .val (.int (6 : Int32)), .val (.ref w_VARCHAR), .val (.ref w_NULL), .val (.int (1 : Int32))] []) _
        refine XS.aload Xk4.here hx rfl (hb hby at_65) rfl rfl ?_
        show Sp p e below Tk4 (mkF m 67 #[.val (.int p1), .val (.int p2), .val (.int (2 : Int32)), .val (.int (6 : Int32)), .val (.ref w_VARCHAR), .val (.ref w_NULL), .val (.int (1 : Int32))] [(.ref w_VARCHAR)]) _
        refine XS.aload Xk4.here hx rfl (hb hby at_67) rfl rfl ?_
        show Sp p e below Tk4 (mkF m 69 #[.val (.int p1), .val (.int p2), .val (.int (2 : Int32)), .val (.int (6 : Int32)), .val (.ref w_VARCHAR), .val (.ref w_NULL), .val (.int (1 : Int32))] [(.ref w_NULL), (.ref w_VARCHAR)]) _
        refine stk26.trans ?_
        show Sp p e below Tk26 (mkF m 72 #[.val (.int p1), .val (.int p2), .val (.int (2 : Int32)), .val (.int (6 : Int32)), .val (.ref w_VARCHAR), .val (.ref w_NULL), .val (.int (1 : Int32))] [(.int (1 : Int32))]) _
        refine XS.iload Xk26.here hx rfl (hb hby at_72) rfl ?_
        show Sp p e below Tk26 (mkF m 74 #[.val (.int p1), .val (.int p2), .val (.int (2 : Int32)), .val (.int (6 : Int32)), .val (.ref w_VARCHAR), .val (.ref w_NULL), .val (.int (1 : Int32))] [(.int (1 : Int32)), (.int (1 : Int32))]) _
        refine XS.icmpNo Xk26.here hx rfl (hb hby at_74) rfl (teq (by decide : (1 : Int32) = (1 : Int32))).2 ?_
        show Sp p e below Tk26 (mkF m 77 #[.val (.int p1), .val (.int p2), .val (.int (2 : Int32)), .val (.int (6 : Int32)), .val (.ref w_VARCHAR), .val (.ref w_NULL), .val (.int (1 : Int32))] []) _
        refine XS.iconst Xk26.here hx rfl (hb hby at_77) ?_
        show Sp p e below Tk26 (mkF m 78 #[.val (.int p1), .val (.int p2), .val (.int (2 : Int32)), .val (.int (6 : Int32)), .val (.ref w_VARCHAR), .val (.ref w_NULL), .val (.int (1 : Int32))] [(.int (1 : Int32))]) _
        refine XS.goto Xk26.here hx rfl (pc0 := 78) (pc' := 82) rfl (hb hby at_78) (by decide) (by decide) ?_
        show Sp p e below Tk26 (mkF m 82 #[.val (.int p1), .val (.int p2), .val (.int (2 : Int32)), .val (.int (6 : Int32)), .val (.ref w_VARCHAR), .val (.ref w_NULL), .val (.int (1 : Int32))] [(.int (1 : Int32))]) _
        exact retN Xk26 hx (t := .boolean) hret (by simp) (hb hby at_82) hlv
      · show Q_law Z p1 p2 w_INTEGER w_DECIMAL w_VARCHAR w_DATE w_TIMESTAMP w_BOOLEAN w_NULL h0 n0 _ Tk26.heap _
        rw [ek26]
        exact ⟨rfl, Nk26⟩
  · have hri : ri = w_DATE := by rw [hpi]; simp [hi]
    rcases cj with hj | hj | hj | hj | hj | hj | hj
    · have hrj : rj = w_INTEGER := by rw [hpj]; simp [hj]
      rw [hi, hj, hri, hrj] at r5
      obtain ⟨cqk27, kqk27, qk27a, qk27b, qk27c⟩ := isOf hZ ek4 E_DATE
      obtain ⟨_, _, ⟨Tk27, Lk27, kk27, nk27⟩, -, Xk27, ⟨Lck27, hQk27, lk27, yk27, zk27⟩, stk27⟩ := Xk4.virtualBack hx (y := (⟨"com/example/kilit/kilit/ValueType", "includes", "(Lcom/example/kilit/kilit/ValueType;)Z"⟩ : MethodName)) (z := (⟨"com/example/kilit/kilit/ValueType", "includes", "(Lcom/example/kilit/kilit/ValueType;)Z"⟩ : MethodName)) hown (mvT hZ (hw _ (List.mem_of_getElem? (i := 10) rfl))) (mvT hZ (hw _ (List.mem_of_getElem? (i := 11) rfl))) (notFace_of_selects (args := #[]) (mvT hZ (hw _ (List.mem_of_getElem? (i := 13) rfl)))) (mvT hZ (hw _ (List.mem_of_getElem? (i := 21) rfl))) (mvT hZ (hw _ (List.mem_of_getElem? (i := 12) rfl))) (by decide) (backOf (W := 0) (rm_base l Z a0 hw [] w_DATE w_INTEGER w_NULL (0 : Int32) h0 n0 Z0 S_NULL (by simp [n_INTEGER_DATE, n_INTEGER_NULL])) hZ (hw _ (List.mem_of_getElem? (i := 14) rfl)) (hw _ (List.mem_of_getElem? (i := 6) rfl)) (by decide) (by decide)) qk27a qk27c (g := (mkF m 69 #[.val (.int p1), .val (.int p2), .val (.int (3 : Int32)), .val (.int (0 : Int32)), .val (.ref w_DATE), .val (.ref w_INTEGER), .val (.int (0 : Int32))] [(.ref w_INTEGER), (.ref w_DATE)])) rfl (by rw [hml]; rfl) (Steps.refl _) (argsL := [(.ref w_INTEGER)]) (rest := []) (lenOf pd__Lcom_example_kilit_kilit_ValueType__Z rfl) rfl (by show 2 * 0 + _ ≤ _; exact Nat.le_of_eq rfl) (hb hby at_69) (fun _ _ => ⟨rfl, ek4, (by decide : 0 + 0 ≤ _), (by decide : 0 + 0 ≤ _)⟩)
      dsimp only [Pt.U, Pt.locs, Pt.cells, Pt.slots] at Xk27 lk27 yk27 zk27 stk27 hQk27
      subst lk27 yk27 zk27
      obtain ⟨rfl, Nk27q, ek27⟩ := hQk27
      have Nk27 := Fr.app Nk4 Nk27q
      obtain ⟨fs, hlv, hrun, hended, hW, hsame⟩ := Xk27.leave (v := some (.int (1 : Int32))) (fun h => by rw [hret] at h; cases h)
      refine ⟨_, _, r5 _ ?_, hrun, hended, _, _, rfl, ?_, ⟨_, rfl⟩, hW, hsame.mono (by decide) (by decide)⟩
      · refine XS.iloadN Xk4.here hx rfl (hb hby at_28) rfl ?_
        show Sp p e below Tk4 (mkF m 29 #[.val (.int p1), .val (.int p2), .val (.int (3 : Int32)), .val (.int (0 : Int32)), .val (.ref w_DATE), .val (.ref w_INTEGER), .unset] [(.int (3 : Int32))]) _
        refine XS.iloadN Xk4.here hx rfl (hb hby at_29) rfl ?_
        show Sp p e below Tk4 (mkF m 30 #[.val (.int p1), .val (.int p2), .val (.int (3 : Int32)), .val (.int (0 : Int32)), .val (.ref w_DATE), .val (.ref w_INTEGER), .unset] [(.int (0 : Int32)), (.int (3 : Int32))]) _
        refine XS.icmpNo Xk4.here hx rfl (hb hby at_30) rfl (feq (by decide : ¬ ((3 : Int32) = (0 : Int32)))).1 ?_
        show Sp p e below Tk4 (mkF m 33 #[.val (.int p1), .val (.int p2), .val (.int (3 : Int32)), .val (.int (0 : Int32)), .val (.ref w_DATE), .val (.ref w_INTEGER), .unset] []) _
        refine XS.iloadN Xk4.here hx rfl (hb hby at_33) rfl ?_
        show Sp p e below Tk4 (mkF m 34 #[.val (.int p1), .val (.int p2), .val (.int (3 : Int32)), .val (.int (0 : Int32)), .val (.ref w_DATE), .val (.ref w_INTEGER), .unset] [(.int (0 : Int32))]) _
        refine XS.bipush Xk4.here hx rfl (hb hby at_34) ?_
        show Sp p e below Tk4 (mkF m 36 #[.val (.int p1), .val (.int p2), .val (.int (3 : Int32)), .val (.int (0 : Int32)), .val (.ref w_DATE), .val (.ref w_INTEGER), .unset] [(.int (6 : Int32)), (.int (0 : Int32))]) _
        refine XS.icmpNo Xk4.here hx rfl (hb hby at_36) rfl (feq (by decide : ¬ ((0 : Int32) = (6 : Int32)))).1 ?_
        show Sp p e below Tk4 (mkF m 39 #[.val (.int p1), .val (.int p2), .val (.int (3 : Int32)), .val (.int (0 : Int32)), .val (.ref w_DATE), .val (.ref w_INTEGER), .unset] []) _
        refine XS.iloadN Xk4.here hx rfl (hb hby at_39) rfl ?_
        show Sp p e below Tk4 (mkF m 40 #[.val (.int p1), .val (.int p2), .val (.int (3 : Int32)), .val (.int (0 : Int32)), .val (.ref w_DATE), .val (.ref w_INTEGER), .unset] [(.int (3 : Int32))]) _
        refine XS.iconst Xk4.here hx rfl (hb hby at_40) ?_
        show Sp p e below Tk4 (mkF m 41 #[.val (.int p1), .val (.int p2), .val (.int (3 : Int32)), .val (.int (0 : Int32)), .val (.ref w_DATE), .val (.ref w_INTEGER), .unset] [(.int (1 : Int32)), (.int (3 : Int32))]) _
        refine XS.icmpYes Xk4.here hx rfl (pc0 := 41) (pc' := 48) rfl (hb hby at_41) rfl (feq (by decide : ¬ ((3 : Int32) = (1 : Int32)))).2 (by decide) (by decide) ?_
        show Sp p e below Tk4 (mkF m 48 #[.val (.int p1), .val (.int p2), .val (.int (3 : Int32)), .val (.int (0 : Int32)), .val (.ref w_DATE), .val (.ref w_INTEGER), .unset] []) _
        refine XS.iloadN Xk4.here hx rfl (hb hby at_48) rfl ?_
        show Sp p e below Tk4 (mkF m 49 #[.val (.int p1), .val (.int p2), .val (.int (3 : Int32)), .val (.int (0 : Int32)), .val (.ref w_DATE), .val (.ref w_INTEGER), .unset] [(.int (3 : Int32))]) _
        refine XS.iconst Xk4.here hx rfl (hb hby at_49) ?_
        show Sp p e below Tk4 (mkF m 50 #[.val (.int p1), .val (.int p2), .val (.int (3 : Int32)), .val (.int (0 : Int32)), .val (.ref w_DATE), .val (.ref w_INTEGER), .unset] [(.int (4 : Int32)), (.int (3 : Int32))]) _
        refine XS.icmpYes Xk4.here hx rfl (pc0 := 50) (pc' := 62) rfl (hb hby at_50) rfl (feq (by decide : ¬ ((3 : Int32) = (4 : Int32)))).2 (by decide) (by decide) ?_
        show Sp p e below Tk4 (mkF m 62 #[.val (.int p1), .val (.int p2), .val (.int (3 : Int32)), .val (.int (0 : Int32)), .val (.ref w_DATE), .val (.ref w_INTEGER), .unset] []) _
        refine XS.iconst Xk4.here hx rfl (hb hby at_62) ?_
        show Sp p e below Tk4 (mkF m 63 #[.val (.int p1), .val (.int p2), .val (.int (3 : Int32)), .val (.int (0 : Int32)), .val (.ref w_DATE), .val (.ref w_INTEGER), .unset] [(.int (0 : Int32))]) _
        refine XS.istore Xk4.here hx rfl (hb hby at_63) rfl (l' := #[.val (.int p1), .val (.int p2), .val (.int (3 : Int32)), .val (.int (0 : Int32)), .val (.ref w_DATE), .val (.ref w_INTEGER), .val (.int (0 : Int32))]) rfl ?_
        show Sp p e below Tk4 (mkF m 65 #[.val (.int p1), .val (.int p2), .val (.int (3 : Int32)), .val (.int (0 : Int32)), .val (.ref w_DATE), .val (.ref w_INTEGER), .val (.int (0 : Int32))] []) _
        refine XS.aload Xk4.here hx rfl (hb hby at_65) rfl rfl ?_
        show Sp p e below Tk4 (mkF m 67 #[.val (.int p1), .val (.int p2), .val (.int (3 : Int32)), .val (.int (0 : Int32)), .val (.ref w_DATE), .val (.ref w_INTEGER), .val (.int (0 : Int32))] [(.ref w_DATE)]) _
        refine XS.aload Xk4.here hx rfl (hb hby at_67) rfl rfl ?_
        show Sp p e below Tk4 (mkF m 69 #[.val (.int p1), .val (.int p2), .val (.int (3 : Int32)), .val (.int (0 : Int32)), .val (.ref w_DATE), .val (.ref w_INTEGER), .val (.int (0 : Int32))] [(.ref w_INTEGER), (.ref w_DATE)]) _
        refine stk27.trans ?_
        show Sp p e below Tk27 (mkF m 72 #[.val (.int p1), .val (.int p2), .val (.int (3 : Int32)), .val (.int (0 : Int32)), .val (.ref w_DATE), .val (.ref w_INTEGER), .val (.int (0 : Int32))] [(.int (0 : Int32))]) _
        refine XS.iload Xk27.here hx rfl (hb hby at_72) rfl ?_
        show Sp p e below Tk27 (mkF m 74 #[.val (.int p1), .val (.int p2), .val (.int (3 : Int32)), .val (.int (0 : Int32)), .val (.ref w_DATE), .val (.ref w_INTEGER), .val (.int (0 : Int32))] [(.int (0 : Int32)), (.int (0 : Int32))]) _
        refine XS.icmpNo Xk27.here hx rfl (hb hby at_74) rfl (teq (by decide : (0 : Int32) = (0 : Int32))).2 ?_
        show Sp p e below Tk27 (mkF m 77 #[.val (.int p1), .val (.int p2), .val (.int (3 : Int32)), .val (.int (0 : Int32)), .val (.ref w_DATE), .val (.ref w_INTEGER), .val (.int (0 : Int32))] []) _
        refine XS.iconst Xk27.here hx rfl (hb hby at_77) ?_
        show Sp p e below Tk27 (mkF m 78 #[.val (.int p1), .val (.int p2), .val (.int (3 : Int32)), .val (.int (0 : Int32)), .val (.ref w_DATE), .val (.ref w_INTEGER), .val (.int (0 : Int32))] [(.int (1 : Int32))]) _
        refine XS.goto Xk27.here hx rfl (pc0 := 78) (pc' := 82) rfl (hb hby at_78) (by decide) (by decide) ?_
        show Sp p e below Tk27 (mkF m 82 #[.val (.int p1), .val (.int p2), .val (.int (3 : Int32)), .val (.int (0 : Int32)), .val (.ref w_DATE), .val (.ref w_INTEGER), .val (.int (0 : Int32))] [(.int (1 : Int32))]) _
        exact retN Xk27 hx (t := .boolean) hret (by simp) (hb hby at_82) hlv
      · show Q_law Z p1 p2 w_INTEGER w_DECIMAL w_VARCHAR w_DATE w_TIMESTAMP w_BOOLEAN w_NULL h0 n0 _ Tk27.heap _
        rw [ek27]
        exact ⟨rfl, Nk27⟩
    · have hrj : rj = w_DECIMAL := by rw [hpj]; simp [hj]
      rw [hi, hj, hri, hrj] at r5
      obtain ⟨cqk28, kqk28, qk28a, qk28b, qk28c⟩ := isOf hZ ek4 E_DATE
      obtain ⟨_, _, ⟨Tk28, Lk28, kk28, nk28⟩, -, Xk28, ⟨Lck28, hQk28, lk28, yk28, zk28⟩, stk28⟩ := Xk4.virtualBack hx (y := (⟨"com/example/kilit/kilit/ValueType", "includes", "(Lcom/example/kilit/kilit/ValueType;)Z"⟩ : MethodName)) (z := (⟨"com/example/kilit/kilit/ValueType", "includes", "(Lcom/example/kilit/kilit/ValueType;)Z"⟩ : MethodName)) hown (mvT hZ (hw _ (List.mem_of_getElem? (i := 10) rfl))) (mvT hZ (hw _ (List.mem_of_getElem? (i := 11) rfl))) (notFace_of_selects (args := #[]) (mvT hZ (hw _ (List.mem_of_getElem? (i := 13) rfl)))) (mvT hZ (hw _ (List.mem_of_getElem? (i := 21) rfl))) (mvT hZ (hw _ (List.mem_of_getElem? (i := 12) rfl))) (by decide) (backOf (W := 0) (rm_base l Z a0 hw [] w_DATE w_DECIMAL w_NULL (0 : Int32) h0 n0 Z0 S_NULL (by simp [n_DECIMAL_DATE, n_DECIMAL_NULL, n_DECIMAL_INTEGER])) hZ (hw _ (List.mem_of_getElem? (i := 14) rfl)) (hw _ (List.mem_of_getElem? (i := 6) rfl)) (by decide) (by decide)) qk28a qk28c (g := (mkF m 69 #[.val (.int p1), .val (.int p2), .val (.int (3 : Int32)), .val (.int (1 : Int32)), .val (.ref w_DATE), .val (.ref w_DECIMAL), .val (.int (0 : Int32))] [(.ref w_DECIMAL), (.ref w_DATE)])) rfl (by rw [hml]; rfl) (Steps.refl _) (argsL := [(.ref w_DECIMAL)]) (rest := []) (lenOf pd__Lcom_example_kilit_kilit_ValueType__Z rfl) rfl (by show 2 * 0 + _ ≤ _; exact Nat.le_of_eq rfl) (hb hby at_69) (fun _ _ => ⟨rfl, ek4, (by decide : 0 + 0 ≤ _), (by decide : 0 + 0 ≤ _)⟩)
      dsimp only [Pt.U, Pt.locs, Pt.cells, Pt.slots] at Xk28 lk28 yk28 zk28 stk28 hQk28
      subst lk28 yk28 zk28
      obtain ⟨rfl, Nk28q, ek28⟩ := hQk28
      have Nk28 := Fr.app Nk4 Nk28q
      obtain ⟨fs, hlv, hrun, hended, hW, hsame⟩ := Xk28.leave (v := some (.int (1 : Int32))) (fun h => by rw [hret] at h; cases h)
      refine ⟨_, _, r5 _ ?_, hrun, hended, _, _, rfl, ?_, ⟨_, rfl⟩, hW, hsame.mono (by decide) (by decide)⟩
      · refine XS.iloadN Xk4.here hx rfl (hb hby at_28) rfl ?_
        show Sp p e below Tk4 (mkF m 29 #[.val (.int p1), .val (.int p2), .val (.int (3 : Int32)), .val (.int (1 : Int32)), .val (.ref w_DATE), .val (.ref w_DECIMAL), .unset] [(.int (3 : Int32))]) _
        refine XS.iloadN Xk4.here hx rfl (hb hby at_29) rfl ?_
        show Sp p e below Tk4 (mkF m 30 #[.val (.int p1), .val (.int p2), .val (.int (3 : Int32)), .val (.int (1 : Int32)), .val (.ref w_DATE), .val (.ref w_DECIMAL), .unset] [(.int (1 : Int32)), (.int (3 : Int32))]) _
        refine XS.icmpNo Xk4.here hx rfl (hb hby at_30) rfl (feq (by decide : ¬ ((3 : Int32) = (1 : Int32)))).1 ?_
        show Sp p e below Tk4 (mkF m 33 #[.val (.int p1), .val (.int p2), .val (.int (3 : Int32)), .val (.int (1 : Int32)), .val (.ref w_DATE), .val (.ref w_DECIMAL), .unset] []) _
        refine XS.iloadN Xk4.here hx rfl (hb hby at_33) rfl ?_
        show Sp p e below Tk4 (mkF m 34 #[.val (.int p1), .val (.int p2), .val (.int (3 : Int32)), .val (.int (1 : Int32)), .val (.ref w_DATE), .val (.ref w_DECIMAL), .unset] [(.int (1 : Int32))]) _
        refine XS.bipush Xk4.here hx rfl (hb hby at_34) ?_
        show Sp p e below Tk4 (mkF m 36 #[.val (.int p1), .val (.int p2), .val (.int (3 : Int32)), .val (.int (1 : Int32)), .val (.ref w_DATE), .val (.ref w_DECIMAL), .unset] [(.int (6 : Int32)), (.int (1 : Int32))]) _
        refine XS.icmpNo Xk4.here hx rfl (hb hby at_36) rfl (feq (by decide : ¬ ((1 : Int32) = (6 : Int32)))).1 ?_
        show Sp p e below Tk4 (mkF m 39 #[.val (.int p1), .val (.int p2), .val (.int (3 : Int32)), .val (.int (1 : Int32)), .val (.ref w_DATE), .val (.ref w_DECIMAL), .unset] []) _
        refine XS.iloadN Xk4.here hx rfl (hb hby at_39) rfl ?_
        show Sp p e below Tk4 (mkF m 40 #[.val (.int p1), .val (.int p2), .val (.int (3 : Int32)), .val (.int (1 : Int32)), .val (.ref w_DATE), .val (.ref w_DECIMAL), .unset] [(.int (3 : Int32))]) _
        refine XS.iconst Xk4.here hx rfl (hb hby at_40) ?_
        show Sp p e below Tk4 (mkF m 41 #[.val (.int p1), .val (.int p2), .val (.int (3 : Int32)), .val (.int (1 : Int32)), .val (.ref w_DATE), .val (.ref w_DECIMAL), .unset] [(.int (1 : Int32)), (.int (3 : Int32))]) _
        refine XS.icmpYes Xk4.here hx rfl (pc0 := 41) (pc' := 48) rfl (hb hby at_41) rfl (feq (by decide : ¬ ((3 : Int32) = (1 : Int32)))).2 (by decide) (by decide) ?_
        show Sp p e below Tk4 (mkF m 48 #[.val (.int p1), .val (.int p2), .val (.int (3 : Int32)), .val (.int (1 : Int32)), .val (.ref w_DATE), .val (.ref w_DECIMAL), .unset] []) _
        refine XS.iloadN Xk4.here hx rfl (hb hby at_48) rfl ?_
        show Sp p e below Tk4 (mkF m 49 #[.val (.int p1), .val (.int p2), .val (.int (3 : Int32)), .val (.int (1 : Int32)), .val (.ref w_DATE), .val (.ref w_DECIMAL), .unset] [(.int (3 : Int32))]) _
        refine XS.iconst Xk4.here hx rfl (hb hby at_49) ?_
        show Sp p e below Tk4 (mkF m 50 #[.val (.int p1), .val (.int p2), .val (.int (3 : Int32)), .val (.int (1 : Int32)), .val (.ref w_DATE), .val (.ref w_DECIMAL), .unset] [(.int (4 : Int32)), (.int (3 : Int32))]) _
        refine XS.icmpYes Xk4.here hx rfl (pc0 := 50) (pc' := 62) rfl (hb hby at_50) rfl (feq (by decide : ¬ ((3 : Int32) = (4 : Int32)))).2 (by decide) (by decide) ?_
        show Sp p e below Tk4 (mkF m 62 #[.val (.int p1), .val (.int p2), .val (.int (3 : Int32)), .val (.int (1 : Int32)), .val (.ref w_DATE), .val (.ref w_DECIMAL), .unset] []) _
        refine XS.iconst Xk4.here hx rfl (hb hby at_62) ?_
        show Sp p e below Tk4 (mkF m 63 #[.val (.int p1), .val (.int p2), .val (.int (3 : Int32)), .val (.int (1 : Int32)), .val (.ref w_DATE), .val (.ref w_DECIMAL), .unset] [(.int (0 : Int32))]) _
        refine XS.istore Xk4.here hx rfl (hb hby at_63) rfl (l' := #[.val (.int p1), .val (.int p2), .val (.int (3 : Int32)), .val (.int (1 : Int32)), .val (.ref w_DATE), .val (.ref w_DECIMAL), .val (.int (0 : Int32))]) rfl ?_
        show Sp p e below Tk4 (mkF m 65 #[.val (.int p1), .val (.int p2), .val (.int (3 : Int32)), .val (.int (1 : Int32)), .val (.ref w_DATE), .val (.ref w_DECIMAL), .val (.int (0 : Int32))] []) _
        refine XS.aload Xk4.here hx rfl (hb hby at_65) rfl rfl ?_
        show Sp p e below Tk4 (mkF m 67 #[.val (.int p1), .val (.int p2), .val (.int (3 : Int32)), .val (.int (1 : Int32)), .val (.ref w_DATE), .val (.ref w_DECIMAL), .val (.int (0 : Int32))] [(.ref w_DATE)]) _
        refine XS.aload Xk4.here hx rfl (hb hby at_67) rfl rfl ?_
        show Sp p e below Tk4 (mkF m 69 #[.val (.int p1), .val (.int p2), .val (.int (3 : Int32)), .val (.int (1 : Int32)), .val (.ref w_DATE), .val (.ref w_DECIMAL), .val (.int (0 : Int32))] [(.ref w_DECIMAL), (.ref w_DATE)]) _
        refine stk28.trans ?_
        show Sp p e below Tk28 (mkF m 72 #[.val (.int p1), .val (.int p2), .val (.int (3 : Int32)), .val (.int (1 : Int32)), .val (.ref w_DATE), .val (.ref w_DECIMAL), .val (.int (0 : Int32))] [(.int (0 : Int32))]) _
        refine XS.iload Xk28.here hx rfl (hb hby at_72) rfl ?_
        show Sp p e below Tk28 (mkF m 74 #[.val (.int p1), .val (.int p2), .val (.int (3 : Int32)), .val (.int (1 : Int32)), .val (.ref w_DATE), .val (.ref w_DECIMAL), .val (.int (0 : Int32))] [(.int (0 : Int32)), (.int (0 : Int32))]) _
        refine XS.icmpNo Xk28.here hx rfl (hb hby at_74) rfl (teq (by decide : (0 : Int32) = (0 : Int32))).2 ?_
        show Sp p e below Tk28 (mkF m 77 #[.val (.int p1), .val (.int p2), .val (.int (3 : Int32)), .val (.int (1 : Int32)), .val (.ref w_DATE), .val (.ref w_DECIMAL), .val (.int (0 : Int32))] []) _
        refine XS.iconst Xk28.here hx rfl (hb hby at_77) ?_
        show Sp p e below Tk28 (mkF m 78 #[.val (.int p1), .val (.int p2), .val (.int (3 : Int32)), .val (.int (1 : Int32)), .val (.ref w_DATE), .val (.ref w_DECIMAL), .val (.int (0 : Int32))] [(.int (1 : Int32))]) _
        refine XS.goto Xk28.here hx rfl (pc0 := 78) (pc' := 82) rfl (hb hby at_78) (by decide) (by decide) ?_
        show Sp p e below Tk28 (mkF m 82 #[.val (.int p1), .val (.int p2), .val (.int (3 : Int32)), .val (.int (1 : Int32)), .val (.ref w_DATE), .val (.ref w_DECIMAL), .val (.int (0 : Int32))] [(.int (1 : Int32))]) _
        exact retN Xk28 hx (t := .boolean) hret (by simp) (hb hby at_82) hlv
      · show Q_law Z p1 p2 w_INTEGER w_DECIMAL w_VARCHAR w_DATE w_TIMESTAMP w_BOOLEAN w_NULL h0 n0 _ Tk28.heap _
        rw [ek28]
        exact ⟨rfl, Nk28⟩
    · have hrj : rj = w_VARCHAR := by rw [hpj]; simp [hj]
      rw [hi, hj, hri, hrj] at r5
      obtain ⟨cqk29, kqk29, qk29a, qk29b, qk29c⟩ := isOf hZ ek4 E_DATE
      obtain ⟨_, _, ⟨Tk29, Lk29, kk29, nk29⟩, -, Xk29, ⟨Lck29, hQk29, lk29, yk29, zk29⟩, stk29⟩ := Xk4.virtualBack hx (y := (⟨"com/example/kilit/kilit/ValueType", "includes", "(Lcom/example/kilit/kilit/ValueType;)Z"⟩ : MethodName)) (z := (⟨"com/example/kilit/kilit/ValueType", "includes", "(Lcom/example/kilit/kilit/ValueType;)Z"⟩ : MethodName)) hown (mvT hZ (hw _ (List.mem_of_getElem? (i := 10) rfl))) (mvT hZ (hw _ (List.mem_of_getElem? (i := 11) rfl))) (notFace_of_selects (args := #[]) (mvT hZ (hw _ (List.mem_of_getElem? (i := 13) rfl)))) (mvT hZ (hw _ (List.mem_of_getElem? (i := 21) rfl))) (mvT hZ (hw _ (List.mem_of_getElem? (i := 12) rfl))) (by decide) (backOf (W := 0) (rm_base l Z a0 hw [] w_DATE w_VARCHAR w_NULL (0 : Int32) h0 n0 Z0 S_NULL (by simp [n_VARCHAR_DATE, n_VARCHAR_NULL, n_VARCHAR_INTEGER])) hZ (hw _ (List.mem_of_getElem? (i := 14) rfl)) (hw _ (List.mem_of_getElem? (i := 6) rfl)) (by decide) (by decide)) qk29a qk29c (g := (mkF m 69 #[.val (.int p1), .val (.int p2), .val (.int (3 : Int32)), .val (.int (2 : Int32)), .val (.ref w_DATE), .val (.ref w_VARCHAR), .val (.int (0 : Int32))] [(.ref w_VARCHAR), (.ref w_DATE)])) rfl (by rw [hml]; rfl) (Steps.refl _) (argsL := [(.ref w_VARCHAR)]) (rest := []) (lenOf pd__Lcom_example_kilit_kilit_ValueType__Z rfl) rfl (by show 2 * 0 + _ ≤ _; exact Nat.le_of_eq rfl) (hb hby at_69) (fun _ _ => ⟨rfl, ek4, (by decide : 0 + 0 ≤ _), (by decide : 0 + 0 ≤ _)⟩)
      dsimp only [Pt.U, Pt.locs, Pt.cells, Pt.slots] at Xk29 lk29 yk29 zk29 stk29 hQk29
      subst lk29 yk29 zk29
      obtain ⟨rfl, Nk29q, ek29⟩ := hQk29
      have Nk29 := Fr.app Nk4 Nk29q
      obtain ⟨fs, hlv, hrun, hended, hW, hsame⟩ := Xk29.leave (v := some (.int (1 : Int32))) (fun h => by rw [hret] at h; cases h)
      refine ⟨_, _, r5 _ ?_, hrun, hended, _, _, rfl, ?_, ⟨_, rfl⟩, hW, hsame.mono (by decide) (by decide)⟩
      · refine XS.iloadN Xk4.here hx rfl (hb hby at_28) rfl ?_
        show Sp p e below Tk4 (mkF m 29 #[.val (.int p1), .val (.int p2), .val (.int (3 : Int32)), .val (.int (2 : Int32)), .val (.ref w_DATE), .val (.ref w_VARCHAR), .unset] [(.int (3 : Int32))]) _
        refine XS.iloadN Xk4.here hx rfl (hb hby at_29) rfl ?_
        show Sp p e below Tk4 (mkF m 30 #[.val (.int p1), .val (.int p2), .val (.int (3 : Int32)), .val (.int (2 : Int32)), .val (.ref w_DATE), .val (.ref w_VARCHAR), .unset] [(.int (2 : Int32)), (.int (3 : Int32))]) _
        refine XS.icmpNo Xk4.here hx rfl (hb hby at_30) rfl (feq (by decide : ¬ ((3 : Int32) = (2 : Int32)))).1 ?_
        show Sp p e below Tk4 (mkF m 33 #[.val (.int p1), .val (.int p2), .val (.int (3 : Int32)), .val (.int (2 : Int32)), .val (.ref w_DATE), .val (.ref w_VARCHAR), .unset] []) _
        refine XS.iloadN Xk4.here hx rfl (hb hby at_33) rfl ?_
        show Sp p e below Tk4 (mkF m 34 #[.val (.int p1), .val (.int p2), .val (.int (3 : Int32)), .val (.int (2 : Int32)), .val (.ref w_DATE), .val (.ref w_VARCHAR), .unset] [(.int (2 : Int32))]) _
        refine XS.bipush Xk4.here hx rfl (hb hby at_34) ?_
        show Sp p e below Tk4 (mkF m 36 #[.val (.int p1), .val (.int p2), .val (.int (3 : Int32)), .val (.int (2 : Int32)), .val (.ref w_DATE), .val (.ref w_VARCHAR), .unset] [(.int (6 : Int32)), (.int (2 : Int32))]) _
        refine XS.icmpNo Xk4.here hx rfl (hb hby at_36) rfl (feq (by decide : ¬ ((2 : Int32) = (6 : Int32)))).1 ?_
        show Sp p e below Tk4 (mkF m 39 #[.val (.int p1), .val (.int p2), .val (.int (3 : Int32)), .val (.int (2 : Int32)), .val (.ref w_DATE), .val (.ref w_VARCHAR), .unset] []) _
        refine XS.iloadN Xk4.here hx rfl (hb hby at_39) rfl ?_
        show Sp p e below Tk4 (mkF m 40 #[.val (.int p1), .val (.int p2), .val (.int (3 : Int32)), .val (.int (2 : Int32)), .val (.ref w_DATE), .val (.ref w_VARCHAR), .unset] [(.int (3 : Int32))]) _
        refine XS.iconst Xk4.here hx rfl (hb hby at_40) ?_
        show Sp p e below Tk4 (mkF m 41 #[.val (.int p1), .val (.int p2), .val (.int (3 : Int32)), .val (.int (2 : Int32)), .val (.ref w_DATE), .val (.ref w_VARCHAR), .unset] [(.int (1 : Int32)), (.int (3 : Int32))]) _
        refine XS.icmpYes Xk4.here hx rfl (pc0 := 41) (pc' := 48) rfl (hb hby at_41) rfl (feq (by decide : ¬ ((3 : Int32) = (1 : Int32)))).2 (by decide) (by decide) ?_
        show Sp p e below Tk4 (mkF m 48 #[.val (.int p1), .val (.int p2), .val (.int (3 : Int32)), .val (.int (2 : Int32)), .val (.ref w_DATE), .val (.ref w_VARCHAR), .unset] []) _
        refine XS.iloadN Xk4.here hx rfl (hb hby at_48) rfl ?_
        show Sp p e below Tk4 (mkF m 49 #[.val (.int p1), .val (.int p2), .val (.int (3 : Int32)), .val (.int (2 : Int32)), .val (.ref w_DATE), .val (.ref w_VARCHAR), .unset] [(.int (3 : Int32))]) _
        refine XS.iconst Xk4.here hx rfl (hb hby at_49) ?_
        show Sp p e below Tk4 (mkF m 50 #[.val (.int p1), .val (.int p2), .val (.int (3 : Int32)), .val (.int (2 : Int32)), .val (.ref w_DATE), .val (.ref w_VARCHAR), .unset] [(.int (4 : Int32)), (.int (3 : Int32))]) _
        refine XS.icmpYes Xk4.here hx rfl (pc0 := 50) (pc' := 62) rfl (hb hby at_50) rfl (feq (by decide : ¬ ((3 : Int32) = (4 : Int32)))).2 (by decide) (by decide) ?_
        show Sp p e below Tk4 (mkF m 62 #[.val (.int p1), .val (.int p2), .val (.int (3 : Int32)), .val (.int (2 : Int32)), .val (.ref w_DATE), .val (.ref w_VARCHAR), .unset] []) _
        refine XS.iconst Xk4.here hx rfl (hb hby at_62) ?_
        show Sp p e below Tk4 (mkF m 63 #[.val (.int p1), .val (.int p2), .val (.int (3 : Int32)), .val (.int (2 : Int32)), .val (.ref w_DATE), .val (.ref w_VARCHAR), .unset] [(.int (0 : Int32))]) _
        refine XS.istore Xk4.here hx rfl (hb hby at_63) rfl (l' := #[.val (.int p1), .val (.int p2), .val (.int (3 : Int32)), .val (.int (2 : Int32)), .val (.ref w_DATE), .val (.ref w_VARCHAR), .val (.int (0 : Int32))]) rfl ?_
        show Sp p e below Tk4 (mkF m 65 #[.val (.int p1), .val (.int p2), .val (.int (3 : Int32)), .val (.int (2 : Int32)), .val (.ref w_DATE), .val (.ref w_VARCHAR), .val (.int (0 : Int32))] []) _
        refine XS.aload Xk4.here hx rfl (hb hby at_65) rfl rfl ?_
        show Sp p e below Tk4 (mkF m 67 #[.val (.int p1), .val (.int p2), .val (.int (3 : Int32)), .val (.int (2 : Int32)), .val (.ref w_DATE), .val (.ref w_VARCHAR), .val (.int (0 : Int32))] [(.ref w_DATE)]) _
        refine XS.aload Xk4.here hx rfl (hb hby at_67) rfl rfl ?_
        show Sp p e below Tk4 (mkF m 69 #[.val (.int p1), .val (.int p2), .val (.int (3 : Int32)), .val (.int (2 : Int32)), .val (.ref w_DATE), .val (.ref w_VARCHAR), .val (.int (0 : Int32))] [(.ref w_VARCHAR), (.ref w_DATE)]) _
        refine stk29.trans ?_
        show Sp p e below Tk29 (mkF m 72 #[.val (.int p1), .val (.int p2), .val (.int (3 : Int32)), .val (.int (2 : Int32)), .val (.ref w_DATE), .val (.ref w_VARCHAR), .val (.int (0 : Int32))] [(.int (0 : Int32))]) _
        refine XS.iload Xk29.here hx rfl (hb hby at_72) rfl ?_
        show Sp p e below Tk29 (mkF m 74 #[.val (.int p1), .val (.int p2), .val (.int (3 : Int32)), .val (.int (2 : Int32)), .val (.ref w_DATE), .val (.ref w_VARCHAR), .val (.int (0 : Int32))] [(.int (0 : Int32)), (.int (0 : Int32))]) _
        refine XS.icmpNo Xk29.here hx rfl (hb hby at_74) rfl (teq (by decide : (0 : Int32) = (0 : Int32))).2 ?_
        show Sp p e below Tk29 (mkF m 77 #[.val (.int p1), .val (.int p2), .val (.int (3 : Int32)), .val (.int (2 : Int32)), .val (.ref w_DATE), .val (.ref w_VARCHAR), .val (.int (0 : Int32))] []) _
        refine XS.iconst Xk29.here hx rfl (hb hby at_77) ?_
        show Sp p e below Tk29 (mkF m 78 #[.val (.int p1), .val (.int p2), .val (.int (3 : Int32)), .val (.int (2 : Int32)), .val (.ref w_DATE), .val (.ref w_VARCHAR), .val (.int (0 : Int32))] [(.int (1 : Int32))]) _
        refine XS.goto Xk29.here hx rfl (pc0 := 78) (pc' := 82) rfl (hb hby at_78) (by decide) (by decide) ?_
        show Sp p e below Tk29 (mkF m 82 #[.val (.int p1), .val (.int p2), .val (.int (3 : Int32)), .val (.int (2 : Int32)), .val (.ref w_DATE), .val (.ref w_VARCHAR), .val (.int (0 : Int32))] [(.int (1 : Int32))]) _
        exact retN Xk29 hx (t := .boolean) hret (by simp) (hb hby at_82) hlv
      · show Q_law Z p1 p2 w_INTEGER w_DECIMAL w_VARCHAR w_DATE w_TIMESTAMP w_BOOLEAN w_NULL h0 n0 _ Tk29.heap _
        rw [ek29]
        exact ⟨rfl, Nk29⟩
    · have hrj : rj = w_DATE := by rw [hpj]; simp [hj]
      rw [hi, hj, hri, hrj] at r5
      obtain ⟨cqk30, kqk30, qk30a, qk30b, qk30c⟩ := isOf hZ ek4 E_DATE
      obtain ⟨_, _, ⟨Tk30, Lk30, kk30, nk30⟩, -, Xk30, ⟨Lck30, hQk30, lk30, yk30, zk30⟩, stk30⟩ := Xk4.virtualBack hx (y := (⟨"com/example/kilit/kilit/ValueType", "includes", "(Lcom/example/kilit/kilit/ValueType;)Z"⟩ : MethodName)) (z := (⟨"com/example/kilit/kilit/ValueType", "includes", "(Lcom/example/kilit/kilit/ValueType;)Z"⟩ : MethodName)) hown (mvT hZ (hw _ (List.mem_of_getElem? (i := 10) rfl))) (mvT hZ (hw _ (List.mem_of_getElem? (i := 11) rfl))) (notFace_of_selects (args := #[]) (mvT hZ (hw _ (List.mem_of_getElem? (i := 13) rfl)))) (mvT hZ (hw _ (List.mem_of_getElem? (i := 21) rfl))) (mvT hZ (hw _ (List.mem_of_getElem? (i := 12) rfl))) (by decide) (backOf (W := 0) (rm_base l Z a0 hw [] w_DATE w_DATE w_NULL (1 : Int32) h0 n0 Z0 S_NULL (by simp [n_DATE_NULL, n_DATE_INTEGER])) hZ (hw _ (List.mem_of_getElem? (i := 14) rfl)) (hw _ (List.mem_of_getElem? (i := 6) rfl)) (by decide) (by decide)) qk30a qk30c (g := (mkF m 69 #[.val (.int p1), .val (.int p2), .val (.int (3 : Int32)), .val (.int (3 : Int32)), .val (.ref w_DATE), .val (.ref w_DATE), .val (.int (1 : Int32))] [(.ref w_DATE), (.ref w_DATE)])) rfl (by rw [hml]; rfl) (Steps.refl _) (argsL := [(.ref w_DATE)]) (rest := []) (lenOf pd__Lcom_example_kilit_kilit_ValueType__Z rfl) rfl (by show 2 * 0 + _ ≤ _; exact Nat.le_of_eq rfl) (hb hby at_69) (fun _ _ => ⟨rfl, ek4, (by decide : 0 + 0 ≤ _), (by decide : 0 + 0 ≤ _)⟩)
      dsimp only [Pt.U, Pt.locs, Pt.cells, Pt.slots] at Xk30 lk30 yk30 zk30 stk30 hQk30
      subst lk30 yk30 zk30
      obtain ⟨rfl, Nk30q, ek30⟩ := hQk30
      have Nk30 := Fr.app Nk4 Nk30q
      obtain ⟨fs, hlv, hrun, hended, hW, hsame⟩ := Xk30.leave (v := some (.int (1 : Int32))) (fun h => by rw [hret] at h; cases h)
      refine ⟨_, _, r5 _ ?_, hrun, hended, _, _, rfl, ?_, ⟨_, rfl⟩, hW, hsame.mono (by decide) (by decide)⟩
      · refine XS.iloadN Xk4.here hx rfl (hb hby at_28) rfl ?_
        show Sp p e below Tk4 (mkF m 29 #[.val (.int p1), .val (.int p2), .val (.int (3 : Int32)), .val (.int (3 : Int32)), .val (.ref w_DATE), .val (.ref w_DATE), .unset] [(.int (3 : Int32))]) _
        refine XS.iloadN Xk4.here hx rfl (hb hby at_29) rfl ?_
        show Sp p e below Tk4 (mkF m 30 #[.val (.int p1), .val (.int p2), .val (.int (3 : Int32)), .val (.int (3 : Int32)), .val (.ref w_DATE), .val (.ref w_DATE), .unset] [(.int (3 : Int32)), (.int (3 : Int32))]) _
        refine XS.icmpYes Xk4.here hx rfl (pc0 := 30) (pc' := 58) rfl (hb hby at_30) rfl (teq (by decide : (3 : Int32) = (3 : Int32))).1 (by decide) (by decide) ?_
        show Sp p e below Tk4 (mkF m 58 #[.val (.int p1), .val (.int p2), .val (.int (3 : Int32)), .val (.int (3 : Int32)), .val (.ref w_DATE), .val (.ref w_DATE), .unset] []) _
        refine XS.iconst Xk4.here hx rfl (hb hby at_58) ?_
        show Sp p e below Tk4 (mkF m 59 #[.val (.int p1), .val (.int p2), .val (.int (3 : Int32)), .val (.int (3 : Int32)), .val (.ref w_DATE), .val (.ref w_DATE), .unset] [(.int (1 : Int32))]) _
        refine XS.goto Xk4.here hx rfl (pc0 := 59) (pc' := 63) rfl (hb hby at_59) (by decide) (by decide) ?_
        show Sp p e below Tk4 (mkF m 63 #[.val (.int p1), .val (.int p2), .val (.int (3 : Int32)), .val (.int (3 : Int32)), .val (.ref w_DATE), .val (.ref w_DATE), .unset] [(.int (1 : Int32))]) _
        refine XS.istore Xk4.here hx rfl (hb hby at_63) rfl (l' := #[.val (.int p1), .val (.int p2), .val (.int (3 : Int32)), .val (.int (3 : Int32)), .val (.ref w_DATE), .val (.ref w_DATE), .val (.int (1 : Int32))]) rfl ?_
        show Sp p e below Tk4 (mkF m 65 #[.val (.int p1), .val (.int p2), .val (.int (3 : Int32)), .val (.int (3 : Int32)), .val (.ref w_DATE), .val (.ref w_DATE), .val (.int (1 : Int32))] []) _
        refine XS.aload Xk4.here hx rfl (hb hby at_65) rfl rfl ?_
        show Sp p e below Tk4 (mkF m 67 #[.val (.int p1), .val (.int p2), .val (.int (3 : Int32)), .val (.int (3 : Int32)), .val (.ref w_DATE), .val (.ref w_DATE), .val (.int (1 : Int32))] [(.ref w_DATE)]) _
        refine XS.aload Xk4.here hx rfl (hb hby at_67) rfl rfl ?_
        show Sp p e below Tk4 (mkF m 69 #[.val (.int p1), .val (.int p2), .val (.int (3 : Int32)), .val (.int (3 : Int32)), .val (.ref w_DATE), .val (.ref w_DATE), .val (.int (1 : Int32))] [(.ref w_DATE), (.ref w_DATE)]) _
        refine stk30.trans ?_
        show Sp p e below Tk30 (mkF m 72 #[.val (.int p1), .val (.int p2), .val (.int (3 : Int32)), .val (.int (3 : Int32)), .val (.ref w_DATE), .val (.ref w_DATE), .val (.int (1 : Int32))] [(.int (1 : Int32))]) _
        refine XS.iload Xk30.here hx rfl (hb hby at_72) rfl ?_
        show Sp p e below Tk30 (mkF m 74 #[.val (.int p1), .val (.int p2), .val (.int (3 : Int32)), .val (.int (3 : Int32)), .val (.ref w_DATE), .val (.ref w_DATE), .val (.int (1 : Int32))] [(.int (1 : Int32)), (.int (1 : Int32))]) _
        refine XS.icmpNo Xk30.here hx rfl (hb hby at_74) rfl (teq (by decide : (1 : Int32) = (1 : Int32))).2 ?_
        show Sp p e below Tk30 (mkF m 77 #[.val (.int p1), .val (.int p2), .val (.int (3 : Int32)), .val (.int (3 : Int32)), .val (.ref w_DATE), .val (.ref w_DATE), .val (.int (1 : Int32))] []) _
        refine XS.iconst Xk30.here hx rfl (hb hby at_77) ?_
        show Sp p e below Tk30 (mkF m 78 #[.val (.int p1), .val (.int p2), .val (.int (3 : Int32)), .val (.int (3 : Int32)), .val (.ref w_DATE), .val (.ref w_DATE), .val (.int (1 : Int32))] [(.int (1 : Int32))]) _
        refine XS.goto Xk30.here hx rfl (pc0 := 78) (pc' := 82) rfl (hb hby at_78) (by decide) (by decide) ?_
        show Sp p e below Tk30 (mkF m 82 #[.val (.int p1), .val (.int p2), .val (.int (3 : Int32)), .val (.int (3 : Int32)), .val (.ref w_DATE), .val (.ref w_DATE), .val (.int (1 : Int32))] [(.int (1 : Int32))]) _
        exact retN Xk30 hx (t := .boolean) hret (by simp) (hb hby at_82) hlv
      · show Q_law Z p1 p2 w_INTEGER w_DECIMAL w_VARCHAR w_DATE w_TIMESTAMP w_BOOLEAN w_NULL h0 n0 _ Tk30.heap _
        rw [ek30]
        exact ⟨rfl, Nk30⟩
    · have hrj : rj = w_TIMESTAMP := by rw [hpj]; simp [hj]
      rw [hi, hj, hri, hrj] at r5
      obtain ⟨cqk31, kqk31, qk31a, qk31b, qk31c⟩ := isOf hZ ek4 E_DATE
      obtain ⟨_, _, ⟨Tk31, Lk31, kk31, nk31⟩, -, Xk31, ⟨Lck31, hQk31, lk31, yk31, zk31⟩, stk31⟩ := Xk4.virtualBack hx (y := (⟨"com/example/kilit/kilit/ValueType", "includes", "(Lcom/example/kilit/kilit/ValueType;)Z"⟩ : MethodName)) (z := (⟨"com/example/kilit/kilit/ValueType", "includes", "(Lcom/example/kilit/kilit/ValueType;)Z"⟩ : MethodName)) hown (mvT hZ (hw _ (List.mem_of_getElem? (i := 10) rfl))) (mvT hZ (hw _ (List.mem_of_getElem? (i := 11) rfl))) (notFace_of_selects (args := #[]) (mvT hZ (hw _ (List.mem_of_getElem? (i := 13) rfl)))) (mvT hZ (hw _ (List.mem_of_getElem? (i := 21) rfl))) (mvT hZ (hw _ (List.mem_of_getElem? (i := 12) rfl))) (by decide) (backOf (W := 0) (rm_base l Z a0 hw [] w_DATE w_TIMESTAMP w_NULL (0 : Int32) h0 n0 Z0 S_NULL (by simp [n_TIMESTAMP_DATE, n_TIMESTAMP_NULL, n_TIMESTAMP_INTEGER])) hZ (hw _ (List.mem_of_getElem? (i := 14) rfl)) (hw _ (List.mem_of_getElem? (i := 6) rfl)) (by decide) (by decide)) qk31a qk31c (g := (mkF m 69 #[.val (.int p1), .val (.int p2), .val (.int (3 : Int32)), .val (.int (4 : Int32)), .val (.ref w_DATE), .val (.ref w_TIMESTAMP), .val (.int (0 : Int32))] [(.ref w_TIMESTAMP), (.ref w_DATE)])) rfl (by rw [hml]; rfl) (Steps.refl _) (argsL := [(.ref w_TIMESTAMP)]) (rest := []) (lenOf pd__Lcom_example_kilit_kilit_ValueType__Z rfl) rfl (by show 2 * 0 + _ ≤ _; exact Nat.le_of_eq rfl) (hb hby at_69) (fun _ _ => ⟨rfl, ek4, (by decide : 0 + 0 ≤ _), (by decide : 0 + 0 ≤ _)⟩)
      dsimp only [Pt.U, Pt.locs, Pt.cells, Pt.slots] at Xk31 lk31 yk31 zk31 stk31 hQk31
      subst lk31 yk31 zk31
      obtain ⟨rfl, Nk31q, ek31⟩ := hQk31
      have Nk31 := Fr.app Nk4 Nk31q
      obtain ⟨fs, hlv, hrun, hended, hW, hsame⟩ := Xk31.leave (v := some (.int (1 : Int32))) (fun h => by rw [hret] at h; cases h)
      refine ⟨_, _, r5 _ ?_, hrun, hended, _, _, rfl, ?_, ⟨_, rfl⟩, hW, hsame.mono (by decide) (by decide)⟩
      · refine XS.iloadN Xk4.here hx rfl (hb hby at_28) rfl ?_
        show Sp p e below Tk4 (mkF m 29 #[.val (.int p1), .val (.int p2), .val (.int (3 : Int32)), .val (.int (4 : Int32)), .val (.ref w_DATE), .val (.ref w_TIMESTAMP), .unset] [(.int (3 : Int32))]) _
        refine XS.iloadN Xk4.here hx rfl (hb hby at_29) rfl ?_
        show Sp p e below Tk4 (mkF m 30 #[.val (.int p1), .val (.int p2), .val (.int (3 : Int32)), .val (.int (4 : Int32)), .val (.ref w_DATE), .val (.ref w_TIMESTAMP), .unset] [(.int (4 : Int32)), (.int (3 : Int32))]) _
        refine XS.icmpNo Xk4.here hx rfl (hb hby at_30) rfl (feq (by decide : ¬ ((3 : Int32) = (4 : Int32)))).1 ?_
        show Sp p e below Tk4 (mkF m 33 #[.val (.int p1), .val (.int p2), .val (.int (3 : Int32)), .val (.int (4 : Int32)), .val (.ref w_DATE), .val (.ref w_TIMESTAMP), .unset] []) _
        refine XS.iloadN Xk4.here hx rfl (hb hby at_33) rfl ?_
        show Sp p e below Tk4 (mkF m 34 #[.val (.int p1), .val (.int p2), .val (.int (3 : Int32)), .val (.int (4 : Int32)), .val (.ref w_DATE), .val (.ref w_TIMESTAMP), .unset] [(.int (4 : Int32))]) _
        refine XS.bipush Xk4.here hx rfl (hb hby at_34) ?_
        show Sp p e below Tk4 (mkF m 36 #[.val (.int p1), .val (.int p2), .val (.int (3 : Int32)), .val (.int (4 : Int32)), .val (.ref w_DATE), .val (.ref w_TIMESTAMP), .unset] [(.int (6 : Int32)), (.int (4 : Int32))]) _
        refine XS.icmpNo Xk4.here hx rfl (hb hby at_36) rfl (feq (by decide : ¬ ((4 : Int32) = (6 : Int32)))).1 ?_
        show Sp p e below Tk4 (mkF m 39 #[.val (.int p1), .val (.int p2), .val (.int (3 : Int32)), .val (.int (4 : Int32)), .val (.ref w_DATE), .val (.ref w_TIMESTAMP), .unset] []) _
        refine XS.iloadN Xk4.here hx rfl (hb hby at_39) rfl ?_
        show Sp p e below Tk4 (mkF m 40 #[.val (.int p1), .val (.int p2), .val (.int (3 : Int32)), .val (.int (4 : Int32)), .val (.ref w_DATE), .val (.ref w_TIMESTAMP), .unset] [(.int (3 : Int32))]) _
        refine XS.iconst Xk4.here hx rfl (hb hby at_40) ?_
        show Sp p e below Tk4 (mkF m 41 #[.val (.int p1), .val (.int p2), .val (.int (3 : Int32)), .val (.int (4 : Int32)), .val (.ref w_DATE), .val (.ref w_TIMESTAMP), .unset] [(.int (1 : Int32)), (.int (3 : Int32))]) _
        refine XS.icmpYes Xk4.here hx rfl (pc0 := 41) (pc' := 48) rfl (hb hby at_41) rfl (feq (by decide : ¬ ((3 : Int32) = (1 : Int32)))).2 (by decide) (by decide) ?_
        show Sp p e below Tk4 (mkF m 48 #[.val (.int p1), .val (.int p2), .val (.int (3 : Int32)), .val (.int (4 : Int32)), .val (.ref w_DATE), .val (.ref w_TIMESTAMP), .unset] []) _
        refine XS.iloadN Xk4.here hx rfl (hb hby at_48) rfl ?_
        show Sp p e below Tk4 (mkF m 49 #[.val (.int p1), .val (.int p2), .val (.int (3 : Int32)), .val (.int (4 : Int32)), .val (.ref w_DATE), .val (.ref w_TIMESTAMP), .unset] [(.int (3 : Int32))]) _
        refine XS.iconst Xk4.here hx rfl (hb hby at_49) ?_
        show Sp p e below Tk4 (mkF m 50 #[.val (.int p1), .val (.int p2), .val (.int (3 : Int32)), .val (.int (4 : Int32)), .val (.ref w_DATE), .val (.ref w_TIMESTAMP), .unset] [(.int (4 : Int32)), (.int (3 : Int32))]) _
        refine XS.icmpYes Xk4.here hx rfl (pc0 := 50) (pc' := 62) rfl (hb hby at_50) rfl (feq (by decide : ¬ ((3 : Int32) = (4 : Int32)))).2 (by decide) (by decide) ?_
        show Sp p e below Tk4 (mkF m 62 #[.val (.int p1), .val (.int p2), .val (.int (3 : Int32)), .val (.int (4 : Int32)), .val (.ref w_DATE), .val (.ref w_TIMESTAMP), .unset] []) _
        refine XS.iconst Xk4.here hx rfl (hb hby at_62) ?_
        show Sp p e below Tk4 (mkF m 63 #[.val (.int p1), .val (.int p2), .val (.int (3 : Int32)), .val (.int (4 : Int32)), .val (.ref w_DATE), .val (.ref w_TIMESTAMP), .unset] [(.int (0 : Int32))]) _
        refine XS.istore Xk4.here hx rfl (hb hby at_63) rfl (l' := #[.val (.int p1), .val (.int p2), .val (.int (3 : Int32)), .val (.int (4 : Int32)), .val (.ref w_DATE), .val (.ref w_TIMESTAMP), .val (.int (0 : Int32))]) rfl ?_
        show Sp p e below Tk4 (mkF m 65 #[.val (.int p1), .val (.int p2), .val (.int (3 : Int32)), .val (.int (4 : Int32)), .val (.ref w_DATE), .val (.ref w_TIMESTAMP), .val (.int (0 : Int32))] []) _
        refine XS.aload Xk4.here hx rfl (hb hby at_65) rfl rfl ?_
        show Sp p e below Tk4 (mkF m 67 #[.val (.int p1), .val (.int p2), .val (.int (3 : Int32)), .val (.int (4 : Int32)), .val (.ref w_DATE), .val (.ref w_TIMESTAMP), .val (.int (0 : Int32))] [(.ref w_DATE)]) _
        refine XS.aload Xk4.here hx rfl (hb hby at_67) rfl rfl ?_
        show Sp p e below Tk4 (mkF m 69 #[.val (.int p1), .val (.int p2), .val (.int (3 : Int32)), .val (.int (4 : Int32)), .val (.ref w_DATE), .val (.ref w_TIMESTAMP), .val (.int (0 : Int32))] [(.ref w_TIMESTAMP), (.ref w_DATE)]) _
        refine stk31.trans ?_
        show Sp p e below Tk31 (mkF m 72 #[.val (.int p1), .val (.int p2), .val (.int (3 : Int32)), .val (.int (4 : Int32)), .val (.ref w_DATE), .val (.ref w_TIMESTAMP), .val (.int (0 : Int32))] [(.int (0 : Int32))]) _
        refine XS.iload Xk31.here hx rfl (hb hby at_72) rfl ?_
        show Sp p e below Tk31 (mkF m 74 #[.val (.int p1), .val (.int p2), .val (.int (3 : Int32)), .val (.int (4 : Int32)), .val (.ref w_DATE), .val (.ref w_TIMESTAMP), .val (.int (0 : Int32))] [(.int (0 : Int32)), (.int (0 : Int32))]) _
        refine XS.icmpNo Xk31.here hx rfl (hb hby at_74) rfl (teq (by decide : (0 : Int32) = (0 : Int32))).2 ?_
        show Sp p e below Tk31 (mkF m 77 #[.val (.int p1), .val (.int p2), .val (.int (3 : Int32)), .val (.int (4 : Int32)), .val (.ref w_DATE), .val (.ref w_TIMESTAMP), .val (.int (0 : Int32))] []) _
        refine XS.iconst Xk31.here hx rfl (hb hby at_77) ?_
        show Sp p e below Tk31 (mkF m 78 #[.val (.int p1), .val (.int p2), .val (.int (3 : Int32)), .val (.int (4 : Int32)), .val (.ref w_DATE), .val (.ref w_TIMESTAMP), .val (.int (0 : Int32))] [(.int (1 : Int32))]) _
        refine XS.goto Xk31.here hx rfl (pc0 := 78) (pc' := 82) rfl (hb hby at_78) (by decide) (by decide) ?_
        show Sp p e below Tk31 (mkF m 82 #[.val (.int p1), .val (.int p2), .val (.int (3 : Int32)), .val (.int (4 : Int32)), .val (.ref w_DATE), .val (.ref w_TIMESTAMP), .val (.int (0 : Int32))] [(.int (1 : Int32))]) _
        exact retN Xk31 hx (t := .boolean) hret (by simp) (hb hby at_82) hlv
      · show Q_law Z p1 p2 w_INTEGER w_DECIMAL w_VARCHAR w_DATE w_TIMESTAMP w_BOOLEAN w_NULL h0 n0 _ Tk31.heap _
        rw [ek31]
        exact ⟨rfl, Nk31⟩
    · have hrj : rj = w_BOOLEAN := by rw [hpj]; simp [hj]
      rw [hi, hj, hri, hrj] at r5
      obtain ⟨cqk32, kqk32, qk32a, qk32b, qk32c⟩ := isOf hZ ek4 E_DATE
      obtain ⟨_, _, ⟨Tk32, Lk32, kk32, nk32⟩, -, Xk32, ⟨Lck32, hQk32, lk32, yk32, zk32⟩, stk32⟩ := Xk4.virtualBack hx (y := (⟨"com/example/kilit/kilit/ValueType", "includes", "(Lcom/example/kilit/kilit/ValueType;)Z"⟩ : MethodName)) (z := (⟨"com/example/kilit/kilit/ValueType", "includes", "(Lcom/example/kilit/kilit/ValueType;)Z"⟩ : MethodName)) hown (mvT hZ (hw _ (List.mem_of_getElem? (i := 10) rfl))) (mvT hZ (hw _ (List.mem_of_getElem? (i := 11) rfl))) (notFace_of_selects (args := #[]) (mvT hZ (hw _ (List.mem_of_getElem? (i := 13) rfl)))) (mvT hZ (hw _ (List.mem_of_getElem? (i := 21) rfl))) (mvT hZ (hw _ (List.mem_of_getElem? (i := 12) rfl))) (by decide) (backOf (W := 0) (rm_base l Z a0 hw [] w_DATE w_BOOLEAN w_NULL (0 : Int32) h0 n0 Z0 S_NULL (by simp [n_BOOLEAN_DATE, n_BOOLEAN_NULL, n_BOOLEAN_INTEGER])) hZ (hw _ (List.mem_of_getElem? (i := 14) rfl)) (hw _ (List.mem_of_getElem? (i := 6) rfl)) (by decide) (by decide)) qk32a qk32c (g := (mkF m 69 #[.val (.int p1), .val (.int p2), .val (.int (3 : Int32)), .val (.int (5 : Int32)), .val (.ref w_DATE), .val (.ref w_BOOLEAN), .val (.int (0 : Int32))] [(.ref w_BOOLEAN), (.ref w_DATE)])) rfl (by rw [hml]; rfl) (Steps.refl _) (argsL := [(.ref w_BOOLEAN)]) (rest := []) (lenOf pd__Lcom_example_kilit_kilit_ValueType__Z rfl) rfl (by show 2 * 0 + _ ≤ _; exact Nat.le_of_eq rfl) (hb hby at_69) (fun _ _ => ⟨rfl, ek4, (by decide : 0 + 0 ≤ _), (by decide : 0 + 0 ≤ _)⟩)
      dsimp only [Pt.U, Pt.locs, Pt.cells, Pt.slots] at Xk32 lk32 yk32 zk32 stk32 hQk32
      subst lk32 yk32 zk32
      obtain ⟨rfl, Nk32q, ek32⟩ := hQk32
      have Nk32 := Fr.app Nk4 Nk32q
      obtain ⟨fs, hlv, hrun, hended, hW, hsame⟩ := Xk32.leave (v := some (.int (1 : Int32))) (fun h => by rw [hret] at h; cases h)
      refine ⟨_, _, r5 _ ?_, hrun, hended, _, _, rfl, ?_, ⟨_, rfl⟩, hW, hsame.mono (by decide) (by decide)⟩
      · refine XS.iloadN Xk4.here hx rfl (hb hby at_28) rfl ?_
        show Sp p e below Tk4 (mkF m 29 #[.val (.int p1), .val (.int p2), .val (.int (3 : Int32)), .val (.int (5 : Int32)), .val (.ref w_DATE), .val (.ref w_BOOLEAN), .unset] [(.int (3 : Int32))]) _
        refine XS.iloadN Xk4.here hx rfl (hb hby at_29) rfl ?_
        show Sp p e below Tk4 (mkF m 30 #[.val (.int p1), .val (.int p2), .val (.int (3 : Int32)), .val (.int (5 : Int32)), .val (.ref w_DATE), .val (.ref w_BOOLEAN), .unset] [(.int (5 : Int32)), (.int (3 : Int32))]) _
        refine XS.icmpNo Xk4.here hx rfl (hb hby at_30) rfl (feq (by decide : ¬ ((3 : Int32) = (5 : Int32)))).1 ?_
        show Sp p e below Tk4 (mkF m 33 #[.val (.int p1), .val (.int p2), .val (.int (3 : Int32)), .val (.int (5 : Int32)), .val (.ref w_DATE), .val (.ref w_BOOLEAN), .unset] []) _
        refine XS.iloadN Xk4.here hx rfl (hb hby at_33) rfl ?_
        show Sp p e below Tk4 (mkF m 34 #[.val (.int p1), .val (.int p2), .val (.int (3 : Int32)), .val (.int (5 : Int32)), .val (.ref w_DATE), .val (.ref w_BOOLEAN), .unset] [(.int (5 : Int32))]) _
        refine XS.bipush Xk4.here hx rfl (hb hby at_34) ?_
        show Sp p e below Tk4 (mkF m 36 #[.val (.int p1), .val (.int p2), .val (.int (3 : Int32)), .val (.int (5 : Int32)), .val (.ref w_DATE), .val (.ref w_BOOLEAN), .unset] [(.int (6 : Int32)), (.int (5 : Int32))]) _
        refine XS.icmpNo Xk4.here hx rfl (hb hby at_36) rfl (feq (by decide : ¬ ((5 : Int32) = (6 : Int32)))).1 ?_
        show Sp p e below Tk4 (mkF m 39 #[.val (.int p1), .val (.int p2), .val (.int (3 : Int32)), .val (.int (5 : Int32)), .val (.ref w_DATE), .val (.ref w_BOOLEAN), .unset] []) _
        refine XS.iloadN Xk4.here hx rfl (hb hby at_39) rfl ?_
        show Sp p e below Tk4 (mkF m 40 #[.val (.int p1), .val (.int p2), .val (.int (3 : Int32)), .val (.int (5 : Int32)), .val (.ref w_DATE), .val (.ref w_BOOLEAN), .unset] [(.int (3 : Int32))]) _
        refine XS.iconst Xk4.here hx rfl (hb hby at_40) ?_
        show Sp p e below Tk4 (mkF m 41 #[.val (.int p1), .val (.int p2), .val (.int (3 : Int32)), .val (.int (5 : Int32)), .val (.ref w_DATE), .val (.ref w_BOOLEAN), .unset] [(.int (1 : Int32)), (.int (3 : Int32))]) _
        refine XS.icmpYes Xk4.here hx rfl (pc0 := 41) (pc' := 48) rfl (hb hby at_41) rfl (feq (by decide : ¬ ((3 : Int32) = (1 : Int32)))).2 (by decide) (by decide) ?_
        show Sp p e below Tk4 (mkF m 48 #[.val (.int p1), .val (.int p2), .val (.int (3 : Int32)), .val (.int (5 : Int32)), .val (.ref w_DATE), .val (.ref w_BOOLEAN), .unset] []) _
        refine XS.iloadN Xk4.here hx rfl (hb hby at_48) rfl ?_
        show Sp p e below Tk4 (mkF m 49 #[.val (.int p1), .val (.int p2), .val (.int (3 : Int32)), .val (.int (5 : Int32)), .val (.ref w_DATE), .val (.ref w_BOOLEAN), .unset] [(.int (3 : Int32))]) _
        refine XS.iconst Xk4.here hx rfl (hb hby at_49) ?_
        show Sp p e below Tk4 (mkF m 50 #[.val (.int p1), .val (.int p2), .val (.int (3 : Int32)), .val (.int (5 : Int32)), .val (.ref w_DATE), .val (.ref w_BOOLEAN), .unset] [(.int (4 : Int32)), (.int (3 : Int32))]) _
        refine XS.icmpYes Xk4.here hx rfl (pc0 := 50) (pc' := 62) rfl (hb hby at_50) rfl (feq (by decide : ¬ ((3 : Int32) = (4 : Int32)))).2 (by decide) (by decide) ?_
        show Sp p e below Tk4 (mkF m 62 #[.val (.int p1), .val (.int p2), .val (.int (3 : Int32)), .val (.int (5 : Int32)), .val (.ref w_DATE), .val (.ref w_BOOLEAN), .unset] []) _
        refine XS.iconst Xk4.here hx rfl (hb hby at_62) ?_
        show Sp p e below Tk4 (mkF m 63 #[.val (.int p1), .val (.int p2), .val (.int (3 : Int32)), .val (.int (5 : Int32)), .val (.ref w_DATE), .val (.ref w_BOOLEAN), .unset] [(.int (0 : Int32))]) _
        refine XS.istore Xk4.here hx rfl (hb hby at_63) rfl (l' := #[.val (.int p1), .val (.int p2), .val (.int (3 : Int32)), .val (.int (5 : Int32)), .val (.ref w_DATE), .val (.ref w_BOOLEAN), .val (.int (0 : Int32))]) rfl ?_
        show Sp p e below Tk4 (mkF m 65 #[.val (.int p1), .val (.int p2), .val (.int (3 : Int32)), .val (.int (5 : Int32)), .val (.ref w_DATE), .val (.ref w_BOOLEAN), .val (.int (0 : Int32))] []) _
        refine XS.aload Xk4.here hx rfl (hb hby at_65) rfl rfl ?_
        show Sp p e below Tk4 (mkF m 67 #[.val (.int p1), .val (.int p2), .val (.int (3 : Int32)), .val (.int (5 : Int32)), .val (.ref w_DATE), .val (.ref w_BOOLEAN), .val (.int (0 : Int32))] [(.ref w_DATE)]) _
        refine XS.aload Xk4.here hx rfl (hb hby at_67) rfl rfl ?_
        show Sp p e below Tk4 (mkF m 69 #[.val (.int p1), .val (.int p2), .val (.int (3 : Int32)), .val (.int (5 : Int32)), .val (.ref w_DATE), .val (.ref w_BOOLEAN), .val (.int (0 : Int32))] [(.ref w_BOOLEAN), (.ref w_DATE)]) _
        refine stk32.trans ?_
        show Sp p e below Tk32 (mkF m 72 #[.val (.int p1), .val (.int p2), .val (.int (3 : Int32)), .val (.int (5 : Int32)), .val (.ref w_DATE), .val (.ref w_BOOLEAN), .val (.int (0 : Int32))] [(.int (0 : Int32))]) _
        refine XS.iload Xk32.here hx rfl (hb hby at_72) rfl ?_
        show Sp p e below Tk32 (mkF m 74 #[.val (.int p1), .val (.int p2), .val (.int (3 : Int32)), .val (.int (5 : Int32)), .val (.ref w_DATE), .val (.ref w_BOOLEAN), .val (.int (0 : Int32))] [(.int (0 : Int32)), (.int (0 : Int32))]) _
        refine XS.icmpNo Xk32.here hx rfl (hb hby at_74) rfl (teq (by decide : (0 : Int32) = (0 : Int32))).2 ?_
        show Sp p e below Tk32 (mkF m 77 #[.val (.int p1), .val (.int p2), .val (.int (3 : Int32)), .val (.int (5 : Int32)), .val (.ref w_DATE), .val (.ref w_BOOLEAN), .val (.int (0 : Int32))] []) _
        refine XS.iconst Xk32.here hx rfl (hb hby at_77) ?_
        show Sp p e below Tk32 (mkF m 78 #[.val (.int p1), .val (.int p2), .val (.int (3 : Int32)), .val (.int (5 : Int32)), .val (.ref w_DATE), .val (.ref w_BOOLEAN), .val (.int (0 : Int32))] [(.int (1 : Int32))]) _
        refine XS.goto Xk32.here hx rfl (pc0 := 78) (pc' := 82) rfl (hb hby at_78) (by decide) (by decide) ?_
        show Sp p e below Tk32 (mkF m 82 #[.val (.int p1), .val (.int p2), .val (.int (3 : Int32)), .val (.int (5 : Int32)), .val (.ref w_DATE), .val (.ref w_BOOLEAN), .val (.int (0 : Int32))] [(.int (1 : Int32))]) _
        exact retN Xk32 hx (t := .boolean) hret (by simp) (hb hby at_82) hlv
      · show Q_law Z p1 p2 w_INTEGER w_DECIMAL w_VARCHAR w_DATE w_TIMESTAMP w_BOOLEAN w_NULL h0 n0 _ Tk32.heap _
        rw [ek32]
        exact ⟨rfl, Nk32⟩
    · have hrj : rj = w_NULL := by rw [hpj]; simp [hj]
      rw [hi, hj, hri, hrj] at r5
      obtain ⟨cqk33, kqk33, qk33a, qk33b, qk33c⟩ := isOf hZ ek4 E_DATE
      obtain ⟨_, _, ⟨Tk33, Lk33, kk33, nk33⟩, -, Xk33, ⟨Lck33, hQk33, lk33, yk33, zk33⟩, stk33⟩ := Xk4.virtualBack hx (y := (⟨"com/example/kilit/kilit/ValueType", "includes", "(Lcom/example/kilit/kilit/ValueType;)Z"⟩ : MethodName)) (z := (⟨"com/example/kilit/kilit/ValueType", "includes", "(Lcom/example/kilit/kilit/ValueType;)Z"⟩ : MethodName)) hown (mvT hZ (hw _ (List.mem_of_getElem? (i := 10) rfl))) (mvT hZ (hw _ (List.mem_of_getElem? (i := 11) rfl))) (notFace_of_selects (args := #[]) (mvT hZ (hw _ (List.mem_of_getElem? (i := 13) rfl)))) (mvT hZ (hw _ (List.mem_of_getElem? (i := 21) rfl))) (mvT hZ (hw _ (List.mem_of_getElem? (i := 12) rfl))) (by decide) (backOf (W := 0) (rm_base l Z a0 hw [] w_DATE w_NULL w_NULL (1 : Int32) h0 n0 Z0 S_NULL (by simp [n_NULL_DATE, n_NULL_INTEGER])) hZ (hw _ (List.mem_of_getElem? (i := 14) rfl)) (hw _ (List.mem_of_getElem? (i := 6) rfl)) (by decide) (by decide)) qk33a qk33c (g := (mkF m 69 #[.val (.int p1), .val (.int p2), .val (.int (3 : Int32)), .val (.int (6 : Int32)), .val (.ref w_DATE), .val (.ref w_NULL), .val (.int (1 : Int32))] [(.ref w_NULL), (.ref w_DATE)])) rfl (by rw [hml]; rfl) (Steps.refl _) (argsL := [(.ref w_NULL)]) (rest := []) (lenOf pd__Lcom_example_kilit_kilit_ValueType__Z rfl) rfl (by show 2 * 0 + _ ≤ _; exact Nat.le_of_eq rfl) (hb hby at_69) (fun _ _ => ⟨rfl, ek4, (by decide : 0 + 0 ≤ _), (by decide : 0 + 0 ≤ _)⟩)
      dsimp only [Pt.U, Pt.locs, Pt.cells, Pt.slots] at Xk33 lk33 yk33 zk33 stk33 hQk33
      subst lk33 yk33 zk33
      obtain ⟨rfl, Nk33q, ek33⟩ := hQk33
      have Nk33 := Fr.app Nk4 Nk33q
      obtain ⟨fs, hlv, hrun, hended, hW, hsame⟩ := Xk33.leave (v := some (.int (1 : Int32))) (fun h => by rw [hret] at h; cases h)
      refine ⟨_, _, r5 _ ?_, hrun, hended, _, _, rfl, ?_, ⟨_, rfl⟩, hW, hsame.mono (by decide) (by decide)⟩
      · refine XS.iloadN Xk4.here hx rfl (hb hby at_28) rfl ?_
        show Sp p e below Tk4 (mkF m 29 #[.val (.int p1), .val (.int p2), .val (.int (3 : Int32)), .val (.int (6 : Int32)), .val (.ref w_DATE), .val (.ref w_NULL), .unset] [(.int (3 : Int32))]) _
        refine XS.iloadN Xk4.here hx rfl (hb hby at_29) rfl ?_
        show Sp p e below Tk4 (mkF m 30 #[.val (.int p1), .val (.int p2), .val (.int (3 : Int32)), .val (.int (6 : Int32)), .val (.ref w_DATE), .val (.ref w_NULL), .unset] [(.int (6 : Int32)), (.int (3 : Int32))]) _
        refine XS.icmpNo Xk4.here hx rfl (hb hby at_30) rfl (feq (by decide : ¬ ((3 : Int32) = (6 : Int32)))).1 ?_
        show Sp p e below Tk4 (mkF m 33 #[.val (.int p1), .val (.int p2), .val (.int (3 : Int32)), .val (.int (6 : Int32)), .val (.ref w_DATE), .val (.ref w_NULL), .unset] []) _
        refine XS.iloadN Xk4.here hx rfl (hb hby at_33) rfl ?_
        show Sp p e below Tk4 (mkF m 34 #[.val (.int p1), .val (.int p2), .val (.int (3 : Int32)), .val (.int (6 : Int32)), .val (.ref w_DATE), .val (.ref w_NULL), .unset] [(.int (6 : Int32))]) _
        refine XS.bipush Xk4.here hx rfl (hb hby at_34) ?_
        show Sp p e below Tk4 (mkF m 36 #[.val (.int p1), .val (.int p2), .val (.int (3 : Int32)), .val (.int (6 : Int32)), .val (.ref w_DATE), .val (.ref w_NULL), .unset] [(.int (6 : Int32)), (.int (6 : Int32))]) _
        refine XS.icmpYes Xk4.here hx rfl (pc0 := 36) (pc' := 58) rfl (hb hby at_36) rfl (teq (by decide : (6 : Int32) = (6 : Int32))).1 (by decide) (by decide) ?_
        show Sp p e below Tk4 (mkF m 58 #[.val (.int p1), .val (.int p2), .val (.int (3 : Int32)), .val (.int (6 : Int32)), .val (.ref w_DATE), .val (.ref w_NULL), .unset] []) _
        refine XS.iconst Xk4.here hx rfl (hb hby at_58) ?_
        show Sp p e below Tk4 (mkF m 59 #[.val (.int p1), .val (.int p2), .val (.int (3 : Int32)), .val (.int (6 : Int32)), .val (.ref w_DATE), .val (.ref w_NULL), .unset] [(.int (1 : Int32))]) _
        refine XS.goto Xk4.here hx rfl (pc0 := 59) (pc' := 63) rfl (hb hby at_59) (by decide) (by decide) ?_
        show Sp p e below Tk4 (mkF m 63 #[.val (.int p1), .val (.int p2), .val (.int (3 : Int32)), .val (.int (6 : Int32)), .val (.ref w_DATE), .val (.ref w_NULL), .unset] [(.int (1 : Int32))]) _
        refine XS.istore Xk4.here hx rfl (hb hby at_63) rfl (l' := #[.val (.int p1), .val (.int p2), .val (.int (3 : Int32)), .val (.int (6 : Int32)), .val (.ref w_DATE), .val (.ref w_NULL), .val (.int (1 : Int32))]) rfl ?_
        show Sp p e below Tk4 (mkF m 65 #[.val (.int p1), .val (.int p2), .val (.int (3 : Int32)), .val (.int (6 : Int32)), .val (.ref w_DATE), .val (.ref w_NULL), .val (.int (1 : Int32))] []) _
        refine XS.aload Xk4.here hx rfl (hb hby at_65) rfl rfl ?_
        show Sp p e below Tk4 (mkF m 67 #[.val (.int p1), .val (.int p2), .val (.int (3 : Int32)), .val (.int (6 : Int32)), .val (.ref w_DATE), .val (.ref w_NULL), .val (.int (1 : Int32))] [(.ref w_DATE)]) _
        refine XS.aload Xk4.here hx rfl (hb hby at_67) rfl rfl ?_
        show Sp p e below Tk4 (mkF m 69 #[.val (.int p1), .val (.int p2), .val (.int (3 : Int32)), .val (.int (6 : Int32)), .val (.ref w_DATE), .val (.ref w_NULL), .val (.int (1 : Int32))] [(.ref w_NULL), (.ref w_DATE)]) _
        refine stk33.trans ?_
        show Sp p e below Tk33 (mkF m 72 #[.val (.int p1), .val (.int p2), .val (.int (3 : Int32)), .val (.int (6 : Int32)), .val (.ref w_DATE), .val (.ref w_NULL), .val (.int (1 : Int32))] [(.int (1 : Int32))]) _
        refine XS.iload Xk33.here hx rfl (hb hby at_72) rfl ?_
        show Sp p e below Tk33 (mkF m 74 #[.val (.int p1), .val (.int p2), .val (.int (3 : Int32)), .val (.int (6 : Int32)), .val (.ref w_DATE), .val (.ref w_NULL), .val (.int (1 : Int32))] [(.int (1 : Int32)), (.int (1 : Int32))]) _
        refine XS.icmpNo Xk33.here hx rfl (hb hby at_74) rfl (teq (by decide : (1 : Int32) = (1 : Int32))).2 ?_
        show Sp p e below Tk33 (mkF m 77 #[.val (.int p1), .val (.int p2), .val (.int (3 : Int32)), .val (.int (6 : Int32)), .val (.ref w_DATE), .val (.ref w_NULL), .val (.int (1 : Int32))] []) _
        refine XS.iconst Xk33.here hx rfl (hb hby at_77) ?_
        show Sp p e below Tk33 (mkF m 78 #[.val (.int p1), .val (.int p2), .val (.int (3 : Int32)), .val (.int (6 : Int32)), .val (.ref w_DATE), .val (.ref w_NULL), .val (.int (1 : Int32))] [(.int (1 : Int32))]) _
        refine XS.goto Xk33.here hx rfl (pc0 := 78) (pc' := 82) rfl (hb hby at_78) (by decide) (by decide) ?_
        show Sp p e below Tk33 (mkF m 82 #[.val (.int p1), .val (.int p2), .val (.int (3 : Int32)), .val (.int (6 : Int32)), .val (.ref w_DATE), .val (.ref w_NULL), .val (.int (1 : Int32))] [(.int (1 : Int32))]) _
        exact retN Xk33 hx (t := .boolean) hret (by simp) (hb hby at_82) hlv
      · show Q_law Z p1 p2 w_INTEGER w_DECIMAL w_VARCHAR w_DATE w_TIMESTAMP w_BOOLEAN w_NULL h0 n0 _ Tk33.heap _
        rw [ek33]
        exact ⟨rfl, Nk33⟩
  · have hri : ri = w_TIMESTAMP := by rw [hpi]; simp [hi]
    rcases cj with hj | hj | hj | hj | hj | hj | hj
    · have hrj : rj = w_INTEGER := by rw [hpj]; simp [hj]
      rw [hi, hj, hri, hrj] at r5
      obtain ⟨cqk34, kqk34, qk34a, qk34b, qk34c⟩ := isOf hZ ek4 E_TIMESTAMP
      obtain ⟨_, _, ⟨Tk34, Lk34, kk34, nk34⟩, -, Xk34, ⟨Lck34, hQk34, lk34, yk34, zk34⟩, stk34⟩ := Xk4.virtualBack hx (y := (⟨"com/example/kilit/kilit/ValueType", "includes", "(Lcom/example/kilit/kilit/ValueType;)Z"⟩ : MethodName)) (z := (⟨"com/example/kilit/kilit/ValueType$5", "includes", "(Lcom/example/kilit/kilit/ValueType;)Z"⟩ : MethodName)) hown (mvT hZ (hw _ (List.mem_of_getElem? (i := 10) rfl))) (mvT hZ (hw _ (List.mem_of_getElem? (i := 11) rfl))) (notFace_of_selects (args := #[]) (mvT hZ (hw _ (List.mem_of_getElem? (i := 13) rfl)))) (mvT hZ (hw _ (List.mem_of_getElem? (i := 34) rfl))) (mvT hZ (hw _ (List.mem_of_getElem? (i := 35) rfl))) (by decide) (backOf (W := 0) (rm_inc5 l Z a0 hw [] w_TIMESTAMP w_INTEGER w_DATE w_NULL (0 : Int32) h0 n0 Z0 S_DATE S_NULL E_TIMESTAMP (by simp [n_INTEGER_TIMESTAMP, n_INTEGER_NULL, n_INTEGER_DATE])) hZ (hw _ (List.mem_of_getElem? (i := 37) rfl)) (hw _ (List.mem_of_getElem? (i := 36) rfl)) (by decide) (by decide)) qk34a qk34c (g := (mkF m 69 #[.val (.int p1), .val (.int p2), .val (.int (4 : Int32)), .val (.int (0 : Int32)), .val (.ref w_TIMESTAMP), .val (.ref w_INTEGER), .val (.int (0 : Int32))] [(.ref w_INTEGER), (.ref w_TIMESTAMP)])) rfl (by rw [hml]; rfl) (Steps.refl _) (argsL := [(.ref w_INTEGER)]) (rest := []) (lenOf pd__Lcom_example_kilit_kilit_ValueType__Z rfl) rfl (by show 2 * 0 + _ ≤ _; exact Nat.le_of_eq rfl) (hb hby at_69) (fun _ _ => ⟨rfl, ek4, (by decide : 0 + 0 ≤ _), (by decide : 0 + 0 ≤ _)⟩)
      dsimp only [Pt.U, Pt.locs, Pt.cells, Pt.slots] at Xk34 lk34 yk34 zk34 stk34 hQk34
      subst lk34 yk34 zk34
      obtain ⟨rfl, Nk34q, ek34⟩ := hQk34
      have Nk34 := Fr.app Nk4 Nk34q
      obtain ⟨fs, hlv, hrun, hended, hW, hsame⟩ := Xk34.leave (v := some (.int (1 : Int32))) (fun h => by rw [hret] at h; cases h)
      refine ⟨_, _, r5 _ ?_, hrun, hended, _, _, rfl, ?_, ⟨_, rfl⟩, hW, hsame.mono (by decide) (by decide)⟩
      · refine XS.iloadN Xk4.here hx rfl (hb hby at_28) rfl ?_
        show Sp p e below Tk4 (mkF m 29 #[.val (.int p1), .val (.int p2), .val (.int (4 : Int32)), .val (.int (0 : Int32)), .val (.ref w_TIMESTAMP), .val (.ref w_INTEGER), .unset] [(.int (4 : Int32))]) _
        refine XS.iloadN Xk4.here hx rfl (hb hby at_29) rfl ?_
        show Sp p e below Tk4 (mkF m 30 #[.val (.int p1), .val (.int p2), .val (.int (4 : Int32)), .val (.int (0 : Int32)), .val (.ref w_TIMESTAMP), .val (.ref w_INTEGER), .unset] [(.int (0 : Int32)), (.int (4 : Int32))]) _
        refine XS.icmpNo Xk4.here hx rfl (hb hby at_30) rfl (feq (by decide : ¬ ((4 : Int32) = (0 : Int32)))).1 ?_
        show Sp p e below Tk4 (mkF m 33 #[.val (.int p1), .val (.int p2), .val (.int (4 : Int32)), .val (.int (0 : Int32)), .val (.ref w_TIMESTAMP), .val (.ref w_INTEGER), .unset] []) _
        refine XS.iloadN Xk4.here hx rfl (hb hby at_33) rfl ?_
        show Sp p e below Tk4 (mkF m 34 #[.val (.int p1), .val (.int p2), .val (.int (4 : Int32)), .val (.int (0 : Int32)), .val (.ref w_TIMESTAMP), .val (.ref w_INTEGER), .unset] [(.int (0 : Int32))]) _
        refine XS.bipush Xk4.here hx rfl (hb hby at_34) ?_
        show Sp p e below Tk4 (mkF m 36 #[.val (.int p1), .val (.int p2), .val (.int (4 : Int32)), .val (.int (0 : Int32)), .val (.ref w_TIMESTAMP), .val (.ref w_INTEGER), .unset] [(.int (6 : Int32)), (.int (0 : Int32))]) _
        refine XS.icmpNo Xk4.here hx rfl (hb hby at_36) rfl (feq (by decide : ¬ ((0 : Int32) = (6 : Int32)))).1 ?_
        show Sp p e below Tk4 (mkF m 39 #[.val (.int p1), .val (.int p2), .val (.int (4 : Int32)), .val (.int (0 : Int32)), .val (.ref w_TIMESTAMP), .val (.ref w_INTEGER), .unset] []) _
        refine XS.iloadN Xk4.here hx rfl (hb hby at_39) rfl ?_
        show Sp p e below Tk4 (mkF m 40 #[.val (.int p1), .val (.int p2), .val (.int (4 : Int32)), .val (.int (0 : Int32)), .val (.ref w_TIMESTAMP), .val (.ref w_INTEGER), .unset] [(.int (4 : Int32))]) _
        refine XS.iconst Xk4.here hx rfl (hb hby at_40) ?_
        show Sp p e below Tk4 (mkF m 41 #[.val (.int p1), .val (.int p2), .val (.int (4 : Int32)), .val (.int (0 : Int32)), .val (.ref w_TIMESTAMP), .val (.ref w_INTEGER), .unset] [(.int (1 : Int32)), (.int (4 : Int32))]) _
        refine XS.icmpYes Xk4.here hx rfl (pc0 := 41) (pc' := 48) rfl (hb hby at_41) rfl (feq (by decide : ¬ ((4 : Int32) = (1 : Int32)))).2 (by decide) (by decide) ?_
        show Sp p e below Tk4 (mkF m 48 #[.val (.int p1), .val (.int p2), .val (.int (4 : Int32)), .val (.int (0 : Int32)), .val (.ref w_TIMESTAMP), .val (.ref w_INTEGER), .unset] []) _
        refine XS.iloadN Xk4.here hx rfl (hb hby at_48) rfl ?_
        show Sp p e below Tk4 (mkF m 49 #[.val (.int p1), .val (.int p2), .val (.int (4 : Int32)), .val (.int (0 : Int32)), .val (.ref w_TIMESTAMP), .val (.ref w_INTEGER), .unset] [(.int (4 : Int32))]) _
        refine XS.iconst Xk4.here hx rfl (hb hby at_49) ?_
        show Sp p e below Tk4 (mkF m 50 #[.val (.int p1), .val (.int p2), .val (.int (4 : Int32)), .val (.int (0 : Int32)), .val (.ref w_TIMESTAMP), .val (.ref w_INTEGER), .unset] [(.int (4 : Int32)), (.int (4 : Int32))]) _
        refine XS.icmpNo Xk4.here hx rfl (hb hby at_50) rfl (teq (by decide : (4 : Int32) = (4 : Int32))).2 ?_
        show Sp p e below Tk4 (mkF m 53 #[.val (.int p1), .val (.int p2), .val (.int (4 : Int32)), .val (.int (0 : Int32)), .val (.ref w_TIMESTAMP), .val (.ref w_INTEGER), .unset] []) _
        refine XS.iloadN Xk4.here hx rfl (hb hby at_53) rfl ?_
        show Sp p e below Tk4 (mkF m 54 #[.val (.int p1), .val (.int p2), .val (.int (4 : Int32)), .val (.int (0 : Int32)), .val (.ref w_TIMESTAMP), .val (.ref w_INTEGER), .unset] [(.int (0 : Int32))]) _
        refine XS.iconst Xk4.here hx rfl (hb hby at_54) ?_
        show Sp p e below Tk4 (mkF m 55 #[.val (.int p1), .val (.int p2), .val (.int (4 : Int32)), .val (.int (0 : Int32)), .val (.ref w_TIMESTAMP), .val (.ref w_INTEGER), .unset] [(.int (3 : Int32)), (.int (0 : Int32))]) _
        refine XS.icmpYes Xk4.here hx rfl (pc0 := 55) (pc' := 62) rfl (hb hby at_55) rfl (feq (by decide : ¬ ((0 : Int32) = (3 : Int32)))).2 (by decide) (by decide) ?_
        show Sp p e below Tk4 (mkF m 62 #[.val (.int p1), .val (.int p2), .val (.int (4 : Int32)), .val (.int (0 : Int32)), .val (.ref w_TIMESTAMP), .val (.ref w_INTEGER), .unset] []) _
        refine XS.iconst Xk4.here hx rfl (hb hby at_62) ?_
        show Sp p e below Tk4 (mkF m 63 #[.val (.int p1), .val (.int p2), .val (.int (4 : Int32)), .val (.int (0 : Int32)), .val (.ref w_TIMESTAMP), .val (.ref w_INTEGER), .unset] [(.int (0 : Int32))]) _
        refine XS.istore Xk4.here hx rfl (hb hby at_63) rfl (l' := #[.val (.int p1), .val (.int p2), .val (.int (4 : Int32)), .val (.int (0 : Int32)), .val (.ref w_TIMESTAMP), .val (.ref w_INTEGER), .val (.int (0 : Int32))]) rfl ?_
        show Sp p e below Tk4 (mkF m 65 #[.val (.int p1), .val (.int p2), .val (.int (4 : Int32)), .val (.int (0 : Int32)), .val (.ref w_TIMESTAMP), .val (.ref w_INTEGER), .val (.int (0 : Int32))] []) _
        refine XS.aload Xk4.here hx rfl (hb hby at_65) rfl rfl ?_
        show Sp p e below Tk4 (mkF m 67 #[.val (.int p1), .val (.int p2), .val (.int (4 : Int32)), .val (.int (0 : Int32)), .val (.ref w_TIMESTAMP), .val (.ref w_INTEGER), .val (.int (0 : Int32))] [(.ref w_TIMESTAMP)]) _
        refine XS.aload Xk4.here hx rfl (hb hby at_67) rfl rfl ?_
        show Sp p e below Tk4 (mkF m 69 #[.val (.int p1), .val (.int p2), .val (.int (4 : Int32)), .val (.int (0 : Int32)), .val (.ref w_TIMESTAMP), .val (.ref w_INTEGER), .val (.int (0 : Int32))] [(.ref w_INTEGER), (.ref w_TIMESTAMP)]) _
        refine stk34.trans ?_
        show Sp p e below Tk34 (mkF m 72 #[.val (.int p1), .val (.int p2), .val (.int (4 : Int32)), .val (.int (0 : Int32)), .val (.ref w_TIMESTAMP), .val (.ref w_INTEGER), .val (.int (0 : Int32))] [(.int (0 : Int32))]) _
        refine XS.iload Xk34.here hx rfl (hb hby at_72) rfl ?_
        show Sp p e below Tk34 (mkF m 74 #[.val (.int p1), .val (.int p2), .val (.int (4 : Int32)), .val (.int (0 : Int32)), .val (.ref w_TIMESTAMP), .val (.ref w_INTEGER), .val (.int (0 : Int32))] [(.int (0 : Int32)), (.int (0 : Int32))]) _
        refine XS.icmpNo Xk34.here hx rfl (hb hby at_74) rfl (teq (by decide : (0 : Int32) = (0 : Int32))).2 ?_
        show Sp p e below Tk34 (mkF m 77 #[.val (.int p1), .val (.int p2), .val (.int (4 : Int32)), .val (.int (0 : Int32)), .val (.ref w_TIMESTAMP), .val (.ref w_INTEGER), .val (.int (0 : Int32))] []) _
        refine XS.iconst Xk34.here hx rfl (hb hby at_77) ?_
        show Sp p e below Tk34 (mkF m 78 #[.val (.int p1), .val (.int p2), .val (.int (4 : Int32)), .val (.int (0 : Int32)), .val (.ref w_TIMESTAMP), .val (.ref w_INTEGER), .val (.int (0 : Int32))] [(.int (1 : Int32))]) _
        refine XS.goto Xk34.here hx rfl (pc0 := 78) (pc' := 82) rfl (hb hby at_78) (by decide) (by decide) ?_
        show Sp p e below Tk34 (mkF m 82 #[.val (.int p1), .val (.int p2), .val (.int (4 : Int32)), .val (.int (0 : Int32)), .val (.ref w_TIMESTAMP), .val (.ref w_INTEGER), .val (.int (0 : Int32))] [(.int (1 : Int32))]) _
        exact retN Xk34 hx (t := .boolean) hret (by simp) (hb hby at_82) hlv
      · show Q_law Z p1 p2 w_INTEGER w_DECIMAL w_VARCHAR w_DATE w_TIMESTAMP w_BOOLEAN w_NULL h0 n0 _ Tk34.heap _
        rw [ek34]
        exact ⟨rfl, Nk34⟩
    · have hrj : rj = w_DECIMAL := by rw [hpj]; simp [hj]
      rw [hi, hj, hri, hrj] at r5
      obtain ⟨cqk35, kqk35, qk35a, qk35b, qk35c⟩ := isOf hZ ek4 E_TIMESTAMP
      obtain ⟨_, _, ⟨Tk35, Lk35, kk35, nk35⟩, -, Xk35, ⟨Lck35, hQk35, lk35, yk35, zk35⟩, stk35⟩ := Xk4.virtualBack hx (y := (⟨"com/example/kilit/kilit/ValueType", "includes", "(Lcom/example/kilit/kilit/ValueType;)Z"⟩ : MethodName)) (z := (⟨"com/example/kilit/kilit/ValueType$5", "includes", "(Lcom/example/kilit/kilit/ValueType;)Z"⟩ : MethodName)) hown (mvT hZ (hw _ (List.mem_of_getElem? (i := 10) rfl))) (mvT hZ (hw _ (List.mem_of_getElem? (i := 11) rfl))) (notFace_of_selects (args := #[]) (mvT hZ (hw _ (List.mem_of_getElem? (i := 13) rfl)))) (mvT hZ (hw _ (List.mem_of_getElem? (i := 34) rfl))) (mvT hZ (hw _ (List.mem_of_getElem? (i := 35) rfl))) (by decide) (backOf (W := 0) (rm_inc5 l Z a0 hw [] w_TIMESTAMP w_DECIMAL w_DATE w_NULL (0 : Int32) h0 n0 Z0 S_DATE S_NULL E_TIMESTAMP (by simp [n_DECIMAL_TIMESTAMP, n_DECIMAL_NULL, n_DECIMAL_INTEGER, n_DECIMAL_DATE])) hZ (hw _ (List.mem_of_getElem? (i := 37) rfl)) (hw _ (List.mem_of_getElem? (i := 36) rfl)) (by decide) (by decide)) qk35a qk35c (g := (mkF m 69 #[.val (.int p1), .val (.int p2), .val (.int (4 : Int32)), .val (.int (1 : Int32)), .val (.ref w_TIMESTAMP), .val (.ref w_DECIMAL), .val (.int (0 : Int32))] [(.ref w_DECIMAL), (.ref w_TIMESTAMP)])) rfl (by rw [hml]; rfl) (Steps.refl _) (argsL := [(.ref w_DECIMAL)]) (rest := []) (lenOf pd__Lcom_example_kilit_kilit_ValueType__Z rfl) rfl (by show 2 * 0 + _ ≤ _; exact Nat.le_of_eq rfl) (hb hby at_69) (fun _ _ => ⟨rfl, ek4, (by decide : 0 + 0 ≤ _), (by decide : 0 + 0 ≤ _)⟩)
      dsimp only [Pt.U, Pt.locs, Pt.cells, Pt.slots] at Xk35 lk35 yk35 zk35 stk35 hQk35
      subst lk35 yk35 zk35
      obtain ⟨rfl, Nk35q, ek35⟩ := hQk35
      have Nk35 := Fr.app Nk4 Nk35q
      obtain ⟨fs, hlv, hrun, hended, hW, hsame⟩ := Xk35.leave (v := some (.int (1 : Int32))) (fun h => by rw [hret] at h; cases h)
      refine ⟨_, _, r5 _ ?_, hrun, hended, _, _, rfl, ?_, ⟨_, rfl⟩, hW, hsame.mono (by decide) (by decide)⟩
      · refine XS.iloadN Xk4.here hx rfl (hb hby at_28) rfl ?_
        show Sp p e below Tk4 (mkF m 29 #[.val (.int p1), .val (.int p2), .val (.int (4 : Int32)), .val (.int (1 : Int32)), .val (.ref w_TIMESTAMP), .val (.ref w_DECIMAL), .unset] [(.int (4 : Int32))]) _
        refine XS.iloadN Xk4.here hx rfl (hb hby at_29) rfl ?_
        show Sp p e below Tk4 (mkF m 30 #[.val (.int p1), .val (.int p2), .val (.int (4 : Int32)), .val (.int (1 : Int32)), .val (.ref w_TIMESTAMP), .val (.ref w_DECIMAL), .unset] [(.int (1 : Int32)), (.int (4 : Int32))]) _
        refine XS.icmpNo Xk4.here hx rfl (hb hby at_30) rfl (feq (by decide : ¬ ((4 : Int32) = (1 : Int32)))).1 ?_
        show Sp p e below Tk4 (mkF m 33 #[.val (.int p1), .val (.int p2), .val (.int (4 : Int32)), .val (.int (1 : Int32)), .val (.ref w_TIMESTAMP), .val (.ref w_DECIMAL), .unset] []) _
        refine XS.iloadN Xk4.here hx rfl (hb hby at_33) rfl ?_
        show Sp p e below Tk4 (mkF m 34 #[.val (.int p1), .val (.int p2), .val (.int (4 : Int32)), .val (.int (1 : Int32)), .val (.ref w_TIMESTAMP), .val (.ref w_DECIMAL), .unset] [(.int (1 : Int32))]) _
        refine XS.bipush Xk4.here hx rfl (hb hby at_34) ?_
        show Sp p e below Tk4 (mkF m 36 #[.val (.int p1), .val (.int p2), .val (.int (4 : Int32)), .val (.int (1 : Int32)), .val (.ref w_TIMESTAMP), .val (.ref w_DECIMAL), .unset] [(.int (6 : Int32)), (.int (1 : Int32))]) _
        refine XS.icmpNo Xk4.here hx rfl (hb hby at_36) rfl (feq (by decide : ¬ ((1 : Int32) = (6 : Int32)))).1 ?_
        show Sp p e below Tk4 (mkF m 39 #[.val (.int p1), .val (.int p2), .val (.int (4 : Int32)), .val (.int (1 : Int32)), .val (.ref w_TIMESTAMP), .val (.ref w_DECIMAL), .unset] []) _
        refine XS.iloadN Xk4.here hx rfl (hb hby at_39) rfl ?_
        show Sp p e below Tk4 (mkF m 40 #[.val (.int p1), .val (.int p2), .val (.int (4 : Int32)), .val (.int (1 : Int32)), .val (.ref w_TIMESTAMP), .val (.ref w_DECIMAL), .unset] [(.int (4 : Int32))]) _
        refine XS.iconst Xk4.here hx rfl (hb hby at_40) ?_
        show Sp p e below Tk4 (mkF m 41 #[.val (.int p1), .val (.int p2), .val (.int (4 : Int32)), .val (.int (1 : Int32)), .val (.ref w_TIMESTAMP), .val (.ref w_DECIMAL), .unset] [(.int (1 : Int32)), (.int (4 : Int32))]) _
        refine XS.icmpYes Xk4.here hx rfl (pc0 := 41) (pc' := 48) rfl (hb hby at_41) rfl (feq (by decide : ¬ ((4 : Int32) = (1 : Int32)))).2 (by decide) (by decide) ?_
        show Sp p e below Tk4 (mkF m 48 #[.val (.int p1), .val (.int p2), .val (.int (4 : Int32)), .val (.int (1 : Int32)), .val (.ref w_TIMESTAMP), .val (.ref w_DECIMAL), .unset] []) _
        refine XS.iloadN Xk4.here hx rfl (hb hby at_48) rfl ?_
        show Sp p e below Tk4 (mkF m 49 #[.val (.int p1), .val (.int p2), .val (.int (4 : Int32)), .val (.int (1 : Int32)), .val (.ref w_TIMESTAMP), .val (.ref w_DECIMAL), .unset] [(.int (4 : Int32))]) _
        refine XS.iconst Xk4.here hx rfl (hb hby at_49) ?_
        show Sp p e below Tk4 (mkF m 50 #[.val (.int p1), .val (.int p2), .val (.int (4 : Int32)), .val (.int (1 : Int32)), .val (.ref w_TIMESTAMP), .val (.ref w_DECIMAL), .unset] [(.int (4 : Int32)), (.int (4 : Int32))]) _
        refine XS.icmpNo Xk4.here hx rfl (hb hby at_50) rfl (teq (by decide : (4 : Int32) = (4 : Int32))).2 ?_
        show Sp p e below Tk4 (mkF m 53 #[.val (.int p1), .val (.int p2), .val (.int (4 : Int32)), .val (.int (1 : Int32)), .val (.ref w_TIMESTAMP), .val (.ref w_DECIMAL), .unset] []) _
        refine XS.iloadN Xk4.here hx rfl (hb hby at_53) rfl ?_
        show Sp p e below Tk4 (mkF m 54 #[.val (.int p1), .val (.int p2), .val (.int (4 : Int32)), .val (.int (1 : Int32)), .val (.ref w_TIMESTAMP), .val (.ref w_DECIMAL), .unset] [(.int (1 : Int32))]) _
        refine XS.iconst Xk4.here hx rfl (hb hby at_54) ?_
        show Sp p e below Tk4 (mkF m 55 #[.val (.int p1), .val (.int p2), .val (.int (4 : Int32)), .val (.int (1 : Int32)), .val (.ref w_TIMESTAMP), .val (.ref w_DECIMAL), .unset] [(.int (3 : Int32)), (.int (1 : Int32))]) _
        refine XS.icmpYes Xk4.here hx rfl (pc0 := 55) (pc' := 62) rfl (hb hby at_55) rfl (feq (by decide : ¬ ((1 : Int32) = (3 : Int32)))).2 (by decide) (by decide) ?_
        show Sp p e below Tk4 (mkF m 62 #[.val (.int p1), .val (.int p2), .val (.int (4 : Int32)), .val (.int (1 : Int32)), .val (.ref w_TIMESTAMP), .val (.ref w_DECIMAL), .unset] []) _
        refine XS.iconst Xk4.here hx rfl (hb hby at_62) ?_
        show Sp p e below Tk4 (mkF m 63 #[.val (.int p1), .val (.int p2), .val (.int (4 : Int32)), .val (.int (1 : Int32)), .val (.ref w_TIMESTAMP), .val (.ref w_DECIMAL), .unset] [(.int (0 : Int32))]) _
        refine XS.istore Xk4.here hx rfl (hb hby at_63) rfl (l' := #[.val (.int p1), .val (.int p2), .val (.int (4 : Int32)), .val (.int (1 : Int32)), .val (.ref w_TIMESTAMP), .val (.ref w_DECIMAL), .val (.int (0 : Int32))]) rfl ?_
        show Sp p e below Tk4 (mkF m 65 #[.val (.int p1), .val (.int p2), .val (.int (4 : Int32)), .val (.int (1 : Int32)), .val (.ref w_TIMESTAMP), .val (.ref w_DECIMAL), .val (.int (0 : Int32))] []) _
        refine XS.aload Xk4.here hx rfl (hb hby at_65) rfl rfl ?_
        show Sp p e below Tk4 (mkF m 67 #[.val (.int p1), .val (.int p2), .val (.int (4 : Int32)), .val (.int (1 : Int32)), .val (.ref w_TIMESTAMP), .val (.ref w_DECIMAL), .val (.int (0 : Int32))] [(.ref w_TIMESTAMP)]) _
        refine XS.aload Xk4.here hx rfl (hb hby at_67) rfl rfl ?_
        show Sp p e below Tk4 (mkF m 69 #[.val (.int p1), .val (.int p2), .val (.int (4 : Int32)), .val (.int (1 : Int32)), .val (.ref w_TIMESTAMP), .val (.ref w_DECIMAL), .val (.int (0 : Int32))] [(.ref w_DECIMAL), (.ref w_TIMESTAMP)]) _
        refine stk35.trans ?_
        show Sp p e below Tk35 (mkF m 72 #[.val (.int p1), .val (.int p2), .val (.int (4 : Int32)), .val (.int (1 : Int32)), .val (.ref w_TIMESTAMP), .val (.ref w_DECIMAL), .val (.int (0 : Int32))] [(.int (0 : Int32))]) _
        refine XS.iload Xk35.here hx rfl (hb hby at_72) rfl ?_
        show Sp p e below Tk35 (mkF m 74 #[.val (.int p1), .val (.int p2), .val (.int (4 : Int32)), .val (.int (1 : Int32)), .val (.ref w_TIMESTAMP), .val (.ref w_DECIMAL), .val (.int (0 : Int32))] [(.int (0 : Int32)), (.int (0 : Int32))]) _
        refine XS.icmpNo Xk35.here hx rfl (hb hby at_74) rfl (teq (by decide : (0 : Int32) = (0 : Int32))).2 ?_
        show Sp p e below Tk35 (mkF m 77 #[.val (.int p1), .val (.int p2), .val (.int (4 : Int32)), .val (.int (1 : Int32)), .val (.ref w_TIMESTAMP), .val (.ref w_DECIMAL), .val (.int (0 : Int32))] []) _
        refine XS.iconst Xk35.here hx rfl (hb hby at_77) ?_
        show Sp p e below Tk35 (mkF m 78 #[.val (.int p1), .val (.int p2), .val (.int (4 : Int32)), .val (.int (1 : Int32)), .val (.ref w_TIMESTAMP), .val (.ref w_DECIMAL), .val (.int (0 : Int32))] [(.int (1 : Int32))]) _
        refine XS.goto Xk35.here hx rfl (pc0 := 78) (pc' := 82) rfl (hb hby at_78) (by decide) (by decide) ?_
        show Sp p e below Tk35 (mkF m 82 #[.val (.int p1), .val (.int p2), .val (.int (4 : Int32)), .val (.int (1 : Int32)), .val (.ref w_TIMESTAMP), .val (.ref w_DECIMAL), .val (.int (0 : Int32))] [(.int (1 : Int32))]) _
        exact retN Xk35 hx (t := .boolean) hret (by simp) (hb hby at_82) hlv
      · show Q_law Z p1 p2 w_INTEGER w_DECIMAL w_VARCHAR w_DATE w_TIMESTAMP w_BOOLEAN w_NULL h0 n0 _ Tk35.heap _
        rw [ek35]
        exact ⟨rfl, Nk35⟩
    · have hrj : rj = w_VARCHAR := by rw [hpj]; simp [hj]
      rw [hi, hj, hri, hrj] at r5
      obtain ⟨cqk36, kqk36, qk36a, qk36b, qk36c⟩ := isOf hZ ek4 E_TIMESTAMP
      obtain ⟨_, _, ⟨Tk36, Lk36, kk36, nk36⟩, -, Xk36, ⟨Lck36, hQk36, lk36, yk36, zk36⟩, stk36⟩ := Xk4.virtualBack hx (y := (⟨"com/example/kilit/kilit/ValueType", "includes", "(Lcom/example/kilit/kilit/ValueType;)Z"⟩ : MethodName)) (z := (⟨"com/example/kilit/kilit/ValueType$5", "includes", "(Lcom/example/kilit/kilit/ValueType;)Z"⟩ : MethodName)) hown (mvT hZ (hw _ (List.mem_of_getElem? (i := 10) rfl))) (mvT hZ (hw _ (List.mem_of_getElem? (i := 11) rfl))) (notFace_of_selects (args := #[]) (mvT hZ (hw _ (List.mem_of_getElem? (i := 13) rfl)))) (mvT hZ (hw _ (List.mem_of_getElem? (i := 34) rfl))) (mvT hZ (hw _ (List.mem_of_getElem? (i := 35) rfl))) (by decide) (backOf (W := 0) (rm_inc5 l Z a0 hw [] w_TIMESTAMP w_VARCHAR w_DATE w_NULL (0 : Int32) h0 n0 Z0 S_DATE S_NULL E_TIMESTAMP (by simp [n_VARCHAR_TIMESTAMP, n_VARCHAR_NULL, n_VARCHAR_INTEGER, n_VARCHAR_DATE])) hZ (hw _ (List.mem_of_getElem? (i := 37) rfl)) (hw _ (List.mem_of_getElem? (i := 36) rfl)) (by decide) (by decide)) qk36a qk36c (g := (mkF m 69 #[.val (.int p1), .val (.int p2), .val (.int (4 : Int32)), .val (.int (2 : Int32)), .val (.ref w_TIMESTAMP), .val (.ref w_VARCHAR), .val (.int (0 : Int32))] [(.ref w_VARCHAR), (.ref w_TIMESTAMP)])) rfl (by rw [hml]; rfl) (Steps.refl _) (argsL := [(.ref w_VARCHAR)]) (rest := []) (lenOf pd__Lcom_example_kilit_kilit_ValueType__Z rfl) rfl (by show 2 * 0 + _ ≤ _; exact Nat.le_of_eq rfl) (hb hby at_69) (fun _ _ => ⟨rfl, ek4, (by decide : 0 + 0 ≤ _), (by decide : 0 + 0 ≤ _)⟩)
      dsimp only [Pt.U, Pt.locs, Pt.cells, Pt.slots] at Xk36 lk36 yk36 zk36 stk36 hQk36
      subst lk36 yk36 zk36
      obtain ⟨rfl, Nk36q, ek36⟩ := hQk36
      have Nk36 := Fr.app Nk4 Nk36q
      obtain ⟨fs, hlv, hrun, hended, hW, hsame⟩ := Xk36.leave (v := some (.int (1 : Int32))) (fun h => by rw [hret] at h; cases h)
      refine ⟨_, _, r5 _ ?_, hrun, hended, _, _, rfl, ?_, ⟨_, rfl⟩, hW, hsame.mono (by decide) (by decide)⟩
      · refine XS.iloadN Xk4.here hx rfl (hb hby at_28) rfl ?_
        show Sp p e below Tk4 (mkF m 29 #[.val (.int p1), .val (.int p2), .val (.int (4 : Int32)), .val (.int (2 : Int32)), .val (.ref w_TIMESTAMP), .val (.ref w_VARCHAR), .unset] [(.int (4 : Int32))]) _
        refine XS.iloadN Xk4.here hx rfl (hb hby at_29) rfl ?_
        show Sp p e below Tk4 (mkF m 30 #[.val (.int p1), .val (.int p2), .val (.int (4 : Int32)), .val (.int (2 : Int32)), .val (.ref w_TIMESTAMP), .val (.ref w_VARCHAR), .unset] [(.int (2 : Int32)), (.int (4 : Int32))]) _
        refine XS.icmpNo Xk4.here hx rfl (hb hby at_30) rfl (feq (by decide : ¬ ((4 : Int32) = (2 : Int32)))).1 ?_
        show Sp p e below Tk4 (mkF m 33 #[.val (.int p1), .val (.int p2), .val (.int (4 : Int32)), .val (.int (2 : Int32)), .val (.ref w_TIMESTAMP), .val (.ref w_VARCHAR), .unset] []) _
        refine XS.iloadN Xk4.here hx rfl (hb hby at_33) rfl ?_
        show Sp p e below Tk4 (mkF m 34 #[.val (.int p1), .val (.int p2), .val (.int (4 : Int32)), .val (.int (2 : Int32)), .val (.ref w_TIMESTAMP), .val (.ref w_VARCHAR), .unset] [(.int (2 : Int32))]) _
        refine XS.bipush Xk4.here hx rfl (hb hby at_34) ?_
        show Sp p e below Tk4 (mkF m 36 #[.val (.int p1), .val (.int p2), .val (.int (4 : Int32)), .val (.int (2 : Int32)), .val (.ref w_TIMESTAMP), .val (.ref w_VARCHAR), .unset] [(.int (6 : Int32)), (.int (2 : Int32))]) _
        refine XS.icmpNo Xk4.here hx rfl (hb hby at_36) rfl (feq (by decide : ¬ ((2 : Int32) = (6 : Int32)))).1 ?_
        show Sp p e below Tk4 (mkF m 39 #[.val (.int p1), .val (.int p2), .val (.int (4 : Int32)), .val (.int (2 : Int32)), .val (.ref w_TIMESTAMP), .val (.ref w_VARCHAR), .unset] []) _
        refine XS.iloadN Xk4.here hx rfl (hb hby at_39) rfl ?_
        show Sp p e below Tk4 (mkF m 40 #[.val (.int p1), .val (.int p2), .val (.int (4 : Int32)), .val (.int (2 : Int32)), .val (.ref w_TIMESTAMP), .val (.ref w_VARCHAR), .unset] [(.int (4 : Int32))]) _
        refine XS.iconst Xk4.here hx rfl (hb hby at_40) ?_
        show Sp p e below Tk4 (mkF m 41 #[.val (.int p1), .val (.int p2), .val (.int (4 : Int32)), .val (.int (2 : Int32)), .val (.ref w_TIMESTAMP), .val (.ref w_VARCHAR), .unset] [(.int (1 : Int32)), (.int (4 : Int32))]) _
        refine XS.icmpYes Xk4.here hx rfl (pc0 := 41) (pc' := 48) rfl (hb hby at_41) rfl (feq (by decide : ¬ ((4 : Int32) = (1 : Int32)))).2 (by decide) (by decide) ?_
        show Sp p e below Tk4 (mkF m 48 #[.val (.int p1), .val (.int p2), .val (.int (4 : Int32)), .val (.int (2 : Int32)), .val (.ref w_TIMESTAMP), .val (.ref w_VARCHAR), .unset] []) _
        refine XS.iloadN Xk4.here hx rfl (hb hby at_48) rfl ?_
        show Sp p e below Tk4 (mkF m 49 #[.val (.int p1), .val (.int p2), .val (.int (4 : Int32)), .val (.int (2 : Int32)), .val (.ref w_TIMESTAMP), .val (.ref w_VARCHAR), .unset] [(.int (4 : Int32))]) _
        refine XS.iconst Xk4.here hx rfl (hb hby at_49) ?_
        show Sp p e below Tk4 (mkF m 50 #[.val (.int p1), .val (.int p2), .val (.int (4 : Int32)), .val (.int (2 : Int32)), .val (.ref w_TIMESTAMP), .val (.ref w_VARCHAR), .unset] [(.int (4 : Int32)), (.int (4 : Int32))]) _
        refine XS.icmpNo Xk4.here hx rfl (hb hby at_50) rfl (teq (by decide : (4 : Int32) = (4 : Int32))).2 ?_
        show Sp p e below Tk4 (mkF m 53 #[.val (.int p1), .val (.int p2), .val (.int (4 : Int32)), .val (.int (2 : Int32)), .val (.ref w_TIMESTAMP), .val (.ref w_VARCHAR), .unset] []) _
        refine XS.iloadN Xk4.here hx rfl (hb hby at_53) rfl ?_
        show Sp p e below Tk4 (mkF m 54 #[.val (.int p1), .val (.int p2), .val (.int (4 : Int32)), .val (.int (2 : Int32)), .val (.ref w_TIMESTAMP), .val (.ref w_VARCHAR), .unset] [(.int (2 : Int32))]) _
        refine XS.iconst Xk4.here hx rfl (hb hby at_54) ?_
        show Sp p e below Tk4 (mkF m 55 #[.val (.int p1), .val (.int p2), .val (.int (4 : Int32)), .val (.int (2 : Int32)), .val (.ref w_TIMESTAMP), .val (.ref w_VARCHAR), .unset] [(.int (3 : Int32)), (.int (2 : Int32))]) _
        refine XS.icmpYes Xk4.here hx rfl (pc0 := 55) (pc' := 62) rfl (hb hby at_55) rfl (feq (by decide : ¬ ((2 : Int32) = (3 : Int32)))).2 (by decide) (by decide) ?_
        show Sp p e below Tk4 (mkF m 62 #[.val (.int p1), .val (.int p2), .val (.int (4 : Int32)), .val (.int (2 : Int32)), .val (.ref w_TIMESTAMP), .val (.ref w_VARCHAR), .unset] []) _
        refine XS.iconst Xk4.here hx rfl (hb hby at_62) ?_
        show Sp p e below Tk4 (mkF m 63 #[.val (.int p1), .val (.int p2), .val (.int (4 : Int32)), .val (.int (2 : Int32)), .val (.ref w_TIMESTAMP), .val (.ref w_VARCHAR), .unset] [(.int (0 : Int32))]) _
        refine XS.istore Xk4.here hx rfl (hb hby at_63) rfl (l' := #[.val (.int p1), .val (.int p2), .val (.int (4 : Int32)), .val (.int (2 : Int32)), .val (.ref w_TIMESTAMP), .val (.ref w_VARCHAR), .val (.int (0 : Int32))]) rfl ?_
        show Sp p e below Tk4 (mkF m 65 #[.val (.int p1), .val (.int p2), .val (.int (4 : Int32)), .val (.int (2 : Int32)), .val (.ref w_TIMESTAMP), .val (.ref w_VARCHAR), .val (.int (0 : Int32))] []) _
        refine XS.aload Xk4.here hx rfl (hb hby at_65) rfl rfl ?_
        show Sp p e below Tk4 (mkF m 67 #[.val (.int p1), .val (.int p2), .val (.int (4 : Int32)), .val (.int (2 : Int32)), .val (.ref w_TIMESTAMP), .val (.ref w_VARCHAR), .val (.int (0 : Int32))] [(.ref w_TIMESTAMP)]) _
        refine XS.aload Xk4.here hx rfl (hb hby at_67) rfl rfl ?_
        show Sp p e below Tk4 (mkF m 69 #[.val (.int p1), .val (.int p2), .val (.int (4 : Int32)), .val (.int (2 : Int32)), .val (.ref w_TIMESTAMP), .val (.ref w_VARCHAR), .val (.int (0 : Int32))] [(.ref w_VARCHAR), (.ref w_TIMESTAMP)]) _
        refine stk36.trans ?_
        show Sp p e below Tk36 (mkF m 72 #[.val (.int p1), .val (.int p2), .val (.int (4 : Int32)), .val (.int (2 : Int32)), .val (.ref w_TIMESTAMP), .val (.ref w_VARCHAR), .val (.int (0 : Int32))] [(.int (0 : Int32))]) _
        refine XS.iload Xk36.here hx rfl (hb hby at_72) rfl ?_
        show Sp p e below Tk36 (mkF m 74 #[.val (.int p1), .val (.int p2), .val (.int (4 : Int32)), .val (.int (2 : Int32)), .val (.ref w_TIMESTAMP), .val (.ref w_VARCHAR), .val (.int (0 : Int32))] [(.int (0 : Int32)), (.int (0 : Int32))]) _
        refine XS.icmpNo Xk36.here hx rfl (hb hby at_74) rfl (teq (by decide : (0 : Int32) = (0 : Int32))).2 ?_
        show Sp p e below Tk36 (mkF m 77 #[.val (.int p1), .val (.int p2), .val (.int (4 : Int32)), .val (.int (2 : Int32)), .val (.ref w_TIMESTAMP), .val (.ref w_VARCHAR), .val (.int (0 : Int32))] []) _
        refine XS.iconst Xk36.here hx rfl (hb hby at_77) ?_
        show Sp p e below Tk36 (mkF m 78 #[.val (.int p1), .val (.int p2), .val (.int (4 : Int32)), .val (.int (2 : Int32)), .val (.ref w_TIMESTAMP), .val (.ref w_VARCHAR), .val (.int (0 : Int32))] [(.int (1 : Int32))]) _
        refine XS.goto Xk36.here hx rfl (pc0 := 78) (pc' := 82) rfl (hb hby at_78) (by decide) (by decide) ?_
        show Sp p e below Tk36 (mkF m 82 #[.val (.int p1), .val (.int p2), .val (.int (4 : Int32)), .val (.int (2 : Int32)), .val (.ref w_TIMESTAMP), .val (.ref w_VARCHAR), .val (.int (0 : Int32))] [(.int (1 : Int32))]) _
        exact retN Xk36 hx (t := .boolean) hret (by simp) (hb hby at_82) hlv
      · show Q_law Z p1 p2 w_INTEGER w_DECIMAL w_VARCHAR w_DATE w_TIMESTAMP w_BOOLEAN w_NULL h0 n0 _ Tk36.heap _
        rw [ek36]
        exact ⟨rfl, Nk36⟩
    · have hrj : rj = w_DATE := by rw [hpj]; simp [hj]
      rw [hi, hj, hri, hrj] at r5
      obtain ⟨cqk37, kqk37, qk37a, qk37b, qk37c⟩ := isOf hZ ek4 E_TIMESTAMP
      obtain ⟨_, _, ⟨Tk37, Lk37, kk37, nk37⟩, -, Xk37, ⟨Lck37, hQk37, lk37, yk37, zk37⟩, stk37⟩ := Xk4.virtualBack hx (y := (⟨"com/example/kilit/kilit/ValueType", "includes", "(Lcom/example/kilit/kilit/ValueType;)Z"⟩ : MethodName)) (z := (⟨"com/example/kilit/kilit/ValueType$5", "includes", "(Lcom/example/kilit/kilit/ValueType;)Z"⟩ : MethodName)) hown (mvT hZ (hw _ (List.mem_of_getElem? (i := 10) rfl))) (mvT hZ (hw _ (List.mem_of_getElem? (i := 11) rfl))) (notFace_of_selects (args := #[]) (mvT hZ (hw _ (List.mem_of_getElem? (i := 13) rfl)))) (mvT hZ (hw _ (List.mem_of_getElem? (i := 34) rfl))) (mvT hZ (hw _ (List.mem_of_getElem? (i := 35) rfl))) (by decide) (backOf (W := 0) (rm_inc5 l Z a0 hw [] w_TIMESTAMP w_DATE w_DATE w_NULL (1 : Int32) h0 n0 Z0 S_DATE S_NULL E_TIMESTAMP (by simp [n_DATE_TIMESTAMP, n_DATE_NULL, n_DATE_INTEGER])) hZ (hw _ (List.mem_of_getElem? (i := 37) rfl)) (hw _ (List.mem_of_getElem? (i := 36) rfl)) (by decide) (by decide)) qk37a qk37c (g := (mkF m 69 #[.val (.int p1), .val (.int p2), .val (.int (4 : Int32)), .val (.int (3 : Int32)), .val (.ref w_TIMESTAMP), .val (.ref w_DATE), .val (.int (1 : Int32))] [(.ref w_DATE), (.ref w_TIMESTAMP)])) rfl (by rw [hml]; rfl) (Steps.refl _) (argsL := [(.ref w_DATE)]) (rest := []) (lenOf pd__Lcom_example_kilit_kilit_ValueType__Z rfl) rfl (by show 2 * 0 + _ ≤ _; exact Nat.le_of_eq rfl) (hb hby at_69) (fun _ _ => ⟨rfl, ek4, (by decide : 0 + 0 ≤ _), (by decide : 0 + 0 ≤ _)⟩)
      dsimp only [Pt.U, Pt.locs, Pt.cells, Pt.slots] at Xk37 lk37 yk37 zk37 stk37 hQk37
      subst lk37 yk37 zk37
      obtain ⟨rfl, Nk37q, ek37⟩ := hQk37
      have Nk37 := Fr.app Nk4 Nk37q
      obtain ⟨fs, hlv, hrun, hended, hW, hsame⟩ := Xk37.leave (v := some (.int (1 : Int32))) (fun h => by rw [hret] at h; cases h)
      refine ⟨_, _, r5 _ ?_, hrun, hended, _, _, rfl, ?_, ⟨_, rfl⟩, hW, hsame.mono (by decide) (by decide)⟩
      · refine XS.iloadN Xk4.here hx rfl (hb hby at_28) rfl ?_
        show Sp p e below Tk4 (mkF m 29 #[.val (.int p1), .val (.int p2), .val (.int (4 : Int32)), .val (.int (3 : Int32)), .val (.ref w_TIMESTAMP), .val (.ref w_DATE), .unset] [(.int (4 : Int32))]) _
        refine XS.iloadN Xk4.here hx rfl (hb hby at_29) rfl ?_
        show Sp p e below Tk4 (mkF m 30 #[.val (.int p1), .val (.int p2), .val (.int (4 : Int32)), .val (.int (3 : Int32)), .val (.ref w_TIMESTAMP), .val (.ref w_DATE), .unset] [(.int (3 : Int32)), (.int (4 : Int32))]) _
        refine XS.icmpNo Xk4.here hx rfl (hb hby at_30) rfl (feq (by decide : ¬ ((4 : Int32) = (3 : Int32)))).1 ?_
        show Sp p e below Tk4 (mkF m 33 #[.val (.int p1), .val (.int p2), .val (.int (4 : Int32)), .val (.int (3 : Int32)), .val (.ref w_TIMESTAMP), .val (.ref w_DATE), .unset] []) _
        refine XS.iloadN Xk4.here hx rfl (hb hby at_33) rfl ?_
        show Sp p e below Tk4 (mkF m 34 #[.val (.int p1), .val (.int p2), .val (.int (4 : Int32)), .val (.int (3 : Int32)), .val (.ref w_TIMESTAMP), .val (.ref w_DATE), .unset] [(.int (3 : Int32))]) _
        refine XS.bipush Xk4.here hx rfl (hb hby at_34) ?_
        show Sp p e below Tk4 (mkF m 36 #[.val (.int p1), .val (.int p2), .val (.int (4 : Int32)), .val (.int (3 : Int32)), .val (.ref w_TIMESTAMP), .val (.ref w_DATE), .unset] [(.int (6 : Int32)), (.int (3 : Int32))]) _
        refine XS.icmpNo Xk4.here hx rfl (hb hby at_36) rfl (feq (by decide : ¬ ((3 : Int32) = (6 : Int32)))).1 ?_
        show Sp p e below Tk4 (mkF m 39 #[.val (.int p1), .val (.int p2), .val (.int (4 : Int32)), .val (.int (3 : Int32)), .val (.ref w_TIMESTAMP), .val (.ref w_DATE), .unset] []) _
        refine XS.iloadN Xk4.here hx rfl (hb hby at_39) rfl ?_
        show Sp p e below Tk4 (mkF m 40 #[.val (.int p1), .val (.int p2), .val (.int (4 : Int32)), .val (.int (3 : Int32)), .val (.ref w_TIMESTAMP), .val (.ref w_DATE), .unset] [(.int (4 : Int32))]) _
        refine XS.iconst Xk4.here hx rfl (hb hby at_40) ?_
        show Sp p e below Tk4 (mkF m 41 #[.val (.int p1), .val (.int p2), .val (.int (4 : Int32)), .val (.int (3 : Int32)), .val (.ref w_TIMESTAMP), .val (.ref w_DATE), .unset] [(.int (1 : Int32)), (.int (4 : Int32))]) _
        refine XS.icmpYes Xk4.here hx rfl (pc0 := 41) (pc' := 48) rfl (hb hby at_41) rfl (feq (by decide : ¬ ((4 : Int32) = (1 : Int32)))).2 (by decide) (by decide) ?_
        show Sp p e below Tk4 (mkF m 48 #[.val (.int p1), .val (.int p2), .val (.int (4 : Int32)), .val (.int (3 : Int32)), .val (.ref w_TIMESTAMP), .val (.ref w_DATE), .unset] []) _
        refine XS.iloadN Xk4.here hx rfl (hb hby at_48) rfl ?_
        show Sp p e below Tk4 (mkF m 49 #[.val (.int p1), .val (.int p2), .val (.int (4 : Int32)), .val (.int (3 : Int32)), .val (.ref w_TIMESTAMP), .val (.ref w_DATE), .unset] [(.int (4 : Int32))]) _
        refine XS.iconst Xk4.here hx rfl (hb hby at_49) ?_
        show Sp p e below Tk4 (mkF m 50 #[.val (.int p1), .val (.int p2), .val (.int (4 : Int32)), .val (.int (3 : Int32)), .val (.ref w_TIMESTAMP), .val (.ref w_DATE), .unset] [(.int (4 : Int32)), (.int (4 : Int32))]) _
        refine XS.icmpNo Xk4.here hx rfl (hb hby at_50) rfl (teq (by decide : (4 : Int32) = (4 : Int32))).2 ?_
        show Sp p e below Tk4 (mkF m 53 #[.val (.int p1), .val (.int p2), .val (.int (4 : Int32)), .val (.int (3 : Int32)), .val (.ref w_TIMESTAMP), .val (.ref w_DATE), .unset] []) _
        refine XS.iloadN Xk4.here hx rfl (hb hby at_53) rfl ?_
        show Sp p e below Tk4 (mkF m 54 #[.val (.int p1), .val (.int p2), .val (.int (4 : Int32)), .val (.int (3 : Int32)), .val (.ref w_TIMESTAMP), .val (.ref w_DATE), .unset] [(.int (3 : Int32))]) _
        refine XS.iconst Xk4.here hx rfl (hb hby at_54) ?_
        show Sp p e below Tk4 (mkF m 55 #[.val (.int p1), .val (.int p2), .val (.int (4 : Int32)), .val (.int (3 : Int32)), .val (.ref w_TIMESTAMP), .val (.ref w_DATE), .unset] [(.int (3 : Int32)), (.int (3 : Int32))]) _
        refine XS.icmpNo Xk4.here hx rfl (hb hby at_55) rfl (teq (by decide : (3 : Int32) = (3 : Int32))).2 ?_
        show Sp p e below Tk4 (mkF m 58 #[.val (.int p1), .val (.int p2), .val (.int (4 : Int32)), .val (.int (3 : Int32)), .val (.ref w_TIMESTAMP), .val (.ref w_DATE), .unset] []) _
        refine XS.iconst Xk4.here hx rfl (hb hby at_58) ?_
        show Sp p e below Tk4 (mkF m 59 #[.val (.int p1), .val (.int p2), .val (.int (4 : Int32)), .val (.int (3 : Int32)), .val (.ref w_TIMESTAMP), .val (.ref w_DATE), .unset] [(.int (1 : Int32))]) _
        refine XS.goto Xk4.here hx rfl (pc0 := 59) (pc' := 63) rfl (hb hby at_59) (by decide) (by decide) ?_
        show Sp p e below Tk4 (mkF m 63 #[.val (.int p1), .val (.int p2), .val (.int (4 : Int32)), .val (.int (3 : Int32)), .val (.ref w_TIMESTAMP), .val (.ref w_DATE), .unset] [(.int (1 : Int32))]) _
        refine XS.istore Xk4.here hx rfl (hb hby at_63) rfl (l' := #[.val (.int p1), .val (.int p2), .val (.int (4 : Int32)), .val (.int (3 : Int32)), .val (.ref w_TIMESTAMP), .val (.ref w_DATE), .val (.int (1 : Int32))]) rfl ?_
        show Sp p e below Tk4 (mkF m 65 #[.val (.int p1), .val (.int p2), .val (.int (4 : Int32)), .val (.int (3 : Int32)), .val (.ref w_TIMESTAMP), .val (.ref w_DATE), .val (.int (1 : Int32))] []) _
        refine XS.aload Xk4.here hx rfl (hb hby at_65) rfl rfl ?_
        show Sp p e below Tk4 (mkF m 67 #[.val (.int p1), .val (.int p2), .val (.int (4 : Int32)), .val (.int (3 : Int32)), .val (.ref w_TIMESTAMP), .val (.ref w_DATE), .val (.int (1 : Int32))] [(.ref w_TIMESTAMP)]) _
        refine XS.aload Xk4.here hx rfl (hb hby at_67) rfl rfl ?_
        show Sp p e below Tk4 (mkF m 69 #[.val (.int p1), .val (.int p2), .val (.int (4 : Int32)), .val (.int (3 : Int32)), .val (.ref w_TIMESTAMP), .val (.ref w_DATE), .val (.int (1 : Int32))] [(.ref w_DATE), (.ref w_TIMESTAMP)]) _
        refine stk37.trans ?_
        show Sp p e below Tk37 (mkF m 72 #[.val (.int p1), .val (.int p2), .val (.int (4 : Int32)), .val (.int (3 : Int32)), .val (.ref w_TIMESTAMP), .val (.ref w_DATE), .val (.int (1 : Int32))] [(.int (1 : Int32))]) _
        refine XS.iload Xk37.here hx rfl (hb hby at_72) rfl ?_
        show Sp p e below Tk37 (mkF m 74 #[.val (.int p1), .val (.int p2), .val (.int (4 : Int32)), .val (.int (3 : Int32)), .val (.ref w_TIMESTAMP), .val (.ref w_DATE), .val (.int (1 : Int32))] [(.int (1 : Int32)), (.int (1 : Int32))]) _
        refine XS.icmpNo Xk37.here hx rfl (hb hby at_74) rfl (teq (by decide : (1 : Int32) = (1 : Int32))).2 ?_
        show Sp p e below Tk37 (mkF m 77 #[.val (.int p1), .val (.int p2), .val (.int (4 : Int32)), .val (.int (3 : Int32)), .val (.ref w_TIMESTAMP), .val (.ref w_DATE), .val (.int (1 : Int32))] []) _
        refine XS.iconst Xk37.here hx rfl (hb hby at_77) ?_
        show Sp p e below Tk37 (mkF m 78 #[.val (.int p1), .val (.int p2), .val (.int (4 : Int32)), .val (.int (3 : Int32)), .val (.ref w_TIMESTAMP), .val (.ref w_DATE), .val (.int (1 : Int32))] [(.int (1 : Int32))]) _
        refine XS.goto Xk37.here hx rfl (pc0 := 78) (pc' := 82) rfl (hb hby at_78) (by decide) (by decide) ?_
        show Sp p e below Tk37 (mkF m 82 #[.val (.int p1), .val (.int p2), .val (.int (4 : Int32)), .val (.int (3 : Int32)), .val (.ref w_TIMESTAMP), .val (.ref w_DATE), .val (.int (1 : Int32))] [(.int (1 : Int32))]) _
        exact retN Xk37 hx (t := .boolean) hret (by simp) (hb hby at_82) hlv
      · show Q_law Z p1 p2 w_INTEGER w_DECIMAL w_VARCHAR w_DATE w_TIMESTAMP w_BOOLEAN w_NULL h0 n0 _ Tk37.heap _
        rw [ek37]
        exact ⟨rfl, Nk37⟩
    · have hrj : rj = w_TIMESTAMP := by rw [hpj]; simp [hj]
      rw [hi, hj, hri, hrj] at r5
      obtain ⟨cqk38, kqk38, qk38a, qk38b, qk38c⟩ := isOf hZ ek4 E_TIMESTAMP
      obtain ⟨_, _, ⟨Tk38, Lk38, kk38, nk38⟩, -, Xk38, ⟨Lck38, hQk38, lk38, yk38, zk38⟩, stk38⟩ := Xk4.virtualBack hx (y := (⟨"com/example/kilit/kilit/ValueType", "includes", "(Lcom/example/kilit/kilit/ValueType;)Z"⟩ : MethodName)) (z := (⟨"com/example/kilit/kilit/ValueType$5", "includes", "(Lcom/example/kilit/kilit/ValueType;)Z"⟩ : MethodName)) hown (mvT hZ (hw _ (List.mem_of_getElem? (i := 10) rfl))) (mvT hZ (hw _ (List.mem_of_getElem? (i := 11) rfl))) (notFace_of_selects (args := #[]) (mvT hZ (hw _ (List.mem_of_getElem? (i := 13) rfl)))) (mvT hZ (hw _ (List.mem_of_getElem? (i := 34) rfl))) (mvT hZ (hw _ (List.mem_of_getElem? (i := 35) rfl))) (by decide) (backOf (W := 0) (rm_inc5 l Z a0 hw [] w_TIMESTAMP w_TIMESTAMP w_DATE w_NULL (1 : Int32) h0 n0 Z0 S_DATE S_NULL E_TIMESTAMP (by simp [n_TIMESTAMP_NULL, n_TIMESTAMP_INTEGER, n_TIMESTAMP_DATE])) hZ (hw _ (List.mem_of_getElem? (i := 37) rfl)) (hw _ (List.mem_of_getElem? (i := 36) rfl)) (by decide) (by decide)) qk38a qk38c (g := (mkF m 69 #[.val (.int p1), .val (.int p2), .val (.int (4 : Int32)), .val (.int (4 : Int32)), .val (.ref w_TIMESTAMP), .val (.ref w_TIMESTAMP), .val (.int (1 : Int32))] [(.ref w_TIMESTAMP), (.ref w_TIMESTAMP)])) rfl (by rw [hml]; rfl) (Steps.refl _) (argsL := [(.ref w_TIMESTAMP)]) (rest := []) (lenOf pd__Lcom_example_kilit_kilit_ValueType__Z rfl) rfl (by show 2 * 0 + _ ≤ _; exact Nat.le_of_eq rfl) (hb hby at_69) (fun _ _ => ⟨rfl, ek4, (by decide : 0 + 0 ≤ _), (by decide : 0 + 0 ≤ _)⟩)
      dsimp only [Pt.U, Pt.locs, Pt.cells, Pt.slots] at Xk38 lk38 yk38 zk38 stk38 hQk38
      subst lk38 yk38 zk38
      obtain ⟨rfl, Nk38q, ek38⟩ := hQk38
      have Nk38 := Fr.app Nk4 Nk38q
      obtain ⟨fs, hlv, hrun, hended, hW, hsame⟩ := Xk38.leave (v := some (.int (1 : Int32))) (fun h => by rw [hret] at h; cases h)
      refine ⟨_, _, r5 _ ?_, hrun, hended, _, _, rfl, ?_, ⟨_, rfl⟩, hW, hsame.mono (by decide) (by decide)⟩
      · refine XS.iloadN Xk4.here hx rfl (hb hby at_28) rfl ?_
        show Sp p e below Tk4 (mkF m 29 #[.val (.int p1), .val (.int p2), .val (.int (4 : Int32)), .val (.int (4 : Int32)), .val (.ref w_TIMESTAMP), .val (.ref w_TIMESTAMP), .unset] [(.int (4 : Int32))]) _
        refine XS.iloadN Xk4.here hx rfl (hb hby at_29) rfl ?_
        show Sp p e below Tk4 (mkF m 30 #[.val (.int p1), .val (.int p2), .val (.int (4 : Int32)), .val (.int (4 : Int32)), .val (.ref w_TIMESTAMP), .val (.ref w_TIMESTAMP), .unset] [(.int (4 : Int32)), (.int (4 : Int32))]) _
        refine XS.icmpYes Xk4.here hx rfl (pc0 := 30) (pc' := 58) rfl (hb hby at_30) rfl (teq (by decide : (4 : Int32) = (4 : Int32))).1 (by decide) (by decide) ?_
        show Sp p e below Tk4 (mkF m 58 #[.val (.int p1), .val (.int p2), .val (.int (4 : Int32)), .val (.int (4 : Int32)), .val (.ref w_TIMESTAMP), .val (.ref w_TIMESTAMP), .unset] []) _
        refine XS.iconst Xk4.here hx rfl (hb hby at_58) ?_
        show Sp p e below Tk4 (mkF m 59 #[.val (.int p1), .val (.int p2), .val (.int (4 : Int32)), .val (.int (4 : Int32)), .val (.ref w_TIMESTAMP), .val (.ref w_TIMESTAMP), .unset] [(.int (1 : Int32))]) _
        refine XS.goto Xk4.here hx rfl (pc0 := 59) (pc' := 63) rfl (hb hby at_59) (by decide) (by decide) ?_
        show Sp p e below Tk4 (mkF m 63 #[.val (.int p1), .val (.int p2), .val (.int (4 : Int32)), .val (.int (4 : Int32)), .val (.ref w_TIMESTAMP), .val (.ref w_TIMESTAMP), .unset] [(.int (1 : Int32))]) _
        refine XS.istore Xk4.here hx rfl (hb hby at_63) rfl (l' := #[.val (.int p1), .val (.int p2), .val (.int (4 : Int32)), .val (.int (4 : Int32)), .val (.ref w_TIMESTAMP), .val (.ref w_TIMESTAMP), .val (.int (1 : Int32))]) rfl ?_
        show Sp p e below Tk4 (mkF m 65 #[.val (.int p1), .val (.int p2), .val (.int (4 : Int32)), .val (.int (4 : Int32)), .val (.ref w_TIMESTAMP), .val (.ref w_TIMESTAMP), .val (.int (1 : Int32))] []) _
        refine XS.aload Xk4.here hx rfl (hb hby at_65) rfl rfl ?_
        show Sp p e below Tk4 (mkF m 67 #[.val (.int p1), .val (.int p2), .val (.int (4 : Int32)), .val (.int (4 : Int32)), .val (.ref w_TIMESTAMP), .val (.ref w_TIMESTAMP), .val (.int (1 : Int32))] [(.ref w_TIMESTAMP)]) _
        refine XS.aload Xk4.here hx rfl (hb hby at_67) rfl rfl ?_
        show Sp p e below Tk4 (mkF m 69 #[.val (.int p1), .val (.int p2), .val (.int (4 : Int32)), .val (.int (4 : Int32)), .val (.ref w_TIMESTAMP), .val (.ref w_TIMESTAMP), .val (.int (1 : Int32))] [(.ref w_TIMESTAMP), (.ref w_TIMESTAMP)]) _
        refine stk38.trans ?_
        show Sp p e below Tk38 (mkF m 72 #[.val (.int p1), .val (.int p2), .val (.int (4 : Int32)), .val (.int (4 : Int32)), .val (.ref w_TIMESTAMP), .val (.ref w_TIMESTAMP), .val (.int (1 : Int32))] [(.int (1 : Int32))]) _
        refine XS.iload Xk38.here hx rfl (hb hby at_72) rfl ?_
        show Sp p e below Tk38 (mkF m 74 #[.val (.int p1), .val (.int p2), .val (.int (4 : Int32)), .val (.int (4 : Int32)), .val (.ref w_TIMESTAMP), .val (.ref w_TIMESTAMP), .val (.int (1 : Int32))] [(.int (1 : Int32)), (.int (1 : Int32))]) _
        refine XS.icmpNo Xk38.here hx rfl (hb hby at_74) rfl (teq (by decide : (1 : Int32) = (1 : Int32))).2 ?_
        show Sp p e below Tk38 (mkF m 77 #[.val (.int p1), .val (.int p2), .val (.int (4 : Int32)), .val (.int (4 : Int32)), .val (.ref w_TIMESTAMP), .val (.ref w_TIMESTAMP), .val (.int (1 : Int32))] []) _
        refine XS.iconst Xk38.here hx rfl (hb hby at_77) ?_
        show Sp p e below Tk38 (mkF m 78 #[.val (.int p1), .val (.int p2), .val (.int (4 : Int32)), .val (.int (4 : Int32)), .val (.ref w_TIMESTAMP), .val (.ref w_TIMESTAMP), .val (.int (1 : Int32))] [(.int (1 : Int32))]) _
        refine XS.goto Xk38.here hx rfl (pc0 := 78) (pc' := 82) rfl (hb hby at_78) (by decide) (by decide) ?_
        show Sp p e below Tk38 (mkF m 82 #[.val (.int p1), .val (.int p2), .val (.int (4 : Int32)), .val (.int (4 : Int32)), .val (.ref w_TIMESTAMP), .val (.ref w_TIMESTAMP), .val (.int (1 : Int32))] [(.int (1 : Int32))]) _
        exact retN Xk38 hx (t := .boolean) hret (by simp) (hb hby at_82) hlv
      · show Q_law Z p1 p2 w_INTEGER w_DECIMAL w_VARCHAR w_DATE w_TIMESTAMP w_BOOLEAN w_NULL h0 n0 _ Tk38.heap _
        rw [ek38]
        exact ⟨rfl, Nk38⟩
    · have hrj : rj = w_BOOLEAN := by rw [hpj]; simp [hj]
      rw [hi, hj, hri, hrj] at r5
      obtain ⟨cqk39, kqk39, qk39a, qk39b, qk39c⟩ := isOf hZ ek4 E_TIMESTAMP
      obtain ⟨_, _, ⟨Tk39, Lk39, kk39, nk39⟩, -, Xk39, ⟨Lck39, hQk39, lk39, yk39, zk39⟩, stk39⟩ := Xk4.virtualBack hx (y := (⟨"com/example/kilit/kilit/ValueType", "includes", "(Lcom/example/kilit/kilit/ValueType;)Z"⟩ : MethodName)) (z := (⟨"com/example/kilit/kilit/ValueType$5", "includes", "(Lcom/example/kilit/kilit/ValueType;)Z"⟩ : MethodName)) hown (mvT hZ (hw _ (List.mem_of_getElem? (i := 10) rfl))) (mvT hZ (hw _ (List.mem_of_getElem? (i := 11) rfl))) (notFace_of_selects (args := #[]) (mvT hZ (hw _ (List.mem_of_getElem? (i := 13) rfl)))) (mvT hZ (hw _ (List.mem_of_getElem? (i := 34) rfl))) (mvT hZ (hw _ (List.mem_of_getElem? (i := 35) rfl))) (by decide) (backOf (W := 0) (rm_inc5 l Z a0 hw [] w_TIMESTAMP w_BOOLEAN w_DATE w_NULL (0 : Int32) h0 n0 Z0 S_DATE S_NULL E_TIMESTAMP (by simp [n_BOOLEAN_TIMESTAMP, n_BOOLEAN_NULL, n_BOOLEAN_INTEGER, n_BOOLEAN_DATE])) hZ (hw _ (List.mem_of_getElem? (i := 37) rfl)) (hw _ (List.mem_of_getElem? (i := 36) rfl)) (by decide) (by decide)) qk39a qk39c (g := (mkF m 69 #[.val (.int p1), .val (.int p2), .val (.int (4 : Int32)), .val (.int (5 : Int32)), .val (.ref w_TIMESTAMP), .val (.ref w_BOOLEAN), .val (.int (0 : Int32))] [(.ref w_BOOLEAN), (.ref w_TIMESTAMP)])) rfl (by rw [hml]; rfl) (Steps.refl _) (argsL := [(.ref w_BOOLEAN)]) (rest := []) (lenOf pd__Lcom_example_kilit_kilit_ValueType__Z rfl) rfl (by show 2 * 0 + _ ≤ _; exact Nat.le_of_eq rfl) (hb hby at_69) (fun _ _ => ⟨rfl, ek4, (by decide : 0 + 0 ≤ _), (by decide : 0 + 0 ≤ _)⟩)
      dsimp only [Pt.U, Pt.locs, Pt.cells, Pt.slots] at Xk39 lk39 yk39 zk39 stk39 hQk39
      subst lk39 yk39 zk39
      obtain ⟨rfl, Nk39q, ek39⟩ := hQk39
      have Nk39 := Fr.app Nk4 Nk39q
      obtain ⟨fs, hlv, hrun, hended, hW, hsame⟩ := Xk39.leave (v := some (.int (1 : Int32))) (fun h => by rw [hret] at h; cases h)
      refine ⟨_, _, r5 _ ?_, hrun, hended, _, _, rfl, ?_, ⟨_, rfl⟩, hW, hsame.mono (by decide) (by decide)⟩
      · refine XS.iloadN Xk4.here hx rfl (hb hby at_28) rfl ?_
        show Sp p e below Tk4 (mkF m 29 #[.val (.int p1), .val (.int p2), .val (.int (4 : Int32)), .val (.int (5 : Int32)), .val (.ref w_TIMESTAMP), .val (.ref w_BOOLEAN), .unset] [(.int (4 : Int32))]) _
        refine XS.iloadN Xk4.here hx rfl (hb hby at_29) rfl ?_
        show Sp p e below Tk4 (mkF m 30 #[.val (.int p1), .val (.int p2), .val (.int (4 : Int32)), .val (.int (5 : Int32)), .val (.ref w_TIMESTAMP), .val (.ref w_BOOLEAN), .unset] [(.int (5 : Int32)), (.int (4 : Int32))]) _
        refine XS.icmpNo Xk4.here hx rfl (hb hby at_30) rfl (feq (by decide : ¬ ((4 : Int32) = (5 : Int32)))).1 ?_
        show Sp p e below Tk4 (mkF m 33 #[.val (.int p1), .val (.int p2), .val (.int (4 : Int32)), .val (.int (5 : Int32)), .val (.ref w_TIMESTAMP), .val (.ref w_BOOLEAN), .unset] []) _
        refine XS.iloadN Xk4.here hx rfl (hb hby at_33) rfl ?_
        show Sp p e below Tk4 (mkF m 34 #[.val (.int p1), .val (.int p2), .val (.int (4 : Int32)), .val (.int (5 : Int32)), .val (.ref w_TIMESTAMP), .val (.ref w_BOOLEAN), .unset] [(.int (5 : Int32))]) _
        refine XS.bipush Xk4.here hx rfl (hb hby at_34) ?_
        show Sp p e below Tk4 (mkF m 36 #[.val (.int p1), .val (.int p2), .val (.int (4 : Int32)), .val (.int (5 : Int32)), .val (.ref w_TIMESTAMP), .val (.ref w_BOOLEAN), .unset] [(.int (6 : Int32)), (.int (5 : Int32))]) _
        refine XS.icmpNo Xk4.here hx rfl (hb hby at_36) rfl (feq (by decide : ¬ ((5 : Int32) = (6 : Int32)))).1 ?_
        show Sp p e below Tk4 (mkF m 39 #[.val (.int p1), .val (.int p2), .val (.int (4 : Int32)), .val (.int (5 : Int32)), .val (.ref w_TIMESTAMP), .val (.ref w_BOOLEAN), .unset] []) _
        refine XS.iloadN Xk4.here hx rfl (hb hby at_39) rfl ?_
        show Sp p e below Tk4 (mkF m 40 #[.val (.int p1), .val (.int p2), .val (.int (4 : Int32)), .val (.int (5 : Int32)), .val (.ref w_TIMESTAMP), .val (.ref w_BOOLEAN), .unset] [(.int (4 : Int32))]) _
        refine XS.iconst Xk4.here hx rfl (hb hby at_40) ?_
        show Sp p e below Tk4 (mkF m 41 #[.val (.int p1), .val (.int p2), .val (.int (4 : Int32)), .val (.int (5 : Int32)), .val (.ref w_TIMESTAMP), .val (.ref w_BOOLEAN), .unset] [(.int (1 : Int32)), (.int (4 : Int32))]) _
        refine XS.icmpYes Xk4.here hx rfl (pc0 := 41) (pc' := 48) rfl (hb hby at_41) rfl (feq (by decide : ¬ ((4 : Int32) = (1 : Int32)))).2 (by decide) (by decide) ?_
        show Sp p e below Tk4 (mkF m 48 #[.val (.int p1), .val (.int p2), .val (.int (4 : Int32)), .val (.int (5 : Int32)), .val (.ref w_TIMESTAMP), .val (.ref w_BOOLEAN), .unset] []) _
        refine XS.iloadN Xk4.here hx rfl (hb hby at_48) rfl ?_
        show Sp p e below Tk4 (mkF m 49 #[.val (.int p1), .val (.int p2), .val (.int (4 : Int32)), .val (.int (5 : Int32)), .val (.ref w_TIMESTAMP), .val (.ref w_BOOLEAN), .unset] [(.int (4 : Int32))]) _
        refine XS.iconst Xk4.here hx rfl (hb hby at_49) ?_
        show Sp p e below Tk4 (mkF m 50 #[.val (.int p1), .val (.int p2), .val (.int (4 : Int32)), .val (.int (5 : Int32)), .val (.ref w_TIMESTAMP), .val (.ref w_BOOLEAN), .unset] [(.int (4 : Int32)), (.int (4 : Int32))]) _
        refine XS.icmpNo Xk4.here hx rfl (hb hby at_50) rfl (teq (by decide : (4 : Int32) = (4 : Int32))).2 ?_
        show Sp p e below Tk4 (mkF m 53 #[.val (.int p1), .val (.int p2), .val (.int (4 : Int32)), .val (.int (5 : Int32)), .val (.ref w_TIMESTAMP), .val (.ref w_BOOLEAN), .unset] []) _
        refine XS.iloadN Xk4.here hx rfl (hb hby at_53) rfl ?_
        show Sp p e below Tk4 (mkF m 54 #[.val (.int p1), .val (.int p2), .val (.int (4 : Int32)), .val (.int (5 : Int32)), .val (.ref w_TIMESTAMP), .val (.ref w_BOOLEAN), .unset] [(.int (5 : Int32))]) _
        refine XS.iconst Xk4.here hx rfl (hb hby at_54) ?_
        show Sp p e below Tk4 (mkF m 55 #[.val (.int p1), .val (.int p2), .val (.int (4 : Int32)), .val (.int (5 : Int32)), .val (.ref w_TIMESTAMP), .val (.ref w_BOOLEAN), .unset] [(.int (3 : Int32)), (.int (5 : Int32))]) _
        refine XS.icmpYes Xk4.here hx rfl (pc0 := 55) (pc' := 62) rfl (hb hby at_55) rfl (feq (by decide : ¬ ((5 : Int32) = (3 : Int32)))).2 (by decide) (by decide) ?_
        show Sp p e below Tk4 (mkF m 62 #[.val (.int p1), .val (.int p2), .val (.int (4 : Int32)), .val (.int (5 : Int32)), .val (.ref w_TIMESTAMP), .val (.ref w_BOOLEAN), .unset] []) _
        refine XS.iconst Xk4.here hx rfl (hb hby at_62) ?_
        show Sp p e below Tk4 (mkF m 63 #[.val (.int p1), .val (.int p2), .val (.int (4 : Int32)), .val (.int (5 : Int32)), .val (.ref w_TIMESTAMP), .val (.ref w_BOOLEAN), .unset] [(.int (0 : Int32))]) _
        refine XS.istore Xk4.here hx rfl (hb hby at_63) rfl (l' := #[.val (.int p1), .val (.int p2), .val (.int (4 : Int32)), .val (.int (5 : Int32)), .val (.ref w_TIMESTAMP), .val (.ref w_BOOLEAN), .val (.int (0 : Int32))]) rfl ?_
        show Sp p e below Tk4 (mkF m 65 #[.val (.int p1), .val (.int p2), .val (.int (4 : Int32)), .val (.int (5 : Int32)), .val (.ref w_TIMESTAMP), .val (.ref w_BOOLEAN), .val (.int (0 : Int32))] []) _
        refine XS.aload Xk4.here hx rfl (hb hby at_65) rfl rfl ?_
        show Sp p e below Tk4 (mkF m 67 #[.val (.int p1), .val (.int p2), .val (.int (4 : Int32)), .val (.int (5 : Int32)), .val (.ref w_TIMESTAMP), .val (.ref w_BOOLEAN), .val (.int (0 : Int32))] [(.ref w_TIMESTAMP)]) _
        refine XS.aload Xk4.here hx rfl (hb hby at_67) rfl rfl ?_
        show Sp p e below Tk4 (mkF m 69 #[.val (.int p1), .val (.int p2), .val (.int (4 : Int32)), .val (.int (5 : Int32)), .val (.ref w_TIMESTAMP), .val (.ref w_BOOLEAN), .val (.int (0 : Int32))] [(.ref w_BOOLEAN), (.ref w_TIMESTAMP)]) _
        refine stk39.trans ?_
        show Sp p e below Tk39 (mkF m 72 #[.val (.int p1), .val (.int p2), .val (.int (4 : Int32)), .val (.int (5 : Int32)), .val (.ref w_TIMESTAMP), .val (.ref w_BOOLEAN), .val (.int (0 : Int32))] [(.int (0 : Int32))]) _
        refine XS.iload Xk39.here hx rfl (hb hby at_72) rfl ?_
        show Sp p e below Tk39 (mkF m 74 #[.val (.int p1), .val (.int p2), .val (.int (4 : Int32)), .val (.int (5 : Int32)), .val (.ref w_TIMESTAMP), .val (.ref w_BOOLEAN), .val (.int (0 : Int32))] [(.int (0 : Int32)), (.int (0 : Int32))]) _
        refine XS.icmpNo Xk39.here hx rfl (hb hby at_74) rfl (teq (by decide : (0 : Int32) = (0 : Int32))).2 ?_
        show Sp p e below Tk39 (mkF m 77 #[.val (.int p1), .val (.int p2), .val (.int (4 : Int32)), .val (.int (5 : Int32)), .val (.ref w_TIMESTAMP), .val (.ref w_BOOLEAN), .val (.int (0 : Int32))] []) _
        refine XS.iconst Xk39.here hx rfl (hb hby at_77) ?_
        show Sp p e below Tk39 (mkF m 78 #[.val (.int p1), .val (.int p2), .val (.int (4 : Int32)), .val (.int (5 : Int32)), .val (.ref w_TIMESTAMP), .val (.ref w_BOOLEAN), .val (.int (0 : Int32))] [(.int (1 : Int32))]) _
        refine XS.goto Xk39.here hx rfl (pc0 := 78) (pc' := 82) rfl (hb hby at_78) (by decide) (by decide) ?_
        show Sp p e below Tk39 (mkF m 82 #[.val (.int p1), .val (.int p2), .val (.int (4 : Int32)), .val (.int (5 : Int32)), .val (.ref w_TIMESTAMP), .val (.ref w_BOOLEAN), .val (.int (0 : Int32))] [(.int (1 : Int32))]) _
        exact retN Xk39 hx (t := .boolean) hret (by simp) (hb hby at_82) hlv
      · show Q_law Z p1 p2 w_INTEGER w_DECIMAL w_VARCHAR w_DATE w_TIMESTAMP w_BOOLEAN w_NULL h0 n0 _ Tk39.heap _
        rw [ek39]
        exact ⟨rfl, Nk39⟩
    · have hrj : rj = w_NULL := by rw [hpj]; simp [hj]
      rw [hi, hj, hri, hrj] at r5
      obtain ⟨cqk40, kqk40, qk40a, qk40b, qk40c⟩ := isOf hZ ek4 E_TIMESTAMP
      obtain ⟨_, _, ⟨Tk40, Lk40, kk40, nk40⟩, -, Xk40, ⟨Lck40, hQk40, lk40, yk40, zk40⟩, stk40⟩ := Xk4.virtualBack hx (y := (⟨"com/example/kilit/kilit/ValueType", "includes", "(Lcom/example/kilit/kilit/ValueType;)Z"⟩ : MethodName)) (z := (⟨"com/example/kilit/kilit/ValueType$5", "includes", "(Lcom/example/kilit/kilit/ValueType;)Z"⟩ : MethodName)) hown (mvT hZ (hw _ (List.mem_of_getElem? (i := 10) rfl))) (mvT hZ (hw _ (List.mem_of_getElem? (i := 11) rfl))) (notFace_of_selects (args := #[]) (mvT hZ (hw _ (List.mem_of_getElem? (i := 13) rfl)))) (mvT hZ (hw _ (List.mem_of_getElem? (i := 34) rfl))) (mvT hZ (hw _ (List.mem_of_getElem? (i := 35) rfl))) (by decide) (backOf (W := 0) (rm_inc5 l Z a0 hw [] w_TIMESTAMP w_NULL w_DATE w_NULL (1 : Int32) h0 n0 Z0 S_DATE S_NULL E_TIMESTAMP (by simp [n_NULL_TIMESTAMP, n_NULL_INTEGER, n_NULL_DATE])) hZ (hw _ (List.mem_of_getElem? (i := 37) rfl)) (hw _ (List.mem_of_getElem? (i := 36) rfl)) (by decide) (by decide)) qk40a qk40c (g := (mkF m 69 #[.val (.int p1), .val (.int p2), .val (.int (4 : Int32)), .val (.int (6 : Int32)), .val (.ref w_TIMESTAMP), .val (.ref w_NULL), .val (.int (1 : Int32))] [(.ref w_NULL), (.ref w_TIMESTAMP)])) rfl (by rw [hml]; rfl) (Steps.refl _) (argsL := [(.ref w_NULL)]) (rest := []) (lenOf pd__Lcom_example_kilit_kilit_ValueType__Z rfl) rfl (by show 2 * 0 + _ ≤ _; exact Nat.le_of_eq rfl) (hb hby at_69) (fun _ _ => ⟨rfl, ek4, (by decide : 0 + 0 ≤ _), (by decide : 0 + 0 ≤ _)⟩)
      dsimp only [Pt.U, Pt.locs, Pt.cells, Pt.slots] at Xk40 lk40 yk40 zk40 stk40 hQk40
      subst lk40 yk40 zk40
      obtain ⟨rfl, Nk40q, ek40⟩ := hQk40
      have Nk40 := Fr.app Nk4 Nk40q
      obtain ⟨fs, hlv, hrun, hended, hW, hsame⟩ := Xk40.leave (v := some (.int (1 : Int32))) (fun h => by rw [hret] at h; cases h)
      refine ⟨_, _, r5 _ ?_, hrun, hended, _, _, rfl, ?_, ⟨_, rfl⟩, hW, hsame.mono (by decide) (by decide)⟩
      · refine XS.iloadN Xk4.here hx rfl (hb hby at_28) rfl ?_
        show Sp p e below Tk4 (mkF m 29 #[.val (.int p1), .val (.int p2), .val (.int (4 : Int32)), .val (.int (6 : Int32)), .val (.ref w_TIMESTAMP), .val (.ref w_NULL), .unset] [(.int (4 : Int32))]) _
        refine XS.iloadN Xk4.here hx rfl (hb hby at_29) rfl ?_
        show Sp p e below Tk4 (mkF m 30 #[.val (.int p1), .val (.int p2), .val (.int (4 : Int32)), .val (.int (6 : Int32)), .val (.ref w_TIMESTAMP), .val (.ref w_NULL), .unset] [(.int (6 : Int32)), (.int (4 : Int32))]) _
        refine XS.icmpNo Xk4.here hx rfl (hb hby at_30) rfl (feq (by decide : ¬ ((4 : Int32) = (6 : Int32)))).1 ?_
        show Sp p e below Tk4 (mkF m 33 #[.val (.int p1), .val (.int p2), .val (.int (4 : Int32)), .val (.int (6 : Int32)), .val (.ref w_TIMESTAMP), .val (.ref w_NULL), .unset] []) _
        refine XS.iloadN Xk4.here hx rfl (hb hby at_33) rfl ?_
        show Sp p e below Tk4 (mkF m 34 #[.val (.int p1), .val (.int p2), .val (.int (4 : Int32)), .val (.int (6 : Int32)), .val (.ref w_TIMESTAMP), .val (.ref w_NULL), .unset] [(.int (6 : Int32))]) _
        refine XS.bipush Xk4.here hx rfl (hb hby at_34) ?_
        show Sp p e below Tk4 (mkF m 36 #[.val (.int p1), .val (.int p2), .val (.int (4 : Int32)), .val (.int (6 : Int32)), .val (.ref w_TIMESTAMP), .val (.ref w_NULL), .unset] [(.int (6 : Int32)), (.int (6 : Int32))]) _
        refine XS.icmpYes Xk4.here hx rfl (pc0 := 36) (pc' := 58) rfl (hb hby at_36) rfl (teq (by decide : (6 : Int32) = (6 : Int32))).1 (by decide) (by decide) ?_
        show Sp p e below Tk4 (mkF m 58 #[.val (.int p1), .val (.int p2), .val (.int (4 : Int32)), .val (.int (6 : Int32)), .val (.ref w_TIMESTAMP), .val (.ref w_NULL), .unset] []) _
        refine XS.iconst Xk4.here hx rfl (hb hby at_58) ?_
        show Sp p e below Tk4 (mkF m 59 #[.val (.int p1), .val (.int p2), .val (.int (4 : Int32)), .val (.int (6 : Int32)), .val (.ref w_TIMESTAMP), .val (.ref w_NULL), .unset] [(.int (1 : Int32))]) _
        refine XS.goto Xk4.here hx rfl (pc0 := 59) (pc' := 63) rfl (hb hby at_59) (by decide) (by decide) ?_
        show Sp p e below Tk4 (mkF m 63 #[.val (.int p1), .val (.int p2), .val (.int (4 : Int32)), .val (.int (6 : Int32)), .val (.ref w_TIMESTAMP), .val (.ref w_NULL), .unset] [(.int (1 : Int32))]) _
        refine XS.istore Xk4.here hx rfl (hb hby at_63) rfl (l' := #[.val (.int p1), .val (.int p2), .val (.int (4 : Int32)), .val (.int (6 : Int32)), .val (.ref w_TIMESTAMP), .val (.ref w_NULL), .val (.int (1 : Int32))]) rfl ?_
        show Sp p e below Tk4 (mkF m 65 #[.val (.int p1), .val (.int p2), .val (.int (4 : Int32)), .val (.int (6 : Int32)), .val (.ref w_TIMESTAMP), .val (.ref w_NULL), .val (.int (1 : Int32))] []) _
        refine XS.aload Xk4.here hx rfl (hb hby at_65) rfl rfl ?_
        show Sp p e below Tk4 (mkF m 67 #[.val (.int p1), .val (.int p2), .val (.int (4 : Int32)), .val (.int (6 : Int32)), .val (.ref w_TIMESTAMP), .val (.ref w_NULL), .val (.int (1 : Int32))] [(.ref w_TIMESTAMP)]) _
        refine XS.aload Xk4.here hx rfl (hb hby at_67) rfl rfl ?_
        show Sp p e below Tk4 (mkF m 69 #[.val (.int p1), .val (.int p2), .val (.int (4 : Int32)), .val (.int (6 : Int32)), .val (.ref w_TIMESTAMP), .val (.ref w_NULL), .val (.int (1 : Int32))] [(.ref w_NULL), (.ref w_TIMESTAMP)]) _
        refine stk40.trans ?_
        show Sp p e below Tk40 (mkF m 72 #[.val (.int p1), .val (.int p2), .val (.int (4 : Int32)), .val (.int (6 : Int32)), .val (.ref w_TIMESTAMP), .val (.ref w_NULL), .val (.int (1 : Int32))] [(.int (1 : Int32))]) _
        refine XS.iload Xk40.here hx rfl (hb hby at_72) rfl ?_
        show Sp p e below Tk40 (mkF m 74 #[.val (.int p1), .val (.int p2), .val (.int (4 : Int32)), .val (.int (6 : Int32)), .val (.ref w_TIMESTAMP), .val (.ref w_NULL), .val (.int (1 : Int32))] [(.int (1 : Int32)), (.int (1 : Int32))]) _
        refine XS.icmpNo Xk40.here hx rfl (hb hby at_74) rfl (teq (by decide : (1 : Int32) = (1 : Int32))).2 ?_
        show Sp p e below Tk40 (mkF m 77 #[.val (.int p1), .val (.int p2), .val (.int (4 : Int32)), .val (.int (6 : Int32)), .val (.ref w_TIMESTAMP), .val (.ref w_NULL), .val (.int (1 : Int32))] []) _
        refine XS.iconst Xk40.here hx rfl (hb hby at_77) ?_
        show Sp p e below Tk40 (mkF m 78 #[.val (.int p1), .val (.int p2), .val (.int (4 : Int32)), .val (.int (6 : Int32)), .val (.ref w_TIMESTAMP), .val (.ref w_NULL), .val (.int (1 : Int32))] [(.int (1 : Int32))]) _
        refine XS.goto Xk40.here hx rfl (pc0 := 78) (pc' := 82) rfl (hb hby at_78) (by decide) (by decide) ?_
        show Sp p e below Tk40 (mkF m 82 #[.val (.int p1), .val (.int p2), .val (.int (4 : Int32)), .val (.int (6 : Int32)), .val (.ref w_TIMESTAMP), .val (.ref w_NULL), .val (.int (1 : Int32))] [(.int (1 : Int32))]) _
        exact retN Xk40 hx (t := .boolean) hret (by simp) (hb hby at_82) hlv
      · show Q_law Z p1 p2 w_INTEGER w_DECIMAL w_VARCHAR w_DATE w_TIMESTAMP w_BOOLEAN w_NULL h0 n0 _ Tk40.heap _
        rw [ek40]
        exact ⟨rfl, Nk40⟩
  · have hri : ri = w_BOOLEAN := by rw [hpi]; simp [hi]
    rcases cj with hj | hj | hj | hj | hj | hj | hj
    · have hrj : rj = w_INTEGER := by rw [hpj]; simp [hj]
      rw [hi, hj, hri, hrj] at r5
      obtain ⟨cqk41, kqk41, qk41a, qk41b, qk41c⟩ := isOf hZ ek4 E_BOOLEAN
      obtain ⟨_, _, ⟨Tk41, Lk41, kk41, nk41⟩, -, Xk41, ⟨Lck41, hQk41, lk41, yk41, zk41⟩, stk41⟩ := Xk4.virtualBack hx (y := (⟨"com/example/kilit/kilit/ValueType", "includes", "(Lcom/example/kilit/kilit/ValueType;)Z"⟩ : MethodName)) (z := (⟨"com/example/kilit/kilit/ValueType", "includes", "(Lcom/example/kilit/kilit/ValueType;)Z"⟩ : MethodName)) hown (mvT hZ (hw _ (List.mem_of_getElem? (i := 10) rfl))) (mvT hZ (hw _ (List.mem_of_getElem? (i := 11) rfl))) (notFace_of_selects (args := #[]) (mvT hZ (hw _ (List.mem_of_getElem? (i := 13) rfl)))) (mvT hZ (hw _ (List.mem_of_getElem? (i := 44) rfl))) (mvT hZ (hw _ (List.mem_of_getElem? (i := 12) rfl))) (by decide) (backOf (W := 0) (rm_base l Z a0 hw [] w_BOOLEAN w_INTEGER w_NULL (0 : Int32) h0 n0 Z0 S_NULL (by simp [n_INTEGER_BOOLEAN, n_INTEGER_NULL, n_INTEGER_DATE])) hZ (hw _ (List.mem_of_getElem? (i := 14) rfl)) (hw _ (List.mem_of_getElem? (i := 6) rfl)) (by decide) (by decide)) qk41a qk41c (g := (mkF m 69 #[.val (.int p1), .val (.int p2), .val (.int (5 : Int32)), .val (.int (0 : Int32)), .val (.ref w_BOOLEAN), .val (.ref w_INTEGER), .val (.int (0 : Int32))] [(.ref w_INTEGER), (.ref w_BOOLEAN)])) rfl (by rw [hml]; rfl) (Steps.refl _) (argsL := [(.ref w_INTEGER)]) (rest := []) (lenOf pd__Lcom_example_kilit_kilit_ValueType__Z rfl) rfl (by show 2 * 0 + _ ≤ _; exact Nat.le_of_eq rfl) (hb hby at_69) (fun _ _ => ⟨rfl, ek4, (by decide : 0 + 0 ≤ _), (by decide : 0 + 0 ≤ _)⟩)
      dsimp only [Pt.U, Pt.locs, Pt.cells, Pt.slots] at Xk41 lk41 yk41 zk41 stk41 hQk41
      subst lk41 yk41 zk41
      obtain ⟨rfl, Nk41q, ek41⟩ := hQk41
      have Nk41 := Fr.app Nk4 Nk41q
      obtain ⟨fs, hlv, hrun, hended, hW, hsame⟩ := Xk41.leave (v := some (.int (1 : Int32))) (fun h => by rw [hret] at h; cases h)
      refine ⟨_, _, r5 _ ?_, hrun, hended, _, _, rfl, ?_, ⟨_, rfl⟩, hW, hsame.mono (by decide) (by decide)⟩
      · refine XS.iloadN Xk4.here hx rfl (hb hby at_28) rfl ?_
        show Sp p e below Tk4 (mkF m 29 #[.val (.int p1), .val (.int p2), .val (.int (5 : Int32)), .val (.int (0 : Int32)), .val (.ref w_BOOLEAN), .val (.ref w_INTEGER), .unset] [(.int (5 : Int32))]) _
        refine XS.iloadN Xk4.here hx rfl (hb hby at_29) rfl ?_
        show Sp p e below Tk4 (mkF m 30 #[.val (.int p1), .val (.int p2), .val (.int (5 : Int32)), .val (.int (0 : Int32)), .val (.ref w_BOOLEAN), .val (.ref w_INTEGER), .unset] [(.int (0 : Int32)), (.int (5 : Int32))]) _
        refine XS.icmpNo Xk4.here hx rfl (hb hby at_30) rfl (feq (by decide : ¬ ((5 : Int32) = (0 : Int32)))).1 ?_
        show Sp p e below Tk4 (mkF m 33 #[.val (.int p1), .val (.int p2), .val (.int (5 : Int32)), .val (.int (0 : Int32)), .val (.ref w_BOOLEAN), .val (.ref w_INTEGER), .unset] []) _
        refine XS.iloadN Xk4.here hx rfl (hb hby at_33) rfl ?_
        show Sp p e below Tk4 (mkF m 34 #[.val (.int p1), .val (.int p2), .val (.int (5 : Int32)), .val (.int (0 : Int32)), .val (.ref w_BOOLEAN), .val (.ref w_INTEGER), .unset] [(.int (0 : Int32))]) _
        refine XS.bipush Xk4.here hx rfl (hb hby at_34) ?_
        show Sp p e below Tk4 (mkF m 36 #[.val (.int p1), .val (.int p2), .val (.int (5 : Int32)), .val (.int (0 : Int32)), .val (.ref w_BOOLEAN), .val (.ref w_INTEGER), .unset] [(.int (6 : Int32)), (.int (0 : Int32))]) _
        refine XS.icmpNo Xk4.here hx rfl (hb hby at_36) rfl (feq (by decide : ¬ ((0 : Int32) = (6 : Int32)))).1 ?_
        show Sp p e below Tk4 (mkF m 39 #[.val (.int p1), .val (.int p2), .val (.int (5 : Int32)), .val (.int (0 : Int32)), .val (.ref w_BOOLEAN), .val (.ref w_INTEGER), .unset] []) _
        refine XS.iloadN Xk4.here hx rfl (hb hby at_39) rfl ?_
        show Sp p e below Tk4 (mkF m 40 #[.val (.int p1), .val (.int p2), .val (.int (5 : Int32)), .val (.int (0 : Int32)), .val (.ref w_BOOLEAN), .val (.ref w_INTEGER), .unset] [(.int (5 : Int32))]) _
        refine XS.iconst Xk4.here hx rfl (hb hby at_40) ?_
        show Sp p e below Tk4 (mkF m 41 #[.val (.int p1), .val (.int p2), .val (.int (5 : Int32)), .val (.int (0 : Int32)), .val (.ref w_BOOLEAN), .val (.ref w_INTEGER), .unset] [(.int (1 : Int32)), (.int (5 : Int32))]) _
        refine XS.icmpYes Xk4.here hx rfl (pc0 := 41) (pc' := 48) rfl (hb hby at_41) rfl (feq (by decide : ¬ ((5 : Int32) = (1 : Int32)))).2 (by decide) (by decide) ?_
        show Sp p e below Tk4 (mkF m 48 #[.val (.int p1), .val (.int p2), .val (.int (5 : Int32)), .val (.int (0 : Int32)), .val (.ref w_BOOLEAN), .val (.ref w_INTEGER), .unset] []) _
        refine XS.iloadN Xk4.here hx rfl (hb hby at_48) rfl ?_
        show Sp p e below Tk4 (mkF m 49 #[.val (.int p1), .val (.int p2), .val (.int (5 : Int32)), .val (.int (0 : Int32)), .val (.ref w_BOOLEAN), .val (.ref w_INTEGER), .unset] [(.int (5 : Int32))]) _
        refine XS.iconst Xk4.here hx rfl (hb hby at_49) ?_
        show Sp p e below Tk4 (mkF m 50 #[.val (.int p1), .val (.int p2), .val (.int (5 : Int32)), .val (.int (0 : Int32)), .val (.ref w_BOOLEAN), .val (.ref w_INTEGER), .unset] [(.int (4 : Int32)), (.int (5 : Int32))]) _
        refine XS.icmpYes Xk4.here hx rfl (pc0 := 50) (pc' := 62) rfl (hb hby at_50) rfl (feq (by decide : ¬ ((5 : Int32) = (4 : Int32)))).2 (by decide) (by decide) ?_
        show Sp p e below Tk4 (mkF m 62 #[.val (.int p1), .val (.int p2), .val (.int (5 : Int32)), .val (.int (0 : Int32)), .val (.ref w_BOOLEAN), .val (.ref w_INTEGER), .unset] []) _
        refine XS.iconst Xk4.here hx rfl (hb hby at_62) ?_
        show Sp p e below Tk4 (mkF m 63 #[.val (.int p1), .val (.int p2), .val (.int (5 : Int32)), .val (.int (0 : Int32)), .val (.ref w_BOOLEAN), .val (.ref w_INTEGER), .unset] [(.int (0 : Int32))]) _
        refine XS.istore Xk4.here hx rfl (hb hby at_63) rfl (l' := #[.val (.int p1), .val (.int p2), .val (.int (5 : Int32)), .val (.int (0 : Int32)), .val (.ref w_BOOLEAN), .val (.ref w_INTEGER), .val (.int (0 : Int32))]) rfl ?_
        show Sp p e below Tk4 (mkF m 65 #[.val (.int p1), .val (.int p2), .val (.int (5 : Int32)), .val (.int (0 : Int32)), .val (.ref w_BOOLEAN), .val (.ref w_INTEGER), .val (.int (0 : Int32))] []) _
        refine XS.aload Xk4.here hx rfl (hb hby at_65) rfl rfl ?_
        show Sp p e below Tk4 (mkF m 67 #[.val (.int p1), .val (.int p2), .val (.int (5 : Int32)), .val (.int (0 : Int32)), .val (.ref w_BOOLEAN), .val (.ref w_INTEGER), .val (.int (0 : Int32))] [(.ref w_BOOLEAN)]) _
        refine XS.aload Xk4.here hx rfl (hb hby at_67) rfl rfl ?_
        show Sp p e below Tk4 (mkF m 69 #[.val (.int p1), .val (.int p2), .val (.int (5 : Int32)), .val (.int (0 : Int32)), .val (.ref w_BOOLEAN), .val (.ref w_INTEGER), .val (.int (0 : Int32))] [(.ref w_INTEGER), (.ref w_BOOLEAN)]) _
        refine stk41.trans ?_
        show Sp p e below Tk41 (mkF m 72 #[.val (.int p1), .val (.int p2), .val (.int (5 : Int32)), .val (.int (0 : Int32)), .val (.ref w_BOOLEAN), .val (.ref w_INTEGER), .val (.int (0 : Int32))] [(.int (0 : Int32))]) _
        refine XS.iload Xk41.here hx rfl (hb hby at_72) rfl ?_
        show Sp p e below Tk41 (mkF m 74 #[.val (.int p1), .val (.int p2), .val (.int (5 : Int32)), .val (.int (0 : Int32)), .val (.ref w_BOOLEAN), .val (.ref w_INTEGER), .val (.int (0 : Int32))] [(.int (0 : Int32)), (.int (0 : Int32))]) _
        refine XS.icmpNo Xk41.here hx rfl (hb hby at_74) rfl (teq (by decide : (0 : Int32) = (0 : Int32))).2 ?_
        show Sp p e below Tk41 (mkF m 77 #[.val (.int p1), .val (.int p2), .val (.int (5 : Int32)), .val (.int (0 : Int32)), .val (.ref w_BOOLEAN), .val (.ref w_INTEGER), .val (.int (0 : Int32))] []) _
        refine XS.iconst Xk41.here hx rfl (hb hby at_77) ?_
        show Sp p e below Tk41 (mkF m 78 #[.val (.int p1), .val (.int p2), .val (.int (5 : Int32)), .val (.int (0 : Int32)), .val (.ref w_BOOLEAN), .val (.ref w_INTEGER), .val (.int (0 : Int32))] [(.int (1 : Int32))]) _
        refine XS.goto Xk41.here hx rfl (pc0 := 78) (pc' := 82) rfl (hb hby at_78) (by decide) (by decide) ?_
        show Sp p e below Tk41 (mkF m 82 #[.val (.int p1), .val (.int p2), .val (.int (5 : Int32)), .val (.int (0 : Int32)), .val (.ref w_BOOLEAN), .val (.ref w_INTEGER), .val (.int (0 : Int32))] [(.int (1 : Int32))]) _
        exact retN Xk41 hx (t := .boolean) hret (by simp) (hb hby at_82) hlv
      · show Q_law Z p1 p2 w_INTEGER w_DECIMAL w_VARCHAR w_DATE w_TIMESTAMP w_BOOLEAN w_NULL h0 n0 _ Tk41.heap _
        rw [ek41]
        exact ⟨rfl, Nk41⟩
    · have hrj : rj = w_DECIMAL := by rw [hpj]; simp [hj]
      rw [hi, hj, hri, hrj] at r5
      obtain ⟨cqk42, kqk42, qk42a, qk42b, qk42c⟩ := isOf hZ ek4 E_BOOLEAN
      obtain ⟨_, _, ⟨Tk42, Lk42, kk42, nk42⟩, -, Xk42, ⟨Lck42, hQk42, lk42, yk42, zk42⟩, stk42⟩ := Xk4.virtualBack hx (y := (⟨"com/example/kilit/kilit/ValueType", "includes", "(Lcom/example/kilit/kilit/ValueType;)Z"⟩ : MethodName)) (z := (⟨"com/example/kilit/kilit/ValueType", "includes", "(Lcom/example/kilit/kilit/ValueType;)Z"⟩ : MethodName)) hown (mvT hZ (hw _ (List.mem_of_getElem? (i := 10) rfl))) (mvT hZ (hw _ (List.mem_of_getElem? (i := 11) rfl))) (notFace_of_selects (args := #[]) (mvT hZ (hw _ (List.mem_of_getElem? (i := 13) rfl)))) (mvT hZ (hw _ (List.mem_of_getElem? (i := 44) rfl))) (mvT hZ (hw _ (List.mem_of_getElem? (i := 12) rfl))) (by decide) (backOf (W := 0) (rm_base l Z a0 hw [] w_BOOLEAN w_DECIMAL w_NULL (0 : Int32) h0 n0 Z0 S_NULL (by simp [n_DECIMAL_BOOLEAN, n_DECIMAL_NULL, n_DECIMAL_INTEGER, n_DECIMAL_DATE])) hZ (hw _ (List.mem_of_getElem? (i := 14) rfl)) (hw _ (List.mem_of_getElem? (i := 6) rfl)) (by decide) (by decide)) qk42a qk42c (g := (mkF m 69 #[.val (.int p1), .val (.int p2), .val (.int (5 : Int32)), .val (.int (1 : Int32)), .val (.ref w_BOOLEAN), .val (.ref w_DECIMAL), .val (.int (0 : Int32))] [(.ref w_DECIMAL), (.ref w_BOOLEAN)])) rfl (by rw [hml]; rfl) (Steps.refl _) (argsL := [(.ref w_DECIMAL)]) (rest := []) (lenOf pd__Lcom_example_kilit_kilit_ValueType__Z rfl) rfl (by show 2 * 0 + _ ≤ _; exact Nat.le_of_eq rfl) (hb hby at_69) (fun _ _ => ⟨rfl, ek4, (by decide : 0 + 0 ≤ _), (by decide : 0 + 0 ≤ _)⟩)
      dsimp only [Pt.U, Pt.locs, Pt.cells, Pt.slots] at Xk42 lk42 yk42 zk42 stk42 hQk42
      subst lk42 yk42 zk42
      obtain ⟨rfl, Nk42q, ek42⟩ := hQk42
      have Nk42 := Fr.app Nk4 Nk42q
      obtain ⟨fs, hlv, hrun, hended, hW, hsame⟩ := Xk42.leave (v := some (.int (1 : Int32))) (fun h => by rw [hret] at h; cases h)
      refine ⟨_, _, r5 _ ?_, hrun, hended, _, _, rfl, ?_, ⟨_, rfl⟩, hW, hsame.mono (by decide) (by decide)⟩
      · refine XS.iloadN Xk4.here hx rfl (hb hby at_28) rfl ?_
        show Sp p e below Tk4 (mkF m 29 #[.val (.int p1), .val (.int p2), .val (.int (5 : Int32)), .val (.int (1 : Int32)), .val (.ref w_BOOLEAN), .val (.ref w_DECIMAL), .unset] [(.int (5 : Int32))]) _
        refine XS.iloadN Xk4.here hx rfl (hb hby at_29) rfl ?_
        show Sp p e below Tk4 (mkF m 30 #[.val (.int p1), .val (.int p2), .val (.int (5 : Int32)), .val (.int (1 : Int32)), .val (.ref w_BOOLEAN), .val (.ref w_DECIMAL), .unset] [(.int (1 : Int32)), (.int (5 : Int32))]) _
        refine XS.icmpNo Xk4.here hx rfl (hb hby at_30) rfl (feq (by decide : ¬ ((5 : Int32) = (1 : Int32)))).1 ?_
        show Sp p e below Tk4 (mkF m 33 #[.val (.int p1), .val (.int p2), .val (.int (5 : Int32)), .val (.int (1 : Int32)), .val (.ref w_BOOLEAN), .val (.ref w_DECIMAL), .unset] []) _
        refine XS.iloadN Xk4.here hx rfl (hb hby at_33) rfl ?_
        show Sp p e below Tk4 (mkF m 34 #[.val (.int p1), .val (.int p2), .val (.int (5 : Int32)), .val (.int (1 : Int32)), .val (.ref w_BOOLEAN), .val (.ref w_DECIMAL), .unset] [(.int (1 : Int32))]) _
        refine XS.bipush Xk4.here hx rfl (hb hby at_34) ?_
        show Sp p e below Tk4 (mkF m 36 #[.val (.int p1), .val (.int p2), .val (.int (5 : Int32)), .val (.int (1 : Int32)), .val (.ref w_BOOLEAN), .val (.ref w_DECIMAL), .unset] [(.int (6 : Int32)), (.int (1 : Int32))]) _
        refine XS.icmpNo Xk4.here hx rfl (hb hby at_36) rfl (feq (by decide : ¬ ((1 : Int32) = (6 : Int32)))).1 ?_
        show Sp p e below Tk4 (mkF m 39 #[.val (.int p1), .val (.int p2), .val (.int (5 : Int32)), .val (.int (1 : Int32)), .val (.ref w_BOOLEAN), .val (.ref w_DECIMAL), .unset] []) _
        refine XS.iloadN Xk4.here hx rfl (hb hby at_39) rfl ?_
        show Sp p e below Tk4 (mkF m 40 #[.val (.int p1), .val (.int p2), .val (.int (5 : Int32)), .val (.int (1 : Int32)), .val (.ref w_BOOLEAN), .val (.ref w_DECIMAL), .unset] [(.int (5 : Int32))]) _
        refine XS.iconst Xk4.here hx rfl (hb hby at_40) ?_
        show Sp p e below Tk4 (mkF m 41 #[.val (.int p1), .val (.int p2), .val (.int (5 : Int32)), .val (.int (1 : Int32)), .val (.ref w_BOOLEAN), .val (.ref w_DECIMAL), .unset] [(.int (1 : Int32)), (.int (5 : Int32))]) _
        refine XS.icmpYes Xk4.here hx rfl (pc0 := 41) (pc' := 48) rfl (hb hby at_41) rfl (feq (by decide : ¬ ((5 : Int32) = (1 : Int32)))).2 (by decide) (by decide) ?_
        show Sp p e below Tk4 (mkF m 48 #[.val (.int p1), .val (.int p2), .val (.int (5 : Int32)), .val (.int (1 : Int32)), .val (.ref w_BOOLEAN), .val (.ref w_DECIMAL), .unset] []) _
        refine XS.iloadN Xk4.here hx rfl (hb hby at_48) rfl ?_
        show Sp p e below Tk4 (mkF m 49 #[.val (.int p1), .val (.int p2), .val (.int (5 : Int32)), .val (.int (1 : Int32)), .val (.ref w_BOOLEAN), .val (.ref w_DECIMAL), .unset] [(.int (5 : Int32))]) _
        refine XS.iconst Xk4.here hx rfl (hb hby at_49) ?_
        show Sp p e below Tk4 (mkF m 50 #[.val (.int p1), .val (.int p2), .val (.int (5 : Int32)), .val (.int (1 : Int32)), .val (.ref w_BOOLEAN), .val (.ref w_DECIMAL), .unset] [(.int (4 : Int32)), (.int (5 : Int32))]) _
        refine XS.icmpYes Xk4.here hx rfl (pc0 := 50) (pc' := 62) rfl (hb hby at_50) rfl (feq (by decide : ¬ ((5 : Int32) = (4 : Int32)))).2 (by decide) (by decide) ?_
        show Sp p e below Tk4 (mkF m 62 #[.val (.int p1), .val (.int p2), .val (.int (5 : Int32)), .val (.int (1 : Int32)), .val (.ref w_BOOLEAN), .val (.ref w_DECIMAL), .unset] []) _
        refine XS.iconst Xk4.here hx rfl (hb hby at_62) ?_
        show Sp p e below Tk4 (mkF m 63 #[.val (.int p1), .val (.int p2), .val (.int (5 : Int32)), .val (.int (1 : Int32)), .val (.ref w_BOOLEAN), .val (.ref w_DECIMAL), .unset] [(.int (0 : Int32))]) _
        refine XS.istore Xk4.here hx rfl (hb hby at_63) rfl (l' := #[.val (.int p1), .val (.int p2), .val (.int (5 : Int32)), .val (.int (1 : Int32)), .val (.ref w_BOOLEAN), .val (.ref w_DECIMAL), .val (.int (0 : Int32))]) rfl ?_
        show Sp p e below Tk4 (mkF m 65 #[.val (.int p1), .val (.int p2), .val (.int (5 : Int32)), .val (.int (1 : Int32)), .val (.ref w_BOOLEAN), .val (.ref w_DECIMAL), .val (.int (0 : Int32))] []) _
        refine XS.aload Xk4.here hx rfl (hb hby at_65) rfl rfl ?_
        show Sp p e below Tk4 (mkF m 67 #[.val (.int p1), .val (.int p2), .val (.int (5 : Int32)), .val (.int (1 : Int32)), .val (.ref w_BOOLEAN), .val (.ref w_DECIMAL), .val (.int (0 : Int32))] [(.ref w_BOOLEAN)]) _
        refine XS.aload Xk4.here hx rfl (hb hby at_67) rfl rfl ?_
        show Sp p e below Tk4 (mkF m 69 #[.val (.int p1), .val (.int p2), .val (.int (5 : Int32)), .val (.int (1 : Int32)), .val (.ref w_BOOLEAN), .val (.ref w_DECIMAL), .val (.int (0 : Int32))] [(.ref w_DECIMAL), (.ref w_BOOLEAN)]) _
        refine stk42.trans ?_
        show Sp p e below Tk42 (mkF m 72 #[.val (.int p1), .val (.int p2), .val (.int (5 : Int32)), .val (.int (1 : Int32)), .val (.ref w_BOOLEAN), .val (.ref w_DECIMAL), .val (.int (0 : Int32))] [(.int (0 : Int32))]) _
        refine XS.iload Xk42.here hx rfl (hb hby at_72) rfl ?_
        show Sp p e below Tk42 (mkF m 74 #[.val (.int p1), .val (.int p2), .val (.int (5 : Int32)), .val (.int (1 : Int32)), .val (.ref w_BOOLEAN), .val (.ref w_DECIMAL), .val (.int (0 : Int32))] [(.int (0 : Int32)), (.int (0 : Int32))]) _
        refine XS.icmpNo Xk42.here hx rfl (hb hby at_74) rfl (teq (by decide : (0 : Int32) = (0 : Int32))).2 ?_
        show Sp p e below Tk42 (mkF m 77 #[.val (.int p1), .val (.int p2), .val (.int (5 : Int32)), .val (.int (1 : Int32)), .val (.ref w_BOOLEAN), .val (.ref w_DECIMAL), .val (.int (0 : Int32))] []) _
        refine XS.iconst Xk42.here hx rfl (hb hby at_77) ?_
        show Sp p e below Tk42 (mkF m 78 #[.val (.int p1), .val (.int p2), .val (.int (5 : Int32)), .val (.int (1 : Int32)), .val (.ref w_BOOLEAN), .val (.ref w_DECIMAL), .val (.int (0 : Int32))] [(.int (1 : Int32))]) _
        refine XS.goto Xk42.here hx rfl (pc0 := 78) (pc' := 82) rfl (hb hby at_78) (by decide) (by decide) ?_
        show Sp p e below Tk42 (mkF m 82 #[.val (.int p1), .val (.int p2), .val (.int (5 : Int32)), .val (.int (1 : Int32)), .val (.ref w_BOOLEAN), .val (.ref w_DECIMAL), .val (.int (0 : Int32))] [(.int (1 : Int32))]) _
        exact retN Xk42 hx (t := .boolean) hret (by simp) (hb hby at_82) hlv
      · show Q_law Z p1 p2 w_INTEGER w_DECIMAL w_VARCHAR w_DATE w_TIMESTAMP w_BOOLEAN w_NULL h0 n0 _ Tk42.heap _
        rw [ek42]
        exact ⟨rfl, Nk42⟩
    · have hrj : rj = w_VARCHAR := by rw [hpj]; simp [hj]
      rw [hi, hj, hri, hrj] at r5
      obtain ⟨cqk43, kqk43, qk43a, qk43b, qk43c⟩ := isOf hZ ek4 E_BOOLEAN
      obtain ⟨_, _, ⟨Tk43, Lk43, kk43, nk43⟩, -, Xk43, ⟨Lck43, hQk43, lk43, yk43, zk43⟩, stk43⟩ := Xk4.virtualBack hx (y := (⟨"com/example/kilit/kilit/ValueType", "includes", "(Lcom/example/kilit/kilit/ValueType;)Z"⟩ : MethodName)) (z := (⟨"com/example/kilit/kilit/ValueType", "includes", "(Lcom/example/kilit/kilit/ValueType;)Z"⟩ : MethodName)) hown (mvT hZ (hw _ (List.mem_of_getElem? (i := 10) rfl))) (mvT hZ (hw _ (List.mem_of_getElem? (i := 11) rfl))) (notFace_of_selects (args := #[]) (mvT hZ (hw _ (List.mem_of_getElem? (i := 13) rfl)))) (mvT hZ (hw _ (List.mem_of_getElem? (i := 44) rfl))) (mvT hZ (hw _ (List.mem_of_getElem? (i := 12) rfl))) (by decide) (backOf (W := 0) (rm_base l Z a0 hw [] w_BOOLEAN w_VARCHAR w_NULL (0 : Int32) h0 n0 Z0 S_NULL (by simp [n_VARCHAR_BOOLEAN, n_VARCHAR_NULL, n_VARCHAR_INTEGER, n_VARCHAR_DATE])) hZ (hw _ (List.mem_of_getElem? (i := 14) rfl)) (hw _ (List.mem_of_getElem? (i := 6) rfl)) (by decide) (by decide)) qk43a qk43c (g := (mkF m 69 #[.val (.int p1), .val (.int p2), .val (.int (5 : Int32)), .val (.int (2 : Int32)), .val (.ref w_BOOLEAN), .val (.ref w_VARCHAR), .val (.int (0 : Int32))] [(.ref w_VARCHAR), (.ref w_BOOLEAN)])) rfl (by rw [hml]; rfl) (Steps.refl _) (argsL := [(.ref w_VARCHAR)]) (rest := []) (lenOf pd__Lcom_example_kilit_kilit_ValueType__Z rfl) rfl (by show 2 * 0 + _ ≤ _; exact Nat.le_of_eq rfl) (hb hby at_69) (fun _ _ => ⟨rfl, ek4, (by decide : 0 + 0 ≤ _), (by decide : 0 + 0 ≤ _)⟩)
      dsimp only [Pt.U, Pt.locs, Pt.cells, Pt.slots] at Xk43 lk43 yk43 zk43 stk43 hQk43
      subst lk43 yk43 zk43
      obtain ⟨rfl, Nk43q, ek43⟩ := hQk43
      have Nk43 := Fr.app Nk4 Nk43q
      obtain ⟨fs, hlv, hrun, hended, hW, hsame⟩ := Xk43.leave (v := some (.int (1 : Int32))) (fun h => by rw [hret] at h; cases h)
      refine ⟨_, _, r5 _ ?_, hrun, hended, _, _, rfl, ?_, ⟨_, rfl⟩, hW, hsame.mono (by decide) (by decide)⟩
      · refine XS.iloadN Xk4.here hx rfl (hb hby at_28) rfl ?_
        show Sp p e below Tk4 (mkF m 29 #[.val (.int p1), .val (.int p2), .val (.int (5 : Int32)), .val (.int (2 : Int32)), .val (.ref w_BOOLEAN), .val (.ref w_VARCHAR), .unset] [(.int (5 : Int32))]) _
        refine XS.iloadN Xk4.here hx rfl (hb hby at_29) rfl ?_
        show Sp p e below Tk4 (mkF m 30 #[.val (.int p1), .val (.int p2), .val (.int (5 : Int32)), .val (.int (2 : Int32)), .val (.ref w_BOOLEAN), .val (.ref w_VARCHAR), .unset] [(.int (2 : Int32)), (.int (5 : Int32))]) _
        refine XS.icmpNo Xk4.here hx rfl (hb hby at_30) rfl (feq (by decide : ¬ ((5 : Int32) = (2 : Int32)))).1 ?_
        show Sp p e below Tk4 (mkF m 33 #[.val (.int p1), .val (.int p2), .val (.int (5 : Int32)), .val (.int (2 : Int32)), .val (.ref w_BOOLEAN), .val (.ref w_VARCHAR), .unset] []) _
        refine XS.iloadN Xk4.here hx rfl (hb hby at_33) rfl ?_
        show Sp p e below Tk4 (mkF m 34 #[.val (.int p1), .val (.int p2), .val (.int (5 : Int32)), .val (.int (2 : Int32)), .val (.ref w_BOOLEAN), .val (.ref w_VARCHAR), .unset] [(.int (2 : Int32))]) _
        refine XS.bipush Xk4.here hx rfl (hb hby at_34) ?_
        show Sp p e below Tk4 (mkF m 36 #[.val (.int p1), .val (.int p2), .val (.int (5 : Int32)), .val (.int (2 : Int32)), .val (.ref w_BOOLEAN), .val (.ref w_VARCHAR), .unset] [(.int (6 : Int32)), (.int (2 : Int32))]) _
        refine XS.icmpNo Xk4.here hx rfl (hb hby at_36) rfl (feq (by decide : ¬ ((2 : Int32) = (6 : Int32)))).1 ?_
        show Sp p e below Tk4 (mkF m 39 #[.val (.int p1), .val (.int p2), .val (.int (5 : Int32)), .val (.int (2 : Int32)), .val (.ref w_BOOLEAN), .val (.ref w_VARCHAR), .unset] []) _
        refine XS.iloadN Xk4.here hx rfl (hb hby at_39) rfl ?_
        show Sp p e below Tk4 (mkF m 40 #[.val (.int p1), .val (.int p2), .val (.int (5 : Int32)), .val (.int (2 : Int32)), .val (.ref w_BOOLEAN), .val (.ref w_VARCHAR), .unset] [(.int (5 : Int32))]) _
        refine XS.iconst Xk4.here hx rfl (hb hby at_40) ?_
        show Sp p e below Tk4 (mkF m 41 #[.val (.int p1), .val (.int p2), .val (.int (5 : Int32)), .val (.int (2 : Int32)), .val (.ref w_BOOLEAN), .val (.ref w_VARCHAR), .unset] [(.int (1 : Int32)), (.int (5 : Int32))]) _
        refine XS.icmpYes Xk4.here hx rfl (pc0 := 41) (pc' := 48) rfl (hb hby at_41) rfl (feq (by decide : ¬ ((5 : Int32) = (1 : Int32)))).2 (by decide) (by decide) ?_
        show Sp p e below Tk4 (mkF m 48 #[.val (.int p1), .val (.int p2), .val (.int (5 : Int32)), .val (.int (2 : Int32)), .val (.ref w_BOOLEAN), .val (.ref w_VARCHAR), .unset] []) _
        refine XS.iloadN Xk4.here hx rfl (hb hby at_48) rfl ?_
        show Sp p e below Tk4 (mkF m 49 #[.val (.int p1), .val (.int p2), .val (.int (5 : Int32)), .val (.int (2 : Int32)), .val (.ref w_BOOLEAN), .val (.ref w_VARCHAR), .unset] [(.int (5 : Int32))]) _
        refine XS.iconst Xk4.here hx rfl (hb hby at_49) ?_
        show Sp p e below Tk4 (mkF m 50 #[.val (.int p1), .val (.int p2), .val (.int (5 : Int32)), .val (.int (2 : Int32)), .val (.ref w_BOOLEAN), .val (.ref w_VARCHAR), .unset] [(.int (4 : Int32)), (.int (5 : Int32))]) _
        refine XS.icmpYes Xk4.here hx rfl (pc0 := 50) (pc' := 62) rfl (hb hby at_50) rfl (feq (by decide : ¬ ((5 : Int32) = (4 : Int32)))).2 (by decide) (by decide) ?_
        show Sp p e below Tk4 (mkF m 62 #[.val (.int p1), .val (.int p2), .val (.int (5 : Int32)), .val (.int (2 : Int32)), .val (.ref w_BOOLEAN), .val (.ref w_VARCHAR), .unset] []) _
        refine XS.iconst Xk4.here hx rfl (hb hby at_62) ?_
        show Sp p e below Tk4 (mkF m 63 #[.val (.int p1), .val (.int p2), .val (.int (5 : Int32)), .val (.int (2 : Int32)), .val (.ref w_BOOLEAN), .val (.ref w_VARCHAR), .unset] [(.int (0 : Int32))]) _
        refine XS.istore Xk4.here hx rfl (hb hby at_63) rfl (l' := #[.val (.int p1), .val (.int p2), .val (.int (5 : Int32)), .val (.int (2 : Int32)), .val (.ref w_BOOLEAN), .val (.ref w_VARCHAR), .val (.int (0 : Int32))]) rfl ?_
        show Sp p e below Tk4 (mkF m 65 #[.val (.int p1), .val (.int p2), .val (.int (5 : Int32)), .val (.int (2 : Int32)), .val (.ref w_BOOLEAN), .val (.ref w_VARCHAR), .val (.int (0 : Int32))] []) _
        refine XS.aload Xk4.here hx rfl (hb hby at_65) rfl rfl ?_
        show Sp p e below Tk4 (mkF m 67 #[.val (.int p1), .val (.int p2), .val (.int (5 : Int32)), .val (.int (2 : Int32)), .val (.ref w_BOOLEAN), .val (.ref w_VARCHAR), .val (.int (0 : Int32))] [(.ref w_BOOLEAN)]) _
        refine XS.aload Xk4.here hx rfl (hb hby at_67) rfl rfl ?_
        show Sp p e below Tk4 (mkF m 69 #[.val (.int p1), .val (.int p2), .val (.int (5 : Int32)), .val (.int (2 : Int32)), .val (.ref w_BOOLEAN), .val (.ref w_VARCHAR), .val (.int (0 : Int32))] [(.ref w_VARCHAR), (.ref w_BOOLEAN)]) _
        refine stk43.trans ?_
        show Sp p e below Tk43 (mkF m 72 #[.val (.int p1), .val (.int p2), .val (.int (5 : Int32)), .val (.int (2 : Int32)), .val (.ref w_BOOLEAN), .val (.ref w_VARCHAR), .val (.int (0 : Int32))] [(.int (0 : Int32))]) _
        refine XS.iload Xk43.here hx rfl (hb hby at_72) rfl ?_
        show Sp p e below Tk43 (mkF m 74 #[.val (.int p1), .val (.int p2), .val (.int (5 : Int32)), .val (.int (2 : Int32)), .val (.ref w_BOOLEAN), .val (.ref w_VARCHAR), .val (.int (0 : Int32))] [(.int (0 : Int32)), (.int (0 : Int32))]) _
        refine XS.icmpNo Xk43.here hx rfl (hb hby at_74) rfl (teq (by decide : (0 : Int32) = (0 : Int32))).2 ?_
        show Sp p e below Tk43 (mkF m 77 #[.val (.int p1), .val (.int p2), .val (.int (5 : Int32)), .val (.int (2 : Int32)), .val (.ref w_BOOLEAN), .val (.ref w_VARCHAR), .val (.int (0 : Int32))] []) _
        refine XS.iconst Xk43.here hx rfl (hb hby at_77) ?_
        show Sp p e below Tk43 (mkF m 78 #[.val (.int p1), .val (.int p2), .val (.int (5 : Int32)), .val (.int (2 : Int32)), .val (.ref w_BOOLEAN), .val (.ref w_VARCHAR), .val (.int (0 : Int32))] [(.int (1 : Int32))]) _
        refine XS.goto Xk43.here hx rfl (pc0 := 78) (pc' := 82) rfl (hb hby at_78) (by decide) (by decide) ?_
        show Sp p e below Tk43 (mkF m 82 #[.val (.int p1), .val (.int p2), .val (.int (5 : Int32)), .val (.int (2 : Int32)), .val (.ref w_BOOLEAN), .val (.ref w_VARCHAR), .val (.int (0 : Int32))] [(.int (1 : Int32))]) _
        exact retN Xk43 hx (t := .boolean) hret (by simp) (hb hby at_82) hlv
      · show Q_law Z p1 p2 w_INTEGER w_DECIMAL w_VARCHAR w_DATE w_TIMESTAMP w_BOOLEAN w_NULL h0 n0 _ Tk43.heap _
        rw [ek43]
        exact ⟨rfl, Nk43⟩
    · have hrj : rj = w_DATE := by rw [hpj]; simp [hj]
      rw [hi, hj, hri, hrj] at r5
      obtain ⟨cqk44, kqk44, qk44a, qk44b, qk44c⟩ := isOf hZ ek4 E_BOOLEAN
      obtain ⟨_, _, ⟨Tk44, Lk44, kk44, nk44⟩, -, Xk44, ⟨Lck44, hQk44, lk44, yk44, zk44⟩, stk44⟩ := Xk4.virtualBack hx (y := (⟨"com/example/kilit/kilit/ValueType", "includes", "(Lcom/example/kilit/kilit/ValueType;)Z"⟩ : MethodName)) (z := (⟨"com/example/kilit/kilit/ValueType", "includes", "(Lcom/example/kilit/kilit/ValueType;)Z"⟩ : MethodName)) hown (mvT hZ (hw _ (List.mem_of_getElem? (i := 10) rfl))) (mvT hZ (hw _ (List.mem_of_getElem? (i := 11) rfl))) (notFace_of_selects (args := #[]) (mvT hZ (hw _ (List.mem_of_getElem? (i := 13) rfl)))) (mvT hZ (hw _ (List.mem_of_getElem? (i := 44) rfl))) (mvT hZ (hw _ (List.mem_of_getElem? (i := 12) rfl))) (by decide) (backOf (W := 0) (rm_base l Z a0 hw [] w_BOOLEAN w_DATE w_NULL (0 : Int32) h0 n0 Z0 S_NULL (by simp [n_DATE_BOOLEAN, n_DATE_NULL, n_DATE_INTEGER])) hZ (hw _ (List.mem_of_getElem? (i := 14) rfl)) (hw _ (List.mem_of_getElem? (i := 6) rfl)) (by decide) (by decide)) qk44a qk44c (g := (mkF m 69 #[.val (.int p1), .val (.int p2), .val (.int (5 : Int32)), .val (.int (3 : Int32)), .val (.ref w_BOOLEAN), .val (.ref w_DATE), .val (.int (0 : Int32))] [(.ref w_DATE), (.ref w_BOOLEAN)])) rfl (by rw [hml]; rfl) (Steps.refl _) (argsL := [(.ref w_DATE)]) (rest := []) (lenOf pd__Lcom_example_kilit_kilit_ValueType__Z rfl) rfl (by show 2 * 0 + _ ≤ _; exact Nat.le_of_eq rfl) (hb hby at_69) (fun _ _ => ⟨rfl, ek4, (by decide : 0 + 0 ≤ _), (by decide : 0 + 0 ≤ _)⟩)
      dsimp only [Pt.U, Pt.locs, Pt.cells, Pt.slots] at Xk44 lk44 yk44 zk44 stk44 hQk44
      subst lk44 yk44 zk44
      obtain ⟨rfl, Nk44q, ek44⟩ := hQk44
      have Nk44 := Fr.app Nk4 Nk44q
      obtain ⟨fs, hlv, hrun, hended, hW, hsame⟩ := Xk44.leave (v := some (.int (1 : Int32))) (fun h => by rw [hret] at h; cases h)
      refine ⟨_, _, r5 _ ?_, hrun, hended, _, _, rfl, ?_, ⟨_, rfl⟩, hW, hsame.mono (by decide) (by decide)⟩
      · refine XS.iloadN Xk4.here hx rfl (hb hby at_28) rfl ?_
        show Sp p e below Tk4 (mkF m 29 #[.val (.int p1), .val (.int p2), .val (.int (5 : Int32)), .val (.int (3 : Int32)), .val (.ref w_BOOLEAN), .val (.ref w_DATE), .unset] [(.int (5 : Int32))]) _
        refine XS.iloadN Xk4.here hx rfl (hb hby at_29) rfl ?_
        show Sp p e below Tk4 (mkF m 30 #[.val (.int p1), .val (.int p2), .val (.int (5 : Int32)), .val (.int (3 : Int32)), .val (.ref w_BOOLEAN), .val (.ref w_DATE), .unset] [(.int (3 : Int32)), (.int (5 : Int32))]) _
        refine XS.icmpNo Xk4.here hx rfl (hb hby at_30) rfl (feq (by decide : ¬ ((5 : Int32) = (3 : Int32)))).1 ?_
        show Sp p e below Tk4 (mkF m 33 #[.val (.int p1), .val (.int p2), .val (.int (5 : Int32)), .val (.int (3 : Int32)), .val (.ref w_BOOLEAN), .val (.ref w_DATE), .unset] []) _
        refine XS.iloadN Xk4.here hx rfl (hb hby at_33) rfl ?_
        show Sp p e below Tk4 (mkF m 34 #[.val (.int p1), .val (.int p2), .val (.int (5 : Int32)), .val (.int (3 : Int32)), .val (.ref w_BOOLEAN), .val (.ref w_DATE), .unset] [(.int (3 : Int32))]) _
        refine XS.bipush Xk4.here hx rfl (hb hby at_34) ?_
        show Sp p e below Tk4 (mkF m 36 #[.val (.int p1), .val (.int p2), .val (.int (5 : Int32)), .val (.int (3 : Int32)), .val (.ref w_BOOLEAN), .val (.ref w_DATE), .unset] [(.int (6 : Int32)), (.int (3 : Int32))]) _
        refine XS.icmpNo Xk4.here hx rfl (hb hby at_36) rfl (feq (by decide : ¬ ((3 : Int32) = (6 : Int32)))).1 ?_
        show Sp p e below Tk4 (mkF m 39 #[.val (.int p1), .val (.int p2), .val (.int (5 : Int32)), .val (.int (3 : Int32)), .val (.ref w_BOOLEAN), .val (.ref w_DATE), .unset] []) _
        refine XS.iloadN Xk4.here hx rfl (hb hby at_39) rfl ?_
        show Sp p e below Tk4 (mkF m 40 #[.val (.int p1), .val (.int p2), .val (.int (5 : Int32)), .val (.int (3 : Int32)), .val (.ref w_BOOLEAN), .val (.ref w_DATE), .unset] [(.int (5 : Int32))]) _
        refine XS.iconst Xk4.here hx rfl (hb hby at_40) ?_
        show Sp p e below Tk4 (mkF m 41 #[.val (.int p1), .val (.int p2), .val (.int (5 : Int32)), .val (.int (3 : Int32)), .val (.ref w_BOOLEAN), .val (.ref w_DATE), .unset] [(.int (1 : Int32)), (.int (5 : Int32))]) _
        refine XS.icmpYes Xk4.here hx rfl (pc0 := 41) (pc' := 48) rfl (hb hby at_41) rfl (feq (by decide : ¬ ((5 : Int32) = (1 : Int32)))).2 (by decide) (by decide) ?_
        show Sp p e below Tk4 (mkF m 48 #[.val (.int p1), .val (.int p2), .val (.int (5 : Int32)), .val (.int (3 : Int32)), .val (.ref w_BOOLEAN), .val (.ref w_DATE), .unset] []) _
        refine XS.iloadN Xk4.here hx rfl (hb hby at_48) rfl ?_
        show Sp p e below Tk4 (mkF m 49 #[.val (.int p1), .val (.int p2), .val (.int (5 : Int32)), .val (.int (3 : Int32)), .val (.ref w_BOOLEAN), .val (.ref w_DATE), .unset] [(.int (5 : Int32))]) _
        refine XS.iconst Xk4.here hx rfl (hb hby at_49) ?_
        show Sp p e below Tk4 (mkF m 50 #[.val (.int p1), .val (.int p2), .val (.int (5 : Int32)), .val (.int (3 : Int32)), .val (.ref w_BOOLEAN), .val (.ref w_DATE), .unset] [(.int (4 : Int32)), (.int (5 : Int32))]) _
        refine XS.icmpYes Xk4.here hx rfl (pc0 := 50) (pc' := 62) rfl (hb hby at_50) rfl (feq (by decide : ¬ ((5 : Int32) = (4 : Int32)))).2 (by decide) (by decide) ?_
        show Sp p e below Tk4 (mkF m 62 #[.val (.int p1), .val (.int p2), .val (.int (5 : Int32)), .val (.int (3 : Int32)), .val (.ref w_BOOLEAN), .val (.ref w_DATE), .unset] []) _
        refine XS.iconst Xk4.here hx rfl (hb hby at_62) ?_
        show Sp p e below Tk4 (mkF m 63 #[.val (.int p1), .val (.int p2), .val (.int (5 : Int32)), .val (.int (3 : Int32)), .val (.ref w_BOOLEAN), .val (.ref w_DATE), .unset] [(.int (0 : Int32))]) _
        refine XS.istore Xk4.here hx rfl (hb hby at_63) rfl (l' := #[.val (.int p1), .val (.int p2), .val (.int (5 : Int32)), .val (.int (3 : Int32)), .val (.ref w_BOOLEAN), .val (.ref w_DATE), .val (.int (0 : Int32))]) rfl ?_
        show Sp p e below Tk4 (mkF m 65 #[.val (.int p1), .val (.int p2), .val (.int (5 : Int32)), .val (.int (3 : Int32)), .val (.ref w_BOOLEAN), .val (.ref w_DATE), .val (.int (0 : Int32))] []) _
        refine XS.aload Xk4.here hx rfl (hb hby at_65) rfl rfl ?_
        show Sp p e below Tk4 (mkF m 67 #[.val (.int p1), .val (.int p2), .val (.int (5 : Int32)), .val (.int (3 : Int32)), .val (.ref w_BOOLEAN), .val (.ref w_DATE), .val (.int (0 : Int32))] [(.ref w_BOOLEAN)]) _
        refine XS.aload Xk4.here hx rfl (hb hby at_67) rfl rfl ?_
        show Sp p e below Tk4 (mkF m 69 #[.val (.int p1), .val (.int p2), .val (.int (5 : Int32)), .val (.int (3 : Int32)), .val (.ref w_BOOLEAN), .val (.ref w_DATE), .val (.int (0 : Int32))] [(.ref w_DATE), (.ref w_BOOLEAN)]) _
        refine stk44.trans ?_
        show Sp p e below Tk44 (mkF m 72 #[.val (.int p1), .val (.int p2), .val (.int (5 : Int32)), .val (.int (3 : Int32)), .val (.ref w_BOOLEAN), .val (.ref w_DATE), .val (.int (0 : Int32))] [(.int (0 : Int32))]) _
        refine XS.iload Xk44.here hx rfl (hb hby at_72) rfl ?_
        show Sp p e below Tk44 (mkF m 74 #[.val (.int p1), .val (.int p2), .val (.int (5 : Int32)), .val (.int (3 : Int32)), .val (.ref w_BOOLEAN), .val (.ref w_DATE), .val (.int (0 : Int32))] [(.int (0 : Int32)), (.int (0 : Int32))]) _
        refine XS.icmpNo Xk44.here hx rfl (hb hby at_74) rfl (teq (by decide : (0 : Int32) = (0 : Int32))).2 ?_
        show Sp p e below Tk44 (mkF m 77 #[.val (.int p1), .val (.int p2), .val (.int (5 : Int32)), .val (.int (3 : Int32)), .val (.ref w_BOOLEAN), .val (.ref w_DATE), .val (.int (0 : Int32))] []) _
        refine XS.iconst Xk44.here hx rfl (hb hby at_77) ?_
        show Sp p e below Tk44 (mkF m 78 #[.val (.int p1), .val (.int p2), .val (.int (5 : Int32)), .val (.int (3 : Int32)), .val (.ref w_BOOLEAN), .val (.ref w_DATE), .val (.int (0 : Int32))] [(.int (1 : Int32))]) _
        refine XS.goto Xk44.here hx rfl (pc0 := 78) (pc' := 82) rfl (hb hby at_78) (by decide) (by decide) ?_
        show Sp p e below Tk44 (mkF m 82 #[.val (.int p1), .val (.int p2), .val (.int (5 : Int32)), .val (.int (3 : Int32)), .val (.ref w_BOOLEAN), .val (.ref w_DATE), .val (.int (0 : Int32))] [(.int (1 : Int32))]) _
        exact retN Xk44 hx (t := .boolean) hret (by simp) (hb hby at_82) hlv
      · show Q_law Z p1 p2 w_INTEGER w_DECIMAL w_VARCHAR w_DATE w_TIMESTAMP w_BOOLEAN w_NULL h0 n0 _ Tk44.heap _
        rw [ek44]
        exact ⟨rfl, Nk44⟩
    · have hrj : rj = w_TIMESTAMP := by rw [hpj]; simp [hj]
      rw [hi, hj, hri, hrj] at r5
      obtain ⟨cqk45, kqk45, qk45a, qk45b, qk45c⟩ := isOf hZ ek4 E_BOOLEAN
      obtain ⟨_, _, ⟨Tk45, Lk45, kk45, nk45⟩, -, Xk45, ⟨Lck45, hQk45, lk45, yk45, zk45⟩, stk45⟩ := Xk4.virtualBack hx (y := (⟨"com/example/kilit/kilit/ValueType", "includes", "(Lcom/example/kilit/kilit/ValueType;)Z"⟩ : MethodName)) (z := (⟨"com/example/kilit/kilit/ValueType", "includes", "(Lcom/example/kilit/kilit/ValueType;)Z"⟩ : MethodName)) hown (mvT hZ (hw _ (List.mem_of_getElem? (i := 10) rfl))) (mvT hZ (hw _ (List.mem_of_getElem? (i := 11) rfl))) (notFace_of_selects (args := #[]) (mvT hZ (hw _ (List.mem_of_getElem? (i := 13) rfl)))) (mvT hZ (hw _ (List.mem_of_getElem? (i := 44) rfl))) (mvT hZ (hw _ (List.mem_of_getElem? (i := 12) rfl))) (by decide) (backOf (W := 0) (rm_base l Z a0 hw [] w_BOOLEAN w_TIMESTAMP w_NULL (0 : Int32) h0 n0 Z0 S_NULL (by simp [n_TIMESTAMP_BOOLEAN, n_TIMESTAMP_NULL, n_TIMESTAMP_INTEGER, n_TIMESTAMP_DATE])) hZ (hw _ (List.mem_of_getElem? (i := 14) rfl)) (hw _ (List.mem_of_getElem? (i := 6) rfl)) (by decide) (by decide)) qk45a qk45c (g := (mkF m 69 #[.val (.int p1), .val (.int p2), .val (.int (5 : Int32)), .val (.int (4 : Int32)), .val (.ref w_BOOLEAN), .val (.ref w_TIMESTAMP), .val (.int (0 : Int32))] [(.ref w_TIMESTAMP), (.ref w_BOOLEAN)])) rfl (by rw [hml]; rfl) (Steps.refl _) (argsL := [(.ref w_TIMESTAMP)]) (rest := []) (lenOf pd__Lcom_example_kilit_kilit_ValueType__Z rfl) rfl (by show 2 * 0 + _ ≤ _; exact Nat.le_of_eq rfl) (hb hby at_69) (fun _ _ => ⟨rfl, ek4, (by decide : 0 + 0 ≤ _), (by decide : 0 + 0 ≤ _)⟩)
      dsimp only [Pt.U, Pt.locs, Pt.cells, Pt.slots] at Xk45 lk45 yk45 zk45 stk45 hQk45
      subst lk45 yk45 zk45
      obtain ⟨rfl, Nk45q, ek45⟩ := hQk45
      have Nk45 := Fr.app Nk4 Nk45q
      obtain ⟨fs, hlv, hrun, hended, hW, hsame⟩ := Xk45.leave (v := some (.int (1 : Int32))) (fun h => by rw [hret] at h; cases h)
      refine ⟨_, _, r5 _ ?_, hrun, hended, _, _, rfl, ?_, ⟨_, rfl⟩, hW, hsame.mono (by decide) (by decide)⟩
      · refine XS.iloadN Xk4.here hx rfl (hb hby at_28) rfl ?_
        show Sp p e below Tk4 (mkF m 29 #[.val (.int p1), .val (.int p2), .val (.int (5 : Int32)), .val (.int (4 : Int32)), .val (.ref w_BOOLEAN), .val (.ref w_TIMESTAMP), .unset] [(.int (5 : Int32))]) _
        refine XS.iloadN Xk4.here hx rfl (hb hby at_29) rfl ?_
        show Sp p e below Tk4 (mkF m 30 #[.val (.int p1), .val (.int p2), .val (.int (5 : Int32)), .val (.int (4 : Int32)), .val (.ref w_BOOLEAN), .val (.ref w_TIMESTAMP), .unset] [(.int (4 : Int32)), (.int (5 : Int32))]) _
        refine XS.icmpNo Xk4.here hx rfl (hb hby at_30) rfl (feq (by decide : ¬ ((5 : Int32) = (4 : Int32)))).1 ?_
        show Sp p e below Tk4 (mkF m 33 #[.val (.int p1), .val (.int p2), .val (.int (5 : Int32)), .val (.int (4 : Int32)), .val (.ref w_BOOLEAN), .val (.ref w_TIMESTAMP), .unset] []) _
        refine XS.iloadN Xk4.here hx rfl (hb hby at_33) rfl ?_
        show Sp p e below Tk4 (mkF m 34 #[.val (.int p1), .val (.int p2), .val (.int (5 : Int32)), .val (.int (4 : Int32)), .val (.ref w_BOOLEAN), .val (.ref w_TIMESTAMP), .unset] [(.int (4 : Int32))]) _
        refine XS.bipush Xk4.here hx rfl (hb hby at_34) ?_
        show Sp p e below Tk4 (mkF m 36 #[.val (.int p1), .val (.int p2), .val (.int (5 : Int32)), .val (.int (4 : Int32)), .val (.ref w_BOOLEAN), .val (.ref w_TIMESTAMP), .unset] [(.int (6 : Int32)), (.int (4 : Int32))]) _
        refine XS.icmpNo Xk4.here hx rfl (hb hby at_36) rfl (feq (by decide : ¬ ((4 : Int32) = (6 : Int32)))).1 ?_
        show Sp p e below Tk4 (mkF m 39 #[.val (.int p1), .val (.int p2), .val (.int (5 : Int32)), .val (.int (4 : Int32)), .val (.ref w_BOOLEAN), .val (.ref w_TIMESTAMP), .unset] []) _
        refine XS.iloadN Xk4.here hx rfl (hb hby at_39) rfl ?_
        show Sp p e below Tk4 (mkF m 40 #[.val (.int p1), .val (.int p2), .val (.int (5 : Int32)), .val (.int (4 : Int32)), .val (.ref w_BOOLEAN), .val (.ref w_TIMESTAMP), .unset] [(.int (5 : Int32))]) _
        refine XS.iconst Xk4.here hx rfl (hb hby at_40) ?_
        show Sp p e below Tk4 (mkF m 41 #[.val (.int p1), .val (.int p2), .val (.int (5 : Int32)), .val (.int (4 : Int32)), .val (.ref w_BOOLEAN), .val (.ref w_TIMESTAMP), .unset] [(.int (1 : Int32)), (.int (5 : Int32))]) _
        refine XS.icmpYes Xk4.here hx rfl (pc0 := 41) (pc' := 48) rfl (hb hby at_41) rfl (feq (by decide : ¬ ((5 : Int32) = (1 : Int32)))).2 (by decide) (by decide) ?_
        show Sp p e below Tk4 (mkF m 48 #[.val (.int p1), .val (.int p2), .val (.int (5 : Int32)), .val (.int (4 : Int32)), .val (.ref w_BOOLEAN), .val (.ref w_TIMESTAMP), .unset] []) _
        refine XS.iloadN Xk4.here hx rfl (hb hby at_48) rfl ?_
        show Sp p e below Tk4 (mkF m 49 #[.val (.int p1), .val (.int p2), .val (.int (5 : Int32)), .val (.int (4 : Int32)), .val (.ref w_BOOLEAN), .val (.ref w_TIMESTAMP), .unset] [(.int (5 : Int32))]) _
        refine XS.iconst Xk4.here hx rfl (hb hby at_49) ?_
        show Sp p e below Tk4 (mkF m 50 #[.val (.int p1), .val (.int p2), .val (.int (5 : Int32)), .val (.int (4 : Int32)), .val (.ref w_BOOLEAN), .val (.ref w_TIMESTAMP), .unset] [(.int (4 : Int32)), (.int (5 : Int32))]) _
        refine XS.icmpYes Xk4.here hx rfl (pc0 := 50) (pc' := 62) rfl (hb hby at_50) rfl (feq (by decide : ¬ ((5 : Int32) = (4 : Int32)))).2 (by decide) (by decide) ?_
        show Sp p e below Tk4 (mkF m 62 #[.val (.int p1), .val (.int p2), .val (.int (5 : Int32)), .val (.int (4 : Int32)), .val (.ref w_BOOLEAN), .val (.ref w_TIMESTAMP), .unset] []) _
        refine XS.iconst Xk4.here hx rfl (hb hby at_62) ?_
        show Sp p e below Tk4 (mkF m 63 #[.val (.int p1), .val (.int p2), .val (.int (5 : Int32)), .val (.int (4 : Int32)), .val (.ref w_BOOLEAN), .val (.ref w_TIMESTAMP), .unset] [(.int (0 : Int32))]) _
        refine XS.istore Xk4.here hx rfl (hb hby at_63) rfl (l' := #[.val (.int p1), .val (.int p2), .val (.int (5 : Int32)), .val (.int (4 : Int32)), .val (.ref w_BOOLEAN), .val (.ref w_TIMESTAMP), .val (.int (0 : Int32))]) rfl ?_
        show Sp p e below Tk4 (mkF m 65 #[.val (.int p1), .val (.int p2), .val (.int (5 : Int32)), .val (.int (4 : Int32)), .val (.ref w_BOOLEAN), .val (.ref w_TIMESTAMP), .val (.int (0 : Int32))] []) _
        refine XS.aload Xk4.here hx rfl (hb hby at_65) rfl rfl ?_
        show Sp p e below Tk4 (mkF m 67 #[.val (.int p1), .val (.int p2), .val (.int (5 : Int32)), .val (.int (4 : Int32)), .val (.ref w_BOOLEAN), .val (.ref w_TIMESTAMP), .val (.int (0 : Int32))] [(.ref w_BOOLEAN)]) _
        refine XS.aload Xk4.here hx rfl (hb hby at_67) rfl rfl ?_
        show Sp p e below Tk4 (mkF m 69 #[.val (.int p1), .val (.int p2), .val (.int (5 : Int32)), .val (.int (4 : Int32)), .val (.ref w_BOOLEAN), .val (.ref w_TIMESTAMP), .val (.int (0 : Int32))] [(.ref w_TIMESTAMP), (.ref w_BOOLEAN)]) _
        refine stk45.trans ?_
        show Sp p e below Tk45 (mkF m 72 #[.val (.int p1), .val (.int p2), .val (.int (5 : Int32)), .val (.int (4 : Int32)), .val (.ref w_BOOLEAN), .val (.ref w_TIMESTAMP), .val (.int (0 : Int32))] [(.int (0 : Int32))]) _
        refine XS.iload Xk45.here hx rfl (hb hby at_72) rfl ?_
        show Sp p e below Tk45 (mkF m 74 #[.val (.int p1), .val (.int p2), .val (.int (5 : Int32)), .val (.int (4 : Int32)), .val (.ref w_BOOLEAN), .val (.ref w_TIMESTAMP), .val (.int (0 : Int32))] [(.int (0 : Int32)), (.int (0 : Int32))]) _
        refine XS.icmpNo Xk45.here hx rfl (hb hby at_74) rfl (teq (by decide : (0 : Int32) = (0 : Int32))).2 ?_
        show Sp p e below Tk45 (mkF m 77 #[.val (.int p1), .val (.int p2), .val (.int (5 : Int32)), .val (.int (4 : Int32)), .val (.ref w_BOOLEAN), .val (.ref w_TIMESTAMP), .val (.int (0 : Int32))] []) _
        refine XS.iconst Xk45.here hx rfl (hb hby at_77) ?_
        show Sp p e below Tk45 (mkF m 78 #[.val (.int p1), .val (.int p2), .val (.int (5 : Int32)), .val (.int (4 : Int32)), .val (.ref w_BOOLEAN), .val (.ref w_TIMESTAMP), .val (.int (0 : Int32))] [(.int (1 : Int32))]) _
        refine XS.goto Xk45.here hx rfl (pc0 := 78) (pc' := 82) rfl (hb hby at_78) (by decide) (by decide) ?_
        show Sp p e below Tk45 (mkF m 82 #[.val (.int p1), .val (.int p2), .val (.int (5 : Int32)), .val (.int (4 : Int32)), .val (.ref w_BOOLEAN), .val (.ref w_TIMESTAMP), .val (.int (0 : Int32))] [(.int (1 : Int32))]) _
        exact retN Xk45 hx (t := .boolean) hret (by simp) (hb hby at_82) hlv
      · show Q_law Z p1 p2 w_INTEGER w_DECIMAL w_VARCHAR w_DATE w_TIMESTAMP w_BOOLEAN w_NULL h0 n0 _ Tk45.heap _
        rw [ek45]
        exact ⟨rfl, Nk45⟩
    · have hrj : rj = w_BOOLEAN := by rw [hpj]; simp [hj]
      rw [hi, hj, hri, hrj] at r5
      obtain ⟨cqk46, kqk46, qk46a, qk46b, qk46c⟩ := isOf hZ ek4 E_BOOLEAN
      obtain ⟨_, _, ⟨Tk46, Lk46, kk46, nk46⟩, -, Xk46, ⟨Lck46, hQk46, lk46, yk46, zk46⟩, stk46⟩ := Xk4.virtualBack hx (y := (⟨"com/example/kilit/kilit/ValueType", "includes", "(Lcom/example/kilit/kilit/ValueType;)Z"⟩ : MethodName)) (z := (⟨"com/example/kilit/kilit/ValueType", "includes", "(Lcom/example/kilit/kilit/ValueType;)Z"⟩ : MethodName)) hown (mvT hZ (hw _ (List.mem_of_getElem? (i := 10) rfl))) (mvT hZ (hw _ (List.mem_of_getElem? (i := 11) rfl))) (notFace_of_selects (args := #[]) (mvT hZ (hw _ (List.mem_of_getElem? (i := 13) rfl)))) (mvT hZ (hw _ (List.mem_of_getElem? (i := 44) rfl))) (mvT hZ (hw _ (List.mem_of_getElem? (i := 12) rfl))) (by decide) (backOf (W := 0) (rm_base l Z a0 hw [] w_BOOLEAN w_BOOLEAN w_NULL (1 : Int32) h0 n0 Z0 S_NULL (by simp [n_BOOLEAN_NULL, n_BOOLEAN_INTEGER, n_BOOLEAN_DATE])) hZ (hw _ (List.mem_of_getElem? (i := 14) rfl)) (hw _ (List.mem_of_getElem? (i := 6) rfl)) (by decide) (by decide)) qk46a qk46c (g := (mkF m 69 #[.val (.int p1), .val (.int p2), .val (.int (5 : Int32)), .val (.int (5 : Int32)), .val (.ref w_BOOLEAN), .val (.ref w_BOOLEAN), .val (.int (1 : Int32))] [(.ref w_BOOLEAN), (.ref w_BOOLEAN)])) rfl (by rw [hml]; rfl) (Steps.refl _) (argsL := [(.ref w_BOOLEAN)]) (rest := []) (lenOf pd__Lcom_example_kilit_kilit_ValueType__Z rfl) rfl (by show 2 * 0 + _ ≤ _; exact Nat.le_of_eq rfl) (hb hby at_69) (fun _ _ => ⟨rfl, ek4, (by decide : 0 + 0 ≤ _), (by decide : 0 + 0 ≤ _)⟩)
      dsimp only [Pt.U, Pt.locs, Pt.cells, Pt.slots] at Xk46 lk46 yk46 zk46 stk46 hQk46
      subst lk46 yk46 zk46
      obtain ⟨rfl, Nk46q, ek46⟩ := hQk46
      have Nk46 := Fr.app Nk4 Nk46q
      obtain ⟨fs, hlv, hrun, hended, hW, hsame⟩ := Xk46.leave (v := some (.int (1 : Int32))) (fun h => by rw [hret] at h; cases h)
      refine ⟨_, _, r5 _ ?_, hrun, hended, _, _, rfl, ?_, ⟨_, rfl⟩, hW, hsame.mono (by decide) (by decide)⟩
      · refine XS.iloadN Xk4.here hx rfl (hb hby at_28) rfl ?_
        show Sp p e below Tk4 (mkF m 29 #[.val (.int p1), .val (.int p2), .val (.int (5 : Int32)), .val (.int (5 : Int32)), .val (.ref w_BOOLEAN), .val (.ref w_BOOLEAN), .unset] [(.int (5 : Int32))]) _
        refine XS.iloadN Xk4.here hx rfl (hb hby at_29) rfl ?_
        show Sp p e below Tk4 (mkF m 30 #[.val (.int p1), .val (.int p2), .val (.int (5 : Int32)), .val (.int (5 : Int32)), .val (.ref w_BOOLEAN), .val (.ref w_BOOLEAN), .unset] [(.int (5 : Int32)), (.int (5 : Int32))]) _
        refine XS.icmpYes Xk4.here hx rfl (pc0 := 30) (pc' := 58) rfl (hb hby at_30) rfl (teq (by decide : (5 : Int32) = (5 : Int32))).1 (by decide) (by decide) ?_
        show Sp p e below Tk4 (mkF m 58 #[.val (.int p1), .val (.int p2), .val (.int (5 : Int32)), .val (.int (5 : Int32)), .val (.ref w_BOOLEAN), .val (.ref w_BOOLEAN), .unset] []) _
        refine XS.iconst Xk4.here hx rfl (hb hby at_58) ?_
        show Sp p e below Tk4 (mkF m 59 #[.val (.int p1), .val (.int p2), .val (.int (5 : Int32)), .val (.int (5 : Int32)), .val (.ref w_BOOLEAN), .val (.ref w_BOOLEAN), .unset] [(.int (1 : Int32))]) _
        refine XS.goto Xk4.here hx rfl (pc0 := 59) (pc' := 63) rfl (hb hby at_59) (by decide) (by decide) ?_
        show Sp p e below Tk4 (mkF m 63 #[.val (.int p1), .val (.int p2), .val (.int (5 : Int32)), .val (.int (5 : Int32)), .val (.ref w_BOOLEAN), .val (.ref w_BOOLEAN), .unset] [(.int (1 : Int32))]) _
        refine XS.istore Xk4.here hx rfl (hb hby at_63) rfl (l' := #[.val (.int p1), .val (.int p2), .val (.int (5 : Int32)), .val (.int (5 : Int32)), .val (.ref w_BOOLEAN), .val (.ref w_BOOLEAN), .val (.int (1 : Int32))]) rfl ?_
        show Sp p e below Tk4 (mkF m 65 #[.val (.int p1), .val (.int p2), .val (.int (5 : Int32)), .val (.int (5 : Int32)), .val (.ref w_BOOLEAN), .val (.ref w_BOOLEAN), .val (.int (1 : Int32))] []) _
        refine XS.aload Xk4.here hx rfl (hb hby at_65) rfl rfl ?_
        show Sp p e below Tk4 (mkF m 67 #[.val (.int p1), .val (.int p2), .val (.int (5 : Int32)), .val (.int (5 : Int32)), .val (.ref w_BOOLEAN), .val (.ref w_BOOLEAN), .val (.int (1 : Int32))] [(.ref w_BOOLEAN)]) _
        refine XS.aload Xk4.here hx rfl (hb hby at_67) rfl rfl ?_
        show Sp p e below Tk4 (mkF m 69 #[.val (.int p1), .val (.int p2), .val (.int (5 : Int32)), .val (.int (5 : Int32)), .val (.ref w_BOOLEAN), .val (.ref w_BOOLEAN), .val (.int (1 : Int32))] [(.ref w_BOOLEAN), (.ref w_BOOLEAN)]) _
        refine stk46.trans ?_
        show Sp p e below Tk46 (mkF m 72 #[.val (.int p1), .val (.int p2), .val (.int (5 : Int32)), .val (.int (5 : Int32)), .val (.ref w_BOOLEAN), .val (.ref w_BOOLEAN), .val (.int (1 : Int32))] [(.int (1 : Int32))]) _
        refine XS.iload Xk46.here hx rfl (hb hby at_72) rfl ?_
        show Sp p e below Tk46 (mkF m 74 #[.val (.int p1), .val (.int p2), .val (.int (5 : Int32)), .val (.int (5 : Int32)), .val (.ref w_BOOLEAN), .val (.ref w_BOOLEAN), .val (.int (1 : Int32))] [(.int (1 : Int32)), (.int (1 : Int32))]) _
        refine XS.icmpNo Xk46.here hx rfl (hb hby at_74) rfl (teq (by decide : (1 : Int32) = (1 : Int32))).2 ?_
        show Sp p e below Tk46 (mkF m 77 #[.val (.int p1), .val (.int p2), .val (.int (5 : Int32)), .val (.int (5 : Int32)), .val (.ref w_BOOLEAN), .val (.ref w_BOOLEAN), .val (.int (1 : Int32))] []) _
        refine XS.iconst Xk46.here hx rfl (hb hby at_77) ?_
        show Sp p e below Tk46 (mkF m 78 #[.val (.int p1), .val (.int p2), .val (.int (5 : Int32)), .val (.int (5 : Int32)), .val (.ref w_BOOLEAN), .val (.ref w_BOOLEAN), .val (.int (1 : Int32))] [(.int (1 : Int32))]) _
        refine XS.goto Xk46.here hx rfl (pc0 := 78) (pc' := 82) rfl (hb hby at_78) (by decide) (by decide) ?_
        show Sp p e below Tk46 (mkF m 82 #[.val (.int p1), .val (.int p2), .val (.int (5 : Int32)), .val (.int (5 : Int32)), .val (.ref w_BOOLEAN), .val (.ref w_BOOLEAN), .val (.int (1 : Int32))] [(.int (1 : Int32))]) _
        exact retN Xk46 hx (t := .boolean) hret (by simp) (hb hby at_82) hlv
      · show Q_law Z p1 p2 w_INTEGER w_DECIMAL w_VARCHAR w_DATE w_TIMESTAMP w_BOOLEAN w_NULL h0 n0 _ Tk46.heap _
        rw [ek46]
        exact ⟨rfl, Nk46⟩
    · have hrj : rj = w_NULL := by rw [hpj]; simp [hj]
      rw [hi, hj, hri, hrj] at r5
      obtain ⟨cqk47, kqk47, qk47a, qk47b, qk47c⟩ := isOf hZ ek4 E_BOOLEAN
      obtain ⟨_, _, ⟨Tk47, Lk47, kk47, nk47⟩, -, Xk47, ⟨Lck47, hQk47, lk47, yk47, zk47⟩, stk47⟩ := Xk4.virtualBack hx (y := (⟨"com/example/kilit/kilit/ValueType", "includes", "(Lcom/example/kilit/kilit/ValueType;)Z"⟩ : MethodName)) (z := (⟨"com/example/kilit/kilit/ValueType", "includes", "(Lcom/example/kilit/kilit/ValueType;)Z"⟩ : MethodName)) hown (mvT hZ (hw _ (List.mem_of_getElem? (i := 10) rfl))) (mvT hZ (hw _ (List.mem_of_getElem? (i := 11) rfl))) (notFace_of_selects (args := #[]) (mvT hZ (hw _ (List.mem_of_getElem? (i := 13) rfl)))) (mvT hZ (hw _ (List.mem_of_getElem? (i := 44) rfl))) (mvT hZ (hw _ (List.mem_of_getElem? (i := 12) rfl))) (by decide) (backOf (W := 0) (rm_base l Z a0 hw [] w_BOOLEAN w_NULL w_NULL (1 : Int32) h0 n0 Z0 S_NULL (by simp [n_NULL_BOOLEAN, n_NULL_INTEGER, n_NULL_DATE])) hZ (hw _ (List.mem_of_getElem? (i := 14) rfl)) (hw _ (List.mem_of_getElem? (i := 6) rfl)) (by decide) (by decide)) qk47a qk47c (g := (mkF m 69 #[.val (.int p1), .val (.int p2), .val (.int (5 : Int32)), .val (.int (6 : Int32)), .val (.ref w_BOOLEAN), .val (.ref w_NULL), .val (.int (1 : Int32))] [(.ref w_NULL), (.ref w_BOOLEAN)])) rfl (by rw [hml]; rfl) (Steps.refl _) (argsL := [(.ref w_NULL)]) (rest := []) (lenOf pd__Lcom_example_kilit_kilit_ValueType__Z rfl) rfl (by show 2 * 0 + _ ≤ _; exact Nat.le_of_eq rfl) (hb hby at_69) (fun _ _ => ⟨rfl, ek4, (by decide : 0 + 0 ≤ _), (by decide : 0 + 0 ≤ _)⟩)
      dsimp only [Pt.U, Pt.locs, Pt.cells, Pt.slots] at Xk47 lk47 yk47 zk47 stk47 hQk47
      subst lk47 yk47 zk47
      obtain ⟨rfl, Nk47q, ek47⟩ := hQk47
      have Nk47 := Fr.app Nk4 Nk47q
      obtain ⟨fs, hlv, hrun, hended, hW, hsame⟩ := Xk47.leave (v := some (.int (1 : Int32))) (fun h => by rw [hret] at h; cases h)
      refine ⟨_, _, r5 _ ?_, hrun, hended, _, _, rfl, ?_, ⟨_, rfl⟩, hW, hsame.mono (by decide) (by decide)⟩
      · refine XS.iloadN Xk4.here hx rfl (hb hby at_28) rfl ?_
        show Sp p e below Tk4 (mkF m 29 #[.val (.int p1), .val (.int p2), .val (.int (5 : Int32)), .val (.int (6 : Int32)), .val (.ref w_BOOLEAN), .val (.ref w_NULL), .unset] [(.int (5 : Int32))]) _
        refine XS.iloadN Xk4.here hx rfl (hb hby at_29) rfl ?_
        show Sp p e below Tk4 (mkF m 30 #[.val (.int p1), .val (.int p2), .val (.int (5 : Int32)), .val (.int (6 : Int32)), .val (.ref w_BOOLEAN), .val (.ref w_NULL), .unset] [(.int (6 : Int32)), (.int (5 : Int32))]) _
        refine XS.icmpNo Xk4.here hx rfl (hb hby at_30) rfl (feq (by decide : ¬ ((5 : Int32) = (6 : Int32)))).1 ?_
        show Sp p e below Tk4 (mkF m 33 #[.val (.int p1), .val (.int p2), .val (.int (5 : Int32)), .val (.int (6 : Int32)), .val (.ref w_BOOLEAN), .val (.ref w_NULL), .unset] []) _
        refine XS.iloadN Xk4.here hx rfl (hb hby at_33) rfl ?_
        show Sp p e below Tk4 (mkF m 34 #[.val (.int p1), .val (.int p2), .val (.int (5 : Int32)), .val (.int (6 : Int32)), .val (.ref w_BOOLEAN), .val (.ref w_NULL), .unset] [(.int (6 : Int32))]) _
        refine XS.bipush Xk4.here hx rfl (hb hby at_34) ?_
        show Sp p e below Tk4 (mkF m 36 #[.val (.int p1), .val (.int p2), .val (.int (5 : Int32)), .val (.int (6 : Int32)), .val (.ref w_BOOLEAN), .val (.ref w_NULL), .unset] [(.int (6 : Int32)), (.int (6 : Int32))]) _
        refine XS.icmpYes Xk4.here hx rfl (pc0 := 36) (pc' := 58) rfl (hb hby at_36) rfl (teq (by decide : (6 : Int32) = (6 : Int32))).1 (by decide) (by decide) ?_
        show Sp p e below Tk4 (mkF m 58 #[.val (.int p1), .val (.int p2), .val (.int (5 : Int32)), .val (.int (6 : Int32)), .val (.ref w_BOOLEAN), .val (.ref w_NULL), .unset] []) _
        refine XS.iconst Xk4.here hx rfl (hb hby at_58) ?_
        show Sp p e below Tk4 (mkF m 59 #[.val (.int p1), .val (.int p2), .val (.int (5 : Int32)), .val (.int (6 : Int32)), .val (.ref w_BOOLEAN), .val (.ref w_NULL), .unset] [(.int (1 : Int32))]) _
        refine XS.goto Xk4.here hx rfl (pc0 := 59) (pc' := 63) rfl (hb hby at_59) (by decide) (by decide) ?_
        show Sp p e below Tk4 (mkF m 63 #[.val (.int p1), .val (.int p2), .val (.int (5 : Int32)), .val (.int (6 : Int32)), .val (.ref w_BOOLEAN), .val (.ref w_NULL), .unset] [(.int (1 : Int32))]) _
        refine XS.istore Xk4.here hx rfl (hb hby at_63) rfl (l' := #[.val (.int p1), .val (.int p2), .val (.int (5 : Int32)), .val (.int (6 : Int32)), .val (.ref w_BOOLEAN), .val (.ref w_NULL), .val (.int (1 : Int32))]) rfl ?_
        show Sp p e below Tk4 (mkF m 65 #[.val (.int p1), .val (.int p2), .val (.int (5 : Int32)), .val (.int (6 : Int32)), .val (.ref w_BOOLEAN), .val (.ref w_NULL), .val (.int (1 : Int32))] []) _
        refine XS.aload Xk4.here hx rfl (hb hby at_65) rfl rfl ?_
        show Sp p e below Tk4 (mkF m 67 #[.val (.int p1), .val (.int p2), .val (.int (5 : Int32)), .val (.int (6 : Int32)), .val (.ref w_BOOLEAN), .val (.ref w_NULL), .val (.int (1 : Int32))] [(.ref w_BOOLEAN)]) _
        refine XS.aload Xk4.here hx rfl (hb hby at_67) rfl rfl ?_
        show Sp p e below Tk4 (mkF m 69 #[.val (.int p1), .val (.int p2), .val (.int (5 : Int32)), .val (.int (6 : Int32)), .val (.ref w_BOOLEAN), .val (.ref w_NULL), .val (.int (1 : Int32))] [(.ref w_NULL), (.ref w_BOOLEAN)]) _
        refine stk47.trans ?_
        show Sp p e below Tk47 (mkF m 72 #[.val (.int p1), .val (.int p2), .val (.int (5 : Int32)), .val (.int (6 : Int32)), .val (.ref w_BOOLEAN), .val (.ref w_NULL), .val (.int (1 : Int32))] [(.int (1 : Int32))]) _
        refine XS.iload Xk47.here hx rfl (hb hby at_72) rfl ?_
        show Sp p e below Tk47 (mkF m 74 #[.val (.int p1), .val (.int p2), .val (.int (5 : Int32)), .val (.int (6 : Int32)), .val (.ref w_BOOLEAN), .val (.ref w_NULL), .val (.int (1 : Int32))] [(.int (1 : Int32)), (.int (1 : Int32))]) _
        refine XS.icmpNo Xk47.here hx rfl (hb hby at_74) rfl (teq (by decide : (1 : Int32) = (1 : Int32))).2 ?_
        show Sp p e below Tk47 (mkF m 77 #[.val (.int p1), .val (.int p2), .val (.int (5 : Int32)), .val (.int (6 : Int32)), .val (.ref w_BOOLEAN), .val (.ref w_NULL), .val (.int (1 : Int32))] []) _
        refine XS.iconst Xk47.here hx rfl (hb hby at_77) ?_
        show Sp p e below Tk47 (mkF m 78 #[.val (.int p1), .val (.int p2), .val (.int (5 : Int32)), .val (.int (6 : Int32)), .val (.ref w_BOOLEAN), .val (.ref w_NULL), .val (.int (1 : Int32))] [(.int (1 : Int32))]) _
        refine XS.goto Xk47.here hx rfl (pc0 := 78) (pc' := 82) rfl (hb hby at_78) (by decide) (by decide) ?_
        show Sp p e below Tk47 (mkF m 82 #[.val (.int p1), .val (.int p2), .val (.int (5 : Int32)), .val (.int (6 : Int32)), .val (.ref w_BOOLEAN), .val (.ref w_NULL), .val (.int (1 : Int32))] [(.int (1 : Int32))]) _
        exact retN Xk47 hx (t := .boolean) hret (by simp) (hb hby at_82) hlv
      · show Q_law Z p1 p2 w_INTEGER w_DECIMAL w_VARCHAR w_DATE w_TIMESTAMP w_BOOLEAN w_NULL h0 n0 _ Tk47.heap _
        rw [ek47]
        exact ⟨rfl, Nk47⟩
  · have hri : ri = w_NULL := by rw [hpi]; simp [hi]
    rcases cj with hj | hj | hj | hj | hj | hj | hj
    · have hrj : rj = w_INTEGER := by rw [hpj]; simp [hj]
      rw [hi, hj, hri, hrj] at r5
      obtain ⟨cqk48, kqk48, qk48a, qk48b, qk48c⟩ := isOf hZ ek4 E_NULL
      obtain ⟨_, _, ⟨Tk48, Lk48, kk48, nk48⟩, -, Xk48, ⟨Lck48, hQk48, lk48, yk48, zk48⟩, stk48⟩ := Xk4.virtualBack hx (y := (⟨"com/example/kilit/kilit/ValueType", "includes", "(Lcom/example/kilit/kilit/ValueType;)Z"⟩ : MethodName)) (z := (⟨"com/example/kilit/kilit/ValueType", "includes", "(Lcom/example/kilit/kilit/ValueType;)Z"⟩ : MethodName)) hown (mvT hZ (hw _ (List.mem_of_getElem? (i := 10) rfl))) (mvT hZ (hw _ (List.mem_of_getElem? (i := 11) rfl))) (notFace_of_selects (args := #[]) (mvT hZ (hw _ (List.mem_of_getElem? (i := 13) rfl)))) (mvT hZ (hw _ (List.mem_of_getElem? (i := 43) rfl))) (mvT hZ (hw _ (List.mem_of_getElem? (i := 12) rfl))) (by decide) (backOf (W := 0) (rm_base l Z a0 hw [] w_NULL w_INTEGER w_NULL (0 : Int32) h0 n0 Z0 S_NULL (by simp [n_INTEGER_NULL, n_INTEGER_DATE])) hZ (hw _ (List.mem_of_getElem? (i := 14) rfl)) (hw _ (List.mem_of_getElem? (i := 6) rfl)) (by decide) (by decide)) qk48a qk48c (g := (mkF m 69 #[.val (.int p1), .val (.int p2), .val (.int (6 : Int32)), .val (.int (0 : Int32)), .val (.ref w_NULL), .val (.ref w_INTEGER), .val (.int (0 : Int32))] [(.ref w_INTEGER), (.ref w_NULL)])) rfl (by rw [hml]; rfl) (Steps.refl _) (argsL := [(.ref w_INTEGER)]) (rest := []) (lenOf pd__Lcom_example_kilit_kilit_ValueType__Z rfl) rfl (by show 2 * 0 + _ ≤ _; exact Nat.le_of_eq rfl) (hb hby at_69) (fun _ _ => ⟨rfl, ek4, (by decide : 0 + 0 ≤ _), (by decide : 0 + 0 ≤ _)⟩)
      dsimp only [Pt.U, Pt.locs, Pt.cells, Pt.slots] at Xk48 lk48 yk48 zk48 stk48 hQk48
      subst lk48 yk48 zk48
      obtain ⟨rfl, Nk48q, ek48⟩ := hQk48
      have Nk48 := Fr.app Nk4 Nk48q
      obtain ⟨fs, hlv, hrun, hended, hW, hsame⟩ := Xk48.leave (v := some (.int (1 : Int32))) (fun h => by rw [hret] at h; cases h)
      refine ⟨_, _, r5 _ ?_, hrun, hended, _, _, rfl, ?_, ⟨_, rfl⟩, hW, hsame.mono (by decide) (by decide)⟩
      · refine XS.iloadN Xk4.here hx rfl (hb hby at_28) rfl ?_
        show Sp p e below Tk4 (mkF m 29 #[.val (.int p1), .val (.int p2), .val (.int (6 : Int32)), .val (.int (0 : Int32)), .val (.ref w_NULL), .val (.ref w_INTEGER), .unset] [(.int (6 : Int32))]) _
        refine XS.iloadN Xk4.here hx rfl (hb hby at_29) rfl ?_
        show Sp p e below Tk4 (mkF m 30 #[.val (.int p1), .val (.int p2), .val (.int (6 : Int32)), .val (.int (0 : Int32)), .val (.ref w_NULL), .val (.ref w_INTEGER), .unset] [(.int (0 : Int32)), (.int (6 : Int32))]) _
        refine XS.icmpNo Xk4.here hx rfl (hb hby at_30) rfl (feq (by decide : ¬ ((6 : Int32) = (0 : Int32)))).1 ?_
        show Sp p e below Tk4 (mkF m 33 #[.val (.int p1), .val (.int p2), .val (.int (6 : Int32)), .val (.int (0 : Int32)), .val (.ref w_NULL), .val (.ref w_INTEGER), .unset] []) _
        refine XS.iloadN Xk4.here hx rfl (hb hby at_33) rfl ?_
        show Sp p e below Tk4 (mkF m 34 #[.val (.int p1), .val (.int p2), .val (.int (6 : Int32)), .val (.int (0 : Int32)), .val (.ref w_NULL), .val (.ref w_INTEGER), .unset] [(.int (0 : Int32))]) _
        refine XS.bipush Xk4.here hx rfl (hb hby at_34) ?_
        show Sp p e below Tk4 (mkF m 36 #[.val (.int p1), .val (.int p2), .val (.int (6 : Int32)), .val (.int (0 : Int32)), .val (.ref w_NULL), .val (.ref w_INTEGER), .unset] [(.int (6 : Int32)), (.int (0 : Int32))]) _
        refine XS.icmpNo Xk4.here hx rfl (hb hby at_36) rfl (feq (by decide : ¬ ((0 : Int32) = (6 : Int32)))).1 ?_
        show Sp p e below Tk4 (mkF m 39 #[.val (.int p1), .val (.int p2), .val (.int (6 : Int32)), .val (.int (0 : Int32)), .val (.ref w_NULL), .val (.ref w_INTEGER), .unset] []) _
        refine XS.iloadN Xk4.here hx rfl (hb hby at_39) rfl ?_
        show Sp p e below Tk4 (mkF m 40 #[.val (.int p1), .val (.int p2), .val (.int (6 : Int32)), .val (.int (0 : Int32)), .val (.ref w_NULL), .val (.ref w_INTEGER), .unset] [(.int (6 : Int32))]) _
        refine XS.iconst Xk4.here hx rfl (hb hby at_40) ?_
        show Sp p e below Tk4 (mkF m 41 #[.val (.int p1), .val (.int p2), .val (.int (6 : Int32)), .val (.int (0 : Int32)), .val (.ref w_NULL), .val (.ref w_INTEGER), .unset] [(.int (1 : Int32)), (.int (6 : Int32))]) _
        refine XS.icmpYes Xk4.here hx rfl (pc0 := 41) (pc' := 48) rfl (hb hby at_41) rfl (feq (by decide : ¬ ((6 : Int32) = (1 : Int32)))).2 (by decide) (by decide) ?_
        show Sp p e below Tk4 (mkF m 48 #[.val (.int p1), .val (.int p2), .val (.int (6 : Int32)), .val (.int (0 : Int32)), .val (.ref w_NULL), .val (.ref w_INTEGER), .unset] []) _
        refine XS.iloadN Xk4.here hx rfl (hb hby at_48) rfl ?_
        show Sp p e below Tk4 (mkF m 49 #[.val (.int p1), .val (.int p2), .val (.int (6 : Int32)), .val (.int (0 : Int32)), .val (.ref w_NULL), .val (.ref w_INTEGER), .unset] [(.int (6 : Int32))]) _
        refine XS.iconst Xk4.here hx rfl (hb hby at_49) ?_
        show Sp p e below Tk4 (mkF m 50 #[.val (.int p1), .val (.int p2), .val (.int (6 : Int32)), .val (.int (0 : Int32)), .val (.ref w_NULL), .val (.ref w_INTEGER), .unset] [(.int (4 : Int32)), (.int (6 : Int32))]) _
        refine XS.icmpYes Xk4.here hx rfl (pc0 := 50) (pc' := 62) rfl (hb hby at_50) rfl (feq (by decide : ¬ ((6 : Int32) = (4 : Int32)))).2 (by decide) (by decide) ?_
        show Sp p e below Tk4 (mkF m 62 #[.val (.int p1), .val (.int p2), .val (.int (6 : Int32)), .val (.int (0 : Int32)), .val (.ref w_NULL), .val (.ref w_INTEGER), .unset] []) _
        refine XS.iconst Xk4.here hx rfl (hb hby at_62) ?_
        show Sp p e below Tk4 (mkF m 63 #[.val (.int p1), .val (.int p2), .val (.int (6 : Int32)), .val (.int (0 : Int32)), .val (.ref w_NULL), .val (.ref w_INTEGER), .unset] [(.int (0 : Int32))]) _
        refine XS.istore Xk4.here hx rfl (hb hby at_63) rfl (l' := #[.val (.int p1), .val (.int p2), .val (.int (6 : Int32)), .val (.int (0 : Int32)), .val (.ref w_NULL), .val (.ref w_INTEGER), .val (.int (0 : Int32))]) rfl ?_
        show Sp p e below Tk4 (mkF m 65 #[.val (.int p1), .val (.int p2), .val (.int (6 : Int32)), .val (.int (0 : Int32)), .val (.ref w_NULL), .val (.ref w_INTEGER), .val (.int (0 : Int32))] []) _
        refine XS.aload Xk4.here hx rfl (hb hby at_65) rfl rfl ?_
        show Sp p e below Tk4 (mkF m 67 #[.val (.int p1), .val (.int p2), .val (.int (6 : Int32)), .val (.int (0 : Int32)), .val (.ref w_NULL), .val (.ref w_INTEGER), .val (.int (0 : Int32))] [(.ref w_NULL)]) _
        refine XS.aload Xk4.here hx rfl (hb hby at_67) rfl rfl ?_
        show Sp p e below Tk4 (mkF m 69 #[.val (.int p1), .val (.int p2), .val (.int (6 : Int32)), .val (.int (0 : Int32)), .val (.ref w_NULL), .val (.ref w_INTEGER), .val (.int (0 : Int32))] [(.ref w_INTEGER), (.ref w_NULL)]) _
        refine stk48.trans ?_
        show Sp p e below Tk48 (mkF m 72 #[.val (.int p1), .val (.int p2), .val (.int (6 : Int32)), .val (.int (0 : Int32)), .val (.ref w_NULL), .val (.ref w_INTEGER), .val (.int (0 : Int32))] [(.int (0 : Int32))]) _
        refine XS.iload Xk48.here hx rfl (hb hby at_72) rfl ?_
        show Sp p e below Tk48 (mkF m 74 #[.val (.int p1), .val (.int p2), .val (.int (6 : Int32)), .val (.int (0 : Int32)), .val (.ref w_NULL), .val (.ref w_INTEGER), .val (.int (0 : Int32))] [(.int (0 : Int32)), (.int (0 : Int32))]) _
        refine XS.icmpNo Xk48.here hx rfl (hb hby at_74) rfl (teq (by decide : (0 : Int32) = (0 : Int32))).2 ?_
        show Sp p e below Tk48 (mkF m 77 #[.val (.int p1), .val (.int p2), .val (.int (6 : Int32)), .val (.int (0 : Int32)), .val (.ref w_NULL), .val (.ref w_INTEGER), .val (.int (0 : Int32))] []) _
        refine XS.iconst Xk48.here hx rfl (hb hby at_77) ?_
        show Sp p e below Tk48 (mkF m 78 #[.val (.int p1), .val (.int p2), .val (.int (6 : Int32)), .val (.int (0 : Int32)), .val (.ref w_NULL), .val (.ref w_INTEGER), .val (.int (0 : Int32))] [(.int (1 : Int32))]) _
        refine XS.goto Xk48.here hx rfl (pc0 := 78) (pc' := 82) rfl (hb hby at_78) (by decide) (by decide) ?_
        show Sp p e below Tk48 (mkF m 82 #[.val (.int p1), .val (.int p2), .val (.int (6 : Int32)), .val (.int (0 : Int32)), .val (.ref w_NULL), .val (.ref w_INTEGER), .val (.int (0 : Int32))] [(.int (1 : Int32))]) _
        exact retN Xk48 hx (t := .boolean) hret (by simp) (hb hby at_82) hlv
      · show Q_law Z p1 p2 w_INTEGER w_DECIMAL w_VARCHAR w_DATE w_TIMESTAMP w_BOOLEAN w_NULL h0 n0 _ Tk48.heap _
        rw [ek48]
        exact ⟨rfl, Nk48⟩
    · have hrj : rj = w_DECIMAL := by rw [hpj]; simp [hj]
      rw [hi, hj, hri, hrj] at r5
      obtain ⟨cqk49, kqk49, qk49a, qk49b, qk49c⟩ := isOf hZ ek4 E_NULL
      obtain ⟨_, _, ⟨Tk49, Lk49, kk49, nk49⟩, -, Xk49, ⟨Lck49, hQk49, lk49, yk49, zk49⟩, stk49⟩ := Xk4.virtualBack hx (y := (⟨"com/example/kilit/kilit/ValueType", "includes", "(Lcom/example/kilit/kilit/ValueType;)Z"⟩ : MethodName)) (z := (⟨"com/example/kilit/kilit/ValueType", "includes", "(Lcom/example/kilit/kilit/ValueType;)Z"⟩ : MethodName)) hown (mvT hZ (hw _ (List.mem_of_getElem? (i := 10) rfl))) (mvT hZ (hw _ (List.mem_of_getElem? (i := 11) rfl))) (notFace_of_selects (args := #[]) (mvT hZ (hw _ (List.mem_of_getElem? (i := 13) rfl)))) (mvT hZ (hw _ (List.mem_of_getElem? (i := 43) rfl))) (mvT hZ (hw _ (List.mem_of_getElem? (i := 12) rfl))) (by decide) (backOf (W := 0) (rm_base l Z a0 hw [] w_NULL w_DECIMAL w_NULL (0 : Int32) h0 n0 Z0 S_NULL (by simp [n_DECIMAL_NULL, n_DECIMAL_INTEGER, n_DECIMAL_DATE])) hZ (hw _ (List.mem_of_getElem? (i := 14) rfl)) (hw _ (List.mem_of_getElem? (i := 6) rfl)) (by decide) (by decide)) qk49a qk49c (g := (mkF m 69 #[.val (.int p1), .val (.int p2), .val (.int (6 : Int32)), .val (.int (1 : Int32)), .val (.ref w_NULL), .val (.ref w_DECIMAL), .val (.int (0 : Int32))] [(.ref w_DECIMAL), (.ref w_NULL)])) rfl (by rw [hml]; rfl) (Steps.refl _) (argsL := [(.ref w_DECIMAL)]) (rest := []) (lenOf pd__Lcom_example_kilit_kilit_ValueType__Z rfl) rfl (by show 2 * 0 + _ ≤ _; exact Nat.le_of_eq rfl) (hb hby at_69) (fun _ _ => ⟨rfl, ek4, (by decide : 0 + 0 ≤ _), (by decide : 0 + 0 ≤ _)⟩)
      dsimp only [Pt.U, Pt.locs, Pt.cells, Pt.slots] at Xk49 lk49 yk49 zk49 stk49 hQk49
      subst lk49 yk49 zk49
      obtain ⟨rfl, Nk49q, ek49⟩ := hQk49
      have Nk49 := Fr.app Nk4 Nk49q
      obtain ⟨fs, hlv, hrun, hended, hW, hsame⟩ := Xk49.leave (v := some (.int (1 : Int32))) (fun h => by rw [hret] at h; cases h)
      refine ⟨_, _, r5 _ ?_, hrun, hended, _, _, rfl, ?_, ⟨_, rfl⟩, hW, hsame.mono (by decide) (by decide)⟩
      · refine XS.iloadN Xk4.here hx rfl (hb hby at_28) rfl ?_
        show Sp p e below Tk4 (mkF m 29 #[.val (.int p1), .val (.int p2), .val (.int (6 : Int32)), .val (.int (1 : Int32)), .val (.ref w_NULL), .val (.ref w_DECIMAL), .unset] [(.int (6 : Int32))]) _
        refine XS.iloadN Xk4.here hx rfl (hb hby at_29) rfl ?_
        show Sp p e below Tk4 (mkF m 30 #[.val (.int p1), .val (.int p2), .val (.int (6 : Int32)), .val (.int (1 : Int32)), .val (.ref w_NULL), .val (.ref w_DECIMAL), .unset] [(.int (1 : Int32)), (.int (6 : Int32))]) _
        refine XS.icmpNo Xk4.here hx rfl (hb hby at_30) rfl (feq (by decide : ¬ ((6 : Int32) = (1 : Int32)))).1 ?_
        show Sp p e below Tk4 (mkF m 33 #[.val (.int p1), .val (.int p2), .val (.int (6 : Int32)), .val (.int (1 : Int32)), .val (.ref w_NULL), .val (.ref w_DECIMAL), .unset] []) _
        refine XS.iloadN Xk4.here hx rfl (hb hby at_33) rfl ?_
        show Sp p e below Tk4 (mkF m 34 #[.val (.int p1), .val (.int p2), .val (.int (6 : Int32)), .val (.int (1 : Int32)), .val (.ref w_NULL), .val (.ref w_DECIMAL), .unset] [(.int (1 : Int32))]) _
        refine XS.bipush Xk4.here hx rfl (hb hby at_34) ?_
        show Sp p e below Tk4 (mkF m 36 #[.val (.int p1), .val (.int p2), .val (.int (6 : Int32)), .val (.int (1 : Int32)), .val (.ref w_NULL), .val (.ref w_DECIMAL), .unset] [(.int (6 : Int32)), (.int (1 : Int32))]) _
        refine XS.icmpNo Xk4.here hx rfl (hb hby at_36) rfl (feq (by decide : ¬ ((1 : Int32) = (6 : Int32)))).1 ?_
        show Sp p e below Tk4 (mkF m 39 #[.val (.int p1), .val (.int p2), .val (.int (6 : Int32)), .val (.int (1 : Int32)), .val (.ref w_NULL), .val (.ref w_DECIMAL), .unset] []) _
        refine XS.iloadN Xk4.here hx rfl (hb hby at_39) rfl ?_
        show Sp p e below Tk4 (mkF m 40 #[.val (.int p1), .val (.int p2), .val (.int (6 : Int32)), .val (.int (1 : Int32)), .val (.ref w_NULL), .val (.ref w_DECIMAL), .unset] [(.int (6 : Int32))]) _
        refine XS.iconst Xk4.here hx rfl (hb hby at_40) ?_
        show Sp p e below Tk4 (mkF m 41 #[.val (.int p1), .val (.int p2), .val (.int (6 : Int32)), .val (.int (1 : Int32)), .val (.ref w_NULL), .val (.ref w_DECIMAL), .unset] [(.int (1 : Int32)), (.int (6 : Int32))]) _
        refine XS.icmpYes Xk4.here hx rfl (pc0 := 41) (pc' := 48) rfl (hb hby at_41) rfl (feq (by decide : ¬ ((6 : Int32) = (1 : Int32)))).2 (by decide) (by decide) ?_
        show Sp p e below Tk4 (mkF m 48 #[.val (.int p1), .val (.int p2), .val (.int (6 : Int32)), .val (.int (1 : Int32)), .val (.ref w_NULL), .val (.ref w_DECIMAL), .unset] []) _
        refine XS.iloadN Xk4.here hx rfl (hb hby at_48) rfl ?_
        show Sp p e below Tk4 (mkF m 49 #[.val (.int p1), .val (.int p2), .val (.int (6 : Int32)), .val (.int (1 : Int32)), .val (.ref w_NULL), .val (.ref w_DECIMAL), .unset] [(.int (6 : Int32))]) _
        refine XS.iconst Xk4.here hx rfl (hb hby at_49) ?_
        show Sp p e below Tk4 (mkF m 50 #[.val (.int p1), .val (.int p2), .val (.int (6 : Int32)), .val (.int (1 : Int32)), .val (.ref w_NULL), .val (.ref w_DECIMAL), .unset] [(.int (4 : Int32)), (.int (6 : Int32))]) _
        refine XS.icmpYes Xk4.here hx rfl (pc0 := 50) (pc' := 62) rfl (hb hby at_50) rfl (feq (by decide : ¬ ((6 : Int32) = (4 : Int32)))).2 (by decide) (by decide) ?_
        show Sp p e below Tk4 (mkF m 62 #[.val (.int p1), .val (.int p2), .val (.int (6 : Int32)), .val (.int (1 : Int32)), .val (.ref w_NULL), .val (.ref w_DECIMAL), .unset] []) _
        refine XS.iconst Xk4.here hx rfl (hb hby at_62) ?_
        show Sp p e below Tk4 (mkF m 63 #[.val (.int p1), .val (.int p2), .val (.int (6 : Int32)), .val (.int (1 : Int32)), .val (.ref w_NULL), .val (.ref w_DECIMAL), .unset] [(.int (0 : Int32))]) _
        refine XS.istore Xk4.here hx rfl (hb hby at_63) rfl (l' := #[.val (.int p1), .val (.int p2), .val (.int (6 : Int32)), .val (.int (1 : Int32)), .val (.ref w_NULL), .val (.ref w_DECIMAL), .val (.int (0 : Int32))]) rfl ?_
        show Sp p e below Tk4 (mkF m 65 #[.val (.int p1), .val (.int p2), .val (.int (6 : Int32)), .val (.int (1 : Int32)), .val (.ref w_NULL), .val (.ref w_DECIMAL), .val (.int (0 : Int32))] []) _
        refine XS.aload Xk4.here hx rfl (hb hby at_65) rfl rfl ?_
        show Sp p e below Tk4 (mkF m 67 #[.val (.int p1), .val (.int p2), .val (.int (6 : Int32)), .val (.int (1 : Int32)), .val (.ref w_NULL), .val (.ref w_DECIMAL), .val (.int (0 : Int32))] [(.ref w_NULL)]) _
        refine XS.aload Xk4.here hx rfl (hb hby at_67) rfl rfl ?_
        show Sp p e below Tk4 (mkF m 69 #[.val (.int p1), .val (.int p2), .val (.int (6 : Int32)), .val (.int (1 : Int32)), .val (.ref w_NULL), .val (.ref w_DECIMAL), .val (.int (0 : Int32))] [(.ref w_DECIMAL), (.ref w_NULL)]) _
        refine stk49.trans ?_
        show Sp p e below Tk49 (mkF m 72 #[.val (.int p1), .val (.int p2), .val (.int (6 : Int32)), .val (.int (1 : Int32)), .val (.ref w_NULL), .val (.ref w_DECIMAL), .val (.int (0 : Int32))] [(.int (0 : Int32))]) _
        refine XS.iload Xk49.here hx rfl (hb hby at_72) rfl ?_
        show Sp p e below Tk49 (mkF m 74 #[.val (.int p1), .val (.int p2), .val (.int (6 : Int32)), .val (.int (1 : Int32)), .val (.ref w_NULL), .val (.ref w_DECIMAL), .val (.int (0 : Int32))] [(.int (0 : Int32)), (.int (0 : Int32))]) _
        refine XS.icmpNo Xk49.here hx rfl (hb hby at_74) rfl (teq (by decide : (0 : Int32) = (0 : Int32))).2 ?_
        show Sp p e below Tk49 (mkF m 77 #[.val (.int p1), .val (.int p2), .val (.int (6 : Int32)), .val (.int (1 : Int32)), .val (.ref w_NULL), .val (.ref w_DECIMAL), .val (.int (0 : Int32))] []) _
        refine XS.iconst Xk49.here hx rfl (hb hby at_77) ?_
        show Sp p e below Tk49 (mkF m 78 #[.val (.int p1), .val (.int p2), .val (.int (6 : Int32)), .val (.int (1 : Int32)), .val (.ref w_NULL), .val (.ref w_DECIMAL), .val (.int (0 : Int32))] [(.int (1 : Int32))]) _
        refine XS.goto Xk49.here hx rfl (pc0 := 78) (pc' := 82) rfl (hb hby at_78) (by decide) (by decide) ?_
        show Sp p e below Tk49 (mkF m 82 #[.val (.int p1), .val (.int p2), .val (.int (6 : Int32)), .val (.int (1 : Int32)), .val (.ref w_NULL), .val (.ref w_DECIMAL), .val (.int (0 : Int32))] [(.int (1 : Int32))]) _
        exact retN Xk49 hx (t := .boolean) hret (by simp) (hb hby at_82) hlv
      · show Q_law Z p1 p2 w_INTEGER w_DECIMAL w_VARCHAR w_DATE w_TIMESTAMP w_BOOLEAN w_NULL h0 n0 _ Tk49.heap _
        rw [ek49]
        exact ⟨rfl, Nk49⟩
    · have hrj : rj = w_VARCHAR := by rw [hpj]; simp [hj]
      rw [hi, hj, hri, hrj] at r5
      obtain ⟨cqk50, kqk50, qk50a, qk50b, qk50c⟩ := isOf hZ ek4 E_NULL
      obtain ⟨_, _, ⟨Tk50, Lk50, kk50, nk50⟩, -, Xk50, ⟨Lck50, hQk50, lk50, yk50, zk50⟩, stk50⟩ := Xk4.virtualBack hx (y := (⟨"com/example/kilit/kilit/ValueType", "includes", "(Lcom/example/kilit/kilit/ValueType;)Z"⟩ : MethodName)) (z := (⟨"com/example/kilit/kilit/ValueType", "includes", "(Lcom/example/kilit/kilit/ValueType;)Z"⟩ : MethodName)) hown (mvT hZ (hw _ (List.mem_of_getElem? (i := 10) rfl))) (mvT hZ (hw _ (List.mem_of_getElem? (i := 11) rfl))) (notFace_of_selects (args := #[]) (mvT hZ (hw _ (List.mem_of_getElem? (i := 13) rfl)))) (mvT hZ (hw _ (List.mem_of_getElem? (i := 43) rfl))) (mvT hZ (hw _ (List.mem_of_getElem? (i := 12) rfl))) (by decide) (backOf (W := 0) (rm_base l Z a0 hw [] w_NULL w_VARCHAR w_NULL (0 : Int32) h0 n0 Z0 S_NULL (by simp [n_VARCHAR_NULL, n_VARCHAR_INTEGER, n_VARCHAR_DATE])) hZ (hw _ (List.mem_of_getElem? (i := 14) rfl)) (hw _ (List.mem_of_getElem? (i := 6) rfl)) (by decide) (by decide)) qk50a qk50c (g := (mkF m 69 #[.val (.int p1), .val (.int p2), .val (.int (6 : Int32)), .val (.int (2 : Int32)), .val (.ref w_NULL), .val (.ref w_VARCHAR), .val (.int (0 : Int32))] [(.ref w_VARCHAR), (.ref w_NULL)])) rfl (by rw [hml]; rfl) (Steps.refl _) (argsL := [(.ref w_VARCHAR)]) (rest := []) (lenOf pd__Lcom_example_kilit_kilit_ValueType__Z rfl) rfl (by show 2 * 0 + _ ≤ _; exact Nat.le_of_eq rfl) (hb hby at_69) (fun _ _ => ⟨rfl, ek4, (by decide : 0 + 0 ≤ _), (by decide : 0 + 0 ≤ _)⟩)
      dsimp only [Pt.U, Pt.locs, Pt.cells, Pt.slots] at Xk50 lk50 yk50 zk50 stk50 hQk50
      subst lk50 yk50 zk50
      obtain ⟨rfl, Nk50q, ek50⟩ := hQk50
      have Nk50 := Fr.app Nk4 Nk50q
      obtain ⟨fs, hlv, hrun, hended, hW, hsame⟩ := Xk50.leave (v := some (.int (1 : Int32))) (fun h => by rw [hret] at h; cases h)
      refine ⟨_, _, r5 _ ?_, hrun, hended, _, _, rfl, ?_, ⟨_, rfl⟩, hW, hsame.mono (by decide) (by decide)⟩
      · refine XS.iloadN Xk4.here hx rfl (hb hby at_28) rfl ?_
        show Sp p e below Tk4 (mkF m 29 #[.val (.int p1), .val (.int p2), .val (.int (6 : Int32)), .val (.int (2 : Int32)), .val (.ref w_NULL), .val (.ref w_VARCHAR), .unset] [(.int (6 : Int32))]) _
        refine XS.iloadN Xk4.here hx rfl (hb hby at_29) rfl ?_
        show Sp p e below Tk4 (mkF m 30 #[.val (.int p1), .val (.int p2), .val (.int (6 : Int32)), .val (.int (2 : Int32)), .val (.ref w_NULL), .val (.ref w_VARCHAR), .unset] [(.int (2 : Int32)), (.int (6 : Int32))]) _
        refine XS.icmpNo Xk4.here hx rfl (hb hby at_30) rfl (feq (by decide : ¬ ((6 : Int32) = (2 : Int32)))).1 ?_
        show Sp p e below Tk4 (mkF m 33 #[.val (.int p1), .val (.int p2), .val (.int (6 : Int32)), .val (.int (2 : Int32)), .val (.ref w_NULL), .val (.ref w_VARCHAR), .unset] []) _
        refine XS.iloadN Xk4.here hx rfl (hb hby at_33) rfl ?_
        show Sp p e below Tk4 (mkF m 34 #[.val (.int p1), .val (.int p2), .val (.int (6 : Int32)), .val (.int (2 : Int32)), .val (.ref w_NULL), .val (.ref w_VARCHAR), .unset] [(.int (2 : Int32))]) _
        refine XS.bipush Xk4.here hx rfl (hb hby at_34) ?_
        show Sp p e below Tk4 (mkF m 36 #[.val (.int p1), .val (.int p2), .val (.int (6 : Int32)), .val (.int (2 : Int32)), .val (.ref w_NULL), .val (.ref w_VARCHAR), .unset] [(.int (6 : Int32)), (.int (2 : Int32))]) _
        refine XS.icmpNo Xk4.here hx rfl (hb hby at_36) rfl (feq (by decide : ¬ ((2 : Int32) = (6 : Int32)))).1 ?_
        show Sp p e below Tk4 (mkF m 39 #[.val (.int p1), .val (.int p2), .val (.int (6 : Int32)), .val (.int (2 : Int32)), .val (.ref w_NULL), .val (.ref w_VARCHAR), .unset] []) _
        refine XS.iloadN Xk4.here hx rfl (hb hby at_39) rfl ?_
        show Sp p e below Tk4 (mkF m 40 #[.val (.int p1), .val (.int p2), .val (.int (6 : Int32)), .val (.int (2 : Int32)), .val (.ref w_NULL), .val (.ref w_VARCHAR), .unset] [(.int (6 : Int32))]) _
        refine XS.iconst Xk4.here hx rfl (hb hby at_40) ?_
        show Sp p e below Tk4 (mkF m 41 #[.val (.int p1), .val (.int p2), .val (.int (6 : Int32)), .val (.int (2 : Int32)), .val (.ref w_NULL), .val (.ref w_VARCHAR), .unset] [(.int (1 : Int32)), (.int (6 : Int32))]) _
        refine XS.icmpYes Xk4.here hx rfl (pc0 := 41) (pc' := 48) rfl (hb hby at_41) rfl (feq (by decide : ¬ ((6 : Int32) = (1 : Int32)))).2 (by decide) (by decide) ?_
        show Sp p e below Tk4 (mkF m 48 #[.val (.int p1), .val (.int p2), .val (.int (6 : Int32)), .val (.int (2 : Int32)), .val (.ref w_NULL), .val (.ref w_VARCHAR), .unset] []) _
        refine XS.iloadN Xk4.here hx rfl (hb hby at_48) rfl ?_
        show Sp p e below Tk4 (mkF m 49 #[.val (.int p1), .val (.int p2), .val (.int (6 : Int32)), .val (.int (2 : Int32)), .val (.ref w_NULL), .val (.ref w_VARCHAR), .unset] [(.int (6 : Int32))]) _
        refine XS.iconst Xk4.here hx rfl (hb hby at_49) ?_
        show Sp p e below Tk4 (mkF m 50 #[.val (.int p1), .val (.int p2), .val (.int (6 : Int32)), .val (.int (2 : Int32)), .val (.ref w_NULL), .val (.ref w_VARCHAR), .unset] [(.int (4 : Int32)), (.int (6 : Int32))]) _
        refine XS.icmpYes Xk4.here hx rfl (pc0 := 50) (pc' := 62) rfl (hb hby at_50) rfl (feq (by decide : ¬ ((6 : Int32) = (4 : Int32)))).2 (by decide) (by decide) ?_
        show Sp p e below Tk4 (mkF m 62 #[.val (.int p1), .val (.int p2), .val (.int (6 : Int32)), .val (.int (2 : Int32)), .val (.ref w_NULL), .val (.ref w_VARCHAR), .unset] []) _
        refine XS.iconst Xk4.here hx rfl (hb hby at_62) ?_
        show Sp p e below Tk4 (mkF m 63 #[.val (.int p1), .val (.int p2), .val (.int (6 : Int32)), .val (.int (2 : Int32)), .val (.ref w_NULL), .val (.ref w_VARCHAR), .unset] [(.int (0 : Int32))]) _
        refine XS.istore Xk4.here hx rfl (hb hby at_63) rfl (l' := #[.val (.int p1), .val (.int p2), .val (.int (6 : Int32)), .val (.int (2 : Int32)), .val (.ref w_NULL), .val (.ref w_VARCHAR), .val (.int (0 : Int32))]) rfl ?_
        show Sp p e below Tk4 (mkF m 65 #[.val (.int p1), .val (.int p2), .val (.int (6 : Int32)), .val (.int (2 : Int32)), .val (.ref w_NULL), .val (.ref w_VARCHAR), .val (.int (0 : Int32))] []) _
        refine XS.aload Xk4.here hx rfl (hb hby at_65) rfl rfl ?_
        show Sp p e below Tk4 (mkF m 67 #[.val (.int p1), .val (.int p2), .val (.int (6 : Int32)), .val (.int (2 : Int32)), .val (.ref w_NULL), .val (.ref w_VARCHAR), .val (.int (0 : Int32))] [(.ref w_NULL)]) _
        refine XS.aload Xk4.here hx rfl (hb hby at_67) rfl rfl ?_
        show Sp p e below Tk4 (mkF m 69 #[.val (.int p1), .val (.int p2), .val (.int (6 : Int32)), .val (.int (2 : Int32)), .val (.ref w_NULL), .val (.ref w_VARCHAR), .val (.int (0 : Int32))] [(.ref w_VARCHAR), (.ref w_NULL)]) _
        refine stk50.trans ?_
        show Sp p e below Tk50 (mkF m 72 #[.val (.int p1), .val (.int p2), .val (.int (6 : Int32)), .val (.int (2 : Int32)), .val (.ref w_NULL), .val (.ref w_VARCHAR), .val (.int (0 : Int32))] [(.int (0 : Int32))]) _
        refine XS.iload Xk50.here hx rfl (hb hby at_72) rfl ?_
        show Sp p e below Tk50 (mkF m 74 #[.val (.int p1), .val (.int p2), .val (.int (6 : Int32)), .val (.int (2 : Int32)), .val (.ref w_NULL), .val (.ref w_VARCHAR), .val (.int (0 : Int32))] [(.int (0 : Int32)), (.int (0 : Int32))]) _
        refine XS.icmpNo Xk50.here hx rfl (hb hby at_74) rfl (teq (by decide : (0 : Int32) = (0 : Int32))).2 ?_
        show Sp p e below Tk50 (mkF m 77 #[.val (.int p1), .val (.int p2), .val (.int (6 : Int32)), .val (.int (2 : Int32)), .val (.ref w_NULL), .val (.ref w_VARCHAR), .val (.int (0 : Int32))] []) _
        refine XS.iconst Xk50.here hx rfl (hb hby at_77) ?_
        show Sp p e below Tk50 (mkF m 78 #[.val (.int p1), .val (.int p2), .val (.int (6 : Int32)), .val (.int (2 : Int32)), .val (.ref w_NULL), .val (.ref w_VARCHAR), .val (.int (0 : Int32))] [(.int (1 : Int32))]) _
        refine XS.goto Xk50.here hx rfl (pc0 := 78) (pc' := 82) rfl (hb hby at_78) (by decide) (by decide) ?_
        show Sp p e below Tk50 (mkF m 82 #[.val (.int p1), .val (.int p2), .val (.int (6 : Int32)), .val (.int (2 : Int32)), .val (.ref w_NULL), .val (.ref w_VARCHAR), .val (.int (0 : Int32))] [(.int (1 : Int32))]) _
        exact retN Xk50 hx (t := .boolean) hret (by simp) (hb hby at_82) hlv
      · show Q_law Z p1 p2 w_INTEGER w_DECIMAL w_VARCHAR w_DATE w_TIMESTAMP w_BOOLEAN w_NULL h0 n0 _ Tk50.heap _
        rw [ek50]
        exact ⟨rfl, Nk50⟩
    · have hrj : rj = w_DATE := by rw [hpj]; simp [hj]
      rw [hi, hj, hri, hrj] at r5
      obtain ⟨cqk51, kqk51, qk51a, qk51b, qk51c⟩ := isOf hZ ek4 E_NULL
      obtain ⟨_, _, ⟨Tk51, Lk51, kk51, nk51⟩, -, Xk51, ⟨Lck51, hQk51, lk51, yk51, zk51⟩, stk51⟩ := Xk4.virtualBack hx (y := (⟨"com/example/kilit/kilit/ValueType", "includes", "(Lcom/example/kilit/kilit/ValueType;)Z"⟩ : MethodName)) (z := (⟨"com/example/kilit/kilit/ValueType", "includes", "(Lcom/example/kilit/kilit/ValueType;)Z"⟩ : MethodName)) hown (mvT hZ (hw _ (List.mem_of_getElem? (i := 10) rfl))) (mvT hZ (hw _ (List.mem_of_getElem? (i := 11) rfl))) (notFace_of_selects (args := #[]) (mvT hZ (hw _ (List.mem_of_getElem? (i := 13) rfl)))) (mvT hZ (hw _ (List.mem_of_getElem? (i := 43) rfl))) (mvT hZ (hw _ (List.mem_of_getElem? (i := 12) rfl))) (by decide) (backOf (W := 0) (rm_base l Z a0 hw [] w_NULL w_DATE w_NULL (0 : Int32) h0 n0 Z0 S_NULL (by simp [n_DATE_NULL, n_DATE_INTEGER])) hZ (hw _ (List.mem_of_getElem? (i := 14) rfl)) (hw _ (List.mem_of_getElem? (i := 6) rfl)) (by decide) (by decide)) qk51a qk51c (g := (mkF m 69 #[.val (.int p1), .val (.int p2), .val (.int (6 : Int32)), .val (.int (3 : Int32)), .val (.ref w_NULL), .val (.ref w_DATE), .val (.int (0 : Int32))] [(.ref w_DATE), (.ref w_NULL)])) rfl (by rw [hml]; rfl) (Steps.refl _) (argsL := [(.ref w_DATE)]) (rest := []) (lenOf pd__Lcom_example_kilit_kilit_ValueType__Z rfl) rfl (by show 2 * 0 + _ ≤ _; exact Nat.le_of_eq rfl) (hb hby at_69) (fun _ _ => ⟨rfl, ek4, (by decide : 0 + 0 ≤ _), (by decide : 0 + 0 ≤ _)⟩)
      dsimp only [Pt.U, Pt.locs, Pt.cells, Pt.slots] at Xk51 lk51 yk51 zk51 stk51 hQk51
      subst lk51 yk51 zk51
      obtain ⟨rfl, Nk51q, ek51⟩ := hQk51
      have Nk51 := Fr.app Nk4 Nk51q
      obtain ⟨fs, hlv, hrun, hended, hW, hsame⟩ := Xk51.leave (v := some (.int (1 : Int32))) (fun h => by rw [hret] at h; cases h)
      refine ⟨_, _, r5 _ ?_, hrun, hended, _, _, rfl, ?_, ⟨_, rfl⟩, hW, hsame.mono (by decide) (by decide)⟩
      · refine XS.iloadN Xk4.here hx rfl (hb hby at_28) rfl ?_
        show Sp p e below Tk4 (mkF m 29 #[.val (.int p1), .val (.int p2), .val (.int (6 : Int32)), .val (.int (3 : Int32)), .val (.ref w_NULL), .val (.ref w_DATE), .unset] [(.int (6 : Int32))]) _
        refine XS.iloadN Xk4.here hx rfl (hb hby at_29) rfl ?_
        show Sp p e below Tk4 (mkF m 30 #[.val (.int p1), .val (.int p2), .val (.int (6 : Int32)), .val (.int (3 : Int32)), .val (.ref w_NULL), .val (.ref w_DATE), .unset] [(.int (3 : Int32)), (.int (6 : Int32))]) _
        refine XS.icmpNo Xk4.here hx rfl (hb hby at_30) rfl (feq (by decide : ¬ ((6 : Int32) = (3 : Int32)))).1 ?_
        show Sp p e below Tk4 (mkF m 33 #[.val (.int p1), .val (.int p2), .val (.int (6 : Int32)), .val (.int (3 : Int32)), .val (.ref w_NULL), .val (.ref w_DATE), .unset] []) _
        refine XS.iloadN Xk4.here hx rfl (hb hby at_33) rfl ?_
        show Sp p e below Tk4 (mkF m 34 #[.val (.int p1), .val (.int p2), .val (.int (6 : Int32)), .val (.int (3 : Int32)), .val (.ref w_NULL), .val (.ref w_DATE), .unset] [(.int (3 : Int32))]) _
        refine XS.bipush Xk4.here hx rfl (hb hby at_34) ?_
        show Sp p e below Tk4 (mkF m 36 #[.val (.int p1), .val (.int p2), .val (.int (6 : Int32)), .val (.int (3 : Int32)), .val (.ref w_NULL), .val (.ref w_DATE), .unset] [(.int (6 : Int32)), (.int (3 : Int32))]) _
        refine XS.icmpNo Xk4.here hx rfl (hb hby at_36) rfl (feq (by decide : ¬ ((3 : Int32) = (6 : Int32)))).1 ?_
        show Sp p e below Tk4 (mkF m 39 #[.val (.int p1), .val (.int p2), .val (.int (6 : Int32)), .val (.int (3 : Int32)), .val (.ref w_NULL), .val (.ref w_DATE), .unset] []) _
        refine XS.iloadN Xk4.here hx rfl (hb hby at_39) rfl ?_
        show Sp p e below Tk4 (mkF m 40 #[.val (.int p1), .val (.int p2), .val (.int (6 : Int32)), .val (.int (3 : Int32)), .val (.ref w_NULL), .val (.ref w_DATE), .unset] [(.int (6 : Int32))]) _
        refine XS.iconst Xk4.here hx rfl (hb hby at_40) ?_
        show Sp p e below Tk4 (mkF m 41 #[.val (.int p1), .val (.int p2), .val (.int (6 : Int32)), .val (.int (3 : Int32)), .val (.ref w_NULL), .val (.ref w_DATE), .unset] [(.int (1 : Int32)), (.int (6 : Int32))]) _
        refine XS.icmpYes Xk4.here hx rfl (pc0 := 41) (pc' := 48) rfl (hb hby at_41) rfl (feq (by decide : ¬ ((6 : Int32) = (1 : Int32)))).2 (by decide) (by decide) ?_
        show Sp p e below Tk4 (mkF m 48 #[.val (.int p1), .val (.int p2), .val (.int (6 : Int32)), .val (.int (3 : Int32)), .val (.ref w_NULL), .val (.ref w_DATE), .unset] []) _
        refine XS.iloadN Xk4.here hx rfl (hb hby at_48) rfl ?_
        show Sp p e below Tk4 (mkF m 49 #[.val (.int p1), .val (.int p2), .val (.int (6 : Int32)), .val (.int (3 : Int32)), .val (.ref w_NULL), .val (.ref w_DATE), .unset] [(.int (6 : Int32))]) _
        refine XS.iconst Xk4.here hx rfl (hb hby at_49) ?_
        show Sp p e below Tk4 (mkF m 50 #[.val (.int p1), .val (.int p2), .val (.int (6 : Int32)), .val (.int (3 : Int32)), .val (.ref w_NULL), .val (.ref w_DATE), .unset] [(.int (4 : Int32)), (.int (6 : Int32))]) _
        refine XS.icmpYes Xk4.here hx rfl (pc0 := 50) (pc' := 62) rfl (hb hby at_50) rfl (feq (by decide : ¬ ((6 : Int32) = (4 : Int32)))).2 (by decide) (by decide) ?_
        show Sp p e below Tk4 (mkF m 62 #[.val (.int p1), .val (.int p2), .val (.int (6 : Int32)), .val (.int (3 : Int32)), .val (.ref w_NULL), .val (.ref w_DATE), .unset] []) _
        refine XS.iconst Xk4.here hx rfl (hb hby at_62) ?_
        show Sp p e below Tk4 (mkF m 63 #[.val (.int p1), .val (.int p2), .val (.int (6 : Int32)), .val (.int (3 : Int32)), .val (.ref w_NULL), .val (.ref w_DATE), .unset] [(.int (0 : Int32))]) _
        refine XS.istore Xk4.here hx rfl (hb hby at_63) rfl (l' := #[.val (.int p1), .val (.int p2), .val (.int (6 : Int32)), .val (.int (3 : Int32)), .val (.ref w_NULL), .val (.ref w_DATE), .val (.int (0 : Int32))]) rfl ?_
        show Sp p e below Tk4 (mkF m 65 #[.val (.int p1), .val (.int p2), .val (.int (6 : Int32)), .val (.int (3 : Int32)), .val (.ref w_NULL), .val (.ref w_DATE), .val (.int (0 : Int32))] []) _
        refine XS.aload Xk4.here hx rfl (hb hby at_65) rfl rfl ?_
        show Sp p e below Tk4 (mkF m 67 #[.val (.int p1), .val (.int p2), .val (.int (6 : Int32)), .val (.int (3 : Int32)), .val (.ref w_NULL), .val (.ref w_DATE), .val (.int (0 : Int32))] [(.ref w_NULL)]) _
        refine XS.aload Xk4.here hx rfl (hb hby at_67) rfl rfl ?_
        show Sp p e below Tk4 (mkF m 69 #[.val (.int p1), .val (.int p2), .val (.int (6 : Int32)), .val (.int (3 : Int32)), .val (.ref w_NULL), .val (.ref w_DATE), .val (.int (0 : Int32))] [(.ref w_DATE), (.ref w_NULL)]) _
        refine stk51.trans ?_
        show Sp p e below Tk51 (mkF m 72 #[.val (.int p1), .val (.int p2), .val (.int (6 : Int32)), .val (.int (3 : Int32)), .val (.ref w_NULL), .val (.ref w_DATE), .val (.int (0 : Int32))] [(.int (0 : Int32))]) _
        refine XS.iload Xk51.here hx rfl (hb hby at_72) rfl ?_
        show Sp p e below Tk51 (mkF m 74 #[.val (.int p1), .val (.int p2), .val (.int (6 : Int32)), .val (.int (3 : Int32)), .val (.ref w_NULL), .val (.ref w_DATE), .val (.int (0 : Int32))] [(.int (0 : Int32)), (.int (0 : Int32))]) _
        refine XS.icmpNo Xk51.here hx rfl (hb hby at_74) rfl (teq (by decide : (0 : Int32) = (0 : Int32))).2 ?_
        show Sp p e below Tk51 (mkF m 77 #[.val (.int p1), .val (.int p2), .val (.int (6 : Int32)), .val (.int (3 : Int32)), .val (.ref w_NULL), .val (.ref w_DATE), .val (.int (0 : Int32))] []) _
        refine XS.iconst Xk51.here hx rfl (hb hby at_77) ?_
        show Sp p e below Tk51 (mkF m 78 #[.val (.int p1), .val (.int p2), .val (.int (6 : Int32)), .val (.int (3 : Int32)), .val (.ref w_NULL), .val (.ref w_DATE), .val (.int (0 : Int32))] [(.int (1 : Int32))]) _
        refine XS.goto Xk51.here hx rfl (pc0 := 78) (pc' := 82) rfl (hb hby at_78) (by decide) (by decide) ?_
        show Sp p e below Tk51 (mkF m 82 #[.val (.int p1), .val (.int p2), .val (.int (6 : Int32)), .val (.int (3 : Int32)), .val (.ref w_NULL), .val (.ref w_DATE), .val (.int (0 : Int32))] [(.int (1 : Int32))]) _
        exact retN Xk51 hx (t := .boolean) hret (by simp) (hb hby at_82) hlv
      · show Q_law Z p1 p2 w_INTEGER w_DECIMAL w_VARCHAR w_DATE w_TIMESTAMP w_BOOLEAN w_NULL h0 n0 _ Tk51.heap _
        rw [ek51]
        exact ⟨rfl, Nk51⟩
    · have hrj : rj = w_TIMESTAMP := by rw [hpj]; simp [hj]
      rw [hi, hj, hri, hrj] at r5
      obtain ⟨cqk52, kqk52, qk52a, qk52b, qk52c⟩ := isOf hZ ek4 E_NULL
      obtain ⟨_, _, ⟨Tk52, Lk52, kk52, nk52⟩, -, Xk52, ⟨Lck52, hQk52, lk52, yk52, zk52⟩, stk52⟩ := Xk4.virtualBack hx (y := (⟨"com/example/kilit/kilit/ValueType", "includes", "(Lcom/example/kilit/kilit/ValueType;)Z"⟩ : MethodName)) (z := (⟨"com/example/kilit/kilit/ValueType", "includes", "(Lcom/example/kilit/kilit/ValueType;)Z"⟩ : MethodName)) hown (mvT hZ (hw _ (List.mem_of_getElem? (i := 10) rfl))) (mvT hZ (hw _ (List.mem_of_getElem? (i := 11) rfl))) (notFace_of_selects (args := #[]) (mvT hZ (hw _ (List.mem_of_getElem? (i := 13) rfl)))) (mvT hZ (hw _ (List.mem_of_getElem? (i := 43) rfl))) (mvT hZ (hw _ (List.mem_of_getElem? (i := 12) rfl))) (by decide) (backOf (W := 0) (rm_base l Z a0 hw [] w_NULL w_TIMESTAMP w_NULL (0 : Int32) h0 n0 Z0 S_NULL (by simp [n_TIMESTAMP_NULL, n_TIMESTAMP_INTEGER, n_TIMESTAMP_DATE])) hZ (hw _ (List.mem_of_getElem? (i := 14) rfl)) (hw _ (List.mem_of_getElem? (i := 6) rfl)) (by decide) (by decide)) qk52a qk52c (g := (mkF m 69 #[.val (.int p1), .val (.int p2), .val (.int (6 : Int32)), .val (.int (4 : Int32)), .val (.ref w_NULL), .val (.ref w_TIMESTAMP), .val (.int (0 : Int32))] [(.ref w_TIMESTAMP), (.ref w_NULL)])) rfl (by rw [hml]; rfl) (Steps.refl _) (argsL := [(.ref w_TIMESTAMP)]) (rest := []) (lenOf pd__Lcom_example_kilit_kilit_ValueType__Z rfl) rfl (by show 2 * 0 + _ ≤ _; exact Nat.le_of_eq rfl) (hb hby at_69) (fun _ _ => ⟨rfl, ek4, (by decide : 0 + 0 ≤ _), (by decide : 0 + 0 ≤ _)⟩)
      dsimp only [Pt.U, Pt.locs, Pt.cells, Pt.slots] at Xk52 lk52 yk52 zk52 stk52 hQk52
      subst lk52 yk52 zk52
      obtain ⟨rfl, Nk52q, ek52⟩ := hQk52
      have Nk52 := Fr.app Nk4 Nk52q
      obtain ⟨fs, hlv, hrun, hended, hW, hsame⟩ := Xk52.leave (v := some (.int (1 : Int32))) (fun h => by rw [hret] at h; cases h)
      refine ⟨_, _, r5 _ ?_, hrun, hended, _, _, rfl, ?_, ⟨_, rfl⟩, hW, hsame.mono (by decide) (by decide)⟩
      · refine XS.iloadN Xk4.here hx rfl (hb hby at_28) rfl ?_
        show Sp p e below Tk4 (mkF m 29 #[.val (.int p1), .val (.int p2), .val (.int (6 : Int32)), .val (.int (4 : Int32)), .val (.ref w_NULL), .val (.ref w_TIMESTAMP), .unset] [(.int (6 : Int32))]) _
        refine XS.iloadN Xk4.here hx rfl (hb hby at_29) rfl ?_
        show Sp p e below Tk4 (mkF m 30 #[.val (.int p1), .val (.int p2), .val (.int (6 : Int32)), .val (.int (4 : Int32)), .val (.ref w_NULL), .val (.ref w_TIMESTAMP), .unset] [(.int (4 : Int32)), (.int (6 : Int32))]) _
        refine XS.icmpNo Xk4.here hx rfl (hb hby at_30) rfl (feq (by decide : ¬ ((6 : Int32) = (4 : Int32)))).1 ?_
        show Sp p e below Tk4 (mkF m 33 #[.val (.int p1), .val (.int p2), .val (.int (6 : Int32)), .val (.int (4 : Int32)), .val (.ref w_NULL), .val (.ref w_TIMESTAMP), .unset] []) _
        refine XS.iloadN Xk4.here hx rfl (hb hby at_33) rfl ?_
        show Sp p e below Tk4 (mkF m 34 #[.val (.int p1), .val (.int p2), .val (.int (6 : Int32)), .val (.int (4 : Int32)), .val (.ref w_NULL), .val (.ref w_TIMESTAMP), .unset] [(.int (4 : Int32))]) _
        refine XS.bipush Xk4.here hx rfl (hb hby at_34) ?_
        show Sp p e below Tk4 (mkF m 36 #[.val (.int p1), .val (.int p2), .val (.int (6 : Int32)), .val (.int (4 : Int32)), .val (.ref w_NULL), .val (.ref w_TIMESTAMP), .unset] [(.int (6 : Int32)), (.int (4 : Int32))]) _
        refine XS.icmpNo Xk4.here hx rfl (hb hby at_36) rfl (feq (by decide : ¬ ((4 : Int32) = (6 : Int32)))).1 ?_
        show Sp p e below Tk4 (mkF m 39 #[.val (.int p1), .val (.int p2), .val (.int (6 : Int32)), .val (.int (4 : Int32)), .val (.ref w_NULL), .val (.ref w_TIMESTAMP), .unset] []) _
        refine XS.iloadN Xk4.here hx rfl (hb hby at_39) rfl ?_
        show Sp p e below Tk4 (mkF m 40 #[.val (.int p1), .val (.int p2), .val (.int (6 : Int32)), .val (.int (4 : Int32)), .val (.ref w_NULL), .val (.ref w_TIMESTAMP), .unset] [(.int (6 : Int32))]) _
        refine XS.iconst Xk4.here hx rfl (hb hby at_40) ?_
        show Sp p e below Tk4 (mkF m 41 #[.val (.int p1), .val (.int p2), .val (.int (6 : Int32)), .val (.int (4 : Int32)), .val (.ref w_NULL), .val (.ref w_TIMESTAMP), .unset] [(.int (1 : Int32)), (.int (6 : Int32))]) _
        refine XS.icmpYes Xk4.here hx rfl (pc0 := 41) (pc' := 48) rfl (hb hby at_41) rfl (feq (by decide : ¬ ((6 : Int32) = (1 : Int32)))).2 (by decide) (by decide) ?_
        show Sp p e below Tk4 (mkF m 48 #[.val (.int p1), .val (.int p2), .val (.int (6 : Int32)), .val (.int (4 : Int32)), .val (.ref w_NULL), .val (.ref w_TIMESTAMP), .unset] []) _
        refine XS.iloadN Xk4.here hx rfl (hb hby at_48) rfl ?_
        show Sp p e below Tk4 (mkF m 49 #[.val (.int p1), .val (.int p2), .val (.int (6 : Int32)), .val (.int (4 : Int32)), .val (.ref w_NULL), .val (.ref w_TIMESTAMP), .unset] [(.int (6 : Int32))]) _
        refine XS.iconst Xk4.here hx rfl (hb hby at_49) ?_
        show Sp p e below Tk4 (mkF m 50 #[.val (.int p1), .val (.int p2), .val (.int (6 : Int32)), .val (.int (4 : Int32)), .val (.ref w_NULL), .val (.ref w_TIMESTAMP), .unset] [(.int (4 : Int32)), (.int (6 : Int32))]) _
        refine XS.icmpYes Xk4.here hx rfl (pc0 := 50) (pc' := 62) rfl (hb hby at_50) rfl (feq (by decide : ¬ ((6 : Int32) = (4 : Int32)))).2 (by decide) (by decide) ?_
        show Sp p e below Tk4 (mkF m 62 #[.val (.int p1), .val (.int p2), .val (.int (6 : Int32)), .val (.int (4 : Int32)), .val (.ref w_NULL), .val (.ref w_TIMESTAMP), .unset] []) _
        refine XS.iconst Xk4.here hx rfl (hb hby at_62) ?_
        show Sp p e below Tk4 (mkF m 63 #[.val (.int p1), .val (.int p2), .val (.int (6 : Int32)), .val (.int (4 : Int32)), .val (.ref w_NULL), .val (.ref w_TIMESTAMP), .unset] [(.int (0 : Int32))]) _
        refine XS.istore Xk4.here hx rfl (hb hby at_63) rfl (l' := #[.val (.int p1), .val (.int p2), .val (.int (6 : Int32)), .val (.int (4 : Int32)), .val (.ref w_NULL), .val (.ref w_TIMESTAMP), .val (.int (0 : Int32))]) rfl ?_
        show Sp p e below Tk4 (mkF m 65 #[.val (.int p1), .val (.int p2), .val (.int (6 : Int32)), .val (.int (4 : Int32)), .val (.ref w_NULL), .val (.ref w_TIMESTAMP), .val (.int (0 : Int32))] []) _
        refine XS.aload Xk4.here hx rfl (hb hby at_65) rfl rfl ?_
        show Sp p e below Tk4 (mkF m 67 #[.val (.int p1), .val (.int p2), .val (.int (6 : Int32)), .val (.int (4 : Int32)), .val (.ref w_NULL), .val (.ref w_TIMESTAMP), .val (.int (0 : Int32))] [(.ref w_NULL)]) _
        refine XS.aload Xk4.here hx rfl (hb hby at_67) rfl rfl ?_
        show Sp p e below Tk4 (mkF m 69 #[.val (.int p1), .val (.int p2), .val (.int (6 : Int32)), .val (.int (4 : Int32)), .val (.ref w_NULL), .val (.ref w_TIMESTAMP), .val (.int (0 : Int32))] [(.ref w_TIMESTAMP), (.ref w_NULL)]) _
        refine stk52.trans ?_
        show Sp p e below Tk52 (mkF m 72 #[.val (.int p1), .val (.int p2), .val (.int (6 : Int32)), .val (.int (4 : Int32)), .val (.ref w_NULL), .val (.ref w_TIMESTAMP), .val (.int (0 : Int32))] [(.int (0 : Int32))]) _
        refine XS.iload Xk52.here hx rfl (hb hby at_72) rfl ?_
        show Sp p e below Tk52 (mkF m 74 #[.val (.int p1), .val (.int p2), .val (.int (6 : Int32)), .val (.int (4 : Int32)), .val (.ref w_NULL), .val (.ref w_TIMESTAMP), .val (.int (0 : Int32))] [(.int (0 : Int32)), (.int (0 : Int32))]) _
        refine XS.icmpNo Xk52.here hx rfl (hb hby at_74) rfl (teq (by decide : (0 : Int32) = (0 : Int32))).2 ?_
        show Sp p e below Tk52 (mkF m 77 #[.val (.int p1), .val (.int p2), .val (.int (6 : Int32)), .val (.int (4 : Int32)), .val (.ref w_NULL), .val (.ref w_TIMESTAMP), .val (.int (0 : Int32))] []) _
        refine XS.iconst Xk52.here hx rfl (hb hby at_77) ?_
        show Sp p e below Tk52 (mkF m 78 #[.val (.int p1), .val (.int p2), .val (.int (6 : Int32)), .val (.int (4 : Int32)), .val (.ref w_NULL), .val (.ref w_TIMESTAMP), .val (.int (0 : Int32))] [(.int (1 : Int32))]) _
        refine XS.goto Xk52.here hx rfl (pc0 := 78) (pc' := 82) rfl (hb hby at_78) (by decide) (by decide) ?_
        show Sp p e below Tk52 (mkF m 82 #[.val (.int p1), .val (.int p2), .val (.int (6 : Int32)), .val (.int (4 : Int32)), .val (.ref w_NULL), .val (.ref w_TIMESTAMP), .val (.int (0 : Int32))] [(.int (1 : Int32))]) _
        exact retN Xk52 hx (t := .boolean) hret (by simp) (hb hby at_82) hlv
      · show Q_law Z p1 p2 w_INTEGER w_DECIMAL w_VARCHAR w_DATE w_TIMESTAMP w_BOOLEAN w_NULL h0 n0 _ Tk52.heap _
        rw [ek52]
        exact ⟨rfl, Nk52⟩
    · have hrj : rj = w_BOOLEAN := by rw [hpj]; simp [hj]
      rw [hi, hj, hri, hrj] at r5
      obtain ⟨cqk53, kqk53, qk53a, qk53b, qk53c⟩ := isOf hZ ek4 E_NULL
      obtain ⟨_, _, ⟨Tk53, Lk53, kk53, nk53⟩, -, Xk53, ⟨Lck53, hQk53, lk53, yk53, zk53⟩, stk53⟩ := Xk4.virtualBack hx (y := (⟨"com/example/kilit/kilit/ValueType", "includes", "(Lcom/example/kilit/kilit/ValueType;)Z"⟩ : MethodName)) (z := (⟨"com/example/kilit/kilit/ValueType", "includes", "(Lcom/example/kilit/kilit/ValueType;)Z"⟩ : MethodName)) hown (mvT hZ (hw _ (List.mem_of_getElem? (i := 10) rfl))) (mvT hZ (hw _ (List.mem_of_getElem? (i := 11) rfl))) (notFace_of_selects (args := #[]) (mvT hZ (hw _ (List.mem_of_getElem? (i := 13) rfl)))) (mvT hZ (hw _ (List.mem_of_getElem? (i := 43) rfl))) (mvT hZ (hw _ (List.mem_of_getElem? (i := 12) rfl))) (by decide) (backOf (W := 0) (rm_base l Z a0 hw [] w_NULL w_BOOLEAN w_NULL (0 : Int32) h0 n0 Z0 S_NULL (by simp [n_BOOLEAN_NULL, n_BOOLEAN_INTEGER, n_BOOLEAN_DATE])) hZ (hw _ (List.mem_of_getElem? (i := 14) rfl)) (hw _ (List.mem_of_getElem? (i := 6) rfl)) (by decide) (by decide)) qk53a qk53c (g := (mkF m 69 #[.val (.int p1), .val (.int p2), .val (.int (6 : Int32)), .val (.int (5 : Int32)), .val (.ref w_NULL), .val (.ref w_BOOLEAN), .val (.int (0 : Int32))] [(.ref w_BOOLEAN), (.ref w_NULL)])) rfl (by rw [hml]; rfl) (Steps.refl _) (argsL := [(.ref w_BOOLEAN)]) (rest := []) (lenOf pd__Lcom_example_kilit_kilit_ValueType__Z rfl) rfl (by show 2 * 0 + _ ≤ _; exact Nat.le_of_eq rfl) (hb hby at_69) (fun _ _ => ⟨rfl, ek4, (by decide : 0 + 0 ≤ _), (by decide : 0 + 0 ≤ _)⟩)
      dsimp only [Pt.U, Pt.locs, Pt.cells, Pt.slots] at Xk53 lk53 yk53 zk53 stk53 hQk53
      subst lk53 yk53 zk53
      obtain ⟨rfl, Nk53q, ek53⟩ := hQk53
      have Nk53 := Fr.app Nk4 Nk53q
      obtain ⟨fs, hlv, hrun, hended, hW, hsame⟩ := Xk53.leave (v := some (.int (1 : Int32))) (fun h => by rw [hret] at h; cases h)
      refine ⟨_, _, r5 _ ?_, hrun, hended, _, _, rfl, ?_, ⟨_, rfl⟩, hW, hsame.mono (by decide) (by decide)⟩
      · refine XS.iloadN Xk4.here hx rfl (hb hby at_28) rfl ?_
        show Sp p e below Tk4 (mkF m 29 #[.val (.int p1), .val (.int p2), .val (.int (6 : Int32)), .val (.int (5 : Int32)), .val (.ref w_NULL), .val (.ref w_BOOLEAN), .unset] [(.int (6 : Int32))]) _
        refine XS.iloadN Xk4.here hx rfl (hb hby at_29) rfl ?_
        show Sp p e below Tk4 (mkF m 30 #[.val (.int p1), .val (.int p2), .val (.int (6 : Int32)), .val (.int (5 : Int32)), .val (.ref w_NULL), .val (.ref w_BOOLEAN), .unset] [(.int (5 : Int32)), (.int (6 : Int32))]) _
        refine XS.icmpNo Xk4.here hx rfl (hb hby at_30) rfl (feq (by decide : ¬ ((6 : Int32) = (5 : Int32)))).1 ?_
        show Sp p e below Tk4 (mkF m 33 #[.val (.int p1), .val (.int p2), .val (.int (6 : Int32)), .val (.int (5 : Int32)), .val (.ref w_NULL), .val (.ref w_BOOLEAN), .unset] []) _
        refine XS.iloadN Xk4.here hx rfl (hb hby at_33) rfl ?_
        show Sp p e below Tk4 (mkF m 34 #[.val (.int p1), .val (.int p2), .val (.int (6 : Int32)), .val (.int (5 : Int32)), .val (.ref w_NULL), .val (.ref w_BOOLEAN), .unset] [(.int (5 : Int32))]) _
        refine XS.bipush Xk4.here hx rfl (hb hby at_34) ?_
        show Sp p e below Tk4 (mkF m 36 #[.val (.int p1), .val (.int p2), .val (.int (6 : Int32)), .val (.int (5 : Int32)), .val (.ref w_NULL), .val (.ref w_BOOLEAN), .unset] [(.int (6 : Int32)), (.int (5 : Int32))]) _
        refine XS.icmpNo Xk4.here hx rfl (hb hby at_36) rfl (feq (by decide : ¬ ((5 : Int32) = (6 : Int32)))).1 ?_
        show Sp p e below Tk4 (mkF m 39 #[.val (.int p1), .val (.int p2), .val (.int (6 : Int32)), .val (.int (5 : Int32)), .val (.ref w_NULL), .val (.ref w_BOOLEAN), .unset] []) _
        refine XS.iloadN Xk4.here hx rfl (hb hby at_39) rfl ?_
        show Sp p e below Tk4 (mkF m 40 #[.val (.int p1), .val (.int p2), .val (.int (6 : Int32)), .val (.int (5 : Int32)), .val (.ref w_NULL), .val (.ref w_BOOLEAN), .unset] [(.int (6 : Int32))]) _
        refine XS.iconst Xk4.here hx rfl (hb hby at_40) ?_
        show Sp p e below Tk4 (mkF m 41 #[.val (.int p1), .val (.int p2), .val (.int (6 : Int32)), .val (.int (5 : Int32)), .val (.ref w_NULL), .val (.ref w_BOOLEAN), .unset] [(.int (1 : Int32)), (.int (6 : Int32))]) _
        refine XS.icmpYes Xk4.here hx rfl (pc0 := 41) (pc' := 48) rfl (hb hby at_41) rfl (feq (by decide : ¬ ((6 : Int32) = (1 : Int32)))).2 (by decide) (by decide) ?_
        show Sp p e below Tk4 (mkF m 48 #[.val (.int p1), .val (.int p2), .val (.int (6 : Int32)), .val (.int (5 : Int32)), .val (.ref w_NULL), .val (.ref w_BOOLEAN), .unset] []) _
        refine XS.iloadN Xk4.here hx rfl (hb hby at_48) rfl ?_
        show Sp p e below Tk4 (mkF m 49 #[.val (.int p1), .val (.int p2), .val (.int (6 : Int32)), .val (.int (5 : Int32)), .val (.ref w_NULL), .val (.ref w_BOOLEAN), .unset] [(.int (6 : Int32))]) _
        refine XS.iconst Xk4.here hx rfl (hb hby at_49) ?_
        show Sp p e below Tk4 (mkF m 50 #[.val (.int p1), .val (.int p2), .val (.int (6 : Int32)), .val (.int (5 : Int32)), .val (.ref w_NULL), .val (.ref w_BOOLEAN), .unset] [(.int (4 : Int32)), (.int (6 : Int32))]) _
        refine XS.icmpYes Xk4.here hx rfl (pc0 := 50) (pc' := 62) rfl (hb hby at_50) rfl (feq (by decide : ¬ ((6 : Int32) = (4 : Int32)))).2 (by decide) (by decide) ?_
        show Sp p e below Tk4 (mkF m 62 #[.val (.int p1), .val (.int p2), .val (.int (6 : Int32)), .val (.int (5 : Int32)), .val (.ref w_NULL), .val (.ref w_BOOLEAN), .unset] []) _
        refine XS.iconst Xk4.here hx rfl (hb hby at_62) ?_
        show Sp p e below Tk4 (mkF m 63 #[.val (.int p1), .val (.int p2), .val (.int (6 : Int32)), .val (.int (5 : Int32)), .val (.ref w_NULL), .val (.ref w_BOOLEAN), .unset] [(.int (0 : Int32))]) _
        refine XS.istore Xk4.here hx rfl (hb hby at_63) rfl (l' := #[.val (.int p1), .val (.int p2), .val (.int (6 : Int32)), .val (.int (5 : Int32)), .val (.ref w_NULL), .val (.ref w_BOOLEAN), .val (.int (0 : Int32))]) rfl ?_
        show Sp p e below Tk4 (mkF m 65 #[.val (.int p1), .val (.int p2), .val (.int (6 : Int32)), .val (.int (5 : Int32)), .val (.ref w_NULL), .val (.ref w_BOOLEAN), .val (.int (0 : Int32))] []) _
        refine XS.aload Xk4.here hx rfl (hb hby at_65) rfl rfl ?_
        show Sp p e below Tk4 (mkF m 67 #[.val (.int p1), .val (.int p2), .val (.int (6 : Int32)), .val (.int (5 : Int32)), .val (.ref w_NULL), .val (.ref w_BOOLEAN), .val (.int (0 : Int32))] [(.ref w_NULL)]) _
        refine XS.aload Xk4.here hx rfl (hb hby at_67) rfl rfl ?_
        show Sp p e below Tk4 (mkF m 69 #[.val (.int p1), .val (.int p2), .val (.int (6 : Int32)), .val (.int (5 : Int32)), .val (.ref w_NULL), .val (.ref w_BOOLEAN), .val (.int (0 : Int32))] [(.ref w_BOOLEAN), (.ref w_NULL)]) _
        refine stk53.trans ?_
        show Sp p e below Tk53 (mkF m 72 #[.val (.int p1), .val (.int p2), .val (.int (6 : Int32)), .val (.int (5 : Int32)), .val (.ref w_NULL), .val (.ref w_BOOLEAN), .val (.int (0 : Int32))] [(.int (0 : Int32))]) _
        refine XS.iload Xk53.here hx rfl (hb hby at_72) rfl ?_
        show Sp p e below Tk53 (mkF m 74 #[.val (.int p1), .val (.int p2), .val (.int (6 : Int32)), .val (.int (5 : Int32)), .val (.ref w_NULL), .val (.ref w_BOOLEAN), .val (.int (0 : Int32))] [(.int (0 : Int32)), (.int (0 : Int32))]) _
        refine XS.icmpNo Xk53.here hx rfl (hb hby at_74) rfl (teq (by decide : (0 : Int32) = (0 : Int32))).2 ?_
        show Sp p e below Tk53 (mkF m 77 #[.val (.int p1), .val (.int p2), .val (.int (6 : Int32)), .val (.int (5 : Int32)), .val (.ref w_NULL), .val (.ref w_BOOLEAN), .val (.int (0 : Int32))] []) _
        refine XS.iconst Xk53.here hx rfl (hb hby at_77) ?_
        show Sp p e below Tk53 (mkF m 78 #[.val (.int p1), .val (.int p2), .val (.int (6 : Int32)), .val (.int (5 : Int32)), .val (.ref w_NULL), .val (.ref w_BOOLEAN), .val (.int (0 : Int32))] [(.int (1 : Int32))]) _
        refine XS.goto Xk53.here hx rfl (pc0 := 78) (pc' := 82) rfl (hb hby at_78) (by decide) (by decide) ?_
        show Sp p e below Tk53 (mkF m 82 #[.val (.int p1), .val (.int p2), .val (.int (6 : Int32)), .val (.int (5 : Int32)), .val (.ref w_NULL), .val (.ref w_BOOLEAN), .val (.int (0 : Int32))] [(.int (1 : Int32))]) _
        exact retN Xk53 hx (t := .boolean) hret (by simp) (hb hby at_82) hlv
      · show Q_law Z p1 p2 w_INTEGER w_DECIMAL w_VARCHAR w_DATE w_TIMESTAMP w_BOOLEAN w_NULL h0 n0 _ Tk53.heap _
        rw [ek53]
        exact ⟨rfl, Nk53⟩
    · have hrj : rj = w_NULL := by rw [hpj]; simp [hj]
      rw [hi, hj, hri, hrj] at r5
      obtain ⟨cqk54, kqk54, qk54a, qk54b, qk54c⟩ := isOf hZ ek4 E_NULL
      obtain ⟨_, _, ⟨Tk54, Lk54, kk54, nk54⟩, -, Xk54, ⟨Lck54, hQk54, lk54, yk54, zk54⟩, stk54⟩ := Xk4.virtualBack hx (y := (⟨"com/example/kilit/kilit/ValueType", "includes", "(Lcom/example/kilit/kilit/ValueType;)Z"⟩ : MethodName)) (z := (⟨"com/example/kilit/kilit/ValueType", "includes", "(Lcom/example/kilit/kilit/ValueType;)Z"⟩ : MethodName)) hown (mvT hZ (hw _ (List.mem_of_getElem? (i := 10) rfl))) (mvT hZ (hw _ (List.mem_of_getElem? (i := 11) rfl))) (notFace_of_selects (args := #[]) (mvT hZ (hw _ (List.mem_of_getElem? (i := 13) rfl)))) (mvT hZ (hw _ (List.mem_of_getElem? (i := 43) rfl))) (mvT hZ (hw _ (List.mem_of_getElem? (i := 12) rfl))) (by decide) (backOf (W := 0) (rm_base l Z a0 hw [] w_NULL w_NULL w_NULL (1 : Int32) h0 n0 Z0 S_NULL (by simp [n_NULL_INTEGER, n_NULL_DATE])) hZ (hw _ (List.mem_of_getElem? (i := 14) rfl)) (hw _ (List.mem_of_getElem? (i := 6) rfl)) (by decide) (by decide)) qk54a qk54c (g := (mkF m 69 #[.val (.int p1), .val (.int p2), .val (.int (6 : Int32)), .val (.int (6 : Int32)), .val (.ref w_NULL), .val (.ref w_NULL), .val (.int (1 : Int32))] [(.ref w_NULL), (.ref w_NULL)])) rfl (by rw [hml]; rfl) (Steps.refl _) (argsL := [(.ref w_NULL)]) (rest := []) (lenOf pd__Lcom_example_kilit_kilit_ValueType__Z rfl) rfl (by show 2 * 0 + _ ≤ _; exact Nat.le_of_eq rfl) (hb hby at_69) (fun _ _ => ⟨rfl, ek4, (by decide : 0 + 0 ≤ _), (by decide : 0 + 0 ≤ _)⟩)
      dsimp only [Pt.U, Pt.locs, Pt.cells, Pt.slots] at Xk54 lk54 yk54 zk54 stk54 hQk54
      subst lk54 yk54 zk54
      obtain ⟨rfl, Nk54q, ek54⟩ := hQk54
      have Nk54 := Fr.app Nk4 Nk54q
      obtain ⟨fs, hlv, hrun, hended, hW, hsame⟩ := Xk54.leave (v := some (.int (1 : Int32))) (fun h => by rw [hret] at h; cases h)
      refine ⟨_, _, r5 _ ?_, hrun, hended, _, _, rfl, ?_, ⟨_, rfl⟩, hW, hsame.mono (by decide) (by decide)⟩
      · refine XS.iloadN Xk4.here hx rfl (hb hby at_28) rfl ?_
        show Sp p e below Tk4 (mkF m 29 #[.val (.int p1), .val (.int p2), .val (.int (6 : Int32)), .val (.int (6 : Int32)), .val (.ref w_NULL), .val (.ref w_NULL), .unset] [(.int (6 : Int32))]) _
        refine XS.iloadN Xk4.here hx rfl (hb hby at_29) rfl ?_
        show Sp p e below Tk4 (mkF m 30 #[.val (.int p1), .val (.int p2), .val (.int (6 : Int32)), .val (.int (6 : Int32)), .val (.ref w_NULL), .val (.ref w_NULL), .unset] [(.int (6 : Int32)), (.int (6 : Int32))]) _
        refine XS.icmpYes Xk4.here hx rfl (pc0 := 30) (pc' := 58) rfl (hb hby at_30) rfl (teq (by decide : (6 : Int32) = (6 : Int32))).1 (by decide) (by decide) ?_
        show Sp p e below Tk4 (mkF m 58 #[.val (.int p1), .val (.int p2), .val (.int (6 : Int32)), .val (.int (6 : Int32)), .val (.ref w_NULL), .val (.ref w_NULL), .unset] []) _
        refine XS.iconst Xk4.here hx rfl (hb hby at_58) ?_
        show Sp p e below Tk4 (mkF m 59 #[.val (.int p1), .val (.int p2), .val (.int (6 : Int32)), .val (.int (6 : Int32)), .val (.ref w_NULL), .val (.ref w_NULL), .unset] [(.int (1 : Int32))]) _
        refine XS.goto Xk4.here hx rfl (pc0 := 59) (pc' := 63) rfl (hb hby at_59) (by decide) (by decide) ?_
        show Sp p e below Tk4 (mkF m 63 #[.val (.int p1), .val (.int p2), .val (.int (6 : Int32)), .val (.int (6 : Int32)), .val (.ref w_NULL), .val (.ref w_NULL), .unset] [(.int (1 : Int32))]) _
        refine XS.istore Xk4.here hx rfl (hb hby at_63) rfl (l' := #[.val (.int p1), .val (.int p2), .val (.int (6 : Int32)), .val (.int (6 : Int32)), .val (.ref w_NULL), .val (.ref w_NULL), .val (.int (1 : Int32))]) rfl ?_
        show Sp p e below Tk4 (mkF m 65 #[.val (.int p1), .val (.int p2), .val (.int (6 : Int32)), .val (.int (6 : Int32)), .val (.ref w_NULL), .val (.ref w_NULL), .val (.int (1 : Int32))] []) _
        refine XS.aload Xk4.here hx rfl (hb hby at_65) rfl rfl ?_
        show Sp p e below Tk4 (mkF m 67 #[.val (.int p1), .val (.int p2), .val (.int (6 : Int32)), .val (.int (6 : Int32)), .val (.ref w_NULL), .val (.ref w_NULL), .val (.int (1 : Int32))] [(.ref w_NULL)]) _
        refine XS.aload Xk4.here hx rfl (hb hby at_67) rfl rfl ?_
        show Sp p e below Tk4 (mkF m 69 #[.val (.int p1), .val (.int p2), .val (.int (6 : Int32)), .val (.int (6 : Int32)), .val (.ref w_NULL), .val (.ref w_NULL), .val (.int (1 : Int32))] [(.ref w_NULL), (.ref w_NULL)]) _
        refine stk54.trans ?_
        show Sp p e below Tk54 (mkF m 72 #[.val (.int p1), .val (.int p2), .val (.int (6 : Int32)), .val (.int (6 : Int32)), .val (.ref w_NULL), .val (.ref w_NULL), .val (.int (1 : Int32))] [(.int (1 : Int32))]) _
        refine XS.iload Xk54.here hx rfl (hb hby at_72) rfl ?_
        show Sp p e below Tk54 (mkF m 74 #[.val (.int p1), .val (.int p2), .val (.int (6 : Int32)), .val (.int (6 : Int32)), .val (.ref w_NULL), .val (.ref w_NULL), .val (.int (1 : Int32))] [(.int (1 : Int32)), (.int (1 : Int32))]) _
        refine XS.icmpNo Xk54.here hx rfl (hb hby at_74) rfl (teq (by decide : (1 : Int32) = (1 : Int32))).2 ?_
        show Sp p e below Tk54 (mkF m 77 #[.val (.int p1), .val (.int p2), .val (.int (6 : Int32)), .val (.int (6 : Int32)), .val (.ref w_NULL), .val (.ref w_NULL), .val (.int (1 : Int32))] []) _
        refine XS.iconst Xk54.here hx rfl (hb hby at_77) ?_
        show Sp p e below Tk54 (mkF m 78 #[.val (.int p1), .val (.int p2), .val (.int (6 : Int32)), .val (.int (6 : Int32)), .val (.ref w_NULL), .val (.ref w_NULL), .val (.int (1 : Int32))] [(.int (1 : Int32))]) _
        refine XS.goto Xk54.here hx rfl (pc0 := 78) (pc' := 82) rfl (hb hby at_78) (by decide) (by decide) ?_
        show Sp p e below Tk54 (mkF m 82 #[.val (.int p1), .val (.int p2), .val (.int (6 : Int32)), .val (.int (6 : Int32)), .val (.ref w_NULL), .val (.ref w_NULL), .val (.int (1 : Int32))] [(.int (1 : Int32))]) _
        exact retN Xk54 hx (t := .boolean) hret (by simp) (hb hby at_82) hlv
      · show Q_law Z p1 p2 w_INTEGER w_DECIMAL w_VARCHAR w_DATE w_TIMESTAMP w_BOOLEAN w_NULL h0 n0 _ Tk54.heap _
        rw [ek54]
        exact ⟨rfl, Nk54⟩
set_option maxRecDepth 65536 in
set_option maxHeartbeats 40000000 in
theorem comes_1 {Post : Tables → Env → Array Value → State → Outcome → State → Prop} (hpost : ∀ tb e args s v u, (limb_1_1.after args s (.returned v) u = true ∧ limb_1_2.after args s (.returned v) u = true ∧ True) → FrameEnd s (.returned v) u (Jvm.fieldLocs frame_1_writes args s ++ Jvm.arrayLocs frame_1_arrays args s ++ Jvm.staticLocs frame_1_statics s) 0 0 → Post tb e args s (.returned v) u) :
    ArmFor flags0 classFile x code maxLocals ret World_1 tables_1 room_1 Calls_1 rest_1 Pre_1 Post := by
  intro l hfl _ _ p e ha hc hk s m args below hf hA hF happ hP
  obtain ⟨hcalls, hrest, hpre⟩ := hP
  obtain ⟨-, -, -, hnamed, -, -, -, hat⟩ := (Spec.applies_iff hf).mp happ
  obtain ⟨hg, hn⟩ := and_e (Cond.before_iff.mp (show (Jvm.Cond.and given_1 narrow_1).before args s = true from hpre))
  obtain ⟨hcount, hg0⟩ := and_e hg
  obtain ⟨w0, w1, rfl⟩ : ∃ w0 w1 : Value, args = #[w0, w1] := by
    have hs : args.size = 2 := by simpa [Cond.value, given_1] using hcount
    obtain ⟨L⟩ := args
    match L, hs with
    | [w0, w1], _ => exact ⟨w0, w1, rfl⟩
  obtain ⟨ha0, hg1⟩ := and_e hg0
  obtain ⟨i0, ei0⟩ := is_v ha0
  obtain rfl : w0 = (.int i0) := Option.some.inj ei0
  obtain ⟨i1, ei1⟩ := is_v hg1
  obtain rfl : w1 = (.int i1) := Option.some.inj ei1
  have hw := fun d (hd : d ∈ tables_1) => atoms_spec (ws := Jvm.Cond.code x code maxLocals ret :: tables_1) hat d (List.mem_cons_of_mem _ hd)
  have hfit : Fit s := fun {y c} hc i hi => by
    obtain ⟨ha, rfl⟩ := Array.getElem?_eq_some_iff.mp hc
    have q := List.all_eq_true.mp ((Array.all_eq_true_iff_forall_mem.mp hF) _ (Array.getElem_mem ha)) i (List.mem_range.mpr hi)
    simpa [Array.getElem?_eq_getElem hi] using q
  obtain ⟨nw0, hn0⟩ := and_e hn
  obtain ⟨nw1, hn1⟩ := and_e hn0
  obtain ⟨nw2, hn2⟩ := and_e hn1
  obtain ⟨nw3, hn3⟩ := and_e hn2
  obtain ⟨nw4, hn4⟩ := and_e hn3
  obtain ⟨nw5, hn5⟩ := and_e hn4
  have nw6 := hn5
  obtain ⟨w_INTEGER, ev_INTEGER⟩ := exa_v nw0
  have S_INTEGER := Sta.start ev_INTEGER (Or.inr ⟨(hw _ (List.mem_of_getElem? (i := 6) rfl)), (hw _ (List.mem_of_getElem? (i := 7) rfl))⟩)
  have E_INTEGER := Exa.start ev_INTEGER nw0
  obtain ⟨w_DECIMAL, ev_DECIMAL⟩ := exa_v nw3
  have S_DECIMAL := Sta.start ev_DECIMAL (Or.inr ⟨(hw _ (List.mem_of_getElem? (i := 6) rfl)), (hw _ (List.mem_of_getElem? (i := 18) rfl))⟩)
  have E_DECIMAL := Exa.start ev_DECIMAL nw3
  obtain ⟨w_VARCHAR, ev_VARCHAR⟩ := exa_v nw5
  have S_VARCHAR := Sta.start ev_VARCHAR (Or.inr ⟨(hw _ (List.mem_of_getElem? (i := 6) rfl)), (hw _ (List.mem_of_getElem? (i := 23) rfl))⟩)
  have E_VARCHAR := Exa.start ev_VARCHAR nw5
  obtain ⟨w_DATE, ev_DATE⟩ := exa_v nw1
  have S_DATE := Sta.start ev_DATE (Or.inr ⟨(hw _ (List.mem_of_getElem? (i := 6) rfl)), (hw _ (List.mem_of_getElem? (i := 9) rfl))⟩)
  have E_DATE := Exa.start ev_DATE nw1
  obtain ⟨w_TIMESTAMP, ev_TIMESTAMP⟩ := exa_v nw6
  have S_TIMESTAMP := Sta.start ev_TIMESTAMP (Or.inr ⟨(hw _ (List.mem_of_getElem? (i := 6) rfl)), (hw _ (List.mem_of_getElem? (i := 33) rfl))⟩)
  have E_TIMESTAMP := Exa.start ev_TIMESTAMP nw6
  obtain ⟨w_BOOLEAN, ev_BOOLEAN⟩ := exa_v nw4
  have S_BOOLEAN := Sta.start ev_BOOLEAN (Or.inr ⟨(hw _ (List.mem_of_getElem? (i := 6) rfl)), (hw _ (List.mem_of_getElem? (i := 20) rfl))⟩)
  have E_BOOLEAN := Exa.start ev_BOOLEAN nw4
  obtain ⟨w_NULL, ev_NULL⟩ := exa_v nw2
  have S_NULL := Sta.start ev_NULL (Or.inr ⟨(hw _ (List.mem_of_getElem? (i := 6) rfl)), (hw _ (List.mem_of_getElem? (i := 16) rfl))⟩)
  have E_NULL := Exa.start ev_NULL nw2
  obtain ⟨n, o, h1, h2, h3, _, L, rfl, ⟨rfl, N⟩, hq⟩ := rm_law l s _ hw tables_1 i0 i1 w_INTEGER w_DECIMAL w_VARCHAR w_DATE w_TIMESTAMP w_BOOLEAN w_NULL s.heap s.heap.size (Nat.le_refl _) S_INTEGER S_DECIMAL S_VARCHAR S_DATE S_TIMESTAMP S_BOOLEAN S_NULL E_INTEGER E_DECIMAL E_VARCHAR E_DATE E_TIMESTAMP E_BOOLEAN E_NULL (ne_exa E_INTEGER E_DECIMAL (by decide)) (ne_exa E_INTEGER E_VARCHAR (by decide)) (ne_exa E_INTEGER E_DATE (by decide)) (ne_exa E_INTEGER E_TIMESTAMP (by decide)) (ne_exa E_INTEGER E_BOOLEAN (by decide)) (ne_exa E_INTEGER E_NULL (by decide)) (ne_exa E_DECIMAL E_INTEGER (by decide)) (ne_exa E_DECIMAL E_VARCHAR (by decide)) (ne_exa E_DECIMAL E_DATE (by decide)) (ne_exa E_DECIMAL E_TIMESTAMP (by decide)) (ne_exa E_DECIMAL E_BOOLEAN (by decide)) (ne_exa E_DECIMAL E_NULL (by decide)) (ne_exa E_VARCHAR E_INTEGER (by decide)) (ne_exa E_VARCHAR E_DECIMAL (by decide)) (ne_exa E_VARCHAR E_DATE (by decide)) (ne_exa E_VARCHAR E_TIMESTAMP (by decide)) (ne_exa E_VARCHAR E_BOOLEAN (by decide)) (ne_exa E_VARCHAR E_NULL (by decide)) (ne_exa E_DATE E_INTEGER (by decide)) (ne_exa E_DATE E_DECIMAL (by decide)) (ne_exa E_DATE E_VARCHAR (by decide)) (ne_exa E_DATE E_TIMESTAMP (by decide)) (ne_exa E_DATE E_BOOLEAN (by decide)) (ne_exa E_DATE E_NULL (by decide)) (ne_exa E_TIMESTAMP E_INTEGER (by decide)) (ne_exa E_TIMESTAMP E_DECIMAL (by decide)) (ne_exa E_TIMESTAMP E_VARCHAR (by decide)) (ne_exa E_TIMESTAMP E_DATE (by decide)) (ne_exa E_TIMESTAMP E_BOOLEAN (by decide)) (ne_exa E_TIMESTAMP E_NULL (by decide)) (ne_exa E_BOOLEAN E_INTEGER (by decide)) (ne_exa E_BOOLEAN E_DECIMAL (by decide)) (ne_exa E_BOOLEAN E_VARCHAR (by decide)) (ne_exa E_BOOLEAN E_DATE (by decide)) (ne_exa E_BOOLEAN E_TIMESTAMP (by decide)) (ne_exa E_BOOLEAN E_NULL (by decide)) (ne_exa E_NULL E_INTEGER (by decide)) (ne_exa E_NULL E_DECIMAL (by decide)) (ne_exa E_NULL E_VARCHAR (by decide)) (ne_exa E_NULL E_DATE (by decide)) (ne_exa E_NULL E_TIMESTAMP (by decide)) (ne_exa E_NULL E_BOOLEAN (by decide)) p e ha hc hk s m _ below hf ((Spec.applies_iff_loose hf).mp happ).1 ⟨rfl, State.Warmed39.refl s, rfl⟩ trivial
  refine ⟨n, _, h1, h2, h3, hpost _ _ _ _ _ _ ⟨Cond.after_iff.mpr rfl, Cond.after_iff.mpr (eq_i res_at (Term.int_eval (1)) rfl), trivial⟩ ⟨hq.1, hq.2.1, (hq.2.2.sift fun y hy => Or.inr (N y hy)).mono (by decide) (by decide)⟩⟩
theorem main_1_1 : Claimed_1_1 := comes_1 fun _ _ _ _ _ _ h hF => ⟨h.1, hF⟩
theorem main_1_2 : Claimed_1_2 := comes_1 fun _ _ _ _ _ _ h hF => ⟨h.2.1, hF⟩
end Jvm.Pilot.@@N@@
namespace Jvm.Pilot.@@N@@
open Jvm Jvm.ClassFile Sem Op Lib Jvm.Free Jvm.Stand Jvm.Pilot.@@N@@.Jvm.D
/-! MADE BY PROGRAM (witnessworld.py) out of the Statement's table words and the real class files: 19 classes; the members and pool entries that the words name. The judged class is class 1, her method 2. -/
namespace start1
open Jvm.ClassFile
def u (s : String) : CpInfo := .utf8 (stringToUtf16 s)
/-- a pool by its gaps: so many unusable entries, then the entry; so many at the end -/
def gap : Nat → List CpInfo → List CpInfo
  | 0, r => r
  | n + 1, r => .unusable :: gap n r
def poolList (es : List (Nat × CpInfo)) (last : Nat) : List CpInfo := es.foldr (fun e r => gap e.1 (e.2 :: r)) (gap last [])
def pool (es : List (Nat × CpInfo)) (last : Nat) : Array CpInfo := ⟨poolList es last⟩
def fileOf (pool : Array CpInfo) (this : Nat) (attrs : Array Attribute := #[]) (ms : Array MethodInfo := #[]) (fl : Nat := 33) (sup : Nat := 0) (ifs : Array Nat := #[]) (fds : Array FieldInfo := #[]) : ClassFile where
  minorVersion := 0
  majorVersion := 65
  constantPool := pool
  accessFlags := fl
  thisClass := this
  superClass := sup
  interfaces := ifs
  fields := fds
  methods := ms
  attributes := attrs
def plain (name : String) (sup : Option ClassId) : Class where
  name := name
  kind := .ordinary
  loader := none
  accessFlags := 33
  super := sup
  interfaces := #[]
  cf := none
  fields := #[]
  methods := #[]
  instanceTypes := #[]
  staticTypes := #[]
  resolved := #[]
  callSites := []
  init := .initialized
  statics := none
  mirror := none

def pool0 : Array CpInfo := pool [(5, u "<init>"), (0, u "()V"), (1, .class_ 10), (1, u "java/lang/Object")] 113

def k0m0 : Method := { name := "<init>", desc := "()V", sig := { parameters := [], returnType := none }, accessFlags := 1, code := none }
/-- java/lang/Object -/
def k0 : Class := { plain "java/lang/Object" none with
  accessFlags := 33
  interfaces := #[]
  cf := some (fileOf pool0 8 #[] #[{ accessFlags := 1, nameIndex := 5, descriptorIndex := 6, attributes := #[] }] 33 0 #[] #[])
  fields := #[]
  methods := #[k0m0]
  instanceTypes := #[]
  staticTypes := #[]
  resolved := Array.replicate 124 none
  statics := none }

def pool1 : Array CpInfo := pool [(2, .class_ 4), (1, u "java/lang/Object"), (0, u "<init>"), (0, u "()V"), (0, .fieldref 8 9), (0, .class_ 10), (0, .nameAndType 11 12), (0, u "com/example/kilit/kilit/ValueType"), (0, u "INTEGER"), (0, u "Lcom/example/kilit/kilit/ValueType;"), (0, .fieldref 8 14), (0, .nameAndType 15 12), (0, u "DECIMAL"), (0, .fieldref 8 17), (0, .nameAndType 18 12), (0, u "VARCHAR"), (0, .fieldref 8 20), (0, .nameAndType 21 12), (0, u "DATE"), (0, .fieldref 8 23), (0, .nameAndType 24 12), (0, u "TIMESTAMP"), (0, .fieldref 8 26), (0, .nameAndType 27 12), (0, u "BOOLEAN"), (0, .fieldref 8 29), (0, .nameAndType 30 12), (0, u "NULL"), (0, .integer 2147483647), (0, .methodref 33 34), (0, .class_ 35), (0, .nameAndType 36 37), (0, u "com/example/kilit/kilit/ValueTypeIncludesPinLaw"), (0, u "pick"), (0, u "(I)Lcom/example/kilit/kilit/ValueType;"), (0, .methodref 8 39), (0, .nameAndType 40 41), (0, u "includes"), (0, u "(Lcom/example/kilit/kilit/ValueType;)Z"), (3, u "law"), (0, u "(II)Z")] 2

def k1m0 : Method := { name := "<init>", desc := "()V", sig := { parameters := [], returnType := none }, accessFlags := 2, code := none }
def k1c1 : Code := { maxStack := 2, maxLocals := 1, code := method_2_code, exceptionTable := #[], attributes := #[] }
def k1m1 : Method := { name := "pick", desc := "(I)Lcom/example/kilit/kilit/ValueType;", sig := { parameters := [.int], returnType := some (.object "com/example/kilit/kilit/ValueType") }, accessFlags := 10, code := some k1c1 }
def k1c2 : Code := { maxStack := 2, maxLocals := 7, code := code, exceptionTable := #[], attributes := #[] }
def k1m2 : Method := { name := "law", desc := "(II)Z", sig := { parameters := [.int, .int], returnType := some .boolean }, accessFlags := 9, code := some k1c2 }
/-- com/example/kilit/kilit/ValueTypeIncludesPinLaw -/
def k1 : Class := { plain "com/example/kilit/kilit/ValueTypeIncludesPinLaw" (some 0) with
  accessFlags := 49
  interfaces := #[]
  cf := some (fileOf pool1 33 #[] #[{ accessFlags := 2, nameIndex := 5, descriptorIndex := 6, attributes := #[] }, { accessFlags := 10, nameIndex := 36, descriptorIndex := 37, attributes := #[] }, { accessFlags := 9, nameIndex := 45, descriptorIndex := 46, attributes := #[] }] 49 2 #[] #[])
  fields := #[]
  methods := #[k1m0, k1m1, k1m2]
  instanceTypes := #[]
  staticTypes := #[]
  resolved := Array.replicate 49 none
  statics := none }

def pool2 : Array CpInfo := pool [(1, .class_ 2), (0, u "java/lang/constant/Constable"), (0, .class_ 4), (0, u "java/lang/Object")] 6

/-- java/lang/constant/Constable -/
def k2 : Class := { plain "java/lang/constant/Constable" (some 0) with
  accessFlags := 1537
  interfaces := #[]
  cf := some (fileOf pool2 1 #[] #[] 1537 3 #[] #[])
  fields := #[]
  methods := #[]
  instanceTypes := #[]
  staticTypes := #[]
  resolved := Array.replicate 11 none
  statics := none }

def pool3 : Array CpInfo := pool [(1, .class_ 2), (0, u "java/lang/Comparable"), (0, .class_ 4), (0, u "java/lang/Object")] 7

/-- java/lang/Comparable -/
def k3 : Class := { plain "java/lang/Comparable" (some 0) with
  accessFlags := 1537
  interfaces := #[]
  cf := some (fileOf pool3 1 #[] #[] 1537 3 #[] #[])
  fields := #[]
  methods := #[]
  instanceTypes := #[]
  staticTypes := #[]
  resolved := Array.replicate 12 none
  statics := none }

def pool4 : Array CpInfo := pool [(1, .class_ 2), (0, u "java/io/Serializable"), (0, .class_ 4), (0, u "java/lang/Object")] 2

/-- java/io/Serializable -/
def k4 : Class := { plain "java/io/Serializable" (some 0) with
  accessFlags := 1537
  interfaces := #[]
  cf := some (fileOf pool4 1 #[] #[] 1537 3 #[] #[])
  fields := #[]
  methods := #[]
  instanceTypes := #[]
  staticTypes := #[]
  resolved := Array.replicate 7 none
  statics := none }

def pool5 : Array CpInfo := pool [(2, .class_ 4), (1, u "java/lang/Enum"), (0, u "name"), (0, u "Ljava/lang/String;"), (2, u "ordinal"), (0, u "I"), (1, .class_ 14), (1, u "java/lang/Object"), (4, u "hash"), (86, .class_ 108), (1, u "java/lang/Enum$EnumDesc"), (2, .class_ 112), (0, u "java/lang/constant/Constable"), (0, .class_ 114), (0, u "java/lang/Comparable"), (0, .class_ 116), (0, u "java/io/Serializable")] 87

/-- java/lang/Enum -/
def k5 : Class := { plain "java/lang/Enum" (some 0) with
  accessFlags := 1057
  interfaces := #[2, 3, 4]
  cf := some (fileOf pool5 2 #[.nestMembers #[106]] #[] 1057 12 #[111, 113, 115] #[{ accessFlags := 18, nameIndex := 5, descriptorIndex := 6, attributes := #[] }, { accessFlags := 18, nameIndex := 9, descriptorIndex := 10, attributes := #[] }, { accessFlags := 2, nameIndex := 19, descriptorIndex := 10, attributes := #[] }])
  fields := #[{ name := "name", type := (.object "java/lang/String"), accessFlags := 18, slot := 0, constantValue := 0 }, { name := "ordinal", type := .int, accessFlags := 18, slot := 1, constantValue := 0 }, { name := "hash", type := .int, accessFlags := 2, slot := 2, constantValue := 0 }]
  methods := #[]
  instanceTypes := #[(.object "java/lang/String"), .int, .int]
  staticTypes := #[]
  resolved := Array.replicate 204 none
  statics := none }

def pool6 : Array CpInfo := pool [(5, .class_ 6), (0, u "com/example/kilit/kilit/ValueType"), (2, u "INTEGER"), (0, u "Lcom/example/kilit/kilit/ValueType;"), (2, u "DECIMAL"), (2, u "VARCHAR"), (2, u "DATE"), (2, u "TIMESTAMP"), (2, u "BOOLEAN"), (0, .fieldref 5 27), (0, .nameAndType 28 10), (0, u "NULL"), (2, u "$VALUES"), (0, u "[Lcom/example/kilit/kilit/ValueType;"), (6, .class_ 41), (1, u "java/lang/Enum"), (8, u "javaClass"), (0, u "Ljava/lang/Class;"), (2, u "tag"), (0, u "I"), (2, u "jdbcType"), (2, u "precision"), (8, u "names"), (0, u "Ljava/util/List;"), (8, u "TYPES"), (147, u "includes"), (0, u "(Lcom/example/kilit/kilit/ValueType;)Z"), (75, .class_ 306), (0, u "com/example/kilit/kilit/ValueType$1"), (8, .class_ 316), (0, u "com/example/kilit/kilit/ValueType$2"), (8, .class_ 326), (0, u "com/example/kilit/kilit/ValueType$3"), (4, .class_ 332), (0, u "com/example/kilit/kilit/ValueType$4"), (8, .class_ 342), (0, u "com/example/kilit/kilit/ValueType$5"), (2, .class_ 346), (0, u "com/example/kilit/kilit/ValueType$6"), (4, .class_ 352), (0, u "com/example/kilit/kilit/ValueType$7"), (19, u "WHOLE_NUMBER"), (0, u "Ljava/util/regex/Pattern;"), (4, u "DECIMAL_NUMBER"), (0, u "UNSCALED_BYTES"), (2, u "PREFIX_UNITS")] 118

def k6c0 : Code := { maxStack := 2, maxLocals := 2, code := prog_255_method_22_code, exceptionTable := #[], attributes := #[] }
def k6m0 : Method := { name := "includes", desc := "(Lcom/example/kilit/kilit/ValueType;)Z", sig := { parameters := [(.object "com/example/kilit/kilit/ValueType")], returnType := some .boolean }, accessFlags := 0, code := some k6c0 }
/-- com/example/kilit/kilit/ValueType -/
def k6 : Class := { plain "com/example/kilit/kilit/ValueType" (some 5) with
  accessFlags := 16416
  interfaces := #[]
  cf := some (fileOf pool6 5 #[.nestMembers #[351, 345, 341, 331, 325, 315, 305]] #[{ accessFlags := 0, nameIndex := 228, descriptorIndex := 229, attributes := #[] }] 16416 39 #[] #[{ accessFlags := 16409, nameIndex := 9, descriptorIndex := 10, attributes := #[] }, { accessFlags := 16409, nameIndex := 13, descriptorIndex := 10, attributes := #[] }, { accessFlags := 16409, nameIndex := 16, descriptorIndex := 10, attributes := #[] }, { accessFlags := 16409, nameIndex := 19, descriptorIndex := 10, attributes := #[] }, { accessFlags := 16409, nameIndex := 22, descriptorIndex := 10, attributes := #[] }, { accessFlags := 16409, nameIndex := 25, descriptorIndex := 10, attributes := #[] }, { accessFlags := 16409, nameIndex := 28, descriptorIndex := 10, attributes := #[] }, { accessFlags := 26, nameIndex := 80, descriptorIndex := 32, attributes := #[] }, { accessFlags := 26, nameIndex := 372, descriptorIndex := 373, attributes := #[] }, { accessFlags := 26, nameIndex := 378, descriptorIndex := 373, attributes := #[] }, { accessFlags := 26, nameIndex := 379, descriptorIndex := 55, attributes := #[] }, { accessFlags := 26, nameIndex := 382, descriptorIndex := 55, attributes := #[] }, { accessFlags := 18, nameIndex := 50, descriptorIndex := 51, attributes := #[] }, { accessFlags := 18, nameIndex := 54, descriptorIndex := 55, attributes := #[] }, { accessFlags := 18, nameIndex := 58, descriptorIndex := 55, attributes := #[] }, { accessFlags := 18, nameIndex := 61, descriptorIndex := 55, attributes := #[] }, { accessFlags := 18, nameIndex := 70, descriptorIndex := 71, attributes := #[] }, { accessFlags := 4122, nameIndex := 31, descriptorIndex := 32, attributes := #[] }])
  fields := #[{ name := "INTEGER", type := (.object "com/example/kilit/kilit/ValueType"), accessFlags := 16409, slot := 0, constantValue := 0 }, { name := "DECIMAL", type := (.object "com/example/kilit/kilit/ValueType"), accessFlags := 16409, slot := 1, constantValue := 0 }, { name := "VARCHAR", type := (.object "com/example/kilit/kilit/ValueType"), accessFlags := 16409, slot := 2, constantValue := 0 }, { name := "DATE", type := (.object "com/example/kilit/kilit/ValueType"), accessFlags := 16409, slot := 3, constantValue := 0 }, { name := "TIMESTAMP", type := (.object "com/example/kilit/kilit/ValueType"), accessFlags := 16409, slot := 4, constantValue := 0 }, { name := "BOOLEAN", type := (.object "com/example/kilit/kilit/ValueType"), accessFlags := 16409, slot := 5, constantValue := 0 }, { name := "NULL", type := (.object "com/example/kilit/kilit/ValueType"), accessFlags := 16409, slot := 6, constantValue := 0 }, { name := "TYPES", type := (.array (.object "com/example/kilit/kilit/ValueType")), accessFlags := 26, slot := 7, constantValue := 0 }, { name := "WHOLE_NUMBER", type := (.object "java/util/regex/Pattern"), accessFlags := 26, slot := 8, constantValue := 0 }, { name := "DECIMAL_NUMBER", type := (.object "java/util/regex/Pattern"), accessFlags := 26, slot := 9, constantValue := 0 }, { name := "UNSCALED_BYTES", type := .int, accessFlags := 26, slot := 10, constantValue := 0 }, { name := "PREFIX_UNITS", type := .int, accessFlags := 26, slot := 11, constantValue := 0 }, { name := "javaClass", type := (.object "java/lang/Class"), accessFlags := 18, slot := 3, constantValue := 0 }, { name := "tag", type := .int, accessFlags := 18, slot := 4, constantValue := 0 }, { name := "jdbcType", type := .int, accessFlags := 18, slot := 5, constantValue := 0 }, { name := "precision", type := .int, accessFlags := 18, slot := 6, constantValue := 0 }, { name := "names", type := (.object "java/util/List"), accessFlags := 18, slot := 7, constantValue := 0 }, { name := "$VALUES", type := (.array (.object "com/example/kilit/kilit/ValueType")), accessFlags := 4122, slot := 12, constantValue := 0 }]
  methods := #[k6m0]
  instanceTypes := #[(.object "java/lang/String"), .int, .int, (.object "java/lang/Class"), .int, .int, .int, (.object "java/util/List")]
  staticTypes := #[(.object "com/example/kilit/kilit/ValueType"), (.object "com/example/kilit/kilit/ValueType"), (.object "com/example/kilit/kilit/ValueType"), (.object "com/example/kilit/kilit/ValueType"), (.object "com/example/kilit/kilit/ValueType"), (.object "com/example/kilit/kilit/ValueType"), (.object "com/example/kilit/kilit/ValueType"), (.array (.object "com/example/kilit/kilit/ValueType")), (.object "java/util/regex/Pattern"), (.object "java/util/regex/Pattern"), .int, .int, (.array (.object "com/example/kilit/kilit/ValueType"))]
  resolved := Array.replicate 501 none
  statics := some 0 }

def pool7 : Array CpInfo := pool [(2, .class_ 4), (1, u "com/example/kilit/kilit/ValueType"), (5, .class_ 12), (1, u "com/example/kilit/kilit/ValueType$1")] 183

/-- com/example/kilit/kilit/ValueType$1 -/
def k7 : Class := { plain "com/example/kilit/kilit/ValueType$1" (some 6) with
  accessFlags := 16432
  interfaces := #[]
  cf := some (fileOf pool7 10 #[.nestHost 2] #[] 16432 2 #[] #[])
  fields := #[]
  methods := #[]
  instanceTypes := #[(.object "java/lang/String"), .int, .int, (.object "java/lang/Class"), .int, .int, .int, (.object "java/util/List")]
  staticTypes := #[]
  resolved := Array.replicate 196 none
  statics := none }

def pool8 : Array CpInfo := pool [(2, .class_ 4), (1, u "com/example/kilit/kilit/ValueType"), (90, .class_ 96), (0, u "com/example/kilit/kilit/ValueType$4")] 42

/-- com/example/kilit/kilit/ValueType$4 -/
def k8 : Class := { plain "com/example/kilit/kilit/ValueType$4" (some 6) with
  accessFlags := 16432
  interfaces := #[]
  cf := some (fileOf pool8 95 #[.nestHost 2] #[] 16432 2 #[] #[])
  fields := #[]
  methods := #[]
  instanceTypes := #[(.object "java/lang/String"), .int, .int, (.object "java/lang/Class"), .int, .int, .int, (.object "java/util/List")]
  staticTypes := #[]
  resolved := Array.replicate 139 none
  statics := none }

def pool9 : Array CpInfo := pool [(1, .class_ 2), (0, u "com/example/kilit/kilit/ValueType"), (4, .fieldref 8 9), (0, .class_ 10), (0, .nameAndType 11 12), (0, u "com/example/kilit/kilit/ValueType$2"), (0, u "INTEGER"), (0, u "Lcom/example/kilit/kilit/ValueType;"), (0, .methodref 1 14), (0, .nameAndType 15 16), (0, u "includes"), (0, u "(Lcom/example/kilit/kilit/ValueType;)Z")] 252

def k9c0 : Code := { maxStack := 2, maxLocals := 2, code := prog_257_method_2_code, exceptionTable := #[], attributes := #[] }
def k9m0 : Method := { name := "includes", desc := "(Lcom/example/kilit/kilit/ValueType;)Z", sig := { parameters := [(.object "com/example/kilit/kilit/ValueType")], returnType := some .boolean }, accessFlags := 0, code := some k9c0 }
/-- com/example/kilit/kilit/ValueType$2 -/
def k9 : Class := { plain "com/example/kilit/kilit/ValueType$2" (some 6) with
  accessFlags := 16432
  interfaces := #[]
  cf := some (fileOf pool9 8 #[.nestHost 1] #[{ accessFlags := 0, nameIndex := 15, descriptorIndex := 16, attributes := #[] }] 16432 1 #[] #[])
  fields := #[]
  methods := #[k9m0]
  instanceTypes := #[(.object "java/lang/String"), .int, .int, (.object "java/lang/Class"), .int, .int, .int, (.object "java/util/List")]
  staticTypes := #[]
  resolved := Array.replicate 269 none
  statics := none }

def pool10 : Array CpInfo := pool [(2, .class_ 4), (1, u "com/example/kilit/kilit/ValueType"), (2, .fieldref 8 9), (0, .class_ 10), (0, .nameAndType 11 12), (0, u "com/example/kilit/kilit/ValueType$5"), (0, u "DATE"), (0, u "Lcom/example/kilit/kilit/ValueType;"), (0, .methodref 2 14), (0, .nameAndType 15 16), (0, u "includes"), (0, u "(Lcom/example/kilit/kilit/ValueType;)Z")] 151

def k10c0 : Code := { maxStack := 2, maxLocals := 2, code := prog_260_method_2_code, exceptionTable := #[], attributes := #[] }
def k10m0 : Method := { name := "includes", desc := "(Lcom/example/kilit/kilit/ValueType;)Z", sig := { parameters := [(.object "com/example/kilit/kilit/ValueType")], returnType := some .boolean }, accessFlags := 0, code := some k10c0 }
/-- com/example/kilit/kilit/ValueType$5 -/
def k10 : Class := { plain "com/example/kilit/kilit/ValueType$5" (some 6) with
  accessFlags := 16432
  interfaces := #[]
  cf := some (fileOf pool10 8 #[.nestHost 2] #[{ accessFlags := 0, nameIndex := 15, descriptorIndex := 16, attributes := #[] }] 16432 2 #[] #[])
  fields := #[]
  methods := #[k10m0]
  instanceTypes := #[(.object "java/lang/String"), .int, .int, (.object "java/lang/Class"), .int, .int, .int, (.object "java/util/List")]
  staticTypes := #[]
  resolved := Array.replicate 168 none
  statics := none }

def pool11 : Array CpInfo := pool [(2, .class_ 4), (1, u "com/example/kilit/kilit/ValueType"), (2, .class_ 8), (0, u "com/example/kilit/kilit/ValueType$7")] 17

/-- com/example/kilit/kilit/ValueType$7 -/
def k11 : Class := { plain "com/example/kilit/kilit/ValueType$7" (some 6) with
  accessFlags := 16432
  interfaces := #[]
  cf := some (fileOf pool11 7 #[.nestHost 2] #[] 16432 2 #[] #[])
  fields := #[]
  methods := #[]
  instanceTypes := #[(.object "java/lang/String"), .int, .int, (.object "java/lang/Class"), .int, .int, .int, (.object "java/util/List")]
  staticTypes := #[]
  resolved := Array.replicate 26 none
  statics := none }

def pool12 : Array CpInfo := pool [(2, .class_ 4), (1, u "com/example/kilit/kilit/ValueType"), (8, .class_ 14), (0, u "com/example/kilit/kilit/ValueType$6")] 10

/-- com/example/kilit/kilit/ValueType$6 -/
def k12 : Class := { plain "com/example/kilit/kilit/ValueType$6" (some 6) with
  accessFlags := 16432
  interfaces := #[]
  cf := some (fileOf pool12 13 #[.nestHost 2] #[] 16432 2 #[] #[])
  fields := #[]
  methods := #[]
  instanceTypes := #[(.object "java/lang/String"), .int, .int, (.object "java/lang/Class"), .int, .int, .int, (.object "java/util/List")]
  staticTypes := #[]
  resolved := Array.replicate 25 none
  statics := none }

def pool13 : Array CpInfo := pool [(1, .class_ 2), (0, u "com/example/kilit/kilit/ValueType"), (6, .class_ 11), (1, u "com/example/kilit/kilit/ValueType$3")] 97

/-- com/example/kilit/kilit/ValueType$3 -/
def k13 : Class := { plain "com/example/kilit/kilit/ValueType$3" (some 6) with
  accessFlags := 16432
  interfaces := #[]
  cf := some (fileOf pool13 9 #[.nestHost 1] #[] 16432 1 #[] #[])
  fields := #[]
  methods := #[]
  instanceTypes := #[(.object "java/lang/String"), .int, .int, (.object "java/lang/Class"), .int, .int, .int, (.object "java/util/List")]
  staticTypes := #[]
  resolved := Array.replicate 109 none
  statics := none }

def pool14 : Array CpInfo := pool [(1, u "java/lang/Cloneable"), (0, .class_ 1), (0, u "java/lang/Object"), (0, .class_ 3)] 3

/-- java/lang/Cloneable -/
def k14 : Class := { plain "java/lang/Cloneable" (some 0) with
  accessFlags := 1537
  interfaces := #[]
  cf := some (fileOf pool14 2 #[] #[] 1537 4 #[] #[])
  fields := #[]
  methods := #[]
  instanceTypes := #[]
  staticTypes := #[]
  resolved := Array.replicate 8 none
  statics := none }

/-- the primitive byte -/
def k15 : Class := { plain "byte" none with kind := .primitive 'B', accessFlags := 0x411 }
/-- [B -/
def k16 : Class := { plain "[B" (some 0) with kind := .array 15 .byte, interfaces := #[14, 4], accessFlags := 1041 }

/-- the primitive int -/
def k17 : Class := { plain "int" none with kind := .primitive 'I', accessFlags := 0x411 }
/-- [I -/
def k18 : Class := { plain "[I" (some 0) with kind := .array 17 .int, interfaces := #[14, 4], accessFlags := 1041 }

def heap : Heap := #[{ cls := 6, slots := #[.ref 1, .ref 2, .ref 3, .ref 4, .ref 5, .ref 6, .ref 7, .null, .null, .null, .int 0, .int 0, .null], vm := .statics 6 },
  { cls := 7, slots := #[.null, .int 0, .int 0, .null, .int 0, .int 0, .int 0, .null], vm := .none },
  { cls := 9, slots := #[.null, .int 0, .int 0, .null, .int 0, .int 0, .int 0, .null], vm := .none },
  { cls := 13, slots := #[.null, .int 0, .int 0, .null, .int 0, .int 0, .int 0, .null], vm := .none },
  { cls := 8, slots := #[.null, .int 0, .int 0, .null, .int 0, .int 0, .int 0, .null], vm := .none },
  { cls := 10, slots := #[.null, .int 0, .int 0, .null, .int 0, .int 0, .int 0, .null], vm := .none },
  { cls := 12, slots := #[.null, .int 0, .int 0, .null, .int 0, .int 0, .int 0, .null], vm := .none },
  { cls := 11, slots := #[.null, .int 0, .int 0, .null, .int 0, .int 0, .int 0, .null], vm := .none }]
def classes : Array Class := #[k0, k1, k2, k3, k4, k5, k6, k7, k8, k9, k10, k11, k12, k13, k14, k15, k16, k17, k18]
def interned : List (Array UInt16 × Addr) := []
def slotsUsed : Nat := 69
def theMethod : MethodId := ⟨1, 2⟩
def args0 : Array Value := #[.int 5, .int 3]
def aboutOver (below : List Frame) : State where
  vm := { classes := classes, interned := interned.toArray }
  heap := heap
  slotsUsed := slotsUsed
  threads := #[{ frames := .invoking theMethod args0 :: below }]
def below0 : List Frame := [.native { method := ⟨0, 0⟩, args := #[] }]
def about1 : State := aboutOver below0
def p0 : Program := .bare "" "" ""
def e0 : Env := launch0.env 0 0 0
theorem w_frames : about1.frames = Frame.invoking theMethod args0 :: below0 := rfl
set_option maxRecDepth 65536 in
theorem w_args : argsFit about1.vm theMethod args0 = true := by decide +kernel
set_option maxRecDepth 65536 in
theorem w_heap : heapFits about1 = true := by decide +kernel
set_option maxRecDepth 65536 in
theorem w_runnable : about1.curStatus? = some .runnable := by decide +kernel
set_option maxRecDepth 65536 in
theorem w_alone : about1.alone = true := by decide +kernel
set_option maxRecDepth 65536 in
theorem w_named : about1.methodNamed? x = some theMethod := by decide +kernel
set_option maxRecDepth 65536 in
theorem w_hears : about1.hears theMethod below0 = true := by decide +kernel
set_option maxRecDepth 65536 in
theorem w_ripe : about1.ripe theMethod args0 below0 = true := by decide +kernel
theorem w_running : about1.status = .running := rfl
set_option maxRecDepth 65536 in
theorem w_room : about1.hasRoom e0.platform room_1 = true :=
  launch0.hasRoom_least _ room_1 (by decide +kernel) (by decide +kernel) (by decide +kernel) (by decide +kernel) (by decide +kernel) (by decide +kernel)
theorem allAtoms_all (ts : List Jvm.Cond) (a : Array Jvm.Value) (st : Jvm.State) : (allAtoms ts).before a st = ts.all (fun c => c.before a st) := by
  induction ts with
  | nil => rfl
  | cons c t ih =>
    show (Jvm.Cond.and c (allAtoms t)).before a st = _
    rw [Jvm.Cond.before_and, ih, List.all_cons]
def words1 : List Jvm.Cond := Jvm.Cond.code x code maxLocals ret :: tables_1
/-- a 'code' word, met by the world's own term for the bytes: nothing is compared byte by byte -/
theorem code_word {y : MethodName} {bytes : ByteArray} {mx : Nat} {rt : Option FieldType} {a : Array Value} {s : State} {m : MethodId} {meth : Method} {c : Code} (h1 : s.methodNamed? y = some m) (h2 : s.vm.method? m = some meth) (h3 : meth.code = some c) (h4 : c.code = bytes)
    (h5 : (c.maxLocals == mx && c.exceptionTable.isEmpty && decide (c.maxStack ≤ mostOperands) && decide (meth.sig.returnType = rt) && !meth.locks && decide (parseMethodDescriptor y.desc = some meth.sig)) = true) : (Jvm.Cond.code y bytes mx rt).before a s = true := by
  simp only [Bool.and_eq_true, beq_iff_eq, Bool.not_eq_true', decide_eq_true_eq] at h5
  obtain ⟨⟨⟨⟨⟨g1, g2⟩, g3⟩, g4⟩, g5⟩, g6⟩ := h5
  simp [Cond.before, Cond.holds, Cond.value, h1, h2, h3, h4, g1, g2, g3, g4, g5, g6]
def isCode : Jvm.Cond → Bool
  | .code _ _ _ _ => true
  | _ => false
theorem all_split {L : List Jvm.Cond} {P : Jvm.Cond → Bool} (h1 : L.all (fun c => isCode c || P c) = true) (h2 : ∀ c ∈ L.filter isCode, P c = true) : L.all P = true := by
  refine List.all_eq_true.mpr fun c hc => ?_
  have h := List.all_eq_true.mp h1 c hc
  rcases Bool.eq_false_or_eq_true (isCode c) with hi | hi
  · exact h2 c (List.mem_filter.mpr ⟨hc, hi⟩)
  · simpa [hi] using h
set_option maxRecDepth 65536 in
theorem w_c0 : (Jvm.Cond.code x code maxLocals ret).before args0 about1 = true := code_word (m := ⟨1, 2⟩) (meth := k1m2) (c := k1c2) (by decide +kernel) rfl rfl rfl (by decide +kernel)
set_option maxRecDepth 65536 in
theorem w_c1 : (Jvm.Cond.code ({ cls := "com/example/kilit/kilit/ValueTypeIncludesPinLaw", name := "pick", desc := "(I)Lcom/example/kilit/kilit/ValueType;" } : Jvm.MethodName) method_2_code (1 : Nat) (Option.some (Jvm.ClassFile.FieldType.object "com/example/kilit/kilit/ValueType"))).before args0 about1 = true := code_word (m := ⟨1, 1⟩) (meth := k1m1) (c := k1c1) (by decide +kernel) rfl rfl rfl (by decide +kernel)
set_option maxRecDepth 65536 in
theorem w_c2 : (Jvm.Cond.code ({ cls := "com/example/kilit/kilit/ValueType", name := "includes", desc := "(Lcom/example/kilit/kilit/ValueType;)Z" } : Jvm.MethodName) prog_255_method_22_code (2 : Nat) (Option.some Jvm.ClassFile.FieldType.boolean)).before args0 about1 = true := code_word (m := ⟨6, 0⟩) (meth := k6m0) (c := k6c0) (by decide +kernel) rfl rfl rfl (by decide +kernel)
set_option maxRecDepth 65536 in
theorem w_c3 : (Jvm.Cond.code ({ cls := "com/example/kilit/kilit/ValueType$2", name := "includes", desc := "(Lcom/example/kilit/kilit/ValueType;)Z" } : Jvm.MethodName) prog_257_method_2_code (2 : Nat) (Option.some Jvm.ClassFile.FieldType.boolean)).before args0 about1 = true := code_word (m := ⟨9, 0⟩) (meth := k9m0) (c := k9c0) (by decide +kernel) rfl rfl rfl (by decide +kernel)
set_option maxRecDepth 65536 in
theorem w_c4 : (Jvm.Cond.code ({ cls := "com/example/kilit/kilit/ValueType$5", name := "includes", desc := "(Lcom/example/kilit/kilit/ValueType;)Z" } : Jvm.MethodName) prog_260_method_2_code (2 : Nat) (Option.some Jvm.ClassFile.FieldType.boolean)).before args0 about1 = true := code_word (m := ⟨10, 0⟩) (meth := k10m0) (c := k10c0) (by decide +kernel) rfl rfl rfl (by decide +kernel)
def codes1 : List Jvm.Cond := [Jvm.Cond.code x code maxLocals ret, Jvm.Cond.code ({ cls := "com/example/kilit/kilit/ValueTypeIncludesPinLaw", name := "pick", desc := "(I)Lcom/example/kilit/kilit/ValueType;" } : Jvm.MethodName) method_2_code (1 : Nat) (Option.some (Jvm.ClassFile.FieldType.object "com/example/kilit/kilit/ValueType")), Jvm.Cond.code ({ cls := "com/example/kilit/kilit/ValueType", name := "includes", desc := "(Lcom/example/kilit/kilit/ValueType;)Z" } : Jvm.MethodName) prog_255_method_22_code (2 : Nat) (Option.some Jvm.ClassFile.FieldType.boolean), Jvm.Cond.code ({ cls := "com/example/kilit/kilit/ValueType$2", name := "includes", desc := "(Lcom/example/kilit/kilit/ValueType;)Z" } : Jvm.MethodName) prog_257_method_2_code (2 : Nat) (Option.some Jvm.ClassFile.FieldType.boolean), Jvm.Cond.code ({ cls := "com/example/kilit/kilit/ValueType$5", name := "includes", desc := "(Lcom/example/kilit/kilit/ValueType;)Z" } : Jvm.MethodName) prog_260_method_2_code (2 : Nat) (Option.some Jvm.ClassFile.FieldType.boolean)]
set_option maxRecDepth 65536 in
theorem codes_eq : words1.filter isCode = codes1 := rfl
theorem w_codes : ∀ c ∈ words1.filter isCode, c.before args0 about1 = true := by
  rw [codes_eq]
  intro c hc
  simp only [codes1, List.mem_cons, List.not_mem_nil, or_false] at hc
  rcases hc with rfl | rfl | rfl | rfl | rfl
  · exact w_c0
  · exact w_c1
  · exact w_c2
  · exact w_c3
  · exact w_c4
set_option maxRecDepth 65536 in
theorem w_t1 : (words1.take 24).all (fun c => isCode c || c.before args0 about1) = true := by decide +kernel
set_option maxRecDepth 65536 in
theorem w_t2 : (words1.drop 24).all (fun c => isCode c || c.before args0 about1) = true := by decide +kernel
theorem w_tables : (allAtoms (Jvm.Cond.code x code maxLocals ret :: tables_1)).before args0 about1 = true := by
  rw [allAtoms_all]
  show words1.all (fun c => c.before args0 about1) = true
  refine all_split ?_ w_codes
  rw [← List.take_append_drop 24 words1, List.all_append, w_t1, w_t2]
  rfl
set_option maxRecDepth 65536 in
theorem w_case : (Jvm.Cond.and given_1 narrow_1).before args0 about1 = true := by decide +kernel
theorem w_applies : (headSpec (Jvm.Cond.code x code maxLocals ret :: tables_1) room_1).applies x e0.platform about1 = true :=
  (Spec.applies_iff w_frames).mpr ⟨w_running, w_runnable, w_alone, w_named, w_hears, w_ripe, w_room, w_tables⟩
theorem atStart : AtStart classFile x code maxLocals ret World_1 tables_1 room_1 Calls_1 rest_1 Pre_1 launch0 p0 e0 about1 theMethod args0 below0 :=
  ⟨lists_1, trivial, launch0.admits_env _ _ _, launch0.least_env, fairChoices_fair.cas, fairChoices_fair.clock, w_frames, w_args, w_heap, w_applies, trivial, trivial, w_case⟩
end start1
theorem witness_1 : WitnessClaimed_1 := ⟨start1.p0, start1.e0, start1.about1, start1.theMethod, start1.args0, start1.below0, start1.atStart⟩
end Jvm.Pilot.@@N@@
