import JvmDerived
import JvmDerived.Pilot.@@N@@Statement
import JvmDerived.Pilot.@@N@@Code
set_option linter.unusedVariables false
set_option linter.unusedSimpArgs false
namespace Jvm.RoadKit
open Sem ClassFile Op Lib Jvm.Stand Jvm.Free Jvm.LawKit
section New
variable {p : Program} {l : Launch} {e : Env} {R : Room} {s : State} {m : MethodId} {args : Array Value} {below : List Frame} {meth : Method} {c : Code} {T : State} {locs : List Loc} {cells slots : Nat}
theorem retI (X : Stand p l e R s m args below meth c T locs cells slots) (hx : p.tables.exec = Jvm.exec) {pc : Nat} {Ls : Array Slot} {z : Int32} {rest : List Value} (hret : meth.sig.returnType = some .int) (hd : decode c.code pc = .ok (.ireturn, 1)) {fs : List Frame}
    (hl : ∀ (f : JFrame) (acts : List Action), f.method = m → f.locked = none → f.entered = [] → (doReturn e (T.setTop f) acts (some (.int z))).1 = T.setFrames fs) : Steps p.tables e below (T.setTop (mkF m pc Ls (.int z :: rest))) (T.setFrames fs) := by
  have hm' : T.vm.method? m = some meth := X.method'
  have hn : narrow .int (.int z) = .int z := rfl
  show Steps p.tables e below (T.setTop { method := m, pc := pc, locals := Ls, stack := _ :: rest, locked := none }) _
  jvm_step X.here [X.here.top, hx, hd, hm', hret, hn]
  first | (intro acts; rw [hl _ acts rfl rfl rfl]) | rw [hl _ _ rfl rfl rfl]
  exact Steps.refl _
end New
end Jvm.RoadKit
namespace Jvm.Pilot.@@N@@
open Jvm Jvm.ClassFile Sem Op Lib Jvm.Free Jvm.Stand Jvm.LawKit Jvm.RoadKit Bundle Jvm.Pilot.@@N@@.Jvm.D
abbrev Sp (p : Program) (e : Env) (b : List Frame) (T : State) (f : JFrame) (t : State) : Prop := Steps p.tables e b (T.setTop f) t
theorem own_fld {args : Array Value} {Z : State} {t : Term} {C n d : String} {k : Int32} {x : Addr} (ev : t.eval args Z none [] Z = some (.ref x)) (h : (Jvm.Cond.eq (.field t C n d) (.int k)).value args Z none Z [] = some true) : Fld Z Z.heap x C n d (.int k) := by
  refine Fld.start ?_
  have h1 := fld_at (C := C) (n := n) (dd := d) ev
  obtain ⟨u, w, e1, e2, -, -⟩ := cmp_v (Or.inl h)
  have e3 : w = .int k := (Option.some.inj (e2.symm.trans (Term.int_eval k)))
  subst e3
  rw [← h1, e1]
  simp only [Jvm.Cond.value, e1, e2] at h
  cases u <;> simp_all
theorem own_sta_keep0 {Z : State} {h h' : Heap} {C n d : String} {v : Value} (F : Sta Z h C n d v) (K : Keep h h' []) : Sta Z h' C n d v := by
  obtain ⟨cf, i, k, f, st, cell, h1, h2, h3, h4, h5, r⟩ := F
  exact ⟨cf, i, k, f, st, cell, h1, h2, h3, h4, K.2.1 _ _ h5 nin0, r⟩
theorem own_selp {s : State} {args : Array Value} {y y2 : MethodName} (hw : (Jvm.Cond.selects y.cls y2 y2).before args s = true) (h2 : y2.cls = y.cls) (hpriv : s.PrivateAt y) (hinst : (Jvm.Cond.instanceMethod y).before args s = true) (hy : y.cls ≠ "java/lang/invoke/MethodHandle" ∧ y.cls ≠ "java/lang/invoke/VarHandle") : (Jvm.Cond.selects y.cls y y).before args s = true := by
  obtain ⟨c, r, m, q1, q2, q3, q4, k, hk, hki⟩ := Cond.selects_spec hw
  have hc := findClass_of_methodNamed q3
  rw [h2] at hc
  exact selects_self_of_private hc hk hki hpriv hinst hy
theorem own_ins_keep {Z : State} {h h' : Heap} {a : Addr} {C : String} {ws : List Addr} (F : Ins Z h a C true) (K : Keep h h' ws) : Ins Z h' a C true := by
  obtain ⟨cell, cT, h1, h2, h3⟩ := F
  obtain ⟨c', e1, e2, e3, -⟩ := K.2.2 _ _ h1
  exact ⟨c', cT, e1, h2, by rw [e2, e3]; exact h3⟩
theorem own_fitc {Z : State} {h : Heap} {a : Addr} {c : Cell} {ty : FieldType} {vs : List Value} {d : Value} (A : Arr Z h a c ty) (H : Has c vs d) (G : ∀ i, i < c.slots.size → fits ty (vs.getD i d) = true) : FitC Z c := fun i v hv => by
  have hi := (Array.getElem?_eq_some_iff.mp hv).1
  have e : vs.getD i d = v := Option.some.inj ((H i hi).symm.trans hv)
  have g := G i hi
  rw [e] at g
  obtain ⟨hs, k, hk, comp, hkind⟩ := A.2.1
  simp [State.fitsSlot, State.slotType?, hk, hkind, g]
theorem own_cases21 (p : Int32) : ((p &&& (2147483647 : Int32)) % (21 : Int32)) = (0 : Int32) ∨ ((p &&& (2147483647 : Int32)) % (21 : Int32)) = (1 : Int32) ∨ ((p &&& (2147483647 : Int32)) % (21 : Int32)) = (2 : Int32) ∨ ((p &&& (2147483647 : Int32)) % (21 : Int32)) = (3 : Int32) ∨ ((p &&& (2147483647 : Int32)) % (21 : Int32)) = (4 : Int32) ∨ ((p &&& (2147483647 : Int32)) % (21 : Int32)) = (5 : Int32) ∨ ((p &&& (2147483647 : Int32)) % (21 : Int32)) = (6 : Int32) ∨ ((p &&& (2147483647 : Int32)) % (21 : Int32)) = (7 : Int32) ∨ ((p &&& (2147483647 : Int32)) % (21 : Int32)) = (8 : Int32) ∨ ((p &&& (2147483647 : Int32)) % (21 : Int32)) = (9 : Int32) ∨ ((p &&& (2147483647 : Int32)) % (21 : Int32)) = (10 : Int32) ∨ ((p &&& (2147483647 : Int32)) % (21 : Int32)) = (11 : Int32) ∨ ((p &&& (2147483647 : Int32)) % (21 : Int32)) = (12 : Int32) ∨ ((p &&& (2147483647 : Int32)) % (21 : Int32)) = (13 : Int32) ∨ ((p &&& (2147483647 : Int32)) % (21 : Int32)) = (14 : Int32) ∨ ((p &&& (2147483647 : Int32)) % (21 : Int32)) = (15 : Int32) ∨ ((p &&& (2147483647 : Int32)) % (21 : Int32)) = (16 : Int32) ∨ ((p &&& (2147483647 : Int32)) % (21 : Int32)) = (17 : Int32) ∨ ((p &&& (2147483647 : Int32)) % (21 : Int32)) = (18 : Int32) ∨ ((p &&& (2147483647 : Int32)) % (21 : Int32)) = (19 : Int32) ∨ ((p &&& (2147483647 : Int32)) % (21 : Int32)) = (20 : Int32) := by
  have h1 := c_and p (2147483647 : Int32) (by decide)
  have h2 := (c_irem (p &&& (2147483647 : Int32)) (21 : Int32) 21 (by decide)).1 h1.1
  generalize ((p &&& (2147483647 : Int32)) % (21 : Int32)) = z at h2 ⊢
  have h3 : z.toInt = 0 ∨ z.toInt = 1 ∨ z.toInt = 2 ∨ z.toInt = 3 ∨ z.toInt = 4 ∨ z.toInt = 5 ∨ z.toInt = 6 ∨ z.toInt = 7 ∨ z.toInt = 8 ∨ z.toInt = 9 ∨ z.toInt = 10 ∨ z.toInt = 11 ∨ z.toInt = 12 ∨ z.toInt = 13 ∨ z.toInt = 14 ∨ z.toInt = 15 ∨ z.toInt = 16 ∨ z.toInt = 17 ∨ z.toInt = 18 ∨ z.toInt = 19 ∨ z.toInt = 20 := by omega
  rcases h3 with h | h | h | h | h | h | h | h | h | h | h | h | h | h | h | h | h | h | h | h | h
  · exact Or.inl (Int32.toInt_inj.mp (h.trans (by decide)))
  · exact Or.inr (Or.inl (Int32.toInt_inj.mp (h.trans (by decide))))
  · exact Or.inr (Or.inr (Or.inl (Int32.toInt_inj.mp (h.trans (by decide)))))
  · exact Or.inr (Or.inr (Or.inr (Or.inl (Int32.toInt_inj.mp (h.trans (by decide))))))
  · exact Or.inr (Or.inr (Or.inr (Or.inr (Or.inl (Int32.toInt_inj.mp (h.trans (by decide)))))))
  · exact Or.inr (Or.inr (Or.inr (Or.inr (Or.inr (Or.inl (Int32.toInt_inj.mp (h.trans (by decide))))))))
  · exact Or.inr (Or.inr (Or.inr (Or.inr (Or.inr (Or.inr (Or.inl (Int32.toInt_inj.mp (h.trans (by decide)))))))))
  · exact Or.inr (Or.inr (Or.inr (Or.inr (Or.inr (Or.inr (Or.inr (Or.inl (Int32.toInt_inj.mp (h.trans (by decide))))))))))
  · exact Or.inr (Or.inr (Or.inr (Or.inr (Or.inr (Or.inr (Or.inr (Or.inr (Or.inl (Int32.toInt_inj.mp (h.trans (by decide)))))))))))
  · exact Or.inr (Or.inr (Or.inr (Or.inr (Or.inr (Or.inr (Or.inr (Or.inr (Or.inr (Or.inl (Int32.toInt_inj.mp (h.trans (by decide))))))))))))
  · exact Or.inr (Or.inr (Or.inr (Or.inr (Or.inr (Or.inr (Or.inr (Or.inr (Or.inr (Or.inr (Or.inl (Int32.toInt_inj.mp (h.trans (by decide)))))))))))))
  · exact Or.inr (Or.inr (Or.inr (Or.inr (Or.inr (Or.inr (Or.inr (Or.inr (Or.inr (Or.inr (Or.inr (Or.inl (Int32.toInt_inj.mp (h.trans (by decide))))))))))))))
  · exact Or.inr (Or.inr (Or.inr (Or.inr (Or.inr (Or.inr (Or.inr (Or.inr (Or.inr (Or.inr (Or.inr (Or.inr (Or.inl (Int32.toInt_inj.mp (h.trans (by decide)))))))))))))))
  · exact Or.inr (Or.inr (Or.inr (Or.inr (Or.inr (Or.inr (Or.inr (Or.inr (Or.inr (Or.inr (Or.inr (Or.inr (Or.inr (Or.inl (Int32.toInt_inj.mp (h.trans (by decide))))))))))))))))
  · exact Or.inr (Or.inr (Or.inr (Or.inr (Or.inr (Or.inr (Or.inr (Or.inr (Or.inr (Or.inr (Or.inr (Or.inr (Or.inr (Or.inr (Or.inl (Int32.toInt_inj.mp (h.trans (by decide)))))))))))))))))
  · exact Or.inr (Or.inr (Or.inr (Or.inr (Or.inr (Or.inr (Or.inr (Or.inr (Or.inr (Or.inr (Or.inr (Or.inr (Or.inr (Or.inr (Or.inr (Or.inl (Int32.toInt_inj.mp (h.trans (by decide))))))))))))))))))
  · exact Or.inr (Or.inr (Or.inr (Or.inr (Or.inr (Or.inr (Or.inr (Or.inr (Or.inr (Or.inr (Or.inr (Or.inr (Or.inr (Or.inr (Or.inr (Or.inr (Or.inl (Int32.toInt_inj.mp (h.trans (by decide)))))))))))))))))))
  · exact Or.inr (Or.inr (Or.inr (Or.inr (Or.inr (Or.inr (Or.inr (Or.inr (Or.inr (Or.inr (Or.inr (Or.inr (Or.inr (Or.inr (Or.inr (Or.inr (Or.inr (Or.inl (Int32.toInt_inj.mp (h.trans (by decide))))))))))))))))))))
  · exact Or.inr (Or.inr (Or.inr (Or.inr (Or.inr (Or.inr (Or.inr (Or.inr (Or.inr (Or.inr (Or.inr (Or.inr (Or.inr (Or.inr (Or.inr (Or.inr (Or.inr (Or.inr (Or.inl (Int32.toInt_inj.mp (h.trans (by decide)))))))))))))))))))))
  · exact Or.inr (Or.inr (Or.inr (Or.inr (Or.inr (Or.inr (Or.inr (Or.inr (Or.inr (Or.inr (Or.inr (Or.inr (Or.inr (Or.inr (Or.inr (Or.inr (Or.inr (Or.inr (Or.inr (Or.inl (Int32.toInt_inj.mp (h.trans (by decide))))))))))))))))))))))
  · exact Or.inr (Or.inr (Or.inr (Or.inr (Or.inr (Or.inr (Or.inr (Or.inr (Or.inr (Or.inr (Or.inr (Or.inr (Or.inr (Or.inr (Or.inr (Or.inr (Or.inr (Or.inr (Or.inr (Or.inr ((Int32.toInt_inj.mp (h.trans (by decide)))))))))))))))))))))))
theorem d1_0 : decode prog_23_method_5_code 0 = .ok (.aload_n 0, 1) := by decide +kernel
theorem d1_1 : decode prog_23_method_5_code 1 = .ok (.getstatic 19, 3) := by decide +kernel
theorem d1_4 : decode prog_23_method_5_code 4 = .ok (.if_acmp .eq 38, 3) := by decide +kernel
theorem d1_7 : decode prog_23_method_5_code 7 = .ok (.aload_n 0, 1) := by decide +kernel
theorem d1_8 : decode prog_23_method_5_code 8 = .ok (.getstatic 22, 3) := by decide +kernel
theorem d1_11 : decode prog_23_method_5_code 11 = .ok (.if_acmp .eq 31, 3) := by decide +kernel
theorem d1_14 : decode prog_23_method_5_code 14 = .ok (.aload_n 0, 1) := by decide +kernel
theorem d1_15 : decode prog_23_method_5_code 15 = .ok (.getstatic 25, 3) := by decide +kernel
theorem d1_18 : decode prog_23_method_5_code 18 = .ok (.if_acmp .eq 24, 3) := by decide +kernel
theorem d1_21 : decode prog_23_method_5_code 21 = .ok (.aload_n 0, 1) := by decide +kernel
theorem d1_22 : decode prog_23_method_5_code 22 = .ok (.getstatic 28, 3) := by decide +kernel
theorem d1_25 : decode prog_23_method_5_code 25 = .ok (.if_acmp .eq 17, 3) := by decide +kernel
theorem d1_28 : decode prog_23_method_5_code 28 = .ok (.aload_n 0, 1) := by decide +kernel
theorem d1_29 : decode prog_23_method_5_code 29 = .ok (.getstatic 31, 3) := by decide +kernel
theorem d1_32 : decode prog_23_method_5_code 32 = .ok (.if_acmp .eq 10, 3) := by decide +kernel
theorem d1_35 : decode prog_23_method_5_code 35 = .ok (.aload_n 0, 1) := by decide +kernel
theorem d1_36 : decode prog_23_method_5_code 36 = .ok (.getstatic 34, 3) := by decide +kernel
theorem d1_39 : decode prog_23_method_5_code 39 = .ok (.if_acmp .ne 7, 3) := by decide +kernel
theorem d1_42 : decode prog_23_method_5_code 42 = .ok (.iconst 1, 1) := by decide +kernel
theorem d1_43 : decode prog_23_method_5_code 43 = .ok (.goto 4, 3) := by decide +kernel
theorem d1_46 : decode prog_23_method_5_code 46 = .ok (.iconst 0, 1) := by decide +kernel
theorem d1_47 : decode prog_23_method_5_code 47 = .ok (.ireturn, 1) := by decide +kernel
theorem pn_0 : plainName "com/example/fionn/fionn/cql/Functions$Generic" = true := by first | (simp [plainName, overriddenIn]; done) | decide +kernel
theorem ef_1_R (m : MethodId) (x0 : Addr) : entryFrame m #[(.ref x0)] 1 = mkF m 0 #[.val (.ref x0)] [] := by first | (simp [entryFrame, mkF, argsToLocals, Value.category]; done) | rfl
def Q_callee (Z : State) (a : Addr) (w_MASK_NULL : Addr) (w_MASK_DEFAULT : Addr) (w_MASK_REPLACE : Addr) (w_MASK_INNER : Addr) (w_MASK_OUTER : Addr) (w_MASK_HASH : Addr) (r : Int32) (h0 : Heap) (n0 : Nat) (v : Option Value) (h : Heap) (L : List Loc) : Prop := v = some (.int r) ∧ Fr n0 L ∧ h = h0
set_option maxRecDepth 65536 in
set_option maxHeartbeats 40000000 in
theorem rm_callee (l : Launch) (Z : State) (a0 : Array Value) (hw : ∀ d ∈ tables_1, d.before a0 Z = true) (ws : List Jvm.Cond) (a : Addr) (w_MASK_NULL : Addr) (w_MASK_DEFAULT : Addr) (w_MASK_REPLACE : Addr) (w_MASK_INNER : Addr) (w_MASK_OUTER : Addr) (w_MASK_HASH : Addr) (r : Int32) (h0 : Heap) (n0 : Nat) (Z0 : n0 ≤ h0.size) (O0 : Old Z n0 h0) (S_MASK_NULL : Sta Z h0 "com/example/fionn/fionn/cql/Functions$Generic" "MASK_NULL" "Lcom/example/fionn/fionn/cql/Functions$Generic;" (.ref w_MASK_NULL)) (S_MASK_DEFAULT : Sta Z h0 "com/example/fionn/fionn/cql/Functions$Generic" "MASK_DEFAULT" "Lcom/example/fionn/fionn/cql/Functions$Generic;" (.ref w_MASK_DEFAULT)) (S_MASK_REPLACE : Sta Z h0 "com/example/fionn/fionn/cql/Functions$Generic" "MASK_REPLACE" "Lcom/example/fionn/fionn/cql/Functions$Generic;" (.ref w_MASK_REPLACE)) (S_MASK_INNER : Sta Z h0 "com/example/fionn/fionn/cql/Functions$Generic" "MASK_INNER" "Lcom/example/fionn/fionn/cql/Functions$Generic;" (.ref w_MASK_INNER)) (S_MASK_OUTER : Sta Z h0 "com/example/fionn/fionn/cql/Functions$Generic" "MASK_OUTER" "Lcom/example/fionn/fionn/cql/Functions$Generic;" (.ref w_MASK_OUTER)) (S_MASK_HASH : Sta Z h0 "com/example/fionn/fionn/cql/Functions$Generic" "MASK_HASH" "Lcom/example/fionn/fionn/cql/Functions$Generic;" (.ref w_MASK_HASH)) (hres : r = if a = w_MASK_NULL then (1 : Int32) else if a = w_MASK_DEFAULT then (1 : Int32) else if a = w_MASK_REPLACE then (1 : Int32) else if a = w_MASK_INNER then (1 : Int32) else if a = w_MASK_OUTER then (1 : Int32) else if a = w_MASK_HASH then (1 : Int32) else 0) :
    MetFree l (⟨"com/example/fionn/fionn/cql/Functions$Generic", "isMask", "()Z"⟩ : MethodName) (head1 (Jvm.Cond.code (⟨"com/example/fionn/fionn/cql/Functions$Generic", "isMask", "()Z"⟩ : MethodName) prog_23_method_5_code 1 (some .boolean) :: ws) ({ frames := 0, cells := 0, slots := 0, locals := 0 } : Room)) (fun A_ U => A_ = #[(.ref a)] ∧ Z.Warmed39 U.vm ∧ U.heap = h0) (fun _ _ _ _ _ => True) (fun _ U o U' => ∃ v L, o = .returned v ∧ Q_callee Z a w_MASK_NULL w_MASK_DEFAULT w_MASK_REPLACE w_MASK_INNER w_MASK_OUTER w_MASK_HASH r h0 n0 v U'.heap L ∧ FrameEnd U o U' L ({ frames := 0, cells := 0, slots := 0, locals := 0 } : Room).cells ({ frames := 0, cells := 0, slots := 0, locals := 0 } : Room).slots) := by
  refine MetFree.of_bodySF (plainFor_of_name pn_0) hisR ?_
  intro p e s m args below meth c s₁ Bd hml0 hP hK
  obtain ⟨rfl, hZ, hh⟩ := hP
  have hx := Bd.exec
  have hby := Bd.bytes
  have hml : c.maxLocals = 1 := hml0
  have hown : s.vm.findClass "com/example/fionn/fionn/cql/Functions$Generic" = some m.cls := findClass_of_methodNamed Bd.named
  have hnm := (name_of_methodNamed Bd.named Bd.method).1
  have hret := Bd.returns
  have X0 : Stand p l e ({ frames := 0, cells := 0, slots := 0, locals := 0 } : Room) s m #[(.ref a)] below meth c s₁ [] 0 0 := Stand.of_body Bd
  have e0 : s₁.heap = h0 := by rw [← hh, Bd.state]; rfl
  have N0 := Fr.nil n0
  have pre0 : ∀ t, Sp p e below s₁ (mkF m 0 #[.val (.ref a)] []) t → Sp p e below s₁ (entryFrame m #[(.ref a)] 1) t := fun t k => castTop (ef_1_R m a) k
  obtain ⟨Tg1, Xg1, eg1, stg1⟩ := getS2 X0 hx hZ hown (host := "") (Or.inl (hw _ (List.mem_of_getElem? (i := 52) rfl))) Via.refl e0 S_MASK_NULL (g := (mkF m 1 #[.val (.ref a)] [(.ref a)])) rfl (hb hby d1_1)
  have r2 : ∀ t, Sp p e below Tg1 (mkF m 4 #[.val (.ref a)] [(.ref w_MASK_NULL), (.ref a)]) t → Sp p e below s₁ (entryFrame m #[(.ref a)] 1) t := by
    intro t k
    refine pre0 _ ?_
    refine XS.aloadN X0.here hx rfl (hb hby d1_0) rfl rfl ?_
    show Sp p e below s₁ (mkF m 1 #[.val (.ref a)] [(.ref a)]) _
    refine stg1 _ ?_
    show Sp p e below Tg1 (mkF m 4 #[.val (.ref a)] [(.ref w_MASK_NULL), (.ref a)]) _
    exact k
  by_cases c3 : a = w_MASK_NULL
  · obtain ⟨fs, hlv, hrun, hended, hW, hsame⟩ := Xg1.leave (v := some (.int (1 : Int32))) (fun h => by rw [hret] at h; cases h)
    refine ⟨_, _, r2 _ ?_, hrun, hended, _, _, rfl, ?_, ⟨_, rfl⟩, hW, hsame.mono (by decide) (by decide)⟩
    · refine Jvm.RoadKit.acmp (g := (mkF m 4 #[.val (.ref a)] [(.ref w_MASK_NULL), (.ref a)])) Xg1 hx rfl rfl rfl (pc0 := 4) (pc' := 42) (same := true) rfl (hb hby d1_4) rfl (decide_eq_true (congrArg Value.ref c3)) (by decide) (by decide) ?_
      show Sp p e below Tg1 (mkF m 42 #[.val (.ref a)] []) _
      refine XS.iconst Xg1.here hx rfl (hb hby d1_42) ?_
      show Sp p e below Tg1 (mkF m 43 #[.val (.ref a)] [(.int (1 : Int32))]) _
      refine XS.goto Xg1.here hx rfl (pc0 := 43) (pc' := 47) rfl (hb hby d1_43) (by decide) (by decide) ?_
      show Sp p e below Tg1 (mkF m 47 #[.val (.ref a)] [(.int (1 : Int32))]) _
      exact retN Xg1 hx (t := .boolean) hret (by simp) (hb hby d1_47) hlv
    · show Q_callee Z a w_MASK_NULL w_MASK_DEFAULT w_MASK_REPLACE w_MASK_INNER w_MASK_OUTER w_MASK_HASH r h0 n0 _ Tg1.heap _
      rw [eg1]
      exact ⟨by rw [hres]; simp [c3], N0, rfl⟩
  · obtain ⟨Tg4, Xg4, eg4, stg4⟩ := getS2 Xg1 hx hZ hown (host := "") (Or.inl (hw _ (List.mem_of_getElem? (i := 53) rfl))) Via.refl eg1 S_MASK_DEFAULT (g := (mkF m 8 #[.val (.ref a)] [(.ref a)])) rfl (hb hby d1_8)
    have r5 : ∀ t, Sp p e below Tg4 (mkF m 11 #[.val (.ref a)] [(.ref w_MASK_DEFAULT), (.ref a)]) t → Sp p e below s₁ (entryFrame m #[(.ref a)] 1) t := by
      intro t k
      refine r2 _ ?_
      refine Jvm.RoadKit.acmp (g := (mkF m 4 #[.val (.ref a)] [(.ref w_MASK_NULL), (.ref a)])) Xg1 hx rfl rfl rfl (pc0 := 4) (pc' := 7) (same := false) rfl (hb hby d1_4) rfl (decide_eq_false fun q => c3 (Value.ref.inj q)) (by decide) (by decide) ?_
      show Sp p e below Tg1 (mkF m 7 #[.val (.ref a)] []) _
      refine XS.aloadN Xg1.here hx rfl (hb hby d1_7) rfl rfl ?_
      show Sp p e below Tg1 (mkF m 8 #[.val (.ref a)] [(.ref a)]) _
      refine stg4 _ ?_
      show Sp p e below Tg4 (mkF m 11 #[.val (.ref a)] [(.ref w_MASK_DEFAULT), (.ref a)]) _
      exact k
    by_cases c6 : a = w_MASK_DEFAULT
    · obtain ⟨fs, hlv, hrun, hended, hW, hsame⟩ := Xg4.leave (v := some (.int (1 : Int32))) (fun h => by rw [hret] at h; cases h)
      refine ⟨_, _, r5 _ ?_, hrun, hended, _, _, rfl, ?_, ⟨_, rfl⟩, hW, hsame.mono (by decide) (by decide)⟩
      · refine Jvm.RoadKit.acmp (g := (mkF m 11 #[.val (.ref a)] [(.ref w_MASK_DEFAULT), (.ref a)])) Xg4 hx rfl rfl rfl (pc0 := 11) (pc' := 42) (same := true) rfl (hb hby d1_11) rfl (decide_eq_true (congrArg Value.ref c6)) (by decide) (by decide) ?_
        show Sp p e below Tg4 (mkF m 42 #[.val (.ref a)] []) _
        refine XS.iconst Xg4.here hx rfl (hb hby d1_42) ?_
        show Sp p e below Tg4 (mkF m 43 #[.val (.ref a)] [(.int (1 : Int32))]) _
        refine XS.goto Xg4.here hx rfl (pc0 := 43) (pc' := 47) rfl (hb hby d1_43) (by decide) (by decide) ?_
        show Sp p e below Tg4 (mkF m 47 #[.val (.ref a)] [(.int (1 : Int32))]) _
        exact retN Xg4 hx (t := .boolean) hret (by simp) (hb hby d1_47) hlv
      · show Q_callee Z a w_MASK_NULL w_MASK_DEFAULT w_MASK_REPLACE w_MASK_INNER w_MASK_OUTER w_MASK_HASH r h0 n0 _ Tg4.heap _
        rw [eg4]
        exact ⟨by rw [hres]; simp [c3, c6], N0, rfl⟩
    · obtain ⟨Tg7, Xg7, eg7, stg7⟩ := getS2 Xg4 hx hZ hown (host := "") (Or.inl (hw _ (List.mem_of_getElem? (i := 54) rfl))) Via.refl eg4 S_MASK_REPLACE (g := (mkF m 15 #[.val (.ref a)] [(.ref a)])) rfl (hb hby d1_15)
      have r8 : ∀ t, Sp p e below Tg7 (mkF m 18 #[.val (.ref a)] [(.ref w_MASK_REPLACE), (.ref a)]) t → Sp p e below s₁ (entryFrame m #[(.ref a)] 1) t := by
        intro t k
        refine r5 _ ?_
        refine Jvm.RoadKit.acmp (g := (mkF m 11 #[.val (.ref a)] [(.ref w_MASK_DEFAULT), (.ref a)])) Xg4 hx rfl rfl rfl (pc0 := 11) (pc' := 14) (same := false) rfl (hb hby d1_11) rfl (decide_eq_false fun q => c6 (Value.ref.inj q)) (by decide) (by decide) ?_
        show Sp p e below Tg4 (mkF m 14 #[.val (.ref a)] []) _
        refine XS.aloadN Xg4.here hx rfl (hb hby d1_14) rfl rfl ?_
        show Sp p e below Tg4 (mkF m 15 #[.val (.ref a)] [(.ref a)]) _
        refine stg7 _ ?_
        show Sp p e below Tg7 (mkF m 18 #[.val (.ref a)] [(.ref w_MASK_REPLACE), (.ref a)]) _
        exact k
      by_cases c9 : a = w_MASK_REPLACE
      · obtain ⟨fs, hlv, hrun, hended, hW, hsame⟩ := Xg7.leave (v := some (.int (1 : Int32))) (fun h => by rw [hret] at h; cases h)
        refine ⟨_, _, r8 _ ?_, hrun, hended, _, _, rfl, ?_, ⟨_, rfl⟩, hW, hsame.mono (by decide) (by decide)⟩
        · refine Jvm.RoadKit.acmp (g := (mkF m 18 #[.val (.ref a)] [(.ref w_MASK_REPLACE), (.ref a)])) Xg7 hx rfl rfl rfl (pc0 := 18) (pc' := 42) (same := true) rfl (hb hby d1_18) rfl (decide_eq_true (congrArg Value.ref c9)) (by decide) (by decide) ?_
          show Sp p e below Tg7 (mkF m 42 #[.val (.ref a)] []) _
          refine XS.iconst Xg7.here hx rfl (hb hby d1_42) ?_
          show Sp p e below Tg7 (mkF m 43 #[.val (.ref a)] [(.int (1 : Int32))]) _
          refine XS.goto Xg7.here hx rfl (pc0 := 43) (pc' := 47) rfl (hb hby d1_43) (by decide) (by decide) ?_
          show Sp p e below Tg7 (mkF m 47 #[.val (.ref a)] [(.int (1 : Int32))]) _
          exact retN Xg7 hx (t := .boolean) hret (by simp) (hb hby d1_47) hlv
        · show Q_callee Z a w_MASK_NULL w_MASK_DEFAULT w_MASK_REPLACE w_MASK_INNER w_MASK_OUTER w_MASK_HASH r h0 n0 _ Tg7.heap _
          rw [eg7]
          exact ⟨by rw [hres]; simp [c3, c6, c9], N0, rfl⟩
      · obtain ⟨Tg10, Xg10, eg10, stg10⟩ := getS2 Xg7 hx hZ hown (host := "") (Or.inl (hw _ (List.mem_of_getElem? (i := 55) rfl))) Via.refl eg7 S_MASK_INNER (g := (mkF m 22 #[.val (.ref a)] [(.ref a)])) rfl (hb hby d1_22)
        have r11 : ∀ t, Sp p e below Tg10 (mkF m 25 #[.val (.ref a)] [(.ref w_MASK_INNER), (.ref a)]) t → Sp p e below s₁ (entryFrame m #[(.ref a)] 1) t := by
          intro t k
          refine r8 _ ?_
          refine Jvm.RoadKit.acmp (g := (mkF m 18 #[.val (.ref a)] [(.ref w_MASK_REPLACE), (.ref a)])) Xg7 hx rfl rfl rfl (pc0 := 18) (pc' := 21) (same := false) rfl (hb hby d1_18) rfl (decide_eq_false fun q => c9 (Value.ref.inj q)) (by decide) (by decide) ?_
          show Sp p e below Tg7 (mkF m 21 #[.val (.ref a)] []) _
          refine XS.aloadN Xg7.here hx rfl (hb hby d1_21) rfl rfl ?_
          show Sp p e below Tg7 (mkF m 22 #[.val (.ref a)] [(.ref a)]) _
          refine stg10 _ ?_
          show Sp p e below Tg10 (mkF m 25 #[.val (.ref a)] [(.ref w_MASK_INNER), (.ref a)]) _
          exact k
        by_cases c12 : a = w_MASK_INNER
        · obtain ⟨fs, hlv, hrun, hended, hW, hsame⟩ := Xg10.leave (v := some (.int (1 : Int32))) (fun h => by rw [hret] at h; cases h)
          refine ⟨_, _, r11 _ ?_, hrun, hended, _, _, rfl, ?_, ⟨_, rfl⟩, hW, hsame.mono (by decide) (by decide)⟩
          · refine Jvm.RoadKit.acmp (g := (mkF m 25 #[.val (.ref a)] [(.ref w_MASK_INNER), (.ref a)])) Xg10 hx rfl rfl rfl (pc0 := 25) (pc' := 42) (same := true) rfl (hb hby d1_25) rfl (decide_eq_true (congrArg Value.ref c12)) (by decide) (by decide) ?_
            show Sp p e below Tg10 (mkF m 42 #[.val (.ref a)] []) _
            refine XS.iconst Xg10.here hx rfl (hb hby d1_42) ?_
            show Sp p e below Tg10 (mkF m 43 #[.val (.ref a)] [(.int (1 : Int32))]) _
            refine XS.goto Xg10.here hx rfl (pc0 := 43) (pc' := 47) rfl (hb hby d1_43) (by decide) (by decide) ?_
            show Sp p e below Tg10 (mkF m 47 #[.val (.ref a)] [(.int (1 : Int32))]) _
            exact retN Xg10 hx (t := .boolean) hret (by simp) (hb hby d1_47) hlv
          · show Q_callee Z a w_MASK_NULL w_MASK_DEFAULT w_MASK_REPLACE w_MASK_INNER w_MASK_OUTER w_MASK_HASH r h0 n0 _ Tg10.heap _
            rw [eg10]
            exact ⟨by rw [hres]; simp [c3, c6, c9, c12], N0, rfl⟩
        · obtain ⟨Tg13, Xg13, eg13, stg13⟩ := getS2 Xg10 hx hZ hown (host := "") (Or.inl (hw _ (List.mem_of_getElem? (i := 56) rfl))) Via.refl eg10 S_MASK_OUTER (g := (mkF m 29 #[.val (.ref a)] [(.ref a)])) rfl (hb hby d1_29)
          have r14 : ∀ t, Sp p e below Tg13 (mkF m 32 #[.val (.ref a)] [(.ref w_MASK_OUTER), (.ref a)]) t → Sp p e below s₁ (entryFrame m #[(.ref a)] 1) t := by
            intro t k
            refine r11 _ ?_
            refine Jvm.RoadKit.acmp (g := (mkF m 25 #[.val (.ref a)] [(.ref w_MASK_INNER), (.ref a)])) Xg10 hx rfl rfl rfl (pc0 := 25) (pc' := 28) (same := false) rfl (hb hby d1_25) rfl (decide_eq_false fun q => c12 (Value.ref.inj q)) (by decide) (by decide) ?_
            show Sp p e below Tg10 (mkF m 28 #[.val (.ref a)] []) _
            refine XS.aloadN Xg10.here hx rfl (hb hby d1_28) rfl rfl ?_
            show Sp p e below Tg10 (mkF m 29 #[.val (.ref a)] [(.ref a)]) _
            refine stg13 _ ?_
            show Sp p e below Tg13 (mkF m 32 #[.val (.ref a)] [(.ref w_MASK_OUTER), (.ref a)]) _
            exact k
          by_cases c15 : a = w_MASK_OUTER
          · obtain ⟨fs, hlv, hrun, hended, hW, hsame⟩ := Xg13.leave (v := some (.int (1 : Int32))) (fun h => by rw [hret] at h; cases h)
            refine ⟨_, _, r14 _ ?_, hrun, hended, _, _, rfl, ?_, ⟨_, rfl⟩, hW, hsame.mono (by decide) (by decide)⟩
            · refine Jvm.RoadKit.acmp (g := (mkF m 32 #[.val (.ref a)] [(.ref w_MASK_OUTER), (.ref a)])) Xg13 hx rfl rfl rfl (pc0 := 32) (pc' := 42) (same := true) rfl (hb hby d1_32) rfl (decide_eq_true (congrArg Value.ref c15)) (by decide) (by decide) ?_
              show Sp p e below Tg13 (mkF m 42 #[.val (.ref a)] []) _
              refine XS.iconst Xg13.here hx rfl (hb hby d1_42) ?_
              show Sp p e below Tg13 (mkF m 43 #[.val (.ref a)] [(.int (1 : Int32))]) _
              refine XS.goto Xg13.here hx rfl (pc0 := 43) (pc' := 47) rfl (hb hby d1_43) (by decide) (by decide) ?_
              show Sp p e below Tg13 (mkF m 47 #[.val (.ref a)] [(.int (1 : Int32))]) _
              exact retN Xg13 hx (t := .boolean) hret (by simp) (hb hby d1_47) hlv
            · show Q_callee Z a w_MASK_NULL w_MASK_DEFAULT w_MASK_REPLACE w_MASK_INNER w_MASK_OUTER w_MASK_HASH r h0 n0 _ Tg13.heap _
              rw [eg13]
              exact ⟨by rw [hres]; simp [c3, c6, c9, c12, c15], N0, rfl⟩
          · obtain ⟨Tg16, Xg16, eg16, stg16⟩ := getS2 Xg13 hx hZ hown (host := "") (Or.inl (hw _ (List.mem_of_getElem? (i := 57) rfl))) Via.refl eg13 S_MASK_HASH (g := (mkF m 36 #[.val (.ref a)] [(.ref a)])) rfl (hb hby d1_36)
            have r17 : ∀ t, Sp p e below Tg16 (mkF m 39 #[.val (.ref a)] [(.ref w_MASK_HASH), (.ref a)]) t → Sp p e below s₁ (entryFrame m #[(.ref a)] 1) t := by
              intro t k
              refine r14 _ ?_
              refine Jvm.RoadKit.acmp (g := (mkF m 32 #[.val (.ref a)] [(.ref w_MASK_OUTER), (.ref a)])) Xg13 hx rfl rfl rfl (pc0 := 32) (pc' := 35) (same := false) rfl (hb hby d1_32) rfl (decide_eq_false fun q => c15 (Value.ref.inj q)) (by decide) (by decide) ?_
              show Sp p e below Tg13 (mkF m 35 #[.val (.ref a)] []) _
              refine XS.aloadN Xg13.here hx rfl (hb hby d1_35) rfl rfl ?_
              show Sp p e below Tg13 (mkF m 36 #[.val (.ref a)] [(.ref a)]) _
              refine stg16 _ ?_
              show Sp p e below Tg16 (mkF m 39 #[.val (.ref a)] [(.ref w_MASK_HASH), (.ref a)]) _
              exact k
            by_cases c18 : a = w_MASK_HASH
            · obtain ⟨fs, hlv, hrun, hended, hW, hsame⟩ := Xg16.leave (v := some (.int (1 : Int32))) (fun h => by rw [hret] at h; cases h)
              refine ⟨_, _, r17 _ ?_, hrun, hended, _, _, rfl, ?_, ⟨_, rfl⟩, hW, hsame.mono (by decide) (by decide)⟩
              · refine Jvm.RoadKit.acmp (g := (mkF m 39 #[.val (.ref a)] [(.ref w_MASK_HASH), (.ref a)])) Xg16 hx rfl rfl rfl (pc0 := 39) (pc' := 42) (same := true) rfl (hb hby d1_39) rfl (decide_eq_true (congrArg Value.ref c18)) (by decide) (by decide) ?_
                show Sp p e below Tg16 (mkF m 42 #[.val (.ref a)] []) _
                refine XS.iconst Xg16.here hx rfl (hb hby d1_42) ?_
                show Sp p e below Tg16 (mkF m 43 #[.val (.ref a)] [(.int (1 : Int32))]) _
                refine XS.goto Xg16.here hx rfl (pc0 := 43) (pc' := 47) rfl (hb hby d1_43) (by decide) (by decide) ?_
                show Sp p e below Tg16 (mkF m 47 #[.val (.ref a)] [(.int (1 : Int32))]) _
                exact retN Xg16 hx (t := .boolean) hret (by simp) (hb hby d1_47) hlv
              · show Q_callee Z a w_MASK_NULL w_MASK_DEFAULT w_MASK_REPLACE w_MASK_INNER w_MASK_OUTER w_MASK_HASH r h0 n0 _ Tg16.heap _
                rw [eg16]
                exact ⟨by rw [hres]; simp [c3, c6, c9, c12, c15, c18], N0, rfl⟩
            · obtain ⟨fs, hlv, hrun, hended, hW, hsame⟩ := Xg16.leave (v := some (.int (0 : Int32))) (fun h => by rw [hret] at h; cases h)
              refine ⟨_, _, r17 _ ?_, hrun, hended, _, _, rfl, ?_, ⟨_, rfl⟩, hW, hsame.mono (by decide) (by decide)⟩
              · refine Jvm.RoadKit.acmp (g := (mkF m 39 #[.val (.ref a)] [(.ref w_MASK_HASH), (.ref a)])) Xg16 hx rfl rfl rfl (pc0 := 39) (pc' := 46) (same := false) rfl (hb hby d1_39) rfl (decide_eq_false fun q => c18 (Value.ref.inj q)) (by decide) (by decide) ?_
                show Sp p e below Tg16 (mkF m 46 #[.val (.ref a)] []) _
                refine XS.iconst Xg16.here hx rfl (hb hby d1_46) ?_
                show Sp p e below Tg16 (mkF m 47 #[.val (.ref a)] [(.int (0 : Int32))]) _
                exact retN Xg16 hx (t := .boolean) hret (by simp) (hb hby d1_47) hlv
              · show Q_callee Z a w_MASK_NULL w_MASK_DEFAULT w_MASK_REPLACE w_MASK_INNER w_MASK_OUTER w_MASK_HASH r h0 n0 _ Tg16.heap _
                rw [eg16]
                exact ⟨by rw [hres]; simp [c3, c6, c9, c12, c15, c18], N0, rfl⟩
def Q_law (Z : State) (n0 : Nat) (v : Option Value) (h : Heap) (L : List Loc) : Prop := v = some (.int 1) ∧ Fr n0 L
theorem pd___Z : parseMethodDescriptor "()Z" = some ⟨[], some .boolean⟩ := by decide +kernel
set_option maxRecDepth 65536 in
set_option maxHeartbeats 40000000 in
theorem tl_tail (p : Program) (l : Launch) (e : Env) (s : State) (m : MethodId) (args : Array Value) (below : List Frame) (meth : Method) (c : Code) (T0 : State) (locs : List Loc) (Z : State) (a0 : Array Value) (hw : ∀ d ∈ tables_1, d.before a0 Z = true) (p1 : Int32) (zi : Int32) (ba : Addr) (ka : ClassId) (w_TO_JSON : Addr) (w_FROM_JSON : Addr) (w_TOKEN : Addr) (w_MIN : Addr) (w_MAX : Addr) (w_MASK_NULL : Addr) (w_MASK_DEFAULT : Addr) (w_MASK_REPLACE : Addr) (w_MASK_INNER : Addr) (w_MASK_OUTER : Addr) (w_MASK_HASH : Addr) (w_COLLECTION_COUNT : Addr) (w_COLLECTION_MIN : Addr) (w_COLLECTION_MAX : Addr) (w_COLLECTION_SUM : Addr) (w_COLLECTION_AVG : Addr) (w_MAP_KEYS : Addr) (w_MAP_VALUES : Addr) (w_SIMILARITY_COSINE : Addr) (w_SIMILARITY_EUCLIDEAN : Addr) (w_SIMILARITY_DOT_PRODUCT : Addr) (h0 : Heap) (n0 : Nat)
    (X0 : Stand p l e room_1 s m args below meth c T0 locs 1 21) (hx : p.tables.exec = Jvm.exec) (hZ : Z.Warmed39 s.vm) (hby : c.code = code) (hml : c.maxLocals = 4) (hown : s.vm.findClass "com/example/fionn/fionn/cql/GenericIsMaskPinLaw" = some m.cls) (hret : meth.sig.returnType = (some .boolean)) (hlk : meth.locks = false) (e0 : T0.heap = h0) (N0 : Fr n0 locs) (Z0 : n0 ≤ h0.size) (O0 : Old Z n0 h0) (VA : Arv Z h0 ba ka (.object "com/example/fionn/fionn/cql/Functions$Generic") (21 : Int32) [(.ref w_TO_JSON), (.ref w_FROM_JSON), (.ref w_TOKEN), (.ref w_MIN), (.ref w_MAX), (.ref w_MASK_NULL), (.ref w_MASK_DEFAULT), (.ref w_MASK_REPLACE), (.ref w_MASK_INNER), (.ref w_MASK_OUTER), (.ref w_MASK_HASH), (.ref w_COLLECTION_COUNT), (.ref w_COLLECTION_MIN), (.ref w_COLLECTION_MAX), (.ref w_COLLECTION_SUM), (.ref w_COLLECTION_AVG), (.ref w_MAP_KEYS), (.ref w_MAP_VALUES), (.ref w_SIMILARITY_COSINE), (.ref w_SIMILARITY_EUCLIDEAN), (.ref w_SIMILARITY_DOT_PRODUCT)] .null) (S_MASK_NULL : Sta Z h0 "com/example/fionn/fionn/cql/Functions$Generic" "MASK_NULL" "Lcom/example/fionn/fionn/cql/Functions$Generic;" (.ref w_MASK_NULL)) (S_MASK_DEFAULT : Sta Z h0 "com/example/fionn/fionn/cql/Functions$Generic" "MASK_DEFAULT" "Lcom/example/fionn/fionn/cql/Functions$Generic;" (.ref w_MASK_DEFAULT)) (S_MASK_REPLACE : Sta Z h0 "com/example/fionn/fionn/cql/Functions$Generic" "MASK_REPLACE" "Lcom/example/fionn/fionn/cql/Functions$Generic;" (.ref w_MASK_REPLACE)) (S_MASK_INNER : Sta Z h0 "com/example/fionn/fionn/cql/Functions$Generic" "MASK_INNER" "Lcom/example/fionn/fionn/cql/Functions$Generic;" (.ref w_MASK_INNER)) (S_MASK_OUTER : Sta Z h0 "com/example/fionn/fionn/cql/Functions$Generic" "MASK_OUTER" "Lcom/example/fionn/fionn/cql/Functions$Generic;" (.ref w_MASK_OUTER)) (S_MASK_HASH : Sta Z h0 "com/example/fionn/fionn/cql/Functions$Generic" "MASK_HASH" "Lcom/example/fionn/fionn/cql/Functions$Generic;" (.ref w_MASK_HASH)) (E_TO_JSON : Exa Z h0 w_TO_JSON "com/example/fionn/fionn/cql/Functions$Generic") (E_FROM_JSON : Exa Z h0 w_FROM_JSON "com/example/fionn/fionn/cql/Functions$Generic") (E_TOKEN : Exa Z h0 w_TOKEN "com/example/fionn/fionn/cql/Functions$Generic") (E_MIN : Exa Z h0 w_MIN "com/example/fionn/fionn/cql/Functions$Generic") (E_MAX : Exa Z h0 w_MAX "com/example/fionn/fionn/cql/Functions$Generic") (E_MASK_NULL : Exa Z h0 w_MASK_NULL "com/example/fionn/fionn/cql/Functions$Generic") (E_MASK_DEFAULT : Exa Z h0 w_MASK_DEFAULT "com/example/fionn/fionn/cql/Functions$Generic") (E_MASK_REPLACE : Exa Z h0 w_MASK_REPLACE "com/example/fionn/fionn/cql/Functions$Generic") (E_MASK_INNER : Exa Z h0 w_MASK_INNER "com/example/fionn/fionn/cql/Functions$Generic") (E_MASK_OUTER : Exa Z h0 w_MASK_OUTER "com/example/fionn/fionn/cql/Functions$Generic") (E_MASK_HASH : Exa Z h0 w_MASK_HASH "com/example/fionn/fionn/cql/Functions$Generic") (E_COLLECTION_COUNT : Exa Z h0 w_COLLECTION_COUNT "com/example/fionn/fionn/cql/Functions$Generic") (E_COLLECTION_MIN : Exa Z h0 w_COLLECTION_MIN "com/example/fionn/fionn/cql/Functions$Generic") (E_COLLECTION_MAX : Exa Z h0 w_COLLECTION_MAX "com/example/fionn/fionn/cql/Functions$Generic") (E_COLLECTION_SUM : Exa Z h0 w_COLLECTION_SUM "com/example/fionn/fionn/cql/Functions$Generic") (E_COLLECTION_AVG : Exa Z h0 w_COLLECTION_AVG "com/example/fionn/fionn/cql/Functions$Generic") (E_MAP_KEYS : Exa Z h0 w_MAP_KEYS "com/example/fionn/fionn/cql/Functions$Generic") (E_MAP_VALUES : Exa Z h0 w_MAP_VALUES "com/example/fionn/fionn/cql/Functions$Generic") (E_SIMILARITY_COSINE : Exa Z h0 w_SIMILARITY_COSINE "com/example/fionn/fionn/cql/Functions$Generic") (E_SIMILARITY_EUCLIDEAN : Exa Z h0 w_SIMILARITY_EUCLIDEAN "com/example/fionn/fionn/cql/Functions$Generic") (E_SIMILARITY_DOT_PRODUCT : Exa Z h0 w_SIMILARITY_DOT_PRODUCT "com/example/fionn/fionn/cql/Functions$Generic") (hz : zi = (0 : Int32) ∨ zi = (1 : Int32) ∨ zi = (2 : Int32) ∨ zi = (3 : Int32) ∨ zi = (4 : Int32) ∨ zi = (5 : Int32) ∨ zi = (6 : Int32) ∨ zi = (7 : Int32) ∨ zi = (8 : Int32) ∨ zi = (9 : Int32) ∨ zi = (10 : Int32) ∨ zi = (11 : Int32) ∨ zi = (12 : Int32) ∨ zi = (13 : Int32) ∨ zi = (14 : Int32) ∨ zi = (15 : Int32) ∨ zi = (16 : Int32) ∨ zi = (17 : Int32) ∨ zi = (18 : Int32) ∨ zi = (19 : Int32) ∨ zi = (20 : Int32)) (n_TO_JSON_MASK_NULL : ¬ (w_TO_JSON = w_MASK_NULL)) (n_TO_JSON_MASK_DEFAULT : ¬ (w_TO_JSON = w_MASK_DEFAULT)) (n_TO_JSON_MASK_REPLACE : ¬ (w_TO_JSON = w_MASK_REPLACE)) (n_TO_JSON_MASK_INNER : ¬ (w_TO_JSON = w_MASK_INNER)) (n_TO_JSON_MASK_OUTER : ¬ (w_TO_JSON = w_MASK_OUTER)) (n_TO_JSON_MASK_HASH : ¬ (w_TO_JSON = w_MASK_HASH)) (n_FROM_JSON_MASK_NULL : ¬ (w_FROM_JSON = w_MASK_NULL)) (n_FROM_JSON_MASK_DEFAULT : ¬ (w_FROM_JSON = w_MASK_DEFAULT)) (n_FROM_JSON_MASK_REPLACE : ¬ (w_FROM_JSON = w_MASK_REPLACE)) (n_FROM_JSON_MASK_INNER : ¬ (w_FROM_JSON = w_MASK_INNER)) (n_FROM_JSON_MASK_OUTER : ¬ (w_FROM_JSON = w_MASK_OUTER)) (n_FROM_JSON_MASK_HASH : ¬ (w_FROM_JSON = w_MASK_HASH)) (n_TOKEN_MASK_NULL : ¬ (w_TOKEN = w_MASK_NULL)) (n_TOKEN_MASK_DEFAULT : ¬ (w_TOKEN = w_MASK_DEFAULT)) (n_TOKEN_MASK_REPLACE : ¬ (w_TOKEN = w_MASK_REPLACE)) (n_TOKEN_MASK_INNER : ¬ (w_TOKEN = w_MASK_INNER)) (n_TOKEN_MASK_OUTER : ¬ (w_TOKEN = w_MASK_OUTER)) (n_TOKEN_MASK_HASH : ¬ (w_TOKEN = w_MASK_HASH)) (n_MIN_MASK_NULL : ¬ (w_MIN = w_MASK_NULL)) (n_MIN_MASK_DEFAULT : ¬ (w_MIN = w_MASK_DEFAULT)) (n_MIN_MASK_REPLACE : ¬ (w_MIN = w_MASK_REPLACE)) (n_MIN_MASK_INNER : ¬ (w_MIN = w_MASK_INNER)) (n_MIN_MASK_OUTER : ¬ (w_MIN = w_MASK_OUTER)) (n_MIN_MASK_HASH : ¬ (w_MIN = w_MASK_HASH)) (n_MAX_MASK_NULL : ¬ (w_MAX = w_MASK_NULL)) (n_MAX_MASK_DEFAULT : ¬ (w_MAX = w_MASK_DEFAULT)) (n_MAX_MASK_REPLACE : ¬ (w_MAX = w_MASK_REPLACE)) (n_MAX_MASK_INNER : ¬ (w_MAX = w_MASK_INNER)) (n_MAX_MASK_OUTER : ¬ (w_MAX = w_MASK_OUTER)) (n_MAX_MASK_HASH : ¬ (w_MAX = w_MASK_HASH)) (n_MASK_NULL_MASK_DEFAULT : ¬ (w_MASK_NULL = w_MASK_DEFAULT)) (n_MASK_NULL_MASK_REPLACE : ¬ (w_MASK_NULL = w_MASK_REPLACE)) (n_MASK_NULL_MASK_INNER : ¬ (w_MASK_NULL = w_MASK_INNER)) (n_MASK_NULL_MASK_OUTER : ¬ (w_MASK_NULL = w_MASK_OUTER)) (n_MASK_NULL_MASK_HASH : ¬ (w_MASK_NULL = w_MASK_HASH)) (n_MASK_DEFAULT_MASK_NULL : ¬ (w_MASK_DEFAULT = w_MASK_NULL)) (n_MASK_DEFAULT_MASK_REPLACE : ¬ (w_MASK_DEFAULT = w_MASK_REPLACE)) (n_MASK_DEFAULT_MASK_INNER : ¬ (w_MASK_DEFAULT = w_MASK_INNER)) (n_MASK_DEFAULT_MASK_OUTER : ¬ (w_MASK_DEFAULT = w_MASK_OUTER)) (n_MASK_DEFAULT_MASK_HASH : ¬ (w_MASK_DEFAULT = w_MASK_HASH)) (n_MASK_REPLACE_MASK_NULL : ¬ (w_MASK_REPLACE = w_MASK_NULL)) (n_MASK_REPLACE_MASK_DEFAULT : ¬ (w_MASK_REPLACE = w_MASK_DEFAULT)) (n_MASK_REPLACE_MASK_INNER : ¬ (w_MASK_REPLACE = w_MASK_INNER)) (n_MASK_REPLACE_MASK_OUTER : ¬ (w_MASK_REPLACE = w_MASK_OUTER)) (n_MASK_REPLACE_MASK_HASH : ¬ (w_MASK_REPLACE = w_MASK_HASH)) (n_MASK_INNER_MASK_NULL : ¬ (w_MASK_INNER = w_MASK_NULL)) (n_MASK_INNER_MASK_DEFAULT : ¬ (w_MASK_INNER = w_MASK_DEFAULT)) (n_MASK_INNER_MASK_REPLACE : ¬ (w_MASK_INNER = w_MASK_REPLACE)) (n_MASK_INNER_MASK_OUTER : ¬ (w_MASK_INNER = w_MASK_OUTER)) (n_MASK_INNER_MASK_HASH : ¬ (w_MASK_INNER = w_MASK_HASH)) (n_MASK_OUTER_MASK_NULL : ¬ (w_MASK_OUTER = w_MASK_NULL)) (n_MASK_OUTER_MASK_DEFAULT : ¬ (w_MASK_OUTER = w_MASK_DEFAULT)) (n_MASK_OUTER_MASK_REPLACE : ¬ (w_MASK_OUTER = w_MASK_REPLACE)) (n_MASK_OUTER_MASK_INNER : ¬ (w_MASK_OUTER = w_MASK_INNER)) (n_MASK_OUTER_MASK_HASH : ¬ (w_MASK_OUTER = w_MASK_HASH)) (n_MASK_HASH_MASK_NULL : ¬ (w_MASK_HASH = w_MASK_NULL)) (n_MASK_HASH_MASK_DEFAULT : ¬ (w_MASK_HASH = w_MASK_DEFAULT)) (n_MASK_HASH_MASK_REPLACE : ¬ (w_MASK_HASH = w_MASK_REPLACE)) (n_MASK_HASH_MASK_INNER : ¬ (w_MASK_HASH = w_MASK_INNER)) (n_MASK_HASH_MASK_OUTER : ¬ (w_MASK_HASH = w_MASK_OUTER)) (n_COLLECTION_COUNT_MASK_NULL : ¬ (w_COLLECTION_COUNT = w_MASK_NULL)) (n_COLLECTION_COUNT_MASK_DEFAULT : ¬ (w_COLLECTION_COUNT = w_MASK_DEFAULT)) (n_COLLECTION_COUNT_MASK_REPLACE : ¬ (w_COLLECTION_COUNT = w_MASK_REPLACE)) (n_COLLECTION_COUNT_MASK_INNER : ¬ (w_COLLECTION_COUNT = w_MASK_INNER)) (n_COLLECTION_COUNT_MASK_OUTER : ¬ (w_COLLECTION_COUNT = w_MASK_OUTER)) (n_COLLECTION_COUNT_MASK_HASH : ¬ (w_COLLECTION_COUNT = w_MASK_HASH)) (n_COLLECTION_MIN_MASK_NULL : ¬ (w_COLLECTION_MIN = w_MASK_NULL)) (n_COLLECTION_MIN_MASK_DEFAULT : ¬ (w_COLLECTION_MIN = w_MASK_DEFAULT)) (n_COLLECTION_MIN_MASK_REPLACE : ¬ (w_COLLECTION_MIN = w_MASK_REPLACE)) (n_COLLECTION_MIN_MASK_INNER : ¬ (w_COLLECTION_MIN = w_MASK_INNER)) (n_COLLECTION_MIN_MASK_OUTER : ¬ (w_COLLECTION_MIN = w_MASK_OUTER)) (n_COLLECTION_MIN_MASK_HASH : ¬ (w_COLLECTION_MIN = w_MASK_HASH)) (n_COLLECTION_MAX_MASK_NULL : ¬ (w_COLLECTION_MAX = w_MASK_NULL)) (n_COLLECTION_MAX_MASK_DEFAULT : ¬ (w_COLLECTION_MAX = w_MASK_DEFAULT)) (n_COLLECTION_MAX_MASK_REPLACE : ¬ (w_COLLECTION_MAX = w_MASK_REPLACE)) (n_COLLECTION_MAX_MASK_INNER : ¬ (w_COLLECTION_MAX = w_MASK_INNER)) (n_COLLECTION_MAX_MASK_OUTER : ¬ (w_COLLECTION_MAX = w_MASK_OUTER)) (n_COLLECTION_MAX_MASK_HASH : ¬ (w_COLLECTION_MAX = w_MASK_HASH)) (n_COLLECTION_SUM_MASK_NULL : ¬ (w_COLLECTION_SUM = w_MASK_NULL)) (n_COLLECTION_SUM_MASK_DEFAULT : ¬ (w_COLLECTION_SUM = w_MASK_DEFAULT)) (n_COLLECTION_SUM_MASK_REPLACE : ¬ (w_COLLECTION_SUM = w_MASK_REPLACE)) (n_COLLECTION_SUM_MASK_INNER : ¬ (w_COLLECTION_SUM = w_MASK_INNER)) (n_COLLECTION_SUM_MASK_OUTER : ¬ (w_COLLECTION_SUM = w_MASK_OUTER)) (n_COLLECTION_SUM_MASK_HASH : ¬ (w_COLLECTION_SUM = w_MASK_HASH)) (n_COLLECTION_AVG_MASK_NULL : ¬ (w_COLLECTION_AVG = w_MASK_NULL)) (n_COLLECTION_AVG_MASK_DEFAULT : ¬ (w_COLLECTION_AVG = w_MASK_DEFAULT)) (n_COLLECTION_AVG_MASK_REPLACE : ¬ (w_COLLECTION_AVG = w_MASK_REPLACE)) (n_COLLECTION_AVG_MASK_INNER : ¬ (w_COLLECTION_AVG = w_MASK_INNER)) (n_COLLECTION_AVG_MASK_OUTER : ¬ (w_COLLECTION_AVG = w_MASK_OUTER)) (n_COLLECTION_AVG_MASK_HASH : ¬ (w_COLLECTION_AVG = w_MASK_HASH)) (n_MAP_KEYS_MASK_NULL : ¬ (w_MAP_KEYS = w_MASK_NULL)) (n_MAP_KEYS_MASK_DEFAULT : ¬ (w_MAP_KEYS = w_MASK_DEFAULT)) (n_MAP_KEYS_MASK_REPLACE : ¬ (w_MAP_KEYS = w_MASK_REPLACE)) (n_MAP_KEYS_MASK_INNER : ¬ (w_MAP_KEYS = w_MASK_INNER)) (n_MAP_KEYS_MASK_OUTER : ¬ (w_MAP_KEYS = w_MASK_OUTER)) (n_MAP_KEYS_MASK_HASH : ¬ (w_MAP_KEYS = w_MASK_HASH)) (n_MAP_VALUES_MASK_NULL : ¬ (w_MAP_VALUES = w_MASK_NULL)) (n_MAP_VALUES_MASK_DEFAULT : ¬ (w_MAP_VALUES = w_MASK_DEFAULT)) (n_MAP_VALUES_MASK_REPLACE : ¬ (w_MAP_VALUES = w_MASK_REPLACE)) (n_MAP_VALUES_MASK_INNER : ¬ (w_MAP_VALUES = w_MASK_INNER)) (n_MAP_VALUES_MASK_OUTER : ¬ (w_MAP_VALUES = w_MASK_OUTER)) (n_MAP_VALUES_MASK_HASH : ¬ (w_MAP_VALUES = w_MASK_HASH)) (n_SIMILARITY_COSINE_MASK_NULL : ¬ (w_SIMILARITY_COSINE = w_MASK_NULL)) (n_SIMILARITY_COSINE_MASK_DEFAULT : ¬ (w_SIMILARITY_COSINE = w_MASK_DEFAULT)) (n_SIMILARITY_COSINE_MASK_REPLACE : ¬ (w_SIMILARITY_COSINE = w_MASK_REPLACE)) (n_SIMILARITY_COSINE_MASK_INNER : ¬ (w_SIMILARITY_COSINE = w_MASK_INNER)) (n_SIMILARITY_COSINE_MASK_OUTER : ¬ (w_SIMILARITY_COSINE = w_MASK_OUTER)) (n_SIMILARITY_COSINE_MASK_HASH : ¬ (w_SIMILARITY_COSINE = w_MASK_HASH)) (n_SIMILARITY_EUCLIDEAN_MASK_NULL : ¬ (w_SIMILARITY_EUCLIDEAN = w_MASK_NULL)) (n_SIMILARITY_EUCLIDEAN_MASK_DEFAULT : ¬ (w_SIMILARITY_EUCLIDEAN = w_MASK_DEFAULT)) (n_SIMILARITY_EUCLIDEAN_MASK_REPLACE : ¬ (w_SIMILARITY_EUCLIDEAN = w_MASK_REPLACE)) (n_SIMILARITY_EUCLIDEAN_MASK_INNER : ¬ (w_SIMILARITY_EUCLIDEAN = w_MASK_INNER)) (n_SIMILARITY_EUCLIDEAN_MASK_OUTER : ¬ (w_SIMILARITY_EUCLIDEAN = w_MASK_OUTER)) (n_SIMILARITY_EUCLIDEAN_MASK_HASH : ¬ (w_SIMILARITY_EUCLIDEAN = w_MASK_HASH)) (n_SIMILARITY_DOT_PRODUCT_MASK_NULL : ¬ (w_SIMILARITY_DOT_PRODUCT = w_MASK_NULL)) (n_SIMILARITY_DOT_PRODUCT_MASK_DEFAULT : ¬ (w_SIMILARITY_DOT_PRODUCT = w_MASK_DEFAULT)) (n_SIMILARITY_DOT_PRODUCT_MASK_REPLACE : ¬ (w_SIMILARITY_DOT_PRODUCT = w_MASK_REPLACE)) (n_SIMILARITY_DOT_PRODUCT_MASK_INNER : ¬ (w_SIMILARITY_DOT_PRODUCT = w_MASK_INNER)) (n_SIMILARITY_DOT_PRODUCT_MASK_OUTER : ¬ (w_SIMILARITY_DOT_PRODUCT = w_MASK_OUTER)) (n_SIMILARITY_DOT_PRODUCT_MASK_HASH : ¬ (w_SIMILARITY_DOT_PRODUCT = w_MASK_HASH)) :
    ∃ s₂ o, Sp p e below T0 (mkF m 155 #[.val (.int p1), .val (.ref ba), .val (.int zi), .unset] []) s₂ ∧ s₂.status = .running ∧ Ended s₂ below o ∧ ∃ v L, o = .returned v ∧ Q_law Z  n0 v s₂.heap L ∧ FrameEnd s o s₂ L room_1.cells room_1.slots := by
  have pre0 : ∀ t, Sp p e below T0 (mkF m 155 #[.val (.int p1), .val (.ref ba), .val (.int zi), .unset] []) t → Sp p e below T0 (mkF m 155 #[.val (.int p1), .val (.ref ba), .val (.int zi), .unset] []) t := fun t k => k
  rcases hz with hi | hi | hi | hi | hi | hi | hi | hi | hi | hi | hi | hi | hi | hi | hi | hi | hi | hi | hi | hi | hi
  · rw [hi]
    have pre0 : ∀ t, Sp p e below T0 (mkF m 155 #[.val (.int p1), .val (.ref ba), .val (.int (0 : Int32)), .unset] []) t → Sp p e below T0 (mkF m 155 #[.val (.int p1), .val (.ref ba), .val (.int (0 : Int32)), .unset] []) t := fun t k => k
    obtain ⟨clv1, Arv1, qv1, Sv1, Nv1, Hv1, Gv1⟩ := id VA
    have in2 : ¬ ((0 : Int32) < 0 ∨ clv1.slots.size ≤ ((0 : Int32)).toNatClampNeg) := inb_of Sv1 ⟨by decide, by decide⟩
    have atin2 : clv1.slots[((0 : Int32)).toNatClampNeg]? = some (.ref w_TO_JSON) := Has.at Hv1 in2 rfl
    obtain ⟨cqk3, kqk3, qk3a, qk3b, qk3c⟩ := isOf hZ e0 E_TO_JSON
    obtain ⟨_, _, ⟨Tk3, Lk3, kk3, nk3⟩, -, Xk3, ⟨Lck3, hQk3, lk3, yk3, zk3⟩, stk3⟩ := X0.virtualBack hx (y := (⟨"com/example/fionn/fionn/cql/Functions$Generic", "isMask", "()Z"⟩ : MethodName)) (z := (⟨"com/example/fionn/fionn/cql/Functions$Generic", "isMask", "()Z"⟩ : MethodName)) hown (mvT hZ (hw _ (List.mem_of_getElem? (i := 47) rfl))) (mvT hZ (hw _ (List.mem_of_getElem? (i := 48) rfl))) (notFace_of_selects (args := #[]) (mvT hZ (hw _ (List.mem_of_getElem? (i := 50) rfl)))) (mvT hZ (hw _ (List.mem_of_getElem? (i := 50) rfl))) (mvT hZ (hw _ (List.mem_of_getElem? (i := 49) rfl))) (by decide) (backOf (W := 0) (rm_callee l Z a0 hw [] w_TO_JSON w_MASK_NULL w_MASK_DEFAULT w_MASK_REPLACE w_MASK_INNER w_MASK_OUTER w_MASK_HASH (0 : Int32)  h0 n0 Z0 O0 S_MASK_NULL S_MASK_DEFAULT S_MASK_REPLACE S_MASK_INNER S_MASK_OUTER S_MASK_HASH (by simp [n_TO_JSON_MASK_NULL, n_TO_JSON_MASK_DEFAULT, n_TO_JSON_MASK_REPLACE, n_TO_JSON_MASK_INNER, n_TO_JSON_MASK_OUTER, n_TO_JSON_MASK_HASH])) hZ (hw _ (List.mem_of_getElem? (i := 51) rfl)) (hw _ (List.mem_of_getElem? (i := 3) rfl)) (by decide) (by decide)) qk3a qk3c (g := (mkF m 175 #[.val (.int p1), .val (.ref ba), .val (.int (0 : Int32)), .val (.int (0 : Int32))] [(.ref w_TO_JSON)])) rfl (by rw [hml]; rfl) (Steps.refl _) (argsL := []) (rest := []) (lenOf pd___Z rfl) rfl (by show 2 * 0 + _ ≤ _; exact Nat.le_of_eq rfl) (hb hby at_175) (fun _ _ => ⟨rfl, e0, (by decide : 1 + 0 ≤ _), (by decide : 21 + 0 ≤ _)⟩)
    dsimp only [Pt.U, Pt.locs, Pt.cells, Pt.slots] at Xk3 lk3 yk3 zk3 stk3 hQk3
    subst lk3 yk3 zk3
    obtain ⟨rfl, Nk3q, ek3⟩ := hQk3
    have Nk3 := Fr.app N0 Nk3q
    obtain ⟨fs, hlv, hrun, hended, hW, hsame⟩ := Xk3.leave (v := some (.int (1 : Int32))) (fun h => by rw [hret] at h; cases h)
    refine ⟨_, _, pre0 _ ?_, hrun, hended, _, _, rfl, ?_, ⟨_, rfl⟩, hW, hsame.mono (by decide) (by decide)⟩
    · refine XS.iloadN X0.here hx rfl (hb hby at_155) rfl ?_
      show Sp p e below T0 (mkF m 156 #[.val (.int p1), .val (.ref ba), .val (.int (0 : Int32)), .unset] [(.int (0 : Int32))]) _
      refine XS.iconst X0.here hx rfl (hb hby at_156) ?_
      show Sp p e below T0 (mkF m 157 #[.val (.int p1), .val (.ref ba), .val (.int (0 : Int32)), .unset] [(.int (5 : Int32)), (.int (0 : Int32))]) _
      refine XS.icmpYes X0.here hx rfl (pc0 := 157) (pc' := 170) rfl (hb hby at_157) rfl (tlt (by decide : (0 : Int32) < (5 : Int32))).1 (by decide) (by decide) ?_
      show Sp p e below T0 (mkF m 170 #[.val (.int p1), .val (.ref ba), .val (.int (0 : Int32)), .unset] []) _
      refine XS.iconst X0.here hx rfl (hb hby at_170) ?_
      show Sp p e below T0 (mkF m 171 #[.val (.int p1), .val (.ref ba), .val (.int (0 : Int32)), .unset] [(.int (0 : Int32))]) _
      refine XS.istoreN X0.here hx rfl (hb hby at_171) rfl (l' := #[.val (.int p1), .val (.ref ba), .val (.int (0 : Int32)), .val (.int (0 : Int32))]) rfl ?_
      show Sp p e below T0 (mkF m 172 #[.val (.int p1), .val (.ref ba), .val (.int (0 : Int32)), .val (.int (0 : Int32))] []) _
      refine XS.aloadN X0.here hx rfl (hb hby at_172) rfl rfl ?_
      show Sp p e below T0 (mkF m 173 #[.val (.int p1), .val (.ref ba), .val (.int (0 : Int32)), .val (.int (0 : Int32))] [(.ref ba)]) _
      refine XS.iloadN X0.here hx rfl (hb hby at_173) rfl ?_
      show Sp p e below T0 (mkF m 174 #[.val (.int p1), .val (.ref ba), .val (.int (0 : Int32)), .val (.int (0 : Int32))] [(.int (0 : Int32)), (.ref ba)]) _
      refine X0.aaload hx (j := (0 : Int32)) (v := (.ref w_TO_JSON)) (by rw [e0]; exact Arv1.1) (State.isArrayOf_alike hZ.alike Arv1.2.1) rfl Arv1.2.2 in2 atin2 (g := (mkF m 174 #[.val (.int p1), .val (.ref ba), .val (.int (0 : Int32)), .val (.int (0 : Int32))] [(.int (0 : Int32)), (.ref ba)])) rfl rfl (hb hby at_174) _ ?_
      show Sp p e below T0 (mkF m 175 #[.val (.int p1), .val (.ref ba), .val (.int (0 : Int32)), .val (.int (0 : Int32))] [(.ref w_TO_JSON)]) _
      refine stk3.trans ?_
      show Sp p e below Tk3 (mkF m 178 #[.val (.int p1), .val (.ref ba), .val (.int (0 : Int32)), .val (.int (0 : Int32))] [(.int (0 : Int32))]) _
      refine XS.iloadN Xk3.here hx rfl (hb hby at_178) rfl ?_
      show Sp p e below Tk3 (mkF m 179 #[.val (.int p1), .val (.ref ba), .val (.int (0 : Int32)), .val (.int (0 : Int32))] [(.int (0 : Int32)), (.int (0 : Int32))]) _
      refine XS.icmpNo Xk3.here hx rfl (hb hby at_179) rfl (teq (by decide : (0 : Int32) = (0 : Int32))).2 ?_
      show Sp p e below Tk3 (mkF m 182 #[.val (.int p1), .val (.ref ba), .val (.int (0 : Int32)), .val (.int (0 : Int32))] []) _
      refine XS.iconst Xk3.here hx rfl (hb hby at_182) ?_
      show Sp p e below Tk3 (mkF m 183 #[.val (.int p1), .val (.ref ba), .val (.int (0 : Int32)), .val (.int (0 : Int32))] [(.int (1 : Int32))]) _
      refine XS.goto Xk3.here hx rfl (pc0 := 183) (pc' := 187) rfl (hb hby at_183) (by decide) (by decide) ?_
      show Sp p e below Tk3 (mkF m 187 #[.val (.int p1), .val (.ref ba), .val (.int (0 : Int32)), .val (.int (0 : Int32))] [(.int (1 : Int32))]) _
      exact retN Xk3 hx (t := .boolean) hret (by simp) (hb hby at_187) hlv
    · exact ⟨rfl, Nk3⟩
  · rw [hi]
    have pre1 : ∀ t, Sp p e below T0 (mkF m 155 #[.val (.int p1), .val (.ref ba), .val (.int (1 : Int32)), .unset] []) t → Sp p e below T0 (mkF m 155 #[.val (.int p1), .val (.ref ba), .val (.int (1 : Int32)), .unset] []) t := fun t k => k
    obtain ⟨clv4, Arv4, qv4, Sv4, Nv4, Hv4, Gv4⟩ := id VA
    have in5 : ¬ ((1 : Int32) < 0 ∨ clv4.slots.size ≤ ((1 : Int32)).toNatClampNeg) := inb_of Sv4 ⟨by decide, by decide⟩
    have atin5 : clv4.slots[((1 : Int32)).toNatClampNeg]? = some (.ref w_FROM_JSON) := Has.at Hv4 in5 rfl
    obtain ⟨cqk6, kqk6, qk6a, qk6b, qk6c⟩ := isOf hZ e0 E_FROM_JSON
    obtain ⟨_, _, ⟨Tk6, Lk6, kk6, nk6⟩, -, Xk6, ⟨Lck6, hQk6, lk6, yk6, zk6⟩, stk6⟩ := X0.virtualBack hx (y := (⟨"com/example/fionn/fionn/cql/Functions$Generic", "isMask", "()Z"⟩ : MethodName)) (z := (⟨"com/example/fionn/fionn/cql/Functions$Generic", "isMask", "()Z"⟩ : MethodName)) hown (mvT hZ (hw _ (List.mem_of_getElem? (i := 47) rfl))) (mvT hZ (hw _ (List.mem_of_getElem? (i := 48) rfl))) (notFace_of_selects (args := #[]) (mvT hZ (hw _ (List.mem_of_getElem? (i := 50) rfl)))) (mvT hZ (hw _ (List.mem_of_getElem? (i := 50) rfl))) (mvT hZ (hw _ (List.mem_of_getElem? (i := 49) rfl))) (by decide) (backOf (W := 0) (rm_callee l Z a0 hw [] w_FROM_JSON w_MASK_NULL w_MASK_DEFAULT w_MASK_REPLACE w_MASK_INNER w_MASK_OUTER w_MASK_HASH (0 : Int32)  h0 n0 Z0 O0 S_MASK_NULL S_MASK_DEFAULT S_MASK_REPLACE S_MASK_INNER S_MASK_OUTER S_MASK_HASH (by simp [n_FROM_JSON_MASK_NULL, n_FROM_JSON_MASK_DEFAULT, n_FROM_JSON_MASK_REPLACE, n_FROM_JSON_MASK_INNER, n_FROM_JSON_MASK_OUTER, n_FROM_JSON_MASK_HASH])) hZ (hw _ (List.mem_of_getElem? (i := 51) rfl)) (hw _ (List.mem_of_getElem? (i := 3) rfl)) (by decide) (by decide)) qk6a qk6c (g := (mkF m 175 #[.val (.int p1), .val (.ref ba), .val (.int (1 : Int32)), .val (.int (0 : Int32))] [(.ref w_FROM_JSON)])) rfl (by rw [hml]; rfl) (Steps.refl _) (argsL := []) (rest := []) (lenOf pd___Z rfl) rfl (by show 2 * 0 + _ ≤ _; exact Nat.le_of_eq rfl) (hb hby at_175) (fun _ _ => ⟨rfl, e0, (by decide : 1 + 0 ≤ _), (by decide : 21 + 0 ≤ _)⟩)
    dsimp only [Pt.U, Pt.locs, Pt.cells, Pt.slots] at Xk6 lk6 yk6 zk6 stk6 hQk6
    subst lk6 yk6 zk6
    obtain ⟨rfl, Nk6q, ek6⟩ := hQk6
    have Nk6 := Fr.app N0 Nk6q
    obtain ⟨fs, hlv, hrun, hended, hW, hsame⟩ := Xk6.leave (v := some (.int (1 : Int32))) (fun h => by rw [hret] at h; cases h)
    refine ⟨_, _, pre1 _ ?_, hrun, hended, _, _, rfl, ?_, ⟨_, rfl⟩, hW, hsame.mono (by decide) (by decide)⟩
    · refine XS.iloadN X0.here hx rfl (hb hby at_155) rfl ?_
      show Sp p e below T0 (mkF m 156 #[.val (.int p1), .val (.ref ba), .val (.int (1 : Int32)), .unset] [(.int (1 : Int32))]) _
      refine XS.iconst X0.here hx rfl (hb hby at_156) ?_
      show Sp p e below T0 (mkF m 157 #[.val (.int p1), .val (.ref ba), .val (.int (1 : Int32)), .unset] [(.int (5 : Int32)), (.int (1 : Int32))]) _
      refine XS.icmpYes X0.here hx rfl (pc0 := 157) (pc' := 170) rfl (hb hby at_157) rfl (tlt (by decide : (1 : Int32) < (5 : Int32))).1 (by decide) (by decide) ?_
      show Sp p e below T0 (mkF m 170 #[.val (.int p1), .val (.ref ba), .val (.int (1 : Int32)), .unset] []) _
      refine XS.iconst X0.here hx rfl (hb hby at_170) ?_
      show Sp p e below T0 (mkF m 171 #[.val (.int p1), .val (.ref ba), .val (.int (1 : Int32)), .unset] [(.int (0 : Int32))]) _
      refine XS.istoreN X0.here hx rfl (hb hby at_171) rfl (l' := #[.val (.int p1), .val (.ref ba), .val (.int (1 : Int32)), .val (.int (0 : Int32))]) rfl ?_
      show Sp p e below T0 (mkF m 172 #[.val (.int p1), .val (.ref ba), .val (.int (1 : Int32)), .val (.int (0 : Int32))] []) _
      refine XS.aloadN X0.here hx rfl (hb hby at_172) rfl rfl ?_
      show Sp p e below T0 (mkF m 173 #[.val (.int p1), .val (.ref ba), .val (.int (1 : Int32)), .val (.int (0 : Int32))] [(.ref ba)]) _
      refine XS.iloadN X0.here hx rfl (hb hby at_173) rfl ?_
      show Sp p e below T0 (mkF m 174 #[.val (.int p1), .val (.ref ba), .val (.int (1 : Int32)), .val (.int (0 : Int32))] [(.int (1 : Int32)), (.ref ba)]) _
      refine X0.aaload hx (j := (1 : Int32)) (v := (.ref w_FROM_JSON)) (by rw [e0]; exact Arv4.1) (State.isArrayOf_alike hZ.alike Arv4.2.1) rfl Arv4.2.2 in5 atin5 (g := (mkF m 174 #[.val (.int p1), .val (.ref ba), .val (.int (1 : Int32)), .val (.int (0 : Int32))] [(.int (1 : Int32)), (.ref ba)])) rfl rfl (hb hby at_174) _ ?_
      show Sp p e below T0 (mkF m 175 #[.val (.int p1), .val (.ref ba), .val (.int (1 : Int32)), .val (.int (0 : Int32))] [(.ref w_FROM_JSON)]) _
      refine stk6.trans ?_
      show Sp p e below Tk6 (mkF m 178 #[.val (.int p1), .val (.ref ba), .val (.int (1 : Int32)), .val (.int (0 : Int32))] [(.int (0 : Int32))]) _
      refine XS.iloadN Xk6.here hx rfl (hb hby at_178) rfl ?_
      show Sp p e below Tk6 (mkF m 179 #[.val (.int p1), .val (.ref ba), .val (.int (1 : Int32)), .val (.int (0 : Int32))] [(.int (0 : Int32)), (.int (0 : Int32))]) _
      refine XS.icmpNo Xk6.here hx rfl (hb hby at_179) rfl (teq (by decide : (0 : Int32) = (0 : Int32))).2 ?_
      show Sp p e below Tk6 (mkF m 182 #[.val (.int p1), .val (.ref ba), .val (.int (1 : Int32)), .val (.int (0 : Int32))] []) _
      refine XS.iconst Xk6.here hx rfl (hb hby at_182) ?_
      show Sp p e below Tk6 (mkF m 183 #[.val (.int p1), .val (.ref ba), .val (.int (1 : Int32)), .val (.int (0 : Int32))] [(.int (1 : Int32))]) _
      refine XS.goto Xk6.here hx rfl (pc0 := 183) (pc' := 187) rfl (hb hby at_183) (by decide) (by decide) ?_
      show Sp p e below Tk6 (mkF m 187 #[.val (.int p1), .val (.ref ba), .val (.int (1 : Int32)), .val (.int (0 : Int32))] [(.int (1 : Int32))]) _
      exact retN Xk6 hx (t := .boolean) hret (by simp) (hb hby at_187) hlv
    · exact ⟨rfl, Nk6⟩
  · rw [hi]
    have pre2 : ∀ t, Sp p e below T0 (mkF m 155 #[.val (.int p1), .val (.ref ba), .val (.int (2 : Int32)), .unset] []) t → Sp p e below T0 (mkF m 155 #[.val (.int p1), .val (.ref ba), .val (.int (2 : Int32)), .unset] []) t := fun t k => k
    obtain ⟨clv7, Arv7, qv7, Sv7, Nv7, Hv7, Gv7⟩ := id VA
    have in8 : ¬ ((2 : Int32) < 0 ∨ clv7.slots.size ≤ ((2 : Int32)).toNatClampNeg) := inb_of Sv7 ⟨by decide, by decide⟩
    have atin8 : clv7.slots[((2 : Int32)).toNatClampNeg]? = some (.ref w_TOKEN) := Has.at Hv7 in8 rfl
    obtain ⟨cqk9, kqk9, qk9a, qk9b, qk9c⟩ := isOf hZ e0 E_TOKEN
    obtain ⟨_, _, ⟨Tk9, Lk9, kk9, nk9⟩, -, Xk9, ⟨Lck9, hQk9, lk9, yk9, zk9⟩, stk9⟩ := X0.virtualBack hx (y := (⟨"com/example/fionn/fionn/cql/Functions$Generic", "isMask", "()Z"⟩ : MethodName)) (z := (⟨"com/example/fionn/fionn/cql/Functions$Generic", "isMask", "()Z"⟩ : MethodName)) hown (mvT hZ (hw _ (List.mem_of_getElem? (i := 47) rfl))) (mvT hZ (hw _ (List.mem_of_getElem? (i := 48) rfl))) (notFace_of_selects (args := #[]) (mvT hZ (hw _ (List.mem_of_getElem? (i := 50) rfl)))) (mvT hZ (hw _ (List.mem_of_getElem? (i := 50) rfl))) (mvT hZ (hw _ (List.mem_of_getElem? (i := 49) rfl))) (by decide) (backOf (W := 0) (rm_callee l Z a0 hw [] w_TOKEN w_MASK_NULL w_MASK_DEFAULT w_MASK_REPLACE w_MASK_INNER w_MASK_OUTER w_MASK_HASH (0 : Int32)  h0 n0 Z0 O0 S_MASK_NULL S_MASK_DEFAULT S_MASK_REPLACE S_MASK_INNER S_MASK_OUTER S_MASK_HASH (by simp [n_TOKEN_MASK_NULL, n_TOKEN_MASK_DEFAULT, n_TOKEN_MASK_REPLACE, n_TOKEN_MASK_INNER, n_TOKEN_MASK_OUTER, n_TOKEN_MASK_HASH])) hZ (hw _ (List.mem_of_getElem? (i := 51) rfl)) (hw _ (List.mem_of_getElem? (i := 3) rfl)) (by decide) (by decide)) qk9a qk9c (g := (mkF m 175 #[.val (.int p1), .val (.ref ba), .val (.int (2 : Int32)), .val (.int (0 : Int32))] [(.ref w_TOKEN)])) rfl (by rw [hml]; rfl) (Steps.refl _) (argsL := []) (rest := []) (lenOf pd___Z rfl) rfl (by show 2 * 0 + _ ≤ _; exact Nat.le_of_eq rfl) (hb hby at_175) (fun _ _ => ⟨rfl, e0, (by decide : 1 + 0 ≤ _), (by decide : 21 + 0 ≤ _)⟩)
    dsimp only [Pt.U, Pt.locs, Pt.cells, Pt.slots] at Xk9 lk9 yk9 zk9 stk9 hQk9
    subst lk9 yk9 zk9
    obtain ⟨rfl, Nk9q, ek9⟩ := hQk9
    have Nk9 := Fr.app N0 Nk9q
    obtain ⟨fs, hlv, hrun, hended, hW, hsame⟩ := Xk9.leave (v := some (.int (1 : Int32))) (fun h => by rw [hret] at h; cases h)
    refine ⟨_, _, pre2 _ ?_, hrun, hended, _, _, rfl, ?_, ⟨_, rfl⟩, hW, hsame.mono (by decide) (by decide)⟩
    · refine XS.iloadN X0.here hx rfl (hb hby at_155) rfl ?_
      show Sp p e below T0 (mkF m 156 #[.val (.int p1), .val (.ref ba), .val (.int (2 : Int32)), .unset] [(.int (2 : Int32))]) _
      refine XS.iconst X0.here hx rfl (hb hby at_156) ?_
      show Sp p e below T0 (mkF m 157 #[.val (.int p1), .val (.ref ba), .val (.int (2 : Int32)), .unset] [(.int (5 : Int32)), (.int (2 : Int32))]) _
      refine XS.icmpYes X0.here hx rfl (pc0 := 157) (pc' := 170) rfl (hb hby at_157) rfl (tlt (by decide : (2 : Int32) < (5 : Int32))).1 (by decide) (by decide) ?_
      show Sp p e below T0 (mkF m 170 #[.val (.int p1), .val (.ref ba), .val (.int (2 : Int32)), .unset] []) _
      refine XS.iconst X0.here hx rfl (hb hby at_170) ?_
      show Sp p e below T0 (mkF m 171 #[.val (.int p1), .val (.ref ba), .val (.int (2 : Int32)), .unset] [(.int (0 : Int32))]) _
      refine XS.istoreN X0.here hx rfl (hb hby at_171) rfl (l' := #[.val (.int p1), .val (.ref ba), .val (.int (2 : Int32)), .val (.int (0 : Int32))]) rfl ?_
      show Sp p e below T0 (mkF m 172 #[.val (.int p1), .val (.ref ba), .val (.int (2 : Int32)), .val (.int (0 : Int32))] []) _
      refine XS.aloadN X0.here hx rfl (hb hby at_172) rfl rfl ?_
      show Sp p e below T0 (mkF m 173 #[.val (.int p1), .val (.ref ba), .val (.int (2 : Int32)), .val (.int (0 : Int32))] [(.ref ba)]) _
      refine XS.iloadN X0.here hx rfl (hb hby at_173) rfl ?_
      show Sp p e below T0 (mkF m 174 #[.val (.int p1), .val (.ref ba), .val (.int (2 : Int32)), .val (.int (0 : Int32))] [(.int (2 : Int32)), (.ref ba)]) _
      refine X0.aaload hx (j := (2 : Int32)) (v := (.ref w_TOKEN)) (by rw [e0]; exact Arv7.1) (State.isArrayOf_alike hZ.alike Arv7.2.1) rfl Arv7.2.2 in8 atin8 (g := (mkF m 174 #[.val (.int p1), .val (.ref ba), .val (.int (2 : Int32)), .val (.int (0 : Int32))] [(.int (2 : Int32)), (.ref ba)])) rfl rfl (hb hby at_174) _ ?_
      show Sp p e below T0 (mkF m 175 #[.val (.int p1), .val (.ref ba), .val (.int (2 : Int32)), .val (.int (0 : Int32))] [(.ref w_TOKEN)]) _
      refine stk9.trans ?_
      show Sp p e below Tk9 (mkF m 178 #[.val (.int p1), .val (.ref ba), .val (.int (2 : Int32)), .val (.int (0 : Int32))] [(.int (0 : Int32))]) _
      refine XS.iloadN Xk9.here hx rfl (hb hby at_178) rfl ?_
      show Sp p e below Tk9 (mkF m 179 #[.val (.int p1), .val (.ref ba), .val (.int (2 : Int32)), .val (.int (0 : Int32))] [(.int (0 : Int32)), (.int (0 : Int32))]) _
      refine XS.icmpNo Xk9.here hx rfl (hb hby at_179) rfl (teq (by decide : (0 : Int32) = (0 : Int32))).2 ?_
      show Sp p e below Tk9 (mkF m 182 #[.val (.int p1), .val (.ref ba), .val (.int (2 : Int32)), .val (.int (0 : Int32))] []) _
      refine XS.iconst Xk9.here hx rfl (hb hby at_182) ?_
      show Sp p e below Tk9 (mkF m 183 #[.val (.int p1), .val (.ref ba), .val (.int (2 : Int32)), .val (.int (0 : Int32))] [(.int (1 : Int32))]) _
      refine XS.goto Xk9.here hx rfl (pc0 := 183) (pc' := 187) rfl (hb hby at_183) (by decide) (by decide) ?_
      show Sp p e below Tk9 (mkF m 187 #[.val (.int p1), .val (.ref ba), .val (.int (2 : Int32)), .val (.int (0 : Int32))] [(.int (1 : Int32))]) _
      exact retN Xk9 hx (t := .boolean) hret (by simp) (hb hby at_187) hlv
    · exact ⟨rfl, Nk9⟩
  · rw [hi]
    have pre3 : ∀ t, Sp p e below T0 (mkF m 155 #[.val (.int p1), .val (.ref ba), .val (.int (3 : Int32)), .unset] []) t → Sp p e below T0 (mkF m 155 #[.val (.int p1), .val (.ref ba), .val (.int (3 : Int32)), .unset] []) t := fun t k => k
    obtain ⟨clv10, Arv10, qv10, Sv10, Nv10, Hv10, Gv10⟩ := id VA
    have in11 : ¬ ((3 : Int32) < 0 ∨ clv10.slots.size ≤ ((3 : Int32)).toNatClampNeg) := inb_of Sv10 ⟨by decide, by decide⟩
    have atin11 : clv10.slots[((3 : Int32)).toNatClampNeg]? = some (.ref w_MIN) := Has.at Hv10 in11 rfl
    obtain ⟨cqk12, kqk12, qk12a, qk12b, qk12c⟩ := isOf hZ e0 E_MIN
    obtain ⟨_, _, ⟨Tk12, Lk12, kk12, nk12⟩, -, Xk12, ⟨Lck12, hQk12, lk12, yk12, zk12⟩, stk12⟩ := X0.virtualBack hx (y := (⟨"com/example/fionn/fionn/cql/Functions$Generic", "isMask", "()Z"⟩ : MethodName)) (z := (⟨"com/example/fionn/fionn/cql/Functions$Generic", "isMask", "()Z"⟩ : MethodName)) hown (mvT hZ (hw _ (List.mem_of_getElem? (i := 47) rfl))) (mvT hZ (hw _ (List.mem_of_getElem? (i := 48) rfl))) (notFace_of_selects (args := #[]) (mvT hZ (hw _ (List.mem_of_getElem? (i := 50) rfl)))) (mvT hZ (hw _ (List.mem_of_getElem? (i := 50) rfl))) (mvT hZ (hw _ (List.mem_of_getElem? (i := 49) rfl))) (by decide) (backOf (W := 0) (rm_callee l Z a0 hw [] w_MIN w_MASK_NULL w_MASK_DEFAULT w_MASK_REPLACE w_MASK_INNER w_MASK_OUTER w_MASK_HASH (0 : Int32)  h0 n0 Z0 O0 S_MASK_NULL S_MASK_DEFAULT S_MASK_REPLACE S_MASK_INNER S_MASK_OUTER S_MASK_HASH (by simp [n_MIN_MASK_NULL, n_MIN_MASK_DEFAULT, n_MIN_MASK_REPLACE, n_MIN_MASK_INNER, n_MIN_MASK_OUTER, n_MIN_MASK_HASH])) hZ (hw _ (List.mem_of_getElem? (i := 51) rfl)) (hw _ (List.mem_of_getElem? (i := 3) rfl)) (by decide) (by decide)) qk12a qk12c (g := (mkF m 175 #[.val (.int p1), .val (.ref ba), .val (.int (3 : Int32)), .val (.int (0 : Int32))] [(.ref w_MIN)])) rfl (by rw [hml]; rfl) (Steps.refl _) (argsL := []) (rest := []) (lenOf pd___Z rfl) rfl (by show 2 * 0 + _ ≤ _; exact Nat.le_of_eq rfl) (hb hby at_175) (fun _ _ => ⟨rfl, e0, (by decide : 1 + 0 ≤ _), (by decide : 21 + 0 ≤ _)⟩)
    dsimp only [Pt.U, Pt.locs, Pt.cells, Pt.slots] at Xk12 lk12 yk12 zk12 stk12 hQk12
    subst lk12 yk12 zk12
    obtain ⟨rfl, Nk12q, ek12⟩ := hQk12
    have Nk12 := Fr.app N0 Nk12q
    obtain ⟨fs, hlv, hrun, hended, hW, hsame⟩ := Xk12.leave (v := some (.int (1 : Int32))) (fun h => by rw [hret] at h; cases h)
    refine ⟨_, _, pre3 _ ?_, hrun, hended, _, _, rfl, ?_, ⟨_, rfl⟩, hW, hsame.mono (by decide) (by decide)⟩
    · refine XS.iloadN X0.here hx rfl (hb hby at_155) rfl ?_
      show Sp p e below T0 (mkF m 156 #[.val (.int p1), .val (.ref ba), .val (.int (3 : Int32)), .unset] [(.int (3 : Int32))]) _
      refine XS.iconst X0.here hx rfl (hb hby at_156) ?_
      show Sp p e below T0 (mkF m 157 #[.val (.int p1), .val (.ref ba), .val (.int (3 : Int32)), .unset] [(.int (5 : Int32)), (.int (3 : Int32))]) _
      refine XS.icmpYes X0.here hx rfl (pc0 := 157) (pc' := 170) rfl (hb hby at_157) rfl (tlt (by decide : (3 : Int32) < (5 : Int32))).1 (by decide) (by decide) ?_
      show Sp p e below T0 (mkF m 170 #[.val (.int p1), .val (.ref ba), .val (.int (3 : Int32)), .unset] []) _
      refine XS.iconst X0.here hx rfl (hb hby at_170) ?_
      show Sp p e below T0 (mkF m 171 #[.val (.int p1), .val (.ref ba), .val (.int (3 : Int32)), .unset] [(.int (0 : Int32))]) _
      refine XS.istoreN X0.here hx rfl (hb hby at_171) rfl (l' := #[.val (.int p1), .val (.ref ba), .val (.int (3 : Int32)), .val (.int (0 : Int32))]) rfl ?_
      show Sp p e below T0 (mkF m 172 #[.val (.int p1), .val (.ref ba), .val (.int (3 : Int32)), .val (.int (0 : Int32))] []) _
      refine XS.aloadN X0.here hx rfl (hb hby at_172) rfl rfl ?_
      show Sp p e below T0 (mkF m 173 #[.val (.int p1), .val (.ref ba), .val (.int (3 : Int32)), .val (.int (0 : Int32))] [(.ref ba)]) _
      refine XS.iloadN X0.here hx rfl (hb hby at_173) rfl ?_
      show Sp p e below T0 (mkF m 174 #[.val (.int p1), .val (.ref ba), .val (.int (3 : Int32)), .val (.int (0 : Int32))] [(.int (3 : Int32)), (.ref ba)]) _
      refine X0.aaload hx (j := (3 : Int32)) (v := (.ref w_MIN)) (by rw [e0]; exact Arv10.1) (State.isArrayOf_alike hZ.alike Arv10.2.1) rfl Arv10.2.2 in11 atin11 (g := (mkF m 174 #[.val (.int p1), .val (.ref ba), .val (.int (3 : Int32)), .val (.int (0 : Int32))] [(.int (3 : Int32)), (.ref ba)])) rfl rfl (hb hby at_174) _ ?_
      show Sp p e below T0 (mkF m 175 #[.val (.int p1), .val (.ref ba), .val (.int (3 : Int32)), .val (.int (0 : Int32))] [(.ref w_MIN)]) _
      refine stk12.trans ?_
      show Sp p e below Tk12 (mkF m 178 #[.val (.int p1), .val (.ref ba), .val (.int (3 : Int32)), .val (.int (0 : Int32))] [(.int (0 : Int32))]) _
      refine XS.iloadN Xk12.here hx rfl (hb hby at_178) rfl ?_
      show Sp p e below Tk12 (mkF m 179 #[.val (.int p1), .val (.ref ba), .val (.int (3 : Int32)), .val (.int (0 : Int32))] [(.int (0 : Int32)), (.int (0 : Int32))]) _
      refine XS.icmpNo Xk12.here hx rfl (hb hby at_179) rfl (teq (by decide : (0 : Int32) = (0 : Int32))).2 ?_
      show Sp p e below Tk12 (mkF m 182 #[.val (.int p1), .val (.ref ba), .val (.int (3 : Int32)), .val (.int (0 : Int32))] []) _
      refine XS.iconst Xk12.here hx rfl (hb hby at_182) ?_
      show Sp p e below Tk12 (mkF m 183 #[.val (.int p1), .val (.ref ba), .val (.int (3 : Int32)), .val (.int (0 : Int32))] [(.int (1 : Int32))]) _
      refine XS.goto Xk12.here hx rfl (pc0 := 183) (pc' := 187) rfl (hb hby at_183) (by decide) (by decide) ?_
      show Sp p e below Tk12 (mkF m 187 #[.val (.int p1), .val (.ref ba), .val (.int (3 : Int32)), .val (.int (0 : Int32))] [(.int (1 : Int32))]) _
      exact retN Xk12 hx (t := .boolean) hret (by simp) (hb hby at_187) hlv
    · exact ⟨rfl, Nk12⟩
  · rw [hi]
    have pre4 : ∀ t, Sp p e below T0 (mkF m 155 #[.val (.int p1), .val (.ref ba), .val (.int (4 : Int32)), .unset] []) t → Sp p e below T0 (mkF m 155 #[.val (.int p1), .val (.ref ba), .val (.int (4 : Int32)), .unset] []) t := fun t k => k
    obtain ⟨clv13, Arv13, qv13, Sv13, Nv13, Hv13, Gv13⟩ := id VA
    have in14 : ¬ ((4 : Int32) < 0 ∨ clv13.slots.size ≤ ((4 : Int32)).toNatClampNeg) := inb_of Sv13 ⟨by decide, by decide⟩
    have atin14 : clv13.slots[((4 : Int32)).toNatClampNeg]? = some (.ref w_MAX) := Has.at Hv13 in14 rfl
    obtain ⟨cqk15, kqk15, qk15a, qk15b, qk15c⟩ := isOf hZ e0 E_MAX
    obtain ⟨_, _, ⟨Tk15, Lk15, kk15, nk15⟩, -, Xk15, ⟨Lck15, hQk15, lk15, yk15, zk15⟩, stk15⟩ := X0.virtualBack hx (y := (⟨"com/example/fionn/fionn/cql/Functions$Generic", "isMask", "()Z"⟩ : MethodName)) (z := (⟨"com/example/fionn/fionn/cql/Functions$Generic", "isMask", "()Z"⟩ : MethodName)) hown (mvT hZ (hw _ (List.mem_of_getElem? (i := 47) rfl))) (mvT hZ (hw _ (List.mem_of_getElem? (i := 48) rfl))) (notFace_of_selects (args := #[]) (mvT hZ (hw _ (List.mem_of_getElem? (i := 50) rfl)))) (mvT hZ (hw _ (List.mem_of_getElem? (i := 50) rfl))) (mvT hZ (hw _ (List.mem_of_getElem? (i := 49) rfl))) (by decide) (backOf (W := 0) (rm_callee l Z a0 hw [] w_MAX w_MASK_NULL w_MASK_DEFAULT w_MASK_REPLACE w_MASK_INNER w_MASK_OUTER w_MASK_HASH (0 : Int32)  h0 n0 Z0 O0 S_MASK_NULL S_MASK_DEFAULT S_MASK_REPLACE S_MASK_INNER S_MASK_OUTER S_MASK_HASH (by simp [n_MAX_MASK_NULL, n_MAX_MASK_DEFAULT, n_MAX_MASK_REPLACE, n_MAX_MASK_INNER, n_MAX_MASK_OUTER, n_MAX_MASK_HASH])) hZ (hw _ (List.mem_of_getElem? (i := 51) rfl)) (hw _ (List.mem_of_getElem? (i := 3) rfl)) (by decide) (by decide)) qk15a qk15c (g := (mkF m 175 #[.val (.int p1), .val (.ref ba), .val (.int (4 : Int32)), .val (.int (0 : Int32))] [(.ref w_MAX)])) rfl (by rw [hml]; rfl) (Steps.refl _) (argsL := []) (rest := []) (lenOf pd___Z rfl) rfl (by show 2 * 0 + _ ≤ _; exact Nat.le_of_eq rfl) (hb hby at_175) (fun _ _ => ⟨rfl, e0, (by decide : 1 + 0 ≤ _), (by decide : 21 + 0 ≤ _)⟩)
    dsimp only [Pt.U, Pt.locs, Pt.cells, Pt.slots] at Xk15 lk15 yk15 zk15 stk15 hQk15
    subst lk15 yk15 zk15
    obtain ⟨rfl, Nk15q, ek15⟩ := hQk15
    have Nk15 := Fr.app N0 Nk15q
    obtain ⟨fs, hlv, hrun, hended, hW, hsame⟩ := Xk15.leave (v := some (.int (1 : Int32))) (fun h => by rw [hret] at h; cases h)
    refine ⟨_, _, pre4 _ ?_, hrun, hended, _, _, rfl, ?_, ⟨_, rfl⟩, hW, hsame.mono (by decide) (by decide)⟩
    · refine XS.iloadN X0.here hx rfl (hb hby at_155) rfl ?_
      show Sp p e below T0 (mkF m 156 #[.val (.int p1), .val (.ref ba), .val (.int (4 : Int32)), .unset] [(.int (4 : Int32))]) _
      refine XS.iconst X0.here hx rfl (hb hby at_156) ?_
      show Sp p e below T0 (mkF m 157 #[.val (.int p1), .val (.ref ba), .val (.int (4 : Int32)), .unset] [(.int (5 : Int32)), (.int (4 : Int32))]) _
      refine XS.icmpYes X0.here hx rfl (pc0 := 157) (pc' := 170) rfl (hb hby at_157) rfl (tlt (by decide : (4 : Int32) < (5 : Int32))).1 (by decide) (by decide) ?_
      show Sp p e below T0 (mkF m 170 #[.val (.int p1), .val (.ref ba), .val (.int (4 : Int32)), .unset] []) _
      refine XS.iconst X0.here hx rfl (hb hby at_170) ?_
      show Sp p e below T0 (mkF m 171 #[.val (.int p1), .val (.ref ba), .val (.int (4 : Int32)), .unset] [(.int (0 : Int32))]) _
      refine XS.istoreN X0.here hx rfl (hb hby at_171) rfl (l' := #[.val (.int p1), .val (.ref ba), .val (.int (4 : Int32)), .val (.int (0 : Int32))]) rfl ?_
      show Sp p e below T0 (mkF m 172 #[.val (.int p1), .val (.ref ba), .val (.int (4 : Int32)), .val (.int (0 : Int32))] []) _
      refine XS.aloadN X0.here hx rfl (hb hby at_172) rfl rfl ?_
      show Sp p e below T0 (mkF m 173 #[.val (.int p1), .val (.ref ba), .val (.int (4 : Int32)), .val (.int (0 : Int32))] [(.ref ba)]) _
      refine XS.iloadN X0.here hx rfl (hb hby at_173) rfl ?_
      show Sp p e below T0 (mkF m 174 #[.val (.int p1), .val (.ref ba), .val (.int (4 : Int32)), .val (.int (0 : Int32))] [(.int (4 : Int32)), (.ref ba)]) _
      refine X0.aaload hx (j := (4 : Int32)) (v := (.ref w_MAX)) (by rw [e0]; exact Arv13.1) (State.isArrayOf_alike hZ.alike Arv13.2.1) rfl Arv13.2.2 in14 atin14 (g := (mkF m 174 #[.val (.int p1), .val (.ref ba), .val (.int (4 : Int32)), .val (.int (0 : Int32))] [(.int (4 : Int32)), (.ref ba)])) rfl rfl (hb hby at_174) _ ?_
      show Sp p e below T0 (mkF m 175 #[.val (.int p1), .val (.ref ba), .val (.int (4 : Int32)), .val (.int (0 : Int32))] [(.ref w_MAX)]) _
      refine stk15.trans ?_
      show Sp p e below Tk15 (mkF m 178 #[.val (.int p1), .val (.ref ba), .val (.int (4 : Int32)), .val (.int (0 : Int32))] [(.int (0 : Int32))]) _
      refine XS.iloadN Xk15.here hx rfl (hb hby at_178) rfl ?_
      show Sp p e below Tk15 (mkF m 179 #[.val (.int p1), .val (.ref ba), .val (.int (4 : Int32)), .val (.int (0 : Int32))] [(.int (0 : Int32)), (.int (0 : Int32))]) _
      refine XS.icmpNo Xk15.here hx rfl (hb hby at_179) rfl (teq (by decide : (0 : Int32) = (0 : Int32))).2 ?_
      show Sp p e below Tk15 (mkF m 182 #[.val (.int p1), .val (.ref ba), .val (.int (4 : Int32)), .val (.int (0 : Int32))] []) _
      refine XS.iconst Xk15.here hx rfl (hb hby at_182) ?_
      show Sp p e below Tk15 (mkF m 183 #[.val (.int p1), .val (.ref ba), .val (.int (4 : Int32)), .val (.int (0 : Int32))] [(.int (1 : Int32))]) _
      refine XS.goto Xk15.here hx rfl (pc0 := 183) (pc' := 187) rfl (hb hby at_183) (by decide) (by decide) ?_
      show Sp p e below Tk15 (mkF m 187 #[.val (.int p1), .val (.ref ba), .val (.int (4 : Int32)), .val (.int (0 : Int32))] [(.int (1 : Int32))]) _
      exact retN Xk15 hx (t := .boolean) hret (by simp) (hb hby at_187) hlv
    · exact ⟨rfl, Nk15⟩
  · rw [hi]
    have pre5 : ∀ t, Sp p e below T0 (mkF m 155 #[.val (.int p1), .val (.ref ba), .val (.int (5 : Int32)), .unset] []) t → Sp p e below T0 (mkF m 155 #[.val (.int p1), .val (.ref ba), .val (.int (5 : Int32)), .unset] []) t := fun t k => k
    obtain ⟨clv16, Arv16, qv16, Sv16, Nv16, Hv16, Gv16⟩ := id VA
    have in17 : ¬ ((5 : Int32) < 0 ∨ clv16.slots.size ≤ ((5 : Int32)).toNatClampNeg) := inb_of Sv16 ⟨by decide, by decide⟩
    have atin17 : clv16.slots[((5 : Int32)).toNatClampNeg]? = some (.ref w_MASK_NULL) := Has.at Hv16 in17 rfl
    obtain ⟨cqk18, kqk18, qk18a, qk18b, qk18c⟩ := isOf hZ e0 E_MASK_NULL
    obtain ⟨_, _, ⟨Tk18, Lk18, kk18, nk18⟩, -, Xk18, ⟨Lck18, hQk18, lk18, yk18, zk18⟩, stk18⟩ := X0.virtualBack hx (y := (⟨"com/example/fionn/fionn/cql/Functions$Generic", "isMask", "()Z"⟩ : MethodName)) (z := (⟨"com/example/fionn/fionn/cql/Functions$Generic", "isMask", "()Z"⟩ : MethodName)) hown (mvT hZ (hw _ (List.mem_of_getElem? (i := 47) rfl))) (mvT hZ (hw _ (List.mem_of_getElem? (i := 48) rfl))) (notFace_of_selects (args := #[]) (mvT hZ (hw _ (List.mem_of_getElem? (i := 50) rfl)))) (mvT hZ (hw _ (List.mem_of_getElem? (i := 50) rfl))) (mvT hZ (hw _ (List.mem_of_getElem? (i := 49) rfl))) (by decide) (backOf (W := 0) (rm_callee l Z a0 hw [] w_MASK_NULL w_MASK_NULL w_MASK_DEFAULT w_MASK_REPLACE w_MASK_INNER w_MASK_OUTER w_MASK_HASH (1 : Int32)  h0 n0 Z0 O0 S_MASK_NULL S_MASK_DEFAULT S_MASK_REPLACE S_MASK_INNER S_MASK_OUTER S_MASK_HASH (by simp [n_MASK_NULL_MASK_DEFAULT, n_MASK_NULL_MASK_REPLACE, n_MASK_NULL_MASK_INNER, n_MASK_NULL_MASK_OUTER, n_MASK_NULL_MASK_HASH])) hZ (hw _ (List.mem_of_getElem? (i := 51) rfl)) (hw _ (List.mem_of_getElem? (i := 3) rfl)) (by decide) (by decide)) qk18a qk18c (g := (mkF m 175 #[.val (.int p1), .val (.ref ba), .val (.int (5 : Int32)), .val (.int (1 : Int32))] [(.ref w_MASK_NULL)])) rfl (by rw [hml]; rfl) (Steps.refl _) (argsL := []) (rest := []) (lenOf pd___Z rfl) rfl (by show 2 * 0 + _ ≤ _; exact Nat.le_of_eq rfl) (hb hby at_175) (fun _ _ => ⟨rfl, e0, (by decide : 1 + 0 ≤ _), (by decide : 21 + 0 ≤ _)⟩)
    dsimp only [Pt.U, Pt.locs, Pt.cells, Pt.slots] at Xk18 lk18 yk18 zk18 stk18 hQk18
    subst lk18 yk18 zk18
    obtain ⟨rfl, Nk18q, ek18⟩ := hQk18
    have Nk18 := Fr.app N0 Nk18q
    obtain ⟨fs, hlv, hrun, hended, hW, hsame⟩ := Xk18.leave (v := some (.int (1 : Int32))) (fun h => by rw [hret] at h; cases h)
    refine ⟨_, _, pre5 _ ?_, hrun, hended, _, _, rfl, ?_, ⟨_, rfl⟩, hW, hsame.mono (by decide) (by decide)⟩
    · refine XS.iloadN X0.here hx rfl (hb hby at_155) rfl ?_
      show Sp p e below T0 (mkF m 156 #[.val (.int p1), .val (.ref ba), .val (.int (5 : Int32)), .unset] [(.int (5 : Int32))]) _
      refine XS.iconst X0.here hx rfl (hb hby at_156) ?_
      show Sp p e below T0 (mkF m 157 #[.val (.int p1), .val (.ref ba), .val (.int (5 : Int32)), .unset] [(.int (5 : Int32)), (.int (5 : Int32))]) _
      refine XS.icmpNo X0.here hx rfl (hb hby at_157) rfl (flt (by decide : ¬ ((5 : Int32) < (5 : Int32)))).1 ?_
      show Sp p e below T0 (mkF m 160 #[.val (.int p1), .val (.ref ba), .val (.int (5 : Int32)), .unset] []) _
      refine XS.iloadN X0.here hx rfl (hb hby at_160) rfl ?_
      show Sp p e below T0 (mkF m 161 #[.val (.int p1), .val (.ref ba), .val (.int (5 : Int32)), .unset] [(.int (5 : Int32))]) _
      refine XS.bipush X0.here hx rfl (hb hby at_161) ?_
      show Sp p e below T0 (mkF m 163 #[.val (.int p1), .val (.ref ba), .val (.int (5 : Int32)), .unset] [(.int (10 : Int32)), (.int (5 : Int32))]) _
      refine XS.icmpNo X0.here hx rfl (hb hby at_163) rfl (flt (by decide : ¬ ((10 : Int32) < (5 : Int32)))).2.2.1 ?_
      show Sp p e below T0 (mkF m 166 #[.val (.int p1), .val (.ref ba), .val (.int (5 : Int32)), .unset] []) _
      refine XS.iconst X0.here hx rfl (hb hby at_166) ?_
      show Sp p e below T0 (mkF m 167 #[.val (.int p1), .val (.ref ba), .val (.int (5 : Int32)), .unset] [(.int (1 : Int32))]) _
      refine XS.goto X0.here hx rfl (pc0 := 167) (pc' := 171) rfl (hb hby at_167) (by decide) (by decide) ?_
      show Sp p e below T0 (mkF m 171 #[.val (.int p1), .val (.ref ba), .val (.int (5 : Int32)), .unset] [(.int (1 : Int32))]) _
      refine XS.istoreN X0.here hx rfl (hb hby at_171) rfl (l' := #[.val (.int p1), .val (.ref ba), .val (.int (5 : Int32)), .val (.int (1 : Int32))]) rfl ?_
      show Sp p e below T0 (mkF m 172 #[.val (.int p1), .val (.ref ba), .val (.int (5 : Int32)), .val (.int (1 : Int32))] []) _
      refine XS.aloadN X0.here hx rfl (hb hby at_172) rfl rfl ?_
      show Sp p e below T0 (mkF m 173 #[.val (.int p1), .val (.ref ba), .val (.int (5 : Int32)), .val (.int (1 : Int32))] [(.ref ba)]) _
      refine XS.iloadN X0.here hx rfl (hb hby at_173) rfl ?_
      show Sp p e below T0 (mkF m 174 #[.val (.int p1), .val (.ref ba), .val (.int (5 : Int32)), .val (.int (1 : Int32))] [(.int (5 : Int32)), (.ref ba)]) _
      refine X0.aaload hx (j := (5 : Int32)) (v := (.ref w_MASK_NULL)) (by rw [e0]; exact Arv16.1) (State.isArrayOf_alike hZ.alike Arv16.2.1) rfl Arv16.2.2 in17 atin17 (g := (mkF m 174 #[.val (.int p1), .val (.ref ba), .val (.int (5 : Int32)), .val (.int (1 : Int32))] [(.int (5 : Int32)), (.ref ba)])) rfl rfl (hb hby at_174) _ ?_
      show Sp p e below T0 (mkF m 175 #[.val (.int p1), .val (.ref ba), .val (.int (5 : Int32)), .val (.int (1 : Int32))] [(.ref w_MASK_NULL)]) _
      refine stk18.trans ?_
      show Sp p e below Tk18 (mkF m 178 #[.val (.int p1), .val (.ref ba), .val (.int (5 : Int32)), .val (.int (1 : Int32))] [(.int (1 : Int32))]) _
      refine XS.iloadN Xk18.here hx rfl (hb hby at_178) rfl ?_
      show Sp p e below Tk18 (mkF m 179 #[.val (.int p1), .val (.ref ba), .val (.int (5 : Int32)), .val (.int (1 : Int32))] [(.int (1 : Int32)), (.int (1 : Int32))]) _
      refine XS.icmpNo Xk18.here hx rfl (hb hby at_179) rfl (teq (by decide : (1 : Int32) = (1 : Int32))).2 ?_
      show Sp p e below Tk18 (mkF m 182 #[.val (.int p1), .val (.ref ba), .val (.int (5 : Int32)), .val (.int (1 : Int32))] []) _
      refine XS.iconst Xk18.here hx rfl (hb hby at_182) ?_
      show Sp p e below Tk18 (mkF m 183 #[.val (.int p1), .val (.ref ba), .val (.int (5 : Int32)), .val (.int (1 : Int32))] [(.int (1 : Int32))]) _
      refine XS.goto Xk18.here hx rfl (pc0 := 183) (pc' := 187) rfl (hb hby at_183) (by decide) (by decide) ?_
      show Sp p e below Tk18 (mkF m 187 #[.val (.int p1), .val (.ref ba), .val (.int (5 : Int32)), .val (.int (1 : Int32))] [(.int (1 : Int32))]) _
      exact retN Xk18 hx (t := .boolean) hret (by simp) (hb hby at_187) hlv
    · exact ⟨rfl, Nk18⟩
  · rw [hi]
    have pre6 : ∀ t, Sp p e below T0 (mkF m 155 #[.val (.int p1), .val (.ref ba), .val (.int (6 : Int32)), .unset] []) t → Sp p e below T0 (mkF m 155 #[.val (.int p1), .val (.ref ba), .val (.int (6 : Int32)), .unset] []) t := fun t k => k
    obtain ⟨clv19, Arv19, qv19, Sv19, Nv19, Hv19, Gv19⟩ := id VA
    have in20 : ¬ ((6 : Int32) < 0 ∨ clv19.slots.size ≤ ((6 : Int32)).toNatClampNeg) := inb_of Sv19 ⟨by decide, by decide⟩
    have atin20 : clv19.slots[((6 : Int32)).toNatClampNeg]? = some (.ref w_MASK_DEFAULT) := Has.at Hv19 in20 rfl
    obtain ⟨cqk21, kqk21, qk21a, qk21b, qk21c⟩ := isOf hZ e0 E_MASK_DEFAULT
    obtain ⟨_, _, ⟨Tk21, Lk21, kk21, nk21⟩, -, Xk21, ⟨Lck21, hQk21, lk21, yk21, zk21⟩, stk21⟩ := X0.virtualBack hx (y := (⟨"com/example/fionn/fionn/cql/Functions$Generic", "isMask", "()Z"⟩ : MethodName)) (z := (⟨"com/example/fionn/fionn/cql/Functions$Generic", "isMask", "()Z"⟩ : MethodName)) hown (mvT hZ (hw _ (List.mem_of_getElem? (i := 47) rfl))) (mvT hZ (hw _ (List.mem_of_getElem? (i := 48) rfl))) (notFace_of_selects (args := #[]) (mvT hZ (hw _ (List.mem_of_getElem? (i := 50) rfl)))) (mvT hZ (hw _ (List.mem_of_getElem? (i := 50) rfl))) (mvT hZ (hw _ (List.mem_of_getElem? (i := 49) rfl))) (by decide) (backOf (W := 0) (rm_callee l Z a0 hw [] w_MASK_DEFAULT w_MASK_NULL w_MASK_DEFAULT w_MASK_REPLACE w_MASK_INNER w_MASK_OUTER w_MASK_HASH (1 : Int32)  h0 n0 Z0 O0 S_MASK_NULL S_MASK_DEFAULT S_MASK_REPLACE S_MASK_INNER S_MASK_OUTER S_MASK_HASH (by simp [n_MASK_DEFAULT_MASK_NULL, n_MASK_DEFAULT_MASK_REPLACE, n_MASK_DEFAULT_MASK_INNER, n_MASK_DEFAULT_MASK_OUTER, n_MASK_DEFAULT_MASK_HASH])) hZ (hw _ (List.mem_of_getElem? (i := 51) rfl)) (hw _ (List.mem_of_getElem? (i := 3) rfl)) (by decide) (by decide)) qk21a qk21c (g := (mkF m 175 #[.val (.int p1), .val (.ref ba), .val (.int (6 : Int32)), .val (.int (1 : Int32))] [(.ref w_MASK_DEFAULT)])) rfl (by rw [hml]; rfl) (Steps.refl _) (argsL := []) (rest := []) (lenOf pd___Z rfl) rfl (by show 2 * 0 + _ ≤ _; exact Nat.le_of_eq rfl) (hb hby at_175) (fun _ _ => ⟨rfl, e0, (by decide : 1 + 0 ≤ _), (by decide : 21 + 0 ≤ _)⟩)
    dsimp only [Pt.U, Pt.locs, Pt.cells, Pt.slots] at Xk21 lk21 yk21 zk21 stk21 hQk21
    subst lk21 yk21 zk21
    obtain ⟨rfl, Nk21q, ek21⟩ := hQk21
    have Nk21 := Fr.app N0 Nk21q
    obtain ⟨fs, hlv, hrun, hended, hW, hsame⟩ := Xk21.leave (v := some (.int (1 : Int32))) (fun h => by rw [hret] at h; cases h)
    refine ⟨_, _, pre6 _ ?_, hrun, hended, _, _, rfl, ?_, ⟨_, rfl⟩, hW, hsame.mono (by decide) (by decide)⟩
    · refine XS.iloadN X0.here hx rfl (hb hby at_155) rfl ?_
      show Sp p e below T0 (mkF m 156 #[.val (.int p1), .val (.ref ba), .val (.int (6 : Int32)), .unset] [(.int (6 : Int32))]) _
      refine XS.iconst X0.here hx rfl (hb hby at_156) ?_
      show Sp p e below T0 (mkF m 157 #[.val (.int p1), .val (.ref ba), .val (.int (6 : Int32)), .unset] [(.int (5 : Int32)), (.int (6 : Int32))]) _
      refine XS.icmpNo X0.here hx rfl (hb hby at_157) rfl (flt (by decide : ¬ ((6 : Int32) < (5 : Int32)))).1 ?_
      show Sp p e below T0 (mkF m 160 #[.val (.int p1), .val (.ref ba), .val (.int (6 : Int32)), .unset] []) _
      refine XS.iloadN X0.here hx rfl (hb hby at_160) rfl ?_
      show Sp p e below T0 (mkF m 161 #[.val (.int p1), .val (.ref ba), .val (.int (6 : Int32)), .unset] [(.int (6 : Int32))]) _
      refine XS.bipush X0.here hx rfl (hb hby at_161) ?_
      show Sp p e below T0 (mkF m 163 #[.val (.int p1), .val (.ref ba), .val (.int (6 : Int32)), .unset] [(.int (10 : Int32)), (.int (6 : Int32))]) _
      refine XS.icmpNo X0.here hx rfl (hb hby at_163) rfl (flt (by decide : ¬ ((10 : Int32) < (6 : Int32)))).2.2.1 ?_
      show Sp p e below T0 (mkF m 166 #[.val (.int p1), .val (.ref ba), .val (.int (6 : Int32)), .unset] []) _
      refine XS.iconst X0.here hx rfl (hb hby at_166) ?_
      show Sp p e below T0 (mkF m 167 #[.val (.int p1), .val (.ref ba), .val (.int (6 : Int32)), .unset] [(.int (1 : Int32))]) _
      refine XS.goto X0.here hx rfl (pc0 := 167) (pc' := 171) rfl (hb hby at_167) (by decide) (by decide) ?_
      show Sp p e below T0 (mkF m 171 #[.val (.int p1), .val (.ref ba), .val (.int (6 : Int32)), .unset] [(.int (1 : Int32))]) _
      refine XS.istoreN X0.here hx rfl (hb hby at_171) rfl (l' := #[.val (.int p1), .val (.ref ba), .val (.int (6 : Int32)), .val (.int (1 : Int32))]) rfl ?_
      show Sp p e below T0 (mkF m 172 #[.val (.int p1), .val (.ref ba), .val (.int (6 : Int32)), .val (.int (1 : Int32))] []) _
      refine XS.aloadN X0.here hx rfl (hb hby at_172) rfl rfl ?_
      show Sp p e below T0 (mkF m 173 #[.val (.int p1), .val (.ref ba), .val (.int (6 : Int32)), .val (.int (1 : Int32))] [(.ref ba)]) _
      refine XS.iloadN X0.here hx rfl (hb hby at_173) rfl ?_
      show Sp p e below T0 (mkF m 174 #[.val (.int p1), .val (.ref ba), .val (.int (6 : Int32)), .val (.int (1 : Int32))] [(.int (6 : Int32)), (.ref ba)]) _
      refine X0.aaload hx (j := (6 : Int32)) (v := (.ref w_MASK_DEFAULT)) (by rw [e0]; exact Arv19.1) (State.isArrayOf_alike hZ.alike Arv19.2.1) rfl Arv19.2.2 in20 atin20 (g := (mkF m 174 #[.val (.int p1), .val (.ref ba), .val (.int (6 : Int32)), .val (.int (1 : Int32))] [(.int (6 : Int32)), (.ref ba)])) rfl rfl (hb hby at_174) _ ?_
      show Sp p e below T0 (mkF m 175 #[.val (.int p1), .val (.ref ba), .val (.int (6 : Int32)), .val (.int (1 : Int32))] [(.ref w_MASK_DEFAULT)]) _
      refine stk21.trans ?_
      show Sp p e below Tk21 (mkF m 178 #[.val (.int p1), .val (.ref ba), .val (.int (6 : Int32)), .val (.int (1 : Int32))] [(.int (1 : Int32))]) _
      refine XS.iloadN Xk21.here hx rfl (hb hby at_178) rfl ?_
      show Sp p e below Tk21 (mkF m 179 #[.val (.int p1), .val (.ref ba), .val (.int (6 : Int32)), .val (.int (1 : Int32))] [(.int (1 : Int32)), (.int (1 : Int32))]) _
      refine XS.icmpNo Xk21.here hx rfl (hb hby at_179) rfl (teq (by decide : (1 : Int32) = (1 : Int32))).2 ?_
      show Sp p e below Tk21 (mkF m 182 #[.val (.int p1), .val (.ref ba), .val (.int (6 : Int32)), .val (.int (1 : Int32))] []) _
      refine XS.iconst Xk21.here hx rfl (hb hby at_182) ?_
      show Sp p e below Tk21 (mkF m 183 #[.val (.int p1), .val (.ref ba), .val (.int (6 : Int32)), .val (.int (1 : Int32))] [(.int (1 : Int32))]) _
      refine XS.goto Xk21.here hx rfl (pc0 := 183) (pc' := 187) rfl (hb hby at_183) (by decide) (by decide) ?_
      show Sp p e below Tk21 (mkF m 187 #[.val (.int p1), .val (.ref ba), .val (.int (6 : Int32)), .val (.int (1 : Int32))] [(.int (1 : Int32))]) _
      exact retN Xk21 hx (t := .boolean) hret (by simp) (hb hby at_187) hlv
    · exact ⟨rfl, Nk21⟩
  · rw [hi]
    have pre7 : ∀ t, Sp p e below T0 (mkF m 155 #[.val (.int p1), .val (.ref ba), .val (.int (7 : Int32)), .unset] []) t → Sp p e below T0 (mkF m 155 #[.val (.int p1), .val (.ref ba), .val (.int (7 : Int32)), .unset] []) t := fun t k => k
    obtain ⟨clv22, Arv22, qv22, Sv22, Nv22, Hv22, Gv22⟩ := id VA
    have in23 : ¬ ((7 : Int32) < 0 ∨ clv22.slots.size ≤ ((7 : Int32)).toNatClampNeg) := inb_of Sv22 ⟨by decide, by decide⟩
    have atin23 : clv22.slots[((7 : Int32)).toNatClampNeg]? = some (.ref w_MASK_REPLACE) := Has.at Hv22 in23 rfl
    obtain ⟨cqk24, kqk24, qk24a, qk24b, qk24c⟩ := isOf hZ e0 E_MASK_REPLACE
    obtain ⟨_, _, ⟨Tk24, Lk24, kk24, nk24⟩, -, Xk24, ⟨Lck24, hQk24, lk24, yk24, zk24⟩, stk24⟩ := X0.virtualBack hx (y := (⟨"com/example/fionn/fionn/cql/Functions$Generic", "isMask", "()Z"⟩ : MethodName)) (z := (⟨"com/example/fionn/fionn/cql/Functions$Generic", "isMask", "()Z"⟩ : MethodName)) hown (mvT hZ (hw _ (List.mem_of_getElem? (i := 47) rfl))) (mvT hZ (hw _ (List.mem_of_getElem? (i := 48) rfl))) (notFace_of_selects (args := #[]) (mvT hZ (hw _ (List.mem_of_getElem? (i := 50) rfl)))) (mvT hZ (hw _ (List.mem_of_getElem? (i := 50) rfl))) (mvT hZ (hw _ (List.mem_of_getElem? (i := 49) rfl))) (by decide) (backOf (W := 0) (rm_callee l Z a0 hw [] w_MASK_REPLACE w_MASK_NULL w_MASK_DEFAULT w_MASK_REPLACE w_MASK_INNER w_MASK_OUTER w_MASK_HASH (1 : Int32)  h0 n0 Z0 O0 S_MASK_NULL S_MASK_DEFAULT S_MASK_REPLACE S_MASK_INNER S_MASK_OUTER S_MASK_HASH (by simp [n_MASK_REPLACE_MASK_NULL, n_MASK_REPLACE_MASK_DEFAULT, n_MASK_REPLACE_MASK_INNER, n_MASK_REPLACE_MASK_OUTER, n_MASK_REPLACE_MASK_HASH])) hZ (hw _ (List.mem_of_getElem? (i := 51) rfl)) (hw _ (List.mem_of_getElem? (i := 3) rfl)) (by decide) (by decide)) qk24a qk24c (g := (mkF m 175 #[.val (.int p1), .val (.ref ba), .val (.int (7 : Int32)), .val (.int (1 : Int32))] [(.ref w_MASK_REPLACE)])) rfl (by rw [hml]; rfl) (Steps.refl _) (argsL := []) (rest := []) (lenOf pd___Z rfl) rfl (by show 2 * 0 + _ ≤ _; exact Nat.le_of_eq rfl) (hb hby at_175) (fun _ _ => ⟨rfl, e0, (by decide : 1 + 0 ≤ _), (by decide : 21 + 0 ≤ _)⟩)
    dsimp only [Pt.U, Pt.locs, Pt.cells, Pt.slots] at Xk24 lk24 yk24 zk24 stk24 hQk24
    subst lk24 yk24 zk24
    obtain ⟨rfl, Nk24q, ek24⟩ := hQk24
    have Nk24 := Fr.app N0 Nk24q
    obtain ⟨fs, hlv, hrun, hended, hW, hsame⟩ := Xk24.leave (v := some (.int (1 : Int32))) (fun h => by rw [hret] at h; cases h)
    refine ⟨_, _, pre7 _ ?_, hrun, hended, _, _, rfl, ?_, ⟨_, rfl⟩, hW, hsame.mono (by decide) (by decide)⟩
    · refine XS.iloadN X0.here hx rfl (hb hby at_155) rfl ?_
      show Sp p e below T0 (mkF m 156 #[.val (.int p1), .val (.ref ba), .val (.int (7 : Int32)), .unset] [(.int (7 : Int32))]) _
      refine XS.iconst X0.here hx rfl (hb hby at_156) ?_
      show Sp p e below T0 (mkF m 157 #[.val (.int p1), .val (.ref ba), .val (.int (7 : Int32)), .unset] [(.int (5 : Int32)), (.int (7 : Int32))]) _
      refine XS.icmpNo X0.here hx rfl (hb hby at_157) rfl (flt (by decide : ¬ ((7 : Int32) < (5 : Int32)))).1 ?_
      show Sp p e below T0 (mkF m 160 #[.val (.int p1), .val (.ref ba), .val (.int (7 : Int32)), .unset] []) _
      refine XS.iloadN X0.here hx rfl (hb hby at_160) rfl ?_
      show Sp p e below T0 (mkF m 161 #[.val (.int p1), .val (.ref ba), .val (.int (7 : Int32)), .unset] [(.int (7 : Int32))]) _
      refine XS.bipush X0.here hx rfl (hb hby at_161) ?_
      show Sp p e below T0 (mkF m 163 #[.val (.int p1), .val (.ref ba), .val (.int (7 : Int32)), .unset] [(.int (10 : Int32)), (.int (7 : Int32))]) _
      refine XS.icmpNo X0.here hx rfl (hb hby at_163) rfl (flt (by decide : ¬ ((10 : Int32) < (7 : Int32)))).2.2.1 ?_
      show Sp p e below T0 (mkF m 166 #[.val (.int p1), .val (.ref ba), .val (.int (7 : Int32)), .unset] []) _
      refine XS.iconst X0.here hx rfl (hb hby at_166) ?_
      show Sp p e below T0 (mkF m 167 #[.val (.int p1), .val (.ref ba), .val (.int (7 : Int32)), .unset] [(.int (1 : Int32))]) _
      refine XS.goto X0.here hx rfl (pc0 := 167) (pc' := 171) rfl (hb hby at_167) (by decide) (by decide) ?_
      show Sp p e below T0 (mkF m 171 #[.val (.int p1), .val (.ref ba), .val (.int (7 : Int32)), .unset] [(.int (1 : Int32))]) _
      refine XS.istoreN X0.here hx rfl (hb hby at_171) rfl (l' := #[.val (.int p1), .val (.ref ba), .val (.int (7 : Int32)), .val (.int (1 : Int32))]) rfl ?_
      show Sp p e below T0 (mkF m 172 #[.val (.int p1), .val (.ref ba), .val (.int (7 : Int32)), .val (.int (1 : Int32))] []) _
      refine XS.aloadN X0.here hx rfl (hb hby at_172) rfl rfl ?_
      show Sp p e below T0 (mkF m 173 #[.val (.int p1), .val (.ref ba), .val (.int (7 : Int32)), .val (.int (1 : Int32))] [(.ref ba)]) _
      refine XS.iloadN X0.here hx rfl (hb hby at_173) rfl ?_
      show Sp p e below T0 (mkF m 174 #[.val (.int p1), .val (.ref ba), .val (.int (7 : Int32)), .val (.int (1 : Int32))] [(.int (7 : Int32)), (.ref ba)]) _
      refine X0.aaload hx (j := (7 : Int32)) (v := (.ref w_MASK_REPLACE)) (by rw [e0]; exact Arv22.1) (State.isArrayOf_alike hZ.alike Arv22.2.1) rfl Arv22.2.2 in23 atin23 (g := (mkF m 174 #[.val (.int p1), .val (.ref ba), .val (.int (7 : Int32)), .val (.int (1 : Int32))] [(.int (7 : Int32)), (.ref ba)])) rfl rfl (hb hby at_174) _ ?_
      show Sp p e below T0 (mkF m 175 #[.val (.int p1), .val (.ref ba), .val (.int (7 : Int32)), .val (.int (1 : Int32))] [(.ref w_MASK_REPLACE)]) _
      refine stk24.trans ?_
      show Sp p e below Tk24 (mkF m 178 #[.val (.int p1), .val (.ref ba), .val (.int (7 : Int32)), .val (.int (1 : Int32))] [(.int (1 : Int32))]) _
      refine XS.iloadN Xk24.here hx rfl (hb hby at_178) rfl ?_
      show Sp p e below Tk24 (mkF m 179 #[.val (.int p1), .val (.ref ba), .val (.int (7 : Int32)), .val (.int (1 : Int32))] [(.int (1 : Int32)), (.int (1 : Int32))]) _
      refine XS.icmpNo Xk24.here hx rfl (hb hby at_179) rfl (teq (by decide : (1 : Int32) = (1 : Int32))).2 ?_
      show Sp p e below Tk24 (mkF m 182 #[.val (.int p1), .val (.ref ba), .val (.int (7 : Int32)), .val (.int (1 : Int32))] []) _
      refine XS.iconst Xk24.here hx rfl (hb hby at_182) ?_
      show Sp p e below Tk24 (mkF m 183 #[.val (.int p1), .val (.ref ba), .val (.int (7 : Int32)), .val (.int (1 : Int32))] [(.int (1 : Int32))]) _
      refine XS.goto Xk24.here hx rfl (pc0 := 183) (pc' := 187) rfl (hb hby at_183) (by decide) (by decide) ?_
      show Sp p e below Tk24 (mkF m 187 #[.val (.int p1), .val (.ref ba), .val (.int (7 : Int32)), .val (.int (1 : Int32))] [(.int (1 : Int32))]) _
      exact retN Xk24 hx (t := .boolean) hret (by simp) (hb hby at_187) hlv
    · exact ⟨rfl, Nk24⟩
  · rw [hi]
    have pre8 : ∀ t, Sp p e below T0 (mkF m 155 #[.val (.int p1), .val (.ref ba), .val (.int (8 : Int32)), .unset] []) t → Sp p e below T0 (mkF m 155 #[.val (.int p1), .val (.ref ba), .val (.int (8 : Int32)), .unset] []) t := fun t k => k
    obtain ⟨clv25, Arv25, qv25, Sv25, Nv25, Hv25, Gv25⟩ := id VA
    have in26 : ¬ ((8 : Int32) < 0 ∨ clv25.slots.size ≤ ((8 : Int32)).toNatClampNeg) := inb_of Sv25 ⟨by decide, by decide⟩
    have atin26 : clv25.slots[((8 : Int32)).toNatClampNeg]? = some (.ref w_MASK_INNER) := Has.at Hv25 in26 rfl
    obtain ⟨cqk27, kqk27, qk27a, qk27b, qk27c⟩ := isOf hZ e0 E_MASK_INNER
    obtain ⟨_, _, ⟨Tk27, Lk27, kk27, nk27⟩, -, Xk27, ⟨Lck27, hQk27, lk27, yk27, zk27⟩, stk27⟩ := X0.virtualBack hx (y := (⟨"com/example/fionn/fionn/cql/Functions$Generic", "isMask", "()Z"⟩ : MethodName)) (z := (⟨"com/example/fionn/fionn/cql/Functions$Generic", "isMask", "()Z"⟩ : MethodName)) hown (mvT hZ (hw _ (List.mem_of_getElem? (i := 47) rfl))) (mvT hZ (hw _ (List.mem_of_getElem? (i := 48) rfl))) (notFace_of_selects (args := #[]) (mvT hZ (hw _ (List.mem_of_getElem? (i := 50) rfl)))) (mvT hZ (hw _ (List.mem_of_getElem? (i := 50) rfl))) (mvT hZ (hw _ (List.mem_of_getElem? (i := 49) rfl))) (by decide) (backOf (W := 0) (rm_callee l Z a0 hw [] w_MASK_INNER w_MASK_NULL w_MASK_DEFAULT w_MASK_REPLACE w_MASK_INNER w_MASK_OUTER w_MASK_HASH (1 : Int32)  h0 n0 Z0 O0 S_MASK_NULL S_MASK_DEFAULT S_MASK_REPLACE S_MASK_INNER S_MASK_OUTER S_MASK_HASH (by simp [n_MASK_INNER_MASK_NULL, n_MASK_INNER_MASK_DEFAULT, n_MASK_INNER_MASK_REPLACE, n_MASK_INNER_MASK_OUTER, n_MASK_INNER_MASK_HASH])) hZ (hw _ (List.mem_of_getElem? (i := 51) rfl)) (hw _ (List.mem_of_getElem? (i := 3) rfl)) (by decide) (by decide)) qk27a qk27c (g := (mkF m 175 #[.val (.int p1), .val (.ref ba), .val (.int (8 : Int32)), .val (.int (1 : Int32))] [(.ref w_MASK_INNER)])) rfl (by rw [hml]; rfl) (Steps.refl _) (argsL := []) (rest := []) (lenOf pd___Z rfl) rfl (by show 2 * 0 + _ ≤ _; exact Nat.le_of_eq rfl) (hb hby at_175) (fun _ _ => ⟨rfl, e0, (by decide : 1 + 0 ≤ _), (by decide : 21 + 0 ≤ _)⟩)
    dsimp only [Pt.U, Pt.locs, Pt.cells, Pt.slots] at Xk27 lk27 yk27 zk27 stk27 hQk27
    subst lk27 yk27 zk27
    obtain ⟨rfl, Nk27q, ek27⟩ := hQk27
    have Nk27 := Fr.app N0 Nk27q
    obtain ⟨fs, hlv, hrun, hended, hW, hsame⟩ := Xk27.leave (v := some (.int (1 : Int32))) (fun h => by rw [hret] at h; cases h)
    refine ⟨_, _, pre8 _ ?_, hrun, hended, _, _, rfl, ?_, ⟨_, rfl⟩, hW, hsame.mono (by decide) (by decide)⟩
    · refine XS.iloadN X0.here hx rfl (hb hby at_155) rfl ?_
      show Sp p e below T0 (mkF m 156 #[.val (.int p1), .val (.ref ba), .val (.int (8 : Int32)), .unset] [(.int (8 : Int32))]) _
      refine XS.iconst X0.here hx rfl (hb hby at_156) ?_
      show Sp p e below T0 (mkF m 157 #[.val (.int p1), .val (.ref ba), .val (.int (8 : Int32)), .unset] [(.int (5 : Int32)), (.int (8 : Int32))]) _
      refine XS.icmpNo X0.here hx rfl (hb hby at_157) rfl (flt (by decide : ¬ ((8 : Int32) < (5 : Int32)))).1 ?_
      show Sp p e below T0 (mkF m 160 #[.val (.int p1), .val (.ref ba), .val (.int (8 : Int32)), .unset] []) _
      refine XS.iloadN X0.here hx rfl (hb hby at_160) rfl ?_
      show Sp p e below T0 (mkF m 161 #[.val (.int p1), .val (.ref ba), .val (.int (8 : Int32)), .unset] [(.int (8 : Int32))]) _
      refine XS.bipush X0.here hx rfl (hb hby at_161) ?_
      show Sp p e below T0 (mkF m 163 #[.val (.int p1), .val (.ref ba), .val (.int (8 : Int32)), .unset] [(.int (10 : Int32)), (.int (8 : Int32))]) _
      refine XS.icmpNo X0.here hx rfl (hb hby at_163) rfl (flt (by decide : ¬ ((10 : Int32) < (8 : Int32)))).2.2.1 ?_
      show Sp p e below T0 (mkF m 166 #[.val (.int p1), .val (.ref ba), .val (.int (8 : Int32)), .unset] []) _
      refine XS.iconst X0.here hx rfl (hb hby at_166) ?_
      show Sp p e below T0 (mkF m 167 #[.val (.int p1), .val (.ref ba), .val (.int (8 : Int32)), .unset] [(.int (1 : Int32))]) _
      refine XS.goto X0.here hx rfl (pc0 := 167) (pc' := 171) rfl (hb hby at_167) (by decide) (by decide) ?_
      show Sp p e below T0 (mkF m 171 #[.val (.int p1), .val (.ref ba), .val (.int (8 : Int32)), .unset] [(.int (1 : Int32))]) _
      refine XS.istoreN X0.here hx rfl (hb hby at_171) rfl (l' := #[.val (.int p1), .val (.ref ba), .val (.int (8 : Int32)), .val (.int (1 : Int32))]) rfl ?_
      show Sp p e below T0 (mkF m 172 #[.val (.int p1), .val (.ref ba), .val (.int (8 : Int32)), .val (.int (1 : Int32))] []) _
      refine XS.aloadN X0.here hx rfl (hb hby at_172) rfl rfl ?_
      show Sp p e below T0 (mkF m 173 #[.val (.int p1), .val (.ref ba), .val (.int (8 : Int32)), .val (.int (1 : Int32))] [(.ref ba)]) _
      refine XS.iloadN X0.here hx rfl (hb hby at_173) rfl ?_
      show Sp p e below T0 (mkF m 174 #[.val (.int p1), .val (.ref ba), .val (.int (8 : Int32)), .val (.int (1 : Int32))] [(.int (8 : Int32)), (.ref ba)]) _
      refine X0.aaload hx (j := (8 : Int32)) (v := (.ref w_MASK_INNER)) (by rw [e0]; exact Arv25.1) (State.isArrayOf_alike hZ.alike Arv25.2.1) rfl Arv25.2.2 in26 atin26 (g := (mkF m 174 #[.val (.int p1), .val (.ref ba), .val (.int (8 : Int32)), .val (.int (1 : Int32))] [(.int (8 : Int32)), (.ref ba)])) rfl rfl (hb hby at_174) _ ?_
      show Sp p e below T0 (mkF m 175 #[.val (.int p1), .val (.ref ba), .val (.int (8 : Int32)), .val (.int (1 : Int32))] [(.ref w_MASK_INNER)]) _
      refine stk27.trans ?_
      show Sp p e below Tk27 (mkF m 178 #[.val (.int p1), .val (.ref ba), .val (.int (8 : Int32)), .val (.int (1 : Int32))] [(.int (1 : Int32))]) _
      refine XS.iloadN Xk27.here hx rfl (hb hby at_178) rfl ?_
      show Sp p e below Tk27 (mkF m 179 #[.val (.int p1), .val (.ref ba), .val (.int (8 : Int32)), .val (.int (1 : Int32))] [(.int (1 : Int32)), (.int (1 : Int32))]) _
      refine XS.icmpNo Xk27.here hx rfl (hb hby at_179) rfl (teq (by decide : (1 : Int32) = (1 : Int32))).2 ?_
      show Sp p e below Tk27 (mkF m 182 #[.val (.int p1), .val (.ref ba), .val (.int (8 : Int32)), .val (.int (1 : Int32))] []) _
      refine XS.iconst Xk27.here hx rfl (hb hby at_182) ?_
      show Sp p e below Tk27 (mkF m 183 #[.val (.int p1), .val (.ref ba), .val (.int (8 : Int32)), .val (.int (1 : Int32))] [(.int (1 : Int32))]) _
      refine XS.goto Xk27.here hx rfl (pc0 := 183) (pc' := 187) rfl (hb hby at_183) (by decide) (by decide) ?_
      show Sp p e below Tk27 (mkF m 187 #[.val (.int p1), .val (.ref ba), .val (.int (8 : Int32)), .val (.int (1 : Int32))] [(.int (1 : Int32))]) _
      exact retN Xk27 hx (t := .boolean) hret (by simp) (hb hby at_187) hlv
    · exact ⟨rfl, Nk27⟩
  · rw [hi]
    have pre9 : ∀ t, Sp p e below T0 (mkF m 155 #[.val (.int p1), .val (.ref ba), .val (.int (9 : Int32)), .unset] []) t → Sp p e below T0 (mkF m 155 #[.val (.int p1), .val (.ref ba), .val (.int (9 : Int32)), .unset] []) t := fun t k => k
    obtain ⟨clv28, Arv28, qv28, Sv28, Nv28, Hv28, Gv28⟩ := id VA
    have in29 : ¬ ((9 : Int32) < 0 ∨ clv28.slots.size ≤ ((9 : Int32)).toNatClampNeg) := inb_of Sv28 ⟨by decide, by decide⟩
    have atin29 : clv28.slots[((9 : Int32)).toNatClampNeg]? = some (.ref w_MASK_OUTER) := Has.at Hv28 in29 rfl
    obtain ⟨cqk30, kqk30, qk30a, qk30b, qk30c⟩ := isOf hZ e0 E_MASK_OUTER
    obtain ⟨_, _, ⟨Tk30, Lk30, kk30, nk30⟩, -, Xk30, ⟨Lck30, hQk30, lk30, yk30, zk30⟩, stk30⟩ := X0.virtualBack hx (y := (⟨"com/example/fionn/fionn/cql/Functions$Generic", "isMask", "()Z"⟩ : MethodName)) (z := (⟨"com/example/fionn/fionn/cql/Functions$Generic", "isMask", "()Z"⟩ : MethodName)) hown (mvT hZ (hw _ (List.mem_of_getElem? (i := 47) rfl))) (mvT hZ (hw _ (List.mem_of_getElem? (i := 48) rfl))) (notFace_of_selects (args := #[]) (mvT hZ (hw _ (List.mem_of_getElem? (i := 50) rfl)))) (mvT hZ (hw _ (List.mem_of_getElem? (i := 50) rfl))) (mvT hZ (hw _ (List.mem_of_getElem? (i := 49) rfl))) (by decide) (backOf (W := 0) (rm_callee l Z a0 hw [] w_MASK_OUTER w_MASK_NULL w_MASK_DEFAULT w_MASK_REPLACE w_MASK_INNER w_MASK_OUTER w_MASK_HASH (1 : Int32)  h0 n0 Z0 O0 S_MASK_NULL S_MASK_DEFAULT S_MASK_REPLACE S_MASK_INNER S_MASK_OUTER S_MASK_HASH (by simp [n_MASK_OUTER_MASK_NULL, n_MASK_OUTER_MASK_DEFAULT, n_MASK_OUTER_MASK_REPLACE, n_MASK_OUTER_MASK_INNER, n_MASK_OUTER_MASK_HASH])) hZ (hw _ (List.mem_of_getElem? (i := 51) rfl)) (hw _ (List.mem_of_getElem? (i := 3) rfl)) (by decide) (by decide)) qk30a qk30c (g := (mkF m 175 #[.val (.int p1), .val (.ref ba), .val (.int (9 : Int32)), .val (.int (1 : Int32))] [(.ref w_MASK_OUTER)])) rfl (by rw [hml]; rfl) (Steps.refl _) (argsL := []) (rest := []) (lenOf pd___Z rfl) rfl (by show 2 * 0 + _ ≤ _; exact Nat.le_of_eq rfl) (hb hby at_175) (fun _ _ => ⟨rfl, e0, (by decide : 1 + 0 ≤ _), (by decide : 21 + 0 ≤ _)⟩)
    dsimp only [Pt.U, Pt.locs, Pt.cells, Pt.slots] at Xk30 lk30 yk30 zk30 stk30 hQk30
    subst lk30 yk30 zk30
    obtain ⟨rfl, Nk30q, ek30⟩ := hQk30
    have Nk30 := Fr.app N0 Nk30q
    obtain ⟨fs, hlv, hrun, hended, hW, hsame⟩ := Xk30.leave (v := some (.int (1 : Int32))) (fun h => by rw [hret] at h; cases h)
    refine ⟨_, _, pre9 _ ?_, hrun, hended, _, _, rfl, ?_, ⟨_, rfl⟩, hW, hsame.mono (by decide) (by decide)⟩
    · refine XS.iloadN X0.here hx rfl (hb hby at_155) rfl ?_
      show Sp p e below T0 (mkF m 156 #[.val (.int p1), .val (.ref ba), .val (.int (9 : Int32)), .unset] [(.int (9 : Int32))]) _
      refine XS.iconst X0.here hx rfl (hb hby at_156) ?_
      show Sp p e below T0 (mkF m 157 #[.val (.int p1), .val (.ref ba), .val (.int (9 : Int32)), .unset] [(.int (5 : Int32)), (.int (9 : Int32))]) _
      refine XS.icmpNo X0.here hx rfl (hb hby at_157) rfl (flt (by decide : ¬ ((9 : Int32) < (5 : Int32)))).1 ?_
      show Sp p e below T0 (mkF m 160 #[.val (.int p1), .val (.ref ba), .val (.int (9 : Int32)), .unset] []) _
      refine XS.iloadN X0.here hx rfl (hb hby at_160) rfl ?_
      show Sp p e below T0 (mkF m 161 #[.val (.int p1), .val (.ref ba), .val (.int (9 : Int32)), .unset] [(.int (9 : Int32))]) _
      refine XS.bipush X0.here hx rfl (hb hby at_161) ?_
      show Sp p e below T0 (mkF m 163 #[.val (.int p1), .val (.ref ba), .val (.int (9 : Int32)), .unset] [(.int (10 : Int32)), (.int (9 : Int32))]) _
      refine XS.icmpNo X0.here hx rfl (hb hby at_163) rfl (flt (by decide : ¬ ((10 : Int32) < (9 : Int32)))).2.2.1 ?_
      show Sp p e below T0 (mkF m 166 #[.val (.int p1), .val (.ref ba), .val (.int (9 : Int32)), .unset] []) _
      refine XS.iconst X0.here hx rfl (hb hby at_166) ?_
      show Sp p e below T0 (mkF m 167 #[.val (.int p1), .val (.ref ba), .val (.int (9 : Int32)), .unset] [(.int (1 : Int32))]) _
      refine XS.goto X0.here hx rfl (pc0 := 167) (pc' := 171) rfl (hb hby at_167) (by decide) (by decide) ?_
      show Sp p e below T0 (mkF m 171 #[.val (.int p1), .val (.ref ba), .val (.int (9 : Int32)), .unset] [(.int (1 : Int32))]) _
      refine XS.istoreN X0.here hx rfl (hb hby at_171) rfl (l' := #[.val (.int p1), .val (.ref ba), .val (.int (9 : Int32)), .val (.int (1 : Int32))]) rfl ?_
      show Sp p e below T0 (mkF m 172 #[.val (.int p1), .val (.ref ba), .val (.int (9 : Int32)), .val (.int (1 : Int32))] []) _
      refine XS.aloadN X0.here hx rfl (hb hby at_172) rfl rfl ?_
      show Sp p e below T0 (mkF m 173 #[.val (.int p1), .val (.ref ba), .val (.int (9 : Int32)), .val (.int (1 : Int32))] [(.ref ba)]) _
      refine XS.iloadN X0.here hx rfl (hb hby at_173) rfl ?_
      show Sp p e below T0 (mkF m 174 #[.val (.int p1), .val (.ref ba), .val (.int (9 : Int32)), .val (.int (1 : Int32))] [(.int (9 : Int32)), (.ref ba)]) _
      refine X0.aaload hx (j := (9 : Int32)) (v := (.ref w_MASK_OUTER)) (by rw [e0]; exact Arv28.1) (State.isArrayOf_alike hZ.alike Arv28.2.1) rfl Arv28.2.2 in29 atin29 (g := (mkF m 174 #[.val (.int p1), .val (.ref ba), .val (.int (9 : Int32)), .val (.int (1 : Int32))] [(.int (9 : Int32)), (.ref ba)])) rfl rfl (hb hby at_174) _ ?_
      show Sp p e below T0 (mkF m 175 #[.val (.int p1), .val (.ref ba), .val (.int (9 : Int32)), .val (.int (1 : Int32))] [(.ref w_MASK_OUTER)]) _
      refine stk30.trans ?_
      show Sp p e below Tk30 (mkF m 178 #[.val (.int p1), .val (.ref ba), .val (.int (9 : Int32)), .val (.int (1 : Int32))] [(.int (1 : Int32))]) _
      refine XS.iloadN Xk30.here hx rfl (hb hby at_178) rfl ?_
      show Sp p e below Tk30 (mkF m 179 #[.val (.int p1), .val (.ref ba), .val (.int (9 : Int32)), .val (.int (1 : Int32))] [(.int (1 : Int32)), (.int (1 : Int32))]) _
      refine XS.icmpNo Xk30.here hx rfl (hb hby at_179) rfl (teq (by decide : (1 : Int32) = (1 : Int32))).2 ?_
      show Sp p e below Tk30 (mkF m 182 #[.val (.int p1), .val (.ref ba), .val (.int (9 : Int32)), .val (.int (1 : Int32))] []) _
      refine XS.iconst Xk30.here hx rfl (hb hby at_182) ?_
      show Sp p e below Tk30 (mkF m 183 #[.val (.int p1), .val (.ref ba), .val (.int (9 : Int32)), .val (.int (1 : Int32))] [(.int (1 : Int32))]) _
      refine XS.goto Xk30.here hx rfl (pc0 := 183) (pc' := 187) rfl (hb hby at_183) (by decide) (by decide) ?_
      show Sp p e below Tk30 (mkF m 187 #[.val (.int p1), .val (.ref ba), .val (.int (9 : Int32)), .val (.int (1 : Int32))] [(.int (1 : Int32))]) _
      exact retN Xk30 hx (t := .boolean) hret (by simp) (hb hby at_187) hlv
    · exact ⟨rfl, Nk30⟩
  · rw [hi]
    have pre10 : ∀ t, Sp p e below T0 (mkF m 155 #[.val (.int p1), .val (.ref ba), .val (.int (10 : Int32)), .unset] []) t → Sp p e below T0 (mkF m 155 #[.val (.int p1), .val (.ref ba), .val (.int (10 : Int32)), .unset] []) t := fun t k => k
    obtain ⟨clv31, Arv31, qv31, Sv31, Nv31, Hv31, Gv31⟩ := id VA
    have in32 : ¬ ((10 : Int32) < 0 ∨ clv31.slots.size ≤ ((10 : Int32)).toNatClampNeg) := inb_of Sv31 ⟨by decide, by decide⟩
    have atin32 : clv31.slots[((10 : Int32)).toNatClampNeg]? = some (.ref w_MASK_HASH) := Has.at Hv31 in32 rfl
    obtain ⟨cqk33, kqk33, qk33a, qk33b, qk33c⟩ := isOf hZ e0 E_MASK_HASH
    obtain ⟨_, _, ⟨Tk33, Lk33, kk33, nk33⟩, -, Xk33, ⟨Lck33, hQk33, lk33, yk33, zk33⟩, stk33⟩ := X0.virtualBack hx (y := (⟨"com/example/fionn/fionn/cql/Functions$Generic", "isMask", "()Z"⟩ : MethodName)) (z := (⟨"com/example/fionn/fionn/cql/Functions$Generic", "isMask", "()Z"⟩ : MethodName)) hown (mvT hZ (hw _ (List.mem_of_getElem? (i := 47) rfl))) (mvT hZ (hw _ (List.mem_of_getElem? (i := 48) rfl))) (notFace_of_selects (args := #[]) (mvT hZ (hw _ (List.mem_of_getElem? (i := 50) rfl)))) (mvT hZ (hw _ (List.mem_of_getElem? (i := 50) rfl))) (mvT hZ (hw _ (List.mem_of_getElem? (i := 49) rfl))) (by decide) (backOf (W := 0) (rm_callee l Z a0 hw [] w_MASK_HASH w_MASK_NULL w_MASK_DEFAULT w_MASK_REPLACE w_MASK_INNER w_MASK_OUTER w_MASK_HASH (1 : Int32)  h0 n0 Z0 O0 S_MASK_NULL S_MASK_DEFAULT S_MASK_REPLACE S_MASK_INNER S_MASK_OUTER S_MASK_HASH (by simp [n_MASK_HASH_MASK_NULL, n_MASK_HASH_MASK_DEFAULT, n_MASK_HASH_MASK_REPLACE, n_MASK_HASH_MASK_INNER, n_MASK_HASH_MASK_OUTER])) hZ (hw _ (List.mem_of_getElem? (i := 51) rfl)) (hw _ (List.mem_of_getElem? (i := 3) rfl)) (by decide) (by decide)) qk33a qk33c (g := (mkF m 175 #[.val (.int p1), .val (.ref ba), .val (.int (10 : Int32)), .val (.int (1 : Int32))] [(.ref w_MASK_HASH)])) rfl (by rw [hml]; rfl) (Steps.refl _) (argsL := []) (rest := []) (lenOf pd___Z rfl) rfl (by show 2 * 0 + _ ≤ _; exact Nat.le_of_eq rfl) (hb hby at_175) (fun _ _ => ⟨rfl, e0, (by decide : 1 + 0 ≤ _), (by decide : 21 + 0 ≤ _)⟩)
    dsimp only [Pt.U, Pt.locs, Pt.cells, Pt.slots] at Xk33 lk33 yk33 zk33 stk33 hQk33
    subst lk33 yk33 zk33
    obtain ⟨rfl, Nk33q, ek33⟩ := hQk33
    have Nk33 := Fr.app N0 Nk33q
    obtain ⟨fs, hlv, hrun, hended, hW, hsame⟩ := Xk33.leave (v := some (.int (1 : Int32))) (fun h => by rw [hret] at h; cases h)
    refine ⟨_, _, pre10 _ ?_, hrun, hended, _, _, rfl, ?_, ⟨_, rfl⟩, hW, hsame.mono (by decide) (by decide)⟩
    · refine XS.iloadN X0.here hx rfl (hb hby at_155) rfl ?_
      show Sp p e below T0 (mkF m 156 #[.val (.int p1), .val (.ref ba), .val (.int (10 : Int32)), .unset] [(.int (10 : Int32))]) _
      refine XS.iconst X0.here hx rfl (hb hby at_156) ?_
      show Sp p e below T0 (mkF m 157 #[.val (.int p1), .val (.ref ba), .val (.int (10 : Int32)), .unset] [(.int (5 : Int32)), (.int (10 : Int32))]) _
      refine XS.icmpNo X0.here hx rfl (hb hby at_157) rfl (flt (by decide : ¬ ((10 : Int32) < (5 : Int32)))).1 ?_
      show Sp p e below T0 (mkF m 160 #[.val (.int p1), .val (.ref ba), .val (.int (10 : Int32)), .unset] []) _
      refine XS.iloadN X0.here hx rfl (hb hby at_160) rfl ?_
      show Sp p e below T0 (mkF m 161 #[.val (.int p1), .val (.ref ba), .val (.int (10 : Int32)), .unset] [(.int (10 : Int32))]) _
      refine XS.bipush X0.here hx rfl (hb hby at_161) ?_
      show Sp p e below T0 (mkF m 163 #[.val (.int p1), .val (.ref ba), .val (.int (10 : Int32)), .unset] [(.int (10 : Int32)), (.int (10 : Int32))]) _
      refine XS.icmpNo X0.here hx rfl (hb hby at_163) rfl (flt (by decide : ¬ ((10 : Int32) < (10 : Int32)))).2.2.1 ?_
      show Sp p e below T0 (mkF m 166 #[.val (.int p1), .val (.ref ba), .val (.int (10 : Int32)), .unset] []) _
      refine XS.iconst X0.here hx rfl (hb hby at_166) ?_
      show Sp p e below T0 (mkF m 167 #[.val (.int p1), .val (.ref ba), .val (.int (10 : Int32)), .unset] [(.int (1 : Int32))]) _
      refine XS.goto X0.here hx rfl (pc0 := 167) (pc' := 171) rfl (hb hby at_167) (by decide) (by decide) ?_
      show Sp p e below T0 (mkF m 171 #[.val (.int p1), .val (.ref ba), .val (.int (10 : Int32)), .unset] [(.int (1 : Int32))]) _
      refine XS.istoreN X0.here hx rfl (hb hby at_171) rfl (l' := #[.val (.int p1), .val (.ref ba), .val (.int (10 : Int32)), .val (.int (1 : Int32))]) rfl ?_
      show Sp p e below T0 (mkF m 172 #[.val (.int p1), .val (.ref ba), .val (.int (10 : Int32)), .val (.int (1 : Int32))] []) _
      refine XS.aloadN X0.here hx rfl (hb hby at_172) rfl rfl ?_
      show Sp p e below T0 (mkF m 173 #[.val (.int p1), .val (.ref ba), .val (.int (10 : Int32)), .val (.int (1 : Int32))] [(.ref ba)]) _
      refine XS.iloadN X0.here hx rfl (hb hby at_173) rfl ?_
      show Sp p e below T0 (mkF m 174 #[.val (.int p1), .val (.ref ba), .val (.int (10 : Int32)), .val (.int (1 : Int32))] [(.int (10 : Int32)), (.ref ba)]) _
      refine X0.aaload hx (j := (10 : Int32)) (v := (.ref w_MASK_HASH)) (by rw [e0]; exact Arv31.1) (State.isArrayOf_alike hZ.alike Arv31.2.1) rfl Arv31.2.2 in32 atin32 (g := (mkF m 174 #[.val (.int p1), .val (.ref ba), .val (.int (10 : Int32)), .val (.int (1 : Int32))] [(.int (10 : Int32)), (.ref ba)])) rfl rfl (hb hby at_174) _ ?_
      show Sp p e below T0 (mkF m 175 #[.val (.int p1), .val (.ref ba), .val (.int (10 : Int32)), .val (.int (1 : Int32))] [(.ref w_MASK_HASH)]) _
      refine stk33.trans ?_
      show Sp p e below Tk33 (mkF m 178 #[.val (.int p1), .val (.ref ba), .val (.int (10 : Int32)), .val (.int (1 : Int32))] [(.int (1 : Int32))]) _
      refine XS.iloadN Xk33.here hx rfl (hb hby at_178) rfl ?_
      show Sp p e below Tk33 (mkF m 179 #[.val (.int p1), .val (.ref ba), .val (.int (10 : Int32)), .val (.int (1 : Int32))] [(.int (1 : Int32)), (.int (1 : Int32))]) _
      refine XS.icmpNo Xk33.here hx rfl (hb hby at_179) rfl (teq (by decide : (1 : Int32) = (1 : Int32))).2 ?_
      show Sp p e below Tk33 (mkF m 182 #[.val (.int p1), .val (.ref ba), .val (.int (10 : Int32)), .val (.int (1 : Int32))] []) _
      refine XS.iconst Xk33.here hx rfl (hb hby at_182) ?_
      show Sp p e below Tk33 (mkF m 183 #[.val (.int p1), .val (.ref ba), .val (.int (10 : Int32)), .val (.int (1 : Int32))] [(.int (1 : Int32))]) _
      refine XS.goto Xk33.here hx rfl (pc0 := 183) (pc' := 187) rfl (hb hby at_183) (by decide) (by decide) ?_
      show Sp p e below Tk33 (mkF m 187 #[.val (.int p1), .val (.ref ba), .val (.int (10 : Int32)), .val (.int (1 : Int32))] [(.int (1 : Int32))]) _
      exact retN Xk33 hx (t := .boolean) hret (by simp) (hb hby at_187) hlv
    · exact ⟨rfl, Nk33⟩
  · rw [hi]
    have pre11 : ∀ t, Sp p e below T0 (mkF m 155 #[.val (.int p1), .val (.ref ba), .val (.int (11 : Int32)), .unset] []) t → Sp p e below T0 (mkF m 155 #[.val (.int p1), .val (.ref ba), .val (.int (11 : Int32)), .unset] []) t := fun t k => k
    obtain ⟨clv34, Arv34, qv34, Sv34, Nv34, Hv34, Gv34⟩ := id VA
    have in35 : ¬ ((11 : Int32) < 0 ∨ clv34.slots.size ≤ ((11 : Int32)).toNatClampNeg) := inb_of Sv34 ⟨by decide, by decide⟩
    have atin35 : clv34.slots[((11 : Int32)).toNatClampNeg]? = some (.ref w_COLLECTION_COUNT) := Has.at Hv34 in35 rfl
    obtain ⟨cqk36, kqk36, qk36a, qk36b, qk36c⟩ := isOf hZ e0 E_COLLECTION_COUNT
    obtain ⟨_, _, ⟨Tk36, Lk36, kk36, nk36⟩, -, Xk36, ⟨Lck36, hQk36, lk36, yk36, zk36⟩, stk36⟩ := X0.virtualBack hx (y := (⟨"com/example/fionn/fionn/cql/Functions$Generic", "isMask", "()Z"⟩ : MethodName)) (z := (⟨"com/example/fionn/fionn/cql/Functions$Generic", "isMask", "()Z"⟩ : MethodName)) hown (mvT hZ (hw _ (List.mem_of_getElem? (i := 47) rfl))) (mvT hZ (hw _ (List.mem_of_getElem? (i := 48) rfl))) (notFace_of_selects (args := #[]) (mvT hZ (hw _ (List.mem_of_getElem? (i := 50) rfl)))) (mvT hZ (hw _ (List.mem_of_getElem? (i := 50) rfl))) (mvT hZ (hw _ (List.mem_of_getElem? (i := 49) rfl))) (by decide) (backOf (W := 0) (rm_callee l Z a0 hw [] w_COLLECTION_COUNT w_MASK_NULL w_MASK_DEFAULT w_MASK_REPLACE w_MASK_INNER w_MASK_OUTER w_MASK_HASH (0 : Int32)  h0 n0 Z0 O0 S_MASK_NULL S_MASK_DEFAULT S_MASK_REPLACE S_MASK_INNER S_MASK_OUTER S_MASK_HASH (by simp [n_COLLECTION_COUNT_MASK_NULL, n_COLLECTION_COUNT_MASK_DEFAULT, n_COLLECTION_COUNT_MASK_REPLACE, n_COLLECTION_COUNT_MASK_INNER, n_COLLECTION_COUNT_MASK_OUTER, n_COLLECTION_COUNT_MASK_HASH])) hZ (hw _ (List.mem_of_getElem? (i := 51) rfl)) (hw _ (List.mem_of_getElem? (i := 3) rfl)) (by decide) (by decide)) qk36a qk36c (g := (mkF m 175 #[.val (.int p1), .val (.ref ba), .val (.int (11 : Int32)), .val (.int (0 : Int32))] [(.ref w_COLLECTION_COUNT)])) rfl (by rw [hml]; rfl) (Steps.refl _) (argsL := []) (rest := []) (lenOf pd___Z rfl) rfl (by show 2 * 0 + _ ≤ _; exact Nat.le_of_eq rfl) (hb hby at_175) (fun _ _ => ⟨rfl, e0, (by decide : 1 + 0 ≤ _), (by decide : 21 + 0 ≤ _)⟩)
    dsimp only [Pt.U, Pt.locs, Pt.cells, Pt.slots] at Xk36 lk36 yk36 zk36 stk36 hQk36
    subst lk36 yk36 zk36
    obtain ⟨rfl, Nk36q, ek36⟩ := hQk36
    have Nk36 := Fr.app N0 Nk36q
    obtain ⟨fs, hlv, hrun, hended, hW, hsame⟩ := Xk36.leave (v := some (.int (1 : Int32))) (fun h => by rw [hret] at h; cases h)
    refine ⟨_, _, pre11 _ ?_, hrun, hended, _, _, rfl, ?_, ⟨_, rfl⟩, hW, hsame.mono (by decide) (by decide)⟩
    · refine XS.iloadN X0.here hx rfl (hb hby at_155) rfl ?_
      show Sp p e below T0 (mkF m 156 #[.val (.int p1), .val (.ref ba), .val (.int (11 : Int32)), .unset] [(.int (11 : Int32))]) _
      refine XS.iconst X0.here hx rfl (hb hby at_156) ?_
      show Sp p e below T0 (mkF m 157 #[.val (.int p1), .val (.ref ba), .val (.int (11 : Int32)), .unset] [(.int (5 : Int32)), (.int (11 : Int32))]) _
      refine XS.icmpNo X0.here hx rfl (hb hby at_157) rfl (flt (by decide : ¬ ((11 : Int32) < (5 : Int32)))).1 ?_
      show Sp p e below T0 (mkF m 160 #[.val (.int p1), .val (.ref ba), .val (.int (11 : Int32)), .unset] []) _
      refine XS.iloadN X0.here hx rfl (hb hby at_160) rfl ?_
      show Sp p e below T0 (mkF m 161 #[.val (.int p1), .val (.ref ba), .val (.int (11 : Int32)), .unset] [(.int (11 : Int32))]) _
      refine XS.bipush X0.here hx rfl (hb hby at_161) ?_
      show Sp p e below T0 (mkF m 163 #[.val (.int p1), .val (.ref ba), .val (.int (11 : Int32)), .unset] [(.int (10 : Int32)), (.int (11 : Int32))]) _
      refine XS.icmpYes X0.here hx rfl (pc0 := 163) (pc' := 170) rfl (hb hby at_163) rfl (tlt (by decide : (10 : Int32) < (11 : Int32))).2.2.1 (by decide) (by decide) ?_
      show Sp p e below T0 (mkF m 170 #[.val (.int p1), .val (.ref ba), .val (.int (11 : Int32)), .unset] []) _
      refine XS.iconst X0.here hx rfl (hb hby at_170) ?_
      show Sp p e below T0 (mkF m 171 #[.val (.int p1), .val (.ref ba), .val (.int (11 : Int32)), .unset] [(.int (0 : Int32))]) _
      refine XS.istoreN X0.here hx rfl (hb hby at_171) rfl (l' := #[.val (.int p1), .val (.ref ba), .val (.int (11 : Int32)), .val (.int (0 : Int32))]) rfl ?_
      show Sp p e below T0 (mkF m 172 #[.val (.int p1), .val (.ref ba), .val (.int (11 : Int32)), .val (.int (0 : Int32))] []) _
      refine XS.aloadN X0.here hx rfl (hb hby at_172) rfl rfl ?_
      show Sp p e below T0 (mkF m 173 #[.val (.int p1), .val (.ref ba), .val (.int (11 : Int32)), .val (.int (0 : Int32))] [(.ref ba)]) _
      refine XS.iloadN X0.here hx rfl (hb hby at_173) rfl ?_
      show Sp p e below T0 (mkF m 174 #[.val (.int p1), .val (.ref ba), .val (.int (11 : Int32)), .val (.int (0 : Int32))] [(.int (11 : Int32)), (.ref ba)]) _
      refine X0.aaload hx (j := (11 : Int32)) (v := (.ref w_COLLECTION_COUNT)) (by rw [e0]; exact Arv34.1) (State.isArrayOf_alike hZ.alike Arv34.2.1) rfl Arv34.2.2 in35 atin35 (g := (mkF m 174 #[.val (.int p1), .val (.ref ba), .val (.int (11 : Int32)), .val (.int (0 : Int32))] [(.int (11 : Int32)), (.ref ba)])) rfl rfl (hb hby at_174) _ ?_
      show Sp p e below T0 (mkF m 175 #[.val (.int p1), .val (.ref ba), .val (.int (11 : Int32)), .val (.int (0 : Int32))] [(.ref w_COLLECTION_COUNT)]) _
      refine stk36.trans ?_
      show Sp p e below Tk36 (mkF m 178 #[.val (.int p1), .val (.ref ba), .val (.int (11 : Int32)), .val (.int (0 : Int32))] [(.int (0 : Int32))]) _
      refine XS.iloadN Xk36.here hx rfl (hb hby at_178) rfl ?_
      show Sp p e below Tk36 (mkF m 179 #[.val (.int p1), .val (.ref ba), .val (.int (11 : Int32)), .val (.int (0 : Int32))] [(.int (0 : Int32)), (.int (0 : Int32))]) _
      refine XS.icmpNo Xk36.here hx rfl (hb hby at_179) rfl (teq (by decide : (0 : Int32) = (0 : Int32))).2 ?_
      show Sp p e below Tk36 (mkF m 182 #[.val (.int p1), .val (.ref ba), .val (.int (11 : Int32)), .val (.int (0 : Int32))] []) _
      refine XS.iconst Xk36.here hx rfl (hb hby at_182) ?_
      show Sp p e below Tk36 (mkF m 183 #[.val (.int p1), .val (.ref ba), .val (.int (11 : Int32)), .val (.int (0 : Int32))] [(.int (1 : Int32))]) _
      refine XS.goto Xk36.here hx rfl (pc0 := 183) (pc' := 187) rfl (hb hby at_183) (by decide) (by decide) ?_
      show Sp p e below Tk36 (mkF m 187 #[.val (.int p1), .val (.ref ba), .val (.int (11 : Int32)), .val (.int (0 : Int32))] [(.int (1 : Int32))]) _
      exact retN Xk36 hx (t := .boolean) hret (by simp) (hb hby at_187) hlv
    · exact ⟨rfl, Nk36⟩
  · rw [hi]
    have pre12 : ∀ t, Sp p e below T0 (mkF m 155 #[.val (.int p1), .val (.ref ba), .val (.int (12 : Int32)), .unset] []) t → Sp p e below T0 (mkF m 155 #[.val (.int p1), .val (.ref ba), .val (.int (12 : Int32)), .unset] []) t := fun t k => k
    obtain ⟨clv37, Arv37, qv37, Sv37, Nv37, Hv37, Gv37⟩ := id VA
    have in38 : ¬ ((12 : Int32) < 0 ∨ clv37.slots.size ≤ ((12 : Int32)).toNatClampNeg) := inb_of Sv37 ⟨by decide, by decide⟩
    have atin38 : clv37.slots[((12 : Int32)).toNatClampNeg]? = some (.ref w_COLLECTION_MIN) := Has.at Hv37 in38 rfl
    obtain ⟨cqk39, kqk39, qk39a, qk39b, qk39c⟩ := isOf hZ e0 E_COLLECTION_MIN
    obtain ⟨_, _, ⟨Tk39, Lk39, kk39, nk39⟩, -, Xk39, ⟨Lck39, hQk39, lk39, yk39, zk39⟩, stk39⟩ := X0.virtualBack hx (y := (⟨"com/example/fionn/fionn/cql/Functions$Generic", "isMask", "()Z"⟩ : MethodName)) (z := (⟨"com/example/fionn/fionn/cql/Functions$Generic", "isMask", "()Z"⟩ : MethodName)) hown (mvT hZ (hw _ (List.mem_of_getElem? (i := 47) rfl))) (mvT hZ (hw _ (List.mem_of_getElem? (i := 48) rfl))) (notFace_of_selects (args := #[]) (mvT hZ (hw _ (List.mem_of_getElem? (i := 50) rfl)))) (mvT hZ (hw _ (List.mem_of_getElem? (i := 50) rfl))) (mvT hZ (hw _ (List.mem_of_getElem? (i := 49) rfl))) (by decide) (backOf (W := 0) (rm_callee l Z a0 hw [] w_COLLECTION_MIN w_MASK_NULL w_MASK_DEFAULT w_MASK_REPLACE w_MASK_INNER w_MASK_OUTER w_MASK_HASH (0 : Int32)  h0 n0 Z0 O0 S_MASK_NULL S_MASK_DEFAULT S_MASK_REPLACE S_MASK_INNER S_MASK_OUTER S_MASK_HASH (by simp [n_COLLECTION_MIN_MASK_NULL, n_COLLECTION_MIN_MASK_DEFAULT, n_COLLECTION_MIN_MASK_REPLACE, n_COLLECTION_MIN_MASK_INNER, n_COLLECTION_MIN_MASK_OUTER, n_COLLECTION_MIN_MASK_HASH])) hZ (hw _ (List.mem_of_getElem? (i := 51) rfl)) (hw _ (List.mem_of_getElem? (i := 3) rfl)) (by decide) (by decide)) qk39a qk39c (g := (mkF m 175 #[.val (.int p1), .val (.ref ba), .val (.int (12 : Int32)), .val (.int (0 : Int32))] [(.ref w_COLLECTION_MIN)])) rfl (by rw [hml]; rfl) (Steps.refl _) (argsL := []) (rest := []) (lenOf pd___Z rfl) rfl (by show 2 * 0 + _ ≤ _; exact Nat.le_of_eq rfl) (hb hby at_175) (fun _ _ => ⟨rfl, e0, (by decide : 1 + 0 ≤ _), (by decide : 21 + 0 ≤ _)⟩)
    dsimp only [Pt.U, Pt.locs, Pt.cells, Pt.slots] at Xk39 lk39 yk39 zk39 stk39 hQk39
    subst lk39 yk39 zk39
    obtain ⟨rfl, Nk39q, ek39⟩ := hQk39
    have Nk39 := Fr.app N0 Nk39q
    obtain ⟨fs, hlv, hrun, hended, hW, hsame⟩ := Xk39.leave (v := some (.int (1 : Int32))) (fun h => by rw [hret] at h; cases h)
    refine ⟨_, _, pre12 _ ?_, hrun, hended, _, _, rfl, ?_, ⟨_, rfl⟩, hW, hsame.mono (by decide) (by decide)⟩
    · refine XS.iloadN X0.here hx rfl (hb hby at_155) rfl ?_
      show Sp p e below T0 (mkF m 156 #[.val (.int p1), .val (.ref ba), .val (.int (12 : Int32)), .unset] [(.int (12 : Int32))]) _
      refine XS.iconst X0.here hx rfl (hb hby at_156) ?_
      show Sp p e below T0 (mkF m 157 #[.val (.int p1), .val (.ref ba), .val (.int (12 : Int32)), .unset] [(.int (5 : Int32)), (.int (12 : Int32))]) _
      refine XS.icmpNo X0.here hx rfl (hb hby at_157) rfl (flt (by decide : ¬ ((12 : Int32) < (5 : Int32)))).1 ?_
      show Sp p e below T0 (mkF m 160 #[.val (.int p1), .val (.ref ba), .val (.int (12 : Int32)), .unset] []) _
      refine XS.iloadN X0.here hx rfl (hb hby at_160) rfl ?_
      show Sp p e below T0 (mkF m 161 #[.val (.int p1), .val (.ref ba), .val (.int (12 : Int32)), .unset] [(.int (12 : Int32))]) _
      refine XS.bipush X0.here hx rfl (hb hby at_161) ?_
      show Sp p e below T0 (mkF m 163 #[.val (.int p1), .val (.ref ba), .val (.int (12 : Int32)), .unset] [(.int (10 : Int32)), (.int (12 : Int32))]) _
      refine XS.icmpYes X0.here hx rfl (pc0 := 163) (pc' := 170) rfl (hb hby at_163) rfl (tlt (by decide : (10 : Int32) < (12 : Int32))).2.2.1 (by decide) (by decide) ?_
      show Sp p e below T0 (mkF m 170 #[.val (.int p1), .val (.ref ba), .val (.int (12 : Int32)), .unset] []) _
      refine XS.iconst X0.here hx rfl (hb hby at_170) ?_
      show Sp p e below T0 (mkF m 171 #[.val (.int p1), .val (.ref ba), .val (.int (12 : Int32)), .unset] [(.int (0 : Int32))]) _
      refine XS.istoreN X0.here hx rfl (hb hby at_171) rfl (l' := #[.val (.int p1), .val (.ref ba), .val (.int (12 : Int32)), .val (.int (0 : Int32))]) rfl ?_
      show Sp p e below T0 (mkF m 172 #[.val (.int p1), .val (.ref ba), .val (.int (12 : Int32)), .val (.int (0 : Int32))] []) _
      refine XS.aloadN X0.here hx rfl (hb hby at_172) rfl rfl ?_
      show Sp p e below T0 (mkF m 173 #[.val (.int p1), .val (.ref ba), .val (.int (12 : Int32)), .val (.int (0 : Int32))] [(.ref ba)]) _
      refine XS.iloadN X0.here hx rfl (hb hby at_173) rfl ?_
      show Sp p e below T0 (mkF m 174 #[.val (.int p1), .val (.ref ba), .val (.int (12 : Int32)), .val (.int (0 : Int32))] [(.int (12 : Int32)), (.ref ba)]) _
      refine X0.aaload hx (j := (12 : Int32)) (v := (.ref w_COLLECTION_MIN)) (by rw [e0]; exact Arv37.1) (State.isArrayOf_alike hZ.alike Arv37.2.1) rfl Arv37.2.2 in38 atin38 (g := (mkF m 174 #[.val (.int p1), .val (.ref ba), .val (.int (12 : Int32)), .val (.int (0 : Int32))] [(.int (12 : Int32)), (.ref ba)])) rfl rfl (hb hby at_174) _ ?_
      show Sp p e below T0 (mkF m 175 #[.val (.int p1), .val (.ref ba), .val (.int (12 : Int32)), .val (.int (0 : Int32))] [(.ref w_COLLECTION_MIN)]) _
      refine stk39.trans ?_
      show Sp p e below Tk39 (mkF m 178 #[.val (.int p1), .val (.ref ba), .val (.int (12 : Int32)), .val (.int (0 : Int32))] [(.int (0 : Int32))]) _
      refine XS.iloadN Xk39.here hx rfl (hb hby at_178) rfl ?_
      show Sp p e below Tk39 (mkF m 179 #[.val (.int p1), .val (.ref ba), .val (.int (12 : Int32)), .val (.int (0 : Int32))] [(.int (0 : Int32)), (.int (0 : Int32))]) _
      refine XS.icmpNo Xk39.here hx rfl (hb hby at_179) rfl (teq (by decide : (0 : Int32) = (0 : Int32))).2 ?_
      show Sp p e below Tk39 (mkF m 182 #[.val (.int p1), .val (.ref ba), .val (.int (12 : Int32)), .val (.int (0 : Int32))] []) _
      refine XS.iconst Xk39.here hx rfl (hb hby at_182) ?_
      show Sp p e below Tk39 (mkF m 183 #[.val (.int p1), .val (.ref ba), .val (.int (12 : Int32)), .val (.int (0 : Int32))] [(.int (1 : Int32))]) _
      refine XS.goto Xk39.here hx rfl (pc0 := 183) (pc' := 187) rfl (hb hby at_183) (by decide) (by decide) ?_
      show Sp p e below Tk39 (mkF m 187 #[.val (.int p1), .val (.ref ba), .val (.int (12 : Int32)), .val (.int (0 : Int32))] [(.int (1 : Int32))]) _
      exact retN Xk39 hx (t := .boolean) hret (by simp) (hb hby at_187) hlv
    · exact ⟨rfl, Nk39⟩
  · rw [hi]
    have pre13 : ∀ t, Sp p e below T0 (mkF m 155 #[.val (.int p1), .val (.ref ba), .val (.int (13 : Int32)), .unset] []) t → Sp p e below T0 (mkF m 155 #[.val (.int p1), .val (.ref ba), .val (.int (13 : Int32)), .unset] []) t := fun t k => k
    obtain ⟨clv40, Arv40, qv40, Sv40, Nv40, Hv40, Gv40⟩ := id VA
    have in41 : ¬ ((13 : Int32) < 0 ∨ clv40.slots.size ≤ ((13 : Int32)).toNatClampNeg) := inb_of Sv40 ⟨by decide, by decide⟩
    have atin41 : clv40.slots[((13 : Int32)).toNatClampNeg]? = some (.ref w_COLLECTION_MAX) := Has.at Hv40 in41 rfl
    obtain ⟨cqk42, kqk42, qk42a, qk42b, qk42c⟩ := isOf hZ e0 E_COLLECTION_MAX
    obtain ⟨_, _, ⟨Tk42, Lk42, kk42, nk42⟩, -, Xk42, ⟨Lck42, hQk42, lk42, yk42, zk42⟩, stk42⟩ := X0.virtualBack hx (y := (⟨"com/example/fionn/fionn/cql/Functions$Generic", "isMask", "()Z"⟩ : MethodName)) (z := (⟨"com/example/fionn/fionn/cql/Functions$Generic", "isMask", "()Z"⟩ : MethodName)) hown (mvT hZ (hw _ (List.mem_of_getElem? (i := 47) rfl))) (mvT hZ (hw _ (List.mem_of_getElem? (i := 48) rfl))) (notFace_of_selects (args := #[]) (mvT hZ (hw _ (List.mem_of_getElem? (i := 50) rfl)))) (mvT hZ (hw _ (List.mem_of_getElem? (i := 50) rfl))) (mvT hZ (hw _ (List.mem_of_getElem? (i := 49) rfl))) (by decide) (backOf (W := 0) (rm_callee l Z a0 hw [] w_COLLECTION_MAX w_MASK_NULL w_MASK_DEFAULT w_MASK_REPLACE w_MASK_INNER w_MASK_OUTER w_MASK_HASH (0 : Int32)  h0 n0 Z0 O0 S_MASK_NULL S_MASK_DEFAULT S_MASK_REPLACE S_MASK_INNER S_MASK_OUTER S_MASK_HASH (by simp [n_COLLECTION_MAX_MASK_NULL, n_COLLECTION_MAX_MASK_DEFAULT, n_COLLECTION_MAX_MASK_REPLACE, n_COLLECTION_MAX_MASK_INNER, n_COLLECTION_MAX_MASK_OUTER, n_COLLECTION_MAX_MASK_HASH])) hZ (hw _ (List.mem_of_getElem? (i := 51) rfl)) (hw _ (List.mem_of_getElem? (i := 3) rfl)) (by decide) (by decide)) qk42a qk42c (g := (mkF m 175 #[.val (.int p1), .val (.ref ba), .val (.int (13 : Int32)), .val (.int (0 : Int32))] [(.ref w_COLLECTION_MAX)])) rfl (by rw [hml]; rfl) (Steps.refl _) (argsL := []) (rest := []) (lenOf pd___Z rfl) rfl (by show 2 * 0 + _ ≤ _; exact Nat.le_of_eq rfl) (hb hby at_175) (fun _ _ => ⟨rfl, e0, (by decide : 1 + 0 ≤ _), (by decide : 21 + 0 ≤ _)⟩)
    dsimp only [Pt.U, Pt.locs, Pt.cells, Pt.slots] at Xk42 lk42 yk42 zk42 stk42 hQk42
    subst lk42 yk42 zk42
    obtain ⟨rfl, Nk42q, ek42⟩ := hQk42
    have Nk42 := Fr.app N0 Nk42q
    obtain ⟨fs, hlv, hrun, hended, hW, hsame⟩ := Xk42.leave (v := some (.int (1 : Int32))) (fun h => by rw [hret] at h; cases h)
    refine ⟨_, _, pre13 _ ?_, hrun, hended, _, _, rfl, ?_, ⟨_, rfl⟩, hW, hsame.mono (by decide) (by decide)⟩
    · refine XS.iloadN X0.here hx rfl (hb hby at_155) rfl ?_
      show Sp p e below T0 (mkF m 156 #[.val (.int p1), .val (.ref ba), .val (.int (13 : Int32)), .unset] [(.int (13 : Int32))]) _
      refine XS.iconst X0.here hx rfl (hb hby at_156) ?_
      show Sp p e below T0 (mkF m 157 #[.val (.int p1), .val (.ref ba), .val (.int (13 : Int32)), .unset] [(.int (5 : Int32)), (.int (13 : Int32))]) _
      refine XS.icmpNo X0.here hx rfl (hb hby at_157) rfl (flt (by decide : ¬ ((13 : Int32) < (5 : Int32)))).1 ?_
      show Sp p e below T0 (mkF m 160 #[.val (.int p1), .val (.ref ba), .val (.int (13 : Int32)), .unset] []) _
      refine XS.iloadN X0.here hx rfl (hb hby at_160) rfl ?_
      show Sp p e below T0 (mkF m 161 #[.val (.int p1), .val (.ref ba), .val (.int (13 : Int32)), .unset] [(.int (13 : Int32))]) _
      refine XS.bipush X0.here hx rfl (hb hby at_161) ?_
      show Sp p e below T0 (mkF m 163 #[.val (.int p1), .val (.ref ba), .val (.int (13 : Int32)), .unset] [(.int (10 : Int32)), (.int (13 : Int32))]) _
      refine XS.icmpYes X0.here hx rfl (pc0 := 163) (pc' := 170) rfl (hb hby at_163) rfl (tlt (by decide : (10 : Int32) < (13 : Int32))).2.2.1 (by decide) (by decide) ?_
      show Sp p e below T0 (mkF m 170 #[.val (.int p1), .val (.ref ba), .val (.int (13 : Int32)), .unset] []) _
      refine XS.iconst X0.here hx rfl (hb hby at_170) ?_
      show Sp p e below T0 (mkF m 171 #[.val (.int p1), .val (.ref ba), .val (.int (13 : Int32)), .unset] [(.int (0 : Int32))]) _
      refine XS.istoreN X0.here hx rfl (hb hby at_171) rfl (l' := #[.val (.int p1), .val (.ref ba), .val (.int (13 : Int32)), .val (.int (0 : Int32))]) rfl ?_
      show Sp p e below T0 (mkF m 172 #[.val (.int p1), .val (.ref ba), .val (.int (13 : Int32)), .val (.int (0 : Int32))] []) _
      refine XS.aloadN X0.here hx rfl (hb hby at_172) rfl rfl ?_
      show Sp p e below T0 (mkF m 173 #[.val (.int p1), .val (.ref ba), .val (.int (13 : Int32)), .val (.int (0 : Int32))] [(.ref ba)]) _
      refine XS.iloadN X0.here hx rfl (hb hby at_173) rfl ?_
      show Sp p e below T0 (mkF m 174 #[.val (.int p1), .val (.ref ba), .val (.int (13 : Int32)), .val (.int (0 : Int32))] [(.int (13 : Int32)), (.ref ba)]) _
      refine X0.aaload hx (j := (13 : Int32)) (v := (.ref w_COLLECTION_MAX)) (by rw [e0]; exact Arv40.1) (State.isArrayOf_alike hZ.alike Arv40.2.1) rfl Arv40.2.2 in41 atin41 (g := (mkF m 174 #[.val (.int p1), .val (.ref ba), .val (.int (13 : Int32)), .val (.int (0 : Int32))] [(.int (13 : Int32)), (.ref ba)])) rfl rfl (hb hby at_174) _ ?_
      show Sp p e below T0 (mkF m 175 #[.val (.int p1), .val (.ref ba), .val (.int (13 : Int32)), .val (.int (0 : Int32))] [(.ref w_COLLECTION_MAX)]) _
      refine stk42.trans ?_
      show Sp p e below Tk42 (mkF m 178 #[.val (.int p1), .val (.ref ba), .val (.int (13 : Int32)), .val (.int (0 : Int32))] [(.int (0 : Int32))]) _
      refine XS.iloadN Xk42.here hx rfl (hb hby at_178) rfl ?_
      show Sp p e below Tk42 (mkF m 179 #[.val (.int p1), .val (.ref ba), .val (.int (13 : Int32)), .val (.int (0 : Int32))] [(.int (0 : Int32)), (.int (0 : Int32))]) _
      refine XS.icmpNo Xk42.here hx rfl (hb hby at_179) rfl (teq (by decide : (0 : Int32) = (0 : Int32))).2 ?_
      show Sp p e below Tk42 (mkF m 182 #[.val (.int p1), .val (.ref ba), .val (.int (13 : Int32)), .val (.int (0 : Int32))] []) _
      refine XS.iconst Xk42.here hx rfl (hb hby at_182) ?_
      show Sp p e below Tk42 (mkF m 183 #[.val (.int p1), .val (.ref ba), .val (.int (13 : Int32)), .val (.int (0 : Int32))] [(.int (1 : Int32))]) _
      refine XS.goto Xk42.here hx rfl (pc0 := 183) (pc' := 187) rfl (hb hby at_183) (by decide) (by decide) ?_
      show Sp p e below Tk42 (mkF m 187 #[.val (.int p1), .val (.ref ba), .val (.int (13 : Int32)), .val (.int (0 : Int32))] [(.int (1 : Int32))]) _
      exact retN Xk42 hx (t := .boolean) hret (by simp) (hb hby at_187) hlv
    · exact ⟨rfl, Nk42⟩
  · rw [hi]
    have pre14 : ∀ t, Sp p e below T0 (mkF m 155 #[.val (.int p1), .val (.ref ba), .val (.int (14 : Int32)), .unset] []) t → Sp p e below T0 (mkF m 155 #[.val (.int p1), .val (.ref ba), .val (.int (14 : Int32)), .unset] []) t := fun t k => k
    obtain ⟨clv43, Arv43, qv43, Sv43, Nv43, Hv43, Gv43⟩ := id VA
    have in44 : ¬ ((14 : Int32) < 0 ∨ clv43.slots.size ≤ ((14 : Int32)).toNatClampNeg) := inb_of Sv43 ⟨by decide, by decide⟩
    have atin44 : clv43.slots[((14 : Int32)).toNatClampNeg]? = some (.ref w_COLLECTION_SUM) := Has.at Hv43 in44 rfl
    obtain ⟨cqk45, kqk45, qk45a, qk45b, qk45c⟩ := isOf hZ e0 E_COLLECTION_SUM
    obtain ⟨_, _, ⟨Tk45, Lk45, kk45, nk45⟩, -, Xk45, ⟨Lck45, hQk45, lk45, yk45, zk45⟩, stk45⟩ := X0.virtualBack hx (y := (⟨"com/example/fionn/fionn/cql/Functions$Generic", "isMask", "()Z"⟩ : MethodName)) (z := (⟨"com/example/fionn/fionn/cql/Functions$Generic", "isMask", "()Z"⟩ : MethodName)) hown (mvT hZ (hw _ (List.mem_of_getElem? (i := 47) rfl))) (mvT hZ (hw _ (List.mem_of_getElem? (i := 48) rfl))) (notFace_of_selects (args := #[]) (mvT hZ (hw _ (List.mem_of_getElem? (i := 50) rfl)))) (mvT hZ (hw _ (List.mem_of_getElem? (i := 50) rfl))) (mvT hZ (hw _ (List.mem_of_getElem? (i := 49) rfl))) (by decide) (backOf (W := 0) (rm_callee l Z a0 hw [] w_COLLECTION_SUM w_MASK_NULL w_MASK_DEFAULT w_MASK_REPLACE w_MASK_INNER w_MASK_OUTER w_MASK_HASH (0 : Int32)  h0 n0 Z0 O0 S_MASK_NULL S_MASK_DEFAULT S_MASK_REPLACE S_MASK_INNER S_MASK_OUTER S_MASK_HASH (by simp [n_COLLECTION_SUM_MASK_NULL, n_COLLECTION_SUM_MASK_DEFAULT, n_COLLECTION_SUM_MASK_REPLACE, n_COLLECTION_SUM_MASK_INNER, n_COLLECTION_SUM_MASK_OUTER, n_COLLECTION_SUM_MASK_HASH])) hZ (hw _ (List.mem_of_getElem? (i := 51) rfl)) (hw _ (List.mem_of_getElem? (i := 3) rfl)) (by decide) (by decide)) qk45a qk45c (g := (mkF m 175 #[.val (.int p1), .val (.ref ba), .val (.int (14 : Int32)), .val (.int (0 : Int32))] [(.ref w_COLLECTION_SUM)])) rfl (by rw [hml]; rfl) (Steps.refl _) (argsL := []) (rest := []) (lenOf pd___Z rfl) rfl (by show 2 * 0 + _ ≤ _; exact Nat.le_of_eq rfl) (hb hby at_175) (fun _ _ => ⟨rfl, e0, (by decide : 1 + 0 ≤ _), (by decide : 21 + 0 ≤ _)⟩)
    dsimp only [Pt.U, Pt.locs, Pt.cells, Pt.slots] at Xk45 lk45 yk45 zk45 stk45 hQk45
    subst lk45 yk45 zk45
    obtain ⟨rfl, Nk45q, ek45⟩ := hQk45
    have Nk45 := Fr.app N0 Nk45q
    obtain ⟨fs, hlv, hrun, hended, hW, hsame⟩ := Xk45.leave (v := some (.int (1 : Int32))) (fun h => by rw [hret] at h; cases h)
    refine ⟨_, _, pre14 _ ?_, hrun, hended, _, _, rfl, ?_, ⟨_, rfl⟩, hW, hsame.mono (by decide) (by decide)⟩
    · refine XS.iloadN X0.here hx rfl (hb hby at_155) rfl ?_
      show Sp p e below T0 (mkF m 156 #[.val (.int p1), .val (.ref ba), .val (.int (14 : Int32)), .unset] [(.int (14 : Int32))]) _
      refine XS.iconst X0.here hx rfl (hb hby at_156) ?_
      show Sp p e below T0 (mkF m 157 #[.val (.int p1), .val (.ref ba), .val (.int (14 : Int32)), .unset] [(.int (5 : Int32)), (.int (14 : Int32))]) _
      refine XS.icmpNo X0.here hx rfl (hb hby at_157) rfl (flt (by decide : ¬ ((14 : Int32) < (5 : Int32)))).1 ?_
      show Sp p e below T0 (mkF m 160 #[.val (.int p1), .val (.ref ba), .val (.int (14 : Int32)), .unset] []) _
      refine XS.iloadN X0.here hx rfl (hb hby at_160) rfl ?_
      show Sp p e below T0 (mkF m 161 #[.val (.int p1), .val (.ref ba), .val (.int (14 : Int32)), .unset] [(.int (14 : Int32))]) _
      refine XS.bipush X0.here hx rfl (hb hby at_161) ?_
      show Sp p e below T0 (mkF m 163 #[.val (.int p1), .val (.ref ba), .val (.int (14 : Int32)), .unset] [(.int (10 : Int32)), (.int (14 : Int32))]) _
      refine XS.icmpYes X0.here hx rfl (pc0 := 163) (pc' := 170) rfl (hb hby at_163) rfl (tlt (by decide : (10 : Int32) < (14 : Int32))).2.2.1 (by decide) (by decide) ?_
      show Sp p e below T0 (mkF m 170 #[.val (.int p1), .val (.ref ba), .val (.int (14 : Int32)), .unset] []) _
      refine XS.iconst X0.here hx rfl (hb hby at_170) ?_
      show Sp p e below T0 (mkF m 171 #[.val (.int p1), .val (.ref ba), .val (.int (14 : Int32)), .unset] [(.int (0 : Int32))]) _
      refine XS.istoreN X0.here hx rfl (hb hby at_171) rfl (l' := #[.val (.int p1), .val (.ref ba), .val (.int (14 : Int32)), .val (.int (0 : Int32))]) rfl ?_
      show Sp p e below T0 (mkF m 172 #[.val (.int p1), .val (.ref ba), .val (.int (14 : Int32)), .val (.int (0 : Int32))] []) _
      refine XS.aloadN X0.here hx rfl (hb hby at_172) rfl rfl ?_
      show Sp p e below T0 (mkF m 173 #[.val (.int p1), .val (.ref ba), .val (.int (14 : Int32)), .val (.int (0 : Int32))] [(.ref ba)]) _
      refine XS.iloadN X0.here hx rfl (hb hby at_173) rfl ?_
      show Sp p e below T0 (mkF m 174 #[.val (.int p1), .val (.ref ba), .val (.int (14 : Int32)), .val (.int (0 : Int32))] [(.int (14 : Int32)), (.ref ba)]) _
      refine X0.aaload hx (j := (14 : Int32)) (v := (.ref w_COLLECTION_SUM)) (by rw [e0]; exact Arv43.1) (State.isArrayOf_alike hZ.alike Arv43.2.1) rfl Arv43.2.2 in44 atin44 (g := (mkF m 174 #[.val (.int p1), .val (.ref ba), .val (.int (14 : Int32)), .val (.int (0 : Int32))] [(.int (14 : Int32)), (.ref ba)])) rfl rfl (hb hby at_174) _ ?_
      show Sp p e below T0 (mkF m 175 #[.val (.int p1), .val (.ref ba), .val (.int (14 : Int32)), .val (.int (0 : Int32))] [(.ref w_COLLECTION_SUM)]) _
      refine stk45.trans ?_
      show Sp p e below Tk45 (mkF m 178 #[.val (.int p1), .val (.ref ba), .val (.int (14 : Int32)), .val (.int (0 : Int32))] [(.int (0 : Int32))]) _
      refine XS.iloadN Xk45.here hx rfl (hb hby at_178) rfl ?_
      show Sp p e below Tk45 (mkF m 179 #[.val (.int p1), .val (.ref ba), .val (.int (14 : Int32)), .val (.int (0 : Int32))] [(.int (0 : Int32)), (.int (0 : Int32))]) _
      refine XS.icmpNo Xk45.here hx rfl (hb hby at_179) rfl (teq (by decide : (0 : Int32) = (0 : Int32))).2 ?_
      show Sp p e below Tk45 (mkF m 182 #[.val (.int p1), .val (.ref ba), .val (.int (14 : Int32)), .val (.int (0 : Int32))] []) _
      refine XS.iconst Xk45.here hx rfl (hb hby at_182) ?_
      show Sp p e below Tk45 (mkF m 183 #[.val (.int p1), .val (.ref ba), .val (.int (14 : Int32)), .val (.int (0 : Int32))] [(.int (1 : Int32))]) _
      refine XS.goto Xk45.here hx rfl (pc0 := 183) (pc' := 187) rfl (hb hby at_183) (by decide) (by decide) ?_
      show Sp p e below Tk45 (mkF m 187 #[.val (.int p1), .val (.ref ba), .val (.int (14 : Int32)), .val (.int (0 : Int32))] [(.int (1 : Int32))]) _
      exact retN Xk45 hx (t := .boolean) hret (by simp) (hb hby at_187) hlv
    · exact ⟨rfl, Nk45⟩
  · rw [hi]
    have pre15 : ∀ t, Sp p e below T0 (mkF m 155 #[.val (.int p1), .val (.ref ba), .val (.int (15 : Int32)), .unset] []) t → Sp p e below T0 (mkF m 155 #[.val (.int p1), .val (.ref ba), .val (.int (15 : Int32)), .unset] []) t := fun t k => k
    obtain ⟨clv46, Arv46, qv46, Sv46, Nv46, Hv46, Gv46⟩ := id VA
    have in47 : ¬ ((15 : Int32) < 0 ∨ clv46.slots.size ≤ ((15 : Int32)).toNatClampNeg) := inb_of Sv46 ⟨by decide, by decide⟩
    have atin47 : clv46.slots[((15 : Int32)).toNatClampNeg]? = some (.ref w_COLLECTION_AVG) := Has.at Hv46 in47 rfl
    obtain ⟨cqk48, kqk48, qk48a, qk48b, qk48c⟩ := isOf hZ e0 E_COLLECTION_AVG
    obtain ⟨_, _, ⟨Tk48, Lk48, kk48, nk48⟩, -, Xk48, ⟨Lck48, hQk48, lk48, yk48, zk48⟩, stk48⟩ := X0.virtualBack hx (y := (⟨"com/example/fionn/fionn/cql/Functions$Generic", "isMask", "()Z"⟩ : MethodName)) (z := (⟨"com/example/fionn/fionn/cql/Functions$Generic", "isMask", "()Z"⟩ : MethodName)) hown (mvT hZ (hw _ (List.mem_of_getElem? (i := 47) rfl))) (mvT hZ (hw _ (List.mem_of_getElem? (i := 48) rfl))) (notFace_of_selects (args := #[]) (mvT hZ (hw _ (List.mem_of_getElem? (i := 50) rfl)))) (mvT hZ (hw _ (List.mem_of_getElem? (i := 50) rfl))) (mvT hZ (hw _ (List.mem_of_getElem? (i := 49) rfl))) (by decide) (backOf (W := 0) (rm_callee l Z a0 hw [] w_COLLECTION_AVG w_MASK_NULL w_MASK_DEFAULT w_MASK_REPLACE w_MASK_INNER w_MASK_OUTER w_MASK_HASH (0 : Int32)  h0 n0 Z0 O0 S_MASK_NULL S_MASK_DEFAULT S_MASK_REPLACE S_MASK_INNER S_MASK_OUTER S_MASK_HASH (by simp [n_COLLECTION_AVG_MASK_NULL, n_COLLECTION_AVG_MASK_DEFAULT, n_COLLECTION_AVG_MASK_REPLACE, n_COLLECTION_AVG_MASK_INNER, n_COLLECTION_AVG_MASK_OUTER, n_COLLECTION_AVG_MASK_HASH])) hZ (hw _ (List.mem_of_getElem? (i := 51) rfl)) (hw _ (List.mem_of_getElem? (i := 3) rfl)) (by decide) (by decide)) qk48a qk48c (g := (mkF m 175 #[.val (.int p1), .val (.ref ba), .val (.int (15 : Int32)), .val (.int (0 : Int32))] [(.ref w_COLLECTION_AVG)])) rfl (by rw [hml]; rfl) (Steps.refl _) (argsL := []) (rest := []) (lenOf pd___Z rfl) rfl (by show 2 * 0 + _ ≤ _; exact Nat.le_of_eq rfl) (hb hby at_175) (fun _ _ => ⟨rfl, e0, (by decide : 1 + 0 ≤ _), (by decide : 21 + 0 ≤ _)⟩)
    dsimp only [Pt.U, Pt.locs, Pt.cells, Pt.slots] at Xk48 lk48 yk48 zk48 stk48 hQk48
    subst lk48 yk48 zk48
    obtain ⟨rfl, Nk48q, ek48⟩ := hQk48
    have Nk48 := Fr.app N0 Nk48q
    obtain ⟨fs, hlv, hrun, hended, hW, hsame⟩ := Xk48.leave (v := some (.int (1 : Int32))) (fun h => by rw [hret] at h; cases h)
    refine ⟨_, _, pre15 _ ?_, hrun, hended, _, _, rfl, ?_, ⟨_, rfl⟩, hW, hsame.mono (by decide) (by decide)⟩
    · refine XS.iloadN X0.here hx rfl (hb hby at_155) rfl ?_
      show Sp p e below T0 (mkF m 156 #[.val (.int p1), .val (.ref ba), .val (.int (15 : Int32)), .unset] [(.int (15 : Int32))]) _
      refine XS.iconst X0.here hx rfl (hb hby at_156) ?_
      show Sp p e below T0 (mkF m 157 #[.val (.int p1), .val (.ref ba), .val (.int (15 : Int32)), .unset] [(.int (5 : Int32)), (.int (15 : Int32))]) _
      refine XS.icmpNo X0.here hx rfl (hb hby at_157) rfl (flt (by decide : ¬ ((15 : Int32) < (5 : Int32)))).1 ?_
      show Sp p e below T0 (mkF m 160 #[.val (.int p1), .val (.ref ba), .val (.int (15 : Int32)), .unset] []) _
      refine XS.iloadN X0.here hx rfl (hb hby at_160) rfl ?_
      show Sp p e below T0 (mkF m 161 #[.val (.int p1), .val (.ref ba), .val (.int (15 : Int32)), .unset] [(.int (15 : Int32))]) _
      refine XS.bipush X0.here hx rfl (hb hby at_161) ?_
      show Sp p e below T0 (mkF m 163 #[.val (.int p1), .val (.ref ba), .val (.int (15 : Int32)), .unset] [(.int (10 : Int32)), (.int (15 : Int32))]) _
      refine XS.icmpYes X0.here hx rfl (pc0 := 163) (pc' := 170) rfl (hb hby at_163) rfl (tlt (by decide : (10 : Int32) < (15 : Int32))).2.2.1 (by decide) (by decide) ?_
      show Sp p e below T0 (mkF m 170 #[.val (.int p1), .val (.ref ba), .val (.int (15 : Int32)), .unset] []) _
      refine XS.iconst X0.here hx rfl (hb hby at_170) ?_
      show Sp p e below T0 (mkF m 171 #[.val (.int p1), .val (.ref ba), .val (.int (15 : Int32)), .unset] [(.int (0 : Int32))]) _
      refine XS.istoreN X0.here hx rfl (hb hby at_171) rfl (l' := #[.val (.int p1), .val (.ref ba), .val (.int (15 : Int32)), .val (.int (0 : Int32))]) rfl ?_
      show Sp p e below T0 (mkF m 172 #[.val (.int p1), .val (.ref ba), .val (.int (15 : Int32)), .val (.int (0 : Int32))] []) _
      refine XS.aloadN X0.here hx rfl (hb hby at_172) rfl rfl ?_
      show Sp p e below T0 (mkF m 173 #[.val (.int p1), .val (.ref ba), .val (.int (15 : Int32)), .val (.int (0 : Int32))] [(.ref ba)]) _
      refine XS.iloadN X0.here hx rfl (hb hby at_173) rfl ?_
      show Sp p e below T0 (mkF m 174 #[.val (.int p1), .val (.ref ba), .val (.int (15 : Int32)), .val (.int (0 : Int32))] [(.int (15 : Int32)), (.ref ba)]) _
      refine X0.aaload hx (j := (15 : Int32)) (v := (.ref w_COLLECTION_AVG)) (by rw [e0]; exact Arv46.1) (State.isArrayOf_alike hZ.alike Arv46.2.1) rfl Arv46.2.2 in47 atin47 (g := (mkF m 174 #[.val (.int p1), .val (.ref ba), .val (.int (15 : Int32)), .val (.int (0 : Int32))] [(.int (15 : Int32)), (.ref ba)])) rfl rfl (hb hby at_174) _ ?_
      show Sp p e below T0 (mkF m 175 #[.val (.int p1), .val (.ref ba), .val (.int (15 : Int32)), .val (.int (0 : Int32))] [(.ref w_COLLECTION_AVG)]) _
      refine stk48.trans ?_
      show Sp p e below Tk48 (mkF m 178 #[.val (.int p1), .val (.ref ba), .val (.int (15 : Int32)), .val (.int (0 : Int32))] [(.int (0 : Int32))]) _
      refine XS.iloadN Xk48.here hx rfl (hb hby at_178) rfl ?_
      show Sp p e below Tk48 (mkF m 179 #[.val (.int p1), .val (.ref ba), .val (.int (15 : Int32)), .val (.int (0 : Int32))] [(.int (0 : Int32)), (.int (0 : Int32))]) _
      refine XS.icmpNo Xk48.here hx rfl (hb hby at_179) rfl (teq (by decide : (0 : Int32) = (0 : Int32))).2 ?_
      show Sp p e below Tk48 (mkF m 182 #[.val (.int p1), .val (.ref ba), .val (.int (15 : Int32)), .val (.int (0 : Int32))] []) _
      refine XS.iconst Xk48.here hx rfl (hb hby at_182) ?_
      show Sp p e below Tk48 (mkF m 183 #[.val (.int p1), .val (.ref ba), .val (.int (15 : Int32)), .val (.int (0 : Int32))] [(.int (1 : Int32))]) _
      refine XS.goto Xk48.here hx rfl (pc0 := 183) (pc' := 187) rfl (hb hby at_183) (by decide) (by decide) ?_
      show Sp p e below Tk48 (mkF m 187 #[.val (.int p1), .val (.ref ba), .val (.int (15 : Int32)), .val (.int (0 : Int32))] [(.int (1 : Int32))]) _
      exact retN Xk48 hx (t := .boolean) hret (by simp) (hb hby at_187) hlv
    · exact ⟨rfl, Nk48⟩
  · rw [hi]
    have pre16 : ∀ t, Sp p e below T0 (mkF m 155 #[.val (.int p1), .val (.ref ba), .val (.int (16 : Int32)), .unset] []) t → Sp p e below T0 (mkF m 155 #[.val (.int p1), .val (.ref ba), .val (.int (16 : Int32)), .unset] []) t := fun t k => k
    obtain ⟨clv49, Arv49, qv49, Sv49, Nv49, Hv49, Gv49⟩ := id VA
    have in50 : ¬ ((16 : Int32) < 0 ∨ clv49.slots.size ≤ ((16 : Int32)).toNatClampNeg) := inb_of Sv49 ⟨by decide, by decide⟩
    have atin50 : clv49.slots[((16 : Int32)).toNatClampNeg]? = some (.ref w_MAP_KEYS) := Has.at Hv49 in50 rfl
    obtain ⟨cqk51, kqk51, qk51a, qk51b, qk51c⟩ := isOf hZ e0 E_MAP_KEYS
    obtain ⟨_, _, ⟨Tk51, Lk51, kk51, nk51⟩, -, Xk51, ⟨Lck51, hQk51, lk51, yk51, zk51⟩, stk51⟩ := X0.virtualBack hx (y := (⟨"com/example/fionn/fionn/cql/Functions$Generic", "isMask", "()Z"⟩ : MethodName)) (z := (⟨"com/example/fionn/fionn/cql/Functions$Generic", "isMask", "()Z"⟩ : MethodName)) hown (mvT hZ (hw _ (List.mem_of_getElem? (i := 47) rfl))) (mvT hZ (hw _ (List.mem_of_getElem? (i := 48) rfl))) (notFace_of_selects (args := #[]) (mvT hZ (hw _ (List.mem_of_getElem? (i := 50) rfl)))) (mvT hZ (hw _ (List.mem_of_getElem? (i := 50) rfl))) (mvT hZ (hw _ (List.mem_of_getElem? (i := 49) rfl))) (by decide) (backOf (W := 0) (rm_callee l Z a0 hw [] w_MAP_KEYS w_MASK_NULL w_MASK_DEFAULT w_MASK_REPLACE w_MASK_INNER w_MASK_OUTER w_MASK_HASH (0 : Int32)  h0 n0 Z0 O0 S_MASK_NULL S_MASK_DEFAULT S_MASK_REPLACE S_MASK_INNER S_MASK_OUTER S_MASK_HASH (by simp [n_MAP_KEYS_MASK_NULL, n_MAP_KEYS_MASK_DEFAULT, n_MAP_KEYS_MASK_REPLACE, n_MAP_KEYS_MASK_INNER, n_MAP_KEYS_MASK_OUTER, n_MAP_KEYS_MASK_HASH])) hZ (hw _ (List.mem_of_getElem? (i := 51) rfl)) (hw _ (List.mem_of_getElem? (i := 3) rfl)) (by decide) (by decide)) qk51a qk51c (g := (mkF m 175 #[.val (.int p1), .val (.ref ba), .val (.int (16 : Int32)), .val (.int (0 : Int32))] [(.ref w_MAP_KEYS)])) rfl (by rw [hml]; rfl) (Steps.refl _) (argsL := []) (rest := []) (lenOf pd___Z rfl) rfl (by show 2 * 0 + _ ≤ _; exact Nat.le_of_eq rfl) (hb hby at_175) (fun _ _ => ⟨rfl, e0, (by decide : 1 + 0 ≤ _), (by decide : 21 + 0 ≤ _)⟩)
    dsimp only [Pt.U, Pt.locs, Pt.cells, Pt.slots] at Xk51 lk51 yk51 zk51 stk51 hQk51
    subst lk51 yk51 zk51
    obtain ⟨rfl, Nk51q, ek51⟩ := hQk51
    have Nk51 := Fr.app N0 Nk51q
    obtain ⟨fs, hlv, hrun, hended, hW, hsame⟩ := Xk51.leave (v := some (.int (1 : Int32))) (fun h => by rw [hret] at h; cases h)
    refine ⟨_, _, pre16 _ ?_, hrun, hended, _, _, rfl, ?_, ⟨_, rfl⟩, hW, hsame.mono (by decide) (by decide)⟩
    · refine XS.iloadN X0.here hx rfl (hb hby at_155) rfl ?_
      show Sp p e below T0 (mkF m 156 #[.val (.int p1), .val (.ref ba), .val (.int (16 : Int32)), .unset] [(.int (16 : Int32))]) _
      refine XS.iconst X0.here hx rfl (hb hby at_156) ?_
      show Sp p e below T0 (mkF m 157 #[.val (.int p1), .val (.ref ba), .val (.int (16 : Int32)), .unset] [(.int (5 : Int32)), (.int (16 : Int32))]) _
      refine XS.icmpNo X0.here hx rfl (hb hby at_157) rfl (flt (by decide : ¬ ((16 : Int32) < (5 : Int32)))).1 ?_
      show Sp p e below T0 (mkF m 160 #[.val (.int p1), .val (.ref ba), .val (.int (16 : Int32)), .unset] []) _
      refine XS.iloadN X0.here hx rfl (hb hby at_160) rfl ?_
      show Sp p e below T0 (mkF m 161 #[.val (.int p1), .val (.ref ba), .val (.int (16 : Int32)), .unset] [(.int (16 : Int32))]) _
      refine XS.bipush X0.here hx rfl (hb hby at_161) ?_
      show Sp p e below T0 (mkF m 163 #[.val (.int p1), .val (.ref ba), .val (.int (16 : Int32)), .unset] [(.int (10 : Int32)), (.int (16 : Int32))]) _
      refine XS.icmpYes X0.here hx rfl (pc0 := 163) (pc' := 170) rfl (hb hby at_163) rfl (tlt (by decide : (10 : Int32) < (16 : Int32))).2.2.1 (by decide) (by decide) ?_
      show Sp p e below T0 (mkF m 170 #[.val (.int p1), .val (.ref ba), .val (.int (16 : Int32)), .unset] []) _
      refine XS.iconst X0.here hx rfl (hb hby at_170) ?_
      show Sp p e below T0 (mkF m 171 #[.val (.int p1), .val (.ref ba), .val (.int (16 : Int32)), .unset] [(.int (0 : Int32))]) _
      refine XS.istoreN X0.here hx rfl (hb hby at_171) rfl (l' := #[.val (.int p1), .val (.ref ba), .val (.int (16 : Int32)), .val (.int (0 : Int32))]) rfl ?_
      show Sp p e below T0 (mkF m 172 #[.val (.int p1), .val (.ref ba), .val (.int (16 : Int32)), .val (.int (0 : Int32))] []) _
      refine XS.aloadN X0.here hx rfl (hb hby at_172) rfl rfl ?_
      show Sp p e below T0 (mkF m 173 #[.val (.int p1), .val (.ref ba), .val (.int (16 : Int32)), .val (.int (0 : Int32))] [(.ref ba)]) _
      refine XS.iloadN X0.here hx rfl (hb hby at_173) rfl ?_
      show Sp p e below T0 (mkF m 174 #[.val (.int p1), .val (.ref ba), .val (.int (16 : Int32)), .val (.int (0 : Int32))] [(.int (16 : Int32)), (.ref ba)]) _
      refine X0.aaload hx (j := (16 : Int32)) (v := (.ref w_MAP_KEYS)) (by rw [e0]; exact Arv49.1) (State.isArrayOf_alike hZ.alike Arv49.2.1) rfl Arv49.2.2 in50 atin50 (g := (mkF m 174 #[.val (.int p1), .val (.ref ba), .val (.int (16 : Int32)), .val (.int (0 : Int32))] [(.int (16 : Int32)), (.ref ba)])) rfl rfl (hb hby at_174) _ ?_
      show Sp p e below T0 (mkF m 175 #[.val (.int p1), .val (.ref ba), .val (.int (16 : Int32)), .val (.int (0 : Int32))] [(.ref w_MAP_KEYS)]) _
      refine stk51.trans ?_
      show Sp p e below Tk51 (mkF m 178 #[.val (.int p1), .val (.ref ba), .val (.int (16 : Int32)), .val (.int (0 : Int32))] [(.int (0 : Int32))]) _
      refine XS.iloadN Xk51.here hx rfl (hb hby at_178) rfl ?_
      show Sp p e below Tk51 (mkF m 179 #[.val (.int p1), .val (.ref ba), .val (.int (16 : Int32)), .val (.int (0 : Int32))] [(.int (0 : Int32)), (.int (0 : Int32))]) _
      refine XS.icmpNo Xk51.here hx rfl (hb hby at_179) rfl (teq (by decide : (0 : Int32) = (0 : Int32))).2 ?_
      show Sp p e below Tk51 (mkF m 182 #[.val (.int p1), .val (.ref ba), .val (.int (16 : Int32)), .val (.int (0 : Int32))] []) _
      refine XS.iconst Xk51.here hx rfl (hb hby at_182) ?_
      show Sp p e below Tk51 (mkF m 183 #[.val (.int p1), .val (.ref ba), .val (.int (16 : Int32)), .val (.int (0 : Int32))] [(.int (1 : Int32))]) _
      refine XS.goto Xk51.here hx rfl (pc0 := 183) (pc' := 187) rfl (hb hby at_183) (by decide) (by decide) ?_
      show Sp p e below Tk51 (mkF m 187 #[.val (.int p1), .val (.ref ba), .val (.int (16 : Int32)), .val (.int (0 : Int32))] [(.int (1 : Int32))]) _
      exact retN Xk51 hx (t := .boolean) hret (by simp) (hb hby at_187) hlv
    · exact ⟨rfl, Nk51⟩
  · rw [hi]
    have pre17 : ∀ t, Sp p e below T0 (mkF m 155 #[.val (.int p1), .val (.ref ba), .val (.int (17 : Int32)), .unset] []) t → Sp p e below T0 (mkF m 155 #[.val (.int p1), .val (.ref ba), .val (.int (17 : Int32)), .unset] []) t := fun t k => k
    obtain ⟨clv52, Arv52, qv52, Sv52, Nv52, Hv52, Gv52⟩ := id VA
    have in53 : ¬ ((17 : Int32) < 0 ∨ clv52.slots.size ≤ ((17 : Int32)).toNatClampNeg) := inb_of Sv52 ⟨by decide, by decide⟩
    have atin53 : clv52.slots[((17 : Int32)).toNatClampNeg]? = some (.ref w_MAP_VALUES) := Has.at Hv52 in53 rfl
    obtain ⟨cqk54, kqk54, qk54a, qk54b, qk54c⟩ := isOf hZ e0 E_MAP_VALUES
    obtain ⟨_, _, ⟨Tk54, Lk54, kk54, nk54⟩, -, Xk54, ⟨Lck54, hQk54, lk54, yk54, zk54⟩, stk54⟩ := X0.virtualBack hx (y := (⟨"com/example/fionn/fionn/cql/Functions$Generic", "isMask", "()Z"⟩ : MethodName)) (z := (⟨"com/example/fionn/fionn/cql/Functions$Generic", "isMask", "()Z"⟩ : MethodName)) hown (mvT hZ (hw _ (List.mem_of_getElem? (i := 47) rfl))) (mvT hZ (hw _ (List.mem_of_getElem? (i := 48) rfl))) (notFace_of_selects (args := #[]) (mvT hZ (hw _ (List.mem_of_getElem? (i := 50) rfl)))) (mvT hZ (hw _ (List.mem_of_getElem? (i := 50) rfl))) (mvT hZ (hw _ (List.mem_of_getElem? (i := 49) rfl))) (by decide) (backOf (W := 0) (rm_callee l Z a0 hw [] w_MAP_VALUES w_MASK_NULL w_MASK_DEFAULT w_MASK_REPLACE w_MASK_INNER w_MASK_OUTER w_MASK_HASH (0 : Int32)  h0 n0 Z0 O0 S_MASK_NULL S_MASK_DEFAULT S_MASK_REPLACE S_MASK_INNER S_MASK_OUTER S_MASK_HASH (by simp [n_MAP_VALUES_MASK_NULL, n_MAP_VALUES_MASK_DEFAULT, n_MAP_VALUES_MASK_REPLACE, n_MAP_VALUES_MASK_INNER, n_MAP_VALUES_MASK_OUTER, n_MAP_VALUES_MASK_HASH])) hZ (hw _ (List.mem_of_getElem? (i := 51) rfl)) (hw _ (List.mem_of_getElem? (i := 3) rfl)) (by decide) (by decide)) qk54a qk54c (g := (mkF m 175 #[.val (.int p1), .val (.ref ba), .val (.int (17 : Int32)), .val (.int (0 : Int32))] [(.ref w_MAP_VALUES)])) rfl (by rw [hml]; rfl) (Steps.refl _) (argsL := []) (rest := []) (lenOf pd___Z rfl) rfl (by show 2 * 0 + _ ≤ _; exact Nat.le_of_eq rfl) (hb hby at_175) (fun _ _ => ⟨rfl, e0, (by decide : 1 + 0 ≤ _), (by decide : 21 + 0 ≤ _)⟩)
    dsimp only [Pt.U, Pt.locs, Pt.cells, Pt.slots] at Xk54 lk54 yk54 zk54 stk54 hQk54
    subst lk54 yk54 zk54
    obtain ⟨rfl, Nk54q, ek54⟩ := hQk54
    have Nk54 := Fr.app N0 Nk54q
    obtain ⟨fs, hlv, hrun, hended, hW, hsame⟩ := Xk54.leave (v := some (.int (1 : Int32))) (fun h => by rw [hret] at h; cases h)
    refine ⟨_, _, pre17 _ ?_, hrun, hended, _, _, rfl, ?_, ⟨_, rfl⟩, hW, hsame.mono (by decide) (by decide)⟩
    · refine XS.iloadN X0.here hx rfl (hb hby at_155) rfl ?_
      show Sp p e below T0 (mkF m 156 #[.val (.int p1), .val (.ref ba), .val (.int (17 : Int32)), .unset] [(.int (17 : Int32))]) _
      refine XS.iconst X0.here hx rfl (hb hby at_156) ?_
      show Sp p e below T0 (mkF m 157 #[.val (.int p1), .val (.ref ba), .val (.int (17 : Int32)), .unset] [(.int (5 : Int32)), (.int (17 : Int32))]) _
      refine XS.icmpNo X0.here hx rfl (hb hby at_157) rfl (flt (by decide : ¬ ((17 : Int32) < (5 : Int32)))).1 ?_
      show Sp p e below T0 (mkF m 160 #[.val (.int p1), .val (.ref ba), .val (.int (17 : Int32)), .unset] []) _
      refine XS.iloadN X0.here hx rfl (hb hby at_160) rfl ?_
      show Sp p e below T0 (mkF m 161 #[.val (.int p1), .val (.ref ba), .val (.int (17 : Int32)), .unset] [(.int (17 : Int32))]) _
      refine XS.bipush X0.here hx rfl (hb hby at_161) ?_
      show Sp p e below T0 (mkF m 163 #[.val (.int p1), .val (.ref ba), .val (.int (17 : Int32)), .unset] [(.int (10 : Int32)), (.int (17 : Int32))]) _
      refine XS.icmpYes X0.here hx rfl (pc0 := 163) (pc' := 170) rfl (hb hby at_163) rfl (tlt (by decide : (10 : Int32) < (17 : Int32))).2.2.1 (by decide) (by decide) ?_
      show Sp p e below T0 (mkF m 170 #[.val (.int p1), .val (.ref ba), .val (.int (17 : Int32)), .unset] []) _
      refine XS.iconst X0.here hx rfl (hb hby at_170) ?_
      show Sp p e below T0 (mkF m 171 #[.val (.int p1), .val (.ref ba), .val (.int (17 : Int32)), .unset] [(.int (0 : Int32))]) _
      refine XS.istoreN X0.here hx rfl (hb hby at_171) rfl (l' := #[.val (.int p1), .val (.ref ba), .val (.int (17 : Int32)), .val (.int (0 : Int32))]) rfl ?_
      show Sp p e below T0 (mkF m 172 #[.val (.int p1), .val (.ref ba), .val (.int (17 : Int32)), .val (.int (0 : Int32))] []) _
      refine XS.aloadN X0.here hx rfl (hb hby at_172) rfl rfl ?_
      show Sp p e below T0 (mkF m 173 #[.val (.int p1), .val (.ref ba), .val (.int (17 : Int32)), .val (.int (0 : Int32))] [(.ref ba)]) _
      refine XS.iloadN X0.here hx rfl (hb hby at_173) rfl ?_
      show Sp p e below T0 (mkF m 174 #[.val (.int p1), .val (.ref ba), .val (.int (17 : Int32)), .val (.int (0 : Int32))] [(.int (17 : Int32)), (.ref ba)]) _
      refine X0.aaload hx (j := (17 : Int32)) (v := (.ref w_MAP_VALUES)) (by rw [e0]; exact Arv52.1) (State.isArrayOf_alike hZ.alike Arv52.2.1) rfl Arv52.2.2 in53 atin53 (g := (mkF m 174 #[.val (.int p1), .val (.ref ba), .val (.int (17 : Int32)), .val (.int (0 : Int32))] [(.int (17 : Int32)), (.ref ba)])) rfl rfl (hb hby at_174) _ ?_
      show Sp p e below T0 (mkF m 175 #[.val (.int p1), .val (.ref ba), .val (.int (17 : Int32)), .val (.int (0 : Int32))] [(.ref w_MAP_VALUES)]) _
      refine stk54.trans ?_
      show Sp p e below Tk54 (mkF m 178 #[.val (.int p1), .val (.ref ba), .val (.int (17 : Int32)), .val (.int (0 : Int32))] [(.int (0 : Int32))]) _
      refine XS.iloadN Xk54.here hx rfl (hb hby at_178) rfl ?_
      show Sp p e below Tk54 (mkF m 179 #[.val (.int p1), .val (.ref ba), .val (.int (17 : Int32)), .val (.int (0 : Int32))] [(.int (0 : Int32)), (.int (0 : Int32))]) _
      refine XS.icmpNo Xk54.here hx rfl (hb hby at_179) rfl (teq (by decide : (0 : Int32) = (0 : Int32))).2 ?_
      show Sp p e below Tk54 (mkF m 182 #[.val (.int p1), .val (.ref ba), .val (.int (17 : Int32)), .val (.int (0 : Int32))] []) _
      refine XS.iconst Xk54.here hx rfl (hb hby at_182) ?_
      show Sp p e below Tk54 (mkF m 183 #[.val (.int p1), .val (.ref ba), .val (.int (17 : Int32)), .val (.int (0 : Int32))] [(.int (1 : Int32))]) _
      refine XS.goto Xk54.here hx rfl (pc0 := 183) (pc' := 187) rfl (hb hby at_183) (by decide) (by decide) ?_
      show Sp p e below Tk54 (mkF m 187 #[.val (.int p1), .val (.ref ba), .val (.int (17 : Int32)), .val (.int (0 : Int32))] [(.int (1 : Int32))]) _
      exact retN Xk54 hx (t := .boolean) hret (by simp) (hb hby at_187) hlv
    · exact ⟨rfl, Nk54⟩
  · rw [hi]
    have pre18 : ∀ t, Sp p e below T0 (mkF m 155 #[.val (.int p1), .val (.ref ba), .val (.int (18 : Int32)), .unset] []) t → Sp p e below T0 (mkF m 155 #[.val (.int p1), .val (.ref ba), .val (.int (18 : Int32)), .unset] []) t := fun t k => k
    obtain ⟨clv55, Arv55, qv55, Sv55, Nv55, Hv55, Gv55⟩ := id VA
    have in56 : ¬ ((18 : Int32) < 0 ∨ clv55.slots.size ≤ ((18 : Int32)).toNatClampNeg) := inb_of Sv55 ⟨by decide, by decide⟩
    have atin56 : clv55.slots[((18 : Int32)).toNatClampNeg]? = some (.ref w_SIMILARITY_COSINE) := Has.at Hv55 in56 rfl
    obtain ⟨cqk57, kqk57, qk57a, qk57b, qk57c⟩ := isOf hZ e0 E_SIMILARITY_COSINE
    obtain ⟨_, _, ⟨Tk57, Lk57, kk57, nk57⟩, -, Xk57, ⟨Lck57, hQk57, lk57, yk57, zk57⟩, stk57⟩ := X0.virtualBack hx (y := (⟨"com/example/fionn/fionn/cql/Functions$Generic", "isMask", "()Z"⟩ : MethodName)) (z := (⟨"com/example/fionn/fionn/cql/Functions$Generic", "isMask", "()Z"⟩ : MethodName)) hown (mvT hZ (hw _ (List.mem_of_getElem? (i := 47) rfl))) (mvT hZ (hw _ (List.mem_of_getElem? (i := 48) rfl))) (notFace_of_selects (args := #[]) (mvT hZ (hw _ (List.mem_of_getElem? (i := 50) rfl)))) (mvT hZ (hw _ (List.mem_of_getElem? (i := 50) rfl))) (mvT hZ (hw _ (List.mem_of_getElem? (i := 49) rfl))) (by decide) (backOf (W := 0) (rm_callee l Z a0 hw [] w_SIMILARITY_COSINE w_MASK_NULL w_MASK_DEFAULT w_MASK_REPLACE w_MASK_INNER w_MASK_OUTER w_MASK_HASH (0 : Int32)  h0 n0 Z0 O0 S_MASK_NULL S_MASK_DEFAULT S_MASK_REPLACE S_MASK_INNER S_MASK_OUTER S_MASK_HASH (by simp [n_SIMILARITY_COSINE_MASK_NULL, n_SIMILARITY_COSINE_MASK_DEFAULT, n_SIMILARITY_COSINE_MASK_REPLACE, n_SIMILARITY_COSINE_MASK_INNER, n_SIMILARITY_COSINE_MASK_OUTER, n_SIMILARITY_COSINE_MASK_HASH])) hZ (hw _ (List.mem_of_getElem? (i := 51) rfl)) (hw _ (List.mem_of_getElem? (i := 3) rfl)) (by decide) (by decide)) qk57a qk57c (g := (mkF m 175 #[.val (.int p1), .val (.ref ba), .val (.int (18 : Int32)), .val (.int (0 : Int32))] [(.ref w_SIMILARITY_COSINE)])) rfl (by rw [hml]; rfl) (Steps.refl _) (argsL := []) (rest := []) (lenOf pd___Z rfl) rfl (by show 2 * 0 + _ ≤ _; exact Nat.le_of_eq rfl) (hb hby at_175) (fun _ _ => ⟨rfl, e0, (by decide : 1 + 0 ≤ _), (by decide : 21 + 0 ≤ _)⟩)
    dsimp only [Pt.U, Pt.locs, Pt.cells, Pt.slots] at Xk57 lk57 yk57 zk57 stk57 hQk57
    subst lk57 yk57 zk57
    obtain ⟨rfl, Nk57q, ek57⟩ := hQk57
    have Nk57 := Fr.app N0 Nk57q
    obtain ⟨fs, hlv, hrun, hended, hW, hsame⟩ := Xk57.leave (v := some (.int (1 : Int32))) (fun h => by rw [hret] at h; cases h)
    refine ⟨_, _, pre18 _ ?_, hrun, hended, _, _, rfl, ?_, ⟨_, rfl⟩, hW, hsame.mono (by decide) (by decide)⟩
    · refine XS.iloadN X0.here hx rfl (hb hby at_155) rfl ?_
      show Sp p e below T0 (mkF m 156 #[.val (.int p1), .val (.ref ba), .val (.int (18 : Int32)), .unset] [(.int (18 : Int32))]) _
      refine XS.iconst X0.here hx rfl (hb hby at_156) ?_
      show Sp p e below T0 (mkF m 157 #[.val (.int p1), .val (.ref ba), .val (.int (18 : Int32)), .unset] [(.int (5 : Int32)), (.int (18 : Int32))]) _
      refine XS.icmpNo X0.here hx rfl (hb hby at_157) rfl (flt (by decide : ¬ ((18 : Int32) < (5 : Int32)))).1 ?_
      show Sp p e below T0 (mkF m 160 #[.val (.int p1), .val (.ref ba), .val (.int (18 : Int32)), .unset] []) _
      refine XS.iloadN X0.here hx rfl (hb hby at_160) rfl ?_
      show Sp p e below T0 (mkF m 161 #[.val (.int p1), .val (.ref ba), .val (.int (18 : Int32)), .unset] [(.int (18 : Int32))]) _
      refine XS.bipush X0.here hx rfl (hb hby at_161) ?_
      show Sp p e below T0 (mkF m 163 #[.val (.int p1), .val (.ref ba), .val (.int (18 : Int32)), .unset] [(.int (10 : Int32)), (.int (18 : Int32))]) _
      refine XS.icmpYes X0.here hx rfl (pc0 := 163) (pc' := 170) rfl (hb hby at_163) rfl (tlt (by decide : (10 : Int32) < (18 : Int32))).2.2.1 (by decide) (by decide) ?_
      show Sp p e below T0 (mkF m 170 #[.val (.int p1), .val (.ref ba), .val (.int (18 : Int32)), .unset] []) _
      refine XS.iconst X0.here hx rfl (hb hby at_170) ?_
      show Sp p e below T0 (mkF m 171 #[.val (.int p1), .val (.ref ba), .val (.int (18 : Int32)), .unset] [(.int (0 : Int32))]) _
      refine XS.istoreN X0.here hx rfl (hb hby at_171) rfl (l' := #[.val (.int p1), .val (.ref ba), .val (.int (18 : Int32)), .val (.int (0 : Int32))]) rfl ?_
      show Sp p e below T0 (mkF m 172 #[.val (.int p1), .val (.ref ba), .val (.int (18 : Int32)), .val (.int (0 : Int32))] []) _
      refine XS.aloadN X0.here hx rfl (hb hby at_172) rfl rfl ?_
      show Sp p e below T0 (mkF m 173 #[.val (.int p1), .val (.ref ba), .val (.int (18 : Int32)), .val (.int (0 : Int32))] [(.ref ba)]) _
      refine XS.iloadN X0.here hx rfl (hb hby at_173) rfl ?_
      show Sp p e below T0 (mkF m 174 #[.val (.int p1), .val (.ref ba), .val (.int (18 : Int32)), .val (.int (0 : Int32))] [(.int (18 : Int32)), (.ref ba)]) _
      refine X0.aaload hx (j := (18 : Int32)) (v := (.ref w_SIMILARITY_COSINE)) (by rw [e0]; exact Arv55.1) (State.isArrayOf_alike hZ.alike Arv55.2.1) rfl Arv55.2.2 in56 atin56 (g := (mkF m 174 #[.val (.int p1), .val (.ref ba), .val (.int (18 : Int32)), .val (.int (0 : Int32))] [(.int (18 : Int32)), (.ref ba)])) rfl rfl (hb hby at_174) _ ?_
      show Sp p e below T0 (mkF m 175 #[.val (.int p1), .val (.ref ba), .val (.int (18 : Int32)), .val (.int (0 : Int32))] [(.ref w_SIMILARITY_COSINE)]) _
      refine stk57.trans ?_
      show Sp p e below Tk57 (mkF m 178 #[.val (.int p1), .val (.ref ba), .val (.int (18 : Int32)), .val (.int (0 : Int32))] [(.int (0 : Int32))]) _
      refine XS.iloadN Xk57.here hx rfl (hb hby at_178) rfl ?_
      show Sp p e below Tk57 (mkF m 179 #[.val (.int p1), .val (.ref ba), .val (.int (18 : Int32)), .val (.int (0 : Int32))] [(.int (0 : Int32)), (.int (0 : Int32))]) _
      refine XS.icmpNo Xk57.here hx rfl (hb hby at_179) rfl (teq (by decide : (0 : Int32) = (0 : Int32))).2 ?_
      show Sp p e below Tk57 (mkF m 182 #[.val (.int p1), .val (.ref ba), .val (.int (18 : Int32)), .val (.int (0 : Int32))] []) _
      refine XS.iconst Xk57.here hx rfl (hb hby at_182) ?_
      show Sp p e below Tk57 (mkF m 183 #[.val (.int p1), .val (.ref ba), .val (.int (18 : Int32)), .val (.int (0 : Int32))] [(.int (1 : Int32))]) _
      refine XS.goto Xk57.here hx rfl (pc0 := 183) (pc' := 187) rfl (hb hby at_183) (by decide) (by decide) ?_
      show Sp p e below Tk57 (mkF m 187 #[.val (.int p1), .val (.ref ba), .val (.int (18 : Int32)), .val (.int (0 : Int32))] [(.int (1 : Int32))]) _
      exact retN Xk57 hx (t := .boolean) hret (by simp) (hb hby at_187) hlv
    · exact ⟨rfl, Nk57⟩
  · rw [hi]
    have pre19 : ∀ t, Sp p e below T0 (mkF m 155 #[.val (.int p1), .val (.ref ba), .val (.int (19 : Int32)), .unset] []) t → Sp p e below T0 (mkF m 155 #[.val (.int p1), .val (.ref ba), .val (.int (19 : Int32)), .unset] []) t := fun t k => k
    obtain ⟨clv58, Arv58, qv58, Sv58, Nv58, Hv58, Gv58⟩ := id VA
    have in59 : ¬ ((19 : Int32) < 0 ∨ clv58.slots.size ≤ ((19 : Int32)).toNatClampNeg) := inb_of Sv58 ⟨by decide, by decide⟩
    have atin59 : clv58.slots[((19 : Int32)).toNatClampNeg]? = some (.ref w_SIMILARITY_EUCLIDEAN) := Has.at Hv58 in59 rfl
    obtain ⟨cqk60, kqk60, qk60a, qk60b, qk60c⟩ := isOf hZ e0 E_SIMILARITY_EUCLIDEAN
    obtain ⟨_, _, ⟨Tk60, Lk60, kk60, nk60⟩, -, Xk60, ⟨Lck60, hQk60, lk60, yk60, zk60⟩, stk60⟩ := X0.virtualBack hx (y := (⟨"com/example/fionn/fionn/cql/Functions$Generic", "isMask", "()Z"⟩ : MethodName)) (z := (⟨"com/example/fionn/fionn/cql/Functions$Generic", "isMask", "()Z"⟩ : MethodName)) hown (mvT hZ (hw _ (List.mem_of_getElem? (i := 47) rfl))) (mvT hZ (hw _ (List.mem_of_getElem? (i := 48) rfl))) (notFace_of_selects (args := #[]) (mvT hZ (hw _ (List.mem_of_getElem? (i := 50) rfl)))) (mvT hZ (hw _ (List.mem_of_getElem? (i := 50) rfl))) (mvT hZ (hw _ (List.mem_of_getElem? (i := 49) rfl))) (by decide) (backOf (W := 0) (rm_callee l Z a0 hw [] w_SIMILARITY_EUCLIDEAN w_MASK_NULL w_MASK_DEFAULT w_MASK_REPLACE w_MASK_INNER w_MASK_OUTER w_MASK_HASH (0 : Int32)  h0 n0 Z0 O0 S_MASK_NULL S_MASK_DEFAULT S_MASK_REPLACE S_MASK_INNER S_MASK_OUTER S_MASK_HASH (by simp [n_SIMILARITY_EUCLIDEAN_MASK_NULL, n_SIMILARITY_EUCLIDEAN_MASK_DEFAULT, n_SIMILARITY_EUCLIDEAN_MASK_REPLACE, n_SIMILARITY_EUCLIDEAN_MASK_INNER, n_SIMILARITY_EUCLIDEAN_MASK_OUTER, n_SIMILARITY_EUCLIDEAN_MASK_HASH])) hZ (hw _ (List.mem_of_getElem? (i := 51) rfl)) (hw _ (List.mem_of_getElem? (i := 3) rfl)) (by decide) (by decide)) qk60a qk60c (g := (mkF m 175 #[.val (.int p1), .val (.ref ba), .val (.int (19 : Int32)), .val (.int (0 : Int32))] [(.ref w_SIMILARITY_EUCLIDEAN)])) rfl (by rw [hml]; rfl) (Steps.refl _) (argsL := []) (rest := []) (lenOf pd___Z rfl) rfl (by show 2 * 0 + _ ≤ _; exact Nat.le_of_eq rfl) (hb hby at_175) (fun _ _ => ⟨rfl, e0, (by decide : 1 + 0 ≤ _), (by decide : 21 + 0 ≤ _)⟩)
    dsimp only [Pt.U, Pt.locs, Pt.cells, Pt.slots] at Xk60 lk60 yk60 zk60 stk60 hQk60
    subst lk60 yk60 zk60
    obtain ⟨rfl, Nk60q, ek60⟩ := hQk60
    have Nk60 := Fr.app N0 Nk60q
    obtain ⟨fs, hlv, hrun, hended, hW, hsame⟩ := Xk60.leave (v := some (.int (1 : Int32))) (fun h => by rw [hret] at h; cases h)
    refine ⟨_, _, pre19 _ ?_, hrun, hended, _, _, rfl, ?_, ⟨_, rfl⟩, hW, hsame.mono (by decide) (by decide)⟩
    · refine XS.iloadN X0.here hx rfl (hb hby at_155) rfl ?_
      show Sp p e below T0 (mkF m 156 #[.val (.int p1), .val (.ref ba), .val (.int (19 : Int32)), .unset] [(.int (19 : Int32))]) _
      refine XS.iconst X0.here hx rfl (hb hby at_156) ?_
      show Sp p e below T0 (mkF m 157 #[.val (.int p1), .val (.ref ba), .val (.int (19 : Int32)), .unset] [(.int (5 : Int32)), (.int (19 : Int32))]) _
      refine XS.icmpNo X0.here hx rfl (hb hby at_157) rfl (flt (by decide : ¬ ((19 : Int32) < (5 : Int32)))).1 ?_
      show Sp p e below T0 (mkF m 160 #[.val (.int p1), .val (.ref ba), .val (.int (19 : Int32)), .unset] []) _
      refine XS.iloadN X0.here hx rfl (hb hby at_160) rfl ?_
      show Sp p e below T0 (mkF m 161 #[.val (.int p1), .val (.ref ba), .val (.int (19 : Int32)), .unset] [(.int (19 : Int32))]) _
      refine XS.bipush X0.here hx rfl (hb hby at_161) ?_
      show Sp p e below T0 (mkF m 163 #[.val (.int p1), .val (.ref ba), .val (.int (19 : Int32)), .unset] [(.int (10 : Int32)), (.int (19 : Int32))]) _
      refine XS.icmpYes X0.here hx rfl (pc0 := 163) (pc' := 170) rfl (hb hby at_163) rfl (tlt (by decide : (10 : Int32) < (19 : Int32))).2.2.1 (by decide) (by decide) ?_
      show Sp p e below T0 (mkF m 170 #[.val (.int p1), .val (.ref ba), .val (.int (19 : Int32)), .unset] []) _
      refine XS.iconst X0.here hx rfl (hb hby at_170) ?_
      show Sp p e below T0 (mkF m 171 #[.val (.int p1), .val (.ref ba), .val (.int (19 : Int32)), .unset] [(.int (0 : Int32))]) _
      refine XS.istoreN X0.here hx rfl (hb hby at_171) rfl (l' := #[.val (.int p1), .val (.ref ba), .val (.int (19 : Int32)), .val (.int (0 : Int32))]) rfl ?_
      show Sp p e below T0 (mkF m 172 #[.val (.int p1), .val (.ref ba), .val (.int (19 : Int32)), .val (.int (0 : Int32))] []) _
      refine XS.aloadN X0.here hx rfl (hb hby at_172) rfl rfl ?_
      show Sp p e below T0 (mkF m 173 #[.val (.int p1), .val (.ref ba), .val (.int (19 : Int32)), .val (.int (0 : Int32))] [(.ref ba)]) _
      refine XS.iloadN X0.here hx rfl (hb hby at_173) rfl ?_
      show Sp p e below T0 (mkF m 174 #[.val (.int p1), .val (.ref ba), .val (.int (19 : Int32)), .val (.int (0 : Int32))] [(.int (19 : Int32)), (.ref ba)]) _
      refine X0.aaload hx (j := (19 : Int32)) (v := (.ref w_SIMILARITY_EUCLIDEAN)) (by rw [e0]; exact Arv58.1) (State.isArrayOf_alike hZ.alike Arv58.2.1) rfl Arv58.2.2 in59 atin59 (g := (mkF m 174 #[.val (.int p1), .val (.ref ba), .val (.int (19 : Int32)), .val (.int (0 : Int32))] [(.int (19 : Int32)), (.ref ba)])) rfl rfl (hb hby at_174) _ ?_
      show Sp p e below T0 (mkF m 175 #[.val (.int p1), .val (.ref ba), .val (.int (19 : Int32)), .val (.int (0 : Int32))] [(.ref w_SIMILARITY_EUCLIDEAN)]) _
      refine stk60.trans ?_
      show Sp p e below Tk60 (mkF m 178 #[.val (.int p1), .val (.ref ba), .val (.int (19 : Int32)), .val (.int (0 : Int32))] [(.int (0 : Int32))]) _
      refine XS.iloadN Xk60.here hx rfl (hb hby at_178) rfl ?_
      show Sp p e below Tk60 (mkF m 179 #[.val (.int p1), .val (.ref ba), .val (.int (19 : Int32)), .val (.int (0 : Int32))] [(.int (0 : Int32)), (.int (0 : Int32))]) _
      refine XS.icmpNo Xk60.here hx rfl (hb hby at_179) rfl (teq (by decide : (0 : Int32) = (0 : Int32))).2 ?_
      show Sp p e below Tk60 (mkF m 182 #[.val (.int p1), .val (.ref ba), .val (.int (19 : Int32)), .val (.int (0 : Int32))] []) _
      refine XS.iconst Xk60.here hx rfl (hb hby at_182) ?_
      show Sp p e below Tk60 (mkF m 183 #[.val (.int p1), .val (.ref ba), .val (.int (19 : Int32)), .val (.int (0 : Int32))] [(.int (1 : Int32))]) _
      refine XS.goto Xk60.here hx rfl (pc0 := 183) (pc' := 187) rfl (hb hby at_183) (by decide) (by decide) ?_
      show Sp p e below Tk60 (mkF m 187 #[.val (.int p1), .val (.ref ba), .val (.int (19 : Int32)), .val (.int (0 : Int32))] [(.int (1 : Int32))]) _
      exact retN Xk60 hx (t := .boolean) hret (by simp) (hb hby at_187) hlv
    · exact ⟨rfl, Nk60⟩
  · rw [hi]
    have pre20 : ∀ t, Sp p e below T0 (mkF m 155 #[.val (.int p1), .val (.ref ba), .val (.int (20 : Int32)), .unset] []) t → Sp p e below T0 (mkF m 155 #[.val (.int p1), .val (.ref ba), .val (.int (20 : Int32)), .unset] []) t := fun t k => k
    obtain ⟨clv61, Arv61, qv61, Sv61, Nv61, Hv61, Gv61⟩ := id VA
    have in62 : ¬ ((20 : Int32) < 0 ∨ clv61.slots.size ≤ ((20 : Int32)).toNatClampNeg) := inb_of Sv61 ⟨by decide, by decide⟩
    have atin62 : clv61.slots[((20 : Int32)).toNatClampNeg]? = some (.ref w_SIMILARITY_DOT_PRODUCT) := Has.at Hv61 in62 rfl
    obtain ⟨cqk63, kqk63, qk63a, qk63b, qk63c⟩ := isOf hZ e0 E_SIMILARITY_DOT_PRODUCT
    obtain ⟨_, _, ⟨Tk63, Lk63, kk63, nk63⟩, -, Xk63, ⟨Lck63, hQk63, lk63, yk63, zk63⟩, stk63⟩ := X0.virtualBack hx (y := (⟨"com/example/fionn/fionn/cql/Functions$Generic", "isMask", "()Z"⟩ : MethodName)) (z := (⟨"com/example/fionn/fionn/cql/Functions$Generic", "isMask", "()Z"⟩ : MethodName)) hown (mvT hZ (hw _ (List.mem_of_getElem? (i := 47) rfl))) (mvT hZ (hw _ (List.mem_of_getElem? (i := 48) rfl))) (notFace_of_selects (args := #[]) (mvT hZ (hw _ (List.mem_of_getElem? (i := 50) rfl)))) (mvT hZ (hw _ (List.mem_of_getElem? (i := 50) rfl))) (mvT hZ (hw _ (List.mem_of_getElem? (i := 49) rfl))) (by decide) (backOf (W := 0) (rm_callee l Z a0 hw [] w_SIMILARITY_DOT_PRODUCT w_MASK_NULL w_MASK_DEFAULT w_MASK_REPLACE w_MASK_INNER w_MASK_OUTER w_MASK_HASH (0 : Int32)  h0 n0 Z0 O0 S_MASK_NULL S_MASK_DEFAULT S_MASK_REPLACE S_MASK_INNER S_MASK_OUTER S_MASK_HASH (by simp [n_SIMILARITY_DOT_PRODUCT_MASK_NULL, n_SIMILARITY_DOT_PRODUCT_MASK_DEFAULT, n_SIMILARITY_DOT_PRODUCT_MASK_REPLACE, n_SIMILARITY_DOT_PRODUCT_MASK_INNER, n_SIMILARITY_DOT_PRODUCT_MASK_OUTER, n_SIMILARITY_DOT_PRODUCT_MASK_HASH])) hZ (hw _ (List.mem_of_getElem? (i := 51) rfl)) (hw _ (List.mem_of_getElem? (i := 3) rfl)) (by decide) (by decide)) qk63a qk63c (g := (mkF m 175 #[.val (.int p1), .val (.ref ba), .val (.int (20 : Int32)), .val (.int (0 : Int32))] [(.ref w_SIMILARITY_DOT_PRODUCT)])) rfl (by rw [hml]; rfl) (Steps.refl _) (argsL := []) (rest := []) (lenOf pd___Z rfl) rfl (by show 2 * 0 + _ ≤ _; exact Nat.le_of_eq rfl) (hb hby at_175) (fun _ _ => ⟨rfl, e0, (by decide : 1 + 0 ≤ _), (by decide : 21 + 0 ≤ _)⟩)
    dsimp only [Pt.U, Pt.locs, Pt.cells, Pt.slots] at Xk63 lk63 yk63 zk63 stk63 hQk63
    subst lk63 yk63 zk63
    obtain ⟨rfl, Nk63q, ek63⟩ := hQk63
    have Nk63 := Fr.app N0 Nk63q
    obtain ⟨fs, hlv, hrun, hended, hW, hsame⟩ := Xk63.leave (v := some (.int (1 : Int32))) (fun h => by rw [hret] at h; cases h)
    refine ⟨_, _, pre20 _ ?_, hrun, hended, _, _, rfl, ?_, ⟨_, rfl⟩, hW, hsame.mono (by decide) (by decide)⟩
    · refine XS.iloadN X0.here hx rfl (hb hby at_155) rfl ?_
      show Sp p e below T0 (mkF m 156 #[.val (.int p1), .val (.ref ba), .val (.int (20 : Int32)), .unset] [(.int (20 : Int32))]) _
      refine XS.iconst X0.here hx rfl (hb hby at_156) ?_
      show Sp p e below T0 (mkF m 157 #[.val (.int p1), .val (.ref ba), .val (.int (20 : Int32)), .unset] [(.int (5 : Int32)), (.int (20 : Int32))]) _
      refine XS.icmpNo X0.here hx rfl (hb hby at_157) rfl (flt (by decide : ¬ ((20 : Int32) < (5 : Int32)))).1 ?_
      show Sp p e below T0 (mkF m 160 #[.val (.int p1), .val (.ref ba), .val (.int (20 : Int32)), .unset] []) _
      refine XS.iloadN X0.here hx rfl (hb hby at_160) rfl ?_
      show Sp p e below T0 (mkF m 161 #[.val (.int p1), .val (.ref ba), .val (.int (20 : Int32)), .unset] [(.int (20 : Int32))]) _
      refine XS.bipush X0.here hx rfl (hb hby at_161) ?_
      show Sp p e below T0 (mkF m 163 #[.val (.int p1), .val (.ref ba), .val (.int (20 : Int32)), .unset] [(.int (10 : Int32)), (.int (20 : Int32))]) _
      refine XS.icmpYes X0.here hx rfl (pc0 := 163) (pc' := 170) rfl (hb hby at_163) rfl (tlt (by decide : (10 : Int32) < (20 : Int32))).2.2.1 (by decide) (by decide) ?_
      show Sp p e below T0 (mkF m 170 #[.val (.int p1), .val (.ref ba), .val (.int (20 : Int32)), .unset] []) _
      refine XS.iconst X0.here hx rfl (hb hby at_170) ?_
      show Sp p e below T0 (mkF m 171 #[.val (.int p1), .val (.ref ba), .val (.int (20 : Int32)), .unset] [(.int (0 : Int32))]) _
      refine XS.istoreN X0.here hx rfl (hb hby at_171) rfl (l' := #[.val (.int p1), .val (.ref ba), .val (.int (20 : Int32)), .val (.int (0 : Int32))]) rfl ?_
      show Sp p e below T0 (mkF m 172 #[.val (.int p1), .val (.ref ba), .val (.int (20 : Int32)), .val (.int (0 : Int32))] []) _
      refine XS.aloadN X0.here hx rfl (hb hby at_172) rfl rfl ?_
      show Sp p e below T0 (mkF m 173 #[.val (.int p1), .val (.ref ba), .val (.int (20 : Int32)), .val (.int (0 : Int32))] [(.ref ba)]) _
      refine XS.iloadN X0.here hx rfl (hb hby at_173) rfl ?_
      show Sp p e below T0 (mkF m 174 #[.val (.int p1), .val (.ref ba), .val (.int (20 : Int32)), .val (.int (0 : Int32))] [(.int (20 : Int32)), (.ref ba)]) _
      refine X0.aaload hx (j := (20 : Int32)) (v := (.ref w_SIMILARITY_DOT_PRODUCT)) (by rw [e0]; exact Arv61.1) (State.isArrayOf_alike hZ.alike Arv61.2.1) rfl Arv61.2.2 in62 atin62 (g := (mkF m 174 #[.val (.int p1), .val (.ref ba), .val (.int (20 : Int32)), .val (.int (0 : Int32))] [(.int (20 : Int32)), (.ref ba)])) rfl rfl (hb hby at_174) _ ?_
      show Sp p e below T0 (mkF m 175 #[.val (.int p1), .val (.ref ba), .val (.int (20 : Int32)), .val (.int (0 : Int32))] [(.ref w_SIMILARITY_DOT_PRODUCT)]) _
      refine stk63.trans ?_
      show Sp p e below Tk63 (mkF m 178 #[.val (.int p1), .val (.ref ba), .val (.int (20 : Int32)), .val (.int (0 : Int32))] [(.int (0 : Int32))]) _
      refine XS.iloadN Xk63.here hx rfl (hb hby at_178) rfl ?_
      show Sp p e below Tk63 (mkF m 179 #[.val (.int p1), .val (.ref ba), .val (.int (20 : Int32)), .val (.int (0 : Int32))] [(.int (0 : Int32)), (.int (0 : Int32))]) _
      refine XS.icmpNo Xk63.here hx rfl (hb hby at_179) rfl (teq (by decide : (0 : Int32) = (0 : Int32))).2 ?_
      show Sp p e below Tk63 (mkF m 182 #[.val (.int p1), .val (.ref ba), .val (.int (20 : Int32)), .val (.int (0 : Int32))] []) _
      refine XS.iconst Xk63.here hx rfl (hb hby at_182) ?_
      show Sp p e below Tk63 (mkF m 183 #[.val (.int p1), .val (.ref ba), .val (.int (20 : Int32)), .val (.int (0 : Int32))] [(.int (1 : Int32))]) _
      refine XS.goto Xk63.here hx rfl (pc0 := 183) (pc' := 187) rfl (hb hby at_183) (by decide) (by decide) ?_
      show Sp p e below Tk63 (mkF m 187 #[.val (.int p1), .val (.ref ba), .val (.int (20 : Int32)), .val (.int (0 : Int32))] [(.int (1 : Int32))]) _
      exact retN Xk63 hx (t := .boolean) hret (by simp) (hb hby at_187) hlv
    · exact ⟨rfl, Nk63⟩
theorem pn_1 : plainName "com/example/fionn/fionn/cql/GenericIsMaskPinLaw" = true := by first | (simp [plainName, overriddenIn]; done) | decide +kernel
theorem ef_0_I (m : MethodId) (x0 : Int32) : entryFrame m #[(.int x0)] maxLocals = mkF m 0 #[.val (.int x0), .unset, .unset, .unset] [] := by first | (simp [entryFrame, mkF, argsToLocals, Value.category, maxLocals]; done) | rfl
set_option maxRecDepth 65536 in
set_option maxHeartbeats 40000000 in
theorem rm_law (l : Launch) (Z : State) (a0 : Array Value) (hw : ∀ d ∈ tables_1, d.before a0 Z = true) (ws : List Jvm.Cond) (p1 : Int32) (w_TO_JSON : Addr) (w_FROM_JSON : Addr) (w_TOKEN : Addr) (w_MIN : Addr) (w_MAX : Addr) (w_MASK_NULL : Addr) (w_MASK_DEFAULT : Addr) (w_MASK_REPLACE : Addr) (w_MASK_INNER : Addr) (w_MASK_OUTER : Addr) (w_MASK_HASH : Addr) (w_COLLECTION_COUNT : Addr) (w_COLLECTION_MIN : Addr) (w_COLLECTION_MAX : Addr) (w_COLLECTION_SUM : Addr) (w_COLLECTION_AVG : Addr) (w_MAP_KEYS : Addr) (w_MAP_VALUES : Addr) (w_SIMILARITY_COSINE : Addr) (w_SIMILARITY_EUCLIDEAN : Addr) (w_SIMILARITY_DOT_PRODUCT : Addr) (h0 : Heap) (n0 : Nat) (Z0 : n0 ≤ h0.size) (O0 : Old Z n0 h0) (S_TO_JSON : Sta Z h0 "com/example/fionn/fionn/cql/Functions$Generic" "TO_JSON" "Lcom/example/fionn/fionn/cql/Functions$Generic;" (.ref w_TO_JSON)) (S_FROM_JSON : Sta Z h0 "com/example/fionn/fionn/cql/Functions$Generic" "FROM_JSON" "Lcom/example/fionn/fionn/cql/Functions$Generic;" (.ref w_FROM_JSON)) (S_TOKEN : Sta Z h0 "com/example/fionn/fionn/cql/Functions$Generic" "TOKEN" "Lcom/example/fionn/fionn/cql/Functions$Generic;" (.ref w_TOKEN)) (S_MIN : Sta Z h0 "com/example/fionn/fionn/cql/Functions$Generic" "MIN" "Lcom/example/fionn/fionn/cql/Functions$Generic;" (.ref w_MIN)) (S_MAX : Sta Z h0 "com/example/fionn/fionn/cql/Functions$Generic" "MAX" "Lcom/example/fionn/fionn/cql/Functions$Generic;" (.ref w_MAX)) (S_MASK_NULL : Sta Z h0 "com/example/fionn/fionn/cql/Functions$Generic" "MASK_NULL" "Lcom/example/fionn/fionn/cql/Functions$Generic;" (.ref w_MASK_NULL)) (S_MASK_DEFAULT : Sta Z h0 "com/example/fionn/fionn/cql/Functions$Generic" "MASK_DEFAULT" "Lcom/example/fionn/fionn/cql/Functions$Generic;" (.ref w_MASK_DEFAULT)) (S_MASK_REPLACE : Sta Z h0 "com/example/fionn/fionn/cql/Functions$Generic" "MASK_REPLACE" "Lcom/example/fionn/fionn/cql/Functions$Generic;" (.ref w_MASK_REPLACE)) (S_MASK_INNER : Sta Z h0 "com/example/fionn/fionn/cql/Functions$Generic" "MASK_INNER" "Lcom/example/fionn/fionn/cql/Functions$Generic;" (.ref w_MASK_INNER)) (S_MASK_OUTER : Sta Z h0 "com/example/fionn/fionn/cql/Functions$Generic" "MASK_OUTER" "Lcom/example/fionn/fionn/cql/Functions$Generic;" (.ref w_MASK_OUTER)) (S_MASK_HASH : Sta Z h0 "com/example/fionn/fionn/cql/Functions$Generic" "MASK_HASH" "Lcom/example/fionn/fionn/cql/Functions$Generic;" (.ref w_MASK_HASH)) (S_COLLECTION_COUNT : Sta Z h0 "com/example/fionn/fionn/cql/Functions$Generic" "COLLECTION_COUNT" "Lcom/example/fionn/fionn/cql/Functions$Generic;" (.ref w_COLLECTION_COUNT)) (S_COLLECTION_MIN : Sta Z h0 "com/example/fionn/fionn/cql/Functions$Generic" "COLLECTION_MIN" "Lcom/example/fionn/fionn/cql/Functions$Generic;" (.ref w_COLLECTION_MIN)) (S_COLLECTION_MAX : Sta Z h0 "com/example/fionn/fionn/cql/Functions$Generic" "COLLECTION_MAX" "Lcom/example/fionn/fionn/cql/Functions$Generic;" (.ref w_COLLECTION_MAX)) (S_COLLECTION_SUM : Sta Z h0 "com/example/fionn/fionn/cql/Functions$Generic" "COLLECTION_SUM" "Lcom/example/fionn/fionn/cql/Functions$Generic;" (.ref w_COLLECTION_SUM)) (S_COLLECTION_AVG : Sta Z h0 "com/example/fionn/fionn/cql/Functions$Generic" "COLLECTION_AVG" "Lcom/example/fionn/fionn/cql/Functions$Generic;" (.ref w_COLLECTION_AVG)) (S_MAP_KEYS : Sta Z h0 "com/example/fionn/fionn/cql/Functions$Generic" "MAP_KEYS" "Lcom/example/fionn/fionn/cql/Functions$Generic;" (.ref w_MAP_KEYS)) (S_MAP_VALUES : Sta Z h0 "com/example/fionn/fionn/cql/Functions$Generic" "MAP_VALUES" "Lcom/example/fionn/fionn/cql/Functions$Generic;" (.ref w_MAP_VALUES)) (S_SIMILARITY_COSINE : Sta Z h0 "com/example/fionn/fionn/cql/Functions$Generic" "SIMILARITY_COSINE" "Lcom/example/fionn/fionn/cql/Functions$Generic;" (.ref w_SIMILARITY_COSINE)) (S_SIMILARITY_EUCLIDEAN : Sta Z h0 "com/example/fionn/fionn/cql/Functions$Generic" "SIMILARITY_EUCLIDEAN" "Lcom/example/fionn/fionn/cql/Functions$Generic;" (.ref w_SIMILARITY_EUCLIDEAN)) (S_SIMILARITY_DOT_PRODUCT : Sta Z h0 "com/example/fionn/fionn/cql/Functions$Generic" "SIMILARITY_DOT_PRODUCT" "Lcom/example/fionn/fionn/cql/Functions$Generic;" (.ref w_SIMILARITY_DOT_PRODUCT)) (E_TO_JSON : Exa Z h0 w_TO_JSON "com/example/fionn/fionn/cql/Functions$Generic") (E_FROM_JSON : Exa Z h0 w_FROM_JSON "com/example/fionn/fionn/cql/Functions$Generic") (E_TOKEN : Exa Z h0 w_TOKEN "com/example/fionn/fionn/cql/Functions$Generic") (E_MIN : Exa Z h0 w_MIN "com/example/fionn/fionn/cql/Functions$Generic") (E_MAX : Exa Z h0 w_MAX "com/example/fionn/fionn/cql/Functions$Generic") (E_MASK_NULL : Exa Z h0 w_MASK_NULL "com/example/fionn/fionn/cql/Functions$Generic") (E_MASK_DEFAULT : Exa Z h0 w_MASK_DEFAULT "com/example/fionn/fionn/cql/Functions$Generic") (E_MASK_REPLACE : Exa Z h0 w_MASK_REPLACE "com/example/fionn/fionn/cql/Functions$Generic") (E_MASK_INNER : Exa Z h0 w_MASK_INNER "com/example/fionn/fionn/cql/Functions$Generic") (E_MASK_OUTER : Exa Z h0 w_MASK_OUTER "com/example/fionn/fionn/cql/Functions$Generic") (E_MASK_HASH : Exa Z h0 w_MASK_HASH "com/example/fionn/fionn/cql/Functions$Generic") (E_COLLECTION_COUNT : Exa Z h0 w_COLLECTION_COUNT "com/example/fionn/fionn/cql/Functions$Generic") (E_COLLECTION_MIN : Exa Z h0 w_COLLECTION_MIN "com/example/fionn/fionn/cql/Functions$Generic") (E_COLLECTION_MAX : Exa Z h0 w_COLLECTION_MAX "com/example/fionn/fionn/cql/Functions$Generic") (E_COLLECTION_SUM : Exa Z h0 w_COLLECTION_SUM "com/example/fionn/fionn/cql/Functions$Generic") (E_COLLECTION_AVG : Exa Z h0 w_COLLECTION_AVG "com/example/fionn/fionn/cql/Functions$Generic") (E_MAP_KEYS : Exa Z h0 w_MAP_KEYS "com/example/fionn/fionn/cql/Functions$Generic") (E_MAP_VALUES : Exa Z h0 w_MAP_VALUES "com/example/fionn/fionn/cql/Functions$Generic") (E_SIMILARITY_COSINE : Exa Z h0 w_SIMILARITY_COSINE "com/example/fionn/fionn/cql/Functions$Generic") (E_SIMILARITY_EUCLIDEAN : Exa Z h0 w_SIMILARITY_EUCLIDEAN "com/example/fionn/fionn/cql/Functions$Generic") (E_SIMILARITY_DOT_PRODUCT : Exa Z h0 w_SIMILARITY_DOT_PRODUCT "com/example/fionn/fionn/cql/Functions$Generic") (n_TO_JSON_MASK_NULL : ¬ (w_TO_JSON = w_MASK_NULL)) (n_TO_JSON_MASK_DEFAULT : ¬ (w_TO_JSON = w_MASK_DEFAULT)) (n_TO_JSON_MASK_REPLACE : ¬ (w_TO_JSON = w_MASK_REPLACE)) (n_TO_JSON_MASK_INNER : ¬ (w_TO_JSON = w_MASK_INNER)) (n_TO_JSON_MASK_OUTER : ¬ (w_TO_JSON = w_MASK_OUTER)) (n_TO_JSON_MASK_HASH : ¬ (w_TO_JSON = w_MASK_HASH)) (n_FROM_JSON_MASK_NULL : ¬ (w_FROM_JSON = w_MASK_NULL)) (n_FROM_JSON_MASK_DEFAULT : ¬ (w_FROM_JSON = w_MASK_DEFAULT)) (n_FROM_JSON_MASK_REPLACE : ¬ (w_FROM_JSON = w_MASK_REPLACE)) (n_FROM_JSON_MASK_INNER : ¬ (w_FROM_JSON = w_MASK_INNER)) (n_FROM_JSON_MASK_OUTER : ¬ (w_FROM_JSON = w_MASK_OUTER)) (n_FROM_JSON_MASK_HASH : ¬ (w_FROM_JSON = w_MASK_HASH)) (n_TOKEN_MASK_NULL : ¬ (w_TOKEN = w_MASK_NULL)) (n_TOKEN_MASK_DEFAULT : ¬ (w_TOKEN = w_MASK_DEFAULT)) (n_TOKEN_MASK_REPLACE : ¬ (w_TOKEN = w_MASK_REPLACE)) (n_TOKEN_MASK_INNER : ¬ (w_TOKEN = w_MASK_INNER)) (n_TOKEN_MASK_OUTER : ¬ (w_TOKEN = w_MASK_OUTER)) (n_TOKEN_MASK_HASH : ¬ (w_TOKEN = w_MASK_HASH)) (n_MIN_MASK_NULL : ¬ (w_MIN = w_MASK_NULL)) (n_MIN_MASK_DEFAULT : ¬ (w_MIN = w_MASK_DEFAULT)) (n_MIN_MASK_REPLACE : ¬ (w_MIN = w_MASK_REPLACE)) (n_MIN_MASK_INNER : ¬ (w_MIN = w_MASK_INNER)) (n_MIN_MASK_OUTER : ¬ (w_MIN = w_MASK_OUTER)) (n_MIN_MASK_HASH : ¬ (w_MIN = w_MASK_HASH)) (n_MAX_MASK_NULL : ¬ (w_MAX = w_MASK_NULL)) (n_MAX_MASK_DEFAULT : ¬ (w_MAX = w_MASK_DEFAULT)) (n_MAX_MASK_REPLACE : ¬ (w_MAX = w_MASK_REPLACE)) (n_MAX_MASK_INNER : ¬ (w_MAX = w_MASK_INNER)) (n_MAX_MASK_OUTER : ¬ (w_MAX = w_MASK_OUTER)) (n_MAX_MASK_HASH : ¬ (w_MAX = w_MASK_HASH)) (n_MASK_NULL_MASK_DEFAULT : ¬ (w_MASK_NULL = w_MASK_DEFAULT)) (n_MASK_NULL_MASK_REPLACE : ¬ (w_MASK_NULL = w_MASK_REPLACE)) (n_MASK_NULL_MASK_INNER : ¬ (w_MASK_NULL = w_MASK_INNER)) (n_MASK_NULL_MASK_OUTER : ¬ (w_MASK_NULL = w_MASK_OUTER)) (n_MASK_NULL_MASK_HASH : ¬ (w_MASK_NULL = w_MASK_HASH)) (n_MASK_DEFAULT_MASK_NULL : ¬ (w_MASK_DEFAULT = w_MASK_NULL)) (n_MASK_DEFAULT_MASK_REPLACE : ¬ (w_MASK_DEFAULT = w_MASK_REPLACE)) (n_MASK_DEFAULT_MASK_INNER : ¬ (w_MASK_DEFAULT = w_MASK_INNER)) (n_MASK_DEFAULT_MASK_OUTER : ¬ (w_MASK_DEFAULT = w_MASK_OUTER)) (n_MASK_DEFAULT_MASK_HASH : ¬ (w_MASK_DEFAULT = w_MASK_HASH)) (n_MASK_REPLACE_MASK_NULL : ¬ (w_MASK_REPLACE = w_MASK_NULL)) (n_MASK_REPLACE_MASK_DEFAULT : ¬ (w_MASK_REPLACE = w_MASK_DEFAULT)) (n_MASK_REPLACE_MASK_INNER : ¬ (w_MASK_REPLACE = w_MASK_INNER)) (n_MASK_REPLACE_MASK_OUTER : ¬ (w_MASK_REPLACE = w_MASK_OUTER)) (n_MASK_REPLACE_MASK_HASH : ¬ (w_MASK_REPLACE = w_MASK_HASH)) (n_MASK_INNER_MASK_NULL : ¬ (w_MASK_INNER = w_MASK_NULL)) (n_MASK_INNER_MASK_DEFAULT : ¬ (w_MASK_INNER = w_MASK_DEFAULT)) (n_MASK_INNER_MASK_REPLACE : ¬ (w_MASK_INNER = w_MASK_REPLACE)) (n_MASK_INNER_MASK_OUTER : ¬ (w_MASK_INNER = w_MASK_OUTER)) (n_MASK_INNER_MASK_HASH : ¬ (w_MASK_INNER = w_MASK_HASH)) (n_MASK_OUTER_MASK_NULL : ¬ (w_MASK_OUTER = w_MASK_NULL)) (n_MASK_OUTER_MASK_DEFAULT : ¬ (w_MASK_OUTER = w_MASK_DEFAULT)) (n_MASK_OUTER_MASK_REPLACE : ¬ (w_MASK_OUTER = w_MASK_REPLACE)) (n_MASK_OUTER_MASK_INNER : ¬ (w_MASK_OUTER = w_MASK_INNER)) (n_MASK_OUTER_MASK_HASH : ¬ (w_MASK_OUTER = w_MASK_HASH)) (n_MASK_HASH_MASK_NULL : ¬ (w_MASK_HASH = w_MASK_NULL)) (n_MASK_HASH_MASK_DEFAULT : ¬ (w_MASK_HASH = w_MASK_DEFAULT)) (n_MASK_HASH_MASK_REPLACE : ¬ (w_MASK_HASH = w_MASK_REPLACE)) (n_MASK_HASH_MASK_INNER : ¬ (w_MASK_HASH = w_MASK_INNER)) (n_MASK_HASH_MASK_OUTER : ¬ (w_MASK_HASH = w_MASK_OUTER)) (n_COLLECTION_COUNT_MASK_NULL : ¬ (w_COLLECTION_COUNT = w_MASK_NULL)) (n_COLLECTION_COUNT_MASK_DEFAULT : ¬ (w_COLLECTION_COUNT = w_MASK_DEFAULT)) (n_COLLECTION_COUNT_MASK_REPLACE : ¬ (w_COLLECTION_COUNT = w_MASK_REPLACE)) (n_COLLECTION_COUNT_MASK_INNER : ¬ (w_COLLECTION_COUNT = w_MASK_INNER)) (n_COLLECTION_COUNT_MASK_OUTER : ¬ (w_COLLECTION_COUNT = w_MASK_OUTER)) (n_COLLECTION_COUNT_MASK_HASH : ¬ (w_COLLECTION_COUNT = w_MASK_HASH)) (n_COLLECTION_MIN_MASK_NULL : ¬ (w_COLLECTION_MIN = w_MASK_NULL)) (n_COLLECTION_MIN_MASK_DEFAULT : ¬ (w_COLLECTION_MIN = w_MASK_DEFAULT)) (n_COLLECTION_MIN_MASK_REPLACE : ¬ (w_COLLECTION_MIN = w_MASK_REPLACE)) (n_COLLECTION_MIN_MASK_INNER : ¬ (w_COLLECTION_MIN = w_MASK_INNER)) (n_COLLECTION_MIN_MASK_OUTER : ¬ (w_COLLECTION_MIN = w_MASK_OUTER)) (n_COLLECTION_MIN_MASK_HASH : ¬ (w_COLLECTION_MIN = w_MASK_HASH)) (n_COLLECTION_MAX_MASK_NULL : ¬ (w_COLLECTION_MAX = w_MASK_NULL)) (n_COLLECTION_MAX_MASK_DEFAULT : ¬ (w_COLLECTION_MAX = w_MASK_DEFAULT)) (n_COLLECTION_MAX_MASK_REPLACE : ¬ (w_COLLECTION_MAX = w_MASK_REPLACE)) (n_COLLECTION_MAX_MASK_INNER : ¬ (w_COLLECTION_MAX = w_MASK_INNER)) (n_COLLECTION_MAX_MASK_OUTER : ¬ (w_COLLECTION_MAX = w_MASK_OUTER)) (n_COLLECTION_MAX_MASK_HASH : ¬ (w_COLLECTION_MAX = w_MASK_HASH)) (n_COLLECTION_SUM_MASK_NULL : ¬ (w_COLLECTION_SUM = w_MASK_NULL)) (n_COLLECTION_SUM_MASK_DEFAULT : ¬ (w_COLLECTION_SUM = w_MASK_DEFAULT)) (n_COLLECTION_SUM_MASK_REPLACE : ¬ (w_COLLECTION_SUM = w_MASK_REPLACE)) (n_COLLECTION_SUM_MASK_INNER : ¬ (w_COLLECTION_SUM = w_MASK_INNER)) (n_COLLECTION_SUM_MASK_OUTER : ¬ (w_COLLECTION_SUM = w_MASK_OUTER)) (n_COLLECTION_SUM_MASK_HASH : ¬ (w_COLLECTION_SUM = w_MASK_HASH)) (n_COLLECTION_AVG_MASK_NULL : ¬ (w_COLLECTION_AVG = w_MASK_NULL)) (n_COLLECTION_AVG_MASK_DEFAULT : ¬ (w_COLLECTION_AVG = w_MASK_DEFAULT)) (n_COLLECTION_AVG_MASK_REPLACE : ¬ (w_COLLECTION_AVG = w_MASK_REPLACE)) (n_COLLECTION_AVG_MASK_INNER : ¬ (w_COLLECTION_AVG = w_MASK_INNER)) (n_COLLECTION_AVG_MASK_OUTER : ¬ (w_COLLECTION_AVG = w_MASK_OUTER)) (n_COLLECTION_AVG_MASK_HASH : ¬ (w_COLLECTION_AVG = w_MASK_HASH)) (n_MAP_KEYS_MASK_NULL : ¬ (w_MAP_KEYS = w_MASK_NULL)) (n_MAP_KEYS_MASK_DEFAULT : ¬ (w_MAP_KEYS = w_MASK_DEFAULT)) (n_MAP_KEYS_MASK_REPLACE : ¬ (w_MAP_KEYS = w_MASK_REPLACE)) (n_MAP_KEYS_MASK_INNER : ¬ (w_MAP_KEYS = w_MASK_INNER)) (n_MAP_KEYS_MASK_OUTER : ¬ (w_MAP_KEYS = w_MASK_OUTER)) (n_MAP_KEYS_MASK_HASH : ¬ (w_MAP_KEYS = w_MASK_HASH)) (n_MAP_VALUES_MASK_NULL : ¬ (w_MAP_VALUES = w_MASK_NULL)) (n_MAP_VALUES_MASK_DEFAULT : ¬ (w_MAP_VALUES = w_MASK_DEFAULT)) (n_MAP_VALUES_MASK_REPLACE : ¬ (w_MAP_VALUES = w_MASK_REPLACE)) (n_MAP_VALUES_MASK_INNER : ¬ (w_MAP_VALUES = w_MASK_INNER)) (n_MAP_VALUES_MASK_OUTER : ¬ (w_MAP_VALUES = w_MASK_OUTER)) (n_MAP_VALUES_MASK_HASH : ¬ (w_MAP_VALUES = w_MASK_HASH)) (n_SIMILARITY_COSINE_MASK_NULL : ¬ (w_SIMILARITY_COSINE = w_MASK_NULL)) (n_SIMILARITY_COSINE_MASK_DEFAULT : ¬ (w_SIMILARITY_COSINE = w_MASK_DEFAULT)) (n_SIMILARITY_COSINE_MASK_REPLACE : ¬ (w_SIMILARITY_COSINE = w_MASK_REPLACE)) (n_SIMILARITY_COSINE_MASK_INNER : ¬ (w_SIMILARITY_COSINE = w_MASK_INNER)) (n_SIMILARITY_COSINE_MASK_OUTER : ¬ (w_SIMILARITY_COSINE = w_MASK_OUTER)) (n_SIMILARITY_COSINE_MASK_HASH : ¬ (w_SIMILARITY_COSINE = w_MASK_HASH)) (n_SIMILARITY_EUCLIDEAN_MASK_NULL : ¬ (w_SIMILARITY_EUCLIDEAN = w_MASK_NULL)) (n_SIMILARITY_EUCLIDEAN_MASK_DEFAULT : ¬ (w_SIMILARITY_EUCLIDEAN = w_MASK_DEFAULT)) (n_SIMILARITY_EUCLIDEAN_MASK_REPLACE : ¬ (w_SIMILARITY_EUCLIDEAN = w_MASK_REPLACE)) (n_SIMILARITY_EUCLIDEAN_MASK_INNER : ¬ (w_SIMILARITY_EUCLIDEAN = w_MASK_INNER)) (n_SIMILARITY_EUCLIDEAN_MASK_OUTER : ¬ (w_SIMILARITY_EUCLIDEAN = w_MASK_OUTER)) (n_SIMILARITY_EUCLIDEAN_MASK_HASH : ¬ (w_SIMILARITY_EUCLIDEAN = w_MASK_HASH)) (n_SIMILARITY_DOT_PRODUCT_MASK_NULL : ¬ (w_SIMILARITY_DOT_PRODUCT = w_MASK_NULL)) (n_SIMILARITY_DOT_PRODUCT_MASK_DEFAULT : ¬ (w_SIMILARITY_DOT_PRODUCT = w_MASK_DEFAULT)) (n_SIMILARITY_DOT_PRODUCT_MASK_REPLACE : ¬ (w_SIMILARITY_DOT_PRODUCT = w_MASK_REPLACE)) (n_SIMILARITY_DOT_PRODUCT_MASK_INNER : ¬ (w_SIMILARITY_DOT_PRODUCT = w_MASK_INNER)) (n_SIMILARITY_DOT_PRODUCT_MASK_OUTER : ¬ (w_SIMILARITY_DOT_PRODUCT = w_MASK_OUTER)) (n_SIMILARITY_DOT_PRODUCT_MASK_HASH : ¬ (w_SIMILARITY_DOT_PRODUCT = w_MASK_HASH)) :
    MetFree l x (head1 (Jvm.Cond.code x code maxLocals ret :: ws) room_1) (fun A_ U => A_ = #[(.int p1)] ∧ Z.Warmed39 U.vm ∧ U.heap = h0) (fun _ _ _ _ _ => True) (fun _ U o U' => ∃ v L, o = .returned v ∧ Q_law Z n0 v U'.heap L ∧ FrameEnd U o U' L room_1.cells room_1.slots) := by
  refine MetFree.of_bodySF (plainFor_of_name pn_1) hisR ?_
  intro p e s m args below meth c s₁ Bd hml0 hP hK
  obtain ⟨rfl, hZ, hh⟩ := hP
  have hx := Bd.exec
  have hby := Bd.bytes
  have hml : c.maxLocals = 4 := hml0
  have hown : s.vm.findClass "com/example/fionn/fionn/cql/GenericIsMaskPinLaw" = some m.cls := findClass_of_methodNamed Bd.named
  have hnm := (name_of_methodNamed Bd.named Bd.method).1
  have hret := Bd.returns
  have X0 : Stand p l e room_1 s m #[(.int p1)] below meth c s₁ [] 0 0 := Stand.of_body Bd
  have e0 : s₁.heap = h0 := by rw [← hh, Bd.state]; rfl
  have N0 := Fr.nil n0
  have pre0 : ∀ t, Sp p e below s₁ (mkF m 0 #[.val (.int p1), .unset, .unset, .unset] []) t → Sp p e below s₁ (entryFrame m #[(.int p1)] maxLocals) t := fun t k => castTop (ef_0_I m p1) k
  obtain ⟨Ta1, ha1, ka1, Xa1, ea1, Ea1, Aa1, Oa1, sta1⟩ := newR X0 hx hZ hown (hw _ (List.mem_of_getElem? (i := 0) rfl)) (hw _ (List.mem_of_getElem? (i := 1) rfl)) e0 (g := (mkF m 2 #[.val (.int p1), .unset, .unset, .unset] [(.int (21 : Int32))])) rfl (hb hby at_2) rfl (by decide) (cap := 21) (by decide) (by decide) (by decide) (by decide)
  obtain ⟨ba1, ga1⟩ : ∃ z, z = h0.size := ⟨_, rfl⟩
  rw [← ga1] at Aa1 sta1
  have g_ba1 : n0 ≤ ba1 := Nat.le_trans Z0 (Nat.le_of_eq ga1.symm)
  have y_ba1 : h0.size ≤ ba1 := Nat.le_trans (Nat.le_refl h0.size) (Nat.le_of_eq ga1.symm)
  have Va1 : Arv Z ha1 ba1 ka1 (.object "com/example/fionn/fionn/cql/Functions$Generic") (21 : Int32) [.null, .null, .null, .null, .null, .null, .null, .null, .null, .null, .null, .null, .null, .null, .null, .null, .null, .null, .null, .null, .null] .null := (Arv.new Aa1 (by decide)).pad (pad_rep [] .null 21)
  have K2 : Keep h0 ha1 [] := (Keep.refl h0 []).ext Ea1
  have F3 := (own_sta_keep0 S_TO_JSON K2)
  obtain ⟨Tg4, Xg4, eg4, stg4⟩ := getS2 Xa1 hx hZ hown (host := "") (Or.inl (hw _ (List.mem_of_getElem? (i := 2) rfl))) Via.refl ea1 F3 (g := (mkF m 7 #[.val (.int p1), .unset, .unset, .unset] [(.int (0 : Int32)), (.ref ba1), (.ref ba1)])) rfl (hb hby at_7)
  obtain ⟨clv5, Arv5, qv5, Sv5, Nv5, Hv5, Gv5⟩ := id Va1
  have in6 : ¬ ((0 : Int32) < 0 ∨ clv5.slots.size ≤ ((0 : Int32)).toNatClampNeg) := inb_of Sv5 ⟨by decide, by decide⟩
  have F7 := (E_TO_JSON.keep K2)
  obtain ⟨Tw8, hw8, Xw8, ew8, Ww8, stw8⟩ := stR Xg4 hx hZ eg4 Arv5 (j := (0 : Int32)) in6 rfl (Sto.ofV Arv5 qv5 Oa1 (Ins.self F7)) (g := (mkF m 10 #[.val (.int p1), .unset, .unset, .unset] [(.ref w_TO_JSON), (.int (0 : Int32)), (.ref ba1), (.ref ba1)])) rfl rfl (hb hby at_10)
  have Vw8 : Arv Z hw8 ba1 ka1 (.object "com/example/fionn/fionn/cql/Functions$Generic") (21 : Int32) [(.ref w_TO_JSON), .null, .null, .null, .null, .null, .null, .null, .null, .null, .null, .null, .null, .null, .null, .null, .null, .null, .null, .null, .null] .null := Arv.set Arv5 qv5 Sv5 Nv5 Hv5 Gv5 rfl Ww8 0 rfl (Nat.le_of_ble_eq_true rfl)
  have Nw8 := Fr.snoc Xw8 N0 g_ba1
  have K9 : Keep h0 hw8 [] := K2.wr Ww8 (Or.inr y_ba1)
  have F10 := (own_sta_keep0 S_FROM_JSON K9)
  obtain ⟨Tg11, Xg11, eg11, stg11⟩ := getS2 Xw8 hx hZ hown (host := "") (Or.inl (hw _ (List.mem_of_getElem? (i := 6) rfl))) Via.refl ew8 F10 (g := (mkF m 13 #[.val (.int p1), .unset, .unset, .unset] [(.int (1 : Int32)), (.ref ba1), (.ref ba1)])) rfl (hb hby at_13)
  obtain ⟨clv12, Arv12, qv12, Sv12, Nv12, Hv12, Gv12⟩ := id Vw8
  have in13 : ¬ ((1 : Int32) < 0 ∨ clv12.slots.size ≤ ((1 : Int32)).toNatClampNeg) := inb_of Sv12 ⟨by decide, by decide⟩
  have F14 := Oa1
  have F15 := (E_FROM_JSON.keep K9)
  obtain ⟨Tw16, hw16, Xw16, ew16, Ww16, stw16⟩ := stR Xg11 hx hZ eg11 Arv12 (j := (1 : Int32)) in13 rfl (Sto.ofV Arv12 qv12 F14 (Ins.self F15)) (g := (mkF m 16 #[.val (.int p1), .unset, .unset, .unset] [(.ref w_FROM_JSON), (.int (1 : Int32)), (.ref ba1), (.ref ba1)])) rfl rfl (hb hby at_16)
  have Vw16 : Arv Z hw16 ba1 ka1 (.object "com/example/fionn/fionn/cql/Functions$Generic") (21 : Int32) [(.ref w_TO_JSON), (.ref w_FROM_JSON), .null, .null, .null, .null, .null, .null, .null, .null, .null, .null, .null, .null, .null, .null, .null, .null, .null, .null, .null] .null := Arv.set Arv12 qv12 Sv12 Nv12 Hv12 Gv12 rfl Ww16 1 rfl (Nat.le_of_ble_eq_true rfl)
  have Nw16 := Fr.snoc Xw16 Nw8 g_ba1
  have K17 : Keep h0 hw16 [] := K9.wr Ww16 (Or.inr y_ba1)
  have F18 := (own_sta_keep0 S_TOKEN K17)
  obtain ⟨Tg19, Xg19, eg19, stg19⟩ := getS2 Xw16 hx hZ hown (host := "") (Or.inl (hw _ (List.mem_of_getElem? (i := 8) rfl))) Via.refl ew16 F18 (g := (mkF m 19 #[.val (.int p1), .unset, .unset, .unset] [(.int (2 : Int32)), (.ref ba1), (.ref ba1)])) rfl (hb hby at_19)
  obtain ⟨clv20, Arv20, qv20, Sv20, Nv20, Hv20, Gv20⟩ := id Vw16
  have in21 : ¬ ((2 : Int32) < 0 ∨ clv20.slots.size ≤ ((2 : Int32)).toNatClampNeg) := inb_of Sv20 ⟨by decide, by decide⟩
  have F22 := F14
  have F23 := (E_TOKEN.keep K17)
  obtain ⟨Tw24, hw24, Xw24, ew24, Ww24, stw24⟩ := stR Xg19 hx hZ eg19 Arv20 (j := (2 : Int32)) in21 rfl (Sto.ofV Arv20 qv20 F22 (Ins.self F23)) (g := (mkF m 22 #[.val (.int p1), .unset, .unset, .unset] [(.ref w_TOKEN), (.int (2 : Int32)), (.ref ba1), (.ref ba1)])) rfl rfl (hb hby at_22)
  have Vw24 : Arv Z hw24 ba1 ka1 (.object "com/example/fionn/fionn/cql/Functions$Generic") (21 : Int32) [(.ref w_TO_JSON), (.ref w_FROM_JSON), (.ref w_TOKEN), .null, .null, .null, .null, .null, .null, .null, .null, .null, .null, .null, .null, .null, .null, .null, .null, .null, .null] .null := Arv.set Arv20 qv20 Sv20 Nv20 Hv20 Gv20 rfl Ww24 2 rfl (Nat.le_of_ble_eq_true rfl)
  have Nw24 := Fr.snoc Xw24 Nw16 g_ba1
  have K25 : Keep h0 hw24 [] := K17.wr Ww24 (Or.inr y_ba1)
  have F26 := (own_sta_keep0 S_MIN K25)
  obtain ⟨Tg27, Xg27, eg27, stg27⟩ := getS2 Xw24 hx hZ hown (host := "") (Or.inl (hw _ (List.mem_of_getElem? (i := 10) rfl))) Via.refl ew24 F26 (g := (mkF m 25 #[.val (.int p1), .unset, .unset, .unset] [(.int (3 : Int32)), (.ref ba1), (.ref ba1)])) rfl (hb hby at_25)
  obtain ⟨clv28, Arv28, qv28, Sv28, Nv28, Hv28, Gv28⟩ := id Vw24
  have in29 : ¬ ((3 : Int32) < 0 ∨ clv28.slots.size ≤ ((3 : Int32)).toNatClampNeg) := inb_of Sv28 ⟨by decide, by decide⟩
  have F30 := F22
  have F31 := (E_MIN.keep K25)
  obtain ⟨Tw32, hw32, Xw32, ew32, Ww32, stw32⟩ := stR Xg27 hx hZ eg27 Arv28 (j := (3 : Int32)) in29 rfl (Sto.ofV Arv28 qv28 F30 (Ins.self F31)) (g := (mkF m 28 #[.val (.int p1), .unset, .unset, .unset] [(.ref w_MIN), (.int (3 : Int32)), (.ref ba1), (.ref ba1)])) rfl rfl (hb hby at_28)
  have Vw32 : Arv Z hw32 ba1 ka1 (.object "com/example/fionn/fionn/cql/Functions$Generic") (21 : Int32) [(.ref w_TO_JSON), (.ref w_FROM_JSON), (.ref w_TOKEN), (.ref w_MIN), .null, .null, .null, .null, .null, .null, .null, .null, .null, .null, .null, .null, .null, .null, .null, .null, .null] .null := Arv.set Arv28 qv28 Sv28 Nv28 Hv28 Gv28 rfl Ww32 3 rfl (Nat.le_of_ble_eq_true rfl)
  have Nw32 := Fr.snoc Xw32 Nw24 g_ba1
  have K33 : Keep h0 hw32 [] := K25.wr Ww32 (Or.inr y_ba1)
  have F34 := (own_sta_keep0 S_MAX K33)
  obtain ⟨Tg35, Xg35, eg35, stg35⟩ := getS2 Xw32 hx hZ hown (host := "") (Or.inl (hw _ (List.mem_of_getElem? (i := 12) rfl))) Via.refl ew32 F34 (g := (mkF m 31 #[.val (.int p1), .unset, .unset, .unset] [(.int (4 : Int32)), (.ref ba1), (.ref ba1)])) rfl (hb hby at_31)
  obtain ⟨clv36, Arv36, qv36, Sv36, Nv36, Hv36, Gv36⟩ := id Vw32
  have in37 : ¬ ((4 : Int32) < 0 ∨ clv36.slots.size ≤ ((4 : Int32)).toNatClampNeg) := inb_of Sv36 ⟨by decide, by decide⟩
  have F38 := F30
  have F39 := (E_MAX.keep K33)
  obtain ⟨Tw40, hw40, Xw40, ew40, Ww40, stw40⟩ := stR Xg35 hx hZ eg35 Arv36 (j := (4 : Int32)) in37 rfl (Sto.ofV Arv36 qv36 F38 (Ins.self F39)) (g := (mkF m 34 #[.val (.int p1), .unset, .unset, .unset] [(.ref w_MAX), (.int (4 : Int32)), (.ref ba1), (.ref ba1)])) rfl rfl (hb hby at_34)
  have Vw40 : Arv Z hw40 ba1 ka1 (.object "com/example/fionn/fionn/cql/Functions$Generic") (21 : Int32) [(.ref w_TO_JSON), (.ref w_FROM_JSON), (.ref w_TOKEN), (.ref w_MIN), (.ref w_MAX), .null, .null, .null, .null, .null, .null, .null, .null, .null, .null, .null, .null, .null, .null, .null, .null] .null := Arv.set Arv36 qv36 Sv36 Nv36 Hv36 Gv36 rfl Ww40 4 rfl (Nat.le_of_ble_eq_true rfl)
  have Nw40 := Fr.snoc Xw40 Nw32 g_ba1
  have K41 : Keep h0 hw40 [] := K33.wr Ww40 (Or.inr y_ba1)
  have F42 := (own_sta_keep0 S_MASK_NULL K41)
  obtain ⟨Tg43, Xg43, eg43, stg43⟩ := getS2 Xw40 hx hZ hown (host := "") (Or.inl (hw _ (List.mem_of_getElem? (i := 14) rfl))) Via.refl ew40 F42 (g := (mkF m 37 #[.val (.int p1), .unset, .unset, .unset] [(.int (5 : Int32)), (.ref ba1), (.ref ba1)])) rfl (hb hby at_37)
  obtain ⟨clv44, Arv44, qv44, Sv44, Nv44, Hv44, Gv44⟩ := id Vw40
  have in45 : ¬ ((5 : Int32) < 0 ∨ clv44.slots.size ≤ ((5 : Int32)).toNatClampNeg) := inb_of Sv44 ⟨by decide, by decide⟩
  have F46 := F38
  have F47 := (E_MASK_NULL.keep K41)
  obtain ⟨Tw48, hw48, Xw48, ew48, Ww48, stw48⟩ := stR Xg43 hx hZ eg43 Arv44 (j := (5 : Int32)) in45 rfl (Sto.ofV Arv44 qv44 F46 (Ins.self F47)) (g := (mkF m 40 #[.val (.int p1), .unset, .unset, .unset] [(.ref w_MASK_NULL), (.int (5 : Int32)), (.ref ba1), (.ref ba1)])) rfl rfl (hb hby at_40)
  have Vw48 : Arv Z hw48 ba1 ka1 (.object "com/example/fionn/fionn/cql/Functions$Generic") (21 : Int32) [(.ref w_TO_JSON), (.ref w_FROM_JSON), (.ref w_TOKEN), (.ref w_MIN), (.ref w_MAX), (.ref w_MASK_NULL), .null, .null, .null, .null, .null, .null, .null, .null, .null, .null, .null, .null, .null, .null, .null] .null := Arv.set Arv44 qv44 Sv44 Nv44 Hv44 Gv44 rfl Ww48 5 rfl (Nat.le_of_ble_eq_true rfl)
  have Nw48 := Fr.snoc Xw48 Nw40 g_ba1
  have K49 : Keep h0 hw48 [] := K41.wr Ww48 (Or.inr y_ba1)
  have F50 := (own_sta_keep0 S_MASK_DEFAULT K49)
  obtain ⟨Tg51, Xg51, eg51, stg51⟩ := getS2 Xw48 hx hZ hown (host := "") (Or.inl (hw _ (List.mem_of_getElem? (i := 16) rfl))) Via.refl ew48 F50 (g := (mkF m 44 #[.val (.int p1), .unset, .unset, .unset] [(.int (6 : Int32)), (.ref ba1), (.ref ba1)])) rfl (hb hby at_44)
  obtain ⟨clv52, Arv52, qv52, Sv52, Nv52, Hv52, Gv52⟩ := id Vw48
  have in53 : ¬ ((6 : Int32) < 0 ∨ clv52.slots.size ≤ ((6 : Int32)).toNatClampNeg) := inb_of Sv52 ⟨by decide, by decide⟩
  have F54 := F46
  have F55 := (E_MASK_DEFAULT.keep K49)
  obtain ⟨Tw56, hw56, Xw56, ew56, Ww56, stw56⟩ := stR Xg51 hx hZ eg51 Arv52 (j := (6 : Int32)) in53 rfl (Sto.ofV Arv52 qv52 F54 (Ins.self F55)) (g := (mkF m 47 #[.val (.int p1), .unset, .unset, .unset] [(.ref w_MASK_DEFAULT), (.int (6 : Int32)), (.ref ba1), (.ref ba1)])) rfl rfl (hb hby at_47)
  have Vw56 : Arv Z hw56 ba1 ka1 (.object "com/example/fionn/fionn/cql/Functions$Generic") (21 : Int32) [(.ref w_TO_JSON), (.ref w_FROM_JSON), (.ref w_TOKEN), (.ref w_MIN), (.ref w_MAX), (.ref w_MASK_NULL), (.ref w_MASK_DEFAULT), .null, .null, .null, .null, .null, .null, .null, .null, .null, .null, .null, .null, .null, .null] .null := Arv.set Arv52 qv52 Sv52 Nv52 Hv52 Gv52 rfl Ww56 6 rfl (Nat.le_of_ble_eq_true rfl)
  have Nw56 := Fr.snoc Xw56 Nw48 g_ba1
  have K57 : Keep h0 hw56 [] := K49.wr Ww56 (Or.inr y_ba1)
  have F58 := (own_sta_keep0 S_MASK_REPLACE K57)
  obtain ⟨Tg59, Xg59, eg59, stg59⟩ := getS2 Xw56 hx hZ hown (host := "") (Or.inl (hw _ (List.mem_of_getElem? (i := 18) rfl))) Via.refl ew56 F58 (g := (mkF m 51 #[.val (.int p1), .unset, .unset, .unset] [(.int (7 : Int32)), (.ref ba1), (.ref ba1)])) rfl (hb hby at_51)
  obtain ⟨clv60, Arv60, qv60, Sv60, Nv60, Hv60, Gv60⟩ := id Vw56
  have in61 : ¬ ((7 : Int32) < 0 ∨ clv60.slots.size ≤ ((7 : Int32)).toNatClampNeg) := inb_of Sv60 ⟨by decide, by decide⟩
  have F62 := F54
  have F63 := (E_MASK_REPLACE.keep K57)
  obtain ⟨Tw64, hw64, Xw64, ew64, Ww64, stw64⟩ := stR Xg59 hx hZ eg59 Arv60 (j := (7 : Int32)) in61 rfl (Sto.ofV Arv60 qv60 F62 (Ins.self F63)) (g := (mkF m 54 #[.val (.int p1), .unset, .unset, .unset] [(.ref w_MASK_REPLACE), (.int (7 : Int32)), (.ref ba1), (.ref ba1)])) rfl rfl (hb hby at_54)
  have Vw64 : Arv Z hw64 ba1 ka1 (.object "com/example/fionn/fionn/cql/Functions$Generic") (21 : Int32) [(.ref w_TO_JSON), (.ref w_FROM_JSON), (.ref w_TOKEN), (.ref w_MIN), (.ref w_MAX), (.ref w_MASK_NULL), (.ref w_MASK_DEFAULT), (.ref w_MASK_REPLACE), .null, .null, .null, .null, .null, .null, .null, .null, .null, .null, .null, .null, .null] .null := Arv.set Arv60 qv60 Sv60 Nv60 Hv60 Gv60 rfl Ww64 7 rfl (Nat.le_of_ble_eq_true rfl)
  have Nw64 := Fr.snoc Xw64 Nw56 g_ba1
  have K65 : Keep h0 hw64 [] := K57.wr Ww64 (Or.inr y_ba1)
  have F66 := (own_sta_keep0 S_MASK_INNER K65)
  obtain ⟨Tg67, Xg67, eg67, stg67⟩ := getS2 Xw64 hx hZ hown (host := "") (Or.inl (hw _ (List.mem_of_getElem? (i := 20) rfl))) Via.refl ew64 F66 (g := (mkF m 58 #[.val (.int p1), .unset, .unset, .unset] [(.int (8 : Int32)), (.ref ba1), (.ref ba1)])) rfl (hb hby at_58)
  obtain ⟨clv68, Arv68, qv68, Sv68, Nv68, Hv68, Gv68⟩ := id Vw64
  have in69 : ¬ ((8 : Int32) < 0 ∨ clv68.slots.size ≤ ((8 : Int32)).toNatClampNeg) := inb_of Sv68 ⟨by decide, by decide⟩
  have F70 := F62
  have F71 := (E_MASK_INNER.keep K65)
  obtain ⟨Tw72, hw72, Xw72, ew72, Ww72, stw72⟩ := stR Xg67 hx hZ eg67 Arv68 (j := (8 : Int32)) in69 rfl (Sto.ofV Arv68 qv68 F70 (Ins.self F71)) (g := (mkF m 61 #[.val (.int p1), .unset, .unset, .unset] [(.ref w_MASK_INNER), (.int (8 : Int32)), (.ref ba1), (.ref ba1)])) rfl rfl (hb hby at_61)
  have Vw72 : Arv Z hw72 ba1 ka1 (.object "com/example/fionn/fionn/cql/Functions$Generic") (21 : Int32) [(.ref w_TO_JSON), (.ref w_FROM_JSON), (.ref w_TOKEN), (.ref w_MIN), (.ref w_MAX), (.ref w_MASK_NULL), (.ref w_MASK_DEFAULT), (.ref w_MASK_REPLACE), (.ref w_MASK_INNER), .null, .null, .null, .null, .null, .null, .null, .null, .null, .null, .null, .null] .null := Arv.set Arv68 qv68 Sv68 Nv68 Hv68 Gv68 rfl Ww72 8 rfl (Nat.le_of_ble_eq_true rfl)
  have Nw72 := Fr.snoc Xw72 Nw64 g_ba1
  have K73 : Keep h0 hw72 [] := K65.wr Ww72 (Or.inr y_ba1)
  have F74 := (own_sta_keep0 S_MASK_OUTER K73)
  obtain ⟨Tg75, Xg75, eg75, stg75⟩ := getS2 Xw72 hx hZ hown (host := "") (Or.inl (hw _ (List.mem_of_getElem? (i := 22) rfl))) Via.refl ew72 F74 (g := (mkF m 65 #[.val (.int p1), .unset, .unset, .unset] [(.int (9 : Int32)), (.ref ba1), (.ref ba1)])) rfl (hb hby at_65)
  obtain ⟨clv76, Arv76, qv76, Sv76, Nv76, Hv76, Gv76⟩ := id Vw72
  have in77 : ¬ ((9 : Int32) < 0 ∨ clv76.slots.size ≤ ((9 : Int32)).toNatClampNeg) := inb_of Sv76 ⟨by decide, by decide⟩
  have F78 := F70
  have F79 := (E_MASK_OUTER.keep K73)
  obtain ⟨Tw80, hw80, Xw80, ew80, Ww80, stw80⟩ := stR Xg75 hx hZ eg75 Arv76 (j := (9 : Int32)) in77 rfl (Sto.ofV Arv76 qv76 F78 (Ins.self F79)) (g := (mkF m 68 #[.val (.int p1), .unset, .unset, .unset] [(.ref w_MASK_OUTER), (.int (9 : Int32)), (.ref ba1), (.ref ba1)])) rfl rfl (hb hby at_68)
  have Vw80 : Arv Z hw80 ba1 ka1 (.object "com/example/fionn/fionn/cql/Functions$Generic") (21 : Int32) [(.ref w_TO_JSON), (.ref w_FROM_JSON), (.ref w_TOKEN), (.ref w_MIN), (.ref w_MAX), (.ref w_MASK_NULL), (.ref w_MASK_DEFAULT), (.ref w_MASK_REPLACE), (.ref w_MASK_INNER), (.ref w_MASK_OUTER), .null, .null, .null, .null, .null, .null, .null, .null, .null, .null, .null] .null := Arv.set Arv76 qv76 Sv76 Nv76 Hv76 Gv76 rfl Ww80 9 rfl (Nat.le_of_ble_eq_true rfl)
  have Nw80 := Fr.snoc Xw80 Nw72 g_ba1
  have K81 : Keep h0 hw80 [] := K73.wr Ww80 (Or.inr y_ba1)
  have F82 := (own_sta_keep0 S_MASK_HASH K81)
  obtain ⟨Tg83, Xg83, eg83, stg83⟩ := getS2 Xw80 hx hZ hown (host := "") (Or.inl (hw _ (List.mem_of_getElem? (i := 24) rfl))) Via.refl ew80 F82 (g := (mkF m 72 #[.val (.int p1), .unset, .unset, .unset] [(.int (10 : Int32)), (.ref ba1), (.ref ba1)])) rfl (hb hby at_72)
  obtain ⟨clv84, Arv84, qv84, Sv84, Nv84, Hv84, Gv84⟩ := id Vw80
  have in85 : ¬ ((10 : Int32) < 0 ∨ clv84.slots.size ≤ ((10 : Int32)).toNatClampNeg) := inb_of Sv84 ⟨by decide, by decide⟩
  have F86 := F78
  have F87 := (E_MASK_HASH.keep K81)
  obtain ⟨Tw88, hw88, Xw88, ew88, Ww88, stw88⟩ := stR Xg83 hx hZ eg83 Arv84 (j := (10 : Int32)) in85 rfl (Sto.ofV Arv84 qv84 F86 (Ins.self F87)) (g := (mkF m 75 #[.val (.int p1), .unset, .unset, .unset] [(.ref w_MASK_HASH), (.int (10 : Int32)), (.ref ba1), (.ref ba1)])) rfl rfl (hb hby at_75)
  have Vw88 : Arv Z hw88 ba1 ka1 (.object "com/example/fionn/fionn/cql/Functions$Generic") (21 : Int32) [(.ref w_TO_JSON), (.ref w_FROM_JSON), (.ref w_TOKEN), (.ref w_MIN), (.ref w_MAX), (.ref w_MASK_NULL), (.ref w_MASK_DEFAULT), (.ref w_MASK_REPLACE), (.ref w_MASK_INNER), (.ref w_MASK_OUTER), (.ref w_MASK_HASH), .null, .null, .null, .null, .null, .null, .null, .null, .null, .null] .null := Arv.set Arv84 qv84 Sv84 Nv84 Hv84 Gv84 rfl Ww88 10 rfl (Nat.le_of_ble_eq_true rfl)
  have Nw88 := Fr.snoc Xw88 Nw80 g_ba1
  have K89 : Keep h0 hw88 [] := K81.wr Ww88 (Or.inr y_ba1)
  have F90 := (own_sta_keep0 S_COLLECTION_COUNT K89)
  obtain ⟨Tg91, Xg91, eg91, stg91⟩ := getS2 Xw88 hx hZ hown (host := "") (Or.inl (hw _ (List.mem_of_getElem? (i := 26) rfl))) Via.refl ew88 F90 (g := (mkF m 79 #[.val (.int p1), .unset, .unset, .unset] [(.int (11 : Int32)), (.ref ba1), (.ref ba1)])) rfl (hb hby at_79)
  obtain ⟨clv92, Arv92, qv92, Sv92, Nv92, Hv92, Gv92⟩ := id Vw88
  have in93 : ¬ ((11 : Int32) < 0 ∨ clv92.slots.size ≤ ((11 : Int32)).toNatClampNeg) := inb_of Sv92 ⟨by decide, by decide⟩
  have F94 := F86
  have F95 := (E_COLLECTION_COUNT.keep K89)
  obtain ⟨Tw96, hw96, Xw96, ew96, Ww96, stw96⟩ := stR Xg91 hx hZ eg91 Arv92 (j := (11 : Int32)) in93 rfl (Sto.ofV Arv92 qv92 F94 (Ins.self F95)) (g := (mkF m 82 #[.val (.int p1), .unset, .unset, .unset] [(.ref w_COLLECTION_COUNT), (.int (11 : Int32)), (.ref ba1), (.ref ba1)])) rfl rfl (hb hby at_82)
  have Vw96 : Arv Z hw96 ba1 ka1 (.object "com/example/fionn/fionn/cql/Functions$Generic") (21 : Int32) [(.ref w_TO_JSON), (.ref w_FROM_JSON), (.ref w_TOKEN), (.ref w_MIN), (.ref w_MAX), (.ref w_MASK_NULL), (.ref w_MASK_DEFAULT), (.ref w_MASK_REPLACE), (.ref w_MASK_INNER), (.ref w_MASK_OUTER), (.ref w_MASK_HASH), (.ref w_COLLECTION_COUNT), .null, .null, .null, .null, .null, .null, .null, .null, .null] .null := Arv.set Arv92 qv92 Sv92 Nv92 Hv92 Gv92 rfl Ww96 11 rfl (Nat.le_of_ble_eq_true rfl)
  have Nw96 := Fr.snoc Xw96 Nw88 g_ba1
  have K97 : Keep h0 hw96 [] := K89.wr Ww96 (Or.inr y_ba1)
  have F98 := (own_sta_keep0 S_COLLECTION_MIN K97)
  obtain ⟨Tg99, Xg99, eg99, stg99⟩ := getS2 Xw96 hx hZ hown (host := "") (Or.inl (hw _ (List.mem_of_getElem? (i := 28) rfl))) Via.refl ew96 F98 (g := (mkF m 86 #[.val (.int p1), .unset, .unset, .unset] [(.int (12 : Int32)), (.ref ba1), (.ref ba1)])) rfl (hb hby at_86)
  obtain ⟨clv100, Arv100, qv100, Sv100, Nv100, Hv100, Gv100⟩ := id Vw96
  have in101 : ¬ ((12 : Int32) < 0 ∨ clv100.slots.size ≤ ((12 : Int32)).toNatClampNeg) := inb_of Sv100 ⟨by decide, by decide⟩
  have F102 := F94
  have F103 := (E_COLLECTION_MIN.keep K97)
  obtain ⟨Tw104, hw104, Xw104, ew104, Ww104, stw104⟩ := stR Xg99 hx hZ eg99 Arv100 (j := (12 : Int32)) in101 rfl (Sto.ofV Arv100 qv100 F102 (Ins.self F103)) (g := (mkF m 89 #[.val (.int p1), .unset, .unset, .unset] [(.ref w_COLLECTION_MIN), (.int (12 : Int32)), (.ref ba1), (.ref ba1)])) rfl rfl (hb hby at_89)
  have Vw104 : Arv Z hw104 ba1 ka1 (.object "com/example/fionn/fionn/cql/Functions$Generic") (21 : Int32) [(.ref w_TO_JSON), (.ref w_FROM_JSON), (.ref w_TOKEN), (.ref w_MIN), (.ref w_MAX), (.ref w_MASK_NULL), (.ref w_MASK_DEFAULT), (.ref w_MASK_REPLACE), (.ref w_MASK_INNER), (.ref w_MASK_OUTER), (.ref w_MASK_HASH), (.ref w_COLLECTION_COUNT), (.ref w_COLLECTION_MIN), .null, .null, .null, .null, .null, .null, .null, .null] .null := Arv.set Arv100 qv100 Sv100 Nv100 Hv100 Gv100 rfl Ww104 12 rfl (Nat.le_of_ble_eq_true rfl)
  have Nw104 := Fr.snoc Xw104 Nw96 g_ba1
  have K105 : Keep h0 hw104 [] := K97.wr Ww104 (Or.inr y_ba1)
  have F106 := (own_sta_keep0 S_COLLECTION_MAX K105)
  obtain ⟨Tg107, Xg107, eg107, stg107⟩ := getS2 Xw104 hx hZ hown (host := "") (Or.inl (hw _ (List.mem_of_getElem? (i := 30) rfl))) Via.refl ew104 F106 (g := (mkF m 93 #[.val (.int p1), .unset, .unset, .unset] [(.int (13 : Int32)), (.ref ba1), (.ref ba1)])) rfl (hb hby at_93)
  obtain ⟨clv108, Arv108, qv108, Sv108, Nv108, Hv108, Gv108⟩ := id Vw104
  have in109 : ¬ ((13 : Int32) < 0 ∨ clv108.slots.size ≤ ((13 : Int32)).toNatClampNeg) := inb_of Sv108 ⟨by decide, by decide⟩
  have F110 := F102
  have F111 := (E_COLLECTION_MAX.keep K105)
  obtain ⟨Tw112, hw112, Xw112, ew112, Ww112, stw112⟩ := stR Xg107 hx hZ eg107 Arv108 (j := (13 : Int32)) in109 rfl (Sto.ofV Arv108 qv108 F110 (Ins.self F111)) (g := (mkF m 96 #[.val (.int p1), .unset, .unset, .unset] [(.ref w_COLLECTION_MAX), (.int (13 : Int32)), (.ref ba1), (.ref ba1)])) rfl rfl (hb hby at_96)
  have Vw112 : Arv Z hw112 ba1 ka1 (.object "com/example/fionn/fionn/cql/Functions$Generic") (21 : Int32) [(.ref w_TO_JSON), (.ref w_FROM_JSON), (.ref w_TOKEN), (.ref w_MIN), (.ref w_MAX), (.ref w_MASK_NULL), (.ref w_MASK_DEFAULT), (.ref w_MASK_REPLACE), (.ref w_MASK_INNER), (.ref w_MASK_OUTER), (.ref w_MASK_HASH), (.ref w_COLLECTION_COUNT), (.ref w_COLLECTION_MIN), (.ref w_COLLECTION_MAX), .null, .null, .null, .null, .null, .null, .null] .null := Arv.set Arv108 qv108 Sv108 Nv108 Hv108 Gv108 rfl Ww112 13 rfl (Nat.le_of_ble_eq_true rfl)
  have Nw112 := Fr.snoc Xw112 Nw104 g_ba1
  have K113 : Keep h0 hw112 [] := K105.wr Ww112 (Or.inr y_ba1)
  have F114 := (own_sta_keep0 S_COLLECTION_SUM K113)
  obtain ⟨Tg115, Xg115, eg115, stg115⟩ := getS2 Xw112 hx hZ hown (host := "") (Or.inl (hw _ (List.mem_of_getElem? (i := 32) rfl))) Via.refl ew112 F114 (g := (mkF m 100 #[.val (.int p1), .unset, .unset, .unset] [(.int (14 : Int32)), (.ref ba1), (.ref ba1)])) rfl (hb hby at_100)
  obtain ⟨clv116, Arv116, qv116, Sv116, Nv116, Hv116, Gv116⟩ := id Vw112
  have in117 : ¬ ((14 : Int32) < 0 ∨ clv116.slots.size ≤ ((14 : Int32)).toNatClampNeg) := inb_of Sv116 ⟨by decide, by decide⟩
  have F118 := F110
  have F119 := (E_COLLECTION_SUM.keep K113)
  obtain ⟨Tw120, hw120, Xw120, ew120, Ww120, stw120⟩ := stR Xg115 hx hZ eg115 Arv116 (j := (14 : Int32)) in117 rfl (Sto.ofV Arv116 qv116 F118 (Ins.self F119)) (g := (mkF m 103 #[.val (.int p1), .unset, .unset, .unset] [(.ref w_COLLECTION_SUM), (.int (14 : Int32)), (.ref ba1), (.ref ba1)])) rfl rfl (hb hby at_103)
  have Vw120 : Arv Z hw120 ba1 ka1 (.object "com/example/fionn/fionn/cql/Functions$Generic") (21 : Int32) [(.ref w_TO_JSON), (.ref w_FROM_JSON), (.ref w_TOKEN), (.ref w_MIN), (.ref w_MAX), (.ref w_MASK_NULL), (.ref w_MASK_DEFAULT), (.ref w_MASK_REPLACE), (.ref w_MASK_INNER), (.ref w_MASK_OUTER), (.ref w_MASK_HASH), (.ref w_COLLECTION_COUNT), (.ref w_COLLECTION_MIN), (.ref w_COLLECTION_MAX), (.ref w_COLLECTION_SUM), .null, .null, .null, .null, .null, .null] .null := Arv.set Arv116 qv116 Sv116 Nv116 Hv116 Gv116 rfl Ww120 14 rfl (Nat.le_of_ble_eq_true rfl)
  have Nw120 := Fr.snoc Xw120 Nw112 g_ba1
  have K121 : Keep h0 hw120 [] := K113.wr Ww120 (Or.inr y_ba1)
  have F122 := (own_sta_keep0 S_COLLECTION_AVG K121)
  obtain ⟨Tg123, Xg123, eg123, stg123⟩ := getS2 Xw120 hx hZ hown (host := "") (Or.inl (hw _ (List.mem_of_getElem? (i := 34) rfl))) Via.refl ew120 F122 (g := (mkF m 107 #[.val (.int p1), .unset, .unset, .unset] [(.int (15 : Int32)), (.ref ba1), (.ref ba1)])) rfl (hb hby at_107)
  obtain ⟨clv124, Arv124, qv124, Sv124, Nv124, Hv124, Gv124⟩ := id Vw120
  have in125 : ¬ ((15 : Int32) < 0 ∨ clv124.slots.size ≤ ((15 : Int32)).toNatClampNeg) := inb_of Sv124 ⟨by decide, by decide⟩
  have F126 := F118
  have F127 := (E_COLLECTION_AVG.keep K121)
  obtain ⟨Tw128, hw128, Xw128, ew128, Ww128, stw128⟩ := stR Xg123 hx hZ eg123 Arv124 (j := (15 : Int32)) in125 rfl (Sto.ofV Arv124 qv124 F126 (Ins.self F127)) (g := (mkF m 110 #[.val (.int p1), .unset, .unset, .unset] [(.ref w_COLLECTION_AVG), (.int (15 : Int32)), (.ref ba1), (.ref ba1)])) rfl rfl (hb hby at_110)
  have Vw128 : Arv Z hw128 ba1 ka1 (.object "com/example/fionn/fionn/cql/Functions$Generic") (21 : Int32) [(.ref w_TO_JSON), (.ref w_FROM_JSON), (.ref w_TOKEN), (.ref w_MIN), (.ref w_MAX), (.ref w_MASK_NULL), (.ref w_MASK_DEFAULT), (.ref w_MASK_REPLACE), (.ref w_MASK_INNER), (.ref w_MASK_OUTER), (.ref w_MASK_HASH), (.ref w_COLLECTION_COUNT), (.ref w_COLLECTION_MIN), (.ref w_COLLECTION_MAX), (.ref w_COLLECTION_SUM), (.ref w_COLLECTION_AVG), .null, .null, .null, .null, .null] .null := Arv.set Arv124 qv124 Sv124 Nv124 Hv124 Gv124 rfl Ww128 15 rfl (Nat.le_of_ble_eq_true rfl)
  have Nw128 := Fr.snoc Xw128 Nw120 g_ba1
  have K129 : Keep h0 hw128 [] := K121.wr Ww128 (Or.inr y_ba1)
  have F130 := (own_sta_keep0 S_MAP_KEYS K129)
  obtain ⟨Tg131, Xg131, eg131, stg131⟩ := getS2 Xw128 hx hZ hown (host := "") (Or.inl (hw _ (List.mem_of_getElem? (i := 36) rfl))) Via.refl ew128 F130 (g := (mkF m 114 #[.val (.int p1), .unset, .unset, .unset] [(.int (16 : Int32)), (.ref ba1), (.ref ba1)])) rfl (hb hby at_114)
  obtain ⟨clv132, Arv132, qv132, Sv132, Nv132, Hv132, Gv132⟩ := id Vw128
  have in133 : ¬ ((16 : Int32) < 0 ∨ clv132.slots.size ≤ ((16 : Int32)).toNatClampNeg) := inb_of Sv132 ⟨by decide, by decide⟩
  have F134 := F126
  have F135 := (E_MAP_KEYS.keep K129)
  obtain ⟨Tw136, hw136, Xw136, ew136, Ww136, stw136⟩ := stR Xg131 hx hZ eg131 Arv132 (j := (16 : Int32)) in133 rfl (Sto.ofV Arv132 qv132 F134 (Ins.self F135)) (g := (mkF m 117 #[.val (.int p1), .unset, .unset, .unset] [(.ref w_MAP_KEYS), (.int (16 : Int32)), (.ref ba1), (.ref ba1)])) rfl rfl (hb hby at_117)
  have Vw136 : Arv Z hw136 ba1 ka1 (.object "com/example/fionn/fionn/cql/Functions$Generic") (21 : Int32) [(.ref w_TO_JSON), (.ref w_FROM_JSON), (.ref w_TOKEN), (.ref w_MIN), (.ref w_MAX), (.ref w_MASK_NULL), (.ref w_MASK_DEFAULT), (.ref w_MASK_REPLACE), (.ref w_MASK_INNER), (.ref w_MASK_OUTER), (.ref w_MASK_HASH), (.ref w_COLLECTION_COUNT), (.ref w_COLLECTION_MIN), (.ref w_COLLECTION_MAX), (.ref w_COLLECTION_SUM), (.ref w_COLLECTION_AVG), (.ref w_MAP_KEYS), .null, .null, .null, .null] .null := Arv.set Arv132 qv132 Sv132 Nv132 Hv132 Gv132 rfl Ww136 16 rfl (Nat.le_of_ble_eq_true rfl)
  have Nw136 := Fr.snoc Xw136 Nw128 g_ba1
  have K137 : Keep h0 hw136 [] := K129.wr Ww136 (Or.inr y_ba1)
  have F138 := (own_sta_keep0 S_MAP_VALUES K137)
  obtain ⟨Tg139, Xg139, eg139, stg139⟩ := getS2 Xw136 hx hZ hown (host := "") (Or.inl (hw _ (List.mem_of_getElem? (i := 38) rfl))) Via.refl ew136 F138 (g := (mkF m 121 #[.val (.int p1), .unset, .unset, .unset] [(.int (17 : Int32)), (.ref ba1), (.ref ba1)])) rfl (hb hby at_121)
  obtain ⟨clv140, Arv140, qv140, Sv140, Nv140, Hv140, Gv140⟩ := id Vw136
  have in141 : ¬ ((17 : Int32) < 0 ∨ clv140.slots.size ≤ ((17 : Int32)).toNatClampNeg) := inb_of Sv140 ⟨by decide, by decide⟩
  have F142 := F134
  have F143 := (E_MAP_VALUES.keep K137)
  obtain ⟨Tw144, hw144, Xw144, ew144, Ww144, stw144⟩ := stR Xg139 hx hZ eg139 Arv140 (j := (17 : Int32)) in141 rfl (Sto.ofV Arv140 qv140 F142 (Ins.self F143)) (g := (mkF m 124 #[.val (.int p1), .unset, .unset, .unset] [(.ref w_MAP_VALUES), (.int (17 : Int32)), (.ref ba1), (.ref ba1)])) rfl rfl (hb hby at_124)
  have Vw144 : Arv Z hw144 ba1 ka1 (.object "com/example/fionn/fionn/cql/Functions$Generic") (21 : Int32) [(.ref w_TO_JSON), (.ref w_FROM_JSON), (.ref w_TOKEN), (.ref w_MIN), (.ref w_MAX), (.ref w_MASK_NULL), (.ref w_MASK_DEFAULT), (.ref w_MASK_REPLACE), (.ref w_MASK_INNER), (.ref w_MASK_OUTER), (.ref w_MASK_HASH), (.ref w_COLLECTION_COUNT), (.ref w_COLLECTION_MIN), (.ref w_COLLECTION_MAX), (.ref w_COLLECTION_SUM), (.ref w_COLLECTION_AVG), (.ref w_MAP_KEYS), (.ref w_MAP_VALUES), .null, .null, .null] .null := Arv.set Arv140 qv140 Sv140 Nv140 Hv140 Gv140 rfl Ww144 17 rfl (Nat.le_of_ble_eq_true rfl)
  have Nw144 := Fr.snoc Xw144 Nw136 g_ba1
  have K145 : Keep h0 hw144 [] := K137.wr Ww144 (Or.inr y_ba1)
  have F146 := (own_sta_keep0 S_SIMILARITY_COSINE K145)
  obtain ⟨Tg147, Xg147, eg147, stg147⟩ := getS2 Xw144 hx hZ hown (host := "") (Or.inl (hw _ (List.mem_of_getElem? (i := 40) rfl))) Via.refl ew144 F146 (g := (mkF m 128 #[.val (.int p1), .unset, .unset, .unset] [(.int (18 : Int32)), (.ref ba1), (.ref ba1)])) rfl (hb hby at_128)
  obtain ⟨clv148, Arv148, qv148, Sv148, Nv148, Hv148, Gv148⟩ := id Vw144
  have in149 : ¬ ((18 : Int32) < 0 ∨ clv148.slots.size ≤ ((18 : Int32)).toNatClampNeg) := inb_of Sv148 ⟨by decide, by decide⟩
  have F150 := F142
  have F151 := (E_SIMILARITY_COSINE.keep K145)
  obtain ⟨Tw152, hw152, Xw152, ew152, Ww152, stw152⟩ := stR Xg147 hx hZ eg147 Arv148 (j := (18 : Int32)) in149 rfl (Sto.ofV Arv148 qv148 F150 (Ins.self F151)) (g := (mkF m 131 #[.val (.int p1), .unset, .unset, .unset] [(.ref w_SIMILARITY_COSINE), (.int (18 : Int32)), (.ref ba1), (.ref ba1)])) rfl rfl (hb hby at_131)
  have Vw152 : Arv Z hw152 ba1 ka1 (.object "com/example/fionn/fionn/cql/Functions$Generic") (21 : Int32) [(.ref w_TO_JSON), (.ref w_FROM_JSON), (.ref w_TOKEN), (.ref w_MIN), (.ref w_MAX), (.ref w_MASK_NULL), (.ref w_MASK_DEFAULT), (.ref w_MASK_REPLACE), (.ref w_MASK_INNER), (.ref w_MASK_OUTER), (.ref w_MASK_HASH), (.ref w_COLLECTION_COUNT), (.ref w_COLLECTION_MIN), (.ref w_COLLECTION_MAX), (.ref w_COLLECTION_SUM), (.ref w_COLLECTION_AVG), (.ref w_MAP_KEYS), (.ref w_MAP_VALUES), (.ref w_SIMILARITY_COSINE), .null, .null] .null := Arv.set Arv148 qv148 Sv148 Nv148 Hv148 Gv148 rfl Ww152 18 rfl (Nat.le_of_ble_eq_true rfl)
  have Nw152 := Fr.snoc Xw152 Nw144 g_ba1
  have K153 : Keep h0 hw152 [] := K145.wr Ww152 (Or.inr y_ba1)
  have F154 := (own_sta_keep0 S_SIMILARITY_EUCLIDEAN K153)
  obtain ⟨Tg155, Xg155, eg155, stg155⟩ := getS2 Xw152 hx hZ hown (host := "") (Or.inl (hw _ (List.mem_of_getElem? (i := 42) rfl))) Via.refl ew152 F154 (g := (mkF m 135 #[.val (.int p1), .unset, .unset, .unset] [(.int (19 : Int32)), (.ref ba1), (.ref ba1)])) rfl (hb hby at_135)
  obtain ⟨clv156, Arv156, qv156, Sv156, Nv156, Hv156, Gv156⟩ := id Vw152
  have in157 : ¬ ((19 : Int32) < 0 ∨ clv156.slots.size ≤ ((19 : Int32)).toNatClampNeg) := inb_of Sv156 ⟨by decide, by decide⟩
  have F158 := F150
  have F159 := (E_SIMILARITY_EUCLIDEAN.keep K153)
  obtain ⟨Tw160, hw160, Xw160, ew160, Ww160, stw160⟩ := stR Xg155 hx hZ eg155 Arv156 (j := (19 : Int32)) in157 rfl (Sto.ofV Arv156 qv156 F158 (Ins.self F159)) (g := (mkF m 138 #[.val (.int p1), .unset, .unset, .unset] [(.ref w_SIMILARITY_EUCLIDEAN), (.int (19 : Int32)), (.ref ba1), (.ref ba1)])) rfl rfl (hb hby at_138)
  have Vw160 : Arv Z hw160 ba1 ka1 (.object "com/example/fionn/fionn/cql/Functions$Generic") (21 : Int32) [(.ref w_TO_JSON), (.ref w_FROM_JSON), (.ref w_TOKEN), (.ref w_MIN), (.ref w_MAX), (.ref w_MASK_NULL), (.ref w_MASK_DEFAULT), (.ref w_MASK_REPLACE), (.ref w_MASK_INNER), (.ref w_MASK_OUTER), (.ref w_MASK_HASH), (.ref w_COLLECTION_COUNT), (.ref w_COLLECTION_MIN), (.ref w_COLLECTION_MAX), (.ref w_COLLECTION_SUM), (.ref w_COLLECTION_AVG), (.ref w_MAP_KEYS), (.ref w_MAP_VALUES), (.ref w_SIMILARITY_COSINE), (.ref w_SIMILARITY_EUCLIDEAN), .null] .null := Arv.set Arv156 qv156 Sv156 Nv156 Hv156 Gv156 rfl Ww160 19 rfl (Nat.le_of_ble_eq_true rfl)
  have Nw160 := Fr.snoc Xw160 Nw152 g_ba1
  have K161 : Keep h0 hw160 [] := K153.wr Ww160 (Or.inr y_ba1)
  have F162 := (own_sta_keep0 S_SIMILARITY_DOT_PRODUCT K161)
  obtain ⟨Tg163, Xg163, eg163, stg163⟩ := getS2 Xw160 hx hZ hown (host := "") (Or.inl (hw _ (List.mem_of_getElem? (i := 44) rfl))) Via.refl ew160 F162 (g := (mkF m 142 #[.val (.int p1), .unset, .unset, .unset] [(.int (20 : Int32)), (.ref ba1), (.ref ba1)])) rfl (hb hby at_142)
  obtain ⟨clv164, Arv164, qv164, Sv164, Nv164, Hv164, Gv164⟩ := id Vw160
  have in165 : ¬ ((20 : Int32) < 0 ∨ clv164.slots.size ≤ ((20 : Int32)).toNatClampNeg) := inb_of Sv164 ⟨by decide, by decide⟩
  have F166 := F158
  have F167 := (E_SIMILARITY_DOT_PRODUCT.keep K161)
  obtain ⟨Tw168, hw168, Xw168, ew168, Ww168, stw168⟩ := stR Xg163 hx hZ eg163 Arv164 (j := (20 : Int32)) in165 rfl (Sto.ofV Arv164 qv164 F166 (Ins.self F167)) (g := (mkF m 145 #[.val (.int p1), .unset, .unset, .unset] [(.ref w_SIMILARITY_DOT_PRODUCT), (.int (20 : Int32)), (.ref ba1), (.ref ba1)])) rfl rfl (hb hby at_145)
  have Vw168 : Arv Z hw168 ba1 ka1 (.object "com/example/fionn/fionn/cql/Functions$Generic") (21 : Int32) [(.ref w_TO_JSON), (.ref w_FROM_JSON), (.ref w_TOKEN), (.ref w_MIN), (.ref w_MAX), (.ref w_MASK_NULL), (.ref w_MASK_DEFAULT), (.ref w_MASK_REPLACE), (.ref w_MASK_INNER), (.ref w_MASK_OUTER), (.ref w_MASK_HASH), (.ref w_COLLECTION_COUNT), (.ref w_COLLECTION_MIN), (.ref w_COLLECTION_MAX), (.ref w_COLLECTION_SUM), (.ref w_COLLECTION_AVG), (.ref w_MAP_KEYS), (.ref w_MAP_VALUES), (.ref w_SIMILARITY_COSINE), (.ref w_SIMILARITY_EUCLIDEAN), (.ref w_SIMILARITY_DOT_PRODUCT)] .null := Arv.set Arv164 qv164 Sv164 Nv164 Hv164 Gv164 rfl Ww168 20 rfl (Nat.le_of_ble_eq_true rfl)
  have Nw168 := Fr.snoc Xw168 Nw160 g_ba1
  have K169 : Keep h0 hw168 [] := K161.wr Ww168 (Or.inr y_ba1)
  have r170 : ∀ t, Sp p e below Tw168 (mkF m 155 #[.val (.int p1), .val (.ref ba1), .val (.int ((p1 &&& (2147483647 : Int32)) % (21 : Int32))), .unset] []) t → Sp p e below s₁ (entryFrame m #[(.int p1)] maxLocals) t := by
    intro t k
    refine pre0 _ ?_
    refine XS.bipush X0.here hx rfl (hb hby at_0) ?_
    show Sp p e below s₁ (mkF m 2 #[.val (.int p1), .unset, .unset, .unset] [(.int (21 : Int32))]) _
    refine sta1 _ ?_
    show Sp p e below Ta1 (mkF m 5 #[.val (.int p1), .unset, .unset, .unset] [(.ref ba1)]) _
    refine XS.dup Xa1.here hx rfl (hb hby at_5) rfl rfl ?_
    show Sp p e below Ta1 (mkF m 6 #[.val (.int p1), .unset, .unset, .unset] [(.ref ba1), (.ref ba1)]) _
    refine XS.iconst Xa1.here hx rfl (hb hby at_6) ?_
    show Sp p e below Ta1 (mkF m 7 #[.val (.int p1), .unset, .unset, .unset] [(.int (0 : Int32)), (.ref ba1), (.ref ba1)]) _
    refine stg4 _ ?_
    show Sp p e below Tg4 (mkF m 10 #[.val (.int p1), .unset, .unset, .unset] [(.ref w_TO_JSON), (.int (0 : Int32)), (.ref ba1), (.ref ba1)]) _
    refine stw8 _ ?_
    show Sp p e below Tw8 (mkF m 11 #[.val (.int p1), .unset, .unset, .unset] [(.ref ba1)]) _
    refine XS.dup Xw8.here hx rfl (hb hby at_11) rfl rfl ?_
    show Sp p e below Tw8 (mkF m 12 #[.val (.int p1), .unset, .unset, .unset] [(.ref ba1), (.ref ba1)]) _
    refine XS.iconst Xw8.here hx rfl (hb hby at_12) ?_
    show Sp p e below Tw8 (mkF m 13 #[.val (.int p1), .unset, .unset, .unset] [(.int (1 : Int32)), (.ref ba1), (.ref ba1)]) _
    refine stg11 _ ?_
    show Sp p e below Tg11 (mkF m 16 #[.val (.int p1), .unset, .unset, .unset] [(.ref w_FROM_JSON), (.int (1 : Int32)), (.ref ba1), (.ref ba1)]) _
    refine stw16 _ ?_
    show Sp p e below Tw16 (mkF m 17 #[.val (.int p1), .unset, .unset, .unset] [(.ref ba1)]) _
    refine XS.dup Xw16.here hx rfl (hb hby at_17) rfl rfl ?_
    show Sp p e below Tw16 (mkF m 18 #[.val (.int p1), .unset, .unset, .unset] [(.ref ba1), (.ref ba1)]) _
    refine XS.iconst Xw16.here hx rfl (hb hby at_18) ?_
    show Sp p e below Tw16 (mkF m 19 #[.val (.int p1), .unset, .unset, .unset] [(.int (2 : Int32)), (.ref ba1), (.ref ba1)]) _
    refine stg19 _ ?_
    show Sp p e below Tg19 (mkF m 22 #[.val (.int p1), .unset, .unset, .unset] [(.ref w_TOKEN), (.int (2 : Int32)), (.ref ba1), (.ref ba1)]) _
    refine stw24 _ ?_
    show Sp p e below Tw24 (mkF m 23 #[.val (.int p1), .unset, .unset, .unset] [(.ref ba1)]) _
    refine XS.dup Xw24.here hx rfl (hb hby at_23) rfl rfl ?_
    show Sp p e below Tw24 (mkF m 24 #[.val (.int p1), .unset, .unset, .unset] [(.ref ba1), (.ref ba1)]) _
    refine XS.iconst Xw24.here hx rfl (hb hby at_24) ?_
    show Sp p e below Tw24 (mkF m 25 #[.val (.int p1), .unset, .unset, .unset] [(.int (3 : Int32)), (.ref ba1), (.ref ba1)]) _
    refine stg27 _ ?_
    show Sp p e below Tg27 (mkF m 28 #[.val (.int p1), .unset, .unset, .unset] [(.ref w_MIN), (.int (3 : Int32)), (.ref ba1), (.ref ba1)]) _
    refine stw32 _ ?_
    show Sp p e below Tw32 (mkF m 29 #[.val (.int p1), .unset, .unset, .unset] [(.ref ba1)]) _
    refine XS.dup Xw32.here hx rfl (hb hby at_29) rfl rfl ?_
    show Sp p e below Tw32 (mkF m 30 #[.val (.int p1), .unset, .unset, .unset] [(.ref ba1), (.ref ba1)]) _
    refine XS.iconst Xw32.here hx rfl (hb hby at_30) ?_
    show Sp p e below Tw32 (mkF m 31 #[.val (.int p1), .unset, .unset, .unset] [(.int (4 : Int32)), (.ref ba1), (.ref ba1)]) _
    refine stg35 _ ?_
    show Sp p e below Tg35 (mkF m 34 #[.val (.int p1), .unset, .unset, .unset] [(.ref w_MAX), (.int (4 : Int32)), (.ref ba1), (.ref ba1)]) _
    refine stw40 _ ?_
    show Sp p e below Tw40 (mkF m 35 #[.val (.int p1), .unset, .unset, .unset] [(.ref ba1)]) _
    refine XS.dup Xw40.here hx rfl (hb hby at_35) rfl rfl ?_
    show Sp p e below Tw40 (mkF m 36 #[.val (.int p1), .unset, .unset, .unset] [(.ref ba1), (.ref ba1)]) _
    refine XS.iconst Xw40.here hx rfl (hb hby at_36) ?_
    show Sp p e below Tw40 (mkF m 37 #[.val (.int p1), .unset, .unset, .unset] [(.int (5 : Int32)), (.ref ba1), (.ref ba1)]) _
    refine stg43 _ ?_
    show Sp p e below Tg43 (mkF m 40 #[.val (.int p1), .unset, .unset, .unset] [(.ref w_MASK_NULL), (.int (5 : Int32)), (.ref ba1), (.ref ba1)]) _
    refine stw48 _ ?_
    show Sp p e below Tw48 (mkF m 41 #[.val (.int p1), .unset, .unset, .unset] [(.ref ba1)]) _
    refine XS.dup Xw48.here hx rfl (hb hby at_41) rfl rfl ?_
    show Sp p e below Tw48 (mkF m 42 #[.val (.int p1), .unset, .unset, .unset] [(.ref ba1), (.ref ba1)]) _
    refine XS.bipush Xw48.here hx rfl (hb hby at_42) ?_
    show Sp p e below Tw48 (mkF m 44 #[.val (.int p1), .unset, .unset, .unset] [(.int (6 : Int32)), (.ref ba1), (.ref ba1)]) _
    refine stg51 _ ?_
    show Sp p e below Tg51 (mkF m 47 #[.val (.int p1), .unset, .unset, .unset] [(.ref w_MASK_DEFAULT), (.int (6 : Int32)), (.ref ba1), (.ref ba1)]) _
    refine stw56 _ ?_
    show Sp p e below Tw56 (mkF m 48 #[.val (.int p1), .unset, .unset, .unset] [(.ref ba1)]) _
    refine XS.dup Xw56.here hx rfl (hb hby at_48) rfl rfl ?_
    show Sp p e below Tw56 (mkF m 49 #[.val (.int p1), .unset, .unset, .unset] [(.ref ba1), (.ref ba1)]) _
    refine XS.bipush Xw56.here hx rfl (hb hby at_49) ?_
    show Sp p e below Tw56 (mkF m 51 #[.val (.int p1), .unset, .unset, .unset] [(.int (7 : Int32)), (.ref ba1), (.ref ba1)]) _
    refine stg59 _ ?_
    show Sp p e below Tg59 (mkF m 54 #[.val (.int p1), .unset, .unset, .unset] [(.ref w_MASK_REPLACE), (.int (7 : Int32)), (.ref ba1), (.ref ba1)]) _
    refine stw64 _ ?_
    show Sp p e below Tw64 (mkF m 55 #[.val (.int p1), .unset, .unset, .unset] [(.ref ba1)]) _
    refine XS.dup Xw64.here hx rfl (hb hby at_55) rfl rfl ?_
    show Sp p e below Tw64 (mkF m 56 #[.val (.int p1), .unset, .unset, .unset] [(.ref ba1), (.ref ba1)]) _
    refine XS.bipush Xw64.here hx rfl (hb hby at_56) ?_
    show Sp p e below Tw64 (mkF m 58 #[.val (.int p1), .unset, .unset, .unset] [(.int (8 : Int32)), (.ref ba1), (.ref ba1)]) _
    refine stg67 _ ?_
    show Sp p e below Tg67 (mkF m 61 #[.val (.int p1), .unset, .unset, .unset] [(.ref w_MASK_INNER), (.int (8 : Int32)), (.ref ba1), (.ref ba1)]) _
    refine stw72 _ ?_
    show Sp p e below Tw72 (mkF m 62 #[.val (.int p1), .unset, .unset, .unset] [(.ref ba1)]) _
    refine XS.dup Xw72.here hx rfl (hb hby at_62) rfl rfl ?_
    show Sp p e below Tw72 (mkF m 63 #[.val (.int p1), .unset, .unset, .unset] [(.ref ba1), (.ref ba1)]) _
    refine XS.bipush Xw72.here hx rfl (hb hby at_63) ?_
    show Sp p e below Tw72 (mkF m 65 #[.val (.int p1), .unset, .unset, .unset] [(.int (9 : Int32)), (.ref ba1), (.ref ba1)]) _
    refine stg75 _ ?_
    show Sp p e below Tg75 (mkF m 68 #[.val (.int p1), .unset, .unset, .unset] [(.ref w_MASK_OUTER), (.int (9 : Int32)), (.ref ba1), (.ref ba1)]) _
    refine stw80 _ ?_
    show Sp p e below Tw80 (mkF m 69 #[.val (.int p1), .unset, .unset, .unset] [(.ref ba1)]) _
    refine XS.dup Xw80.here hx rfl (hb hby at_69) rfl rfl ?_
    show Sp p e below Tw80 (mkF m 70 #[.val (.int p1), .unset, .unset, .unset] [(.ref ba1), (.ref ba1)]) _
    refine XS.bipush Xw80.here hx rfl (hb hby at_70) ?_
    show Sp p e below Tw80 (mkF m 72 #[.val (.int p1), .unset, .unset, .unset] [(.int (10 : Int32)), (.ref ba1), (.ref ba1)]) _
    refine stg83 _ ?_
    show Sp p e below Tg83 (mkF m 75 #[.val (.int p1), .unset, .unset, .unset] [(.ref w_MASK_HASH), (.int (10 : Int32)), (.ref ba1), (.ref ba1)]) _
    refine stw88 _ ?_
    show Sp p e below Tw88 (mkF m 76 #[.val (.int p1), .unset, .unset, .unset] [(.ref ba1)]) _
    refine XS.dup Xw88.here hx rfl (hb hby at_76) rfl rfl ?_
    show Sp p e below Tw88 (mkF m 77 #[.val (.int p1), .unset, .unset, .unset] [(.ref ba1), (.ref ba1)]) _
    refine XS.bipush Xw88.here hx rfl (hb hby at_77) ?_
    show Sp p e below Tw88 (mkF m 79 #[.val (.int p1), .unset, .unset, .unset] [(.int (11 : Int32)), (.ref ba1), (.ref ba1)]) _
    refine stg91 _ ?_
    show Sp p e below Tg91 (mkF m 82 #[.val (.int p1), .unset, .unset, .unset] [(.ref w_COLLECTION_COUNT), (.int (11 : Int32)), (.ref ba1), (.ref ba1)]) _
    refine stw96 _ ?_
    show Sp p e below Tw96 (mkF m 83 #[.val (.int p1), .unset, .unset, .unset] [(.ref ba1)]) _
    refine XS.dup Xw96.here hx rfl (hb hby at_83) rfl rfl ?_
    show Sp p e below Tw96 (mkF m 84 #[.val (.int p1), .unset, .unset, .unset] [(.ref ba1), (.ref ba1)]) _
    refine XS.bipush Xw96.here hx rfl (hb hby at_84) ?_
    show Sp p e below Tw96 (mkF m 86 #[.val (.int p1), .unset, .unset, .unset] [(.int (12 : Int32)), (.ref ba1), (.ref ba1)]) _
    refine stg99 _ ?_
    show Sp p e below Tg99 (mkF m 89 #[.val (.int p1), .unset, .unset, .unset] [(.ref w_COLLECTION_MIN), (.int (12 : Int32)), (.ref ba1), (.ref ba1)]) _
    refine stw104 _ ?_
    show Sp p e below Tw104 (mkF m 90 #[.val (.int p1), .unset, .unset, .unset] [(.ref ba1)]) _
    refine XS.dup Xw104.here hx rfl (hb hby at_90) rfl rfl ?_
    show Sp p e below Tw104 (mkF m 91 #[.val (.int p1), .unset, .unset, .unset] [(.ref ba1), (.ref ba1)]) _
    refine XS.bipush Xw104.here hx rfl (hb hby at_91) ?_
    show Sp p e below Tw104 (mkF m 93 #[.val (.int p1), .unset, .unset, .unset] [(.int (13 : Int32)), (.ref ba1), (.ref ba1)]) _
    refine stg107 _ ?_
    show Sp p e below Tg107 (mkF m 96 #[.val (.int p1), .unset, .unset, .unset] [(.ref w_COLLECTION_MAX), (.int (13 : Int32)), (.ref ba1), (.ref ba1)]) _
    refine stw112 _ ?_
    show Sp p e below Tw112 (mkF m 97 #[.val (.int p1), .unset, .unset, .unset] [(.ref ba1)]) _
    refine XS.dup Xw112.here hx rfl (hb hby at_97) rfl rfl ?_
    show Sp p e below Tw112 (mkF m 98 #[.val (.int p1), .unset, .unset, .unset] [(.ref ba1), (.ref ba1)]) _
    refine XS.bipush Xw112.here hx rfl (hb hby at_98) ?_
    show Sp p e below Tw112 (mkF m 100 #[.val (.int p1), .unset, .unset, .unset] [(.int (14 : Int32)), (.ref ba1), (.ref ba1)]) _
    refine stg115 _ ?_
    show Sp p e below Tg115 (mkF m 103 #[.val (.int p1), .unset, .unset, .unset] [(.ref w_COLLECTION_SUM), (.int (14 : Int32)), (.ref ba1), (.ref ba1)]) _
    refine stw120 _ ?_
    show Sp p e below Tw120 (mkF m 104 #[.val (.int p1), .unset, .unset, .unset] [(.ref ba1)]) _
    refine XS.dup Xw120.here hx rfl (hb hby at_104) rfl rfl ?_
    show Sp p e below Tw120 (mkF m 105 #[.val (.int p1), .unset, .unset, .unset] [(.ref ba1), (.ref ba1)]) _
    refine XS.bipush Xw120.here hx rfl (hb hby at_105) ?_
    show Sp p e below Tw120 (mkF m 107 #[.val (.int p1), .unset, .unset, .unset] [(.int (15 : Int32)), (.ref ba1), (.ref ba1)]) _
    refine stg123 _ ?_
    show Sp p e below Tg123 (mkF m 110 #[.val (.int p1), .unset, .unset, .unset] [(.ref w_COLLECTION_AVG), (.int (15 : Int32)), (.ref ba1), (.ref ba1)]) _
    refine stw128 _ ?_
    show Sp p e below Tw128 (mkF m 111 #[.val (.int p1), .unset, .unset, .unset] [(.ref ba1)]) _
    refine XS.dup Xw128.here hx rfl (hb hby at_111) rfl rfl ?_
    show Sp p e below Tw128 (mkF m 112 #[.val (.int p1), .unset, .unset, .unset] [(.ref ba1), (.ref ba1)]) _
    refine XS.bipush Xw128.here hx rfl (hb hby at_112) ?_
    show Sp p e below Tw128 (mkF m 114 #[.val (.int p1), .unset, .unset, .unset] [(.int (16 : Int32)), (.ref ba1), (.ref ba1)]) _
    refine stg131 _ ?_
    show Sp p e below Tg131 (mkF m 117 #[.val (.int p1), .unset, .unset, .unset] [(.ref w_MAP_KEYS), (.int (16 : Int32)), (.ref ba1), (.ref ba1)]) _
    refine stw136 _ ?_
    show Sp p e below Tw136 (mkF m 118 #[.val (.int p1), .unset, .unset, .unset] [(.ref ba1)]) _
    refine XS.dup Xw136.here hx rfl (hb hby at_118) rfl rfl ?_
    show Sp p e below Tw136 (mkF m 119 #[.val (.int p1), .unset, .unset, .unset] [(.ref ba1), (.ref ba1)]) _
    refine XS.bipush Xw136.here hx rfl (hb hby at_119) ?_
    show Sp p e below Tw136 (mkF m 121 #[.val (.int p1), .unset, .unset, .unset] [(.int (17 : Int32)), (.ref ba1), (.ref ba1)]) _
    refine stg139 _ ?_
    show Sp p e below Tg139 (mkF m 124 #[.val (.int p1), .unset, .unset, .unset] [(.ref w_MAP_VALUES), (.int (17 : Int32)), (.ref ba1), (.ref ba1)]) _
    refine stw144 _ ?_
    show Sp p e below Tw144 (mkF m 125 #[.val (.int p1), .unset, .unset, .unset] [(.ref ba1)]) _
    refine XS.dup Xw144.here hx rfl (hb hby at_125) rfl rfl ?_
    show Sp p e below Tw144 (mkF m 126 #[.val (.int p1), .unset, .unset, .unset] [(.ref ba1), (.ref ba1)]) _
    refine XS.bipush Xw144.here hx rfl (hb hby at_126) ?_
    show Sp p e below Tw144 (mkF m 128 #[.val (.int p1), .unset, .unset, .unset] [(.int (18 : Int32)), (.ref ba1), (.ref ba1)]) _
    refine stg147 _ ?_
    show Sp p e below Tg147 (mkF m 131 #[.val (.int p1), .unset, .unset, .unset] [(.ref w_SIMILARITY_COSINE), (.int (18 : Int32)), (.ref ba1), (.ref ba1)]) _
    refine stw152 _ ?_
    show Sp p e below Tw152 (mkF m 132 #[.val (.int p1), .unset, .unset, .unset] [(.ref ba1)]) _
    refine XS.dup Xw152.here hx rfl (hb hby at_132) rfl rfl ?_
    show Sp p e below Tw152 (mkF m 133 #[.val (.int p1), .unset, .unset, .unset] [(.ref ba1), (.ref ba1)]) _
    refine XS.bipush Xw152.here hx rfl (hb hby at_133) ?_
    show Sp p e below Tw152 (mkF m 135 #[.val (.int p1), .unset, .unset, .unset] [(.int (19 : Int32)), (.ref ba1), (.ref ba1)]) _
    refine stg155 _ ?_
    show Sp p e below Tg155 (mkF m 138 #[.val (.int p1), .unset, .unset, .unset] [(.ref w_SIMILARITY_EUCLIDEAN), (.int (19 : Int32)), (.ref ba1), (.ref ba1)]) _
    refine stw160 _ ?_
    show Sp p e below Tw160 (mkF m 139 #[.val (.int p1), .unset, .unset, .unset] [(.ref ba1)]) _
    refine XS.dup Xw160.here hx rfl (hb hby at_139) rfl rfl ?_
    show Sp p e below Tw160 (mkF m 140 #[.val (.int p1), .unset, .unset, .unset] [(.ref ba1), (.ref ba1)]) _
    refine XS.bipush Xw160.here hx rfl (hb hby at_140) ?_
    show Sp p e below Tw160 (mkF m 142 #[.val (.int p1), .unset, .unset, .unset] [(.int (20 : Int32)), (.ref ba1), (.ref ba1)]) _
    refine stg163 _ ?_
    show Sp p e below Tg163 (mkF m 145 #[.val (.int p1), .unset, .unset, .unset] [(.ref w_SIMILARITY_DOT_PRODUCT), (.int (20 : Int32)), (.ref ba1), (.ref ba1)]) _
    refine stw168 _ ?_
    show Sp p e below Tw168 (mkF m 146 #[.val (.int p1), .unset, .unset, .unset] [(.ref ba1)]) _
    refine XS.astoreN Xw168.here hx rfl (hb hby at_146) rfl rfl (l' := #[.val (.int p1), .val (.ref ba1), .unset, .unset]) rfl ?_
    show Sp p e below Tw168 (mkF m 147 #[.val (.int p1), .val (.ref ba1), .unset, .unset] []) _
    refine XS.iloadN Xw168.here hx rfl (hb hby at_147) rfl ?_
    show Sp p e below Tw168 (mkF m 148 #[.val (.int p1), .val (.ref ba1), .unset, .unset] [(.int p1)]) _
    refine Jvm.Stand.ldcI Xw168 hx hown (mvT hZ (hw _ (List.mem_of_getElem? (i := 46) rfl))) rfl (hb hby at_148) ?_
    show Sp p e below Tw168 (mkF m 150 #[.val (.int p1), .val (.ref ba1), .unset, .unset] [(.int (2147483647 : Int32)), (.int p1)]) _
    refine XS.iand Xw168.here hx rfl (hb hby at_150) rfl ?_
    show Sp p e below Tw168 (mkF m 151 #[.val (.int p1), .val (.ref ba1), .unset, .unset] [(.int (p1 &&& (2147483647 : Int32)))]) _
    refine XS.bipush Xw168.here hx rfl (hb hby at_151) ?_
    show Sp p e below Tw168 (mkF m 153 #[.val (.int p1), .val (.ref ba1), .unset, .unset] [(.int (21 : Int32)), (.int (p1 &&& (2147483647 : Int32)))]) _
    refine iremM Xw168 hx rfl (hb hby at_153) rfl (by decide) ?_
    show Sp p e below Tw168 (mkF m 154 #[.val (.int p1), .val (.ref ba1), .unset, .unset] [(.int ((p1 &&& (2147483647 : Int32)) % (21 : Int32)))]) _
    refine XS.istoreN Xw168.here hx rfl (hb hby at_154) rfl (l' := #[.val (.int p1), .val (.ref ba1), .val (.int ((p1 &&& (2147483647 : Int32)) % (21 : Int32))), .unset]) rfl ?_
    show Sp p e below Tw168 (mkF m 155 #[.val (.int p1), .val (.ref ba1), .val (.int ((p1 &&& (2147483647 : Int32)) % (21 : Int32))), .unset] []) _
    exact k
  have F171 := ((((((((((((((((F42.wr Ww48).wr Ww56).wr Ww64).wr Ww72).wr Ww80).wr Ww88).wr Ww96).wr Ww104).wr Ww112).wr Ww120).wr Ww128).wr Ww136).wr Ww144).wr Ww152).wr Ww160).wr Ww168)
  have F172 := (((((((((((((((F50.wr Ww56).wr Ww64).wr Ww72).wr Ww80).wr Ww88).wr Ww96).wr Ww104).wr Ww112).wr Ww120).wr Ww128).wr Ww136).wr Ww144).wr Ww152).wr Ww160).wr Ww168)
  have F173 := ((((((((((((((F58.wr Ww64).wr Ww72).wr Ww80).wr Ww88).wr Ww96).wr Ww104).wr Ww112).wr Ww120).wr Ww128).wr Ww136).wr Ww144).wr Ww152).wr Ww160).wr Ww168)
  have F174 := (((((((((((((F66.wr Ww72).wr Ww80).wr Ww88).wr Ww96).wr Ww104).wr Ww112).wr Ww120).wr Ww128).wr Ww136).wr Ww144).wr Ww152).wr Ww160).wr Ww168)
  have F175 := ((((((((((((F74.wr Ww80).wr Ww88).wr Ww96).wr Ww104).wr Ww112).wr Ww120).wr Ww128).wr Ww136).wr Ww144).wr Ww152).wr Ww160).wr Ww168)
  have F176 := (((((((((((F82.wr Ww88).wr Ww96).wr Ww104).wr Ww112).wr Ww120).wr Ww128).wr Ww136).wr Ww144).wr Ww152).wr Ww160).wr Ww168)
  have F177 := (((((((((((((((((((((F7.wr Ww8).wr Ww16).wr Ww24).wr Ww32).wr Ww40).wr Ww48).wr Ww56).wr Ww64).wr Ww72).wr Ww80).wr Ww88).wr Ww96).wr Ww104).wr Ww112).wr Ww120).wr Ww128).wr Ww136).wr Ww144).wr Ww152).wr Ww160).wr Ww168)
  have F178 := ((((((((((((((((((((F15.wr Ww16).wr Ww24).wr Ww32).wr Ww40).wr Ww48).wr Ww56).wr Ww64).wr Ww72).wr Ww80).wr Ww88).wr Ww96).wr Ww104).wr Ww112).wr Ww120).wr Ww128).wr Ww136).wr Ww144).wr Ww152).wr Ww160).wr Ww168)
  have F179 := (((((((((((((((((((F23.wr Ww24).wr Ww32).wr Ww40).wr Ww48).wr Ww56).wr Ww64).wr Ww72).wr Ww80).wr Ww88).wr Ww96).wr Ww104).wr Ww112).wr Ww120).wr Ww128).wr Ww136).wr Ww144).wr Ww152).wr Ww160).wr Ww168)
  have F180 := ((((((((((((((((((F31.wr Ww32).wr Ww40).wr Ww48).wr Ww56).wr Ww64).wr Ww72).wr Ww80).wr Ww88).wr Ww96).wr Ww104).wr Ww112).wr Ww120).wr Ww128).wr Ww136).wr Ww144).wr Ww152).wr Ww160).wr Ww168)
  have F181 := (((((((((((((((((F39.wr Ww40).wr Ww48).wr Ww56).wr Ww64).wr Ww72).wr Ww80).wr Ww88).wr Ww96).wr Ww104).wr Ww112).wr Ww120).wr Ww128).wr Ww136).wr Ww144).wr Ww152).wr Ww160).wr Ww168)
  have F182 := ((((((((((((((((F47.wr Ww48).wr Ww56).wr Ww64).wr Ww72).wr Ww80).wr Ww88).wr Ww96).wr Ww104).wr Ww112).wr Ww120).wr Ww128).wr Ww136).wr Ww144).wr Ww152).wr Ww160).wr Ww168)
  have F183 := (((((((((((((((F55.wr Ww56).wr Ww64).wr Ww72).wr Ww80).wr Ww88).wr Ww96).wr Ww104).wr Ww112).wr Ww120).wr Ww128).wr Ww136).wr Ww144).wr Ww152).wr Ww160).wr Ww168)
  have F184 := ((((((((((((((F63.wr Ww64).wr Ww72).wr Ww80).wr Ww88).wr Ww96).wr Ww104).wr Ww112).wr Ww120).wr Ww128).wr Ww136).wr Ww144).wr Ww152).wr Ww160).wr Ww168)
  have F185 := (((((((((((((F71.wr Ww72).wr Ww80).wr Ww88).wr Ww96).wr Ww104).wr Ww112).wr Ww120).wr Ww128).wr Ww136).wr Ww144).wr Ww152).wr Ww160).wr Ww168)
  have F186 := ((((((((((((F79.wr Ww80).wr Ww88).wr Ww96).wr Ww104).wr Ww112).wr Ww120).wr Ww128).wr Ww136).wr Ww144).wr Ww152).wr Ww160).wr Ww168)
  have F187 := (((((((((((F87.wr Ww88).wr Ww96).wr Ww104).wr Ww112).wr Ww120).wr Ww128).wr Ww136).wr Ww144).wr Ww152).wr Ww160).wr Ww168)
  have F188 := ((((((((((F95.wr Ww96).wr Ww104).wr Ww112).wr Ww120).wr Ww128).wr Ww136).wr Ww144).wr Ww152).wr Ww160).wr Ww168)
  have F189 := (((((((((F103.wr Ww104).wr Ww112).wr Ww120).wr Ww128).wr Ww136).wr Ww144).wr Ww152).wr Ww160).wr Ww168)
  have F190 := ((((((((F111.wr Ww112).wr Ww120).wr Ww128).wr Ww136).wr Ww144).wr Ww152).wr Ww160).wr Ww168)
  have F191 := (((((((F119.wr Ww120).wr Ww128).wr Ww136).wr Ww144).wr Ww152).wr Ww160).wr Ww168)
  have F192 := ((((((F127.wr Ww128).wr Ww136).wr Ww144).wr Ww152).wr Ww160).wr Ww168)
  have F193 := (((((F135.wr Ww136).wr Ww144).wr Ww152).wr Ww160).wr Ww168)
  have F194 := ((((F143.wr Ww144).wr Ww152).wr Ww160).wr Ww168)
  have F195 := (((F151.wr Ww152).wr Ww160).wr Ww168)
  have F196 := ((F159.wr Ww160).wr Ww168)
  have F197 := (F167.wr Ww168)
  have Z198 : n0 ≤ hw168.size := (Nat.le_trans (Nat.le_trans (Nat.le_trans (Nat.le_trans (Nat.le_trans (Nat.le_trans (Nat.le_trans (Nat.le_trans (Nat.le_trans (Nat.le_trans (Nat.le_trans (Nat.le_trans (Nat.le_trans (Nat.le_trans (Nat.le_trans (Nat.le_trans (Nat.le_trans (Nat.le_trans (Nat.le_trans (Nat.le_trans (Nat.le_trans (Nat.le_trans Z0 Ea1.1) (Keep.of_wr Ww8).1) (Keep.of_wr Ww16).1) (Keep.of_wr Ww24).1) (Keep.of_wr Ww32).1) (Keep.of_wr Ww40).1) (Keep.of_wr Ww48).1) (Keep.of_wr Ww56).1) (Keep.of_wr Ww64).1) (Keep.of_wr Ww72).1) (Keep.of_wr Ww80).1) (Keep.of_wr Ww88).1) (Keep.of_wr Ww96).1) (Keep.of_wr Ww104).1) (Keep.of_wr Ww112).1) (Keep.of_wr Ww120).1) (Keep.of_wr Ww128).1) (Keep.of_wr Ww136).1) (Keep.of_wr Ww144).1) (Keep.of_wr Ww152).1) (Keep.of_wr Ww160).1) (Keep.of_wr Ww168).1)
  have O199 : Old Z n0 hw168 := ((((((((((((((((((((((O0.ext Ea1).wr Ww8 g_ba1).wr Ww16 g_ba1).wr Ww24 g_ba1).wr Ww32 g_ba1).wr Ww40 g_ba1).wr Ww48 g_ba1).wr Ww56 g_ba1).wr Ww64 g_ba1).wr Ww72 g_ba1).wr Ww80 g_ba1).wr Ww88 g_ba1).wr Ww96 g_ba1).wr Ww104 g_ba1).wr Ww112 g_ba1).wr Ww120 g_ba1).wr Ww128 g_ba1).wr Ww136 g_ba1).wr Ww144 g_ba1).wr Ww152 g_ba1).wr Ww160 g_ba1).wr Ww168 g_ba1)
  obtain ⟨s₂, o, u1, u2, u3, u4⟩ := tl_tail p l e s m _ below meth c _ _ Z a0 hw p1 ((p1 &&& (2147483647 : Int32)) % (21 : Int32)) ba1 ka1 w_TO_JSON w_FROM_JSON w_TOKEN w_MIN w_MAX w_MASK_NULL w_MASK_DEFAULT w_MASK_REPLACE w_MASK_INNER w_MASK_OUTER w_MASK_HASH w_COLLECTION_COUNT w_COLLECTION_MIN w_COLLECTION_MAX w_COLLECTION_SUM w_COLLECTION_AVG w_MAP_KEYS w_MAP_VALUES w_SIMILARITY_COSINE w_SIMILARITY_EUCLIDEAN w_SIMILARITY_DOT_PRODUCT hw168 n0 Xw168 hx hZ hby hml hown hret Bd.notSynchronized ew168 Nw168 Z198 O199 Vw168 F171 F172 F173 F174 F175 F176 F177 F178 F179 F180 F181 F182 F183 F184 F185 F186 F187 F188 F189 F190 F191 F192 F193 F194 F195 F196 F197 (own_cases21 p1) n_TO_JSON_MASK_NULL n_TO_JSON_MASK_DEFAULT n_TO_JSON_MASK_REPLACE n_TO_JSON_MASK_INNER n_TO_JSON_MASK_OUTER n_TO_JSON_MASK_HASH n_FROM_JSON_MASK_NULL n_FROM_JSON_MASK_DEFAULT n_FROM_JSON_MASK_REPLACE n_FROM_JSON_MASK_INNER n_FROM_JSON_MASK_OUTER n_FROM_JSON_MASK_HASH n_TOKEN_MASK_NULL n_TOKEN_MASK_DEFAULT n_TOKEN_MASK_REPLACE n_TOKEN_MASK_INNER n_TOKEN_MASK_OUTER n_TOKEN_MASK_HASH n_MIN_MASK_NULL n_MIN_MASK_DEFAULT n_MIN_MASK_REPLACE n_MIN_MASK_INNER n_MIN_MASK_OUTER n_MIN_MASK_HASH n_MAX_MASK_NULL n_MAX_MASK_DEFAULT n_MAX_MASK_REPLACE n_MAX_MASK_INNER n_MAX_MASK_OUTER n_MAX_MASK_HASH n_MASK_NULL_MASK_DEFAULT n_MASK_NULL_MASK_REPLACE n_MASK_NULL_MASK_INNER n_MASK_NULL_MASK_OUTER n_MASK_NULL_MASK_HASH n_MASK_DEFAULT_MASK_NULL n_MASK_DEFAULT_MASK_REPLACE n_MASK_DEFAULT_MASK_INNER n_MASK_DEFAULT_MASK_OUTER n_MASK_DEFAULT_MASK_HASH n_MASK_REPLACE_MASK_NULL n_MASK_REPLACE_MASK_DEFAULT n_MASK_REPLACE_MASK_INNER n_MASK_REPLACE_MASK_OUTER n_MASK_REPLACE_MASK_HASH n_MASK_INNER_MASK_NULL n_MASK_INNER_MASK_DEFAULT n_MASK_INNER_MASK_REPLACE n_MASK_INNER_MASK_OUTER n_MASK_INNER_MASK_HASH n_MASK_OUTER_MASK_NULL n_MASK_OUTER_MASK_DEFAULT n_MASK_OUTER_MASK_REPLACE n_MASK_OUTER_MASK_INNER n_MASK_OUTER_MASK_HASH n_MASK_HASH_MASK_NULL n_MASK_HASH_MASK_DEFAULT n_MASK_HASH_MASK_REPLACE n_MASK_HASH_MASK_INNER n_MASK_HASH_MASK_OUTER n_COLLECTION_COUNT_MASK_NULL n_COLLECTION_COUNT_MASK_DEFAULT n_COLLECTION_COUNT_MASK_REPLACE n_COLLECTION_COUNT_MASK_INNER n_COLLECTION_COUNT_MASK_OUTER n_COLLECTION_COUNT_MASK_HASH n_COLLECTION_MIN_MASK_NULL n_COLLECTION_MIN_MASK_DEFAULT n_COLLECTION_MIN_MASK_REPLACE n_COLLECTION_MIN_MASK_INNER n_COLLECTION_MIN_MASK_OUTER n_COLLECTION_MIN_MASK_HASH n_COLLECTION_MAX_MASK_NULL n_COLLECTION_MAX_MASK_DEFAULT n_COLLECTION_MAX_MASK_REPLACE n_COLLECTION_MAX_MASK_INNER n_COLLECTION_MAX_MASK_OUTER n_COLLECTION_MAX_MASK_HASH n_COLLECTION_SUM_MASK_NULL n_COLLECTION_SUM_MASK_DEFAULT n_COLLECTION_SUM_MASK_REPLACE n_COLLECTION_SUM_MASK_INNER n_COLLECTION_SUM_MASK_OUTER n_COLLECTION_SUM_MASK_HASH n_COLLECTION_AVG_MASK_NULL n_COLLECTION_AVG_MASK_DEFAULT n_COLLECTION_AVG_MASK_REPLACE n_COLLECTION_AVG_MASK_INNER n_COLLECTION_AVG_MASK_OUTER n_COLLECTION_AVG_MASK_HASH n_MAP_KEYS_MASK_NULL n_MAP_KEYS_MASK_DEFAULT n_MAP_KEYS_MASK_REPLACE n_MAP_KEYS_MASK_INNER n_MAP_KEYS_MASK_OUTER n_MAP_KEYS_MASK_HASH n_MAP_VALUES_MASK_NULL n_MAP_VALUES_MASK_DEFAULT n_MAP_VALUES_MASK_REPLACE n_MAP_VALUES_MASK_INNER n_MAP_VALUES_MASK_OUTER n_MAP_VALUES_MASK_HASH n_SIMILARITY_COSINE_MASK_NULL n_SIMILARITY_COSINE_MASK_DEFAULT n_SIMILARITY_COSINE_MASK_REPLACE n_SIMILARITY_COSINE_MASK_INNER n_SIMILARITY_COSINE_MASK_OUTER n_SIMILARITY_COSINE_MASK_HASH n_SIMILARITY_EUCLIDEAN_MASK_NULL n_SIMILARITY_EUCLIDEAN_MASK_DEFAULT n_SIMILARITY_EUCLIDEAN_MASK_REPLACE n_SIMILARITY_EUCLIDEAN_MASK_INNER n_SIMILARITY_EUCLIDEAN_MASK_OUTER n_SIMILARITY_EUCLIDEAN_MASK_HASH n_SIMILARITY_DOT_PRODUCT_MASK_NULL n_SIMILARITY_DOT_PRODUCT_MASK_DEFAULT n_SIMILARITY_DOT_PRODUCT_MASK_REPLACE n_SIMILARITY_DOT_PRODUCT_MASK_INNER n_SIMILARITY_DOT_PRODUCT_MASK_OUTER n_SIMILARITY_DOT_PRODUCT_MASK_HASH
  exact ⟨s₂, o, r170 _ u1, u2, u3, u4⟩
set_option maxRecDepth 65536 in
set_option maxHeartbeats 40000000 in
theorem comes_1 {Post : Tables → Env → Array Value → State → Outcome → State → Prop} (hpost : ∀ tb e args s v u, (limb_1_1.after args s (.returned v) u = true ∧ limb_1_2.after args s (.returned v) u = true ∧ True) → FrameEnd s (.returned v) u (Jvm.fieldLocs frame_1_writes args s ++ Jvm.arrayLocs frame_1_arrays args s ++ Jvm.staticLocs frame_1_statics s) 16 128 → Post tb e args s (.returned v) u) :
    ArmFor flags0 classFile x code maxLocals ret World_1 tables_1 room_1 Calls_1 rest_1 Pre_1 Post := by
  intro l hfl _ _ p e ha hc hk s m args below hf hA hF happ hP
  obtain ⟨hcalls, hrest, hpre⟩ := hP
  obtain ⟨-, -, -, hnamed, -, -, -, hat⟩ := (Spec.applies_iff hf).mp happ
  obtain ⟨hg, hn⟩ := and_e (Cond.before_iff.mp (show (Jvm.Cond.and given_1 narrow_1).before args s = true from hpre))
  obtain ⟨hcount, hg0⟩ := and_e hg
  obtain ⟨w0, rfl⟩ : ∃ w0 : Value, args = #[w0] := by
    have hs : args.size = 1 := by simpa [Cond.value, given_1] using hcount
    obtain ⟨L⟩ := args
    match L, hs with
    | [w0], _ => exact ⟨w0, rfl⟩
  obtain ⟨i0, ei0⟩ := is_v hg0
  obtain rfl : w0 = (.int i0) := Option.some.inj ei0
  have hw := fun d (hd : d ∈ tables_1) => atoms_spec (ws := Jvm.Cond.code x code maxLocals ret :: tables_1) hat d (List.mem_cons_of_mem _ hd)
  have hfit : Fit s := fun {y c} hc i hi => by
    obtain ⟨ha, rfl⟩ := Array.getElem?_eq_some_iff.mp hc
    have q := List.all_eq_true.mp ((Array.all_eq_true_iff_forall_mem.mp hF) _ (Array.getElem_mem ha)) i (List.mem_range.mpr hi)
    simpa [Array.getElem?_eq_getElem hi] using q
  obtain ⟨nw0, hn0⟩ := and_e hn
  obtain ⟨nw1, hn1⟩ := and_e hn0
  obtain ⟨nw2, hn2⟩ := and_e hn1
  obtain ⟨nw3, hn3⟩ := and_e hn2
  obtain ⟨nw4, hn4⟩ := and_e hn3
  obtain ⟨nw5, hn5⟩ := and_e hn4
  obtain ⟨nw6, hn6⟩ := and_e hn5
  obtain ⟨nw7, hn7⟩ := and_e hn6
  obtain ⟨nw8, hn8⟩ := and_e hn7
  obtain ⟨nw9, hn9⟩ := and_e hn8
  obtain ⟨nw10, hn10⟩ := and_e hn9
  obtain ⟨nw11, hn11⟩ := and_e hn10
  obtain ⟨nw12, hn12⟩ := and_e hn11
  obtain ⟨nw13, hn13⟩ := and_e hn12
  obtain ⟨nw14, hn14⟩ := and_e hn13
  obtain ⟨nw15, hn15⟩ := and_e hn14
  obtain ⟨nw16, hn16⟩ := and_e hn15
  obtain ⟨nw17, hn17⟩ := and_e hn16
  obtain ⟨nw18, hn18⟩ := and_e hn17
  obtain ⟨nw19, hn19⟩ := and_e hn18
  obtain ⟨nw20, hn20⟩ := and_e hn19
  obtain ⟨nw21, hn21⟩ := and_e hn20
  obtain ⟨nw22, hn22⟩ := and_e hn21
  obtain ⟨nw23, hn23⟩ := and_e hn22
  obtain ⟨nw24, hn24⟩ := and_e hn23
  obtain ⟨nw25, hn25⟩ := and_e hn24
  obtain ⟨nw26, hn26⟩ := and_e hn25
  obtain ⟨nw27, hn27⟩ := and_e hn26
  obtain ⟨nw28, hn28⟩ := and_e hn27
  obtain ⟨nw29, hn29⟩ := and_e hn28
  obtain ⟨nw30, hn30⟩ := and_e hn29
  obtain ⟨nw31, hn31⟩ := and_e hn30
  obtain ⟨nw32, hn32⟩ := and_e hn31
  obtain ⟨nw33, hn33⟩ := and_e hn32
  obtain ⟨nw34, hn34⟩ := and_e hn33
  obtain ⟨nw35, hn35⟩ := and_e hn34
  obtain ⟨nw36, hn36⟩ := and_e hn35
  obtain ⟨nw37, hn37⟩ := and_e hn36
  obtain ⟨nw38, hn38⟩ := and_e hn37
  obtain ⟨nw39, hn39⟩ := and_e hn38
  obtain ⟨nw40, hn40⟩ := and_e hn39
  have nw41 := hn40
  obtain ⟨w_TO_JSON, ev_TO_JSON⟩ := exa_v nw0
  have S_TO_JSON := Sta.start ev_TO_JSON (Or.inr ⟨(hw _ (List.mem_of_getElem? (i := 3) rfl)), (hw _ (List.mem_of_getElem? (i := 4) rfl))⟩)
  have E_TO_JSON := Exa.start ev_TO_JSON nw0
  have O_TO_JSON := own_fld ev_TO_JSON nw21
  obtain ⟨w_FROM_JSON, ev_FROM_JSON⟩ := exa_v nw1
  have S_FROM_JSON := Sta.start ev_FROM_JSON (Or.inr ⟨(hw _ (List.mem_of_getElem? (i := 3) rfl)), (hw _ (List.mem_of_getElem? (i := 7) rfl))⟩)
  have E_FROM_JSON := Exa.start ev_FROM_JSON nw1
  have O_FROM_JSON := own_fld ev_FROM_JSON nw32
  obtain ⟨w_TOKEN, ev_TOKEN⟩ := exa_v nw2
  have S_TOKEN := Sta.start ev_TOKEN (Or.inr ⟨(hw _ (List.mem_of_getElem? (i := 3) rfl)), (hw _ (List.mem_of_getElem? (i := 9) rfl))⟩)
  have E_TOKEN := Exa.start ev_TOKEN nw2
  have O_TOKEN := own_fld ev_TOKEN nw31
  obtain ⟨w_MIN, ev_MIN⟩ := exa_v nw3
  have S_MIN := Sta.start ev_MIN (Or.inr ⟨(hw _ (List.mem_of_getElem? (i := 3) rfl)), (hw _ (List.mem_of_getElem? (i := 11) rfl))⟩)
  have E_MIN := Exa.start ev_MIN nw3
  have O_MIN := own_fld ev_MIN nw28
  obtain ⟨w_MAX, ev_MAX⟩ := exa_v nw4
  have S_MAX := Sta.start ev_MAX (Or.inr ⟨(hw _ (List.mem_of_getElem? (i := 3) rfl)), (hw _ (List.mem_of_getElem? (i := 13) rfl))⟩)
  have E_MAX := Exa.start ev_MAX nw4
  have O_MAX := own_fld ev_MAX nw39
  obtain ⟨w_MASK_NULL, ev_MASK_NULL⟩ := exa_v nw5
  have S_MASK_NULL := Sta.start ev_MASK_NULL (Or.inr ⟨(hw _ (List.mem_of_getElem? (i := 3) rfl)), (hw _ (List.mem_of_getElem? (i := 15) rfl))⟩)
  have E_MASK_NULL := Exa.start ev_MASK_NULL nw5
  have O_MASK_NULL := own_fld ev_MASK_NULL nw22
  obtain ⟨w_MASK_DEFAULT, ev_MASK_DEFAULT⟩ := exa_v nw6
  have S_MASK_DEFAULT := Sta.start ev_MASK_DEFAULT (Or.inr ⟨(hw _ (List.mem_of_getElem? (i := 3) rfl)), (hw _ (List.mem_of_getElem? (i := 17) rfl))⟩)
  have E_MASK_DEFAULT := Exa.start ev_MASK_DEFAULT nw6
  have O_MASK_DEFAULT := own_fld ev_MASK_DEFAULT nw23
  obtain ⟨w_MASK_REPLACE, ev_MASK_REPLACE⟩ := exa_v nw7
  have S_MASK_REPLACE := Sta.start ev_MASK_REPLACE (Or.inr ⟨(hw _ (List.mem_of_getElem? (i := 3) rfl)), (hw _ (List.mem_of_getElem? (i := 19) rfl))⟩)
  have E_MASK_REPLACE := Exa.start ev_MASK_REPLACE nw7
  have O_MASK_REPLACE := own_fld ev_MASK_REPLACE nw24
  obtain ⟨w_MASK_INNER, ev_MASK_INNER⟩ := exa_v nw8
  have S_MASK_INNER := Sta.start ev_MASK_INNER (Or.inr ⟨(hw _ (List.mem_of_getElem? (i := 3) rfl)), (hw _ (List.mem_of_getElem? (i := 21) rfl))⟩)
  have E_MASK_INNER := Exa.start ev_MASK_INNER nw8
  have O_MASK_INNER := own_fld ev_MASK_INNER nw25
  obtain ⟨w_MASK_OUTER, ev_MASK_OUTER⟩ := exa_v nw9
  have S_MASK_OUTER := Sta.start ev_MASK_OUTER (Or.inr ⟨(hw _ (List.mem_of_getElem? (i := 3) rfl)), (hw _ (List.mem_of_getElem? (i := 23) rfl))⟩)
  have E_MASK_OUTER := Exa.start ev_MASK_OUTER nw9
  have O_MASK_OUTER := own_fld ev_MASK_OUTER nw26
  obtain ⟨w_MASK_HASH, ev_MASK_HASH⟩ := exa_v nw10
  have S_MASK_HASH := Sta.start ev_MASK_HASH (Or.inr ⟨(hw _ (List.mem_of_getElem? (i := 3) rfl)), (hw _ (List.mem_of_getElem? (i := 25) rfl))⟩)
  have E_MASK_HASH := Exa.start ev_MASK_HASH nw10
  have O_MASK_HASH := own_fld ev_MASK_HASH nw27
  obtain ⟨w_COLLECTION_COUNT, ev_COLLECTION_COUNT⟩ := exa_v nw11
  have S_COLLECTION_COUNT := Sta.start ev_COLLECTION_COUNT (Or.inr ⟨(hw _ (List.mem_of_getElem? (i := 3) rfl)), (hw _ (List.mem_of_getElem? (i := 27) rfl))⟩)
  have E_COLLECTION_COUNT := Exa.start ev_COLLECTION_COUNT nw11
  have O_COLLECTION_COUNT := own_fld ev_COLLECTION_COUNT nw30
  obtain ⟨w_COLLECTION_MIN, ev_COLLECTION_MIN⟩ := exa_v nw12
  have S_COLLECTION_MIN := Sta.start ev_COLLECTION_MIN (Or.inr ⟨(hw _ (List.mem_of_getElem? (i := 3) rfl)), (hw _ (List.mem_of_getElem? (i := 29) rfl))⟩)
  have E_COLLECTION_MIN := Exa.start ev_COLLECTION_MIN nw12
  have O_COLLECTION_MIN := own_fld ev_COLLECTION_MIN nw40
  obtain ⟨w_COLLECTION_MAX, ev_COLLECTION_MAX⟩ := exa_v nw13
  have S_COLLECTION_MAX := Sta.start ev_COLLECTION_MAX (Or.inr ⟨(hw _ (List.mem_of_getElem? (i := 3) rfl)), (hw _ (List.mem_of_getElem? (i := 31) rfl))⟩)
  have E_COLLECTION_MAX := Exa.start ev_COLLECTION_MAX nw13
  have O_COLLECTION_MAX := own_fld ev_COLLECTION_MAX nw29
  obtain ⟨w_COLLECTION_SUM, ev_COLLECTION_SUM⟩ := exa_v nw14
  have S_COLLECTION_SUM := Sta.start ev_COLLECTION_SUM (Or.inr ⟨(hw _ (List.mem_of_getElem? (i := 3) rfl)), (hw _ (List.mem_of_getElem? (i := 33) rfl))⟩)
  have E_COLLECTION_SUM := Exa.start ev_COLLECTION_SUM nw14
  have O_COLLECTION_SUM := own_fld ev_COLLECTION_SUM nw33
  obtain ⟨w_COLLECTION_AVG, ev_COLLECTION_AVG⟩ := exa_v nw15
  have S_COLLECTION_AVG := Sta.start ev_COLLECTION_AVG (Or.inr ⟨(hw _ (List.mem_of_getElem? (i := 3) rfl)), (hw _ (List.mem_of_getElem? (i := 35) rfl))⟩)
  have E_COLLECTION_AVG := Exa.start ev_COLLECTION_AVG nw15
  have O_COLLECTION_AVG := own_fld ev_COLLECTION_AVG nw34
  obtain ⟨w_MAP_KEYS, ev_MAP_KEYS⟩ := exa_v nw16
  have S_MAP_KEYS := Sta.start ev_MAP_KEYS (Or.inr ⟨(hw _ (List.mem_of_getElem? (i := 3) rfl)), (hw _ (List.mem_of_getElem? (i := 37) rfl))⟩)
  have E_MAP_KEYS := Exa.start ev_MAP_KEYS nw16
  have O_MAP_KEYS := own_fld ev_MAP_KEYS nw36
  obtain ⟨w_MAP_VALUES, ev_MAP_VALUES⟩ := exa_v nw17
  have S_MAP_VALUES := Sta.start ev_MAP_VALUES (Or.inr ⟨(hw _ (List.mem_of_getElem? (i := 3) rfl)), (hw _ (List.mem_of_getElem? (i := 39) rfl))⟩)
  have E_MAP_VALUES := Exa.start ev_MAP_VALUES nw17
  have O_MAP_VALUES := own_fld ev_MAP_VALUES nw37
  obtain ⟨w_SIMILARITY_COSINE, ev_SIMILARITY_COSINE⟩ := exa_v nw18
  have S_SIMILARITY_COSINE := Sta.start ev_SIMILARITY_COSINE (Or.inr ⟨(hw _ (List.mem_of_getElem? (i := 3) rfl)), (hw _ (List.mem_of_getElem? (i := 41) rfl))⟩)
  have E_SIMILARITY_COSINE := Exa.start ev_SIMILARITY_COSINE nw18
  have O_SIMILARITY_COSINE := own_fld ev_SIMILARITY_COSINE nw41
  obtain ⟨w_SIMILARITY_EUCLIDEAN, ev_SIMILARITY_EUCLIDEAN⟩ := exa_v nw19
  have S_SIMILARITY_EUCLIDEAN := Sta.start ev_SIMILARITY_EUCLIDEAN (Or.inr ⟨(hw _ (List.mem_of_getElem? (i := 3) rfl)), (hw _ (List.mem_of_getElem? (i := 43) rfl))⟩)
  have E_SIMILARITY_EUCLIDEAN := Exa.start ev_SIMILARITY_EUCLIDEAN nw19
  have O_SIMILARITY_EUCLIDEAN := own_fld ev_SIMILARITY_EUCLIDEAN nw35
  obtain ⟨w_SIMILARITY_DOT_PRODUCT, ev_SIMILARITY_DOT_PRODUCT⟩ := exa_v nw20
  have S_SIMILARITY_DOT_PRODUCT := Sta.start ev_SIMILARITY_DOT_PRODUCT (Or.inr ⟨(hw _ (List.mem_of_getElem? (i := 3) rfl)), (hw _ (List.mem_of_getElem? (i := 45) rfl))⟩)
  have E_SIMILARITY_DOT_PRODUCT := Exa.start ev_SIMILARITY_DOT_PRODUCT nw20
  have O_SIMILARITY_DOT_PRODUCT := own_fld ev_SIMILARITY_DOT_PRODUCT nw38
  obtain ⟨n, o, h1, h2, h3, _, L, rfl, ⟨rfl, N⟩, hq⟩ := rm_law l s _ hw tables_1 i0 w_TO_JSON w_FROM_JSON w_TOKEN w_MIN w_MAX w_MASK_NULL w_MASK_DEFAULT w_MASK_REPLACE w_MASK_INNER w_MASK_OUTER w_MASK_HASH w_COLLECTION_COUNT w_COLLECTION_MIN w_COLLECTION_MAX w_COLLECTION_SUM w_COLLECTION_AVG w_MAP_KEYS w_MAP_VALUES w_SIMILARITY_COSINE w_SIMILARITY_EUCLIDEAN w_SIMILARITY_DOT_PRODUCT s.heap s.heap.size (Nat.le_refl _) (Old.start s) S_TO_JSON S_FROM_JSON S_TOKEN S_MIN S_MAX S_MASK_NULL S_MASK_DEFAULT S_MASK_REPLACE S_MASK_INNER S_MASK_OUTER S_MASK_HASH S_COLLECTION_COUNT S_COLLECTION_MIN S_COLLECTION_MAX S_COLLECTION_SUM S_COLLECTION_AVG S_MAP_KEYS S_MAP_VALUES S_SIMILARITY_COSINE S_SIMILARITY_EUCLIDEAN S_SIMILARITY_DOT_PRODUCT E_TO_JSON E_FROM_JSON E_TOKEN E_MIN E_MAX E_MASK_NULL E_MASK_DEFAULT E_MASK_REPLACE E_MASK_INNER E_MASK_OUTER E_MASK_HASH E_COLLECTION_COUNT E_COLLECTION_MIN E_COLLECTION_MAX E_COLLECTION_SUM E_COLLECTION_AVG E_MAP_KEYS E_MAP_VALUES E_SIMILARITY_COSINE E_SIMILARITY_EUCLIDEAN E_SIMILARITY_DOT_PRODUCT (Fld.ne O_TO_JSON O_MASK_NULL (fun q => absurd (Value.int.inj q) (by decide))) (Fld.ne O_TO_JSON O_MASK_DEFAULT (fun q => absurd (Value.int.inj q) (by decide))) (Fld.ne O_TO_JSON O_MASK_REPLACE (fun q => absurd (Value.int.inj q) (by decide))) (Fld.ne O_TO_JSON O_MASK_INNER (fun q => absurd (Value.int.inj q) (by decide))) (Fld.ne O_TO_JSON O_MASK_OUTER (fun q => absurd (Value.int.inj q) (by decide))) (Fld.ne O_TO_JSON O_MASK_HASH (fun q => absurd (Value.int.inj q) (by decide))) (Fld.ne O_FROM_JSON O_MASK_NULL (fun q => absurd (Value.int.inj q) (by decide))) (Fld.ne O_FROM_JSON O_MASK_DEFAULT (fun q => absurd (Value.int.inj q) (by decide))) (Fld.ne O_FROM_JSON O_MASK_REPLACE (fun q => absurd (Value.int.inj q) (by decide))) (Fld.ne O_FROM_JSON O_MASK_INNER (fun q => absurd (Value.int.inj q) (by decide))) (Fld.ne O_FROM_JSON O_MASK_OUTER (fun q => absurd (Value.int.inj q) (by decide))) (Fld.ne O_FROM_JSON O_MASK_HASH (fun q => absurd (Value.int.inj q) (by decide))) (Fld.ne O_TOKEN O_MASK_NULL (fun q => absurd (Value.int.inj q) (by decide))) (Fld.ne O_TOKEN O_MASK_DEFAULT (fun q => absurd (Value.int.inj q) (by decide))) (Fld.ne O_TOKEN O_MASK_REPLACE (fun q => absurd (Value.int.inj q) (by decide))) (Fld.ne O_TOKEN O_MASK_INNER (fun q => absurd (Value.int.inj q) (by decide))) (Fld.ne O_TOKEN O_MASK_OUTER (fun q => absurd (Value.int.inj q) (by decide))) (Fld.ne O_TOKEN O_MASK_HASH (fun q => absurd (Value.int.inj q) (by decide))) (Fld.ne O_MIN O_MASK_NULL (fun q => absurd (Value.int.inj q) (by decide))) (Fld.ne O_MIN O_MASK_DEFAULT (fun q => absurd (Value.int.inj q) (by decide))) (Fld.ne O_MIN O_MASK_REPLACE (fun q => absurd (Value.int.inj q) (by decide))) (Fld.ne O_MIN O_MASK_INNER (fun q => absurd (Value.int.inj q) (by decide))) (Fld.ne O_MIN O_MASK_OUTER (fun q => absurd (Value.int.inj q) (by decide))) (Fld.ne O_MIN O_MASK_HASH (fun q => absurd (Value.int.inj q) (by decide))) (Fld.ne O_MAX O_MASK_NULL (fun q => absurd (Value.int.inj q) (by decide))) (Fld.ne O_MAX O_MASK_DEFAULT (fun q => absurd (Value.int.inj q) (by decide))) (Fld.ne O_MAX O_MASK_REPLACE (fun q => absurd (Value.int.inj q) (by decide))) (Fld.ne O_MAX O_MASK_INNER (fun q => absurd (Value.int.inj q) (by decide))) (Fld.ne O_MAX O_MASK_OUTER (fun q => absurd (Value.int.inj q) (by decide))) (Fld.ne O_MAX O_MASK_HASH (fun q => absurd (Value.int.inj q) (by decide))) (Fld.ne O_MASK_NULL O_MASK_DEFAULT (fun q => absurd (Value.int.inj q) (by decide))) (Fld.ne O_MASK_NULL O_MASK_REPLACE (fun q => absurd (Value.int.inj q) (by decide))) (Fld.ne O_MASK_NULL O_MASK_INNER (fun q => absurd (Value.int.inj q) (by decide))) (Fld.ne O_MASK_NULL O_MASK_OUTER (fun q => absurd (Value.int.inj q) (by decide))) (Fld.ne O_MASK_NULL O_MASK_HASH (fun q => absurd (Value.int.inj q) (by decide))) (Fld.ne O_MASK_DEFAULT O_MASK_NULL (fun q => absurd (Value.int.inj q) (by decide))) (Fld.ne O_MASK_DEFAULT O_MASK_REPLACE (fun q => absurd (Value.int.inj q) (by decide))) (Fld.ne O_MASK_DEFAULT O_MASK_INNER (fun q => absurd (Value.int.inj q) (by decide))) (Fld.ne O_MASK_DEFAULT O_MASK_OUTER (fun q => absurd (Value.int.inj q) (by decide))) (Fld.ne O_MASK_DEFAULT O_MASK_HASH (fun q => absurd (Value.int.inj q) (by decide))) (Fld.ne O_MASK_REPLACE O_MASK_NULL (fun q => absurd (Value.int.inj q) (by decide))) (Fld.ne O_MASK_REPLACE O_MASK_DEFAULT (fun q => absurd (Value.int.inj q) (by decide))) (Fld.ne O_MASK_REPLACE O_MASK_INNER (fun q => absurd (Value.int.inj q) (by decide))) (Fld.ne O_MASK_REPLACE O_MASK_OUTER (fun q => absurd (Value.int.inj q) (by decide))) (Fld.ne O_MASK_REPLACE O_MASK_HASH (fun q => absurd (Value.int.inj q) (by decide))) (Fld.ne O_MASK_INNER O_MASK_NULL (fun q => absurd (Value.int.inj q) (by decide))) (Fld.ne O_MASK_INNER O_MASK_DEFAULT (fun q => absurd (Value.int.inj q) (by decide))) (Fld.ne O_MASK_INNER O_MASK_REPLACE (fun q => absurd (Value.int.inj q) (by decide))) (Fld.ne O_MASK_INNER O_MASK_OUTER (fun q => absurd (Value.int.inj q) (by decide))) (Fld.ne O_MASK_INNER O_MASK_HASH (fun q => absurd (Value.int.inj q) (by decide))) (Fld.ne O_MASK_OUTER O_MASK_NULL (fun q => absurd (Value.int.inj q) (by decide))) (Fld.ne O_MASK_OUTER O_MASK_DEFAULT (fun q => absurd (Value.int.inj q) (by decide))) (Fld.ne O_MASK_OUTER O_MASK_REPLACE (fun q => absurd (Value.int.inj q) (by decide))) (Fld.ne O_MASK_OUTER O_MASK_INNER (fun q => absurd (Value.int.inj q) (by decide))) (Fld.ne O_MASK_OUTER O_MASK_HASH (fun q => absurd (Value.int.inj q) (by decide))) (Fld.ne O_MASK_HASH O_MASK_NULL (fun q => absurd (Value.int.inj q) (by decide))) (Fld.ne O_MASK_HASH O_MASK_DEFAULT (fun q => absurd (Value.int.inj q) (by decide))) (Fld.ne O_MASK_HASH O_MASK_REPLACE (fun q => absurd (Value.int.inj q) (by decide))) (Fld.ne O_MASK_HASH O_MASK_INNER (fun q => absurd (Value.int.inj q) (by decide))) (Fld.ne O_MASK_HASH O_MASK_OUTER (fun q => absurd (Value.int.inj q) (by decide))) (Fld.ne O_COLLECTION_COUNT O_MASK_NULL (fun q => absurd (Value.int.inj q) (by decide))) (Fld.ne O_COLLECTION_COUNT O_MASK_DEFAULT (fun q => absurd (Value.int.inj q) (by decide))) (Fld.ne O_COLLECTION_COUNT O_MASK_REPLACE (fun q => absurd (Value.int.inj q) (by decide))) (Fld.ne O_COLLECTION_COUNT O_MASK_INNER (fun q => absurd (Value.int.inj q) (by decide))) (Fld.ne O_COLLECTION_COUNT O_MASK_OUTER (fun q => absurd (Value.int.inj q) (by decide))) (Fld.ne O_COLLECTION_COUNT O_MASK_HASH (fun q => absurd (Value.int.inj q) (by decide))) (Fld.ne O_COLLECTION_MIN O_MASK_NULL (fun q => absurd (Value.int.inj q) (by decide))) (Fld.ne O_COLLECTION_MIN O_MASK_DEFAULT (fun q => absurd (Value.int.inj q) (by decide))) (Fld.ne O_COLLECTION_MIN O_MASK_REPLACE (fun q => absurd (Value.int.inj q) (by decide))) (Fld.ne O_COLLECTION_MIN O_MASK_INNER (fun q => absurd (Value.int.inj q) (by decide))) (Fld.ne O_COLLECTION_MIN O_MASK_OUTER (fun q => absurd (Value.int.inj q) (by decide))) (Fld.ne O_COLLECTION_MIN O_MASK_HASH (fun q => absurd (Value.int.inj q) (by decide))) (Fld.ne O_COLLECTION_MAX O_MASK_NULL (fun q => absurd (Value.int.inj q) (by decide))) (Fld.ne O_COLLECTION_MAX O_MASK_DEFAULT (fun q => absurd (Value.int.inj q) (by decide))) (Fld.ne O_COLLECTION_MAX O_MASK_REPLACE (fun q => absurd (Value.int.inj q) (by decide))) (Fld.ne O_COLLECTION_MAX O_MASK_INNER (fun q => absurd (Value.int.inj q) (by decide))) (Fld.ne O_COLLECTION_MAX O_MASK_OUTER (fun q => absurd (Value.int.inj q) (by decide))) (Fld.ne O_COLLECTION_MAX O_MASK_HASH (fun q => absurd (Value.int.inj q) (by decide))) (Fld.ne O_COLLECTION_SUM O_MASK_NULL (fun q => absurd (Value.int.inj q) (by decide))) (Fld.ne O_COLLECTION_SUM O_MASK_DEFAULT (fun q => absurd (Value.int.inj q) (by decide))) (Fld.ne O_COLLECTION_SUM O_MASK_REPLACE (fun q => absurd (Value.int.inj q) (by decide))) (Fld.ne O_COLLECTION_SUM O_MASK_INNER (fun q => absurd (Value.int.inj q) (by decide))) (Fld.ne O_COLLECTION_SUM O_MASK_OUTER (fun q => absurd (Value.int.inj q) (by decide))) (Fld.ne O_COLLECTION_SUM O_MASK_HASH (fun q => absurd (Value.int.inj q) (by decide))) (Fld.ne O_COLLECTION_AVG O_MASK_NULL (fun q => absurd (Value.int.inj q) (by decide))) (Fld.ne O_COLLECTION_AVG O_MASK_DEFAULT (fun q => absurd (Value.int.inj q) (by decide))) (Fld.ne O_COLLECTION_AVG O_MASK_REPLACE (fun q => absurd (Value.int.inj q) (by decide))) (Fld.ne O_COLLECTION_AVG O_MASK_INNER (fun q => absurd (Value.int.inj q) (by decide))) (Fld.ne O_COLLECTION_AVG O_MASK_OUTER (fun q => absurd (Value.int.inj q) (by decide))) (Fld.ne O_COLLECTION_AVG O_MASK_HASH (fun q => absurd (Value.int.inj q) (by decide))) (Fld.ne O_MAP_KEYS O_MASK_NULL (fun q => absurd (Value.int.inj q) (by decide))) (Fld.ne O_MAP_KEYS O_MASK_DEFAULT (fun q => absurd (Value.int.inj q) (by decide))) (Fld.ne O_MAP_KEYS O_MASK_REPLACE (fun q => absurd (Value.int.inj q) (by decide))) (Fld.ne O_MAP_KEYS O_MASK_INNER (fun q => absurd (Value.int.inj q) (by decide))) (Fld.ne O_MAP_KEYS O_MASK_OUTER (fun q => absurd (Value.int.inj q) (by decide))) (Fld.ne O_MAP_KEYS O_MASK_HASH (fun q => absurd (Value.int.inj q) (by decide))) (Fld.ne O_MAP_VALUES O_MASK_NULL (fun q => absurd (Value.int.inj q) (by decide))) (Fld.ne O_MAP_VALUES O_MASK_DEFAULT (fun q => absurd (Value.int.inj q) (by decide))) (Fld.ne O_MAP_VALUES O_MASK_REPLACE (fun q => absurd (Value.int.inj q) (by decide))) (Fld.ne O_MAP_VALUES O_MASK_INNER (fun q => absurd (Value.int.inj q) (by decide))) (Fld.ne O_MAP_VALUES O_MASK_OUTER (fun q => absurd (Value.int.inj q) (by decide))) (Fld.ne O_MAP_VALUES O_MASK_HASH (fun q => absurd (Value.int.inj q) (by decide))) (Fld.ne O_SIMILARITY_COSINE O_MASK_NULL (fun q => absurd (Value.int.inj q) (by decide))) (Fld.ne O_SIMILARITY_COSINE O_MASK_DEFAULT (fun q => absurd (Value.int.inj q) (by decide))) (Fld.ne O_SIMILARITY_COSINE O_MASK_REPLACE (fun q => absurd (Value.int.inj q) (by decide))) (Fld.ne O_SIMILARITY_COSINE O_MASK_INNER (fun q => absurd (Value.int.inj q) (by decide))) (Fld.ne O_SIMILARITY_COSINE O_MASK_OUTER (fun q => absurd (Value.int.inj q) (by decide))) (Fld.ne O_SIMILARITY_COSINE O_MASK_HASH (fun q => absurd (Value.int.inj q) (by decide))) (Fld.ne O_SIMILARITY_EUCLIDEAN O_MASK_NULL (fun q => absurd (Value.int.inj q) (by decide))) (Fld.ne O_SIMILARITY_EUCLIDEAN O_MASK_DEFAULT (fun q => absurd (Value.int.inj q) (by decide))) (Fld.ne O_SIMILARITY_EUCLIDEAN O_MASK_REPLACE (fun q => absurd (Value.int.inj q) (by decide))) (Fld.ne O_SIMILARITY_EUCLIDEAN O_MASK_INNER (fun q => absurd (Value.int.inj q) (by decide))) (Fld.ne O_SIMILARITY_EUCLIDEAN O_MASK_OUTER (fun q => absurd (Value.int.inj q) (by decide))) (Fld.ne O_SIMILARITY_EUCLIDEAN O_MASK_HASH (fun q => absurd (Value.int.inj q) (by decide))) (Fld.ne O_SIMILARITY_DOT_PRODUCT O_MASK_NULL (fun q => absurd (Value.int.inj q) (by decide))) (Fld.ne O_SIMILARITY_DOT_PRODUCT O_MASK_DEFAULT (fun q => absurd (Value.int.inj q) (by decide))) (Fld.ne O_SIMILARITY_DOT_PRODUCT O_MASK_REPLACE (fun q => absurd (Value.int.inj q) (by decide))) (Fld.ne O_SIMILARITY_DOT_PRODUCT O_MASK_INNER (fun q => absurd (Value.int.inj q) (by decide))) (Fld.ne O_SIMILARITY_DOT_PRODUCT O_MASK_OUTER (fun q => absurd (Value.int.inj q) (by decide))) (Fld.ne O_SIMILARITY_DOT_PRODUCT O_MASK_HASH (fun q => absurd (Value.int.inj q) (by decide))) p e ha hc hk s m _ below hf ((Spec.applies_iff_loose hf).mp happ).1 ⟨rfl, State.Warmed39.refl s, rfl⟩ trivial
  refine ⟨n, _, h1, h2, h3, hpost _ _ _ _ _ _ ⟨Cond.after_iff.mpr rfl, Cond.after_iff.mpr (eq_i res_at (Term.int_eval (1)) rfl), trivial⟩ ⟨hq.1, hq.2.1, (hq.2.2.sift fun y hy => Or.inr (N y hy)).mono (by decide) (by decide)⟩⟩
theorem main_1_1 : Claimed_1_1 := comes_1 fun _ _ _ _ _ _ h hF => ⟨h.1, hF⟩
theorem main_1_2 : Claimed_1_2 := comes_1 fun _ _ _ _ _ _ h hF => ⟨h.2.1, hF⟩
end Jvm.Pilot.@@N@@
namespace Jvm.Pilot.@@N@@
open Jvm Jvm.ClassFile Sem Op Lib Jvm.Free Jvm.Stand Jvm.Pilot.@@N@@.Jvm.D
/-! MADE BY PROGRAM (witnessworld.py) out of the Statement's table words and the real class files: 13 classes; the members and pool entries that the words name. The judged class is class 1, her method 1. -/
namespace start1
open Jvm.ClassFile
def u (s : String) : CpInfo := .utf8 (stringToUtf16 s)
/-- a pool by its gaps: so many unusable entries, then the entry; so many at the end -/
def gap : Nat → List CpInfo → List CpInfo
  | 0, r => r
  | n + 1, r => .unusable :: gap n r
def poolList (es : List (Nat × CpInfo)) (last : Nat) : List CpInfo := es.foldr (fun e r => gap e.1 (e.2 :: r)) (gap last [])
def pool (es : List (Nat × CpInfo)) (last : Nat) : Array CpInfo := ⟨poolList es last⟩
def fileOf (pool : Array CpInfo) (this : Nat) (attrs : Array Attribute := #[]) (ms : Array MethodInfo := #[]) (fl : Nat := 33) (sup : Nat := 0) (ifs : Array Nat := #[]) (fds : Array FieldInfo := #[]) : ClassFile where
  minorVersion := 0
  majorVersion := 65
  constantPool := pool
  accessFlags := fl
  thisClass := this
  superClass := sup
  interfaces := ifs
  fields := fds
  methods := ms
  attributes := attrs
def plain (name : String) (sup : Option ClassId) : Class where
  name := name
  kind := .ordinary
  loader := none
  accessFlags := 33
  super := sup
  interfaces := #[]
  cf := none
  fields := #[]
  methods := #[]
  instanceTypes := #[]
  staticTypes := #[]
  resolved := #[]
  callSites := []
  init := .initialized
  statics := none
  mirror := none

def pool0 : Array CpInfo := pool [(5, u "<init>"), (0, u "()V"), (1, .class_ 10), (1, u "java/lang/Object")] 113

def k0m0 : Method := { name := "<init>", desc := "()V", sig := { parameters := [], returnType := none }, accessFlags := 1, code := none }
/-- java/lang/Object -/
def k0 : Class := { plain "java/lang/Object" none with
  accessFlags := 33
  interfaces := #[]
  cf := some (fileOf pool0 8 #[] #[{ accessFlags := 1, nameIndex := 5, descriptorIndex := 6, attributes := #[] }] 33 0 #[] #[])
  fields := #[]
  methods := #[k0m0]
  instanceTypes := #[]
  staticTypes := #[]
  resolved := Array.replicate 124 none
  statics := none }

def pool1 : Array CpInfo := pool [(2, .class_ 4), (1, u "java/lang/Object"), (0, u "<init>"), (0, u "()V"), (0, .class_ 8), (0, u "com/example/fionn/fionn/cql/Functions$Generic"), (0, .fieldref 7 10), (0, .nameAndType 11 12), (0, u "TO_JSON"), (0, u "Lcom/example/fionn/fionn/cql/Functions$Generic;"), (0, .fieldref 7 14), (0, .nameAndType 15 12), (0, u "FROM_JSON"), (0, .fieldref 7 17), (0, .nameAndType 18 12), (0, u "TOKEN"), (0, .fieldref 7 20), (0, .nameAndType 21 12), (0, u "MIN"), (0, .fieldref 7 23), (0, .nameAndType 24 12), (0, u "MAX"), (0, .fieldref 7 26), (0, .nameAndType 27 12), (0, u "MASK_NULL"), (0, .fieldref 7 29), (0, .nameAndType 30 12), (0, u "MASK_DEFAULT"), (0, .fieldref 7 32), (0, .nameAndType 33 12), (0, u "MASK_REPLACE"), (0, .fieldref 7 35), (0, .nameAndType 36 12), (0, u "MASK_INNER"), (0, .fieldref 7 38), (0, .nameAndType 39 12), (0, u "MASK_OUTER"), (0, .fieldref 7 41), (0, .nameAndType 42 12), (0, u "MASK_HASH"), (0, .fieldref 7 44), (0, .nameAndType 45 12), (0, u "COLLECTION_COUNT"), (0, .fieldref 7 47), (0, .nameAndType 48 12), (0, u "COLLECTION_MIN"), (0, .fieldref 7 50), (0, .nameAndType 51 12), (0, u "COLLECTION_MAX"), (0, .fieldref 7 53), (0, .nameAndType 54 12), (0, u "COLLECTION_SUM"), (0, .fieldref 7 56), (0, .nameAndType 57 12), (0, u "COLLECTION_AVG"), (0, .fieldref 7 59), (0, .nameAndType 60 12), (0, u "MAP_KEYS"), (0, .fieldref 7 62), (0, .nameAndType 63 12), (0, u "MAP_VALUES"), (0, .fieldref 7 65), (0, .nameAndType 66 12), (0, u "SIMILARITY_COSINE"), (0, .fieldref 7 68), (0, .nameAndType 69 12), (0, u "SIMILARITY_EUCLIDEAN"), (0, .fieldref 7 71), (0, .nameAndType 72 12), (0, u "SIMILARITY_DOT_PRODUCT"), (0, .integer 2147483647), (0, .methodref 7 75), (0, .nameAndType 76 77), (0, u "isMask"), (0, u "()Z"), (0, .class_ 79), (0, u "com/example/fionn/fionn/cql/GenericIsMaskPinLaw"), (2, u "law"), (0, u "(I)Z")] 9

def k1m0 : Method := { name := "<init>", desc := "()V", sig := { parameters := [], returnType := none }, accessFlags := 2, code := none }
def k1c1 : Code := { maxStack := 4, maxLocals := 4, code := code, exceptionTable := #[], attributes := #[] }
def k1m1 : Method := { name := "law", desc := "(I)Z", sig := { parameters := [.int], returnType := some .boolean }, accessFlags := 9, code := some k1c1 }
/-- com/example/fionn/fionn/cql/GenericIsMaskPinLaw -/
def k1 : Class := { plain "com/example/fionn/fionn/cql/GenericIsMaskPinLaw" (some 0) with
  accessFlags := 49
  interfaces := #[]
  cf := some (fileOf pool1 78 #[] #[{ accessFlags := 2, nameIndex := 5, descriptorIndex := 6, attributes := #[] }, { accessFlags := 9, nameIndex := 82, descriptorIndex := 83, attributes := #[] }] 49 2 #[] #[])
  fields := #[]
  methods := #[k1m0, k1m1]
  instanceTypes := #[]
  staticTypes := #[]
  resolved := Array.replicate 93 none
  statics := none }

def pool2 : Array CpInfo := pool [(1, .class_ 2), (0, u "java/lang/constant/Constable"), (0, .class_ 4), (0, u "java/lang/Object")] 6

/-- java/lang/constant/Constable -/
def k2 : Class := { plain "java/lang/constant/Constable" (some 0) with
  accessFlags := 1537
  interfaces := #[]
  cf := some (fileOf pool2 1 #[] #[] 1537 3 #[] #[])
  fields := #[]
  methods := #[]
  instanceTypes := #[]
  staticTypes := #[]
  resolved := Array.replicate 11 none
  statics := none }

def pool3 : Array CpInfo := pool [(1, .class_ 2), (0, u "java/lang/Comparable"), (0, .class_ 4), (0, u "java/lang/Object")] 7

/-- java/lang/Comparable -/
def k3 : Class := { plain "java/lang/Comparable" (some 0) with
  accessFlags := 1537
  interfaces := #[]
  cf := some (fileOf pool3 1 #[] #[] 1537 3 #[] #[])
  fields := #[]
  methods := #[]
  instanceTypes := #[]
  staticTypes := #[]
  resolved := Array.replicate 12 none
  statics := none }

def pool4 : Array CpInfo := pool [(1, .class_ 2), (0, u "java/io/Serializable"), (0, .class_ 4), (0, u "java/lang/Object")] 2

/-- java/io/Serializable -/
def k4 : Class := { plain "java/io/Serializable" (some 0) with
  accessFlags := 1537
  interfaces := #[]
  cf := some (fileOf pool4 1 #[] #[] 1537 3 #[] #[])
  fields := #[]
  methods := #[]
  instanceTypes := #[]
  staticTypes := #[]
  resolved := Array.replicate 7 none
  statics := none }

def pool5 : Array CpInfo := pool [(2, .class_ 4), (1, u "java/lang/Enum"), (0, u "name"), (0, u "Ljava/lang/String;"), (2, u "ordinal"), (0, u "I"), (1, .class_ 14), (1, u "java/lang/Object"), (4, u "hash"), (86, .class_ 108), (1, u "java/lang/Enum$EnumDesc"), (2, .class_ 112), (0, u "java/lang/constant/Constable"), (0, .class_ 114), (0, u "java/lang/Comparable"), (0, .class_ 116), (0, u "java/io/Serializable")] 87

/-- java/lang/Enum -/
def k5 : Class := { plain "java/lang/Enum" (some 0) with
  accessFlags := 1057
  interfaces := #[2, 3, 4]
  cf := some (fileOf pool5 2 #[.nestMembers #[106]] #[] 1057 12 #[111, 113, 115] #[{ accessFlags := 18, nameIndex := 5, descriptorIndex := 6, attributes := #[] }, { accessFlags := 18, nameIndex := 9, descriptorIndex := 10, attributes := #[] }, { accessFlags := 2, nameIndex := 19, descriptorIndex := 10, attributes := #[] }])
  fields := #[{ name := "name", type := (.object "java/lang/String"), accessFlags := 18, slot := 0, constantValue := 0 }, { name := "ordinal", type := .int, accessFlags := 18, slot := 1, constantValue := 0 }, { name := "hash", type := .int, accessFlags := 2, slot := 2, constantValue := 0 }]
  methods := #[]
  instanceTypes := #[(.object "java/lang/String"), .int, .int]
  staticTypes := #[]
  resolved := Array.replicate 204 none
  statics := none }

def pool6 : Array CpInfo := pool [(1, .class_ 2), (0, u "com/example/fionn/fionn/cql/Functions$Generic"), (2, u "TO_JSON"), (0, u "Lcom/example/fionn/fionn/cql/Functions$Generic;"), (2, u "FROM_JSON"), (2, u "TOKEN"), (2, u "MIN"), (2, u "MAX"), (0, .fieldref 1 20), (0, .nameAndType 21 6), (0, u "MASK_NULL"), (0, .fieldref 1 23), (0, .nameAndType 24 6), (0, u "MASK_DEFAULT"), (0, .fieldref 1 26), (0, .nameAndType 27 6), (0, u "MASK_REPLACE"), (0, .fieldref 1 29), (0, .nameAndType 30 6), (0, u "MASK_INNER"), (0, .fieldref 1 32), (0, .nameAndType 33 6), (0, u "MASK_OUTER"), (0, .fieldref 1 35), (0, .nameAndType 36 6), (0, u "MASK_HASH"), (2, u "COLLECTION_COUNT"), (2, u "COLLECTION_MIN"), (2, u "COLLECTION_MAX"), (2, u "COLLECTION_SUM"), (2, u "COLLECTION_AVG"), (2, u "MAP_KEYS"), (2, u "MAP_VALUES"), (2, u "SIMILARITY_COSINE"), (2, u "SIMILARITY_EUCLIDEAN"), (2, u "SIMILARITY_DOT_PRODUCT"), (2, u "$VALUES"), (0, u "[Lcom/example/fionn/fionn/cql/Functions$Generic;"), (6, .class_ 79), (1, u "java/lang/Enum"), (40, u "()Z"), (1, u "isMask"), (5, .class_ 129), (0, u "com/example/fionn/fionn/cql/Functions")] 2

def k6c0 : Code := { maxStack := 2, maxLocals := 1, code := prog_23_method_5_code, exceptionTable := #[], attributes := #[] }
def k6m0 : Method := { name := "isMask", desc := "()Z", sig := { parameters := [], returnType := some .boolean }, accessFlags := 0, code := some k6c0 }
/-- com/example/fionn/fionn/cql/Functions$Generic -/
def k6 : Class := { plain "com/example/fionn/fionn/cql/Functions$Generic" (some 5) with
  accessFlags := 16432
  interfaces := #[]
  cf := some (fileOf pool6 1 #[.nestHost 128] #[{ accessFlags := 0, nameIndex := 122, descriptorIndex := 120, attributes := #[] }] 16432 77 #[] #[{ accessFlags := 16409, nameIndex := 5, descriptorIndex := 6, attributes := #[] }, { accessFlags := 16409, nameIndex := 9, descriptorIndex := 6, attributes := #[] }, { accessFlags := 16409, nameIndex := 12, descriptorIndex := 6, attributes := #[] }, { accessFlags := 16409, nameIndex := 15, descriptorIndex := 6, attributes := #[] }, { accessFlags := 16409, nameIndex := 18, descriptorIndex := 6, attributes := #[] }, { accessFlags := 16409, nameIndex := 21, descriptorIndex := 6, attributes := #[] }, { accessFlags := 16409, nameIndex := 24, descriptorIndex := 6, attributes := #[] }, { accessFlags := 16409, nameIndex := 27, descriptorIndex := 6, attributes := #[] }, { accessFlags := 16409, nameIndex := 30, descriptorIndex := 6, attributes := #[] }, { accessFlags := 16409, nameIndex := 33, descriptorIndex := 6, attributes := #[] }, { accessFlags := 16409, nameIndex := 36, descriptorIndex := 6, attributes := #[] }, { accessFlags := 16409, nameIndex := 39, descriptorIndex := 6, attributes := #[] }, { accessFlags := 16409, nameIndex := 42, descriptorIndex := 6, attributes := #[] }, { accessFlags := 16409, nameIndex := 45, descriptorIndex := 6, attributes := #[] }, { accessFlags := 16409, nameIndex := 48, descriptorIndex := 6, attributes := #[] }, { accessFlags := 16409, nameIndex := 51, descriptorIndex := 6, attributes := #[] }, { accessFlags := 16409, nameIndex := 54, descriptorIndex := 6, attributes := #[] }, { accessFlags := 16409, nameIndex := 57, descriptorIndex := 6, attributes := #[] }, { accessFlags := 16409, nameIndex := 60, descriptorIndex := 6, attributes := #[] }, { accessFlags := 16409, nameIndex := 63, descriptorIndex := 6, attributes := #[] }, { accessFlags := 16409, nameIndex := 66, descriptorIndex := 6, attributes := #[] }, { accessFlags := 4122, nameIndex := 69, descriptorIndex := 70, attributes := #[] }])
  fields := #[{ name := "TO_JSON", type := (.object "com/example/fionn/fionn/cql/Functions$Generic"), accessFlags := 16409, slot := 0, constantValue := 0 }, { name := "FROM_JSON", type := (.object "com/example/fionn/fionn/cql/Functions$Generic"), accessFlags := 16409, slot := 1, constantValue := 0 }, { name := "TOKEN", type := (.object "com/example/fionn/fionn/cql/Functions$Generic"), accessFlags := 16409, slot := 2, constantValue := 0 }, { name := "MIN", type := (.object "com/example/fionn/fionn/cql/Functions$Generic"), accessFlags := 16409, slot := 3, constantValue := 0 }, { name := "MAX", type := (.object "com/example/fionn/fionn/cql/Functions$Generic"), accessFlags := 16409, slot := 4, constantValue := 0 }, { name := "MASK_NULL", type := (.object "com/example/fionn/fionn/cql/Functions$Generic"), accessFlags := 16409, slot := 5, constantValue := 0 }, { name := "MASK_DEFAULT", type := (.object "com/example/fionn/fionn/cql/Functions$Generic"), accessFlags := 16409, slot := 6, constantValue := 0 }, { name := "MASK_REPLACE", type := (.object "com/example/fionn/fionn/cql/Functions$Generic"), accessFlags := 16409, slot := 7, constantValue := 0 }, { name := "MASK_INNER", type := (.object "com/example/fionn/fionn/cql/Functions$Generic"), accessFlags := 16409, slot := 8, constantValue := 0 }, { name := "MASK_OUTER", type := (.object "com/example/fionn/fionn/cql/Functions$Generic"), accessFlags := 16409, slot := 9, constantValue := 0 }, { name := "MASK_HASH", type := (.object "com/example/fionn/fionn/cql/Functions$Generic"), accessFlags := 16409, slot := 10, constantValue := 0 }, { name := "COLLECTION_COUNT", type := (.object "com/example/fionn/fionn/cql/Functions$Generic"), accessFlags := 16409, slot := 11, constantValue := 0 }, { name := "COLLECTION_MIN", type := (.object "com/example/fionn/fionn/cql/Functions$Generic"), accessFlags := 16409, slot := 12, constantValue := 0 }, { name := "COLLECTION_MAX", type := (.object "com/example/fionn/fionn/cql/Functions$Generic"), accessFlags := 16409, slot := 13, constantValue := 0 }, { name := "COLLECTION_SUM", type := (.object "com/example/fionn/fionn/cql/Functions$Generic"), accessFlags := 16409, slot := 14, constantValue := 0 }, { name := "COLLECTION_AVG", type := (.object "com/example/fionn/fionn/cql/Functions$Generic"), accessFlags := 16409, slot := 15, constantValue := 0 }, { name := "MAP_KEYS", type := (.object "com/example/fionn/fionn/cql/Functions$Generic"), accessFlags := 16409, slot := 16, constantValue := 0 }, { name := "MAP_VALUES", type := (.object "com/example/fionn/fionn/cql/Functions$Generic"), accessFlags := 16409, slot := 17, constantValue := 0 }, { name := "SIMILARITY_COSINE", type := (.object "com/example/fionn/fionn/cql/Functions$Generic"), accessFlags := 16409, slot := 18, constantValue := 0 }, { name := "SIMILARITY_EUCLIDEAN", type := (.object "com/example/fionn/fionn/cql/Functions$Generic"), accessFlags := 16409, slot := 19, constantValue := 0 }, { name := "SIMILARITY_DOT_PRODUCT", type := (.object "com/example/fionn/fionn/cql/Functions$Generic"), accessFlags := 16409, slot := 20, constantValue := 0 }, { name := "$VALUES", type := (.array (.object "com/example/fionn/fionn/cql/Functions$Generic")), accessFlags := 4122, slot := 21, constantValue := 0 }]
  methods := #[k6m0]
  instanceTypes := #[(.object "java/lang/String"), .int, .int]
  staticTypes := #[(.object "com/example/fionn/fionn/cql/Functions$Generic"), (.object "com/example/fionn/fionn/cql/Functions$Generic"), (.object "com/example/fionn/fionn/cql/Functions$Generic"), (.object "com/example/fionn/fionn/cql/Functions$Generic"), (.object "com/example/fionn/fionn/cql/Functions$Generic"), (.object "com/example/fionn/fionn/cql/Functions$Generic"), (.object "com/example/fionn/fionn/cql/Functions$Generic"), (.object "com/example/fionn/fionn/cql/Functions$Generic"), (.object "com/example/fionn/fionn/cql/Functions$Generic"), (.object "com/example/fionn/fionn/cql/Functions$Generic"), (.object "com/example/fionn/fionn/cql/Functions$Generic"), (.object "com/example/fionn/fionn/cql/Functions$Generic"), (.object "com/example/fionn/fionn/cql/Functions$Generic"), (.object "com/example/fionn/fionn/cql/Functions$Generic"), (.object "com/example/fionn/fionn/cql/Functions$Generic"), (.object "com/example/fionn/fionn/cql/Functions$Generic"), (.object "com/example/fionn/fionn/cql/Functions$Generic"), (.object "com/example/fionn/fionn/cql/Functions$Generic"), (.object "com/example/fionn/fionn/cql/Functions$Generic"), (.object "com/example/fionn/fionn/cql/Functions$Generic"), (.object "com/example/fionn/fionn/cql/Functions$Generic"), (.array (.object "com/example/fionn/fionn/cql/Functions$Generic"))]
  resolved := Array.replicate 132 none
  statics := some 0 }

def pool7 : Array CpInfo := pool [(1, u "java/lang/Cloneable"), (0, .class_ 1), (0, u "java/lang/Object"), (0, .class_ 3)] 3

/-- java/lang/Cloneable -/
def k7 : Class := { plain "java/lang/Cloneable" (some 0) with
  accessFlags := 1537
  interfaces := #[]
  cf := some (fileOf pool7 2 #[] #[] 1537 4 #[] #[])
  fields := #[]
  methods := #[]
  instanceTypes := #[]
  staticTypes := #[]
  resolved := Array.replicate 8 none
  statics := none }

/-- the primitive byte -/
def k8 : Class := { plain "byte" none with kind := .primitive 'B', accessFlags := 0x411 }
/-- [B -/
def k9 : Class := { plain "[B" (some 0) with kind := .array 8 .byte, interfaces := #[7, 4], accessFlags := 1041 }

/-- the primitive int -/
def k10 : Class := { plain "int" none with kind := .primitive 'I', accessFlags := 0x411 }
/-- [I -/
def k11 : Class := { plain "[I" (some 0) with kind := .array 10 .int, interfaces := #[7, 4], accessFlags := 1041 }

/-- [Lcom/example/fionn/fionn/cql/Functions$Generic; -/
def k12 : Class := { plain "[Lcom/example/fionn/fionn/cql/Functions$Generic;" (some 0) with kind := .array 6 (.object "com/example/fionn/fionn/cql/Functions$Generic"), interfaces := #[7, 4], accessFlags := 1041 }

def heap : Heap := #[{ cls := 6, slots := #[.ref 1, .ref 2, .ref 3, .ref 4, .ref 5, .ref 6, .ref 7, .ref 8, .ref 9, .ref 10, .ref 11, .ref 12, .ref 13, .ref 14, .ref 15, .ref 16, .ref 17, .ref 18, .ref 19, .ref 20, .ref 21, .null], vm := .statics 6 },
  { cls := 6, slots := #[.null, .int 0, .int 0], vm := .none },
  { cls := 6, slots := #[.null, .int 1, .int 0], vm := .none },
  { cls := 6, slots := #[.null, .int 2, .int 0], vm := .none },
  { cls := 6, slots := #[.null, .int 3, .int 0], vm := .none },
  { cls := 6, slots := #[.null, .int 4, .int 0], vm := .none },
  { cls := 6, slots := #[.null, .int 5, .int 0], vm := .none },
  { cls := 6, slots := #[.null, .int 6, .int 0], vm := .none },
  { cls := 6, slots := #[.null, .int 7, .int 0], vm := .none },
  { cls := 6, slots := #[.null, .int 8, .int 0], vm := .none },
  { cls := 6, slots := #[.null, .int 9, .int 0], vm := .none },
  { cls := 6, slots := #[.null, .int 10, .int 0], vm := .none },
  { cls := 6, slots := #[.null, .int 11, .int 0], vm := .none },
  { cls := 6, slots := #[.null, .int 12, .int 0], vm := .none },
  { cls := 6, slots := #[.null, .int 13, .int 0], vm := .none },
  { cls := 6, slots := #[.null, .int 14, .int 0], vm := .none },
  { cls := 6, slots := #[.null, .int 15, .int 0], vm := .none },
  { cls := 6, slots := #[.null, .int 16, .int 0], vm := .none },
  { cls := 6, slots := #[.null, .int 17, .int 0], vm := .none },
  { cls := 6, slots := #[.null, .int 18, .int 0], vm := .none },
  { cls := 6, slots := #[.null, .int 19, .int 0], vm := .none },
  { cls := 6, slots := #[.null, .int 20, .int 0], vm := .none }]
def classes : Array Class := #[k0, k1, k2, k3, k4, k5, k6, k7, k8, k9, k10, k11, k12]
def interned : List (Array UInt16 × Addr) := []
def slotsUsed : Nat := 85
def theMethod : MethodId := ⟨1, 1⟩
def args0 : Array Value := #[.int 5]
def aboutOver (below : List Frame) : State where
  vm := { classes := classes, interned := interned.toArray }
  heap := heap
  slotsUsed := slotsUsed
  threads := #[{ frames := .invoking theMethod args0 :: below }]
def below0 : List Frame := [.native { method := ⟨0, 0⟩, args := #[] }]
def about1 : State := aboutOver below0
def p0 : Program := .bare "" "" ""
def e0 : Env := launch0.env 0 0 0
theorem w_frames : about1.frames = Frame.invoking theMethod args0 :: below0 := rfl
set_option maxRecDepth 65536 in
theorem w_args : argsFit about1.vm theMethod args0 = true := by decide +kernel
set_option maxRecDepth 65536 in
theorem w_heap : heapFits about1 = true := by decide +kernel
set_option maxRecDepth 65536 in
theorem w_runnable : about1.curStatus? = some .runnable := by decide +kernel
set_option maxRecDepth 65536 in
theorem w_alone : about1.alone = true := by decide +kernel
set_option maxRecDepth 65536 in
theorem w_named : about1.methodNamed? x = some theMethod := by decide +kernel
set_option maxRecDepth 65536 in
theorem w_hears : about1.hears theMethod below0 = true := by decide +kernel
set_option maxRecDepth 65536 in
theorem w_ripe : about1.ripe theMethod args0 below0 = true := by decide +kernel
theorem w_running : about1.status = .running := rfl
set_option maxRecDepth 65536 in
theorem w_room : about1.hasRoom e0.platform room_1 = true :=
  launch0.hasRoom_least _ room_1 (by decide +kernel) (by decide +kernel) (by decide +kernel) (by decide +kernel) (by decide +kernel) (by decide +kernel)
theorem allAtoms_all (ts : List Jvm.Cond) (a : Array Jvm.Value) (st : Jvm.State) : (allAtoms ts).before a st = ts.all (fun c => c.before a st) := by
  induction ts with
  | nil => rfl
  | cons c t ih =>
    show (Jvm.Cond.and c (allAtoms t)).before a st = _
    rw [Jvm.Cond.before_and, ih, List.all_cons]
def words1 : List Jvm.Cond := Jvm.Cond.code x code maxLocals ret :: tables_1
/-- a 'code' word, met by the world's own term for the bytes: nothing is compared byte by byte -/
theorem code_word {y : MethodName} {bytes : ByteArray} {mx : Nat} {rt : Option FieldType} {a : Array Value} {s : State} {m : MethodId} {meth : Method} {c : Code} (h1 : s.methodNamed? y = some m) (h2 : s.vm.method? m = some meth) (h3 : meth.code = some c) (h4 : c.code = bytes)
    (h5 : (c.maxLocals == mx && c.exceptionTable.isEmpty && decide (c.maxStack ≤ mostOperands) && decide (meth.sig.returnType = rt) && !meth.locks && decide (parseMethodDescriptor y.desc = some meth.sig)) = true) : (Jvm.Cond.code y bytes mx rt).before a s = true := by
  simp only [Bool.and_eq_true, beq_iff_eq, Bool.not_eq_true', decide_eq_true_eq] at h5
  obtain ⟨⟨⟨⟨⟨g1, g2⟩, g3⟩, g4⟩, g5⟩, g6⟩ := h5
  simp [Cond.before, Cond.holds, Cond.value, h1, h2, h3, h4, g1, g2, g3, g4, g5, g6]
def isCode : Jvm.Cond → Bool
  | .code _ _ _ _ => true
  | _ => false
theorem all_split {L : List Jvm.Cond} {P : Jvm.Cond → Bool} (h1 : L.all (fun c => isCode c || P c) = true) (h2 : ∀ c ∈ L.filter isCode, P c = true) : L.all P = true := by
  refine List.all_eq_true.mpr fun c hc => ?_
  have h := List.all_eq_true.mp h1 c hc
  rcases Bool.eq_false_or_eq_true (isCode c) with hi | hi
  · exact h2 c (List.mem_filter.mpr ⟨hc, hi⟩)
  · simpa [hi] using h
set_option maxRecDepth 65536 in
theorem w_c0 : (Jvm.Cond.code x code maxLocals ret).before args0 about1 = true := code_word (m := ⟨1, 1⟩) (meth := k1m1) (c := k1c1) (by decide +kernel) rfl rfl rfl (by decide +kernel)
set_option maxRecDepth 65536 in
theorem w_c1 : (Jvm.Cond.code ({ cls := "com/example/fionn/fionn/cql/Functions$Generic", name := "isMask", desc := "()Z" } : Jvm.MethodName) prog_23_method_5_code (1 : Nat) (Option.some Jvm.ClassFile.FieldType.boolean)).before args0 about1 = true := code_word (m := ⟨6, 0⟩) (meth := k6m0) (c := k6c0) (by decide +kernel) rfl rfl rfl (by decide +kernel)
def codes1 : List Jvm.Cond := [Jvm.Cond.code x code maxLocals ret, Jvm.Cond.code ({ cls := "com/example/fionn/fionn/cql/Functions$Generic", name := "isMask", desc := "()Z" } : Jvm.MethodName) prog_23_method_5_code (1 : Nat) (Option.some Jvm.ClassFile.FieldType.boolean)]
set_option maxRecDepth 65536 in
theorem codes_eq : words1.filter isCode = codes1 := rfl
theorem w_codes : ∀ c ∈ words1.filter isCode, c.before args0 about1 = true := by
  rw [codes_eq]
  intro c hc
  simp only [codes1, List.mem_cons, List.not_mem_nil, or_false] at hc
  rcases hc with rfl | rfl
  · exact w_c0
  · exact w_c1
set_option maxRecDepth 65536 in
theorem w_t1 : (words1.take 24).all (fun c => isCode c || c.before args0 about1) = true := by decide +kernel
set_option maxRecDepth 65536 in
theorem w_t2 : ((words1.drop 24).take 24).all (fun c => isCode c || c.before args0 about1) = true := by decide +kernel
set_option maxRecDepth 65536 in
theorem w_t3 : ((words1.drop 24).drop 24).all (fun c => isCode c || c.before args0 about1) = true := by decide +kernel
theorem w_tables : (allAtoms (Jvm.Cond.code x code maxLocals ret :: tables_1)).before args0 about1 = true := by
  rw [allAtoms_all]
  show words1.all (fun c => c.before args0 about1) = true
  refine all_split ?_ w_codes
  rw [← List.take_append_drop 24 words1, List.all_append, w_t1, ← List.take_append_drop 24 (words1.drop 24), List.all_append, w_t2, w_t3]
  rfl
set_option maxRecDepth 65536 in
theorem w_case : (Jvm.Cond.and given_1 narrow_1).before args0 about1 = true := by decide +kernel
theorem w_applies : (headSpec (Jvm.Cond.code x code maxLocals ret :: tables_1) room_1).applies x e0.platform about1 = true :=
  (Spec.applies_iff w_frames).mpr ⟨w_running, w_runnable, w_alone, w_named, w_hears, w_ripe, w_room, w_tables⟩
theorem atStart : AtStart classFile x code maxLocals ret World_1 tables_1 room_1 Calls_1 rest_1 Pre_1 launch0 p0 e0 about1 theMethod args0 below0 :=
  ⟨lists_1, trivial, launch0.admits_env _ _ _, launch0.least_env, fairChoices_fair.cas, fairChoices_fair.clock, w_frames, w_args, w_heap, w_applies, trivial, trivial, w_case⟩
end start1
theorem witness_1 : WitnessClaimed_1 := ⟨start1.p0, start1.e0, start1.about1, start1.theMethod, start1.args0, start1.below0, start1.atStart⟩
end Jvm.Pilot.@@N@@
