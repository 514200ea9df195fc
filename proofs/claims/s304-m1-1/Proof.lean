import JvmDerived
import JvmDerived.Pilot.@@N@@Statement
import JvmDerived.Pilot.@@N@@Code
set_option linter.unusedVariables false
set_option linter.unusedSimpArgs false
namespace Jvm.RoadKit
open Sem ClassFile Op Lib Jvm.Stand Jvm.Free Jvm.LawKit
section New
variable {p : Program} {l : Launch} {e : Env} {R : Room} {s : State} {m : MethodId} {args : Array Value} {below : List Frame} {meth : Method} {c : Code} {T : State} {locs : List Loc} {cells slots : Nat}
theorem retI (X : Stand p l e R s m args below meth c T locs cells slots) (hx : p.tables.exec = Jvm.exec) {pc : Nat} {Ls : Array Slot} {z : Int32} {rest : List Value} (hret : meth.sig.returnType = some .int) (hd : decode c.code pc = .ok (.ireturn, 1)) {fs : List Frame}
    (hl : ∀ (f : JFrame) (acts : List Action), f.method = m → f.locked = none → f.entered = [] → (doReturn e (T.setTop f) acts (some (.int z))).1 = T.setFrames fs) : Steps p.tables e below (T.setTop (mkF m pc Ls (.int z :: rest))) (T.setFrames fs) := by
  have hm' : T.vm.method? m = some meth := X.method'
  have hn : narrow .int (.int z) = .int z := rfl
  show Steps p.tables e below (T.setTop { method := m, pc := pc, locals := Ls, stack := _ :: rest, locked := none }) _
  jvm_step X.here [X.here.top, hx, hd, hm', hret, hn]
  first | (intro acts; rw [hl _ acts rfl rfl rfl]) | rw [hl _ _ rfl rfl rfl]
  exact Steps.refl _
end New
end Jvm.RoadKit
namespace Jvm.Pilot.@@N@@
open Jvm Jvm.ClassFile Sem Op Lib Jvm.Free Jvm.Stand Jvm.LawKit Jvm.RoadKit Bundle Jvm.Pilot.@@N@@.Jvm.D
section Own
variable {p : Program} {l : Launch} {e : Env} {R : Room} {s : State} {m : MethodId} {args : Array Value} {below : List Frame} {meth : Method} {c : Code} {T : State} {locs : List Loc} {cells slots : Nat}
/-- from here the method ends as Post says -/
def Wp (p : Program) (e : Env) (below : List Frame) (Post : Outcome → State → Prop) (S : State) : Prop := ∃ s₂ o, Steps p.tables e below S s₂ ∧ s₂.status = .running ∧ Ended s₂ below o ∧ Post o s₂
theorem Wp.goal {Post : Outcome → State → Prop} {S : State} (w : Wp p e below Post S) : ∃ s₂ o, Steps p.tables e below S s₂ ∧ s₂.status = .running ∧ Ended s₂ below o ∧ Post o s₂ := w
theorem Wp.st {Post : Outcome → State → Prop} {S S' : State} (h : ∀ t, Steps p.tables e below S' t → Steps p.tables e below S t) (w : Wp p e below Post S') : Wp p e below Post S := by
  obtain ⟨t, o, h1, h2⟩ := w
  exact ⟨t, o, h t h1, h2⟩
theorem Wp.tr {Post : Outcome → State → Prop} {S S' : State} (h : Steps p.tables e below S S') (w : Wp p e below Post S') : Wp p e below Post S := by
  obtain ⟨t, o, h1, h2⟩ := w
  exact ⟨t, o, h.trans h1, h2⟩
theorem Wp.ret (X : Stand p l e R s m args below meth c T locs cells slots) (hlk : meth.locks = false) {v : Option Value} (hv : meth.sig.returnType = none → v = none) {g : JFrame}
    (hst : ∀ fs, (∀ (f : JFrame) (acts : List Action), f.method = m → f.locked = none → f.entered = [] → (doReturn e (T.setTop f) acts v).1 = T.setFrames fs) → Steps p.tables e below (T.setTop g) (T.setFrames fs))
    {Q : Option Value → Heap → List Loc → Prop} {k n : Nat} (hk : cells ≤ k) (hn : slots ≤ n) (q : Q v T.heap locs) :
    Wp p e below (fun o U' => ∃ v L, o = .returned v ∧ Q v U'.heap L ∧ FrameEnd s o U' L k n) (T.setTop g) := by
  obtain ⟨fs, hr, hrun, hended, hW, hsame⟩ := X.leave (v := v) hv
  exact ⟨_, _, hst fs hr, hrun, hended, v, locs, rfl, q, ⟨v, rfl⟩, hW, hsame.mono hk hn⟩
theorem Wp.retW {vm₁ : Vm} (X : Stand p l e R (s.setVm vm₁) m args below meth c T locs cells slots) (hlk : meth.locks = false) {k0 : Nat} (hS : s.Since vm₁ k0) (hk0 : k0 ≤ T.heap.size) {v : Option Value} (hv : meth.sig.returnType = none → v = none) {g : JFrame}
    (hst : ∀ fs, (∀ (f : JFrame) (acts : List Action), f.method = m → f.locked = none → f.entered = [] → (doReturn e (T.setTop f) acts v).1 = T.setFrames fs) → Steps p.tables e below (T.setTop g) (T.setFrames fs))
    {Q : Option Value → Heap → List Loc → Prop} {k n : Nat} (hk : cells ≤ k) (hn : slots ≤ n) (q : Q v T.heap locs) :
    Wp p e below (fun o U' => ∃ v L, o = .returned v ∧ Q v U'.heap L ∧ ReturnedEndW s o U' L k n) (T.setTop g) := by
  obtain ⟨fs, hr, hrun, hended, ⟨h1, h2, h3, h4⟩⟩ := X.leaveW hS hk0 (v := v) hv
  exact ⟨_, _, hst fs hr, hrun, hended, v, locs, rfl, q, h1, h2, h3, h4.mono hk hn⟩
theorem Wp.retH {vm₁ : Vm} (X : Stand p l e R (s.setVm vm₁) m args below meth c T locs cells slots) (hlk : meth.locks = false) {k0 : Nat} (hS : s.Since vm₁ k0) (hk0 : k0 ≤ T.heap.size) {v : Option Value} (hv : meth.sig.returnType = none → v = none) {g : JFrame}
    (hst : ∀ fs, (∀ (f : JFrame) (acts : List Action), f.method = m → f.locked = none → f.entered = [] → (doReturn e (T.setTop f) acts v).1 = T.setFrames fs) → Steps p.tables e below (T.setTop g) (T.setFrames fs))
    {Q : Option Value → Heap → List Loc → Prop} {Z : State} {EL : List (String × Nat)} {k n : Nat} (hk : cells ≤ k) (hn : slots ≤ n) (q : Q v T.heap locs) (cr : CHr Z EL s.vm s.heap T.vm T.heap) :
    Wp p e below (fun o U' => ∃ v L, o = .returned v ∧ Q v U'.heap L ∧ CHr Z EL s.vm s.heap U'.vm U'.heap ∧ ReturnedEndW s o U' L k n) (T.setTop g) := by
  obtain ⟨fs, hr, hrun, hended, ⟨h1, h2, h3, h4⟩⟩ := X.leaveW hS hk0 (v := v) hv
  exact ⟨_, _, hst fs hr, hrun, hended, v, locs, rfl, q, cr, h1, h2, h3, h4.mono hk hn⟩
theorem own_narZ {q : Int32} (h : nar .boolean q = q) : narrow .boolean (.int q) = .int q := by show Value.int (nar .boolean q) = _; rw [h]
theorem own_fitZ {q : Int32} (h : nar .boolean q = q) : fits .boolean (.int q) = true := by rw [← h]; exact fits_nar_bool q
theorem own_nn {v : Value} (h : v.isRef = true) (h' : ¬ v = .null) : ∃ a, v = .ref a := (ref_cases h).resolve_left h'
theorem own_fits {v : Value} {C : String} (h : v.isRef = true) : fits (.object C) v = true := by rcases ref_cases h with rfl | ⟨a, rfl⟩ <;> rfl
theorem own_narrow {v : Value} {C : String} (h : v.isRef = true) : narrow (.object C) v = v := by rcases ref_cases h with rfl | ⟨a, rfl⟩ <;> rfl
end Own
theorem own_k (x : Int32) : (x &&& (2147483647 : Int32)) % (6 : Int32) = (0 : Int32) ∨ (x &&& (2147483647 : Int32)) % (6 : Int32) = (1 : Int32) ∨ (x &&& (2147483647 : Int32)) % (6 : Int32) = (2 : Int32) ∨ (x &&& (2147483647 : Int32)) % (6 : Int32) = (3 : Int32) ∨ (x &&& (2147483647 : Int32)) % (6 : Int32) = (4 : Int32) ∨ (x &&& (2147483647 : Int32)) % (6 : Int32) = (5 : Int32) := by
  have h := (c_and x 2147483647 (by decide)).1
  have g := ((c_iremV (x &&& 2147483647) 6).1 h (by decide))
  have e : (6 : Int32).toInt = 6 := by decide
  rw [e] at g
  generalize (x &&& 2147483647) % 6 = y at *
  have q : ∀ n : Int32, y.toInt = n.toInt → y = n := fun n hn => Int32.toInt_inj.mp hn
  have : y.toInt = 0 ∨ y.toInt = 1 ∨ y.toInt = 2 ∨ y.toInt = 3 ∨ y.toInt = 4 ∨ y.toInt = 5 := by omega
  rcases this with h | h | h | h | h | h
  · exact Or.inl (q 0 h)
  · exact Or.inr (Or.inl (q 1 h))
  · exact Or.inr (Or.inr (Or.inl (q 2 h)))
  · exact Or.inr (Or.inr (Or.inr (Or.inl (q 3 h))))
  · exact Or.inr (Or.inr (Or.inr (Or.inr (Or.inl (q 4 h)))))
  · exact Or.inr (Or.inr (Or.inr (Or.inr (Or.inr (q 5 h)))))
theorem pn_1 : plainName "com/example/dags_over_clouds/dagsoverclouds/plan/Planner" = true := by first | (simp [plainName, overriddenIn]; done) | decide +kernel
theorem d1_0 : decode prog_66_method_5_code 0 = .ok (.aload_n 0, 1) := by decide +kernel
theorem d1_1 : decode prog_66_method_5_code 1 = .ok (.getstatic 10, 3) := by decide +kernel
theorem d1_4 : decode prog_66_method_5_code 4 = .ok (.if_acmp .eq 10, 3) := by decide +kernel
theorem d1_14 : decode prog_66_method_5_code 14 = .ok (.iconst 1, 1) := by decide +kernel
theorem d1_15 : decode prog_66_method_5_code 15 = .ok (.goto 4, 3) := by decide +kernel
theorem d1_19 : decode prog_66_method_5_code 19 = .ok (.ireturn, 1) := by decide +kernel
theorem d1_7 : decode prog_66_method_5_code 7 = .ok (.aload_n 0, 1) := by decide +kernel
theorem d1_8 : decode prog_66_method_5_code 8 = .ok (.getstatic 13, 3) := by decide +kernel
theorem d1_11 : decode prog_66_method_5_code 11 = .ok (.if_acmp .ne 7, 3) := by decide +kernel
theorem d1_18 : decode prog_66_method_5_code 18 = .ok (.iconst 0, 1) := by decide +kernel
theorem ef_rm1 (m : MethodId) (a1 : Addr) : entryFrame m #[(.ref a1)] 1 = mkF m 0 #[.val (.ref a1)] [] := by first | (simp [entryFrame, mkF, argsToLocals, Value.category]; done) | rfl
def Q_rm1 (Z : State) (a1 : Addr) (wr : Addr) (wb : Addr) (h0 : Heap) (n0 : Nat) (v : Option Value) (h : Heap) (L : List Loc) : Prop := (v = some (.int (if a1 = wr ∨ a1 = wb then (1 : Int32) else (0 : Int32)))) ∧ (Fr n0 L) ∧ (h = h0)
set_option maxRecDepth 65536 in
set_option maxHeartbeats 40000000 in
theorem rm1 (l : Launch) (Z : State) (a0 : Array Value) (hw : ∀ d ∈ tables_1, d.before a0 Z = true) (ws : List Jvm.Cond) (a1 : Addr) (wr : Addr) (wb : Addr) (h0 : Heap) (n0 : Nat) (Z0 : n0 ≤ h0.size) (O0 : Jvm.RoadKit.Old Z n0 h0) (S_BOUNDED : Sta Z Z.heap "com/example/dags_over_clouds/dagsoverclouds/plan/Planner" "BOUNDED" "Lcom/example/dags_over_clouds/dagsoverclouds/plan/Planner;" (.ref wr)) (S_LIST : Sta Z Z.heap "com/example/dags_over_clouds/dagsoverclouds/plan/Planner" "LIST" "Lcom/example/dags_over_clouds/dagsoverclouds/plan/Planner;" (.ref wb)) :
    MetFree l (⟨"com/example/dags_over_clouds/dagsoverclouds/plan/Planner", "takesReliability", "()Z"⟩ : MethodName) (head1 (Jvm.Cond.code (⟨"com/example/dags_over_clouds/dagsoverclouds/plan/Planner", "takesReliability", "()Z"⟩ : MethodName) prog_66_method_5_code 1 (some .boolean) :: ws) ({ frames := 0, cells := 0, slots := 0, locals := 0 } : Room)) (fun a U => a = #[(.ref a1)] ∧ Z.Warmed39 U.vm ∧ U.heap = h0) (fun _ _ _ _ _ => True) (fun _ U o U' => ∃ v L, o = .returned v ∧ Q_rm1 Z a1 wr wb h0 n0 v U'.heap L ∧ FrameEnd U o U' L ({ frames := 0, cells := 0, slots := 0, locals := 0 } : Room).cells ({ frames := 0, cells := 0, slots := 0, locals := 0 } : Room).slots) := by
  refine MetFree.of_bodySF (plainFor_of_name pn_1) hisR ?_
  intro p e s m args below meth c s₁ Bd hml0 hP hK
  obtain ⟨rfl, hZ, hh⟩ := hP
  have hx := Bd.exec
  have hby := Bd.bytes
  have hml : c.maxLocals = 1 := hml0
  have hown : s.vm.findClass "com/example/dags_over_clouds/dagsoverclouds/plan/Planner" = some m.cls := findClass_of_methodNamed Bd.named
  have hnm := (name_of_methodNamed Bd.named Bd.method).1
  have hlk := Bd.notSynchronized
  have X0 : Stand p l e ({ frames := 0, cells := 0, slots := 0, locals := 0 } : Room) s m #[(.ref a1)] below meth c s₁ [] 0 0 := Stand.of_body Bd
  have e0 : s₁.heap = h0 := by rw [← hh, Bd.state]; rfl
  have N0 := Fr.nil n0
  refine Wp.goal (Post := (fun o U' => ∃ v L, o = .returned v ∧ Q_rm1 Z a1 wr wb h0 n0 v U'.heap L ∧ FrameEnd s o U' L ({ frames := 0, cells := 0, slots := 0, locals := 0 } : Room).cells ({ frames := 0, cells := 0, slots := 0, locals := 0 } : Room).slots)) (Wp.st (S' := s₁.setTop (mkF m 0 #[.val (.ref a1)] [])) (fun tt_ kk_ => castTop (ef_rm1 m a1 ) kk_) ?_)
  refine Wp.st (S' := s₁.setTop (mkF m 1 #[.val (.ref a1)] [(.ref a1)])) (fun tt_ kk_ => XS.aloadN X0.here hx rfl (hb hby d1_0) rfl rfl kk_) ?_
  obtain ⟨T1, X1, e1, st1⟩ := getS2 X0 hx hZ hown (host := "") (Or.inl (hw _ (List.mem_of_getElem? (i := 22) rfl))) Via.refl e0 (S_BOUNDED.ext O0.2) (g := (mkF m 1 #[.val (.ref a1)] [(.ref a1)])) rfl (hb hby d1_1)
  refine Wp.st (S' := T1.setTop (mkF m 4 #[.val (.ref a1)] [(.ref wr), (.ref a1)])) st1 ?_
  by_cases h1 : a1 = wr
  case pos =>
    refine Wp.st (S' := T1.setTop (mkF m 14 #[.val (.ref a1)] [])) (fun tt_ kk_ => Jvm.RoadKit.acmp (g := (mkF m 4 #[.val (.ref a1)] [(.ref wr), (.ref a1)])) X1 hx rfl rfl rfl (pc0 := 4) (pc' := 14) (same := true) rfl (hb hby d1_4) rfl (decide_eq_true (congrArg Value.ref h1)) (by decide) (by decide) kk_) ?_
    refine Wp.st (S' := T1.setTop (mkF m 15 #[.val (.ref a1)] [(.int (1 : Int32))])) (fun tt_ kk_ => XS.iconst X1.here hx rfl (hb hby d1_14) kk_) ?_
    refine Wp.st (S' := T1.setTop (mkF m 19 #[.val (.ref a1)] [(.int (1 : Int32))])) (fun tt_ kk_ => XS.goto X1.here hx rfl (pc0 := 15) (pc' := 19) rfl (hb hby d1_15) (by decide) (by decide) kk_) ?_
    exact Wp.ret X1 hlk (v := (some (.int (1 : Int32)))) (fun h => by rw [Bd.returns] at h; cases h) (fun fs hr => retN (z := (1 : Int32)) X1 hx (t := .boolean) Bd.returns (by simp) (hb hby d1_19) hr) (by decide) (by decide) (show Q_rm1 Z a1 wr wb h0 n0 _ T1.heap _ by rw [e1]; exact ⟨(by rw [if_pos (Or.inl h1)]), N0, rfl⟩)
  case neg =>
    refine Wp.st (S' := T1.setTop (mkF m 7 #[.val (.ref a1)] [])) (fun tt_ kk_ => Jvm.RoadKit.acmp (g := (mkF m 4 #[.val (.ref a1)] [(.ref wr), (.ref a1)])) X1 hx rfl rfl rfl (pc0 := 4) (pc' := 7) (same := false) rfl (hb hby d1_4) rfl (decide_eq_false fun q => h1 (Value.ref.inj q)) (by decide) (by decide) kk_) ?_
    refine Wp.st (S' := T1.setTop (mkF m 8 #[.val (.ref a1)] [(.ref a1)])) (fun tt_ kk_ => XS.aloadN X1.here hx rfl (hb hby d1_7) rfl rfl kk_) ?_
    obtain ⟨T2, X2, e2, st2⟩ := getS2 X1 hx hZ hown (host := "") (Or.inl (hw _ (List.mem_of_getElem? (i := 23) rfl))) Via.refl e1 (S_LIST.ext O0.2) (g := (mkF m 8 #[.val (.ref a1)] [(.ref a1)])) rfl (hb hby d1_8)
    refine Wp.st (S' := T2.setTop (mkF m 11 #[.val (.ref a1)] [(.ref wb), (.ref a1)])) st2 ?_
    by_cases h2 : a1 = wb
    case pos =>
      refine Wp.st (S' := T2.setTop (mkF m 14 #[.val (.ref a1)] [])) (fun tt_ kk_ => Jvm.RoadKit.acmp (g := (mkF m 11 #[.val (.ref a1)] [(.ref wb), (.ref a1)])) X2 hx rfl rfl rfl (pc0 := 11) (pc' := 14) (same := true) rfl (hb hby d1_11) rfl (decide_eq_true (congrArg Value.ref h2)) (by decide) (by decide) kk_) ?_
      refine Wp.st (S' := T2.setTop (mkF m 15 #[.val (.ref a1)] [(.int (1 : Int32))])) (fun tt_ kk_ => XS.iconst X2.here hx rfl (hb hby d1_14) kk_) ?_
      refine Wp.st (S' := T2.setTop (mkF m 19 #[.val (.ref a1)] [(.int (1 : Int32))])) (fun tt_ kk_ => XS.goto X2.here hx rfl (pc0 := 15) (pc' := 19) rfl (hb hby d1_15) (by decide) (by decide) kk_) ?_
      exact Wp.ret X2 hlk (v := (some (.int (1 : Int32)))) (fun h => by rw [Bd.returns] at h; cases h) (fun fs hr => retN (z := (1 : Int32)) X2 hx (t := .boolean) Bd.returns (by simp) (hb hby d1_19) hr) (by decide) (by decide) (show Q_rm1 Z a1 wr wb h0 n0 _ T2.heap _ by rw [e2]; exact ⟨(by rw [if_pos (Or.inr h2)]), N0, rfl⟩)
    case neg =>
      refine Wp.st (S' := T2.setTop (mkF m 18 #[.val (.ref a1)] [])) (fun tt_ kk_ => Jvm.RoadKit.acmp (g := (mkF m 11 #[.val (.ref a1)] [(.ref wb), (.ref a1)])) X2 hx rfl rfl rfl (pc0 := 11) (pc' := 18) (same := false) rfl (hb hby d1_11) rfl (decide_eq_false fun q => h2 (Value.ref.inj q)) (by decide) (by decide) kk_) ?_
      refine Wp.st (S' := T2.setTop (mkF m 19 #[.val (.ref a1)] [(.int (0 : Int32))])) (fun tt_ kk_ => XS.iconst X2.here hx rfl (hb hby d1_18) kk_) ?_
      exact Wp.ret X2 hlk (v := (some (.int (0 : Int32)))) (fun h => by rw [Bd.returns] at h; cases h) (fun fs hr => retN (z := (0 : Int32)) X2 hx (t := .boolean) Bd.returns (by simp) (hb hby d1_19) hr) (by decide) (by decide) (show Q_rm1 Z a1 wr wb h0 n0 _ T2.heap _ by rw [e2]; exact ⟨(by rw [if_neg (fun q => q.elim h1 h2)]), N0, rfl⟩)
theorem pn_2 : plainName "com/example/dags_over_clouds/dagsoverclouds/plan/Planner" = true := by first | (simp [plainName, overriddenIn]; done) | decide +kernel
theorem d2_0 : decode prog_66_method_4_code 0 = .ok (.aload_n 0, 1) := by decide +kernel
theorem d2_1 : decode prog_66_method_4_code 1 = .ok (.getstatic 19, 3) := by decide +kernel
theorem d2_4 : decode prog_66_method_4_code 4 = .ok (.if_acmp .ne 7, 3) := by decide +kernel
theorem d2_7 : decode prog_66_method_4_code 7 = .ok (.iconst 1, 1) := by decide +kernel
theorem d2_8 : decode prog_66_method_4_code 8 = .ok (.goto 4, 3) := by decide +kernel
theorem d2_12 : decode prog_66_method_4_code 12 = .ok (.ireturn, 1) := by decide +kernel
theorem d2_11 : decode prog_66_method_4_code 11 = .ok (.iconst 0, 1) := by decide +kernel
theorem ef_rm2 (m : MethodId) (a1 : Addr) : entryFrame m #[(.ref a1)] 1 = mkF m 0 #[.val (.ref a1)] [] := by first | (simp [entryFrame, mkF, argsToLocals, Value.category]; done) | rfl
def Q_rm2 (Z : State) (a1 : Addr) (wf : Addr) (h0 : Heap) (n0 : Nat) (v : Option Value) (h : Heap) (L : List Loc) : Prop := (v = some (.int (if a1 = wf then (1 : Int32) else (0 : Int32)))) ∧ (Fr n0 L) ∧ (h = h0)
set_option maxRecDepth 65536 in
set_option maxHeartbeats 40000000 in
theorem rm2 (l : Launch) (Z : State) (a0 : Array Value) (hw : ∀ d ∈ tables_1, d.before a0 Z = true) (ws : List Jvm.Cond) (a1 : Addr) (wf : Addr) (h0 : Heap) (n0 : Nat) (Z0 : n0 ≤ h0.size) (O0 : Jvm.RoadKit.Old Z n0 h0) (S_FASTEST : Sta Z Z.heap "com/example/dags_over_clouds/dagsoverclouds/plan/Planner" "FASTEST" "Lcom/example/dags_over_clouds/dagsoverclouds/plan/Planner;" (.ref wf)) :
    MetFree l (⟨"com/example/dags_over_clouds/dagsoverclouds/plan/Planner", "takesBudget", "()Z"⟩ : MethodName) (head1 (Jvm.Cond.code (⟨"com/example/dags_over_clouds/dagsoverclouds/plan/Planner", "takesBudget", "()Z"⟩ : MethodName) prog_66_method_4_code 1 (some .boolean) :: ws) ({ frames := 0, cells := 0, slots := 0, locals := 0 } : Room)) (fun a U => a = #[(.ref a1)] ∧ Z.Warmed39 U.vm ∧ U.heap = h0) (fun _ _ _ _ _ => True) (fun _ U o U' => ∃ v L, o = .returned v ∧ Q_rm2 Z a1 wf h0 n0 v U'.heap L ∧ FrameEnd U o U' L ({ frames := 0, cells := 0, slots := 0, locals := 0 } : Room).cells ({ frames := 0, cells := 0, slots := 0, locals := 0 } : Room).slots) := by
  refine MetFree.of_bodySF (plainFor_of_name pn_2) hisR ?_
  intro p e s m args below meth c s₁ Bd hml0 hP hK
  obtain ⟨rfl, hZ, hh⟩ := hP
  have hx := Bd.exec
  have hby := Bd.bytes
  have hml : c.maxLocals = 1 := hml0
  have hown : s.vm.findClass "com/example/dags_over_clouds/dagsoverclouds/plan/Planner" = some m.cls := findClass_of_methodNamed Bd.named
  have hnm := (name_of_methodNamed Bd.named Bd.method).1
  have hlk := Bd.notSynchronized
  have X0 : Stand p l e ({ frames := 0, cells := 0, slots := 0, locals := 0 } : Room) s m #[(.ref a1)] below meth c s₁ [] 0 0 := Stand.of_body Bd
  have e0 : s₁.heap = h0 := by rw [← hh, Bd.state]; rfl
  have N0 := Fr.nil n0
  refine Wp.goal (Post := (fun o U' => ∃ v L, o = .returned v ∧ Q_rm2 Z a1 wf h0 n0 v U'.heap L ∧ FrameEnd s o U' L ({ frames := 0, cells := 0, slots := 0, locals := 0 } : Room).cells ({ frames := 0, cells := 0, slots := 0, locals := 0 } : Room).slots)) (Wp.st (S' := s₁.setTop (mkF m 0 #[.val (.ref a1)] [])) (fun tt_ kk_ => castTop (ef_rm2 m a1 ) kk_) ?_)
  refine Wp.st (S' := s₁.setTop (mkF m 1 #[.val (.ref a1)] [(.ref a1)])) (fun tt_ kk_ => XS.aloadN X0.here hx rfl (hb hby d2_0) rfl rfl kk_) ?_
  obtain ⟨T1, X1, e1, st1⟩ := getS2 X0 hx hZ hown (host := "") (Or.inl (hw _ (List.mem_of_getElem? (i := 29) rfl))) Via.refl e0 (S_FASTEST.ext O0.2) (g := (mkF m 1 #[.val (.ref a1)] [(.ref a1)])) rfl (hb hby d2_1)
  refine Wp.st (S' := T1.setTop (mkF m 4 #[.val (.ref a1)] [(.ref wf), (.ref a1)])) st1 ?_
  by_cases h1 : a1 = wf
  case pos =>
    refine Wp.st (S' := T1.setTop (mkF m 7 #[.val (.ref a1)] [])) (fun tt_ kk_ => Jvm.RoadKit.acmp (g := (mkF m 4 #[.val (.ref a1)] [(.ref wf), (.ref a1)])) X1 hx rfl rfl rfl (pc0 := 4) (pc' := 7) (same := true) rfl (hb hby d2_4) rfl (decide_eq_true (congrArg Value.ref h1)) (by decide) (by decide) kk_) ?_
    refine Wp.st (S' := T1.setTop (mkF m 8 #[.val (.ref a1)] [(.int (1 : Int32))])) (fun tt_ kk_ => XS.iconst X1.here hx rfl (hb hby d2_7) kk_) ?_
    refine Wp.st (S' := T1.setTop (mkF m 12 #[.val (.ref a1)] [(.int (1 : Int32))])) (fun tt_ kk_ => XS.goto X1.here hx rfl (pc0 := 8) (pc' := 12) rfl (hb hby d2_8) (by decide) (by decide) kk_) ?_
    exact Wp.ret X1 hlk (v := (some (.int (1 : Int32)))) (fun h => by rw [Bd.returns] at h; cases h) (fun fs hr => retN (z := (1 : Int32)) X1 hx (t := .boolean) Bd.returns (by simp) (hb hby d2_12) hr) (by decide) (by decide) (show Q_rm2 Z a1 wf h0 n0 _ T1.heap _ by rw [e1]; exact ⟨(by rw [if_pos h1]), N0, rfl⟩)
  case neg =>
    refine Wp.st (S' := T1.setTop (mkF m 11 #[.val (.ref a1)] [])) (fun tt_ kk_ => Jvm.RoadKit.acmp (g := (mkF m 4 #[.val (.ref a1)] [(.ref wf), (.ref a1)])) X1 hx rfl rfl rfl (pc0 := 4) (pc' := 11) (same := false) rfl (hb hby d2_4) rfl (decide_eq_false fun q => h1 (Value.ref.inj q)) (by decide) (by decide) kk_) ?_
    refine Wp.st (S' := T1.setTop (mkF m 12 #[.val (.ref a1)] [(.int (0 : Int32))])) (fun tt_ kk_ => XS.iconst X1.here hx rfl (hb hby d2_11) kk_) ?_
    exact Wp.ret X1 hlk (v := (some (.int (0 : Int32)))) (fun h => by rw [Bd.returns] at h; cases h) (fun fs hr => retN (z := (0 : Int32)) X1 hx (t := .boolean) Bd.returns (by simp) (hb hby d2_12) hr) (by decide) (by decide) (show Q_rm2 Z a1 wf h0 n0 _ T1.heap _ by rw [e1]; exact ⟨(by rw [if_neg h1]), N0, rfl⟩)
theorem pn_0 : plainName "com/example/dags_over_clouds/dagsoverclouds/plan/PlannerTakesReliabilityPinLaw" = true := by first | (simp [plainName, overriddenIn]; done) | decide +kernel
theorem pd_0 : parseMethodDescriptor "()Z" = some ⟨[], some .boolean⟩ := by decide +kernel
theorem ef_rm0 (m : MethodId) (p1 : Int32) : entryFrame m #[(.int p1)] maxLocals = mkF m 0 #[.val (.int p1), .unset, .unset, .unset, .unset, .unset, .unset] [] := by first | (simp [entryFrame, mkF, argsToLocals, Value.category, maxLocals]; done) | rfl
def Q_rm0 (Z : State) (p1 : Int32) (w_COST : Addr) (w_RELIABLE : Addr) (w_BOUNDED : Addr) (w_LIST : Addr) (w_LOCAL : Addr) (w_FASTEST : Addr) (h0 : Heap) (n0 : Nat) (v : Option Value) (h : Heap) (L : List Loc) : Prop := (v = some (.int (1 : Int32))) ∧ (Fr n0 L) ∧ (Keep h0 h [])
set_option maxRecDepth 65536 in
set_option maxHeartbeats 40000000 in
theorem rm0 (l : Launch) (Z : State) (a0 : Array Value) (hw : ∀ d ∈ tables_1, d.before a0 Z = true) (ws : List Jvm.Cond) (p1 : Int32) (w_COST : Addr) (w_RELIABLE : Addr) (w_BOUNDED : Addr) (w_LIST : Addr) (w_LOCAL : Addr) (w_FASTEST : Addr) (h0 : Heap) (n0 : Nat) (Z0 : n0 ≤ h0.size) (OZ : Jvm.RoadKit.Old Z n0 h0) (PE_COST : Exa Z Z.heap w_COST "com/example/dags_over_clouds/dagsoverclouds/plan/Planner") (PS_COST : Sta Z Z.heap "com/example/dags_over_clouds/dagsoverclouds/plan/Planner" "COST" "Lcom/example/dags_over_clouds/dagsoverclouds/plan/Planner;" (.ref w_COST)) (PE_RELIABLE : Exa Z Z.heap w_RELIABLE "com/example/dags_over_clouds/dagsoverclouds/plan/Planner") (PS_RELIABLE : Sta Z Z.heap "com/example/dags_over_clouds/dagsoverclouds/plan/Planner" "RELIABLE" "Lcom/example/dags_over_clouds/dagsoverclouds/plan/Planner;" (.ref w_RELIABLE)) (PE_BOUNDED : Exa Z Z.heap w_BOUNDED "com/example/dags_over_clouds/dagsoverclouds/plan/Planner") (PS_BOUNDED : Sta Z Z.heap "com/example/dags_over_clouds/dagsoverclouds/plan/Planner" "BOUNDED" "Lcom/example/dags_over_clouds/dagsoverclouds/plan/Planner;" (.ref w_BOUNDED)) (PE_LIST : Exa Z Z.heap w_LIST "com/example/dags_over_clouds/dagsoverclouds/plan/Planner") (PS_LIST : Sta Z Z.heap "com/example/dags_over_clouds/dagsoverclouds/plan/Planner" "LIST" "Lcom/example/dags_over_clouds/dagsoverclouds/plan/Planner;" (.ref w_LIST)) (PE_LOCAL : Exa Z Z.heap w_LOCAL "com/example/dags_over_clouds/dagsoverclouds/plan/Planner") (PS_LOCAL : Sta Z Z.heap "com/example/dags_over_clouds/dagsoverclouds/plan/Planner" "LOCAL" "Lcom/example/dags_over_clouds/dagsoverclouds/plan/Planner;" (.ref w_LOCAL)) (PE_FASTEST : Exa Z Z.heap w_FASTEST "com/example/dags_over_clouds/dagsoverclouds/plan/Planner") (PS_FASTEST : Sta Z Z.heap "com/example/dags_over_clouds/dagsoverclouds/plan/Planner" "FASTEST" "Lcom/example/dags_over_clouds/dagsoverclouds/plan/Planner;" (.ref w_FASTEST)) (PF_COST_ordinal : Fld Z Z.heap w_COST "java/lang/Enum" "ordinal" "I" (.int (0 : Int32))) (PF_BOUNDED_ordinal : Fld Z Z.heap w_BOUNDED "java/lang/Enum" "ordinal" "I" (.int (2 : Int32))) (PF_LIST_ordinal : Fld Z Z.heap w_LIST "java/lang/Enum" "ordinal" "I" (.int (3 : Int32))) (PF_FASTEST_ordinal : Fld Z Z.heap w_FASTEST "java/lang/Enum" "ordinal" "I" (.int (5 : Int32))) (PF_RELIABLE_ordinal : Fld Z Z.heap w_RELIABLE "java/lang/Enum" "ordinal" "I" (.int (1 : Int32))) (PF_LOCAL_ordinal : Fld Z Z.heap w_LOCAL "java/lang/Enum" "ordinal" "I" (.int (4 : Int32))) :
    MetFree l x (head1 (Jvm.Cond.code x code maxLocals ret :: ws) room_1) (fun a U => a = #[(.int p1)] ∧ Z.Warmed39 U.vm ∧ U.heap = h0) (fun _ _ _ _ _ => True) (fun _ U o U' => ∃ v L, o = .returned v ∧ Q_rm0 Z p1 w_COST w_RELIABLE w_BOUNDED w_LIST w_LOCAL w_FASTEST h0 n0 v U'.heap L ∧ FrameEnd U o U' L room_1.cells room_1.slots) := by
  refine MetFree.of_bodySF (plainFor_of_name pn_0) hisR ?_
  intro p e s m args below meth c s₁ Bd hml0 hP hK
  obtain ⟨rfl, hZ, hh⟩ := hP
  have hx := Bd.exec
  have hby := Bd.bytes
  have hml : c.maxLocals = 7 := hml0
  have hown : s.vm.findClass "com/example/dags_over_clouds/dagsoverclouds/plan/PlannerTakesReliabilityPinLaw" = some m.cls := findClass_of_methodNamed Bd.named
  have hnm := (name_of_methodNamed Bd.named Bd.method).1
  have hlk := Bd.notSynchronized
  have X0 : Stand p l e room_1 s m #[(.int p1)] below meth c s₁ [] 0 0 := Stand.of_body Bd
  have e0 : s₁.heap = h0 := by rw [← hh, Bd.state]; rfl
  have N0 := Fr.nil n0
  refine Wp.goal (Post := (fun o U' => ∃ v L, o = .returned v ∧ Q_rm0 Z p1 w_COST w_RELIABLE w_BOUNDED w_LIST w_LOCAL w_FASTEST h0 n0 v U'.heap L ∧ FrameEnd s o U' L room_1.cells room_1.slots)) (Wp.st (S' := s₁.setTop (mkF m 0 #[.val (.int p1), .unset, .unset, .unset, .unset, .unset, .unset] [])) (fun tt_ kk_ => castTop (ef_rm0 m p1 ) kk_) ?_)
  have O0 : Jvm.RoadKit.Old Z n0 h0 := OZ
  refine Wp.st (S' := s₁.setTop (mkF m 2 #[.val (.int p1), .unset, .unset, .unset, .unset, .unset, .unset] [(.int (6 : Int32))])) (fun tt_ kk_ => XS.bipush X0.here hx rfl (hb hby at_0) kk_) ?_
  obtain ⟨T1, h1, k1, X1, e1, E1, A1, O1, st1⟩ := newR X0 hx hZ hown (hw _ (List.mem_of_getElem? (i := 0) rfl)) (hw _ (List.mem_of_getElem? (i := 1) rfl)) e0 (g := (mkF m 2 #[.val (.int p1), .unset, .unset, .unset, .unset, .unset, .unset] [(.int (6 : Int32))])) rfl (hb hby at_2) rfl (by decide) (cap := 6) (by decide) (by decide) (by decide) (by decide)
  obtain ⟨b1, g1⟩ : ∃ z, z = h0.size := ⟨_, rfl⟩
  rw [← g1] at A1 st1
  have z2 := E1.1
  have V1 : Arv Z h1 b1 k1 (.object "com/example/dags_over_clouds/dagsoverclouds/plan/Planner") (6 : Int32) [.null, .null, .null, .null, .null, .null] .null := (Arv.new A1 (by decide)).pad (pad_rep [] .null 6)
  have g3 : n0 ≤ b1 := Nat.le_trans (Nat.le_trans Z0 (Nat.le_refl _)) (Nat.le_of_eq g1.symm)
  refine Wp.st (S' := T1.setTop (mkF m 5 #[.val (.int p1), .unset, .unset, .unset, .unset, .unset, .unset] [(.ref b1)])) st1 ?_
  refine Wp.st (S' := T1.setTop (mkF m 6 #[.val (.int p1), .unset, .unset, .unset, .unset, .unset, .unset] [(.ref b1), (.ref b1)])) (fun tt_ kk_ => XS.dup X1.here hx rfl (hb hby at_5) rfl rfl kk_) ?_
  refine Wp.st (S' := T1.setTop (mkF m 7 #[.val (.int p1), .unset, .unset, .unset, .unset, .unset, .unset] [(.int (0 : Int32)), (.ref b1), (.ref b1)])) (fun tt_ kk_ => XS.iconst X1.here hx rfl (hb hby at_6) kk_) ?_
  have O4 := O0.ext E1
  obtain ⟨T5, X5, e5, st5⟩ := getS2 X1 hx hZ hown (host := "") (Or.inl (hw _ (List.mem_of_getElem? (i := 2) rfl))) Via.refl e1 (PS_COST.ext O4.2) (g := (mkF m 7 #[.val (.int p1), .unset, .unset, .unset, .unset, .unset, .unset] [(.int (0 : Int32)), (.ref b1), (.ref b1)])) rfl (hb hby at_7)
  refine Wp.st (S' := T5.setTop (mkF m 10 #[.val (.int p1), .unset, .unset, .unset, .unset, .unset, .unset] [(.ref w_COST), (.int (0 : Int32)), (.ref b1), (.ref b1)])) st5 ?_
  obtain ⟨cl6, Ar6, q6, S6, N6, H6, G6⟩ := V1
  have hin6 := inb_of (j := (0 : Int32)) S6 ⟨by decide, by decide⟩
  obtain ⟨T6, h6, X6, e6, W6, st6⟩ := stR X5 hx hZ e5 Ar6 (j := (0 : Int32)) hin6 rfl (Sto.ofV Ar6 q6 O1 (Ins.self (PE_COST.ext O4.2))) (g := (mkF m 10 #[.val (.int p1), .unset, .unset, .unset, .unset, .unset, .unset] [(.ref w_COST), (.int (0 : Int32)), (.ref b1), (.ref b1)])) rfl rfl (hb hby at_10)
  have z7 := Nat.le_of_eq W6.size.symm
  have V6 : Arv Z h6 b1 k1 (.object "com/example/dags_over_clouds/dagsoverclouds/plan/Planner") (6 : Int32) [(.ref w_COST), .null, .null, .null, .null, .null] .null := Arv.set Ar6 q6 S6 N6 H6 G6 rfl W6 0 rfl (Nat.le_of_ble_eq_true rfl)
  have Nf6 := Fr.snoc X6 N0 g3
  refine Wp.st (S' := T6.setTop (mkF m 11 #[.val (.int p1), .unset, .unset, .unset, .unset, .unset, .unset] [(.ref b1)])) st6 ?_
  refine Wp.st (S' := T6.setTop (mkF m 12 #[.val (.int p1), .unset, .unset, .unset, .unset, .unset, .unset] [(.ref b1), (.ref b1)])) (fun tt_ kk_ => XS.dup X6.here hx rfl (hb hby at_11) rfl rfl kk_) ?_
  refine Wp.st (S' := T6.setTop (mkF m 13 #[.val (.int p1), .unset, .unset, .unset, .unset, .unset, .unset] [(.int (1 : Int32)), (.ref b1), (.ref b1)])) (fun tt_ kk_ => XS.iconst X6.here hx rfl (hb hby at_12) kk_) ?_
  have O8 := O4.wr W6 g3
  obtain ⟨T9, X9, e9, st9⟩ := getS2 X6 hx hZ hown (host := "") (Or.inl (hw _ (List.mem_of_getElem? (i := 6) rfl))) Via.refl e6 (PS_RELIABLE.ext O8.2) (g := (mkF m 13 #[.val (.int p1), .unset, .unset, .unset, .unset, .unset, .unset] [(.int (1 : Int32)), (.ref b1), (.ref b1)])) rfl (hb hby at_13)
  refine Wp.st (S' := T9.setTop (mkF m 16 #[.val (.int p1), .unset, .unset, .unset, .unset, .unset, .unset] [(.ref w_RELIABLE), (.int (1 : Int32)), (.ref b1), (.ref b1)])) st9 ?_
  obtain ⟨cl10, Ar10, q10, S10, N10, H10, G10⟩ := V6
  have hin10 := inb_of (j := (1 : Int32)) S10 ⟨by decide, by decide⟩
  obtain ⟨T10, h10, X10, e10, W10, st10⟩ := stR X9 hx hZ e9 Ar10 (j := (1 : Int32)) hin10 rfl (Sto.ofV Ar10 q10 O1 (Ins.self (PE_RELIABLE.ext O8.2))) (g := (mkF m 16 #[.val (.int p1), .unset, .unset, .unset, .unset, .unset, .unset] [(.ref w_RELIABLE), (.int (1 : Int32)), (.ref b1), (.ref b1)])) rfl rfl (hb hby at_16)
  have z11 := Nat.le_of_eq W10.size.symm
  have V10 : Arv Z h10 b1 k1 (.object "com/example/dags_over_clouds/dagsoverclouds/plan/Planner") (6 : Int32) [(.ref w_COST), (.ref w_RELIABLE), .null, .null, .null, .null] .null := Arv.set Ar10 q10 S10 N10 H10 G10 rfl W10 1 rfl (Nat.le_of_ble_eq_true rfl)
  have Nf10 := Fr.snoc X10 Nf6 g3
  refine Wp.st (S' := T10.setTop (mkF m 17 #[.val (.int p1), .unset, .unset, .unset, .unset, .unset, .unset] [(.ref b1)])) st10 ?_
  refine Wp.st (S' := T10.setTop (mkF m 18 #[.val (.int p1), .unset, .unset, .unset, .unset, .unset, .unset] [(.ref b1), (.ref b1)])) (fun tt_ kk_ => XS.dup X10.here hx rfl (hb hby at_17) rfl rfl kk_) ?_
  refine Wp.st (S' := T10.setTop (mkF m 19 #[.val (.int p1), .unset, .unset, .unset, .unset, .unset, .unset] [(.int (2 : Int32)), (.ref b1), (.ref b1)])) (fun tt_ kk_ => XS.iconst X10.here hx rfl (hb hby at_18) kk_) ?_
  have O12 := O8.wr W10 g3
  obtain ⟨T13, X13, e13, st13⟩ := getS2 X10 hx hZ hown (host := "") (Or.inl (hw _ (List.mem_of_getElem? (i := 8) rfl))) Via.refl e10 (PS_BOUNDED.ext O12.2) (g := (mkF m 19 #[.val (.int p1), .unset, .unset, .unset, .unset, .unset, .unset] [(.int (2 : Int32)), (.ref b1), (.ref b1)])) rfl (hb hby at_19)
  refine Wp.st (S' := T13.setTop (mkF m 22 #[.val (.int p1), .unset, .unset, .unset, .unset, .unset, .unset] [(.ref w_BOUNDED), (.int (2 : Int32)), (.ref b1), (.ref b1)])) st13 ?_
  obtain ⟨cl14, Ar14, q14, S14, N14, H14, G14⟩ := V10
  have hin14 := inb_of (j := (2 : Int32)) S14 ⟨by decide, by decide⟩
  obtain ⟨T14, h14, X14, e14, W14, st14⟩ := stR X13 hx hZ e13 Ar14 (j := (2 : Int32)) hin14 rfl (Sto.ofV Ar14 q14 O1 (Ins.self (PE_BOUNDED.ext O12.2))) (g := (mkF m 22 #[.val (.int p1), .unset, .unset, .unset, .unset, .unset, .unset] [(.ref w_BOUNDED), (.int (2 : Int32)), (.ref b1), (.ref b1)])) rfl rfl (hb hby at_22)
  have z15 := Nat.le_of_eq W14.size.symm
  have V14 : Arv Z h14 b1 k1 (.object "com/example/dags_over_clouds/dagsoverclouds/plan/Planner") (6 : Int32) [(.ref w_COST), (.ref w_RELIABLE), (.ref w_BOUNDED), .null, .null, .null] .null := Arv.set Ar14 q14 S14 N14 H14 G14 rfl W14 2 rfl (Nat.le_of_ble_eq_true rfl)
  have Nf14 := Fr.snoc X14 Nf10 g3
  refine Wp.st (S' := T14.setTop (mkF m 23 #[.val (.int p1), .unset, .unset, .unset, .unset, .unset, .unset] [(.ref b1)])) st14 ?_
  refine Wp.st (S' := T14.setTop (mkF m 24 #[.val (.int p1), .unset, .unset, .unset, .unset, .unset, .unset] [(.ref b1), (.ref b1)])) (fun tt_ kk_ => XS.dup X14.here hx rfl (hb hby at_23) rfl rfl kk_) ?_
  refine Wp.st (S' := T14.setTop (mkF m 25 #[.val (.int p1), .unset, .unset, .unset, .unset, .unset, .unset] [(.int (3 : Int32)), (.ref b1), (.ref b1)])) (fun tt_ kk_ => XS.iconst X14.here hx rfl (hb hby at_24) kk_) ?_
  have O16 := O12.wr W14 g3
  obtain ⟨T17, X17, e17, st17⟩ := getS2 X14 hx hZ hown (host := "") (Or.inl (hw _ (List.mem_of_getElem? (i := 10) rfl))) Via.refl e14 (PS_LIST.ext O16.2) (g := (mkF m 25 #[.val (.int p1), .unset, .unset, .unset, .unset, .unset, .unset] [(.int (3 : Int32)), (.ref b1), (.ref b1)])) rfl (hb hby at_25)
  refine Wp.st (S' := T17.setTop (mkF m 28 #[.val (.int p1), .unset, .unset, .unset, .unset, .unset, .unset] [(.ref w_LIST), (.int (3 : Int32)), (.ref b1), (.ref b1)])) st17 ?_
  obtain ⟨cl18, Ar18, q18, S18, N18, H18, G18⟩ := V14
  have hin18 := inb_of (j := (3 : Int32)) S18 ⟨by decide, by decide⟩
  obtain ⟨T18, h18, X18, e18, W18, st18⟩ := stR X17 hx hZ e17 Ar18 (j := (3 : Int32)) hin18 rfl (Sto.ofV Ar18 q18 O1 (Ins.self (PE_LIST.ext O16.2))) (g := (mkF m 28 #[.val (.int p1), .unset, .unset, .unset, .unset, .unset, .unset] [(.ref w_LIST), (.int (3 : Int32)), (.ref b1), (.ref b1)])) rfl rfl (hb hby at_28)
  have z19 := Nat.le_of_eq W18.size.symm
  have V18 : Arv Z h18 b1 k1 (.object "com/example/dags_over_clouds/dagsoverclouds/plan/Planner") (6 : Int32) [(.ref w_COST), (.ref w_RELIABLE), (.ref w_BOUNDED), (.ref w_LIST), .null, .null] .null := Arv.set Ar18 q18 S18 N18 H18 G18 rfl W18 3 rfl (Nat.le_of_ble_eq_true rfl)
  have Nf18 := Fr.snoc X18 Nf14 g3
  refine Wp.st (S' := T18.setTop (mkF m 29 #[.val (.int p1), .unset, .unset, .unset, .unset, .unset, .unset] [(.ref b1)])) st18 ?_
  refine Wp.st (S' := T18.setTop (mkF m 30 #[.val (.int p1), .unset, .unset, .unset, .unset, .unset, .unset] [(.ref b1), (.ref b1)])) (fun tt_ kk_ => XS.dup X18.here hx rfl (hb hby at_29) rfl rfl kk_) ?_
  refine Wp.st (S' := T18.setTop (mkF m 31 #[.val (.int p1), .unset, .unset, .unset, .unset, .unset, .unset] [(.int (4 : Int32)), (.ref b1), (.ref b1)])) (fun tt_ kk_ => XS.iconst X18.here hx rfl (hb hby at_30) kk_) ?_
  have O20 := O16.wr W18 g3
  obtain ⟨T21, X21, e21, st21⟩ := getS2 X18 hx hZ hown (host := "") (Or.inl (hw _ (List.mem_of_getElem? (i := 12) rfl))) Via.refl e18 (PS_LOCAL.ext O20.2) (g := (mkF m 31 #[.val (.int p1), .unset, .unset, .unset, .unset, .unset, .unset] [(.int (4 : Int32)), (.ref b1), (.ref b1)])) rfl (hb hby at_31)
  refine Wp.st (S' := T21.setTop (mkF m 34 #[.val (.int p1), .unset, .unset, .unset, .unset, .unset, .unset] [(.ref w_LOCAL), (.int (4 : Int32)), (.ref b1), (.ref b1)])) st21 ?_
  obtain ⟨cl22, Ar22, q22, S22, N22, H22, G22⟩ := V18
  have hin22 := inb_of (j := (4 : Int32)) S22 ⟨by decide, by decide⟩
  obtain ⟨T22, h22, X22, e22, W22, st22⟩ := stR X21 hx hZ e21 Ar22 (j := (4 : Int32)) hin22 rfl (Sto.ofV Ar22 q22 O1 (Ins.self (PE_LOCAL.ext O20.2))) (g := (mkF m 34 #[.val (.int p1), .unset, .unset, .unset, .unset, .unset, .unset] [(.ref w_LOCAL), (.int (4 : Int32)), (.ref b1), (.ref b1)])) rfl rfl (hb hby at_34)
  have z23 := Nat.le_of_eq W22.size.symm
  have V22 : Arv Z h22 b1 k1 (.object "com/example/dags_over_clouds/dagsoverclouds/plan/Planner") (6 : Int32) [(.ref w_COST), (.ref w_RELIABLE), (.ref w_BOUNDED), (.ref w_LIST), (.ref w_LOCAL), .null] .null := Arv.set Ar22 q22 S22 N22 H22 G22 rfl W22 4 rfl (Nat.le_of_ble_eq_true rfl)
  have Nf22 := Fr.snoc X22 Nf18 g3
  refine Wp.st (S' := T22.setTop (mkF m 35 #[.val (.int p1), .unset, .unset, .unset, .unset, .unset, .unset] [(.ref b1)])) st22 ?_
  refine Wp.st (S' := T22.setTop (mkF m 36 #[.val (.int p1), .unset, .unset, .unset, .unset, .unset, .unset] [(.ref b1), (.ref b1)])) (fun tt_ kk_ => XS.dup X22.here hx rfl (hb hby at_35) rfl rfl kk_) ?_
  refine Wp.st (S' := T22.setTop (mkF m 37 #[.val (.int p1), .unset, .unset, .unset, .unset, .unset, .unset] [(.int (5 : Int32)), (.ref b1), (.ref b1)])) (fun tt_ kk_ => XS.iconst X22.here hx rfl (hb hby at_36) kk_) ?_
  have O24 := O20.wr W22 g3
  obtain ⟨T25, X25, e25, st25⟩ := getS2 X22 hx hZ hown (host := "") (Or.inl (hw _ (List.mem_of_getElem? (i := 14) rfl))) Via.refl e22 (PS_FASTEST.ext O24.2) (g := (mkF m 37 #[.val (.int p1), .unset, .unset, .unset, .unset, .unset, .unset] [(.int (5 : Int32)), (.ref b1), (.ref b1)])) rfl (hb hby at_37)
  refine Wp.st (S' := T25.setTop (mkF m 40 #[.val (.int p1), .unset, .unset, .unset, .unset, .unset, .unset] [(.ref w_FASTEST), (.int (5 : Int32)), (.ref b1), (.ref b1)])) st25 ?_
  obtain ⟨cl26, Ar26, q26, S26, N26, H26, G26⟩ := V22
  have hin26 := inb_of (j := (5 : Int32)) S26 ⟨by decide, by decide⟩
  obtain ⟨T26, h26, X26, e26, W26, st26⟩ := stR X25 hx hZ e25 Ar26 (j := (5 : Int32)) hin26 rfl (Sto.ofV Ar26 q26 O1 (Ins.self (PE_FASTEST.ext O24.2))) (g := (mkF m 40 #[.val (.int p1), .unset, .unset, .unset, .unset, .unset, .unset] [(.ref w_FASTEST), (.int (5 : Int32)), (.ref b1), (.ref b1)])) rfl rfl (hb hby at_40)
  have z27 := Nat.le_of_eq W26.size.symm
  have V26 : Arv Z h26 b1 k1 (.object "com/example/dags_over_clouds/dagsoverclouds/plan/Planner") (6 : Int32) [(.ref w_COST), (.ref w_RELIABLE), (.ref w_BOUNDED), (.ref w_LIST), (.ref w_LOCAL), (.ref w_FASTEST)] .null := Arv.set Ar26 q26 S26 N26 H26 G26 rfl W26 5 rfl (Nat.le_of_ble_eq_true rfl)
  have Nf26 := Fr.snoc X26 Nf22 g3
  refine Wp.st (S' := T26.setTop (mkF m 41 #[.val (.int p1), .unset, .unset, .unset, .unset, .unset, .unset] [(.ref b1)])) st26 ?_
  refine Wp.st (S' := T26.setTop (mkF m 42 #[.val (.int p1), .val (.ref b1), .unset, .unset, .unset, .unset, .unset] [])) (fun tt_ kk_ => XS.astoreN X26.here hx rfl (hb hby at_41) rfl rfl (l' := #[.val (.int p1), .val (.ref b1), .unset, .unset, .unset, .unset, .unset]) rfl kk_) ?_
  refine Wp.st (S' := T26.setTop (mkF m 43 #[.val (.int p1), .val (.ref b1), .unset, .unset, .unset, .unset, .unset] [(.int p1)])) (fun tt_ kk_ => XS.iloadN X26.here hx rfl (hb hby at_42) rfl  kk_) ?_
  refine Wp.st (S' := T26.setTop (mkF m 45 #[.val (.int p1), .val (.ref b1), .unset, .unset, .unset, .unset, .unset] [(.int (2147483647 : Int32)), (.int p1)])) (fun tt_ kk_ => X26.ldcInt hx hown (mvT hZ (hw _ (List.mem_of_getElem? (i := 16) rfl))) (g := (mkF m 43 #[.val (.int p1), .val (.ref b1), .unset, .unset, .unset, .unset, .unset] [(.int p1)])) rfl (hb hby at_43) tt_ kk_) ?_
  refine Wp.st (S' := T26.setTop (mkF m 46 #[.val (.int p1), .val (.ref b1), .unset, .unset, .unset, .unset, .unset] [(.int (p1 &&& (2147483647 : Int32)))])) (fun tt_ kk_ => XS.iand X26.here hx rfl (hb hby at_45) rfl kk_) ?_
  refine Wp.st (S' := T26.setTop (mkF m 48 #[.val (.int p1), .val (.ref b1), .unset, .unset, .unset, .unset, .unset] [(.int (6 : Int32)), (.int (p1 &&& (2147483647 : Int32)))])) (fun tt_ kk_ => XS.bipush X26.here hx rfl (hb hby at_46) kk_) ?_
  refine Wp.st (S' := T26.setTop (mkF m 49 #[.val (.int p1), .val (.ref b1), .unset, .unset, .unset, .unset, .unset] [(.int ((p1 &&& (2147483647 : Int32)) % (6 : Int32)))])) (fun tt_ kk_ => iremM X26 hx rfl (hb hby at_48) rfl (by decide) kk_) ?_
  refine Wp.st (S' := T26.setTop (mkF m 50 #[.val (.int p1), .val (.ref b1), .val (.int ((p1 &&& (2147483647 : Int32)) % (6 : Int32))), .unset, .unset, .unset, .unset] [])) (fun tt_ kk_ => XS.istoreN X26.here hx rfl (hb hby at_49) rfl (l' := #[.val (.int p1), .val (.ref b1), .val (.int ((p1 &&& (2147483647 : Int32)) % (6 : Int32))), .unset, .unset, .unset, .unset]) rfl kk_) ?_
  generalize hk : ((p1 &&& (2147483647 : Int32)) % (6 : Int32)) = k
  have hk6 := own_k p1
  rw [hk] at hk6
  rcases hk6 with rfl | rfl | rfl | rfl | rfl | rfl
  · have _u := True.intro
    refine Wp.st (S' := T26.setTop (mkF m 51 #[.val (.int p1), .val (.ref b1), .val (.int (0 : Int32)), .unset, .unset, .unset, .unset] [(.ref b1)])) (fun tt_ kk_ => XS.aloadN X26.here hx rfl (hb hby at_50) rfl rfl kk_) ?_
    refine Wp.st (S' := T26.setTop (mkF m 52 #[.val (.int p1), .val (.ref b1), .val (.int (0 : Int32)), .unset, .unset, .unset, .unset] [(.int (0 : Int32)), (.ref b1)])) (fun tt_ kk_ => XS.iloadN X26.here hx rfl (hb hby at_51) rfl  kk_) ?_
    obtain ⟨cl28, Ar28, q28, S28, N28, H28, G28⟩ := V26
    have hin28 := inb_of (j := (0 : Int32)) S28 ⟨by decide, by decide⟩
    refine Wp.st (S' := T26.setTop (mkF m 53 #[.val (.int p1), .val (.ref b1), .val (.int (0 : Int32)), .unset, .unset, .unset, .unset] [(.ref w_COST)])) (fun tt_ kk_ => X26.aaload hx (j := (0 : Int32)) (v := (.ref w_COST)) (by rw [e26]; exact Ar28.1) (State.isArrayOf_alike hZ.alike Ar28.2.1) rfl Ar28.2.2 hin28 (H28.at hin28 rfl) (g := (mkF m 52 #[.val (.int p1), .val (.ref b1), .val (.int (0 : Int32)), .unset, .unset, .unset, .unset] [(.int (0 : Int32)), (.ref b1)])) rfl rfl (hb hby at_52) tt_ kk_) ?_
    refine Wp.st (S' := T26.setTop (mkF m 54 #[.val (.int p1), .val (.ref b1), .val (.int (0 : Int32)), .val (.ref w_COST), .unset, .unset, .unset] [])) (fun tt_ kk_ => XS.astoreN X26.here hx rfl (hb hby at_53) rfl rfl (l' := #[.val (.int p1), .val (.ref b1), .val (.int (0 : Int32)), .val (.ref w_COST), .unset, .unset, .unset]) rfl kk_) ?_
    refine Wp.st (S' := T26.setTop (mkF m 55 #[.val (.int p1), .val (.ref b1), .val (.int (0 : Int32)), .val (.ref w_COST), .unset, .unset, .unset] [(.int (0 : Int32))])) (fun tt_ kk_ => XS.iloadN X26.here hx rfl (hb hby at_54) rfl  kk_) ?_
    refine Wp.st (S' := T26.setTop (mkF m 56 #[.val (.int p1), .val (.ref b1), .val (.int (0 : Int32)), .val (.ref w_COST), .unset, .unset, .unset] [(.int (2 : Int32)), (.int (0 : Int32))])) (fun tt_ kk_ => XS.iconst X26.here hx rfl (hb hby at_55) kk_) ?_
    refine Wp.st (S' := T26.setTop (mkF m 59 #[.val (.int p1), .val (.ref b1), .val (.int (0 : Int32)), .val (.ref w_COST), .unset, .unset, .unset] [])) (fun tt_ kk_ => XS.icmpNo X26.here hx rfl (hb hby at_56) rfl (feq ((by decide) : ¬ ((0 : Int32) = (2 : Int32)))).1 kk_) ?_
    refine Wp.st (S' := T26.setTop (mkF m 60 #[.val (.int p1), .val (.ref b1), .val (.int (0 : Int32)), .val (.ref w_COST), .unset, .unset, .unset] [(.int (0 : Int32))])) (fun tt_ kk_ => XS.iloadN X26.here hx rfl (hb hby at_59) rfl  kk_) ?_
    refine Wp.st (S' := T26.setTop (mkF m 61 #[.val (.int p1), .val (.ref b1), .val (.int (0 : Int32)), .val (.ref w_COST), .unset, .unset, .unset] [(.int (3 : Int32)), (.int (0 : Int32))])) (fun tt_ kk_ => XS.iconst X26.here hx rfl (hb hby at_60) kk_) ?_
    refine Wp.st (S' := T26.setTop (mkF m 68 #[.val (.int p1), .val (.ref b1), .val (.int (0 : Int32)), .val (.ref w_COST), .unset, .unset, .unset] [])) (fun tt_ kk_ => XS.icmpYes X26.here hx rfl (pc0 := 61) (pc' := 68) rfl (hb hby at_61) rfl (feq ((by decide) : ¬ ((0 : Int32) = (3 : Int32)))).2 (by decide) (by decide) kk_) ?_
    refine Wp.st (S' := T26.setTop (mkF m 69 #[.val (.int p1), .val (.ref b1), .val (.int (0 : Int32)), .val (.ref w_COST), .unset, .unset, .unset] [(.int (0 : Int32))])) (fun tt_ kk_ => XS.iconst X26.here hx rfl (hb hby at_68) kk_) ?_
    refine Wp.st (S' := T26.setTop (mkF m 71 #[.val (.int p1), .val (.ref b1), .val (.int (0 : Int32)), .val (.ref w_COST), .val (.int (0 : Int32)), .unset, .unset] [])) (fun tt_ kk_ => XS.istore X26.here hx rfl (hb hby at_69) rfl (l' := #[.val (.int p1), .val (.ref b1), .val (.int (0 : Int32)), .val (.ref w_COST), .val (.int (0 : Int32)), .unset, .unset]) rfl kk_) ?_
    refine Wp.st (S' := T26.setTop (mkF m 72 #[.val (.int p1), .val (.ref b1), .val (.int (0 : Int32)), .val (.ref w_COST), .val (.int (0 : Int32)), .unset, .unset] [(.ref w_COST)])) (fun tt_ kk_ => XS.aloadN X26.here hx rfl (hb hby at_71) rfl rfl kk_) ?_
    have O30 := O24.wr W26 g3
    obtain ⟨cq29, kq29, q29a, q29b, q29c⟩ := isOf hZ e26 (PE_COST.ext O30.2)
    obtain ⟨vv29, _, ⟨T29, L29, k29, n29⟩, -, X29, ⟨Lc29, hQ29, l29, y29, z29⟩, st29⟩ := X26.virtualBack hx (y := (⟨"com/example/dags_over_clouds/dagsoverclouds/plan/Planner", "takesReliability", "()Z"⟩ : MethodName)) (z := (⟨"com/example/dags_over_clouds/dagsoverclouds/plan/Planner", "takesReliability", "()Z"⟩ : MethodName)) hown (mvT hZ (hw _ (List.mem_of_getElem? (i := 17) rfl))) (mvT hZ (hw _ (List.mem_of_getElem? (i := 18) rfl))) (notFace_of_selects (args := #[]) (mvT hZ (hw _ (List.mem_of_getElem? (i := 20) rfl)))) (mvT hZ (hw _ (List.mem_of_getElem? (i := 20) rfl))) (mvT hZ (hw _ (List.mem_of_getElem? (i := 19) rfl))) (by decide) (backOf (W := 0) (rm1 l Z a0 hw [] w_COST w_BOUNDED w_LIST h26 n0 (Nat.le_trans Z0 (Nat.le_trans (Nat.le_trans (Nat.le_trans (Nat.le_trans (Nat.le_trans (Nat.le_trans z2 z7) z11) z15) z19) z23) z27)) O30 PS_BOUNDED PS_LIST) hZ (hw _ (List.mem_of_getElem? (i := 21) rfl)) (hw _ (List.mem_of_getElem? (i := 3) rfl)) (by decide) (by decide)) q29a q29c (g := (mkF m 72 #[.val (.int p1), .val (.ref b1), .val (.int (0 : Int32)), .val (.ref w_COST), .val (.int (0 : Int32)), .unset, .unset] [(.ref w_COST)])) rfl (by rw [hml]; rfl) (Steps.refl _) (argsL := []) (rest := []) (lenOf pd_0 rfl) rfl (by show 2 * 0 + _ ≤ _; exact Nat.le_of_eq rfl) (hb hby at_72) (fun _ _ => ⟨rfl, e26, (by decide : 1 + 0 ≤ _), (by decide : 6 + 0 ≤ _)⟩)
    dsimp only [Pt.U, Pt.locs, Pt.cells, Pt.slots] at X29 l29 y29 z29 st29 hQ29
    subst l29 y29 z29
    obtain ⟨rfl, Nq29, e29⟩ := hQ29
    have N29 := Fr.app Nf26 Nq29
    refine Wp.tr (S' := T29.setTop (mkF m 75 #[.val (.int p1), .val (.ref b1), .val (.int (0 : Int32)), .val (.ref w_COST), .val (.int (0 : Int32)), .unset, .unset] [(.int (if w_COST = w_BOUNDED ∨ w_COST = w_LIST then (1 : Int32) else (0 : Int32)))])) st29 ?_
    rw [(if_neg (fun q => q.elim (Fld.ne PF_COST_ordinal PF_BOUNDED_ordinal (by decide)) (Fld.ne PF_COST_ordinal PF_LIST_ordinal (by decide))) : (if w_COST = w_BOUNDED ∨ w_COST = w_LIST then (1 : Int32) else (0 : Int32)) = (0 : Int32))]
    refine Wp.st (S' := T29.setTop (mkF m 77 #[.val (.int p1), .val (.ref b1), .val (.int (0 : Int32)), .val (.ref w_COST), .val (.int (0 : Int32)), .val (.int (0 : Int32)), .unset] [])) (fun tt_ kk_ => XS.istore X29.here hx rfl (hb hby at_75) rfl (l' := #[.val (.int p1), .val (.ref b1), .val (.int (0 : Int32)), .val (.ref w_COST), .val (.int (0 : Int32)), .val (.int (0 : Int32)), .unset]) rfl kk_) ?_
    refine Wp.st (S' := T29.setTop (mkF m 79 #[.val (.int p1), .val (.ref b1), .val (.int (0 : Int32)), .val (.ref w_COST), .val (.int (0 : Int32)), .val (.int (0 : Int32)), .unset] [(.int (0 : Int32))])) (fun tt_ kk_ => XS.iload X29.here hx rfl (hb hby at_77) rfl  kk_) ?_
    refine Wp.st (S' := T29.setTop (mkF m 93 #[.val (.int p1), .val (.ref b1), .val (.int (0 : Int32)), .val (.ref w_COST), .val (.int (0 : Int32)), .val (.int (0 : Int32)), .unset] [])) (fun tt_ kk_ => XS.ifYes X29.here hx rfl (pc0 := 79) (pc' := 93) rfl (hb hby at_79) rfl ((if0 _ _).trans (teq ((by decide) : (0 : Int32) = (0 : Int32))).1) (by decide) (by decide) kk_) ?_
    refine Wp.st (S' := T29.setTop (mkF m 94 #[.val (.int p1), .val (.ref b1), .val (.int (0 : Int32)), .val (.ref w_COST), .val (.int (0 : Int32)), .val (.int (0 : Int32)), .unset] [(.int (0 : Int32))])) (fun tt_ kk_ => XS.iconst X29.here hx rfl (hb hby at_93) kk_) ?_
    refine Wp.st (S' := T29.setTop (mkF m 96 #[.val (.int p1), .val (.ref b1), .val (.int (0 : Int32)), .val (.ref w_COST), .val (.int (0 : Int32)), .val (.int (0 : Int32)), .val (.int (0 : Int32))] [])) (fun tt_ kk_ => XS.istore X29.here hx rfl (hb hby at_94) rfl (l' := #[.val (.int p1), .val (.ref b1), .val (.int (0 : Int32)), .val (.ref w_COST), .val (.int (0 : Int32)), .val (.int (0 : Int32)), .val (.int (0 : Int32))]) rfl kk_) ?_
    refine Wp.st (S' := T29.setTop (mkF m 98 #[.val (.int p1), .val (.ref b1), .val (.int (0 : Int32)), .val (.ref w_COST), .val (.int (0 : Int32)), .val (.int (0 : Int32)), .val (.int (0 : Int32))] [(.int (0 : Int32))])) (fun tt_ kk_ => XS.iload X29.here hx rfl (hb hby at_96) rfl  kk_) ?_
    refine Wp.st (S' := T29.setTop (mkF m 100 #[.val (.int p1), .val (.ref b1), .val (.int (0 : Int32)), .val (.ref w_COST), .val (.int (0 : Int32)), .val (.int (0 : Int32)), .val (.int (0 : Int32))] [(.int (0 : Int32)), (.int (0 : Int32))])) (fun tt_ kk_ => XS.iload X29.here hx rfl (hb hby at_98) rfl  kk_) ?_
    refine Wp.st (S' := T29.setTop (mkF m 103 #[.val (.int p1), .val (.ref b1), .val (.int (0 : Int32)), .val (.ref w_COST), .val (.int (0 : Int32)), .val (.int (0 : Int32)), .val (.int (0 : Int32))] [])) (fun tt_ kk_ => XS.icmpNo X29.here hx rfl (hb hby at_100) rfl (teq ((by decide) : (0 : Int32) = (0 : Int32))).2 kk_) ?_
    refine Wp.st (S' := T29.setTop (mkF m 105 #[.val (.int p1), .val (.ref b1), .val (.int (0 : Int32)), .val (.ref w_COST), .val (.int (0 : Int32)), .val (.int (0 : Int32)), .val (.int (0 : Int32))] [(.int (0 : Int32))])) (fun tt_ kk_ => XS.iload X29.here hx rfl (hb hby at_103) rfl  kk_) ?_
    refine Wp.st (S' := T29.setTop (mkF m 108 #[.val (.int p1), .val (.ref b1), .val (.int (0 : Int32)), .val (.ref w_COST), .val (.int (0 : Int32)), .val (.int (0 : Int32)), .val (.int (0 : Int32))] [])) (fun tt_ kk_ => XS.ifNo X29.here hx rfl (hb hby at_105) rfl ((if0 _ _).trans (teq ((by decide) : (0 : Int32) = (0 : Int32))).2) kk_) ?_
    refine Wp.st (S' := T29.setTop (mkF m 109 #[.val (.int p1), .val (.ref b1), .val (.int (0 : Int32)), .val (.ref w_COST), .val (.int (0 : Int32)), .val (.int (0 : Int32)), .val (.int (0 : Int32))] [(.int (1 : Int32))])) (fun tt_ kk_ => XS.iconst X29.here hx rfl (hb hby at_108) kk_) ?_
    refine Wp.st (S' := T29.setTop (mkF m 113 #[.val (.int p1), .val (.ref b1), .val (.int (0 : Int32)), .val (.ref w_COST), .val (.int (0 : Int32)), .val (.int (0 : Int32)), .val (.int (0 : Int32))] [(.int (1 : Int32))])) (fun tt_ kk_ => XS.goto X29.here hx rfl (pc0 := 109) (pc' := 113) rfl (hb hby at_109) (by decide) (by decide) kk_) ?_
    have K31 := Keep.refl h0 []
    have K32 := K31.ext E1
    have K33 := K32.wr W6 (Or.inr (Nat.le_trans (Nat.le_refl _) (Nat.le_of_eq g1.symm)))
    have K34 := K33.wr W10 (Or.inr (Nat.le_trans (Nat.le_refl _) (Nat.le_of_eq g1.symm)))
    have K35 := K34.wr W14 (Or.inr (Nat.le_trans (Nat.le_refl _) (Nat.le_of_eq g1.symm)))
    have K36 := K35.wr W18 (Or.inr (Nat.le_trans (Nat.le_refl _) (Nat.le_of_eq g1.symm)))
    have K37 := K36.wr W22 (Or.inr (Nat.le_trans (Nat.le_refl _) (Nat.le_of_eq g1.symm)))
    have K38 := K37.wr W26 (Or.inr (Nat.le_trans (Nat.le_refl _) (Nat.le_of_eq g1.symm)))
    exact Wp.ret X29 hlk (v := (some (.int (1 : Int32)))) (fun h => by rw [Bd.returns] at h; cases h) (fun fs hr => retN (z := (1 : Int32)) X29 hx (t := .boolean) Bd.returns (by simp) (hb hby at_113) hr) (by decide) (by decide) (show Q_rm0 Z p1 w_COST w_RELIABLE w_BOUNDED w_LIST w_LOCAL w_FASTEST h0 n0 _ T29.heap _ by rw [e29]; exact ⟨rfl, N29, K38⟩)
  · have _u := True.intro
    refine Wp.st (S' := T26.setTop (mkF m 51 #[.val (.int p1), .val (.ref b1), .val (.int (1 : Int32)), .unset, .unset, .unset, .unset] [(.ref b1)])) (fun tt_ kk_ => XS.aloadN X26.here hx rfl (hb hby at_50) rfl rfl kk_) ?_
    refine Wp.st (S' := T26.setTop (mkF m 52 #[.val (.int p1), .val (.ref b1), .val (.int (1 : Int32)), .unset, .unset, .unset, .unset] [(.int (1 : Int32)), (.ref b1)])) (fun tt_ kk_ => XS.iloadN X26.here hx rfl (hb hby at_51) rfl  kk_) ?_
    obtain ⟨cl39, Ar39, q39, S39, N39, H39, G39⟩ := V26
    have hin39 := inb_of (j := (1 : Int32)) S39 ⟨by decide, by decide⟩
    refine Wp.st (S' := T26.setTop (mkF m 53 #[.val (.int p1), .val (.ref b1), .val (.int (1 : Int32)), .unset, .unset, .unset, .unset] [(.ref w_RELIABLE)])) (fun tt_ kk_ => X26.aaload hx (j := (1 : Int32)) (v := (.ref w_RELIABLE)) (by rw [e26]; exact Ar39.1) (State.isArrayOf_alike hZ.alike Ar39.2.1) rfl Ar39.2.2 hin39 (H39.at hin39 rfl) (g := (mkF m 52 #[.val (.int p1), .val (.ref b1), .val (.int (1 : Int32)), .unset, .unset, .unset, .unset] [(.int (1 : Int32)), (.ref b1)])) rfl rfl (hb hby at_52) tt_ kk_) ?_
    refine Wp.st (S' := T26.setTop (mkF m 54 #[.val (.int p1), .val (.ref b1), .val (.int (1 : Int32)), .val (.ref w_RELIABLE), .unset, .unset, .unset] [])) (fun tt_ kk_ => XS.astoreN X26.here hx rfl (hb hby at_53) rfl rfl (l' := #[.val (.int p1), .val (.ref b1), .val (.int (1 : Int32)), .val (.ref w_RELIABLE), .unset, .unset, .unset]) rfl kk_) ?_
    refine Wp.st (S' := T26.setTop (mkF m 55 #[.val (.int p1), .val (.ref b1), .val (.int (1 : Int32)), .val (.ref w_RELIABLE), .unset, .unset, .unset] [(.int (1 : Int32))])) (fun tt_ kk_ => XS.iloadN X26.here hx rfl (hb hby at_54) rfl  kk_) ?_
    refine Wp.st (S' := T26.setTop (mkF m 56 #[.val (.int p1), .val (.ref b1), .val (.int (1 : Int32)), .val (.ref w_RELIABLE), .unset, .unset, .unset] [(.int (2 : Int32)), (.int (1 : Int32))])) (fun tt_ kk_ => XS.iconst X26.here hx rfl (hb hby at_55) kk_) ?_
    refine Wp.st (S' := T26.setTop (mkF m 59 #[.val (.int p1), .val (.ref b1), .val (.int (1 : Int32)), .val (.ref w_RELIABLE), .unset, .unset, .unset] [])) (fun tt_ kk_ => XS.icmpNo X26.here hx rfl (hb hby at_56) rfl (feq ((by decide) : ¬ ((1 : Int32) = (2 : Int32)))).1 kk_) ?_
    refine Wp.st (S' := T26.setTop (mkF m 60 #[.val (.int p1), .val (.ref b1), .val (.int (1 : Int32)), .val (.ref w_RELIABLE), .unset, .unset, .unset] [(.int (1 : Int32))])) (fun tt_ kk_ => XS.iloadN X26.here hx rfl (hb hby at_59) rfl  kk_) ?_
    refine Wp.st (S' := T26.setTop (mkF m 61 #[.val (.int p1), .val (.ref b1), .val (.int (1 : Int32)), .val (.ref w_RELIABLE), .unset, .unset, .unset] [(.int (3 : Int32)), (.int (1 : Int32))])) (fun tt_ kk_ => XS.iconst X26.here hx rfl (hb hby at_60) kk_) ?_
    refine Wp.st (S' := T26.setTop (mkF m 68 #[.val (.int p1), .val (.ref b1), .val (.int (1 : Int32)), .val (.ref w_RELIABLE), .unset, .unset, .unset] [])) (fun tt_ kk_ => XS.icmpYes X26.here hx rfl (pc0 := 61) (pc' := 68) rfl (hb hby at_61) rfl (feq ((by decide) : ¬ ((1 : Int32) = (3 : Int32)))).2 (by decide) (by decide) kk_) ?_
    refine Wp.st (S' := T26.setTop (mkF m 69 #[.val (.int p1), .val (.ref b1), .val (.int (1 : Int32)), .val (.ref w_RELIABLE), .unset, .unset, .unset] [(.int (0 : Int32))])) (fun tt_ kk_ => XS.iconst X26.here hx rfl (hb hby at_68) kk_) ?_
    refine Wp.st (S' := T26.setTop (mkF m 71 #[.val (.int p1), .val (.ref b1), .val (.int (1 : Int32)), .val (.ref w_RELIABLE), .val (.int (0 : Int32)), .unset, .unset] [])) (fun tt_ kk_ => XS.istore X26.here hx rfl (hb hby at_69) rfl (l' := #[.val (.int p1), .val (.ref b1), .val (.int (1 : Int32)), .val (.ref w_RELIABLE), .val (.int (0 : Int32)), .unset, .unset]) rfl kk_) ?_
    refine Wp.st (S' := T26.setTop (mkF m 72 #[.val (.int p1), .val (.ref b1), .val (.int (1 : Int32)), .val (.ref w_RELIABLE), .val (.int (0 : Int32)), .unset, .unset] [(.ref w_RELIABLE)])) (fun tt_ kk_ => XS.aloadN X26.here hx rfl (hb hby at_71) rfl rfl kk_) ?_
    have O41 := O24.wr W26 g3
    obtain ⟨cq40, kq40, q40a, q40b, q40c⟩ := isOf hZ e26 (PE_RELIABLE.ext O41.2)
    obtain ⟨vv40, _, ⟨T40, L40, k40, n40⟩, -, X40, ⟨Lc40, hQ40, l40, y40, z40⟩, st40⟩ := X26.virtualBack hx (y := (⟨"com/example/dags_over_clouds/dagsoverclouds/plan/Planner", "takesReliability", "()Z"⟩ : MethodName)) (z := (⟨"com/example/dags_over_clouds/dagsoverclouds/plan/Planner", "takesReliability", "()Z"⟩ : MethodName)) hown (mvT hZ (hw _ (List.mem_of_getElem? (i := 17) rfl))) (mvT hZ (hw _ (List.mem_of_getElem? (i := 18) rfl))) (notFace_of_selects (args := #[]) (mvT hZ (hw _ (List.mem_of_getElem? (i := 20) rfl)))) (mvT hZ (hw _ (List.mem_of_getElem? (i := 20) rfl))) (mvT hZ (hw _ (List.mem_of_getElem? (i := 19) rfl))) (by decide) (backOf (W := 0) (rm1 l Z a0 hw [] w_RELIABLE w_BOUNDED w_LIST h26 n0 (Nat.le_trans Z0 (Nat.le_trans (Nat.le_trans (Nat.le_trans (Nat.le_trans (Nat.le_trans (Nat.le_trans z2 z7) z11) z15) z19) z23) z27)) O41 PS_BOUNDED PS_LIST) hZ (hw _ (List.mem_of_getElem? (i := 21) rfl)) (hw _ (List.mem_of_getElem? (i := 3) rfl)) (by decide) (by decide)) q40a q40c (g := (mkF m 72 #[.val (.int p1), .val (.ref b1), .val (.int (1 : Int32)), .val (.ref w_RELIABLE), .val (.int (0 : Int32)), .unset, .unset] [(.ref w_RELIABLE)])) rfl (by rw [hml]; rfl) (Steps.refl _) (argsL := []) (rest := []) (lenOf pd_0 rfl) rfl (by show 2 * 0 + _ ≤ _; exact Nat.le_of_eq rfl) (hb hby at_72) (fun _ _ => ⟨rfl, e26, (by decide : 1 + 0 ≤ _), (by decide : 6 + 0 ≤ _)⟩)
    dsimp only [Pt.U, Pt.locs, Pt.cells, Pt.slots] at X40 l40 y40 z40 st40 hQ40
    subst l40 y40 z40
    obtain ⟨rfl, Nq40, e40⟩ := hQ40
    have N40 := Fr.app Nf26 Nq40
    refine Wp.tr (S' := T40.setTop (mkF m 75 #[.val (.int p1), .val (.ref b1), .val (.int (1 : Int32)), .val (.ref w_RELIABLE), .val (.int (0 : Int32)), .unset, .unset] [(.int (if w_RELIABLE = w_BOUNDED ∨ w_RELIABLE = w_LIST then (1 : Int32) else (0 : Int32)))])) st40 ?_
    rw [(if_neg (fun q => q.elim (Fld.ne PF_RELIABLE_ordinal PF_BOUNDED_ordinal (by decide)) (Fld.ne PF_RELIABLE_ordinal PF_LIST_ordinal (by decide))) : (if w_RELIABLE = w_BOUNDED ∨ w_RELIABLE = w_LIST then (1 : Int32) else (0 : Int32)) = (0 : Int32))]
    refine Wp.st (S' := T40.setTop (mkF m 77 #[.val (.int p1), .val (.ref b1), .val (.int (1 : Int32)), .val (.ref w_RELIABLE), .val (.int (0 : Int32)), .val (.int (0 : Int32)), .unset] [])) (fun tt_ kk_ => XS.istore X40.here hx rfl (hb hby at_75) rfl (l' := #[.val (.int p1), .val (.ref b1), .val (.int (1 : Int32)), .val (.ref w_RELIABLE), .val (.int (0 : Int32)), .val (.int (0 : Int32)), .unset]) rfl kk_) ?_
    refine Wp.st (S' := T40.setTop (mkF m 79 #[.val (.int p1), .val (.ref b1), .val (.int (1 : Int32)), .val (.ref w_RELIABLE), .val (.int (0 : Int32)), .val (.int (0 : Int32)), .unset] [(.int (0 : Int32))])) (fun tt_ kk_ => XS.iload X40.here hx rfl (hb hby at_77) rfl  kk_) ?_
    refine Wp.st (S' := T40.setTop (mkF m 93 #[.val (.int p1), .val (.ref b1), .val (.int (1 : Int32)), .val (.ref w_RELIABLE), .val (.int (0 : Int32)), .val (.int (0 : Int32)), .unset] [])) (fun tt_ kk_ => XS.ifYes X40.here hx rfl (pc0 := 79) (pc' := 93) rfl (hb hby at_79) rfl ((if0 _ _).trans (teq ((by decide) : (0 : Int32) = (0 : Int32))).1) (by decide) (by decide) kk_) ?_
    refine Wp.st (S' := T40.setTop (mkF m 94 #[.val (.int p1), .val (.ref b1), .val (.int (1 : Int32)), .val (.ref w_RELIABLE), .val (.int (0 : Int32)), .val (.int (0 : Int32)), .unset] [(.int (0 : Int32))])) (fun tt_ kk_ => XS.iconst X40.here hx rfl (hb hby at_93) kk_) ?_
    refine Wp.st (S' := T40.setTop (mkF m 96 #[.val (.int p1), .val (.ref b1), .val (.int (1 : Int32)), .val (.ref w_RELIABLE), .val (.int (0 : Int32)), .val (.int (0 : Int32)), .val (.int (0 : Int32))] [])) (fun tt_ kk_ => XS.istore X40.here hx rfl (hb hby at_94) rfl (l' := #[.val (.int p1), .val (.ref b1), .val (.int (1 : Int32)), .val (.ref w_RELIABLE), .val (.int (0 : Int32)), .val (.int (0 : Int32)), .val (.int (0 : Int32))]) rfl kk_) ?_
    refine Wp.st (S' := T40.setTop (mkF m 98 #[.val (.int p1), .val (.ref b1), .val (.int (1 : Int32)), .val (.ref w_RELIABLE), .val (.int (0 : Int32)), .val (.int (0 : Int32)), .val (.int (0 : Int32))] [(.int (0 : Int32))])) (fun tt_ kk_ => XS.iload X40.here hx rfl (hb hby at_96) rfl  kk_) ?_
    refine Wp.st (S' := T40.setTop (mkF m 100 #[.val (.int p1), .val (.ref b1), .val (.int (1 : Int32)), .val (.ref w_RELIABLE), .val (.int (0 : Int32)), .val (.int (0 : Int32)), .val (.int (0 : Int32))] [(.int (0 : Int32)), (.int (0 : Int32))])) (fun tt_ kk_ => XS.iload X40.here hx rfl (hb hby at_98) rfl  kk_) ?_
    refine Wp.st (S' := T40.setTop (mkF m 103 #[.val (.int p1), .val (.ref b1), .val (.int (1 : Int32)), .val (.ref w_RELIABLE), .val (.int (0 : Int32)), .val (.int (0 : Int32)), .val (.int (0 : Int32))] [])) (fun tt_ kk_ => XS.icmpNo X40.here hx rfl (hb hby at_100) rfl (teq ((by decide) : (0 : Int32) = (0 : Int32))).2 kk_) ?_
    refine Wp.st (S' := T40.setTop (mkF m 105 #[.val (.int p1), .val (.ref b1), .val (.int (1 : Int32)), .val (.ref w_RELIABLE), .val (.int (0 : Int32)), .val (.int (0 : Int32)), .val (.int (0 : Int32))] [(.int (0 : Int32))])) (fun tt_ kk_ => XS.iload X40.here hx rfl (hb hby at_103) rfl  kk_) ?_
    refine Wp.st (S' := T40.setTop (mkF m 108 #[.val (.int p1), .val (.ref b1), .val (.int (1 : Int32)), .val (.ref w_RELIABLE), .val (.int (0 : Int32)), .val (.int (0 : Int32)), .val (.int (0 : Int32))] [])) (fun tt_ kk_ => XS.ifNo X40.here hx rfl (hb hby at_105) rfl ((if0 _ _).trans (teq ((by decide) : (0 : Int32) = (0 : Int32))).2) kk_) ?_
    refine Wp.st (S' := T40.setTop (mkF m 109 #[.val (.int p1), .val (.ref b1), .val (.int (1 : Int32)), .val (.ref w_RELIABLE), .val (.int (0 : Int32)), .val (.int (0 : Int32)), .val (.int (0 : Int32))] [(.int (1 : Int32))])) (fun tt_ kk_ => XS.iconst X40.here hx rfl (hb hby at_108) kk_) ?_
    refine Wp.st (S' := T40.setTop (mkF m 113 #[.val (.int p1), .val (.ref b1), .val (.int (1 : Int32)), .val (.ref w_RELIABLE), .val (.int (0 : Int32)), .val (.int (0 : Int32)), .val (.int (0 : Int32))] [(.int (1 : Int32))])) (fun tt_ kk_ => XS.goto X40.here hx rfl (pc0 := 109) (pc' := 113) rfl (hb hby at_109) (by decide) (by decide) kk_) ?_
    have K42 := Keep.refl h0 []
    have K43 := K42.ext E1
    have K44 := K43.wr W6 (Or.inr (Nat.le_trans (Nat.le_refl _) (Nat.le_of_eq g1.symm)))
    have K45 := K44.wr W10 (Or.inr (Nat.le_trans (Nat.le_refl _) (Nat.le_of_eq g1.symm)))
    have K46 := K45.wr W14 (Or.inr (Nat.le_trans (Nat.le_refl _) (Nat.le_of_eq g1.symm)))
    have K47 := K46.wr W18 (Or.inr (Nat.le_trans (Nat.le_refl _) (Nat.le_of_eq g1.symm)))
    have K48 := K47.wr W22 (Or.inr (Nat.le_trans (Nat.le_refl _) (Nat.le_of_eq g1.symm)))
    have K49 := K48.wr W26 (Or.inr (Nat.le_trans (Nat.le_refl _) (Nat.le_of_eq g1.symm)))
    exact Wp.ret X40 hlk (v := (some (.int (1 : Int32)))) (fun h => by rw [Bd.returns] at h; cases h) (fun fs hr => retN (z := (1 : Int32)) X40 hx (t := .boolean) Bd.returns (by simp) (hb hby at_113) hr) (by decide) (by decide) (show Q_rm0 Z p1 w_COST w_RELIABLE w_BOUNDED w_LIST w_LOCAL w_FASTEST h0 n0 _ T40.heap _ by rw [e40]; exact ⟨rfl, N40, K49⟩)
  · have _u := True.intro
    refine Wp.st (S' := T26.setTop (mkF m 51 #[.val (.int p1), .val (.ref b1), .val (.int (2 : Int32)), .unset, .unset, .unset, .unset] [(.ref b1)])) (fun tt_ kk_ => XS.aloadN X26.here hx rfl (hb hby at_50) rfl rfl kk_) ?_
    refine Wp.st (S' := T26.setTop (mkF m 52 #[.val (.int p1), .val (.ref b1), .val (.int (2 : Int32)), .unset, .unset, .unset, .unset] [(.int (2 : Int32)), (.ref b1)])) (fun tt_ kk_ => XS.iloadN X26.here hx rfl (hb hby at_51) rfl  kk_) ?_
    obtain ⟨cl50, Ar50, q50, S50, N50, H50, G50⟩ := V26
    have hin50 := inb_of (j := (2 : Int32)) S50 ⟨by decide, by decide⟩
    refine Wp.st (S' := T26.setTop (mkF m 53 #[.val (.int p1), .val (.ref b1), .val (.int (2 : Int32)), .unset, .unset, .unset, .unset] [(.ref w_BOUNDED)])) (fun tt_ kk_ => X26.aaload hx (j := (2 : Int32)) (v := (.ref w_BOUNDED)) (by rw [e26]; exact Ar50.1) (State.isArrayOf_alike hZ.alike Ar50.2.1) rfl Ar50.2.2 hin50 (H50.at hin50 rfl) (g := (mkF m 52 #[.val (.int p1), .val (.ref b1), .val (.int (2 : Int32)), .unset, .unset, .unset, .unset] [(.int (2 : Int32)), (.ref b1)])) rfl rfl (hb hby at_52) tt_ kk_) ?_
    refine Wp.st (S' := T26.setTop (mkF m 54 #[.val (.int p1), .val (.ref b1), .val (.int (2 : Int32)), .val (.ref w_BOUNDED), .unset, .unset, .unset] [])) (fun tt_ kk_ => XS.astoreN X26.here hx rfl (hb hby at_53) rfl rfl (l' := #[.val (.int p1), .val (.ref b1), .val (.int (2 : Int32)), .val (.ref w_BOUNDED), .unset, .unset, .unset]) rfl kk_) ?_
    refine Wp.st (S' := T26.setTop (mkF m 55 #[.val (.int p1), .val (.ref b1), .val (.int (2 : Int32)), .val (.ref w_BOUNDED), .unset, .unset, .unset] [(.int (2 : Int32))])) (fun tt_ kk_ => XS.iloadN X26.here hx rfl (hb hby at_54) rfl  kk_) ?_
    refine Wp.st (S' := T26.setTop (mkF m 56 #[.val (.int p1), .val (.ref b1), .val (.int (2 : Int32)), .val (.ref w_BOUNDED), .unset, .unset, .unset] [(.int (2 : Int32)), (.int (2 : Int32))])) (fun tt_ kk_ => XS.iconst X26.here hx rfl (hb hby at_55) kk_) ?_
    refine Wp.st (S' := T26.setTop (mkF m 64 #[.val (.int p1), .val (.ref b1), .val (.int (2 : Int32)), .val (.ref w_BOUNDED), .unset, .unset, .unset] [])) (fun tt_ kk_ => XS.icmpYes X26.here hx rfl (pc0 := 56) (pc' := 64) rfl (hb hby at_56) rfl (teq ((by decide) : (2 : Int32) = (2 : Int32))).1 (by decide) (by decide) kk_) ?_
    refine Wp.st (S' := T26.setTop (mkF m 65 #[.val (.int p1), .val (.ref b1), .val (.int (2 : Int32)), .val (.ref w_BOUNDED), .unset, .unset, .unset] [(.int (1 : Int32))])) (fun tt_ kk_ => XS.iconst X26.here hx rfl (hb hby at_64) kk_) ?_
    refine Wp.st (S' := T26.setTop (mkF m 69 #[.val (.int p1), .val (.ref b1), .val (.int (2 : Int32)), .val (.ref w_BOUNDED), .unset, .unset, .unset] [(.int (1 : Int32))])) (fun tt_ kk_ => XS.goto X26.here hx rfl (pc0 := 65) (pc' := 69) rfl (hb hby at_65) (by decide) (by decide) kk_) ?_
    refine Wp.st (S' := T26.setTop (mkF m 71 #[.val (.int p1), .val (.ref b1), .val (.int (2 : Int32)), .val (.ref w_BOUNDED), .val (.int (1 : Int32)), .unset, .unset] [])) (fun tt_ kk_ => XS.istore X26.here hx rfl (hb hby at_69) rfl (l' := #[.val (.int p1), .val (.ref b1), .val (.int (2 : Int32)), .val (.ref w_BOUNDED), .val (.int (1 : Int32)), .unset, .unset]) rfl kk_) ?_
    refine Wp.st (S' := T26.setTop (mkF m 72 #[.val (.int p1), .val (.ref b1), .val (.int (2 : Int32)), .val (.ref w_BOUNDED), .val (.int (1 : Int32)), .unset, .unset] [(.ref w_BOUNDED)])) (fun tt_ kk_ => XS.aloadN X26.here hx rfl (hb hby at_71) rfl rfl kk_) ?_
    have O52 := O24.wr W26 g3
    obtain ⟨cq51, kq51, q51a, q51b, q51c⟩ := isOf hZ e26 (PE_BOUNDED.ext O52.2)
    obtain ⟨vv51, _, ⟨T51, L51, k51, n51⟩, -, X51, ⟨Lc51, hQ51, l51, y51, z51⟩, st51⟩ := X26.virtualBack hx (y := (⟨"com/example/dags_over_clouds/dagsoverclouds/plan/Planner", "takesReliability", "()Z"⟩ : MethodName)) (z := (⟨"com/example/dags_over_clouds/dagsoverclouds/plan/Planner", "takesReliability", "()Z"⟩ : MethodName)) hown (mvT hZ (hw _ (List.mem_of_getElem? (i := 17) rfl))) (mvT hZ (hw _ (List.mem_of_getElem? (i := 18) rfl))) (notFace_of_selects (args := #[]) (mvT hZ (hw _ (List.mem_of_getElem? (i := 20) rfl)))) (mvT hZ (hw _ (List.mem_of_getElem? (i := 20) rfl))) (mvT hZ (hw _ (List.mem_of_getElem? (i := 19) rfl))) (by decide) (backOf (W := 0) (rm1 l Z a0 hw [] w_BOUNDED w_BOUNDED w_LIST h26 n0 (Nat.le_trans Z0 (Nat.le_trans (Nat.le_trans (Nat.le_trans (Nat.le_trans (Nat.le_trans (Nat.le_trans z2 z7) z11) z15) z19) z23) z27)) O52 PS_BOUNDED PS_LIST) hZ (hw _ (List.mem_of_getElem? (i := 21) rfl)) (hw _ (List.mem_of_getElem? (i := 3) rfl)) (by decide) (by decide)) q51a q51c (g := (mkF m 72 #[.val (.int p1), .val (.ref b1), .val (.int (2 : Int32)), .val (.ref w_BOUNDED), .val (.int (1 : Int32)), .unset, .unset] [(.ref w_BOUNDED)])) rfl (by rw [hml]; rfl) (Steps.refl _) (argsL := []) (rest := []) (lenOf pd_0 rfl) rfl (by show 2 * 0 + _ ≤ _; exact Nat.le_of_eq rfl) (hb hby at_72) (fun _ _ => ⟨rfl, e26, (by decide : 1 + 0 ≤ _), (by decide : 6 + 0 ≤ _)⟩)
    dsimp only [Pt.U, Pt.locs, Pt.cells, Pt.slots] at X51 l51 y51 z51 st51 hQ51
    subst l51 y51 z51
    obtain ⟨rfl, Nq51, e51⟩ := hQ51
    have N51 := Fr.app Nf26 Nq51
    refine Wp.tr (S' := T51.setTop (mkF m 75 #[.val (.int p1), .val (.ref b1), .val (.int (2 : Int32)), .val (.ref w_BOUNDED), .val (.int (1 : Int32)), .unset, .unset] [(.int (if w_BOUNDED = w_BOUNDED ∨ w_BOUNDED = w_LIST then (1 : Int32) else (0 : Int32)))])) st51 ?_
    rw [(if_pos (Or.inl rfl) : (if w_BOUNDED = w_BOUNDED ∨ w_BOUNDED = w_LIST then (1 : Int32) else (0 : Int32)) = (1 : Int32))]
    refine Wp.st (S' := T51.setTop (mkF m 77 #[.val (.int p1), .val (.ref b1), .val (.int (2 : Int32)), .val (.ref w_BOUNDED), .val (.int (1 : Int32)), .val (.int (1 : Int32)), .unset] [])) (fun tt_ kk_ => XS.istore X51.here hx rfl (hb hby at_75) rfl (l' := #[.val (.int p1), .val (.ref b1), .val (.int (2 : Int32)), .val (.ref w_BOUNDED), .val (.int (1 : Int32)), .val (.int (1 : Int32)), .unset]) rfl kk_) ?_
    refine Wp.st (S' := T51.setTop (mkF m 79 #[.val (.int p1), .val (.ref b1), .val (.int (2 : Int32)), .val (.ref w_BOUNDED), .val (.int (1 : Int32)), .val (.int (1 : Int32)), .unset] [(.int (1 : Int32))])) (fun tt_ kk_ => XS.iload X51.here hx rfl (hb hby at_77) rfl  kk_) ?_
    refine Wp.st (S' := T51.setTop (mkF m 82 #[.val (.int p1), .val (.ref b1), .val (.int (2 : Int32)), .val (.ref w_BOUNDED), .val (.int (1 : Int32)), .val (.int (1 : Int32)), .unset] [])) (fun tt_ kk_ => XS.ifNo X51.here hx rfl (hb hby at_79) rfl ((if0 _ _).trans (feq ((by decide) : ¬ ((1 : Int32) = (0 : Int32)))).1) kk_) ?_
    refine Wp.st (S' := T51.setTop (mkF m 83 #[.val (.int p1), .val (.ref b1), .val (.int (2 : Int32)), .val (.ref w_BOUNDED), .val (.int (1 : Int32)), .val (.int (1 : Int32)), .unset] [(.ref w_BOUNDED)])) (fun tt_ kk_ => XS.aloadN X51.here hx rfl (hb hby at_82) rfl rfl kk_) ?_
    obtain ⟨cq53, kq53, q53a, q53b, q53c⟩ := isOf hZ e51 (PE_BOUNDED.ext O52.2)
    obtain ⟨vv53, _, ⟨T53, L53, k53, n53⟩, -, X53, ⟨Lc53, hQ53, l53, y53, z53⟩, st53⟩ := X51.virtualBack hx (y := (⟨"com/example/dags_over_clouds/dagsoverclouds/plan/Planner", "takesBudget", "()Z"⟩ : MethodName)) (z := (⟨"com/example/dags_over_clouds/dagsoverclouds/plan/Planner", "takesBudget", "()Z"⟩ : MethodName)) hown (mvT hZ (hw _ (List.mem_of_getElem? (i := 24) rfl))) (mvT hZ (hw _ (List.mem_of_getElem? (i := 25) rfl))) (notFace_of_selects (args := #[]) (mvT hZ (hw _ (List.mem_of_getElem? (i := 27) rfl)))) (mvT hZ (hw _ (List.mem_of_getElem? (i := 27) rfl))) (mvT hZ (hw _ (List.mem_of_getElem? (i := 26) rfl))) (by decide) (backOf (W := 0) (rm2 l Z a0 hw [] w_BOUNDED w_FASTEST h26 n0 (Nat.le_trans Z0 (Nat.le_trans (Nat.le_trans (Nat.le_trans (Nat.le_trans (Nat.le_trans (Nat.le_trans z2 z7) z11) z15) z19) z23) z27)) O52 PS_FASTEST) hZ (hw _ (List.mem_of_getElem? (i := 28) rfl)) (hw _ (List.mem_of_getElem? (i := 3) rfl)) (by decide) (by decide)) q53a q53c (g := (mkF m 83 #[.val (.int p1), .val (.ref b1), .val (.int (2 : Int32)), .val (.ref w_BOUNDED), .val (.int (1 : Int32)), .val (.int (1 : Int32)), .unset] [(.ref w_BOUNDED)])) rfl (by rw [hml]; rfl) (Steps.refl _) (argsL := []) (rest := []) (lenOf pd_0 rfl) rfl (by show 2 * 0 + _ ≤ _; exact Nat.le_of_eq rfl) (hb hby at_83) (fun _ _ => ⟨rfl, e51, (by decide : 1 + 0 ≤ _), (by decide : 6 + 0 ≤ _)⟩)
    dsimp only [Pt.U, Pt.locs, Pt.cells, Pt.slots] at X53 l53 y53 z53 st53 hQ53
    subst l53 y53 z53
    obtain ⟨rfl, Nq53, e53⟩ := hQ53
    have N53 := Fr.app N51 Nq53
    refine Wp.tr (S' := T53.setTop (mkF m 86 #[.val (.int p1), .val (.ref b1), .val (.int (2 : Int32)), .val (.ref w_BOUNDED), .val (.int (1 : Int32)), .val (.int (1 : Int32)), .unset] [(.int (if w_BOUNDED = w_FASTEST then (1 : Int32) else (0 : Int32)))])) st53 ?_
    rw [(if_neg (Fld.ne PF_BOUNDED_ordinal PF_FASTEST_ordinal (by decide)) : (if w_BOUNDED = w_FASTEST then (1 : Int32) else (0 : Int32)) = (0 : Int32))]
    refine Wp.st (S' := T53.setTop (mkF m 93 #[.val (.int p1), .val (.ref b1), .val (.int (2 : Int32)), .val (.ref w_BOUNDED), .val (.int (1 : Int32)), .val (.int (1 : Int32)), .unset] [])) (fun tt_ kk_ => XS.ifYes X53.here hx rfl (pc0 := 86) (pc' := 93) rfl (hb hby at_86) rfl ((if0 _ _).trans (teq ((by decide) : (0 : Int32) = (0 : Int32))).1) (by decide) (by decide) kk_) ?_
    refine Wp.st (S' := T53.setTop (mkF m 94 #[.val (.int p1), .val (.ref b1), .val (.int (2 : Int32)), .val (.ref w_BOUNDED), .val (.int (1 : Int32)), .val (.int (1 : Int32)), .unset] [(.int (0 : Int32))])) (fun tt_ kk_ => XS.iconst X53.here hx rfl (hb hby at_93) kk_) ?_
    refine Wp.st (S' := T53.setTop (mkF m 96 #[.val (.int p1), .val (.ref b1), .val (.int (2 : Int32)), .val (.ref w_BOUNDED), .val (.int (1 : Int32)), .val (.int (1 : Int32)), .val (.int (0 : Int32))] [])) (fun tt_ kk_ => XS.istore X53.here hx rfl (hb hby at_94) rfl (l' := #[.val (.int p1), .val (.ref b1), .val (.int (2 : Int32)), .val (.ref w_BOUNDED), .val (.int (1 : Int32)), .val (.int (1 : Int32)), .val (.int (0 : Int32))]) rfl kk_) ?_
    refine Wp.st (S' := T53.setTop (mkF m 98 #[.val (.int p1), .val (.ref b1), .val (.int (2 : Int32)), .val (.ref w_BOUNDED), .val (.int (1 : Int32)), .val (.int (1 : Int32)), .val (.int (0 : Int32))] [(.int (1 : Int32))])) (fun tt_ kk_ => XS.iload X53.here hx rfl (hb hby at_96) rfl  kk_) ?_
    refine Wp.st (S' := T53.setTop (mkF m 100 #[.val (.int p1), .val (.ref b1), .val (.int (2 : Int32)), .val (.ref w_BOUNDED), .val (.int (1 : Int32)), .val (.int (1 : Int32)), .val (.int (0 : Int32))] [(.int (1 : Int32)), (.int (1 : Int32))])) (fun tt_ kk_ => XS.iload X53.here hx rfl (hb hby at_98) rfl  kk_) ?_
    refine Wp.st (S' := T53.setTop (mkF m 103 #[.val (.int p1), .val (.ref b1), .val (.int (2 : Int32)), .val (.ref w_BOUNDED), .val (.int (1 : Int32)), .val (.int (1 : Int32)), .val (.int (0 : Int32))] [])) (fun tt_ kk_ => XS.icmpNo X53.here hx rfl (hb hby at_100) rfl (teq ((by decide) : (1 : Int32) = (1 : Int32))).2 kk_) ?_
    refine Wp.st (S' := T53.setTop (mkF m 105 #[.val (.int p1), .val (.ref b1), .val (.int (2 : Int32)), .val (.ref w_BOUNDED), .val (.int (1 : Int32)), .val (.int (1 : Int32)), .val (.int (0 : Int32))] [(.int (0 : Int32))])) (fun tt_ kk_ => XS.iload X53.here hx rfl (hb hby at_103) rfl  kk_) ?_
    refine Wp.st (S' := T53.setTop (mkF m 108 #[.val (.int p1), .val (.ref b1), .val (.int (2 : Int32)), .val (.ref w_BOUNDED), .val (.int (1 : Int32)), .val (.int (1 : Int32)), .val (.int (0 : Int32))] [])) (fun tt_ kk_ => XS.ifNo X53.here hx rfl (hb hby at_105) rfl ((if0 _ _).trans (teq ((by decide) : (0 : Int32) = (0 : Int32))).2) kk_) ?_
    refine Wp.st (S' := T53.setTop (mkF m 109 #[.val (.int p1), .val (.ref b1), .val (.int (2 : Int32)), .val (.ref w_BOUNDED), .val (.int (1 : Int32)), .val (.int (1 : Int32)), .val (.int (0 : Int32))] [(.int (1 : Int32))])) (fun tt_ kk_ => XS.iconst X53.here hx rfl (hb hby at_108) kk_) ?_
    refine Wp.st (S' := T53.setTop (mkF m 113 #[.val (.int p1), .val (.ref b1), .val (.int (2 : Int32)), .val (.ref w_BOUNDED), .val (.int (1 : Int32)), .val (.int (1 : Int32)), .val (.int (0 : Int32))] [(.int (1 : Int32))])) (fun tt_ kk_ => XS.goto X53.here hx rfl (pc0 := 109) (pc' := 113) rfl (hb hby at_109) (by decide) (by decide) kk_) ?_
    have K54 := Keep.refl h0 []
    have K55 := K54.ext E1
    have K56 := K55.wr W6 (Or.inr (Nat.le_trans (Nat.le_refl _) (Nat.le_of_eq g1.symm)))
    have K57 := K56.wr W10 (Or.inr (Nat.le_trans (Nat.le_refl _) (Nat.le_of_eq g1.symm)))
    have K58 := K57.wr W14 (Or.inr (Nat.le_trans (Nat.le_refl _) (Nat.le_of_eq g1.symm)))
    have K59 := K58.wr W18 (Or.inr (Nat.le_trans (Nat.le_refl _) (Nat.le_of_eq g1.symm)))
    have K60 := K59.wr W22 (Or.inr (Nat.le_trans (Nat.le_refl _) (Nat.le_of_eq g1.symm)))
    have K61 := K60.wr W26 (Or.inr (Nat.le_trans (Nat.le_refl _) (Nat.le_of_eq g1.symm)))
    exact Wp.ret X53 hlk (v := (some (.int (1 : Int32)))) (fun h => by rw [Bd.returns] at h; cases h) (fun fs hr => retN (z := (1 : Int32)) X53 hx (t := .boolean) Bd.returns (by simp) (hb hby at_113) hr) (by decide) (by decide) (show Q_rm0 Z p1 w_COST w_RELIABLE w_BOUNDED w_LIST w_LOCAL w_FASTEST h0 n0 _ T53.heap _ by rw [e53]; exact ⟨rfl, N53, K61⟩)
  · have _u := True.intro
    refine Wp.st (S' := T26.setTop (mkF m 51 #[.val (.int p1), .val (.ref b1), .val (.int (3 : Int32)), .unset, .unset, .unset, .unset] [(.ref b1)])) (fun tt_ kk_ => XS.aloadN X26.here hx rfl (hb hby at_50) rfl rfl kk_) ?_
    refine Wp.st (S' := T26.setTop (mkF m 52 #[.val (.int p1), .val (.ref b1), .val (.int (3 : Int32)), .unset, .unset, .unset, .unset] [(.int (3 : Int32)), (.ref b1)])) (fun tt_ kk_ => XS.iloadN X26.here hx rfl (hb hby at_51) rfl  kk_) ?_
    obtain ⟨cl62, Ar62, q62, S62, N62, H62, G62⟩ := V26
    have hin62 := inb_of (j := (3 : Int32)) S62 ⟨by decide, by decide⟩
    refine Wp.st (S' := T26.setTop (mkF m 53 #[.val (.int p1), .val (.ref b1), .val (.int (3 : Int32)), .unset, .unset, .unset, .unset] [(.ref w_LIST)])) (fun tt_ kk_ => X26.aaload hx (j := (3 : Int32)) (v := (.ref w_LIST)) (by rw [e26]; exact Ar62.1) (State.isArrayOf_alike hZ.alike Ar62.2.1) rfl Ar62.2.2 hin62 (H62.at hin62 rfl) (g := (mkF m 52 #[.val (.int p1), .val (.ref b1), .val (.int (3 : Int32)), .unset, .unset, .unset, .unset] [(.int (3 : Int32)), (.ref b1)])) rfl rfl (hb hby at_52) tt_ kk_) ?_
    refine Wp.st (S' := T26.setTop (mkF m 54 #[.val (.int p1), .val (.ref b1), .val (.int (3 : Int32)), .val (.ref w_LIST), .unset, .unset, .unset] [])) (fun tt_ kk_ => XS.astoreN X26.here hx rfl (hb hby at_53) rfl rfl (l' := #[.val (.int p1), .val (.ref b1), .val (.int (3 : Int32)), .val (.ref w_LIST), .unset, .unset, .unset]) rfl kk_) ?_
    refine Wp.st (S' := T26.setTop (mkF m 55 #[.val (.int p1), .val (.ref b1), .val (.int (3 : Int32)), .val (.ref w_LIST), .unset, .unset, .unset] [(.int (3 : Int32))])) (fun tt_ kk_ => XS.iloadN X26.here hx rfl (hb hby at_54) rfl  kk_) ?_
    refine Wp.st (S' := T26.setTop (mkF m 56 #[.val (.int p1), .val (.ref b1), .val (.int (3 : Int32)), .val (.ref w_LIST), .unset, .unset, .unset] [(.int (2 : Int32)), (.int (3 : Int32))])) (fun tt_ kk_ => XS.iconst X26.here hx rfl (hb hby at_55) kk_) ?_
    refine Wp.st (S' := T26.setTop (mkF m 59 #[.val (.int p1), .val (.ref b1), .val (.int (3 : Int32)), .val (.ref w_LIST), .unset, .unset, .unset] [])) (fun tt_ kk_ => XS.icmpNo X26.here hx rfl (hb hby at_56) rfl (feq ((by decide) : ¬ ((3 : Int32) = (2 : Int32)))).1 kk_) ?_
    refine Wp.st (S' := T26.setTop (mkF m 60 #[.val (.int p1), .val (.ref b1), .val (.int (3 : Int32)), .val (.ref w_LIST), .unset, .unset, .unset] [(.int (3 : Int32))])) (fun tt_ kk_ => XS.iloadN X26.here hx rfl (hb hby at_59) rfl  kk_) ?_
    refine Wp.st (S' := T26.setTop (mkF m 61 #[.val (.int p1), .val (.ref b1), .val (.int (3 : Int32)), .val (.ref w_LIST), .unset, .unset, .unset] [(.int (3 : Int32)), (.int (3 : Int32))])) (fun tt_ kk_ => XS.iconst X26.here hx rfl (hb hby at_60) kk_) ?_
    refine Wp.st (S' := T26.setTop (mkF m 64 #[.val (.int p1), .val (.ref b1), .val (.int (3 : Int32)), .val (.ref w_LIST), .unset, .unset, .unset] [])) (fun tt_ kk_ => XS.icmpNo X26.here hx rfl (hb hby at_61) rfl (teq ((by decide) : (3 : Int32) = (3 : Int32))).2 kk_) ?_
    refine Wp.st (S' := T26.setTop (mkF m 65 #[.val (.int p1), .val (.ref b1), .val (.int (3 : Int32)), .val (.ref w_LIST), .unset, .unset, .unset] [(.int (1 : Int32))])) (fun tt_ kk_ => XS.iconst X26.here hx rfl (hb hby at_64) kk_) ?_
    refine Wp.st (S' := T26.setTop (mkF m 69 #[.val (.int p1), .val (.ref b1), .val (.int (3 : Int32)), .val (.ref w_LIST), .unset, .unset, .unset] [(.int (1 : Int32))])) (fun tt_ kk_ => XS.goto X26.here hx rfl (pc0 := 65) (pc' := 69) rfl (hb hby at_65) (by decide) (by decide) kk_) ?_
    refine Wp.st (S' := T26.setTop (mkF m 71 #[.val (.int p1), .val (.ref b1), .val (.int (3 : Int32)), .val (.ref w_LIST), .val (.int (1 : Int32)), .unset, .unset] [])) (fun tt_ kk_ => XS.istore X26.here hx rfl (hb hby at_69) rfl (l' := #[.val (.int p1), .val (.ref b1), .val (.int (3 : Int32)), .val (.ref w_LIST), .val (.int (1 : Int32)), .unset, .unset]) rfl kk_) ?_
    refine Wp.st (S' := T26.setTop (mkF m 72 #[.val (.int p1), .val (.ref b1), .val (.int (3 : Int32)), .val (.ref w_LIST), .val (.int (1 : Int32)), .unset, .unset] [(.ref w_LIST)])) (fun tt_ kk_ => XS.aloadN X26.here hx rfl (hb hby at_71) rfl rfl kk_) ?_
    have O64 := O24.wr W26 g3
    obtain ⟨cq63, kq63, q63a, q63b, q63c⟩ := isOf hZ e26 (PE_LIST.ext O64.2)
    obtain ⟨vv63, _, ⟨T63, L63, k63, n63⟩, -, X63, ⟨Lc63, hQ63, l63, y63, z63⟩, st63⟩ := X26.virtualBack hx (y := (⟨"com/example/dags_over_clouds/dagsoverclouds/plan/Planner", "takesReliability", "()Z"⟩ : MethodName)) (z := (⟨"com/example/dags_over_clouds/dagsoverclouds/plan/Planner", "takesReliability", "()Z"⟩ : MethodName)) hown (mvT hZ (hw _ (List.mem_of_getElem? (i := 17) rfl))) (mvT hZ (hw _ (List.mem_of_getElem? (i := 18) rfl))) (notFace_of_selects (args := #[]) (mvT hZ (hw _ (List.mem_of_getElem? (i := 20) rfl)))) (mvT hZ (hw _ (List.mem_of_getElem? (i := 20) rfl))) (mvT hZ (hw _ (List.mem_of_getElem? (i := 19) rfl))) (by decide) (backOf (W := 0) (rm1 l Z a0 hw [] w_LIST w_BOUNDED w_LIST h26 n0 (Nat.le_trans Z0 (Nat.le_trans (Nat.le_trans (Nat.le_trans (Nat.le_trans (Nat.le_trans (Nat.le_trans z2 z7) z11) z15) z19) z23) z27)) O64 PS_BOUNDED PS_LIST) hZ (hw _ (List.mem_of_getElem? (i := 21) rfl)) (hw _ (List.mem_of_getElem? (i := 3) rfl)) (by decide) (by decide)) q63a q63c (g := (mkF m 72 #[.val (.int p1), .val (.ref b1), .val (.int (3 : Int32)), .val (.ref w_LIST), .val (.int (1 : Int32)), .unset, .unset] [(.ref w_LIST)])) rfl (by rw [hml]; rfl) (Steps.refl _) (argsL := []) (rest := []) (lenOf pd_0 rfl) rfl (by show 2 * 0 + _ ≤ _; exact Nat.le_of_eq rfl) (hb hby at_72) (fun _ _ => ⟨rfl, e26, (by decide : 1 + 0 ≤ _), (by decide : 6 + 0 ≤ _)⟩)
    dsimp only [Pt.U, Pt.locs, Pt.cells, Pt.slots] at X63 l63 y63 z63 st63 hQ63
    subst l63 y63 z63
    obtain ⟨rfl, Nq63, e63⟩ := hQ63
    have N63 := Fr.app Nf26 Nq63
    refine Wp.tr (S' := T63.setTop (mkF m 75 #[.val (.int p1), .val (.ref b1), .val (.int (3 : Int32)), .val (.ref w_LIST), .val (.int (1 : Int32)), .unset, .unset] [(.int (if w_LIST = w_BOUNDED ∨ w_LIST = w_LIST then (1 : Int32) else (0 : Int32)))])) st63 ?_
    rw [(if_pos (Or.inr rfl) : (if w_LIST = w_BOUNDED ∨ w_LIST = w_LIST then (1 : Int32) else (0 : Int32)) = (1 : Int32))]
    refine Wp.st (S' := T63.setTop (mkF m 77 #[.val (.int p1), .val (.ref b1), .val (.int (3 : Int32)), .val (.ref w_LIST), .val (.int (1 : Int32)), .val (.int (1 : Int32)), .unset] [])) (fun tt_ kk_ => XS.istore X63.here hx rfl (hb hby at_75) rfl (l' := #[.val (.int p1), .val (.ref b1), .val (.int (3 : Int32)), .val (.ref w_LIST), .val (.int (1 : Int32)), .val (.int (1 : Int32)), .unset]) rfl kk_) ?_
    refine Wp.st (S' := T63.setTop (mkF m 79 #[.val (.int p1), .val (.ref b1), .val (.int (3 : Int32)), .val (.ref w_LIST), .val (.int (1 : Int32)), .val (.int (1 : Int32)), .unset] [(.int (1 : Int32))])) (fun tt_ kk_ => XS.iload X63.here hx rfl (hb hby at_77) rfl  kk_) ?_
    refine Wp.st (S' := T63.setTop (mkF m 82 #[.val (.int p1), .val (.ref b1), .val (.int (3 : Int32)), .val (.ref w_LIST), .val (.int (1 : Int32)), .val (.int (1 : Int32)), .unset] [])) (fun tt_ kk_ => XS.ifNo X63.here hx rfl (hb hby at_79) rfl ((if0 _ _).trans (feq ((by decide) : ¬ ((1 : Int32) = (0 : Int32)))).1) kk_) ?_
    refine Wp.st (S' := T63.setTop (mkF m 83 #[.val (.int p1), .val (.ref b1), .val (.int (3 : Int32)), .val (.ref w_LIST), .val (.int (1 : Int32)), .val (.int (1 : Int32)), .unset] [(.ref w_LIST)])) (fun tt_ kk_ => XS.aloadN X63.here hx rfl (hb hby at_82) rfl rfl kk_) ?_
    obtain ⟨cq65, kq65, q65a, q65b, q65c⟩ := isOf hZ e63 (PE_LIST.ext O64.2)
    obtain ⟨vv65, _, ⟨T65, L65, k65, n65⟩, -, X65, ⟨Lc65, hQ65, l65, y65, z65⟩, st65⟩ := X63.virtualBack hx (y := (⟨"com/example/dags_over_clouds/dagsoverclouds/plan/Planner", "takesBudget", "()Z"⟩ : MethodName)) (z := (⟨"com/example/dags_over_clouds/dagsoverclouds/plan/Planner", "takesBudget", "()Z"⟩ : MethodName)) hown (mvT hZ (hw _ (List.mem_of_getElem? (i := 24) rfl))) (mvT hZ (hw _ (List.mem_of_getElem? (i := 25) rfl))) (notFace_of_selects (args := #[]) (mvT hZ (hw _ (List.mem_of_getElem? (i := 27) rfl)))) (mvT hZ (hw _ (List.mem_of_getElem? (i := 27) rfl))) (mvT hZ (hw _ (List.mem_of_getElem? (i := 26) rfl))) (by decide) (backOf (W := 0) (rm2 l Z a0 hw [] w_LIST w_FASTEST h26 n0 (Nat.le_trans Z0 (Nat.le_trans (Nat.le_trans (Nat.le_trans (Nat.le_trans (Nat.le_trans (Nat.le_trans z2 z7) z11) z15) z19) z23) z27)) O64 PS_FASTEST) hZ (hw _ (List.mem_of_getElem? (i := 28) rfl)) (hw _ (List.mem_of_getElem? (i := 3) rfl)) (by decide) (by decide)) q65a q65c (g := (mkF m 83 #[.val (.int p1), .val (.ref b1), .val (.int (3 : Int32)), .val (.ref w_LIST), .val (.int (1 : Int32)), .val (.int (1 : Int32)), .unset] [(.ref w_LIST)])) rfl (by rw [hml]; rfl) (Steps.refl _) (argsL := []) (rest := []) (lenOf pd_0 rfl) rfl (by show 2 * 0 + _ ≤ _; exact Nat.le_of_eq rfl) (hb hby at_83) (fun _ _ => ⟨rfl, e63, (by decide : 1 + 0 ≤ _), (by decide : 6 + 0 ≤ _)⟩)
    dsimp only [Pt.U, Pt.locs, Pt.cells, Pt.slots] at X65 l65 y65 z65 st65 hQ65
    subst l65 y65 z65
    obtain ⟨rfl, Nq65, e65⟩ := hQ65
    have N65 := Fr.app N63 Nq65
    refine Wp.tr (S' := T65.setTop (mkF m 86 #[.val (.int p1), .val (.ref b1), .val (.int (3 : Int32)), .val (.ref w_LIST), .val (.int (1 : Int32)), .val (.int (1 : Int32)), .unset] [(.int (if w_LIST = w_FASTEST then (1 : Int32) else (0 : Int32)))])) st65 ?_
    rw [(if_neg (Fld.ne PF_LIST_ordinal PF_FASTEST_ordinal (by decide)) : (if w_LIST = w_FASTEST then (1 : Int32) else (0 : Int32)) = (0 : Int32))]
    refine Wp.st (S' := T65.setTop (mkF m 93 #[.val (.int p1), .val (.ref b1), .val (.int (3 : Int32)), .val (.ref w_LIST), .val (.int (1 : Int32)), .val (.int (1 : Int32)), .unset] [])) (fun tt_ kk_ => XS.ifYes X65.here hx rfl (pc0 := 86) (pc' := 93) rfl (hb hby at_86) rfl ((if0 _ _).trans (teq ((by decide) : (0 : Int32) = (0 : Int32))).1) (by decide) (by decide) kk_) ?_
    refine Wp.st (S' := T65.setTop (mkF m 94 #[.val (.int p1), .val (.ref b1), .val (.int (3 : Int32)), .val (.ref w_LIST), .val (.int (1 : Int32)), .val (.int (1 : Int32)), .unset] [(.int (0 : Int32))])) (fun tt_ kk_ => XS.iconst X65.here hx rfl (hb hby at_93) kk_) ?_
    refine Wp.st (S' := T65.setTop (mkF m 96 #[.val (.int p1), .val (.ref b1), .val (.int (3 : Int32)), .val (.ref w_LIST), .val (.int (1 : Int32)), .val (.int (1 : Int32)), .val (.int (0 : Int32))] [])) (fun tt_ kk_ => XS.istore X65.here hx rfl (hb hby at_94) rfl (l' := #[.val (.int p1), .val (.ref b1), .val (.int (3 : Int32)), .val (.ref w_LIST), .val (.int (1 : Int32)), .val (.int (1 : Int32)), .val (.int (0 : Int32))]) rfl kk_) ?_
    refine Wp.st (S' := T65.setTop (mkF m 98 #[.val (.int p1), .val (.ref b1), .val (.int (3 : Int32)), .val (.ref w_LIST), .val (.int (1 : Int32)), .val (.int (1 : Int32)), .val (.int (0 : Int32))] [(.int (1 : Int32))])) (fun tt_ kk_ => XS.iload X65.here hx rfl (hb hby at_96) rfl  kk_) ?_
    refine Wp.st (S' := T65.setTop (mkF m 100 #[.val (.int p1), .val (.ref b1), .val (.int (3 : Int32)), .val (.ref w_LIST), .val (.int (1 : Int32)), .val (.int (1 : Int32)), .val (.int (0 : Int32))] [(.int (1 : Int32)), (.int (1 : Int32))])) (fun tt_ kk_ => XS.iload X65.here hx rfl (hb hby at_98) rfl  kk_) ?_
    refine Wp.st (S' := T65.setTop (mkF m 103 #[.val (.int p1), .val (.ref b1), .val (.int (3 : Int32)), .val (.ref w_LIST), .val (.int (1 : Int32)), .val (.int (1 : Int32)), .val (.int (0 : Int32))] [])) (fun tt_ kk_ => XS.icmpNo X65.here hx rfl (hb hby at_100) rfl (teq ((by decide) : (1 : Int32) = (1 : Int32))).2 kk_) ?_
    refine Wp.st (S' := T65.setTop (mkF m 105 #[.val (.int p1), .val (.ref b1), .val (.int (3 : Int32)), .val (.ref w_LIST), .val (.int (1 : Int32)), .val (.int (1 : Int32)), .val (.int (0 : Int32))] [(.int (0 : Int32))])) (fun tt_ kk_ => XS.iload X65.here hx rfl (hb hby at_103) rfl  kk_) ?_
    refine Wp.st (S' := T65.setTop (mkF m 108 #[.val (.int p1), .val (.ref b1), .val (.int (3 : Int32)), .val (.ref w_LIST), .val (.int (1 : Int32)), .val (.int (1 : Int32)), .val (.int (0 : Int32))] [])) (fun tt_ kk_ => XS.ifNo X65.here hx rfl (hb hby at_105) rfl ((if0 _ _).trans (teq ((by decide) : (0 : Int32) = (0 : Int32))).2) kk_) ?_
    refine Wp.st (S' := T65.setTop (mkF m 109 #[.val (.int p1), .val (.ref b1), .val (.int (3 : Int32)), .val (.ref w_LIST), .val (.int (1 : Int32)), .val (.int (1 : Int32)), .val (.int (0 : Int32))] [(.int (1 : Int32))])) (fun tt_ kk_ => XS.iconst X65.here hx rfl (hb hby at_108) kk_) ?_
    refine Wp.st (S' := T65.setTop (mkF m 113 #[.val (.int p1), .val (.ref b1), .val (.int (3 : Int32)), .val (.ref w_LIST), .val (.int (1 : Int32)), .val (.int (1 : Int32)), .val (.int (0 : Int32))] [(.int (1 : Int32))])) (fun tt_ kk_ => XS.goto X65.here hx rfl (pc0 := 109) (pc' := 113) rfl (hb hby at_109) (by decide) (by decide) kk_) ?_
    have K66 := Keep.refl h0 []
    have K67 := K66.ext E1
    have K68 := K67.wr W6 (Or.inr (Nat.le_trans (Nat.le_refl _) (Nat.le_of_eq g1.symm)))
    have K69 := K68.wr W10 (Or.inr (Nat.le_trans (Nat.le_refl _) (Nat.le_of_eq g1.symm)))
    have K70 := K69.wr W14 (Or.inr (Nat.le_trans (Nat.le_refl _) (Nat.le_of_eq g1.symm)))
    have K71 := K70.wr W18 (Or.inr (Nat.le_trans (Nat.le_refl _) (Nat.le_of_eq g1.symm)))
    have K72 := K71.wr W22 (Or.inr (Nat.le_trans (Nat.le_refl _) (Nat.le_of_eq g1.symm)))
    have K73 := K72.wr W26 (Or.inr (Nat.le_trans (Nat.le_refl _) (Nat.le_of_eq g1.symm)))
    exact Wp.ret X65 hlk (v := (some (.int (1 : Int32)))) (fun h => by rw [Bd.returns] at h; cases h) (fun fs hr => retN (z := (1 : Int32)) X65 hx (t := .boolean) Bd.returns (by simp) (hb hby at_113) hr) (by decide) (by decide) (show Q_rm0 Z p1 w_COST w_RELIABLE w_BOUNDED w_LIST w_LOCAL w_FASTEST h0 n0 _ T65.heap _ by rw [e65]; exact ⟨rfl, N65, K73⟩)
  · have _u := True.intro
    refine Wp.st (S' := T26.setTop (mkF m 51 #[.val (.int p1), .val (.ref b1), .val (.int (4 : Int32)), .unset, .unset, .unset, .unset] [(.ref b1)])) (fun tt_ kk_ => XS.aloadN X26.here hx rfl (hb hby at_50) rfl rfl kk_) ?_
    refine Wp.st (S' := T26.setTop (mkF m 52 #[.val (.int p1), .val (.ref b1), .val (.int (4 : Int32)), .unset, .unset, .unset, .unset] [(.int (4 : Int32)), (.ref b1)])) (fun tt_ kk_ => XS.iloadN X26.here hx rfl (hb hby at_51) rfl  kk_) ?_
    obtain ⟨cl74, Ar74, q74, S74, N74, H74, G74⟩ := V26
    have hin74 := inb_of (j := (4 : Int32)) S74 ⟨by decide, by decide⟩
    refine Wp.st (S' := T26.setTop (mkF m 53 #[.val (.int p1), .val (.ref b1), .val (.int (4 : Int32)), .unset, .unset, .unset, .unset] [(.ref w_LOCAL)])) (fun tt_ kk_ => X26.aaload hx (j := (4 : Int32)) (v := (.ref w_LOCAL)) (by rw [e26]; exact Ar74.1) (State.isArrayOf_alike hZ.alike Ar74.2.1) rfl Ar74.2.2 hin74 (H74.at hin74 rfl) (g := (mkF m 52 #[.val (.int p1), .val (.ref b1), .val (.int (4 : Int32)), .unset, .unset, .unset, .unset] [(.int (4 : Int32)), (.ref b1)])) rfl rfl (hb hby at_52) tt_ kk_) ?_
    refine Wp.st (S' := T26.setTop (mkF m 54 #[.val (.int p1), .val (.ref b1), .val (.int (4 : Int32)), .val (.ref w_LOCAL), .unset, .unset, .unset] [])) (fun tt_ kk_ => XS.astoreN X26.here hx rfl (hb hby at_53) rfl rfl (l' := #[.val (.int p1), .val (.ref b1), .val (.int (4 : Int32)), .val (.ref w_LOCAL), .unset, .unset, .unset]) rfl kk_) ?_
    refine Wp.st (S' := T26.setTop (mkF m 55 #[.val (.int p1), .val (.ref b1), .val (.int (4 : Int32)), .val (.ref w_LOCAL), .unset, .unset, .unset] [(.int (4 : Int32))])) (fun tt_ kk_ => XS.iloadN X26.here hx rfl (hb hby at_54) rfl  kk_) ?_
    refine Wp.st (S' := T26.setTop (mkF m 56 #[.val (.int p1), .val (.ref b1), .val (.int (4 : Int32)), .val (.ref w_LOCAL), .unset, .unset, .unset] [(.int (2 : Int32)), (.int (4 : Int32))])) (fun tt_ kk_ => XS.iconst X26.here hx rfl (hb hby at_55) kk_) ?_
    refine Wp.st (S' := T26.setTop (mkF m 59 #[.val (.int p1), .val (.ref b1), .val (.int (4 : Int32)), .val (.ref w_LOCAL), .unset, .unset, .unset] [])) (fun tt_ kk_ => XS.icmpNo X26.here hx rfl (hb hby at_56) rfl (feq ((by decide) : ¬ ((4 : Int32) = (2 : Int32)))).1 kk_) ?_
    refine Wp.st (S' := T26.setTop (mkF m 60 #[.val (.int p1), .val (.ref b1), .val (.int (4 : Int32)), .val (.ref w_LOCAL), .unset, .unset, .unset] [(.int (4 : Int32))])) (fun tt_ kk_ => XS.iloadN X26.here hx rfl (hb hby at_59) rfl  kk_) ?_
    refine Wp.st (S' := T26.setTop (mkF m 61 #[.val (.int p1), .val (.ref b1), .val (.int (4 : Int32)), .val (.ref w_LOCAL), .unset, .unset, .unset] [(.int (3 : Int32)), (.int (4 : Int32))])) (fun tt_ kk_ => XS.iconst X26.here hx rfl (hb hby at_60) kk_) ?_
    refine Wp.st (S' := T26.setTop (mkF m 68 #[.val (.int p1), .val (.ref b1), .val (.int (4 : Int32)), .val (.ref w_LOCAL), .unset, .unset, .unset] [])) (fun tt_ kk_ => XS.icmpYes X26.here hx rfl (pc0 := 61) (pc' := 68) rfl (hb hby at_61) rfl (feq ((by decide) : ¬ ((4 : Int32) = (3 : Int32)))).2 (by decide) (by decide) kk_) ?_
    refine Wp.st (S' := T26.setTop (mkF m 69 #[.val (.int p1), .val (.ref b1), .val (.int (4 : Int32)), .val (.ref w_LOCAL), .unset, .unset, .unset] [(.int (0 : Int32))])) (fun tt_ kk_ => XS.iconst X26.here hx rfl (hb hby at_68) kk_) ?_
    refine Wp.st (S' := T26.setTop (mkF m 71 #[.val (.int p1), .val (.ref b1), .val (.int (4 : Int32)), .val (.ref w_LOCAL), .val (.int (0 : Int32)), .unset, .unset] [])) (fun tt_ kk_ => XS.istore X26.here hx rfl (hb hby at_69) rfl (l' := #[.val (.int p1), .val (.ref b1), .val (.int (4 : Int32)), .val (.ref w_LOCAL), .val (.int (0 : Int32)), .unset, .unset]) rfl kk_) ?_
    refine Wp.st (S' := T26.setTop (mkF m 72 #[.val (.int p1), .val (.ref b1), .val (.int (4 : Int32)), .val (.ref w_LOCAL), .val (.int (0 : Int32)), .unset, .unset] [(.ref w_LOCAL)])) (fun tt_ kk_ => XS.aloadN X26.here hx rfl (hb hby at_71) rfl rfl kk_) ?_
    have O76 := O24.wr W26 g3
    obtain ⟨cq75, kq75, q75a, q75b, q75c⟩ := isOf hZ e26 (PE_LOCAL.ext O76.2)
    obtain ⟨vv75, _, ⟨T75, L75, k75, n75⟩, -, X75, ⟨Lc75, hQ75, l75, y75, z75⟩, st75⟩ := X26.virtualBack hx (y := (⟨"com/example/dags_over_clouds/dagsoverclouds/plan/Planner", "takesReliability", "()Z"⟩ : MethodName)) (z := (⟨"com/example/dags_over_clouds/dagsoverclouds/plan/Planner", "takesReliability", "()Z"⟩ : MethodName)) hown (mvT hZ (hw _ (List.mem_of_getElem? (i := 17) rfl))) (mvT hZ (hw _ (List.mem_of_getElem? (i := 18) rfl))) (notFace_of_selects (args := #[]) (mvT hZ (hw _ (List.mem_of_getElem? (i := 20) rfl)))) (mvT hZ (hw _ (List.mem_of_getElem? (i := 20) rfl))) (mvT hZ (hw _ (List.mem_of_getElem? (i := 19) rfl))) (by decide) (backOf (W := 0) (rm1 l Z a0 hw [] w_LOCAL w_BOUNDED w_LIST h26 n0 (Nat.le_trans Z0 (Nat.le_trans (Nat.le_trans (Nat.le_trans (Nat.le_trans (Nat.le_trans (Nat.le_trans z2 z7) z11) z15) z19) z23) z27)) O76 PS_BOUNDED PS_LIST) hZ (hw _ (List.mem_of_getElem? (i := 21) rfl)) (hw _ (List.mem_of_getElem? (i := 3) rfl)) (by decide) (by decide)) q75a q75c (g := (mkF m 72 #[.val (.int p1), .val (.ref b1), .val (.int (4 : Int32)), .val (.ref w_LOCAL), .val (.int (0 : Int32)), .unset, .unset] [(.ref w_LOCAL)])) rfl (by rw [hml]; rfl) (Steps.refl _) (argsL := []) (rest := []) (lenOf pd_0 rfl) rfl (by show 2 * 0 + _ ≤ _; exact Nat.le_of_eq rfl) (hb hby at_72) (fun _ _ => ⟨rfl, e26, (by decide : 1 + 0 ≤ _), (by decide : 6 + 0 ≤ _)⟩)
    dsimp only [Pt.U, Pt.locs, Pt.cells, Pt.slots] at X75 l75 y75 z75 st75 hQ75
    subst l75 y75 z75
    obtain ⟨rfl, Nq75, e75⟩ := hQ75
    have N75 := Fr.app Nf26 Nq75
    refine Wp.tr (S' := T75.setTop (mkF m 75 #[.val (.int p1), .val (.ref b1), .val (.int (4 : Int32)), .val (.ref w_LOCAL), .val (.int (0 : Int32)), .unset, .unset] [(.int (if w_LOCAL = w_BOUNDED ∨ w_LOCAL = w_LIST then (1 : Int32) else (0 : Int32)))])) st75 ?_
    rw [(if_neg (fun q => q.elim (Fld.ne PF_LOCAL_ordinal PF_BOUNDED_ordinal (by decide)) (Fld.ne PF_LOCAL_ordinal PF_LIST_ordinal (by decide))) : (if w_LOCAL = w_BOUNDED ∨ w_LOCAL = w_LIST then (1 : Int32) else (0 : Int32)) = (0 : Int32))]
    refine Wp.st (S' := T75.setTop (mkF m 77 #[.val (.int p1), .val (.ref b1), .val (.int (4 : Int32)), .val (.ref w_LOCAL), .val (.int (0 : Int32)), .val (.int (0 : Int32)), .unset] [])) (fun tt_ kk_ => XS.istore X75.here hx rfl (hb hby at_75) rfl (l' := #[.val (.int p1), .val (.ref b1), .val (.int (4 : Int32)), .val (.ref w_LOCAL), .val (.int (0 : Int32)), .val (.int (0 : Int32)), .unset]) rfl kk_) ?_
    refine Wp.st (S' := T75.setTop (mkF m 79 #[.val (.int p1), .val (.ref b1), .val (.int (4 : Int32)), .val (.ref w_LOCAL), .val (.int (0 : Int32)), .val (.int (0 : Int32)), .unset] [(.int (0 : Int32))])) (fun tt_ kk_ => XS.iload X75.here hx rfl (hb hby at_77) rfl  kk_) ?_
    refine Wp.st (S' := T75.setTop (mkF m 93 #[.val (.int p1), .val (.ref b1), .val (.int (4 : Int32)), .val (.ref w_LOCAL), .val (.int (0 : Int32)), .val (.int (0 : Int32)), .unset] [])) (fun tt_ kk_ => XS.ifYes X75.here hx rfl (pc0 := 79) (pc' := 93) rfl (hb hby at_79) rfl ((if0 _ _).trans (teq ((by decide) : (0 : Int32) = (0 : Int32))).1) (by decide) (by decide) kk_) ?_
    refine Wp.st (S' := T75.setTop (mkF m 94 #[.val (.int p1), .val (.ref b1), .val (.int (4 : Int32)), .val (.ref w_LOCAL), .val (.int (0 : Int32)), .val (.int (0 : Int32)), .unset] [(.int (0 : Int32))])) (fun tt_ kk_ => XS.iconst X75.here hx rfl (hb hby at_93) kk_) ?_
    refine Wp.st (S' := T75.setTop (mkF m 96 #[.val (.int p1), .val (.ref b1), .val (.int (4 : Int32)), .val (.ref w_LOCAL), .val (.int (0 : Int32)), .val (.int (0 : Int32)), .val (.int (0 : Int32))] [])) (fun tt_ kk_ => XS.istore X75.here hx rfl (hb hby at_94) rfl (l' := #[.val (.int p1), .val (.ref b1), .val (.int (4 : Int32)), .val (.ref w_LOCAL), .val (.int (0 : Int32)), .val (.int (0 : Int32)), .val (.int (0 : Int32))]) rfl kk_) ?_
    refine Wp.st (S' := T75.setTop (mkF m 98 #[.val (.int p1), .val (.ref b1), .val (.int (4 : Int32)), .val (.ref w_LOCAL), .val (.int (0 : Int32)), .val (.int (0 : Int32)), .val (.int (0 : Int32))] [(.int (0 : Int32))])) (fun tt_ kk_ => XS.iload X75.here hx rfl (hb hby at_96) rfl  kk_) ?_
    refine Wp.st (S' := T75.setTop (mkF m 100 #[.val (.int p1), .val (.ref b1), .val (.int (4 : Int32)), .val (.ref w_LOCAL), .val (.int (0 : Int32)), .val (.int (0 : Int32)), .val (.int (0 : Int32))] [(.int (0 : Int32)), (.int (0 : Int32))])) (fun tt_ kk_ => XS.iload X75.here hx rfl (hb hby at_98) rfl  kk_) ?_
    refine Wp.st (S' := T75.setTop (mkF m 103 #[.val (.int p1), .val (.ref b1), .val (.int (4 : Int32)), .val (.ref w_LOCAL), .val (.int (0 : Int32)), .val (.int (0 : Int32)), .val (.int (0 : Int32))] [])) (fun tt_ kk_ => XS.icmpNo X75.here hx rfl (hb hby at_100) rfl (teq ((by decide) : (0 : Int32) = (0 : Int32))).2 kk_) ?_
    refine Wp.st (S' := T75.setTop (mkF m 105 #[.val (.int p1), .val (.ref b1), .val (.int (4 : Int32)), .val (.ref w_LOCAL), .val (.int (0 : Int32)), .val (.int (0 : Int32)), .val (.int (0 : Int32))] [(.int (0 : Int32))])) (fun tt_ kk_ => XS.iload X75.here hx rfl (hb hby at_103) rfl  kk_) ?_
    refine Wp.st (S' := T75.setTop (mkF m 108 #[.val (.int p1), .val (.ref b1), .val (.int (4 : Int32)), .val (.ref w_LOCAL), .val (.int (0 : Int32)), .val (.int (0 : Int32)), .val (.int (0 : Int32))] [])) (fun tt_ kk_ => XS.ifNo X75.here hx rfl (hb hby at_105) rfl ((if0 _ _).trans (teq ((by decide) : (0 : Int32) = (0 : Int32))).2) kk_) ?_
    refine Wp.st (S' := T75.setTop (mkF m 109 #[.val (.int p1), .val (.ref b1), .val (.int (4 : Int32)), .val (.ref w_LOCAL), .val (.int (0 : Int32)), .val (.int (0 : Int32)), .val (.int (0 : Int32))] [(.int (1 : Int32))])) (fun tt_ kk_ => XS.iconst X75.here hx rfl (hb hby at_108) kk_) ?_
    refine Wp.st (S' := T75.setTop (mkF m 113 #[.val (.int p1), .val (.ref b1), .val (.int (4 : Int32)), .val (.ref w_LOCAL), .val (.int (0 : Int32)), .val (.int (0 : Int32)), .val (.int (0 : Int32))] [(.int (1 : Int32))])) (fun tt_ kk_ => XS.goto X75.here hx rfl (pc0 := 109) (pc' := 113) rfl (hb hby at_109) (by decide) (by decide) kk_) ?_
    have K77 := Keep.refl h0 []
    have K78 := K77.ext E1
    have K79 := K78.wr W6 (Or.inr (Nat.le_trans (Nat.le_refl _) (Nat.le_of_eq g1.symm)))
    have K80 := K79.wr W10 (Or.inr (Nat.le_trans (Nat.le_refl _) (Nat.le_of_eq g1.symm)))
    have K81 := K80.wr W14 (Or.inr (Nat.le_trans (Nat.le_refl _) (Nat.le_of_eq g1.symm)))
    have K82 := K81.wr W18 (Or.inr (Nat.le_trans (Nat.le_refl _) (Nat.le_of_eq g1.symm)))
    have K83 := K82.wr W22 (Or.inr (Nat.le_trans (Nat.le_refl _) (Nat.le_of_eq g1.symm)))
    have K84 := K83.wr W26 (Or.inr (Nat.le_trans (Nat.le_refl _) (Nat.le_of_eq g1.symm)))
    exact Wp.ret X75 hlk (v := (some (.int (1 : Int32)))) (fun h => by rw [Bd.returns] at h; cases h) (fun fs hr => retN (z := (1 : Int32)) X75 hx (t := .boolean) Bd.returns (by simp) (hb hby at_113) hr) (by decide) (by decide) (show Q_rm0 Z p1 w_COST w_RELIABLE w_BOUNDED w_LIST w_LOCAL w_FASTEST h0 n0 _ T75.heap _ by rw [e75]; exact ⟨rfl, N75, K84⟩)
  · have _u := True.intro
    refine Wp.st (S' := T26.setTop (mkF m 51 #[.val (.int p1), .val (.ref b1), .val (.int (5 : Int32)), .unset, .unset, .unset, .unset] [(.ref b1)])) (fun tt_ kk_ => XS.aloadN X26.here hx rfl (hb hby at_50) rfl rfl kk_) ?_
    refine Wp.st (S' := T26.setTop (mkF m 52 #[.val (.int p1), .val (.ref b1), .val (.int (5 : Int32)), .unset, .unset, .unset, .unset] [(.int (5 : Int32)), (.ref b1)])) (fun tt_ kk_ => XS.iloadN X26.here hx rfl (hb hby at_51) rfl  kk_) ?_
    obtain ⟨cl85, Ar85, q85, S85, N85, H85, G85⟩ := V26
    have hin85 := inb_of (j := (5 : Int32)) S85 ⟨by decide, by decide⟩
    refine Wp.st (S' := T26.setTop (mkF m 53 #[.val (.int p1), .val (.ref b1), .val (.int (5 : Int32)), .unset, .unset, .unset, .unset] [(.ref w_FASTEST)])) (fun tt_ kk_ => X26.aaload hx (j := (5 : Int32)) (v := (.ref w_FASTEST)) (by rw [e26]; exact Ar85.1) (State.isArrayOf_alike hZ.alike Ar85.2.1) rfl Ar85.2.2 hin85 (H85.at hin85 rfl) (g := (mkF m 52 #[.val (.int p1), .val (.ref b1), .val (.int (5 : Int32)), .unset, .unset, .unset, .unset] [(.int (5 : Int32)), (.ref b1)])) rfl rfl (hb hby at_52) tt_ kk_) ?_
    refine Wp.st (S' := T26.setTop (mkF m 54 #[.val (.int p1), .val (.ref b1), .val (.int (5 : Int32)), .val (.ref w_FASTEST), .unset, .unset, .unset] [])) (fun tt_ kk_ => XS.astoreN X26.here hx rfl (hb hby at_53) rfl rfl (l' := #[.val (.int p1), .val (.ref b1), .val (.int (5 : Int32)), .val (.ref w_FASTEST), .unset, .unset, .unset]) rfl kk_) ?_
    refine Wp.st (S' := T26.setTop (mkF m 55 #[.val (.int p1), .val (.ref b1), .val (.int (5 : Int32)), .val (.ref w_FASTEST), .unset, .unset, .unset] [(.int (5 : Int32))])) (fun tt_ kk_ => XS.iloadN X26.here hx rfl (hb hby at_54) rfl  kk_) ?_
    refine Wp.st (S' := T26.setTop (mkF m 56 #[.val (.int p1), .val (.ref b1), .val (.int (5 : Int32)), .val (.ref w_FASTEST), .unset, .unset, .unset] [(.int (2 : Int32)), (.int (5 : Int32))])) (fun tt_ kk_ => XS.iconst X26.here hx rfl (hb hby at_55) kk_) ?_
    refine Wp.st (S' := T26.setTop (mkF m 59 #[.val (.int p1), .val (.ref b1), .val (.int (5 : Int32)), .val (.ref w_FASTEST), .unset, .unset, .unset] [])) (fun tt_ kk_ => XS.icmpNo X26.here hx rfl (hb hby at_56) rfl (feq ((by decide) : ¬ ((5 : Int32) = (2 : Int32)))).1 kk_) ?_
    refine Wp.st (S' := T26.setTop (mkF m 60 #[.val (.int p1), .val (.ref b1), .val (.int (5 : Int32)), .val (.ref w_FASTEST), .unset, .unset, .unset] [(.int (5 : Int32))])) (fun tt_ kk_ => XS.iloadN X26.here hx rfl (hb hby at_59) rfl  kk_) ?_
    refine Wp.st (S' := T26.setTop (mkF m 61 #[.val (.int p1), .val (.ref b1), .val (.int (5 : Int32)), .val (.ref w_FASTEST), .unset, .unset, .unset] [(.int (3 : Int32)), (.int (5 : Int32))])) (fun tt_ kk_ => XS.iconst X26.here hx rfl (hb hby at_60) kk_) ?_
    refine Wp.st (S' := T26.setTop (mkF m 68 #[.val (.int p1), .val (.ref b1), .val (.int (5 : Int32)), .val (.ref w_FASTEST), .unset, .unset, .unset] [])) (fun tt_ kk_ => XS.icmpYes X26.here hx rfl (pc0 := 61) (pc' := 68) rfl (hb hby at_61) rfl (feq ((by decide) : ¬ ((5 : Int32) = (3 : Int32)))).2 (by decide) (by decide) kk_) ?_
    refine Wp.st (S' := T26.setTop (mkF m 69 #[.val (.int p1), .val (.ref b1), .val (.int (5 : Int32)), .val (.ref w_FASTEST), .unset, .unset, .unset] [(.int (0 : Int32))])) (fun tt_ kk_ => XS.iconst X26.here hx rfl (hb hby at_68) kk_) ?_
    refine Wp.st (S' := T26.setTop (mkF m 71 #[.val (.int p1), .val (.ref b1), .val (.int (5 : Int32)), .val (.ref w_FASTEST), .val (.int (0 : Int32)), .unset, .unset] [])) (fun tt_ kk_ => XS.istore X26.here hx rfl (hb hby at_69) rfl (l' := #[.val (.int p1), .val (.ref b1), .val (.int (5 : Int32)), .val (.ref w_FASTEST), .val (.int (0 : Int32)), .unset, .unset]) rfl kk_) ?_
    refine Wp.st (S' := T26.setTop (mkF m 72 #[.val (.int p1), .val (.ref b1), .val (.int (5 : Int32)), .val (.ref w_FASTEST), .val (.int (0 : Int32)), .unset, .unset] [(.ref w_FASTEST)])) (fun tt_ kk_ => XS.aloadN X26.here hx rfl (hb hby at_71) rfl rfl kk_) ?_
    have O87 := O24.wr W26 g3
    obtain ⟨cq86, kq86, q86a, q86b, q86c⟩ := isOf hZ e26 (PE_FASTEST.ext O87.2)
    obtain ⟨vv86, _, ⟨T86, L86, k86, n86⟩, -, X86, ⟨Lc86, hQ86, l86, y86, z86⟩, st86⟩ := X26.virtualBack hx (y := (⟨"com/example/dags_over_clouds/dagsoverclouds/plan/Planner", "takesReliability", "()Z"⟩ : MethodName)) (z := (⟨"com/example/dags_over_clouds/dagsoverclouds/plan/Planner", "takesReliability", "()Z"⟩ : MethodName)) hown (mvT hZ (hw _ (List.mem_of_getElem? (i := 17) rfl))) (mvT hZ (hw _ (List.mem_of_getElem? (i := 18) rfl))) (notFace_of_selects (args := #[]) (mvT hZ (hw _ (List.mem_of_getElem? (i := 20) rfl)))) (mvT hZ (hw _ (List.mem_of_getElem? (i := 20) rfl))) (mvT hZ (hw _ (List.mem_of_getElem? (i := 19) rfl))) (by decide) (backOf (W := 0) (rm1 l Z a0 hw [] w_FASTEST w_BOUNDED w_LIST h26 n0 (Nat.le_trans Z0 (Nat.le_trans (Nat.le_trans (Nat.le_trans (Nat.le_trans (Nat.le_trans (Nat.le_trans z2 z7) z11) z15) z19) z23) z27)) O87 PS_BOUNDED PS_LIST) hZ (hw _ (List.mem_of_getElem? (i := 21) rfl)) (hw _ (List.mem_of_getElem? (i := 3) rfl)) (by decide) (by decide)) q86a q86c (g := (mkF m 72 #[.val (.int p1), .val (.ref b1), .val (.int (5 : Int32)), .val (.ref w_FASTEST), .val (.int (0 : Int32)), .unset, .unset] [(.ref w_FASTEST)])) rfl (by rw [hml]; rfl) (Steps.refl _) (argsL := []) (rest := []) (lenOf pd_0 rfl) rfl (by show 2 * 0 + _ ≤ _; exact Nat.le_of_eq rfl) (hb hby at_72) (fun _ _ => ⟨rfl, e26, (by decide : 1 + 0 ≤ _), (by decide : 6 + 0 ≤ _)⟩)
    dsimp only [Pt.U, Pt.locs, Pt.cells, Pt.slots] at X86 l86 y86 z86 st86 hQ86
    subst l86 y86 z86
    obtain ⟨rfl, Nq86, e86⟩ := hQ86
    have N86 := Fr.app Nf26 Nq86
    refine Wp.tr (S' := T86.setTop (mkF m 75 #[.val (.int p1), .val (.ref b1), .val (.int (5 : Int32)), .val (.ref w_FASTEST), .val (.int (0 : Int32)), .unset, .unset] [(.int (if w_FASTEST = w_BOUNDED ∨ w_FASTEST = w_LIST then (1 : Int32) else (0 : Int32)))])) st86 ?_
    rw [(if_neg (fun q => q.elim (Fld.ne PF_FASTEST_ordinal PF_BOUNDED_ordinal (by decide)) (Fld.ne PF_FASTEST_ordinal PF_LIST_ordinal (by decide))) : (if w_FASTEST = w_BOUNDED ∨ w_FASTEST = w_LIST then (1 : Int32) else (0 : Int32)) = (0 : Int32))]
    refine Wp.st (S' := T86.setTop (mkF m 77 #[.val (.int p1), .val (.ref b1), .val (.int (5 : Int32)), .val (.ref w_FASTEST), .val (.int (0 : Int32)), .val (.int (0 : Int32)), .unset] [])) (fun tt_ kk_ => XS.istore X86.here hx rfl (hb hby at_75) rfl (l' := #[.val (.int p1), .val (.ref b1), .val (.int (5 : Int32)), .val (.ref w_FASTEST), .val (.int (0 : Int32)), .val (.int (0 : Int32)), .unset]) rfl kk_) ?_
    refine Wp.st (S' := T86.setTop (mkF m 79 #[.val (.int p1), .val (.ref b1), .val (.int (5 : Int32)), .val (.ref w_FASTEST), .val (.int (0 : Int32)), .val (.int (0 : Int32)), .unset] [(.int (0 : Int32))])) (fun tt_ kk_ => XS.iload X86.here hx rfl (hb hby at_77) rfl  kk_) ?_
    refine Wp.st (S' := T86.setTop (mkF m 93 #[.val (.int p1), .val (.ref b1), .val (.int (5 : Int32)), .val (.ref w_FASTEST), .val (.int (0 : Int32)), .val (.int (0 : Int32)), .unset] [])) (fun tt_ kk_ => XS.ifYes X86.here hx rfl (pc0 := 79) (pc' := 93) rfl (hb hby at_79) rfl ((if0 _ _).trans (teq ((by decide) : (0 : Int32) = (0 : Int32))).1) (by decide) (by decide) kk_) ?_
    refine Wp.st (S' := T86.setTop (mkF m 94 #[.val (.int p1), .val (.ref b1), .val (.int (5 : Int32)), .val (.ref w_FASTEST), .val (.int (0 : Int32)), .val (.int (0 : Int32)), .unset] [(.int (0 : Int32))])) (fun tt_ kk_ => XS.iconst X86.here hx rfl (hb hby at_93) kk_) ?_
    refine Wp.st (S' := T86.setTop (mkF m 96 #[.val (.int p1), .val (.ref b1), .val (.int (5 : Int32)), .val (.ref w_FASTEST), .val (.int (0 : Int32)), .val (.int (0 : Int32)), .val (.int (0 : Int32))] [])) (fun tt_ kk_ => XS.istore X86.here hx rfl (hb hby at_94) rfl (l' := #[.val (.int p1), .val (.ref b1), .val (.int (5 : Int32)), .val (.ref w_FASTEST), .val (.int (0 : Int32)), .val (.int (0 : Int32)), .val (.int (0 : Int32))]) rfl kk_) ?_
    refine Wp.st (S' := T86.setTop (mkF m 98 #[.val (.int p1), .val (.ref b1), .val (.int (5 : Int32)), .val (.ref w_FASTEST), .val (.int (0 : Int32)), .val (.int (0 : Int32)), .val (.int (0 : Int32))] [(.int (0 : Int32))])) (fun tt_ kk_ => XS.iload X86.here hx rfl (hb hby at_96) rfl  kk_) ?_
    refine Wp.st (S' := T86.setTop (mkF m 100 #[.val (.int p1), .val (.ref b1), .val (.int (5 : Int32)), .val (.ref w_FASTEST), .val (.int (0 : Int32)), .val (.int (0 : Int32)), .val (.int (0 : Int32))] [(.int (0 : Int32)), (.int (0 : Int32))])) (fun tt_ kk_ => XS.iload X86.here hx rfl (hb hby at_98) rfl  kk_) ?_
    refine Wp.st (S' := T86.setTop (mkF m 103 #[.val (.int p1), .val (.ref b1), .val (.int (5 : Int32)), .val (.ref w_FASTEST), .val (.int (0 : Int32)), .val (.int (0 : Int32)), .val (.int (0 : Int32))] [])) (fun tt_ kk_ => XS.icmpNo X86.here hx rfl (hb hby at_100) rfl (teq ((by decide) : (0 : Int32) = (0 : Int32))).2 kk_) ?_
    refine Wp.st (S' := T86.setTop (mkF m 105 #[.val (.int p1), .val (.ref b1), .val (.int (5 : Int32)), .val (.ref w_FASTEST), .val (.int (0 : Int32)), .val (.int (0 : Int32)), .val (.int (0 : Int32))] [(.int (0 : Int32))])) (fun tt_ kk_ => XS.iload X86.here hx rfl (hb hby at_103) rfl  kk_) ?_
    refine Wp.st (S' := T86.setTop (mkF m 108 #[.val (.int p1), .val (.ref b1), .val (.int (5 : Int32)), .val (.ref w_FASTEST), .val (.int (0 : Int32)), .val (.int (0 : Int32)), .val (.int (0 : Int32))] [])) (fun tt_ kk_ => XS.ifNo X86.here hx rfl (hb hby at_105) rfl ((if0 _ _).trans (teq ((by decide) : (0 : Int32) = (0 : Int32))).2) kk_) ?_
    refine Wp.st (S' := T86.setTop (mkF m 109 #[.val (.int p1), .val (.ref b1), .val (.int (5 : Int32)), .val (.ref w_FASTEST), .val (.int (0 : Int32)), .val (.int (0 : Int32)), .val (.int (0 : Int32))] [(.int (1 : Int32))])) (fun tt_ kk_ => XS.iconst X86.here hx rfl (hb hby at_108) kk_) ?_
    refine Wp.st (S' := T86.setTop (mkF m 113 #[.val (.int p1), .val (.ref b1), .val (.int (5 : Int32)), .val (.ref w_FASTEST), .val (.int (0 : Int32)), .val (.int (0 : Int32)), .val (.int (0 : Int32))] [(.int (1 : Int32))])) (fun tt_ kk_ => XS.goto X86.here hx rfl (pc0 := 109) (pc' := 113) rfl (hb hby at_109) (by decide) (by decide) kk_) ?_
    have K88 := Keep.refl h0 []
    have K89 := K88.ext E1
    have K90 := K89.wr W6 (Or.inr (Nat.le_trans (Nat.le_refl _) (Nat.le_of_eq g1.symm)))
    have K91 := K90.wr W10 (Or.inr (Nat.le_trans (Nat.le_refl _) (Nat.le_of_eq g1.symm)))
    have K92 := K91.wr W14 (Or.inr (Nat.le_trans (Nat.le_refl _) (Nat.le_of_eq g1.symm)))
    have K93 := K92.wr W18 (Or.inr (Nat.le_trans (Nat.le_refl _) (Nat.le_of_eq g1.symm)))
    have K94 := K93.wr W22 (Or.inr (Nat.le_trans (Nat.le_refl _) (Nat.le_of_eq g1.symm)))
    have K95 := K94.wr W26 (Or.inr (Nat.le_trans (Nat.le_refl _) (Nat.le_of_eq g1.symm)))
    exact Wp.ret X86 hlk (v := (some (.int (1 : Int32)))) (fun h => by rw [Bd.returns] at h; cases h) (fun fs hr => retN (z := (1 : Int32)) X86 hx (t := .boolean) Bd.returns (by simp) (hb hby at_113) hr) (by decide) (by decide) (show Q_rm0 Z p1 w_COST w_RELIABLE w_BOUNDED w_LIST w_LOCAL w_FASTEST h0 n0 _ T86.heap _ by rw [e86]; exact ⟨rfl, N86, K95⟩)
set_option maxRecDepth 65536 in
set_option maxHeartbeats 40000000 in
theorem comes_1 {Post : Tables → Env → Array Value → State → Outcome → State → Prop} (hpost : ∀ tb e args s v u, (limb_1_1.after args s (.returned v) u = true ∧ limb_1_2.after args s (.returned v) u = true ∧ True) → FrameEnd s (.returned v) u (Jvm.fieldLocs frame_1_writes args s ++ Jvm.arrayLocs frame_1_arrays args s ++ Jvm.staticLocs frame_1_statics s) 16 128 → Post tb e args s (.returned v) u) :
    ArmFor flags0 classFile x code maxLocals ret World_1 tables_1 room_1 Calls_1 rest_1 Pre_1 Post := by
  intro l hfl _ _ p e ha hc hk s m args below hf hA hF happ hP
  obtain ⟨hcalls, hrest, hpre⟩ := hP
  obtain ⟨-, -, -, hnamed, -, -, -, hat⟩ := (Spec.applies_iff hf).mp happ
  obtain ⟨hg, hn⟩ := and_e (Cond.before_iff.mp (show (Jvm.Cond.and given_1 narrow_1).before args s = true from hpre))
  obtain ⟨q1, q2⟩ := and_e hg
  obtain ⟨w0, rfl⟩ : ∃ w0 : Value, args = #[w0] := by
    have hs : args.size = 1 := by simpa [Cond.value, given_1] using q1
    obtain ⟨L⟩ := args
    match L, hs with
    | [w0], _ => exact ⟨w0, rfl⟩
  have hw := fun d (hd : d ∈ tables_1) => atoms_spec (ws := Jvm.Cond.code x code maxLocals ret :: tables_1) hat d (List.mem_cons_of_mem _ hd)
  have hfit : Fit s := fun {y c} hc i hi => by
    obtain ⟨ha, rfl⟩ := Array.getElem?_eq_some_iff.mp hc
    have q := List.all_eq_true.mp ((Array.all_eq_true_iff_forall_mem.mp hF) _ (Array.getElem_mem ha)) i (List.mem_range.mpr hi)
    simpa [Array.getElem?_eq_getElem hi] using q
  obtain ⟨q3, q4⟩ := and_e hn
  obtain ⟨w_COST, ev_COST⟩ := exa_v q3
  have PE_COST := Exa.start ev_COST q3
  have PS_COST := Sta.start ev_COST (Or.inr ⟨(hw _ (List.mem_of_getElem? (i := 3) rfl)), (hw _ (List.mem_of_getElem? (i := 4) rfl))⟩)
  obtain ⟨q5, q6⟩ := and_e q4
  obtain ⟨w_RELIABLE, ev_RELIABLE⟩ := exa_v q5
  have PE_RELIABLE := Exa.start ev_RELIABLE q5
  have PS_RELIABLE := Sta.start ev_RELIABLE (Or.inr ⟨(hw _ (List.mem_of_getElem? (i := 3) rfl)), (hw _ (List.mem_of_getElem? (i := 7) rfl))⟩)
  obtain ⟨q7, q8⟩ := and_e q6
  obtain ⟨w_BOUNDED, ev_BOUNDED⟩ := exa_v q7
  have PE_BOUNDED := Exa.start ev_BOUNDED q7
  have PS_BOUNDED := Sta.start ev_BOUNDED (Or.inr ⟨(hw _ (List.mem_of_getElem? (i := 3) rfl)), (hw _ (List.mem_of_getElem? (i := 9) rfl))⟩)
  obtain ⟨q9, q10⟩ := and_e q8
  obtain ⟨w_LIST, ev_LIST⟩ := exa_v q9
  have PE_LIST := Exa.start ev_LIST q9
  have PS_LIST := Sta.start ev_LIST (Or.inr ⟨(hw _ (List.mem_of_getElem? (i := 3) rfl)), (hw _ (List.mem_of_getElem? (i := 11) rfl))⟩)
  obtain ⟨q11, q12⟩ := and_e q10
  obtain ⟨w_LOCAL, ev_LOCAL⟩ := exa_v q11
  have PE_LOCAL := Exa.start ev_LOCAL q11
  have PS_LOCAL := Sta.start ev_LOCAL (Or.inr ⟨(hw _ (List.mem_of_getElem? (i := 3) rfl)), (hw _ (List.mem_of_getElem? (i := 13) rfl))⟩)
  obtain ⟨q13, q14⟩ := and_e q12
  obtain ⟨w_FASTEST, ev_FASTEST⟩ := exa_v q13
  have PE_FASTEST := Exa.start ev_FASTEST q13
  have PS_FASTEST := Sta.start ev_FASTEST (Or.inr ⟨(hw _ (List.mem_of_getElem? (i := 3) rfl)), (hw _ (List.mem_of_getElem? (i := 15) rfl))⟩)
  obtain ⟨q15, q16⟩ := and_e q14
  obtain ⟨q17, q18⟩ := and_e q16
  obtain ⟨q19, q20⟩ := and_e q18
  obtain ⟨q21, q22⟩ := and_e q20
  obtain ⟨q23, q24⟩ := and_e q22
  have PF_COST_ordinal := Fld.start ((fld_at ev_COST).symm.trans (eqv_i (Term.int_eval (0)) q15))
  have PF_BOUNDED_ordinal := Fld.start ((fld_at ev_BOUNDED).symm.trans (eqv_i (Term.int_eval (2)) q17))
  have PF_LIST_ordinal := Fld.start ((fld_at ev_LIST).symm.trans (eqv_i (Term.int_eval (3)) q19))
  have PF_FASTEST_ordinal := Fld.start ((fld_at ev_FASTEST).symm.trans (eqv_i (Term.int_eval (5)) q21))
  have PF_RELIABLE_ordinal := Fld.start ((fld_at ev_RELIABLE).symm.trans (eqv_i (Term.int_eval (1)) q23))
  have PF_LOCAL_ordinal := Fld.start ((fld_at ev_LOCAL).symm.trans (eqv_i (Term.int_eval (4)) q24))
  obtain ⟨i0, ei0⟩ := is_v q2
  obtain rfl : w0 = (.int i0) := Option.some.inj ei0
  obtain ⟨n, o, h1, h2, h3, _, L, rfl, ⟨rfl, N, -⟩, hq⟩ := rm0 l s _ hw tables_1 i0 w_COST w_RELIABLE w_BOUNDED w_LIST w_LOCAL w_FASTEST s.heap s.heap.size (Nat.le_refl _) (Old.start s) PE_COST PS_COST PE_RELIABLE PS_RELIABLE PE_BOUNDED PS_BOUNDED PE_LIST PS_LIST PE_LOCAL PS_LOCAL PE_FASTEST PS_FASTEST PF_COST_ordinal PF_BOUNDED_ordinal PF_LIST_ordinal PF_FASTEST_ordinal PF_RELIABLE_ordinal PF_LOCAL_ordinal p e ha hc hk s m _ below hf ((Spec.applies_iff_loose hf).mp happ).1 ⟨rfl, State.Warmed39.refl s, rfl⟩ trivial
  refine ⟨n, _, h1, h2, h3, hpost _ _ _ _ _ _ ⟨Cond.after_iff.mpr rfl, Cond.after_iff.mpr (eq_i res_at (Term.int_eval (1)) rfl), trivial⟩ ⟨hq.1, hq.2.1, (hq.2.2.sift fun y hy => Or.inr (N y hy)).mono (by decide) (by decide)⟩⟩
theorem main_1_1 : Claimed_1_1 := comes_1 fun _ _ _ _ _ _ h hF => ⟨h.1, hF⟩
theorem main_1_2 : Claimed_1_2 := comes_1 fun _ _ _ _ _ _ h hF => ⟨h.2.1, hF⟩
end Jvm.Pilot.@@N@@
namespace Jvm.Pilot.@@N@@
open Jvm Jvm.ClassFile Sem Op Lib Jvm.Free Jvm.Stand Jvm.Pilot.@@N@@.Jvm.D
/-! MADE BY PROGRAM (witnessworld.py) out of the Statement's table words and the real class files: 13 classes; the members and pool entries that the words name. The judged class is class 1, her method 1. -/
namespace start1
open Jvm.ClassFile
def u (s : String) : CpInfo := .utf8 (stringToUtf16 s)
/-- a pool by its gaps: so many unusable entries, then the entry; so many at the end -/
def gap : Nat → List CpInfo → List CpInfo
  | 0, r => r
  | n + 1, r => .unusable :: gap n r
def poolList (es : List (Nat × CpInfo)) (last : Nat) : List CpInfo := es.foldr (fun e r => gap e.1 (e.2 :: r)) (gap last [])
def pool (es : List (Nat × CpInfo)) (last : Nat) : Array CpInfo := ⟨poolList es last⟩
def fileOf (pool : Array CpInfo) (this : Nat) (attrs : Array Attribute := #[]) (ms : Array MethodInfo := #[]) (fl : Nat := 33) (sup : Nat := 0) (ifs : Array Nat := #[]) (fds : Array FieldInfo := #[]) : ClassFile where
  minorVersion := 0
  majorVersion := 65
  constantPool := pool
  accessFlags := fl
  thisClass := this
  superClass := sup
  interfaces := ifs
  fields := fds
  methods := ms
  attributes := attrs
def plain (name : String) (sup : Option ClassId) : Class where
  name := name
  kind := .ordinary
  loader := none
  accessFlags := 33
  super := sup
  interfaces := #[]
  cf := none
  fields := #[]
  methods := #[]
  instanceTypes := #[]
  staticTypes := #[]
  resolved := #[]
  callSites := []
  init := .initialized
  statics := none
  mirror := none

def pool0 : Array CpInfo := pool [(5, u "<init>"), (0, u "()V"), (1, .class_ 10), (1, u "java/lang/Object")] 113

def k0m0 : Method := { name := "<init>", desc := "()V", sig := { parameters := [], returnType := none }, accessFlags := 1, code := none }
/-- java/lang/Object -/
def k0 : Class := { plain "java/lang/Object" none with
  accessFlags := 33
  interfaces := #[]
  cf := some (fileOf pool0 8 #[] #[{ accessFlags := 1, nameIndex := 5, descriptorIndex := 6, attributes := #[] }] 33 0 #[] #[])
  fields := #[]
  methods := #[k0m0]
  instanceTypes := #[]
  staticTypes := #[]
  resolved := Array.replicate 124 none
  statics := none }

def pool1 : Array CpInfo := pool [(2, .class_ 4), (1, u "java/lang/Object"), (0, u "<init>"), (0, u "()V"), (0, .class_ 8), (0, u "com/example/dags_over_clouds/dagsoverclouds/plan/Planner"), (0, .fieldref 7 10), (0, .nameAndType 11 12), (0, u "COST"), (0, u "Lcom/example/dags_over_clouds/dagsoverclouds/plan/Planner;"), (0, .fieldref 7 14), (0, .nameAndType 15 12), (0, u "RELIABLE"), (0, .fieldref 7 17), (0, .nameAndType 18 12), (0, u "BOUNDED"), (0, .fieldref 7 20), (0, .nameAndType 21 12), (0, u "LIST"), (0, .fieldref 7 23), (0, .nameAndType 24 12), (0, u "LOCAL"), (0, .fieldref 7 26), (0, .nameAndType 27 12), (0, u "FASTEST"), (0, .integer 2147483647), (0, .methodref 7 30), (0, .nameAndType 31 32), (0, u "takesReliability"), (0, u "()Z"), (0, .methodref 7 34), (0, .nameAndType 35 32), (0, u "takesBudget"), (0, .class_ 37), (0, u "com/example/dags_over_clouds/dagsoverclouds/plan/PlannerTakesReliabilityPinLaw"), (2, u "law"), (0, u "(I)Z")] 5

def k1m0 : Method := { name := "<init>", desc := "()V", sig := { parameters := [], returnType := none }, accessFlags := 2, code := none }
def k1c1 : Code := { maxStack := 4, maxLocals := 7, code := code, exceptionTable := #[], attributes := #[] }
def k1m1 : Method := { name := "law", desc := "(I)Z", sig := { parameters := [.int], returnType := some .boolean }, accessFlags := 9, code := some k1c1 }
/-- com/example/dags_over_clouds/dagsoverclouds/plan/PlannerTakesReliabilityPinLaw -/
def k1 : Class := { plain "com/example/dags_over_clouds/dagsoverclouds/plan/PlannerTakesReliabilityPinLaw" (some 0) with
  accessFlags := 49
  interfaces := #[]
  cf := some (fileOf pool1 36 #[] #[{ accessFlags := 2, nameIndex := 5, descriptorIndex := 6, attributes := #[] }, { accessFlags := 9, nameIndex := 40, descriptorIndex := 41, attributes := #[] }] 49 2 #[] #[])
  fields := #[]
  methods := #[k1m0, k1m1]
  instanceTypes := #[]
  staticTypes := #[]
  resolved := Array.replicate 47 none
  statics := none }

def pool2 : Array CpInfo := pool [(1, .class_ 2), (0, u "java/lang/constant/Constable"), (0, .class_ 4), (0, u "java/lang/Object")] 6

/-- java/lang/constant/Constable -/
def k2 : Class := { plain "java/lang/constant/Constable" (some 0) with
  accessFlags := 1537
  interfaces := #[]
  cf := some (fileOf pool2 1 #[] #[] 1537 3 #[] #[])
  fields := #[]
  methods := #[]
  instanceTypes := #[]
  staticTypes := #[]
  resolved := Array.replicate 11 none
  statics := none }

def pool3 : Array CpInfo := pool [(1, .class_ 2), (0, u "java/lang/Comparable"), (0, .class_ 4), (0, u "java/lang/Object")] 7

/-- java/lang/Comparable -/
def k3 : Class := { plain "java/lang/Comparable" (some 0) with
  accessFlags := 1537
  interfaces := #[]
  cf := some (fileOf pool3 1 #[] #[] 1537 3 #[] #[])
  fields := #[]
  methods := #[]
  instanceTypes := #[]
  staticTypes := #[]
  resolved := Array.replicate 12 none
  statics := none }

def pool4 : Array CpInfo := pool [(1, .class_ 2), (0, u "java/io/Serializable"), (0, .class_ 4), (0, u "java/lang/Object")] 2

/-- java/io/Serializable -/
def k4 : Class := { plain "java/io/Serializable" (some 0) with
  accessFlags := 1537
  interfaces := #[]
  cf := some (fileOf pool4 1 #[] #[] 1537 3 #[] #[])
  fields := #[]
  methods := #[]
  instanceTypes := #[]
  staticTypes := #[]
  resolved := Array.replicate 7 none
  statics := none }

def pool5 : Array CpInfo := pool [(2, .class_ 4), (1, u "java/lang/Enum"), (0, u "name"), (0, u "Ljava/lang/String;"), (2, u "ordinal"), (0, u "I"), (1, .class_ 14), (1, u "java/lang/Object"), (4, u "hash"), (86, .class_ 108), (1, u "java/lang/Enum$EnumDesc"), (2, .class_ 112), (0, u "java/lang/constant/Constable"), (0, .class_ 114), (0, u "java/lang/Comparable"), (0, .class_ 116), (0, u "java/io/Serializable")] 87

/-- java/lang/Enum -/
def k5 : Class := { plain "java/lang/Enum" (some 0) with
  accessFlags := 1057
  interfaces := #[2, 3, 4]
  cf := some (fileOf pool5 2 #[.nestMembers #[106]] #[] 1057 12 #[111, 113, 115] #[{ accessFlags := 18, nameIndex := 5, descriptorIndex := 6, attributes := #[] }, { accessFlags := 18, nameIndex := 9, descriptorIndex := 10, attributes := #[] }, { accessFlags := 2, nameIndex := 19, descriptorIndex := 10, attributes := #[] }])
  fields := #[{ name := "name", type := (.object "java/lang/String"), accessFlags := 18, slot := 0, constantValue := 0 }, { name := "ordinal", type := .int, accessFlags := 18, slot := 1, constantValue := 0 }, { name := "hash", type := .int, accessFlags := 2, slot := 2, constantValue := 0 }]
  methods := #[]
  instanceTypes := #[(.object "java/lang/String"), .int, .int]
  staticTypes := #[]
  resolved := Array.replicate 204 none
  statics := none }

def pool6 : Array CpInfo := pool [(1, .class_ 2), (0, u "com/example/dags_over_clouds/dagsoverclouds/plan/Planner"), (2, u "COST"), (0, u "Lcom/example/dags_over_clouds/dagsoverclouds/plan/Planner;"), (2, u "RELIABLE"), (0, .fieldref 1 11), (0, .nameAndType 12 6), (0, u "BOUNDED"), (0, .fieldref 1 14), (0, .nameAndType 15 6), (0, u "LIST"), (2, u "LOCAL"), (0, .fieldref 1 20), (0, .nameAndType 21 6), (0, u "FASTEST"), (2, u "$VALUES"), (0, u "[Lcom/example/dags_over_clouds/dagsoverclouds/plan/Planner;"), (6, .class_ 34), (1, u "java/lang/Enum"), (100, u "()Z"), (61, u "takesBudget"), (1, u "takesReliability")] 7

def k6c0 : Code := { maxStack := 2, maxLocals := 1, code := prog_66_method_4_code, exceptionTable := #[], attributes := #[] }
def k6m0 : Method := { name := "takesBudget", desc := "()Z", sig := { parameters := [], returnType := some .boolean }, accessFlags := 1, code := some k6c0 }
def k6c1 : Code := { maxStack := 2, maxLocals := 1, code := prog_66_method_5_code, exceptionTable := #[], attributes := #[] }
def k6m1 : Method := { name := "takesReliability", desc := "()Z", sig := { parameters := [], returnType := some .boolean }, accessFlags := 1, code := some k6c1 }
/-- com/example/dags_over_clouds/dagsoverclouds/plan/Planner -/
def k6 : Class := { plain "com/example/dags_over_clouds/dagsoverclouds/plan/Planner" (some 5) with
  accessFlags := 16433
  interfaces := #[]
  cf := some (fileOf pool6 1 #[] #[{ accessFlags := 1, nameIndex := 197, descriptorIndex := 135, attributes := #[] }, { accessFlags := 1, nameIndex := 199, descriptorIndex := 135, attributes := #[] }] 16433 32 #[] #[{ accessFlags := 16409, nameIndex := 5, descriptorIndex := 6, attributes := #[] }, { accessFlags := 16409, nameIndex := 9, descriptorIndex := 6, attributes := #[] }, { accessFlags := 16409, nameIndex := 12, descriptorIndex := 6, attributes := #[] }, { accessFlags := 16409, nameIndex := 15, descriptorIndex := 6, attributes := #[] }, { accessFlags := 16409, nameIndex := 18, descriptorIndex := 6, attributes := #[] }, { accessFlags := 16409, nameIndex := 21, descriptorIndex := 6, attributes := #[] }, { accessFlags := 4122, nameIndex := 24, descriptorIndex := 25, attributes := #[] }])
  fields := #[{ name := "COST", type := (.object "com/example/dags_over_clouds/dagsoverclouds/plan/Planner"), accessFlags := 16409, slot := 0, constantValue := 0 }, { name := "RELIABLE", type := (.object "com/example/dags_over_clouds/dagsoverclouds/plan/Planner"), accessFlags := 16409, slot := 1, constantValue := 0 }, { name := "BOUNDED", type := (.object "com/example/dags_over_clouds/dagsoverclouds/plan/Planner"), accessFlags := 16409, slot := 2, constantValue := 0 }, { name := "LIST", type := (.object "com/example/dags_over_clouds/dagsoverclouds/plan/Planner"), accessFlags := 16409, slot := 3, constantValue := 0 }, { name := "LOCAL", type := (.object "com/example/dags_over_clouds/dagsoverclouds/plan/Planner"), accessFlags := 16409, slot := 4, constantValue := 0 }, { name := "FASTEST", type := (.object "com/example/dags_over_clouds/dagsoverclouds/plan/Planner"), accessFlags := 16409, slot := 5, constantValue := 0 }, { name := "$VALUES", type := (.array (.object "com/example/dags_over_clouds/dagsoverclouds/plan/Planner")), accessFlags := 4122, slot := 6, constantValue := 0 }]
  methods := #[k6m0, k6m1]
  instanceTypes := #[(.object "java/lang/String"), .int, .int]
  staticTypes := #[(.object "com/example/dags_over_clouds/dagsoverclouds/plan/Planner"), (.object "com/example/dags_over_clouds/dagsoverclouds/plan/Planner"), (.object "com/example/dags_over_clouds/dagsoverclouds/plan/Planner"), (.object "com/example/dags_over_clouds/dagsoverclouds/plan/Planner"), (.object "com/example/dags_over_clouds/dagsoverclouds/plan/Planner"), (.object "com/example/dags_over_clouds/dagsoverclouds/plan/Planner"), (.array (.object "com/example/dags_over_clouds/dagsoverclouds/plan/Planner"))]
  resolved := Array.replicate 207 none
  statics := some 0 }

def pool7 : Array CpInfo := pool [(1, u "java/lang/Cloneable"), (0, .class_ 1), (0, u "java/lang/Object"), (0, .class_ 3)] 3

/-- java/lang/Cloneable -/
def k7 : Class := { plain "java/lang/Cloneable" (some 0) with
  accessFlags := 1537
  interfaces := #[]
  cf := some (fileOf pool7 2 #[] #[] 1537 4 #[] #[])
  fields := #[]
  methods := #[]
  instanceTypes := #[]
  staticTypes := #[]
  resolved := Array.replicate 8 none
  statics := none }

/-- the primitive byte -/
def k8 : Class := { plain "byte" none with kind := .primitive 'B', accessFlags := 0x411 }
/-- [B -/
def k9 : Class := { plain "[B" (some 0) with kind := .array 8 .byte, interfaces := #[7, 4], accessFlags := 1041 }

/-- the primitive int -/
def k10 : Class := { plain "int" none with kind := .primitive 'I', accessFlags := 0x411 }
/-- [I -/
def k11 : Class := { plain "[I" (some 0) with kind := .array 10 .int, interfaces := #[7, 4], accessFlags := 1041 }

/-- [Lcom/example/dags_over_clouds/dagsoverclouds/plan/Planner; -/
def k12 : Class := { plain "[Lcom/example/dags_over_clouds/dagsoverclouds/plan/Planner;" (some 0) with kind := .array 6 (.object "com/example/dags_over_clouds/dagsoverclouds/plan/Planner"), interfaces := #[7, 4], accessFlags := 1041 }

def heap : Heap := #[{ cls := 6, slots := #[.ref 1, .ref 2, .ref 3, .ref 4, .ref 5, .ref 6, .null], vm := .statics 6 },
  { cls := 6, slots := #[.null, .int 0, .int 0], vm := .none },
  { cls := 6, slots := #[.null, .int 1, .int 0], vm := .none },
  { cls := 6, slots := #[.null, .int 2, .int 0], vm := .none },
  { cls := 6, slots := #[.null, .int 3, .int 0], vm := .none },
  { cls := 6, slots := #[.null, .int 4, .int 0], vm := .none },
  { cls := 6, slots := #[.null, .int 5, .int 0], vm := .none }]
def classes : Array Class := #[k0, k1, k2, k3, k4, k5, k6, k7, k8, k9, k10, k11, k12]
def interned : List (Array UInt16 × Addr) := []
def slotsUsed : Nat := 25
def theMethod : MethodId := ⟨1, 1⟩
def args0 : Array Value := #[.int 5]
def aboutOver (below : List Frame) : State where
  vm := { classes := classes, interned := interned.toArray }
  heap := heap
  slotsUsed := slotsUsed
  threads := #[{ frames := .invoking theMethod args0 :: below }]
def below0 : List Frame := [.native { method := ⟨0, 0⟩, args := #[] }]
def about1 : State := aboutOver below0
def p0 : Program := .bare "" "" ""
def e0 : Env := launch0.env 0 0 0
theorem w_frames : about1.frames = Frame.invoking theMethod args0 :: below0 := rfl
set_option maxRecDepth 65536 in
theorem w_args : argsFit about1.vm theMethod args0 = true := by decide +kernel
set_option maxRecDepth 65536 in
theorem w_heap : heapFits about1 = true := by decide +kernel
set_option maxRecDepth 65536 in
theorem w_runnable : about1.curStatus? = some .runnable := by decide +kernel
set_option maxRecDepth 65536 in
theorem w_alone : about1.alone = true := by decide +kernel
set_option maxRecDepth 65536 in
theorem w_named : about1.methodNamed? x = some theMethod := by decide +kernel
set_option maxRecDepth 65536 in
theorem w_hears : about1.hears theMethod below0 = true := by decide +kernel
set_option maxRecDepth 65536 in
theorem w_ripe : about1.ripe theMethod args0 below0 = true := by decide +kernel
theorem w_running : about1.status = .running := rfl
set_option maxRecDepth 65536 in
theorem w_room : about1.hasRoom e0.platform room_1 = true :=
  launch0.hasRoom_least _ room_1 (by decide +kernel) (by decide +kernel) (by decide +kernel) (by decide +kernel) (by decide +kernel) (by decide +kernel)
theorem allAtoms_all (ts : List Jvm.Cond) (a : Array Jvm.Value) (st : Jvm.State) : (allAtoms ts).before a st = ts.all (fun c => c.before a st) := by
  induction ts with
  | nil => rfl
  | cons c t ih =>
    show (Jvm.Cond.and c (allAtoms t)).before a st = _
    rw [Jvm.Cond.before_and, ih, List.all_cons]
def words1 : List Jvm.Cond := Jvm.Cond.code x code maxLocals ret :: tables_1
/-- a 'code' word, met by the world's own term for the bytes: nothing is compared byte by byte -/
theorem code_word {y : MethodName} {bytes : ByteArray} {mx : Nat} {rt : Option FieldType} {a : Array Value} {s : State} {m : MethodId} {meth : Method} {c : Code} (h1 : s.methodNamed? y = some m) (h2 : s.vm.method? m = some meth) (h3 : meth.code = some c) (h4 : c.code = bytes)
    (h5 : (c.maxLocals == mx && c.exceptionTable.isEmpty && decide (c.maxStack ≤ mostOperands) && decide (meth.sig.returnType = rt) && !meth.locks && decide (parseMethodDescriptor y.desc = some meth.sig)) = true) : (Jvm.Cond.code y bytes mx rt).before a s = true := by
  simp only [Bool.and_eq_true, beq_iff_eq, Bool.not_eq_true', decide_eq_true_eq] at h5
  obtain ⟨⟨⟨⟨⟨g1, g2⟩, g3⟩, g4⟩, g5⟩, g6⟩ := h5
  simp [Cond.before, Cond.holds, Cond.value, h1, h2, h3, h4, g1, g2, g3, g4, g5, g6]
def isCode : Jvm.Cond → Bool
  | .code _ _ _ _ => true
  | _ => false
theorem all_split {L : List Jvm.Cond} {P : Jvm.Cond → Bool} (h1 : L.all (fun c => isCode c || P c) = true) (h2 : ∀ c ∈ L.filter isCode, P c = true) : L.all P = true := by
  refine List.all_eq_true.mpr fun c hc => ?_
  have h := List.all_eq_true.mp h1 c hc
  rcases Bool.eq_false_or_eq_true (isCode c) with hi | hi
  · exact h2 c (List.mem_filter.mpr ⟨hc, hi⟩)
  · simpa [hi] using h
set_option maxRecDepth 65536 in
theorem w_c0 : (Jvm.Cond.code x code maxLocals ret).before args0 about1 = true := code_word (m := ⟨1, 1⟩) (meth := k1m1) (c := k1c1) (by decide +kernel) rfl rfl rfl (by decide +kernel)
set_option maxRecDepth 65536 in
theorem w_c1 : (Jvm.Cond.code ({ cls := "com/example/dags_over_clouds/dagsoverclouds/plan/Planner", name := "takesReliability", desc := "()Z" } : Jvm.MethodName) prog_66_method_5_code (1 : Nat) (Option.some Jvm.ClassFile.FieldType.boolean)).before args0 about1 = true := code_word (m := ⟨6, 1⟩) (meth := k6m1) (c := k6c1) (by decide +kernel) rfl rfl rfl (by decide +kernel)
set_option maxRecDepth 65536 in
theorem w_c2 : (Jvm.Cond.code ({ cls := "com/example/dags_over_clouds/dagsoverclouds/plan/Planner", name := "takesBudget", desc := "()Z" } : Jvm.MethodName) prog_66_method_4_code (1 : Nat) (Option.some Jvm.ClassFile.FieldType.boolean)).before args0 about1 = true := code_word (m := ⟨6, 0⟩) (meth := k6m0) (c := k6c0) (by decide +kernel) rfl rfl rfl (by decide +kernel)
def codes1 : List Jvm.Cond := [Jvm.Cond.code x code maxLocals ret, Jvm.Cond.code ({ cls := "com/example/dags_over_clouds/dagsoverclouds/plan/Planner", name := "takesReliability", desc := "()Z" } : Jvm.MethodName) prog_66_method_5_code (1 : Nat) (Option.some Jvm.ClassFile.FieldType.boolean), Jvm.Cond.code ({ cls := "com/example/dags_over_clouds/dagsoverclouds/plan/Planner", name := "takesBudget", desc := "()Z" } : Jvm.MethodName) prog_66_method_4_code (1 : Nat) (Option.some Jvm.ClassFile.FieldType.boolean)]
set_option maxRecDepth 65536 in
theorem codes_eq : words1.filter isCode = codes1 := rfl
theorem w_codes : ∀ c ∈ words1.filter isCode, c.before args0 about1 = true := by
  rw [codes_eq]
  intro c hc
  simp only [codes1, List.mem_cons, List.not_mem_nil, or_false] at hc
  rcases hc with rfl | rfl | rfl
  · exact w_c0
  · exact w_c1
  · exact w_c2
set_option maxRecDepth 65536 in
theorem w_t1 : (words1.take 24).all (fun c => isCode c || c.before args0 about1) = true := by decide +kernel
set_option maxRecDepth 65536 in
theorem w_t2 : (words1.drop 24).all (fun c => isCode c || c.before args0 about1) = true := by decide +kernel
theorem w_tables : (allAtoms (Jvm.Cond.code x code maxLocals ret :: tables_1)).before args0 about1 = true := by
  rw [allAtoms_all]
  show words1.all (fun c => c.before args0 about1) = true
  refine all_split ?_ w_codes
  rw [← List.take_append_drop 24 words1, List.all_append, w_t1, w_t2]
  rfl
set_option maxRecDepth 65536 in
theorem w_case : (Jvm.Cond.and given_1 narrow_1).before args0 about1 = true := by decide +kernel
theorem w_applies : (headSpec (Jvm.Cond.code x code maxLocals ret :: tables_1) room_1).applies x e0.platform about1 = true :=
  (Spec.applies_iff w_frames).mpr ⟨w_running, w_runnable, w_alone, w_named, w_hears, w_ripe, w_room, w_tables⟩
theorem atStart : AtStart classFile x code maxLocals ret World_1 tables_1 room_1 Calls_1 rest_1 Pre_1 launch0 p0 e0 about1 theMethod args0 below0 :=
  ⟨lists_1, trivial, launch0.admits_env _ _ _, launch0.least_env, fairChoices_fair.cas, fairChoices_fair.clock, w_frames, w_args, w_heap, w_applies, trivial, trivial, w_case⟩
end start1
theorem witness_1 : WitnessClaimed_1 := ⟨start1.p0, start1.e0, start1.about1, start1.theMethod, start1.args0, start1.below0, start1.atStart⟩
end Jvm.Pilot.@@N@@
