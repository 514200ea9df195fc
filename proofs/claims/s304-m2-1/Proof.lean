import JvmDerived
import JvmDerived.Pilot.@@N@@Statement
import JvmDerived.Pilot.@@N@@Code
set_option linter.unusedVariables false
set_option linter.unusedSimpArgs false
namespace Jvm.RoadKit
open Sem ClassFile Op Lib Jvm.Stand Jvm.Free Jvm.LawKit
section New
variable {p : Program} {l : Launch} {e : Env} {R : Room} {s : State} {m : MethodId} {args : Array Value} {below : List Frame} {meth : Method} {c : Code} {T : State} {locs : List Loc} {cells slots : Nat}
theorem retI (X : Stand p l e R s m args below meth c T locs cells slots) (hx : p.tables.exec = Jvm.exec) {pc : Nat} {Ls : Array Slot} {z : Int32} {rest : List Value} (hret : meth.sig.returnType = some .int) (hd : decode c.code pc = .ok (.ireturn, 1)) {fs : List Frame}
    (hl : ∀ (f : JFrame) (acts : List Action), f.method = m → f.locked = none → f.entered = [] → (doReturn e (T.setTop f) acts (some (.int z))).1 = T.setFrames fs) : Steps p.tables e below (T.setTop (mkF m pc Ls (.int z :: rest))) (T.setFrames fs) := by
  have hm' : T.vm.method? m = some meth := X.method'
  have hn : narrow .int (.int z) = .int z := rfl
  show Steps p.tables e below (T.setTop { method := m, pc := pc, locals := Ls, stack := _ :: rest, locked := none }) _
  jvm_step X.here [X.here.top, hx, hd, hm', hret, hn]
  first | (intro acts; rw [hl _ acts rfl rfl rfl]) | rw [hl _ _ rfl rfl rfl]
  exact Steps.refl _
end New
end Jvm.RoadKit
namespace Jvm.Pilot.@@N@@
open Jvm Jvm.ClassFile Sem Op Lib Jvm.Free Jvm.Stand Jvm.LawKit Jvm.RoadKit Bundle Jvm.Pilot.@@N@@.Jvm.D
section Own
variable {p : Program} {l : Launch} {e : Env} {R : Room} {s : State} {m : MethodId} {args : Array Value} {below : List Frame} {meth : Method} {c : Code} {T : State} {locs : List Loc} {cells slots : Nat}
/-- from here the method ends as Post says -/
def Wp (p : Program) (e : Env) (below : List Frame) (Post : Outcome → State → Prop) (S : State) : Prop := ∃ s₂ o, Steps p.tables e below S s₂ ∧ s₂.status = .running ∧ Ended s₂ below o ∧ Post o s₂
theorem Wp.goal {Post : Outcome → State → Prop} {S : State} (w : Wp p e below Post S) : ∃ s₂ o, Steps p.tables e below S s₂ ∧ s₂.status = .running ∧ Ended s₂ below o ∧ Post o s₂ := w
theorem Wp.st {Post : Outcome → State → Prop} {S S' : State} (h : ∀ t, Steps p.tables e below S' t → Steps p.tables e below S t) (w : Wp p e below Post S') : Wp p e below Post S := by
  obtain ⟨t, o, h1, h2⟩ := w
  exact ⟨t, o, h t h1, h2⟩
theorem Wp.tr {Post : Outcome → State → Prop} {S S' : State} (h : Steps p.tables e below S S') (w : Wp p e below Post S') : Wp p e below Post S := by
  obtain ⟨t, o, h1, h2⟩ := w
  exact ⟨t, o, h.trans h1, h2⟩
theorem Wp.ret (X : Stand p l e R s m args below meth c T locs cells slots) (hlk : meth.locks = false) {v : Option Value} (hv : meth.sig.returnType = none → v = none) {g : JFrame}
    (hst : ∀ fs, (∀ (f : JFrame) (acts : List Action), f.method = m → f.locked = none → f.entered = [] → (doReturn e (T.setTop f) acts v).1 = T.setFrames fs) → Steps p.tables e below (T.setTop g) (T.setFrames fs))
    {Q : Option Value → Heap → List Loc → Prop} {k n : Nat} (hk : cells ≤ k) (hn : slots ≤ n) (q : Q v T.heap locs) :
    Wp p e below (fun o U' => ∃ v L, o = .returned v ∧ Q v U'.heap L ∧ FrameEnd s o U' L k n) (T.setTop g) := by
  obtain ⟨fs, hr, hrun, hended, hW, hsame⟩ := X.leave (v := v) hv
  exact ⟨_, _, hst fs hr, hrun, hended, v, locs, rfl, q, ⟨v, rfl⟩, hW, hsame.mono hk hn⟩
theorem Wp.retW {vm₁ : Vm} (X : Stand p l e R (s.setVm vm₁) m args below meth c T locs cells slots) (hlk : meth.locks = false) {k0 : Nat} (hS : s.Since vm₁ k0) (hk0 : k0 ≤ T.heap.size) {v : Option Value} (hv : meth.sig.returnType = none → v = none) {g : JFrame}
    (hst : ∀ fs, (∀ (f : JFrame) (acts : List Action), f.method = m → f.locked = none → f.entered = [] → (doReturn e (T.setTop f) acts v).1 = T.setFrames fs) → Steps p.tables e below (T.setTop g) (T.setFrames fs))
    {Q : Option Value → Heap → List Loc → Prop} {k n : Nat} (hk : cells ≤ k) (hn : slots ≤ n) (q : Q v T.heap locs) :
    Wp p e below (fun o U' => ∃ v L, o = .returned v ∧ Q v U'.heap L ∧ ReturnedEndW s o U' L k n) (T.setTop g) := by
  obtain ⟨fs, hr, hrun, hended, ⟨h1, h2, h3, h4⟩⟩ := X.leaveW hS hk0 (v := v) hv
  exact ⟨_, _, hst fs hr, hrun, hended, v, locs, rfl, q, h1, h2, h3, h4.mono hk hn⟩
theorem Wp.retH {vm₁ : Vm} (X : Stand p l e R (s.setVm vm₁) m args below meth c T locs cells slots) (hlk : meth.locks = false) {k0 : Nat} (hS : s.Since vm₁ k0) (hk0 : k0 ≤ T.heap.size) {v : Option Value} (hv : meth.sig.returnType = none → v = none) {g : JFrame}
    (hst : ∀ fs, (∀ (f : JFrame) (acts : List Action), f.method = m → f.locked = none → f.entered = [] → (doReturn e (T.setTop f) acts v).1 = T.setFrames fs) → Steps p.tables e below (T.setTop g) (T.setFrames fs))
    {Q : Option Value → Heap → List Loc → Prop} {Z : State} {EL : List (String × Nat)} {k n : Nat} (hk : cells ≤ k) (hn : slots ≤ n) (q : Q v T.heap locs) (cr : CHr Z EL s.vm s.heap T.vm T.heap) :
    Wp p e below (fun o U' => ∃ v L, o = .returned v ∧ Q v U'.heap L ∧ CHr Z EL s.vm s.heap U'.vm U'.heap ∧ ReturnedEndW s o U' L k n) (T.setTop g) := by
  obtain ⟨fs, hr, hrun, hended, ⟨h1, h2, h3, h4⟩⟩ := X.leaveW hS hk0 (v := v) hv
  exact ⟨_, _, hst fs hr, hrun, hended, v, locs, rfl, q, cr, h1, h2, h3, h4.mono hk hn⟩
theorem own_narZ {q : Int32} (h : nar .boolean q = q) : narrow .boolean (.int q) = .int q := by show Value.int (nar .boolean q) = _; rw [h]
theorem own_fitZ {q : Int32} (h : nar .boolean q = q) : fits .boolean (.int q) = true := by rw [← h]; exact fits_nar_bool q
theorem own_nn {v : Value} (h : v.isRef = true) (h' : ¬ v = .null) : ∃ a, v = .ref a := (ref_cases h).resolve_left h'
theorem own_fits {v : Value} {C : String} (h : v.isRef = true) : fits (.object C) v = true := by rcases ref_cases h with rfl | ⟨a, rfl⟩ <;> rfl
theorem own_narrow {v : Value} {C : String} (h : v.isRef = true) : narrow (.object C) v = v := by rcases ref_cases h with rfl | ⟨a, rfl⟩ <;> rfl
end Own
theorem own_b (a : Int32) : B53 a.toInt64 := by
  have := a.toInt_lt; have := a.le_toInt
  constructor <;> rw [Int32.toInt_toInt64] <;> omega
theorem own_s2 (a b : Int32) : FP.dadd (FP.l2d a.toInt64) (FP.l2d b.toInt64) = FP.l2d (a.toInt64 + b.toInt64) := dadd_w (own_b a) (own_b b)
theorem own_b2 (a b : Int32) : B53 (a.toInt64 + b.toInt64) := by
  have := a.toInt_lt; have := a.le_toInt; have := b.toInt_lt; have := b.le_toInt
  have e : (a.toInt64 + b.toInt64).toInt = a.toInt + b.toInt := by rw [Jvm.RoadKit.add64 (own_b a) (own_b b), Int32.toInt_toInt64, Int32.toInt_toInt64]
  constructor <;> rw [e] <;> omega
theorem own_s3 (a b c : Int32) : FP.dadd (FP.dadd (FP.l2d a.toInt64) (FP.l2d b.toInt64)) (FP.l2d c.toInt64) = FP.l2d (a.toInt64 + b.toInt64 + c.toInt64) := by
  rw [own_s2]; exact dadd_w (own_b2 a b) (own_b c)
theorem pn_2 : plainName "java/lang/Record" = true := by first | (simp [plainName, overriddenIn]; done) | decide +kernel
theorem d2_0 : decode jdk_30_method_1_code 0 = .ok (.aload_n 0, 1) := by decide +kernel
theorem d2_1 : decode jdk_30_method_1_code 1 = .ok (.invokespecial 1, 3) := by decide +kernel
theorem d2_4 : decode jdk_30_method_1_code 4 = .ok (.return_, 1) := by decide +kernel
theorem ef_rm2 (m : MethodId) (a1 : Addr) : entryFrame m #[(.ref a1)] 1 = mkF m 0 #[.val (.ref a1)] [] := by first | (simp [entryFrame, mkF, argsToLocals, Value.category]; done) | rfl
def Q_rm2 (Z : State) (a1 : Addr) (h0 : Heap) (n0 : Nat) (v : Option Value) (h : Heap) (L : List Loc) : Prop := (v = none) ∧ (Fr n0 L) ∧ (h = h0)
set_option maxRecDepth 65536 in
set_option maxHeartbeats 40000000 in
theorem rm2 (l : Launch) (Z : State) (a0 : Array Value) (hw : ∀ d ∈ tables_1, d.before a0 Z = true) (ws : List Jvm.Cond) (a1 : Addr) (h0 : Heap) (n0 : Nat) (Z0 : n0 ≤ h0.size)  :
    MetFree l (⟨"java/lang/Record", "<init>", "()V"⟩ : MethodName) (head1 (Jvm.Cond.code (⟨"java/lang/Record", "<init>", "()V"⟩ : MethodName) jdk_30_method_1_code 1 none :: ws) ({ frames := 1, cells := 0, slots := 0, locals := 12 } : Room)) (fun a U => a = #[(.ref a1)] ∧ Z.Warmed39 U.vm ∧ U.heap = h0) (fun _ _ _ _ _ => True) (fun _ U o U' => ∃ v L, o = .returned v ∧ Q_rm2 Z a1 h0 n0 v U'.heap L ∧ FrameEnd U o U' L ({ frames := 1, cells := 0, slots := 0, locals := 12 } : Room).cells ({ frames := 1, cells := 0, slots := 0, locals := 12 } : Room).slots) := by
  refine MetFree.of_bodySF (plainFor_of_name pn_2) hisR ?_
  intro p e s m args below meth c s₁ Bd hml0 hP hK
  obtain ⟨rfl, hZ, hh⟩ := hP
  have hx := Bd.exec
  have hby := Bd.bytes
  have hml : c.maxLocals = 1 := hml0
  have hown : s.vm.findClass "java/lang/Record" = some m.cls := findClass_of_methodNamed Bd.named
  have hnm := (name_of_methodNamed Bd.named Bd.method).1
  have hlk := Bd.notSynchronized
  have X0 : Stand p l e ({ frames := 1, cells := 0, slots := 0, locals := 12 } : Room) s m #[(.ref a1)] below meth c s₁ [] 0 0 := Stand.of_body Bd
  have e0 : s₁.heap = h0 := by rw [← hh, Bd.state]; rfl
  have N0 := Fr.nil n0
  refine Wp.goal (Post := (fun o U' => ∃ v L, o = .returned v ∧ Q_rm2 Z a1 h0 n0 v U'.heap L ∧ FrameEnd s o U' L ({ frames := 1, cells := 0, slots := 0, locals := 12 } : Room).cells ({ frames := 1, cells := 0, slots := 0, locals := 12 } : Room).slots)) (Wp.st (S' := s₁.setTop (mkF m 0 #[.val (.ref a1)] [])) (fun tt_ kk_ => castTop (ef_rm2 m a1 ) kk_) ?_)
  refine Wp.st (S' := s₁.setTop (mkF m 1 #[.val (.ref a1)] [(.ref a1)])) (fun tt_ kk_ => XS.aloadN X0.here hx rfl (hb hby d2_0) rfl rfl kk_) ?_
  obtain ⟨T1, X1, e1, st1⟩ := initO X0 hx hZ hown (hw _ (List.mem_of_getElem? (i := 11) rfl)) (hw _ (List.mem_of_getElem? (i := 12) rfl)) (hw _ (List.mem_of_getElem? (i := 13) rfl)) e0 (g := (mkF m 1 #[.val (.ref a1)] [(.ref a1)])) rfl (by rw [hml]; rfl) rfl (hb hby d2_1) (by decide) (W := 0) (by show 2 * 0 + _ ≤ _; exact Nat.le_of_eq rfl) (by decide)
  refine Wp.st (S' := T1.setTop (mkF m 4 #[.val (.ref a1)] [])) st1 ?_
  exact Wp.ret X1 hlk (v := none) (fun _ => rfl) (fun fs hr => X1.returnOut hx Bd.returns (hb hby d2_4) hr) (by decide) (by decide) (show Q_rm2 Z a1 h0 n0 _ T1.heap _ by rw [e1]; exact ⟨rfl, N0, rfl⟩)
theorem pn_1 : plainName "com/example/dags_over_clouds/dagsoverclouds/model/Cost" = true := by first | (simp [plainName, overriddenIn]; done) | decide +kernel
theorem d1_0 : decode prog_16_method_1_code 0 = .ok (.aload_n 0, 1) := by decide +kernel
theorem d1_1 : decode prog_16_method_1_code 1 = .ok (.invokespecial 1, 3) := by decide +kernel
theorem pd_0 : parseMethodDescriptor "()V" = some ⟨[], none⟩ := by decide +kernel
theorem d1_4 : decode prog_16_method_1_code 4 = .ok (.aload_n 0, 1) := by decide +kernel
theorem d1_5 : decode prog_16_method_1_code 5 = .ok (.dload_n 1, 1) := by decide +kernel
theorem d1_6 : decode prog_16_method_1_code 6 = .ok (.putfield 7, 3) := by decide +kernel
theorem d1_9 : decode prog_16_method_1_code 9 = .ok (.aload_n 0, 1) := by decide +kernel
theorem d1_10 : decode prog_16_method_1_code 10 = .ok (.dload_n 3, 1) := by decide +kernel
theorem d1_11 : decode prog_16_method_1_code 11 = .ok (.putfield 13, 3) := by decide +kernel
theorem d1_14 : decode prog_16_method_1_code 14 = .ok (.aload_n 0, 1) := by decide +kernel
theorem d1_15 : decode prog_16_method_1_code 15 = .ok (.dload 5, 2) := by decide +kernel
theorem d1_17 : decode prog_16_method_1_code 17 = .ok (.putfield 16, 3) := by decide +kernel
theorem d1_20 : decode prog_16_method_1_code 20 = .ok (.return_, 1) := by decide +kernel
theorem ef_rm1 (m : MethodId) (a1 : Addr) (d1 : UInt64) (d2 : UInt64) (d3 : UInt64) : entryFrame m #[(.ref a1), (.double d1), (.double d2), (.double d3)] 7 = mkF m 0 #[.val (.ref a1), .val (.double d1), .second, .val (.double d2), .second, .val (.double d3), .second] [] := by first | (simp [entryFrame, mkF, argsToLocals, Value.category]; done) | rfl
def Q_rm1 (Z : State) (a1 : Addr) (d1 : UInt64) (d2 : UInt64) (d3 : UInt64) (h0 : Heap) (n0 : Nat) (v : Option Value) (h : Heap) (L : List Loc) : Prop := (v = none) ∧ (Fr n0 L) ∧ (Keep h0 h [a1]) ∧ (Exa Z h a1 "com/example/dags_over_clouds/dagsoverclouds/model/Cost") ∧ (Fld Z h a1 "com/example/dags_over_clouds/dagsoverclouds/model/Cost" "storage" "D" (.double d1)) ∧ (Fld Z h a1 "com/example/dags_over_clouds/dagsoverclouds/model/Cost" "transfer" "D" (.double d2)) ∧ (Fld Z h a1 "com/example/dags_over_clouds/dagsoverclouds/model/Cost" "cpu" "D" (.double d3))
set_option maxRecDepth 65536 in
set_option maxHeartbeats 40000000 in
theorem rm1 (l : Launch) (Z : State) (a0 : Array Value) (hw : ∀ d ∈ tables_1, d.before a0 Z = true) (ws : List Jvm.Cond) (a1 : Addr) (d1 : UInt64) (d2 : UInt64) (d3 : UInt64) (h0 : Heap) (n0 : Nat) (Z0 : n0 ≤ h0.size) (g_a1 : n0 ≤ a1) (P1 : Exa Z h0 a1 "com/example/dags_over_clouds/dagsoverclouds/model/Cost") (P2 : Fld Z h0 a1 "com/example/dags_over_clouds/dagsoverclouds/model/Cost" "storage" "D" (.double (0 : UInt64))) (P3 : Fld Z h0 a1 "com/example/dags_over_clouds/dagsoverclouds/model/Cost" "transfer" "D" (.double (0 : UInt64))) (P4 : Fld Z h0 a1 "com/example/dags_over_clouds/dagsoverclouds/model/Cost" "cpu" "D" (.double (0 : UInt64))) :
    MetFree l (⟨"com/example/dags_over_clouds/dagsoverclouds/model/Cost", "<init>", "(DDD)V"⟩ : MethodName) (head1 (Jvm.Cond.code (⟨"com/example/dags_over_clouds/dagsoverclouds/model/Cost", "<init>", "(DDD)V"⟩ : MethodName) prog_16_method_1_code 7 none :: ws) ({ frames := 2, cells := 0, slots := 0, locals := 24 } : Room)) (fun a U => a = #[(.ref a1), (.double d1), (.double d2), (.double d3)] ∧ Z.Warmed39 U.vm ∧ U.heap = h0) (fun _ _ _ _ _ => True) (fun _ U o U' => ∃ v L, o = .returned v ∧ Q_rm1 Z a1 d1 d2 d3 h0 n0 v U'.heap L ∧ FrameEnd U o U' L ({ frames := 2, cells := 0, slots := 0, locals := 24 } : Room).cells ({ frames := 2, cells := 0, slots := 0, locals := 24 } : Room).slots) := by
  refine MetFree.of_bodySF (plainFor_of_name pn_1) hisR ?_
  intro p e s m args below meth c s₁ Bd hml0 hP hK
  obtain ⟨rfl, hZ, hh⟩ := hP
  have hx := Bd.exec
  have hby := Bd.bytes
  have hml : c.maxLocals = 7 := hml0
  have hown : s.vm.findClass "com/example/dags_over_clouds/dagsoverclouds/model/Cost" = some m.cls := findClass_of_methodNamed Bd.named
  have hnm := (name_of_methodNamed Bd.named Bd.method).1
  have hlk := Bd.notSynchronized
  have X0 : Stand p l e ({ frames := 2, cells := 0, slots := 0, locals := 24 } : Room) s m #[(.ref a1), (.double d1), (.double d2), (.double d3)] below meth c s₁ [] 0 0 := Stand.of_body Bd
  have e0 : s₁.heap = h0 := by rw [← hh, Bd.state]; rfl
  have N0 := Fr.nil n0
  refine Wp.goal (Post := (fun o U' => ∃ v L, o = .returned v ∧ Q_rm1 Z a1 d1 d2 d3 h0 n0 v U'.heap L ∧ FrameEnd s o U' L ({ frames := 2, cells := 0, slots := 0, locals := 24 } : Room).cells ({ frames := 2, cells := 0, slots := 0, locals := 24 } : Room).slots)) (Wp.st (S' := s₁.setTop (mkF m 0 #[.val (.ref a1), .val (.double d1), .second, .val (.double d2), .second, .val (.double d3), .second] [])) (fun tt_ kk_ => castTop (ef_rm1 m a1 d1 d2 d3 ) kk_) ?_)
  refine Wp.st (S' := s₁.setTop (mkF m 1 #[.val (.ref a1), .val (.double d1), .second, .val (.double d2), .second, .val (.double d3), .second] [(.ref a1)])) (fun tt_ kk_ => XS.aloadN X0.here hx rfl (hb hby d1_0) rfl rfl kk_) ?_
  obtain ⟨vv1, _, ⟨T1, L1, k1, n1⟩, -, X1, ⟨Lc1, hQ1, l1, y1, z1⟩, st1⟩ := X0.specialBack hx (y := (⟨"java/lang/Record", "<init>", "()V"⟩ : MethodName)) rfl hown (mvT hZ (hw _ (List.mem_of_getElem? (i := 6) rfl))) (mvT hZ (hw _ (List.mem_of_getElem? (i := 7) rfl))) (mvT hZ (hw _ (List.mem_of_getElem? (i := 10) rfl))) (by decide) (backOf (W := 0) (rm2 l Z a0 hw [] a1 h0 n0 Z0 ) hZ (hw _ (List.mem_of_getElem? (i := 10) rfl)) (hw _ (List.mem_of_getElem? (i := 9) rfl)) (by decide) (by decide)) (g := (mkF m 1 #[.val (.ref a1), .val (.double d1), .second, .val (.double d2), .second, .val (.double d3), .second] [(.ref a1)])) rfl (by rw [hml]; rfl) (Steps.refl _) (a := a1) (argsL := []) (rest := []) (lenOf pd_0 rfl) rfl (by show 2 * 0 + _ ≤ _; exact Nat.le_of_eq rfl) (hb hby d1_1) (fun _ _ => ⟨rfl, e0, (by decide : 0 + 0 ≤ _), (by decide : 0 + 0 ≤ _)⟩)
  dsimp only [Pt.U, Pt.locs, Pt.cells, Pt.slots] at X1 l1 y1 z1 st1 hQ1
  subst l1 y1 z1
  obtain ⟨rfl, Nq1, e1⟩ := hQ1
  have N1 := Fr.app N0 Nq1
  refine Wp.tr (S' := T1.setTop (mkF m 4 #[.val (.ref a1), .val (.double d1), .second, .val (.double d2), .second, .val (.double d3), .second] [])) st1 ?_
  refine Wp.st (S' := T1.setTop (mkF m 5 #[.val (.ref a1), .val (.double d1), .second, .val (.double d2), .second, .val (.double d3), .second] [(.ref a1)])) (fun tt_ kk_ => XS.aloadN X1.here hx rfl (hb hby d1_4) rfl rfl kk_) ?_
  refine Wp.st (S' := T1.setTop (mkF m 6 #[.val (.ref a1), .val (.double d1), .second, .val (.double d2), .second, .val (.double d3), .second] [(.double d1), (.ref a1)])) (fun tt_ kk_ => XS.dloadN X1.here hx rfl (hb hby d1_5) rfl  kk_) ?_
  obtain ⟨T2, h2, X2, e2, W2, st2⟩ := putF X1 hx hZ hown (host := "") (Or.inl (hw _ (List.mem_of_getElem? (i := 14) rfl))) Via.refl e1 P2 P1 (Or.inr ⟨(hw _ (List.mem_of_getElem? (i := 15) rfl)), rfl, hnm⟩) (hw _ (List.mem_of_getElem? (i := 1) rfl)) (ty := .double) (by decide) rfl rfl (g := (mkF m 6 #[.val (.ref a1), .val (.double d1), .second, .val (.double d2), .second, .val (.double d3), .second] [(.double d1), (.ref a1)])) rfl rfl (hb hby d1_6)
  have z3 := Nat.le_of_eq W2.size.symm
  have Fw2 : Fld Z h2 a1 "com/example/dags_over_clouds/dagsoverclouds/model/Cost" "storage" "D" (.double d1) := P2.same W2
  have N2 := Fr.snoc X2 N1 g_a1
  refine Wp.st (S' := T2.setTop (mkF m 9 #[.val (.ref a1), .val (.double d1), .second, .val (.double d2), .second, .val (.double d3), .second] [])) st2 ?_
  refine Wp.st (S' := T2.setTop (mkF m 10 #[.val (.ref a1), .val (.double d1), .second, .val (.double d2), .second, .val (.double d3), .second] [(.ref a1)])) (fun tt_ kk_ => XS.aloadN X2.here hx rfl (hb hby d1_9) rfl rfl kk_) ?_
  refine Wp.st (S' := T2.setTop (mkF m 11 #[.val (.ref a1), .val (.double d1), .second, .val (.double d2), .second, .val (.double d3), .second] [(.double d2), (.ref a1)])) (fun tt_ kk_ => XS.dloadN X2.here hx rfl (hb hby d1_10) rfl  kk_) ?_
  have F5 := P3.other W2 (Or.inr (slot_ne (Or.inr (hw _ (List.mem_of_getElem? (i := 17) rfl))) (Or.inr (hw _ (List.mem_of_getElem? (i := 15) rfl))) (by decide) (t := .double) (t' := .double) (by decide) (by decide)))
  have F6 := P1.wr W2
  obtain ⟨T4, h4, X4, e4, W4, st4⟩ := putF X2 hx hZ hown (host := "") (Or.inl (hw _ (List.mem_of_getElem? (i := 16) rfl))) Via.refl e2 F5 F6 (Or.inr ⟨(hw _ (List.mem_of_getElem? (i := 17) rfl)), rfl, hnm⟩) (hw _ (List.mem_of_getElem? (i := 1) rfl)) (ty := .double) (by decide) rfl rfl (g := (mkF m 11 #[.val (.ref a1), .val (.double d1), .second, .val (.double d2), .second, .val (.double d3), .second] [(.double d2), (.ref a1)])) rfl rfl (hb hby d1_11)
  have z7 := Nat.le_of_eq W4.size.symm
  have Fw4 : Fld Z h4 a1 "com/example/dags_over_clouds/dagsoverclouds/model/Cost" "transfer" "D" (.double d2) := F5.same W4
  have N4 := Fr.snoc X4 N2 g_a1
  refine Wp.st (S' := T4.setTop (mkF m 14 #[.val (.ref a1), .val (.double d1), .second, .val (.double d2), .second, .val (.double d3), .second] [])) st4 ?_
  refine Wp.st (S' := T4.setTop (mkF m 15 #[.val (.ref a1), .val (.double d1), .second, .val (.double d2), .second, .val (.double d3), .second] [(.ref a1)])) (fun tt_ kk_ => XS.aloadN X4.here hx rfl (hb hby d1_14) rfl rfl kk_) ?_
  refine Wp.st (S' := T4.setTop (mkF m 17 #[.val (.ref a1), .val (.double d1), .second, .val (.double d2), .second, .val (.double d3), .second] [(.double d3), (.ref a1)])) (fun tt_ kk_ => XS.dload X4.here hx rfl (hb hby d1_15) rfl  kk_) ?_
  have F9 := P4.other W2 (Or.inr (slot_ne (Or.inr (hw _ (List.mem_of_getElem? (i := 19) rfl))) (Or.inr (hw _ (List.mem_of_getElem? (i := 15) rfl))) (by decide) (t := .double) (t' := .double) (by decide) (by decide)))
  have F10 := F9.other W4 (Or.inr (slot_ne (Or.inr (hw _ (List.mem_of_getElem? (i := 19) rfl))) (Or.inr (hw _ (List.mem_of_getElem? (i := 17) rfl))) (by decide) (t := .double) (t' := .double) (by decide) (by decide)))
  have F11 := F6.wr W4
  obtain ⟨T8, h8, X8, e8, W8, st8⟩ := putF X4 hx hZ hown (host := "") (Or.inl (hw _ (List.mem_of_getElem? (i := 18) rfl))) Via.refl e4 F10 F11 (Or.inr ⟨(hw _ (List.mem_of_getElem? (i := 19) rfl)), rfl, hnm⟩) (hw _ (List.mem_of_getElem? (i := 1) rfl)) (ty := .double) (by decide) rfl rfl (g := (mkF m 17 #[.val (.ref a1), .val (.double d1), .second, .val (.double d2), .second, .val (.double d3), .second] [(.double d3), (.ref a1)])) rfl rfl (hb hby d1_17)
  have z12 := Nat.le_of_eq W8.size.symm
  have Fw8 : Fld Z h8 a1 "com/example/dags_over_clouds/dagsoverclouds/model/Cost" "cpu" "D" (.double d3) := F10.same W8
  have N8 := Fr.snoc X8 N4 g_a1
  refine Wp.st (S' := T8.setTop (mkF m 20 #[.val (.ref a1), .val (.double d1), .second, .val (.double d2), .second, .val (.double d3), .second] [])) st8 ?_
  have K13 := Keep.refl h0 [a1]
  have K14 := K13.wr W2 (Or.inl (List.mem_of_getElem? (i := 0) rfl))
  have K15 := K14.wr W4 (Or.inl (List.mem_of_getElem? (i := 0) rfl))
  have K16 := K15.wr W8 (Or.inl (List.mem_of_getElem? (i := 0) rfl))
  have F17 := F11.wr W8
  have F18 := Fw2.other W4 (Or.inr (slot_ne (Or.inr (hw _ (List.mem_of_getElem? (i := 15) rfl))) (Or.inr (hw _ (List.mem_of_getElem? (i := 17) rfl))) (by decide) (t := .double) (t' := .double) (by decide) (by decide)))
  have F19 := F18.other W8 (Or.inr (slot_ne (Or.inr (hw _ (List.mem_of_getElem? (i := 15) rfl))) (Or.inr (hw _ (List.mem_of_getElem? (i := 19) rfl))) (by decide) (t := .double) (t' := .double) (by decide) (by decide)))
  have F20 := Fw4.other W8 (Or.inr (slot_ne (Or.inr (hw _ (List.mem_of_getElem? (i := 17) rfl))) (Or.inr (hw _ (List.mem_of_getElem? (i := 19) rfl))) (by decide) (t := .double) (t' := .double) (by decide) (by decide)))
  exact Wp.ret X8 hlk (v := none) (fun _ => rfl) (fun fs hr => X8.returnOut hx Bd.returns (hb hby d1_20) hr) (by decide) (by decide) (show Q_rm1 Z a1 d1 d2 d3 h0 n0 _ T8.heap _ by rw [e8]; exact ⟨rfl, N8, K16, F17, F19, F20, Fw8⟩)
theorem pn_4 : plainName "com/example/dags_over_clouds/dagsoverclouds/model/Cost" = true := by first | (simp [plainName, overriddenIn]; done) | decide +kernel
theorem d4_0 : decode prog_16_method_9_code 0 = .ok (.aload_n 0, 1) := by decide +kernel
theorem d4_1 : decode prog_16_method_9_code 1 = .ok (.getfield 7, 3) := by decide +kernel
theorem d4_4 : decode prog_16_method_9_code 4 = .ok (.aload_n 0, 1) := by decide +kernel
theorem d4_5 : decode prog_16_method_9_code 5 = .ok (.getfield 13, 3) := by decide +kernel
theorem d4_8 : decode prog_16_method_9_code 8 = .ok (.dadd, 1) := by decide +kernel
theorem d4_9 : decode prog_16_method_9_code 9 = .ok (.aload_n 0, 1) := by decide +kernel
theorem d4_10 : decode prog_16_method_9_code 10 = .ok (.getfield 16, 3) := by decide +kernel
theorem d4_13 : decode prog_16_method_9_code 13 = .ok (.dadd, 1) := by decide +kernel
theorem d4_14 : decode prog_16_method_9_code 14 = .ok (.dreturn, 1) := by decide +kernel
theorem ef_rm4 (m : MethodId) (a1 : Addr) : entryFrame m #[(.ref a1)] 1 = mkF m 0 #[.val (.ref a1)] [] := by first | (simp [entryFrame, mkF, argsToLocals, Value.category]; done) | rfl
def Q_rm4 (Z : State) (a1 : Addr) (d1 : UInt64) (d2 : UInt64) (d3 : UInt64) (h0 : Heap) (n0 : Nat) (v : Option Value) (h : Heap) (L : List Loc) : Prop := (v = some (.double (FP.dadd (FP.dadd d1 d2) d3))) ∧ (Fr n0 L) ∧ (h = h0)
set_option maxRecDepth 65536 in
set_option maxHeartbeats 40000000 in
theorem rm4 (l : Launch) (Z : State) (a0 : Array Value) (hw : ∀ d ∈ tables_1, d.before a0 Z = true) (ws : List Jvm.Cond) (a1 : Addr) (d1 : UInt64) (d2 : UInt64) (d3 : UInt64) (h0 : Heap) (n0 : Nat) (Z0 : n0 ≤ h0.size) (P0 : Exa Z h0 a1 "com/example/dags_over_clouds/dagsoverclouds/model/Cost") (P1 : Fld Z h0 a1 "com/example/dags_over_clouds/dagsoverclouds/model/Cost" "storage" "D" (.double d1)) (P2 : Fld Z h0 a1 "com/example/dags_over_clouds/dagsoverclouds/model/Cost" "transfer" "D" (.double d2)) (P3 : Fld Z h0 a1 "com/example/dags_over_clouds/dagsoverclouds/model/Cost" "cpu" "D" (.double d3)) (n1 : Jvm.Free.Fl.NoNaN64 (FP.dadd d1 d2)) (n2 : Jvm.Free.Fl.NoNaN64 (FP.dadd (FP.dadd d1 d2) d3)) :
    MetFree l (⟨"com/example/dags_over_clouds/dagsoverclouds/model/Cost", "total", "()D"⟩ : MethodName) (head1 (Jvm.Cond.code (⟨"com/example/dags_over_clouds/dagsoverclouds/model/Cost", "total", "()D"⟩ : MethodName) prog_16_method_9_code 1 (some .double) :: ws) ({ frames := 0, cells := 0, slots := 0, locals := 0 } : Room)) (fun a U => a = #[(.ref a1)] ∧ Z.Warmed39 U.vm ∧ U.heap = h0) (fun _ _ _ _ _ => True) (fun _ U o U' => ∃ v L, o = .returned v ∧ Q_rm4 Z a1 d1 d2 d3 h0 n0 v U'.heap L ∧ FrameEnd U o U' L ({ frames := 0, cells := 0, slots := 0, locals := 0 } : Room).cells ({ frames := 0, cells := 0, slots := 0, locals := 0 } : Room).slots) := by
  refine MetFree.of_bodySF (plainFor_of_name pn_4) hisR ?_
  intro p e s m args below meth c s₁ Bd hml0 hP hK
  obtain ⟨rfl, hZ, hh⟩ := hP
  have hx := Bd.exec
  have hby := Bd.bytes
  have hml : c.maxLocals = 1 := hml0
  have hown : s.vm.findClass "com/example/dags_over_clouds/dagsoverclouds/model/Cost" = some m.cls := findClass_of_methodNamed Bd.named
  have hnm := (name_of_methodNamed Bd.named Bd.method).1
  have hlk := Bd.notSynchronized
  have X0 : Stand p l e ({ frames := 0, cells := 0, slots := 0, locals := 0 } : Room) s m #[(.ref a1)] below meth c s₁ [] 0 0 := Stand.of_body Bd
  have e0 : s₁.heap = h0 := by rw [← hh, Bd.state]; rfl
  have N0 := Fr.nil n0
  refine Wp.goal (Post := (fun o U' => ∃ v L, o = .returned v ∧ Q_rm4 Z a1 d1 d2 d3 h0 n0 v U'.heap L ∧ FrameEnd s o U' L ({ frames := 0, cells := 0, slots := 0, locals := 0 } : Room).cells ({ frames := 0, cells := 0, slots := 0, locals := 0 } : Room).slots)) (Wp.st (S' := s₁.setTop (mkF m 0 #[.val (.ref a1)] [])) (fun tt_ kk_ => castTop (ef_rm4 m a1 ) kk_) ?_)
  refine Wp.st (S' := s₁.setTop (mkF m 1 #[.val (.ref a1)] [(.ref a1)])) (fun tt_ kk_ => XS.aloadN X0.here hx rfl (hb hby d4_0) rfl rfl kk_) ?_
  obtain ⟨T1, X1, e1, st1⟩ := getF X0 hx hZ hown (host := "") (Or.inl (hw _ (List.mem_of_getElem? (i := 14) rfl))) Via.refl e0 P1 (g := (mkF m 1 #[.val (.ref a1)] [(.ref a1)])) rfl rfl (hb hby d4_1)
  refine Wp.st (S' := T1.setTop (mkF m 4 #[.val (.ref a1)] [(.double d1)])) st1 ?_
  refine Wp.st (S' := T1.setTop (mkF m 5 #[.val (.ref a1)] [(.ref a1), (.double d1)])) (fun tt_ kk_ => XS.aloadN X1.here hx rfl (hb hby d4_4) rfl rfl kk_) ?_
  obtain ⟨T2, X2, e2, st2⟩ := getF X1 hx hZ hown (host := "") (Or.inl (hw _ (List.mem_of_getElem? (i := 16) rfl))) Via.refl e1 P2 (g := (mkF m 5 #[.val (.ref a1)] [(.ref a1), (.double d1)])) rfl rfl (hb hby d4_5)
  refine Wp.st (S' := T2.setTop (mkF m 8 #[.val (.ref a1)] [(.double d2), (.double d1)])) st2 ?_
  refine Wp.st (S' := T2.setTop (mkF m 9 #[.val (.ref a1)] [(.double (FP.dadd d1 d2))])) (fun tt_ kk_ => XS.daddS X2.here hx rfl (hb hby d4_8) rfl n1 rfl kk_) ?_
  refine Wp.st (S' := T2.setTop (mkF m 10 #[.val (.ref a1)] [(.ref a1), (.double (FP.dadd d1 d2))])) (fun tt_ kk_ => XS.aloadN X2.here hx rfl (hb hby d4_9) rfl rfl kk_) ?_
  obtain ⟨T3, X3, e3, st3⟩ := getF X2 hx hZ hown (host := "") (Or.inl (hw _ (List.mem_of_getElem? (i := 18) rfl))) Via.refl e2 P3 (g := (mkF m 10 #[.val (.ref a1)] [(.ref a1), (.double (FP.dadd d1 d2))])) rfl rfl (hb hby d4_10)
  refine Wp.st (S' := T3.setTop (mkF m 13 #[.val (.ref a1)] [(.double d3), (.double (FP.dadd d1 d2))])) st3 ?_
  refine Wp.st (S' := T3.setTop (mkF m 14 #[.val (.ref a1)] [(.double (FP.dadd (FP.dadd d1 d2) d3))])) (fun tt_ kk_ => XS.daddS X3.here hx rfl (hb hby d4_13) rfl n2 rfl kk_) ?_
  exact Wp.ret X3 hlk (v := (some (.double (FP.dadd (FP.dadd d1 d2) d3)))) (fun h => by rw [Bd.returns] at h; cases h) (fun fs hr => retOut X3 hx Bd.returns rfl (Or.inr (Or.inr (Or.inl ⟨rfl, rfl, _, rfl⟩))) (hb hby d4_14) hr) (by decide) (by decide) (show Q_rm4 Z a1 d1 d2 d3 h0 n0 _ T3.heap _ by rw [e3]; exact ⟨rfl, N0, rfl⟩)
theorem pn_0 : plainName "com/example/dags_over_clouds/dagsoverclouds/model/CostTotalPinLaw" = true := by first | (simp [plainName, overriddenIn]; done) | decide +kernel
theorem pd_1 : parseMethodDescriptor "(DDD)V" = some ⟨[.double, .double, .double], none⟩ := by decide +kernel
theorem pd_2 : parseMethodDescriptor "()D" = some ⟨[], some .double⟩ := by decide +kernel
theorem ef_rm0 (m : MethodId) (x1 : Int32) (y1 : Int32) (z1 : Int32) : entryFrame m #[(.int x1), (.int y1), (.int z1)] maxLocals = mkF m 0 #[.val (.int x1), .val (.int y1), .val (.int z1), .unset, .unset, .unset, .unset, .unset, .unset, .unset, .unset, .unset] [] := by first | (simp [entryFrame, mkF, argsToLocals, Value.category, maxLocals]; done) | rfl
def Q_rm0 (Z : State) (x1 : Int32) (y1 : Int32) (z1 : Int32) (h0 : Heap) (n0 : Nat) (v : Option Value) (h : Heap) (L : List Loc) : Prop := (v = some (.int (1 : Int32))) ∧ (Fr n0 L) ∧ (Keep h0 h [])
set_option maxRecDepth 65536 in
set_option maxHeartbeats 40000000 in
theorem rm0 (l : Launch) (Z : State) (a0 : Array Value) (hw : ∀ d ∈ tables_1, d.before a0 Z = true) (ws : List Jvm.Cond) (x1 : Int32) (y1 : Int32) (z1 : Int32) (h0 : Heap) (n0 : Nat) (Z0 : n0 ≤ h0.size) (OZ : Jvm.RoadKit.Old Z n0 h0)  :
    MetFree l x (head1 (Jvm.Cond.code x code maxLocals ret :: ws) room_1) (fun a U => a = #[(.int x1), (.int y1), (.int z1)] ∧ Z.Warmed39 U.vm ∧ U.heap = h0) (fun _ _ _ _ _ => True) (fun _ U o U' => ∃ v L, o = .returned v ∧ Q_rm0 Z x1 y1 z1 h0 n0 v U'.heap L ∧ FrameEnd U o U' L room_1.cells room_1.slots) := by
  refine MetFree.of_bodySF (plainFor_of_name pn_0) hisR ?_
  intro p e s m args below meth c s₁ Bd hml0 hP hK
  obtain ⟨rfl, hZ, hh⟩ := hP
  have hx := Bd.exec
  have hby := Bd.bytes
  have hml : c.maxLocals = 12 := hml0
  have hown : s.vm.findClass "com/example/dags_over_clouds/dagsoverclouds/model/CostTotalPinLaw" = some m.cls := findClass_of_methodNamed Bd.named
  have hnm := (name_of_methodNamed Bd.named Bd.method).1
  have hlk := Bd.notSynchronized
  have X0 : Stand p l e room_1 s m #[(.int x1), (.int y1), (.int z1)] below meth c s₁ [] 0 0 := Stand.of_body Bd
  have e0 : s₁.heap = h0 := by rw [← hh, Bd.state]; rfl
  have N0 := Fr.nil n0
  refine Wp.goal (Post := (fun o U' => ∃ v L, o = .returned v ∧ Q_rm0 Z x1 y1 z1 h0 n0 v U'.heap L ∧ FrameEnd s o U' L room_1.cells room_1.slots)) (Wp.st (S' := s₁.setTop (mkF m 0 #[.val (.int x1), .val (.int y1), .val (.int z1), .unset, .unset, .unset, .unset, .unset, .unset, .unset, .unset, .unset] [])) (fun tt_ kk_ => castTop (ef_rm0 m x1 y1 z1 ) kk_) ?_)
  have O0 : Jvm.RoadKit.Old Z n0 h0 := OZ
  refine Wp.st (S' := s₁.setTop (mkF m 1 #[.val (.int x1), .val (.int y1), .val (.int z1), .unset, .unset, .unset, .unset, .unset, .unset, .unset, .unset, .unset] [(.int x1)])) (fun tt_ kk_ => XS.iloadN X0.here hx rfl (hb hby at_0) rfl  kk_) ?_
  refine Wp.st (S' := s₁.setTop (mkF m 2 #[.val (.int x1), .val (.int y1), .val (.int z1), .unset, .unset, .unset, .unset, .unset, .unset, .unset, .unset, .unset] [(.double (FP.l2d x1.toInt64))])) (fun tt_ kk_ => XS.i2dS X0.here hx rfl (hb hby at_1) rfl (i2d_w x1) kk_) ?_
  refine Wp.st (S' := s₁.setTop (mkF m 3 #[.val (.int x1), .val (.int y1), .val (.int z1), .val (.double (FP.l2d x1.toInt64)), .second, .unset, .unset, .unset, .unset, .unset, .unset, .unset] [])) (fun tt_ kk_ => XS.dstoreN X0.here hx rfl (hb hby at_2) rfl (l' := #[.val (.int x1), .val (.int y1), .val (.int z1), .val (.double (FP.l2d x1.toInt64)), .second, .unset, .unset, .unset, .unset, .unset, .unset, .unset]) rfl kk_) ?_
  refine Wp.st (S' := s₁.setTop (mkF m 4 #[.val (.int x1), .val (.int y1), .val (.int z1), .val (.double (FP.l2d x1.toInt64)), .second, .unset, .unset, .unset, .unset, .unset, .unset, .unset] [(.int y1)])) (fun tt_ kk_ => XS.iloadN X0.here hx rfl (hb hby at_3) rfl  kk_) ?_
  refine Wp.st (S' := s₁.setTop (mkF m 5 #[.val (.int x1), .val (.int y1), .val (.int z1), .val (.double (FP.l2d x1.toInt64)), .second, .unset, .unset, .unset, .unset, .unset, .unset, .unset] [(.double (FP.l2d y1.toInt64))])) (fun tt_ kk_ => XS.i2dS X0.here hx rfl (hb hby at_4) rfl (i2d_w y1) kk_) ?_
  refine Wp.st (S' := s₁.setTop (mkF m 7 #[.val (.int x1), .val (.int y1), .val (.int z1), .val (.double (FP.l2d x1.toInt64)), .second, .val (.double (FP.l2d y1.toInt64)), .second, .unset, .unset, .unset, .unset, .unset] [])) (fun tt_ kk_ => XS.dstore X0.here hx rfl (hb hby at_5) rfl (l' := #[.val (.int x1), .val (.int y1), .val (.int z1), .val (.double (FP.l2d x1.toInt64)), .second, .val (.double (FP.l2d y1.toInt64)), .second, .unset, .unset, .unset, .unset, .unset]) rfl kk_) ?_
  refine Wp.st (S' := s₁.setTop (mkF m 8 #[.val (.int x1), .val (.int y1), .val (.int z1), .val (.double (FP.l2d x1.toInt64)), .second, .val (.double (FP.l2d y1.toInt64)), .second, .unset, .unset, .unset, .unset, .unset] [(.int z1)])) (fun tt_ kk_ => XS.iloadN X0.here hx rfl (hb hby at_7) rfl  kk_) ?_
  refine Wp.st (S' := s₁.setTop (mkF m 9 #[.val (.int x1), .val (.int y1), .val (.int z1), .val (.double (FP.l2d x1.toInt64)), .second, .val (.double (FP.l2d y1.toInt64)), .second, .unset, .unset, .unset, .unset, .unset] [(.double (FP.l2d z1.toInt64))])) (fun tt_ kk_ => XS.i2dS X0.here hx rfl (hb hby at_8) rfl (i2d_w z1) kk_) ?_
  refine Wp.st (S' := s₁.setTop (mkF m 11 #[.val (.int x1), .val (.int y1), .val (.int z1), .val (.double (FP.l2d x1.toInt64)), .second, .val (.double (FP.l2d y1.toInt64)), .second, .val (.double (FP.l2d z1.toInt64)), .second, .unset, .unset, .unset] [])) (fun tt_ kk_ => XS.dstore X0.here hx rfl (hb hby at_9) rfl (l' := #[.val (.int x1), .val (.int y1), .val (.int z1), .val (.double (FP.l2d x1.toInt64)), .second, .val (.double (FP.l2d y1.toInt64)), .second, .val (.double (FP.l2d z1.toInt64)), .second, .unset, .unset, .unset]) rfl kk_) ?_
  obtain ⟨T1, h1, X1, e1, E1, A1, D1, U1, st1⟩ := newO X0 hx hZ hown (hw _ (List.mem_of_getElem? (i := 0) rfl)) (hw _ (List.mem_of_getElem? (i := 1) rfl)) (hw _ (List.mem_of_getElem? (i := 2) rfl)) e0 (g := (mkF m 11 #[.val (.int x1), .val (.int y1), .val (.int z1), .val (.double (FP.l2d x1.toInt64)), .second, .val (.double (FP.l2d y1.toInt64)), .second, .val (.double (FP.l2d z1.toInt64)), .second, .unset, .unset, .unset] [])) rfl (hb hby at_11) (by decide) (by decide)
  obtain ⟨b1, g1⟩ : ∃ z, z = h0.size := ⟨_, rfl⟩
  rw [← g1] at A1 D1 U1 st1
  have z2 := E1.1
  have g3 : n0 ≤ b1 := Nat.le_trans (Nat.le_trans Z0 (Nat.le_refl _)) (Nat.le_of_eq g1.symm)
  have F4 : Fld Z h1 b1 "com/example/dags_over_clouds/dagsoverclouds/model/Cost" "storage" "D" (.double (0 : UInt64)) := D1 (Or.inr (hw _ (List.mem_of_getElem? (i := 15) rfl))) (ty := .double) (by decide)
  have F5 : Fld Z h1 b1 "com/example/dags_over_clouds/dagsoverclouds/model/Cost" "transfer" "D" (.double (0 : UInt64)) := D1 (Or.inr (hw _ (List.mem_of_getElem? (i := 17) rfl))) (ty := .double) (by decide)
  have F6 : Fld Z h1 b1 "com/example/dags_over_clouds/dagsoverclouds/model/Cost" "cpu" "D" (.double (0 : UInt64)) := D1 (Or.inr (hw _ (List.mem_of_getElem? (i := 19) rfl))) (ty := .double) (by decide)
  refine Wp.st (S' := T1.setTop (mkF m 14 #[.val (.int x1), .val (.int y1), .val (.int z1), .val (.double (FP.l2d x1.toInt64)), .second, .val (.double (FP.l2d y1.toInt64)), .second, .val (.double (FP.l2d z1.toInt64)), .second, .unset, .unset, .unset] [(.ref b1)])) st1 ?_
  refine Wp.st (S' := T1.setTop (mkF m 15 #[.val (.int x1), .val (.int y1), .val (.int z1), .val (.double (FP.l2d x1.toInt64)), .second, .val (.double (FP.l2d y1.toInt64)), .second, .val (.double (FP.l2d z1.toInt64)), .second, .unset, .unset, .unset] [(.ref b1), (.ref b1)])) (fun tt_ kk_ => XS.dup X1.here hx rfl (hb hby at_14) rfl rfl kk_) ?_
  refine Wp.st (S' := T1.setTop (mkF m 16 #[.val (.int x1), .val (.int y1), .val (.int z1), .val (.double (FP.l2d x1.toInt64)), .second, .val (.double (FP.l2d y1.toInt64)), .second, .val (.double (FP.l2d z1.toInt64)), .second, .unset, .unset, .unset] [(.double (FP.l2d x1.toInt64)), (.ref b1), (.ref b1)])) (fun tt_ kk_ => XS.dloadN X1.here hx rfl (hb hby at_15) rfl  kk_) ?_
  refine Wp.st (S' := T1.setTop (mkF m 18 #[.val (.int x1), .val (.int y1), .val (.int z1), .val (.double (FP.l2d x1.toInt64)), .second, .val (.double (FP.l2d y1.toInt64)), .second, .val (.double (FP.l2d z1.toInt64)), .second, .unset, .unset, .unset] [(.double (FP.l2d y1.toInt64)), (.double (FP.l2d x1.toInt64)), (.ref b1), (.ref b1)])) (fun tt_ kk_ => XS.dload X1.here hx rfl (hb hby at_16) rfl  kk_) ?_
  refine Wp.st (S' := T1.setTop (mkF m 20 #[.val (.int x1), .val (.int y1), .val (.int z1), .val (.double (FP.l2d x1.toInt64)), .second, .val (.double (FP.l2d y1.toInt64)), .second, .val (.double (FP.l2d z1.toInt64)), .second, .unset, .unset, .unset] [(.double (FP.l2d z1.toInt64)), (.double (FP.l2d y1.toInt64)), (.double (FP.l2d x1.toInt64)), (.ref b1), (.ref b1)])) (fun tt_ kk_ => XS.dload X1.here hx rfl (hb hby at_18) rfl  kk_) ?_
  obtain ⟨vv7, _, ⟨T7, L7, k7, n7⟩, -, X7, ⟨Lc7, hQ7, l7, y7, z7⟩, st7⟩ := X1.specialBack hx (y := (⟨"com/example/dags_over_clouds/dagsoverclouds/model/Cost", "<init>", "(DDD)V"⟩ : MethodName)) rfl hown (mvT hZ (hw _ (List.mem_of_getElem? (i := 3) rfl))) (mvT hZ (hw _ (List.mem_of_getElem? (i := 4) rfl))) (mvT hZ (hw _ (List.mem_of_getElem? (i := 5) rfl))) (by decide) (backOf (W := 1) (rm1 l Z a0 hw [] b1 (FP.l2d x1.toInt64) (FP.l2d y1.toInt64) (FP.l2d z1.toInt64) h1 n0 (Nat.le_trans Z0 z2) g3 A1 F4 F5 F6) hZ (hw _ (List.mem_of_getElem? (i := 5) rfl)) (hw _ (List.mem_of_getElem? (i := 2) rfl)) (by decide) (by decide)) (g := (mkF m 20 #[.val (.int x1), .val (.int y1), .val (.int z1), .val (.double (FP.l2d x1.toInt64)), .second, .val (.double (FP.l2d y1.toInt64)), .second, .val (.double (FP.l2d z1.toInt64)), .second, .unset, .unset, .unset] [(.double (FP.l2d z1.toInt64)), (.double (FP.l2d y1.toInt64)), (.double (FP.l2d x1.toInt64)), (.ref b1), (.ref b1)])) rfl (by rw [hml]; rfl) (Steps.refl _) (a := b1) (argsL := [(.double (FP.l2d x1.toInt64)), (.double (FP.l2d y1.toInt64)), (.double (FP.l2d z1.toInt64))]) (rest := [(.ref b1)]) (lenOf pd_1 rfl) rfl (by show 2 * 0 + _ ≤ _; exact Nat.le_of_eq rfl) (hb hby at_20) (fun _ _ => ⟨rfl, e1, (by decide : 1 + 0 ≤ _), (by decide : 3 + 0 ≤ _)⟩)
  dsimp only [Pt.U, Pt.locs, Pt.cells, Pt.slots] at X7 l7 y7 z7 st7 hQ7
  subst l7 y7 z7
  obtain ⟨rfl, Nq7, K7, P7_0, P7_1, P7_2, P7_3⟩ := hQ7
  have N7 := Fr.app N0 Nq7
  have z8 := K7.1
  have e7 : T7.heap = T7.heap := rfl
  refine Wp.tr (S' := T7.setTop (mkF m 23 #[.val (.int x1), .val (.int y1), .val (.int z1), .val (.double (FP.l2d x1.toInt64)), .second, .val (.double (FP.l2d y1.toInt64)), .second, .val (.double (FP.l2d z1.toInt64)), .second, .unset, .unset, .unset] [(.ref b1)])) st7 ?_
  refine Wp.st (S' := T7.setTop (mkF m 25 #[.val (.int x1), .val (.int y1), .val (.int z1), .val (.double (FP.l2d x1.toInt64)), .second, .val (.double (FP.l2d y1.toInt64)), .second, .val (.double (FP.l2d z1.toInt64)), .second, .val (.ref b1), .unset, .unset] [])) (fun tt_ kk_ => XS.astore X7.here hx rfl (hb hby at_23) rfl rfl (l' := #[.val (.int x1), .val (.int y1), .val (.int z1), .val (.double (FP.l2d x1.toInt64)), .second, .val (.double (FP.l2d y1.toInt64)), .second, .val (.double (FP.l2d z1.toInt64)), .second, .val (.ref b1), .unset, .unset]) rfl kk_) ?_
  refine Wp.st (S' := T7.setTop (mkF m 26 #[.val (.int x1), .val (.int y1), .val (.int z1), .val (.double (FP.l2d x1.toInt64)), .second, .val (.double (FP.l2d y1.toInt64)), .second, .val (.double (FP.l2d z1.toInt64)), .second, .val (.ref b1), .unset, .unset] [(.int x1)])) (fun tt_ kk_ => XS.iloadN X7.here hx rfl (hb hby at_25) rfl  kk_) ?_
  refine Wp.st (S' := T7.setTop (mkF m 27 #[.val (.int x1), .val (.int y1), .val (.int z1), .val (.double (FP.l2d x1.toInt64)), .second, .val (.double (FP.l2d y1.toInt64)), .second, .val (.double (FP.l2d z1.toInt64)), .second, .val (.ref b1), .unset, .unset] [(.long (x1.toInt64))])) (fun tt_ kk_ => XS.i2l X7.here hx rfl (hb hby at_26) rfl kk_) ?_
  refine Wp.st (S' := T7.setTop (mkF m 28 #[.val (.int x1), .val (.int y1), .val (.int z1), .val (.double (FP.l2d x1.toInt64)), .second, .val (.double (FP.l2d y1.toInt64)), .second, .val (.double (FP.l2d z1.toInt64)), .second, .val (.ref b1), .unset, .unset] [(.int y1), (.long (x1.toInt64))])) (fun tt_ kk_ => XS.iloadN X7.here hx rfl (hb hby at_27) rfl  kk_) ?_
  refine Wp.st (S' := T7.setTop (mkF m 29 #[.val (.int x1), .val (.int y1), .val (.int z1), .val (.double (FP.l2d x1.toInt64)), .second, .val (.double (FP.l2d y1.toInt64)), .second, .val (.double (FP.l2d z1.toInt64)), .second, .val (.ref b1), .unset, .unset] [(.long (y1.toInt64)), (.long (x1.toInt64))])) (fun tt_ kk_ => XS.i2l X7.here hx rfl (hb hby at_28) rfl kk_) ?_
  refine Wp.st (S' := T7.setTop (mkF m 30 #[.val (.int x1), .val (.int y1), .val (.int z1), .val (.double (FP.l2d x1.toInt64)), .second, .val (.double (FP.l2d y1.toInt64)), .second, .val (.double (FP.l2d z1.toInt64)), .second, .val (.ref b1), .unset, .unset] [(.long ((x1.toInt64) + (y1.toInt64)))])) (fun tt_ kk_ => XS.ladd X7.here hx rfl (hb hby at_29) rfl kk_) ?_
  refine Wp.st (S' := T7.setTop (mkF m 31 #[.val (.int x1), .val (.int y1), .val (.int z1), .val (.double (FP.l2d x1.toInt64)), .second, .val (.double (FP.l2d y1.toInt64)), .second, .val (.double (FP.l2d z1.toInt64)), .second, .val (.ref b1), .unset, .unset] [(.int z1), (.long ((x1.toInt64) + (y1.toInt64)))])) (fun tt_ kk_ => XS.iloadN X7.here hx rfl (hb hby at_30) rfl  kk_) ?_
  refine Wp.st (S' := T7.setTop (mkF m 32 #[.val (.int x1), .val (.int y1), .val (.int z1), .val (.double (FP.l2d x1.toInt64)), .second, .val (.double (FP.l2d y1.toInt64)), .second, .val (.double (FP.l2d z1.toInt64)), .second, .val (.ref b1), .unset, .unset] [(.long (z1.toInt64)), (.long ((x1.toInt64) + (y1.toInt64)))])) (fun tt_ kk_ => XS.i2l X7.here hx rfl (hb hby at_31) rfl kk_) ?_
  refine Wp.st (S' := T7.setTop (mkF m 33 #[.val (.int x1), .val (.int y1), .val (.int z1), .val (.double (FP.l2d x1.toInt64)), .second, .val (.double (FP.l2d y1.toInt64)), .second, .val (.double (FP.l2d z1.toInt64)), .second, .val (.ref b1), .unset, .unset] [(.long (((x1.toInt64) + (y1.toInt64)) + (z1.toInt64)))])) (fun tt_ kk_ => XS.ladd X7.here hx rfl (hb hby at_32) rfl kk_) ?_
  refine Wp.st (S' := T7.setTop (mkF m 35 #[.val (.int x1), .val (.int y1), .val (.int z1), .val (.double (FP.l2d x1.toInt64)), .second, .val (.double (FP.l2d y1.toInt64)), .second, .val (.double (FP.l2d z1.toInt64)), .second, .val (.ref b1), .val (.long (((x1.toInt64) + (y1.toInt64)) + (z1.toInt64))), .second] [])) (fun tt_ kk_ => XS.lstore X7.here hx rfl (hb hby at_33) rfl (l' := #[.val (.int x1), .val (.int y1), .val (.int z1), .val (.double (FP.l2d x1.toInt64)), .second, .val (.double (FP.l2d y1.toInt64)), .second, .val (.double (FP.l2d z1.toInt64)), .second, .val (.ref b1), .val (.long (((x1.toInt64) + (y1.toInt64)) + (z1.toInt64))), .second]) rfl kk_) ?_
  refine Wp.st (S' := T7.setTop (mkF m 37 #[.val (.int x1), .val (.int y1), .val (.int z1), .val (.double (FP.l2d x1.toInt64)), .second, .val (.double (FP.l2d y1.toInt64)), .second, .val (.double (FP.l2d z1.toInt64)), .second, .val (.ref b1), .val (.long (((x1.toInt64) + (y1.toInt64)) + (z1.toInt64))), .second] [(.ref b1)])) (fun tt_ kk_ => XS.aload X7.here hx rfl (hb hby at_35) rfl rfl kk_) ?_
  obtain ⟨cq9, kq9, q9a, q9b, q9c⟩ := isOf hZ e7 P7_0
  obtain ⟨vv9, _, ⟨T9, L9, k9, n9⟩, -, X9, ⟨Lc9, hQ9, l9, y9, z9⟩, st9⟩ := X7.virtualBack hx (y := (⟨"com/example/dags_over_clouds/dagsoverclouds/model/Cost", "total", "()D"⟩ : MethodName)) (z := (⟨"com/example/dags_over_clouds/dagsoverclouds/model/Cost", "total", "()D"⟩ : MethodName)) hown (mvT hZ (hw _ (List.mem_of_getElem? (i := 20) rfl))) (mvT hZ (hw _ (List.mem_of_getElem? (i := 21) rfl))) (notFace_of_selects (args := #[]) (mvT hZ (hw _ (List.mem_of_getElem? (i := 23) rfl)))) (mvT hZ (hw _ (List.mem_of_getElem? (i := 23) rfl))) (mvT hZ (hw _ (List.mem_of_getElem? (i := 22) rfl))) (by decide) (backOf (W := 0) (rm4 l Z a0 hw [] b1 (FP.l2d x1.toInt64) (FP.l2d y1.toInt64) (FP.l2d z1.toInt64) T7.heap n0 (Nat.le_trans Z0 (Nat.le_trans z2 z8)) P7_0 P7_1 P7_2 P7_3 ((nn_w (own_s2 _ _)) : Jvm.Free.Fl.NoNaN64 (FP.dadd (FP.l2d x1.toInt64) (FP.l2d y1.toInt64))) ((nn_w (own_s3 _ _ _)) : Jvm.Free.Fl.NoNaN64 (FP.dadd (FP.dadd (FP.l2d x1.toInt64) (FP.l2d y1.toInt64)) (FP.l2d z1.toInt64)))) hZ (hw _ (List.mem_of_getElem? (i := 24) rfl)) (hw _ (List.mem_of_getElem? (i := 2) rfl)) (by decide) (by decide)) q9a q9c (g := (mkF m 37 #[.val (.int x1), .val (.int y1), .val (.int z1), .val (.double (FP.l2d x1.toInt64)), .second, .val (.double (FP.l2d y1.toInt64)), .second, .val (.double (FP.l2d z1.toInt64)), .second, .val (.ref b1), .val (.long (((x1.toInt64) + (y1.toInt64)) + (z1.toInt64))), .second] [(.ref b1)])) rfl (by rw [hml]; rfl) (Steps.refl _) (argsL := []) (rest := []) (lenOf pd_2 rfl) rfl (by show 2 * 0 + _ ≤ _; exact Nat.le_of_eq rfl) (hb hby at_37) (fun _ _ => ⟨rfl, e7, (by decide : 1 + 0 ≤ _), (by decide : 3 + 0 ≤ _)⟩)
  dsimp only [Pt.U, Pt.locs, Pt.cells, Pt.slots] at X9 l9 y9 z9 st9 hQ9
  subst l9 y9 z9
  obtain ⟨rfl, Nq9, e9⟩ := hQ9
  have N9 := Fr.app N7 Nq9
  refine Wp.tr (S' := T9.setTop (mkF m 40 #[.val (.int x1), .val (.int y1), .val (.int z1), .val (.double (FP.l2d x1.toInt64)), .second, .val (.double (FP.l2d y1.toInt64)), .second, .val (.double (FP.l2d z1.toInt64)), .second, .val (.ref b1), .val (.long (((x1.toInt64) + (y1.toInt64)) + (z1.toInt64))), .second] [(.double (FP.dadd (FP.dadd (FP.l2d x1.toInt64) (FP.l2d y1.toInt64)) (FP.l2d z1.toInt64)))])) st9 ?_
  refine Wp.st (S' := T9.setTop (mkF m 42 #[.val (.int x1), .val (.int y1), .val (.int z1), .val (.double (FP.l2d x1.toInt64)), .second, .val (.double (FP.l2d y1.toInt64)), .second, .val (.double (FP.l2d z1.toInt64)), .second, .val (.ref b1), .val (.long (((x1.toInt64) + (y1.toInt64)) + (z1.toInt64))), .second] [(.long (((x1.toInt64) + (y1.toInt64)) + (z1.toInt64))), (.double (FP.dadd (FP.dadd (FP.l2d x1.toInt64) (FP.l2d y1.toInt64)) (FP.l2d z1.toInt64)))])) (fun tt_ kk_ => XS.lload X9.here hx rfl (hb hby at_40) rfl  kk_) ?_
  refine Wp.st (S' := T9.setTop (mkF m 43 #[.val (.int x1), .val (.int y1), .val (.int z1), .val (.double (FP.l2d x1.toInt64)), .second, .val (.double (FP.l2d y1.toInt64)), .second, .val (.double (FP.l2d z1.toInt64)), .second, .val (.ref b1), .val (.long (((x1.toInt64) + (y1.toInt64)) + (z1.toInt64))), .second] [(.double (FP.l2d (((x1.toInt64) + (y1.toInt64)) + (z1.toInt64)))), (.double (FP.dadd (FP.dadd (FP.l2d x1.toInt64) (FP.l2d y1.toInt64)) (FP.l2d z1.toInt64)))])) (fun tt_ kk_ => XS.l2dS X9.here hx rfl (hb hby at_42) rfl rfl kk_) ?_
  rw [(own_s3 x1 y1 z1 : (FP.dadd (FP.dadd (FP.l2d x1.toInt64) (FP.l2d y1.toInt64)) (FP.l2d z1.toInt64)) = (FP.l2d (x1.toInt64 + y1.toInt64 + z1.toInt64)))]
  refine Wp.st (S' := T9.setTop (mkF m 44 #[.val (.int x1), .val (.int y1), .val (.int z1), .val (.double (FP.l2d x1.toInt64)), .second, .val (.double (FP.l2d y1.toInt64)), .second, .val (.double (FP.l2d z1.toInt64)), .second, .val (.ref b1), .val (.long (((x1.toInt64) + (y1.toInt64)) + (z1.toInt64))), .second] [(.int (0 : Int32))])) (fun tt_ kk_ => XS.dcmpS X9.here hx rfl (hb hby at_43) rfl (dcmpV_self (nn_w rfl) .l) kk_) ?_
  refine Wp.st (S' := T9.setTop (mkF m 47 #[.val (.int x1), .val (.int y1), .val (.int z1), .val (.double (FP.l2d x1.toInt64)), .second, .val (.double (FP.l2d y1.toInt64)), .second, .val (.double (FP.l2d z1.toInt64)), .second, .val (.ref b1), .val (.long (((x1.toInt64) + (y1.toInt64)) + (z1.toInt64))), .second] [])) (fun tt_ kk_ => XS.ifNo X9.here hx rfl (hb hby at_44) rfl ((if0 _ _).trans (teq ((by decide) : (0 : Int32) = (0 : Int32))).2) kk_) ?_
  refine Wp.st (S' := T9.setTop (mkF m 48 #[.val (.int x1), .val (.int y1), .val (.int z1), .val (.double (FP.l2d x1.toInt64)), .second, .val (.double (FP.l2d y1.toInt64)), .second, .val (.double (FP.l2d z1.toInt64)), .second, .val (.ref b1), .val (.long (((x1.toInt64) + (y1.toInt64)) + (z1.toInt64))), .second] [(.int (1 : Int32))])) (fun tt_ kk_ => XS.iconst X9.here hx rfl (hb hby at_47) kk_) ?_
  refine Wp.st (S' := T9.setTop (mkF m 52 #[.val (.int x1), .val (.int y1), .val (.int z1), .val (.double (FP.l2d x1.toInt64)), .second, .val (.double (FP.l2d y1.toInt64)), .second, .val (.double (FP.l2d z1.toInt64)), .second, .val (.ref b1), .val (.long (((x1.toInt64) + (y1.toInt64)) + (z1.toInt64))), .second] [(.int (1 : Int32))])) (fun tt_ kk_ => XS.goto X9.here hx rfl (pc0 := 48) (pc' := 52) rfl (hb hby at_48) (by decide) (by decide) kk_) ?_
  have K10 := Keep.refl h0 []
  have K11 := K10.ext E1
  have K12 := K11.trans K7 (allS (Or.inr (Nat.le_trans (Nat.le_refl _) (Nat.le_of_eq g1.symm))) all0)
  exact Wp.ret X9 hlk (v := (some (.int (1 : Int32)))) (fun h => by rw [Bd.returns] at h; cases h) (fun fs hr => retN (z := (1 : Int32)) X9 hx (t := .boolean) Bd.returns (by simp) (hb hby at_52) hr) (by decide) (by decide) (show Q_rm0 Z x1 y1 z1 h0 n0 _ T9.heap _ by rw [e9]; exact ⟨rfl, N9, K12⟩)
set_option maxRecDepth 65536 in
set_option maxHeartbeats 40000000 in
theorem comes_1 {Post : Tables → Env → Array Value → State → Outcome → State → Prop} (hpost : ∀ tb e args s v u, (limb_1_1.after args s (.returned v) u = true ∧ limb_1_2.after args s (.returned v) u = true ∧ True) → FrameEnd s (.returned v) u (Jvm.fieldLocs frame_1_writes args s ++ Jvm.arrayLocs frame_1_arrays args s ++ Jvm.staticLocs frame_1_statics s) 16 128 → Post tb e args s (.returned v) u) :
    ArmFor flags0 classFile x code maxLocals ret World_1 tables_1 room_1 Calls_1 rest_1 Pre_1 Post := by
  intro l hfl _ _ p e ha hc hk s m args below hf hA hF happ hP
  obtain ⟨hcalls, hrest, hpre⟩ := hP
  obtain ⟨-, -, -, hnamed, -, -, -, hat⟩ := (Spec.applies_iff hf).mp happ
  obtain ⟨hg, hn⟩ := and_e (Cond.before_iff.mp (show (Jvm.Cond.and given_1 narrow_1).before args s = true from hpre))
  obtain ⟨q1, q2⟩ := and_e hg
  obtain ⟨w0, w1, w2, rfl⟩ : ∃ w0 w1 w2 : Value, args = #[w0, w1, w2] := by
    have hs : args.size = 3 := by simpa [Cond.value, given_1] using q1
    obtain ⟨L⟩ := args
    match L, hs with
    | [w0, w1, w2], _ => exact ⟨w0, w1, w2, rfl⟩
  obtain ⟨q3, q4⟩ := and_e q2
  obtain ⟨q5, q6⟩ := and_e q4
  have hw := fun d (hd : d ∈ tables_1) => atoms_spec (ws := Jvm.Cond.code x code maxLocals ret :: tables_1) hat d (List.mem_cons_of_mem _ hd)
  have hfit : Fit s := fun {y c} hc i hi => by
    obtain ⟨ha, rfl⟩ := Array.getElem?_eq_some_iff.mp hc
    have q := List.all_eq_true.mp ((Array.all_eq_true_iff_forall_mem.mp hF) _ (Array.getElem_mem ha)) i (List.mem_range.mpr hi)
    simpa [Array.getElem?_eq_getElem hi] using q
  obtain ⟨i0, ei0⟩ := is_v q3
  obtain rfl : w0 = (.int i0) := Option.some.inj ei0
  obtain ⟨i1, ei1⟩ := is_v q5
  obtain rfl : w1 = (.int i1) := Option.some.inj ei1
  obtain ⟨i2, ei2⟩ := is_v q6
  obtain rfl : w2 = (.int i2) := Option.some.inj ei2
  obtain ⟨n, o, h1, h2, h3, _, L, rfl, ⟨rfl, N, -⟩, hq⟩ := rm0 l s _ hw tables_1 i0 i1 i2 s.heap s.heap.size (Nat.le_refl _) (Old.start s)  p e ha hc hk s m _ below hf ((Spec.applies_iff_loose hf).mp happ).1 ⟨rfl, State.Warmed39.refl s, rfl⟩ trivial
  refine ⟨n, _, h1, h2, h3, hpost _ _ _ _ _ _ ⟨Cond.after_iff.mpr rfl, Cond.after_iff.mpr (eq_i res_at (Term.int_eval (1)) rfl), trivial⟩ ⟨hq.1, hq.2.1, (hq.2.2.sift fun y hy => Or.inr (N y hy)).mono (by decide) (by decide)⟩⟩
theorem main_1_1 : Claimed_1_1 := comes_1 fun _ _ _ _ _ _ h hF => ⟨h.1, hF⟩
theorem main_1_2 : Claimed_1_2 := comes_1 fun _ _ _ _ _ _ h hF => ⟨h.2.1, hF⟩
end Jvm.Pilot.@@N@@
namespace Jvm.Pilot.@@N@@
open Jvm Jvm.ClassFile Sem Op Lib Jvm.Free Jvm.Stand Jvm.Pilot.@@N@@.Jvm.D
/-! MADE BY PROGRAM (witnessworld.py) out of the Statement's table words and the real class files: 10 classes; the members and pool entries that the words name. The judged class is class 1, her method 1. -/
namespace start1
open Jvm.ClassFile
def u (s : String) : CpInfo := .utf8 (stringToUtf16 s)
/-- a pool by its gaps: so many unusable entries, then the entry; so many at the end -/
def gap : Nat → List CpInfo → List CpInfo
  | 0, r => r
  | n + 1, r => .unusable :: gap n r
def poolList (es : List (Nat × CpInfo)) (last : Nat) : List CpInfo := es.foldr (fun e r => gap e.1 (e.2 :: r)) (gap last [])
def pool (es : List (Nat × CpInfo)) (last : Nat) : Array CpInfo := ⟨poolList es last⟩
def fileOf (pool : Array CpInfo) (this : Nat) (attrs : Array Attribute := #[]) (ms : Array MethodInfo := #[]) (fl : Nat := 33) (sup : Nat := 0) (ifs : Array Nat := #[]) (fds : Array FieldInfo := #[]) : ClassFile where
  minorVersion := 0
  majorVersion := 65
  constantPool := pool
  accessFlags := fl
  thisClass := this
  superClass := sup
  interfaces := ifs
  fields := fds
  methods := ms
  attributes := attrs
def plain (name : String) (sup : Option ClassId) : Class where
  name := name
  kind := .ordinary
  loader := none
  accessFlags := 33
  super := sup
  interfaces := #[]
  cf := none
  fields := #[]
  methods := #[]
  instanceTypes := #[]
  staticTypes := #[]
  resolved := #[]
  callSites := []
  init := .initialized
  statics := none
  mirror := none

def pool0 : Array CpInfo := pool [(5, u "<init>"), (0, u "()V"), (1, .class_ 10), (1, u "java/lang/Object")] 113

def k0c0 : Code := { maxStack := 0, maxLocals := 1, code := object_method_1_code, exceptionTable := #[], attributes := #[] }
def k0m0 : Method := { name := "<init>", desc := "()V", sig := { parameters := [], returnType := none }, accessFlags := 1, code := some k0c0 }
/-- java/lang/Object -/
def k0 : Class := { plain "java/lang/Object" none with
  accessFlags := 33
  interfaces := #[]
  cf := some (fileOf pool0 8 #[] #[{ accessFlags := 1, nameIndex := 5, descriptorIndex := 6, attributes := #[] }] 33 0 #[] #[])
  fields := #[]
  methods := #[k0m0]
  instanceTypes := #[]
  staticTypes := #[]
  resolved := Array.replicate 124 none
  statics := none }

def pool1 : Array CpInfo := pool [(2, .class_ 4), (1, u "java/lang/Object"), (0, u "<init>"), (0, u "()V"), (0, .class_ 8), (0, u "com/example/dags_over_clouds/dagsoverclouds/model/Cost"), (0, .methodref 7 10), (0, .nameAndType 5 11), (0, u "(DDD)V"), (0, .methodref 7 13), (0, .nameAndType 14 15), (0, u "total"), (0, u "()D"), (0, .class_ 17), (0, u "com/example/dags_over_clouds/dagsoverclouds/model/CostTotalPinLaw"), (2, u "law"), (0, u "(III)Z")] 3

def k1m0 : Method := { name := "<init>", desc := "()V", sig := { parameters := [], returnType := none }, accessFlags := 2, code := none }
def k1c1 : Code := { maxStack := 8, maxLocals := 12, code := code, exceptionTable := #[], attributes := #[] }
def k1m1 : Method := { name := "law", desc := "(III)Z", sig := { parameters := [.int, .int, .int], returnType := some .boolean }, accessFlags := 9, code := some k1c1 }
/-- com/example/dags_over_clouds/dagsoverclouds/model/CostTotalPinLaw -/
def k1 : Class := { plain "com/example/dags_over_clouds/dagsoverclouds/model/CostTotalPinLaw" (some 0) with
  accessFlags := 49
  interfaces := #[]
  cf := some (fileOf pool1 16 #[] #[{ accessFlags := 2, nameIndex := 5, descriptorIndex := 6, attributes := #[] }, { accessFlags := 9, nameIndex := 20, descriptorIndex := 21, attributes := #[] }] 49 2 #[] #[])
  fields := #[]
  methods := #[k1m0, k1m1]
  instanceTypes := #[]
  staticTypes := #[]
  resolved := Array.replicate 25 none
  statics := none }

def pool2 : Array CpInfo := pool [(1, .methodref 2 3), (0, .class_ 4), (0, .nameAndType 5 6), (0, u "java/lang/Object"), (0, u "<init>"), (0, u "()V"), (0, .class_ 8), (0, u "java/lang/Record")] 13

def k2c0 : Code := { maxStack := 1, maxLocals := 1, code := jdk_30_method_1_code, exceptionTable := #[], attributes := #[] }
def k2m0 : Method := { name := "<init>", desc := "()V", sig := { parameters := [], returnType := none }, accessFlags := 4, code := some k2c0 }
/-- java/lang/Record -/
def k2 : Class := { plain "java/lang/Record" (some 0) with
  accessFlags := 1057
  interfaces := #[]
  cf := some (fileOf pool2 7 #[] #[{ accessFlags := 4, nameIndex := 5, descriptorIndex := 6, attributes := #[] }] 1057 2 #[] #[])
  fields := #[]
  methods := #[k2m0]
  instanceTypes := #[]
  staticTypes := #[]
  resolved := Array.replicate 22 none
  statics := none }

def pool3 : Array CpInfo := pool [(1, .methodref 2 3), (0, .class_ 4), (0, .nameAndType 5 6), (0, u "java/lang/Record"), (0, u "<init>"), (0, u "()V"), (0, .fieldref 8 9), (0, .class_ 10), (0, .nameAndType 11 12), (0, u "com/example/dags_over_clouds/dagsoverclouds/model/Cost"), (0, u "storage"), (0, u "D"), (0, .fieldref 8 14), (0, .nameAndType 15 12), (0, u "transfer"), (0, .fieldref 8 17), (0, .nameAndType 18 12), (0, u "cpu"), (11, u "total"), (0, u "()D"), (176, u "(DDD)V")] 53

def k3c0 : Code := { maxStack := 3, maxLocals := 7, code := prog_16_method_1_code, exceptionTable := #[], attributes := #[] }
def k3m0 : Method := { name := "<init>", desc := "(DDD)V", sig := { parameters := [.double, .double, .double], returnType := none }, accessFlags := 1, code := some k3c0 }
def k3c1 : Code := { maxStack := 4, maxLocals := 1, code := prog_16_method_9_code, exceptionTable := #[], attributes := #[] }
def k3m1 : Method := { name := "total", desc := "()D", sig := { parameters := [], returnType := some .double }, accessFlags := 1, code := some k3c1 }
/-- com/example/dags_over_clouds/dagsoverclouds/model/Cost -/
def k3 : Class := { plain "com/example/dags_over_clouds/dagsoverclouds/model/Cost" (some 2) with
  accessFlags := 49
  interfaces := #[]
  cf := some (fileOf pool3 8 #[] #[{ accessFlags := 1, nameIndex := 5, descriptorIndex := 208, attributes := #[] }, { accessFlags := 1, nameIndex := 30, descriptorIndex := 31, attributes := #[] }] 49 2 #[] #[{ accessFlags := 18, nameIndex := 11, descriptorIndex := 12, attributes := #[] }, { accessFlags := 18, nameIndex := 15, descriptorIndex := 12, attributes := #[] }, { accessFlags := 18, nameIndex := 18, descriptorIndex := 12, attributes := #[] }])
  fields := #[{ name := "storage", type := .double, accessFlags := 18, slot := 0, constantValue := 0 }, { name := "transfer", type := .double, accessFlags := 18, slot := 1, constantValue := 0 }, { name := "cpu", type := .double, accessFlags := 18, slot := 2, constantValue := 0 }]
  methods := #[k3m0, k3m1]
  instanceTypes := #[.double, .double, .double]
  staticTypes := #[]
  resolved := Array.replicate 262 none
  statics := none }

def pool4 : Array CpInfo := pool [(1, u "java/lang/Cloneable"), (0, .class_ 1), (0, u "java/lang/Object"), (0, .class_ 3)] 3

/-- java/lang/Cloneable -/
def k4 : Class := { plain "java/lang/Cloneable" (some 0) with
  accessFlags := 1537
  interfaces := #[]
  cf := some (fileOf pool4 2 #[] #[] 1537 4 #[] #[])
  fields := #[]
  methods := #[]
  instanceTypes := #[]
  staticTypes := #[]
  resolved := Array.replicate 8 none
  statics := none }

def pool5 : Array CpInfo := pool [(1, u "java/io/Serializable"), (0, .class_ 1), (0, u "java/lang/Object"), (0, .class_ 3)] 3

/-- java/io/Serializable -/
def k5 : Class := { plain "java/io/Serializable" (some 0) with
  accessFlags := 1537
  interfaces := #[]
  cf := some (fileOf pool5 2 #[] #[] 1537 4 #[] #[])
  fields := #[]
  methods := #[]
  instanceTypes := #[]
  staticTypes := #[]
  resolved := Array.replicate 8 none
  statics := none }

/-- the primitive byte -/
def k6 : Class := { plain "byte" none with kind := .primitive 'B', accessFlags := 0x411 }
/-- [B -/
def k7 : Class := { plain "[B" (some 0) with kind := .array 6 .byte, interfaces := #[4, 5], accessFlags := 1041 }

/-- the primitive int -/
def k8 : Class := { plain "int" none with kind := .primitive 'I', accessFlags := 0x411 }
/-- [I -/
def k9 : Class := { plain "[I" (some 0) with kind := .array 8 .int, interfaces := #[4, 5], accessFlags := 1041 }

def heap : Heap := #[]
def classes : Array Class := #[k0, k1, k2, k3, k4, k5, k6, k7, k8, k9]
def interned : List (Array UInt16 × Addr) := []
def slotsUsed : Nat := 0
def theMethod : MethodId := ⟨1, 1⟩
def args0 : Array Value := #[.int 5, .int 7, .int 3]
def aboutOver (below : List Frame) : State where
  vm := { classes := classes, interned := interned.toArray }
  heap := heap
  slotsUsed := slotsUsed
  threads := #[{ frames := .invoking theMethod args0 :: below }]
def below0 : List Frame := [.native { method := ⟨0, 0⟩, args := #[] }]
def about1 : State := aboutOver below0
def p0 : Program := .bare "" "" ""
def e0 : Env := launch0.env 0 0 0
theorem w_frames : about1.frames = Frame.invoking theMethod args0 :: below0 := rfl
set_option maxRecDepth 65536 in
theorem w_args : argsFit about1.vm theMethod args0 = true := by decide +kernel
set_option maxRecDepth 65536 in
theorem w_heap : heapFits about1 = true := by decide +kernel
set_option maxRecDepth 65536 in
theorem w_runnable : about1.curStatus? = some .runnable := by decide +kernel
set_option maxRecDepth 65536 in
theorem w_alone : about1.alone = true := by decide +kernel
set_option maxRecDepth 65536 in
theorem w_named : about1.methodNamed? x = some theMethod := by decide +kernel
set_option maxRecDepth 65536 in
theorem w_hears : about1.hears theMethod below0 = true := by decide +kernel
set_option maxRecDepth 65536 in
theorem w_ripe : about1.ripe theMethod args0 below0 = true := by decide +kernel
theorem w_running : about1.status = .running := rfl
set_option maxRecDepth 65536 in
theorem w_room : about1.hasRoom e0.platform room_1 = true :=
  launch0.hasRoom_least _ room_1 (by decide +kernel) (by decide +kernel) (by decide +kernel) (by decide +kernel) (by decide +kernel) (by decide +kernel)
theorem allAtoms_all (ts : List Jvm.Cond) (a : Array Jvm.Value) (st : Jvm.State) : (allAtoms ts).before a st = ts.all (fun c => c.before a st) := by
  induction ts with
  | nil => rfl
  | cons c t ih =>
    show (Jvm.Cond.and c (allAtoms t)).before a st = _
    rw [Jvm.Cond.before_and, ih, List.all_cons]
def words1 : List Jvm.Cond := Jvm.Cond.code x code maxLocals ret :: tables_1
/-- a 'code' word, met by the world's own term for the bytes: nothing is compared byte by byte -/
theorem code_word {y : MethodName} {bytes : ByteArray} {mx : Nat} {rt : Option FieldType} {a : Array Value} {s : State} {m : MethodId} {meth : Method} {c : Code} (h1 : s.methodNamed? y = some m) (h2 : s.vm.method? m = some meth) (h3 : meth.code = some c) (h4 : c.code = bytes)
    (h5 : (c.maxLocals == mx && c.exceptionTable.isEmpty && decide (c.maxStack ≤ mostOperands) && decide (meth.sig.returnType = rt) && !meth.locks && decide (parseMethodDescriptor y.desc = some meth.sig)) = true) : (Jvm.Cond.code y bytes mx rt).before a s = true := by
  simp only [Bool.and_eq_true, beq_iff_eq, Bool.not_eq_true', decide_eq_true_eq] at h5
  obtain ⟨⟨⟨⟨⟨g1, g2⟩, g3⟩, g4⟩, g5⟩, g6⟩ := h5
  simp [Cond.before, Cond.holds, Cond.value, h1, h2, h3, h4, g1, g2, g3, g4, g5, g6]
def isCode : Jvm.Cond → Bool
  | .code _ _ _ _ => true
  | _ => false
theorem all_split {L : List Jvm.Cond} {P : Jvm.Cond → Bool} (h1 : L.all (fun c => isCode c || P c) = true) (h2 : ∀ c ∈ L.filter isCode, P c = true) : L.all P = true := by
  refine List.all_eq_true.mpr fun c hc => ?_
  have h := List.all_eq_true.mp h1 c hc
  rcases Bool.eq_false_or_eq_true (isCode c) with hi | hi
  · exact h2 c (List.mem_filter.mpr ⟨hc, hi⟩)
  · simpa [hi] using h
set_option maxRecDepth 65536 in
theorem w_c0 : (Jvm.Cond.code x code maxLocals ret).before args0 about1 = true := code_word (m := ⟨1, 1⟩) (meth := k1m1) (c := k1c1) (by decide +kernel) rfl rfl rfl (by decide +kernel)
set_option maxRecDepth 65536 in
theorem w_c1 : (Jvm.Cond.code ({ cls := "com/example/dags_over_clouds/dagsoverclouds/model/Cost", name := "<init>", desc := "(DDD)V" } : Jvm.MethodName) prog_16_method_1_code (7 : Nat) (Option.none : Option Jvm.ClassFile.FieldType)).before args0 about1 = true := code_word (m := ⟨3, 0⟩) (meth := k3m0) (c := k3c0) (by decide +kernel) rfl rfl rfl (by decide +kernel)
set_option maxRecDepth 65536 in
theorem w_c2 : (Jvm.Cond.code ({ cls := "java/lang/Record", name := "<init>", desc := "()V" } : Jvm.MethodName) jdk_30_method_1_code (1 : Nat) (Option.none : Option Jvm.ClassFile.FieldType)).before args0 about1 = true := code_word (m := ⟨2, 0⟩) (meth := k2m0) (c := k2c0) (by decide +kernel) rfl rfl rfl (by decide +kernel)
set_option maxRecDepth 65536 in
theorem w_c3 : (Jvm.Cond.code ({ cls := "java/lang/Object", name := "<init>", desc := "()V" } : Jvm.MethodName) object_method_1_code (1 : Nat) (Option.none : Option Jvm.ClassFile.FieldType)).before args0 about1 = true := code_word (m := ⟨0, 0⟩) (meth := k0m0) (c := k0c0) (by decide +kernel) rfl rfl rfl (by decide +kernel)
set_option maxRecDepth 65536 in
theorem w_c4 : (Jvm.Cond.code ({ cls := "com/example/dags_over_clouds/dagsoverclouds/model/Cost", name := "total", desc := "()D" } : Jvm.MethodName) prog_16_method_9_code (1 : Nat) (Option.some Jvm.ClassFile.FieldType.double)).before args0 about1 = true := code_word (m := ⟨3, 1⟩) (meth := k3m1) (c := k3c1) (by decide +kernel) rfl rfl rfl (by decide +kernel)
def codes1 : List Jvm.Cond := [Jvm.Cond.code x code maxLocals ret, Jvm.Cond.code ({ cls := "com/example/dags_over_clouds/dagsoverclouds/model/Cost", name := "<init>", desc := "(DDD)V" } : Jvm.MethodName) prog_16_method_1_code (7 : Nat) (Option.none : Option Jvm.ClassFile.FieldType), Jvm.Cond.code ({ cls := "java/lang/Record", name := "<init>", desc := "()V" } : Jvm.MethodName) jdk_30_method_1_code (1 : Nat) (Option.none : Option Jvm.ClassFile.FieldType), Jvm.Cond.code ({ cls := "java/lang/Object", name := "<init>", desc := "()V" } : Jvm.MethodName) object_method_1_code (1 : Nat) (Option.none : Option Jvm.ClassFile.FieldType), Jvm.Cond.code ({ cls := "com/example/dags_over_clouds/dagsoverclouds/model/Cost", name := "total", desc := "()D" } : Jvm.MethodName) prog_16_method_9_code (1 : Nat) (Option.some Jvm.ClassFile.FieldType.double)]
set_option maxRecDepth 65536 in
theorem codes_eq : words1.filter isCode = codes1 := rfl
theorem w_codes : ∀ c ∈ words1.filter isCode, c.before args0 about1 = true := by
  rw [codes_eq]
  intro c hc
  simp only [codes1, List.mem_cons, List.not_mem_nil, or_false] at hc
  rcases hc with rfl | rfl | rfl | rfl | rfl
  · exact w_c0
  · exact w_c1
  · exact w_c2
  · exact w_c3
  · exact w_c4
set_option maxRecDepth 65536 in
theorem w_t1 : (words1.take 24).all (fun c => isCode c || c.before args0 about1) = true := by decide +kernel
set_option maxRecDepth 65536 in
theorem w_t2 : (words1.drop 24).all (fun c => isCode c || c.before args0 about1) = true := by decide +kernel
theorem w_tables : (allAtoms (Jvm.Cond.code x code maxLocals ret :: tables_1)).before args0 about1 = true := by
  rw [allAtoms_all]
  show words1.all (fun c => c.before args0 about1) = true
  refine all_split ?_ w_codes
  rw [← List.take_append_drop 24 words1, List.all_append, w_t1, w_t2]
  rfl
set_option maxRecDepth 65536 in
theorem w_case : (Jvm.Cond.and given_1 narrow_1).before args0 about1 = true := by decide +kernel
theorem w_applies : (headSpec (Jvm.Cond.code x code maxLocals ret :: tables_1) room_1).applies x e0.platform about1 = true :=
  (Spec.applies_iff w_frames).mpr ⟨w_running, w_runnable, w_alone, w_named, w_hears, w_ripe, w_room, w_tables⟩
theorem atStart : AtStart classFile x code maxLocals ret World_1 tables_1 room_1 Calls_1 rest_1 Pre_1 launch0 p0 e0 about1 theMethod args0 below0 :=
  ⟨lists_1, trivial, launch0.admits_env _ _ _, launch0.least_env, fairChoices_fair.cas, fairChoices_fair.clock, w_frames, w_args, w_heap, w_applies, trivial, trivial, w_case⟩
end start1
theorem witness_1 : WitnessClaimed_1 := ⟨start1.p0, start1.e0, start1.about1, start1.theMethod, start1.args0, start1.below0, start1.atStart⟩
end Jvm.Pilot.@@N@@
