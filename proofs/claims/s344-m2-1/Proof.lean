import JvmDerived
import JvmDerived.Pilot.@@N@@Statement
import JvmDerived.Pilot.@@N@@Code
set_option linter.unusedVariables false
set_option linter.unusedSimpArgs false
namespace Jvm.RoadKit
open Sem ClassFile Op Lib Jvm.Stand Jvm.Free Jvm.LawKit
section New
variable {p : Program} {l : Launch} {e : Env} {R : Room} {s : State} {m : MethodId} {args : Array Value} {below : List Frame} {meth : Method} {c : Code} {T : State} {locs : List Loc} {cells slots : Nat}
theorem retI (X : Stand p l e R s m args below meth c T locs cells slots) (hx : p.tables.exec = Jvm.exec) {pc : Nat} {Ls : Array Slot} {z : Int32} {rest : List Value} (hret : meth.sig.returnType = some .int) (hd : decode c.code pc = .ok (.ireturn, 1)) {fs : List Frame}
    (hl : ∀ (f : JFrame) (acts : List Action), f.method = m → f.locked = none → f.entered = [] → (doReturn e (T.setTop f) acts (some (.int z))).1 = T.setFrames fs) : Steps p.tables e below (T.setTop (mkF m pc Ls (.int z :: rest))) (T.setFrames fs) := by
  have hm' : T.vm.method? m = some meth := X.method'
  have hn : narrow .int (.int z) = .int z := rfl
  show Steps p.tables e below (T.setTop { method := m, pc := pc, locals := Ls, stack := _ :: rest, locked := none }) _
  jvm_step X.here [X.here.top, hx, hd, hm', hret, hn]
  first | (intro acts; rw [hl _ acts rfl rfl rfl]) | rw [hl _ _ rfl rfl rfl]
  exact Steps.refl _
end New
end Jvm.RoadKit
namespace Jvm.Pilot.@@N@@
open Jvm Jvm.ClassFile Sem Op Lib Jvm.Free Jvm.Stand Jvm.LawKit Jvm.RoadKit Bundle Jvm.Pilot.@@N@@.Jvm.D
section Own
variable {p : Program} {l : Launch} {e : Env} {R : Room} {s : State} {m : MethodId} {args : Array Value} {below : List Frame} {meth : Method} {c : Code} {T : State} {locs : List Loc} {cells slots : Nat}
/-- from here the method ends as Post says -/
def Wp (p : Program) (e : Env) (below : List Frame) (Post : Outcome → State → Prop) (S : State) : Prop := ∃ s₂ o, Steps p.tables e below S s₂ ∧ s₂.status = .running ∧ Ended s₂ below o ∧ Post o s₂
theorem Wp.goal {Post : Outcome → State → Prop} {S : State} (w : Wp p e below Post S) : ∃ s₂ o, Steps p.tables e below S s₂ ∧ s₂.status = .running ∧ Ended s₂ below o ∧ Post o s₂ := w
theorem Wp.st {Post : Outcome → State → Prop} {S S' : State} (h : ∀ t, Steps p.tables e below S' t → Steps p.tables e below S t) (w : Wp p e below Post S') : Wp p e below Post S := by
  obtain ⟨t, o, h1, h2⟩ := w
  exact ⟨t, o, h t h1, h2⟩
theorem Wp.tr {Post : Outcome → State → Prop} {S S' : State} (h : Steps p.tables e below S S') (w : Wp p e below Post S') : Wp p e below Post S := by
  obtain ⟨t, o, h1, h2⟩ := w
  exact ⟨t, o, h.trans h1, h2⟩
theorem Wp.ret (X : Stand p l e R s m args below meth c T locs cells slots) (hlk : meth.locks = false) {v : Option Value} (hv : meth.sig.returnType = none → v = none) {g : JFrame}
    (hst : ∀ fs, (∀ (f : JFrame) (acts : List Action), f.method = m → f.locked = none → f.entered = [] → (doReturn e (T.setTop f) acts v).1 = T.setFrames fs) → Steps p.tables e below (T.setTop g) (T.setFrames fs))
    {Q : Option Value → Heap → List Loc → Prop} {k n : Nat} (hk : cells ≤ k) (hn : slots ≤ n) (q : Q v T.heap locs) :
    Wp p e below (fun o U' => ∃ v L, o = .returned v ∧ Q v U'.heap L ∧ FrameEnd s o U' L k n) (T.setTop g) := by
  obtain ⟨fs, hr, hrun, hended, hW, hsame⟩ := X.leave (v := v) hv
  exact ⟨_, _, hst fs hr, hrun, hended, v, locs, rfl, q, ⟨v, rfl⟩, hW, hsame.mono hk hn⟩
theorem Wp.retW {vm₁ : Vm} (X : Stand p l e R (s.setVm vm₁) m args below meth c T locs cells slots) (hlk : meth.locks = false) {k0 : Nat} (hS : s.Since vm₁ k0) (hk0 : k0 ≤ T.heap.size) {v : Option Value} (hv : meth.sig.returnType = none → v = none) {g : JFrame}
    (hst : ∀ fs, (∀ (f : JFrame) (acts : List Action), f.method = m → f.locked = none → f.entered = [] → (doReturn e (T.setTop f) acts v).1 = T.setFrames fs) → Steps p.tables e below (T.setTop g) (T.setFrames fs))
    {Q : Option Value → Heap → List Loc → Prop} {k n : Nat} (hk : cells ≤ k) (hn : slots ≤ n) (q : Q v T.heap locs) :
    Wp p e below (fun o U' => ∃ v L, o = .returned v ∧ Q v U'.heap L ∧ ReturnedEndW s o U' L k n) (T.setTop g) := by
  obtain ⟨fs, hr, hrun, hended, ⟨h1, h2, h3, h4⟩⟩ := X.leaveW hS hk0 (v := v) hv
  exact ⟨_, _, hst fs hr, hrun, hended, v, locs, rfl, q, h1, h2, h3, h4.mono hk hn⟩
theorem Wp.retH {vm₁ : Vm} (X : Stand p l e R (s.setVm vm₁) m args below meth c T locs cells slots) (hlk : meth.locks = false) {k0 : Nat} (hS : s.Since vm₁ k0) (hk0 : k0 ≤ T.heap.size) {v : Option Value} (hv : meth.sig.returnType = none → v = none) {g : JFrame}
    (hst : ∀ fs, (∀ (f : JFrame) (acts : List Action), f.method = m → f.locked = none → f.entered = [] → (doReturn e (T.setTop f) acts v).1 = T.setFrames fs) → Steps p.tables e below (T.setTop g) (T.setFrames fs))
    {Q : Option Value → Heap → List Loc → Prop} {Z : State} {EL : List (String × Nat)} {k n : Nat} (hk : cells ≤ k) (hn : slots ≤ n) (q : Q v T.heap locs) (cr : CHr Z EL s.vm s.heap T.vm T.heap) :
    Wp p e below (fun o U' => ∃ v L, o = .returned v ∧ Q v U'.heap L ∧ CHr Z EL s.vm s.heap U'.vm U'.heap ∧ ReturnedEndW s o U' L k n) (T.setTop g) := by
  obtain ⟨fs, hr, hrun, hended, ⟨h1, h2, h3, h4⟩⟩ := X.leaveW hS hk0 (v := v) hv
  exact ⟨_, _, hst fs hr, hrun, hended, v, locs, rfl, q, cr, h1, h2, h3, h4.mono hk hn⟩
theorem own_narZ {q : Int32} (h : nar .boolean q = q) : narrow .boolean (.int q) = .int q := by show Value.int (nar .boolean q) = _; rw [h]
theorem own_fitZ {q : Int32} (h : nar .boolean q = q) : fits .boolean (.int q) = true := by rw [← h]; exact fits_nar_bool q
theorem own_nn {v : Value} (h : v.isRef = true) (h' : ¬ v = .null) : ∃ a, v = .ref a := (ref_cases h).resolve_left h'
theorem own_fits {v : Value} {C : String} (h : v.isRef = true) : fits (.object C) v = true := by rcases ref_cases h with rfl | ⟨a, rfl⟩ <;> rfl
theorem own_narrow {v : Value} {C : String} (h : v.isRef = true) : narrow (.object C) v = v := by rcases ref_cases h with rfl | ⟨a, rfl⟩ <;> rfl
end Own
theorem own_dv (n : Int64) : Jvm.Free.Fl.Fin64 (FP.ddiv (FP.l2d n) (4696837146684686336 : UInt64)) :=
  (ddiv_mag (K := 1088) (L := 1042) (Jvm.Free.Fl.l2d_mag n) ⟨by decide, by decide⟩ (by decide) (by decide)).fin (by decide)
theorem own_ms {d : UInt64} (h : Jvm.Free.Fl.NoNaN64 d) (n : Int64) : Jvm.Free.Fl.NoNaN64 (FP.dadd d (FP.ddiv (FP.l2d n) (4696837146684686336 : UInt64))) := Jvm.Free.Fl.dadd_out h (own_dv n)
theorem own_zero : Jvm.Free.Fl.NoNaN64 (0 : UInt64) := by unfold Jvm.Free.Fl.NoNaN64; decide
theorem own_one : FP.l2d ((0 : Int64) + (1 : Int64)) = FP.Core.dconst1 := by decide +kernel
theorem own_div1 {x : UInt64} (h : Jvm.Free.Fl.NoNaN64 x) : FP.ddiv x (FP.l2d ((0 : Int64) + (1 : Int64))) = x := by
  rw [own_one]; exact FP.Core.ddiv_one (Jvm.Free.Fl.val64_no.mp h)
theorem own_mean {x : UInt64} (h : Jvm.Free.Fl.NoNaN64 x) (h2 : Jvm.Free.Fl.NoNaN64 (FP.dadd (0 : UInt64) x)) : cmpValue (FP.dcmp (FP.ddiv (FP.dadd (0 : UInt64) x) (FP.l2d ((0 : Int64) + (1 : Int64)))) x) .l = 0 := by
  rw [own_div1 h2]
  by_cases q : x = FP.Core.dzeroNeg
  · subst q; decide +kernel
  · have e : FP.dadd (0 : UInt64) x = x := (FP.Core.dadd_comm _ _).trans (FP.Core.dadd_zero (Jvm.Free.Fl.val64_no.mp h) q)
    rw [e]; exact dcmpV_self h .l
theorem pn_1 : plainName "com/example/headroom/headroom/service/PeriodMeter" = true := by first | (simp [plainName, overriddenIn]; done) | decide +kernel
theorem d1_0 : decode prog_45_method_1_code 0 = .ok (.aload_n 0, 1) := by decide +kernel
theorem d1_1 : decode prog_45_method_1_code 1 = .ok (.invokespecial 1, 3) := by decide +kernel
theorem d1_4 : decode prog_45_method_1_code 4 = .ok (.return_, 1) := by decide +kernel
theorem ef_rm1 (m : MethodId) (a1 : Addr) : entryFrame m #[(.ref a1)] 1 = mkF m 0 #[.val (.ref a1)] [] := by first | (simp [entryFrame, mkF, argsToLocals, Value.category]; done) | rfl
def Q_rm1 (Z : State) (a1 : Addr) (h0 : Heap) (n0 : Nat) (v : Option Value) (h : Heap) (L : List Loc) : Prop := (v = none) ∧ (Fr n0 L) ∧ (h = h0)
set_option maxRecDepth 65536 in
set_option maxHeartbeats 40000000 in
theorem rm1 (l : Launch) (Z : State) (a0 : Array Value) (hw : ∀ d ∈ tables_1, d.before a0 Z = true) (ws : List Jvm.Cond) (a1 : Addr) (h0 : Heap) (n0 : Nat) (Z0 : n0 ≤ h0.size)  :
    MetFree l (⟨"com/example/headroom/headroom/service/PeriodMeter", "<init>", "()V"⟩ : MethodName) (head1 (Jvm.Cond.code (⟨"com/example/headroom/headroom/service/PeriodMeter", "<init>", "()V"⟩ : MethodName) prog_45_method_1_code 1 none :: ws) ({ frames := 1, cells := 0, slots := 0, locals := 12 } : Room)) (fun a U => a = #[(.ref a1)] ∧ Z.Warmed39 U.vm ∧ U.heap = h0) (fun _ _ _ _ _ => True) (fun _ U o U' => ∃ v L, o = .returned v ∧ Q_rm1 Z a1 h0 n0 v U'.heap L ∧ FrameEnd U o U' L ({ frames := 1, cells := 0, slots := 0, locals := 12 } : Room).cells ({ frames := 1, cells := 0, slots := 0, locals := 12 } : Room).slots) := by
  refine MetFree.of_bodySF (plainFor_of_name pn_1) hisR ?_
  intro p e s m args below meth c s₁ Bd hml0 hP hK
  obtain ⟨rfl, hZ, hh⟩ := hP
  have hx := Bd.exec
  have hby := Bd.bytes
  have hml : c.maxLocals = 1 := hml0
  have hown : s.vm.findClass "com/example/headroom/headroom/service/PeriodMeter" = some m.cls := findClass_of_methodNamed Bd.named
  have hnm := (name_of_methodNamed Bd.named Bd.method).1
  have hlk := Bd.notSynchronized
  have X0 : Stand p l e ({ frames := 1, cells := 0, slots := 0, locals := 12 } : Room) s m #[(.ref a1)] below meth c s₁ [] 0 0 := Stand.of_body Bd
  have e0 : s₁.heap = h0 := by rw [← hh, Bd.state]; rfl
  have N0 := Fr.nil n0
  refine Wp.goal (Post := (fun o U' => ∃ v L, o = .returned v ∧ Q_rm1 Z a1 h0 n0 v U'.heap L ∧ FrameEnd s o U' L ({ frames := 1, cells := 0, slots := 0, locals := 12 } : Room).cells ({ frames := 1, cells := 0, slots := 0, locals := 12 } : Room).slots)) (Wp.st (S' := s₁.setTop (mkF m 0 #[.val (.ref a1)] [])) (fun tt_ kk_ => castTop (ef_rm1 m a1 ) kk_) ?_)
  refine Wp.st (S' := s₁.setTop (mkF m 1 #[.val (.ref a1)] [(.ref a1)])) (fun tt_ kk_ => XS.aloadN X0.here hx rfl (hb hby d1_0) rfl rfl kk_) ?_
  obtain ⟨T1, X1, e1, st1⟩ := initO X0 hx hZ hown (hw _ (List.mem_of_getElem? (i := 6) rfl)) (hw _ (List.mem_of_getElem? (i := 7) rfl)) (hw _ (List.mem_of_getElem? (i := 8) rfl)) e0 (g := (mkF m 1 #[.val (.ref a1)] [(.ref a1)])) rfl (by rw [hml]; rfl) rfl (hb hby d1_1) (by decide) (W := 0) (by show 2 * 0 + _ ≤ _; exact Nat.le_of_eq rfl) (by decide)
  refine Wp.st (S' := T1.setTop (mkF m 4 #[.val (.ref a1)] [])) st1 ?_
  exact Wp.ret X1 hlk (v := none) (fun _ => rfl) (fun fs hr => X1.returnOut hx Bd.returns (hb hby d1_4) hr) (by decide) (by decide) (show Q_rm1 Z a1 h0 n0 _ T1.heap _ by rw [e1]; exact ⟨rfl, N0, rfl⟩)
theorem pn_5 : plainName "com/example/headroom/headroom/service/PeriodMeter" = true := by first | (simp [plainName, overriddenIn]; done) | decide +kernel
theorem d5_0 : decode prog_45_method_5_code 0 = .ok (.aload_n 0, 1) := by decide +kernel
theorem d5_1 : decode prog_45_method_5_code 1 = .ok (.getfield 13, 3) := by decide +kernel
theorem d5_4 : decode prog_45_method_5_code 4 = .ok (.lconst 0, 1) := by decide +kernel
theorem d5_5 : decode prog_45_method_5_code 5 = .ok (.lcmp, 1) := by decide +kernel
theorem d5_6 : decode prog_45_method_5_code 6 = .ok (.ifCond .le 7, 3) := by decide +kernel
theorem d5_9 : decode prog_45_method_5_code 9 = .ok (.iconst 1, 1) := by decide +kernel
theorem d5_10 : decode prog_45_method_5_code 10 = .ok (.goto 4, 3) := by decide +kernel
theorem d5_14 : decode prog_45_method_5_code 14 = .ok (.ireturn, 1) := by decide +kernel
theorem d5_13 : decode prog_45_method_5_code 13 = .ok (.iconst 0, 1) := by decide +kernel
theorem ef_rm5 (m : MethodId) (a1 : Addr) : entryFrame m #[(.ref a1)] 1 = mkF m 0 #[.val (.ref a1)] [] := by first | (simp [entryFrame, mkF, argsToLocals, Value.category]; done) | rfl
def Q_rm5 (Z : State) (a1 : Addr) (k : Int64) (h0 : Heap) (n0 : Nat) (v : Option Value) (h : Heap) (L : List Loc) : Prop := (v = some (.int (if (0 : Int64) < k then (1 : Int32) else (0 : Int32)))) ∧ (Fr n0 L) ∧ (h = h0)
set_option maxRecDepth 65536 in
set_option maxHeartbeats 40000000 in
theorem rm5 (l : Launch) (Z : State) (a0 : Array Value) (hw : ∀ d ∈ tables_1, d.before a0 Z = true) (ws : List Jvm.Cond) (a1 : Addr) (k : Int64) (h0 : Heap) (n0 : Nat) (Z0 : n0 ≤ h0.size) (P0 : Fld Z h0 a1 "com/example/headroom/headroom/service/PeriodMeter" "served" "J" (.long k)) :
    MetFree l (⟨"com/example/headroom/headroom/service/PeriodMeter", "hasServed", "()Z"⟩ : MethodName) (head1 (Jvm.Cond.code (⟨"com/example/headroom/headroom/service/PeriodMeter", "hasServed", "()Z"⟩ : MethodName) prog_45_method_5_code 1 (some .boolean) :: ws) ({ frames := 0, cells := 0, slots := 0, locals := 0 } : Room)) (fun a U => a = #[(.ref a1)] ∧ Z.Warmed39 U.vm ∧ U.heap = h0) (fun _ _ _ _ _ => True) (fun _ U o U' => ∃ v L, o = .returned v ∧ Q_rm5 Z a1 k h0 n0 v U'.heap L ∧ FrameEnd U o U' L ({ frames := 0, cells := 0, slots := 0, locals := 0 } : Room).cells ({ frames := 0, cells := 0, slots := 0, locals := 0 } : Room).slots) := by
  refine MetFree.of_bodySF (plainFor_of_name pn_5) hisR ?_
  intro p e s m args below meth c s₁ Bd hml0 hP hK
  obtain ⟨rfl, hZ, hh⟩ := hP
  have hx := Bd.exec
  have hby := Bd.bytes
  have hml : c.maxLocals = 1 := hml0
  have hown : s.vm.findClass "com/example/headroom/headroom/service/PeriodMeter" = some m.cls := findClass_of_methodNamed Bd.named
  have hnm := (name_of_methodNamed Bd.named Bd.method).1
  have hlk := Bd.notSynchronized
  have X0 : Stand p l e ({ frames := 0, cells := 0, slots := 0, locals := 0 } : Room) s m #[(.ref a1)] below meth c s₁ [] 0 0 := Stand.of_body Bd
  have e0 : s₁.heap = h0 := by rw [← hh, Bd.state]; rfl
  have N0 := Fr.nil n0
  refine Wp.goal (Post := (fun o U' => ∃ v L, o = .returned v ∧ Q_rm5 Z a1 k h0 n0 v U'.heap L ∧ FrameEnd s o U' L ({ frames := 0, cells := 0, slots := 0, locals := 0 } : Room).cells ({ frames := 0, cells := 0, slots := 0, locals := 0 } : Room).slots)) (Wp.st (S' := s₁.setTop (mkF m 0 #[.val (.ref a1)] [])) (fun tt_ kk_ => castTop (ef_rm5 m a1 ) kk_) ?_)
  refine Wp.st (S' := s₁.setTop (mkF m 1 #[.val (.ref a1)] [(.ref a1)])) (fun tt_ kk_ => XS.aloadN X0.here hx rfl (hb hby d5_0) rfl rfl kk_) ?_
  obtain ⟨T1, X1, e1, st1⟩ := getF X0 hx hZ hown (host := "") (Or.inl (hw _ (List.mem_of_getElem? (i := 16) rfl))) Via.refl e0 P0 (g := (mkF m 1 #[.val (.ref a1)] [(.ref a1)])) rfl rfl (hb hby d5_1)
  refine Wp.st (S' := T1.setTop (mkF m 4 #[.val (.ref a1)] [(.long k)])) st1 ?_
  refine Wp.st (S' := T1.setTop (mkF m 5 #[.val (.ref a1)] [(.long (0 : Int64)), (.long k)])) (fun tt_ kk_ => XS.lconst X1.here hx rfl (hb hby d5_4) kk_) ?_
  refine Wp.st (S' := T1.setTop (mkF m 6 #[.val (.ref a1)] [(.int (lcmpW k (0 : Int64)))])) (fun tt_ kk_ => XS.lcmp X1.here hx rfl (hb hby d5_5) rfl kk_) ?_
  by_cases h : (0 : Int32) < (lcmpW k (0 : Int64))
  case pos =>
    refine Wp.st (S' := T1.setTop (mkF m 9 #[.val (.ref a1)] [])) (fun tt_ kk_ => XS.ifNo X1.here hx rfl (hb hby d5_6) rfl ((if0 _ _).trans (tlt (h : (0 : Int32) < (lcmpW k (0 : Int64)))).2.2.2) kk_) ?_
    refine Wp.st (S' := T1.setTop (mkF m 10 #[.val (.ref a1)] [(.int (1 : Int32))])) (fun tt_ kk_ => XS.iconst X1.here hx rfl (hb hby d5_9) kk_) ?_
    refine Wp.st (S' := T1.setTop (mkF m 14 #[.val (.ref a1)] [(.int (1 : Int32))])) (fun tt_ kk_ => XS.goto X1.here hx rfl (pc0 := 10) (pc' := 14) rfl (hb hby d5_10) (by decide) (by decide) kk_) ?_
    exact Wp.ret X1 hlk (v := (some (.int (1 : Int32)))) (fun h => by rw [Bd.returns] at h; cases h) (fun fs hr => retN (z := (1 : Int32)) X1 hx (t := .boolean) Bd.returns (by simp) (hb hby d5_14) hr) (by decide) (by decide) (show Q_rm5 Z a1 k h0 n0 _ T1.heap _ by rw [e1]; exact ⟨(by rw [if_pos ((lw_gt _ _).mp h)]), N0, rfl⟩)
  case neg =>
    refine Wp.st (S' := T1.setTop (mkF m 13 #[.val (.ref a1)] [])) (fun tt_ kk_ => XS.ifYes X1.here hx rfl (pc0 := 6) (pc' := 13) rfl (hb hby d5_6) rfl ((if0 _ _).trans (flt (h : ¬ ((0 : Int32) < (lcmpW k (0 : Int64))))).2.2.2) (by decide) (by decide) kk_) ?_
    refine Wp.st (S' := T1.setTop (mkF m 14 #[.val (.ref a1)] [(.int (0 : Int32))])) (fun tt_ kk_ => XS.iconst X1.here hx rfl (hb hby d5_13) kk_) ?_
    exact Wp.ret X1 hlk (v := (some (.int (0 : Int32)))) (fun h => by rw [Bd.returns] at h; cases h) (fun fs hr => retN (z := (0 : Int32)) X1 hx (t := .boolean) Bd.returns (by simp) (hb hby d5_14) hr) (by decide) (by decide) (show Q_rm5 Z a1 k h0 n0 _ T1.heap _ by rw [e1]; exact ⟨(by rw [if_neg (fun q => h ((lw_gt _ _).mpr q))]), N0, rfl⟩)
theorem pn_4 : plainName "com/example/headroom/headroom/service/PeriodMeter" = true := by first | (simp [plainName, overriddenIn]; done) | decide +kernel
theorem d4_0 : decode prog_45_method_4_code 0 = .ok (.aload_n 0, 1) := by decide +kernel
theorem d4_1 : decode prog_45_method_4_code 1 = .ok (.getfield 7, 3) := by decide +kernel
theorem d4_4 : decode prog_45_method_4_code 4 = .ok (.lreturn, 1) := by decide +kernel
theorem ef_rm4 (m : MethodId) (a1 : Addr) : entryFrame m #[(.ref a1)] 1 = mkF m 0 #[.val (.ref a1)] [] := by first | (simp [entryFrame, mkF, argsToLocals, Value.category]; done) | rfl
def Q_rm4 (Z : State) (a1 : Addr) (n : Int64) (h0 : Heap) (n0 : Nat) (v : Option Value) (h : Heap) (L : List Loc) : Prop := (v = some (.long n)) ∧ (Fr n0 L) ∧ (h = h0)
set_option maxRecDepth 65536 in
set_option maxHeartbeats 40000000 in
theorem rm4 (l : Launch) (Z : State) (a0 : Array Value) (hw : ∀ d ∈ tables_1, d.before a0 Z = true) (ws : List Jvm.Cond) (a1 : Addr) (n : Int64) (h0 : Heap) (n0 : Nat) (Z0 : n0 ≤ h0.size) (P0 : Fld Z h0 a1 "com/example/headroom/headroom/service/PeriodMeter" "arrivals" "J" (.long n)) :
    MetFree l (⟨"com/example/headroom/headroom/service/PeriodMeter", "getArrivals", "()J"⟩ : MethodName) (head1 (Jvm.Cond.code (⟨"com/example/headroom/headroom/service/PeriodMeter", "getArrivals", "()J"⟩ : MethodName) prog_45_method_4_code 1 (some .long) :: ws) ({ frames := 0, cells := 0, slots := 0, locals := 0 } : Room)) (fun a U => a = #[(.ref a1)] ∧ Z.Warmed39 U.vm ∧ U.heap = h0) (fun _ _ _ _ _ => True) (fun _ U o U' => ∃ v L, o = .returned v ∧ Q_rm4 Z a1 n h0 n0 v U'.heap L ∧ FrameEnd U o U' L ({ frames := 0, cells := 0, slots := 0, locals := 0 } : Room).cells ({ frames := 0, cells := 0, slots := 0, locals := 0 } : Room).slots) := by
  refine MetFree.of_bodySF (plainFor_of_name pn_4) hisR ?_
  intro p e s m args below meth c s₁ Bd hml0 hP hK
  obtain ⟨rfl, hZ, hh⟩ := hP
  have hx := Bd.exec
  have hby := Bd.bytes
  have hml : c.maxLocals = 1 := hml0
  have hown : s.vm.findClass "com/example/headroom/headroom/service/PeriodMeter" = some m.cls := findClass_of_methodNamed Bd.named
  have hnm := (name_of_methodNamed Bd.named Bd.method).1
  have hlk := Bd.notSynchronized
  have X0 : Stand p l e ({ frames := 0, cells := 0, slots := 0, locals := 0 } : Room) s m #[(.ref a1)] below meth c s₁ [] 0 0 := Stand.of_body Bd
  have e0 : s₁.heap = h0 := by rw [← hh, Bd.state]; rfl
  have N0 := Fr.nil n0
  refine Wp.goal (Post := (fun o U' => ∃ v L, o = .returned v ∧ Q_rm4 Z a1 n h0 n0 v U'.heap L ∧ FrameEnd s o U' L ({ frames := 0, cells := 0, slots := 0, locals := 0 } : Room).cells ({ frames := 0, cells := 0, slots := 0, locals := 0 } : Room).slots)) (Wp.st (S' := s₁.setTop (mkF m 0 #[.val (.ref a1)] [])) (fun tt_ kk_ => castTop (ef_rm4 m a1 ) kk_) ?_)
  refine Wp.st (S' := s₁.setTop (mkF m 1 #[.val (.ref a1)] [(.ref a1)])) (fun tt_ kk_ => XS.aloadN X0.here hx rfl (hb hby d4_0) rfl rfl kk_) ?_
  obtain ⟨T1, X1, e1, st1⟩ := getF X0 hx hZ hown (host := "") (Or.inl (hw _ (List.mem_of_getElem? (i := 14) rfl))) Via.refl e0 P0 (g := (mkF m 1 #[.val (.ref a1)] [(.ref a1)])) rfl rfl (hb hby d4_1)
  refine Wp.st (S' := T1.setTop (mkF m 4 #[.val (.ref a1)] [(.long n)])) st1 ?_
  exact Wp.ret X1 hlk (v := (some (.long n))) (fun h => by rw [Bd.returns] at h; cases h) (fun fs hr => retOut X1 hx Bd.returns rfl (Or.inr (Or.inl ⟨rfl, rfl, _, rfl⟩)) (hb hby d4_4) hr) (by decide) (by decide) (show Q_rm4 Z a1 n h0 n0 _ T1.heap _ by rw [e1]; exact ⟨rfl, N0, rfl⟩)
theorem pn_6 : plainName "com/example/headroom/headroom/service/PeriodMeter" = true := by first | (simp [plainName, overriddenIn]; done) | decide +kernel
theorem d6_0 : decode prog_45_method_2_code 0 = .ok (.aload_n 0, 1) := by decide +kernel
theorem d6_1 : decode prog_45_method_2_code 1 = .ok (.dup, 1) := by decide +kernel
theorem d6_2 : decode prog_45_method_2_code 2 = .ok (.getfield 7, 3) := by decide +kernel
theorem d6_5 : decode prog_45_method_2_code 5 = .ok (.lconst 1, 1) := by decide +kernel
theorem d6_6 : decode prog_45_method_2_code 6 = .ok (.ladd, 1) := by decide +kernel
theorem d6_7 : decode prog_45_method_2_code 7 = .ok (.putfield 7, 3) := by decide +kernel
theorem d6_10 : decode prog_45_method_2_code 10 = .ok (.return_, 1) := by decide +kernel
theorem ef_rm6 (m : MethodId) (a1 : Addr) : entryFrame m #[(.ref a1)] 1 = mkF m 0 #[.val (.ref a1)] [] := by first | (simp [entryFrame, mkF, argsToLocals, Value.category]; done) | rfl
def Q_rm6 (Z : State) (a1 : Addr) (n : Int64) (k : Int64) (d : UInt64) (h0 : Heap) (n0 : Nat) (v : Option Value) (h : Heap) (L : List Loc) : Prop := (v = none) ∧ (Fr n0 L) ∧ (Keep h0 h [a1]) ∧ (Exa Z h a1 "com/example/headroom/headroom/service/PeriodMeter") ∧ (Fld Z h a1 "com/example/headroom/headroom/service/PeriodMeter" "arrivals" "J" (.long (n + (1 : Int64)))) ∧ (Fld Z h a1 "com/example/headroom/headroom/service/PeriodMeter" "served" "J" (.long k)) ∧ (Fld Z h a1 "com/example/headroom/headroom/service/PeriodMeter" "serviceMs" "D" (.double d))
set_option maxRecDepth 65536 in
set_option maxHeartbeats 40000000 in
theorem rm6 (l : Launch) (Z : State) (a0 : Array Value) (hw : ∀ d ∈ tables_1, d.before a0 Z = true) (ws : List Jvm.Cond) (a1 : Addr) (n : Int64) (k : Int64) (d : UInt64) (h0 : Heap) (n0 : Nat) (Z0 : n0 ≤ h0.size) (g_a1 : n0 ≤ a1) (P1 : Exa Z h0 a1 "com/example/headroom/headroom/service/PeriodMeter") (P2 : Fld Z h0 a1 "com/example/headroom/headroom/service/PeriodMeter" "arrivals" "J" (.long n)) (P3 : Fld Z h0 a1 "com/example/headroom/headroom/service/PeriodMeter" "served" "J" (.long k)) (P4 : Fld Z h0 a1 "com/example/headroom/headroom/service/PeriodMeter" "serviceMs" "D" (.double d)) :
    MetFree l (⟨"com/example/headroom/headroom/service/PeriodMeter", "arrived", "()V"⟩ : MethodName) (head1 (Jvm.Cond.code (⟨"com/example/headroom/headroom/service/PeriodMeter", "arrived", "()V"⟩ : MethodName) prog_45_method_2_code 1 none :: ws) ({ frames := 0, cells := 0, slots := 0, locals := 0 } : Room)) (fun a U => a = #[(.ref a1)] ∧ Z.Warmed39 U.vm ∧ U.heap = h0) (fun _ _ _ _ _ => True) (fun _ U o U' => ∃ v L, o = .returned v ∧ Q_rm6 Z a1 n k d h0 n0 v U'.heap L ∧ FrameEnd U o U' L ({ frames := 0, cells := 0, slots := 0, locals := 0 } : Room).cells ({ frames := 0, cells := 0, slots := 0, locals := 0 } : Room).slots) := by
  refine MetFree.of_bodySF (plainFor_of_name pn_6) hisR ?_
  intro p e s m args below meth c s₁ Bd hml0 hP hK
  obtain ⟨rfl, hZ, hh⟩ := hP
  have hx := Bd.exec
  have hby := Bd.bytes
  have hml : c.maxLocals = 1 := hml0
  have hown : s.vm.findClass "com/example/headroom/headroom/service/PeriodMeter" = some m.cls := findClass_of_methodNamed Bd.named
  have hnm := (name_of_methodNamed Bd.named Bd.method).1
  have hlk := Bd.notSynchronized
  have X0 : Stand p l e ({ frames := 0, cells := 0, slots := 0, locals := 0 } : Room) s m #[(.ref a1)] below meth c s₁ [] 0 0 := Stand.of_body Bd
  have e0 : s₁.heap = h0 := by rw [← hh, Bd.state]; rfl
  have N0 := Fr.nil n0
  refine Wp.goal (Post := (fun o U' => ∃ v L, o = .returned v ∧ Q_rm6 Z a1 n k d h0 n0 v U'.heap L ∧ FrameEnd s o U' L ({ frames := 0, cells := 0, slots := 0, locals := 0 } : Room).cells ({ frames := 0, cells := 0, slots := 0, locals := 0 } : Room).slots)) (Wp.st (S' := s₁.setTop (mkF m 0 #[.val (.ref a1)] [])) (fun tt_ kk_ => castTop (ef_rm6 m a1 ) kk_) ?_)
  refine Wp.st (S' := s₁.setTop (mkF m 1 #[.val (.ref a1)] [(.ref a1)])) (fun tt_ kk_ => XS.aloadN X0.here hx rfl (hb hby d6_0) rfl rfl kk_) ?_
  refine Wp.st (S' := s₁.setTop (mkF m 2 #[.val (.ref a1)] [(.ref a1), (.ref a1)])) (fun tt_ kk_ => XS.dup X0.here hx rfl (hb hby d6_1) rfl rfl kk_) ?_
  obtain ⟨T1, X1, e1, st1⟩ := getF X0 hx hZ hown (host := "") (Or.inl (hw _ (List.mem_of_getElem? (i := 14) rfl))) Via.refl e0 P2 (g := (mkF m 2 #[.val (.ref a1)] [(.ref a1), (.ref a1)])) rfl rfl (hb hby d6_2)
  refine Wp.st (S' := T1.setTop (mkF m 5 #[.val (.ref a1)] [(.long n), (.ref a1)])) st1 ?_
  refine Wp.st (S' := T1.setTop (mkF m 6 #[.val (.ref a1)] [(.long (1 : Int64)), (.long n), (.ref a1)])) (fun tt_ kk_ => XS.lconst X1.here hx rfl (hb hby d6_5) kk_) ?_
  refine Wp.st (S' := T1.setTop (mkF m 7 #[.val (.ref a1)] [(.long (n + (1 : Int64))), (.ref a1)])) (fun tt_ kk_ => XS.ladd X1.here hx rfl (hb hby d6_6) rfl kk_) ?_
  obtain ⟨T2, h2, X2, e2, W2, st2⟩ := putF X1 hx hZ hown (host := "") (Or.inl (hw _ (List.mem_of_getElem? (i := 14) rfl))) Via.refl e1 P2 P1 (Or.inl (hw _ (List.mem_of_getElem? (i := 15) rfl))) (hw _ (List.mem_of_getElem? (i := 1) rfl)) (ty := .long) (by decide) rfl rfl (g := (mkF m 7 #[.val (.ref a1)] [(.long (n + (1 : Int64))), (.ref a1)])) rfl rfl (hb hby d6_7)
  have z3 := Nat.le_of_eq W2.size.symm
  have Fw2 : Fld Z h2 a1 "com/example/headroom/headroom/service/PeriodMeter" "arrivals" "J" (.long (n + (1 : Int64))) := P2.same W2
  have N2 := Fr.snoc X2 N0 g_a1
  refine Wp.st (S' := T2.setTop (mkF m 10 #[.val (.ref a1)] [])) st2 ?_
  have K4 := Keep.refl h0 [a1]
  have K5 := K4.wr W2 (Or.inl (List.mem_of_getElem? (i := 0) rfl))
  have F6 := P1.wr W2
  have F7 := P3.other W2 (Or.inr (slot_ne (Or.inl (hw _ (List.mem_of_getElem? (i := 17) rfl))) (Or.inl (hw _ (List.mem_of_getElem? (i := 15) rfl))) (by decide) (t := .long) (t' := .long) (by decide) (by decide)))
  have F8 := P4.other W2 (Or.inr (slot_ne (Or.inl (hw _ (List.mem_of_getElem? (i := 19) rfl))) (Or.inl (hw _ (List.mem_of_getElem? (i := 15) rfl))) (by decide) (t := .double) (t' := .long) (by decide) (by decide)))
  exact Wp.ret X2 hlk (v := none) (fun _ => rfl) (fun fs hr => X2.returnOut hx Bd.returns (hb hby d6_10) hr) (by decide) (by decide) (show Q_rm6 Z a1 n k d h0 n0 _ T2.heap _ by rw [e2]; exact ⟨rfl, N2, K5, F6, Fw2, F7, F8⟩)
theorem pn_3 : plainName "com/example/headroom/headroom/service/PeriodMeter" = true := by first | (simp [plainName, overriddenIn]; done) | decide +kernel
theorem d3_0 : decode prog_45_method_7_code 0 = .ok (.aload_n 0, 1) := by decide +kernel
theorem d3_1 : decode prog_45_method_7_code 1 = .ok (.lconst 0, 1) := by decide +kernel
theorem d3_2 : decode prog_45_method_7_code 2 = .ok (.putfield 7, 3) := by decide +kernel
theorem d3_5 : decode prog_45_method_7_code 5 = .ok (.aload_n 0, 1) := by decide +kernel
theorem d3_6 : decode prog_45_method_7_code 6 = .ok (.lconst 0, 1) := by decide +kernel
theorem d3_7 : decode prog_45_method_7_code 7 = .ok (.putfield 13, 3) := by decide +kernel
theorem d3_10 : decode prog_45_method_7_code 10 = .ok (.aload_n 0, 1) := by decide +kernel
theorem d3_11 : decode prog_45_method_7_code 11 = .ok (.dconst 0, 1) := by decide +kernel
theorem d3_12 : decode prog_45_method_7_code 12 = .ok (.putfield 16, 3) := by decide +kernel
theorem d3_15 : decode prog_45_method_7_code 15 = .ok (.return_, 1) := by decide +kernel
theorem ef_rm3 (m : MethodId) (a1 : Addr) : entryFrame m #[(.ref a1)] 1 = mkF m 0 #[.val (.ref a1)] [] := by first | (simp [entryFrame, mkF, argsToLocals, Value.category]; done) | rfl
def Q_rm3 (Z : State) (a1 : Addr) (n : Int64) (k : Int64) (d : UInt64) (h0 : Heap) (n0 : Nat) (v : Option Value) (h : Heap) (L : List Loc) : Prop := (v = none) ∧ (Fr n0 L) ∧ (Keep h0 h [a1]) ∧ (Exa Z h a1 "com/example/headroom/headroom/service/PeriodMeter") ∧ (Fld Z h a1 "com/example/headroom/headroom/service/PeriodMeter" "arrivals" "J" (.long (0 : Int64))) ∧ (Fld Z h a1 "com/example/headroom/headroom/service/PeriodMeter" "served" "J" (.long (0 : Int64))) ∧ (Fld Z h a1 "com/example/headroom/headroom/service/PeriodMeter" "serviceMs" "D" (.double (0 : UInt64)))
set_option maxRecDepth 65536 in
set_option maxHeartbeats 40000000 in
theorem rm3 (l : Launch) (Z : State) (a0 : Array Value) (hw : ∀ d ∈ tables_1, d.before a0 Z = true) (ws : List Jvm.Cond) (a1 : Addr) (n : Int64) (k : Int64) (d : UInt64) (h0 : Heap) (n0 : Nat) (Z0 : n0 ≤ h0.size) (g_a1 : n0 ≤ a1) (P1 : Exa Z h0 a1 "com/example/headroom/headroom/service/PeriodMeter") (P2 : Fld Z h0 a1 "com/example/headroom/headroom/service/PeriodMeter" "arrivals" "J" (.long n)) (P3 : Fld Z h0 a1 "com/example/headroom/headroom/service/PeriodMeter" "served" "J" (.long k)) (P4 : Fld Z h0 a1 "com/example/headroom/headroom/service/PeriodMeter" "serviceMs" "D" (.double d)) :
    MetFree l (⟨"com/example/headroom/headroom/service/PeriodMeter", "reset", "()V"⟩ : MethodName) (head1 (Jvm.Cond.code (⟨"com/example/headroom/headroom/service/PeriodMeter", "reset", "()V"⟩ : MethodName) prog_45_method_7_code 1 none :: ws) ({ frames := 0, cells := 0, slots := 0, locals := 0 } : Room)) (fun a U => a = #[(.ref a1)] ∧ Z.Warmed39 U.vm ∧ U.heap = h0) (fun _ _ _ _ _ => True) (fun _ U o U' => ∃ v L, o = .returned v ∧ Q_rm3 Z a1 n k d h0 n0 v U'.heap L ∧ FrameEnd U o U' L ({ frames := 0, cells := 0, slots := 0, locals := 0 } : Room).cells ({ frames := 0, cells := 0, slots := 0, locals := 0 } : Room).slots) := by
  refine MetFree.of_bodySF (plainFor_of_name pn_3) hisR ?_
  intro p e s m args below meth c s₁ Bd hml0 hP hK
  obtain ⟨rfl, hZ, hh⟩ := hP
  have hx := Bd.exec
  have hby := Bd.bytes
  have hml : c.maxLocals = 1 := hml0
  have hown : s.vm.findClass "com/example/headroom/headroom/service/PeriodMeter" = some m.cls := findClass_of_methodNamed Bd.named
  have hnm := (name_of_methodNamed Bd.named Bd.method).1
  have hlk := Bd.notSynchronized
  have X0 : Stand p l e ({ frames := 0, cells := 0, slots := 0, locals := 0 } : Room) s m #[(.ref a1)] below meth c s₁ [] 0 0 := Stand.of_body Bd
  have e0 : s₁.heap = h0 := by rw [← hh, Bd.state]; rfl
  have N0 := Fr.nil n0
  refine Wp.goal (Post := (fun o U' => ∃ v L, o = .returned v ∧ Q_rm3 Z a1 n k d h0 n0 v U'.heap L ∧ FrameEnd s o U' L ({ frames := 0, cells := 0, slots := 0, locals := 0 } : Room).cells ({ frames := 0, cells := 0, slots := 0, locals := 0 } : Room).slots)) (Wp.st (S' := s₁.setTop (mkF m 0 #[.val (.ref a1)] [])) (fun tt_ kk_ => castTop (ef_rm3 m a1 ) kk_) ?_)
  refine Wp.st (S' := s₁.setTop (mkF m 1 #[.val (.ref a1)] [(.ref a1)])) (fun tt_ kk_ => XS.aloadN X0.here hx rfl (hb hby d3_0) rfl rfl kk_) ?_
  refine Wp.st (S' := s₁.setTop (mkF m 2 #[.val (.ref a1)] [(.long (0 : Int64)), (.ref a1)])) (fun tt_ kk_ => XS.lconst X0.here hx rfl (hb hby d3_1) kk_) ?_
  obtain ⟨T1, h1, X1, e1, W1, st1⟩ := putF X0 hx hZ hown (host := "") (Or.inl (hw _ (List.mem_of_getElem? (i := 14) rfl))) Via.refl e0 P2 P1 (Or.inl (hw _ (List.mem_of_getElem? (i := 15) rfl))) (hw _ (List.mem_of_getElem? (i := 1) rfl)) (ty := .long) (by decide) rfl rfl (g := (mkF m 2 #[.val (.ref a1)] [(.long (0 : Int64)), (.ref a1)])) rfl rfl (hb hby d3_2)
  have z2 := Nat.le_of_eq W1.size.symm
  have Fw1 : Fld Z h1 a1 "com/example/headroom/headroom/service/PeriodMeter" "arrivals" "J" (.long (0 : Int64)) := P2.same W1
  have N1 := Fr.snoc X1 N0 g_a1
  refine Wp.st (S' := T1.setTop (mkF m 5 #[.val (.ref a1)] [])) st1 ?_
  refine Wp.st (S' := T1.setTop (mkF m 6 #[.val (.ref a1)] [(.ref a1)])) (fun tt_ kk_ => XS.aloadN X1.here hx rfl (hb hby d3_5) rfl rfl kk_) ?_
  refine Wp.st (S' := T1.setTop (mkF m 7 #[.val (.ref a1)] [(.long (0 : Int64)), (.ref a1)])) (fun tt_ kk_ => XS.lconst X1.here hx rfl (hb hby d3_6) kk_) ?_
  have F4 := P3.other W1 (Or.inr (slot_ne (Or.inl (hw _ (List.mem_of_getElem? (i := 17) rfl))) (Or.inl (hw _ (List.mem_of_getElem? (i := 15) rfl))) (by decide) (t := .long) (t' := .long) (by decide) (by decide)))
  have F5 := P1.wr W1
  obtain ⟨T3, h3, X3, e3, W3, st3⟩ := putF X1 hx hZ hown (host := "") (Or.inl (hw _ (List.mem_of_getElem? (i := 16) rfl))) Via.refl e1 F4 F5 (Or.inl (hw _ (List.mem_of_getElem? (i := 17) rfl))) (hw _ (List.mem_of_getElem? (i := 1) rfl)) (ty := .long) (by decide) rfl rfl (g := (mkF m 7 #[.val (.ref a1)] [(.long (0 : Int64)), (.ref a1)])) rfl rfl (hb hby d3_7)
  have z6 := Nat.le_of_eq W3.size.symm
  have Fw3 : Fld Z h3 a1 "com/example/headroom/headroom/service/PeriodMeter" "served" "J" (.long (0 : Int64)) := F4.same W3
  have N3 := Fr.snoc X3 N1 g_a1
  refine Wp.st (S' := T3.setTop (mkF m 10 #[.val (.ref a1)] [])) st3 ?_
  refine Wp.st (S' := T3.setTop (mkF m 11 #[.val (.ref a1)] [(.ref a1)])) (fun tt_ kk_ => XS.aloadN X3.here hx rfl (hb hby d3_10) rfl rfl kk_) ?_
  refine Wp.st (S' := T3.setTop (mkF m 12 #[.val (.ref a1)] [(.double (0 : UInt64)), (.ref a1)])) (fun tt_ kk_ => XS.dconst0 X3.here hx rfl (hb hby d3_11) rfl kk_) ?_
  have F8 := P4.other W1 (Or.inr (slot_ne (Or.inl (hw _ (List.mem_of_getElem? (i := 19) rfl))) (Or.inl (hw _ (List.mem_of_getElem? (i := 15) rfl))) (by decide) (t := .double) (t' := .long) (by decide) (by decide)))
  have F9 := F8.other W3 (Or.inr (slot_ne (Or.inl (hw _ (List.mem_of_getElem? (i := 19) rfl))) (Or.inl (hw _ (List.mem_of_getElem? (i := 17) rfl))) (by decide) (t := .double) (t' := .long) (by decide) (by decide)))
  have F10 := F5.wr W3
  obtain ⟨T7, h7, X7, e7, W7, st7⟩ := putF X3 hx hZ hown (host := "") (Or.inl (hw _ (List.mem_of_getElem? (i := 18) rfl))) Via.refl e3 F9 F10 (Or.inl (hw _ (List.mem_of_getElem? (i := 19) rfl))) (hw _ (List.mem_of_getElem? (i := 1) rfl)) (ty := .double) (by decide) rfl rfl (g := (mkF m 12 #[.val (.ref a1)] [(.double (0 : UInt64)), (.ref a1)])) rfl rfl (hb hby d3_12)
  have z11 := Nat.le_of_eq W7.size.symm
  have Fw7 : Fld Z h7 a1 "com/example/headroom/headroom/service/PeriodMeter" "serviceMs" "D" (.double (0 : UInt64)) := F9.same W7
  have N7 := Fr.snoc X7 N3 g_a1
  refine Wp.st (S' := T7.setTop (mkF m 15 #[.val (.ref a1)] [])) st7 ?_
  have K12 := Keep.refl h0 [a1]
  have K13 := K12.wr W1 (Or.inl (List.mem_of_getElem? (i := 0) rfl))
  have K14 := K13.wr W3 (Or.inl (List.mem_of_getElem? (i := 0) rfl))
  have K15 := K14.wr W7 (Or.inl (List.mem_of_getElem? (i := 0) rfl))
  have F16 := F10.wr W7
  have F17 := Fw1.other W3 (Or.inr (slot_ne (Or.inl (hw _ (List.mem_of_getElem? (i := 15) rfl))) (Or.inl (hw _ (List.mem_of_getElem? (i := 17) rfl))) (by decide) (t := .long) (t' := .long) (by decide) (by decide)))
  have F18 := F17.other W7 (Or.inr (slot_ne (Or.inl (hw _ (List.mem_of_getElem? (i := 15) rfl))) (Or.inl (hw _ (List.mem_of_getElem? (i := 19) rfl))) (by decide) (t := .long) (t' := .double) (by decide) (by decide)))
  have F19 := Fw3.other W7 (Or.inr (slot_ne (Or.inl (hw _ (List.mem_of_getElem? (i := 17) rfl))) (Or.inl (hw _ (List.mem_of_getElem? (i := 19) rfl))) (by decide) (t := .long) (t' := .double) (by decide) (by decide)))
  exact Wp.ret X7 hlk (v := none) (fun _ => rfl) (fun fs hr => X7.returnOut hx Bd.returns (hb hby d3_15) hr) (by decide) (by decide) (show Q_rm3 Z a1 n k d h0 n0 _ T7.heap _ by rw [e7]; exact ⟨rfl, N7, K15, F16, F18, F19, Fw7⟩)
theorem pn_8 : plainName "com/example/headroom/headroom/model/Millis" = true := by first | (simp [plainName, overriddenIn]; done) | decide +kernel
theorem d8_0 : decode prog_20_method_3_code 0 = .ok (.dload_n 0, 1) := by decide +kernel
theorem d8_1 : decode prog_20_method_3_code 1 = .ok (.ldc2_w 26, 3) := by decide +kernel
theorem d8_4 : decode prog_20_method_3_code 4 = .ok (.ddiv, 1) := by decide +kernel
theorem d8_5 : decode prog_20_method_3_code 5 = .ok (.dreturn, 1) := by decide +kernel
theorem ef_rm8 (m : MethodId) (d1 : UInt64) : entryFrame m #[(.double d1)] 2 = mkF m 0 #[.val (.double d1), .second] [] := by first | (simp [entryFrame, mkF, argsToLocals, Value.category]; done) | rfl
def Q_rm8 (Z : State) (d1 : UInt64) (h0 : Heap) (n0 : Nat) (v : Option Value) (h : Heap) (L : List Loc) : Prop := (v = some (.double (FP.ddiv d1 (4696837146684686336 : UInt64)))) ∧ (Fr n0 L) ∧ (h = h0)
set_option maxRecDepth 65536 in
set_option maxHeartbeats 40000000 in
theorem rm8 (l : Launch) (Z : State) (a0 : Array Value) (hw : ∀ d ∈ tables_1, d.before a0 Z = true) (ws : List Jvm.Cond) (d1 : UInt64) (h0 : Heap) (n0 : Nat) (Z0 : n0 ≤ h0.size) (hn : Jvm.Free.Fl.NoNaN64 (FP.ddiv d1 (4696837146684686336 : UInt64))) :
    MetFree l (⟨"com/example/headroom/headroom/model/Millis", "fromNanos", "(D)D"⟩ : MethodName) (head1 (Jvm.Cond.code (⟨"com/example/headroom/headroom/model/Millis", "fromNanos", "(D)D"⟩ : MethodName) prog_20_method_3_code 2 (some .double) :: ws) ({ frames := 0, cells := 0, slots := 0, locals := 0 } : Room)) (fun a U => a = #[(.double d1)] ∧ Z.Warmed39 U.vm ∧ U.heap = h0) (fun _ _ _ _ _ => True) (fun _ U o U' => ∃ v L, o = .returned v ∧ Q_rm8 Z d1 h0 n0 v U'.heap L ∧ FrameEnd U o U' L ({ frames := 0, cells := 0, slots := 0, locals := 0 } : Room).cells ({ frames := 0, cells := 0, slots := 0, locals := 0 } : Room).slots) := by
  refine MetFree.of_bodySF (plainFor_of_name pn_8) hisR ?_
  intro p e s m args below meth c s₁ Bd hml0 hP hK
  obtain ⟨rfl, hZ, hh⟩ := hP
  have hx := Bd.exec
  have hby := Bd.bytes
  have hml : c.maxLocals = 2 := hml0
  have hown : s.vm.findClass "com/example/headroom/headroom/model/Millis" = some m.cls := findClass_of_methodNamed Bd.named
  have hnm := (name_of_methodNamed Bd.named Bd.method).1
  have hlk := Bd.notSynchronized
  have X0 : Stand p l e ({ frames := 0, cells := 0, slots := 0, locals := 0 } : Room) s m #[(.double d1)] below meth c s₁ [] 0 0 := Stand.of_body Bd
  have e0 : s₁.heap = h0 := by rw [← hh, Bd.state]; rfl
  have N0 := Fr.nil n0
  refine Wp.goal (Post := (fun o U' => ∃ v L, o = .returned v ∧ Q_rm8 Z d1 h0 n0 v U'.heap L ∧ FrameEnd s o U' L ({ frames := 0, cells := 0, slots := 0, locals := 0 } : Room).cells ({ frames := 0, cells := 0, slots := 0, locals := 0 } : Room).slots)) (Wp.st (S' := s₁.setTop (mkF m 0 #[.val (.double d1), .second] [])) (fun tt_ kk_ => castTop (ef_rm8 m d1 ) kk_) ?_)
  refine Wp.st (S' := s₁.setTop (mkF m 1 #[.val (.double d1), .second] [(.double d1)])) (fun tt_ kk_ => XS.dloadN X0.here hx rfl (hb hby d8_0) rfl  kk_) ?_
  refine Wp.st (S' := s₁.setTop (mkF m 4 #[.val (.double d1), .second] [(.double (4696837146684686336 : UInt64)), (.double d1)])) (fun tt_ kk_ => X0.ldc2DoubleC hx hown (mvT hZ (hw _ (List.mem_of_getElem? (i := 44) rfl))) (g := (mkF m 1 #[.val (.double d1), .second] [(.double d1)])) rfl (hb hby d8_1) tt_ kk_) ?_
  refine Wp.st (S' := s₁.setTop (mkF m 5 #[.val (.double d1), .second] [(.double (FP.ddiv d1 (4696837146684686336 : UInt64)))])) (fun tt_ kk_ => XS.ddivS X0.here hx rfl (hb hby d8_4) rfl hn rfl kk_) ?_
  exact Wp.ret X0 hlk (v := (some (.double (FP.ddiv d1 (4696837146684686336 : UInt64))))) (fun h => by rw [Bd.returns] at h; cases h) (fun fs hr => retOut X0 hx Bd.returns rfl (Or.inr (Or.inr (Or.inl ⟨rfl, rfl, _, rfl⟩))) (hb hby d8_5) hr) (by decide) (by decide) (show Q_rm8 Z d1 h0 n0 _ s₁.heap _ by rw [e0]; exact ⟨rfl, N0, rfl⟩)
theorem pn_7 : plainName "com/example/headroom/headroom/service/PeriodMeter" = true := by first | (simp [plainName, overriddenIn]; done) | decide +kernel
theorem d7_0 : decode prog_45_method_3_code 0 = .ok (.aload_n 0, 1) := by decide +kernel
theorem d7_1 : decode prog_45_method_3_code 1 = .ok (.dup, 1) := by decide +kernel
theorem d7_2 : decode prog_45_method_3_code 2 = .ok (.getfield 13, 3) := by decide +kernel
theorem d7_5 : decode prog_45_method_3_code 5 = .ok (.lconst 1, 1) := by decide +kernel
theorem d7_6 : decode prog_45_method_3_code 6 = .ok (.ladd, 1) := by decide +kernel
theorem d7_7 : decode prog_45_method_3_code 7 = .ok (.putfield 13, 3) := by decide +kernel
theorem d7_10 : decode prog_45_method_3_code 10 = .ok (.aload_n 0, 1) := by decide +kernel
theorem d7_11 : decode prog_45_method_3_code 11 = .ok (.dup, 1) := by decide +kernel
theorem d7_12 : decode prog_45_method_3_code 12 = .ok (.getfield 16, 3) := by decide +kernel
theorem d7_15 : decode prog_45_method_3_code 15 = .ok (.lload_n 1, 1) := by decide +kernel
theorem d7_16 : decode prog_45_method_3_code 16 = .ok (.l2d, 1) := by decide +kernel
theorem d7_17 : decode prog_45_method_3_code 17 = .ok (.invokestatic 20, 3) := by decide +kernel
theorem pd_0 : parseMethodDescriptor "(D)D" = some ⟨[.double], some .double⟩ := by decide +kernel
theorem d7_20 : decode prog_45_method_3_code 20 = .ok (.dadd, 1) := by decide +kernel
theorem d7_21 : decode prog_45_method_3_code 21 = .ok (.putfield 16, 3) := by decide +kernel
theorem d7_24 : decode prog_45_method_3_code 24 = .ok (.return_, 1) := by decide +kernel
theorem ef_rm7 (m : MethodId) (a1 : Addr) (q2 : Int64) : entryFrame m #[(.ref a1), (.long q2)] 3 = mkF m 0 #[.val (.ref a1), .val (.long q2), .second] [] := by first | (simp [entryFrame, mkF, argsToLocals, Value.category]; done) | rfl
def Q_rm7 (Z : State) (a1 : Addr) (q2 : Int64) (n : Int64) (k : Int64) (d : UInt64) (h0 : Heap) (n0 : Nat) (v : Option Value) (h : Heap) (L : List Loc) : Prop := (v = none) ∧ (Fr n0 L) ∧ (Keep h0 h [a1]) ∧ (Exa Z h a1 "com/example/headroom/headroom/service/PeriodMeter") ∧ (Fld Z h a1 "com/example/headroom/headroom/service/PeriodMeter" "arrivals" "J" (.long n)) ∧ (Fld Z h a1 "com/example/headroom/headroom/service/PeriodMeter" "served" "J" (.long (k + (1 : Int64)))) ∧ (Fld Z h a1 "com/example/headroom/headroom/service/PeriodMeter" "serviceMs" "D" (.double (FP.dadd d (FP.ddiv (FP.l2d q2) (4696837146684686336 : UInt64)))))
set_option maxRecDepth 65536 in
set_option maxHeartbeats 40000000 in
theorem rm7 (l : Launch) (Z : State) (a0 : Array Value) (hw : ∀ d ∈ tables_1, d.before a0 Z = true) (ws : List Jvm.Cond) (a1 : Addr) (q2 : Int64) (n : Int64) (k : Int64) (d : UInt64) (h0 : Heap) (n0 : Nat) (Z0 : n0 ≤ h0.size) (g_a1 : n0 ≤ a1) (P1 : Exa Z h0 a1 "com/example/headroom/headroom/service/PeriodMeter") (P2 : Fld Z h0 a1 "com/example/headroom/headroom/service/PeriodMeter" "arrivals" "J" (.long n)) (P3 : Fld Z h0 a1 "com/example/headroom/headroom/service/PeriodMeter" "served" "J" (.long k)) (P4 : Fld Z h0 a1 "com/example/headroom/headroom/service/PeriodMeter" "serviceMs" "D" (.double d)) (hn : Jvm.Free.Fl.NoNaN64 d) :
    MetFree l (⟨"com/example/headroom/headroom/service/PeriodMeter", "served", "(J)V"⟩ : MethodName) (head1 (Jvm.Cond.code (⟨"com/example/headroom/headroom/service/PeriodMeter", "served", "(J)V"⟩ : MethodName) prog_45_method_3_code 3 none :: ws) ({ frames := 1, cells := 0, slots := 0, locals := 16 } : Room)) (fun a U => a = #[(.ref a1), (.long q2)] ∧ Z.Warmed39 U.vm ∧ U.heap = h0) (fun _ _ _ _ _ => True) (fun _ U o U' => ∃ v L, o = .returned v ∧ Q_rm7 Z a1 q2 n k d h0 n0 v U'.heap L ∧ FrameEnd U o U' L ({ frames := 1, cells := 0, slots := 0, locals := 16 } : Room).cells ({ frames := 1, cells := 0, slots := 0, locals := 16 } : Room).slots) := by
  refine MetFree.of_bodySF (plainFor_of_name pn_7) hisR ?_
  intro p e s m args below meth c s₁ Bd hml0 hP hK
  obtain ⟨rfl, hZ, hh⟩ := hP
  have hx := Bd.exec
  have hby := Bd.bytes
  have hml : c.maxLocals = 3 := hml0
  have hown : s.vm.findClass "com/example/headroom/headroom/service/PeriodMeter" = some m.cls := findClass_of_methodNamed Bd.named
  have hnm := (name_of_methodNamed Bd.named Bd.method).1
  have hlk := Bd.notSynchronized
  have X0 : Stand p l e ({ frames := 1, cells := 0, slots := 0, locals := 16 } : Room) s m #[(.ref a1), (.long q2)] below meth c s₁ [] 0 0 := Stand.of_body Bd
  have e0 : s₁.heap = h0 := by rw [← hh, Bd.state]; rfl
  have N0 := Fr.nil n0
  refine Wp.goal (Post := (fun o U' => ∃ v L, o = .returned v ∧ Q_rm7 Z a1 q2 n k d h0 n0 v U'.heap L ∧ FrameEnd s o U' L ({ frames := 1, cells := 0, slots := 0, locals := 16 } : Room).cells ({ frames := 1, cells := 0, slots := 0, locals := 16 } : Room).slots)) (Wp.st (S' := s₁.setTop (mkF m 0 #[.val (.ref a1), .val (.long q2), .second] [])) (fun tt_ kk_ => castTop (ef_rm7 m a1 q2 ) kk_) ?_)
  refine Wp.st (S' := s₁.setTop (mkF m 1 #[.val (.ref a1), .val (.long q2), .second] [(.ref a1)])) (fun tt_ kk_ => XS.aloadN X0.here hx rfl (hb hby d7_0) rfl rfl kk_) ?_
  refine Wp.st (S' := s₁.setTop (mkF m 2 #[.val (.ref a1), .val (.long q2), .second] [(.ref a1), (.ref a1)])) (fun tt_ kk_ => XS.dup X0.here hx rfl (hb hby d7_1) rfl rfl kk_) ?_
  obtain ⟨T1, X1, e1, st1⟩ := getF X0 hx hZ hown (host := "") (Or.inl (hw _ (List.mem_of_getElem? (i := 16) rfl))) Via.refl e0 P3 (g := (mkF m 2 #[.val (.ref a1), .val (.long q2), .second] [(.ref a1), (.ref a1)])) rfl rfl (hb hby d7_2)
  refine Wp.st (S' := T1.setTop (mkF m 5 #[.val (.ref a1), .val (.long q2), .second] [(.long k), (.ref a1)])) st1 ?_
  refine Wp.st (S' := T1.setTop (mkF m 6 #[.val (.ref a1), .val (.long q2), .second] [(.long (1 : Int64)), (.long k), (.ref a1)])) (fun tt_ kk_ => XS.lconst X1.here hx rfl (hb hby d7_5) kk_) ?_
  refine Wp.st (S' := T1.setTop (mkF m 7 #[.val (.ref a1), .val (.long q2), .second] [(.long (k + (1 : Int64))), (.ref a1)])) (fun tt_ kk_ => XS.ladd X1.here hx rfl (hb hby d7_6) rfl kk_) ?_
  obtain ⟨T2, h2, X2, e2, W2, st2⟩ := putF X1 hx hZ hown (host := "") (Or.inl (hw _ (List.mem_of_getElem? (i := 16) rfl))) Via.refl e1 P3 P1 (Or.inl (hw _ (List.mem_of_getElem? (i := 17) rfl))) (hw _ (List.mem_of_getElem? (i := 1) rfl)) (ty := .long) (by decide) rfl rfl (g := (mkF m 7 #[.val (.ref a1), .val (.long q2), .second] [(.long (k + (1 : Int64))), (.ref a1)])) rfl rfl (hb hby d7_7)
  have z3 := Nat.le_of_eq W2.size.symm
  have Fw2 : Fld Z h2 a1 "com/example/headroom/headroom/service/PeriodMeter" "served" "J" (.long (k + (1 : Int64))) := P3.same W2
  have N2 := Fr.snoc X2 N0 g_a1
  refine Wp.st (S' := T2.setTop (mkF m 10 #[.val (.ref a1), .val (.long q2), .second] [])) st2 ?_
  refine Wp.st (S' := T2.setTop (mkF m 11 #[.val (.ref a1), .val (.long q2), .second] [(.ref a1)])) (fun tt_ kk_ => XS.aloadN X2.here hx rfl (hb hby d7_10) rfl rfl kk_) ?_
  refine Wp.st (S' := T2.setTop (mkF m 12 #[.val (.ref a1), .val (.long q2), .second] [(.ref a1), (.ref a1)])) (fun tt_ kk_ => XS.dup X2.here hx rfl (hb hby d7_11) rfl rfl kk_) ?_
  have F4 := P4.other W2 (Or.inr (slot_ne (Or.inl (hw _ (List.mem_of_getElem? (i := 19) rfl))) (Or.inl (hw _ (List.mem_of_getElem? (i := 17) rfl))) (by decide) (t := .double) (t' := .long) (by decide) (by decide)))
  obtain ⟨T5, X5, e5, st5⟩ := getF X2 hx hZ hown (host := "") (Or.inl (hw _ (List.mem_of_getElem? (i := 18) rfl))) Via.refl e2 F4 (g := (mkF m 12 #[.val (.ref a1), .val (.long q2), .second] [(.ref a1), (.ref a1)])) rfl rfl (hb hby d7_12)
  refine Wp.st (S' := T5.setTop (mkF m 15 #[.val (.ref a1), .val (.long q2), .second] [(.double d), (.ref a1)])) st5 ?_
  refine Wp.st (S' := T5.setTop (mkF m 16 #[.val (.ref a1), .val (.long q2), .second] [(.long q2), (.double d), (.ref a1)])) (fun tt_ kk_ => XS.lloadN X5.here hx rfl (hb hby d7_15) rfl  kk_) ?_
  refine Wp.st (S' := T5.setTop (mkF m 17 #[.val (.ref a1), .val (.long q2), .second] [(.double (FP.l2d q2)), (.double d), (.ref a1)])) (fun tt_ kk_ => XS.l2dS X5.here hx rfl (hb hby d7_16) rfl rfl kk_) ?_
  obtain ⟨vv6, _, ⟨T6, L6, k6, n6⟩, -, X6, ⟨Lc6, hQ6, l6, y6, z6⟩, st6⟩ := Jvm.LawKit.callS X5 hx (y := (⟨"com/example/headroom/headroom/model/Millis", "fromNanos", "(D)D"⟩ : MethodName)) hown (mvT hZ (hw _ (List.mem_of_getElem? (i := 40) rfl))) (mvT hZ (hw _ (List.mem_of_getElem? (i := 41) rfl))) (mvT hZ (hw _ (List.mem_of_getElem? (i := 42) rfl))) (mvT hZ (hw _ (List.mem_of_getElem? (i := 43) rfl))) (by decide) (backOf (W := 3) (rm8 l Z a0 hw [] (FP.l2d q2) h2 n0 (Nat.le_trans Z0 z3) ((own_dv _).noNaN : Jvm.Free.Fl.NoNaN64 (FP.ddiv (FP.l2d q2) (4696837146684686336 : UInt64)))) hZ (hw _ (List.mem_of_getElem? (i := 43) rfl)) (hw _ (List.mem_of_getElem? (i := 42) rfl)) (by decide) (by decide)) (g := (mkF m 17 #[.val (.ref a1), .val (.long q2), .second] [(.double (FP.l2d q2)), (.double d), (.ref a1)])) rfl (by rw [hml]; rfl) (argsL := [(.double (FP.l2d q2))]) (rest := [(.double d), (.ref a1)]) (lenOf pd_0 rfl) rfl (by show 2 * 0 + _ ≤ _; exact Nat.le_of_eq rfl) (hb hby d7_17) (fun _ _ => ⟨rfl, e5, (by decide : 0 + 0 ≤ _), (by decide : 0 + 0 ≤ _)⟩)
  dsimp only [Pt.U, Pt.locs, Pt.cells, Pt.slots] at X6 l6 y6 z6 st6 hQ6
  subst l6 y6 z6
  obtain ⟨rfl, Nq6, e6⟩ := hQ6
  have N6 := Fr.app N2 Nq6
  refine Wp.st (S' := T6.setTop (mkF m 20 #[.val (.ref a1), .val (.long q2), .second] [(.double (FP.ddiv (FP.l2d q2) (4696837146684686336 : UInt64))), (.double d), (.ref a1)])) st6 ?_
  refine Wp.st (S' := T6.setTop (mkF m 21 #[.val (.ref a1), .val (.long q2), .second] [(.double (FP.dadd d (FP.ddiv (FP.l2d q2) (4696837146684686336 : UInt64)))), (.ref a1)])) (fun tt_ kk_ => XS.daddS X6.here hx rfl (hb hby d7_20) rfl (own_ms hn q2) rfl kk_) ?_
  have F8 := P1.wr W2
  obtain ⟨T7, h7, X7, e7, W7, st7⟩ := putF X6 hx hZ hown (host := "") (Or.inl (hw _ (List.mem_of_getElem? (i := 18) rfl))) Via.refl e6 F4 F8 (Or.inl (hw _ (List.mem_of_getElem? (i := 19) rfl))) (hw _ (List.mem_of_getElem? (i := 1) rfl)) (ty := .double) (by decide) rfl rfl (g := (mkF m 21 #[.val (.ref a1), .val (.long q2), .second] [(.double (FP.dadd d (FP.ddiv (FP.l2d q2) (4696837146684686336 : UInt64)))), (.ref a1)])) rfl rfl (hb hby d7_21)
  have z9 := Nat.le_of_eq W7.size.symm
  have Fw7 : Fld Z h7 a1 "com/example/headroom/headroom/service/PeriodMeter" "serviceMs" "D" (.double (FP.dadd d (FP.ddiv (FP.l2d q2) (4696837146684686336 : UInt64)))) := F4.same W7
  have N7 := Fr.snoc X7 N6 g_a1
  refine Wp.st (S' := T7.setTop (mkF m 24 #[.val (.ref a1), .val (.long q2), .second] [])) st7 ?_
  have K10 := Keep.refl h0 [a1]
  have K11 := K10.wr W2 (Or.inl (List.mem_of_getElem? (i := 0) rfl))
  have K12 := K11.wr W7 (Or.inl (List.mem_of_getElem? (i := 0) rfl))
  have F13 := F8.wr W7
  have F14 := P2.other W2 (Or.inr (slot_ne (Or.inl (hw _ (List.mem_of_getElem? (i := 15) rfl))) (Or.inl (hw _ (List.mem_of_getElem? (i := 17) rfl))) (by decide) (t := .long) (t' := .long) (by decide) (by decide)))
  have F15 := F14.other W7 (Or.inr (slot_ne (Or.inl (hw _ (List.mem_of_getElem? (i := 15) rfl))) (Or.inl (hw _ (List.mem_of_getElem? (i := 19) rfl))) (by decide) (t := .long) (t' := .double) (by decide) (by decide)))
  have F16 := Fw2.other W7 (Or.inr (slot_ne (Or.inl (hw _ (List.mem_of_getElem? (i := 17) rfl))) (Or.inl (hw _ (List.mem_of_getElem? (i := 19) rfl))) (by decide) (t := .long) (t' := .double) (by decide) (by decide)))
  exact Wp.ret X7 hlk (v := none) (fun _ => rfl) (fun fs hr => X7.returnOut hx Bd.returns (hb hby d7_24) hr) (by decide) (by decide) (show Q_rm7 Z a1 q2 n k d h0 n0 _ T7.heap _ by rw [e7]; exact ⟨rfl, N7, K12, F13, F15, F16, Fw7⟩)
theorem pn_9 : plainName "com/example/headroom/headroom/service/PeriodMeter" = true := by first | (simp [plainName, overriddenIn]; done) | decide +kernel
theorem d9_0 : decode prog_45_method_6_code 0 = .ok (.aload_n 0, 1) := by decide +kernel
theorem d9_1 : decode prog_45_method_6_code 1 = .ok (.getfield 13, 3) := by decide +kernel
theorem d9_4 : decode prog_45_method_6_code 4 = .ok (.lconst 0, 1) := by decide +kernel
theorem d9_5 : decode prog_45_method_6_code 5 = .ok (.lcmp, 1) := by decide +kernel
theorem d9_6 : decode prog_45_method_6_code 6 = .ok (.ifCond .ne 13, 3) := by decide +kernel
theorem d9_19 : decode prog_45_method_6_code 19 = .ok (.aload_n 0, 1) := by decide +kernel
theorem d9_20 : decode prog_45_method_6_code 20 = .ok (.getfield 16, 3) := by decide +kernel
theorem d9_23 : decode prog_45_method_6_code 23 = .ok (.aload_n 0, 1) := by decide +kernel
theorem d9_24 : decode prog_45_method_6_code 24 = .ok (.getfield 13, 3) := by decide +kernel
theorem d9_27 : decode prog_45_method_6_code 27 = .ok (.l2d, 1) := by decide +kernel
theorem d9_28 : decode prog_45_method_6_code 28 = .ok (.ddiv, 1) := by decide +kernel
theorem d9_29 : decode prog_45_method_6_code 29 = .ok (.dreturn, 1) := by decide +kernel
theorem ef_rm9 (m : MethodId) (a1 : Addr) : entryFrame m #[(.ref a1)] 1 = mkF m 0 #[.val (.ref a1)] [] := by first | (simp [entryFrame, mkF, argsToLocals, Value.category]; done) | rfl
def Q_rm9 (Z : State) (a1 : Addr) (k : Int64) (d : UInt64) (h0 : Heap) (n0 : Nat) (v : Option Value) (h : Heap) (L : List Loc) : Prop := (v = some (.double (FP.ddiv d (FP.l2d k)))) ∧ (Fr n0 L) ∧ (h = h0)
set_option maxRecDepth 65536 in
set_option maxHeartbeats 40000000 in
theorem rm9 (l : Launch) (Z : State) (a0 : Array Value) (hw : ∀ d ∈ tables_1, d.before a0 Z = true) (ws : List Jvm.Cond) (a1 : Addr) (k : Int64) (d : UInt64) (h0 : Heap) (n0 : Nat) (Z0 : n0 ≤ h0.size) (P0 : Fld Z h0 a1 "com/example/headroom/headroom/service/PeriodMeter" "served" "J" (.long k)) (P1 : Fld Z h0 a1 "com/example/headroom/headroom/service/PeriodMeter" "serviceMs" "D" (.double d)) (hk : ¬ (lcmpW k (0 : Int64) = (0 : Int32))) (hn : Jvm.Free.Fl.NoNaN64 (FP.ddiv d (FP.l2d k))) :
    MetFree l (⟨"com/example/headroom/headroom/service/PeriodMeter", "meanServiceMs", "()D"⟩ : MethodName) (head1 (Jvm.Cond.code (⟨"com/example/headroom/headroom/service/PeriodMeter", "meanServiceMs", "()D"⟩ : MethodName) prog_45_method_6_code 1 (some .double) :: ws) ({ frames := 0, cells := 0, slots := 0, locals := 0 } : Room)) (fun a U => a = #[(.ref a1)] ∧ Z.Warmed39 U.vm ∧ U.heap = h0) (fun _ _ _ _ _ => True) (fun _ U o U' => ∃ v L, o = .returned v ∧ Q_rm9 Z a1 k d h0 n0 v U'.heap L ∧ FrameEnd U o U' L ({ frames := 0, cells := 0, slots := 0, locals := 0 } : Room).cells ({ frames := 0, cells := 0, slots := 0, locals := 0 } : Room).slots) := by
  refine MetFree.of_bodySF (plainFor_of_name pn_9) hisR ?_
  intro p e s m args below meth c s₁ Bd hml0 hP hK
  obtain ⟨rfl, hZ, hh⟩ := hP
  have hx := Bd.exec
  have hby := Bd.bytes
  have hml : c.maxLocals = 1 := hml0
  have hown : s.vm.findClass "com/example/headroom/headroom/service/PeriodMeter" = some m.cls := findClass_of_methodNamed Bd.named
  have hnm := (name_of_methodNamed Bd.named Bd.method).1
  have hlk := Bd.notSynchronized
  have X0 : Stand p l e ({ frames := 0, cells := 0, slots := 0, locals := 0 } : Room) s m #[(.ref a1)] below meth c s₁ [] 0 0 := Stand.of_body Bd
  have e0 : s₁.heap = h0 := by rw [← hh, Bd.state]; rfl
  have N0 := Fr.nil n0
  refine Wp.goal (Post := (fun o U' => ∃ v L, o = .returned v ∧ Q_rm9 Z a1 k d h0 n0 v U'.heap L ∧ FrameEnd s o U' L ({ frames := 0, cells := 0, slots := 0, locals := 0 } : Room).cells ({ frames := 0, cells := 0, slots := 0, locals := 0 } : Room).slots)) (Wp.st (S' := s₁.setTop (mkF m 0 #[.val (.ref a1)] [])) (fun tt_ kk_ => castTop (ef_rm9 m a1 ) kk_) ?_)
  refine Wp.st (S' := s₁.setTop (mkF m 1 #[.val (.ref a1)] [(.ref a1)])) (fun tt_ kk_ => XS.aloadN X0.here hx rfl (hb hby d9_0) rfl rfl kk_) ?_
  obtain ⟨T1, X1, e1, st1⟩ := getF X0 hx hZ hown (host := "") (Or.inl (hw _ (List.mem_of_getElem? (i := 16) rfl))) Via.refl e0 P0 (g := (mkF m 1 #[.val (.ref a1)] [(.ref a1)])) rfl rfl (hb hby d9_1)
  refine Wp.st (S' := T1.setTop (mkF m 4 #[.val (.ref a1)] [(.long k)])) st1 ?_
  refine Wp.st (S' := T1.setTop (mkF m 5 #[.val (.ref a1)] [(.long (0 : Int64)), (.long k)])) (fun tt_ kk_ => XS.lconst X1.here hx rfl (hb hby d9_4) kk_) ?_
  refine Wp.st (S' := T1.setTop (mkF m 6 #[.val (.ref a1)] [(.int (lcmpW k (0 : Int64)))])) (fun tt_ kk_ => XS.lcmp X1.here hx rfl (hb hby d9_5) rfl kk_) ?_
  refine Wp.st (S' := T1.setTop (mkF m 19 #[.val (.ref a1)] [])) (fun tt_ kk_ => XS.ifYes X1.here hx rfl (pc0 := 6) (pc' := 19) rfl (hb hby d9_6) rfl ((if0 _ _).trans (feq (hk : ¬ ((lcmpW k (0 : Int64)) = (0 : Int32)))).2) (by decide) (by decide) kk_) ?_
  refine Wp.st (S' := T1.setTop (mkF m 20 #[.val (.ref a1)] [(.ref a1)])) (fun tt_ kk_ => XS.aloadN X1.here hx rfl (hb hby d9_19) rfl rfl kk_) ?_
  obtain ⟨T2, X2, e2, st2⟩ := getF X1 hx hZ hown (host := "") (Or.inl (hw _ (List.mem_of_getElem? (i := 18) rfl))) Via.refl e1 P1 (g := (mkF m 20 #[.val (.ref a1)] [(.ref a1)])) rfl rfl (hb hby d9_20)
  refine Wp.st (S' := T2.setTop (mkF m 23 #[.val (.ref a1)] [(.double d)])) st2 ?_
  refine Wp.st (S' := T2.setTop (mkF m 24 #[.val (.ref a1)] [(.ref a1), (.double d)])) (fun tt_ kk_ => XS.aloadN X2.here hx rfl (hb hby d9_23) rfl rfl kk_) ?_
  obtain ⟨T3, X3, e3, st3⟩ := getF X2 hx hZ hown (host := "") (Or.inl (hw _ (List.mem_of_getElem? (i := 16) rfl))) Via.refl e2 P0 (g := (mkF m 24 #[.val (.ref a1)] [(.ref a1), (.double d)])) rfl rfl (hb hby d9_24)
  refine Wp.st (S' := T3.setTop (mkF m 27 #[.val (.ref a1)] [(.long k), (.double d)])) st3 ?_
  refine Wp.st (S' := T3.setTop (mkF m 28 #[.val (.ref a1)] [(.double (FP.l2d k)), (.double d)])) (fun tt_ kk_ => XS.l2dS X3.here hx rfl (hb hby d9_27) rfl rfl kk_) ?_
  refine Wp.st (S' := T3.setTop (mkF m 29 #[.val (.ref a1)] [(.double (FP.ddiv d (FP.l2d k)))])) (fun tt_ kk_ => XS.ddivS X3.here hx rfl (hb hby d9_28) rfl hn rfl kk_) ?_
  exact Wp.ret X3 hlk (v := (some (.double (FP.ddiv d (FP.l2d k))))) (fun h => by rw [Bd.returns] at h; cases h) (fun fs hr => retOut X3 hx Bd.returns rfl (Or.inr (Or.inr (Or.inl ⟨rfl, rfl, _, rfl⟩))) (hb hby d9_29) hr) (by decide) (by decide) (show Q_rm9 Z a1 k d h0 n0 _ T3.heap _ by rw [e3]; exact ⟨rfl, N0, rfl⟩)
theorem pn_0 : plainName "com/example/headroom/headroom/service/PeriodMeterResetPinLaw" = true := by first | (simp [plainName, overriddenIn]; done) | decide +kernel
theorem pd_1 : parseMethodDescriptor "()V" = some ⟨[], none⟩ := by decide +kernel
theorem pd_2 : parseMethodDescriptor "()J" = some ⟨[], some .long⟩ := by decide +kernel
theorem pd_3 : parseMethodDescriptor "()Z" = some ⟨[], some .boolean⟩ := by decide +kernel
theorem pd_4 : parseMethodDescriptor "(J)V" = some ⟨[.long], none⟩ := by decide +kernel
theorem pd_5 : parseMethodDescriptor "()D" = some ⟨[], some .double⟩ := by decide +kernel
theorem ef_rm0 (m : MethodId) (x1 : Int32) (q1 : Int64) (q2 : Int64) : entryFrame m #[(.int x1), (.long q1), (.long q2)] maxLocals = mkF m 0 #[.val (.int x1), .val (.long q1), .second, .val (.long q2), .second, .unset, .unset, .unset] [] := by first | (simp [entryFrame, mkF, argsToLocals, Value.category, maxLocals]; done) | rfl
def Q_rm0 (Z : State) (x1 : Int32) (q1 : Int64) (q2 : Int64) (h0 : Heap) (n0 : Nat) (v : Option Value) (h : Heap) (L : List Loc) : Prop := (v = some (.int (1 : Int32))) ∧ (Fr n0 L) ∧ (Keep h0 h [])
set_option maxRecDepth 65536 in
set_option maxHeartbeats 40000000 in
theorem rm0 (l : Launch) (Z : State) (a0 : Array Value) (hw : ∀ d ∈ tables_1, d.before a0 Z = true) (ws : List Jvm.Cond) (x1 : Int32) (q1 : Int64) (q2 : Int64) (h0 : Heap) (n0 : Nat) (Z0 : n0 ≤ h0.size) (OZ : Jvm.RoadKit.Old Z n0 h0)  :
    MetFree l x (head1 (Jvm.Cond.code x code maxLocals ret :: ws) room_1) (fun a U => a = #[(.int x1), (.long q1), (.long q2)] ∧ Z.Warmed39 U.vm ∧ U.heap = h0) (fun _ _ _ _ _ => True) (fun _ U o U' => ∃ v L, o = .returned v ∧ Q_rm0 Z x1 q1 q2 h0 n0 v U'.heap L ∧ FrameEnd U o U' L room_1.cells room_1.slots) := by
  refine MetFree.of_bodySF (plainFor_of_name pn_0) hisR ?_
  intro p e s m args below meth c s₁ Bd hml0 hP hK
  obtain ⟨rfl, hZ, hh⟩ := hP
  have hx := Bd.exec
  have hby := Bd.bytes
  have hml : c.maxLocals = 8 := hml0
  have hown : s.vm.findClass "com/example/headroom/headroom/service/PeriodMeterResetPinLaw" = some m.cls := findClass_of_methodNamed Bd.named
  have hnm := (name_of_methodNamed Bd.named Bd.method).1
  have hlk := Bd.notSynchronized
  have X0 : Stand p l e room_1 s m #[(.int x1), (.long q1), (.long q2)] below meth c s₁ [] 0 0 := Stand.of_body Bd
  have e0 : s₁.heap = h0 := by rw [← hh, Bd.state]; rfl
  have N0 := Fr.nil n0
  refine Wp.goal (Post := (fun o U' => ∃ v L, o = .returned v ∧ Q_rm0 Z x1 q1 q2 h0 n0 v U'.heap L ∧ FrameEnd s o U' L room_1.cells room_1.slots)) (Wp.st (S' := s₁.setTop (mkF m 0 #[.val (.int x1), .val (.long q1), .second, .val (.long q2), .second, .unset, .unset, .unset] [])) (fun tt_ kk_ => castTop (ef_rm0 m x1 q1 q2 ) kk_) ?_)
  have O0 : Jvm.RoadKit.Old Z n0 h0 := OZ
  have nz := own_zero
  obtain ⟨T1, h1, X1, e1, E1, A1, D1, U1, st1⟩ := newO X0 hx hZ hown (hw _ (List.mem_of_getElem? (i := 0) rfl)) (hw _ (List.mem_of_getElem? (i := 1) rfl)) (hw _ (List.mem_of_getElem? (i := 2) rfl)) e0 (g := (mkF m 0 #[.val (.int x1), .val (.long q1), .second, .val (.long q2), .second, .unset, .unset, .unset] [])) rfl (hb hby at_0) (by decide) (by decide)
  obtain ⟨b1, g1⟩ : ∃ z, z = h0.size := ⟨_, rfl⟩
  rw [← g1] at A1 D1 U1 st1
  have z2 := E1.1
  have g3 : n0 ≤ b1 := Nat.le_trans (Nat.le_trans Z0 (Nat.le_refl _)) (Nat.le_of_eq g1.symm)
  have F4 : Fld Z h1 b1 "com/example/headroom/headroom/service/PeriodMeter" "arrivals" "J" (.long (0 : Int64)) := D1 (Or.inl (hw _ (List.mem_of_getElem? (i := 15) rfl))) (ty := .long) (by decide)
  have F5 : Fld Z h1 b1 "com/example/headroom/headroom/service/PeriodMeter" "served" "J" (.long (0 : Int64)) := D1 (Or.inl (hw _ (List.mem_of_getElem? (i := 17) rfl))) (ty := .long) (by decide)
  have F6 : Fld Z h1 b1 "com/example/headroom/headroom/service/PeriodMeter" "serviceMs" "D" (.double (0 : UInt64)) := D1 (Or.inl (hw _ (List.mem_of_getElem? (i := 19) rfl))) (ty := .double) (by decide)
  refine Wp.st (S' := T1.setTop (mkF m 3 #[.val (.int x1), .val (.long q1), .second, .val (.long q2), .second, .unset, .unset, .unset] [(.ref b1)])) st1 ?_
  refine Wp.st (S' := T1.setTop (mkF m 4 #[.val (.int x1), .val (.long q1), .second, .val (.long q2), .second, .unset, .unset, .unset] [(.ref b1), (.ref b1)])) (fun tt_ kk_ => XS.dup X1.here hx rfl (hb hby at_3) rfl rfl kk_) ?_
  obtain ⟨vv7, _, ⟨T7, L7, k7, n7⟩, -, X7, ⟨Lc7, hQ7, l7, y7, z7⟩, st7⟩ := X1.specialBack hx (y := (⟨"com/example/headroom/headroom/service/PeriodMeter", "<init>", "()V"⟩ : MethodName)) rfl hown (mvT hZ (hw _ (List.mem_of_getElem? (i := 3) rfl))) (mvT hZ (hw _ (List.mem_of_getElem? (i := 4) rfl))) (mvT hZ (hw _ (List.mem_of_getElem? (i := 5) rfl))) (by decide) (backOf (W := 1) (rm1 l Z a0 hw [] b1 h1 n0 (Nat.le_trans Z0 z2) ) hZ (hw _ (List.mem_of_getElem? (i := 5) rfl)) (hw _ (List.mem_of_getElem? (i := 2) rfl)) (by decide) (by decide)) (g := (mkF m 4 #[.val (.int x1), .val (.long q1), .second, .val (.long q2), .second, .unset, .unset, .unset] [(.ref b1), (.ref b1)])) rfl (by rw [hml]; rfl) (Steps.refl _) (a := b1) (argsL := []) (rest := [(.ref b1)]) (lenOf pd_1 rfl) rfl (by show 2 * 0 + _ ≤ _; exact Nat.le_of_eq rfl) (hb hby at_4) (fun _ _ => ⟨rfl, e1, (by decide : 1 + 0 ≤ _), (by decide : 3 + 0 ≤ _)⟩)
  dsimp only [Pt.U, Pt.locs, Pt.cells, Pt.slots] at X7 l7 y7 z7 st7 hQ7
  subst l7 y7 z7
  obtain ⟨rfl, Nq7, e7⟩ := hQ7
  have N7 := Fr.app N0 Nq7
  refine Wp.tr (S' := T7.setTop (mkF m 7 #[.val (.int x1), .val (.long q1), .second, .val (.long q2), .second, .unset, .unset, .unset] [(.ref b1)])) st7 ?_
  refine Wp.st (S' := T7.setTop (mkF m 9 #[.val (.int x1), .val (.long q1), .second, .val (.long q2), .second, .val (.ref b1), .unset, .unset] [])) (fun tt_ kk_ => XS.astore X7.here hx rfl (hb hby at_7) rfl rfl (l' := #[.val (.int x1), .val (.long q1), .second, .val (.long q2), .second, .val (.ref b1), .unset, .unset]) rfl kk_) ?_
  have J8 : ∀ (TJ8 : State) (loJ8 : List Loc) (hJ8 : Heap) (na : Int64) (ka : Int64) (da : UInt64) (NJ8 : Fr n0 loJ8) (XJ8 : Stand p l e room_1 s m #[(.int x1), (.long q1), (.long q2)] below meth c TJ8 loJ8 1 3) (eJ8 : TJ8.heap = hJ8) (KJ8 : Keep h1 hJ8 [b1]) (J8_f0 : Exa Z hJ8 b1 "com/example/headroom/headroom/service/PeriodMeter") (J8_f1 : Fld Z hJ8 b1 "com/example/headroom/headroom/service/PeriodMeter" "arrivals" "J" (.long na)) (J8_f2 : Fld Z hJ8 b1 "com/example/headroom/headroom/service/PeriodMeter" "served" "J" (.long ka)) (J8_f3 : Fld Z hJ8 b1 "com/example/headroom/headroom/service/PeriodMeter" "serviceMs" "D" (.double da)) (hda : Jvm.Free.Fl.NoNaN64 da), Wp p e below (fun o U' => ∃ v L, o = .returned v ∧ Q_rm0 Z x1 q1 q2 h0 n0 v U'.heap L ∧ FrameEnd s o U' L room_1.cells room_1.slots) (TJ8.setTop (mkF m 20 #[.val (.int x1), .val (.long q1), .second, .val (.long q2), .second, .val (.ref b1), .unset, .unset] [])) := by
    intro TJ8 loJ8 hJ8 na ka da NJ8 XJ8 eJ8 KJ8 J8_f0 J8_f1 J8_f2 J8_f3 hda
    have z9 := KJ8.1
    have J10 : ∀ (TJ10 : State) (loJ10 : List Loc) (hJ10 : Heap) (nb : Int64) (kb : Int64) (db : UInt64) (NJ10 : Fr n0 loJ10) (XJ10 : Stand p l e room_1 s m #[(.int x1), (.long q1), (.long q2)] below meth c TJ10 loJ10 1 3) (eJ10 : TJ10.heap = hJ10) (KJ10 : Keep hJ8 hJ10 [b1]) (J10_f0 : Exa Z hJ10 b1 "com/example/headroom/headroom/service/PeriodMeter") (J10_f1 : Fld Z hJ10 b1 "com/example/headroom/headroom/service/PeriodMeter" "arrivals" "J" (.long nb)) (J10_f2 : Fld Z hJ10 b1 "com/example/headroom/headroom/service/PeriodMeter" "served" "J" (.long kb)) (J10_f3 : Fld Z hJ10 b1 "com/example/headroom/headroom/service/PeriodMeter" "serviceMs" "D" (.double db)) (hdb : Jvm.Free.Fl.NoNaN64 db), Wp p e below (fun o U' => ∃ v L, o = .returned v ∧ Q_rm0 Z x1 q1 q2 h0 n0 v U'.heap L ∧ FrameEnd s o U' L room_1.cells room_1.slots) (TJ10.setTop (mkF m 31 #[.val (.int x1), .val (.long q1), .second, .val (.long q2), .second, .val (.ref b1), .unset, .unset] [])) := by
      intro TJ10 loJ10 hJ10 nb kb db NJ10 XJ10 eJ10 KJ10 J10_f0 J10_f1 J10_f2 J10_f3 hdb
      have z11 := KJ10.1
      have J12 : ∀ (TJ12 : State) (loJ12 : List Loc) (hJ12 : Heap) (nc : Int64) (kc : Int64) (dc : UInt64) (NJ12 : Fr n0 loJ12) (XJ12 : Stand p l e room_1 s m #[(.int x1), (.long q1), (.long q2)] below meth c TJ12 loJ12 1 3) (eJ12 : TJ12.heap = hJ12) (KJ12 : Keep hJ10 hJ12 [b1]) (J12_f0 : Exa Z hJ12 b1 "com/example/headroom/headroom/service/PeriodMeter") (J12_f1 : Fld Z hJ12 b1 "com/example/headroom/headroom/service/PeriodMeter" "arrivals" "J" (.long nc)) (J12_f2 : Fld Z hJ12 b1 "com/example/headroom/headroom/service/PeriodMeter" "served" "J" (.long kc)) (J12_f3 : Fld Z hJ12 b1 "com/example/headroom/headroom/service/PeriodMeter" "serviceMs" "D" (.double dc)) (hdc : Jvm.Free.Fl.NoNaN64 dc), Wp p e below (fun o U' => ∃ v L, o = .returned v ∧ Q_rm0 Z x1 q1 q2 h0 n0 v U'.heap L ∧ FrameEnd s o U' L room_1.cells room_1.slots) (TJ12.setTop (mkF m 43 #[.val (.int x1), .val (.long q1), .second, .val (.long q2), .second, .val (.ref b1), .unset, .unset] [])) := by
        intro TJ12 loJ12 hJ12 nc kc dc NJ12 XJ12 eJ12 KJ12 J12_f0 J12_f1 J12_f2 J12_f3 hdc
        have z13 := KJ12.1
        refine Wp.st (S' := TJ12.setTop (mkF m 45 #[.val (.int x1), .val (.long q1), .second, .val (.long q2), .second, .val (.ref b1), .unset, .unset] [(.ref b1)])) (fun tt_ kk_ => XS.aload XJ12.here hx rfl (hb hby at_43) rfl rfl kk_) ?_
        obtain ⟨cq14, kq14, q14a, q14b, q14c⟩ := isOf hZ eJ12 J12_f0
        obtain ⟨vv14, _, ⟨T14, L14, k14, n14⟩, -, X14, ⟨Lc14, hQ14, l14, y14, z14⟩, st14⟩ := XJ12.virtualBack hx (y := (⟨"com/example/headroom/headroom/service/PeriodMeter", "reset", "()V"⟩ : MethodName)) (z := (⟨"com/example/headroom/headroom/service/PeriodMeter", "reset", "()V"⟩ : MethodName)) hown (mvT hZ (hw _ (List.mem_of_getElem? (i := 9) rfl))) (mvT hZ (hw _ (List.mem_of_getElem? (i := 10) rfl))) (notFace_of_selects (args := #[]) (mvT hZ (hw _ (List.mem_of_getElem? (i := 12) rfl)))) (mvT hZ (hw _ (List.mem_of_getElem? (i := 12) rfl))) (mvT hZ (hw _ (List.mem_of_getElem? (i := 11) rfl))) (by decide) (backOf (W := 0) (rm3 l Z a0 hw [] b1 nc kc dc hJ12 n0 (Nat.le_trans Z0 (Nat.le_trans (Nat.le_trans (Nat.le_trans z2 z9) z11) z13)) g3 J12_f0 J12_f1 J12_f2 J12_f3) hZ (hw _ (List.mem_of_getElem? (i := 13) rfl)) (hw _ (List.mem_of_getElem? (i := 2) rfl)) (by decide) (by decide)) q14a q14c (g := (mkF m 45 #[.val (.int x1), .val (.long q1), .second, .val (.long q2), .second, .val (.ref b1), .unset, .unset] [(.ref b1)])) rfl (by rw [hml]; rfl) (Steps.refl _) (argsL := []) (rest := []) (lenOf pd_1 rfl) rfl (by show 2 * 0 + _ ≤ _; exact Nat.le_of_eq rfl) (hb hby at_45) (fun _ _ => ⟨rfl, eJ12, (by decide : 1 + 0 ≤ _), (by decide : 3 + 0 ≤ _)⟩)
        dsimp only [Pt.U, Pt.locs, Pt.cells, Pt.slots] at X14 l14 y14 z14 st14 hQ14
        subst l14 y14 z14
        obtain ⟨rfl, Nq14, K14, P14_0, P14_1, P14_2, P14_3⟩ := hQ14
        have N14 := Fr.app NJ12 Nq14
        have z15 := K14.1
        have e14 : T14.heap = T14.heap := rfl
        refine Wp.tr (S' := T14.setTop (mkF m 48 #[.val (.int x1), .val (.long q1), .second, .val (.long q2), .second, .val (.ref b1), .unset, .unset] [])) st14 ?_
        refine Wp.st (S' := T14.setTop (mkF m 50 #[.val (.int x1), .val (.long q1), .second, .val (.long q2), .second, .val (.ref b1), .unset, .unset] [(.ref b1)])) (fun tt_ kk_ => XS.aload X14.here hx rfl (hb hby at_48) rfl rfl kk_) ?_
        obtain ⟨cq16, kq16, q16a, q16b, q16c⟩ := isOf hZ e14 P14_0
        obtain ⟨vv16, _, ⟨T16, L16, k16, n16⟩, -, X16, ⟨Lc16, hQ16, l16, y16, z16⟩, st16⟩ := X14.virtualBack hx (y := (⟨"com/example/headroom/headroom/service/PeriodMeter", "getArrivals", "()J"⟩ : MethodName)) (z := (⟨"com/example/headroom/headroom/service/PeriodMeter", "getArrivals", "()J"⟩ : MethodName)) hown (mvT hZ (hw _ (List.mem_of_getElem? (i := 20) rfl))) (mvT hZ (hw _ (List.mem_of_getElem? (i := 21) rfl))) (notFace_of_selects (args := #[]) (mvT hZ (hw _ (List.mem_of_getElem? (i := 23) rfl)))) (mvT hZ (hw _ (List.mem_of_getElem? (i := 23) rfl))) (mvT hZ (hw _ (List.mem_of_getElem? (i := 22) rfl))) (by decide) (backOf (W := 0) (rm4 l Z a0 hw [] b1 (0 : Int64) T14.heap n0 (Nat.le_trans Z0 (Nat.le_trans (Nat.le_trans (Nat.le_trans (Nat.le_trans z2 z9) z11) z13) z15)) P14_1) hZ (hw _ (List.mem_of_getElem? (i := 24) rfl)) (hw _ (List.mem_of_getElem? (i := 2) rfl)) (by decide) (by decide)) q16a q16c (g := (mkF m 50 #[.val (.int x1), .val (.long q1), .second, .val (.long q2), .second, .val (.ref b1), .unset, .unset] [(.ref b1)])) rfl (by rw [hml]; rfl) (Steps.refl _) (argsL := []) (rest := []) (lenOf pd_2 rfl) rfl (by show 2 * 0 + _ ≤ _; exact Nat.le_of_eq rfl) (hb hby at_50) (fun _ _ => ⟨rfl, e14, (by decide : 1 + 0 ≤ _), (by decide : 3 + 0 ≤ _)⟩)
        dsimp only [Pt.U, Pt.locs, Pt.cells, Pt.slots] at X16 l16 y16 z16 st16 hQ16
        subst l16 y16 z16
        obtain ⟨rfl, Nq16, e16⟩ := hQ16
        have N16 := Fr.app N14 Nq16
        refine Wp.tr (S' := T16.setTop (mkF m 53 #[.val (.int x1), .val (.long q1), .second, .val (.long q2), .second, .val (.ref b1), .unset, .unset] [(.long (0 : Int64))])) st16 ?_
        refine Wp.st (S' := T16.setTop (mkF m 54 #[.val (.int x1), .val (.long q1), .second, .val (.long q2), .second, .val (.ref b1), .unset, .unset] [(.long (0 : Int64)), (.long (0 : Int64))])) (fun tt_ kk_ => XS.lconst X16.here hx rfl (hb hby at_53) kk_) ?_
        refine Wp.st (S' := T16.setTop (mkF m 55 #[.val (.int x1), .val (.long q1), .second, .val (.long q2), .second, .val (.ref b1), .unset, .unset] [(.int (lcmpW (0 : Int64) (0 : Int64)))])) (fun tt_ kk_ => XS.lcmp X16.here hx rfl (hb hby at_54) rfl kk_) ?_
        refine Wp.st (S' := T16.setTop (mkF m 58 #[.val (.int x1), .val (.long q1), .second, .val (.long q2), .second, .val (.ref b1), .unset, .unset] [])) (fun tt_ kk_ => XS.ifNo X16.here hx rfl (hb hby at_55) rfl ((if0 _ _).trans (teq (rfl : (lcmpW (0 : Int64) (0 : Int64)) = (0 : Int32))).2) kk_) ?_
        refine Wp.st (S' := T16.setTop (mkF m 60 #[.val (.int x1), .val (.long q1), .second, .val (.long q2), .second, .val (.ref b1), .unset, .unset] [(.ref b1)])) (fun tt_ kk_ => XS.aload X16.here hx rfl (hb hby at_58) rfl rfl kk_) ?_
        obtain ⟨cq17, kq17, q17a, q17b, q17c⟩ := isOf hZ e16 P14_0
        obtain ⟨vv17, _, ⟨T17, L17, k17, n17⟩, -, X17, ⟨Lc17, hQ17, l17, y17, z17⟩, st17⟩ := X16.virtualBack hx (y := (⟨"com/example/headroom/headroom/service/PeriodMeter", "hasServed", "()Z"⟩ : MethodName)) (z := (⟨"com/example/headroom/headroom/service/PeriodMeter", "hasServed", "()Z"⟩ : MethodName)) hown (mvT hZ (hw _ (List.mem_of_getElem? (i := 25) rfl))) (mvT hZ (hw _ (List.mem_of_getElem? (i := 26) rfl))) (notFace_of_selects (args := #[]) (mvT hZ (hw _ (List.mem_of_getElem? (i := 28) rfl)))) (mvT hZ (hw _ (List.mem_of_getElem? (i := 28) rfl))) (mvT hZ (hw _ (List.mem_of_getElem? (i := 27) rfl))) (by decide) (backOf (W := 0) (rm5 l Z a0 hw [] b1 (0 : Int64) T14.heap n0 (Nat.le_trans Z0 (Nat.le_trans (Nat.le_trans (Nat.le_trans (Nat.le_trans z2 z9) z11) z13) z15)) P14_2) hZ (hw _ (List.mem_of_getElem? (i := 29) rfl)) (hw _ (List.mem_of_getElem? (i := 2) rfl)) (by decide) (by decide)) q17a q17c (g := (mkF m 60 #[.val (.int x1), .val (.long q1), .second, .val (.long q2), .second, .val (.ref b1), .unset, .unset] [(.ref b1)])) rfl (by rw [hml]; rfl) (Steps.refl _) (argsL := []) (rest := []) (lenOf pd_3 rfl) rfl (by show 2 * 0 + _ ≤ _; exact Nat.le_of_eq rfl) (hb hby at_60) (fun _ _ => ⟨rfl, e16, (by decide : 1 + 0 ≤ _), (by decide : 3 + 0 ≤ _)⟩)
        dsimp only [Pt.U, Pt.locs, Pt.cells, Pt.slots] at X17 l17 y17 z17 st17 hQ17
        subst l17 y17 z17
        obtain ⟨rfl, Nq17, e17⟩ := hQ17
        have N17 := Fr.app N16 Nq17
        refine Wp.tr (S' := T17.setTop (mkF m 63 #[.val (.int x1), .val (.long q1), .second, .val (.long q2), .second, .val (.ref b1), .unset, .unset] [(.int (if (0 : Int64) < (0 : Int64) then (1 : Int32) else (0 : Int32)))])) st17 ?_
        rw [(if_neg (by decide) : (if (0 : Int64) < (0 : Int64) then (1 : Int32) else (0 : Int32)) = (0 : Int32))]
        refine Wp.st (S' := T17.setTop (mkF m 66 #[.val (.int x1), .val (.long q1), .second, .val (.long q2), .second, .val (.ref b1), .unset, .unset] [])) (fun tt_ kk_ => XS.ifNo X17.here hx rfl (hb hby at_63) rfl ((if0 _ _).trans (teq ((by decide) : (0 : Int32) = (0 : Int32))).2) kk_) ?_
        refine Wp.st (S' := T17.setTop (mkF m 67 #[.val (.int x1), .val (.long q1), .second, .val (.long q2), .second, .val (.ref b1), .unset, .unset] [(.int (1 : Int32))])) (fun tt_ kk_ => XS.iconst X17.here hx rfl (hb hby at_66) kk_) ?_
        refine Wp.st (S' := T17.setTop (mkF m 71 #[.val (.int x1), .val (.long q1), .second, .val (.long q2), .second, .val (.ref b1), .unset, .unset] [(.int (1 : Int32))])) (fun tt_ kk_ => XS.goto X17.here hx rfl (pc0 := 67) (pc' := 71) rfl (hb hby at_67) (by decide) (by decide) kk_) ?_
        refine Wp.st (S' := T17.setTop (mkF m 73 #[.val (.int x1), .val (.long q1), .second, .val (.long q2), .second, .val (.ref b1), .val (.int (1 : Int32)), .unset] [])) (fun tt_ kk_ => XS.istore X17.here hx rfl (hb hby at_71) rfl (l' := #[.val (.int x1), .val (.long q1), .second, .val (.long q2), .second, .val (.ref b1), .val (.int (1 : Int32)), .unset]) rfl kk_) ?_
        refine Wp.st (S' := T17.setTop (mkF m 75 #[.val (.int x1), .val (.long q1), .second, .val (.long q2), .second, .val (.ref b1), .val (.int (1 : Int32)), .unset] [(.ref b1)])) (fun tt_ kk_ => XS.aload X17.here hx rfl (hb hby at_73) rfl rfl kk_) ?_
        obtain ⟨cq18, kq18, q18a, q18b, q18c⟩ := isOf hZ e17 P14_0
        obtain ⟨vv18, _, ⟨T18, L18, k18, n18⟩, -, X18, ⟨Lc18, hQ18, l18, y18, z18⟩, st18⟩ := X17.virtualBack hx (y := (⟨"com/example/headroom/headroom/service/PeriodMeter", "arrived", "()V"⟩ : MethodName)) (z := (⟨"com/example/headroom/headroom/service/PeriodMeter", "arrived", "()V"⟩ : MethodName)) hown (mvT hZ (hw _ (List.mem_of_getElem? (i := 30) rfl))) (mvT hZ (hw _ (List.mem_of_getElem? (i := 31) rfl))) (notFace_of_selects (args := #[]) (mvT hZ (hw _ (List.mem_of_getElem? (i := 33) rfl)))) (mvT hZ (hw _ (List.mem_of_getElem? (i := 33) rfl))) (mvT hZ (hw _ (List.mem_of_getElem? (i := 32) rfl))) (by decide) (backOf (W := 0) (rm6 l Z a0 hw [] b1 (0 : Int64) (0 : Int64) (0 : UInt64) T14.heap n0 (Nat.le_trans Z0 (Nat.le_trans (Nat.le_trans (Nat.le_trans (Nat.le_trans z2 z9) z11) z13) z15)) g3 P14_0 P14_1 P14_2 P14_3) hZ (hw _ (List.mem_of_getElem? (i := 34) rfl)) (hw _ (List.mem_of_getElem? (i := 2) rfl)) (by decide) (by decide)) q18a q18c (g := (mkF m 75 #[.val (.int x1), .val (.long q1), .second, .val (.long q2), .second, .val (.ref b1), .val (.int (1 : Int32)), .unset] [(.ref b1)])) rfl (by rw [hml]; rfl) (Steps.refl _) (argsL := []) (rest := []) (lenOf pd_1 rfl) rfl (by show 2 * 0 + _ ≤ _; exact Nat.le_of_eq rfl) (hb hby at_75) (fun _ _ => ⟨rfl, e17, (by decide : 1 + 0 ≤ _), (by decide : 3 + 0 ≤ _)⟩)
        dsimp only [Pt.U, Pt.locs, Pt.cells, Pt.slots] at X18 l18 y18 z18 st18 hQ18
        subst l18 y18 z18
        obtain ⟨rfl, Nq18, K18, P18_0, P18_1, P18_2, P18_3⟩ := hQ18
        have N18 := Fr.app N17 Nq18
        have z19 := K18.1
        have e18 : T18.heap = T18.heap := rfl
        refine Wp.tr (S' := T18.setTop (mkF m 78 #[.val (.int x1), .val (.long q1), .second, .val (.long q2), .second, .val (.ref b1), .val (.int (1 : Int32)), .unset] [])) st18 ?_
        refine Wp.st (S' := T18.setTop (mkF m 80 #[.val (.int x1), .val (.long q1), .second, .val (.long q2), .second, .val (.ref b1), .val (.int (1 : Int32)), .unset] [(.ref b1)])) (fun tt_ kk_ => XS.aload X18.here hx rfl (hb hby at_78) rfl rfl kk_) ?_
        refine Wp.st (S' := T18.setTop (mkF m 81 #[.val (.int x1), .val (.long q1), .second, .val (.long q2), .second, .val (.ref b1), .val (.int (1 : Int32)), .unset] [(.long q2), (.ref b1)])) (fun tt_ kk_ => XS.lloadN X18.here hx rfl (hb hby at_80) rfl  kk_) ?_
        obtain ⟨cq20, kq20, q20a, q20b, q20c⟩ := isOf hZ e18 P18_0
        obtain ⟨vv20, _, ⟨T20, L20, k20, n20⟩, -, X20, ⟨Lc20, hQ20, l20, y20, z20⟩, st20⟩ := X18.virtualBack hx (y := (⟨"com/example/headroom/headroom/service/PeriodMeter", "served", "(J)V"⟩ : MethodName)) (z := (⟨"com/example/headroom/headroom/service/PeriodMeter", "served", "(J)V"⟩ : MethodName)) hown (mvT hZ (hw _ (List.mem_of_getElem? (i := 35) rfl))) (mvT hZ (hw _ (List.mem_of_getElem? (i := 36) rfl))) (notFace_of_selects (args := #[]) (mvT hZ (hw _ (List.mem_of_getElem? (i := 38) rfl)))) (mvT hZ (hw _ (List.mem_of_getElem? (i := 38) rfl))) (mvT hZ (hw _ (List.mem_of_getElem? (i := 37) rfl))) (by decide) (backOf (W := 0) (rm7 l Z a0 hw [] b1 q2 ((0 : Int64) + (1 : Int64)) (0 : Int64) (0 : UInt64) T18.heap n0 (Nat.le_trans Z0 (Nat.le_trans (Nat.le_trans (Nat.le_trans (Nat.le_trans (Nat.le_trans z2 z9) z11) z13) z15) z19)) g3 P18_0 P18_1 P18_2 P18_3 ((by first | assumption | exact own_zero) : Jvm.Free.Fl.NoNaN64 (0 : UInt64))) hZ (hw _ (List.mem_of_getElem? (i := 39) rfl)) (hw _ (List.mem_of_getElem? (i := 2) rfl)) (by decide) (by decide)) q20a q20c (g := (mkF m 81 #[.val (.int x1), .val (.long q1), .second, .val (.long q2), .second, .val (.ref b1), .val (.int (1 : Int32)), .unset] [(.long q2), (.ref b1)])) rfl (by rw [hml]; rfl) (Steps.refl _) (argsL := [(.long q2)]) (rest := []) (lenOf pd_4 rfl) rfl (by show 2 * 0 + _ ≤ _; exact Nat.le_of_eq rfl) (hb hby at_81) (fun _ _ => ⟨rfl, e18, (by decide : 1 + 0 ≤ _), (by decide : 3 + 0 ≤ _)⟩)
        dsimp only [Pt.U, Pt.locs, Pt.cells, Pt.slots] at X20 l20 y20 z20 st20 hQ20
        subst l20 y20 z20
        obtain ⟨rfl, Nq20, K20, P20_0, P20_1, P20_2, P20_3⟩ := hQ20
        have N20 := Fr.app N18 Nq20
        have z21 := K20.1
        have e20 : T20.heap = T20.heap := rfl
        refine Wp.tr (S' := T20.setTop (mkF m 84 #[.val (.int x1), .val (.long q1), .second, .val (.long q2), .second, .val (.ref b1), .val (.int (1 : Int32)), .unset] [])) st20 ?_
        refine Wp.st (S' := T20.setTop (mkF m 86 #[.val (.int x1), .val (.long q1), .second, .val (.long q2), .second, .val (.ref b1), .val (.int (1 : Int32)), .unset] [(.ref b1)])) (fun tt_ kk_ => XS.aload X20.here hx rfl (hb hby at_84) rfl rfl kk_) ?_
        obtain ⟨cq22, kq22, q22a, q22b, q22c⟩ := isOf hZ e20 P20_0
        obtain ⟨vv22, _, ⟨T22, L22, k22, n22⟩, -, X22, ⟨Lc22, hQ22, l22, y22, z22⟩, st22⟩ := X20.virtualBack hx (y := (⟨"com/example/headroom/headroom/service/PeriodMeter", "getArrivals", "()J"⟩ : MethodName)) (z := (⟨"com/example/headroom/headroom/service/PeriodMeter", "getArrivals", "()J"⟩ : MethodName)) hown (mvT hZ (hw _ (List.mem_of_getElem? (i := 20) rfl))) (mvT hZ (hw _ (List.mem_of_getElem? (i := 21) rfl))) (notFace_of_selects (args := #[]) (mvT hZ (hw _ (List.mem_of_getElem? (i := 23) rfl)))) (mvT hZ (hw _ (List.mem_of_getElem? (i := 23) rfl))) (mvT hZ (hw _ (List.mem_of_getElem? (i := 22) rfl))) (by decide) (backOf (W := 0) (rm4 l Z a0 hw [] b1 ((0 : Int64) + (1 : Int64)) T20.heap n0 (Nat.le_trans Z0 (Nat.le_trans (Nat.le_trans (Nat.le_trans (Nat.le_trans (Nat.le_trans (Nat.le_trans z2 z9) z11) z13) z15) z19) z21)) P20_1) hZ (hw _ (List.mem_of_getElem? (i := 24) rfl)) (hw _ (List.mem_of_getElem? (i := 2) rfl)) (by decide) (by decide)) q22a q22c (g := (mkF m 86 #[.val (.int x1), .val (.long q1), .second, .val (.long q2), .second, .val (.ref b1), .val (.int (1 : Int32)), .unset] [(.ref b1)])) rfl (by rw [hml]; rfl) (Steps.refl _) (argsL := []) (rest := []) (lenOf pd_2 rfl) rfl (by show 2 * 0 + _ ≤ _; exact Nat.le_of_eq rfl) (hb hby at_86) (fun _ _ => ⟨rfl, e20, (by decide : 1 + 0 ≤ _), (by decide : 3 + 0 ≤ _)⟩)
        dsimp only [Pt.U, Pt.locs, Pt.cells, Pt.slots] at X22 l22 y22 z22 st22 hQ22
        subst l22 y22 z22
        obtain ⟨rfl, Nq22, e22⟩ := hQ22
        have N22 := Fr.app N20 Nq22
        refine Wp.tr (S' := T22.setTop (mkF m 89 #[.val (.int x1), .val (.long q1), .second, .val (.long q2), .second, .val (.ref b1), .val (.int (1 : Int32)), .unset] [(.long ((0 : Int64) + (1 : Int64)))])) st22 ?_
        refine Wp.st (S' := T22.setTop (mkF m 90 #[.val (.int x1), .val (.long q1), .second, .val (.long q2), .second, .val (.ref b1), .val (.int (1 : Int32)), .unset] [(.long (1 : Int64)), (.long ((0 : Int64) + (1 : Int64)))])) (fun tt_ kk_ => XS.lconst X22.here hx rfl (hb hby at_89) kk_) ?_
        refine Wp.st (S' := T22.setTop (mkF m 91 #[.val (.int x1), .val (.long q1), .second, .val (.long q2), .second, .val (.ref b1), .val (.int (1 : Int32)), .unset] [(.int (lcmpW ((0 : Int64) + (1 : Int64)) (1 : Int64)))])) (fun tt_ kk_ => XS.lcmp X22.here hx rfl (hb hby at_90) rfl kk_) ?_
        refine Wp.st (S' := T22.setTop (mkF m 94 #[.val (.int x1), .val (.long q1), .second, .val (.long q2), .second, .val (.ref b1), .val (.int (1 : Int32)), .unset] [])) (fun tt_ kk_ => XS.ifNo X22.here hx rfl (hb hby at_91) rfl ((if0 _ _).trans (teq (rfl : (lcmpW ((0 : Int64) + (1 : Int64)) (1 : Int64)) = (0 : Int32))).2) kk_) ?_
        refine Wp.st (S' := T22.setTop (mkF m 96 #[.val (.int x1), .val (.long q1), .second, .val (.long q2), .second, .val (.ref b1), .val (.int (1 : Int32)), .unset] [(.ref b1)])) (fun tt_ kk_ => XS.aload X22.here hx rfl (hb hby at_94) rfl rfl kk_) ?_
        obtain ⟨cq23, kq23, q23a, q23b, q23c⟩ := isOf hZ e22 P20_0
        obtain ⟨vv23, _, ⟨T23, L23, k23, n23⟩, -, X23, ⟨Lc23, hQ23, l23, y23, z23⟩, st23⟩ := X22.virtualBack hx (y := (⟨"com/example/headroom/headroom/service/PeriodMeter", "hasServed", "()Z"⟩ : MethodName)) (z := (⟨"com/example/headroom/headroom/service/PeriodMeter", "hasServed", "()Z"⟩ : MethodName)) hown (mvT hZ (hw _ (List.mem_of_getElem? (i := 25) rfl))) (mvT hZ (hw _ (List.mem_of_getElem? (i := 26) rfl))) (notFace_of_selects (args := #[]) (mvT hZ (hw _ (List.mem_of_getElem? (i := 28) rfl)))) (mvT hZ (hw _ (List.mem_of_getElem? (i := 28) rfl))) (mvT hZ (hw _ (List.mem_of_getElem? (i := 27) rfl))) (by decide) (backOf (W := 0) (rm5 l Z a0 hw [] b1 ((0 : Int64) + (1 : Int64)) T20.heap n0 (Nat.le_trans Z0 (Nat.le_trans (Nat.le_trans (Nat.le_trans (Nat.le_trans (Nat.le_trans (Nat.le_trans z2 z9) z11) z13) z15) z19) z21)) P20_2) hZ (hw _ (List.mem_of_getElem? (i := 29) rfl)) (hw _ (List.mem_of_getElem? (i := 2) rfl)) (by decide) (by decide)) q23a q23c (g := (mkF m 96 #[.val (.int x1), .val (.long q1), .second, .val (.long q2), .second, .val (.ref b1), .val (.int (1 : Int32)), .unset] [(.ref b1)])) rfl (by rw [hml]; rfl) (Steps.refl _) (argsL := []) (rest := []) (lenOf pd_3 rfl) rfl (by show 2 * 0 + _ ≤ _; exact Nat.le_of_eq rfl) (hb hby at_96) (fun _ _ => ⟨rfl, e22, (by decide : 1 + 0 ≤ _), (by decide : 3 + 0 ≤ _)⟩)
        dsimp only [Pt.U, Pt.locs, Pt.cells, Pt.slots] at X23 l23 y23 z23 st23 hQ23
        subst l23 y23 z23
        obtain ⟨rfl, Nq23, e23⟩ := hQ23
        have N23 := Fr.app N22 Nq23
        refine Wp.tr (S' := T23.setTop (mkF m 99 #[.val (.int x1), .val (.long q1), .second, .val (.long q2), .second, .val (.ref b1), .val (.int (1 : Int32)), .unset] [(.int (if (0 : Int64) < ((0 : Int64) + (1 : Int64)) then (1 : Int32) else (0 : Int32)))])) st23 ?_
        rw [(if_pos (by decide) : (if (0 : Int64) < ((0 : Int64) + (1 : Int64)) then (1 : Int32) else (0 : Int32)) = (1 : Int32))]
        have nm := own_ms own_zero q2
        have nd : Jvm.Free.Fl.NoNaN64 (FP.ddiv (FP.dadd (0 : UInt64) (FP.ddiv (FP.l2d q2) (4696837146684686336 : UInt64))) (FP.l2d ((0 : Int64) + (1 : Int64)))) := by rw [own_div1 nm]; exact nm
        refine Wp.st (S' := T23.setTop (mkF m 102 #[.val (.int x1), .val (.long q1), .second, .val (.long q2), .second, .val (.ref b1), .val (.int (1 : Int32)), .unset] [])) (fun tt_ kk_ => XS.ifNo X23.here hx rfl (hb hby at_99) rfl ((if0 _ _).trans (feq ((by decide) : ¬ ((1 : Int32) = (0 : Int32)))).1) kk_) ?_
        refine Wp.st (S' := T23.setTop (mkF m 104 #[.val (.int x1), .val (.long q1), .second, .val (.long q2), .second, .val (.ref b1), .val (.int (1 : Int32)), .unset] [(.ref b1)])) (fun tt_ kk_ => XS.aload X23.here hx rfl (hb hby at_102) rfl rfl kk_) ?_
        obtain ⟨cq24, kq24, q24a, q24b, q24c⟩ := isOf hZ e23 P20_0
        obtain ⟨vv24, _, ⟨T24, L24, k24, n24⟩, -, X24, ⟨Lc24, hQ24, l24, y24, z24⟩, st24⟩ := X23.virtualBack hx (y := (⟨"com/example/headroom/headroom/service/PeriodMeter", "meanServiceMs", "()D"⟩ : MethodName)) (z := (⟨"com/example/headroom/headroom/service/PeriodMeter", "meanServiceMs", "()D"⟩ : MethodName)) hown (mvT hZ (hw _ (List.mem_of_getElem? (i := 45) rfl))) (mvT hZ (hw _ (List.mem_of_getElem? (i := 46) rfl))) (notFace_of_selects (args := #[]) (mvT hZ (hw _ (List.mem_of_getElem? (i := 48) rfl)))) (mvT hZ (hw _ (List.mem_of_getElem? (i := 48) rfl))) (mvT hZ (hw _ (List.mem_of_getElem? (i := 47) rfl))) (by decide) (backOf (W := 0) (rm9 l Z a0 hw [] b1 ((0 : Int64) + (1 : Int64)) (FP.dadd (0 : UInt64) (FP.ddiv (FP.l2d q2) (4696837146684686336 : UInt64))) T20.heap n0 (Nat.le_trans Z0 (Nat.le_trans (Nat.le_trans (Nat.le_trans (Nat.le_trans (Nat.le_trans (Nat.le_trans z2 z9) z11) z13) z15) z19) z21)) P20_2 P20_3 ((by decide) : ¬ (lcmpW ((0 : Int64) + (1 : Int64)) (0 : Int64) = (0 : Int32))) ((by assumption) : Jvm.Free.Fl.NoNaN64 (FP.ddiv (FP.dadd (0 : UInt64) (FP.ddiv (FP.l2d q2) (4696837146684686336 : UInt64))) (FP.l2d ((0 : Int64) + (1 : Int64)))))) hZ (hw _ (List.mem_of_getElem? (i := 49) rfl)) (hw _ (List.mem_of_getElem? (i := 2) rfl)) (by decide) (by decide)) q24a q24c (g := (mkF m 104 #[.val (.int x1), .val (.long q1), .second, .val (.long q2), .second, .val (.ref b1), .val (.int (1 : Int32)), .unset] [(.ref b1)])) rfl (by rw [hml]; rfl) (Steps.refl _) (argsL := []) (rest := []) (lenOf pd_5 rfl) rfl (by show 2 * 0 + _ ≤ _; exact Nat.le_of_eq rfl) (hb hby at_104) (fun _ _ => ⟨rfl, e23, (by decide : 1 + 0 ≤ _), (by decide : 3 + 0 ≤ _)⟩)
        dsimp only [Pt.U, Pt.locs, Pt.cells, Pt.slots] at X24 l24 y24 z24 st24 hQ24
        subst l24 y24 z24
        obtain ⟨rfl, Nq24, e24⟩ := hQ24
        have N24 := Fr.app N23 Nq24
        refine Wp.tr (S' := T24.setTop (mkF m 107 #[.val (.int x1), .val (.long q1), .second, .val (.long q2), .second, .val (.ref b1), .val (.int (1 : Int32)), .unset] [(.double (FP.ddiv (FP.dadd (0 : UInt64) (FP.ddiv (FP.l2d q2) (4696837146684686336 : UInt64))) (FP.l2d ((0 : Int64) + (1 : Int64)))))])) st24 ?_
        refine Wp.st (S' := T24.setTop (mkF m 108 #[.val (.int x1), .val (.long q1), .second, .val (.long q2), .second, .val (.ref b1), .val (.int (1 : Int32)), .unset] [(.long q2), (.double (FP.ddiv (FP.dadd (0 : UInt64) (FP.ddiv (FP.l2d q2) (4696837146684686336 : UInt64))) (FP.l2d ((0 : Int64) + (1 : Int64)))))])) (fun tt_ kk_ => XS.lloadN X24.here hx rfl (hb hby at_107) rfl  kk_) ?_
        refine Wp.st (S' := T24.setTop (mkF m 109 #[.val (.int x1), .val (.long q1), .second, .val (.long q2), .second, .val (.ref b1), .val (.int (1 : Int32)), .unset] [(.double (FP.l2d q2)), (.double (FP.ddiv (FP.dadd (0 : UInt64) (FP.ddiv (FP.l2d q2) (4696837146684686336 : UInt64))) (FP.l2d ((0 : Int64) + (1 : Int64)))))])) (fun tt_ kk_ => XS.l2dS X24.here hx rfl (hb hby at_108) rfl rfl kk_) ?_
        obtain ⟨vv25, _, ⟨T25, L25, k25, n25⟩, -, X25, ⟨Lc25, hQ25, l25, y25, z25⟩, st25⟩ := Jvm.LawKit.callS X24 hx (y := (⟨"com/example/headroom/headroom/model/Millis", "fromNanos", "(D)D"⟩ : MethodName)) hown (mvT hZ (hw _ (List.mem_of_getElem? (i := 50) rfl))) (mvT hZ (hw _ (List.mem_of_getElem? (i := 41) rfl))) (mvT hZ (hw _ (List.mem_of_getElem? (i := 42) rfl))) (mvT hZ (hw _ (List.mem_of_getElem? (i := 43) rfl))) (by decide) (backOf (W := 2) (rm8 l Z a0 hw [] (FP.l2d q2) T20.heap n0 (Nat.le_trans Z0 (Nat.le_trans (Nat.le_trans (Nat.le_trans (Nat.le_trans (Nat.le_trans (Nat.le_trans z2 z9) z11) z13) z15) z19) z21)) ((own_dv _).noNaN : Jvm.Free.Fl.NoNaN64 (FP.ddiv (FP.l2d q2) (4696837146684686336 : UInt64)))) hZ (hw _ (List.mem_of_getElem? (i := 43) rfl)) (hw _ (List.mem_of_getElem? (i := 42) rfl)) (by decide) (by decide)) (g := (mkF m 109 #[.val (.int x1), .val (.long q1), .second, .val (.long q2), .second, .val (.ref b1), .val (.int (1 : Int32)), .unset] [(.double (FP.l2d q2)), (.double (FP.ddiv (FP.dadd (0 : UInt64) (FP.ddiv (FP.l2d q2) (4696837146684686336 : UInt64))) (FP.l2d ((0 : Int64) + (1 : Int64)))))])) rfl (by rw [hml]; rfl) (argsL := [(.double (FP.l2d q2))]) (rest := [(.double (FP.ddiv (FP.dadd (0 : UInt64) (FP.ddiv (FP.l2d q2) (4696837146684686336 : UInt64))) (FP.l2d ((0 : Int64) + (1 : Int64)))))]) (lenOf pd_0 rfl) rfl (by show 2 * 0 + _ ≤ _; exact Nat.le_of_eq rfl) (hb hby at_109) (fun _ _ => ⟨rfl, e24, (by decide : 1 + 0 ≤ _), (by decide : 3 + 0 ≤ _)⟩)
        dsimp only [Pt.U, Pt.locs, Pt.cells, Pt.slots] at X25 l25 y25 z25 st25 hQ25
        subst l25 y25 z25
        obtain ⟨rfl, Nq25, e25⟩ := hQ25
        have N25 := Fr.app N24 Nq25
        refine Wp.st (S' := T25.setTop (mkF m 112 #[.val (.int x1), .val (.long q1), .second, .val (.long q2), .second, .val (.ref b1), .val (.int (1 : Int32)), .unset] [(.double (FP.ddiv (FP.l2d q2) (4696837146684686336 : UInt64))), (.double (FP.ddiv (FP.dadd (0 : UInt64) (FP.ddiv (FP.l2d q2) (4696837146684686336 : UInt64))) (FP.l2d ((0 : Int64) + (1 : Int64)))))])) st25 ?_
        refine Wp.st (S' := T25.setTop (mkF m 113 #[.val (.int x1), .val (.long q1), .second, .val (.long q2), .second, .val (.ref b1), .val (.int (1 : Int32)), .unset] [(.int (0 : Int32))])) (fun tt_ kk_ => XS.dcmpS X25.here hx rfl (hb hby at_112) rfl (own_mean (own_dv q2).noNaN nm) kk_) ?_
        refine Wp.st (S' := T25.setTop (mkF m 116 #[.val (.int x1), .val (.long q1), .second, .val (.long q2), .second, .val (.ref b1), .val (.int (1 : Int32)), .unset] [])) (fun tt_ kk_ => XS.ifNo X25.here hx rfl (hb hby at_113) rfl ((if0 _ _).trans (teq ((by decide) : (0 : Int32) = (0 : Int32))).2) kk_) ?_
        refine Wp.st (S' := T25.setTop (mkF m 117 #[.val (.int x1), .val (.long q1), .second, .val (.long q2), .second, .val (.ref b1), .val (.int (1 : Int32)), .unset] [(.int (1 : Int32))])) (fun tt_ kk_ => XS.iconst X25.here hx rfl (hb hby at_116) kk_) ?_
        refine Wp.st (S' := T25.setTop (mkF m 121 #[.val (.int x1), .val (.long q1), .second, .val (.long q2), .second, .val (.ref b1), .val (.int (1 : Int32)), .unset] [(.int (1 : Int32))])) (fun tt_ kk_ => XS.goto X25.here hx rfl (pc0 := 117) (pc' := 121) rfl (hb hby at_117) (by decide) (by decide) kk_) ?_
        refine Wp.st (S' := T25.setTop (mkF m 123 #[.val (.int x1), .val (.long q1), .second, .val (.long q2), .second, .val (.ref b1), .val (.int (1 : Int32)), .val (.int (1 : Int32))] [])) (fun tt_ kk_ => XS.istore X25.here hx rfl (hb hby at_121) rfl (l' := #[.val (.int x1), .val (.long q1), .second, .val (.long q2), .second, .val (.ref b1), .val (.int (1 : Int32)), .val (.int (1 : Int32))]) rfl kk_) ?_
        refine Wp.st (S' := T25.setTop (mkF m 125 #[.val (.int x1), .val (.long q1), .second, .val (.long q2), .second, .val (.ref b1), .val (.int (1 : Int32)), .val (.int (1 : Int32))] [(.int (1 : Int32))])) (fun tt_ kk_ => XS.iload X25.here hx rfl (hb hby at_123) rfl  kk_) ?_
        refine Wp.st (S' := T25.setTop (mkF m 128 #[.val (.int x1), .val (.long q1), .second, .val (.long q2), .second, .val (.ref b1), .val (.int (1 : Int32)), .val (.int (1 : Int32))] [])) (fun tt_ kk_ => XS.ifNo X25.here hx rfl (hb hby at_125) rfl ((if0 _ _).trans (feq ((by decide) : ¬ ((1 : Int32) = (0 : Int32)))).1) kk_) ?_
        refine Wp.st (S' := T25.setTop (mkF m 130 #[.val (.int x1), .val (.long q1), .second, .val (.long q2), .second, .val (.ref b1), .val (.int (1 : Int32)), .val (.int (1 : Int32))] [(.int (1 : Int32))])) (fun tt_ kk_ => XS.iload X25.here hx rfl (hb hby at_128) rfl  kk_) ?_
        refine Wp.st (S' := T25.setTop (mkF m 133 #[.val (.int x1), .val (.long q1), .second, .val (.long q2), .second, .val (.ref b1), .val (.int (1 : Int32)), .val (.int (1 : Int32))] [])) (fun tt_ kk_ => XS.ifNo X25.here hx rfl (hb hby at_130) rfl ((if0 _ _).trans (feq ((by decide) : ¬ ((1 : Int32) = (0 : Int32)))).1) kk_) ?_
        refine Wp.st (S' := T25.setTop (mkF m 134 #[.val (.int x1), .val (.long q1), .second, .val (.long q2), .second, .val (.ref b1), .val (.int (1 : Int32)), .val (.int (1 : Int32))] [(.int (1 : Int32))])) (fun tt_ kk_ => XS.iconst X25.here hx rfl (hb hby at_133) kk_) ?_
        refine Wp.st (S' := T25.setTop (mkF m 138 #[.val (.int x1), .val (.long q1), .second, .val (.long q2), .second, .val (.ref b1), .val (.int (1 : Int32)), .val (.int (1 : Int32))] [(.int (1 : Int32))])) (fun tt_ kk_ => XS.goto X25.here hx rfl (pc0 := 134) (pc' := 138) rfl (hb hby at_134) (by decide) (by decide) kk_) ?_
        have K26 := Keep.refl h0 []
        have K27 := K26.ext E1
        have K28 := K27.trans KJ8 (allS (Or.inr (Nat.le_trans (Nat.le_refl _) (Nat.le_of_eq g1.symm))) all0)
        have K29 := K28.trans KJ10 (allS (Or.inr (Nat.le_trans (Nat.le_refl _) (Nat.le_of_eq g1.symm))) all0)
        have K30 := K29.trans KJ12 (allS (Or.inr (Nat.le_trans (Nat.le_refl _) (Nat.le_of_eq g1.symm))) all0)
        have K31 := K30.trans K14 (allS (Or.inr (Nat.le_trans (Nat.le_refl _) (Nat.le_of_eq g1.symm))) all0)
        have K32 := K31.trans K18 (allS (Or.inr (Nat.le_trans (Nat.le_refl _) (Nat.le_of_eq g1.symm))) all0)
        have K33 := K32.trans K20 (allS (Or.inr (Nat.le_trans (Nat.le_refl _) (Nat.le_of_eq g1.symm))) all0)
        exact Wp.ret X25 hlk (v := (some (.int (1 : Int32)))) (fun h => by rw [Bd.returns] at h; cases h) (fun fs hr => retN (z := (1 : Int32)) X25 hx (t := .boolean) Bd.returns (by simp) (hb hby at_138) hr) (by decide) (by decide) (show Q_rm0 Z x1 q1 q2 h0 n0 _ T25.heap _ by rw [e25]; exact ⟨rfl, N25, K33⟩)
      refine Wp.st (S' := TJ10.setTop (mkF m 32 #[.val (.int x1), .val (.long q1), .second, .val (.long q2), .second, .val (.ref b1), .unset, .unset] [(.int x1)])) (fun tt_ kk_ => XS.iloadN XJ10.here hx rfl (hb hby at_31) rfl  kk_) ?_
      refine Wp.st (S' := TJ10.setTop (mkF m 33 #[.val (.int x1), .val (.long q1), .second, .val (.long q2), .second, .val (.ref b1), .unset, .unset] [(.int (4 : Int32)), (.int x1)])) (fun tt_ kk_ => XS.iconst XJ10.here hx rfl (hb hby at_32) kk_) ?_
      refine Wp.st (S' := TJ10.setTop (mkF m 34 #[.val (.int x1), .val (.long q1), .second, .val (.long q2), .second, .val (.ref b1), .unset, .unset] [(.int (x1 &&& (4 : Int32)))])) (fun tt_ kk_ => XS.iand XJ10.here hx rfl (hb hby at_33) rfl kk_) ?_
      by_cases hc34 : (x1 &&& (4 : Int32)) = (0 : Int32)
      case pos =>
        refine Wp.st (S' := TJ10.setTop (mkF m 43 #[.val (.int x1), .val (.long q1), .second, .val (.long q2), .second, .val (.ref b1), .unset, .unset] [])) (fun tt_ kk_ => XS.ifYes XJ10.here hx rfl (pc0 := 34) (pc' := 43) rfl (hb hby at_34) rfl ((if0 _ _).trans (teq (hc34 : (x1 &&& (4 : Int32)) = (0 : Int32))).1) (by decide) (by decide) kk_) ?_
        have K35 := Keep.refl hJ10 [b1]
        exact J12 _ _ _ nb kb db NJ10 XJ10 eJ10 K35 J10_f0 J10_f1 J10_f2 J10_f3 hdb
      case neg =>
        refine Wp.st (S' := TJ10.setTop (mkF m 37 #[.val (.int x1), .val (.long q1), .second, .val (.long q2), .second, .val (.ref b1), .unset, .unset] [])) (fun tt_ kk_ => XS.ifNo XJ10.here hx rfl (hb hby at_34) rfl ((if0 _ _).trans (feq (hc34 : ¬ ((x1 &&& (4 : Int32)) = (0 : Int32)))).1) kk_) ?_
        refine Wp.st (S' := TJ10.setTop (mkF m 39 #[.val (.int x1), .val (.long q1), .second, .val (.long q2), .second, .val (.ref b1), .unset, .unset] [(.ref b1)])) (fun tt_ kk_ => XS.aload XJ10.here hx rfl (hb hby at_37) rfl rfl kk_) ?_
        refine Wp.st (S' := TJ10.setTop (mkF m 40 #[.val (.int x1), .val (.long q1), .second, .val (.long q2), .second, .val (.ref b1), .unset, .unset] [(.long q1), (.ref b1)])) (fun tt_ kk_ => XS.lloadN XJ10.here hx rfl (hb hby at_39) rfl  kk_) ?_
        obtain ⟨cq36, kq36, q36a, q36b, q36c⟩ := isOf hZ eJ10 J10_f0
        obtain ⟨vv36, _, ⟨T36, L36, k36, n36⟩, -, X36, ⟨Lc36, hQ36, l36, y36, z36⟩, st36⟩ := XJ10.virtualBack hx (y := (⟨"com/example/headroom/headroom/service/PeriodMeter", "served", "(J)V"⟩ : MethodName)) (z := (⟨"com/example/headroom/headroom/service/PeriodMeter", "served", "(J)V"⟩ : MethodName)) hown (mvT hZ (hw _ (List.mem_of_getElem? (i := 35) rfl))) (mvT hZ (hw _ (List.mem_of_getElem? (i := 36) rfl))) (notFace_of_selects (args := #[]) (mvT hZ (hw _ (List.mem_of_getElem? (i := 38) rfl)))) (mvT hZ (hw _ (List.mem_of_getElem? (i := 38) rfl))) (mvT hZ (hw _ (List.mem_of_getElem? (i := 37) rfl))) (by decide) (backOf (W := 0) (rm7 l Z a0 hw [] b1 q1 nb kb db hJ10 n0 (Nat.le_trans Z0 (Nat.le_trans (Nat.le_trans z2 z9) z11)) g3 J10_f0 J10_f1 J10_f2 J10_f3 ((by first | assumption | exact own_zero) : Jvm.Free.Fl.NoNaN64 db)) hZ (hw _ (List.mem_of_getElem? (i := 39) rfl)) (hw _ (List.mem_of_getElem? (i := 2) rfl)) (by decide) (by decide)) q36a q36c (g := (mkF m 40 #[.val (.int x1), .val (.long q1), .second, .val (.long q2), .second, .val (.ref b1), .unset, .unset] [(.long q1), (.ref b1)])) rfl (by rw [hml]; rfl) (Steps.refl _) (argsL := [(.long q1)]) (rest := []) (lenOf pd_4 rfl) rfl (by show 2 * 0 + _ ≤ _; exact Nat.le_of_eq rfl) (hb hby at_40) (fun _ _ => ⟨rfl, eJ10, (by decide : 1 + 0 ≤ _), (by decide : 3 + 0 ≤ _)⟩)
        dsimp only [Pt.U, Pt.locs, Pt.cells, Pt.slots] at X36 l36 y36 z36 st36 hQ36
        subst l36 y36 z36
        obtain ⟨rfl, Nq36, K36, P36_0, P36_1, P36_2, P36_3⟩ := hQ36
        have N36 := Fr.app NJ10 Nq36
        have z37 := K36.1
        have e36 : T36.heap = T36.heap := rfl
        refine Wp.tr (S' := T36.setTop (mkF m 43 #[.val (.int x1), .val (.long q1), .second, .val (.long q2), .second, .val (.ref b1), .unset, .unset] [])) st36 ?_
        have K38 := Keep.refl hJ10 [b1]
        have K39 := K38.trans K36 (allS (Or.inl (List.mem_of_getElem? (i := 0) rfl)) all0)
        exact J12 _ _ _ nb (kb + (1 : Int64)) (FP.dadd db (FP.ddiv (FP.l2d q1) (4696837146684686336 : UInt64))) N36 X36 e36 K39 P36_0 P36_1 P36_2 P36_3 (own_ms hdb q1)
    refine Wp.st (S' := TJ8.setTop (mkF m 21 #[.val (.int x1), .val (.long q1), .second, .val (.long q2), .second, .val (.ref b1), .unset, .unset] [(.int x1)])) (fun tt_ kk_ => XS.iloadN XJ8.here hx rfl (hb hby at_20) rfl  kk_) ?_
    refine Wp.st (S' := TJ8.setTop (mkF m 22 #[.val (.int x1), .val (.long q1), .second, .val (.long q2), .second, .val (.ref b1), .unset, .unset] [(.int (2 : Int32)), (.int x1)])) (fun tt_ kk_ => XS.iconst XJ8.here hx rfl (hb hby at_21) kk_) ?_
    refine Wp.st (S' := TJ8.setTop (mkF m 23 #[.val (.int x1), .val (.long q1), .second, .val (.long q2), .second, .val (.ref b1), .unset, .unset] [(.int (x1 &&& (2 : Int32)))])) (fun tt_ kk_ => XS.iand XJ8.here hx rfl (hb hby at_22) rfl kk_) ?_
    by_cases hc40 : (x1 &&& (2 : Int32)) = (0 : Int32)
    case pos =>
      refine Wp.st (S' := TJ8.setTop (mkF m 31 #[.val (.int x1), .val (.long q1), .second, .val (.long q2), .second, .val (.ref b1), .unset, .unset] [])) (fun tt_ kk_ => XS.ifYes XJ8.here hx rfl (pc0 := 23) (pc' := 31) rfl (hb hby at_23) rfl ((if0 _ _).trans (teq (hc40 : (x1 &&& (2 : Int32)) = (0 : Int32))).1) (by decide) (by decide) kk_) ?_
      have K41 := Keep.refl hJ8 [b1]
      exact J10 _ _ _ na ka da NJ8 XJ8 eJ8 K41 J8_f0 J8_f1 J8_f2 J8_f3 hda
    case neg =>
      refine Wp.st (S' := TJ8.setTop (mkF m 26 #[.val (.int x1), .val (.long q1), .second, .val (.long q2), .second, .val (.ref b1), .unset, .unset] [])) (fun tt_ kk_ => XS.ifNo XJ8.here hx rfl (hb hby at_23) rfl ((if0 _ _).trans (feq (hc40 : ¬ ((x1 &&& (2 : Int32)) = (0 : Int32)))).1) kk_) ?_
      refine Wp.st (S' := TJ8.setTop (mkF m 28 #[.val (.int x1), .val (.long q1), .second, .val (.long q2), .second, .val (.ref b1), .unset, .unset] [(.ref b1)])) (fun tt_ kk_ => XS.aload XJ8.here hx rfl (hb hby at_26) rfl rfl kk_) ?_
      obtain ⟨cq42, kq42, q42a, q42b, q42c⟩ := isOf hZ eJ8 J8_f0
      obtain ⟨vv42, _, ⟨T42, L42, k42, n42⟩, -, X42, ⟨Lc42, hQ42, l42, y42, z42⟩, st42⟩ := XJ8.virtualBack hx (y := (⟨"com/example/headroom/headroom/service/PeriodMeter", "arrived", "()V"⟩ : MethodName)) (z := (⟨"com/example/headroom/headroom/service/PeriodMeter", "arrived", "()V"⟩ : MethodName)) hown (mvT hZ (hw _ (List.mem_of_getElem? (i := 30) rfl))) (mvT hZ (hw _ (List.mem_of_getElem? (i := 31) rfl))) (notFace_of_selects (args := #[]) (mvT hZ (hw _ (List.mem_of_getElem? (i := 33) rfl)))) (mvT hZ (hw _ (List.mem_of_getElem? (i := 33) rfl))) (mvT hZ (hw _ (List.mem_of_getElem? (i := 32) rfl))) (by decide) (backOf (W := 0) (rm6 l Z a0 hw [] b1 na ka da hJ8 n0 (Nat.le_trans Z0 (Nat.le_trans z2 z9)) g3 J8_f0 J8_f1 J8_f2 J8_f3) hZ (hw _ (List.mem_of_getElem? (i := 34) rfl)) (hw _ (List.mem_of_getElem? (i := 2) rfl)) (by decide) (by decide)) q42a q42c (g := (mkF m 28 #[.val (.int x1), .val (.long q1), .second, .val (.long q2), .second, .val (.ref b1), .unset, .unset] [(.ref b1)])) rfl (by rw [hml]; rfl) (Steps.refl _) (argsL := []) (rest := []) (lenOf pd_1 rfl) rfl (by show 2 * 0 + _ ≤ _; exact Nat.le_of_eq rfl) (hb hby at_28) (fun _ _ => ⟨rfl, eJ8, (by decide : 1 + 0 ≤ _), (by decide : 3 + 0 ≤ _)⟩)
      dsimp only [Pt.U, Pt.locs, Pt.cells, Pt.slots] at X42 l42 y42 z42 st42 hQ42
      subst l42 y42 z42
      obtain ⟨rfl, Nq42, K42, P42_0, P42_1, P42_2, P42_3⟩ := hQ42
      have N42 := Fr.app NJ8 Nq42
      have z43 := K42.1
      have e42 : T42.heap = T42.heap := rfl
      refine Wp.tr (S' := T42.setTop (mkF m 31 #[.val (.int x1), .val (.long q1), .second, .val (.long q2), .second, .val (.ref b1), .unset, .unset] [])) st42 ?_
      have K44 := Keep.refl hJ8 [b1]
      have K45 := K44.trans K42 (allS (Or.inl (List.mem_of_getElem? (i := 0) rfl)) all0)
      exact J10 _ _ _ (na + (1 : Int64)) ka da N42 X42 e42 K45 P42_0 P42_1 P42_2 P42_3 hda
  refine Wp.st (S' := T7.setTop (mkF m 10 #[.val (.int x1), .val (.long q1), .second, .val (.long q2), .second, .val (.ref b1), .unset, .unset] [(.int x1)])) (fun tt_ kk_ => XS.iloadN X7.here hx rfl (hb hby at_9) rfl  kk_) ?_
  refine Wp.st (S' := T7.setTop (mkF m 11 #[.val (.int x1), .val (.long q1), .second, .val (.long q2), .second, .val (.ref b1), .unset, .unset] [(.int (1 : Int32)), (.int x1)])) (fun tt_ kk_ => XS.iconst X7.here hx rfl (hb hby at_10) kk_) ?_
  refine Wp.st (S' := T7.setTop (mkF m 12 #[.val (.int x1), .val (.long q1), .second, .val (.long q2), .second, .val (.ref b1), .unset, .unset] [(.int (x1 &&& (1 : Int32)))])) (fun tt_ kk_ => XS.iand X7.here hx rfl (hb hby at_11) rfl kk_) ?_
  by_cases hc46 : (x1 &&& (1 : Int32)) = (0 : Int32)
  case pos =>
    refine Wp.st (S' := T7.setTop (mkF m 20 #[.val (.int x1), .val (.long q1), .second, .val (.long q2), .second, .val (.ref b1), .unset, .unset] [])) (fun tt_ kk_ => XS.ifYes X7.here hx rfl (pc0 := 12) (pc' := 20) rfl (hb hby at_12) rfl ((if0 _ _).trans (teq (hc46 : (x1 &&& (1 : Int32)) = (0 : Int32))).1) (by decide) (by decide) kk_) ?_
    have K47 := Keep.refl h1 [b1]
    exact J8 _ _ _ (0 : Int64) (0 : Int64) (0 : UInt64) N7 X7 e7 K47 A1 F4 F5 F6 nz
  case neg =>
    refine Wp.st (S' := T7.setTop (mkF m 15 #[.val (.int x1), .val (.long q1), .second, .val (.long q2), .second, .val (.ref b1), .unset, .unset] [])) (fun tt_ kk_ => XS.ifNo X7.here hx rfl (hb hby at_12) rfl ((if0 _ _).trans (feq (hc46 : ¬ ((x1 &&& (1 : Int32)) = (0 : Int32)))).1) kk_) ?_
    refine Wp.st (S' := T7.setTop (mkF m 17 #[.val (.int x1), .val (.long q1), .second, .val (.long q2), .second, .val (.ref b1), .unset, .unset] [(.ref b1)])) (fun tt_ kk_ => XS.aload X7.here hx rfl (hb hby at_15) rfl rfl kk_) ?_
    obtain ⟨cq48, kq48, q48a, q48b, q48c⟩ := isOf hZ e7 A1
    obtain ⟨vv48, _, ⟨T48, L48, k48, n48⟩, -, X48, ⟨Lc48, hQ48, l48, y48, z48⟩, st48⟩ := X7.virtualBack hx (y := (⟨"com/example/headroom/headroom/service/PeriodMeter", "arrived", "()V"⟩ : MethodName)) (z := (⟨"com/example/headroom/headroom/service/PeriodMeter", "arrived", "()V"⟩ : MethodName)) hown (mvT hZ (hw _ (List.mem_of_getElem? (i := 30) rfl))) (mvT hZ (hw _ (List.mem_of_getElem? (i := 31) rfl))) (notFace_of_selects (args := #[]) (mvT hZ (hw _ (List.mem_of_getElem? (i := 33) rfl)))) (mvT hZ (hw _ (List.mem_of_getElem? (i := 33) rfl))) (mvT hZ (hw _ (List.mem_of_getElem? (i := 32) rfl))) (by decide) (backOf (W := 0) (rm6 l Z a0 hw [] b1 (0 : Int64) (0 : Int64) (0 : UInt64) h1 n0 (Nat.le_trans Z0 z2) g3 A1 F4 F5 F6) hZ (hw _ (List.mem_of_getElem? (i := 34) rfl)) (hw _ (List.mem_of_getElem? (i := 2) rfl)) (by decide) (by decide)) q48a q48c (g := (mkF m 17 #[.val (.int x1), .val (.long q1), .second, .val (.long q2), .second, .val (.ref b1), .unset, .unset] [(.ref b1)])) rfl (by rw [hml]; rfl) (Steps.refl _) (argsL := []) (rest := []) (lenOf pd_1 rfl) rfl (by show 2 * 0 + _ ≤ _; exact Nat.le_of_eq rfl) (hb hby at_17) (fun _ _ => ⟨rfl, e7, (by decide : 1 + 0 ≤ _), (by decide : 3 + 0 ≤ _)⟩)
    dsimp only [Pt.U, Pt.locs, Pt.cells, Pt.slots] at X48 l48 y48 z48 st48 hQ48
    subst l48 y48 z48
    obtain ⟨rfl, Nq48, K48, P48_0, P48_1, P48_2, P48_3⟩ := hQ48
    have N48 := Fr.app N7 Nq48
    have z49 := K48.1
    have e48 : T48.heap = T48.heap := rfl
    refine Wp.tr (S' := T48.setTop (mkF m 20 #[.val (.int x1), .val (.long q1), .second, .val (.long q2), .second, .val (.ref b1), .unset, .unset] [])) st48 ?_
    have K50 := Keep.refl h1 [b1]
    have K51 := K50.trans K48 (allS (Or.inl (List.mem_of_getElem? (i := 0) rfl)) all0)
    exact J8 _ _ _ ((0 : Int64) + (1 : Int64)) (0 : Int64) (0 : UInt64) N48 X48 e48 K51 P48_0 P48_1 P48_2 P48_3 nz
set_option maxRecDepth 65536 in
set_option maxHeartbeats 40000000 in
theorem comes_1 {Post : Tables → Env → Array Value → State → Outcome → State → Prop} (hpost : ∀ tb e args s v u, (limb_1_1.after args s (.returned v) u = true ∧ limb_1_2.after args s (.returned v) u = true ∧ True) → FrameEnd s (.returned v) u (Jvm.fieldLocs frame_1_writes args s ++ Jvm.arrayLocs frame_1_arrays args s ++ Jvm.staticLocs frame_1_statics s) 16 128 → Post tb e args s (.returned v) u) :
    ArmFor flags0 classFile x code maxLocals ret World_1 tables_1 room_1 Calls_1 rest_1 Pre_1 Post := by
  intro l hfl _ _ p e ha hc hk s m args below hf hA hF happ hP
  obtain ⟨hcalls, hrest, hpre⟩ := hP
  obtain ⟨-, -, -, hnamed, -, -, -, hat⟩ := (Spec.applies_iff hf).mp happ
  obtain ⟨hg, hn⟩ := and_e (Cond.before_iff.mp (show (Jvm.Cond.and given_1 narrow_1).before args s = true from hpre))
  obtain ⟨q1, q2⟩ := and_e hg
  obtain ⟨w0, w1, w2, rfl⟩ : ∃ w0 w1 w2 : Value, args = #[w0, w1, w2] := by
    have hs : args.size = 3 := by simpa [Cond.value, given_1] using q1
    obtain ⟨L⟩ := args
    match L, hs with
    | [w0, w1, w2], _ => exact ⟨w0, w1, w2, rfl⟩
  obtain ⟨q3, q4⟩ := and_e q2
  obtain ⟨q5, q6⟩ := and_e q4
  have hw := fun d (hd : d ∈ tables_1) => atoms_spec (ws := Jvm.Cond.code x code maxLocals ret :: tables_1) hat d (List.mem_cons_of_mem _ hd)
  have hfit : Fit s := fun {y c} hc i hi => by
    obtain ⟨ha, rfl⟩ := Array.getElem?_eq_some_iff.mp hc
    have q := List.all_eq_true.mp ((Array.all_eq_true_iff_forall_mem.mp hF) _ (Array.getElem_mem ha)) i (List.mem_range.mpr hi)
    simpa [Array.getElem?_eq_getElem hi] using q
  obtain ⟨i0, ei0⟩ := is_v q3
  obtain rfl : w0 = (.int i0) := Option.some.inj ei0
  obtain ⟨i1, ei1⟩ := isL_v q5
  obtain rfl : w1 = (.long i1) := Option.some.inj ei1
  obtain ⟨i2, ei2⟩ := isL_v q6
  obtain rfl : w2 = (.long i2) := Option.some.inj ei2
  obtain ⟨n, o, h1, h2, h3, _, L, rfl, ⟨rfl, N, -⟩, hq⟩ := rm0 l s _ hw tables_1 i0 i1 i2 s.heap s.heap.size (Nat.le_refl _) (Old.start s)  p e ha hc hk s m _ below hf ((Spec.applies_iff_loose hf).mp happ).1 ⟨rfl, State.Warmed39.refl s, rfl⟩ trivial
  refine ⟨n, _, h1, h2, h3, hpost _ _ _ _ _ _ ⟨Cond.after_iff.mpr rfl, Cond.after_iff.mpr (eq_i res_at (Term.int_eval (1)) rfl), trivial⟩ ⟨hq.1, hq.2.1, (hq.2.2.sift fun y hy => Or.inr (N y hy)).mono (by decide) (by decide)⟩⟩
theorem main_1_1 : Claimed_1_1 := comes_1 fun _ _ _ _ _ _ h hF => ⟨h.1, hF⟩
theorem main_1_2 : Claimed_1_2 := comes_1 fun _ _ _ _ _ _ h hF => ⟨h.2.1, hF⟩
end Jvm.Pilot.@@N@@
namespace Jvm.Pilot.@@N@@
open Jvm Jvm.ClassFile Sem Op Lib Jvm.Free Jvm.Stand Jvm.Pilot.@@N@@.Jvm.D
/-! MADE BY PROGRAM (witnessworld.py) out of the Statement's table words and the real class files: 10 classes; the members and pool entries that the words name. The judged class is class 1, her method 1. -/
namespace start1
open Jvm.ClassFile
def u (s : String) : CpInfo := .utf8 (stringToUtf16 s)
/-- a pool by its gaps: so many unusable entries, then the entry; so many at the end -/
def gap : Nat → List CpInfo → List CpInfo
  | 0, r => r
  | n + 1, r => .unusable :: gap n r
def poolList (es : List (Nat × CpInfo)) (last : Nat) : List CpInfo := es.foldr (fun e r => gap e.1 (e.2 :: r)) (gap last [])
def pool (es : List (Nat × CpInfo)) (last : Nat) : Array CpInfo := ⟨poolList es last⟩
def fileOf (pool : Array CpInfo) (this : Nat) (attrs : Array Attribute := #[]) (ms : Array MethodInfo := #[]) (fl : Nat := 33) (sup : Nat := 0) (ifs : Array Nat := #[]) (fds : Array FieldInfo := #[]) : ClassFile where
  minorVersion := 0
  majorVersion := 65
  constantPool := pool
  accessFlags := fl
  thisClass := this
  superClass := sup
  interfaces := ifs
  fields := fds
  methods := ms
  attributes := attrs
def plain (name : String) (sup : Option ClassId) : Class where
  name := name
  kind := .ordinary
  loader := none
  accessFlags := 33
  super := sup
  interfaces := #[]
  cf := none
  fields := #[]
  methods := #[]
  instanceTypes := #[]
  staticTypes := #[]
  resolved := #[]
  callSites := []
  init := .initialized
  statics := none
  mirror := none

def pool0 : Array CpInfo := pool [(5, u "<init>"), (0, u "()V"), (1, .class_ 10), (1, u "java/lang/Object")] 113

def k0c0 : Code := { maxStack := 0, maxLocals := 1, code := object_method_1_code, exceptionTable := #[], attributes := #[] }
def k0m0 : Method := { name := "<init>", desc := "()V", sig := { parameters := [], returnType := none }, accessFlags := 1, code := some k0c0 }
/-- java/lang/Object -/
def k0 : Class := { plain "java/lang/Object" none with
  accessFlags := 33
  interfaces := #[]
  cf := some (fileOf pool0 8 #[] #[{ accessFlags := 1, nameIndex := 5, descriptorIndex := 6, attributes := #[] }] 33 0 #[] #[])
  fields := #[]
  methods := #[k0m0]
  instanceTypes := #[]
  staticTypes := #[]
  resolved := Array.replicate 124 none
  statics := none }

def pool1 : Array CpInfo := pool [(2, .class_ 4), (0, .nameAndType 5 6), (0, u "java/lang/Object"), (0, u "<init>"), (0, u "()V"), (0, .class_ 8), (0, u "com/example/headroom/headroom/service/PeriodMeter"), (0, .methodref 7 3), (0, .methodref 7 11), (0, .nameAndType 12 6), (0, u "arrived"), (0, .methodref 7 14), (0, .nameAndType 15 16), (0, u "served"), (0, u "(J)V"), (0, .methodref 7 18), (0, .nameAndType 19 6), (0, u "reset"), (0, .methodref 7 21), (0, .nameAndType 22 23), (0, u "getArrivals"), (0, u "()J"), (0, .methodref 7 25), (0, .nameAndType 26 27), (0, u "hasServed"), (0, u "()Z"), (0, .methodref 7 29), (0, .nameAndType 30 31), (0, u "meanServiceMs"), (0, u "()D"), (0, .methodref 33 34), (0, .class_ 35), (0, .nameAndType 36 37), (0, u "com/example/headroom/headroom/model/Millis"), (0, u "fromNanos"), (0, u "(D)D"), (0, .class_ 39), (0, u "com/example/headroom/headroom/service/PeriodMeterResetPinLaw"), (2, u "law"), (0, u "(IJJ)Z")] 3

def k1m0 : Method := { name := "<init>", desc := "()V", sig := { parameters := [], returnType := none }, accessFlags := 1, code := none }
def k1c1 : Code := { maxStack := 4, maxLocals := 8, code := code, exceptionTable := #[], attributes := #[] }
def k1m1 : Method := { name := "law", desc := "(IJJ)Z", sig := { parameters := [.int, .long, .long], returnType := some .boolean }, accessFlags := 9, code := some k1c1 }
/-- com/example/headroom/headroom/service/PeriodMeterResetPinLaw -/
def k1 : Class := { plain "com/example/headroom/headroom/service/PeriodMeterResetPinLaw" (some 0) with
  accessFlags := 49
  interfaces := #[]
  cf := some (fileOf pool1 38 #[] #[{ accessFlags := 1, nameIndex := 5, descriptorIndex := 6, attributes := #[] }, { accessFlags := 9, nameIndex := 42, descriptorIndex := 43, attributes := #[] }] 49 2 #[] #[])
  fields := #[]
  methods := #[k1m0, k1m1]
  instanceTypes := #[]
  staticTypes := #[]
  resolved := Array.replicate 47 none
  statics := none }

def pool2 : Array CpInfo := pool [(1, .methodref 2 3), (0, .class_ 4), (0, .nameAndType 5 6), (0, u "java/lang/Object"), (0, u "<init>"), (0, u "()V"), (0, .fieldref 8 9), (0, .class_ 10), (0, .nameAndType 11 12), (0, u "com/example/headroom/headroom/service/PeriodMeter"), (0, u "arrivals"), (0, u "J"), (0, .fieldref 8 14), (0, .nameAndType 15 12), (0, u "served"), (0, .fieldref 8 17), (0, .nameAndType 18 19), (0, u "serviceMs"), (0, u "D"), (0, .methodref 21 22), (0, .class_ 23), (0, .nameAndType 24 25), (0, u "com/example/headroom/headroom/model/Millis"), (0, u "fromNanos"), (0, u "(D)D"), (9, u "arrived"), (0, u "(J)V"), (0, u "getArrivals"), (0, u "()J"), (0, u "hasServed"), (0, u "()Z"), (1, u "meanServiceMs"), (0, u "()D"), (0, u "reset")] 2

def k2c0 : Code := { maxStack := 1, maxLocals := 1, code := prog_45_method_1_code, exceptionTable := #[], attributes := #[] }
def k2m0 : Method := { name := "<init>", desc := "()V", sig := { parameters := [], returnType := none }, accessFlags := 0, code := some k2c0 }
def k2c1 : Code := { maxStack := 5, maxLocals := 1, code := prog_45_method_2_code, exceptionTable := #[], attributes := #[] }
def k2m1 : Method := { name := "arrived", desc := "()V", sig := { parameters := [], returnType := none }, accessFlags := 0, code := some k2c1 }
def k2c2 : Code := { maxStack := 5, maxLocals := 3, code := prog_45_method_3_code, exceptionTable := #[], attributes := #[] }
def k2m2 : Method := { name := "served", desc := "(J)V", sig := { parameters := [.long], returnType := none }, accessFlags := 0, code := some k2c2 }
def k2c3 : Code := { maxStack := 2, maxLocals := 1, code := prog_45_method_4_code, exceptionTable := #[], attributes := #[] }
def k2m3 : Method := { name := "getArrivals", desc := "()J", sig := { parameters := [], returnType := some .long }, accessFlags := 0, code := some k2c3 }
def k2c4 : Code := { maxStack := 4, maxLocals := 1, code := prog_45_method_5_code, exceptionTable := #[], attributes := #[] }
def k2m4 : Method := { name := "hasServed", desc := "()Z", sig := { parameters := [], returnType := some .boolean }, accessFlags := 0, code := some k2c4 }
def k2c5 : Code := { maxStack := 4, maxLocals := 1, code := prog_45_method_6_code, exceptionTable := #[], attributes := #[] }
def k2m5 : Method := { name := "meanServiceMs", desc := "()D", sig := { parameters := [], returnType := some .double }, accessFlags := 0, code := some k2c5 }
def k2c6 : Code := { maxStack := 3, maxLocals := 1, code := prog_45_method_7_code, exceptionTable := #[], attributes := #[] }
def k2m6 : Method := { name := "reset", desc := "()V", sig := { parameters := [], returnType := none }, accessFlags := 0, code := some k2c6 }
/-- com/example/headroom/headroom/service/PeriodMeter -/
def k2 : Class := { plain "com/example/headroom/headroom/service/PeriodMeter" (some 0) with
  accessFlags := 32
  interfaces := #[]
  cf := some (fileOf pool2 8 #[] #[{ accessFlags := 0, nameIndex := 5, descriptorIndex := 6, attributes := #[] }, { accessFlags := 0, nameIndex := 35, descriptorIndex := 6, attributes := #[] }, { accessFlags := 0, nameIndex := 15, descriptorIndex := 36, attributes := #[] }, { accessFlags := 0, nameIndex := 37, descriptorIndex := 38, attributes := #[] }, { accessFlags := 0, nameIndex := 39, descriptorIndex := 40, attributes := #[] }, { accessFlags := 0, nameIndex := 42, descriptorIndex := 43, attributes := #[] }, { accessFlags := 0, nameIndex := 44, descriptorIndex := 6, attributes := #[] }] 32 2 #[] #[{ accessFlags := 2, nameIndex := 11, descriptorIndex := 12, attributes := #[] }, { accessFlags := 2, nameIndex := 15, descriptorIndex := 12, attributes := #[] }, { accessFlags := 2, nameIndex := 18, descriptorIndex := 19, attributes := #[] }])
  fields := #[{ name := "arrivals", type := .long, accessFlags := 2, slot := 0, constantValue := 0 }, { name := "served", type := .long, accessFlags := 2, slot := 1, constantValue := 0 }, { name := "serviceMs", type := .double, accessFlags := 2, slot := 2, constantValue := 0 }]
  methods := #[k2m0, k2m1, k2m2, k2m3, k2m4, k2m5, k2m6]
  instanceTypes := #[.long, .long, .double]
  staticTypes := #[]
  resolved := Array.replicate 47 none
  statics := none }

def pool3 : Array CpInfo := pool [(2, .class_ 4), (1, u "java/lang/Object"), (0, u "<init>"), (0, u "()V"), (0, .class_ 8), (0, u "com/example/headroom/headroom/model/Millis"), (17, .double 4696837146684686336), (32, u "MAX"), (0, u "D"), (1, u "NANOS_PER_MILLI"), (0, u "NANO_DIGITS"), (0, u "I"), (5, u "fromNanos"), (0, u "(D)D")] 19

def k3m0 : Method := { name := "<init>", desc := "()V", sig := { parameters := [], returnType := none }, accessFlags := 2, code := none }
def k3c1 : Code := { maxStack := 4, maxLocals := 2, code := prog_20_method_3_code, exceptionTable := #[], attributes := #[] }
def k3m1 : Method := { name := "fromNanos", desc := "(D)D", sig := { parameters := [.double], returnType := some .double }, accessFlags := 9, code := some k3c1 }
/-- com/example/headroom/headroom/model/Millis -/
def k3 : Class := { plain "com/example/headroom/headroom/model/Millis" (some 0) with
  accessFlags := 33
  interfaces := #[]
  cf := some (fileOf pool3 7 #[] #[{ accessFlags := 2, nameIndex := 5, descriptorIndex := 6, attributes := #[] }, { accessFlags := 9, nameIndex := 70, descriptorIndex := 71, attributes := #[] }] 33 2 #[] #[{ accessFlags := 25, nameIndex := 59, descriptorIndex := 60, attributes := #[] }, { accessFlags := 26, nameIndex := 62, descriptorIndex := 60, attributes := #[] }, { accessFlags := 26, nameIndex := 63, descriptorIndex := 64, attributes := #[] }])
  fields := #[{ name := "MAX", type := .double, accessFlags := 25, slot := 0, constantValue := 0 }, { name := "NANOS_PER_MILLI", type := .double, accessFlags := 26, slot := 1, constantValue := 0 }, { name := "NANO_DIGITS", type := .int, accessFlags := 26, slot := 2, constantValue := 0 }]
  methods := #[k3m0, k3m1]
  instanceTypes := #[]
  staticTypes := #[.double, .double, .int]
  resolved := Array.replicate 91 none
  statics := none }

def pool4 : Array CpInfo := pool [(1, u "java/lang/Cloneable"), (0, .class_ 1), (0, u "java/lang/Object"), (0, .class_ 3)] 3

/-- java/lang/Cloneable -/
def k4 : Class := { plain "java/lang/Cloneable" (some 0) with
  accessFlags := 1537
  interfaces := #[]
  cf := some (fileOf pool4 2 #[] #[] 1537 4 #[] #[])
  fields := #[]
  methods := #[]
  instanceTypes := #[]
  staticTypes := #[]
  resolved := Array.replicate 8 none
  statics := none }

def pool5 : Array CpInfo := pool [(1, u "java/io/Serializable"), (0, .class_ 1), (0, u "java/lang/Object"), (0, .class_ 3)] 3

/-- java/io/Serializable -/
def k5 : Class := { plain "java/io/Serializable" (some 0) with
  accessFlags := 1537
  interfaces := #[]
  cf := some (fileOf pool5 2 #[] #[] 1537 4 #[] #[])
  fields := #[]
  methods := #[]
  instanceTypes := #[]
  staticTypes := #[]
  resolved := Array.replicate 8 none
  statics := none }

/-- the primitive byte -/
def k6 : Class := { plain "byte" none with kind := .primitive 'B', accessFlags := 0x411 }
/-- [B -/
def k7 : Class := { plain "[B" (some 0) with kind := .array 6 .byte, interfaces := #[4, 5], accessFlags := 1041 }

/-- the primitive int -/
def k8 : Class := { plain "int" none with kind := .primitive 'I', accessFlags := 0x411 }
/-- [I -/
def k9 : Class := { plain "[I" (some 0) with kind := .array 8 .int, interfaces := #[4, 5], accessFlags := 1041 }

def heap : Heap := #[]
def classes : Array Class := #[k0, k1, k2, k3, k4, k5, k6, k7, k8, k9]
def interned : List (Array UInt16 × Addr) := []
def slotsUsed : Nat := 0
def theMethod : MethodId := ⟨1, 1⟩
def args0 : Array Value := #[.int 5, .long 7, .long 3]
def aboutOver (below : List Frame) : State where
  vm := { classes := classes, interned := interned.toArray }
  heap := heap
  slotsUsed := slotsUsed
  threads := #[{ frames := .invoking theMethod args0 :: below }]
def below0 : List Frame := [.native { method := ⟨0, 0⟩, args := #[] }]
def about1 : State := aboutOver below0
def p0 : Program := .bare "" "" ""
def e0 : Env := launch0.env 0 0 0
theorem w_frames : about1.frames = Frame.invoking theMethod args0 :: below0 := rfl
set_option maxRecDepth 65536 in
theorem w_args : argsFit about1.vm theMethod args0 = true := by decide +kernel
set_option maxRecDepth 65536 in
theorem w_heap : heapFits about1 = true := by decide +kernel
set_option maxRecDepth 65536 in
theorem w_runnable : about1.curStatus? = some .runnable := by decide +kernel
set_option maxRecDepth 65536 in
theorem w_alone : about1.alone = true := by decide +kernel
set_option maxRecDepth 65536 in
theorem w_named : about1.methodNamed? x = some theMethod := by decide +kernel
set_option maxRecDepth 65536 in
theorem w_hears : about1.hears theMethod below0 = true := by decide +kernel
set_option maxRecDepth 65536 in
theorem w_ripe : about1.ripe theMethod args0 below0 = true := by decide +kernel
theorem w_running : about1.status = .running := rfl
set_option maxRecDepth 65536 in
theorem w_room : about1.hasRoom e0.platform room_1 = true :=
  launch0.hasRoom_least _ room_1 (by decide +kernel) (by decide +kernel) (by decide +kernel) (by decide +kernel) (by decide +kernel) (by decide +kernel)
theorem allAtoms_all (ts : List Jvm.Cond) (a : Array Jvm.Value) (st : Jvm.State) : (allAtoms ts).before a st = ts.all (fun c => c.before a st) := by
  induction ts with
  | nil => rfl
  | cons c t ih =>
    show (Jvm.Cond.and c (allAtoms t)).before a st = _
    rw [Jvm.Cond.before_and, ih, List.all_cons]
def words1 : List Jvm.Cond := Jvm.Cond.code x code maxLocals ret :: tables_1
/-- a 'code' word, met by the world's own term for the bytes: nothing is compared byte by byte -/
theorem code_word {y : MethodName} {bytes : ByteArray} {mx : Nat} {rt : Option FieldType} {a : Array Value} {s : State} {m : MethodId} {meth : Method} {c : Code} (h1 : s.methodNamed? y = some m) (h2 : s.vm.method? m = some meth) (h3 : meth.code = some c) (h4 : c.code = bytes)
    (h5 : (c.maxLocals == mx && c.exceptionTable.isEmpty && decide (c.maxStack ≤ mostOperands) && decide (meth.sig.returnType = rt) && !meth.locks && decide (parseMethodDescriptor y.desc = some meth.sig)) = true) : (Jvm.Cond.code y bytes mx rt).before a s = true := by
  simp only [Bool.and_eq_true, beq_iff_eq, Bool.not_eq_true', decide_eq_true_eq] at h5
  obtain ⟨⟨⟨⟨⟨g1, g2⟩, g3⟩, g4⟩, g5⟩, g6⟩ := h5
  simp [Cond.before, Cond.holds, Cond.value, h1, h2, h3, h4, g1, g2, g3, g4, g5, g6]
def isCode : Jvm.Cond → Bool
  | .code _ _ _ _ => true
  | _ => false
theorem all_split {L : List Jvm.Cond} {P : Jvm.Cond → Bool} (h1 : L.all (fun c => isCode c || P c) = true) (h2 : ∀ c ∈ L.filter isCode, P c = true) : L.all P = true := by
  refine List.all_eq_true.mpr fun c hc => ?_
  have h := List.all_eq_true.mp h1 c hc
  rcases Bool.eq_false_or_eq_true (isCode c) with hi | hi
  · exact h2 c (List.mem_filter.mpr ⟨hc, hi⟩)
  · simpa [hi] using h
set_option maxRecDepth 65536 in
theorem w_c0 : (Jvm.Cond.code x code maxLocals ret).before args0 about1 = true := code_word (m := ⟨1, 1⟩) (meth := k1m1) (c := k1c1) (by decide +kernel) rfl rfl rfl (by decide +kernel)
set_option maxRecDepth 65536 in
theorem w_c1 : (Jvm.Cond.code ({ cls := "com/example/headroom/headroom/service/PeriodMeter", name := "<init>", desc := "()V" } : Jvm.MethodName) prog_45_method_1_code (1 : Nat) (Option.none : Option Jvm.ClassFile.FieldType)).before args0 about1 = true := code_word (m := ⟨2, 0⟩) (meth := k2m0) (c := k2c0) (by decide +kernel) rfl rfl rfl (by decide +kernel)
set_option maxRecDepth 65536 in
theorem w_c2 : (Jvm.Cond.code ({ cls := "java/lang/Object", name := "<init>", desc := "()V" } : Jvm.MethodName) object_method_1_code (1 : Nat) (Option.none : Option Jvm.ClassFile.FieldType)).before args0 about1 = true := code_word (m := ⟨0, 0⟩) (meth := k0m0) (c := k0c0) (by decide +kernel) rfl rfl rfl (by decide +kernel)
set_option maxRecDepth 65536 in
theorem w_c3 : (Jvm.Cond.code ({ cls := "com/example/headroom/headroom/service/PeriodMeter", name := "reset", desc := "()V" } : Jvm.MethodName) prog_45_method_7_code (1 : Nat) (Option.none : Option Jvm.ClassFile.FieldType)).before args0 about1 = true := code_word (m := ⟨2, 6⟩) (meth := k2m6) (c := k2c6) (by decide +kernel) rfl rfl rfl (by decide +kernel)
set_option maxRecDepth 65536 in
theorem w_c4 : (Jvm.Cond.code ({ cls := "com/example/headroom/headroom/service/PeriodMeter", name := "getArrivals", desc := "()J" } : Jvm.MethodName) prog_45_method_4_code (1 : Nat) (Option.some Jvm.ClassFile.FieldType.long)).before args0 about1 = true := code_word (m := ⟨2, 3⟩) (meth := k2m3) (c := k2c3) (by decide +kernel) rfl rfl rfl (by decide +kernel)
set_option maxRecDepth 65536 in
theorem w_c5 : (Jvm.Cond.code ({ cls := "com/example/headroom/headroom/service/PeriodMeter", name := "hasServed", desc := "()Z" } : Jvm.MethodName) prog_45_method_5_code (1 : Nat) (Option.some Jvm.ClassFile.FieldType.boolean)).before args0 about1 = true := code_word (m := ⟨2, 4⟩) (meth := k2m4) (c := k2c4) (by decide +kernel) rfl rfl rfl (by decide +kernel)
set_option maxRecDepth 65536 in
theorem w_c6 : (Jvm.Cond.code ({ cls := "com/example/headroom/headroom/service/PeriodMeter", name := "arrived", desc := "()V" } : Jvm.MethodName) prog_45_method_2_code (1 : Nat) (Option.none : Option Jvm.ClassFile.FieldType)).before args0 about1 = true := code_word (m := ⟨2, 1⟩) (meth := k2m1) (c := k2c1) (by decide +kernel) rfl rfl rfl (by decide +kernel)
set_option maxRecDepth 65536 in
theorem w_c7 : (Jvm.Cond.code ({ cls := "com/example/headroom/headroom/service/PeriodMeter", name := "served", desc := "(J)V" } : Jvm.MethodName) prog_45_method_3_code (3 : Nat) (Option.none : Option Jvm.ClassFile.FieldType)).before args0 about1 = true := code_word (m := ⟨2, 2⟩) (meth := k2m2) (c := k2c2) (by decide +kernel) rfl rfl rfl (by decide +kernel)
set_option maxRecDepth 65536 in
theorem w_c8 : (Jvm.Cond.code ({ cls := "com/example/headroom/headroom/model/Millis", name := "fromNanos", desc := "(D)D" } : Jvm.MethodName) prog_20_method_3_code (2 : Nat) (Option.some Jvm.ClassFile.FieldType.double)).before args0 about1 = true := code_word (m := ⟨3, 1⟩) (meth := k3m1) (c := k3c1) (by decide +kernel) rfl rfl rfl (by decide +kernel)
set_option maxRecDepth 65536 in
theorem w_c9 : (Jvm.Cond.code ({ cls := "com/example/headroom/headroom/service/PeriodMeter", name := "meanServiceMs", desc := "()D" } : Jvm.MethodName) prog_45_method_6_code (1 : Nat) (Option.some Jvm.ClassFile.FieldType.double)).before args0 about1 = true := code_word (m := ⟨2, 5⟩) (meth := k2m5) (c := k2c5) (by decide +kernel) rfl rfl rfl (by decide +kernel)
def codes1 : List Jvm.Cond := [Jvm.Cond.code x code maxLocals ret, Jvm.Cond.code ({ cls := "com/example/headroom/headroom/service/PeriodMeter", name := "<init>", desc := "()V" } : Jvm.MethodName) prog_45_method_1_code (1 : Nat) (Option.none : Option Jvm.ClassFile.FieldType), Jvm.Cond.code ({ cls := "java/lang/Object", name := "<init>", desc := "()V" } : Jvm.MethodName) object_method_1_code (1 : Nat) (Option.none : Option Jvm.ClassFile.FieldType), Jvm.Cond.code ({ cls := "com/example/headroom/headroom/service/PeriodMeter", name := "reset", desc := "()V" } : Jvm.MethodName) prog_45_method_7_code (1 : Nat) (Option.none : Option Jvm.ClassFile.FieldType), Jvm.Cond.code ({ cls := "com/example/headroom/headroom/service/PeriodMeter", name := "getArrivals", desc := "()J" } : Jvm.MethodName) prog_45_method_4_code (1 : Nat) (Option.some Jvm.ClassFile.FieldType.long), Jvm.Cond.code ({ cls := "com/example/headroom/headroom/service/PeriodMeter", name := "hasServed", desc := "()Z" } : Jvm.MethodName) prog_45_method_5_code (1 : Nat) (Option.some Jvm.ClassFile.FieldType.boolean), Jvm.Cond.code ({ cls := "com/example/headroom/headroom/service/PeriodMeter", name := "arrived", desc := "()V" } : Jvm.MethodName) prog_45_method_2_code (1 : Nat) (Option.none : Option Jvm.ClassFile.FieldType), Jvm.Cond.code ({ cls := "com/example/headroom/headroom/service/PeriodMeter", name := "served", desc := "(J)V" } : Jvm.MethodName) prog_45_method_3_code (3 : Nat) (Option.none : Option Jvm.ClassFile.FieldType), Jvm.Cond.code ({ cls := "com/example/headroom/headroom/model/Millis", name := "fromNanos", desc := "(D)D" } : Jvm.MethodName) prog_20_method_3_code (2 : Nat) (Option.some Jvm.ClassFile.FieldType.double), Jvm.Cond.code ({ cls := "com/example/headroom/headroom/service/PeriodMeter", name := "meanServiceMs", desc := "()D" } : Jvm.MethodName) prog_45_method_6_code (1 : Nat) (Option.some Jvm.ClassFile.FieldType.double)]
set_option maxRecDepth 65536 in
theorem codes_eq : words1.filter isCode = codes1 := rfl
theorem w_codes : ∀ c ∈ words1.filter isCode, c.before args0 about1 = true := by
  rw [codes_eq]
  intro c hc
  simp only [codes1, List.mem_cons, List.not_mem_nil, or_false] at hc
  rcases hc with rfl | rfl | rfl | rfl | rfl | rfl | rfl | rfl | rfl | rfl
  · exact w_c0
  · exact w_c1
  · exact w_c2
  · exact w_c3
  · exact w_c4
  · exact w_c5
  · exact w_c6
  · exact w_c7
  · exact w_c8
  · exact w_c9
set_option maxRecDepth 65536 in
theorem w_t1 : (words1.take 24).all (fun c => isCode c || c.before args0 about1) = true := by decide +kernel
set_option maxRecDepth 65536 in
theorem w_t2 : ((words1.drop 24).take 24).all (fun c => isCode c || c.before args0 about1) = true := by decide +kernel
set_option maxRecDepth 65536 in
theorem w_t3 : ((words1.drop 24).drop 24).all (fun c => isCode c || c.before args0 about1) = true := by decide +kernel
theorem w_tables : (allAtoms (Jvm.Cond.code x code maxLocals ret :: tables_1)).before args0 about1 = true := by
  rw [allAtoms_all]
  show words1.all (fun c => c.before args0 about1) = true
  refine all_split ?_ w_codes
  rw [← List.take_append_drop 24 words1, List.all_append, w_t1, ← List.take_append_drop 24 (words1.drop 24), List.all_append, w_t2, w_t3]
  rfl
set_option maxRecDepth 65536 in
theorem w_case : (Jvm.Cond.and given_1 narrow_1).before args0 about1 = true := by decide +kernel
theorem w_applies : (headSpec (Jvm.Cond.code x code maxLocals ret :: tables_1) room_1).applies x e0.platform about1 = true :=
  (Spec.applies_iff w_frames).mpr ⟨w_running, w_runnable, w_alone, w_named, w_hears, w_ripe, w_room, w_tables⟩
theorem atStart : AtStart classFile x code maxLocals ret World_1 tables_1 room_1 Calls_1 rest_1 Pre_1 launch0 p0 e0 about1 theMethod args0 below0 :=
  ⟨lists_1, trivial, launch0.admits_env _ _ _, launch0.least_env, fairChoices_fair.cas, fairChoices_fair.clock, w_frames, w_args, w_heap, w_applies, trivial, trivial, w_case⟩
end start1
theorem witness_1 : WitnessClaimed_1 := ⟨start1.p0, start1.e0, start1.about1, start1.theMethod, start1.args0, start1.below0, start1.atStart⟩
end Jvm.Pilot.@@N@@
