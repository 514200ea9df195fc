import JvmDerived
import JvmDerived.Pilot.@@N@@Statement
import JvmDerived.Pilot.@@N@@Code
set_option linter.unusedVariables false
set_option linter.unusedSimpArgs false
namespace Jvm.RoadKit
open Sem ClassFile Op Lib Jvm.Stand Jvm.Free Jvm.LawKit
section New
variable {p : Program} {l : Launch} {e : Env} {R : Room} {s : State} {m : MethodId} {args : Array Value} {below : List Frame} {meth : Method} {c : Code} {T : State} {locs : List Loc} {cells slots : Nat}
theorem retI (X : Stand p l e R s m args below meth c T locs cells slots) (hx : p.tables.exec = Jvm.exec) {pc : Nat} {Ls : Array Slot} {z : Int32} {rest : List Value} (hret : meth.sig.returnType = some .int) (hd : decode c.code pc = .ok (.ireturn, 1)) {fs : List Frame}
    (hl : ∀ (f : JFrame) (acts : List Action), f.method = m → f.locked = none → f.entered = [] → (doReturn e (T.setTop f) acts (some (.int z))).1 = T.setFrames fs) : Steps p.tables e below (T.setTop (mkF m pc Ls (.int z :: rest))) (T.setFrames fs) := by
  have hm' : T.vm.method? m = some meth := X.method'
  have hn : narrow .int (.int z) = .int z := rfl
  show Steps p.tables e below (T.setTop { method := m, pc := pc, locals := Ls, stack := _ :: rest, locked := none }) _
  jvm_step X.here [X.here.top, hx, hd, hm', hret, hn]
  first | (intro acts; rw [hl _ acts rfl rfl rfl]) | rw [hl _ _ rfl rfl rfl]
  exact Steps.refl _
end New
end Jvm.RoadKit
namespace Jvm.Pilot.@@N@@
open Jvm Jvm.ClassFile Sem Op Lib Jvm.Free Jvm.Stand Jvm.LawKit Jvm.RoadKit Bundle Jvm.Pilot.@@N@@.Jvm.D
section Own
variable {p : Program} {l : Launch} {e : Env} {R : Room} {s : State} {m : MethodId} {args : Array Value} {below : List Frame} {meth : Method} {c : Code} {T : State} {locs : List Loc} {cells slots : Nat}
/-- from here the method ends as Post says -/
def Wp (p : Program) (e : Env) (below : List Frame) (Post : Outcome → State → Prop) (S : State) : Prop := ∃ s₂ o, Steps p.tables e below S s₂ ∧ s₂.status = .running ∧ Ended s₂ below o ∧ Post o s₂
theorem Wp.goal {Post : Outcome → State → Prop} {S : State} (w : Wp p e below Post S) : ∃ s₂ o, Steps p.tables e below S s₂ ∧ s₂.status = .running ∧ Ended s₂ below o ∧ Post o s₂ := w
theorem Wp.st {Post : Outcome → State → Prop} {S S' : State} (h : ∀ t, Steps p.tables e below S' t → Steps p.tables e below S t) (w : Wp p e below Post S') : Wp p e below Post S := by
  obtain ⟨t, o, h1, h2⟩ := w
  exact ⟨t, o, h t h1, h2⟩
theorem Wp.tr {Post : Outcome → State → Prop} {S S' : State} (h : Steps p.tables e below S S') (w : Wp p e below Post S') : Wp p e below Post S := by
  obtain ⟨t, o, h1, h2⟩ := w
  exact ⟨t, o, h.trans h1, h2⟩
theorem Wp.ret (X : Stand p l e R s m args below meth c T locs cells slots) (hlk : meth.locks = false) {v : Option Value} (hv : meth.sig.returnType = none → v = none) {g : JFrame}
    (hst : ∀ fs, (∀ (f : JFrame) (acts : List Action), f.method = m → f.locked = none → f.entered = [] → (doReturn e (T.setTop f) acts v).1 = T.setFrames fs) → Steps p.tables e below (T.setTop g) (T.setFrames fs))
    {Q : Option Value → Heap → List Loc → Prop} {k n : Nat} (hk : cells ≤ k) (hn : slots ≤ n) (q : Q v T.heap locs) :
    Wp p e below (fun o U' => ∃ v L, o = .returned v ∧ Q v U'.heap L ∧ FrameEnd s o U' L k n) (T.setTop g) := by
  obtain ⟨fs, hr, hrun, hended, hW, hsame⟩ := X.leave (v := v) hv
  exact ⟨_, _, hst fs hr, hrun, hended, v, locs, rfl, q, ⟨v, rfl⟩, hW, hsame.mono hk hn⟩
theorem Wp.retW {vm₁ : Vm} (X : Stand p l e R (s.setVm vm₁) m args below meth c T locs cells slots) (hlk : meth.locks = false) {k0 : Nat} (hS : s.Since vm₁ k0) (hk0 : k0 ≤ T.heap.size) {v : Option Value} (hv : meth.sig.returnType = none → v = none) {g : JFrame}
    (hst : ∀ fs, (∀ (f : JFrame) (acts : List Action), f.method = m → f.locked = none → f.entered = [] → (doReturn e (T.setTop f) acts v).1 = T.setFrames fs) → Steps p.tables e below (T.setTop g) (T.setFrames fs))
    {Q : Option Value → Heap → List Loc → Prop} {k n : Nat} (hk : cells ≤ k) (hn : slots ≤ n) (q : Q v T.heap locs) :
    Wp p e below (fun o U' => ∃ v L, o = .returned v ∧ Q v U'.heap L ∧ ReturnedEndW s o U' L k n) (T.setTop g) := by
  obtain ⟨fs, hr, hrun, hended, ⟨h1, h2, h3, h4⟩⟩ := X.leaveW hS hk0 (v := v) hv
  exact ⟨_, _, hst fs hr, hrun, hended, v, locs, rfl, q, h1, h2, h3, h4.mono hk hn⟩
theorem Wp.retH {vm₁ : Vm} (X : Stand p l e R (s.setVm vm₁) m args below meth c T locs cells slots) (hlk : meth.locks = false) {k0 : Nat} (hS : s.Since vm₁ k0) (hk0 : k0 ≤ T.heap.size) {v : Option Value} (hv : meth.sig.returnType = none → v = none) {g : JFrame}
    (hst : ∀ fs, (∀ (f : JFrame) (acts : List Action), f.method = m → f.locked = none → f.entered = [] → (doReturn e (T.setTop f) acts v).1 = T.setFrames fs) → Steps p.tables e below (T.setTop g) (T.setFrames fs))
    {Q : Option Value → Heap → List Loc → Prop} {Z : State} {EL : List (String × Nat)} {k n : Nat} (hk : cells ≤ k) (hn : slots ≤ n) (q : Q v T.heap locs) (cr : CHr Z EL s.vm s.heap T.vm T.heap) :
    Wp p e below (fun o U' => ∃ v L, o = .returned v ∧ Q v U'.heap L ∧ CHr Z EL s.vm s.heap U'.vm U'.heap ∧ ReturnedEndW s o U' L k n) (T.setTop g) := by
  obtain ⟨fs, hr, hrun, hended, ⟨h1, h2, h3, h4⟩⟩ := X.leaveW hS hk0 (v := v) hv
  exact ⟨_, _, hst fs hr, hrun, hended, v, locs, rfl, q, cr, h1, h2, h3, h4.mono hk hn⟩
theorem own_narZ {q : Int32} (h : nar .boolean q = q) : narrow .boolean (.int q) = .int q := by show Value.int (nar .boolean q) = _; rw [h]
theorem own_fitZ {q : Int32} (h : nar .boolean q = q) : fits .boolean (.int q) = true := by rw [← h]; exact fits_nar_bool q
theorem own_nn {v : Value} (h : v.isRef = true) (h' : ¬ v = .null) : ∃ a, v = .ref a := (ref_cases h).resolve_left h'
theorem own_fits {v : Value} {C : String} (h : v.isRef = true) : fits (.object C) v = true := by rcases ref_cases h with rfl | ⟨a, rfl⟩ <;> rfl
theorem own_narrow {v : Value} {C : String} (h : v.isRef = true) : narrow (.object C) v = v := by rcases ref_cases h with rfl | ⟨a, rfl⟩ <;> rfl
end Own
theorem pn_1 : plainName "com/example/lauter/lauter/Task" = true := by first | (simp [plainName, overriddenIn]; done) | decide +kernel
theorem d1_0 : decode prog_32_method_4_code 0 = .ok (.aload_n 0, 1) := by decide +kernel
theorem d1_1 : decode prog_32_method_4_code 1 = .ok (.getstatic 10, 3) := by decide +kernel
theorem d1_4 : decode prog_32_method_4_code 4 = .ok (.if_acmp .eq 10, 3) := by decide +kernel
theorem d1_14 : decode prog_32_method_4_code 14 = .ok (.iconst 1, 1) := by decide +kernel
theorem d1_15 : decode prog_32_method_4_code 15 = .ok (.goto 4, 3) := by decide +kernel
theorem d1_19 : decode prog_32_method_4_code 19 = .ok (.ireturn, 1) := by decide +kernel
theorem d1_7 : decode prog_32_method_4_code 7 = .ok (.aload_n 0, 1) := by decide +kernel
theorem d1_8 : decode prog_32_method_4_code 8 = .ok (.getstatic 13, 3) := by decide +kernel
theorem d1_11 : decode prog_32_method_4_code 11 = .ok (.if_acmp .ne 7, 3) := by decide +kernel
theorem d1_18 : decode prog_32_method_4_code 18 = .ok (.iconst 0, 1) := by decide +kernel
theorem ef_rm1 (m : MethodId) (a1 : Addr) : entryFrame m #[(.ref a1)] 1 = mkF m 0 #[.val (.ref a1)] [] := by first | (simp [entryFrame, mkF, argsToLocals, Value.category]; done) | rfl
def Q_rm1 (Z : State) (a1 : Addr) (wr : Addr) (wb : Addr) (h0 : Heap) (n0 : Nat) (v : Option Value) (h : Heap) (L : List Loc) : Prop := (v = some (.int (if a1 = wr ∨ a1 = wb then (1 : Int32) else (0 : Int32)))) ∧ (Fr n0 L) ∧ (h = h0)
set_option maxRecDepth 65536 in
set_option maxHeartbeats 40000000 in
theorem rm1 (l : Launch) (Z : State) (a0 : Array Value) (hw : ∀ d ∈ tables_1, d.before a0 Z = true) (ws : List Jvm.Cond) (a1 : Addr) (wr : Addr) (wb : Addr) (h0 : Heap) (n0 : Nat) (Z0 : n0 ≤ h0.size) (O0 : Jvm.RoadKit.Old Z n0 h0) (SR : Sta Z Z.heap "com/example/lauter/lauter/Task" "RELEVANT_IN_CONTEXT" "Lcom/example/lauter/lauter/Task;" (.ref wr)) (SB : Sta Z Z.heap "com/example/lauter/lauter/Task" "BEST_IN_CONTEXT" "Lcom/example/lauter/lauter/Task;" (.ref wb)) :
    MetFree l (⟨"com/example/lauter/lauter/Task", "ranksFiles", "()Z"⟩ : MethodName) (head1 (Jvm.Cond.code (⟨"com/example/lauter/lauter/Task", "ranksFiles", "()Z"⟩ : MethodName) prog_32_method_4_code 1 (some .boolean) :: ws) ({ frames := 0, cells := 0, slots := 0, locals := 0 } : Room)) (fun a U => a = #[(.ref a1)] ∧ Z.Warmed39 U.vm ∧ U.heap = h0) (fun _ _ _ _ _ => True) (fun _ U o U' => ∃ v L, o = .returned v ∧ Q_rm1 Z a1 wr wb h0 n0 v U'.heap L ∧ FrameEnd U o U' L ({ frames := 0, cells := 0, slots := 0, locals := 0 } : Room).cells ({ frames := 0, cells := 0, slots := 0, locals := 0 } : Room).slots) := by
  refine MetFree.of_bodySF (plainFor_of_name pn_1) hisR ?_
  intro p e s m args below meth c s₁ Bd hml0 hP hK
  obtain ⟨rfl, hZ, hh⟩ := hP
  have hx := Bd.exec
  have hby := Bd.bytes
  have hml : c.maxLocals = 1 := hml0
  have hown : s.vm.findClass "com/example/lauter/lauter/Task" = some m.cls := findClass_of_methodNamed Bd.named
  have hnm := (name_of_methodNamed Bd.named Bd.method).1
  have hlk := Bd.notSynchronized
  have X0 : Stand p l e ({ frames := 0, cells := 0, slots := 0, locals := 0 } : Room) s m #[(.ref a1)] below meth c s₁ [] 0 0 := Stand.of_body Bd
  have e0 : s₁.heap = h0 := by rw [← hh, Bd.state]; rfl
  have N0 := Fr.nil n0
  refine Wp.goal (Post := (fun o U' => ∃ v L, o = .returned v ∧ Q_rm1 Z a1 wr wb h0 n0 v U'.heap L ∧ FrameEnd s o U' L ({ frames := 0, cells := 0, slots := 0, locals := 0 } : Room).cells ({ frames := 0, cells := 0, slots := 0, locals := 0 } : Room).slots)) (Wp.st (S' := s₁.setTop (mkF m 0 #[.val (.ref a1)] [])) (fun tt_ kk_ => castTop (ef_rm1 m a1 ) kk_) ?_)
  refine Wp.st (S' := s₁.setTop (mkF m 1 #[.val (.ref a1)] [(.ref a1)])) (fun tt_ kk_ => XS.aloadN X0.here hx rfl (hb hby d1_0) rfl rfl kk_) ?_
  obtain ⟨T1, X1, e1, st1⟩ := getS2 X0 hx hZ hown (host := "") (Or.inl (hw _ (List.mem_of_getElem? (i := 8) rfl))) Via.refl e0 (SR.ext O0.2) (g := (mkF m 1 #[.val (.ref a1)] [(.ref a1)])) rfl (hb hby d1_1)
  refine Wp.st (S' := T1.setTop (mkF m 4 #[.val (.ref a1)] [(.ref wr), (.ref a1)])) st1 ?_
  by_cases h1 : a1 = wr
  case pos =>
    refine Wp.st (S' := T1.setTop (mkF m 14 #[.val (.ref a1)] [])) (fun tt_ kk_ => Jvm.RoadKit.acmp (g := (mkF m 4 #[.val (.ref a1)] [(.ref wr), (.ref a1)])) X1 hx rfl rfl rfl (pc0 := 4) (pc' := 14) (same := true) rfl (hb hby d1_4) rfl (decide_eq_true (congrArg Value.ref h1)) (by decide) (by decide) kk_) ?_
    refine Wp.st (S' := T1.setTop (mkF m 15 #[.val (.ref a1)] [(.int (1 : Int32))])) (fun tt_ kk_ => XS.iconst X1.here hx rfl (hb hby d1_14) kk_) ?_
    refine Wp.st (S' := T1.setTop (mkF m 19 #[.val (.ref a1)] [(.int (1 : Int32))])) (fun tt_ kk_ => XS.goto X1.here hx rfl (pc0 := 15) (pc' := 19) rfl (hb hby d1_15) (by decide) (by decide) kk_) ?_
    exact Wp.ret X1 hlk (v := (some (.int (1 : Int32)))) (fun h => by rw [Bd.returns] at h; cases h) (fun fs hr => retN (z := (1 : Int32)) X1 hx (t := .boolean) Bd.returns (by simp) (hb hby d1_19) hr) (by decide) (by decide) (show Q_rm1 Z a1 wr wb h0 n0 _ T1.heap _ by rw [e1]; exact ⟨(by rw [if_pos (Or.inl h1)]), N0, rfl⟩)
  case neg =>
    refine Wp.st (S' := T1.setTop (mkF m 7 #[.val (.ref a1)] [])) (fun tt_ kk_ => Jvm.RoadKit.acmp (g := (mkF m 4 #[.val (.ref a1)] [(.ref wr), (.ref a1)])) X1 hx rfl rfl rfl (pc0 := 4) (pc' := 7) (same := false) rfl (hb hby d1_4) rfl (decide_eq_false fun q => h1 (Value.ref.inj q)) (by decide) (by decide) kk_) ?_
    refine Wp.st (S' := T1.setTop (mkF m 8 #[.val (.ref a1)] [(.ref a1)])) (fun tt_ kk_ => XS.aloadN X1.here hx rfl (hb hby d1_7) rfl rfl kk_) ?_
    obtain ⟨T2, X2, e2, st2⟩ := getS2 X1 hx hZ hown (host := "") (Or.inl (hw _ (List.mem_of_getElem? (i := 10) rfl))) Via.refl e1 (SB.ext O0.2) (g := (mkF m 8 #[.val (.ref a1)] [(.ref a1)])) rfl (hb hby d1_8)
    refine Wp.st (S' := T2.setTop (mkF m 11 #[.val (.ref a1)] [(.ref wb), (.ref a1)])) st2 ?_
    by_cases h2 : a1 = wb
    case pos =>
      refine Wp.st (S' := T2.setTop (mkF m 14 #[.val (.ref a1)] [])) (fun tt_ kk_ => Jvm.RoadKit.acmp (g := (mkF m 11 #[.val (.ref a1)] [(.ref wb), (.ref a1)])) X2 hx rfl rfl rfl (pc0 := 11) (pc' := 14) (same := true) rfl (hb hby d1_11) rfl (decide_eq_true (congrArg Value.ref h2)) (by decide) (by decide) kk_) ?_
      refine Wp.st (S' := T2.setTop (mkF m 15 #[.val (.ref a1)] [(.int (1 : Int32))])) (fun tt_ kk_ => XS.iconst X2.here hx rfl (hb hby d1_14) kk_) ?_
      refine Wp.st (S' := T2.setTop (mkF m 19 #[.val (.ref a1)] [(.int (1 : Int32))])) (fun tt_ kk_ => XS.goto X2.here hx rfl (pc0 := 15) (pc' := 19) rfl (hb hby d1_15) (by decide) (by decide) kk_) ?_
      exact Wp.ret X2 hlk (v := (some (.int (1 : Int32)))) (fun h => by rw [Bd.returns] at h; cases h) (fun fs hr => retN (z := (1 : Int32)) X2 hx (t := .boolean) Bd.returns (by simp) (hb hby d1_19) hr) (by decide) (by decide) (show Q_rm1 Z a1 wr wb h0 n0 _ T2.heap _ by rw [e2]; exact ⟨(by rw [if_pos (Or.inr h2)]), N0, rfl⟩)
    case neg =>
      refine Wp.st (S' := T2.setTop (mkF m 18 #[.val (.ref a1)] [])) (fun tt_ kk_ => Jvm.RoadKit.acmp (g := (mkF m 11 #[.val (.ref a1)] [(.ref wb), (.ref a1)])) X2 hx rfl rfl rfl (pc0 := 11) (pc' := 18) (same := false) rfl (hb hby d1_11) rfl (decide_eq_false fun q => h2 (Value.ref.inj q)) (by decide) (by decide) kk_) ?_
      refine Wp.st (S' := T2.setTop (mkF m 19 #[.val (.ref a1)] [(.int (0 : Int32))])) (fun tt_ kk_ => XS.iconst X2.here hx rfl (hb hby d1_18) kk_) ?_
      exact Wp.ret X2 hlk (v := (some (.int (0 : Int32)))) (fun h => by rw [Bd.returns] at h; cases h) (fun fs hr => retN (z := (0 : Int32)) X2 hx (t := .boolean) Bd.returns (by simp) (hb hby d1_19) hr) (by decide) (by decide) (show Q_rm1 Z a1 wr wb h0 n0 _ T2.heap _ by rw [e2]; exact ⟨(by rw [if_neg (fun q => q.elim h1 h2)]), N0, rfl⟩)
theorem pn_0 : plainName "com/example/lauter/lauter/TaskRanksFilesPinLaw" = true := by first | (simp [plainName, overriddenIn]; done) | decide +kernel
theorem pd_0 : parseMethodDescriptor "()Z" = some ⟨[], some .boolean⟩ := by decide +kernel
theorem ef_rm0 (m : MethodId) (p1 : Int32) : entryFrame m #[(.int p1)] maxLocals = mkF m 0 #[.val (.int p1), .unset, .unset, .unset] [] := by first | (simp [entryFrame, mkF, argsToLocals, Value.category, maxLocals]; done) | rfl
def Q_rm0 (Z : State) (p1 : Int32) (w_THOROUGH : Addr) (w_FOCUSED : Addr) (w_RELEVANT_IN_CONTEXT : Addr) (w_BEST_IN_CONTEXT : Addr) (h0 : Heap) (n0 : Nat) (v : Option Value) (h : Heap) (L : List Loc) : Prop := (v = some (.int (1 : Int32))) ∧ (Fr n0 L) ∧ (h = h0)
set_option maxRecDepth 65536 in
set_option maxHeartbeats 40000000 in
theorem rm0 (l : Launch) (Z : State) (a0 : Array Value) (hw : ∀ d ∈ tables_1, d.before a0 Z = true) (ws : List Jvm.Cond) (p1 : Int32) (w_THOROUGH : Addr) (w_FOCUSED : Addr) (w_RELEVANT_IN_CONTEXT : Addr) (w_BEST_IN_CONTEXT : Addr) (h0 : Heap) (n0 : Nat) (Z0 : n0 ≤ h0.size) (OZ : Jvm.RoadKit.Old Z n0 h0) (PE_THOROUGH : Exa Z Z.heap w_THOROUGH "com/example/lauter/lauter/Task") (PS_THOROUGH : Sta Z Z.heap "com/example/lauter/lauter/Task" "THOROUGH" "Lcom/example/lauter/lauter/Task;" (.ref w_THOROUGH)) (PE_RELEVANT_IN_CONTEXT : Exa Z Z.heap w_RELEVANT_IN_CONTEXT "com/example/lauter/lauter/Task") (PS_RELEVANT_IN_CONTEXT : Sta Z Z.heap "com/example/lauter/lauter/Task" "RELEVANT_IN_CONTEXT" "Lcom/example/lauter/lauter/Task;" (.ref w_RELEVANT_IN_CONTEXT)) (PF_THOROUGH_ordinal : Fld Z Z.heap w_THOROUGH "java/lang/Enum" "ordinal" "I" (.int (0 : Int32))) (PF_RELEVANT_IN_CONTEXT_ordinal : Fld Z Z.heap w_RELEVANT_IN_CONTEXT "java/lang/Enum" "ordinal" "I" (.int (2 : Int32))) (PE_BEST_IN_CONTEXT : Exa Z Z.heap w_BEST_IN_CONTEXT "com/example/lauter/lauter/Task") (PS_BEST_IN_CONTEXT : Sta Z Z.heap "com/example/lauter/lauter/Task" "BEST_IN_CONTEXT" "Lcom/example/lauter/lauter/Task;" (.ref w_BEST_IN_CONTEXT)) (PF_BEST_IN_CONTEXT_ordinal : Fld Z Z.heap w_BEST_IN_CONTEXT "java/lang/Enum" "ordinal" "I" (.int (3 : Int32))) (PE_FOCUSED : Exa Z Z.heap w_FOCUSED "com/example/lauter/lauter/Task") (PS_FOCUSED : Sta Z Z.heap "com/example/lauter/lauter/Task" "FOCUSED" "Lcom/example/lauter/lauter/Task;" (.ref w_FOCUSED)) (PF_FOCUSED_ordinal : Fld Z Z.heap w_FOCUSED "java/lang/Enum" "ordinal" "I" (.int (1 : Int32))) :
    MetFree l x (head1 (Jvm.Cond.code x code maxLocals ret :: ws) room_1) (fun a U => a = #[(.int p1)] ∧ Z.Warmed39 U.vm ∧ U.heap = h0) (fun _ _ _ _ _ => True) (fun _ U o U' => ∃ v L, o = .returned v ∧ Q_rm0 Z p1 w_THOROUGH w_FOCUSED w_RELEVANT_IN_CONTEXT w_BEST_IN_CONTEXT h0 n0 v U'.heap L ∧ FrameEnd U o U' L room_1.cells room_1.slots) := by
  refine MetFree.of_bodySF (plainFor_of_name pn_0) hisR ?_
  intro p e s m args below meth c s₁ Bd hml0 hP hK
  obtain ⟨rfl, hZ, hh⟩ := hP
  have hx := Bd.exec
  have hby := Bd.bytes
  have hml : c.maxLocals = 4 := hml0
  have hown : s.vm.findClass "com/example/lauter/lauter/TaskRanksFilesPinLaw" = some m.cls := findClass_of_methodNamed Bd.named
  have hnm := (name_of_methodNamed Bd.named Bd.method).1
  have hlk := Bd.notSynchronized
  have X0 : Stand p l e room_1 s m #[(.int p1)] below meth c s₁ [] 0 0 := Stand.of_body Bd
  have e0 : s₁.heap = h0 := by rw [← hh, Bd.state]; rfl
  have N0 := Fr.nil n0
  refine Wp.goal (Post := (fun o U' => ∃ v L, o = .returned v ∧ Q_rm0 Z p1 w_THOROUGH w_FOCUSED w_RELEVANT_IN_CONTEXT w_BEST_IN_CONTEXT h0 n0 v U'.heap L ∧ FrameEnd s o U' L room_1.cells room_1.slots)) (Wp.st (S' := s₁.setTop (mkF m 0 #[.val (.int p1), .unset, .unset, .unset] [])) (fun tt_ kk_ => castTop (ef_rm0 m p1 ) kk_) ?_)
  have O0 : Jvm.RoadKit.Old Z n0 h0 := OZ
  refine Wp.st (S' := s₁.setTop (mkF m 1 #[.val (.int p1), .unset, .unset, .unset] [(.int p1)])) (fun tt_ kk_ => XS.iloadN X0.here hx rfl (hb hby at_0) rfl  kk_) ?_
  refine Wp.st (S' := s₁.setTop (mkF m 2 #[.val (.int p1), .unset, .unset, .unset] [(.int (3 : Int32)), (.int p1)])) (fun tt_ kk_ => XS.iconst X0.here hx rfl (hb hby at_1) kk_) ?_
  refine Wp.st (S' := s₁.setTop (mkF m 3 #[.val (.int p1), .unset, .unset, .unset] [(.int (p1 &&& (3 : Int32)))])) (fun tt_ kk_ => XS.iand X0.here hx rfl (hb hby at_2) rfl kk_) ?_
  refine Wp.st (S' := s₁.setTop (mkF m 4 #[.val (.int p1), .val (.int (p1 &&& (3 : Int32))), .unset, .unset] [])) (fun tt_ kk_ => XS.istoreN X0.here hx rfl (hb hby at_3) rfl (l' := #[.val (.int p1), .val (.int (p1 &&& (3 : Int32))), .unset, .unset]) rfl kk_) ?_
  generalize hv_i : (p1 &&& (3 : Int32)) = i
  refine Wp.st (S' := s₁.setTop (mkF m 5 #[.val (.int p1), .val (.int i), .unset, .unset] [(.int i)])) (fun tt_ kk_ => XS.iloadN X0.here hx rfl (hb hby at_4) rfl  kk_) ?_
  by_cases c0 : i = (0 : Int32)
  case pos =>
    refine Wp.st (S' := s₁.setTop (mkF m 8 #[.val (.int p1), .val (.int i), .unset, .unset] [])) (fun tt_ kk_ => XS.ifNo X0.here hx rfl (hb hby at_5) rfl ((if0 _ _).trans (teq (c0 : i = (0 : Int32))).2) kk_) ?_
    obtain ⟨T1, X1, e1, st1⟩ := getS2 X0 hx hZ hown (host := "") (Or.inl (hw _ (List.mem_of_getElem? (i := 0) rfl))) Via.refl e0 (PS_THOROUGH.ext O0.2) (g := (mkF m 8 #[.val (.int p1), .val (.int i), .unset, .unset] [])) rfl (hb hby at_8)
    refine Wp.st (S' := T1.setTop (mkF m 11 #[.val (.int p1), .val (.int i), .unset, .unset] [(.ref w_THOROUGH)])) st1 ?_
    refine Wp.st (S' := T1.setTop (mkF m 12 #[.val (.int p1), .val (.int i), .val (.ref w_THOROUGH), .unset] [])) (fun tt_ kk_ => XS.astoreN X1.here hx rfl (hb hby at_11) rfl rfl (l' := #[.val (.int p1), .val (.int i), .val (.ref w_THOROUGH), .unset]) rfl kk_) ?_
    refine Wp.st (S' := T1.setTop (mkF m 13 #[.val (.int p1), .val (.int i), .val (.ref w_THOROUGH), .unset] [(.int (0 : Int32))])) (fun tt_ kk_ => XS.iconst X1.here hx rfl (hb hby at_12) kk_) ?_
    refine Wp.st (S' := T1.setTop (mkF m 14 #[.val (.int p1), .val (.int i), .val (.ref w_THOROUGH), .val (.int (0 : Int32))] [])) (fun tt_ kk_ => XS.istoreN X1.here hx rfl (hb hby at_13) rfl (l' := #[.val (.int p1), .val (.int i), .val (.ref w_THOROUGH), .val (.int (0 : Int32))]) rfl kk_) ?_
    refine Wp.st (S' := T1.setTop (mkF m 51 #[.val (.int p1), .val (.int i), .val (.ref w_THOROUGH), .val (.int (0 : Int32))] [])) (fun tt_ kk_ => XS.goto X1.here hx rfl (pc0 := 14) (pc' := 51) rfl (hb hby at_14) (by decide) (by decide) kk_) ?_
    refine Wp.st (S' := T1.setTop (mkF m 52 #[.val (.int p1), .val (.int i), .val (.ref w_THOROUGH), .val (.int (0 : Int32))] [(.ref w_THOROUGH)])) (fun tt_ kk_ => XS.aloadN X1.here hx rfl (hb hby at_51) rfl rfl kk_) ?_
    obtain ⟨cq2, kq2, q2a, q2b, q2c⟩ := isOf hZ e1 (PE_THOROUGH.ext O0.2)
    obtain ⟨vv2, _, ⟨T2, L2, k2, n2⟩, -, X2, ⟨Lc2, hQ2, l2, y2, z2⟩, st2⟩ := X1.virtualBack hx (y := (⟨"com/example/lauter/lauter/Task", "ranksFiles", "()Z"⟩ : MethodName)) (z := (⟨"com/example/lauter/lauter/Task", "ranksFiles", "()Z"⟩ : MethodName)) hown (mvT hZ (hw _ (List.mem_of_getElem? (i := 3) rfl))) (mvT hZ (hw _ (List.mem_of_getElem? (i := 4) rfl))) (notFace_of_selects (args := #[]) (mvT hZ (hw _ (List.mem_of_getElem? (i := 6) rfl)))) (mvT hZ (hw _ (List.mem_of_getElem? (i := 6) rfl))) (mvT hZ (hw _ (List.mem_of_getElem? (i := 5) rfl))) (by decide) (backOf (W := 0) (rm1 l Z a0 hw [] w_THOROUGH w_RELEVANT_IN_CONTEXT w_BEST_IN_CONTEXT h0 n0 Z0 O0 PS_RELEVANT_IN_CONTEXT PS_BEST_IN_CONTEXT) hZ (hw _ (List.mem_of_getElem? (i := 7) rfl)) (hw _ (List.mem_of_getElem? (i := 1) rfl)) (by decide) (by decide)) q2a q2c (g := (mkF m 52 #[.val (.int p1), .val (.int i), .val (.ref w_THOROUGH), .val (.int (0 : Int32))] [(.ref w_THOROUGH)])) rfl (by rw [hml]; rfl) (Steps.refl _) (argsL := []) (rest := []) (lenOf pd_0 rfl) rfl (by show 2 * 0 + _ ≤ _; exact Nat.le_of_eq rfl) (hb hby at_52) (fun _ _ => ⟨rfl, e1, (by decide : 0 + 0 ≤ _), (by decide : 0 + 0 ≤ _)⟩)
    dsimp only [Pt.U, Pt.locs, Pt.cells, Pt.slots] at X2 l2 y2 z2 st2 hQ2
    subst l2 y2 z2
    obtain ⟨rfl, Nq2, e2⟩ := hQ2
    have N2 := Fr.app N0 Nq2
    refine Wp.tr (S' := T2.setTop (mkF m 55 #[.val (.int p1), .val (.int i), .val (.ref w_THOROUGH), .val (.int (0 : Int32))] [(.int (if w_THOROUGH = w_RELEVANT_IN_CONTEXT ∨ w_THOROUGH = w_BEST_IN_CONTEXT then (1 : Int32) else (0 : Int32)))])) st2 ?_
    refine Wp.st (S' := T2.setTop (mkF m 56 #[.val (.int p1), .val (.int i), .val (.ref w_THOROUGH), .val (.int (0 : Int32))] [(.int (0 : Int32)), (.int (if w_THOROUGH = w_RELEVANT_IN_CONTEXT ∨ w_THOROUGH = w_BEST_IN_CONTEXT then (1 : Int32) else (0 : Int32)))])) (fun tt_ kk_ => XS.iloadN X2.here hx rfl (hb hby at_55) rfl  kk_) ?_
    have hv : (if w_THOROUGH = w_RELEVANT_IN_CONTEXT ∨ w_THOROUGH = w_BEST_IN_CONTEXT then (1 : Int32) else (0 : Int32)) = (0 : Int32) := if_neg (fun q => q.elim (Fld.ne PF_THOROUGH_ordinal PF_RELEVANT_IN_CONTEXT_ordinal (by decide)) (Fld.ne PF_THOROUGH_ordinal PF_BEST_IN_CONTEXT_ordinal (by decide)))
    refine Wp.st (S' := T2.setTop (mkF m 59 #[.val (.int p1), .val (.int i), .val (.ref w_THOROUGH), .val (.int (0 : Int32))] [])) (fun tt_ kk_ => XS.icmpNo X2.here hx rfl (hb hby at_56) rfl (teq (hv : (if w_THOROUGH = w_RELEVANT_IN_CONTEXT ∨ w_THOROUGH = w_BEST_IN_CONTEXT then (1 : Int32) else (0 : Int32)) = (0 : Int32))).2 kk_) ?_
    refine Wp.st (S' := T2.setTop (mkF m 60 #[.val (.int p1), .val (.int i), .val (.ref w_THOROUGH), .val (.int (0 : Int32))] [(.int (1 : Int32))])) (fun tt_ kk_ => XS.iconst X2.here hx rfl (hb hby at_59) kk_) ?_
    refine Wp.st (S' := T2.setTop (mkF m 64 #[.val (.int p1), .val (.int i), .val (.ref w_THOROUGH), .val (.int (0 : Int32))] [(.int (1 : Int32))])) (fun tt_ kk_ => XS.goto X2.here hx rfl (pc0 := 60) (pc' := 64) rfl (hb hby at_60) (by decide) (by decide) kk_) ?_
    exact Wp.ret X2 hlk (v := (some (.int (1 : Int32)))) (fun h => by rw [Bd.returns] at h; cases h) (fun fs hr => retN (z := (1 : Int32)) X2 hx (t := .boolean) Bd.returns (by simp) (hb hby at_64) hr) (by decide) (by decide) (show Q_rm0 Z p1 w_THOROUGH w_FOCUSED w_RELEVANT_IN_CONTEXT w_BEST_IN_CONTEXT h0 n0 _ T2.heap _ by rw [e2]; exact ⟨rfl, N2, rfl⟩)
  case neg =>
    refine Wp.st (S' := s₁.setTop (mkF m 17 #[.val (.int p1), .val (.int i), .unset, .unset] [])) (fun tt_ kk_ => XS.ifYes X0.here hx rfl (pc0 := 5) (pc' := 17) rfl (hb hby at_5) rfl ((if0 _ _).trans (feq (c0 : ¬ (i = (0 : Int32)))).2) (by decide) (by decide) kk_) ?_
    refine Wp.st (S' := s₁.setTop (mkF m 18 #[.val (.int p1), .val (.int i), .unset, .unset] [(.int i)])) (fun tt_ kk_ => XS.iloadN X0.here hx rfl (hb hby at_17) rfl  kk_) ?_
    refine Wp.st (S' := s₁.setTop (mkF m 19 #[.val (.int p1), .val (.int i), .unset, .unset] [(.int (1 : Int32)), (.int i)])) (fun tt_ kk_ => XS.iconst X0.here hx rfl (hb hby at_18) kk_) ?_
    by_cases c1 : i = (1 : Int32)
    case pos =>
      refine Wp.st (S' := s₁.setTop (mkF m 22 #[.val (.int p1), .val (.int i), .unset, .unset] [])) (fun tt_ kk_ => XS.icmpNo X0.here hx rfl (hb hby at_19) rfl (teq (c1 : i = (1 : Int32))).2 kk_) ?_
      obtain ⟨T3, X3, e3, st3⟩ := getS2 X0 hx hZ hown (host := "") (Or.inl (hw _ (List.mem_of_getElem? (i := 14) rfl))) Via.refl e0 (PS_FOCUSED.ext O0.2) (g := (mkF m 22 #[.val (.int p1), .val (.int i), .unset, .unset] [])) rfl (hb hby at_22)
      refine Wp.st (S' := T3.setTop (mkF m 25 #[.val (.int p1), .val (.int i), .unset, .unset] [(.ref w_FOCUSED)])) st3 ?_
      refine Wp.st (S' := T3.setTop (mkF m 26 #[.val (.int p1), .val (.int i), .val (.ref w_FOCUSED), .unset] [])) (fun tt_ kk_ => XS.astoreN X3.here hx rfl (hb hby at_25) rfl rfl (l' := #[.val (.int p1), .val (.int i), .val (.ref w_FOCUSED), .unset]) rfl kk_) ?_
      refine Wp.st (S' := T3.setTop (mkF m 27 #[.val (.int p1), .val (.int i), .val (.ref w_FOCUSED), .unset] [(.int (0 : Int32))])) (fun tt_ kk_ => XS.iconst X3.here hx rfl (hb hby at_26) kk_) ?_
      refine Wp.st (S' := T3.setTop (mkF m 28 #[.val (.int p1), .val (.int i), .val (.ref w_FOCUSED), .val (.int (0 : Int32))] [])) (fun tt_ kk_ => XS.istoreN X3.here hx rfl (hb hby at_27) rfl (l' := #[.val (.int p1), .val (.int i), .val (.ref w_FOCUSED), .val (.int (0 : Int32))]) rfl kk_) ?_
      refine Wp.st (S' := T3.setTop (mkF m 51 #[.val (.int p1), .val (.int i), .val (.ref w_FOCUSED), .val (.int (0 : Int32))] [])) (fun tt_ kk_ => XS.goto X3.here hx rfl (pc0 := 28) (pc' := 51) rfl (hb hby at_28) (by decide) (by decide) kk_) ?_
      refine Wp.st (S' := T3.setTop (mkF m 52 #[.val (.int p1), .val (.int i), .val (.ref w_FOCUSED), .val (.int (0 : Int32))] [(.ref w_FOCUSED)])) (fun tt_ kk_ => XS.aloadN X3.here hx rfl (hb hby at_51) rfl rfl kk_) ?_
      obtain ⟨cq4, kq4, q4a, q4b, q4c⟩ := isOf hZ e3 (PE_FOCUSED.ext O0.2)
      obtain ⟨vv4, _, ⟨T4, L4, k4, n4⟩, -, X4, ⟨Lc4, hQ4, l4, y4, z4⟩, st4⟩ := X3.virtualBack hx (y := (⟨"com/example/lauter/lauter/Task", "ranksFiles", "()Z"⟩ : MethodName)) (z := (⟨"com/example/lauter/lauter/Task", "ranksFiles", "()Z"⟩ : MethodName)) hown (mvT hZ (hw _ (List.mem_of_getElem? (i := 3) rfl))) (mvT hZ (hw _ (List.mem_of_getElem? (i := 4) rfl))) (notFace_of_selects (args := #[]) (mvT hZ (hw _ (List.mem_of_getElem? (i := 6) rfl)))) (mvT hZ (hw _ (List.mem_of_getElem? (i := 6) rfl))) (mvT hZ (hw _ (List.mem_of_getElem? (i := 5) rfl))) (by decide) (backOf (W := 0) (rm1 l Z a0 hw [] w_FOCUSED w_RELEVANT_IN_CONTEXT w_BEST_IN_CONTEXT h0 n0 Z0 O0 PS_RELEVANT_IN_CONTEXT PS_BEST_IN_CONTEXT) hZ (hw _ (List.mem_of_getElem? (i := 7) rfl)) (hw _ (List.mem_of_getElem? (i := 1) rfl)) (by decide) (by decide)) q4a q4c (g := (mkF m 52 #[.val (.int p1), .val (.int i), .val (.ref w_FOCUSED), .val (.int (0 : Int32))] [(.ref w_FOCUSED)])) rfl (by rw [hml]; rfl) (Steps.refl _) (argsL := []) (rest := []) (lenOf pd_0 rfl) rfl (by show 2 * 0 + _ ≤ _; exact Nat.le_of_eq rfl) (hb hby at_52) (fun _ _ => ⟨rfl, e3, (by decide : 0 + 0 ≤ _), (by decide : 0 + 0 ≤ _)⟩)
      dsimp only [Pt.U, Pt.locs, Pt.cells, Pt.slots] at X4 l4 y4 z4 st4 hQ4
      subst l4 y4 z4
      obtain ⟨rfl, Nq4, e4⟩ := hQ4
      have N4 := Fr.app N0 Nq4
      refine Wp.tr (S' := T4.setTop (mkF m 55 #[.val (.int p1), .val (.int i), .val (.ref w_FOCUSED), .val (.int (0 : Int32))] [(.int (if w_FOCUSED = w_RELEVANT_IN_CONTEXT ∨ w_FOCUSED = w_BEST_IN_CONTEXT then (1 : Int32) else (0 : Int32)))])) st4 ?_
      refine Wp.st (S' := T4.setTop (mkF m 56 #[.val (.int p1), .val (.int i), .val (.ref w_FOCUSED), .val (.int (0 : Int32))] [(.int (0 : Int32)), (.int (if w_FOCUSED = w_RELEVANT_IN_CONTEXT ∨ w_FOCUSED = w_BEST_IN_CONTEXT then (1 : Int32) else (0 : Int32)))])) (fun tt_ kk_ => XS.iloadN X4.here hx rfl (hb hby at_55) rfl  kk_) ?_
      have hv : (if w_FOCUSED = w_RELEVANT_IN_CONTEXT ∨ w_FOCUSED = w_BEST_IN_CONTEXT then (1 : Int32) else (0 : Int32)) = (0 : Int32) := if_neg (fun q => q.elim (Fld.ne PF_FOCUSED_ordinal PF_RELEVANT_IN_CONTEXT_ordinal (by decide)) (Fld.ne PF_FOCUSED_ordinal PF_BEST_IN_CONTEXT_ordinal (by decide)))
      refine Wp.st (S' := T4.setTop (mkF m 59 #[.val (.int p1), .val (.int i), .val (.ref w_FOCUSED), .val (.int (0 : Int32))] [])) (fun tt_ kk_ => XS.icmpNo X4.here hx rfl (hb hby at_56) rfl (teq (hv : (if w_FOCUSED = w_RELEVANT_IN_CONTEXT ∨ w_FOCUSED = w_BEST_IN_CONTEXT then (1 : Int32) else (0 : Int32)) = (0 : Int32))).2 kk_) ?_
      refine Wp.st (S' := T4.setTop (mkF m 60 #[.val (.int p1), .val (.int i), .val (.ref w_FOCUSED), .val (.int (0 : Int32))] [(.int (1 : Int32))])) (fun tt_ kk_ => XS.iconst X4.here hx rfl (hb hby at_59) kk_) ?_
      refine Wp.st (S' := T4.setTop (mkF m 64 #[.val (.int p1), .val (.int i), .val (.ref w_FOCUSED), .val (.int (0 : Int32))] [(.int (1 : Int32))])) (fun tt_ kk_ => XS.goto X4.here hx rfl (pc0 := 60) (pc' := 64) rfl (hb hby at_60) (by decide) (by decide) kk_) ?_
      exact Wp.ret X4 hlk (v := (some (.int (1 : Int32)))) (fun h => by rw [Bd.returns] at h; cases h) (fun fs hr => retN (z := (1 : Int32)) X4 hx (t := .boolean) Bd.returns (by simp) (hb hby at_64) hr) (by decide) (by decide) (show Q_rm0 Z p1 w_THOROUGH w_FOCUSED w_RELEVANT_IN_CONTEXT w_BEST_IN_CONTEXT h0 n0 _ T4.heap _ by rw [e4]; exact ⟨rfl, N4, rfl⟩)
    case neg =>
      refine Wp.st (S' := s₁.setTop (mkF m 31 #[.val (.int p1), .val (.int i), .unset, .unset] [])) (fun tt_ kk_ => XS.icmpYes X0.here hx rfl (pc0 := 19) (pc' := 31) rfl (hb hby at_19) rfl (feq (c1 : ¬ (i = (1 : Int32)))).2 (by decide) (by decide) kk_) ?_
      refine Wp.st (S' := s₁.setTop (mkF m 32 #[.val (.int p1), .val (.int i), .unset, .unset] [(.int i)])) (fun tt_ kk_ => XS.iloadN X0.here hx rfl (hb hby at_31) rfl  kk_) ?_
      refine Wp.st (S' := s₁.setTop (mkF m 33 #[.val (.int p1), .val (.int i), .unset, .unset] [(.int (2 : Int32)), (.int i)])) (fun tt_ kk_ => XS.iconst X0.here hx rfl (hb hby at_32) kk_) ?_
      by_cases c2 : i = (2 : Int32)
      case pos =>
        refine Wp.st (S' := s₁.setTop (mkF m 36 #[.val (.int p1), .val (.int i), .unset, .unset] [])) (fun tt_ kk_ => XS.icmpNo X0.here hx rfl (hb hby at_33) rfl (teq (c2 : i = (2 : Int32))).2 kk_) ?_
        obtain ⟨T5, X5, e5, st5⟩ := getS2 X0 hx hZ hown (host := "") (Or.inl (hw _ (List.mem_of_getElem? (i := 13) rfl))) Via.refl e0 (PS_RELEVANT_IN_CONTEXT.ext O0.2) (g := (mkF m 36 #[.val (.int p1), .val (.int i), .unset, .unset] [])) rfl (hb hby at_36)
        refine Wp.st (S' := T5.setTop (mkF m 39 #[.val (.int p1), .val (.int i), .unset, .unset] [(.ref w_RELEVANT_IN_CONTEXT)])) st5 ?_
        refine Wp.st (S' := T5.setTop (mkF m 40 #[.val (.int p1), .val (.int i), .val (.ref w_RELEVANT_IN_CONTEXT), .unset] [])) (fun tt_ kk_ => XS.astoreN X5.here hx rfl (hb hby at_39) rfl rfl (l' := #[.val (.int p1), .val (.int i), .val (.ref w_RELEVANT_IN_CONTEXT), .unset]) rfl kk_) ?_
        refine Wp.st (S' := T5.setTop (mkF m 41 #[.val (.int p1), .val (.int i), .val (.ref w_RELEVANT_IN_CONTEXT), .unset] [(.int (1 : Int32))])) (fun tt_ kk_ => XS.iconst X5.here hx rfl (hb hby at_40) kk_) ?_
        refine Wp.st (S' := T5.setTop (mkF m 42 #[.val (.int p1), .val (.int i), .val (.ref w_RELEVANT_IN_CONTEXT), .val (.int (1 : Int32))] [])) (fun tt_ kk_ => XS.istoreN X5.here hx rfl (hb hby at_41) rfl (l' := #[.val (.int p1), .val (.int i), .val (.ref w_RELEVANT_IN_CONTEXT), .val (.int (1 : Int32))]) rfl kk_) ?_
        refine Wp.st (S' := T5.setTop (mkF m 51 #[.val (.int p1), .val (.int i), .val (.ref w_RELEVANT_IN_CONTEXT), .val (.int (1 : Int32))] [])) (fun tt_ kk_ => XS.goto X5.here hx rfl (pc0 := 42) (pc' := 51) rfl (hb hby at_42) (by decide) (by decide) kk_) ?_
        refine Wp.st (S' := T5.setTop (mkF m 52 #[.val (.int p1), .val (.int i), .val (.ref w_RELEVANT_IN_CONTEXT), .val (.int (1 : Int32))] [(.ref w_RELEVANT_IN_CONTEXT)])) (fun tt_ kk_ => XS.aloadN X5.here hx rfl (hb hby at_51) rfl rfl kk_) ?_
        obtain ⟨cq6, kq6, q6a, q6b, q6c⟩ := isOf hZ e5 (PE_RELEVANT_IN_CONTEXT.ext O0.2)
        obtain ⟨vv6, _, ⟨T6, L6, k6, n6⟩, -, X6, ⟨Lc6, hQ6, l6, y6, z6⟩, st6⟩ := X5.virtualBack hx (y := (⟨"com/example/lauter/lauter/Task", "ranksFiles", "()Z"⟩ : MethodName)) (z := (⟨"com/example/lauter/lauter/Task", "ranksFiles", "()Z"⟩ : MethodName)) hown (mvT hZ (hw _ (List.mem_of_getElem? (i := 3) rfl))) (mvT hZ (hw _ (List.mem_of_getElem? (i := 4) rfl))) (notFace_of_selects (args := #[]) (mvT hZ (hw _ (List.mem_of_getElem? (i := 6) rfl)))) (mvT hZ (hw _ (List.mem_of_getElem? (i := 6) rfl))) (mvT hZ (hw _ (List.mem_of_getElem? (i := 5) rfl))) (by decide) (backOf (W := 0) (rm1 l Z a0 hw [] w_RELEVANT_IN_CONTEXT w_RELEVANT_IN_CONTEXT w_BEST_IN_CONTEXT h0 n0 Z0 O0 PS_RELEVANT_IN_CONTEXT PS_BEST_IN_CONTEXT) hZ (hw _ (List.mem_of_getElem? (i := 7) rfl)) (hw _ (List.mem_of_getElem? (i := 1) rfl)) (by decide) (by decide)) q6a q6c (g := (mkF m 52 #[.val (.int p1), .val (.int i), .val (.ref w_RELEVANT_IN_CONTEXT), .val (.int (1 : Int32))] [(.ref w_RELEVANT_IN_CONTEXT)])) rfl (by rw [hml]; rfl) (Steps.refl _) (argsL := []) (rest := []) (lenOf pd_0 rfl) rfl (by show 2 * 0 + _ ≤ _; exact Nat.le_of_eq rfl) (hb hby at_52) (fun _ _ => ⟨rfl, e5, (by decide : 0 + 0 ≤ _), (by decide : 0 + 0 ≤ _)⟩)
        dsimp only [Pt.U, Pt.locs, Pt.cells, Pt.slots] at X6 l6 y6 z6 st6 hQ6
        subst l6 y6 z6
        obtain ⟨rfl, Nq6, e6⟩ := hQ6
        have N6 := Fr.app N0 Nq6
        refine Wp.tr (S' := T6.setTop (mkF m 55 #[.val (.int p1), .val (.int i), .val (.ref w_RELEVANT_IN_CONTEXT), .val (.int (1 : Int32))] [(.int (if w_RELEVANT_IN_CONTEXT = w_RELEVANT_IN_CONTEXT ∨ w_RELEVANT_IN_CONTEXT = w_BEST_IN_CONTEXT then (1 : Int32) else (0 : Int32)))])) st6 ?_
        refine Wp.st (S' := T6.setTop (mkF m 56 #[.val (.int p1), .val (.int i), .val (.ref w_RELEVANT_IN_CONTEXT), .val (.int (1 : Int32))] [(.int (1 : Int32)), (.int (if w_RELEVANT_IN_CONTEXT = w_RELEVANT_IN_CONTEXT ∨ w_RELEVANT_IN_CONTEXT = w_BEST_IN_CONTEXT then (1 : Int32) else (0 : Int32)))])) (fun tt_ kk_ => XS.iloadN X6.here hx rfl (hb hby at_55) rfl  kk_) ?_
        have hv : (if w_RELEVANT_IN_CONTEXT = w_RELEVANT_IN_CONTEXT ∨ w_RELEVANT_IN_CONTEXT = w_BEST_IN_CONTEXT then (1 : Int32) else (0 : Int32)) = (1 : Int32) := if_pos (Or.inl rfl)
        refine Wp.st (S' := T6.setTop (mkF m 59 #[.val (.int p1), .val (.int i), .val (.ref w_RELEVANT_IN_CONTEXT), .val (.int (1 : Int32))] [])) (fun tt_ kk_ => XS.icmpNo X6.here hx rfl (hb hby at_56) rfl (teq (hv : (if w_RELEVANT_IN_CONTEXT = w_RELEVANT_IN_CONTEXT ∨ w_RELEVANT_IN_CONTEXT = w_BEST_IN_CONTEXT then (1 : Int32) else (0 : Int32)) = (1 : Int32))).2 kk_) ?_
        refine Wp.st (S' := T6.setTop (mkF m 60 #[.val (.int p1), .val (.int i), .val (.ref w_RELEVANT_IN_CONTEXT), .val (.int (1 : Int32))] [(.int (1 : Int32))])) (fun tt_ kk_ => XS.iconst X6.here hx rfl (hb hby at_59) kk_) ?_
        refine Wp.st (S' := T6.setTop (mkF m 64 #[.val (.int p1), .val (.int i), .val (.ref w_RELEVANT_IN_CONTEXT), .val (.int (1 : Int32))] [(.int (1 : Int32))])) (fun tt_ kk_ => XS.goto X6.here hx rfl (pc0 := 60) (pc' := 64) rfl (hb hby at_60) (by decide) (by decide) kk_) ?_
        exact Wp.ret X6 hlk (v := (some (.int (1 : Int32)))) (fun h => by rw [Bd.returns] at h; cases h) (fun fs hr => retN (z := (1 : Int32)) X6 hx (t := .boolean) Bd.returns (by simp) (hb hby at_64) hr) (by decide) (by decide) (show Q_rm0 Z p1 w_THOROUGH w_FOCUSED w_RELEVANT_IN_CONTEXT w_BEST_IN_CONTEXT h0 n0 _ T6.heap _ by rw [e6]; exact ⟨rfl, N6, rfl⟩)
      case neg =>
        refine Wp.st (S' := s₁.setTop (mkF m 45 #[.val (.int p1), .val (.int i), .unset, .unset] [])) (fun tt_ kk_ => XS.icmpYes X0.here hx rfl (pc0 := 33) (pc' := 45) rfl (hb hby at_33) rfl (feq (c2 : ¬ (i = (2 : Int32)))).2 (by decide) (by decide) kk_) ?_
        obtain ⟨T7, X7, e7, st7⟩ := getS2 X0 hx hZ hown (host := "") (Or.inl (hw _ (List.mem_of_getElem? (i := 12) rfl))) Via.refl e0 (PS_BEST_IN_CONTEXT.ext O0.2) (g := (mkF m 45 #[.val (.int p1), .val (.int i), .unset, .unset] [])) rfl (hb hby at_45)
        refine Wp.st (S' := T7.setTop (mkF m 48 #[.val (.int p1), .val (.int i), .unset, .unset] [(.ref w_BEST_IN_CONTEXT)])) st7 ?_
        refine Wp.st (S' := T7.setTop (mkF m 49 #[.val (.int p1), .val (.int i), .val (.ref w_BEST_IN_CONTEXT), .unset] [])) (fun tt_ kk_ => XS.astoreN X7.here hx rfl (hb hby at_48) rfl rfl (l' := #[.val (.int p1), .val (.int i), .val (.ref w_BEST_IN_CONTEXT), .unset]) rfl kk_) ?_
        refine Wp.st (S' := T7.setTop (mkF m 50 #[.val (.int p1), .val (.int i), .val (.ref w_BEST_IN_CONTEXT), .unset] [(.int (1 : Int32))])) (fun tt_ kk_ => XS.iconst X7.here hx rfl (hb hby at_49) kk_) ?_
        refine Wp.st (S' := T7.setTop (mkF m 51 #[.val (.int p1), .val (.int i), .val (.ref w_BEST_IN_CONTEXT), .val (.int (1 : Int32))] [])) (fun tt_ kk_ => XS.istoreN X7.here hx rfl (hb hby at_50) rfl (l' := #[.val (.int p1), .val (.int i), .val (.ref w_BEST_IN_CONTEXT), .val (.int (1 : Int32))]) rfl kk_) ?_
        refine Wp.st (S' := T7.setTop (mkF m 52 #[.val (.int p1), .val (.int i), .val (.ref w_BEST_IN_CONTEXT), .val (.int (1 : Int32))] [(.ref w_BEST_IN_CONTEXT)])) (fun tt_ kk_ => XS.aloadN X7.here hx rfl (hb hby at_51) rfl rfl kk_) ?_
        obtain ⟨cq8, kq8, q8a, q8b, q8c⟩ := isOf hZ e7 (PE_BEST_IN_CONTEXT.ext O0.2)
        obtain ⟨vv8, _, ⟨T8, L8, k8, n8⟩, -, X8, ⟨Lc8, hQ8, l8, y8, z8⟩, st8⟩ := X7.virtualBack hx (y := (⟨"com/example/lauter/lauter/Task", "ranksFiles", "()Z"⟩ : MethodName)) (z := (⟨"com/example/lauter/lauter/Task", "ranksFiles", "()Z"⟩ : MethodName)) hown (mvT hZ (hw _ (List.mem_of_getElem? (i := 3) rfl))) (mvT hZ (hw _ (List.mem_of_getElem? (i := 4) rfl))) (notFace_of_selects (args := #[]) (mvT hZ (hw _ (List.mem_of_getElem? (i := 6) rfl)))) (mvT hZ (hw _ (List.mem_of_getElem? (i := 6) rfl))) (mvT hZ (hw _ (List.mem_of_getElem? (i := 5) rfl))) (by decide) (backOf (W := 0) (rm1 l Z a0 hw [] w_BEST_IN_CONTEXT w_RELEVANT_IN_CONTEXT w_BEST_IN_CONTEXT h0 n0 Z0 O0 PS_RELEVANT_IN_CONTEXT PS_BEST_IN_CONTEXT) hZ (hw _ (List.mem_of_getElem? (i := 7) rfl)) (hw _ (List.mem_of_getElem? (i := 1) rfl)) (by decide) (by decide)) q8a q8c (g := (mkF m 52 #[.val (.int p1), .val (.int i), .val (.ref w_BEST_IN_CONTEXT), .val (.int (1 : Int32))] [(.ref w_BEST_IN_CONTEXT)])) rfl (by rw [hml]; rfl) (Steps.refl _) (argsL := []) (rest := []) (lenOf pd_0 rfl) rfl (by show 2 * 0 + _ ≤ _; exact Nat.le_of_eq rfl) (hb hby at_52) (fun _ _ => ⟨rfl, e7, (by decide : 0 + 0 ≤ _), (by decide : 0 + 0 ≤ _)⟩)
        dsimp only [Pt.U, Pt.locs, Pt.cells, Pt.slots] at X8 l8 y8 z8 st8 hQ8
        subst l8 y8 z8
        obtain ⟨rfl, Nq8, e8⟩ := hQ8
        have N8 := Fr.app N0 Nq8
        refine Wp.tr (S' := T8.setTop (mkF m 55 #[.val (.int p1), .val (.int i), .val (.ref w_BEST_IN_CONTEXT), .val (.int (1 : Int32))] [(.int (if w_BEST_IN_CONTEXT = w_RELEVANT_IN_CONTEXT ∨ w_BEST_IN_CONTEXT = w_BEST_IN_CONTEXT then (1 : Int32) else (0 : Int32)))])) st8 ?_
        refine Wp.st (S' := T8.setTop (mkF m 56 #[.val (.int p1), .val (.int i), .val (.ref w_BEST_IN_CONTEXT), .val (.int (1 : Int32))] [(.int (1 : Int32)), (.int (if w_BEST_IN_CONTEXT = w_RELEVANT_IN_CONTEXT ∨ w_BEST_IN_CONTEXT = w_BEST_IN_CONTEXT then (1 : Int32) else (0 : Int32)))])) (fun tt_ kk_ => XS.iloadN X8.here hx rfl (hb hby at_55) rfl  kk_) ?_
        have hv : (if w_BEST_IN_CONTEXT = w_RELEVANT_IN_CONTEXT ∨ w_BEST_IN_CONTEXT = w_BEST_IN_CONTEXT then (1 : Int32) else (0 : Int32)) = (1 : Int32) := if_pos (Or.inr rfl)
        refine Wp.st (S' := T8.setTop (mkF m 59 #[.val (.int p1), .val (.int i), .val (.ref w_BEST_IN_CONTEXT), .val (.int (1 : Int32))] [])) (fun tt_ kk_ => XS.icmpNo X8.here hx rfl (hb hby at_56) rfl (teq (hv : (if w_BEST_IN_CONTEXT = w_RELEVANT_IN_CONTEXT ∨ w_BEST_IN_CONTEXT = w_BEST_IN_CONTEXT then (1 : Int32) else (0 : Int32)) = (1 : Int32))).2 kk_) ?_
        refine Wp.st (S' := T8.setTop (mkF m 60 #[.val (.int p1), .val (.int i), .val (.ref w_BEST_IN_CONTEXT), .val (.int (1 : Int32))] [(.int (1 : Int32))])) (fun tt_ kk_ => XS.iconst X8.here hx rfl (hb hby at_59) kk_) ?_
        refine Wp.st (S' := T8.setTop (mkF m 64 #[.val (.int p1), .val (.int i), .val (.ref w_BEST_IN_CONTEXT), .val (.int (1 : Int32))] [(.int (1 : Int32))])) (fun tt_ kk_ => XS.goto X8.here hx rfl (pc0 := 60) (pc' := 64) rfl (hb hby at_60) (by decide) (by decide) kk_) ?_
        exact Wp.ret X8 hlk (v := (some (.int (1 : Int32)))) (fun h => by rw [Bd.returns] at h; cases h) (fun fs hr => retN (z := (1 : Int32)) X8 hx (t := .boolean) Bd.returns (by simp) (hb hby at_64) hr) (by decide) (by decide) (show Q_rm0 Z p1 w_THOROUGH w_FOCUSED w_RELEVANT_IN_CONTEXT w_BEST_IN_CONTEXT h0 n0 _ T8.heap _ by rw [e8]; exact ⟨rfl, N8, rfl⟩)
set_option maxRecDepth 65536 in
set_option maxHeartbeats 40000000 in
theorem comes_1 {Post : Tables → Env → Array Value → State → Outcome → State → Prop} (hpost : ∀ tb e args s v u, (limb_1_1.after args s (.returned v) u = true ∧ limb_1_2.after args s (.returned v) u = true ∧ True) → FrameEnd s (.returned v) u (Jvm.fieldLocs frame_1_writes args s ++ Jvm.arrayLocs frame_1_arrays args s ++ Jvm.staticLocs frame_1_statics s) 0 0 → Post tb e args s (.returned v) u) :
    ArmFor flags0 classFile x code maxLocals ret World_1 tables_1 room_1 Calls_1 rest_1 Pre_1 Post := by
  intro l hfl _ _ p e ha hc hk s m args below hf hA hF happ hP
  obtain ⟨hcalls, hrest, hpre⟩ := hP
  obtain ⟨-, -, -, hnamed, -, -, -, hat⟩ := (Spec.applies_iff hf).mp happ
  obtain ⟨hg, hn⟩ := and_e (Cond.before_iff.mp (show (Jvm.Cond.and given_1 narrow_1).before args s = true from hpre))
  obtain ⟨q1, q2⟩ := and_e hg
  obtain ⟨w0, rfl⟩ : ∃ w0 : Value, args = #[w0] := by
    have hs : args.size = 1 := by simpa [Cond.value, given_1] using q1
    obtain ⟨L⟩ := args
    match L, hs with
    | [w0], _ => exact ⟨w0, rfl⟩
  have hw := fun d (hd : d ∈ tables_1) => atoms_spec (ws := Jvm.Cond.code x code maxLocals ret :: tables_1) hat d (List.mem_cons_of_mem _ hd)
  have hfit : Fit s := fun {y c} hc i hi => by
    obtain ⟨ha, rfl⟩ := Array.getElem?_eq_some_iff.mp hc
    have q := List.all_eq_true.mp ((Array.all_eq_true_iff_forall_mem.mp hF) _ (Array.getElem_mem ha)) i (List.mem_range.mpr hi)
    simpa [Array.getElem?_eq_getElem hi] using q
  obtain ⟨q3, q4⟩ := and_e hn
  obtain ⟨w_THOROUGH, ev_THOROUGH⟩ := exa_v q3
  have PE_THOROUGH := Exa.start ev_THOROUGH q3
  have PS_THOROUGH := Sta.start ev_THOROUGH (Or.inr ⟨(hw _ (List.mem_of_getElem? (i := 1) rfl)), (hw _ (List.mem_of_getElem? (i := 2) rfl))⟩)
  obtain ⟨q5, q6⟩ := and_e q4
  obtain ⟨w_RELEVANT_IN_CONTEXT, ev_RELEVANT_IN_CONTEXT⟩ := exa_v q5
  have PE_RELEVANT_IN_CONTEXT := Exa.start ev_RELEVANT_IN_CONTEXT q5
  have PS_RELEVANT_IN_CONTEXT := Sta.start ev_RELEVANT_IN_CONTEXT (Or.inr ⟨(hw _ (List.mem_of_getElem? (i := 1) rfl)), (hw _ (List.mem_of_getElem? (i := 9) rfl))⟩)
  obtain ⟨q7, q8⟩ := and_e q6
  obtain ⟨q9, q10⟩ := and_e q8
  obtain ⟨q11, q12⟩ := and_e q10
  obtain ⟨w_BEST_IN_CONTEXT, ev_BEST_IN_CONTEXT⟩ := exa_v q11
  have PE_BEST_IN_CONTEXT := Exa.start ev_BEST_IN_CONTEXT q11
  have PS_BEST_IN_CONTEXT := Sta.start ev_BEST_IN_CONTEXT (Or.inr ⟨(hw _ (List.mem_of_getElem? (i := 1) rfl)), (hw _ (List.mem_of_getElem? (i := 11) rfl))⟩)
  obtain ⟨q13, q14⟩ := and_e q12
  obtain ⟨q15, q16⟩ := and_e q14
  obtain ⟨w_FOCUSED, ev_FOCUSED⟩ := exa_v q15
  have PE_FOCUSED := Exa.start ev_FOCUSED q15
  have PS_FOCUSED := Sta.start ev_FOCUSED (Or.inr ⟨(hw _ (List.mem_of_getElem? (i := 1) rfl)), (hw _ (List.mem_of_getElem? (i := 15) rfl))⟩)
  have PF_THOROUGH_ordinal := Fld.start ((fld_at ev_THOROUGH).symm.trans (eqv_i (Term.int_eval (0)) q7))
  have PF_RELEVANT_IN_CONTEXT_ordinal := Fld.start ((fld_at ev_RELEVANT_IN_CONTEXT).symm.trans (eqv_i (Term.int_eval (2)) q9))
  have PF_BEST_IN_CONTEXT_ordinal := Fld.start ((fld_at ev_BEST_IN_CONTEXT).symm.trans (eqv_i (Term.int_eval (3)) q13))
  have PF_FOCUSED_ordinal := Fld.start ((fld_at ev_FOCUSED).symm.trans (eqv_i (Term.int_eval (1)) q16))
  obtain ⟨i0, ei0⟩ := is_v q2
  obtain rfl : w0 = (.int i0) := Option.some.inj ei0
  obtain ⟨n, o, h1, h2, h3, _, L, rfl, ⟨rfl, N, -⟩, hq⟩ := rm0 l s _ hw tables_1 i0 w_THOROUGH w_FOCUSED w_RELEVANT_IN_CONTEXT w_BEST_IN_CONTEXT s.heap s.heap.size (Nat.le_refl _) (Old.start s) PE_THOROUGH PS_THOROUGH PE_RELEVANT_IN_CONTEXT PS_RELEVANT_IN_CONTEXT PF_THOROUGH_ordinal PF_RELEVANT_IN_CONTEXT_ordinal PE_BEST_IN_CONTEXT PS_BEST_IN_CONTEXT PF_BEST_IN_CONTEXT_ordinal PE_FOCUSED PS_FOCUSED PF_FOCUSED_ordinal p e ha hc hk s m _ below hf ((Spec.applies_iff_loose hf).mp happ).1 ⟨rfl, State.Warmed39.refl s, rfl⟩ trivial
  refine ⟨n, _, h1, h2, h3, hpost _ _ _ _ _ _ ⟨Cond.after_iff.mpr rfl, Cond.after_iff.mpr (eq_i res_at (Term.int_eval (1)) rfl), trivial⟩ ⟨hq.1, hq.2.1, (hq.2.2.sift fun y hy => Or.inr (N y hy)).mono (by decide) (by decide)⟩⟩
theorem main_1_1 : Claimed_1_1 := comes_1 fun _ _ _ _ _ _ h hF => ⟨h.1, hF⟩
theorem main_1_2 : Claimed_1_2 := comes_1 fun _ _ _ _ _ _ h hF => ⟨h.2.1, hF⟩
end Jvm.Pilot.@@N@@
namespace Jvm.Pilot.@@N@@
open Jvm Jvm.ClassFile Sem Op Lib Jvm.Free Jvm.Stand Jvm.Pilot.@@N@@.Jvm.D
/-! MADE BY PROGRAM (witnessworld.py) out of the Statement's table words and the real class files: 13 classes; the members and pool entries that the words name. The judged class is class 1, her method 1. -/
namespace start1
open Jvm.ClassFile
def u (s : String) : CpInfo := .utf8 (stringToUtf16 s)
/-- a pool by its gaps: so many unusable entries, then the entry; so many at the end -/
def gap : Nat → List CpInfo → List CpInfo
  | 0, r => r
  | n + 1, r => .unusable :: gap n r
def poolList (es : List (Nat × CpInfo)) (last : Nat) : List CpInfo := es.foldr (fun e r => gap e.1 (e.2 :: r)) (gap last [])
def pool (es : List (Nat × CpInfo)) (last : Nat) : Array CpInfo := ⟨poolList es last⟩
def fileOf (pool : Array CpInfo) (this : Nat) (attrs : Array Attribute := #[]) (ms : Array MethodInfo := #[]) (fl : Nat := 33) (sup : Nat := 0) (ifs : Array Nat := #[]) (fds : Array FieldInfo := #[]) : ClassFile where
  minorVersion := 0
  majorVersion := 65
  constantPool := pool
  accessFlags := fl
  thisClass := this
  superClass := sup
  interfaces := ifs
  fields := fds
  methods := ms
  attributes := attrs
def plain (name : String) (sup : Option ClassId) : Class where
  name := name
  kind := .ordinary
  loader := none
  accessFlags := 33
  super := sup
  interfaces := #[]
  cf := none
  fields := #[]
  methods := #[]
  instanceTypes := #[]
  staticTypes := #[]
  resolved := #[]
  callSites := []
  init := .initialized
  statics := none
  mirror := none

def pool0 : Array CpInfo := pool [(5, u "<init>"), (0, u "()V"), (1, .class_ 10), (1, u "java/lang/Object")] 113

def k0m0 : Method := { name := "<init>", desc := "()V", sig := { parameters := [], returnType := none }, accessFlags := 1, code := none }
/-- java/lang/Object -/
def k0 : Class := { plain "java/lang/Object" none with
  accessFlags := 33
  interfaces := #[]
  cf := some (fileOf pool0 8 #[] #[{ accessFlags := 1, nameIndex := 5, descriptorIndex := 6, attributes := #[] }] 33 0 #[] #[])
  fields := #[]
  methods := #[k0m0]
  instanceTypes := #[]
  staticTypes := #[]
  resolved := Array.replicate 124 none
  statics := none }

def pool1 : Array CpInfo := pool [(2, .class_ 4), (1, u "java/lang/Object"), (0, u "<init>"), (0, u "()V"), (0, .fieldref 8 9), (0, .class_ 10), (0, .nameAndType 11 12), (0, u "com/example/lauter/lauter/Task"), (0, u "THOROUGH"), (0, u "Lcom/example/lauter/lauter/Task;"), (0, .fieldref 8 14), (0, .nameAndType 15 12), (0, u "FOCUSED"), (0, .fieldref 8 17), (0, .nameAndType 18 12), (0, u "RELEVANT_IN_CONTEXT"), (0, .fieldref 8 20), (0, .nameAndType 21 12), (0, u "BEST_IN_CONTEXT"), (0, .methodref 8 23), (0, .nameAndType 24 25), (0, u "ranksFiles"), (0, u "()Z"), (0, .class_ 27), (0, u "com/example/lauter/lauter/TaskRanksFilesPinLaw"), (2, u "law"), (0, u "(I)Z")] 3

def k1m0 : Method := { name := "<init>", desc := "()V", sig := { parameters := [], returnType := none }, accessFlags := 2, code := none }
def k1c1 : Code := { maxStack := 2, maxLocals := 4, code := code, exceptionTable := #[], attributes := #[] }
def k1m1 : Method := { name := "law", desc := "(I)Z", sig := { parameters := [.int], returnType := some .boolean }, accessFlags := 9, code := some k1c1 }
/-- com/example/lauter/lauter/TaskRanksFilesPinLaw -/
def k1 : Class := { plain "com/example/lauter/lauter/TaskRanksFilesPinLaw" (some 0) with
  accessFlags := 49
  interfaces := #[]
  cf := some (fileOf pool1 26 #[] #[{ accessFlags := 2, nameIndex := 5, descriptorIndex := 6, attributes := #[] }, { accessFlags := 9, nameIndex := 30, descriptorIndex := 31, attributes := #[] }] 49 2 #[] #[])
  fields := #[]
  methods := #[k1m0, k1m1]
  instanceTypes := #[]
  staticTypes := #[]
  resolved := Array.replicate 35 none
  statics := none }

def pool2 : Array CpInfo := pool [(1, .class_ 2), (0, u "java/lang/constant/Constable"), (0, .class_ 4), (0, u "java/lang/Object")] 6

/-- java/lang/constant/Constable -/
def k2 : Class := { plain "java/lang/constant/Constable" (some 0) with
  accessFlags := 1537
  interfaces := #[]
  cf := some (fileOf pool2 1 #[] #[] 1537 3 #[] #[])
  fields := #[]
  methods := #[]
  instanceTypes := #[]
  staticTypes := #[]
  resolved := Array.replicate 11 none
  statics := none }

def pool3 : Array CpInfo := pool [(1, .class_ 2), (0, u "java/lang/Comparable"), (0, .class_ 4), (0, u "java/lang/Object")] 7

/-- java/lang/Comparable -/
def k3 : Class := { plain "java/lang/Comparable" (some 0) with
  accessFlags := 1537
  interfaces := #[]
  cf := some (fileOf pool3 1 #[] #[] 1537 3 #[] #[])
  fields := #[]
  methods := #[]
  instanceTypes := #[]
  staticTypes := #[]
  resolved := Array.replicate 12 none
  statics := none }

def pool4 : Array CpInfo := pool [(1, .class_ 2), (0, u "java/io/Serializable"), (0, .class_ 4), (0, u "java/lang/Object")] 2

/-- java/io/Serializable -/
def k4 : Class := { plain "java/io/Serializable" (some 0) with
  accessFlags := 1537
  interfaces := #[]
  cf := some (fileOf pool4 1 #[] #[] 1537 3 #[] #[])
  fields := #[]
  methods := #[]
  instanceTypes := #[]
  staticTypes := #[]
  resolved := Array.replicate 7 none
  statics := none }

def pool5 : Array CpInfo := pool [(2, .class_ 4), (1, u "java/lang/Enum"), (0, u "name"), (0, u "Ljava/lang/String;"), (2, u "ordinal"), (0, u "I"), (1, .class_ 14), (1, u "java/lang/Object"), (4, u "hash"), (86, .class_ 108), (1, u "java/lang/Enum$EnumDesc"), (2, .class_ 112), (0, u "java/lang/constant/Constable"), (0, .class_ 114), (0, u "java/lang/Comparable"), (0, .class_ 116), (0, u "java/io/Serializable")] 87

/-- java/lang/Enum -/
def k5 : Class := { plain "java/lang/Enum" (some 0) with
  accessFlags := 1057
  interfaces := #[2, 3, 4]
  cf := some (fileOf pool5 2 #[.nestMembers #[106]] #[] 1057 12 #[111, 113, 115] #[{ accessFlags := 18, nameIndex := 5, descriptorIndex := 6, attributes := #[] }, { accessFlags := 18, nameIndex := 9, descriptorIndex := 10, attributes := #[] }, { accessFlags := 2, nameIndex := 19, descriptorIndex := 10, attributes := #[] }])
  fields := #[{ name := "name", type := (.object "java/lang/String"), accessFlags := 18, slot := 0, constantValue := 0 }, { name := "ordinal", type := .int, accessFlags := 18, slot := 1, constantValue := 0 }, { name := "hash", type := .int, accessFlags := 2, slot := 2, constantValue := 0 }]
  methods := #[]
  instanceTypes := #[(.object "java/lang/String"), .int, .int]
  staticTypes := #[]
  resolved := Array.replicate 204 none
  statics := none }

def pool6 : Array CpInfo := pool [(2, .class_ 4), (1, u "com/example/lauter/lauter/Labelled"), (73, .class_ 79), (0, u "java/lang/Object")] 27

/-- com/example/lauter/lauter/Labelled -/
def k6 : Class := { plain "com/example/lauter/lauter/Labelled" (some 0) with
  accessFlags := 1536
  interfaces := #[]
  cf := some (fileOf pool6 2 #[] #[] 1536 78 #[] #[])
  fields := #[]
  methods := #[]
  instanceTypes := #[]
  staticTypes := #[]
  resolved := Array.replicate 107 none
  statics := none }

def pool7 : Array CpInfo := pool [(1, .class_ 2), (0, u "com/example/lauter/lauter/Task"), (2, u "THOROUGH"), (0, u "Lcom/example/lauter/lauter/Task;"), (2, u "FOCUSED"), (0, .fieldref 1 11), (0, .nameAndType 12 6), (0, u "RELEVANT_IN_CONTEXT"), (0, .fieldref 1 14), (0, .nameAndType 15 6), (0, u "BEST_IN_CONTEXT"), (2, u "$VALUES"), (0, u "[Lcom/example/lauter/lauter/Task;"), (6, .class_ 28), (1, u "java/lang/Enum"), (15, .class_ 45), (0, u "com/example/lauter/lauter/Labelled"), (7, u "ranksFiles"), (0, u "()Z")] 5

def k7c0 : Code := { maxStack := 2, maxLocals := 1, code := prog_32_method_4_code, exceptionTable := #[], attributes := #[] }
def k7m0 : Method := { name := "ranksFiles", desc := "()Z", sig := { parameters := [], returnType := some .boolean }, accessFlags := 0, code := some k7c0 }
/-- com/example/lauter/lauter/Task -/
def k7 : Class := { plain "com/example/lauter/lauter/Task" (some 5) with
  accessFlags := 16432
  interfaces := #[6]
  cf := some (fileOf pool7 1 #[] #[{ accessFlags := 0, nameIndex := 53, descriptorIndex := 54, attributes := #[] }] 16432 26 #[44] #[{ accessFlags := 16409, nameIndex := 5, descriptorIndex := 6, attributes := #[] }, { accessFlags := 16409, nameIndex := 9, descriptorIndex := 6, attributes := #[] }, { accessFlags := 16409, nameIndex := 12, descriptorIndex := 6, attributes := #[] }, { accessFlags := 16409, nameIndex := 15, descriptorIndex := 6, attributes := #[] }, { accessFlags := 4122, nameIndex := 18, descriptorIndex := 19, attributes := #[] }])
  fields := #[{ name := "THOROUGH", type := (.object "com/example/lauter/lauter/Task"), accessFlags := 16409, slot := 0, constantValue := 0 }, { name := "FOCUSED", type := (.object "com/example/lauter/lauter/Task"), accessFlags := 16409, slot := 1, constantValue := 0 }, { name := "RELEVANT_IN_CONTEXT", type := (.object "com/example/lauter/lauter/Task"), accessFlags := 16409, slot := 2, constantValue := 0 }, { name := "BEST_IN_CONTEXT", type := (.object "com/example/lauter/lauter/Task"), accessFlags := 16409, slot := 3, constantValue := 0 }, { name := "$VALUES", type := (.array (.object "com/example/lauter/lauter/Task")), accessFlags := 4122, slot := 4, constantValue := 0 }]
  methods := #[k7m0]
  instanceTypes := #[(.object "java/lang/String"), .int, .int]
  staticTypes := #[(.object "com/example/lauter/lauter/Task"), (.object "com/example/lauter/lauter/Task"), (.object "com/example/lauter/lauter/Task"), (.object "com/example/lauter/lauter/Task"), (.array (.object "com/example/lauter/lauter/Task"))]
  resolved := Array.replicate 60 none
  statics := some 0 }

def pool8 : Array CpInfo := pool [(1, u "java/lang/Cloneable"), (0, .class_ 1), (0, u "java/lang/Object"), (0, .class_ 3)] 3

/-- java/lang/Cloneable -/
def k8 : Class := { plain "java/lang/Cloneable" (some 0) with
  accessFlags := 1537
  interfaces := #[]
  cf := some (fileOf pool8 2 #[] #[] 1537 4 #[] #[])
  fields := #[]
  methods := #[]
  instanceTypes := #[]
  staticTypes := #[]
  resolved := Array.replicate 8 none
  statics := none }

/-- the primitive byte -/
def k9 : Class := { plain "byte" none with kind := .primitive 'B', accessFlags := 0x411 }
/-- [B -/
def k10 : Class := { plain "[B" (some 0) with kind := .array 9 .byte, interfaces := #[8, 4], accessFlags := 1041 }

/-- the primitive int -/
def k11 : Class := { plain "int" none with kind := .primitive 'I', accessFlags := 0x411 }
/-- [I -/
def k12 : Class := { plain "[I" (some 0) with kind := .array 11 .int, interfaces := #[8, 4], accessFlags := 1041 }

def heap : Heap := #[{ cls := 7, slots := #[.ref 1, .ref 4, .ref 2, .ref 3, .null], vm := .statics 7 },
  { cls := 7, slots := #[.null, .int 0, .int 0], vm := .none },
  { cls := 7, slots := #[.null, .int 2, .int 0], vm := .none },
  { cls := 7, slots := #[.null, .int 3, .int 0], vm := .none },
  { cls := 7, slots := #[.null, .int 1, .int 0], vm := .none }]
def classes : Array Class := #[k0, k1, k2, k3, k4, k5, k6, k7, k8, k9, k10, k11, k12]
def interned : List (Array UInt16 × Addr) := []
def slotsUsed : Nat := 17
def theMethod : MethodId := ⟨1, 1⟩
def args0 : Array Value := #[.int 5]
def aboutOver (below : List Frame) : State where
  vm := { classes := classes, interned := interned.toArray }
  heap := heap
  slotsUsed := slotsUsed
  threads := #[{ frames := .invoking theMethod args0 :: below }]
def below0 : List Frame := [.native { method := ⟨0, 0⟩, args := #[] }]
def about1 : State := aboutOver below0
def p0 : Program := .bare "" "" ""
def e0 : Env := launch0.env 0 0 0
theorem w_frames : about1.frames = Frame.invoking theMethod args0 :: below0 := rfl
set_option maxRecDepth 65536 in
theorem w_args : argsFit about1.vm theMethod args0 = true := by decide +kernel
set_option maxRecDepth 65536 in
theorem w_heap : heapFits about1 = true := by decide +kernel
set_option maxRecDepth 65536 in
theorem w_runnable : about1.curStatus? = some .runnable := by decide +kernel
set_option maxRecDepth 65536 in
theorem w_alone : about1.alone = true := by decide +kernel
set_option maxRecDepth 65536 in
theorem w_named : about1.methodNamed? x = some theMethod := by decide +kernel
set_option maxRecDepth 65536 in
theorem w_hears : about1.hears theMethod below0 = true := by decide +kernel
set_option maxRecDepth 65536 in
theorem w_ripe : about1.ripe theMethod args0 below0 = true := by decide +kernel
theorem w_running : about1.status = .running := rfl
set_option maxRecDepth 65536 in
theorem w_room : about1.hasRoom e0.platform room_1 = true :=
  launch0.hasRoom_least _ room_1 (by decide +kernel) (by decide +kernel) (by decide +kernel) (by decide +kernel) (by decide +kernel) (by decide +kernel)
theorem allAtoms_all (ts : List Jvm.Cond) (a : Array Jvm.Value) (st : Jvm.State) : (allAtoms ts).before a st = ts.all (fun c => c.before a st) := by
  induction ts with
  | nil => rfl
  | cons c t ih =>
    show (Jvm.Cond.and c (allAtoms t)).before a st = _
    rw [Jvm.Cond.before_and, ih, List.all_cons]
def words1 : List Jvm.Cond := Jvm.Cond.code x code maxLocals ret :: tables_1
/-- a 'code' word, met by the world's own term for the bytes: nothing is compared byte by byte -/
theorem code_word {y : MethodName} {bytes : ByteArray} {mx : Nat} {rt : Option FieldType} {a : Array Value} {s : State} {m : MethodId} {meth : Method} {c : Code} (h1 : s.methodNamed? y = some m) (h2 : s.vm.method? m = some meth) (h3 : meth.code = some c) (h4 : c.code = bytes)
    (h5 : (c.maxLocals == mx && c.exceptionTable.isEmpty && decide (c.maxStack ≤ mostOperands) && decide (meth.sig.returnType = rt) && !meth.locks && decide (parseMethodDescriptor y.desc = some meth.sig)) = true) : (Jvm.Cond.code y bytes mx rt).before a s = true := by
  simp only [Bool.and_eq_true, beq_iff_eq, Bool.not_eq_true', decide_eq_true_eq] at h5
  obtain ⟨⟨⟨⟨⟨g1, g2⟩, g3⟩, g4⟩, g5⟩, g6⟩ := h5
  simp [Cond.before, Cond.holds, Cond.value, h1, h2, h3, h4, g1, g2, g3, g4, g5, g6]
def isCode : Jvm.Cond → Bool
  | .code _ _ _ _ => true
  | _ => false
theorem all_split {L : List Jvm.Cond} {P : Jvm.Cond → Bool} (h1 : L.all (fun c => isCode c || P c) = true) (h2 : ∀ c ∈ L.filter isCode, P c = true) : L.all P = true := by
  refine List.all_eq_true.mpr fun c hc => ?_
  have h := List.all_eq_true.mp h1 c hc
  rcases Bool.eq_false_or_eq_true (isCode c) with hi | hi
  · exact h2 c (List.mem_filter.mpr ⟨hc, hi⟩)
  · simpa [hi] using h
set_option maxRecDepth 65536 in
theorem w_c0 : (Jvm.Cond.code x code maxLocals ret).before args0 about1 = true := code_word (m := ⟨1, 1⟩) (meth := k1m1) (c := k1c1) (by decide +kernel) rfl rfl rfl (by decide +kernel)
set_option maxRecDepth 65536 in
theorem w_c1 : (Jvm.Cond.code ({ cls := "com/example/lauter/lauter/Task", name := "ranksFiles", desc := "()Z" } : Jvm.MethodName) prog_32_method_4_code (1 : Nat) (Option.some Jvm.ClassFile.FieldType.boolean)).before args0 about1 = true := code_word (m := ⟨7, 0⟩) (meth := k7m0) (c := k7c0) (by decide +kernel) rfl rfl rfl (by decide +kernel)
def codes1 : List Jvm.Cond := [Jvm.Cond.code x code maxLocals ret, Jvm.Cond.code ({ cls := "com/example/lauter/lauter/Task", name := "ranksFiles", desc := "()Z" } : Jvm.MethodName) prog_32_method_4_code (1 : Nat) (Option.some Jvm.ClassFile.FieldType.boolean)]
set_option maxRecDepth 65536 in
theorem codes_eq : words1.filter isCode = codes1 := rfl
theorem w_codes : ∀ c ∈ words1.filter isCode, c.before args0 about1 = true := by
  rw [codes_eq]
  intro c hc
  simp only [codes1, List.mem_cons, List.not_mem_nil, or_false] at hc
  rcases hc with rfl | rfl
  · exact w_c0
  · exact w_c1
set_option maxRecDepth 65536 in
theorem w_t1 : words1.all (fun c => isCode c || c.before args0 about1) = true := by decide +kernel
theorem w_tables : (allAtoms (Jvm.Cond.code x code maxLocals ret :: tables_1)).before args0 about1 = true := by
  rw [allAtoms_all]
  show words1.all (fun c => c.before args0 about1) = true
  refine all_split ?_ w_codes
  rw [w_t1]
set_option maxRecDepth 65536 in
theorem w_case : (Jvm.Cond.and given_1 narrow_1).before args0 about1 = true := by decide +kernel
theorem w_applies : (headSpec (Jvm.Cond.code x code maxLocals ret :: tables_1) room_1).applies x e0.platform about1 = true :=
  (Spec.applies_iff w_frames).mpr ⟨w_running, w_runnable, w_alone, w_named, w_hears, w_ripe, w_room, w_tables⟩
theorem atStart : AtStart classFile x code maxLocals ret World_1 tables_1 room_1 Calls_1 rest_1 Pre_1 launch0 p0 e0 about1 theMethod args0 below0 :=
  ⟨lists_1, trivial, launch0.admits_env _ _ _, launch0.least_env, fairChoices_fair.cas, fairChoices_fair.clock, w_frames, w_args, w_heap, w_applies, trivial, trivial, w_case⟩
end start1
theorem witness_1 : WitnessClaimed_1 := ⟨start1.p0, start1.e0, start1.about1, start1.theMethod, start1.args0, start1.below0, start1.atStart⟩
end Jvm.Pilot.@@N@@
