import JvmDerived
import JvmDerived.Pilot.@@N@@Statement
import JvmDerived.Pilot.@@N@@Code
set_option linter.unusedVariables false
set_option linter.unusedSimpArgs false
namespace Jvm.RoadKit
open Sem ClassFile Op Lib Jvm.Stand Jvm.Free Jvm.LawKit
section New
variable {p : Program} {l : Launch} {e : Env} {R : Room} {s : State} {m : MethodId} {args : Array Value} {below : List Frame} {meth : Method} {c : Code} {T : State} {locs : List Loc} {cells slots : Nat}
theorem retI (X : Stand p l e R s m args below meth c T locs cells slots) (hx : p.tables.exec = Jvm.exec) {pc : Nat} {Ls : Array Slot} {z : Int32} {rest : List Value} (hret : meth.sig.returnType = some .int) (hd : decode c.code pc = .ok (.ireturn, 1)) {fs : List Frame}
    (hl : ∀ (f : JFrame) (acts : List Action), f.method = m → f.locked = none → f.entered = [] → (doReturn e (T.setTop f) acts (some (.int z))).1 = T.setFrames fs) : Steps p.tables e below (T.setTop (mkF m pc Ls (.int z :: rest))) (T.setFrames fs) := by
  have hm' : T.vm.method? m = some meth := X.method'
  have hn : narrow .int (.int z) = .int z := rfl
  show Steps p.tables e below (T.setTop { method := m, pc := pc, locals := Ls, stack := _ :: rest, locked := none }) _
  jvm_step X.here [X.here.top, hx, hd, hm', hret, hn]
  first | (intro acts; rw [hl _ acts rfl rfl rfl]) | rw [hl _ _ rfl rfl rfl]
  exact Steps.refl _
end New
end Jvm.RoadKit
namespace Jvm.Pilot.@@N@@
open Jvm Jvm.ClassFile Sem Op Lib Jvm.Free Jvm.Stand Jvm.LawKit Jvm.RoadKit Bundle Jvm.Pilot.@@N@@.Jvm.D
section Own
variable {p : Program} {l : Launch} {e : Env} {R : Room} {s : State} {m : MethodId} {args : Array Value} {below : List Frame} {meth : Method} {c : Code} {T : State} {locs : List Loc} {cells slots : Nat}
/-- from here the method ends as Post says -/
def Wp (p : Program) (e : Env) (below : List Frame) (Post : Outcome → State → Prop) (S : State) : Prop := ∃ s₂ o, Steps p.tables e below S s₂ ∧ s₂.status = .running ∧ Ended s₂ below o ∧ Post o s₂
theorem Wp.goal {Post : Outcome → State → Prop} {S : State} (w : Wp p e below Post S) : ∃ s₂ o, Steps p.tables e below S s₂ ∧ s₂.status = .running ∧ Ended s₂ below o ∧ Post o s₂ := w
theorem Wp.st {Post : Outcome → State → Prop} {S S' : State} (h : ∀ t, Steps p.tables e below S' t → Steps p.tables e below S t) (w : Wp p e below Post S') : Wp p e below Post S := by
  obtain ⟨t, o, h1, h2⟩ := w
  exact ⟨t, o, h t h1, h2⟩
theorem Wp.tr {Post : Outcome → State → Prop} {S S' : State} (h : Steps p.tables e below S S') (w : Wp p e below Post S') : Wp p e below Post S := by
  obtain ⟨t, o, h1, h2⟩ := w
  exact ⟨t, o, h.trans h1, h2⟩
theorem Wp.ret (X : Stand p l e R s m args below meth c T locs cells slots) (hlk : meth.locks = false) {v : Option Value} (hv : meth.sig.returnType = none → v = none) {g : JFrame}
    (hst : ∀ fs, (∀ (f : JFrame) (acts : List Action), f.method = m → f.locked = none → f.entered = [] → (doReturn e (T.setTop f) acts v).1 = T.setFrames fs) → Steps p.tables e below (T.setTop g) (T.setFrames fs))
    {Q : Option Value → Heap → List Loc → Prop} {k n : Nat} (hk : cells ≤ k) (hn : slots ≤ n) (q : Q v T.heap locs) :
    Wp p e below (fun o U' => ∃ v L, o = .returned v ∧ Q v U'.heap L ∧ FrameEnd s o U' L k n) (T.setTop g) := by
  obtain ⟨fs, hr, hrun, hended, hW, hsame⟩ := X.leave (v := v) hv
  exact ⟨_, _, hst fs hr, hrun, hended, v, locs, rfl, q, ⟨v, rfl⟩, hW, hsame.mono hk hn⟩
theorem Wp.retW {vm₁ : Vm} (X : Stand p l e R (s.setVm vm₁) m args below meth c T locs cells slots) (hlk : meth.locks = false) {k0 : Nat} (hS : s.Since vm₁ k0) (hk0 : k0 ≤ T.heap.size) {v : Option Value} (hv : meth.sig.returnType = none → v = none) {g : JFrame}
    (hst : ∀ fs, (∀ (f : JFrame) (acts : List Action), f.method = m → f.locked = none → f.entered = [] → (doReturn e (T.setTop f) acts v).1 = T.setFrames fs) → Steps p.tables e below (T.setTop g) (T.setFrames fs))
    {Q : Option Value → Heap → List Loc → Prop} {k n : Nat} (hk : cells ≤ k) (hn : slots ≤ n) (q : Q v T.heap locs) :
    Wp p e below (fun o U' => ∃ v L, o = .returned v ∧ Q v U'.heap L ∧ ReturnedEndW s o U' L k n) (T.setTop g) := by
  obtain ⟨fs, hr, hrun, hended, ⟨h1, h2, h3, h4⟩⟩ := X.leaveW hS hk0 (v := v) hv
  exact ⟨_, _, hst fs hr, hrun, hended, v, locs, rfl, q, h1, h2, h3, h4.mono hk hn⟩
theorem Wp.retH {vm₁ : Vm} (X : Stand p l e R (s.setVm vm₁) m args below meth c T locs cells slots) (hlk : meth.locks = false) {k0 : Nat} (hS : s.Since vm₁ k0) (hk0 : k0 ≤ T.heap.size) {v : Option Value} (hv : meth.sig.returnType = none → v = none) {g : JFrame}
    (hst : ∀ fs, (∀ (f : JFrame) (acts : List Action), f.method = m → f.locked = none → f.entered = [] → (doReturn e (T.setTop f) acts v).1 = T.setFrames fs) → Steps p.tables e below (T.setTop g) (T.setFrames fs))
    {Q : Option Value → Heap → List Loc → Prop} {Z : State} {EL : List (String × Nat)} {k n : Nat} (hk : cells ≤ k) (hn : slots ≤ n) (q : Q v T.heap locs) (cr : CHr Z EL s.vm s.heap T.vm T.heap) :
    Wp p e below (fun o U' => ∃ v L, o = .returned v ∧ Q v U'.heap L ∧ CHr Z EL s.vm s.heap U'.vm U'.heap ∧ ReturnedEndW s o U' L k n) (T.setTop g) := by
  obtain ⟨fs, hr, hrun, hended, ⟨h1, h2, h3, h4⟩⟩ := X.leaveW hS hk0 (v := v) hv
  exact ⟨_, _, hst fs hr, hrun, hended, v, locs, rfl, q, cr, h1, h2, h3, h4.mono hk hn⟩
theorem own_narZ {q : Int32} (h : nar .boolean q = q) : narrow .boolean (.int q) = .int q := by show Value.int (nar .boolean q) = _; rw [h]
theorem own_fitZ {q : Int32} (h : nar .boolean q = q) : fits .boolean (.int q) = true := by rw [← h]; exact fits_nar_bool q
theorem own_nn {v : Value} (h : v.isRef = true) (h' : ¬ v = .null) : ∃ a, v = .ref a := (ref_cases h).resolve_left h'
theorem own_fits {v : Value} {C : String} (h : v.isRef = true) : fits (.object C) v = true := by rcases ref_cases h with rfl | ⟨a, rfl⟩ <;> rfl
theorem own_narrow {v : Value} {C : String} (h : v.isRef = true) : narrow (.object C) v = v := by rcases ref_cases h with rfl | ⟨a, rfl⟩ <;> rfl
end Own
theorem own_days (x : Int32) : ¬ ((x &&& (2147483647 : Int32)) % (146000 : Int32) + (1 : Int32) < (1 : Int32)) ∧ ¬ ((146000 : Int32) < (x &&& (2147483647 : Int32)) % (146000 : Int32) + (1 : Int32)) := by
  have h := (c_and x 2147483647 (by decide)).1
  have g := ((c_iremV (x &&& 2147483647) 146000).1 h (by decide))
  have e : (146000 : Int32).toInt = 146000 := by decide
  rw [e] at g
  generalize (x &&& 2147483647) % 146000 = y at *
  have a := c_iadd y 1
  have r := rng32 (y + 1)
  have e1 : (1 : Int32).toInt = 1 := by decide
  simp only [Int32.lt_iff_toInt_lt, e, e1] at *
  omega
theorem own_clamp (x : Int32) : ¬ ((if (1 : Int32) < (if x < (146000 : Int32) then x else (146000 : Int32)) then (if x < (146000 : Int32) then x else (146000 : Int32)) else (1 : Int32)) < (1 : Int32)) ∧ ¬ ((146000 : Int32) < (if (1 : Int32) < (if x < (146000 : Int32) then x else (146000 : Int32)) then (if x < (146000 : Int32) then x else (146000 : Int32)) else (1 : Int32))) := by
  have e : (146000 : Int32).toInt = 146000 := by decide
  have e1 : (1 : Int32).toInt = 1 := by decide
  simp only [Int32.lt_iff_toInt_lt, e, e1]
  split <;> (try split) <;> (try split at *) <;> simp only [e, e1] at * <;> omega
theorem pn_3 : plainName "java/util/Objects" = true := by first | (simp [plainName, overriddenIn]; done) | decide +kernel
theorem d3_0 : decode jdk_31_method_10_code 0 = .ok (.aload_n 0, 1) := by decide +kernel
theorem d3_1 : decode jdk_31_method_10_code 1 = .ok (.ifnonnull 11, 3) := by decide +kernel
theorem d3_12 : decode jdk_31_method_10_code 12 = .ok (.aload_n 0, 1) := by decide +kernel
theorem d3_13 : decode jdk_31_method_10_code 13 = .ok (.areturn, 1) := by decide +kernel
theorem ef_rm3 (m : MethodId) (a1 : Addr) : entryFrame m #[(.ref a1)] 1 = mkF m 0 #[.val (.ref a1)] [] := by first | (simp [entryFrame, mkF, argsToLocals, Value.category]; done) | rfl
def Q_rm3 (Z : State) (a1 : Addr) (h0 : Heap) (n0 : Nat) (v : Option Value) (h : Heap) (L : List Loc) : Prop := (v = some (.ref a1)) ∧ (Fr n0 L) ∧ (h = h0)
set_option maxRecDepth 65536 in
set_option maxHeartbeats 40000000 in
theorem rm3 (l : Launch) (Z : State) (a0 : Array Value) (hw : ∀ d ∈ tables_1, d.before a0 Z = true) (ws : List Jvm.Cond) (a1 : Addr) (h0 : Heap) (n0 : Nat) (Z0 : n0 ≤ h0.size)  :
    MetFree l (⟨"java/util/Objects", "requireNonNull", "(Ljava/lang/Object;)Ljava/lang/Object;"⟩ : MethodName) (head1 (Jvm.Cond.code (⟨"java/util/Objects", "requireNonNull", "(Ljava/lang/Object;)Ljava/lang/Object;"⟩ : MethodName) jdk_31_method_10_code 1 (some (.object "java/lang/Object")) :: ws) ({ frames := 0, cells := 0, slots := 0, locals := 0 } : Room)) (fun a U => a = #[(.ref a1)] ∧ Z.Warmed39 U.vm ∧ U.heap = h0) (fun _ _ _ _ _ => True) (fun _ U o U' => ∃ v L, o = .returned v ∧ Q_rm3 Z a1 h0 n0 v U'.heap L ∧ FrameEnd U o U' L ({ frames := 0, cells := 0, slots := 0, locals := 0 } : Room).cells ({ frames := 0, cells := 0, slots := 0, locals := 0 } : Room).slots) := by
  refine MetFree.of_bodySF (plainFor_of_name pn_3) hisR ?_
  intro p e s m args below meth c s₁ Bd hml0 hP hK
  obtain ⟨rfl, hZ, hh⟩ := hP
  have hx := Bd.exec
  have hby := Bd.bytes
  have hml : c.maxLocals = 1 := hml0
  have hown : s.vm.findClass "java/util/Objects" = some m.cls := findClass_of_methodNamed Bd.named
  have hnm := (name_of_methodNamed Bd.named Bd.method).1
  have hlk := Bd.notSynchronized
  have X0 : Stand p l e ({ frames := 0, cells := 0, slots := 0, locals := 0 } : Room) s m #[(.ref a1)] below meth c s₁ [] 0 0 := Stand.of_body Bd
  have e0 : s₁.heap = h0 := by rw [← hh, Bd.state]; rfl
  have N0 := Fr.nil n0
  refine Wp.goal (Post := (fun o U' => ∃ v L, o = .returned v ∧ Q_rm3 Z a1 h0 n0 v U'.heap L ∧ FrameEnd s o U' L ({ frames := 0, cells := 0, slots := 0, locals := 0 } : Room).cells ({ frames := 0, cells := 0, slots := 0, locals := 0 } : Room).slots)) (Wp.st (S' := s₁.setTop (mkF m 0 #[.val (.ref a1)] [])) (fun tt_ kk_ => castTop (ef_rm3 m a1 ) kk_) ?_)
  refine Wp.st (S' := s₁.setTop (mkF m 1 #[.val (.ref a1)] [(.ref a1)])) (fun tt_ kk_ => XS.aloadN X0.here hx rfl (hb hby d3_0) rfl rfl kk_) ?_
  refine Wp.st (S' := s₁.setTop (mkF m 12 #[.val (.ref a1)] [])) (fun tt_ kk_ => XS.ifnonnullYes X0.here hx rfl (pc0 := 1) (pc' := 12) rfl (hb hby d3_1) rfl (by decide) (by decide) kk_) ?_
  refine Wp.st (S' := s₁.setTop (mkF m 13 #[.val (.ref a1)] [(.ref a1)])) (fun tt_ kk_ => XS.aloadN X0.here hx rfl (hb hby d3_12) rfl rfl kk_) ?_
  exact Wp.ret X0 hlk (v := (some (.ref a1))) (fun h => by rw [Bd.returns] at h; cases h) (fun fs hr => retOut X0 hx Bd.returns rfl (Or.inr (Or.inr (Or.inr (Or.inr ⟨rfl, rfl, rfl⟩)))) (hb hby d3_13) hr) (by decide) (by decide) (show Q_rm3 Z a1 h0 n0 _ s₁.heap _ by rw [e0]; exact ⟨rfl, N0, rfl⟩)
theorem d5_0 : decode jdk_29_method_69_code 0 = .ok (.iload_n 0, 1) := by decide +kernel
theorem d5_1 : decode jdk_29_method_69_code 1 = .ok (.iload_n 1, 1) := by decide +kernel
theorem d5_2 : decode jdk_29_method_69_code 2 = .ok (.if_icmp .gt 7, 3) := by decide +kernel
theorem d5_9 : decode jdk_29_method_69_code 9 = .ok (.iload_n 1, 1) := by decide +kernel
theorem d5_10 : decode jdk_29_method_69_code 10 = .ok (.ireturn, 1) := by decide +kernel
theorem d5_5 : decode jdk_29_method_69_code 5 = .ok (.iload_n 0, 1) := by decide +kernel
theorem d5_6 : decode jdk_29_method_69_code 6 = .ok (.goto 4, 3) := by decide +kernel
theorem ef_rm5 (m : MethodId) (p1 : Int32) (p2 : Int32) : entryFrame m #[(.int p1), (.int p2)] 2 = mkF m 0 #[.val (.int p1), .val (.int p2)] [] := by first | (simp [entryFrame, mkF, argsToLocals, Value.category]; done) | rfl
def Q_rm5 (Z : State) (p1 : Int32) (p2 : Int32) (h0 : Heap) (n0 : Nat) (v : Option Value) (h : Heap) (L : List Loc) : Prop := (v = some (.int (if p2 < p1 then p2 else p1))) ∧ (Fr n0 L) ∧ (h = h0)
set_option maxRecDepth 65536 in
set_option maxHeartbeats 40000000 in
theorem rm5 (l : Launch) (Z : State) (a0 : Array Value) (hw : ∀ d ∈ tables_1, d.before a0 Z = true) (ws : List Jvm.Cond) (p1 : Int32) (p2 : Int32) (h0 : Heap) (n0 : Nat) (Z0 : n0 ≤ h0.size)  :
    MetFree l (⟨"java/lang/Math", "min", "(II)I"⟩ : MethodName) (head1 (Jvm.Cond.code (⟨"java/lang/Math", "min", "(II)I"⟩ : MethodName) jdk_29_method_69_code 2 (some .int) :: ws) ({ frames := 0, cells := 0, slots := 0, locals := 0 } : Room)) (fun a U => a = #[(.int p1), (.int p2)] ∧ Z.Warmed39 U.vm ∧ U.heap = h0) (fun _ _ _ _ _ => True) (fun _ U o U' => ∃ v L, o = .returned v ∧ Q_rm5 Z p1 p2 h0 n0 v U'.heap L ∧ FrameEnd U o U' L ({ frames := 0, cells := 0, slots := 0, locals := 0 } : Room).cells ({ frames := 0, cells := 0, slots := 0, locals := 0 } : Room).slots) := by
  refine MetFree.of_bodySF (Jvm.Free.JP.mathPlain rfl (by decide +kernel)) hisR ?_
  intro p e s m args below meth c s₁ Bd hml0 hP hK
  obtain ⟨rfl, hZ, hh⟩ := hP
  have hx := Bd.exec
  have hby := Bd.bytes
  have hml : c.maxLocals = 2 := hml0
  have hown : s.vm.findClass "java/lang/Math" = some m.cls := findClass_of_methodNamed Bd.named
  have hnm := (name_of_methodNamed Bd.named Bd.method).1
  have hlk := Bd.notSynchronized
  have X0 : Stand p l e ({ frames := 0, cells := 0, slots := 0, locals := 0 } : Room) s m #[(.int p1), (.int p2)] below meth c s₁ [] 0 0 := Stand.of_body Bd
  have e0 : s₁.heap = h0 := by rw [← hh, Bd.state]; rfl
  have N0 := Fr.nil n0
  refine Wp.goal (Post := (fun o U' => ∃ v L, o = .returned v ∧ Q_rm5 Z p1 p2 h0 n0 v U'.heap L ∧ FrameEnd s o U' L ({ frames := 0, cells := 0, slots := 0, locals := 0 } : Room).cells ({ frames := 0, cells := 0, slots := 0, locals := 0 } : Room).slots)) (Wp.st (S' := s₁.setTop (mkF m 0 #[.val (.int p1), .val (.int p2)] [])) (fun tt_ kk_ => castTop (ef_rm5 m p1 p2 ) kk_) ?_)
  refine Wp.st (S' := s₁.setTop (mkF m 1 #[.val (.int p1), .val (.int p2)] [(.int p1)])) (fun tt_ kk_ => XS.iloadN X0.here hx rfl (hb hby d5_0) rfl  kk_) ?_
  refine Wp.st (S' := s₁.setTop (mkF m 2 #[.val (.int p1), .val (.int p2)] [(.int p2), (.int p1)])) (fun tt_ kk_ => XS.iloadN X0.here hx rfl (hb hby d5_1) rfl  kk_) ?_
  by_cases h : p2 < p1
  case pos =>
    refine Wp.st (S' := s₁.setTop (mkF m 9 #[.val (.int p1), .val (.int p2)] [])) (fun tt_ kk_ => XS.icmpYes X0.here hx rfl (pc0 := 2) (pc' := 9) rfl (hb hby d5_2) rfl (tlt (h : p2 < p1)).2.2.1 (by decide) (by decide) kk_) ?_
    refine Wp.st (S' := s₁.setTop (mkF m 10 #[.val (.int p1), .val (.int p2)] [(.int p2)])) (fun tt_ kk_ => XS.iloadN X0.here hx rfl (hb hby d5_9) rfl  kk_) ?_
    exact Wp.ret X0 hlk (v := (some (.int p2))) (fun h => by rw [Bd.returns] at h; cases h) (fun fs hr => retI X0 hx Bd.returns (hb hby d5_10) hr) (by decide) (by decide) (show Q_rm5 Z p1 p2 h0 n0 _ s₁.heap _ by rw [e0]; exact ⟨(by rw [if_pos h]), N0, rfl⟩)
  case neg =>
    refine Wp.st (S' := s₁.setTop (mkF m 5 #[.val (.int p1), .val (.int p2)] [])) (fun tt_ kk_ => XS.icmpNo X0.here hx rfl (hb hby d5_2) rfl (flt (h : ¬ (p2 < p1))).2.2.1 kk_) ?_
    refine Wp.st (S' := s₁.setTop (mkF m 6 #[.val (.int p1), .val (.int p2)] [(.int p1)])) (fun tt_ kk_ => XS.iloadN X0.here hx rfl (hb hby d5_5) rfl  kk_) ?_
    refine Wp.st (S' := s₁.setTop (mkF m 10 #[.val (.int p1), .val (.int p2)] [(.int p1)])) (fun tt_ kk_ => XS.goto X0.here hx rfl (pc0 := 6) (pc' := 10) rfl (hb hby d5_6) (by decide) (by decide) kk_) ?_
    exact Wp.ret X0 hlk (v := (some (.int p1))) (fun h => by rw [Bd.returns] at h; cases h) (fun fs hr => retI X0 hx Bd.returns (hb hby d5_10) hr) (by decide) (by decide) (show Q_rm5 Z p1 p2 h0 n0 _ s₁.heap _ by rw [e0]; exact ⟨(by rw [if_neg h]), N0, rfl⟩)
theorem d6_0 : decode jdk_29_method_65_code 0 = .ok (.iload_n 0, 1) := by decide +kernel
theorem d6_1 : decode jdk_29_method_65_code 1 = .ok (.iload_n 1, 1) := by decide +kernel
theorem d6_2 : decode jdk_29_method_65_code 2 = .ok (.if_icmp .lt 7, 3) := by decide +kernel
theorem d6_9 : decode jdk_29_method_65_code 9 = .ok (.iload_n 1, 1) := by decide +kernel
theorem d6_10 : decode jdk_29_method_65_code 10 = .ok (.ireturn, 1) := by decide +kernel
theorem d6_5 : decode jdk_29_method_65_code 5 = .ok (.iload_n 0, 1) := by decide +kernel
theorem d6_6 : decode jdk_29_method_65_code 6 = .ok (.goto 4, 3) := by decide +kernel
theorem ef_rm6 (m : MethodId) (p1 : Int32) (p2 : Int32) : entryFrame m #[(.int p1), (.int p2)] 2 = mkF m 0 #[.val (.int p1), .val (.int p2)] [] := by first | (simp [entryFrame, mkF, argsToLocals, Value.category]; done) | rfl
def Q_rm6 (Z : State) (p1 : Int32) (p2 : Int32) (h0 : Heap) (n0 : Nat) (v : Option Value) (h : Heap) (L : List Loc) : Prop := (v = some (.int (if p1 < p2 then p2 else p1))) ∧ (Fr n0 L) ∧ (h = h0)
set_option maxRecDepth 65536 in
set_option maxHeartbeats 40000000 in
theorem rm6 (l : Launch) (Z : State) (a0 : Array Value) (hw : ∀ d ∈ tables_1, d.before a0 Z = true) (ws : List Jvm.Cond) (p1 : Int32) (p2 : Int32) (h0 : Heap) (n0 : Nat) (Z0 : n0 ≤ h0.size)  :
    MetFree l (⟨"java/lang/Math", "max", "(II)I"⟩ : MethodName) (head1 (Jvm.Cond.code (⟨"java/lang/Math", "max", "(II)I"⟩ : MethodName) jdk_29_method_65_code 2 (some .int) :: ws) ({ frames := 0, cells := 0, slots := 0, locals := 0 } : Room)) (fun a U => a = #[(.int p1), (.int p2)] ∧ Z.Warmed39 U.vm ∧ U.heap = h0) (fun _ _ _ _ _ => True) (fun _ U o U' => ∃ v L, o = .returned v ∧ Q_rm6 Z p1 p2 h0 n0 v U'.heap L ∧ FrameEnd U o U' L ({ frames := 0, cells := 0, slots := 0, locals := 0 } : Room).cells ({ frames := 0, cells := 0, slots := 0, locals := 0 } : Room).slots) := by
  refine MetFree.of_bodySF (Jvm.Free.JP.mathPlain rfl (by decide +kernel)) hisR ?_
  intro p e s m args below meth c s₁ Bd hml0 hP hK
  obtain ⟨rfl, hZ, hh⟩ := hP
  have hx := Bd.exec
  have hby := Bd.bytes
  have hml : c.maxLocals = 2 := hml0
  have hown : s.vm.findClass "java/lang/Math" = some m.cls := findClass_of_methodNamed Bd.named
  have hnm := (name_of_methodNamed Bd.named Bd.method).1
  have hlk := Bd.notSynchronized
  have X0 : Stand p l e ({ frames := 0, cells := 0, slots := 0, locals := 0 } : Room) s m #[(.int p1), (.int p2)] below meth c s₁ [] 0 0 := Stand.of_body Bd
  have e0 : s₁.heap = h0 := by rw [← hh, Bd.state]; rfl
  have N0 := Fr.nil n0
  refine Wp.goal (Post := (fun o U' => ∃ v L, o = .returned v ∧ Q_rm6 Z p1 p2 h0 n0 v U'.heap L ∧ FrameEnd s o U' L ({ frames := 0, cells := 0, slots := 0, locals := 0 } : Room).cells ({ frames := 0, cells := 0, slots := 0, locals := 0 } : Room).slots)) (Wp.st (S' := s₁.setTop (mkF m 0 #[.val (.int p1), .val (.int p2)] [])) (fun tt_ kk_ => castTop (ef_rm6 m p1 p2 ) kk_) ?_)
  refine Wp.st (S' := s₁.setTop (mkF m 1 #[.val (.int p1), .val (.int p2)] [(.int p1)])) (fun tt_ kk_ => XS.iloadN X0.here hx rfl (hb hby d6_0) rfl  kk_) ?_
  refine Wp.st (S' := s₁.setTop (mkF m 2 #[.val (.int p1), .val (.int p2)] [(.int p2), (.int p1)])) (fun tt_ kk_ => XS.iloadN X0.here hx rfl (hb hby d6_1) rfl  kk_) ?_
  by_cases h : p1 < p2
  case pos =>
    refine Wp.st (S' := s₁.setTop (mkF m 9 #[.val (.int p1), .val (.int p2)] [])) (fun tt_ kk_ => XS.icmpYes X0.here hx rfl (pc0 := 2) (pc' := 9) rfl (hb hby d6_2) rfl (tlt (h : p1 < p2)).1 (by decide) (by decide) kk_) ?_
    refine Wp.st (S' := s₁.setTop (mkF m 10 #[.val (.int p1), .val (.int p2)] [(.int p2)])) (fun tt_ kk_ => XS.iloadN X0.here hx rfl (hb hby d6_9) rfl  kk_) ?_
    exact Wp.ret X0 hlk (v := (some (.int p2))) (fun h => by rw [Bd.returns] at h; cases h) (fun fs hr => retI X0 hx Bd.returns (hb hby d6_10) hr) (by decide) (by decide) (show Q_rm6 Z p1 p2 h0 n0 _ s₁.heap _ by rw [e0]; exact ⟨(by rw [if_pos h]), N0, rfl⟩)
  case neg =>
    refine Wp.st (S' := s₁.setTop (mkF m 5 #[.val (.int p1), .val (.int p2)] [])) (fun tt_ kk_ => XS.icmpNo X0.here hx rfl (hb hby d6_2) rfl (flt (h : ¬ (p1 < p2))).1 kk_) ?_
    refine Wp.st (S' := s₁.setTop (mkF m 6 #[.val (.int p1), .val (.int p2)] [(.int p1)])) (fun tt_ kk_ => XS.iloadN X0.here hx rfl (hb hby d6_5) rfl  kk_) ?_
    refine Wp.st (S' := s₁.setTop (mkF m 10 #[.val (.int p1), .val (.int p2)] [(.int p1)])) (fun tt_ kk_ => XS.goto X0.here hx rfl (pc0 := 6) (pc' := 10) rfl (hb hby d6_6) (by decide) (by decide) kk_) ?_
    exact Wp.ret X0 hlk (v := (some (.int p1))) (fun h => by rw [Bd.returns] at h; cases h) (fun fs hr => retI X0 hx Bd.returns (hb hby d6_10) hr) (by decide) (by decide) (show Q_rm6 Z p1 p2 h0 n0 _ s₁.heap _ by rw [e0]; exact ⟨(by rw [if_neg h]), N0, rfl⟩)
theorem pn_1 : plainName "com/example/amberhold/amberhold/store/DefaultPolicy" = true := by first | (simp [plainName, overriddenIn]; done) | decide +kernel
theorem d1_0 : decode prog_37_method_1_code 0 = .ok (.aload_n 0, 1) := by decide +kernel
theorem d1_1 : decode prog_37_method_1_code 1 = .ok (.invokespecial 1, 3) := by decide +kernel
theorem d1_4 : decode prog_37_method_1_code 4 = .ok (.iload_n 1, 1) := by decide +kernel
theorem d1_5 : decode prog_37_method_1_code 5 = .ok (.iconst 1, 1) := by decide +kernel
theorem d1_6 : decode prog_37_method_1_code 6 = .ok (.if_icmp .lt 9, 3) := by decide +kernel
theorem d1_9 : decode prog_37_method_1_code 9 = .ok (.iload_n 1, 1) := by decide +kernel
theorem d1_10 : decode prog_37_method_1_code 10 = .ok (.ldc 9, 2) := by decide +kernel
theorem d1_12 : decode prog_37_method_1_code 12 = .ok (.if_icmp .le 13, 3) := by decide +kernel
theorem d1_25 : decode prog_37_method_1_code 25 = .ok (.aload_n 0, 1) := by decide +kernel
theorem d1_26 : decode prog_37_method_1_code 26 = .ok (.iload_n 1, 1) := by decide +kernel
theorem d1_27 : decode prog_37_method_1_code 27 = .ok (.putfield 17, 3) := by decide +kernel
theorem d1_30 : decode prog_37_method_1_code 30 = .ok (.aload_n 0, 1) := by decide +kernel
theorem d1_31 : decode prog_37_method_1_code 31 = .ok (.aload_n 2, 1) := by decide +kernel
theorem d1_32 : decode prog_37_method_1_code 32 = .ok (.invokestatic 21, 3) := by decide +kernel
theorem pd_0 : parseMethodDescriptor "(Ljava/lang/Object;)Ljava/lang/Object;" = some ⟨[(.object "java/lang/Object")], some (.object "java/lang/Object")⟩ := by decide +kernel
theorem d1_35 : decode prog_37_method_1_code 35 = .ok (.checkcast 27, 3) := by decide +kernel
theorem d1_38 : decode prog_37_method_1_code 38 = .ok (.putfield 29, 3) := by decide +kernel
theorem d1_41 : decode prog_37_method_1_code 41 = .ok (.return_, 1) := by decide +kernel
theorem ef_rm1 (m : MethodId) (a1 : Addr) (p2 : Int32) (a3 : Addr) : entryFrame m #[(.ref a1), (.int p2), (.ref a3)] 3 = mkF m 0 #[.val (.ref a1), .val (.int p2), .val (.ref a3)] [] := by first | (simp [entryFrame, mkF, argsToLocals, Value.category]; done) | rfl
def Q_rm1 (Z : State) (a1 : Addr) (p2 : Int32) (a3 : Addr) (h0 : Heap) (n0 : Nat) (v : Option Value) (h : Heap) (L : List Loc) : Prop := (v = none) ∧ (Fr n0 L) ∧ (Keep h0 h [a1]) ∧ (Exa Z h a1 "com/example/amberhold/amberhold/store/DefaultPolicy") ∧ (Fld Z h a1 "com/example/amberhold/amberhold/store/DefaultPolicy" "days" "I" (.int p2)) ∧ (Fld Z h a1 "com/example/amberhold/amberhold/store/DefaultPolicy" "mode" "Lcom/example/amberhold/amberhold/store/RetentionPolicy$Mode;" (.ref a3))
set_option maxRecDepth 65536 in
set_option maxHeartbeats 40000000 in
theorem rm1 (l : Launch) (Z : State) (a0 : Array Value) (hw : ∀ d ∈ tables_1, d.before a0 Z = true) (ws : List Jvm.Cond) (a1 : Addr) (p2 : Int32) (a3 : Addr) (h0 : Heap) (n0 : Nat) (Z0 : n0 ≤ h0.size) (O0 : Jvm.RoadKit.Old Z n0 h0) (g_a1 : n0 ≤ a1) (P2 : Exa Z h0 a1 "com/example/amberhold/amberhold/store/DefaultPolicy") (P3 : Fld Z h0 a1 "com/example/amberhold/amberhold/store/DefaultPolicy" "days" "I" (.int (0 : Int32))) (P4 : Fld Z h0 a1 "com/example/amberhold/amberhold/store/DefaultPolicy" "mode" "Lcom/example/amberhold/amberhold/store/RetentionPolicy$Mode;" .null) (EM : Exa Z Z.heap a3 "com/example/amberhold/amberhold/store/RetentionPolicy$Mode") (hd1 : ¬ (p2 < (1 : Int32))) (hd2 : ¬ ((146000 : Int32) < p2)) :
    MetFree l (⟨"com/example/amberhold/amberhold/store/DefaultPolicy", "<init>", "(ILcom/example/amberhold/amberhold/store/RetentionPolicy$Mode;)V"⟩ : MethodName) (head1 (Jvm.Cond.code (⟨"com/example/amberhold/amberhold/store/DefaultPolicy", "<init>", "(ILcom/example/amberhold/amberhold/store/RetentionPolicy$Mode;)V"⟩ : MethodName) prog_37_method_1_code 3 none :: ws) ({ frames := 1, cells := 0, slots := 0, locals := 13 } : Room)) (fun a U => a = #[(.ref a1), (.int p2), (.ref a3)] ∧ Z.Warmed39 U.vm ∧ U.heap = h0) (fun _ _ _ _ _ => True) (fun _ U o U' => ∃ v L, o = .returned v ∧ Q_rm1 Z a1 p2 a3 h0 n0 v U'.heap L ∧ FrameEnd U o U' L ({ frames := 1, cells := 0, slots := 0, locals := 13 } : Room).cells ({ frames := 1, cells := 0, slots := 0, locals := 13 } : Room).slots) := by
  refine MetFree.of_bodySF (plainFor_of_name pn_1) hisR ?_
  intro p e s m args below meth c s₁ Bd hml0 hP hK
  obtain ⟨rfl, hZ, hh⟩ := hP
  have hx := Bd.exec
  have hby := Bd.bytes
  have hml : c.maxLocals = 3 := hml0
  have hown : s.vm.findClass "com/example/amberhold/amberhold/store/DefaultPolicy" = some m.cls := findClass_of_methodNamed Bd.named
  have hnm := (name_of_methodNamed Bd.named Bd.method).1
  have hlk := Bd.notSynchronized
  have X0 : Stand p l e ({ frames := 1, cells := 0, slots := 0, locals := 13 } : Room) s m #[(.ref a1), (.int p2), (.ref a3)] below meth c s₁ [] 0 0 := Stand.of_body Bd
  have e0 : s₁.heap = h0 := by rw [← hh, Bd.state]; rfl
  have N0 := Fr.nil n0
  refine Wp.goal (Post := (fun o U' => ∃ v L, o = .returned v ∧ Q_rm1 Z a1 p2 a3 h0 n0 v U'.heap L ∧ FrameEnd s o U' L ({ frames := 1, cells := 0, slots := 0, locals := 13 } : Room).cells ({ frames := 1, cells := 0, slots := 0, locals := 13 } : Room).slots)) (Wp.st (S' := s₁.setTop (mkF m 0 #[.val (.ref a1), .val (.int p2), .val (.ref a3)] [])) (fun tt_ kk_ => castTop (ef_rm1 m a1 p2 a3 ) kk_) ?_)
  refine Wp.st (S' := s₁.setTop (mkF m 1 #[.val (.ref a1), .val (.int p2), .val (.ref a3)] [(.ref a1)])) (fun tt_ kk_ => XS.aloadN X0.here hx rfl (hb hby d1_0) rfl rfl kk_) ?_
  obtain ⟨T1, X1, e1, st1⟩ := initO X0 hx hZ hown (hw _ (List.mem_of_getElem? (i := 13) rfl)) (hw _ (List.mem_of_getElem? (i := 14) rfl)) (hw _ (List.mem_of_getElem? (i := 15) rfl)) e0 (g := (mkF m 1 #[.val (.ref a1), .val (.int p2), .val (.ref a3)] [(.ref a1)])) rfl (by rw [hml]; rfl) rfl (hb hby d1_1) (by decide) (W := 0) (by show 2 * 0 + _ ≤ _; exact Nat.le_of_eq rfl) (by decide)
  refine Wp.st (S' := T1.setTop (mkF m 4 #[.val (.ref a1), .val (.int p2), .val (.ref a3)] [])) st1 ?_
  refine Wp.st (S' := T1.setTop (mkF m 5 #[.val (.ref a1), .val (.int p2), .val (.ref a3)] [(.int p2)])) (fun tt_ kk_ => XS.iloadN X1.here hx rfl (hb hby d1_4) rfl  kk_) ?_
  refine Wp.st (S' := T1.setTop (mkF m 6 #[.val (.ref a1), .val (.int p2), .val (.ref a3)] [(.int (1 : Int32)), (.int p2)])) (fun tt_ kk_ => XS.iconst X1.here hx rfl (hb hby d1_5) kk_) ?_
  refine Wp.st (S' := T1.setTop (mkF m 9 #[.val (.ref a1), .val (.int p2), .val (.ref a3)] [])) (fun tt_ kk_ => XS.icmpNo X1.here hx rfl (hb hby d1_6) rfl (flt (hd1 : ¬ (p2 < (1 : Int32)))).1 kk_) ?_
  refine Wp.st (S' := T1.setTop (mkF m 10 #[.val (.ref a1), .val (.int p2), .val (.ref a3)] [(.int p2)])) (fun tt_ kk_ => XS.iloadN X1.here hx rfl (hb hby d1_9) rfl  kk_) ?_
  refine Wp.st (S' := T1.setTop (mkF m 12 #[.val (.ref a1), .val (.int p2), .val (.ref a3)] [(.int (146000 : Int32)), (.int p2)])) (fun tt_ kk_ => X1.ldcInt hx hown (mvT hZ (hw _ (List.mem_of_getElem? (i := 16) rfl))) (g := (mkF m 10 #[.val (.ref a1), .val (.int p2), .val (.ref a3)] [(.int p2)])) rfl (hb hby d1_10) tt_ kk_) ?_
  refine Wp.st (S' := T1.setTop (mkF m 25 #[.val (.ref a1), .val (.int p2), .val (.ref a3)] [])) (fun tt_ kk_ => XS.icmpYes X1.here hx rfl (pc0 := 12) (pc' := 25) rfl (hb hby d1_12) rfl (flt (hd2 : ¬ ((146000 : Int32) < p2))).2.2.2 (by decide) (by decide) kk_) ?_
  refine Wp.st (S' := T1.setTop (mkF m 26 #[.val (.ref a1), .val (.int p2), .val (.ref a3)] [(.ref a1)])) (fun tt_ kk_ => XS.aloadN X1.here hx rfl (hb hby d1_25) rfl rfl kk_) ?_
  refine Wp.st (S' := T1.setTop (mkF m 27 #[.val (.ref a1), .val (.int p2), .val (.ref a3)] [(.int p2), (.ref a1)])) (fun tt_ kk_ => XS.iloadN X1.here hx rfl (hb hby d1_26) rfl  kk_) ?_
  obtain ⟨T2, h2, X2, e2, W2, st2⟩ := putF X1 hx hZ hown (host := "") (Or.inl (hw _ (List.mem_of_getElem? (i := 17) rfl))) Via.refl e1 P3 P2 (Or.inr ⟨(hw _ (List.mem_of_getElem? (i := 18) rfl)), rfl, hnm⟩) (hw _ (List.mem_of_getElem? (i := 8) rfl)) (ty := .int) (by decide) rfl rfl (g := (mkF m 27 #[.val (.ref a1), .val (.int p2), .val (.ref a3)] [(.int p2), (.ref a1)])) rfl rfl (hb hby d1_27)
  have z3 := Nat.le_of_eq W2.size.symm
  have Fw2 : Fld Z h2 a1 "com/example/amberhold/amberhold/store/DefaultPolicy" "days" "I" (.int p2) := P3.same W2
  have N2 := Fr.snoc X2 N0 g_a1
  refine Wp.st (S' := T2.setTop (mkF m 30 #[.val (.ref a1), .val (.int p2), .val (.ref a3)] [])) st2 ?_
  refine Wp.st (S' := T2.setTop (mkF m 31 #[.val (.ref a1), .val (.int p2), .val (.ref a3)] [(.ref a1)])) (fun tt_ kk_ => XS.aloadN X2.here hx rfl (hb hby d1_30) rfl rfl kk_) ?_
  refine Wp.st (S' := T2.setTop (mkF m 32 #[.val (.ref a1), .val (.int p2), .val (.ref a3)] [(.ref a3), (.ref a1)])) (fun tt_ kk_ => XS.aloadN X2.here hx rfl (hb hby d1_31) rfl rfl kk_) ?_
  obtain ⟨vv4, _, ⟨T4, L4, k4, n4⟩, -, X4, ⟨Lc4, hQ4, l4, y4, z4⟩, st4⟩ := Jvm.LawKit.callS X2 hx (y := (⟨"java/util/Objects", "requireNonNull", "(Ljava/lang/Object;)Ljava/lang/Object;"⟩ : MethodName)) hown (mvT hZ (hw _ (List.mem_of_getElem? (i := 19) rfl))) (mvT hZ (hw _ (List.mem_of_getElem? (i := 20) rfl))) (mvT hZ (hw _ (List.mem_of_getElem? (i := 21) rfl))) (mvT hZ (hw _ (List.mem_of_getElem? (i := 22) rfl))) (by decide) (backOf (W := 1) (rm3 l Z a0 hw [] a3 h2 n0 (Nat.le_trans Z0 z3) ) hZ (hw _ (List.mem_of_getElem? (i := 22) rfl)) (hw _ (List.mem_of_getElem? (i := 21) rfl)) (by decide) (by decide)) (g := (mkF m 32 #[.val (.ref a1), .val (.int p2), .val (.ref a3)] [(.ref a3), (.ref a1)])) rfl (by rw [hml]; rfl) (argsL := [(.ref a3)]) (rest := [(.ref a1)]) (lenOf pd_0 rfl) rfl (by show 2 * 0 + _ ≤ _; exact Nat.le_of_eq rfl) (hb hby d1_32) (fun _ _ => ⟨rfl, e2, (by decide : 0 + 0 ≤ _), (by decide : 0 + 0 ≤ _)⟩)
  dsimp only [Pt.U, Pt.locs, Pt.cells, Pt.slots] at X4 l4 y4 z4 st4 hQ4
  subst l4 y4 z4
  obtain ⟨rfl, Nq4, e4⟩ := hQ4
  have N4 := Fr.app N2 Nq4
  refine Wp.st (S' := T4.setTop (mkF m 35 #[.val (.ref a1), .val (.int p2), .val (.ref a3)] [(.ref a3), (.ref a1)])) st4 ?_
  have O6 := O0.wr W2 g_a1
  obtain ⟨T5, X5, e5, st5⟩ := castY X4 hx hZ hown (hw _ (List.mem_of_getElem? (i := 23) rfl)) e4 (Ins.self (EM.ext O6.2)) (g := (mkF m 35 #[.val (.ref a1), .val (.int p2), .val (.ref a3)] [(.ref a3), (.ref a1)])) rfl rfl (hb hby d1_35)
  refine Wp.st (S' := T5.setTop (mkF m 38 #[.val (.ref a1), .val (.int p2), .val (.ref a3)] [(.ref a3), (.ref a1)])) st5 ?_
  have F8 := P4.other W2 (Or.inr (slot_ne (Or.inr (hw _ (List.mem_of_getElem? (i := 26) rfl))) (Or.inr (hw _ (List.mem_of_getElem? (i := 18) rfl))) (by decide) (t := (.object "com/example/amberhold/amberhold/store/RetentionPolicy$Mode")) (t' := .int) (by decide) (by decide)))
  have F9 := P2.wr W2
  obtain ⟨T7, h7, X7, e7, W7, st7⟩ := putF X5 hx hZ hown (host := "") (Or.inl (hw _ (List.mem_of_getElem? (i := 25) rfl))) Via.refl e5 F8 F9 (Or.inr ⟨(hw _ (List.mem_of_getElem? (i := 26) rfl)), rfl, hnm⟩) (hw _ (List.mem_of_getElem? (i := 8) rfl)) (ty := (.object "com/example/amberhold/amberhold/store/RetentionPolicy$Mode")) (by decide) rfl rfl (g := (mkF m 38 #[.val (.ref a1), .val (.int p2), .val (.ref a3)] [(.ref a3), (.ref a1)])) rfl rfl (hb hby d1_38)
  have z10 := Nat.le_of_eq W7.size.symm
  have Fw7 : Fld Z h7 a1 "com/example/amberhold/amberhold/store/DefaultPolicy" "mode" "Lcom/example/amberhold/amberhold/store/RetentionPolicy$Mode;" (.ref a3) := F8.same W7
  have N7 := Fr.snoc X7 N4 g_a1
  refine Wp.st (S' := T7.setTop (mkF m 41 #[.val (.ref a1), .val (.int p2), .val (.ref a3)] [])) st7 ?_
  have K11 := Keep.refl h0 [a1]
  have K12 := K11.wr W2 (Or.inl (List.mem_of_getElem? (i := 0) rfl))
  have K13 := K12.wr W7 (Or.inl (List.mem_of_getElem? (i := 0) rfl))
  have F14 := F9.wr W7
  have F15 := Fw2.other W7 (Or.inr (slot_ne (Or.inr (hw _ (List.mem_of_getElem? (i := 18) rfl))) (Or.inr (hw _ (List.mem_of_getElem? (i := 26) rfl))) (by decide) (t := .int) (t' := (.object "com/example/amberhold/amberhold/store/RetentionPolicy$Mode")) (by decide) (by decide)))
  exact Wp.ret X7 hlk (v := none) (fun _ => rfl) (fun fs hr => X7.returnOut hx Bd.returns (hb hby d1_41) hr) (by decide) (by decide) (show Q_rm1 Z a1 p2 a3 h0 n0 _ T7.heap _ by rw [e7]; exact ⟨rfl, N7, K13, F14, F15, Fw7⟩)
theorem pn_4 : plainName "com/example/amberhold/amberhold/store/DefaultPolicy" = true := by first | (simp [plainName, overriddenIn]; done) | decide +kernel
theorem d4_0 : decode prog_37_method_5_code 0 = .ok (.aload_n 1, 1) := by decide +kernel
theorem d4_1 : decode prog_37_method_5_code 1 = .ok (.getfield 17, 3) := by decide +kernel
theorem d4_4 : decode prog_37_method_5_code 4 = .ok (.aload_n 0, 1) := by decide +kernel
theorem d4_5 : decode prog_37_method_5_code 5 = .ok (.getfield 17, 3) := by decide +kernel
theorem d4_8 : decode prog_37_method_5_code 8 = .ok (.if_icmp .ge 7, 3) := by decide +kernel
theorem d4_11 : decode prog_37_method_5_code 11 = .ok (.iconst 1, 1) := by decide +kernel
theorem d4_12 : decode prog_37_method_5_code 12 = .ok (.goto 4, 3) := by decide +kernel
theorem d4_16 : decode prog_37_method_5_code 16 = .ok (.ireturn, 1) := by decide +kernel
theorem d4_15 : decode prog_37_method_5_code 15 = .ok (.iconst 0, 1) := by decide +kernel
theorem ef_rm4 (m : MethodId) (a1 : Addr) (a2 : Addr) : entryFrame m #[(.ref a1), (.ref a2)] 2 = mkF m 0 #[.val (.ref a1), .val (.ref a2)] [] := by first | (simp [entryFrame, mkF, argsToLocals, Value.category]; done) | rfl
def Q_rm4 (Z : State) (a1 : Addr) (a2 : Addr) (d1 : Int32) (d2 : Int32) (h0 : Heap) (n0 : Nat) (v : Option Value) (h : Heap) (L : List Loc) : Prop := (v = some (.int (if d2 < d1 then (1 : Int32) else (0 : Int32)))) ∧ (Fr n0 L) ∧ (h = h0)
set_option maxRecDepth 65536 in
set_option maxHeartbeats 40000000 in
theorem rm4 (l : Launch) (Z : State) (a0 : Array Value) (hw : ∀ d ∈ tables_1, d.before a0 Z = true) (ws : List Jvm.Cond) (a1 : Addr) (a2 : Addr) (d1 : Int32) (d2 : Int32) (h0 : Heap) (n0 : Nat) (Z0 : n0 ≤ h0.size) (F1 : Fld Z h0 a1 "com/example/amberhold/amberhold/store/DefaultPolicy" "days" "I" (.int d1)) (F2 : Fld Z h0 a2 "com/example/amberhold/amberhold/store/DefaultPolicy" "days" "I" (.int d2)) :
    MetFree l (⟨"com/example/amberhold/amberhold/store/DefaultPolicy", "isShortenedBy", "(Lcom/example/amberhold/amberhold/store/DefaultPolicy;)Z"⟩ : MethodName) (head1 (Jvm.Cond.code (⟨"com/example/amberhold/amberhold/store/DefaultPolicy", "isShortenedBy", "(Lcom/example/amberhold/amberhold/store/DefaultPolicy;)Z"⟩ : MethodName) prog_37_method_5_code 2 (some .boolean) :: ws) ({ frames := 0, cells := 0, slots := 0, locals := 0 } : Room)) (fun a U => a = #[(.ref a1), (.ref a2)] ∧ Z.Warmed39 U.vm ∧ U.heap = h0) (fun _ _ _ _ _ => True) (fun _ U o U' => ∃ v L, o = .returned v ∧ Q_rm4 Z a1 a2 d1 d2 h0 n0 v U'.heap L ∧ FrameEnd U o U' L ({ frames := 0, cells := 0, slots := 0, locals := 0 } : Room).cells ({ frames := 0, cells := 0, slots := 0, locals := 0 } : Room).slots) := by
  refine MetFree.of_bodySF (plainFor_of_name pn_4) hisR ?_
  intro p e s m args below meth c s₁ Bd hml0 hP hK
  obtain ⟨rfl, hZ, hh⟩ := hP
  have hx := Bd.exec
  have hby := Bd.bytes
  have hml : c.maxLocals = 2 := hml0
  have hown : s.vm.findClass "com/example/amberhold/amberhold/store/DefaultPolicy" = some m.cls := findClass_of_methodNamed Bd.named
  have hnm := (name_of_methodNamed Bd.named Bd.method).1
  have hlk := Bd.notSynchronized
  have X0 : Stand p l e ({ frames := 0, cells := 0, slots := 0, locals := 0 } : Room) s m #[(.ref a1), (.ref a2)] below meth c s₁ [] 0 0 := Stand.of_body Bd
  have e0 : s₁.heap = h0 := by rw [← hh, Bd.state]; rfl
  have N0 := Fr.nil n0
  refine Wp.goal (Post := (fun o U' => ∃ v L, o = .returned v ∧ Q_rm4 Z a1 a2 d1 d2 h0 n0 v U'.heap L ∧ FrameEnd s o U' L ({ frames := 0, cells := 0, slots := 0, locals := 0 } : Room).cells ({ frames := 0, cells := 0, slots := 0, locals := 0 } : Room).slots)) (Wp.st (S' := s₁.setTop (mkF m 0 #[.val (.ref a1), .val (.ref a2)] [])) (fun tt_ kk_ => castTop (ef_rm4 m a1 a2 ) kk_) ?_)
  refine Wp.st (S' := s₁.setTop (mkF m 1 #[.val (.ref a1), .val (.ref a2)] [(.ref a2)])) (fun tt_ kk_ => XS.aloadN X0.here hx rfl (hb hby d4_0) rfl rfl kk_) ?_
  obtain ⟨T1, X1, e1, st1⟩ := getF X0 hx hZ hown (host := "") (Or.inl (hw _ (List.mem_of_getElem? (i := 17) rfl))) Via.refl e0 F2 (g := (mkF m 1 #[.val (.ref a1), .val (.ref a2)] [(.ref a2)])) rfl rfl (hb hby d4_1)
  refine Wp.st (S' := T1.setTop (mkF m 4 #[.val (.ref a1), .val (.ref a2)] [(.int d2)])) st1 ?_
  refine Wp.st (S' := T1.setTop (mkF m 5 #[.val (.ref a1), .val (.ref a2)] [(.ref a1), (.int d2)])) (fun tt_ kk_ => XS.aloadN X1.here hx rfl (hb hby d4_4) rfl rfl kk_) ?_
  obtain ⟨T2, X2, e2, st2⟩ := getF X1 hx hZ hown (host := "") (Or.inl (hw _ (List.mem_of_getElem? (i := 17) rfl))) Via.refl e1 F1 (g := (mkF m 5 #[.val (.ref a1), .val (.ref a2)] [(.ref a1), (.int d2)])) rfl rfl (hb hby d4_5)
  refine Wp.st (S' := T2.setTop (mkF m 8 #[.val (.ref a1), .val (.ref a2)] [(.int d1), (.int d2)])) st2 ?_
  by_cases h : d2 < d1
  case pos =>
    refine Wp.st (S' := T2.setTop (mkF m 11 #[.val (.ref a1), .val (.ref a2)] [])) (fun tt_ kk_ => XS.icmpNo X2.here hx rfl (hb hby d4_8) rfl (tlt (h : d2 < d1)).2.1 kk_) ?_
    refine Wp.st (S' := T2.setTop (mkF m 12 #[.val (.ref a1), .val (.ref a2)] [(.int (1 : Int32))])) (fun tt_ kk_ => XS.iconst X2.here hx rfl (hb hby d4_11) kk_) ?_
    refine Wp.st (S' := T2.setTop (mkF m 16 #[.val (.ref a1), .val (.ref a2)] [(.int (1 : Int32))])) (fun tt_ kk_ => XS.goto X2.here hx rfl (pc0 := 12) (pc' := 16) rfl (hb hby d4_12) (by decide) (by decide) kk_) ?_
    exact Wp.ret X2 hlk (v := (some (.int (1 : Int32)))) (fun h => by rw [Bd.returns] at h; cases h) (fun fs hr => retN (z := (1 : Int32)) X2 hx (t := .boolean) Bd.returns (by simp) (hb hby d4_16) hr) (by decide) (by decide) (show Q_rm4 Z a1 a2 d1 d2 h0 n0 _ T2.heap _ by rw [e2]; exact ⟨(by rw [if_pos h]), N0, rfl⟩)
  case neg =>
    refine Wp.st (S' := T2.setTop (mkF m 15 #[.val (.ref a1), .val (.ref a2)] [])) (fun tt_ kk_ => XS.icmpYes X2.here hx rfl (pc0 := 8) (pc' := 15) rfl (hb hby d4_8) rfl (flt (h : ¬ (d2 < d1))).2.1 (by decide) (by decide) kk_) ?_
    refine Wp.st (S' := T2.setTop (mkF m 16 #[.val (.ref a1), .val (.ref a2)] [(.int (0 : Int32))])) (fun tt_ kk_ => XS.iconst X2.here hx rfl (hb hby d4_15) kk_) ?_
    exact Wp.ret X2 hlk (v := (some (.int (0 : Int32)))) (fun h => by rw [Bd.returns] at h; cases h) (fun fs hr => retN (z := (0 : Int32)) X2 hx (t := .boolean) Bd.returns (by simp) (hb hby d4_16) hr) (by decide) (by decide) (show Q_rm4 Z a1 a2 d1 d2 h0 n0 _ T2.heap _ by rw [e2]; exact ⟨(by rw [if_neg h]), N0, rfl⟩)
theorem pn_0 : plainName "com/example/amberhold/amberhold/store/DefaultPolicyIsShortenedByPinLaw" = true := by first | (simp [plainName, overriddenIn]; done) | decide +kernel
theorem pd_1 : parseMethodDescriptor "(ILcom/example/amberhold/amberhold/store/RetentionPolicy$Mode;)V" = some ⟨[.int, (.object "com/example/amberhold/amberhold/store/RetentionPolicy$Mode")], none⟩ := by decide +kernel
theorem pd_2 : parseMethodDescriptor "(Lcom/example/amberhold/amberhold/store/DefaultPolicy;)Z" = some ⟨[(.object "com/example/amberhold/amberhold/store/DefaultPolicy")], some .boolean⟩ := by decide +kernel
theorem pd_3 : parseMethodDescriptor "(II)I" = some ⟨[.int, .int], some .int⟩ := by decide +kernel
theorem ef_rm0 (m : MethodId) (x1 : Int32) (y1 : Int32) (m3 : Int32) : entryFrame m #[(.int x1), (.int y1), (.int m3)] maxLocals = mkF m 0 #[.val (.int x1), .val (.int y1), .val (.int m3), .unset, .unset, .unset, .unset, .unset, .unset, .unset, .unset, .unset, .unset, .unset, .unset] [] := by first | (simp [entryFrame, mkF, argsToLocals, Value.category, maxLocals]; done) | rfl
def Q_rm0 (Z : State) (x1 : Int32) (y1 : Int32) (m3 : Int32) (w_UNLOCKED : Addr) (w_LOCKED : Addr) (h0 : Heap) (n0 : Nat) (v : Option Value) (h : Heap) (L : List Loc) : Prop := (v = some (.int (1 : Int32))) ∧ (Fr n0 L) ∧ (Keep h0 h [])
set_option maxRecDepth 65536 in
set_option maxHeartbeats 40000000 in
theorem rm0 (l : Launch) (Z : State) (a0 : Array Value) (hw : ∀ d ∈ tables_1, d.before a0 Z = true) (ws : List Jvm.Cond) (x1 : Int32) (y1 : Int32) (m3 : Int32) (w_UNLOCKED : Addr) (w_LOCKED : Addr) (h0 : Heap) (n0 : Nat) (Z0 : n0 ≤ h0.size) (OZ : Jvm.RoadKit.Old Z n0 h0) (PE_UNLOCKED : Exa Z Z.heap w_UNLOCKED "com/example/amberhold/amberhold/store/RetentionPolicy$Mode") (PS_UNLOCKED : Sta Z Z.heap "com/example/amberhold/amberhold/store/RetentionPolicy$Mode" "UNLOCKED" "Lcom/example/amberhold/amberhold/store/RetentionPolicy$Mode;" (.ref w_UNLOCKED)) (PE_LOCKED : Exa Z Z.heap w_LOCKED "com/example/amberhold/amberhold/store/RetentionPolicy$Mode") (PS_LOCKED : Sta Z Z.heap "com/example/amberhold/amberhold/store/RetentionPolicy$Mode" "LOCKED" "Lcom/example/amberhold/amberhold/store/RetentionPolicy$Mode;" (.ref w_LOCKED)) :
    MetFree l x (head1 (Jvm.Cond.code x code maxLocals ret :: ws) room_1) (fun a U => a = #[(.int x1), (.int y1), (.int m3)] ∧ Z.Warmed39 U.vm ∧ U.heap = h0) (fun _ _ _ _ _ => True) (fun _ U o U' => ∃ v L, o = .returned v ∧ Q_rm0 Z x1 y1 m3 w_UNLOCKED w_LOCKED h0 n0 v U'.heap L ∧ FrameEnd U o U' L room_1.cells room_1.slots) := by
  refine MetFree.of_bodySF (plainFor_of_name pn_0) hisR ?_
  intro p e s m args below meth c s₁ Bd hml0 hP hK
  obtain ⟨rfl, hZ, hh⟩ := hP
  have hx := Bd.exec
  have hby := Bd.bytes
  have hml : c.maxLocals = 15 := hml0
  have hown : s.vm.findClass "com/example/amberhold/amberhold/store/DefaultPolicyIsShortenedByPinLaw" = some m.cls := findClass_of_methodNamed Bd.named
  have hnm := (name_of_methodNamed Bd.named Bd.method).1
  have hlk := Bd.notSynchronized
  have X0 : Stand p l e room_1 s m #[(.int x1), (.int y1), (.int m3)] below meth c s₁ [] 0 0 := Stand.of_body Bd
  have e0 : s₁.heap = h0 := by rw [← hh, Bd.state]; rfl
  have N0 := Fr.nil n0
  refine Wp.goal (Post := (fun o U' => ∃ v L, o = .returned v ∧ Q_rm0 Z x1 y1 m3 w_UNLOCKED w_LOCKED h0 n0 v U'.heap L ∧ FrameEnd s o U' L room_1.cells room_1.slots)) (Wp.st (S' := s₁.setTop (mkF m 0 #[.val (.int x1), .val (.int y1), .val (.int m3), .unset, .unset, .unset, .unset, .unset, .unset, .unset, .unset, .unset, .unset, .unset, .unset] [])) (fun tt_ kk_ => castTop (ef_rm0 m x1 y1 m3 ) kk_) ?_)
  have O0 : Jvm.RoadKit.Old Z n0 h0 := OZ
  refine Wp.st (S' := s₁.setTop (mkF m 1 #[.val (.int x1), .val (.int y1), .val (.int m3), .unset, .unset, .unset, .unset, .unset, .unset, .unset, .unset, .unset, .unset, .unset, .unset] [(.int x1)])) (fun tt_ kk_ => XS.iloadN X0.here hx rfl (hb hby at_0) rfl  kk_) ?_
  refine Wp.st (S' := s₁.setTop (mkF m 3 #[.val (.int x1), .val (.int y1), .val (.int m3), .unset, .unset, .unset, .unset, .unset, .unset, .unset, .unset, .unset, .unset, .unset, .unset] [(.int (2147483647 : Int32)), (.int x1)])) (fun tt_ kk_ => X0.ldcInt hx hown (mvT hZ (hw _ (List.mem_of_getElem? (i := 0) rfl))) (g := (mkF m 1 #[.val (.int x1), .val (.int y1), .val (.int m3), .unset, .unset, .unset, .unset, .unset, .unset, .unset, .unset, .unset, .unset, .unset, .unset] [(.int x1)])) rfl (hb hby at_1) tt_ kk_) ?_
  refine Wp.st (S' := s₁.setTop (mkF m 4 #[.val (.int x1), .val (.int y1), .val (.int m3), .unset, .unset, .unset, .unset, .unset, .unset, .unset, .unset, .unset, .unset, .unset, .unset] [(.int (x1 &&& (2147483647 : Int32)))])) (fun tt_ kk_ => XS.iand X0.here hx rfl (hb hby at_3) rfl kk_) ?_
  refine Wp.st (S' := s₁.setTop (mkF m 6 #[.val (.int x1), .val (.int y1), .val (.int m3), .unset, .unset, .unset, .unset, .unset, .unset, .unset, .unset, .unset, .unset, .unset, .unset] [(.int (146000 : Int32)), (.int (x1 &&& (2147483647 : Int32)))])) (fun tt_ kk_ => X0.ldcInt hx hown (mvT hZ (hw _ (List.mem_of_getElem? (i := 1) rfl))) (g := (mkF m 4 #[.val (.int x1), .val (.int y1), .val (.int m3), .unset, .unset, .unset, .unset, .unset, .unset, .unset, .unset, .unset, .unset, .unset, .unset] [(.int (x1 &&& (2147483647 : Int32)))])) rfl (hb hby at_4) tt_ kk_) ?_
  refine Wp.st (S' := s₁.setTop (mkF m 7 #[.val (.int x1), .val (.int y1), .val (.int m3), .unset, .unset, .unset, .unset, .unset, .unset, .unset, .unset, .unset, .unset, .unset, .unset] [(.int ((x1 &&& (2147483647 : Int32)) % (146000 : Int32)))])) (fun tt_ kk_ => iremM X0 hx rfl (hb hby at_6) rfl (by decide) kk_) ?_
  refine Wp.st (S' := s₁.setTop (mkF m 8 #[.val (.int x1), .val (.int y1), .val (.int m3), .unset, .unset, .unset, .unset, .unset, .unset, .unset, .unset, .unset, .unset, .unset, .unset] [(.int (1 : Int32)), (.int ((x1 &&& (2147483647 : Int32)) % (146000 : Int32)))])) (fun tt_ kk_ => XS.iconst X0.here hx rfl (hb hby at_7) kk_) ?_
  refine Wp.st (S' := s₁.setTop (mkF m 9 #[.val (.int x1), .val (.int y1), .val (.int m3), .unset, .unset, .unset, .unset, .unset, .unset, .unset, .unset, .unset, .unset, .unset, .unset] [(.int (((x1 &&& (2147483647 : Int32)) % (146000 : Int32)) + (1 : Int32)))])) (fun tt_ kk_ => XS.iadd X0.here hx rfl (hb hby at_8) rfl kk_) ?_
  refine Wp.st (S' := s₁.setTop (mkF m 10 #[.val (.int x1), .val (.int y1), .val (.int m3), .val (.int (((x1 &&& (2147483647 : Int32)) % (146000 : Int32)) + (1 : Int32))), .unset, .unset, .unset, .unset, .unset, .unset, .unset, .unset, .unset, .unset, .unset] [])) (fun tt_ kk_ => XS.istoreN X0.here hx rfl (hb hby at_9) rfl (l' := #[.val (.int x1), .val (.int y1), .val (.int m3), .val (.int (((x1 &&& (2147483647 : Int32)) % (146000 : Int32)) + (1 : Int32))), .unset, .unset, .unset, .unset, .unset, .unset, .unset, .unset, .unset, .unset, .unset]) rfl kk_) ?_
  have ha := own_days x1
  have hbb := own_days y1
  generalize hva : (((x1 &&& (2147483647 : Int32)) % (146000 : Int32)) + (1 : Int32)) = a
  rw [hva] at ha
  have J1 : ∀ (TJ1 : State) (loJ1 : List Loc) (b : Int32) (NJ1 : Fr n0 loJ1) (XJ1 : Stand p l e room_1 s m #[(.int x1), (.int y1), (.int m3)] below meth c TJ1 loJ1 0 0) (eJ1 : TJ1.heap = h0) (hb1 : ¬ (b < (1 : Int32))) (hb2 : ¬ ((146000 : Int32) < b)), Wp p e below (fun o U' => ∃ v L, o = .returned v ∧ Q_rm0 Z x1 y1 m3 w_UNLOCKED w_LOCKED h0 n0 v U'.heap L ∧ FrameEnd s o U' L room_1.cells room_1.slots) (TJ1.setTop (mkF m 55 #[.val (.int x1), .val (.int y1), .val (.int m3), .val (.int a), .val (.int b), .unset, .unset, .unset, .unset, .unset, .unset, .unset, .unset, .unset, .unset] [])) := by
    intro TJ1 loJ1 b NJ1 XJ1 eJ1 hb1 hb2
    obtain ⟨ha1, ha2⟩ := ha
    have J2 : ∀ (TJ2 : State) (loJ2 : List Loc) (ma : Addr) (NJ2 : Fr n0 loJ2) (XJ2 : Stand p l e room_1 s m #[(.int x1), (.int y1), (.int m3)] below meth c TJ2 loJ2 0 0) (eJ2 : TJ2.heap = h0) (E_ma : Exa Z Z.heap ma "com/example/amberhold/amberhold/store/RetentionPolicy$Mode"), Wp p e below (fun o U' => ∃ v L, o = .returned v ∧ Q_rm0 Z x1 y1 m3 w_UNLOCKED w_LOCKED h0 n0 v U'.heap L ∧ FrameEnd s o U' L room_1.cells room_1.slots) (TJ2.setTop (mkF m 70 #[.val (.int x1), .val (.int y1), .val (.int m3), .val (.int a), .val (.int b), .unset, .unset, .unset, .unset, .unset, .unset, .unset, .unset, .unset, .unset] [(.ref ma)])) := by
      intro TJ2 loJ2 ma NJ2 XJ2 eJ2 E_ma
      refine Wp.st (S' := TJ2.setTop (mkF m 72 #[.val (.int x1), .val (.int y1), .val (.int m3), .val (.int a), .val (.int b), .val (.ref ma), .unset, .unset, .unset, .unset, .unset, .unset, .unset, .unset, .unset] [])) (fun tt_ kk_ => XS.astore XJ2.here hx rfl (hb hby at_70) rfl rfl (l' := #[.val (.int x1), .val (.int y1), .val (.int m3), .val (.int a), .val (.int b), .val (.ref ma), .unset, .unset, .unset, .unset, .unset, .unset, .unset, .unset, .unset]) rfl kk_) ?_
      have J3 : ∀ (TJ3 : State) (loJ3 : List Loc) (mb : Addr) (NJ3 : Fr n0 loJ3) (XJ3 : Stand p l e room_1 s m #[(.int x1), (.int y1), (.int m3)] below meth c TJ3 loJ3 0 0) (eJ3 : TJ3.heap = h0) (E_mb : Exa Z Z.heap mb "com/example/amberhold/amberhold/store/RetentionPolicy$Mode"), Wp p e below (fun o U' => ∃ v L, o = .returned v ∧ Q_rm0 Z x1 y1 m3 w_UNLOCKED w_LOCKED h0 n0 v U'.heap L ∧ FrameEnd s o U' L room_1.cells room_1.slots) (TJ3.setTop (mkF m 87 #[.val (.int x1), .val (.int y1), .val (.int m3), .val (.int a), .val (.int b), .val (.ref ma), .unset, .unset, .unset, .unset, .unset, .unset, .unset, .unset, .unset] [(.ref mb)])) := by
        intro TJ3 loJ3 mb NJ3 XJ3 eJ3 E_mb
        refine Wp.st (S' := TJ3.setTop (mkF m 89 #[.val (.int x1), .val (.int y1), .val (.int m3), .val (.int a), .val (.int b), .val (.ref ma), .val (.ref mb), .unset, .unset, .unset, .unset, .unset, .unset, .unset, .unset] [])) (fun tt_ kk_ => XS.astore XJ3.here hx rfl (hb hby at_87) rfl rfl (l' := #[.val (.int x1), .val (.int y1), .val (.int m3), .val (.int a), .val (.int b), .val (.ref ma), .val (.ref mb), .unset, .unset, .unset, .unset, .unset, .unset, .unset, .unset]) rfl kk_) ?_
        have J4 : ∀ (TJ4 : State) (loJ4 : List Loc) (mo : Addr) (NJ4 : Fr n0 loJ4) (XJ4 : Stand p l e room_1 s m #[(.int x1), (.int y1), (.int m3)] below meth c TJ4 loJ4 0 0) (eJ4 : TJ4.heap = h0) (E_mo : Exa Z Z.heap mo "com/example/amberhold/amberhold/store/RetentionPolicy$Mode"), Wp p e below (fun o U' => ∃ v L, o = .returned v ∧ Q_rm0 Z x1 y1 m3 w_UNLOCKED w_LOCKED h0 n0 v U'.heap L ∧ FrameEnd s o U' L room_1.cells room_1.slots) (TJ4.setTop (mkF m 104 #[.val (.int x1), .val (.int y1), .val (.int m3), .val (.int a), .val (.int b), .val (.ref ma), .val (.ref mb), .unset, .unset, .unset, .unset, .unset, .unset, .unset, .unset] [(.ref mo)])) := by
          intro TJ4 loJ4 mo NJ4 XJ4 eJ4 E_mo
          refine Wp.st (S' := TJ4.setTop (mkF m 106 #[.val (.int x1), .val (.int y1), .val (.int m3), .val (.int a), .val (.int b), .val (.ref ma), .val (.ref mb), .val (.ref mo), .unset, .unset, .unset, .unset, .unset, .unset, .unset] [])) (fun tt_ kk_ => XS.astore XJ4.here hx rfl (hb hby at_104) rfl rfl (l' := #[.val (.int x1), .val (.int y1), .val (.int m3), .val (.int a), .val (.int b), .val (.ref ma), .val (.ref mb), .val (.ref mo), .unset, .unset, .unset, .unset, .unset, .unset, .unset]) rfl kk_) ?_
          obtain ⟨T5, h5, X5, e5, E5, A5, D5, U5, st5⟩ := newO XJ4 hx hZ hown (hw _ (List.mem_of_getElem? (i := 7) rfl)) (hw _ (List.mem_of_getElem? (i := 8) rfl)) (hw _ (List.mem_of_getElem? (i := 9) rfl)) eJ4 (g := (mkF m 106 #[.val (.int x1), .val (.int y1), .val (.int m3), .val (.int a), .val (.int b), .val (.ref ma), .val (.ref mb), .val (.ref mo), .unset, .unset, .unset, .unset, .unset, .unset, .unset] [])) rfl (hb hby at_106) (by decide) (by decide)
          obtain ⟨b5, g5⟩ : ∃ z, z = h0.size := ⟨_, rfl⟩
          rw [← g5] at A5 D5 U5 st5
          have z6 := E5.1
          have g7 : n0 ≤ b5 := Nat.le_trans (Nat.le_trans Z0 (Nat.le_refl _)) (Nat.le_of_eq g5.symm)
          have F8 : Fld Z h5 b5 "com/example/amberhold/amberhold/store/DefaultPolicy" "days" "I" (.int (0 : Int32)) := D5 (Or.inr (hw _ (List.mem_of_getElem? (i := 18) rfl))) (ty := .int) (by decide)
          have F9 : Fld Z h5 b5 "com/example/amberhold/amberhold/store/DefaultPolicy" "mode" "Lcom/example/amberhold/amberhold/store/RetentionPolicy$Mode;" .null := D5 (Or.inr (hw _ (List.mem_of_getElem? (i := 26) rfl))) (ty := (.object "com/example/amberhold/amberhold/store/RetentionPolicy$Mode")) (by decide)
          refine Wp.st (S' := T5.setTop (mkF m 109 #[.val (.int x1), .val (.int y1), .val (.int m3), .val (.int a), .val (.int b), .val (.ref ma), .val (.ref mb), .val (.ref mo), .unset, .unset, .unset, .unset, .unset, .unset, .unset] [(.ref b5)])) st5 ?_
          refine Wp.st (S' := T5.setTop (mkF m 110 #[.val (.int x1), .val (.int y1), .val (.int m3), .val (.int a), .val (.int b), .val (.ref ma), .val (.ref mb), .val (.ref mo), .unset, .unset, .unset, .unset, .unset, .unset, .unset] [(.ref b5), (.ref b5)])) (fun tt_ kk_ => XS.dup X5.here hx rfl (hb hby at_109) rfl rfl kk_) ?_
          refine Wp.st (S' := T5.setTop (mkF m 111 #[.val (.int x1), .val (.int y1), .val (.int m3), .val (.int a), .val (.int b), .val (.ref ma), .val (.ref mb), .val (.ref mo), .unset, .unset, .unset, .unset, .unset, .unset, .unset] [(.int a), (.ref b5), (.ref b5)])) (fun tt_ kk_ => XS.iloadN X5.here hx rfl (hb hby at_110) rfl  kk_) ?_
          refine Wp.st (S' := T5.setTop (mkF m 113 #[.val (.int x1), .val (.int y1), .val (.int m3), .val (.int a), .val (.int b), .val (.ref ma), .val (.ref mb), .val (.ref mo), .unset, .unset, .unset, .unset, .unset, .unset, .unset] [(.ref ma), (.int a), (.ref b5), (.ref b5)])) (fun tt_ kk_ => XS.aload X5.here hx rfl (hb hby at_111) rfl rfl kk_) ?_
          have O11 := O0.ext E5
          obtain ⟨vv10, _, ⟨T10, L10, k10, n10⟩, -, X10, ⟨Lc10, hQ10, l10, y10, z10⟩, st10⟩ := X5.specialBack hx (y := (⟨"com/example/amberhold/amberhold/store/DefaultPolicy", "<init>", "(ILcom/example/amberhold/amberhold/store/RetentionPolicy$Mode;)V"⟩ : MethodName)) rfl hown (mvT hZ (hw _ (List.mem_of_getElem? (i := 10) rfl))) (mvT hZ (hw _ (List.mem_of_getElem? (i := 11) rfl))) (mvT hZ (hw _ (List.mem_of_getElem? (i := 12) rfl))) (by decide) (backOf (W := 1) (rm1 l Z a0 hw [] b5 a ma h5 n0 (Nat.le_trans Z0 z6) O11 g7 A5 F8 F9 E_ma ((by assumption) : ¬ (a < (1 : Int32))) ((by assumption) : ¬ ((146000 : Int32) < a))) hZ (hw _ (List.mem_of_getElem? (i := 12) rfl)) (hw _ (List.mem_of_getElem? (i := 9) rfl)) (by decide) (by decide)) (g := (mkF m 113 #[.val (.int x1), .val (.int y1), .val (.int m3), .val (.int a), .val (.int b), .val (.ref ma), .val (.ref mb), .val (.ref mo), .unset, .unset, .unset, .unset, .unset, .unset, .unset] [(.ref ma), (.int a), (.ref b5), (.ref b5)])) rfl (by rw [hml]; rfl) (Steps.refl _) (a := b5) (argsL := [(.int a), (.ref ma)]) (rest := [(.ref b5)]) (lenOf pd_1 rfl) rfl (by show 2 * 0 + _ ≤ _; exact Nat.le_of_eq rfl) (hb hby at_113) (fun _ _ => ⟨rfl, e5, (by decide : 1 + 0 ≤ _), (by decide : 2 + 0 ≤ _)⟩)
          dsimp only [Pt.U, Pt.locs, Pt.cells, Pt.slots] at X10 l10 y10 z10 st10 hQ10
          subst l10 y10 z10
          obtain ⟨rfl, Nq10, K10, P10_0, P10_1, P10_2⟩ := hQ10
          have N10 := Fr.app NJ4 Nq10
          have z12 := K10.1
          have e10 : T10.heap = T10.heap := rfl
          refine Wp.tr (S' := T10.setTop (mkF m 116 #[.val (.int x1), .val (.int y1), .val (.int m3), .val (.int a), .val (.int b), .val (.ref ma), .val (.ref mb), .val (.ref mo), .unset, .unset, .unset, .unset, .unset, .unset, .unset] [(.ref b5)])) st10 ?_
          refine Wp.st (S' := T10.setTop (mkF m 118 #[.val (.int x1), .val (.int y1), .val (.int m3), .val (.int a), .val (.int b), .val (.ref ma), .val (.ref mb), .val (.ref mo), .val (.ref b5), .unset, .unset, .unset, .unset, .unset, .unset] [])) (fun tt_ kk_ => XS.astore X10.here hx rfl (hb hby at_116) rfl rfl (l' := #[.val (.int x1), .val (.int y1), .val (.int m3), .val (.int a), .val (.int b), .val (.ref ma), .val (.ref mb), .val (.ref mo), .val (.ref b5), .unset, .unset, .unset, .unset, .unset, .unset]) rfl kk_) ?_
          obtain ⟨T13, h13, X13, e13, E13, A13, D13, U13, st13⟩ := newO X10 hx hZ hown (hw _ (List.mem_of_getElem? (i := 7) rfl)) (hw _ (List.mem_of_getElem? (i := 8) rfl)) (hw _ (List.mem_of_getElem? (i := 9) rfl)) e10 (g := (mkF m 118 #[.val (.int x1), .val (.int y1), .val (.int m3), .val (.int a), .val (.int b), .val (.ref ma), .val (.ref mb), .val (.ref mo), .val (.ref b5), .unset, .unset, .unset, .unset, .unset, .unset] [])) rfl (hb hby at_118) (by decide) (by decide)
          obtain ⟨b13, g13⟩ : ∃ z, z = T10.heap.size := ⟨_, rfl⟩
          rw [← g13] at A13 D13 U13 st13
          have z14 := E13.1
          have g15 : n0 ≤ b13 := Nat.le_trans (Nat.le_trans Z0 (Nat.le_trans z6 z12)) (Nat.le_of_eq g13.symm)
          have F16 : Fld Z h13 b13 "com/example/amberhold/amberhold/store/DefaultPolicy" "days" "I" (.int (0 : Int32)) := D13 (Or.inr (hw _ (List.mem_of_getElem? (i := 18) rfl))) (ty := .int) (by decide)
          have F17 : Fld Z h13 b13 "com/example/amberhold/amberhold/store/DefaultPolicy" "mode" "Lcom/example/amberhold/amberhold/store/RetentionPolicy$Mode;" .null := D13 (Or.inr (hw _ (List.mem_of_getElem? (i := 26) rfl))) (ty := (.object "com/example/amberhold/amberhold/store/RetentionPolicy$Mode")) (by decide)
          refine Wp.st (S' := T13.setTop (mkF m 121 #[.val (.int x1), .val (.int y1), .val (.int m3), .val (.int a), .val (.int b), .val (.ref ma), .val (.ref mb), .val (.ref mo), .val (.ref b5), .unset, .unset, .unset, .unset, .unset, .unset] [(.ref b13)])) st13 ?_
          refine Wp.st (S' := T13.setTop (mkF m 122 #[.val (.int x1), .val (.int y1), .val (.int m3), .val (.int a), .val (.int b), .val (.ref ma), .val (.ref mb), .val (.ref mo), .val (.ref b5), .unset, .unset, .unset, .unset, .unset, .unset] [(.ref b13), (.ref b13)])) (fun tt_ kk_ => XS.dup X13.here hx rfl (hb hby at_121) rfl rfl kk_) ?_
          refine Wp.st (S' := T13.setTop (mkF m 124 #[.val (.int x1), .val (.int y1), .val (.int m3), .val (.int a), .val (.int b), .val (.ref ma), .val (.ref mb), .val (.ref mo), .val (.ref b5), .unset, .unset, .unset, .unset, .unset, .unset] [(.int b), (.ref b13), (.ref b13)])) (fun tt_ kk_ => XS.iload X13.here hx rfl (hb hby at_122) rfl  kk_) ?_
          refine Wp.st (S' := T13.setTop (mkF m 126 #[.val (.int x1), .val (.int y1), .val (.int m3), .val (.int a), .val (.int b), .val (.ref ma), .val (.ref mb), .val (.ref mo), .val (.ref b5), .unset, .unset, .unset, .unset, .unset, .unset] [(.ref mb), (.int b), (.ref b13), (.ref b13)])) (fun tt_ kk_ => XS.aload X13.here hx rfl (hb hby at_124) rfl rfl kk_) ?_
          have O19 := O11.keep K10 (allS g7 all0)
          have O20 := O19.ext E13
          obtain ⟨vv18, _, ⟨T18, L18, k18, n18⟩, -, X18, ⟨Lc18, hQ18, l18, y18, z18⟩, st18⟩ := X13.specialBack hx (y := (⟨"com/example/amberhold/amberhold/store/DefaultPolicy", "<init>", "(ILcom/example/amberhold/amberhold/store/RetentionPolicy$Mode;)V"⟩ : MethodName)) rfl hown (mvT hZ (hw _ (List.mem_of_getElem? (i := 10) rfl))) (mvT hZ (hw _ (List.mem_of_getElem? (i := 11) rfl))) (mvT hZ (hw _ (List.mem_of_getElem? (i := 12) rfl))) (by decide) (backOf (W := 1) (rm1 l Z a0 hw [] b13 b mb h13 n0 (Nat.le_trans Z0 (Nat.le_trans (Nat.le_trans z6 z12) z14)) O20 g15 A13 F16 F17 E_mb ((by assumption) : ¬ (b < (1 : Int32))) ((by assumption) : ¬ ((146000 : Int32) < b))) hZ (hw _ (List.mem_of_getElem? (i := 12) rfl)) (hw _ (List.mem_of_getElem? (i := 9) rfl)) (by decide) (by decide)) (g := (mkF m 126 #[.val (.int x1), .val (.int y1), .val (.int m3), .val (.int a), .val (.int b), .val (.ref ma), .val (.ref mb), .val (.ref mo), .val (.ref b5), .unset, .unset, .unset, .unset, .unset, .unset] [(.ref mb), (.int b), (.ref b13), (.ref b13)])) rfl (by rw [hml]; rfl) (Steps.refl _) (a := b13) (argsL := [(.int b), (.ref mb)]) (rest := [(.ref b13)]) (lenOf pd_1 rfl) rfl (by show 2 * 0 + _ ≤ _; exact Nat.le_of_eq rfl) (hb hby at_126) (fun _ _ => ⟨rfl, e13, (by decide : 2 + 0 ≤ _), (by decide : 4 + 0 ≤ _)⟩)
          dsimp only [Pt.U, Pt.locs, Pt.cells, Pt.slots] at X18 l18 y18 z18 st18 hQ18
          subst l18 y18 z18
          obtain ⟨rfl, Nq18, K18, P18_0, P18_1, P18_2⟩ := hQ18
          have N18 := Fr.app N10 Nq18
          have z21 := K18.1
          have e18 : T18.heap = T18.heap := rfl
          refine Wp.tr (S' := T18.setTop (mkF m 129 #[.val (.int x1), .val (.int y1), .val (.int m3), .val (.int a), .val (.int b), .val (.ref ma), .val (.ref mb), .val (.ref mo), .val (.ref b5), .unset, .unset, .unset, .unset, .unset, .unset] [(.ref b13)])) st18 ?_
          refine Wp.st (S' := T18.setTop (mkF m 131 #[.val (.int x1), .val (.int y1), .val (.int m3), .val (.int a), .val (.int b), .val (.ref ma), .val (.ref mb), .val (.ref mo), .val (.ref b5), .val (.ref b13), .unset, .unset, .unset, .unset, .unset] [])) (fun tt_ kk_ => XS.astore X18.here hx rfl (hb hby at_129) rfl rfl (l' := #[.val (.int x1), .val (.int y1), .val (.int m3), .val (.int a), .val (.int b), .val (.ref ma), .val (.ref mb), .val (.ref mo), .val (.ref b5), .val (.ref b13), .unset, .unset, .unset, .unset, .unset]) rfl kk_) ?_
          obtain ⟨T22, h22, X22, e22, E22, A22, D22, U22, st22⟩ := newO X18 hx hZ hown (hw _ (List.mem_of_getElem? (i := 7) rfl)) (hw _ (List.mem_of_getElem? (i := 8) rfl)) (hw _ (List.mem_of_getElem? (i := 9) rfl)) e18 (g := (mkF m 131 #[.val (.int x1), .val (.int y1), .val (.int m3), .val (.int a), .val (.int b), .val (.ref ma), .val (.ref mb), .val (.ref mo), .val (.ref b5), .val (.ref b13), .unset, .unset, .unset, .unset, .unset] [])) rfl (hb hby at_131) (by decide) (by decide)
          obtain ⟨b22, g22⟩ : ∃ z, z = T18.heap.size := ⟨_, rfl⟩
          rw [← g22] at A22 D22 U22 st22
          have z23 := E22.1
          have g24 : n0 ≤ b22 := Nat.le_trans (Nat.le_trans Z0 (Nat.le_trans (Nat.le_trans (Nat.le_trans z6 z12) z14) z21)) (Nat.le_of_eq g22.symm)
          have F25 : Fld Z h22 b22 "com/example/amberhold/amberhold/store/DefaultPolicy" "days" "I" (.int (0 : Int32)) := D22 (Or.inr (hw _ (List.mem_of_getElem? (i := 18) rfl))) (ty := .int) (by decide)
          have F26 : Fld Z h22 b22 "com/example/amberhold/amberhold/store/DefaultPolicy" "mode" "Lcom/example/amberhold/amberhold/store/RetentionPolicy$Mode;" .null := D22 (Or.inr (hw _ (List.mem_of_getElem? (i := 26) rfl))) (ty := (.object "com/example/amberhold/amberhold/store/RetentionPolicy$Mode")) (by decide)
          refine Wp.st (S' := T22.setTop (mkF m 134 #[.val (.int x1), .val (.int y1), .val (.int m3), .val (.int a), .val (.int b), .val (.ref ma), .val (.ref mb), .val (.ref mo), .val (.ref b5), .val (.ref b13), .unset, .unset, .unset, .unset, .unset] [(.ref b22)])) st22 ?_
          refine Wp.st (S' := T22.setTop (mkF m 135 #[.val (.int x1), .val (.int y1), .val (.int m3), .val (.int a), .val (.int b), .val (.ref ma), .val (.ref mb), .val (.ref mo), .val (.ref b5), .val (.ref b13), .unset, .unset, .unset, .unset, .unset] [(.ref b22), (.ref b22)])) (fun tt_ kk_ => XS.dup X22.here hx rfl (hb hby at_134) rfl rfl kk_) ?_
          refine Wp.st (S' := T22.setTop (mkF m 137 #[.val (.int x1), .val (.int y1), .val (.int m3), .val (.int a), .val (.int b), .val (.ref ma), .val (.ref mb), .val (.ref mo), .val (.ref b5), .val (.ref b13), .unset, .unset, .unset, .unset, .unset] [(.int b), (.ref b22), (.ref b22)])) (fun tt_ kk_ => XS.iload X22.here hx rfl (hb hby at_135) rfl  kk_) ?_
          refine Wp.st (S' := T22.setTop (mkF m 139 #[.val (.int x1), .val (.int y1), .val (.int m3), .val (.int a), .val (.int b), .val (.ref ma), .val (.ref mb), .val (.ref mo), .val (.ref b5), .val (.ref b13), .unset, .unset, .unset, .unset, .unset] [(.ref mo), (.int b), (.ref b22), (.ref b22)])) (fun tt_ kk_ => XS.aload X22.here hx rfl (hb hby at_137) rfl rfl kk_) ?_
          have O28 := O20.keep K18 (allS g15 all0)
          have O29 := O28.ext E22
          obtain ⟨vv27, _, ⟨T27, L27, k27, n27⟩, -, X27, ⟨Lc27, hQ27, l27, y27, z27⟩, st27⟩ := X22.specialBack hx (y := (⟨"com/example/amberhold/amberhold/store/DefaultPolicy", "<init>", "(ILcom/example/amberhold/amberhold/store/RetentionPolicy$Mode;)V"⟩ : MethodName)) rfl hown (mvT hZ (hw _ (List.mem_of_getElem? (i := 10) rfl))) (mvT hZ (hw _ (List.mem_of_getElem? (i := 11) rfl))) (mvT hZ (hw _ (List.mem_of_getElem? (i := 12) rfl))) (by decide) (backOf (W := 1) (rm1 l Z a0 hw [] b22 b mo h22 n0 (Nat.le_trans Z0 (Nat.le_trans (Nat.le_trans (Nat.le_trans (Nat.le_trans z6 z12) z14) z21) z23)) O29 g24 A22 F25 F26 E_mo ((by assumption) : ¬ (b < (1 : Int32))) ((by assumption) : ¬ ((146000 : Int32) < b))) hZ (hw _ (List.mem_of_getElem? (i := 12) rfl)) (hw _ (List.mem_of_getElem? (i := 9) rfl)) (by decide) (by decide)) (g := (mkF m 139 #[.val (.int x1), .val (.int y1), .val (.int m3), .val (.int a), .val (.int b), .val (.ref ma), .val (.ref mb), .val (.ref mo), .val (.ref b5), .val (.ref b13), .unset, .unset, .unset, .unset, .unset] [(.ref mo), (.int b), (.ref b22), (.ref b22)])) rfl (by rw [hml]; rfl) (Steps.refl _) (a := b22) (argsL := [(.int b), (.ref mo)]) (rest := [(.ref b22)]) (lenOf pd_1 rfl) rfl (by show 2 * 0 + _ ≤ _; exact Nat.le_of_eq rfl) (hb hby at_139) (fun _ _ => ⟨rfl, e22, (by decide : 3 + 0 ≤ _), (by decide : 6 + 0 ≤ _)⟩)
          dsimp only [Pt.U, Pt.locs, Pt.cells, Pt.slots] at X27 l27 y27 z27 st27 hQ27
          subst l27 y27 z27
          obtain ⟨rfl, Nq27, K27, P27_0, P27_1, P27_2⟩ := hQ27
          have N27 := Fr.app N18 Nq27
          have z30 := K27.1
          have e27 : T27.heap = T27.heap := rfl
          refine Wp.tr (S' := T27.setTop (mkF m 142 #[.val (.int x1), .val (.int y1), .val (.int m3), .val (.int a), .val (.int b), .val (.ref ma), .val (.ref mb), .val (.ref mo), .val (.ref b5), .val (.ref b13), .unset, .unset, .unset, .unset, .unset] [(.ref b22)])) st27 ?_
          refine Wp.st (S' := T27.setTop (mkF m 144 #[.val (.int x1), .val (.int y1), .val (.int m3), .val (.int a), .val (.int b), .val (.ref ma), .val (.ref mb), .val (.ref mo), .val (.ref b5), .val (.ref b13), .val (.ref b22), .unset, .unset, .unset, .unset] [])) (fun tt_ kk_ => XS.astore X27.here hx rfl (hb hby at_142) rfl rfl (l' := #[.val (.int x1), .val (.int y1), .val (.int m3), .val (.int a), .val (.int b), .val (.ref ma), .val (.ref mb), .val (.ref mo), .val (.ref b5), .val (.ref b13), .val (.ref b22), .unset, .unset, .unset, .unset]) rfl kk_) ?_
          refine Wp.st (S' := T27.setTop (mkF m 146 #[.val (.int x1), .val (.int y1), .val (.int m3), .val (.int a), .val (.int b), .val (.ref ma), .val (.ref mb), .val (.ref mo), .val (.ref b5), .val (.ref b13), .val (.ref b22), .unset, .unset, .unset, .unset] [(.ref b5)])) (fun tt_ kk_ => XS.aload X27.here hx rfl (hb hby at_144) rfl rfl kk_) ?_
          refine Wp.st (S' := T27.setTop (mkF m 148 #[.val (.int x1), .val (.int y1), .val (.int m3), .val (.int a), .val (.int b), .val (.ref ma), .val (.ref mb), .val (.ref mo), .val (.ref b5), .val (.ref b13), .val (.ref b22), .unset, .unset, .unset, .unset] [(.ref b13), (.ref b5)])) (fun tt_ kk_ => XS.aload X27.here hx rfl (hb hby at_146) rfl rfl kk_) ?_
          have F32 := P10_1.ext E13
          have F33 := F32.keep K18 (ninS (Nat.ne_of_lt (Nat.lt_of_lt_of_le A5.lt (Nat.le_trans z12 (Nat.le_of_eq g13.symm)))) nin0)
          have F34 := F33.ext E22
          have F35 := F34.keep K27 (ninS (Nat.ne_of_lt (Nat.lt_of_lt_of_le A5.lt (Nat.le_trans (Nat.le_trans (Nat.le_trans z12 z14) z21) (Nat.le_of_eq g22.symm)))) nin0)
          have F36 := P18_1.ext E22
          have F37 := F36.keep K27 (ninS (Nat.ne_of_lt (Nat.lt_of_lt_of_le A13.lt (Nat.le_trans z21 (Nat.le_of_eq g22.symm)))) nin0)
          have F38 := P10_0.ext E13
          have F39 := F38.keep K18
          have F40 := F39.ext E22
          have F41 := F40.keep K27
          obtain ⟨cq31, kq31, q31a, q31b, q31c⟩ := isOf hZ e27 F41
          obtain ⟨vv31, _, ⟨T31, L31, k31, n31⟩, -, X31, ⟨Lc31, hQ31, l31, y31, z31⟩, st31⟩ := X27.virtualBack hx (y := (⟨"com/example/amberhold/amberhold/store/DefaultPolicy", "isShortenedBy", "(Lcom/example/amberhold/amberhold/store/DefaultPolicy;)Z"⟩ : MethodName)) (z := (⟨"com/example/amberhold/amberhold/store/DefaultPolicy", "isShortenedBy", "(Lcom/example/amberhold/amberhold/store/DefaultPolicy;)Z"⟩ : MethodName)) hown (mvT hZ (hw _ (List.mem_of_getElem? (i := 27) rfl))) (mvT hZ (hw _ (List.mem_of_getElem? (i := 28) rfl))) (notFace_of_selects (args := #[]) (mvT hZ (hw _ (List.mem_of_getElem? (i := 30) rfl)))) (mvT hZ (hw _ (List.mem_of_getElem? (i := 30) rfl))) (mvT hZ (hw _ (List.mem_of_getElem? (i := 29) rfl))) (by decide) (backOf (W := 0) (rm4 l Z a0 hw [] b5 b13 a b T27.heap n0 (Nat.le_trans Z0 (Nat.le_trans (Nat.le_trans (Nat.le_trans (Nat.le_trans (Nat.le_trans z6 z12) z14) z21) z23) z30)) F35 F37) hZ (hw _ (List.mem_of_getElem? (i := 31) rfl)) (hw _ (List.mem_of_getElem? (i := 9) rfl)) (by decide) (by decide)) q31a q31c (g := (mkF m 148 #[.val (.int x1), .val (.int y1), .val (.int m3), .val (.int a), .val (.int b), .val (.ref ma), .val (.ref mb), .val (.ref mo), .val (.ref b5), .val (.ref b13), .val (.ref b22), .unset, .unset, .unset, .unset] [(.ref b13), (.ref b5)])) rfl (by rw [hml]; rfl) (Steps.refl _) (argsL := [(.ref b13)]) (rest := []) (lenOf pd_2 rfl) rfl (by show 2 * 0 + _ ≤ _; exact Nat.le_of_eq rfl) (hb hby at_148) (fun _ _ => ⟨rfl, e27, (by decide : 3 + 0 ≤ _), (by decide : 6 + 0 ≤ _)⟩)
          dsimp only [Pt.U, Pt.locs, Pt.cells, Pt.slots] at X31 l31 y31 z31 st31 hQ31
          subst l31 y31 z31
          obtain ⟨rfl, Nq31, e31⟩ := hQ31
          have N31 := Fr.app N27 Nq31
          refine Wp.tr (S' := T31.setTop (mkF m 151 #[.val (.int x1), .val (.int y1), .val (.int m3), .val (.int a), .val (.int b), .val (.ref ma), .val (.ref mb), .val (.ref mo), .val (.ref b5), .val (.ref b13), .val (.ref b22), .unset, .unset, .unset, .unset] [(.int (if b < a then (1 : Int32) else (0 : Int32)))])) st31 ?_
          refine Wp.st (S' := T31.setTop (mkF m 153 #[.val (.int x1), .val (.int y1), .val (.int m3), .val (.int a), .val (.int b), .val (.ref ma), .val (.ref mb), .val (.ref mo), .val (.ref b5), .val (.ref b13), .val (.ref b22), .val (.int (if b < a then (1 : Int32) else (0 : Int32))), .unset, .unset, .unset] [])) (fun tt_ kk_ => XS.istore X31.here hx rfl (hb hby at_151) rfl (l' := #[.val (.int x1), .val (.int y1), .val (.int m3), .val (.int a), .val (.int b), .val (.ref ma), .val (.ref mb), .val (.ref mo), .val (.ref b5), .val (.ref b13), .val (.ref b22), .val (.int (if b < a then (1 : Int32) else (0 : Int32))), .unset, .unset, .unset]) rfl kk_) ?_
          refine Wp.st (S' := T31.setTop (mkF m 155 #[.val (.int x1), .val (.int y1), .val (.int m3), .val (.int a), .val (.int b), .val (.ref ma), .val (.ref mb), .val (.ref mo), .val (.ref b5), .val (.ref b13), .val (.ref b22), .val (.int (if b < a then (1 : Int32) else (0 : Int32))), .unset, .unset, .unset] [(.ref b5)])) (fun tt_ kk_ => XS.aload X31.here hx rfl (hb hby at_153) rfl rfl kk_) ?_
          refine Wp.st (S' := T31.setTop (mkF m 157 #[.val (.int x1), .val (.int y1), .val (.int m3), .val (.int a), .val (.int b), .val (.ref ma), .val (.ref mb), .val (.ref mo), .val (.ref b5), .val (.ref b13), .val (.ref b22), .val (.int (if b < a then (1 : Int32) else (0 : Int32))), .unset, .unset, .unset] [(.ref b22), (.ref b5)])) (fun tt_ kk_ => XS.aload X31.here hx rfl (hb hby at_155) rfl rfl kk_) ?_
          obtain ⟨cq42, kq42, q42a, q42b, q42c⟩ := isOf hZ e31 F41
          obtain ⟨vv42, _, ⟨T42, L42, k42, n42⟩, -, X42, ⟨Lc42, hQ42, l42, y42, z42⟩, st42⟩ := X31.virtualBack hx (y := (⟨"com/example/amberhold/amberhold/store/DefaultPolicy", "isShortenedBy", "(Lcom/example/amberhold/amberhold/store/DefaultPolicy;)Z"⟩ : MethodName)) (z := (⟨"com/example/amberhold/amberhold/store/DefaultPolicy", "isShortenedBy", "(Lcom/example/amberhold/amberhold/store/DefaultPolicy;)Z"⟩ : MethodName)) hown (mvT hZ (hw _ (List.mem_of_getElem? (i := 27) rfl))) (mvT hZ (hw _ (List.mem_of_getElem? (i := 28) rfl))) (notFace_of_selects (args := #[]) (mvT hZ (hw _ (List.mem_of_getElem? (i := 30) rfl)))) (mvT hZ (hw _ (List.mem_of_getElem? (i := 30) rfl))) (mvT hZ (hw _ (List.mem_of_getElem? (i := 29) rfl))) (by decide) (backOf (W := 0) (rm4 l Z a0 hw [] b5 b22 a b T27.heap n0 (Nat.le_trans Z0 (Nat.le_trans (Nat.le_trans (Nat.le_trans (Nat.le_trans (Nat.le_trans z6 z12) z14) z21) z23) z30)) F35 P27_1) hZ (hw _ (List.mem_of_getElem? (i := 31) rfl)) (hw _ (List.mem_of_getElem? (i := 9) rfl)) (by decide) (by decide)) q42a q42c (g := (mkF m 157 #[.val (.int x1), .val (.int y1), .val (.int m3), .val (.int a), .val (.int b), .val (.ref ma), .val (.ref mb), .val (.ref mo), .val (.ref b5), .val (.ref b13), .val (.ref b22), .val (.int (if b < a then (1 : Int32) else (0 : Int32))), .unset, .unset, .unset] [(.ref b22), (.ref b5)])) rfl (by rw [hml]; rfl) (Steps.refl _) (argsL := [(.ref b22)]) (rest := []) (lenOf pd_2 rfl) rfl (by show 2 * 0 + _ ≤ _; exact Nat.le_of_eq rfl) (hb hby at_157) (fun _ _ => ⟨rfl, e31, (by decide : 3 + 0 ≤ _), (by decide : 6 + 0 ≤ _)⟩)
          dsimp only [Pt.U, Pt.locs, Pt.cells, Pt.slots] at X42 l42 y42 z42 st42 hQ42
          subst l42 y42 z42
          obtain ⟨rfl, Nq42, e42⟩ := hQ42
          have N42 := Fr.app N31 Nq42
          refine Wp.tr (S' := T42.setTop (mkF m 160 #[.val (.int x1), .val (.int y1), .val (.int m3), .val (.int a), .val (.int b), .val (.ref ma), .val (.ref mb), .val (.ref mo), .val (.ref b5), .val (.ref b13), .val (.ref b22), .val (.int (if b < a then (1 : Int32) else (0 : Int32))), .unset, .unset, .unset] [(.int (if b < a then (1 : Int32) else (0 : Int32)))])) st42 ?_
          refine Wp.st (S' := T42.setTop (mkF m 162 #[.val (.int x1), .val (.int y1), .val (.int m3), .val (.int a), .val (.int b), .val (.ref ma), .val (.ref mb), .val (.ref mo), .val (.ref b5), .val (.ref b13), .val (.ref b22), .val (.int (if b < a then (1 : Int32) else (0 : Int32))), .val (.int (if b < a then (1 : Int32) else (0 : Int32))), .unset, .unset] [])) (fun tt_ kk_ => XS.istore X42.here hx rfl (hb hby at_160) rfl (l' := #[.val (.int x1), .val (.int y1), .val (.int m3), .val (.int a), .val (.int b), .val (.ref ma), .val (.ref mb), .val (.ref mo), .val (.ref b5), .val (.ref b13), .val (.ref b22), .val (.int (if b < a then (1 : Int32) else (0 : Int32))), .val (.int (if b < a then (1 : Int32) else (0 : Int32))), .unset, .unset]) rfl kk_) ?_
          refine Wp.st (S' := T42.setTop (mkF m 164 #[.val (.int x1), .val (.int y1), .val (.int m3), .val (.int a), .val (.int b), .val (.ref ma), .val (.ref mb), .val (.ref mo), .val (.ref b5), .val (.ref b13), .val (.ref b22), .val (.int (if b < a then (1 : Int32) else (0 : Int32))), .val (.int (if b < a then (1 : Int32) else (0 : Int32))), .unset, .unset] [(.ref b13)])) (fun tt_ kk_ => XS.aload X42.here hx rfl (hb hby at_162) rfl rfl kk_) ?_
          refine Wp.st (S' := T42.setTop (mkF m 166 #[.val (.int x1), .val (.int y1), .val (.int m3), .val (.int a), .val (.int b), .val (.ref ma), .val (.ref mb), .val (.ref mo), .val (.ref b5), .val (.ref b13), .val (.ref b22), .val (.int (if b < a then (1 : Int32) else (0 : Int32))), .val (.int (if b < a then (1 : Int32) else (0 : Int32))), .unset, .unset] [(.ref b5), (.ref b13)])) (fun tt_ kk_ => XS.aload X42.here hx rfl (hb hby at_164) rfl rfl kk_) ?_
          have F44 := P18_0.ext E22
          have F45 := F44.keep K27
          obtain ⟨cq43, kq43, q43a, q43b, q43c⟩ := isOf hZ e42 F45
          obtain ⟨vv43, _, ⟨T43, L43, k43, n43⟩, -, X43, ⟨Lc43, hQ43, l43, y43, z43⟩, st43⟩ := X42.virtualBack hx (y := (⟨"com/example/amberhold/amberhold/store/DefaultPolicy", "isShortenedBy", "(Lcom/example/amberhold/amberhold/store/DefaultPolicy;)Z"⟩ : MethodName)) (z := (⟨"com/example/amberhold/amberhold/store/DefaultPolicy", "isShortenedBy", "(Lcom/example/amberhold/amberhold/store/DefaultPolicy;)Z"⟩ : MethodName)) hown (mvT hZ (hw _ (List.mem_of_getElem? (i := 27) rfl))) (mvT hZ (hw _ (List.mem_of_getElem? (i := 28) rfl))) (notFace_of_selects (args := #[]) (mvT hZ (hw _ (List.mem_of_getElem? (i := 30) rfl)))) (mvT hZ (hw _ (List.mem_of_getElem? (i := 30) rfl))) (mvT hZ (hw _ (List.mem_of_getElem? (i := 29) rfl))) (by decide) (backOf (W := 0) (rm4 l Z a0 hw [] b13 b5 b a T27.heap n0 (Nat.le_trans Z0 (Nat.le_trans (Nat.le_trans (Nat.le_trans (Nat.le_trans (Nat.le_trans z6 z12) z14) z21) z23) z30)) F37 F35) hZ (hw _ (List.mem_of_getElem? (i := 31) rfl)) (hw _ (List.mem_of_getElem? (i := 9) rfl)) (by decide) (by decide)) q43a q43c (g := (mkF m 166 #[.val (.int x1), .val (.int y1), .val (.int m3), .val (.int a), .val (.int b), .val (.ref ma), .val (.ref mb), .val (.ref mo), .val (.ref b5), .val (.ref b13), .val (.ref b22), .val (.int (if b < a then (1 : Int32) else (0 : Int32))), .val (.int (if b < a then (1 : Int32) else (0 : Int32))), .unset, .unset] [(.ref b5), (.ref b13)])) rfl (by rw [hml]; rfl) (Steps.refl _) (argsL := [(.ref b5)]) (rest := []) (lenOf pd_2 rfl) rfl (by show 2 * 0 + _ ≤ _; exact Nat.le_of_eq rfl) (hb hby at_166) (fun _ _ => ⟨rfl, e42, (by decide : 3 + 0 ≤ _), (by decide : 6 + 0 ≤ _)⟩)
          dsimp only [Pt.U, Pt.locs, Pt.cells, Pt.slots] at X43 l43 y43 z43 st43 hQ43
          subst l43 y43 z43
          obtain ⟨rfl, Nq43, e43⟩ := hQ43
          have N43 := Fr.app N42 Nq43
          refine Wp.tr (S' := T43.setTop (mkF m 169 #[.val (.int x1), .val (.int y1), .val (.int m3), .val (.int a), .val (.int b), .val (.ref ma), .val (.ref mb), .val (.ref mo), .val (.ref b5), .val (.ref b13), .val (.ref b22), .val (.int (if b < a then (1 : Int32) else (0 : Int32))), .val (.int (if b < a then (1 : Int32) else (0 : Int32))), .unset, .unset] [(.int (if a < b then (1 : Int32) else (0 : Int32)))])) st43 ?_
          refine Wp.st (S' := T43.setTop (mkF m 171 #[.val (.int x1), .val (.int y1), .val (.int m3), .val (.int a), .val (.int b), .val (.ref ma), .val (.ref mb), .val (.ref mo), .val (.ref b5), .val (.ref b13), .val (.ref b22), .val (.int (if b < a then (1 : Int32) else (0 : Int32))), .val (.int (if b < a then (1 : Int32) else (0 : Int32))), .val (.int (if a < b then (1 : Int32) else (0 : Int32))), .unset] [])) (fun tt_ kk_ => XS.istore X43.here hx rfl (hb hby at_169) rfl (l' := #[.val (.int x1), .val (.int y1), .val (.int m3), .val (.int a), .val (.int b), .val (.ref ma), .val (.ref mb), .val (.ref mo), .val (.ref b5), .val (.ref b13), .val (.ref b22), .val (.int (if b < a then (1 : Int32) else (0 : Int32))), .val (.int (if b < a then (1 : Int32) else (0 : Int32))), .val (.int (if a < b then (1 : Int32) else (0 : Int32))), .unset]) rfl kk_) ?_
          refine Wp.st (S' := T43.setTop (mkF m 173 #[.val (.int x1), .val (.int y1), .val (.int m3), .val (.int a), .val (.int b), .val (.ref ma), .val (.ref mb), .val (.ref mo), .val (.ref b5), .val (.ref b13), .val (.ref b22), .val (.int (if b < a then (1 : Int32) else (0 : Int32))), .val (.int (if b < a then (1 : Int32) else (0 : Int32))), .val (.int (if a < b then (1 : Int32) else (0 : Int32))), .unset] [(.ref b5)])) (fun tt_ kk_ => XS.aload X43.here hx rfl (hb hby at_171) rfl rfl kk_) ?_
          refine Wp.st (S' := T43.setTop (mkF m 175 #[.val (.int x1), .val (.int y1), .val (.int m3), .val (.int a), .val (.int b), .val (.ref ma), .val (.ref mb), .val (.ref mo), .val (.ref b5), .val (.ref b13), .val (.ref b22), .val (.int (if b < a then (1 : Int32) else (0 : Int32))), .val (.int (if b < a then (1 : Int32) else (0 : Int32))), .val (.int (if a < b then (1 : Int32) else (0 : Int32))), .unset] [(.ref b5), (.ref b5)])) (fun tt_ kk_ => XS.aload X43.here hx rfl (hb hby at_173) rfl rfl kk_) ?_
          obtain ⟨cq46, kq46, q46a, q46b, q46c⟩ := isOf hZ e43 F41
          obtain ⟨vv46, _, ⟨T46, L46, k46, n46⟩, -, X46, ⟨Lc46, hQ46, l46, y46, z46⟩, st46⟩ := X43.virtualBack hx (y := (⟨"com/example/amberhold/amberhold/store/DefaultPolicy", "isShortenedBy", "(Lcom/example/amberhold/amberhold/store/DefaultPolicy;)Z"⟩ : MethodName)) (z := (⟨"com/example/amberhold/amberhold/store/DefaultPolicy", "isShortenedBy", "(Lcom/example/amberhold/amberhold/store/DefaultPolicy;)Z"⟩ : MethodName)) hown (mvT hZ (hw _ (List.mem_of_getElem? (i := 27) rfl))) (mvT hZ (hw _ (List.mem_of_getElem? (i := 28) rfl))) (notFace_of_selects (args := #[]) (mvT hZ (hw _ (List.mem_of_getElem? (i := 30) rfl)))) (mvT hZ (hw _ (List.mem_of_getElem? (i := 30) rfl))) (mvT hZ (hw _ (List.mem_of_getElem? (i := 29) rfl))) (by decide) (backOf (W := 0) (rm4 l Z a0 hw [] b5 b5 a a T27.heap n0 (Nat.le_trans Z0 (Nat.le_trans (Nat.le_trans (Nat.le_trans (Nat.le_trans (Nat.le_trans z6 z12) z14) z21) z23) z30)) F35 F35) hZ (hw _ (List.mem_of_getElem? (i := 31) rfl)) (hw _ (List.mem_of_getElem? (i := 9) rfl)) (by decide) (by decide)) q46a q46c (g := (mkF m 175 #[.val (.int x1), .val (.int y1), .val (.int m3), .val (.int a), .val (.int b), .val (.ref ma), .val (.ref mb), .val (.ref mo), .val (.ref b5), .val (.ref b13), .val (.ref b22), .val (.int (if b < a then (1 : Int32) else (0 : Int32))), .val (.int (if b < a then (1 : Int32) else (0 : Int32))), .val (.int (if a < b then (1 : Int32) else (0 : Int32))), .unset] [(.ref b5), (.ref b5)])) rfl (by rw [hml]; rfl) (Steps.refl _) (argsL := [(.ref b5)]) (rest := []) (lenOf pd_2 rfl) rfl (by show 2 * 0 + _ ≤ _; exact Nat.le_of_eq rfl) (hb hby at_175) (fun _ _ => ⟨rfl, e43, (by decide : 3 + 0 ≤ _), (by decide : 6 + 0 ≤ _)⟩)
          dsimp only [Pt.U, Pt.locs, Pt.cells, Pt.slots] at X46 l46 y46 z46 st46 hQ46
          subst l46 y46 z46
          obtain ⟨rfl, Nq46, e46⟩ := hQ46
          have N46 := Fr.app N43 Nq46
          refine Wp.tr (S' := T46.setTop (mkF m 178 #[.val (.int x1), .val (.int y1), .val (.int m3), .val (.int a), .val (.int b), .val (.ref ma), .val (.ref mb), .val (.ref mo), .val (.ref b5), .val (.ref b13), .val (.ref b22), .val (.int (if b < a then (1 : Int32) else (0 : Int32))), .val (.int (if b < a then (1 : Int32) else (0 : Int32))), .val (.int (if a < b then (1 : Int32) else (0 : Int32))), .unset] [(.int (if a < a then (1 : Int32) else (0 : Int32)))])) st46 ?_
          refine Wp.st (S' := T46.setTop (mkF m 180 #[.val (.int x1), .val (.int y1), .val (.int m3), .val (.int a), .val (.int b), .val (.ref ma), .val (.ref mb), .val (.ref mo), .val (.ref b5), .val (.ref b13), .val (.ref b22), .val (.int (if b < a then (1 : Int32) else (0 : Int32))), .val (.int (if b < a then (1 : Int32) else (0 : Int32))), .val (.int (if a < b then (1 : Int32) else (0 : Int32))), .val (.int (if a < a then (1 : Int32) else (0 : Int32)))] [])) (fun tt_ kk_ => XS.istore X46.here hx rfl (hb hby at_178) rfl (l' := #[.val (.int x1), .val (.int y1), .val (.int m3), .val (.int a), .val (.int b), .val (.ref ma), .val (.ref mb), .val (.ref mo), .val (.ref b5), .val (.ref b13), .val (.ref b22), .val (.int (if b < a then (1 : Int32) else (0 : Int32))), .val (.int (if b < a then (1 : Int32) else (0 : Int32))), .val (.int (if a < b then (1 : Int32) else (0 : Int32))), .val (.int (if a < a then (1 : Int32) else (0 : Int32)))]) rfl kk_) ?_
          rw [(if_neg (Int32.lt_irrefl (a := a)) : (if a < a then (1 : Int32) else (0 : Int32)) = (0 : Int32))]
          by_cases hba : b < a
          case pos =>
            rw [(if_pos hba : (if b < a then (1 : Int32) else (0 : Int32)) = (1 : Int32))]
            have hab := Int32.lt_asymm hba
            rw [(if_neg hab : (if a < b then (1 : Int32) else (0 : Int32)) = (0 : Int32))]
            refine Wp.st (S' := T46.setTop (mkF m 182 #[.val (.int x1), .val (.int y1), .val (.int m3), .val (.int a), .val (.int b), .val (.ref ma), .val (.ref mb), .val (.ref mo), .val (.ref b5), .val (.ref b13), .val (.ref b22), .val (.int (1 : Int32)), .val (.int (1 : Int32)), .val (.int (0 : Int32)), .val (.int (0 : Int32))] [(.int (1 : Int32))])) (fun tt_ kk_ => XS.iload X46.here hx rfl (hb hby at_180) rfl  kk_) ?_
            refine Wp.st (S' := T46.setTop (mkF m 184 #[.val (.int x1), .val (.int y1), .val (.int m3), .val (.int a), .val (.int b), .val (.ref ma), .val (.ref mb), .val (.ref mo), .val (.ref b5), .val (.ref b13), .val (.ref b22), .val (.int (1 : Int32)), .val (.int (1 : Int32)), .val (.int (0 : Int32)), .val (.int (0 : Int32))] [(.int b), (.int (1 : Int32))])) (fun tt_ kk_ => XS.iload X46.here hx rfl (hb hby at_182) rfl  kk_) ?_
            refine Wp.st (S' := T46.setTop (mkF m 185 #[.val (.int x1), .val (.int y1), .val (.int m3), .val (.int a), .val (.int b), .val (.ref ma), .val (.ref mb), .val (.ref mo), .val (.ref b5), .val (.ref b13), .val (.ref b22), .val (.int (1 : Int32)), .val (.int (1 : Int32)), .val (.int (0 : Int32)), .val (.int (0 : Int32))] [(.int a), (.int b), (.int (1 : Int32))])) (fun tt_ kk_ => XS.iloadN X46.here hx rfl (hb hby at_184) rfl  kk_) ?_
            refine Wp.st (S' := T46.setTop (mkF m 188 #[.val (.int x1), .val (.int y1), .val (.int m3), .val (.int a), .val (.int b), .val (.ref ma), .val (.ref mb), .val (.ref mo), .val (.ref b5), .val (.ref b13), .val (.ref b22), .val (.int (1 : Int32)), .val (.int (1 : Int32)), .val (.int (0 : Int32)), .val (.int (0 : Int32))] [(.int (1 : Int32))])) (fun tt_ kk_ => XS.icmpNo X46.here hx rfl (hb hby at_185) rfl (tlt (hba : b < a)).2.1 kk_) ?_
            refine Wp.st (S' := T46.setTop (mkF m 189 #[.val (.int x1), .val (.int y1), .val (.int m3), .val (.int a), .val (.int b), .val (.ref ma), .val (.ref mb), .val (.ref mo), .val (.ref b5), .val (.ref b13), .val (.ref b22), .val (.int (1 : Int32)), .val (.int (1 : Int32)), .val (.int (0 : Int32)), .val (.int (0 : Int32))] [(.int (1 : Int32)), (.int (1 : Int32))])) (fun tt_ kk_ => XS.iconst X46.here hx rfl (hb hby at_188) kk_) ?_
            refine Wp.st (S' := T46.setTop (mkF m 193 #[.val (.int x1), .val (.int y1), .val (.int m3), .val (.int a), .val (.int b), .val (.ref ma), .val (.ref mb), .val (.ref mo), .val (.ref b5), .val (.ref b13), .val (.ref b22), .val (.int (1 : Int32)), .val (.int (1 : Int32)), .val (.int (0 : Int32)), .val (.int (0 : Int32))] [(.int (1 : Int32)), (.int (1 : Int32))])) (fun tt_ kk_ => XS.goto X46.here hx rfl (pc0 := 189) (pc' := 193) rfl (hb hby at_189) (by decide) (by decide) kk_) ?_
            refine Wp.st (S' := T46.setTop (mkF m 196 #[.val (.int x1), .val (.int y1), .val (.int m3), .val (.int a), .val (.int b), .val (.ref ma), .val (.ref mb), .val (.ref mo), .val (.ref b5), .val (.ref b13), .val (.ref b22), .val (.int (1 : Int32)), .val (.int (1 : Int32)), .val (.int (0 : Int32)), .val (.int (0 : Int32))] [])) (fun tt_ kk_ => XS.icmpNo X46.here hx rfl (hb hby at_193) rfl (teq ((by decide) : (1 : Int32) = (1 : Int32))).2 kk_) ?_
            refine Wp.st (S' := T46.setTop (mkF m 198 #[.val (.int x1), .val (.int y1), .val (.int m3), .val (.int a), .val (.int b), .val (.ref ma), .val (.ref mb), .val (.ref mo), .val (.ref b5), .val (.ref b13), .val (.ref b22), .val (.int (1 : Int32)), .val (.int (1 : Int32)), .val (.int (0 : Int32)), .val (.int (0 : Int32))] [(.int (1 : Int32))])) (fun tt_ kk_ => XS.iload X46.here hx rfl (hb hby at_196) rfl  kk_) ?_
            refine Wp.st (S' := T46.setTop (mkF m 200 #[.val (.int x1), .val (.int y1), .val (.int m3), .val (.int a), .val (.int b), .val (.ref ma), .val (.ref mb), .val (.ref mo), .val (.ref b5), .val (.ref b13), .val (.ref b22), .val (.int (1 : Int32)), .val (.int (1 : Int32)), .val (.int (0 : Int32)), .val (.int (0 : Int32))] [(.int (1 : Int32)), (.int (1 : Int32))])) (fun tt_ kk_ => XS.iload X46.here hx rfl (hb hby at_198) rfl  kk_) ?_
            refine Wp.st (S' := T46.setTop (mkF m 203 #[.val (.int x1), .val (.int y1), .val (.int m3), .val (.int a), .val (.int b), .val (.ref ma), .val (.ref mb), .val (.ref mo), .val (.ref b5), .val (.ref b13), .val (.ref b22), .val (.int (1 : Int32)), .val (.int (1 : Int32)), .val (.int (0 : Int32)), .val (.int (0 : Int32))] [])) (fun tt_ kk_ => XS.icmpNo X46.here hx rfl (hb hby at_200) rfl (teq ((by decide) : (1 : Int32) = (1 : Int32))).2 kk_) ?_
            refine Wp.st (S' := T46.setTop (mkF m 205 #[.val (.int x1), .val (.int y1), .val (.int m3), .val (.int a), .val (.int b), .val (.ref ma), .val (.ref mb), .val (.ref mo), .val (.ref b5), .val (.ref b13), .val (.ref b22), .val (.int (1 : Int32)), .val (.int (1 : Int32)), .val (.int (0 : Int32)), .val (.int (0 : Int32))] [(.int (0 : Int32))])) (fun tt_ kk_ => XS.iload X46.here hx rfl (hb hby at_203) rfl  kk_) ?_
            refine Wp.st (S' := T46.setTop (mkF m 206 #[.val (.int x1), .val (.int y1), .val (.int m3), .val (.int a), .val (.int b), .val (.ref ma), .val (.ref mb), .val (.ref mo), .val (.ref b5), .val (.ref b13), .val (.ref b22), .val (.int (1 : Int32)), .val (.int (1 : Int32)), .val (.int (0 : Int32)), .val (.int (0 : Int32))] [(.int a), (.int (0 : Int32))])) (fun tt_ kk_ => XS.iloadN X46.here hx rfl (hb hby at_205) rfl  kk_) ?_
            refine Wp.st (S' := T46.setTop (mkF m 208 #[.val (.int x1), .val (.int y1), .val (.int m3), .val (.int a), .val (.int b), .val (.ref ma), .val (.ref mb), .val (.ref mo), .val (.ref b5), .val (.ref b13), .val (.ref b22), .val (.int (1 : Int32)), .val (.int (1 : Int32)), .val (.int (0 : Int32)), .val (.int (0 : Int32))] [(.int b), (.int a), (.int (0 : Int32))])) (fun tt_ kk_ => XS.iload X46.here hx rfl (hb hby at_206) rfl  kk_) ?_
            refine Wp.st (S' := T46.setTop (mkF m 215 #[.val (.int x1), .val (.int y1), .val (.int m3), .val (.int a), .val (.int b), .val (.ref ma), .val (.ref mb), .val (.ref mo), .val (.ref b5), .val (.ref b13), .val (.ref b22), .val (.int (1 : Int32)), .val (.int (1 : Int32)), .val (.int (0 : Int32)), .val (.int (0 : Int32))] [(.int (0 : Int32))])) (fun tt_ kk_ => XS.icmpYes X46.here hx rfl (pc0 := 208) (pc' := 215) rfl (hb hby at_208) rfl (flt (hab : ¬ (a < b))).2.1 (by decide) (by decide) kk_) ?_
            refine Wp.st (S' := T46.setTop (mkF m 216 #[.val (.int x1), .val (.int y1), .val (.int m3), .val (.int a), .val (.int b), .val (.ref ma), .val (.ref mb), .val (.ref mo), .val (.ref b5), .val (.ref b13), .val (.ref b22), .val (.int (1 : Int32)), .val (.int (1 : Int32)), .val (.int (0 : Int32)), .val (.int (0 : Int32))] [(.int (0 : Int32)), (.int (0 : Int32))])) (fun tt_ kk_ => XS.iconst X46.here hx rfl (hb hby at_215) kk_) ?_
            refine Wp.st (S' := T46.setTop (mkF m 219 #[.val (.int x1), .val (.int y1), .val (.int m3), .val (.int a), .val (.int b), .val (.ref ma), .val (.ref mb), .val (.ref mo), .val (.ref b5), .val (.ref b13), .val (.ref b22), .val (.int (1 : Int32)), .val (.int (1 : Int32)), .val (.int (0 : Int32)), .val (.int (0 : Int32))] [])) (fun tt_ kk_ => XS.icmpNo X46.here hx rfl (hb hby at_216) rfl (teq ((by decide) : (0 : Int32) = (0 : Int32))).2 kk_) ?_
            refine Wp.st (S' := T46.setTop (mkF m 221 #[.val (.int x1), .val (.int y1), .val (.int m3), .val (.int a), .val (.int b), .val (.ref ma), .val (.ref mb), .val (.ref mo), .val (.ref b5), .val (.ref b13), .val (.ref b22), .val (.int (1 : Int32)), .val (.int (1 : Int32)), .val (.int (0 : Int32)), .val (.int (0 : Int32))] [(.int (0 : Int32))])) (fun tt_ kk_ => XS.iload X46.here hx rfl (hb hby at_219) rfl  kk_) ?_
            refine Wp.st (S' := T46.setTop (mkF m 224 #[.val (.int x1), .val (.int y1), .val (.int m3), .val (.int a), .val (.int b), .val (.ref ma), .val (.ref mb), .val (.ref mo), .val (.ref b5), .val (.ref b13), .val (.ref b22), .val (.int (1 : Int32)), .val (.int (1 : Int32)), .val (.int (0 : Int32)), .val (.int (0 : Int32))] [])) (fun tt_ kk_ => XS.ifNo X46.here hx rfl (hb hby at_221) rfl ((if0 _ _).trans (teq ((by decide) : (0 : Int32) = (0 : Int32))).2) kk_) ?_
            refine Wp.st (S' := T46.setTop (mkF m 225 #[.val (.int x1), .val (.int y1), .val (.int m3), .val (.int a), .val (.int b), .val (.ref ma), .val (.ref mb), .val (.ref mo), .val (.ref b5), .val (.ref b13), .val (.ref b22), .val (.int (1 : Int32)), .val (.int (1 : Int32)), .val (.int (0 : Int32)), .val (.int (0 : Int32))] [(.int (1 : Int32))])) (fun tt_ kk_ => XS.iconst X46.here hx rfl (hb hby at_224) kk_) ?_
            refine Wp.st (S' := T46.setTop (mkF m 229 #[.val (.int x1), .val (.int y1), .val (.int m3), .val (.int a), .val (.int b), .val (.ref ma), .val (.ref mb), .val (.ref mo), .val (.ref b5), .val (.ref b13), .val (.ref b22), .val (.int (1 : Int32)), .val (.int (1 : Int32)), .val (.int (0 : Int32)), .val (.int (0 : Int32))] [(.int (1 : Int32))])) (fun tt_ kk_ => XS.goto X46.here hx rfl (pc0 := 225) (pc' := 229) rfl (hb hby at_225) (by decide) (by decide) kk_) ?_
            have K47 := Keep.refl h0 []
            have K48 := K47.ext E5
            have K49 := K48.trans K10 (allS (Or.inr (Nat.le_trans (Nat.le_refl _) (Nat.le_of_eq g5.symm))) all0)
            have K50 := K49.ext E13
            have K51 := K50.trans K18 (allS (Or.inr (Nat.le_trans (Nat.le_trans z6 z12) (Nat.le_of_eq g13.symm))) all0)
            have K52 := K51.ext E22
            have K53 := K52.trans K27 (allS (Or.inr (Nat.le_trans (Nat.le_trans (Nat.le_trans (Nat.le_trans z6 z12) z14) z21) (Nat.le_of_eq g22.symm))) all0)
            exact Wp.ret X46 hlk (v := (some (.int (1 : Int32)))) (fun h => by rw [Bd.returns] at h; cases h) (fun fs hr => retN (z := (1 : Int32)) X46 hx (t := .boolean) Bd.returns (by simp) (hb hby at_229) hr) (by decide) (by decide) (show Q_rm0 Z x1 y1 m3 w_UNLOCKED w_LOCKED h0 n0 _ T46.heap _ by rw [e46]; exact ⟨rfl, N46, K53⟩)
          case neg =>
            rw [(if_neg hba : (if b < a then (1 : Int32) else (0 : Int32)) = (0 : Int32))]
            by_cases hab : a < b
            case pos =>
              rw [(if_pos hab : (if a < b then (1 : Int32) else (0 : Int32)) = (1 : Int32))]
              refine Wp.st (S' := T46.setTop (mkF m 182 #[.val (.int x1), .val (.int y1), .val (.int m3), .val (.int a), .val (.int b), .val (.ref ma), .val (.ref mb), .val (.ref mo), .val (.ref b5), .val (.ref b13), .val (.ref b22), .val (.int (0 : Int32)), .val (.int (0 : Int32)), .val (.int (1 : Int32)), .val (.int (0 : Int32))] [(.int (0 : Int32))])) (fun tt_ kk_ => XS.iload X46.here hx rfl (hb hby at_180) rfl  kk_) ?_
              refine Wp.st (S' := T46.setTop (mkF m 184 #[.val (.int x1), .val (.int y1), .val (.int m3), .val (.int a), .val (.int b), .val (.ref ma), .val (.ref mb), .val (.ref mo), .val (.ref b5), .val (.ref b13), .val (.ref b22), .val (.int (0 : Int32)), .val (.int (0 : Int32)), .val (.int (1 : Int32)), .val (.int (0 : Int32))] [(.int b), (.int (0 : Int32))])) (fun tt_ kk_ => XS.iload X46.here hx rfl (hb hby at_182) rfl  kk_) ?_
              refine Wp.st (S' := T46.setTop (mkF m 185 #[.val (.int x1), .val (.int y1), .val (.int m3), .val (.int a), .val (.int b), .val (.ref ma), .val (.ref mb), .val (.ref mo), .val (.ref b5), .val (.ref b13), .val (.ref b22), .val (.int (0 : Int32)), .val (.int (0 : Int32)), .val (.int (1 : Int32)), .val (.int (0 : Int32))] [(.int a), (.int b), (.int (0 : Int32))])) (fun tt_ kk_ => XS.iloadN X46.here hx rfl (hb hby at_184) rfl  kk_) ?_
              refine Wp.st (S' := T46.setTop (mkF m 192 #[.val (.int x1), .val (.int y1), .val (.int m3), .val (.int a), .val (.int b), .val (.ref ma), .val (.ref mb), .val (.ref mo), .val (.ref b5), .val (.ref b13), .val (.ref b22), .val (.int (0 : Int32)), .val (.int (0 : Int32)), .val (.int (1 : Int32)), .val (.int (0 : Int32))] [(.int (0 : Int32))])) (fun tt_ kk_ => XS.icmpYes X46.here hx rfl (pc0 := 185) (pc' := 192) rfl (hb hby at_185) rfl (flt (hba : ¬ (b < a))).2.1 (by decide) (by decide) kk_) ?_
              refine Wp.st (S' := T46.setTop (mkF m 193 #[.val (.int x1), .val (.int y1), .val (.int m3), .val (.int a), .val (.int b), .val (.ref ma), .val (.ref mb), .val (.ref mo), .val (.ref b5), .val (.ref b13), .val (.ref b22), .val (.int (0 : Int32)), .val (.int (0 : Int32)), .val (.int (1 : Int32)), .val (.int (0 : Int32))] [(.int (0 : Int32)), (.int (0 : Int32))])) (fun tt_ kk_ => XS.iconst X46.here hx rfl (hb hby at_192) kk_) ?_
              refine Wp.st (S' := T46.setTop (mkF m 196 #[.val (.int x1), .val (.int y1), .val (.int m3), .val (.int a), .val (.int b), .val (.ref ma), .val (.ref mb), .val (.ref mo), .val (.ref b5), .val (.ref b13), .val (.ref b22), .val (.int (0 : Int32)), .val (.int (0 : Int32)), .val (.int (1 : Int32)), .val (.int (0 : Int32))] [])) (fun tt_ kk_ => XS.icmpNo X46.here hx rfl (hb hby at_193) rfl (teq ((by decide) : (0 : Int32) = (0 : Int32))).2 kk_) ?_
              refine Wp.st (S' := T46.setTop (mkF m 198 #[.val (.int x1), .val (.int y1), .val (.int m3), .val (.int a), .val (.int b), .val (.ref ma), .val (.ref mb), .val (.ref mo), .val (.ref b5), .val (.ref b13), .val (.ref b22), .val (.int (0 : Int32)), .val (.int (0 : Int32)), .val (.int (1 : Int32)), .val (.int (0 : Int32))] [(.int (0 : Int32))])) (fun tt_ kk_ => XS.iload X46.here hx rfl (hb hby at_196) rfl  kk_) ?_
              refine Wp.st (S' := T46.setTop (mkF m 200 #[.val (.int x1), .val (.int y1), .val (.int m3), .val (.int a), .val (.int b), .val (.ref ma), .val (.ref mb), .val (.ref mo), .val (.ref b5), .val (.ref b13), .val (.ref b22), .val (.int (0 : Int32)), .val (.int (0 : Int32)), .val (.int (1 : Int32)), .val (.int (0 : Int32))] [(.int (0 : Int32)), (.int (0 : Int32))])) (fun tt_ kk_ => XS.iload X46.here hx rfl (hb hby at_198) rfl  kk_) ?_
              refine Wp.st (S' := T46.setTop (mkF m 203 #[.val (.int x1), .val (.int y1), .val (.int m3), .val (.int a), .val (.int b), .val (.ref ma), .val (.ref mb), .val (.ref mo), .val (.ref b5), .val (.ref b13), .val (.ref b22), .val (.int (0 : Int32)), .val (.int (0 : Int32)), .val (.int (1 : Int32)), .val (.int (0 : Int32))] [])) (fun tt_ kk_ => XS.icmpNo X46.here hx rfl (hb hby at_200) rfl (teq ((by decide) : (0 : Int32) = (0 : Int32))).2 kk_) ?_
              refine Wp.st (S' := T46.setTop (mkF m 205 #[.val (.int x1), .val (.int y1), .val (.int m3), .val (.int a), .val (.int b), .val (.ref ma), .val (.ref mb), .val (.ref mo), .val (.ref b5), .val (.ref b13), .val (.ref b22), .val (.int (0 : Int32)), .val (.int (0 : Int32)), .val (.int (1 : Int32)), .val (.int (0 : Int32))] [(.int (1 : Int32))])) (fun tt_ kk_ => XS.iload X46.here hx rfl (hb hby at_203) rfl  kk_) ?_
              refine Wp.st (S' := T46.setTop (mkF m 206 #[.val (.int x1), .val (.int y1), .val (.int m3), .val (.int a), .val (.int b), .val (.ref ma), .val (.ref mb), .val (.ref mo), .val (.ref b5), .val (.ref b13), .val (.ref b22), .val (.int (0 : Int32)), .val (.int (0 : Int32)), .val (.int (1 : Int32)), .val (.int (0 : Int32))] [(.int a), (.int (1 : Int32))])) (fun tt_ kk_ => XS.iloadN X46.here hx rfl (hb hby at_205) rfl  kk_) ?_
              refine Wp.st (S' := T46.setTop (mkF m 208 #[.val (.int x1), .val (.int y1), .val (.int m3), .val (.int a), .val (.int b), .val (.ref ma), .val (.ref mb), .val (.ref mo), .val (.ref b5), .val (.ref b13), .val (.ref b22), .val (.int (0 : Int32)), .val (.int (0 : Int32)), .val (.int (1 : Int32)), .val (.int (0 : Int32))] [(.int b), (.int a), (.int (1 : Int32))])) (fun tt_ kk_ => XS.iload X46.here hx rfl (hb hby at_206) rfl  kk_) ?_
              refine Wp.st (S' := T46.setTop (mkF m 211 #[.val (.int x1), .val (.int y1), .val (.int m3), .val (.int a), .val (.int b), .val (.ref ma), .val (.ref mb), .val (.ref mo), .val (.ref b5), .val (.ref b13), .val (.ref b22), .val (.int (0 : Int32)), .val (.int (0 : Int32)), .val (.int (1 : Int32)), .val (.int (0 : Int32))] [(.int (1 : Int32))])) (fun tt_ kk_ => XS.icmpNo X46.here hx rfl (hb hby at_208) rfl (tlt (hab : a < b)).2.1 kk_) ?_
              refine Wp.st (S' := T46.setTop (mkF m 212 #[.val (.int x1), .val (.int y1), .val (.int m3), .val (.int a), .val (.int b), .val (.ref ma), .val (.ref mb), .val (.ref mo), .val (.ref b5), .val (.ref b13), .val (.ref b22), .val (.int (0 : Int32)), .val (.int (0 : Int32)), .val (.int (1 : Int32)), .val (.int (0 : Int32))] [(.int (1 : Int32)), (.int (1 : Int32))])) (fun tt_ kk_ => XS.iconst X46.here hx rfl (hb hby at_211) kk_) ?_
              refine Wp.st (S' := T46.setTop (mkF m 216 #[.val (.int x1), .val (.int y1), .val (.int m3), .val (.int a), .val (.int b), .val (.ref ma), .val (.ref mb), .val (.ref mo), .val (.ref b5), .val (.ref b13), .val (.ref b22), .val (.int (0 : Int32)), .val (.int (0 : Int32)), .val (.int (1 : Int32)), .val (.int (0 : Int32))] [(.int (1 : Int32)), (.int (1 : Int32))])) (fun tt_ kk_ => XS.goto X46.here hx rfl (pc0 := 212) (pc' := 216) rfl (hb hby at_212) (by decide) (by decide) kk_) ?_
              refine Wp.st (S' := T46.setTop (mkF m 219 #[.val (.int x1), .val (.int y1), .val (.int m3), .val (.int a), .val (.int b), .val (.ref ma), .val (.ref mb), .val (.ref mo), .val (.ref b5), .val (.ref b13), .val (.ref b22), .val (.int (0 : Int32)), .val (.int (0 : Int32)), .val (.int (1 : Int32)), .val (.int (0 : Int32))] [])) (fun tt_ kk_ => XS.icmpNo X46.here hx rfl (hb hby at_216) rfl (teq ((by decide) : (1 : Int32) = (1 : Int32))).2 kk_) ?_
              refine Wp.st (S' := T46.setTop (mkF m 221 #[.val (.int x1), .val (.int y1), .val (.int m3), .val (.int a), .val (.int b), .val (.ref ma), .val (.ref mb), .val (.ref mo), .val (.ref b5), .val (.ref b13), .val (.ref b22), .val (.int (0 : Int32)), .val (.int (0 : Int32)), .val (.int (1 : Int32)), .val (.int (0 : Int32))] [(.int (0 : Int32))])) (fun tt_ kk_ => XS.iload X46.here hx rfl (hb hby at_219) rfl  kk_) ?_
              refine Wp.st (S' := T46.setTop (mkF m 224 #[.val (.int x1), .val (.int y1), .val (.int m3), .val (.int a), .val (.int b), .val (.ref ma), .val (.ref mb), .val (.ref mo), .val (.ref b5), .val (.ref b13), .val (.ref b22), .val (.int (0 : Int32)), .val (.int (0 : Int32)), .val (.int (1 : Int32)), .val (.int (0 : Int32))] [])) (fun tt_ kk_ => XS.ifNo X46.here hx rfl (hb hby at_221) rfl ((if0 _ _).trans (teq ((by decide) : (0 : Int32) = (0 : Int32))).2) kk_) ?_
              refine Wp.st (S' := T46.setTop (mkF m 225 #[.val (.int x1), .val (.int y1), .val (.int m3), .val (.int a), .val (.int b), .val (.ref ma), .val (.ref mb), .val (.ref mo), .val (.ref b5), .val (.ref b13), .val (.ref b22), .val (.int (0 : Int32)), .val (.int (0 : Int32)), .val (.int (1 : Int32)), .val (.int (0 : Int32))] [(.int (1 : Int32))])) (fun tt_ kk_ => XS.iconst X46.here hx rfl (hb hby at_224) kk_) ?_
              refine Wp.st (S' := T46.setTop (mkF m 229 #[.val (.int x1), .val (.int y1), .val (.int m3), .val (.int a), .val (.int b), .val (.ref ma), .val (.ref mb), .val (.ref mo), .val (.ref b5), .val (.ref b13), .val (.ref b22), .val (.int (0 : Int32)), .val (.int (0 : Int32)), .val (.int (1 : Int32)), .val (.int (0 : Int32))] [(.int (1 : Int32))])) (fun tt_ kk_ => XS.goto X46.here hx rfl (pc0 := 225) (pc' := 229) rfl (hb hby at_225) (by decide) (by decide) kk_) ?_
              have K54 := Keep.refl h0 []
              have K55 := K54.ext E5
              have K56 := K55.trans K10 (allS (Or.inr (Nat.le_trans (Nat.le_refl _) (Nat.le_of_eq g5.symm))) all0)
              have K57 := K56.ext E13
              have K58 := K57.trans K18 (allS (Or.inr (Nat.le_trans (Nat.le_trans z6 z12) (Nat.le_of_eq g13.symm))) all0)
              have K59 := K58.ext E22
              have K60 := K59.trans K27 (allS (Or.inr (Nat.le_trans (Nat.le_trans (Nat.le_trans (Nat.le_trans z6 z12) z14) z21) (Nat.le_of_eq g22.symm))) all0)
              exact Wp.ret X46 hlk (v := (some (.int (1 : Int32)))) (fun h => by rw [Bd.returns] at h; cases h) (fun fs hr => retN (z := (1 : Int32)) X46 hx (t := .boolean) Bd.returns (by simp) (hb hby at_229) hr) (by decide) (by decide) (show Q_rm0 Z x1 y1 m3 w_UNLOCKED w_LOCKED h0 n0 _ T46.heap _ by rw [e46]; exact ⟨rfl, N46, K60⟩)
            case neg =>
              rw [(if_neg hab : (if a < b then (1 : Int32) else (0 : Int32)) = (0 : Int32))]
              refine Wp.st (S' := T46.setTop (mkF m 182 #[.val (.int x1), .val (.int y1), .val (.int m3), .val (.int a), .val (.int b), .val (.ref ma), .val (.ref mb), .val (.ref mo), .val (.ref b5), .val (.ref b13), .val (.ref b22), .val (.int (0 : Int32)), .val (.int (0 : Int32)), .val (.int (0 : Int32)), .val (.int (0 : Int32))] [(.int (0 : Int32))])) (fun tt_ kk_ => XS.iload X46.here hx rfl (hb hby at_180) rfl  kk_) ?_
              refine Wp.st (S' := T46.setTop (mkF m 184 #[.val (.int x1), .val (.int y1), .val (.int m3), .val (.int a), .val (.int b), .val (.ref ma), .val (.ref mb), .val (.ref mo), .val (.ref b5), .val (.ref b13), .val (.ref b22), .val (.int (0 : Int32)), .val (.int (0 : Int32)), .val (.int (0 : Int32)), .val (.int (0 : Int32))] [(.int b), (.int (0 : Int32))])) (fun tt_ kk_ => XS.iload X46.here hx rfl (hb hby at_182) rfl  kk_) ?_
              refine Wp.st (S' := T46.setTop (mkF m 185 #[.val (.int x1), .val (.int y1), .val (.int m3), .val (.int a), .val (.int b), .val (.ref ma), .val (.ref mb), .val (.ref mo), .val (.ref b5), .val (.ref b13), .val (.ref b22), .val (.int (0 : Int32)), .val (.int (0 : Int32)), .val (.int (0 : Int32)), .val (.int (0 : Int32))] [(.int a), (.int b), (.int (0 : Int32))])) (fun tt_ kk_ => XS.iloadN X46.here hx rfl (hb hby at_184) rfl  kk_) ?_
              refine Wp.st (S' := T46.setTop (mkF m 192 #[.val (.int x1), .val (.int y1), .val (.int m3), .val (.int a), .val (.int b), .val (.ref ma), .val (.ref mb), .val (.ref mo), .val (.ref b5), .val (.ref b13), .val (.ref b22), .val (.int (0 : Int32)), .val (.int (0 : Int32)), .val (.int (0 : Int32)), .val (.int (0 : Int32))] [(.int (0 : Int32))])) (fun tt_ kk_ => XS.icmpYes X46.here hx rfl (pc0 := 185) (pc' := 192) rfl (hb hby at_185) rfl (flt (hba : ¬ (b < a))).2.1 (by decide) (by decide) kk_) ?_
              refine Wp.st (S' := T46.setTop (mkF m 193 #[.val (.int x1), .val (.int y1), .val (.int m3), .val (.int a), .val (.int b), .val (.ref ma), .val (.ref mb), .val (.ref mo), .val (.ref b5), .val (.ref b13), .val (.ref b22), .val (.int (0 : Int32)), .val (.int (0 : Int32)), .val (.int (0 : Int32)), .val (.int (0 : Int32))] [(.int (0 : Int32)), (.int (0 : Int32))])) (fun tt_ kk_ => XS.iconst X46.here hx rfl (hb hby at_192) kk_) ?_
              refine Wp.st (S' := T46.setTop (mkF m 196 #[.val (.int x1), .val (.int y1), .val (.int m3), .val (.int a), .val (.int b), .val (.ref ma), .val (.ref mb), .val (.ref mo), .val (.ref b5), .val (.ref b13), .val (.ref b22), .val (.int (0 : Int32)), .val (.int (0 : Int32)), .val (.int (0 : Int32)), .val (.int (0 : Int32))] [])) (fun tt_ kk_ => XS.icmpNo X46.here hx rfl (hb hby at_193) rfl (teq ((by decide) : (0 : Int32) = (0 : Int32))).2 kk_) ?_
              refine Wp.st (S' := T46.setTop (mkF m 198 #[.val (.int x1), .val (.int y1), .val (.int m3), .val (.int a), .val (.int b), .val (.ref ma), .val (.ref mb), .val (.ref mo), .val (.ref b5), .val (.ref b13), .val (.ref b22), .val (.int (0 : Int32)), .val (.int (0 : Int32)), .val (.int (0 : Int32)), .val (.int (0 : Int32))] [(.int (0 : Int32))])) (fun tt_ kk_ => XS.iload X46.here hx rfl (hb hby at_196) rfl  kk_) ?_
              refine Wp.st (S' := T46.setTop (mkF m 200 #[.val (.int x1), .val (.int y1), .val (.int m3), .val (.int a), .val (.int b), .val (.ref ma), .val (.ref mb), .val (.ref mo), .val (.ref b5), .val (.ref b13), .val (.ref b22), .val (.int (0 : Int32)), .val (.int (0 : Int32)), .val (.int (0 : Int32)), .val (.int (0 : Int32))] [(.int (0 : Int32)), (.int (0 : Int32))])) (fun tt_ kk_ => XS.iload X46.here hx rfl (hb hby at_198) rfl  kk_) ?_
              refine Wp.st (S' := T46.setTop (mkF m 203 #[.val (.int x1), .val (.int y1), .val (.int m3), .val (.int a), .val (.int b), .val (.ref ma), .val (.ref mb), .val (.ref mo), .val (.ref b5), .val (.ref b13), .val (.ref b22), .val (.int (0 : Int32)), .val (.int (0 : Int32)), .val (.int (0 : Int32)), .val (.int (0 : Int32))] [])) (fun tt_ kk_ => XS.icmpNo X46.here hx rfl (hb hby at_200) rfl (teq ((by decide) : (0 : Int32) = (0 : Int32))).2 kk_) ?_
              refine Wp.st (S' := T46.setTop (mkF m 205 #[.val (.int x1), .val (.int y1), .val (.int m3), .val (.int a), .val (.int b), .val (.ref ma), .val (.ref mb), .val (.ref mo), .val (.ref b5), .val (.ref b13), .val (.ref b22), .val (.int (0 : Int32)), .val (.int (0 : Int32)), .val (.int (0 : Int32)), .val (.int (0 : Int32))] [(.int (0 : Int32))])) (fun tt_ kk_ => XS.iload X46.here hx rfl (hb hby at_203) rfl  kk_) ?_
              refine Wp.st (S' := T46.setTop (mkF m 206 #[.val (.int x1), .val (.int y1), .val (.int m3), .val (.int a), .val (.int b), .val (.ref ma), .val (.ref mb), .val (.ref mo), .val (.ref b5), .val (.ref b13), .val (.ref b22), .val (.int (0 : Int32)), .val (.int (0 : Int32)), .val (.int (0 : Int32)), .val (.int (0 : Int32))] [(.int a), (.int (0 : Int32))])) (fun tt_ kk_ => XS.iloadN X46.here hx rfl (hb hby at_205) rfl  kk_) ?_
              refine Wp.st (S' := T46.setTop (mkF m 208 #[.val (.int x1), .val (.int y1), .val (.int m3), .val (.int a), .val (.int b), .val (.ref ma), .val (.ref mb), .val (.ref mo), .val (.ref b5), .val (.ref b13), .val (.ref b22), .val (.int (0 : Int32)), .val (.int (0 : Int32)), .val (.int (0 : Int32)), .val (.int (0 : Int32))] [(.int b), (.int a), (.int (0 : Int32))])) (fun tt_ kk_ => XS.iload X46.here hx rfl (hb hby at_206) rfl  kk_) ?_
              refine Wp.st (S' := T46.setTop (mkF m 215 #[.val (.int x1), .val (.int y1), .val (.int m3), .val (.int a), .val (.int b), .val (.ref ma), .val (.ref mb), .val (.ref mo), .val (.ref b5), .val (.ref b13), .val (.ref b22), .val (.int (0 : Int32)), .val (.int (0 : Int32)), .val (.int (0 : Int32)), .val (.int (0 : Int32))] [(.int (0 : Int32))])) (fun tt_ kk_ => XS.icmpYes X46.here hx rfl (pc0 := 208) (pc' := 215) rfl (hb hby at_208) rfl (flt (hab : ¬ (a < b))).2.1 (by decide) (by decide) kk_) ?_
              refine Wp.st (S' := T46.setTop (mkF m 216 #[.val (.int x1), .val (.int y1), .val (.int m3), .val (.int a), .val (.int b), .val (.ref ma), .val (.ref mb), .val (.ref mo), .val (.ref b5), .val (.ref b13), .val (.ref b22), .val (.int (0 : Int32)), .val (.int (0 : Int32)), .val (.int (0 : Int32)), .val (.int (0 : Int32))] [(.int (0 : Int32)), (.int (0 : Int32))])) (fun tt_ kk_ => XS.iconst X46.here hx rfl (hb hby at_215) kk_) ?_
              refine Wp.st (S' := T46.setTop (mkF m 219 #[.val (.int x1), .val (.int y1), .val (.int m3), .val (.int a), .val (.int b), .val (.ref ma), .val (.ref mb), .val (.ref mo), .val (.ref b5), .val (.ref b13), .val (.ref b22), .val (.int (0 : Int32)), .val (.int (0 : Int32)), .val (.int (0 : Int32)), .val (.int (0 : Int32))] [])) (fun tt_ kk_ => XS.icmpNo X46.here hx rfl (hb hby at_216) rfl (teq ((by decide) : (0 : Int32) = (0 : Int32))).2 kk_) ?_
              refine Wp.st (S' := T46.setTop (mkF m 221 #[.val (.int x1), .val (.int y1), .val (.int m3), .val (.int a), .val (.int b), .val (.ref ma), .val (.ref mb), .val (.ref mo), .val (.ref b5), .val (.ref b13), .val (.ref b22), .val (.int (0 : Int32)), .val (.int (0 : Int32)), .val (.int (0 : Int32)), .val (.int (0 : Int32))] [(.int (0 : Int32))])) (fun tt_ kk_ => XS.iload X46.here hx rfl (hb hby at_219) rfl  kk_) ?_
              refine Wp.st (S' := T46.setTop (mkF m 224 #[.val (.int x1), .val (.int y1), .val (.int m3), .val (.int a), .val (.int b), .val (.ref ma), .val (.ref mb), .val (.ref mo), .val (.ref b5), .val (.ref b13), .val (.ref b22), .val (.int (0 : Int32)), .val (.int (0 : Int32)), .val (.int (0 : Int32)), .val (.int (0 : Int32))] [])) (fun tt_ kk_ => XS.ifNo X46.here hx rfl (hb hby at_221) rfl ((if0 _ _).trans (teq ((by decide) : (0 : Int32) = (0 : Int32))).2) kk_) ?_
              refine Wp.st (S' := T46.setTop (mkF m 225 #[.val (.int x1), .val (.int y1), .val (.int m3), .val (.int a), .val (.int b), .val (.ref ma), .val (.ref mb), .val (.ref mo), .val (.ref b5), .val (.ref b13), .val (.ref b22), .val (.int (0 : Int32)), .val (.int (0 : Int32)), .val (.int (0 : Int32)), .val (.int (0 : Int32))] [(.int (1 : Int32))])) (fun tt_ kk_ => XS.iconst X46.here hx rfl (hb hby at_224) kk_) ?_
              refine Wp.st (S' := T46.setTop (mkF m 229 #[.val (.int x1), .val (.int y1), .val (.int m3), .val (.int a), .val (.int b), .val (.ref ma), .val (.ref mb), .val (.ref mo), .val (.ref b5), .val (.ref b13), .val (.ref b22), .val (.int (0 : Int32)), .val (.int (0 : Int32)), .val (.int (0 : Int32)), .val (.int (0 : Int32))] [(.int (1 : Int32))])) (fun tt_ kk_ => XS.goto X46.here hx rfl (pc0 := 225) (pc' := 229) rfl (hb hby at_225) (by decide) (by decide) kk_) ?_
              have K61 := Keep.refl h0 []
              have K62 := K61.ext E5
              have K63 := K62.trans K10 (allS (Or.inr (Nat.le_trans (Nat.le_refl _) (Nat.le_of_eq g5.symm))) all0)
              have K64 := K63.ext E13
              have K65 := K64.trans K18 (allS (Or.inr (Nat.le_trans (Nat.le_trans z6 z12) (Nat.le_of_eq g13.symm))) all0)
              have K66 := K65.ext E22
              have K67 := K66.trans K27 (allS (Or.inr (Nat.le_trans (Nat.le_trans (Nat.le_trans (Nat.le_trans z6 z12) z14) z21) (Nat.le_of_eq g22.symm))) all0)
              exact Wp.ret X46 hlk (v := (some (.int (1 : Int32)))) (fun h => by rw [Bd.returns] at h; cases h) (fun fs hr => retN (z := (1 : Int32)) X46 hx (t := .boolean) Bd.returns (by simp) (hb hby at_229) hr) (by decide) (by decide) (show Q_rm0 Z x1 y1 m3 w_UNLOCKED w_LOCKED h0 n0 _ T46.heap _ by rw [e46]; exact ⟨rfl, N46, K67⟩)
        refine Wp.st (S' := TJ3.setTop (mkF m 90 #[.val (.int x1), .val (.int y1), .val (.int m3), .val (.int a), .val (.int b), .val (.ref ma), .val (.ref mb), .unset, .unset, .unset, .unset, .unset, .unset, .unset, .unset] [(.int m3)])) (fun tt_ kk_ => XS.iloadN XJ3.here hx rfl (hb hby at_89) rfl  kk_) ?_
        refine Wp.st (S' := TJ3.setTop (mkF m 91 #[.val (.int x1), .val (.int y1), .val (.int m3), .val (.int a), .val (.int b), .val (.ref ma), .val (.ref mb), .unset, .unset, .unset, .unset, .unset, .unset, .unset, .unset] [(.int (2 : Int32)), (.int m3)])) (fun tt_ kk_ => XS.iconst XJ3.here hx rfl (hb hby at_90) kk_) ?_
        refine Wp.st (S' := TJ3.setTop (mkF m 92 #[.val (.int x1), .val (.int y1), .val (.int m3), .val (.int a), .val (.int b), .val (.ref ma), .val (.ref mb), .unset, .unset, .unset, .unset, .unset, .unset, .unset, .unset] [(.int (m3 &&& (2 : Int32)))])) (fun tt_ kk_ => XS.iand XJ3.here hx rfl (hb hby at_91) rfl kk_) ?_
        by_cases hc68 : (m3 &&& (2 : Int32)) = (0 : Int32)
        case pos =>
          refine Wp.st (S' := TJ3.setTop (mkF m 101 #[.val (.int x1), .val (.int y1), .val (.int m3), .val (.int a), .val (.int b), .val (.ref ma), .val (.ref mb), .unset, .unset, .unset, .unset, .unset, .unset, .unset, .unset] [])) (fun tt_ kk_ => XS.ifYes XJ3.here hx rfl (pc0 := 92) (pc' := 101) rfl (hb hby at_92) rfl ((if0 _ _).trans (teq (hc68 : (m3 &&& (2 : Int32)) = (0 : Int32))).1) (by decide) (by decide) kk_) ?_
          obtain ⟨T69, X69, e69, st69⟩ := getS2 XJ3 hx hZ hown (host := "") (Or.inl (hw _ (List.mem_of_getElem? (i := 5) rfl))) Via.refl eJ3 (PS_LOCKED.ext O0.2) (g := (mkF m 101 #[.val (.int x1), .val (.int y1), .val (.int m3), .val (.int a), .val (.int b), .val (.ref ma), .val (.ref mb), .unset, .unset, .unset, .unset, .unset, .unset, .unset, .unset] [])) rfl (hb hby at_101)
          refine Wp.st (S' := T69.setTop (mkF m 104 #[.val (.int x1), .val (.int y1), .val (.int m3), .val (.int a), .val (.int b), .val (.ref ma), .val (.ref mb), .unset, .unset, .unset, .unset, .unset, .unset, .unset, .unset] [(.ref w_LOCKED)])) st69 ?_
          exact J4 _ _ w_LOCKED NJ3 X69 e69 PE_LOCKED
        case neg =>
          refine Wp.st (S' := TJ3.setTop (mkF m 95 #[.val (.int x1), .val (.int y1), .val (.int m3), .val (.int a), .val (.int b), .val (.ref ma), .val (.ref mb), .unset, .unset, .unset, .unset, .unset, .unset, .unset, .unset] [])) (fun tt_ kk_ => XS.ifNo XJ3.here hx rfl (hb hby at_92) rfl ((if0 _ _).trans (feq (hc68 : ¬ ((m3 &&& (2 : Int32)) = (0 : Int32)))).1) kk_) ?_
          obtain ⟨T70, X70, e70, st70⟩ := getS2 XJ3 hx hZ hown (host := "") (Or.inl (hw _ (List.mem_of_getElem? (i := 2) rfl))) Via.refl eJ3 (PS_UNLOCKED.ext O0.2) (g := (mkF m 95 #[.val (.int x1), .val (.int y1), .val (.int m3), .val (.int a), .val (.int b), .val (.ref ma), .val (.ref mb), .unset, .unset, .unset, .unset, .unset, .unset, .unset, .unset] [])) rfl (hb hby at_95)
          refine Wp.st (S' := T70.setTop (mkF m 98 #[.val (.int x1), .val (.int y1), .val (.int m3), .val (.int a), .val (.int b), .val (.ref ma), .val (.ref mb), .unset, .unset, .unset, .unset, .unset, .unset, .unset, .unset] [(.ref w_UNLOCKED)])) st70 ?_
          refine Wp.st (S' := T70.setTop (mkF m 104 #[.val (.int x1), .val (.int y1), .val (.int m3), .val (.int a), .val (.int b), .val (.ref ma), .val (.ref mb), .unset, .unset, .unset, .unset, .unset, .unset, .unset, .unset] [(.ref w_UNLOCKED)])) (fun tt_ kk_ => XS.goto X70.here hx rfl (pc0 := 98) (pc' := 104) rfl (hb hby at_98) (by decide) (by decide) kk_) ?_
          exact J4 _ _ w_UNLOCKED NJ3 X70 e70 PE_UNLOCKED
      refine Wp.st (S' := TJ2.setTop (mkF m 73 #[.val (.int x1), .val (.int y1), .val (.int m3), .val (.int a), .val (.int b), .val (.ref ma), .unset, .unset, .unset, .unset, .unset, .unset, .unset, .unset, .unset] [(.int m3)])) (fun tt_ kk_ => XS.iloadN XJ2.here hx rfl (hb hby at_72) rfl  kk_) ?_
      refine Wp.st (S' := TJ2.setTop (mkF m 74 #[.val (.int x1), .val (.int y1), .val (.int m3), .val (.int a), .val (.int b), .val (.ref ma), .unset, .unset, .unset, .unset, .unset, .unset, .unset, .unset, .unset] [(.int (2 : Int32)), (.int m3)])) (fun tt_ kk_ => XS.iconst XJ2.here hx rfl (hb hby at_73) kk_) ?_
      refine Wp.st (S' := TJ2.setTop (mkF m 75 #[.val (.int x1), .val (.int y1), .val (.int m3), .val (.int a), .val (.int b), .val (.ref ma), .unset, .unset, .unset, .unset, .unset, .unset, .unset, .unset, .unset] [(.int (m3 &&& (2 : Int32)))])) (fun tt_ kk_ => XS.iand XJ2.here hx rfl (hb hby at_74) rfl kk_) ?_
      by_cases hc71 : (m3 &&& (2 : Int32)) = (0 : Int32)
      case pos =>
        refine Wp.st (S' := TJ2.setTop (mkF m 84 #[.val (.int x1), .val (.int y1), .val (.int m3), .val (.int a), .val (.int b), .val (.ref ma), .unset, .unset, .unset, .unset, .unset, .unset, .unset, .unset, .unset] [])) (fun tt_ kk_ => XS.ifYes XJ2.here hx rfl (pc0 := 75) (pc' := 84) rfl (hb hby at_75) rfl ((if0 _ _).trans (teq (hc71 : (m3 &&& (2 : Int32)) = (0 : Int32))).1) (by decide) (by decide) kk_) ?_
        obtain ⟨T72, X72, e72, st72⟩ := getS2 XJ2 hx hZ hown (host := "") (Or.inl (hw _ (List.mem_of_getElem? (i := 2) rfl))) Via.refl eJ2 (PS_UNLOCKED.ext O0.2) (g := (mkF m 84 #[.val (.int x1), .val (.int y1), .val (.int m3), .val (.int a), .val (.int b), .val (.ref ma), .unset, .unset, .unset, .unset, .unset, .unset, .unset, .unset, .unset] [])) rfl (hb hby at_84)
        refine Wp.st (S' := T72.setTop (mkF m 87 #[.val (.int x1), .val (.int y1), .val (.int m3), .val (.int a), .val (.int b), .val (.ref ma), .unset, .unset, .unset, .unset, .unset, .unset, .unset, .unset, .unset] [(.ref w_UNLOCKED)])) st72 ?_
        exact J3 _ _ w_UNLOCKED NJ2 X72 e72 PE_UNLOCKED
      case neg =>
        refine Wp.st (S' := TJ2.setTop (mkF m 78 #[.val (.int x1), .val (.int y1), .val (.int m3), .val (.int a), .val (.int b), .val (.ref ma), .unset, .unset, .unset, .unset, .unset, .unset, .unset, .unset, .unset] [])) (fun tt_ kk_ => XS.ifNo XJ2.here hx rfl (hb hby at_75) rfl ((if0 _ _).trans (feq (hc71 : ¬ ((m3 &&& (2 : Int32)) = (0 : Int32)))).1) kk_) ?_
        obtain ⟨T73, X73, e73, st73⟩ := getS2 XJ2 hx hZ hown (host := "") (Or.inl (hw _ (List.mem_of_getElem? (i := 5) rfl))) Via.refl eJ2 (PS_LOCKED.ext O0.2) (g := (mkF m 78 #[.val (.int x1), .val (.int y1), .val (.int m3), .val (.int a), .val (.int b), .val (.ref ma), .unset, .unset, .unset, .unset, .unset, .unset, .unset, .unset, .unset] [])) rfl (hb hby at_78)
        refine Wp.st (S' := T73.setTop (mkF m 81 #[.val (.int x1), .val (.int y1), .val (.int m3), .val (.int a), .val (.int b), .val (.ref ma), .unset, .unset, .unset, .unset, .unset, .unset, .unset, .unset, .unset] [(.ref w_LOCKED)])) st73 ?_
        refine Wp.st (S' := T73.setTop (mkF m 87 #[.val (.int x1), .val (.int y1), .val (.int m3), .val (.int a), .val (.int b), .val (.ref ma), .unset, .unset, .unset, .unset, .unset, .unset, .unset, .unset, .unset] [(.ref w_LOCKED)])) (fun tt_ kk_ => XS.goto X73.here hx rfl (pc0 := 81) (pc' := 87) rfl (hb hby at_81) (by decide) (by decide) kk_) ?_
        exact J3 _ _ w_LOCKED NJ2 X73 e73 PE_LOCKED
    refine Wp.st (S' := TJ1.setTop (mkF m 56 #[.val (.int x1), .val (.int y1), .val (.int m3), .val (.int a), .val (.int b), .unset, .unset, .unset, .unset, .unset, .unset, .unset, .unset, .unset, .unset] [(.int m3)])) (fun tt_ kk_ => XS.iloadN XJ1.here hx rfl (hb hby at_55) rfl  kk_) ?_
    refine Wp.st (S' := TJ1.setTop (mkF m 57 #[.val (.int x1), .val (.int y1), .val (.int m3), .val (.int a), .val (.int b), .unset, .unset, .unset, .unset, .unset, .unset, .unset, .unset, .unset, .unset] [(.int (1 : Int32)), (.int m3)])) (fun tt_ kk_ => XS.iconst XJ1.here hx rfl (hb hby at_56) kk_) ?_
    refine Wp.st (S' := TJ1.setTop (mkF m 58 #[.val (.int x1), .val (.int y1), .val (.int m3), .val (.int a), .val (.int b), .unset, .unset, .unset, .unset, .unset, .unset, .unset, .unset, .unset, .unset] [(.int (m3 &&& (1 : Int32)))])) (fun tt_ kk_ => XS.iand XJ1.here hx rfl (hb hby at_57) rfl kk_) ?_
    by_cases hc74 : (m3 &&& (1 : Int32)) = (0 : Int32)
    case pos =>
      refine Wp.st (S' := TJ1.setTop (mkF m 67 #[.val (.int x1), .val (.int y1), .val (.int m3), .val (.int a), .val (.int b), .unset, .unset, .unset, .unset, .unset, .unset, .unset, .unset, .unset, .unset] [])) (fun tt_ kk_ => XS.ifYes XJ1.here hx rfl (pc0 := 58) (pc' := 67) rfl (hb hby at_58) rfl ((if0 _ _).trans (teq (hc74 : (m3 &&& (1 : Int32)) = (0 : Int32))).1) (by decide) (by decide) kk_) ?_
      obtain ⟨T75, X75, e75, st75⟩ := getS2 XJ1 hx hZ hown (host := "") (Or.inl (hw _ (List.mem_of_getElem? (i := 2) rfl))) Via.refl eJ1 (PS_UNLOCKED.ext O0.2) (g := (mkF m 67 #[.val (.int x1), .val (.int y1), .val (.int m3), .val (.int a), .val (.int b), .unset, .unset, .unset, .unset, .unset, .unset, .unset, .unset, .unset, .unset] [])) rfl (hb hby at_67)
      refine Wp.st (S' := T75.setTop (mkF m 70 #[.val (.int x1), .val (.int y1), .val (.int m3), .val (.int a), .val (.int b), .unset, .unset, .unset, .unset, .unset, .unset, .unset, .unset, .unset, .unset] [(.ref w_UNLOCKED)])) st75 ?_
      exact J2 _ _ w_UNLOCKED NJ1 X75 e75 PE_UNLOCKED
    case neg =>
      refine Wp.st (S' := TJ1.setTop (mkF m 61 #[.val (.int x1), .val (.int y1), .val (.int m3), .val (.int a), .val (.int b), .unset, .unset, .unset, .unset, .unset, .unset, .unset, .unset, .unset, .unset] [])) (fun tt_ kk_ => XS.ifNo XJ1.here hx rfl (hb hby at_58) rfl ((if0 _ _).trans (feq (hc74 : ¬ ((m3 &&& (1 : Int32)) = (0 : Int32)))).1) kk_) ?_
      obtain ⟨T76, X76, e76, st76⟩ := getS2 XJ1 hx hZ hown (host := "") (Or.inl (hw _ (List.mem_of_getElem? (i := 5) rfl))) Via.refl eJ1 (PS_LOCKED.ext O0.2) (g := (mkF m 61 #[.val (.int x1), .val (.int y1), .val (.int m3), .val (.int a), .val (.int b), .unset, .unset, .unset, .unset, .unset, .unset, .unset, .unset, .unset, .unset] [])) rfl (hb hby at_61)
      refine Wp.st (S' := T76.setTop (mkF m 64 #[.val (.int x1), .val (.int y1), .val (.int m3), .val (.int a), .val (.int b), .unset, .unset, .unset, .unset, .unset, .unset, .unset, .unset, .unset, .unset] [(.ref w_LOCKED)])) st76 ?_
      refine Wp.st (S' := T76.setTop (mkF m 70 #[.val (.int x1), .val (.int y1), .val (.int m3), .val (.int a), .val (.int b), .unset, .unset, .unset, .unset, .unset, .unset, .unset, .unset, .unset, .unset] [(.ref w_LOCKED)])) (fun tt_ kk_ => XS.goto X76.here hx rfl (pc0 := 64) (pc' := 70) rfl (hb hby at_64) (by decide) (by decide) kk_) ?_
      exact J2 _ _ w_LOCKED NJ1 X76 e76 PE_LOCKED
  refine Wp.st (S' := s₁.setTop (mkF m 11 #[.val (.int x1), .val (.int y1), .val (.int m3), .val (.int a), .unset, .unset, .unset, .unset, .unset, .unset, .unset, .unset, .unset, .unset, .unset] [(.int m3)])) (fun tt_ kk_ => XS.iloadN X0.here hx rfl (hb hby at_10) rfl  kk_) ?_
  refine Wp.st (S' := s₁.setTop (mkF m 12 #[.val (.int x1), .val (.int y1), .val (.int m3), .val (.int a), .unset, .unset, .unset, .unset, .unset, .unset, .unset, .unset, .unset, .unset, .unset] [(.int (4 : Int32)), (.int m3)])) (fun tt_ kk_ => XS.iconst X0.here hx rfl (hb hby at_11) kk_) ?_
  refine Wp.st (S' := s₁.setTop (mkF m 13 #[.val (.int x1), .val (.int y1), .val (.int m3), .val (.int a), .unset, .unset, .unset, .unset, .unset, .unset, .unset, .unset, .unset, .unset, .unset] [(.int (m3 &&& (4 : Int32)))])) (fun tt_ kk_ => XS.iand X0.here hx rfl (hb hby at_12) rfl kk_) ?_
  by_cases h4 : (m3 &&& (4 : Int32)) = (0 : Int32)
  case pos =>
    refine Wp.st (S' := s₁.setTop (mkF m 44 #[.val (.int x1), .val (.int y1), .val (.int m3), .val (.int a), .unset, .unset, .unset, .unset, .unset, .unset, .unset, .unset, .unset, .unset, .unset] [])) (fun tt_ kk_ => XS.ifYes X0.here hx rfl (pc0 := 13) (pc' := 44) rfl (hb hby at_13) rfl ((if0 _ _).trans (teq (h4 : (m3 &&& (4 : Int32)) = (0 : Int32))).1) (by decide) (by decide) kk_) ?_
    refine Wp.st (S' := s₁.setTop (mkF m 45 #[.val (.int x1), .val (.int y1), .val (.int m3), .val (.int a), .unset, .unset, .unset, .unset, .unset, .unset, .unset, .unset, .unset, .unset, .unset] [(.int y1)])) (fun tt_ kk_ => XS.iloadN X0.here hx rfl (hb hby at_44) rfl  kk_) ?_
    refine Wp.st (S' := s₁.setTop (mkF m 47 #[.val (.int x1), .val (.int y1), .val (.int m3), .val (.int a), .unset, .unset, .unset, .unset, .unset, .unset, .unset, .unset, .unset, .unset, .unset] [(.int (2147483647 : Int32)), (.int y1)])) (fun tt_ kk_ => X0.ldcInt hx hown (mvT hZ (hw _ (List.mem_of_getElem? (i := 0) rfl))) (g := (mkF m 45 #[.val (.int x1), .val (.int y1), .val (.int m3), .val (.int a), .unset, .unset, .unset, .unset, .unset, .unset, .unset, .unset, .unset, .unset, .unset] [(.int y1)])) rfl (hb hby at_45) tt_ kk_) ?_
    refine Wp.st (S' := s₁.setTop (mkF m 48 #[.val (.int x1), .val (.int y1), .val (.int m3), .val (.int a), .unset, .unset, .unset, .unset, .unset, .unset, .unset, .unset, .unset, .unset, .unset] [(.int (y1 &&& (2147483647 : Int32)))])) (fun tt_ kk_ => XS.iand X0.here hx rfl (hb hby at_47) rfl kk_) ?_
    refine Wp.st (S' := s₁.setTop (mkF m 50 #[.val (.int x1), .val (.int y1), .val (.int m3), .val (.int a), .unset, .unset, .unset, .unset, .unset, .unset, .unset, .unset, .unset, .unset, .unset] [(.int (146000 : Int32)), (.int (y1 &&& (2147483647 : Int32)))])) (fun tt_ kk_ => X0.ldcInt hx hown (mvT hZ (hw _ (List.mem_of_getElem? (i := 1) rfl))) (g := (mkF m 48 #[.val (.int x1), .val (.int y1), .val (.int m3), .val (.int a), .unset, .unset, .unset, .unset, .unset, .unset, .unset, .unset, .unset, .unset, .unset] [(.int (y1 &&& (2147483647 : Int32)))])) rfl (hb hby at_48) tt_ kk_) ?_
    refine Wp.st (S' := s₁.setTop (mkF m 51 #[.val (.int x1), .val (.int y1), .val (.int m3), .val (.int a), .unset, .unset, .unset, .unset, .unset, .unset, .unset, .unset, .unset, .unset, .unset] [(.int ((y1 &&& (2147483647 : Int32)) % (146000 : Int32)))])) (fun tt_ kk_ => iremM X0 hx rfl (hb hby at_50) rfl (by decide) kk_) ?_
    refine Wp.st (S' := s₁.setTop (mkF m 52 #[.val (.int x1), .val (.int y1), .val (.int m3), .val (.int a), .unset, .unset, .unset, .unset, .unset, .unset, .unset, .unset, .unset, .unset, .unset] [(.int (1 : Int32)), (.int ((y1 &&& (2147483647 : Int32)) % (146000 : Int32)))])) (fun tt_ kk_ => XS.iconst X0.here hx rfl (hb hby at_51) kk_) ?_
    refine Wp.st (S' := s₁.setTop (mkF m 53 #[.val (.int x1), .val (.int y1), .val (.int m3), .val (.int a), .unset, .unset, .unset, .unset, .unset, .unset, .unset, .unset, .unset, .unset, .unset] [(.int (((y1 &&& (2147483647 : Int32)) % (146000 : Int32)) + (1 : Int32)))])) (fun tt_ kk_ => XS.iadd X0.here hx rfl (hb hby at_52) rfl kk_) ?_
    refine Wp.st (S' := s₁.setTop (mkF m 55 #[.val (.int x1), .val (.int y1), .val (.int m3), .val (.int a), .val (.int (((y1 &&& (2147483647 : Int32)) % (146000 : Int32)) + (1 : Int32))), .unset, .unset, .unset, .unset, .unset, .unset, .unset, .unset, .unset, .unset] [])) (fun tt_ kk_ => XS.istore X0.here hx rfl (hb hby at_53) rfl (l' := #[.val (.int x1), .val (.int y1), .val (.int m3), .val (.int a), .val (.int (((y1 &&& (2147483647 : Int32)) % (146000 : Int32)) + (1 : Int32))), .unset, .unset, .unset, .unset, .unset, .unset, .unset, .unset, .unset, .unset]) rfl kk_) ?_
    exact J1 _ _ _ N0 X0 e0 hbb.1 hbb.2
  case neg =>
    refine Wp.st (S' := s₁.setTop (mkF m 16 #[.val (.int x1), .val (.int y1), .val (.int m3), .val (.int a), .unset, .unset, .unset, .unset, .unset, .unset, .unset, .unset, .unset, .unset, .unset] [])) (fun tt_ kk_ => XS.ifNo X0.here hx rfl (hb hby at_13) rfl ((if0 _ _).trans (feq (h4 : ¬ ((m3 &&& (4 : Int32)) = (0 : Int32)))).1) kk_) ?_
    refine Wp.st (S' := s₁.setTop (mkF m 17 #[.val (.int x1), .val (.int y1), .val (.int m3), .val (.int a), .unset, .unset, .unset, .unset, .unset, .unset, .unset, .unset, .unset, .unset, .unset] [(.int a)])) (fun tt_ kk_ => XS.iloadN X0.here hx rfl (hb hby at_16) rfl  kk_) ?_
    refine Wp.st (S' := s₁.setTop (mkF m 18 #[.val (.int x1), .val (.int y1), .val (.int m3), .val (.int a), .unset, .unset, .unset, .unset, .unset, .unset, .unset, .unset, .unset, .unset, .unset] [(.int (1 : Int32)), (.int a)])) (fun tt_ kk_ => XS.iconst X0.here hx rfl (hb hby at_17) kk_) ?_
    refine Wp.st (S' := s₁.setTop (mkF m 19 #[.val (.int x1), .val (.int y1), .val (.int m3), .val (.int a), .unset, .unset, .unset, .unset, .unset, .unset, .unset, .unset, .unset, .unset, .unset] [(.int (a - (1 : Int32)))])) (fun tt_ kk_ => XS.isub X0.here hx rfl (hb hby at_18) rfl kk_) ?_
    refine Wp.st (S' := s₁.setTop (mkF m 20 #[.val (.int x1), .val (.int y1), .val (.int m3), .val (.int a), .unset, .unset, .unset, .unset, .unset, .unset, .unset, .unset, .unset, .unset, .unset] [(.int y1), (.int (a - (1 : Int32)))])) (fun tt_ kk_ => XS.iloadN X0.here hx rfl (hb hby at_19) rfl  kk_) ?_
    refine Wp.st (S' := s₁.setTop (mkF m 22 #[.val (.int x1), .val (.int y1), .val (.int m3), .val (.int a), .unset, .unset, .unset, .unset, .unset, .unset, .unset, .unset, .unset, .unset, .unset] [(.int (2147483647 : Int32)), (.int y1), (.int (a - (1 : Int32)))])) (fun tt_ kk_ => X0.ldcInt hx hown (mvT hZ (hw _ (List.mem_of_getElem? (i := 0) rfl))) (g := (mkF m 20 #[.val (.int x1), .val (.int y1), .val (.int m3), .val (.int a), .unset, .unset, .unset, .unset, .unset, .unset, .unset, .unset, .unset, .unset, .unset] [(.int y1), (.int (a - (1 : Int32)))])) rfl (hb hby at_20) tt_ kk_) ?_
    refine Wp.st (S' := s₁.setTop (mkF m 23 #[.val (.int x1), .val (.int y1), .val (.int m3), .val (.int a), .unset, .unset, .unset, .unset, .unset, .unset, .unset, .unset, .unset, .unset, .unset] [(.int (y1 &&& (2147483647 : Int32))), (.int (a - (1 : Int32)))])) (fun tt_ kk_ => XS.iand X0.here hx rfl (hb hby at_22) rfl kk_) ?_
    refine Wp.st (S' := s₁.setTop (mkF m 24 #[.val (.int x1), .val (.int y1), .val (.int m3), .val (.int a), .unset, .unset, .unset, .unset, .unset, .unset, .unset, .unset, .unset, .unset, .unset] [(.int (3 : Int32)), (.int (y1 &&& (2147483647 : Int32))), (.int (a - (1 : Int32)))])) (fun tt_ kk_ => XS.iconst X0.here hx rfl (hb hby at_23) kk_) ?_
    refine Wp.st (S' := s₁.setTop (mkF m 25 #[.val (.int x1), .val (.int y1), .val (.int m3), .val (.int a), .unset, .unset, .unset, .unset, .unset, .unset, .unset, .unset, .unset, .unset, .unset] [(.int ((y1 &&& (2147483647 : Int32)) % (3 : Int32))), (.int (a - (1 : Int32)))])) (fun tt_ kk_ => iremM X0 hx rfl (hb hby at_24) rfl (by decide) kk_) ?_
    refine Wp.st (S' := s₁.setTop (mkF m 26 #[.val (.int x1), .val (.int y1), .val (.int m3), .val (.int a), .unset, .unset, .unset, .unset, .unset, .unset, .unset, .unset, .unset, .unset, .unset] [(.int ((a - (1 : Int32)) + ((y1 &&& (2147483647 : Int32)) % (3 : Int32))))])) (fun tt_ kk_ => XS.iadd X0.here hx rfl (hb hby at_25) rfl kk_) ?_
    refine Wp.st (S' := s₁.setTop (mkF m 28 #[.val (.int x1), .val (.int y1), .val (.int m3), .val (.int a), .val (.int ((a - (1 : Int32)) + ((y1 &&& (2147483647 : Int32)) % (3 : Int32)))), .unset, .unset, .unset, .unset, .unset, .unset, .unset, .unset, .unset, .unset] [])) (fun tt_ kk_ => XS.istore X0.here hx rfl (hb hby at_26) rfl (l' := #[.val (.int x1), .val (.int y1), .val (.int m3), .val (.int a), .val (.int ((a - (1 : Int32)) + ((y1 &&& (2147483647 : Int32)) % (3 : Int32)))), .unset, .unset, .unset, .unset, .unset, .unset, .unset, .unset, .unset, .unset]) rfl kk_) ?_
    generalize hvb0 : ((a - (1 : Int32)) + ((y1 &&& (2147483647 : Int32)) % (3 : Int32))) = b0
    refine Wp.st (S' := s₁.setTop (mkF m 29 #[.val (.int x1), .val (.int y1), .val (.int m3), .val (.int a), .val (.int b0), .unset, .unset, .unset, .unset, .unset, .unset, .unset, .unset, .unset, .unset] [(.int (1 : Int32))])) (fun tt_ kk_ => XS.iconst X0.here hx rfl (hb hby at_28) kk_) ?_
    refine Wp.st (S' := s₁.setTop (mkF m 31 #[.val (.int x1), .val (.int y1), .val (.int m3), .val (.int a), .val (.int b0), .unset, .unset, .unset, .unset, .unset, .unset, .unset, .unset, .unset, .unset] [(.int (146000 : Int32)), (.int (1 : Int32))])) (fun tt_ kk_ => X0.ldcInt hx hown (mvT hZ (hw _ (List.mem_of_getElem? (i := 1) rfl))) (g := (mkF m 29 #[.val (.int x1), .val (.int y1), .val (.int m3), .val (.int a), .val (.int b0), .unset, .unset, .unset, .unset, .unset, .unset, .unset, .unset, .unset, .unset] [(.int (1 : Int32))])) rfl (hb hby at_29) tt_ kk_) ?_
    refine Wp.st (S' := s₁.setTop (mkF m 33 #[.val (.int x1), .val (.int y1), .val (.int m3), .val (.int a), .val (.int b0), .unset, .unset, .unset, .unset, .unset, .unset, .unset, .unset, .unset, .unset] [(.int b0), (.int (146000 : Int32)), (.int (1 : Int32))])) (fun tt_ kk_ => XS.iload X0.here hx rfl (hb hby at_31) rfl  kk_) ?_
    obtain ⟨vv77, _, ⟨T77, L77, k77, n77⟩, -, X77, ⟨Lc77, hQ77, l77, y77, z77⟩, st77⟩ := Jvm.LawKit.callS X0 hx (y := (⟨"java/lang/Math", "min", "(II)I"⟩ : MethodName)) hown (mvT hZ (hw _ (List.mem_of_getElem? (i := 32) rfl))) (mvT hZ (hw _ (List.mem_of_getElem? (i := 33) rfl))) (mvT hZ (hw _ (List.mem_of_getElem? (i := 34) rfl))) (mvT hZ (hw _ (List.mem_of_getElem? (i := 35) rfl))) (by decide) (backOf (W := 1) (rm5 l Z a0 hw [] (146000 : Int32) b0 h0 n0 Z0 ) hZ (hw _ (List.mem_of_getElem? (i := 35) rfl)) (hw _ (List.mem_of_getElem? (i := 34) rfl)) (by decide) (by decide)) (g := (mkF m 33 #[.val (.int x1), .val (.int y1), .val (.int m3), .val (.int a), .val (.int b0), .unset, .unset, .unset, .unset, .unset, .unset, .unset, .unset, .unset, .unset] [(.int b0), (.int (146000 : Int32)), (.int (1 : Int32))])) rfl (by rw [hml]; rfl) (argsL := [(.int (146000 : Int32)), (.int b0)]) (rest := [(.int (1 : Int32))]) (lenOf pd_3 rfl) rfl (by show 2 * 0 + _ ≤ _; exact Nat.le_of_eq rfl) (hb hby at_33) (fun _ _ => ⟨rfl, e0, (by decide : 0 + 0 ≤ _), (by decide : 0 + 0 ≤ _)⟩)
    dsimp only [Pt.U, Pt.locs, Pt.cells, Pt.slots] at X77 l77 y77 z77 st77 hQ77
    subst l77 y77 z77
    obtain ⟨rfl, Nq77, e77⟩ := hQ77
    have N77 := Fr.app N0 Nq77
    refine Wp.st (S' := T77.setTop (mkF m 36 #[.val (.int x1), .val (.int y1), .val (.int m3), .val (.int a), .val (.int b0), .unset, .unset, .unset, .unset, .unset, .unset, .unset, .unset, .unset, .unset] [(.int (if b0 < (146000 : Int32) then b0 else (146000 : Int32))), (.int (1 : Int32))])) st77 ?_
    obtain ⟨vv78, _, ⟨T78, L78, k78, n78⟩, -, X78, ⟨Lc78, hQ78, l78, y78, z78⟩, st78⟩ := Jvm.LawKit.callS X77 hx (y := (⟨"java/lang/Math", "max", "(II)I"⟩ : MethodName)) hown (mvT hZ (hw _ (List.mem_of_getElem? (i := 36) rfl))) (mvT hZ (hw _ (List.mem_of_getElem? (i := 37) rfl))) (mvT hZ (hw _ (List.mem_of_getElem? (i := 34) rfl))) (mvT hZ (hw _ (List.mem_of_getElem? (i := 38) rfl))) (by decide) (backOf (W := 0) (rm6 l Z a0 hw [] (1 : Int32) (if b0 < (146000 : Int32) then b0 else (146000 : Int32)) h0 n0 Z0 ) hZ (hw _ (List.mem_of_getElem? (i := 38) rfl)) (hw _ (List.mem_of_getElem? (i := 34) rfl)) (by decide) (by decide)) (g := (mkF m 36 #[.val (.int x1), .val (.int y1), .val (.int m3), .val (.int a), .val (.int b0), .unset, .unset, .unset, .unset, .unset, .unset, .unset, .unset, .unset, .unset] [(.int (if b0 < (146000 : Int32) then b0 else (146000 : Int32))), (.int (1 : Int32))])) rfl (by rw [hml]; rfl) (argsL := [(.int (1 : Int32)), (.int (if b0 < (146000 : Int32) then b0 else (146000 : Int32)))]) (rest := []) (lenOf pd_3 rfl) rfl (by show 2 * 0 + _ ≤ _; exact Nat.le_of_eq rfl) (hb hby at_36) (fun _ _ => ⟨rfl, e77, (by decide : 0 + 0 ≤ _), (by decide : 0 + 0 ≤ _)⟩)
    dsimp only [Pt.U, Pt.locs, Pt.cells, Pt.slots] at X78 l78 y78 z78 st78 hQ78
    subst l78 y78 z78
    obtain ⟨rfl, Nq78, e78⟩ := hQ78
    have N78 := Fr.app N77 Nq78
    refine Wp.st (S' := T78.setTop (mkF m 39 #[.val (.int x1), .val (.int y1), .val (.int m3), .val (.int a), .val (.int b0), .unset, .unset, .unset, .unset, .unset, .unset, .unset, .unset, .unset, .unset] [(.int (if (1 : Int32) < (if b0 < (146000 : Int32) then b0 else (146000 : Int32)) then (if b0 < (146000 : Int32) then b0 else (146000 : Int32)) else (1 : Int32)))])) st78 ?_
    refine Wp.st (S' := T78.setTop (mkF m 41 #[.val (.int x1), .val (.int y1), .val (.int m3), .val (.int a), .val (.int (if (1 : Int32) < (if b0 < (146000 : Int32) then b0 else (146000 : Int32)) then (if b0 < (146000 : Int32) then b0 else (146000 : Int32)) else (1 : Int32))), .unset, .unset, .unset, .unset, .unset, .unset, .unset, .unset, .unset, .unset] [])) (fun tt_ kk_ => XS.istore X78.here hx rfl (hb hby at_39) rfl (l' := #[.val (.int x1), .val (.int y1), .val (.int m3), .val (.int a), .val (.int (if (1 : Int32) < (if b0 < (146000 : Int32) then b0 else (146000 : Int32)) then (if b0 < (146000 : Int32) then b0 else (146000 : Int32)) else (1 : Int32))), .unset, .unset, .unset, .unset, .unset, .unset, .unset, .unset, .unset, .unset]) rfl kk_) ?_
    refine Wp.st (S' := T78.setTop (mkF m 55 #[.val (.int x1), .val (.int y1), .val (.int m3), .val (.int a), .val (.int (if (1 : Int32) < (if b0 < (146000 : Int32) then b0 else (146000 : Int32)) then (if b0 < (146000 : Int32) then b0 else (146000 : Int32)) else (1 : Int32))), .unset, .unset, .unset, .unset, .unset, .unset, .unset, .unset, .unset, .unset] [])) (fun tt_ kk_ => XS.goto X78.here hx rfl (pc0 := 41) (pc' := 55) rfl (hb hby at_41) (by decide) (by decide) kk_) ?_
    exact J1 _ _ _ N78 X78 e78 (own_clamp b0).1 (own_clamp b0).2
set_option maxRecDepth 65536 in
set_option maxHeartbeats 40000000 in
theorem comes_1 {Post : Tables → Env → Array Value → State → Outcome → State → Prop} (hpost : ∀ tb e args s v u, (limb_1_1.after args s (.returned v) u = true ∧ limb_1_2.after args s (.returned v) u = true ∧ True) → FrameEnd s (.returned v) u (Jvm.fieldLocs frame_1_writes args s ++ Jvm.arrayLocs frame_1_arrays args s ++ Jvm.staticLocs frame_1_statics s) 16 128 → Post tb e args s (.returned v) u) :
    ArmFor flags0 classFile x code maxLocals ret World_1 tables_1 room_1 Calls_1 rest_1 Pre_1 Post := by
  intro l hfl _ _ p e ha hc hk s m args below hf hA hF happ hP
  obtain ⟨hcalls, hrest, hpre⟩ := hP
  obtain ⟨-, -, -, hnamed, -, -, -, hat⟩ := (Spec.applies_iff hf).mp happ
  obtain ⟨hg, hn⟩ := and_e (Cond.before_iff.mp (show (Jvm.Cond.and given_1 narrow_1).before args s = true from hpre))
  obtain ⟨q1, q2⟩ := and_e hg
  obtain ⟨w0, w1, w2, rfl⟩ : ∃ w0 w1 w2 : Value, args = #[w0, w1, w2] := by
    have hs : args.size = 3 := by simpa [Cond.value, given_1] using q1
    obtain ⟨L⟩ := args
    match L, hs with
    | [w0, w1, w2], _ => exact ⟨w0, w1, w2, rfl⟩
  obtain ⟨q3, q4⟩ := and_e q2
  obtain ⟨q5, q6⟩ := and_e q4
  have hw := fun d (hd : d ∈ tables_1) => atoms_spec (ws := Jvm.Cond.code x code maxLocals ret :: tables_1) hat d (List.mem_cons_of_mem _ hd)
  have hfit : Fit s := fun {y c} hc i hi => by
    obtain ⟨ha, rfl⟩ := Array.getElem?_eq_some_iff.mp hc
    have q := List.all_eq_true.mp ((Array.all_eq_true_iff_forall_mem.mp hF) _ (Array.getElem_mem ha)) i (List.mem_range.mpr hi)
    simpa [Array.getElem?_eq_getElem hi] using q
  obtain ⟨q7, q8⟩ := and_e hn
  obtain ⟨w_UNLOCKED, ev_UNLOCKED⟩ := exa_v q7
  have PE_UNLOCKED := Exa.start ev_UNLOCKED q7
  have PS_UNLOCKED := Sta.start ev_UNLOCKED (Or.inr ⟨(hw _ (List.mem_of_getElem? (i := 3) rfl)), (hw _ (List.mem_of_getElem? (i := 4) rfl))⟩)
  obtain ⟨w_LOCKED, ev_LOCKED⟩ := exa_v q8
  have PE_LOCKED := Exa.start ev_LOCKED q8
  have PS_LOCKED := Sta.start ev_LOCKED (Or.inr ⟨(hw _ (List.mem_of_getElem? (i := 3) rfl)), (hw _ (List.mem_of_getElem? (i := 6) rfl))⟩)
  obtain ⟨i0, ei0⟩ := is_v q3
  obtain rfl : w0 = (.int i0) := Option.some.inj ei0
  obtain ⟨i1, ei1⟩ := is_v q5
  obtain rfl : w1 = (.int i1) := Option.some.inj ei1
  obtain ⟨i2, ei2⟩ := is_v q6
  obtain rfl : w2 = (.int i2) := Option.some.inj ei2
  obtain ⟨n, o, h1, h2, h3, _, L, rfl, ⟨rfl, N, -⟩, hq⟩ := rm0 l s _ hw tables_1 i0 i1 i2 w_UNLOCKED w_LOCKED s.heap s.heap.size (Nat.le_refl _) (Old.start s) PE_UNLOCKED PS_UNLOCKED PE_LOCKED PS_LOCKED p e ha hc hk s m _ below hf ((Spec.applies_iff_loose hf).mp happ).1 ⟨rfl, State.Warmed39.refl s, rfl⟩ trivial
  refine ⟨n, _, h1, h2, h3, hpost _ _ _ _ _ _ ⟨Cond.after_iff.mpr rfl, Cond.after_iff.mpr (eq_i res_at (Term.int_eval (1)) rfl), trivial⟩ ⟨hq.1, hq.2.1, (hq.2.2.sift fun y hy => Or.inr (N y hy)).mono (by decide) (by decide)⟩⟩
theorem main_1_1 : Claimed_1_1 := comes_1 fun _ _ _ _ _ _ h hF => ⟨h.1, hF⟩
theorem main_1_2 : Claimed_1_2 := comes_1 fun _ _ _ _ _ _ h hF => ⟨h.2.1, hF⟩
end Jvm.Pilot.@@N@@
namespace Jvm.Pilot.@@N@@
open Jvm Jvm.ClassFile Sem Op Lib Jvm.Free Jvm.Stand Jvm.Pilot.@@N@@.Jvm.D
/-! MADE BY PROGRAM (witnessworld.py) out of the Statement's table words and the real class files: 16 classes; the members and pool entries that the words name. The judged class is class 1, her method 1. -/
namespace start1
open Jvm.ClassFile
def u (s : String) : CpInfo := .utf8 (stringToUtf16 s)
/-- a pool by its gaps: so many unusable entries, then the entry; so many at the end -/
def gap : Nat → List CpInfo → List CpInfo
  | 0, r => r
  | n + 1, r => .unusable :: gap n r
def poolList (es : List (Nat × CpInfo)) (last : Nat) : List CpInfo := es.foldr (fun e r => gap e.1 (e.2 :: r)) (gap last [])
def pool (es : List (Nat × CpInfo)) (last : Nat) : Array CpInfo := ⟨poolList es last⟩
def fileOf (pool : Array CpInfo) (this : Nat) (attrs : Array Attribute := #[]) (ms : Array MethodInfo := #[]) (fl : Nat := 33) (sup : Nat := 0) (ifs : Array Nat := #[]) (fds : Array FieldInfo := #[]) : ClassFile where
  minorVersion := 0
  majorVersion := 65
  constantPool := pool
  accessFlags := fl
  thisClass := this
  superClass := sup
  interfaces := ifs
  fields := fds
  methods := ms
  attributes := attrs
def plain (name : String) (sup : Option ClassId) : Class where
  name := name
  kind := .ordinary
  loader := none
  accessFlags := 33
  super := sup
  interfaces := #[]
  cf := none
  fields := #[]
  methods := #[]
  instanceTypes := #[]
  staticTypes := #[]
  resolved := #[]
  callSites := []
  init := .initialized
  statics := none
  mirror := none

def pool0 : Array CpInfo := pool [(5, u "<init>"), (0, u "()V"), (1, .class_ 10), (1, u "java/lang/Object")] 113

def k0c0 : Code := { maxStack := 0, maxLocals := 1, code := object_method_1_code, exceptionTable := #[], attributes := #[] }
def k0m0 : Method := { name := "<init>", desc := "()V", sig := { parameters := [], returnType := none }, accessFlags := 1, code := some k0c0 }
/-- java/lang/Object -/
def k0 : Class := { plain "java/lang/Object" none with
  accessFlags := 33
  interfaces := #[]
  cf := some (fileOf pool0 8 #[] #[{ accessFlags := 1, nameIndex := 5, descriptorIndex := 6, attributes := #[] }] 33 0 #[] #[])
  fields := #[]
  methods := #[k0m0]
  instanceTypes := #[]
  staticTypes := #[]
  resolved := Array.replicate 124 none
  statics := none }

def pool1 : Array CpInfo := pool [(2, .class_ 4), (1, u "java/lang/Object"), (0, u "<init>"), (0, u "()V"), (0, .integer 2147483647), (0, .class_ 9), (0, u "com/example/amberhold/amberhold/store/DefaultPolicy"), (0, .integer 146000), (0, .methodref 12 13), (0, .class_ 14), (0, .nameAndType 15 16), (0, u "java/lang/Math"), (0, u "min"), (0, u "(II)I"), (0, .methodref 12 18), (0, .nameAndType 19 16), (0, u "max"), (0, .fieldref 21 22), (0, .class_ 23), (0, .nameAndType 24 25), (0, u "com/example/amberhold/amberhold/store/RetentionPolicy$Mode"), (0, u "LOCKED"), (0, u "Lcom/example/amberhold/amberhold/store/RetentionPolicy$Mode;"), (0, .fieldref 21 27), (0, .nameAndType 28 25), (0, u "UNLOCKED"), (0, .methodref 8 30), (0, .nameAndType 5 31), (0, u "(ILcom/example/amberhold/amberhold/store/RetentionPolicy$Mode;)V"), (0, .methodref 8 33), (0, .nameAndType 34 35), (0, u "isShortenedBy"), (0, u "(Lcom/example/amberhold/amberhold/store/DefaultPolicy;)Z"), (0, .class_ 37), (0, u "com/example/amberhold/amberhold/store/DefaultPolicyIsShortenedByPinLaw"), (2, u "law"), (0, u "(III)Z")] 7

def k1m0 : Method := { name := "<init>", desc := "()V", sig := { parameters := [], returnType := none }, accessFlags := 2, code := none }
def k1c1 : Code := { maxStack := 4, maxLocals := 15, code := code, exceptionTable := #[], attributes := #[] }
def k1m1 : Method := { name := "law", desc := "(III)Z", sig := { parameters := [.int, .int, .int], returnType := some .boolean }, accessFlags := 9, code := some k1c1 }
/-- com/example/amberhold/amberhold/store/DefaultPolicyIsShortenedByPinLaw -/
def k1 : Class := { plain "com/example/amberhold/amberhold/store/DefaultPolicyIsShortenedByPinLaw" (some 0) with
  accessFlags := 49
  interfaces := #[]
  cf := some (fileOf pool1 36 #[] #[{ accessFlags := 2, nameIndex := 5, descriptorIndex := 6, attributes := #[] }, { accessFlags := 9, nameIndex := 40, descriptorIndex := 41, attributes := #[] }] 49 2 #[] #[])
  fields := #[]
  methods := #[k1m0, k1m1]
  instanceTypes := #[]
  staticTypes := #[]
  resolved := Array.replicate 49 none
  statics := none }

def pool2 : Array CpInfo := pool [(1, .class_ 2), (0, u "java/lang/constant/Constable"), (0, .class_ 4), (0, u "java/lang/Object")] 6

/-- java/lang/constant/Constable -/
def k2 : Class := { plain "java/lang/constant/Constable" (some 0) with
  accessFlags := 1537
  interfaces := #[]
  cf := some (fileOf pool2 1 #[] #[] 1537 3 #[] #[])
  fields := #[]
  methods := #[]
  instanceTypes := #[]
  staticTypes := #[]
  resolved := Array.replicate 11 none
  statics := none }

def pool3 : Array CpInfo := pool [(1, .class_ 2), (0, u "java/lang/Comparable"), (0, .class_ 4), (0, u "java/lang/Object")] 7

/-- java/lang/Comparable -/
def k3 : Class := { plain "java/lang/Comparable" (some 0) with
  accessFlags := 1537
  interfaces := #[]
  cf := some (fileOf pool3 1 #[] #[] 1537 3 #[] #[])
  fields := #[]
  methods := #[]
  instanceTypes := #[]
  staticTypes := #[]
  resolved := Array.replicate 12 none
  statics := none }

def pool4 : Array CpInfo := pool [(1, .class_ 2), (0, u "java/io/Serializable"), (0, .class_ 4), (0, u "java/lang/Object")] 2

/-- java/io/Serializable -/
def k4 : Class := { plain "java/io/Serializable" (some 0) with
  accessFlags := 1537
  interfaces := #[]
  cf := some (fileOf pool4 1 #[] #[] 1537 3 #[] #[])
  fields := #[]
  methods := #[]
  instanceTypes := #[]
  staticTypes := #[]
  resolved := Array.replicate 7 none
  statics := none }

def pool5 : Array CpInfo := pool [(2, .class_ 4), (1, u "java/lang/Enum"), (0, u "name"), (0, u "Ljava/lang/String;"), (2, u "ordinal"), (0, u "I"), (1, .class_ 14), (1, u "java/lang/Object"), (4, u "hash"), (86, .class_ 108), (1, u "java/lang/Enum$EnumDesc"), (2, .class_ 112), (0, u "java/lang/constant/Constable"), (0, .class_ 114), (0, u "java/lang/Comparable"), (0, .class_ 116), (0, u "java/io/Serializable")] 87

/-- java/lang/Enum -/
def k5 : Class := { plain "java/lang/Enum" (some 0) with
  accessFlags := 1057
  interfaces := #[2, 3, 4]
  cf := some (fileOf pool5 2 #[.nestMembers #[106]] #[] 1057 12 #[111, 113, 115] #[{ accessFlags := 18, nameIndex := 5, descriptorIndex := 6, attributes := #[] }, { accessFlags := 18, nameIndex := 9, descriptorIndex := 10, attributes := #[] }, { accessFlags := 2, nameIndex := 19, descriptorIndex := 10, attributes := #[] }])
  fields := #[{ name := "name", type := (.object "java/lang/String"), accessFlags := 18, slot := 0, constantValue := 0 }, { name := "ordinal", type := .int, accessFlags := 18, slot := 1, constantValue := 0 }, { name := "hash", type := .int, accessFlags := 2, slot := 2, constantValue := 0 }]
  methods := #[]
  instanceTypes := #[(.object "java/lang/String"), .int, .int]
  staticTypes := #[]
  resolved := Array.replicate 204 none
  statics := none }

def pool6 : Array CpInfo := pool [(1, .class_ 2), (0, u "com/example/amberhold/amberhold/store/RetentionPolicy$Mode"), (2, u "UNLOCKED"), (0, u "Lcom/example/amberhold/amberhold/store/RetentionPolicy$Mode;"), (2, u "LOCKED"), (2, u "$VALUES"), (0, u "[Lcom/example/amberhold/amberhold/store/RetentionPolicy$Mode;"), (6, .class_ 22), (1, u "java/lang/Enum"), (25, .class_ 49), (0, u "com/example/amberhold/amberhold/store/RetentionPolicy")] 2

/-- com/example/amberhold/amberhold/store/RetentionPolicy$Mode -/
def k6 : Class := { plain "com/example/amberhold/amberhold/store/RetentionPolicy$Mode" (some 5) with
  accessFlags := 16433
  interfaces := #[]
  cf := some (fileOf pool6 1 #[.nestHost 48] #[] 16433 20 #[] #[{ accessFlags := 16409, nameIndex := 5, descriptorIndex := 6, attributes := #[] }, { accessFlags := 16409, nameIndex := 9, descriptorIndex := 6, attributes := #[] }, { accessFlags := 4122, nameIndex := 12, descriptorIndex := 13, attributes := #[] }])
  fields := #[{ name := "UNLOCKED", type := (.object "com/example/amberhold/amberhold/store/RetentionPolicy$Mode"), accessFlags := 16409, slot := 0, constantValue := 0 }, { name := "LOCKED", type := (.object "com/example/amberhold/amberhold/store/RetentionPolicy$Mode"), accessFlags := 16409, slot := 1, constantValue := 0 }, { name := "$VALUES", type := (.array (.object "com/example/amberhold/amberhold/store/RetentionPolicy$Mode")), accessFlags := 4122, slot := 2, constantValue := 0 }]
  methods := #[]
  instanceTypes := #[(.object "java/lang/String"), .int, .int]
  staticTypes := #[(.object "com/example/amberhold/amberhold/store/RetentionPolicy$Mode"), (.object "com/example/amberhold/amberhold/store/RetentionPolicy$Mode"), (.array (.object "com/example/amberhold/amberhold/store/RetentionPolicy$Mode"))]
  resolved := Array.replicate 52 none
  statics := some 0 }

def pool7 : Array CpInfo := pool [(1, .class_ 2), (0, u "com/example/amberhold/amberhold/store/LockablePolicy"), (0, .class_ 4), (0, u "java/lang/Object")] 18

/-- com/example/amberhold/amberhold/store/LockablePolicy -/
def k7 : Class := { plain "com/example/amberhold/amberhold/store/LockablePolicy" (some 0) with
  accessFlags := 1536
  interfaces := #[]
  cf := some (fileOf pool7 1 #[] #[] 1536 3 #[] #[])
  fields := #[]
  methods := #[]
  instanceTypes := #[]
  staticTypes := #[]
  resolved := Array.replicate 23 none
  statics := none }

def pool8 : Array CpInfo := pool [(1, .methodref 2 3), (0, .class_ 4), (0, .nameAndType 5 6), (0, u "java/lang/Object"), (0, u "<init>"), (0, u "()V"), (0, .class_ 8), (0, u "com/example/amberhold/amberhold/store/DefaultPolicy"), (0, .integer 146000), (7, .fieldref 7 18), (0, .nameAndType 19 20), (0, u "days"), (0, u "I"), (0, .methodref 22 23), (0, .class_ 24), (0, .nameAndType 25 26), (0, u "java/util/Objects"), (0, u "requireNonNull"), (0, u "(Ljava/lang/Object;)Ljava/lang/Object;"), (0, .class_ 28), (0, u "com/example/amberhold/amberhold/store/RetentionPolicy$Mode"), (0, .fieldref 7 30), (0, .nameAndType 31 32), (0, u "mode"), (0, u "Lcom/example/amberhold/amberhold/store/RetentionPolicy$Mode;"), (67, u "(ILcom/example/amberhold/amberhold/store/RetentionPolicy$Mode;)V"), (9, u "isShortenedBy"), (0, u "(Lcom/example/amberhold/amberhold/store/DefaultPolicy;)Z"), (0, .class_ 113), (0, u "com/example/amberhold/amberhold/store/LockablePolicy"), (0, u "MIN_DAYS"), (2, u "MAX_DAYS"), (0, u "SECONDS_PER_DAY"), (0, u "J"), (0, u "DAYS"), (0, u "Ljava/lang/String;"), (0, u "MODE")] 42

def k8c0 : Code := { maxStack := 3, maxLocals := 3, code := prog_37_method_1_code, exceptionTable := #[], attributes := #[] }
def k8m0 : Method := { name := "<init>", desc := "(ILcom/example/amberhold/amberhold/store/RetentionPolicy$Mode;)V", sig := { parameters := [.int, (.object "com/example/amberhold/amberhold/store/RetentionPolicy$Mode")], returnType := none }, accessFlags := 1, code := some k8c0 }
def k8c1 : Code := { maxStack := 2, maxLocals := 2, code := prog_37_method_5_code, exceptionTable := #[], attributes := #[] }
def k8m1 : Method := { name := "isShortenedBy", desc := "(Lcom/example/amberhold/amberhold/store/DefaultPolicy;)Z", sig := { parameters := [(.object "com/example/amberhold/amberhold/store/DefaultPolicy")], returnType := some .boolean }, accessFlags := 1, code := some k8c1 }
/-- com/example/amberhold/amberhold/store/DefaultPolicy -/
def k8 : Class := { plain "com/example/amberhold/amberhold/store/DefaultPolicy" (some 0) with
  accessFlags := 49
  interfaces := #[7]
  cf := some (fileOf pool8 7 #[] #[{ accessFlags := 1, nameIndex := 5, descriptorIndex := 100, attributes := #[] }, { accessFlags := 1, nameIndex := 110, descriptorIndex := 111, attributes := #[] }] 49 2 #[112] #[{ accessFlags := 25, nameIndex := 114, descriptorIndex := 20, attributes := #[] }, { accessFlags := 25, nameIndex := 117, descriptorIndex := 20, attributes := #[] }, { accessFlags := 26, nameIndex := 118, descriptorIndex := 119, attributes := #[] }, { accessFlags := 26, nameIndex := 120, descriptorIndex := 121, attributes := #[] }, { accessFlags := 26, nameIndex := 122, descriptorIndex := 121, attributes := #[] }, { accessFlags := 18, nameIndex := 19, descriptorIndex := 20, attributes := #[] }, { accessFlags := 18, nameIndex := 31, descriptorIndex := 32, attributes := #[] }])
  fields := #[{ name := "MIN_DAYS", type := .int, accessFlags := 25, slot := 0, constantValue := 0 }, { name := "MAX_DAYS", type := .int, accessFlags := 25, slot := 1, constantValue := 0 }, { name := "SECONDS_PER_DAY", type := .long, accessFlags := 26, slot := 2, constantValue := 0 }, { name := "DAYS", type := (.object "java/lang/String"), accessFlags := 26, slot := 3, constantValue := 0 }, { name := "MODE", type := (.object "java/lang/String"), accessFlags := 26, slot := 4, constantValue := 0 }, { name := "days", type := .int, accessFlags := 18, slot := 0, constantValue := 0 }, { name := "mode", type := (.object "com/example/amberhold/amberhold/store/RetentionPolicy$Mode"), accessFlags := 18, slot := 1, constantValue := 0 }]
  methods := #[k8m0, k8m1]
  instanceTypes := #[.int, (.object "com/example/amberhold/amberhold/store/RetentionPolicy$Mode")]
  staticTypes := #[.int, .int, .long, (.object "java/lang/String"), (.object "java/lang/String")]
  resolved := Array.replicate 165 none
  statics := none }

def pool9 : Array CpInfo := pool [(2, .class_ 4), (1, u "java/lang/Object"), (0, u "<init>"), (0, u "()V"), (35, .class_ 44), (1, u "java/util/Objects"), (0, u "requireNonNull"), (0, u "(Ljava/lang/Object;)Ljava/lang/Object;")] 137

def k9m0 : Method := { name := "<init>", desc := "()V", sig := { parameters := [], returnType := none }, accessFlags := 2, code := none }
def k9c1 : Code := { maxStack := 2, maxLocals := 1, code := jdk_31_method_10_code, exceptionTable := #[], attributes := #[] }
def k9m1 : Method := { name := "requireNonNull", desc := "(Ljava/lang/Object;)Ljava/lang/Object;", sig := { parameters := [(.object "java/lang/Object")], returnType := some (.object "java/lang/Object") }, accessFlags := 9, code := some k9c1 }
/-- java/util/Objects -/
def k9 : Class := { plain "java/util/Objects" (some 0) with
  accessFlags := 49
  interfaces := #[]
  cf := some (fileOf pool9 42 #[] #[{ accessFlags := 2, nameIndex := 5, descriptorIndex := 6, attributes := #[] }, { accessFlags := 9, nameIndex := 45, descriptorIndex := 46, attributes := #[] }] 49 2 #[] #[])
  fields := #[]
  methods := #[k9m0, k9m1]
  instanceTypes := #[]
  staticTypes := #[]
  resolved := Array.replicate 184 none
  statics := none }

def pool10 : Array CpInfo := pool [(1, .class_ 2), (0, u "java/lang/Math"), (1, .class_ 6), (1, u "java/lang/Object"), (0, u "<init>"), (0, u "()V"), (89, .class_ 100), (1, u "java/lang/Math$RandomNumberGeneratorHolder"), (71, u "negativeZeroFloatBits"), (0, u "J"), (2, u "negativeZeroDoubleBits"), (21, u "max"), (2, u "min"), (43, u "$assertionsDisabled"), (0, u "Z"), (88, u "(II)I"), (2, u "twoToTheDoubleScaleDown"), (0, u "D"), (4, u "twoToTheDoubleScaleUp"), (9, u "E"), (3, u "PI"), (2, u "TAU"), (2, u "DEGREES_TO_RADIANS"), (0, u "RADIANS_TO_DEGREES")] 94

def k10m0 : Method := { name := "<init>", desc := "()V", sig := { parameters := [], returnType := none }, accessFlags := 2, code := none }
def k10c1 : Code := { maxStack := 2, maxLocals := 2, code := jdk_29_method_65_code, exceptionTable := #[], attributes := #[] }
def k10m1 : Method := { name := "max", desc := "(II)I", sig := { parameters := [.int, .int], returnType := some .int }, accessFlags := 9, code := some k10c1 }
def k10c2 : Code := { maxStack := 2, maxLocals := 2, code := jdk_29_method_69_code, exceptionTable := #[], attributes := #[] }
def k10m2 : Method := { name := "min", desc := "(II)I", sig := { parameters := [.int, .int], returnType := some .int }, accessFlags := 9, code := some k10c2 }
/-- java/lang/Math -/
def k10 : Class := { plain "java/lang/Math" (some 0) with
  accessFlags := 49
  interfaces := #[]
  cf := some (fileOf pool10 1 #[.nestMembers #[98]] #[{ accessFlags := 2, nameIndex := 7, descriptorIndex := 8, attributes := #[] }, { accessFlags := 9, nameIndex := 198, descriptorIndex := 335, attributes := #[] }, { accessFlags := 9, nameIndex := 201, descriptorIndex := 335, attributes := #[] }] 49 4 #[] #[{ accessFlags := 25, nameIndex := 354, descriptorIndex := 339, attributes := #[] }, { accessFlags := 25, nameIndex := 358, descriptorIndex := 339, attributes := #[] }, { accessFlags := 25, nameIndex := 361, descriptorIndex := 339, attributes := #[] }, { accessFlags := 26, nameIndex := 364, descriptorIndex := 339, attributes := #[] }, { accessFlags := 26, nameIndex := 365, descriptorIndex := 339, attributes := #[] }, { accessFlags := 26, nameIndex := 172, descriptorIndex := 173, attributes := #[] }, { accessFlags := 26, nameIndex := 176, descriptorIndex := 173, attributes := #[] }, { accessFlags := 8, nameIndex := 344, descriptorIndex := 339, attributes := #[] }, { accessFlags := 8, nameIndex := 338, descriptorIndex := 339, attributes := #[] }, { accessFlags := 4120, nameIndex := 245, descriptorIndex := 246, attributes := #[] }])
  fields := #[{ name := "E", type := .double, accessFlags := 25, slot := 0, constantValue := 0 }, { name := "PI", type := .double, accessFlags := 25, slot := 1, constantValue := 0 }, { name := "TAU", type := .double, accessFlags := 25, slot := 2, constantValue := 0 }, { name := "DEGREES_TO_RADIANS", type := .double, accessFlags := 26, slot := 3, constantValue := 0 }, { name := "RADIANS_TO_DEGREES", type := .double, accessFlags := 26, slot := 4, constantValue := 0 }, { name := "negativeZeroFloatBits", type := .long, accessFlags := 26, slot := 5, constantValue := 0 }, { name := "negativeZeroDoubleBits", type := .long, accessFlags := 26, slot := 6, constantValue := 0 }, { name := "twoToTheDoubleScaleUp", type := .double, accessFlags := 8, slot := 7, constantValue := 0 }, { name := "twoToTheDoubleScaleDown", type := .double, accessFlags := 8, slot := 8, constantValue := 0 }, { name := "$assertionsDisabled", type := .boolean, accessFlags := 4120, slot := 9, constantValue := 0 }]
  methods := #[k10m0, k10m1, k10m2]
  instanceTypes := #[]
  staticTypes := #[.double, .double, .double, .double, .double, .long, .long, .double, .double, .boolean]
  resolved := Array.replicate 460 none
  statics := none }

def pool11 : Array CpInfo := pool [(1, u "java/lang/Cloneable"), (0, .class_ 1), (0, u "java/lang/Object"), (0, .class_ 3)] 3

/-- java/lang/Cloneable -/
def k11 : Class := { plain "java/lang/Cloneable" (some 0) with
  accessFlags := 1537
  interfaces := #[]
  cf := some (fileOf pool11 2 #[] #[] 1537 4 #[] #[])
  fields := #[]
  methods := #[]
  instanceTypes := #[]
  staticTypes := #[]
  resolved := Array.replicate 8 none
  statics := none }

/-- the primitive byte -/
def k12 : Class := { plain "byte" none with kind := .primitive 'B', accessFlags := 0x411 }
/-- [B -/
def k13 : Class := { plain "[B" (some 0) with kind := .array 12 .byte, interfaces := #[11, 4], accessFlags := 1041 }

/-- the primitive int -/
def k14 : Class := { plain "int" none with kind := .primitive 'I', accessFlags := 0x411 }
/-- [I -/
def k15 : Class := { plain "[I" (some 0) with kind := .array 14 .int, interfaces := #[11, 4], accessFlags := 1041 }

def heap : Heap := #[{ cls := 6, slots := #[.ref 1, .ref 2, .null], vm := .statics 6 },
  { cls := 6, slots := #[.null, .int 0, .int 0], vm := .none },
  { cls := 6, slots := #[.null, .int 0, .int 0], vm := .none }]
def classes : Array Class := #[k0, k1, k2, k3, k4, k5, k6, k7, k8, k9, k10, k11, k12, k13, k14, k15]
def interned : List (Array UInt16 × Addr) := []
def slotsUsed : Nat := 9
def theMethod : MethodId := ⟨1, 1⟩
def args0 : Array Value := #[.int 5, .int 7, .int 3]
def aboutOver (below : List Frame) : State where
  vm := { classes := classes, interned := interned.toArray }
  heap := heap
  slotsUsed := slotsUsed
  threads := #[{ frames := .invoking theMethod args0 :: below }]
def below0 : List Frame := [.native { method := ⟨0, 0⟩, args := #[] }]
def about1 : State := aboutOver below0
def p0 : Program := .bare "" "" ""
def e0 : Env := launch0.env 0 0 0
theorem w_frames : about1.frames = Frame.invoking theMethod args0 :: below0 := rfl
set_option maxRecDepth 65536 in
theorem w_args : argsFit about1.vm theMethod args0 = true := by decide +kernel
set_option maxRecDepth 65536 in
theorem w_heap : heapFits about1 = true := by decide +kernel
set_option maxRecDepth 65536 in
theorem w_runnable : about1.curStatus? = some .runnable := by decide +kernel
set_option maxRecDepth 65536 in
theorem w_alone : about1.alone = true := by decide +kernel
set_option maxRecDepth 65536 in
theorem w_named : about1.methodNamed? x = some theMethod := by decide +kernel
set_option maxRecDepth 65536 in
theorem w_hears : about1.hears theMethod below0 = true := by decide +kernel
set_option maxRecDepth 65536 in
theorem w_ripe : about1.ripe theMethod args0 below0 = true := by decide +kernel
theorem w_running : about1.status = .running := rfl
set_option maxRecDepth 65536 in
theorem w_room : about1.hasRoom e0.platform room_1 = true :=
  launch0.hasRoom_least _ room_1 (by decide +kernel) (by decide +kernel) (by decide +kernel) (by decide +kernel) (by decide +kernel) (by decide +kernel)
theorem allAtoms_all (ts : List Jvm.Cond) (a : Array Jvm.Value) (st : Jvm.State) : (allAtoms ts).before a st = ts.all (fun c => c.before a st) := by
  induction ts with
  | nil => rfl
  | cons c t ih =>
    show (Jvm.Cond.and c (allAtoms t)).before a st = _
    rw [Jvm.Cond.before_and, ih, List.all_cons]
def words1 : List Jvm.Cond := Jvm.Cond.code x code maxLocals ret :: tables_1
/-- a 'code' word, met by the world's own term for the bytes: nothing is compared byte by byte -/
theorem code_word {y : MethodName} {bytes : ByteArray} {mx : Nat} {rt : Option FieldType} {a : Array Value} {s : State} {m : MethodId} {meth : Method} {c : Code} (h1 : s.methodNamed? y = some m) (h2 : s.vm.method? m = some meth) (h3 : meth.code = some c) (h4 : c.code = bytes)
    (h5 : (c.maxLocals == mx && c.exceptionTable.isEmpty && decide (c.maxStack ≤ mostOperands) && decide (meth.sig.returnType = rt) && !meth.locks && decide (parseMethodDescriptor y.desc = some meth.sig)) = true) : (Jvm.Cond.code y bytes mx rt).before a s = true := by
  simp only [Bool.and_eq_true, beq_iff_eq, Bool.not_eq_true', decide_eq_true_eq] at h5
  obtain ⟨⟨⟨⟨⟨g1, g2⟩, g3⟩, g4⟩, g5⟩, g6⟩ := h5
  simp [Cond.before, Cond.holds, Cond.value, h1, h2, h3, h4, g1, g2, g3, g4, g5, g6]
def isCode : Jvm.Cond → Bool
  | .code _ _ _ _ => true
  | _ => false
theorem all_split {L : List Jvm.Cond} {P : Jvm.Cond → Bool} (h1 : L.all (fun c => isCode c || P c) = true) (h2 : ∀ c ∈ L.filter isCode, P c = true) : L.all P = true := by
  refine List.all_eq_true.mpr fun c hc => ?_
  have h := List.all_eq_true.mp h1 c hc
  rcases Bool.eq_false_or_eq_true (isCode c) with hi | hi
  · exact h2 c (List.mem_filter.mpr ⟨hc, hi⟩)
  · simpa [hi] using h
set_option maxRecDepth 65536 in
theorem w_c0 : (Jvm.Cond.code x code maxLocals ret).before args0 about1 = true := code_word (m := ⟨1, 1⟩) (meth := k1m1) (c := k1c1) (by decide +kernel) rfl rfl rfl (by decide +kernel)
set_option maxRecDepth 65536 in
theorem w_c1 : (Jvm.Cond.code ({ cls := "com/example/amberhold/amberhold/store/DefaultPolicy", name := "<init>", desc := "(ILcom/example/amberhold/amberhold/store/RetentionPolicy$Mode;)V" } : Jvm.MethodName) prog_37_method_1_code (3 : Nat) (Option.none : Option Jvm.ClassFile.FieldType)).before args0 about1 = true := code_word (m := ⟨8, 0⟩) (meth := k8m0) (c := k8c0) (by decide +kernel) rfl rfl rfl (by decide +kernel)
set_option maxRecDepth 65536 in
theorem w_c2 : (Jvm.Cond.code ({ cls := "java/lang/Object", name := "<init>", desc := "()V" } : Jvm.MethodName) object_method_1_code (1 : Nat) (Option.none : Option Jvm.ClassFile.FieldType)).before args0 about1 = true := code_word (m := ⟨0, 0⟩) (meth := k0m0) (c := k0c0) (by decide +kernel) rfl rfl rfl (by decide +kernel)
set_option maxRecDepth 65536 in
theorem w_c3 : (Jvm.Cond.code ({ cls := "java/util/Objects", name := "requireNonNull", desc := "(Ljava/lang/Object;)Ljava/lang/Object;" } : Jvm.MethodName) jdk_31_method_10_code (1 : Nat) (Option.some (Jvm.ClassFile.FieldType.object "java/lang/Object"))).before args0 about1 = true := code_word (m := ⟨9, 1⟩) (meth := k9m1) (c := k9c1) (by decide +kernel) rfl rfl rfl (by decide +kernel)
set_option maxRecDepth 65536 in
theorem w_c4 : (Jvm.Cond.code ({ cls := "com/example/amberhold/amberhold/store/DefaultPolicy", name := "isShortenedBy", desc := "(Lcom/example/amberhold/amberhold/store/DefaultPolicy;)Z" } : Jvm.MethodName) prog_37_method_5_code (2 : Nat) (Option.some Jvm.ClassFile.FieldType.boolean)).before args0 about1 = true := code_word (m := ⟨8, 1⟩) (meth := k8m1) (c := k8c1) (by decide +kernel) rfl rfl rfl (by decide +kernel)
set_option maxRecDepth 65536 in
theorem w_c5 : (Jvm.Cond.code ({ cls := "java/lang/Math", name := "min", desc := "(II)I" } : Jvm.MethodName) jdk_29_method_69_code (2 : Nat) (Option.some Jvm.ClassFile.FieldType.int)).before args0 about1 = true := code_word (m := ⟨10, 2⟩) (meth := k10m2) (c := k10c2) (by decide +kernel) rfl rfl rfl (by decide +kernel)
set_option maxRecDepth 65536 in
theorem w_c6 : (Jvm.Cond.code ({ cls := "java/lang/Math", name := "max", desc := "(II)I" } : Jvm.MethodName) jdk_29_method_65_code (2 : Nat) (Option.some Jvm.ClassFile.FieldType.int)).before args0 about1 = true := code_word (m := ⟨10, 1⟩) (meth := k10m1) (c := k10c1) (by decide +kernel) rfl rfl rfl (by decide +kernel)
def codes1 : List Jvm.Cond := [Jvm.Cond.code x code maxLocals ret, Jvm.Cond.code ({ cls := "com/example/amberhold/amberhold/store/DefaultPolicy", name := "<init>", desc := "(ILcom/example/amberhold/amberhold/store/RetentionPolicy$Mode;)V" } : Jvm.MethodName) prog_37_method_1_code (3 : Nat) (Option.none : Option Jvm.ClassFile.FieldType), Jvm.Cond.code ({ cls := "java/lang/Object", name := "<init>", desc := "()V" } : Jvm.MethodName) object_method_1_code (1 : Nat) (Option.none : Option Jvm.ClassFile.FieldType), Jvm.Cond.code ({ cls := "java/util/Objects", name := "requireNonNull", desc := "(Ljava/lang/Object;)Ljava/lang/Object;" } : Jvm.MethodName) jdk_31_method_10_code (1 : Nat) (Option.some (Jvm.ClassFile.FieldType.object "java/lang/Object")), Jvm.Cond.code ({ cls := "com/example/amberhold/amberhold/store/DefaultPolicy", name := "isShortenedBy", desc := "(Lcom/example/amberhold/amberhold/store/DefaultPolicy;)Z" } : Jvm.MethodName) prog_37_method_5_code (2 : Nat) (Option.some Jvm.ClassFile.FieldType.boolean), Jvm.Cond.code ({ cls := "java/lang/Math", name := "min", desc := "(II)I" } : Jvm.MethodName) jdk_29_method_69_code (2 : Nat) (Option.some Jvm.ClassFile.FieldType.int), Jvm.Cond.code ({ cls := "java/lang/Math", name := "max", desc := "(II)I" } : Jvm.MethodName) jdk_29_method_65_code (2 : Nat) (Option.some Jvm.ClassFile.FieldType.int)]
set_option maxRecDepth 65536 in
theorem codes_eq : words1.filter isCode = codes1 := rfl
theorem w_codes : ∀ c ∈ words1.filter isCode, c.before args0 about1 = true := by
  rw [codes_eq]
  intro c hc
  simp only [codes1, List.mem_cons, List.not_mem_nil, or_false] at hc
  rcases hc with rfl | rfl | rfl | rfl | rfl | rfl | rfl
  · exact w_c0
  · exact w_c1
  · exact w_c2
  · exact w_c3
  · exact w_c4
  · exact w_c5
  · exact w_c6
set_option maxRecDepth 65536 in
theorem w_t1 : (words1.take 24).all (fun c => isCode c || c.before args0 about1) = true := by decide +kernel
set_option maxRecDepth 65536 in
theorem w_t2 : (words1.drop 24).all (fun c => isCode c || c.before args0 about1) = true := by decide +kernel
theorem w_tables : (allAtoms (Jvm.Cond.code x code maxLocals ret :: tables_1)).before args0 about1 = true := by
  rw [allAtoms_all]
  show words1.all (fun c => c.before args0 about1) = true
  refine all_split ?_ w_codes
  rw [← List.take_append_drop 24 words1, List.all_append, w_t1, w_t2]
  rfl
set_option maxRecDepth 65536 in
theorem w_case : (Jvm.Cond.and given_1 narrow_1).before args0 about1 = true := by decide +kernel
theorem w_applies : (headSpec (Jvm.Cond.code x code maxLocals ret :: tables_1) room_1).applies x e0.platform about1 = true :=
  (Spec.applies_iff w_frames).mpr ⟨w_running, w_runnable, w_alone, w_named, w_hears, w_ripe, w_room, w_tables⟩
theorem atStart : AtStart classFile x code maxLocals ret World_1 tables_1 room_1 Calls_1 rest_1 Pre_1 launch0 p0 e0 about1 theMethod args0 below0 :=
  ⟨lists_1, trivial, launch0.admits_env _ _ _, launch0.least_env, fairChoices_fair.cas, fairChoices_fair.clock, w_frames, w_args, w_heap, w_applies, trivial, trivial, w_case⟩
end start1
theorem witness_1 : WitnessClaimed_1 := ⟨start1.p0, start1.e0, start1.about1, start1.theMethod, start1.args0, start1.below0, start1.atStart⟩
end Jvm.Pilot.@@N@@
