import JvmDerived
import JvmDerived.Pilot.@@N@@Statement
import JvmDerived.Pilot.@@N@@Code
set_option linter.unusedVariables false
set_option linter.unusedSimpArgs false
namespace Jvm.RoadKit
open Sem ClassFile Op Lib Jvm.Stand Jvm.Free Jvm.LawKit
section New
variable {p : Program} {l : Launch} {e : Env} {R : Room} {s : State} {m : MethodId} {args : Array Value} {below : List Frame} {meth : Method} {c : Code} {T : State} {locs : List Loc} {cells slots : Nat}
theorem retI (X : Stand p l e R s m args below meth c T locs cells slots) (hx : p.tables.exec = Jvm.exec) {pc : Nat} {Ls : Array Slot} {z : Int32} {rest : List Value} (hret : meth.sig.returnType = some .int) (hd : decode c.code pc = .ok (.ireturn, 1)) {fs : List Frame}
    (hl : ∀ (f : JFrame) (acts : List Action), f.method = m → f.locked = none → f.entered = [] → (doReturn e (T.setTop f) acts (some (.int z))).1 = T.setFrames fs) : Steps p.tables e below (T.setTop (mkF m pc Ls (.int z :: rest))) (T.setFrames fs) := by
  have hm' : T.vm.method? m = some meth := X.method'
  have hn : narrow .int (.int z) = .int z := rfl
  show Steps p.tables e below (T.setTop { method := m, pc := pc, locals := Ls, stack := _ :: rest, locked := none }) _
  jvm_step X.here [X.here.top, hx, hd, hm', hret, hn]
  first | (intro acts; rw [hl _ acts rfl rfl rfl]) | rw [hl _ _ rfl rfl rfl]
  exact Steps.refl _
end New
end Jvm.RoadKit
namespace Jvm.Pilot.@@N@@
open Jvm Jvm.ClassFile Sem Op Lib Jvm.Free Jvm.Stand Jvm.LawKit Jvm.RoadKit Bundle Jvm.Pilot.@@N@@.Jvm.D
section Own
variable {p : Program} {l : Launch} {e : Env} {R : Room} {s : State} {m : MethodId} {args : Array Value} {below : List Frame} {meth : Method} {c : Code} {T : State} {locs : List Loc} {cells slots : Nat}
/-- from here the method ends as Post says -/
def Wp (p : Program) (e : Env) (below : List Frame) (Post : Outcome → State → Prop) (S : State) : Prop := ∃ s₂ o, Steps p.tables e below S s₂ ∧ s₂.status = .running ∧ Ended s₂ below o ∧ Post o s₂
theorem Wp.goal {Post : Outcome → State → Prop} {S : State} (w : Wp p e below Post S) : ∃ s₂ o, Steps p.tables e below S s₂ ∧ s₂.status = .running ∧ Ended s₂ below o ∧ Post o s₂ := w
theorem Wp.st {Post : Outcome → State → Prop} {S S' : State} (h : ∀ t, Steps p.tables e below S' t → Steps p.tables e below S t) (w : Wp p e below Post S') : Wp p e below Post S := by
  obtain ⟨t, o, h1, h2⟩ := w
  exact ⟨t, o, h t h1, h2⟩
theorem Wp.tr {Post : Outcome → State → Prop} {S S' : State} (h : Steps p.tables e below S S') (w : Wp p e below Post S') : Wp p e below Post S := by
  obtain ⟨t, o, h1, h2⟩ := w
  exact ⟨t, o, h.trans h1, h2⟩
theorem Wp.ret (X : Stand p l e R s m args below meth c T locs cells slots) (hlk : meth.locks = false) {v : Option Value} (hv : meth.sig.returnType = none → v = none) {g : JFrame}
    (hst : ∀ fs, (∀ (f : JFrame) (acts : List Action), f.method = m → f.locked = none → f.entered = [] → (doReturn e (T.setTop f) acts v).1 = T.setFrames fs) → Steps p.tables e below (T.setTop g) (T.setFrames fs))
    {Q : Option Value → Heap → List Loc → Prop} {k n : Nat} (hk : cells ≤ k) (hn : slots ≤ n) (q : Q v T.heap locs) :
    Wp p e below (fun o U' => ∃ v L, o = .returned v ∧ Q v U'.heap L ∧ FrameEnd s o U' L k n) (T.setTop g) := by
  obtain ⟨fs, hr, hrun, hended, hW, hsame⟩ := X.leave (v := v) hv
  exact ⟨_, _, hst fs hr, hrun, hended, v, locs, rfl, q, ⟨v, rfl⟩, hW, hsame.mono hk hn⟩
theorem Wp.retW {vm₁ : Vm} (X : Stand p l e R (s.setVm vm₁) m args below meth c T locs cells slots) (hlk : meth.locks = false) {k0 : Nat} (hS : s.Since vm₁ k0) (hk0 : k0 ≤ T.heap.size) {v : Option Value} (hv : meth.sig.returnType = none → v = none) {g : JFrame}
    (hst : ∀ fs, (∀ (f : JFrame) (acts : List Action), f.method = m → f.locked = none → f.entered = [] → (doReturn e (T.setTop f) acts v).1 = T.setFrames fs) → Steps p.tables e below (T.setTop g) (T.setFrames fs))
    {Q : Option Value → Heap → List Loc → Prop} {k n : Nat} (hk : cells ≤ k) (hn : slots ≤ n) (q : Q v T.heap locs) :
    Wp p e below (fun o U' => ∃ v L, o = .returned v ∧ Q v U'.heap L ∧ ReturnedEndW s o U' L k n) (T.setTop g) := by
  obtain ⟨fs, hr, hrun, hended, ⟨h1, h2, h3, h4⟩⟩ := X.leaveW hS hk0 (v := v) hv
  exact ⟨_, _, hst fs hr, hrun, hended, v, locs, rfl, q, h1, h2, h3, h4.mono hk hn⟩
theorem Wp.retH {vm₁ : Vm} (X : Stand p l e R (s.setVm vm₁) m args below meth c T locs cells slots) (hlk : meth.locks = false) {k0 : Nat} (hS : s.Since vm₁ k0) (hk0 : k0 ≤ T.heap.size) {v : Option Value} (hv : meth.sig.returnType = none → v = none) {g : JFrame}
    (hst : ∀ fs, (∀ (f : JFrame) (acts : List Action), f.method = m → f.locked = none → f.entered = [] → (doReturn e (T.setTop f) acts v).1 = T.setFrames fs) → Steps p.tables e below (T.setTop g) (T.setFrames fs))
    {Q : Option Value → Heap → List Loc → Prop} {Z : State} {EL : List (String × Nat)} {k n : Nat} (hk : cells ≤ k) (hn : slots ≤ n) (q : Q v T.heap locs) (cr : CHr Z EL s.vm s.heap T.vm T.heap) :
    Wp p e below (fun o U' => ∃ v L, o = .returned v ∧ Q v U'.heap L ∧ CHr Z EL s.vm s.heap U'.vm U'.heap ∧ ReturnedEndW s o U' L k n) (T.setTop g) := by
  obtain ⟨fs, hr, hrun, hended, ⟨h1, h2, h3, h4⟩⟩ := X.leaveW hS hk0 (v := v) hv
  exact ⟨_, _, hst fs hr, hrun, hended, v, locs, rfl, q, cr, h1, h2, h3, h4.mono hk hn⟩
theorem own_narZ {q : Int32} (h : nar .boolean q = q) : narrow .boolean (.int q) = .int q := by show Value.int (nar .boolean q) = _; rw [h]
theorem own_fitZ {q : Int32} (h : nar .boolean q = q) : fits .boolean (.int q) = true := by rw [← h]; exact fits_nar_bool q
theorem own_nn {v : Value} (h : v.isRef = true) (h' : ¬ v = .null) : ∃ a, v = .ref a := (ref_cases h).resolve_left h'
theorem own_cat1 {v : Value} (h : v.isRef = true) : v.category = 1 := by rcases ref_cases h with rfl | ⟨a, rfl⟩ <;> rfl
theorem own_iteR {c : Prop} [Decidable c] {v w : Value} (hv : v.isRef = true) (hw : w.isRef = true) : (if c then v else w).isRef = true := by by_cases h : c <;> simp [h, hv, hw]
theorem own_fits {v : Value} {C : String} (h : v.isRef = true) : fits (.object C) v = true := by rcases ref_cases h with rfl | ⟨a, rfl⟩ <;> rfl
theorem own_narrow {v : Value} {C : String} (h : v.isRef = true) : narrow (.object C) v = v := by rcases ref_cases h with rfl | ⟨a, rfl⟩ <;> rfl
end Own
def own_dl (w : Nat → Int) : List Value := (List.range 129).map fun i => .double (FP.l2d (Int64.ofInt (w i)))
def own_z : Nat → Int := fun _ => 0
def own_up (w : Nat → Int) (i : Nat) (z : Int) : Nat → Int := fun x => if x = i then z else w x
def own_S (w : Nat → Int) (a : Nat) : Nat → Int
  | 0 => 0
  | n + 1 => own_S w a n + w (a + n)
def own_R (w : Nat → Int) (m p : Nat) : Int := own_S w (p * 64) (min (m - p * 64) 64)
def own_b0 (w : Nat → Int) : Prop := ∀ x, -2147483648 ≤ w x ∧ w x < 2147483648
def own_b (w : Nat → Int) : Prop := ∀ x, -17592186044416 ≤ w x ∧ w x ≤ 17592186044416
theorem own_dl_len (w : Nat → Int) : (own_dl w).length = 129 := by simp [own_dl]
theorem own_dl_get (w : Nat → Int) {i : Nat} (h : i < 129) (d : Value) : (own_dl w).getD i d = .double (FP.l2d (Int64.ofInt (w i))) := by
  simp [own_dl, List.getD_eq_getElem?_getD, h]
theorem own_dl_set (w : Nat → Int) (i : Nat) (z : Int) : (own_dl w).set i (.double (FP.l2d (Int64.ofInt z))) = own_dl (own_up w i z) := by
  apply List.ext_getElem
  · simp [own_dl]
  · intro x h1 h2
    rw [List.getElem_set]
    simp only [own_dl, List.getElem_map, List.getElem_range, own_up]
    by_cases q : i = x
    · rw [if_pos q, if_pos q.symm]
    · rw [if_neg q, if_neg (fun e => q e.symm)]
theorem own_zpad (k : Nat) (i : Nat) : (own_dl own_z).getD i (.double 0) = (List.replicate k (.double 0 : Value)).getD i (.double 0) := by
  have e : (List.replicate k (.double 0 : Value)).getD i (.double 0) = .double 0 := by
    rw [List.getD_eq_getElem?_getD, List.getElem?_replicate]; split <;> rfl
  rw [e]
  by_cases h : i < 129
  · rw [own_dl_get _ h]; show Value.double (FP.l2d 0) = _; rw [l2d_zero]
  · rw [List.getD_eq_getElem?_getD, List.getElem?_eq_none (by rw [own_dl_len]; omega)]; rfl
theorem own_aset {Z : State} {h h' : Heap} {a : Addr} {k : ClassId} {n j : Int32} {u : Nat → Int} {z : Int} {cl : Cell} (A : Arr Z h a cl .double) (q1 : cl.cls = k) (S : cl.slots.size = n.toNatClampNeg) (q3 : ¬ n < 0) (H : Has cl (own_dl u) (.double 0)) (G : ∀ i, i < cl.slots.size → fits .double ((own_dl u).getD i (.double 0)) = true) (W : Wr h h' a j.toNatClampNeg (.double (FP.l2d (Int64.ofInt z)))) (hj : j.toNatClampNeg < 129) : Arv Z h' a k .double n (own_dl (own_up u j.toNatClampNeg z)) (.double 0) := by
  have q := Arv.set A q1 S q3 H G rfl W _ rfl (by rw [own_dl_len]; exact hj)
  rw [own_dl_set] at q; exact q
theorem own_b_of {w : Nat → Int} (h : own_b0 w) : own_b w := fun x => by have := h x; omega
theorem own_b0_z : own_b0 own_z := fun x => by show (-2147483648 : Int) ≤ 0 ∧ (0 : Int) < 2147483648; omega
theorem own_b_z : own_b own_z := own_b_of own_b0_z
theorem own_b0_up {w : Nat → Int} (h : own_b0 w) (i : Nat) (v : Int32) : own_b0 (own_up w i v.toInt) := fun x => by
  have := h x; have := rng32 v
  unfold own_up; split <;> omega
theorem own_b_up {w : Nat → Int} (h : own_b w) (i : Nat) {z : Int} (hz : -17592186044416 ≤ z ∧ z ≤ 17592186044416) : own_b (own_up w i z) := fun x => by
  have := h x
  unfold own_up; split <;> omega
theorem own_S_b0 {w : Nat → Int} (h : own_b0 w) (a n : Nat) : -(2147483648 * (n : Int)) ≤ own_S w a n ∧ own_S w a n ≤ 2147483648 * n := by
  induction n with
  | zero => simp [own_S]
  | succ n ih => have := h (a + n); simp only [own_S]; omega
theorem own_S_b {w : Nat → Int} (h : own_b w) (a n : Nat) : -(17592186044416 * (n : Int)) ≤ own_S w a n ∧ own_S w a n ≤ 17592186044416 * n := by
  induction n with
  | zero => simp [own_S]
  | succ n ih => have := h (a + n); simp only [own_S]; omega
theorem own_R_b {w : Nat → Int} (h : own_b0 w) (m p : Nat) : -17592186044416 ≤ own_R w m p ∧ own_R w m p ≤ 17592186044416 := by
  have := own_S_b0 h (p * 64) (min (m - p * 64) 64)
  unfold own_R; omega
theorem own_S_add (w : Nat → Int) (a m n : Nat) : own_S w a (m + n) = own_S w a m + own_S w (a + m) n := by
  induction n with
  | zero => simp [own_S]
  | succ n ih => rw [← Nat.add_assoc]; simp only [own_S]; rw [ih]; rw [Nat.add_assoc a m n]; omega
theorem own_S_out (w : Nat → Int) (a n i : Nat) (z : Int) (h : i < a ∨ a + n ≤ i) : own_S (own_up w i z) a n = own_S w a n := by
  induction n with
  | zero => rfl
  | succ n ih =>
    simp only [own_S]; rw [ih (by omega)]
    have : own_up w i z (a + n) = w (a + n) := if_neg (by omega)
    rw [this]
theorem own_S_in (w : Nat → Int) (a n i : Nat) (z : Int) (h : a ≤ i ∧ i < a + n) : own_S (own_up w i z) a n = own_S w a n - w i + z := by
  induction n with
  | zero => omega
  | succ n ih =>
    simp only [own_S]
    by_cases q : i = a + n
    · rw [own_S_out _ _ _ _ _ (by omega)]
      have : own_up w i z (a + n) = z := if_pos q.symm
      rw [this, ← q]; omega
    · rw [ih (by omega)]
      have : own_up w i z (a + n) = w (a + n) := if_neg (by omega)
      rw [this]; omega
theorem own_S_z (a n : Nat) : own_S own_z a n = 0 := by
  induction n with
  | zero => rfl
  | succ n ih => simp only [own_S]; rw [ih]; rfl
theorem own_ofInt {z : Int} (h : -9007199254740992 < z ∧ z < 9007199254740992) : (Int64.ofInt z).toInt = z := by
  rw [Int64.toInt_ofInt, show Int64.size = 18446744073709551616 from rfl]; exact Int.bmod_eq_of_le (by omega) (by omega)
theorem own_B53 {z : Int} (h : -9007199254740992 < z ∧ z < 9007199254740992) : B53 (Int64.ofInt z) := by unfold B53; rw [own_ofInt h]; exact h
theorem own_nnl (z : Int64) : Jvm.Free.Fl.NoNaN64 (FP.l2d z) := ((Jvm.Free.Fl.l2d_mag z).fin (by decide)).noNaN
theorem own_dadd {a b : Int} (ha : -9007199254740992 < a ∧ a < 9007199254740992) (hb : -9007199254740992 < b ∧ b < 9007199254740992) : FP.dadd (FP.l2d (Int64.ofInt a)) (FP.l2d (Int64.ofInt b)) = FP.l2d (Int64.ofInt (a + b)) := by
  rw [dadd_w (own_B53 ha) (own_B53 hb), Int64.ofInt_add]
theorem own_i2d (x : Int32) : FP.i2d x = FP.l2d (Int64.ofInt x.toInt) := by
  rw [i2d_w]; rfl
theorem own_cmp {z : Int} {q : Int64} (h : q.toInt = z) (hz : -9007199254740992 < z ∧ z < 9007199254740992) : cmpValue (FP.dcmp (FP.l2d (Int64.ofInt z)) (FP.l2d q)) .l = 0 := by
  have e : q = Int64.ofInt z := Int64.toInt_inj.mp (by rw [own_ofInt hz, h])
  subst e
  have d := FP.Core.l2d_int (a := Int64.ofInt z) (by rw [own_ofInt hz]; omega)
  rw [show FP.dcmp _ _ = _ from FP.Core.dcmp_int d d, FP.Core.compare_self_int]; rfl
theorem own_loop {P : Nat → Prop} (h : ∀ n, (∀ k, k < n → P k) → P n) : ∀ n, P n := fun n => Nat.strongRecOn n h
theorem own_one (x : Int32) (h : 0 ≤ x.toInt ∧ x.toInt ≤ 1000) : (x + 1).toInt = x.toInt + 1 := by
  have a := c_iadd x 1; have r := rng32 (x + 1); have e1 : (1 : Int32).toInt = 1 := by decide
  rw [e1] at a; omega
theorem own_64 (x : Int32) (h : 0 ≤ x.toInt ∧ x.toInt ≤ 1000) : (x * (64 : Int32)).toInt = x.toInt * 64 := by
  have a := c_imul x 64; have r := rng32 (x * 64); have e1 : (64 : Int32).toInt = 64 := by decide
  rw [e1] at a; omega
theorem own_p64 (x : Int32) (h : 0 ≤ x.toInt ∧ x.toInt ≤ 100000) : (x + (64 : Int32)).toInt = x.toInt + 64 := by
  have a := c_iadd x 64; have r := rng32 (x + 64); have e1 : (64 : Int32).toInt = 64 := by decide
  rw [e1] at a; omega
theorem own_clamp (x : Int32) : x.toNatClampNeg = x.toInt.toNat := rfl
def own_min (p1 p2 : Int32) : Int32 := if p2 < p1 then p2 else p1
theorem own_minI (p1 p2 : Int32) : (own_min p1 p2).toInt = min p1.toInt p2.toInt := by
  unfold own_min; split <;> rename_i h <;> rw [Int32.lt_iff_toInt_lt] at h <;> omega
/-- the run's place: its first, its end -/
def own_hr (p3 m1 m2 : Int32) : Prop := 0 ≤ p3.toInt ∧ p3.toInt * 64 < m1.toInt ∧ m1.toInt ≤ 129 ∧ p3.toInt < m2.toInt ∧ m2.toInt ≤ 129
theorem own_f1 {p3 m1 m2 : Int32} (h : own_hr p3 m1 m2) : (p3 * (64 : Int32)).toInt = p3.toInt * 64 := own_64 p3 (by unfold own_hr at h; omega)
theorem own_e1 {p3 m1 m2 : Int32} (h : own_hr p3 m1 m2) : (own_min m1 (p3 * (64 : Int32) + (64 : Int32))).toInt = min m1.toInt (p3.toInt * 64 + 64) := by
  have a := own_f1 h; unfold own_hr at h
  rw [own_minI, own_p64 _ (by omega), a]
theorem own_nlt {x y : Int32} : ¬ x < y ↔ y.toInt ≤ x.toInt := by rw [Int32.lt_iff_toInt_lt]; omega
theorem own_ibn {j n : Int32} (h : 0 ≤ j.toInt ∧ j.toInt < n.toInt) : ¬ j < 0 ∧ j < n := by
  have e0 : (0 : Int32).toInt = 0 := by decide
  rw [Int32.lt_iff_toInt_lt, Int32.lt_iff_toInt_lt]; omega
theorem own_modL {q : Int64} {n : Int32} (h : 0 < n.toInt ∧ n.toInt ≤ 129) (hq : 0 ≤ q.toInt ∧ q.toInt ≤ 2147483647) : 0 ≤ (q - (q / n.toInt64) * n.toInt64).toInt32.toInt ∧ (q - (q / n.toInt64) * n.toInt64).toInt32.toInt < n.toInt := by
  have en := c_i2l n
  have d := (c_ldiv q n.toInt64 n.toInt en (by intro e; rw [e] at en; have : (-1 : Int64).toInt = -1 := (by decide); omega)).1 hq.1
  have a := c_lmul (q / n.toInt64) n.toInt64
  have b := c_lsub q (q / n.toInt64 * n.toInt64)
  have f := c_l2i (q - q / n.toInt64 * n.toInt64)
  have r1 := rng64 (q / n.toInt64 * n.toInt64); have r2 := rng64 (q - q / n.toInt64 * n.toInt64); have r3 := rng32 (q - q / n.toInt64 * n.toInt64).toInt32
  have m1 := Int.emod_add_mul_ediv q.toInt n.toInt
  have m2 := Int.emod_nonneg q.toInt (b := n.toInt) (by omega)
  have m3 := Int.emod_lt_of_pos q.toInt (b := n.toInt) (by omega)
  have m4 : 0 ≤ q.toInt / n.toInt := Int.ediv_nonneg hq.1 (by omega)
  rw [en, d] at a
  have m5 : 0 ≤ n.toInt * (q.toInt / n.toInt) := Int.mul_nonneg (by omega) m4
  rw [Int.mul_comm (q.toInt / n.toInt) n.toInt] at a
  generalize n.toInt * (q.toInt / n.toInt) = Y at *
  generalize q.toInt % n.toInt = V at *
  omega
theorem own_maskL (q : Int64) : 0 ≤ (q &&& (2147483647 : Int64)).toInt ∧ (q &&& (2147483647 : Int64)).toInt ≤ 2147483647 := by
  have := c_maskL q 2147483647 31 (by decide) (by decide); omega
theorem own_modI {q n : Int32} (h : 0 < n.toInt ∧ n.toInt ≤ 129) : 0 ≤ ((q &&& (2147483647 : Int32)) % n).toInt ∧ ((q &&& (2147483647 : Int32)) % n).toInt < n.toInt := by
  have a := c_and q 2147483647 (by decide)
  have b := (c_iremV (q &&& 2147483647) n).1 a.1 h.1
  exact ⟨b.1, b.2.1⟩
theorem own_q64 {x : Int32} (h : 0 ≤ x.toInt) : (x / (64 : Int32)).toInt = x.toInt / 64 := (c_idiv x 64 64 (by decide) (by decide)).1 h
def own_runs (p1 : Int32) : Int32 := (((p1 + (64 : Int32)) - (1 : Int32)) / (64 : Int32))
def own_max (p1 p2 : Int32) : Int32 := if p1 < p2 then p2 else p1
theorem own_selP {Z : State} {a0 : Array Value} {y z : MethodName} (w : (Cond.selects y.cls z z).before a0 Z = true) (wi : (Cond.instanceMethod y).before a0 Z = true) (wp : (Cond.privateMethod y).before a0 Z = true) (hz : z.cls = y.cls := by rfl) (hy : y.cls ≠ "java/lang/invoke/MethodHandle" ∧ y.cls ≠ "java/lang/invoke/VarHandle" := by decide) : (Cond.selects y.cls y y).before a0 Z = true := by
  obtain ⟨c, r, mm, h1, h2, h3, h4, k, h5, h6⟩ := Cond.selects_spec w
  have q := findClass_of_methodNamed h3
  rw [hz] at q
  exact Jvm.Stand.selects_self_of_private q h5 h6 (Cond.privateMethod_at wp) wi hy
theorem own_cl_eq {i j : Int32} (hi : 0 ≤ i.toInt) (hj : 0 ≤ j.toInt) : (i.toNatClampNeg = j.toNatClampNeg) ↔ i = j := by
  constructor
  · intro h; apply Int32.toInt_inj.mp; rw [own_clamp, own_clamp] at h; omega
  · intro h; rw [h]
theorem own_sum1 {i j n : Nat} (hi : i < n) (hj : j < n) (a b : Int) : own_S (own_up (own_up own_z i a) j b) 0 n = b + (if i = j then 0 else a) := by
  rw [own_S_in _ _ _ _ _ (by omega), own_S_in _ _ _ _ _ (by omega), own_S_z]
  by_cases h : i = j
  · rw [if_pos h]; subst h; have : own_up own_z i a i = a := if_pos rfl
    rw [this]; show 0 - 0 + a - a + b = _; omega
  · rw [if_neg h]; have : own_up own_z i a j = 0 := if_neg (fun e => h e.symm)
    rw [this]; show 0 - 0 + a - 0 + b = _; omega
theorem own_sum2 {i j k n : Nat} (hi : i < n) (hj : j < n) (hk : k < n) (a b c : Int) : own_S (own_up (own_up (own_up own_z i a) j b) k c) 0 n = c + (if j = k then 0 else b) + (if i = j then 0 else if i = k then 0 else a) := by
  rw [own_S_in _ _ _ _ _ (by omega), own_sum1 hi hj]
  have e : own_up (own_up own_z i a) j b k = if k = j then b else if k = i then a else 0 := rfl
  rw [e]
  repeat' split
  all_goals omega
theorem own_R0 (w : Nat → Int) {m : Nat} (h : m ≤ 64) : own_R w m 0 = own_S w 0 m := by
  unfold own_R; rw [show min (m - 0 * 64) 64 = m by omega, show 0 * 64 = 0 from rfl]
theorem own_Rf (w : Nat → Int) {m p : Nat} (h : p * 64 + 64 ≤ m) : own_R w m p = own_S w (p * 64) 64 := by
  unfold own_R; rw [show min (m - p * 64) 64 = 64 by omega]
theorem own_Rl (w : Nat → Int) {m p : Nat} (h : m ≤ p * 64 + 64) : own_R w m p = own_S w (p * 64) (m - p * 64) := by
  unfold own_R; rw [show min (m - p * 64) 64 = m - p * 64 by omega]
theorem own_tot2 (w : Nat → Int) {m : Nat} (h1 : 64 < m) (h2 : m ≤ 128) : own_R w m 0 + own_R w m 1 = own_S w 0 m := by
  rw [own_Rf w (p := 0) (by omega), own_Rl w (p := 1) (by omega)]
  have := own_S_add w 0 64 (m - 64)
  rw [show 64 + (m - 64) = m by omega] at this
  rw [this]
theorem own_tot3 (w : Nat → Int) {m : Nat} (h1 : 128 < m) (h2 : m ≤ 192) : own_R w m 0 + own_R w m 1 + own_R w m 2 = own_S w 0 m := by
  rw [own_Rf w (p := 0) (by omega), own_Rf w (p := 1) (by omega), own_Rl w (p := 2) (by omega)]
  have a := own_S_add w 0 64 (m - 64)
  rw [show 64 + (m - 64) = m by omega] at a
  have b := own_S_add w 64 64 (m - 128)
  rw [show 64 + (m - 128) = m - 64 by omega] at b
  have c : own_S w (0 + 64) (m - 64) = own_S w 64 (m - 64) := rfl
  have d : own_S w (64 + 64) (m - 128) = own_S w (2 * 64) (m - 2 * 64) := rfl
  have e : own_S w (1 * 64) 64 = own_S w 64 64 := rfl
  have f : own_S w (0 * 64) 64 = own_S w 0 64 := rfl
  omega
theorem own_R_out (w : Nat → Int) (m p i : Nat) (z : Int) (h : i / 64 ≠ p) : own_R (own_up w i z) m p = own_R w m p := by
  unfold own_R; exact own_S_out _ _ _ _ _ (by omega)
theorem own_S2 (u : Nat → Int) : own_S u 0 2 = u 0 + u 1 := by show 0 + u (0 + 0) + u (0 + 1) = _; rw [Nat.zero_add, Nat.zero_add]; omega
theorem own_S3 (u : Nat → Int) : own_S u 0 3 = u 0 + u 1 + u 2 := by show 0 + u (0 + 0) + u (0 + 1) + u (0 + 2) = _; rw [Nat.zero_add, Nat.zero_add, Nat.zero_add]; omega
theorem own_up_eq (w : Nat → Int) (i : Nat) (z : Int) : own_up w i z i = z := if_pos rfl
theorem own_up_ne (w : Nat → Int) {i x : Nat} (z : Int) (h : x ≠ i) : own_up w i z x = w x := if_neg h
/-- the runs' sums, two runs -/
def own_u2 (w : Nat → Int) (m : Nat) : Nat → Int := own_up (own_up own_z 0 (own_R w m 0)) 1 (own_R w m 1)
def own_u3 (w : Nat → Int) (m : Nat) : Nat → Int := own_up (own_up (own_up own_z 0 (own_R w m 0)) 1 (own_R w m 1)) 2 (own_R w m 2)
theorem own_u2_0 (w : Nat → Int) (m : Nat) : own_u2 w m 0 = own_R w m 0 := by unfold own_u2; rw [own_up_ne _ _ (by decide), own_up_eq]
theorem own_u2_1 (w : Nat → Int) (m : Nat) : own_u2 w m 1 = own_R w m 1 := by unfold own_u2; rw [own_up_eq]
theorem own_u3_0 (w : Nat → Int) (m : Nat) : own_u3 w m 0 = own_R w m 0 := by unfold own_u3; rw [own_up_ne _ _ (by decide), own_up_ne _ _ (by decide), own_up_eq]
theorem own_u3_1 (w : Nat → Int) (m : Nat) : own_u3 w m 1 = own_R w m 1 := by unfold own_u3; rw [own_up_ne _ _ (by decide), own_up_eq]
theorem own_u3_2 (w : Nat → Int) (m : Nat) : own_u3 w m 2 = own_R w m 2 := by unfold own_u3; rw [own_up_eq]
theorem own_topA (w : Nat → Int) {m : Nat} (h : m ≤ 64) : own_up own_z 0 (own_R w m 0) 0 = own_S w 0 m := by rw [own_up_eq, own_R0 w h]
theorem own_topB2 (w t : Nat → Int) {m : Nat} (h1 : 64 < m) (h2 : m ≤ 128) : own_up t 0 (own_R (own_u2 w m) 2 0) 0 = own_S w 0 m := by
  rw [own_up_eq, own_R0 _ (by omega), own_S2, own_u2_0, own_u2_1, own_tot2 w h1 h2]
theorem own_topB3 (w t : Nat → Int) {m : Nat} (h1 : 128 < m) (h2 : m ≤ 192) : own_up t 0 (own_R (own_u3 w m) 3 0) 0 = own_S w 0 m := by
  rw [own_up_eq, own_R0 _ (by omega), own_S3, own_u3_0, own_u3_1, own_u3_2, own_tot3 w h1 h2]
/-- after a change at k: only its own run is summed anew -/
theorem own_setA (w t : Nat → Int) {m k : Nat} (z : Int) (h : m ≤ 64) (hk : k < m) : own_up t (k / 64) (own_R (own_up w k z) m (k / 64)) 0 = own_S (own_up w k z) 0 m := by
  rw [show k / 64 = 0 by omega, own_up_eq, own_R0 _ h]
theorem own_setB2 (w t : Nat → Int) {m k : Nat} (z : Int) (h1 : 64 < m) (h2 : m ≤ 128) (hk : k < m) : own_up t 0 (own_R (own_up (own_u2 w m) (k / 64) (own_R (own_up w k z) m (k / 64))) 2 0) 0 = own_S (own_up w k z) 0 m := by
  rw [own_up_eq, own_R0 _ (by omega), own_S2]
  have c : k / 64 = 0 ∨ k / 64 = 1 := by omega
  rw [← own_tot2 (own_up w k z) h1 h2]
  rcases c with e | e
  · rw [e, own_up_eq, own_up_ne _ _ (by decide), own_u2_1, own_R_out w m 1 k z (by omega)]
  · rw [e, own_up_eq, own_up_ne _ _ (by decide), own_u2_0, own_R_out w m 0 k z (by omega)]
theorem own_setB3 (w t : Nat → Int) {m k : Nat} (z : Int) (h1 : 128 < m) (h2 : m ≤ 192) (hk : k < m) : own_up t 0 (own_R (own_up (own_u3 w m) (k / 64) (own_R (own_up w k z) m (k / 64))) 3 0) 0 = own_S (own_up w k z) 0 m := by
  rw [own_up_eq, own_R0 _ (by omega), own_S3]
  have c : k / 64 = 0 ∨ k / 64 = 1 ∨ k / 64 = 2 := by omega
  rw [← own_tot3 (own_up w k z) h1 h2]
  rcases c with e | e | e
  · rw [e, own_up_eq, own_up_ne _ _ (by decide), own_up_ne _ _ (by decide), own_u3_1, own_u3_2, own_R_out w m 1 k z (by omega), own_R_out w m 2 k z (by omega)]
  · rw [e, own_up_eq, own_up_ne _ _ (by decide), own_up_ne _ _ (by decide), own_u3_0, own_u3_2, own_R_out w m 0 k z (by omega), own_R_out w m 2 k z (by omega)]
  · rw [e, own_up_eq, own_up_ne _ _ (by decide), own_up_ne _ _ (by decide), own_u3_0, own_u3_1, own_R_out w m 0 k z (by omega), own_R_out w m 1 k z (by omega)]
theorem own_q64c {x : Int32} (h : 0 ≤ x.toInt) : (x / (64 : Int32)).toNatClampNeg = x.toNatClampNeg / 64 := by
  rw [own_clamp, own_clamp, own_q64 h]; omega
theorem pn_1 : plainName "com/example/dags_over_clouds/dagsoverclouds/plan/TallySumPinLaw" = true := by first | (simp [plainName, overriddenIn]; done) | decide +kernel
theorem d1_0 : decode method_3_code 0 = .ok (.iload_n 0, 1) := by decide +kernel
theorem d1_1 : decode method_3_code 1 = .ok (.ifCond .ne 5, 3) := by decide +kernel
theorem d1_4 : decode method_3_code 4 = .ok (.iconst 1, 1) := by decide +kernel
theorem d1_5 : decode method_3_code 5 = .ok (.ireturn, 1) := by decide +kernel
theorem d1_6 : decode method_3_code 6 = .ok (.iload_n 0, 1) := by decide +kernel
theorem d1_7 : decode method_3_code 7 = .ok (.iconst 1, 1) := by decide +kernel
theorem d1_8 : decode method_3_code 8 = .ok (.if_icmp .ne 5, 3) := by decide +kernel
theorem d1_11 : decode method_3_code 11 = .ok (.iconst 2, 1) := by decide +kernel
theorem d1_12 : decode method_3_code 12 = .ok (.ireturn, 1) := by decide +kernel
theorem d1_13 : decode method_3_code 13 = .ok (.iload_n 0, 1) := by decide +kernel
theorem d1_14 : decode method_3_code 14 = .ok (.iconst 2, 1) := by decide +kernel
theorem d1_15 : decode method_3_code 15 = .ok (.if_icmp .ne 5, 3) := by decide +kernel
theorem d1_18 : decode method_3_code 18 = .ok (.iconst 3, 1) := by decide +kernel
theorem d1_19 : decode method_3_code 19 = .ok (.ireturn, 1) := by decide +kernel
theorem d1_20 : decode method_3_code 20 = .ok (.iload_n 0, 1) := by decide +kernel
theorem d1_21 : decode method_3_code 21 = .ok (.iconst 3, 1) := by decide +kernel
theorem d1_22 : decode method_3_code 22 = .ok (.if_icmp .ne 6, 3) := by decide +kernel
theorem d1_25 : decode method_3_code 25 = .ok (.bipush 63, 2) := by decide +kernel
theorem d1_27 : decode method_3_code 27 = .ok (.ireturn, 1) := by decide +kernel
theorem d1_28 : decode method_3_code 28 = .ok (.iload_n 0, 1) := by decide +kernel
theorem d1_29 : decode method_3_code 29 = .ok (.iconst 4, 1) := by decide +kernel
theorem d1_30 : decode method_3_code 30 = .ok (.if_icmp .ne 6, 3) := by decide +kernel
theorem d1_33 : decode method_3_code 33 = .ok (.bipush 64, 2) := by decide +kernel
theorem d1_35 : decode method_3_code 35 = .ok (.ireturn, 1) := by decide +kernel
theorem d1_36 : decode method_3_code 36 = .ok (.iload_n 0, 1) := by decide +kernel
theorem d1_37 : decode method_3_code 37 = .ok (.iconst 5, 1) := by decide +kernel
theorem d1_38 : decode method_3_code 38 = .ok (.if_icmp .ne 6, 3) := by decide +kernel
theorem d1_41 : decode method_3_code 41 = .ok (.bipush 65, 2) := by decide +kernel
theorem d1_43 : decode method_3_code 43 = .ok (.ireturn, 1) := by decide +kernel
theorem d1_44 : decode method_3_code 44 = .ok (.iload_n 0, 1) := by decide +kernel
theorem d1_45 : decode method_3_code 45 = .ok (.bipush 6, 2) := by decide +kernel
theorem d1_47 : decode method_3_code 47 = .ok (.if_icmp .ne 7, 3) := by decide +kernel
theorem d1_50 : decode method_3_code 50 = .ok (.sipush 128, 3) := by decide +kernel
theorem d1_53 : decode method_3_code 53 = .ok (.ireturn, 1) := by decide +kernel
theorem d1_54 : decode method_3_code 54 = .ok (.sipush 129, 3) := by decide +kernel
theorem d1_57 : decode method_3_code 57 = .ok (.ireturn, 1) := by decide +kernel
theorem ef_rm1 (m : MethodId) (p1 : Int32) : entryFrame m #[(.int p1)] 1 = mkF m 0 #[.val (.int p1)] [] := by first | (simp [entryFrame, mkF, argsToLocals, Value.category]; done) | rfl
def Q_rm1 (Z : State) (p1 : Int32) (h0 : Heap) (n0 : Nat) (v : Option Value) (h : Heap) (L : List Loc) : Prop := ∃ n : Int32, (v = some (.int n)) ∧ (Fr n0 L) ∧ (h = h0) ∧ (n = (1 : Int32) ∨ n = (2 : Int32) ∨ n = (3 : Int32) ∨ n = (63 : Int32) ∨ n = (64 : Int32) ∨ n = (65 : Int32) ∨ n = (128 : Int32) ∨ n = (129 : Int32))
set_option maxRecDepth 65536 in
set_option maxHeartbeats 40000000 in
theorem rm1 (l : Launch) (Z : State) (a0 : Array Value) (hw : ∀ d ∈ tables_1, d.before a0 Z = true) (ws : List Jvm.Cond) (p1 : Int32) (h0 : Heap) (n0 : Nat) (Z0 : n0 ≤ h0.size)  :
    MetFree l (⟨"com/example/dags_over_clouds/dagsoverclouds/plan/TallySumPinLaw", "size", "(I)I"⟩ : MethodName) (head1 (Jvm.Cond.code (⟨"com/example/dags_over_clouds/dagsoverclouds/plan/TallySumPinLaw", "size", "(I)I"⟩ : MethodName) method_3_code 1 (some .int) :: ws) ({ frames := 0, cells := 0, slots := 0, locals := 0 } : Room)) (fun a U => a = #[(.int p1)] ∧ Z.Warmed39 U.vm ∧ U.heap = h0) (fun _ _ _ _ _ => True) (fun _ U o U' => ∃ v L, o = .returned v ∧ Q_rm1 Z p1 h0 n0 v U'.heap L ∧ FrameEnd U o U' L ({ frames := 0, cells := 0, slots := 0, locals := 0 } : Room).cells ({ frames := 0, cells := 0, slots := 0, locals := 0 } : Room).slots) := by
  refine MetFree.of_bodySF (plainFor_of_name pn_1) hisR ?_
  intro p e s m args below meth c s₁ Bd hml0 hP hK
  obtain ⟨rfl, hZ, hh⟩ := hP
  have hx := Bd.exec
  have hby := Bd.bytes
  have hml : c.maxLocals = 1 := hml0
  have hown : s.vm.findClass "com/example/dags_over_clouds/dagsoverclouds/plan/TallySumPinLaw" = some m.cls := findClass_of_methodNamed Bd.named
  have hnm := (name_of_methodNamed Bd.named Bd.method).1
  have hlk := Bd.notSynchronized
  have X0 : Stand p l e ({ frames := 0, cells := 0, slots := 0, locals := 0 } : Room) s m #[(.int p1)] below meth c s₁ [] 0 0 := Stand.of_body Bd
  have e0 : s₁.heap = h0 := by rw [← hh, Bd.state]; rfl
  have N0 := Fr.nil n0
  refine Wp.goal (Post := (fun o U' => ∃ v L, o = .returned v ∧ Q_rm1 Z p1 h0 n0 v U'.heap L ∧ FrameEnd s o U' L ({ frames := 0, cells := 0, slots := 0, locals := 0 } : Room).cells ({ frames := 0, cells := 0, slots := 0, locals := 0 } : Room).slots)) (Wp.st (S' := s₁.setTop (mkF m 0 #[.val (.int p1)] [])) (fun tt_ kk_ => castTop (ef_rm1 m p1 ) kk_) ?_)
  refine Wp.st (S' := s₁.setTop (mkF m 1 #[.val (.int p1)] [(.int p1)])) (fun tt_ kk_ => XS.iloadN X0.here hx rfl (hb hby d1_0) rfl  kk_) ?_
  by_cases c8 : p1 = (0 : Int32)
  case pos =>
    refine Wp.st (S' := s₁.setTop (mkF m 4 #[.val (.int p1)] [])) (fun tt_ kk_ => XS.ifNo X0.here hx rfl (hb hby d1_1) rfl ((if0 _ _).trans (teq (c8 : p1 = (0 : Int32))).2) kk_) ?_
    refine Wp.st (S' := s₁.setTop (mkF m 5 #[.val (.int p1)] [(.int (1 : Int32))])) (fun tt_ kk_ => XS.iconst X0.here hx rfl (hb hby d1_4) kk_) ?_
    exact Wp.ret X0 hlk (v := (some (.int (1 : Int32)))) (fun h => by rw [Bd.returns] at h; cases h) (fun fs hr => retI X0 hx Bd.returns (hb hby d1_5) hr) (by decide) (by decide) (show Q_rm1 Z p1 h0 n0 _ s₁.heap _ by rw [e0]; exact ⟨(1 : Int32), rfl, N0, rfl, (by simp)⟩)
  case neg =>
    refine Wp.st (S' := s₁.setTop (mkF m 6 #[.val (.int p1)] [])) (fun tt_ kk_ => XS.ifYes X0.here hx rfl (pc0 := 1) (pc' := 6) rfl (hb hby d1_1) rfl ((if0 _ _).trans (feq (c8 : ¬ (p1 = (0 : Int32)))).2) (by decide) (by decide) kk_) ?_
    refine Wp.st (S' := s₁.setTop (mkF m 7 #[.val (.int p1)] [(.int p1)])) (fun tt_ kk_ => XS.iloadN X0.here hx rfl (hb hby d1_6) rfl  kk_) ?_
    refine Wp.st (S' := s₁.setTop (mkF m 8 #[.val (.int p1)] [(.int (1 : Int32)), (.int p1)])) (fun tt_ kk_ => XS.iconst X0.here hx rfl (hb hby d1_7) kk_) ?_
    by_cases c7 : p1 = (1 : Int32)
    case pos =>
      refine Wp.st (S' := s₁.setTop (mkF m 11 #[.val (.int p1)] [])) (fun tt_ kk_ => XS.icmpNo X0.here hx rfl (hb hby d1_8) rfl (teq (c7 : p1 = (1 : Int32))).2 kk_) ?_
      refine Wp.st (S' := s₁.setTop (mkF m 12 #[.val (.int p1)] [(.int (2 : Int32))])) (fun tt_ kk_ => XS.iconst X0.here hx rfl (hb hby d1_11) kk_) ?_
      exact Wp.ret X0 hlk (v := (some (.int (2 : Int32)))) (fun h => by rw [Bd.returns] at h; cases h) (fun fs hr => retI X0 hx Bd.returns (hb hby d1_12) hr) (by decide) (by decide) (show Q_rm1 Z p1 h0 n0 _ s₁.heap _ by rw [e0]; exact ⟨(2 : Int32), rfl, N0, rfl, (by simp)⟩)
    case neg =>
      refine Wp.st (S' := s₁.setTop (mkF m 13 #[.val (.int p1)] [])) (fun tt_ kk_ => XS.icmpYes X0.here hx rfl (pc0 := 8) (pc' := 13) rfl (hb hby d1_8) rfl (feq (c7 : ¬ (p1 = (1 : Int32)))).2 (by decide) (by decide) kk_) ?_
      refine Wp.st (S' := s₁.setTop (mkF m 14 #[.val (.int p1)] [(.int p1)])) (fun tt_ kk_ => XS.iloadN X0.here hx rfl (hb hby d1_13) rfl  kk_) ?_
      refine Wp.st (S' := s₁.setTop (mkF m 15 #[.val (.int p1)] [(.int (2 : Int32)), (.int p1)])) (fun tt_ kk_ => XS.iconst X0.here hx rfl (hb hby d1_14) kk_) ?_
      by_cases c6 : p1 = (2 : Int32)
      case pos =>
        refine Wp.st (S' := s₁.setTop (mkF m 18 #[.val (.int p1)] [])) (fun tt_ kk_ => XS.icmpNo X0.here hx rfl (hb hby d1_15) rfl (teq (c6 : p1 = (2 : Int32))).2 kk_) ?_
        refine Wp.st (S' := s₁.setTop (mkF m 19 #[.val (.int p1)] [(.int (3 : Int32))])) (fun tt_ kk_ => XS.iconst X0.here hx rfl (hb hby d1_18) kk_) ?_
        exact Wp.ret X0 hlk (v := (some (.int (3 : Int32)))) (fun h => by rw [Bd.returns] at h; cases h) (fun fs hr => retI X0 hx Bd.returns (hb hby d1_19) hr) (by decide) (by decide) (show Q_rm1 Z p1 h0 n0 _ s₁.heap _ by rw [e0]; exact ⟨(3 : Int32), rfl, N0, rfl, (by simp)⟩)
      case neg =>
        refine Wp.st (S' := s₁.setTop (mkF m 20 #[.val (.int p1)] [])) (fun tt_ kk_ => XS.icmpYes X0.here hx rfl (pc0 := 15) (pc' := 20) rfl (hb hby d1_15) rfl (feq (c6 : ¬ (p1 = (2 : Int32)))).2 (by decide) (by decide) kk_) ?_
        refine Wp.st (S' := s₁.setTop (mkF m 21 #[.val (.int p1)] [(.int p1)])) (fun tt_ kk_ => XS.iloadN X0.here hx rfl (hb hby d1_20) rfl  kk_) ?_
        refine Wp.st (S' := s₁.setTop (mkF m 22 #[.val (.int p1)] [(.int (3 : Int32)), (.int p1)])) (fun tt_ kk_ => XS.iconst X0.here hx rfl (hb hby d1_21) kk_) ?_
        by_cases c5 : p1 = (3 : Int32)
        case pos =>
          refine Wp.st (S' := s₁.setTop (mkF m 25 #[.val (.int p1)] [])) (fun tt_ kk_ => XS.icmpNo X0.here hx rfl (hb hby d1_22) rfl (teq (c5 : p1 = (3 : Int32))).2 kk_) ?_
          refine Wp.st (S' := s₁.setTop (mkF m 27 #[.val (.int p1)] [(.int (63 : Int32))])) (fun tt_ kk_ => XS.bipush X0.here hx rfl (hb hby d1_25) kk_) ?_
          exact Wp.ret X0 hlk (v := (some (.int (63 : Int32)))) (fun h => by rw [Bd.returns] at h; cases h) (fun fs hr => retI X0 hx Bd.returns (hb hby d1_27) hr) (by decide) (by decide) (show Q_rm1 Z p1 h0 n0 _ s₁.heap _ by rw [e0]; exact ⟨(63 : Int32), rfl, N0, rfl, (by simp)⟩)
        case neg =>
          refine Wp.st (S' := s₁.setTop (mkF m 28 #[.val (.int p1)] [])) (fun tt_ kk_ => XS.icmpYes X0.here hx rfl (pc0 := 22) (pc' := 28) rfl (hb hby d1_22) rfl (feq (c5 : ¬ (p1 = (3 : Int32)))).2 (by decide) (by decide) kk_) ?_
          refine Wp.st (S' := s₁.setTop (mkF m 29 #[.val (.int p1)] [(.int p1)])) (fun tt_ kk_ => XS.iloadN X0.here hx rfl (hb hby d1_28) rfl  kk_) ?_
          refine Wp.st (S' := s₁.setTop (mkF m 30 #[.val (.int p1)] [(.int (4 : Int32)), (.int p1)])) (fun tt_ kk_ => XS.iconst X0.here hx rfl (hb hby d1_29) kk_) ?_
          by_cases c4 : p1 = (4 : Int32)
          case pos =>
            refine Wp.st (S' := s₁.setTop (mkF m 33 #[.val (.int p1)] [])) (fun tt_ kk_ => XS.icmpNo X0.here hx rfl (hb hby d1_30) rfl (teq (c4 : p1 = (4 : Int32))).2 kk_) ?_
            refine Wp.st (S' := s₁.setTop (mkF m 35 #[.val (.int p1)] [(.int (64 : Int32))])) (fun tt_ kk_ => XS.bipush X0.here hx rfl (hb hby d1_33) kk_) ?_
            exact Wp.ret X0 hlk (v := (some (.int (64 : Int32)))) (fun h => by rw [Bd.returns] at h; cases h) (fun fs hr => retI X0 hx Bd.returns (hb hby d1_35) hr) (by decide) (by decide) (show Q_rm1 Z p1 h0 n0 _ s₁.heap _ by rw [e0]; exact ⟨(64 : Int32), rfl, N0, rfl, (by simp)⟩)
          case neg =>
            refine Wp.st (S' := s₁.setTop (mkF m 36 #[.val (.int p1)] [])) (fun tt_ kk_ => XS.icmpYes X0.here hx rfl (pc0 := 30) (pc' := 36) rfl (hb hby d1_30) rfl (feq (c4 : ¬ (p1 = (4 : Int32)))).2 (by decide) (by decide) kk_) ?_
            refine Wp.st (S' := s₁.setTop (mkF m 37 #[.val (.int p1)] [(.int p1)])) (fun tt_ kk_ => XS.iloadN X0.here hx rfl (hb hby d1_36) rfl  kk_) ?_
            refine Wp.st (S' := s₁.setTop (mkF m 38 #[.val (.int p1)] [(.int (5 : Int32)), (.int p1)])) (fun tt_ kk_ => XS.iconst X0.here hx rfl (hb hby d1_37) kk_) ?_
            by_cases c3 : p1 = (5 : Int32)
            case pos =>
              refine Wp.st (S' := s₁.setTop (mkF m 41 #[.val (.int p1)] [])) (fun tt_ kk_ => XS.icmpNo X0.here hx rfl (hb hby d1_38) rfl (teq (c3 : p1 = (5 : Int32))).2 kk_) ?_
              refine Wp.st (S' := s₁.setTop (mkF m 43 #[.val (.int p1)] [(.int (65 : Int32))])) (fun tt_ kk_ => XS.bipush X0.here hx rfl (hb hby d1_41) kk_) ?_
              exact Wp.ret X0 hlk (v := (some (.int (65 : Int32)))) (fun h => by rw [Bd.returns] at h; cases h) (fun fs hr => retI X0 hx Bd.returns (hb hby d1_43) hr) (by decide) (by decide) (show Q_rm1 Z p1 h0 n0 _ s₁.heap _ by rw [e0]; exact ⟨(65 : Int32), rfl, N0, rfl, (by simp)⟩)
            case neg =>
              refine Wp.st (S' := s₁.setTop (mkF m 44 #[.val (.int p1)] [])) (fun tt_ kk_ => XS.icmpYes X0.here hx rfl (pc0 := 38) (pc' := 44) rfl (hb hby d1_38) rfl (feq (c3 : ¬ (p1 = (5 : Int32)))).2 (by decide) (by decide) kk_) ?_
              refine Wp.st (S' := s₁.setTop (mkF m 45 #[.val (.int p1)] [(.int p1)])) (fun tt_ kk_ => XS.iloadN X0.here hx rfl (hb hby d1_44) rfl  kk_) ?_
              refine Wp.st (S' := s₁.setTop (mkF m 47 #[.val (.int p1)] [(.int (6 : Int32)), (.int p1)])) (fun tt_ kk_ => XS.bipush X0.here hx rfl (hb hby d1_45) kk_) ?_
              by_cases c2 : p1 = (6 : Int32)
              case pos =>
                refine Wp.st (S' := s₁.setTop (mkF m 50 #[.val (.int p1)] [])) (fun tt_ kk_ => XS.icmpNo X0.here hx rfl (hb hby d1_47) rfl (teq (c2 : p1 = (6 : Int32))).2 kk_) ?_
                refine Wp.st (S' := s₁.setTop (mkF m 53 #[.val (.int p1)] [(.int (128 : Int32))])) (fun tt_ kk_ => XS.sipush X0.here hx rfl (hb hby d1_50) kk_) ?_
                exact Wp.ret X0 hlk (v := (some (.int (128 : Int32)))) (fun h => by rw [Bd.returns] at h; cases h) (fun fs hr => retI X0 hx Bd.returns (hb hby d1_53) hr) (by decide) (by decide) (show Q_rm1 Z p1 h0 n0 _ s₁.heap _ by rw [e0]; exact ⟨(128 : Int32), rfl, N0, rfl, (by simp)⟩)
              case neg =>
                refine Wp.st (S' := s₁.setTop (mkF m 54 #[.val (.int p1)] [])) (fun tt_ kk_ => XS.icmpYes X0.here hx rfl (pc0 := 47) (pc' := 54) rfl (hb hby d1_47) rfl (feq (c2 : ¬ (p1 = (6 : Int32)))).2 (by decide) (by decide) kk_) ?_
                refine Wp.st (S' := s₁.setTop (mkF m 57 #[.val (.int p1)] [(.int (129 : Int32))])) (fun tt_ kk_ => XS.sipush X0.here hx rfl (hb hby d1_54) kk_) ?_
                exact Wp.ret X0 hlk (v := (some (.int (129 : Int32)))) (fun h => by rw [Bd.returns] at h; cases h) (fun fs hr => retI X0 hx Bd.returns (hb hby d1_57) hr) (by decide) (by decide) (show Q_rm1 Z p1 h0 n0 _ s₁.heap _ by rw [e0]; exact ⟨(129 : Int32), rfl, N0, rfl, (by simp)⟩)
theorem pn_5 : plainName "com/example/dags_over_clouds/dagsoverclouds/plan/Tally" = true := by first | (simp [plainName, overriddenIn]; done) | decide +kernel
theorem d5_0 : decode prog_71_method_6_code 0 = .ok (.iload_n 0, 1) := by decide +kernel
theorem d5_1 : decode prog_71_method_6_code 1 = .ok (.bipush 64, 2) := by decide +kernel
theorem d5_3 : decode prog_71_method_6_code 3 = .ok (.iadd, 1) := by decide +kernel
theorem d5_4 : decode prog_71_method_6_code 4 = .ok (.iconst 1, 1) := by decide +kernel
theorem d5_5 : decode prog_71_method_6_code 5 = .ok (.isub, 1) := by decide +kernel
theorem d5_6 : decode prog_71_method_6_code 6 = .ok (.bipush 64, 2) := by decide +kernel
theorem d5_8 : decode prog_71_method_6_code 8 = .ok (.idiv, 1) := by decide +kernel
theorem d5_9 : decode prog_71_method_6_code 9 = .ok (.ireturn, 1) := by decide +kernel
theorem ef_rm5 (m : MethodId) (p1 : Int32) : entryFrame m #[(.int p1)] 1 = mkF m 0 #[.val (.int p1)] [] := by first | (simp [entryFrame, mkF, argsToLocals, Value.category]; done) | rfl
def Q_rm5 (Z : State) (p1 : Int32) (h0 : Heap) (n0 : Nat) (v : Option Value) (h : Heap) (L : List Loc) : Prop := (v = some (.int (own_runs p1))) ∧ (Fr n0 L) ∧ (h = h0)
set_option maxRecDepth 65536 in
set_option maxHeartbeats 40000000 in
theorem rm5 (l : Launch) (Z : State) (a0 : Array Value) (hw : ∀ d ∈ tables_1, d.before a0 Z = true) (ws : List Jvm.Cond) (p1 : Int32) (h0 : Heap) (n0 : Nat) (Z0 : n0 ≤ h0.size)  :
    MetFree l (⟨"com/example/dags_over_clouds/dagsoverclouds/plan/Tally", "runs", "(I)I"⟩ : MethodName) (head1 (Jvm.Cond.code (⟨"com/example/dags_over_clouds/dagsoverclouds/plan/Tally", "runs", "(I)I"⟩ : MethodName) prog_71_method_6_code 1 (some .int) :: ws) ({ frames := 0, cells := 0, slots := 0, locals := 0 } : Room)) (fun a U => a = #[(.int p1)] ∧ Z.Warmed39 U.vm ∧ U.heap = h0) (fun _ _ _ _ _ => True) (fun _ U o U' => ∃ v L, o = .returned v ∧ Q_rm5 Z p1 h0 n0 v U'.heap L ∧ FrameEnd U o U' L ({ frames := 0, cells := 0, slots := 0, locals := 0 } : Room).cells ({ frames := 0, cells := 0, slots := 0, locals := 0 } : Room).slots) := by
  refine MetFree.of_bodySF (plainFor_of_name pn_5) hisR ?_
  intro p e s m args below meth c s₁ Bd hml0 hP hK
  obtain ⟨rfl, hZ, hh⟩ := hP
  have hx := Bd.exec
  have hby := Bd.bytes
  have hml : c.maxLocals = 1 := hml0
  have hown : s.vm.findClass "com/example/dags_over_clouds/dagsoverclouds/plan/Tally" = some m.cls := findClass_of_methodNamed Bd.named
  have hnm := (name_of_methodNamed Bd.named Bd.method).1
  have hlk := Bd.notSynchronized
  have X0 : Stand p l e ({ frames := 0, cells := 0, slots := 0, locals := 0 } : Room) s m #[(.int p1)] below meth c s₁ [] 0 0 := Stand.of_body Bd
  have e0 : s₁.heap = h0 := by rw [← hh, Bd.state]; rfl
  have N0 := Fr.nil n0
  refine Wp.goal (Post := (fun o U' => ∃ v L, o = .returned v ∧ Q_rm5 Z p1 h0 n0 v U'.heap L ∧ FrameEnd s o U' L ({ frames := 0, cells := 0, slots := 0, locals := 0 } : Room).cells ({ frames := 0, cells := 0, slots := 0, locals := 0 } : Room).slots)) (Wp.st (S' := s₁.setTop (mkF m 0 #[.val (.int p1)] [])) (fun tt_ kk_ => castTop (ef_rm5 m p1 ) kk_) ?_)
  refine Wp.st (S' := s₁.setTop (mkF m 1 #[.val (.int p1)] [(.int p1)])) (fun tt_ kk_ => XS.iloadN X0.here hx rfl (hb hby d5_0) rfl  kk_) ?_
  refine Wp.st (S' := s₁.setTop (mkF m 3 #[.val (.int p1)] [(.int (64 : Int32)), (.int p1)])) (fun tt_ kk_ => XS.bipush X0.here hx rfl (hb hby d5_1) kk_) ?_
  refine Wp.st (S' := s₁.setTop (mkF m 4 #[.val (.int p1)] [(.int (p1 + (64 : Int32)))])) (fun tt_ kk_ => XS.iadd X0.here hx rfl (hb hby d5_3) rfl kk_) ?_
  refine Wp.st (S' := s₁.setTop (mkF m 5 #[.val (.int p1)] [(.int (1 : Int32)), (.int (p1 + (64 : Int32)))])) (fun tt_ kk_ => XS.iconst X0.here hx rfl (hb hby d5_4) kk_) ?_
  refine Wp.st (S' := s₁.setTop (mkF m 6 #[.val (.int p1)] [(.int ((p1 + (64 : Int32)) - (1 : Int32)))])) (fun tt_ kk_ => XS.isub X0.here hx rfl (hb hby d5_5) rfl kk_) ?_
  refine Wp.st (S' := s₁.setTop (mkF m 8 #[.val (.int p1)] [(.int (64 : Int32)), (.int ((p1 + (64 : Int32)) - (1 : Int32)))])) (fun tt_ kk_ => XS.bipush X0.here hx rfl (hb hby d5_6) kk_) ?_
  refine Wp.st (S' := s₁.setTop (mkF m 9 #[.val (.int p1)] [(.int (((p1 + (64 : Int32)) - (1 : Int32)) / (64 : Int32)))])) (fun tt_ kk_ => XS.idiv X0.here hx rfl (hb hby d5_8) rfl (by decide) kk_) ?_
  exact Wp.ret X0 hlk (v := (some (.int (((p1 + (64 : Int32)) - (1 : Int32)) / (64 : Int32))))) (fun h => by rw [Bd.returns] at h; cases h) (fun fs hr => retI X0 hx Bd.returns (hb hby d5_9) hr) (by decide) (by decide) (show Q_rm5 Z p1 h0 n0 _ s₁.heap _ by rw [e0]; exact ⟨rfl, N0, rfl⟩)
theorem d4_0 : decode jdk_29_method_65_code 0 = .ok (.iload_n 0, 1) := by decide +kernel
theorem d4_1 : decode jdk_29_method_65_code 1 = .ok (.iload_n 1, 1) := by decide +kernel
theorem d4_2 : decode jdk_29_method_65_code 2 = .ok (.if_icmp .lt 7, 3) := by decide +kernel
theorem d4_9 : decode jdk_29_method_65_code 9 = .ok (.iload_n 1, 1) := by decide +kernel
theorem d4_10 : decode jdk_29_method_65_code 10 = .ok (.ireturn, 1) := by decide +kernel
theorem d4_5 : decode jdk_29_method_65_code 5 = .ok (.iload_n 0, 1) := by decide +kernel
theorem d4_6 : decode jdk_29_method_65_code 6 = .ok (.goto 4, 3) := by decide +kernel
theorem ef_rm4 (m : MethodId) (p1 : Int32) (p2 : Int32) : entryFrame m #[(.int p1), (.int p2)] 2 = mkF m 0 #[.val (.int p1), .val (.int p2)] [] := by first | (simp [entryFrame, mkF, argsToLocals, Value.category]; done) | rfl
def Q_rm4 (Z : State) (p1 : Int32) (p2 : Int32) (h0 : Heap) (n0 : Nat) (v : Option Value) (h : Heap) (L : List Loc) : Prop := (v = some (.int (own_max p1 p2))) ∧ (Fr n0 L) ∧ (h = h0)
set_option maxRecDepth 65536 in
set_option maxHeartbeats 40000000 in
theorem rm4 (l : Launch) (Z : State) (a0 : Array Value) (hw : ∀ d ∈ tables_1, d.before a0 Z = true) (ws : List Jvm.Cond) (p1 : Int32) (p2 : Int32) (h0 : Heap) (n0 : Nat) (Z0 : n0 ≤ h0.size)  :
    MetFree l (⟨"java/lang/Math", "max", "(II)I"⟩ : MethodName) (head1 (Jvm.Cond.code (⟨"java/lang/Math", "max", "(II)I"⟩ : MethodName) jdk_29_method_65_code 2 (some .int) :: ws) ({ frames := 0, cells := 0, slots := 0, locals := 0 } : Room)) (fun a U => a = #[(.int p1), (.int p2)] ∧ Z.Warmed39 U.vm ∧ U.heap = h0) (fun _ _ _ _ _ => True) (fun _ U o U' => ∃ v L, o = .returned v ∧ Q_rm4 Z p1 p2 h0 n0 v U'.heap L ∧ FrameEnd U o U' L ({ frames := 0, cells := 0, slots := 0, locals := 0 } : Room).cells ({ frames := 0, cells := 0, slots := 0, locals := 0 } : Room).slots) := by
  refine MetFree.of_bodySF (Jvm.Free.JP.mathPlain rfl (by decide +kernel)) hisR ?_
  intro p e s m args below meth c s₁ Bd hml0 hP hK
  obtain ⟨rfl, hZ, hh⟩ := hP
  have hx := Bd.exec
  have hby := Bd.bytes
  have hml : c.maxLocals = 2 := hml0
  have hown : s.vm.findClass "java/lang/Math" = some m.cls := findClass_of_methodNamed Bd.named
  have hnm := (name_of_methodNamed Bd.named Bd.method).1
  have hlk := Bd.notSynchronized
  have X0 : Stand p l e ({ frames := 0, cells := 0, slots := 0, locals := 0 } : Room) s m #[(.int p1), (.int p2)] below meth c s₁ [] 0 0 := Stand.of_body Bd
  have e0 : s₁.heap = h0 := by rw [← hh, Bd.state]; rfl
  have N0 := Fr.nil n0
  refine Wp.goal (Post := (fun o U' => ∃ v L, o = .returned v ∧ Q_rm4 Z p1 p2 h0 n0 v U'.heap L ∧ FrameEnd s o U' L ({ frames := 0, cells := 0, slots := 0, locals := 0 } : Room).cells ({ frames := 0, cells := 0, slots := 0, locals := 0 } : Room).slots)) (Wp.st (S' := s₁.setTop (mkF m 0 #[.val (.int p1), .val (.int p2)] [])) (fun tt_ kk_ => castTop (ef_rm4 m p1 p2 ) kk_) ?_)
  refine Wp.st (S' := s₁.setTop (mkF m 1 #[.val (.int p1), .val (.int p2)] [(.int p1)])) (fun tt_ kk_ => XS.iloadN X0.here hx rfl (hb hby d4_0) rfl  kk_) ?_
  refine Wp.st (S' := s₁.setTop (mkF m 2 #[.val (.int p1), .val (.int p2)] [(.int p2), (.int p1)])) (fun tt_ kk_ => XS.iloadN X0.here hx rfl (hb hby d4_1) rfl  kk_) ?_
  by_cases h : p1 < p2
  case pos =>
    refine Wp.st (S' := s₁.setTop (mkF m 9 #[.val (.int p1), .val (.int p2)] [])) (fun tt_ kk_ => XS.icmpYes X0.here hx rfl (pc0 := 2) (pc' := 9) rfl (hb hby d4_2) rfl (tlt (h : p1 < p2)).1 (by decide) (by decide) kk_) ?_
    refine Wp.st (S' := s₁.setTop (mkF m 10 #[.val (.int p1), .val (.int p2)] [(.int p2)])) (fun tt_ kk_ => XS.iloadN X0.here hx rfl (hb hby d4_9) rfl  kk_) ?_
    exact Wp.ret X0 hlk (v := (some (.int p2))) (fun h => by rw [Bd.returns] at h; cases h) (fun fs hr => retI X0 hx Bd.returns (hb hby d4_10) hr) (by decide) (by decide) (show Q_rm4 Z p1 p2 h0 n0 _ s₁.heap _ by rw [e0]; exact ⟨(by unfold own_max; rw [if_pos h]), N0, rfl⟩)
  case neg =>
    refine Wp.st (S' := s₁.setTop (mkF m 5 #[.val (.int p1), .val (.int p2)] [])) (fun tt_ kk_ => XS.icmpNo X0.here hx rfl (hb hby d4_2) rfl (flt (h : ¬ (p1 < p2))).1 kk_) ?_
    refine Wp.st (S' := s₁.setTop (mkF m 6 #[.val (.int p1), .val (.int p2)] [(.int p1)])) (fun tt_ kk_ => XS.iloadN X0.here hx rfl (hb hby d4_5) rfl  kk_) ?_
    refine Wp.st (S' := s₁.setTop (mkF m 10 #[.val (.int p1), .val (.int p2)] [(.int p1)])) (fun tt_ kk_ => XS.goto X0.here hx rfl (pc0 := 6) (pc' := 10) rfl (hb hby d4_6) (by decide) (by decide) kk_) ?_
    exact Wp.ret X0 hlk (v := (some (.int p1))) (fun h => by rw [Bd.returns] at h; cases h) (fun fs hr => retI X0 hx Bd.returns (hb hby d4_10) hr) (by decide) (by decide) (show Q_rm4 Z p1 p2 h0 n0 _ s₁.heap _ by rw [e0]; exact ⟨(by unfold own_max; rw [if_neg h]), N0, rfl⟩)
theorem d7_0 : decode jdk_29_method_69_code 0 = .ok (.iload_n 0, 1) := by decide +kernel
theorem d7_1 : decode jdk_29_method_69_code 1 = .ok (.iload_n 1, 1) := by decide +kernel
theorem d7_2 : decode jdk_29_method_69_code 2 = .ok (.if_icmp .gt 7, 3) := by decide +kernel
theorem d7_9 : decode jdk_29_method_69_code 9 = .ok (.iload_n 1, 1) := by decide +kernel
theorem d7_10 : decode jdk_29_method_69_code 10 = .ok (.ireturn, 1) := by decide +kernel
theorem d7_5 : decode jdk_29_method_69_code 5 = .ok (.iload_n 0, 1) := by decide +kernel
theorem d7_6 : decode jdk_29_method_69_code 6 = .ok (.goto 4, 3) := by decide +kernel
theorem ef_rm7 (m : MethodId) (p1 : Int32) (p2 : Int32) : entryFrame m #[(.int p1), (.int p2)] 2 = mkF m 0 #[.val (.int p1), .val (.int p2)] [] := by first | (simp [entryFrame, mkF, argsToLocals, Value.category]; done) | rfl
def Q_rm7 (Z : State) (p1 : Int32) (p2 : Int32) (h0 : Heap) (n0 : Nat) (v : Option Value) (h : Heap) (L : List Loc) : Prop := (v = some (.int (own_min p1 p2))) ∧ (Fr n0 L) ∧ (h = h0)
set_option maxRecDepth 65536 in
set_option maxHeartbeats 40000000 in
theorem rm7 (l : Launch) (Z : State) (a0 : Array Value) (hw : ∀ d ∈ tables_1, d.before a0 Z = true) (ws : List Jvm.Cond) (p1 : Int32) (p2 : Int32) (h0 : Heap) (n0 : Nat) (Z0 : n0 ≤ h0.size)  :
    MetFree l (⟨"java/lang/Math", "min", "(II)I"⟩ : MethodName) (head1 (Jvm.Cond.code (⟨"java/lang/Math", "min", "(II)I"⟩ : MethodName) jdk_29_method_69_code 2 (some .int) :: ws) ({ frames := 0, cells := 0, slots := 0, locals := 0 } : Room)) (fun a U => a = #[(.int p1), (.int p2)] ∧ Z.Warmed39 U.vm ∧ U.heap = h0) (fun _ _ _ _ _ => True) (fun _ U o U' => ∃ v L, o = .returned v ∧ Q_rm7 Z p1 p2 h0 n0 v U'.heap L ∧ FrameEnd U o U' L ({ frames := 0, cells := 0, slots := 0, locals := 0 } : Room).cells ({ frames := 0, cells := 0, slots := 0, locals := 0 } : Room).slots) := by
  refine MetFree.of_bodySF (Jvm.Free.JP.mathPlain rfl (by decide +kernel)) hisR ?_
  intro p e s m args below meth c s₁ Bd hml0 hP hK
  obtain ⟨rfl, hZ, hh⟩ := hP
  have hx := Bd.exec
  have hby := Bd.bytes
  have hml : c.maxLocals = 2 := hml0
  have hown : s.vm.findClass "java/lang/Math" = some m.cls := findClass_of_methodNamed Bd.named
  have hnm := (name_of_methodNamed Bd.named Bd.method).1
  have hlk := Bd.notSynchronized
  have X0 : Stand p l e ({ frames := 0, cells := 0, slots := 0, locals := 0 } : Room) s m #[(.int p1), (.int p2)] below meth c s₁ [] 0 0 := Stand.of_body Bd
  have e0 : s₁.heap = h0 := by rw [← hh, Bd.state]; rfl
  have N0 := Fr.nil n0
  refine Wp.goal (Post := (fun o U' => ∃ v L, o = .returned v ∧ Q_rm7 Z p1 p2 h0 n0 v U'.heap L ∧ FrameEnd s o U' L ({ frames := 0, cells := 0, slots := 0, locals := 0 } : Room).cells ({ frames := 0, cells := 0, slots := 0, locals := 0 } : Room).slots)) (Wp.st (S' := s₁.setTop (mkF m 0 #[.val (.int p1), .val (.int p2)] [])) (fun tt_ kk_ => castTop (ef_rm7 m p1 p2 ) kk_) ?_)
  refine Wp.st (S' := s₁.setTop (mkF m 1 #[.val (.int p1), .val (.int p2)] [(.int p1)])) (fun tt_ kk_ => XS.iloadN X0.here hx rfl (hb hby d7_0) rfl  kk_) ?_
  refine Wp.st (S' := s₁.setTop (mkF m 2 #[.val (.int p1), .val (.int p2)] [(.int p2), (.int p1)])) (fun tt_ kk_ => XS.iloadN X0.here hx rfl (hb hby d7_1) rfl  kk_) ?_
  by_cases h : p2 < p1
  case pos =>
    refine Wp.st (S' := s₁.setTop (mkF m 9 #[.val (.int p1), .val (.int p2)] [])) (fun tt_ kk_ => XS.icmpYes X0.here hx rfl (pc0 := 2) (pc' := 9) rfl (hb hby d7_2) rfl (tlt (h : p2 < p1)).2.2.1 (by decide) (by decide) kk_) ?_
    refine Wp.st (S' := s₁.setTop (mkF m 10 #[.val (.int p1), .val (.int p2)] [(.int p2)])) (fun tt_ kk_ => XS.iloadN X0.here hx rfl (hb hby d7_9) rfl  kk_) ?_
    exact Wp.ret X0 hlk (v := (some (.int p2))) (fun h => by rw [Bd.returns] at h; cases h) (fun fs hr => retI X0 hx Bd.returns (hb hby d7_10) hr) (by decide) (by decide) (show Q_rm7 Z p1 p2 h0 n0 _ s₁.heap _ by rw [e0]; exact ⟨(by unfold own_min; rw [if_pos h]), N0, rfl⟩)
  case neg =>
    refine Wp.st (S' := s₁.setTop (mkF m 5 #[.val (.int p1), .val (.int p2)] [])) (fun tt_ kk_ => XS.icmpNo X0.here hx rfl (hb hby d7_2) rfl (flt (h : ¬ (p2 < p1))).2.2.1 kk_) ?_
    refine Wp.st (S' := s₁.setTop (mkF m 6 #[.val (.int p1), .val (.int p2)] [(.int p1)])) (fun tt_ kk_ => XS.iloadN X0.here hx rfl (hb hby d7_5) rfl  kk_) ?_
    refine Wp.st (S' := s₁.setTop (mkF m 10 #[.val (.int p1), .val (.int p2)] [(.int p1)])) (fun tt_ kk_ => XS.goto X0.here hx rfl (pc0 := 6) (pc' := 10) rfl (hb hby d7_6) (by decide) (by decide) kk_) ?_
    exact Wp.ret X0 hlk (v := (some (.int p1))) (fun h => by rw [Bd.returns] at h; cases h) (fun fs hr => retI X0 hx Bd.returns (hb hby d7_10) hr) (by decide) (by decide) (show Q_rm7 Z p1 p2 h0 n0 _ s₁.heap _ by rw [e0]; exact ⟨(by unfold own_min; rw [if_neg h]), N0, rfl⟩)
theorem pn_6 : plainName "com/example/dags_over_clouds/dagsoverclouds/plan/Tally" = true := by first | (simp [plainName, overriddenIn]; done) | decide +kernel
theorem d6_0 : decode prog_71_method_5_code 0 = .ok (.aload_n 0, 1) := by decide +kernel
theorem d6_1 : decode prog_71_method_5_code 1 = .ok (.getfield 21, 3) := by decide +kernel
theorem d6_4 : decode prog_71_method_5_code 4 = .ok (.iload_n 1, 1) := by decide +kernel
theorem d6_5 : decode prog_71_method_5_code 5 = .ok (.iconst 1, 1) := by decide +kernel
theorem d6_6 : decode prog_71_method_5_code 6 = .ok (.isub, 1) := by decide +kernel
theorem d6_7 : decode prog_71_method_5_code 7 = .ok (.aaload, 1) := by decide +kernel
theorem d6_8 : decode prog_71_method_5_code 8 = .ok (.astore_n 3, 1) := by decide +kernel
theorem d6_9 : decode prog_71_method_5_code 9 = .ok (.iload_n 2, 1) := by decide +kernel
theorem d6_10 : decode prog_71_method_5_code 10 = .ok (.bipush 64, 2) := by decide +kernel
theorem d6_12 : decode prog_71_method_5_code 12 = .ok (.imul, 1) := by decide +kernel
theorem d6_13 : decode prog_71_method_5_code 13 = .ok (.istore 4, 2) := by decide +kernel
theorem d6_15 : decode prog_71_method_5_code 15 = .ok (.aload_n 3, 1) := by decide +kernel
theorem d6_16 : decode prog_71_method_5_code 16 = .ok (.arraylength, 1) := by decide +kernel
theorem d6_17 : decode prog_71_method_5_code 17 = .ok (.iload 4, 2) := by decide +kernel
theorem d6_19 : decode prog_71_method_5_code 19 = .ok (.bipush 64, 2) := by decide +kernel
theorem d6_21 : decode prog_71_method_5_code 21 = .ok (.iadd, 1) := by decide +kernel
theorem d6_22 : decode prog_71_method_5_code 22 = .ok (.invokestatic 62, 3) := by decide +kernel
theorem pd_0 : parseMethodDescriptor "(II)I" = some ⟨[.int, .int], some .int⟩ := by decide +kernel
theorem d6_25 : decode prog_71_method_5_code 25 = .ok (.istore 5, 2) := by decide +kernel
theorem d6_27 : decode prog_71_method_5_code 27 = .ok (.aload_n 3, 1) := by decide +kernel
theorem d6_28 : decode prog_71_method_5_code 28 = .ok (.iload 4, 2) := by decide +kernel
theorem d6_30 : decode prog_71_method_5_code 30 = .ok (.daload, 1) := by decide +kernel
theorem d6_31 : decode prog_71_method_5_code 31 = .ok (.dstore 6, 2) := by decide +kernel
theorem d6_33 : decode prog_71_method_5_code 33 = .ok (.iload 4, 2) := by decide +kernel
theorem d6_35 : decode prog_71_method_5_code 35 = .ok (.iconst 1, 1) := by decide +kernel
theorem d6_36 : decode prog_71_method_5_code 36 = .ok (.iadd, 1) := by decide +kernel
theorem d6_37 : decode prog_71_method_5_code 37 = .ok (.istore 8, 2) := by decide +kernel
theorem d6_39 : decode prog_71_method_5_code 39 = .ok (.iload 8, 2) := by decide +kernel
theorem d6_41 : decode prog_71_method_5_code 41 = .ok (.iload 5, 2) := by decide +kernel
theorem d6_43 : decode prog_71_method_5_code 43 = .ok (.if_icmp .ge 18, 3) := by decide +kernel
theorem d6_46 : decode prog_71_method_5_code 46 = .ok (.dload 6, 2) := by decide +kernel
theorem d6_48 : decode prog_71_method_5_code 48 = .ok (.aload_n 3, 1) := by decide +kernel
theorem d6_49 : decode prog_71_method_5_code 49 = .ok (.iload 8, 2) := by decide +kernel
theorem d6_51 : decode prog_71_method_5_code 51 = .ok (.daload, 1) := by decide +kernel
theorem d6_52 : decode prog_71_method_5_code 52 = .ok (.dadd, 1) := by decide +kernel
theorem d6_53 : decode prog_71_method_5_code 53 = .ok (.dstore 6, 2) := by decide +kernel
theorem d6_55 : decode prog_71_method_5_code 55 = .ok (.iinc 8 1, 3) := by decide +kernel
theorem d6_58 : decode prog_71_method_5_code 58 = .ok (.goto (-19), 3) := by decide +kernel
theorem d6_61 : decode prog_71_method_5_code 61 = .ok (.aload_n 0, 1) := by decide +kernel
theorem d6_62 : decode prog_71_method_5_code 62 = .ok (.getfield 21, 3) := by decide +kernel
theorem d6_65 : decode prog_71_method_5_code 65 = .ok (.iload_n 1, 1) := by decide +kernel
theorem d6_66 : decode prog_71_method_5_code 66 = .ok (.aaload, 1) := by decide +kernel
theorem d6_67 : decode prog_71_method_5_code 67 = .ok (.iload_n 2, 1) := by decide +kernel
theorem d6_68 : decode prog_71_method_5_code 68 = .ok (.dload 6, 2) := by decide +kernel
theorem d6_70 : decode prog_71_method_5_code 70 = .ok (.dastore, 1) := by decide +kernel
theorem d6_71 : decode prog_71_method_5_code 71 = .ok (.return_, 1) := by decide +kernel
theorem ef_rmAdd21 (m : MethodId) (a1 : Addr) (p3 : Int32) : entryFrame m #[(.ref a1), (.int (1 : Int32)), (.int p3)] 9 = mkF m 0 #[.val (.ref a1), .val (.int (1 : Int32)), .val (.int p3), .unset, .unset, .unset, .unset, .unset, .unset] [] := by first | (simp [entryFrame, mkF, argsToLocals, Value.category]; done) | rfl
def Q_rmAdd21 (Z : State) (a1 : Addr) (p3 : Int32) (lv : Addr) (l0 : Addr) (l1 : Addr) (kl : ClassId) (ks : ClassId) (kd : ClassId) (m1 : Int32) (m2 : Int32) (wf : Nat → Int) (uf : Nat → Int) (h0 : Heap) (n0 : Nat) (v : Option Value) (h : Heap) (L : List Loc) : Prop := (v = none) ∧ (Fr n0 L) ∧ (Keep h0 h [l1]) ∧ (Arv Z h l1 kd .double m2 (own_dl (own_up uf p3.toNatClampNeg (own_R wf m1.toNatClampNeg p3.toNatClampNeg))) (.double (0 : UInt64)))
set_option maxRecDepth 65536 in
set_option maxHeartbeats 40000000 in
theorem rmAdd21 (l : Launch) (Z : State) (a0 : Array Value) (hw : ∀ d ∈ tables_1, d.before a0 Z = true) (ws : List Jvm.Cond) (a1 : Addr) (p3 : Int32) (lv : Addr) (l0 : Addr) (l1 : Addr) (kl : ClassId) (ks : ClassId) (kd : ClassId) (m1 : Int32) (m2 : Int32) (wf : Nat → Int) (uf : Nat → Int) (h0 : Heap) (n0 : Nat) (Z0 : n0 ≤ h0.size) (g_l1 : n0 ≤ l1) (P1 : Fld Z h0 a1 "com/example/dags_over_clouds/dagsoverclouds/plan/Tally" "levels" "[[D" (.ref lv)) (P2 : Arv Z h0 lv kl (.array .double) (2 : Int32) [(.ref l0), (.ref l1)] .null) (P3 : Arv Z h0 l0 ks .double m1 (own_dl wf) (.double (0 : UInt64))) (P4 : Arv Z h0 l1 kd .double m2 (own_dl uf) (.double (0 : UInt64))) (hbw : own_b wf) (hr : own_hr p3 m1 m2) :
    MetFree l (⟨"com/example/dags_over_clouds/dagsoverclouds/plan/Tally", "addUp", "(II)V"⟩ : MethodName) (head1 (Jvm.Cond.code (⟨"com/example/dags_over_clouds/dagsoverclouds/plan/Tally", "addUp", "(II)V"⟩ : MethodName) prog_71_method_5_code 9 none :: ws) ({ frames := 1, cells := 0, slots := 0, locals := 13 } : Room)) (fun a U => a = #[(.ref a1), (.int (1 : Int32)), (.int p3)] ∧ Z.Warmed39 U.vm ∧ U.heap = h0) (fun _ _ _ _ _ => True) (fun _ U o U' => ∃ v L, o = .returned v ∧ Q_rmAdd21 Z a1 p3 lv l0 l1 kl ks kd m1 m2 wf uf h0 n0 v U'.heap L ∧ FrameEnd U o U' L ({ frames := 1, cells := 0, slots := 0, locals := 13 } : Room).cells ({ frames := 1, cells := 0, slots := 0, locals := 13 } : Room).slots) := by
  refine MetFree.of_bodySF (plainFor_of_name pn_6) hisR ?_
  intro p e s m args below meth c s₁ Bd hml0 hP hK
  obtain ⟨rfl, hZ, hh⟩ := hP
  have hx := Bd.exec
  have hby := Bd.bytes
  have hml : c.maxLocals = 9 := hml0
  have hown : s.vm.findClass "com/example/dags_over_clouds/dagsoverclouds/plan/Tally" = some m.cls := findClass_of_methodNamed Bd.named
  have hnm := (name_of_methodNamed Bd.named Bd.method).1
  have hlk := Bd.notSynchronized
  have X0 : Stand p l e ({ frames := 1, cells := 0, slots := 0, locals := 13 } : Room) s m #[(.ref a1), (.int (1 : Int32)), (.int p3)] below meth c s₁ [] 0 0 := Stand.of_body Bd
  have e0 : s₁.heap = h0 := by rw [← hh, Bd.state]; rfl
  have N0 := Fr.nil n0
  refine Wp.goal (Post := (fun o U' => ∃ v L, o = .returned v ∧ Q_rmAdd21 Z a1 p3 lv l0 l1 kl ks kd m1 m2 wf uf h0 n0 v U'.heap L ∧ FrameEnd s o U' L ({ frames := 1, cells := 0, slots := 0, locals := 13 } : Room).cells ({ frames := 1, cells := 0, slots := 0, locals := 13 } : Room).slots)) (Wp.st (S' := s₁.setTop (mkF m 0 #[.val (.ref a1), .val (.int (1 : Int32)), .val (.int p3), .unset, .unset, .unset, .unset, .unset, .unset] [])) (fun tt_ kk_ => castTop (ef_rmAdd21 m a1 p3 ) kk_) ?_)
  have hf1 := own_f1 hr
  have he1 := own_e1 hr
  unfold own_hr at hr
  refine Wp.st (S' := s₁.setTop (mkF m 1 #[.val (.ref a1), .val (.int (1 : Int32)), .val (.int p3), .unset, .unset, .unset, .unset, .unset, .unset] [(.ref a1)])) (fun tt_ kk_ => XS.aloadN X0.here hx rfl (hb hby d6_0) rfl rfl kk_) ?_
  obtain ⟨T1, X1, e1, st1⟩ := getF X0 hx hZ hown (host := "") (Or.inl (hw _ (List.mem_of_getElem? (i := 22) rfl))) Via.refl e0 P1 (g := (mkF m 1 #[.val (.ref a1), .val (.int (1 : Int32)), .val (.int p3), .unset, .unset, .unset, .unset, .unset, .unset] [(.ref a1)])) rfl rfl (hb hby d6_1)
  refine Wp.st (S' := T1.setTop (mkF m 4 #[.val (.ref a1), .val (.int (1 : Int32)), .val (.int p3), .unset, .unset, .unset, .unset, .unset, .unset] [(.ref lv)])) st1 ?_
  refine Wp.st (S' := T1.setTop (mkF m 5 #[.val (.ref a1), .val (.int (1 : Int32)), .val (.int p3), .unset, .unset, .unset, .unset, .unset, .unset] [(.int (1 : Int32)), (.ref lv)])) (fun tt_ kk_ => XS.iloadN X1.here hx rfl (hb hby d6_4) rfl  kk_) ?_
  refine Wp.st (S' := T1.setTop (mkF m 6 #[.val (.ref a1), .val (.int (1 : Int32)), .val (.int p3), .unset, .unset, .unset, .unset, .unset, .unset] [(.int (1 : Int32)), (.int (1 : Int32)), (.ref lv)])) (fun tt_ kk_ => XS.iconst X1.here hx rfl (hb hby d6_5) kk_) ?_
  refine Wp.st (S' := T1.setTop (mkF m 7 #[.val (.ref a1), .val (.int (1 : Int32)), .val (.int p3), .unset, .unset, .unset, .unset, .unset, .unset] [(.int ((1 : Int32) - (1 : Int32))), (.ref lv)])) (fun tt_ kk_ => XS.isub X1.here hx rfl (hb hby d6_6) rfl kk_) ?_
  rw [(by decide : ((1 : Int32) - (1 : Int32)) = (0 : Int32))]
  obtain ⟨cl2, Ar2, q2, S2, N2, H2, G2⟩ := id P2
  have hin2 := inb_of (j := (0 : Int32)) S2 ⟨by decide, by decide⟩
  refine Wp.st (S' := T1.setTop (mkF m 8 #[.val (.ref a1), .val (.int (1 : Int32)), .val (.int p3), .unset, .unset, .unset, .unset, .unset, .unset] [(.ref l0)])) (fun tt_ kk_ => X1.aaload hx (j := (0 : Int32)) (v := (.ref l0)) (by rw [e1]; exact Ar2.1) (State.isArrayOf_alike hZ.alike Ar2.2.1) rfl Ar2.2.2 hin2 (H2.at hin2 rfl) (g := (mkF m 7 #[.val (.ref a1), .val (.int (1 : Int32)), .val (.int p3), .unset, .unset, .unset, .unset, .unset, .unset] [(.int (0 : Int32)), (.ref lv)])) rfl rfl (hb hby d6_7) tt_ kk_) ?_
  refine Wp.st (S' := T1.setTop (mkF m 9 #[.val (.ref a1), .val (.int (1 : Int32)), .val (.int p3), .val (.ref l0), .unset, .unset, .unset, .unset, .unset] [])) (fun tt_ kk_ => XS.astoreN X1.here hx rfl (hb hby d6_8) rfl rfl (l' := #[.val (.ref a1), .val (.int (1 : Int32)), .val (.int p3), .val (.ref l0), .unset, .unset, .unset, .unset, .unset]) rfl kk_) ?_
  refine Wp.st (S' := T1.setTop (mkF m 10 #[.val (.ref a1), .val (.int (1 : Int32)), .val (.int p3), .val (.ref l0), .unset, .unset, .unset, .unset, .unset] [(.int p3)])) (fun tt_ kk_ => XS.iloadN X1.here hx rfl (hb hby d6_9) rfl  kk_) ?_
  refine Wp.st (S' := T1.setTop (mkF m 12 #[.val (.ref a1), .val (.int (1 : Int32)), .val (.int p3), .val (.ref l0), .unset, .unset, .unset, .unset, .unset] [(.int (64 : Int32)), (.int p3)])) (fun tt_ kk_ => XS.bipush X1.here hx rfl (hb hby d6_10) kk_) ?_
  refine Wp.st (S' := T1.setTop (mkF m 13 #[.val (.ref a1), .val (.int (1 : Int32)), .val (.int p3), .val (.ref l0), .unset, .unset, .unset, .unset, .unset] [(.int (p3 * (64 : Int32)))])) (fun tt_ kk_ => XS.imul X1.here hx rfl (hb hby d6_12) rfl kk_) ?_
  refine Wp.st (S' := T1.setTop (mkF m 15 #[.val (.ref a1), .val (.int (1 : Int32)), .val (.int p3), .val (.ref l0), .val (.int (p3 * (64 : Int32))), .unset, .unset, .unset, .unset] [])) (fun tt_ kk_ => XS.istore X1.here hx rfl (hb hby d6_13) rfl (l' := #[.val (.ref a1), .val (.int (1 : Int32)), .val (.int p3), .val (.ref l0), .val (.int (p3 * (64 : Int32))), .unset, .unset, .unset, .unset]) rfl kk_) ?_
  generalize qf1 : (p3 * (64 : Int32)) = f1
  rw [qf1] at hf1 he1
  refine Wp.st (S' := T1.setTop (mkF m 16 #[.val (.ref a1), .val (.int (1 : Int32)), .val (.int p3), .val (.ref l0), .val (.int f1), .unset, .unset, .unset, .unset] [(.ref l0)])) (fun tt_ kk_ => XS.aloadN X1.here hx rfl (hb hby d6_15) rfl rfl kk_) ?_
  obtain ⟨cl3, Ar3, q3, S3, N3, H3, G3⟩ := id P3
  refine Wp.st (S' := T1.setTop (mkF m 17 #[.val (.ref a1), .val (.int (1 : Int32)), .val (.int p3), .val (.ref l0), .val (.int f1), .unset, .unset, .unset, .unset] [(.int m1)])) (fun tt_ kk_ => X1.arraylength hx (by rw [e1]; exact Ar3.1) (State.isArrayOf_alike hZ.alike Ar3.2.1) (g := (mkF m 16 #[.val (.ref a1), .val (.int (1 : Int32)), .val (.int p3), .val (.ref l0), .val (.int f1), .unset, .unset, .unset, .unset] [(.ref l0)])) rfl rfl (hb hby d6_16) tt_ (by rw [len_of S3 N3]; exact kk_)) ?_
  refine Wp.st (S' := T1.setTop (mkF m 19 #[.val (.ref a1), .val (.int (1 : Int32)), .val (.int p3), .val (.ref l0), .val (.int f1), .unset, .unset, .unset, .unset] [(.int f1), (.int m1)])) (fun tt_ kk_ => XS.iload X1.here hx rfl (hb hby d6_17) rfl  kk_) ?_
  refine Wp.st (S' := T1.setTop (mkF m 21 #[.val (.ref a1), .val (.int (1 : Int32)), .val (.int p3), .val (.ref l0), .val (.int f1), .unset, .unset, .unset, .unset] [(.int (64 : Int32)), (.int f1), (.int m1)])) (fun tt_ kk_ => XS.bipush X1.here hx rfl (hb hby d6_19) kk_) ?_
  refine Wp.st (S' := T1.setTop (mkF m 22 #[.val (.ref a1), .val (.int (1 : Int32)), .val (.int p3), .val (.ref l0), .val (.int f1), .unset, .unset, .unset, .unset] [(.int (f1 + (64 : Int32))), (.int m1)])) (fun tt_ kk_ => XS.iadd X1.here hx rfl (hb hby d6_21) rfl kk_) ?_
  obtain ⟨vv4, _, ⟨T4, L4, k4, n4⟩, -, X4, ⟨Lc4, hQ4, l4, y4, z4⟩, st4⟩ := Jvm.LawKit.callS X1 hx (y := (⟨"java/lang/Math", "min", "(II)I"⟩ : MethodName)) hown (mvT hZ (hw _ (List.mem_of_getElem? (i := 39) rfl))) (mvT hZ (hw _ (List.mem_of_getElem? (i := 40) rfl))) (mvT hZ (hw _ (List.mem_of_getElem? (i := 18) rfl))) (mvT hZ (hw _ (List.mem_of_getElem? (i := 41) rfl))) (by decide) (backOf (W := 0) (rm7 l Z a0 hw [] m1 (f1 + (64 : Int32)) h0 n0 Z0 ) hZ (hw _ (List.mem_of_getElem? (i := 41) rfl)) (hw _ (List.mem_of_getElem? (i := 18) rfl)) (by decide) (by decide)) (g := (mkF m 22 #[.val (.ref a1), .val (.int (1 : Int32)), .val (.int p3), .val (.ref l0), .val (.int f1), .unset, .unset, .unset, .unset] [(.int (f1 + (64 : Int32))), (.int m1)])) rfl (by rw [hml]; rfl) (argsL := [(.int m1), (.int (f1 + (64 : Int32)))]) (rest := []) (lenOf pd_0 rfl) rfl (by show 2 * 0 + _ ≤ _; exact Nat.le_of_eq rfl) (hb hby d6_22) (fun _ _ => ⟨rfl, e1, (by decide : 0 + 0 ≤ _), (by decide : 0 + 0 ≤ _)⟩)
  dsimp only [Pt.U, Pt.locs, Pt.cells, Pt.slots] at X4 l4 y4 z4 st4 hQ4
  subst l4 y4 z4
  obtain ⟨rfl, Nq4, e4⟩ := hQ4
  have N4 := Fr.app N0 Nq4
  refine Wp.st (S' := T4.setTop (mkF m 25 #[.val (.ref a1), .val (.int (1 : Int32)), .val (.int p3), .val (.ref l0), .val (.int f1), .unset, .unset, .unset, .unset] [(.int (own_min m1 (f1 + (64 : Int32))))])) st4 ?_
  refine Wp.st (S' := T4.setTop (mkF m 27 #[.val (.ref a1), .val (.int (1 : Int32)), .val (.int p3), .val (.ref l0), .val (.int f1), .val (.int (own_min m1 (f1 + (64 : Int32)))), .unset, .unset, .unset] [])) (fun tt_ kk_ => XS.istore X4.here hx rfl (hb hby d6_25) rfl (l' := #[.val (.ref a1), .val (.int (1 : Int32)), .val (.int p3), .val (.ref l0), .val (.int f1), .val (.int (own_min m1 (f1 + (64 : Int32)))), .unset, .unset, .unset]) rfl kk_) ?_
  generalize qe1 : (own_min m1 (f1 + (64 : Int32))) = e1
  rw [qe1] at he1
  refine Wp.st (S' := T4.setTop (mkF m 28 #[.val (.ref a1), .val (.int (1 : Int32)), .val (.int p3), .val (.ref l0), .val (.int f1), .val (.int e1), .unset, .unset, .unset] [(.ref l0)])) (fun tt_ kk_ => XS.aloadN X4.here hx rfl (hb hby d6_27) rfl rfl kk_) ?_
  refine Wp.st (S' := T4.setTop (mkF m 30 #[.val (.ref a1), .val (.int (1 : Int32)), .val (.int p3), .val (.ref l0), .val (.int f1), .val (.int e1), .unset, .unset, .unset] [(.int f1), (.ref l0)])) (fun tt_ kk_ => XS.iload X4.here hx rfl (hb hby d6_28) rfl  kk_) ?_
  obtain ⟨cl5, Ar5, q5, S5, N5, H5, G5⟩ := id P3
  have hin5 := inb_of (j := f1) S5 (own_ibn (by omega))
  refine Wp.st (S' := T4.setTop (mkF m 31 #[.val (.ref a1), .val (.int (1 : Int32)), .val (.int p3), .val (.ref l0), .val (.int f1), .val (.int e1), .unset, .unset, .unset] [(.double (FP.l2d (Int64.ofInt (wf f1.toNatClampNeg))))])) (fun tt_ kk_ => X4.daload hx (j := f1) (v := (.double (FP.l2d (Int64.ofInt (wf f1.toNatClampNeg))))) (by rw [e4]; exact Ar5.1) (State.isArrayOf_alike hZ.alike Ar5.2.1) Ar5.2.2 hin5 (H5.at hin5 (own_dl_get wf (by rw [own_clamp]; omega) _)) (g := (mkF m 30 #[.val (.ref a1), .val (.int (1 : Int32)), .val (.int p3), .val (.ref l0), .val (.int f1), .val (.int e1), .unset, .unset, .unset] [(.int f1), (.ref l0)])) rfl rfl (hb hby d6_30) tt_ kk_) ?_
  refine Wp.st (S' := T4.setTop (mkF m 33 #[.val (.ref a1), .val (.int (1 : Int32)), .val (.int p3), .val (.ref l0), .val (.int f1), .val (.int e1), .val (.double (FP.l2d (Int64.ofInt (wf f1.toNatClampNeg)))), .second, .unset] [])) (fun tt_ kk_ => XS.dstore X4.here hx rfl (hb hby d6_31) rfl (l' := #[.val (.ref a1), .val (.int (1 : Int32)), .val (.int p3), .val (.ref l0), .val (.int f1), .val (.int e1), .val (.double (FP.l2d (Int64.ofInt (wf f1.toNatClampNeg)))), .second, .unset]) rfl kk_) ?_
  refine Wp.st (S' := T4.setTop (mkF m 35 #[.val (.ref a1), .val (.int (1 : Int32)), .val (.int p3), .val (.ref l0), .val (.int f1), .val (.int e1), .val (.double (FP.l2d (Int64.ofInt (wf f1.toNatClampNeg)))), .second, .unset] [(.int f1)])) (fun tt_ kk_ => XS.iload X4.here hx rfl (hb hby d6_33) rfl  kk_) ?_
  refine Wp.st (S' := T4.setTop (mkF m 36 #[.val (.ref a1), .val (.int (1 : Int32)), .val (.int p3), .val (.ref l0), .val (.int f1), .val (.int e1), .val (.double (FP.l2d (Int64.ofInt (wf f1.toNatClampNeg)))), .second, .unset] [(.int (1 : Int32)), (.int f1)])) (fun tt_ kk_ => XS.iconst X4.here hx rfl (hb hby d6_35) kk_) ?_
  refine Wp.st (S' := T4.setTop (mkF m 37 #[.val (.ref a1), .val (.int (1 : Int32)), .val (.int p3), .val (.ref l0), .val (.int f1), .val (.int e1), .val (.double (FP.l2d (Int64.ofInt (wf f1.toNatClampNeg)))), .second, .unset] [(.int (f1 + (1 : Int32)))])) (fun tt_ kk_ => XS.iadd X4.here hx rfl (hb hby d6_36) rfl kk_) ?_
  refine Wp.st (S' := T4.setTop (mkF m 39 #[.val (.ref a1), .val (.int (1 : Int32)), .val (.int p3), .val (.ref l0), .val (.int f1), .val (.int e1), .val (.double (FP.l2d (Int64.ofInt (wf f1.toNatClampNeg)))), .second, .val (.int (f1 + (1 : Int32)))] [])) (fun tt_ kk_ => XS.istore X4.here hx rfl (hb hby d6_37) rfl (l' := #[.val (.ref a1), .val (.int (1 : Int32)), .val (.int p3), .val (.ref l0), .val (.int f1), .val (.int e1), .val (.double (FP.l2d (Int64.ofInt (wf f1.toNatClampNeg)))), .second, .val (.int (f1 + (1 : Int32)))]) rfl kk_) ?_
  have J6 : ∀ (fu : Nat) (TJ6 : State) (loJ6 : List Loc) (i1 : Int32) (ac : Int) (NJ6 : Fr n0 loJ6) (XJ6 : Stand p l e ({ frames := 1, cells := 0, slots := 0, locals := 13 } : Room) s m #[(.ref a1), (.int (1 : Int32)), (.int p3)] below meth c TJ6 loJ6 0 0) (eJ6 : TJ6.heap = h0) (hi1 : f1.toInt < i1.toInt ∧ i1.toInt ≤ e1.toInt) (hac : ac = own_S wf f1.toNatClampNeg (i1.toInt - f1.toInt).toNat) (hfu : (e1.toInt - i1.toInt).toNat = fu), Wp p e below (fun o U' => ∃ v L, o = .returned v ∧ Q_rmAdd21 Z a1 p3 lv l0 l1 kl ks kd m1 m2 wf uf h0 n0 v U'.heap L ∧ FrameEnd s o U' L ({ frames := 1, cells := 0, slots := 0, locals := 13 } : Room).cells ({ frames := 1, cells := 0, slots := 0, locals := 13 } : Room).slots) (TJ6.setTop (mkF m 39 #[.val (.ref a1), .val (.int (1 : Int32)), .val (.int p3), .val (.ref l0), .val (.int f1), .val (.int e1), .val (.double (FP.l2d (Int64.ofInt ac))), .second, .val (.int i1)] [])) := by
    refine own_loop (fun fu ihJ6 => ?_)
    intro TJ6 loJ6 i1 ac NJ6 XJ6 eJ6 hi1 hac hfu
    refine Wp.st (S' := TJ6.setTop (mkF m 41 #[.val (.ref a1), .val (.int (1 : Int32)), .val (.int p3), .val (.ref l0), .val (.int f1), .val (.int e1), .val (.double (FP.l2d (Int64.ofInt ac))), .second, .val (.int i1)] [(.int i1)])) (fun tt_ kk_ => XS.iload XJ6.here hx rfl (hb hby d6_39) rfl  kk_) ?_
    refine Wp.st (S' := TJ6.setTop (mkF m 43 #[.val (.ref a1), .val (.int (1 : Int32)), .val (.int p3), .val (.ref l0), .val (.int f1), .val (.int e1), .val (.double (FP.l2d (Int64.ofInt ac))), .second, .val (.int i1)] [(.int e1), (.int i1)])) (fun tt_ kk_ => XS.iload XJ6.here hx rfl (hb hby d6_41) rfl  kk_) ?_
    by_cases hlt : i1 < e1
    case pos =>
      refine Wp.st (S' := TJ6.setTop (mkF m 46 #[.val (.ref a1), .val (.int (1 : Int32)), .val (.int p3), .val (.ref l0), .val (.int f1), .val (.int e1), .val (.double (FP.l2d (Int64.ofInt ac))), .second, .val (.int i1)] [])) (fun tt_ kk_ => XS.icmpNo XJ6.here hx rfl (hb hby d6_43) rfl (tlt (hlt : i1 < e1)).2.1 kk_) ?_
      rw [Int32.lt_iff_toInt_lt] at hlt
      have hsb := own_S_b hbw f1.toNatClampNeg (i1.toInt - f1.toInt).toNat
      rw [← hac] at hsb
      have hwv := hbw i1.toNatClampNeg
      have hnx := own_one i1 (by omega)
      have hda : FP.dadd (FP.l2d (Int64.ofInt ac)) (FP.l2d (Int64.ofInt (wf i1.toNatClampNeg))) = (FP.l2d (Int64.ofInt (ac + wf i1.toNatClampNeg))) := own_dadd (by omega) (by omega)
      refine Wp.st (S' := TJ6.setTop (mkF m 48 #[.val (.ref a1), .val (.int (1 : Int32)), .val (.int p3), .val (.ref l0), .val (.int f1), .val (.int e1), .val (.double (FP.l2d (Int64.ofInt ac))), .second, .val (.int i1)] [(.double (FP.l2d (Int64.ofInt ac)))])) (fun tt_ kk_ => XS.dload XJ6.here hx rfl (hb hby d6_46) rfl  kk_) ?_
      refine Wp.st (S' := TJ6.setTop (mkF m 49 #[.val (.ref a1), .val (.int (1 : Int32)), .val (.int p3), .val (.ref l0), .val (.int f1), .val (.int e1), .val (.double (FP.l2d (Int64.ofInt ac))), .second, .val (.int i1)] [(.ref l0), (.double (FP.l2d (Int64.ofInt ac)))])) (fun tt_ kk_ => XS.aloadN XJ6.here hx rfl (hb hby d6_48) rfl rfl kk_) ?_
      refine Wp.st (S' := TJ6.setTop (mkF m 51 #[.val (.ref a1), .val (.int (1 : Int32)), .val (.int p3), .val (.ref l0), .val (.int f1), .val (.int e1), .val (.double (FP.l2d (Int64.ofInt ac))), .second, .val (.int i1)] [(.int i1), (.ref l0), (.double (FP.l2d (Int64.ofInt ac)))])) (fun tt_ kk_ => XS.iload XJ6.here hx rfl (hb hby d6_49) rfl  kk_) ?_
      obtain ⟨cl7, Ar7, q7, S7, N7, H7, G7⟩ := id P3
      have hin7 := inb_of (j := i1) S7 (own_ibn (by omega))
      refine Wp.st (S' := TJ6.setTop (mkF m 52 #[.val (.ref a1), .val (.int (1 : Int32)), .val (.int p3), .val (.ref l0), .val (.int f1), .val (.int e1), .val (.double (FP.l2d (Int64.ofInt ac))), .second, .val (.int i1)] [(.double (FP.l2d (Int64.ofInt (wf i1.toNatClampNeg)))), (.double (FP.l2d (Int64.ofInt ac)))])) (fun tt_ kk_ => XJ6.daload hx (j := i1) (v := (.double (FP.l2d (Int64.ofInt (wf i1.toNatClampNeg))))) (by rw [eJ6]; exact Ar7.1) (State.isArrayOf_alike hZ.alike Ar7.2.1) Ar7.2.2 hin7 (H7.at hin7 (own_dl_get wf (by rw [own_clamp]; omega) _)) (g := (mkF m 51 #[.val (.ref a1), .val (.int (1 : Int32)), .val (.int p3), .val (.ref l0), .val (.int f1), .val (.int e1), .val (.double (FP.l2d (Int64.ofInt ac))), .second, .val (.int i1)] [(.int i1), (.ref l0), (.double (FP.l2d (Int64.ofInt ac)))])) rfl rfl (hb hby d6_51) tt_ kk_) ?_
      refine Wp.st (S' := TJ6.setTop (mkF m 53 #[.val (.ref a1), .val (.int (1 : Int32)), .val (.int p3), .val (.ref l0), .val (.int f1), .val (.int e1), .val (.double (FP.l2d (Int64.ofInt ac))), .second, .val (.int i1)] [(.double (FP.l2d (Int64.ofInt (ac + wf i1.toNatClampNeg))))])) (fun tt_ kk_ => XS.daddS XJ6.here hx rfl (hb hby d6_52) rfl (hda ▸ own_nnl _) hda kk_) ?_
      refine Wp.st (S' := TJ6.setTop (mkF m 55 #[.val (.ref a1), .val (.int (1 : Int32)), .val (.int p3), .val (.ref l0), .val (.int f1), .val (.int e1), .val (.double (FP.l2d (Int64.ofInt (ac + wf i1.toNatClampNeg)))), .second, .val (.int i1)] [])) (fun tt_ kk_ => XS.dstore XJ6.here hx rfl (hb hby d6_53) rfl (l' := #[.val (.ref a1), .val (.int (1 : Int32)), .val (.int p3), .val (.ref l0), .val (.int f1), .val (.int e1), .val (.double (FP.l2d (Int64.ofInt (ac + wf i1.toNatClampNeg)))), .second, .val (.int i1)]) rfl kk_) ?_
      refine Wp.st (S' := TJ6.setTop (mkF m 58 #[.val (.ref a1), .val (.int (1 : Int32)), .val (.int p3), .val (.ref l0), .val (.int f1), .val (.int e1), .val (.double (FP.l2d (Int64.ofInt (ac + wf i1.toNatClampNeg)))), .second, .val (.int (i1 + (1 : Int32)))] [])) (fun tt_ kk_ => XS.iinc XJ6.here hx rfl (hb hby d6_55) rfl (l' := #[.val (.ref a1), .val (.int (1 : Int32)), .val (.int p3), .val (.ref l0), .val (.int f1), .val (.int e1), .val (.double (FP.l2d (Int64.ofInt (ac + wf i1.toNatClampNeg)))), .second, .val (.int (i1 + (1 : Int32)))]) rfl kk_) ?_
      refine Wp.st (S' := TJ6.setTop (mkF m 39 #[.val (.ref a1), .val (.int (1 : Int32)), .val (.int p3), .val (.ref l0), .val (.int f1), .val (.int e1), .val (.double (FP.l2d (Int64.ofInt (ac + wf i1.toNatClampNeg)))), .second, .val (.int (i1 + (1 : Int32)))] [])) (fun tt_ kk_ => XS.goto XJ6.here hx rfl (pc0 := 58) (pc' := 39) rfl (hb hby d6_58) (by decide) (by decide) kk_) ?_
      have hac2 : ac + wf i1.toNatClampNeg = own_S wf f1.toNatClampNeg ((i1 + 1).toInt - f1.toInt).toNat := by
        rw [hnx, show (i1.toInt + 1 - f1.toInt).toNat = (i1.toInt - f1.toInt).toNat + 1 by omega, hac]
        show _ = own_S wf _ _ + wf _
        rw [show f1.toNatClampNeg + (i1.toInt - f1.toInt).toNat = i1.toNatClampNeg by rw [own_clamp, own_clamp]; omega]
      exact ihJ6 (e1.toInt - (i1 + 1).toInt).toNat (by rw [hnx]; omega) _ _ (i1 + (1 : Int32)) (ac + wf i1.toNatClampNeg) NJ6 XJ6 eJ6 (by rw [hnx]; omega) hac2 rfl
    case neg =>
      refine Wp.st (S' := TJ6.setTop (mkF m 61 #[.val (.ref a1), .val (.int (1 : Int32)), .val (.int p3), .val (.ref l0), .val (.int f1), .val (.int e1), .val (.double (FP.l2d (Int64.ofInt ac))), .second, .val (.int i1)] [])) (fun tt_ kk_ => XS.icmpYes XJ6.here hx rfl (pc0 := 43) (pc' := 61) rfl (hb hby d6_43) rfl (flt (hlt : ¬ (i1 < e1))).2.1 (by decide) (by decide) kk_) ?_
      rw [own_nlt] at hlt
      have hie : i1.toInt = e1.toInt := by omega
      have hR : ac = (own_R wf m1.toNatClampNeg p3.toNatClampNeg) := by
        rw [hac]; unfold own_R
        congr 1
        · rw [own_clamp, own_clamp]; omega
        · rw [own_clamp, own_clamp]; omega
      refine Wp.st (S' := TJ6.setTop (mkF m 62 #[.val (.ref a1), .val (.int (1 : Int32)), .val (.int p3), .val (.ref l0), .val (.int f1), .val (.int e1), .val (.double (FP.l2d (Int64.ofInt ac))), .second, .val (.int i1)] [(.ref a1)])) (fun tt_ kk_ => XS.aloadN XJ6.here hx rfl (hb hby d6_61) rfl rfl kk_) ?_
      obtain ⟨T8, X8, e8, st8⟩ := getF XJ6 hx hZ hown (host := "") (Or.inl (hw _ (List.mem_of_getElem? (i := 22) rfl))) Via.refl eJ6 P1 (g := (mkF m 62 #[.val (.ref a1), .val (.int (1 : Int32)), .val (.int p3), .val (.ref l0), .val (.int f1), .val (.int e1), .val (.double (FP.l2d (Int64.ofInt ac))), .second, .val (.int i1)] [(.ref a1)])) rfl rfl (hb hby d6_62)
      refine Wp.st (S' := T8.setTop (mkF m 65 #[.val (.ref a1), .val (.int (1 : Int32)), .val (.int p3), .val (.ref l0), .val (.int f1), .val (.int e1), .val (.double (FP.l2d (Int64.ofInt ac))), .second, .val (.int i1)] [(.ref lv)])) st8 ?_
      refine Wp.st (S' := T8.setTop (mkF m 66 #[.val (.ref a1), .val (.int (1 : Int32)), .val (.int p3), .val (.ref l0), .val (.int f1), .val (.int e1), .val (.double (FP.l2d (Int64.ofInt ac))), .second, .val (.int i1)] [(.int (1 : Int32)), (.ref lv)])) (fun tt_ kk_ => XS.iloadN X8.here hx rfl (hb hby d6_65) rfl  kk_) ?_
      obtain ⟨cl9, Ar9, q9, S9, N9, H9, G9⟩ := id P2
      have hin9 := inb_of (j := (1 : Int32)) S9 ⟨by decide, by decide⟩
      refine Wp.st (S' := T8.setTop (mkF m 67 #[.val (.ref a1), .val (.int (1 : Int32)), .val (.int p3), .val (.ref l0), .val (.int f1), .val (.int e1), .val (.double (FP.l2d (Int64.ofInt ac))), .second, .val (.int i1)] [(.ref l1)])) (fun tt_ kk_ => X8.aaload hx (j := (1 : Int32)) (v := (.ref l1)) (by rw [e8]; exact Ar9.1) (State.isArrayOf_alike hZ.alike Ar9.2.1) rfl Ar9.2.2 hin9 (H9.at hin9 rfl) (g := (mkF m 66 #[.val (.ref a1), .val (.int (1 : Int32)), .val (.int p3), .val (.ref l0), .val (.int f1), .val (.int e1), .val (.double (FP.l2d (Int64.ofInt ac))), .second, .val (.int i1)] [(.int (1 : Int32)), (.ref lv)])) rfl rfl (hb hby d6_66) tt_ kk_) ?_
      refine Wp.st (S' := T8.setTop (mkF m 68 #[.val (.ref a1), .val (.int (1 : Int32)), .val (.int p3), .val (.ref l0), .val (.int f1), .val (.int e1), .val (.double (FP.l2d (Int64.ofInt ac))), .second, .val (.int i1)] [(.int p3), (.ref l1)])) (fun tt_ kk_ => XS.iloadN X8.here hx rfl (hb hby d6_67) rfl  kk_) ?_
      refine Wp.st (S' := T8.setTop (mkF m 70 #[.val (.ref a1), .val (.int (1 : Int32)), .val (.int p3), .val (.ref l0), .val (.int f1), .val (.int e1), .val (.double (FP.l2d (Int64.ofInt ac))), .second, .val (.int i1)] [(.double (FP.l2d (Int64.ofInt ac))), (.int p3), (.ref l1)])) (fun tt_ kk_ => XS.dload X8.here hx rfl (hb hby d6_68) rfl  kk_) ?_
      rw [hR]
      obtain ⟨cl10, Ar10, q10, S10, N10, H10, G10⟩ := id P4
      have hin10 := inb_of (j := p3) S10 (own_ibn (by omega))
      obtain ⟨T10, h10, X10, e10, W10, st10⟩ := stD X8 hx hZ e8 Ar10 (j := p3) hin10 (g := (mkF m 70 #[.val (.ref a1), .val (.int (1 : Int32)), .val (.int p3), .val (.ref l0), .val (.int f1), .val (.int e1), .val (.double (FP.l2d (Int64.ofInt (own_R wf m1.toNatClampNeg p3.toNatClampNeg)))), .second, .val (.int i1)] [(.double (FP.l2d (Int64.ofInt (own_R wf m1.toNatClampNeg p3.toNatClampNeg)))), (.int p3), (.ref l1)])) rfl rfl (hb hby d6_70)
      have z11 := Nat.le_of_eq W10.size.symm
      have V10 : Arv Z h10 l1 kd .double m2 (own_dl (own_up uf p3.toNatClampNeg (own_R wf m1.toNatClampNeg p3.toNatClampNeg))) (.double (0 : UInt64)) := own_aset Ar10 q10 S10 N10 H10 G10 W10 (by rw [own_clamp]; omega)
      have Nf10 := Fr.snoc X10 NJ6 g_l1
      refine Wp.st (S' := T10.setTop (mkF m 71 #[.val (.ref a1), .val (.int (1 : Int32)), .val (.int p3), .val (.ref l0), .val (.int f1), .val (.int e1), .val (.double (FP.l2d (Int64.ofInt (own_R wf m1.toNatClampNeg p3.toNatClampNeg)))), .second, .val (.int i1)] [])) st10 ?_
      have K12 := Keep.refl h0 [l1]
      have K13 := K12.wr W10 (Or.inl (List.mem_of_getElem? (i := 0) rfl))
      exact Wp.ret X10 hlk (v := none) (fun _ => rfl) (fun fs hr => X10.returnOut hx Bd.returns (hb hby d6_71) hr) (by decide) (by decide) (show Q_rmAdd21 Z a1 p3 lv l0 l1 kl ks kd m1 m2 wf uf h0 n0 _ T10.heap _ by rw [e10]; exact ⟨rfl, Nf10, K13, V10⟩)
  exact J6 _ _ _ (f1 + (1 : Int32)) (wf f1.toNatClampNeg) N4 X4 e4 (by rw [own_one f1 (by omega)]; omega) (by rw [own_one f1 (by omega), show (f1.toInt + 1 - f1.toInt).toNat = 0 + 1 by omega]; show _ = 0 + wf _; rw [Nat.add_zero, Int.zero_add]) rfl
theorem ef_rmAdd31 (m : MethodId) (a1 : Addr) (p3 : Int32) : entryFrame m #[(.ref a1), (.int (1 : Int32)), (.int p3)] 9 = mkF m 0 #[.val (.ref a1), .val (.int (1 : Int32)), .val (.int p3), .unset, .unset, .unset, .unset, .unset, .unset] [] := by first | (simp [entryFrame, mkF, argsToLocals, Value.category]; done) | rfl
def Q_rmAdd31 (Z : State) (a1 : Addr) (p3 : Int32) (lv : Addr) (l0 : Addr) (l1 : Addr) (v2 : Value) (kl : ClassId) (ks : ClassId) (kd : ClassId) (m1 : Int32) (m2 : Int32) (wf : Nat → Int) (uf : Nat → Int) (h0 : Heap) (n0 : Nat) (v : Option Value) (h : Heap) (L : List Loc) : Prop := (v = none) ∧ (Fr n0 L) ∧ (Keep h0 h [l1]) ∧ (Arv Z h l1 kd .double m2 (own_dl (own_up uf p3.toNatClampNeg (own_R wf m1.toNatClampNeg p3.toNatClampNeg))) (.double (0 : UInt64)))
set_option maxRecDepth 65536 in
set_option maxHeartbeats 40000000 in
theorem rmAdd31 (l : Launch) (Z : State) (a0 : Array Value) (hw : ∀ d ∈ tables_1, d.before a0 Z = true) (ws : List Jvm.Cond) (a1 : Addr) (p3 : Int32) (lv : Addr) (l0 : Addr) (l1 : Addr) (v2 : Value) (kl : ClassId) (ks : ClassId) (kd : ClassId) (m1 : Int32) (m2 : Int32) (wf : Nat → Int) (uf : Nat → Int) (h0 : Heap) (n0 : Nat) (Z0 : n0 ≤ h0.size) (g_l1 : n0 ≤ l1) (P1 : Fld Z h0 a1 "com/example/dags_over_clouds/dagsoverclouds/plan/Tally" "levels" "[[D" (.ref lv)) (P2 : Arv Z h0 lv kl (.array .double) (3 : Int32) [(.ref l0), (.ref l1), v2] .null) (P3 : Arv Z h0 l0 ks .double m1 (own_dl wf) (.double (0 : UInt64))) (P4 : Arv Z h0 l1 kd .double m2 (own_dl uf) (.double (0 : UInt64))) (hbw : own_b wf) (hr : own_hr p3 m1 m2) :
    MetFree l (⟨"com/example/dags_over_clouds/dagsoverclouds/plan/Tally", "addUp", "(II)V"⟩ : MethodName) (head1 (Jvm.Cond.code (⟨"com/example/dags_over_clouds/dagsoverclouds/plan/Tally", "addUp", "(II)V"⟩ : MethodName) prog_71_method_5_code 9 none :: ws) ({ frames := 1, cells := 0, slots := 0, locals := 13 } : Room)) (fun a U => a = #[(.ref a1), (.int (1 : Int32)), (.int p3)] ∧ Z.Warmed39 U.vm ∧ U.heap = h0) (fun _ _ _ _ _ => True) (fun _ U o U' => ∃ v L, o = .returned v ∧ Q_rmAdd31 Z a1 p3 lv l0 l1 v2 kl ks kd m1 m2 wf uf h0 n0 v U'.heap L ∧ FrameEnd U o U' L ({ frames := 1, cells := 0, slots := 0, locals := 13 } : Room).cells ({ frames := 1, cells := 0, slots := 0, locals := 13 } : Room).slots) := by
  refine MetFree.of_bodySF (plainFor_of_name pn_6) hisR ?_
  intro p e s m args below meth c s₁ Bd hml0 hP hK
  obtain ⟨rfl, hZ, hh⟩ := hP
  have hx := Bd.exec
  have hby := Bd.bytes
  have hml : c.maxLocals = 9 := hml0
  have hown : s.vm.findClass "com/example/dags_over_clouds/dagsoverclouds/plan/Tally" = some m.cls := findClass_of_methodNamed Bd.named
  have hnm := (name_of_methodNamed Bd.named Bd.method).1
  have hlk := Bd.notSynchronized
  have X0 : Stand p l e ({ frames := 1, cells := 0, slots := 0, locals := 13 } : Room) s m #[(.ref a1), (.int (1 : Int32)), (.int p3)] below meth c s₁ [] 0 0 := Stand.of_body Bd
  have e0 : s₁.heap = h0 := by rw [← hh, Bd.state]; rfl
  have N0 := Fr.nil n0
  refine Wp.goal (Post := (fun o U' => ∃ v L, o = .returned v ∧ Q_rmAdd31 Z a1 p3 lv l0 l1 v2 kl ks kd m1 m2 wf uf h0 n0 v U'.heap L ∧ FrameEnd s o U' L ({ frames := 1, cells := 0, slots := 0, locals := 13 } : Room).cells ({ frames := 1, cells := 0, slots := 0, locals := 13 } : Room).slots)) (Wp.st (S' := s₁.setTop (mkF m 0 #[.val (.ref a1), .val (.int (1 : Int32)), .val (.int p3), .unset, .unset, .unset, .unset, .unset, .unset] [])) (fun tt_ kk_ => castTop (ef_rmAdd31 m a1 p3 ) kk_) ?_)
  have hf1 := own_f1 hr
  have he1 := own_e1 hr
  unfold own_hr at hr
  refine Wp.st (S' := s₁.setTop (mkF m 1 #[.val (.ref a1), .val (.int (1 : Int32)), .val (.int p3), .unset, .unset, .unset, .unset, .unset, .unset] [(.ref a1)])) (fun tt_ kk_ => XS.aloadN X0.here hx rfl (hb hby d6_0) rfl rfl kk_) ?_
  obtain ⟨T1, X1, e1, st1⟩ := getF X0 hx hZ hown (host := "") (Or.inl (hw _ (List.mem_of_getElem? (i := 22) rfl))) Via.refl e0 P1 (g := (mkF m 1 #[.val (.ref a1), .val (.int (1 : Int32)), .val (.int p3), .unset, .unset, .unset, .unset, .unset, .unset] [(.ref a1)])) rfl rfl (hb hby d6_1)
  refine Wp.st (S' := T1.setTop (mkF m 4 #[.val (.ref a1), .val (.int (1 : Int32)), .val (.int p3), .unset, .unset, .unset, .unset, .unset, .unset] [(.ref lv)])) st1 ?_
  refine Wp.st (S' := T1.setTop (mkF m 5 #[.val (.ref a1), .val (.int (1 : Int32)), .val (.int p3), .unset, .unset, .unset, .unset, .unset, .unset] [(.int (1 : Int32)), (.ref lv)])) (fun tt_ kk_ => XS.iloadN X1.here hx rfl (hb hby d6_4) rfl  kk_) ?_
  refine Wp.st (S' := T1.setTop (mkF m 6 #[.val (.ref a1), .val (.int (1 : Int32)), .val (.int p3), .unset, .unset, .unset, .unset, .unset, .unset] [(.int (1 : Int32)), (.int (1 : Int32)), (.ref lv)])) (fun tt_ kk_ => XS.iconst X1.here hx rfl (hb hby d6_5) kk_) ?_
  refine Wp.st (S' := T1.setTop (mkF m 7 #[.val (.ref a1), .val (.int (1 : Int32)), .val (.int p3), .unset, .unset, .unset, .unset, .unset, .unset] [(.int ((1 : Int32) - (1 : Int32))), (.ref lv)])) (fun tt_ kk_ => XS.isub X1.here hx rfl (hb hby d6_6) rfl kk_) ?_
  rw [(by decide : ((1 : Int32) - (1 : Int32)) = (0 : Int32))]
  obtain ⟨cl2, Ar2, q2, S2, N2, H2, G2⟩ := id P2
  have hin2 := inb_of (j := (0 : Int32)) S2 ⟨by decide, by decide⟩
  refine Wp.st (S' := T1.setTop (mkF m 8 #[.val (.ref a1), .val (.int (1 : Int32)), .val (.int p3), .unset, .unset, .unset, .unset, .unset, .unset] [(.ref l0)])) (fun tt_ kk_ => X1.aaload hx (j := (0 : Int32)) (v := (.ref l0)) (by rw [e1]; exact Ar2.1) (State.isArrayOf_alike hZ.alike Ar2.2.1) rfl Ar2.2.2 hin2 (H2.at hin2 rfl) (g := (mkF m 7 #[.val (.ref a1), .val (.int (1 : Int32)), .val (.int p3), .unset, .unset, .unset, .unset, .unset, .unset] [(.int (0 : Int32)), (.ref lv)])) rfl rfl (hb hby d6_7) tt_ kk_) ?_
  refine Wp.st (S' := T1.setTop (mkF m 9 #[.val (.ref a1), .val (.int (1 : Int32)), .val (.int p3), .val (.ref l0), .unset, .unset, .unset, .unset, .unset] [])) (fun tt_ kk_ => XS.astoreN X1.here hx rfl (hb hby d6_8) rfl rfl (l' := #[.val (.ref a1), .val (.int (1 : Int32)), .val (.int p3), .val (.ref l0), .unset, .unset, .unset, .unset, .unset]) rfl kk_) ?_
  refine Wp.st (S' := T1.setTop (mkF m 10 #[.val (.ref a1), .val (.int (1 : Int32)), .val (.int p3), .val (.ref l0), .unset, .unset, .unset, .unset, .unset] [(.int p3)])) (fun tt_ kk_ => XS.iloadN X1.here hx rfl (hb hby d6_9) rfl  kk_) ?_
  refine Wp.st (S' := T1.setTop (mkF m 12 #[.val (.ref a1), .val (.int (1 : Int32)), .val (.int p3), .val (.ref l0), .unset, .unset, .unset, .unset, .unset] [(.int (64 : Int32)), (.int p3)])) (fun tt_ kk_ => XS.bipush X1.here hx rfl (hb hby d6_10) kk_) ?_
  refine Wp.st (S' := T1.setTop (mkF m 13 #[.val (.ref a1), .val (.int (1 : Int32)), .val (.int p3), .val (.ref l0), .unset, .unset, .unset, .unset, .unset] [(.int (p3 * (64 : Int32)))])) (fun tt_ kk_ => XS.imul X1.here hx rfl (hb hby d6_12) rfl kk_) ?_
  refine Wp.st (S' := T1.setTop (mkF m 15 #[.val (.ref a1), .val (.int (1 : Int32)), .val (.int p3), .val (.ref l0), .val (.int (p3 * (64 : Int32))), .unset, .unset, .unset, .unset] [])) (fun tt_ kk_ => XS.istore X1.here hx rfl (hb hby d6_13) rfl (l' := #[.val (.ref a1), .val (.int (1 : Int32)), .val (.int p3), .val (.ref l0), .val (.int (p3 * (64 : Int32))), .unset, .unset, .unset, .unset]) rfl kk_) ?_
  generalize qf1 : (p3 * (64 : Int32)) = f1
  rw [qf1] at hf1 he1
  refine Wp.st (S' := T1.setTop (mkF m 16 #[.val (.ref a1), .val (.int (1 : Int32)), .val (.int p3), .val (.ref l0), .val (.int f1), .unset, .unset, .unset, .unset] [(.ref l0)])) (fun tt_ kk_ => XS.aloadN X1.here hx rfl (hb hby d6_15) rfl rfl kk_) ?_
  obtain ⟨cl3, Ar3, q3, S3, N3, H3, G3⟩ := id P3
  refine Wp.st (S' := T1.setTop (mkF m 17 #[.val (.ref a1), .val (.int (1 : Int32)), .val (.int p3), .val (.ref l0), .val (.int f1), .unset, .unset, .unset, .unset] [(.int m1)])) (fun tt_ kk_ => X1.arraylength hx (by rw [e1]; exact Ar3.1) (State.isArrayOf_alike hZ.alike Ar3.2.1) (g := (mkF m 16 #[.val (.ref a1), .val (.int (1 : Int32)), .val (.int p3), .val (.ref l0), .val (.int f1), .unset, .unset, .unset, .unset] [(.ref l0)])) rfl rfl (hb hby d6_16) tt_ (by rw [len_of S3 N3]; exact kk_)) ?_
  refine Wp.st (S' := T1.setTop (mkF m 19 #[.val (.ref a1), .val (.int (1 : Int32)), .val (.int p3), .val (.ref l0), .val (.int f1), .unset, .unset, .unset, .unset] [(.int f1), (.int m1)])) (fun tt_ kk_ => XS.iload X1.here hx rfl (hb hby d6_17) rfl  kk_) ?_
  refine Wp.st (S' := T1.setTop (mkF m 21 #[.val (.ref a1), .val (.int (1 : Int32)), .val (.int p3), .val (.ref l0), .val (.int f1), .unset, .unset, .unset, .unset] [(.int (64 : Int32)), (.int f1), (.int m1)])) (fun tt_ kk_ => XS.bipush X1.here hx rfl (hb hby d6_19) kk_) ?_
  refine Wp.st (S' := T1.setTop (mkF m 22 #[.val (.ref a1), .val (.int (1 : Int32)), .val (.int p3), .val (.ref l0), .val (.int f1), .unset, .unset, .unset, .unset] [(.int (f1 + (64 : Int32))), (.int m1)])) (fun tt_ kk_ => XS.iadd X1.here hx rfl (hb hby d6_21) rfl kk_) ?_
  obtain ⟨vv4, _, ⟨T4, L4, k4, n4⟩, -, X4, ⟨Lc4, hQ4, l4, y4, z4⟩, st4⟩ := Jvm.LawKit.callS X1 hx (y := (⟨"java/lang/Math", "min", "(II)I"⟩ : MethodName)) hown (mvT hZ (hw _ (List.mem_of_getElem? (i := 39) rfl))) (mvT hZ (hw _ (List.mem_of_getElem? (i := 40) rfl))) (mvT hZ (hw _ (List.mem_of_getElem? (i := 18) rfl))) (mvT hZ (hw _ (List.mem_of_getElem? (i := 41) rfl))) (by decide) (backOf (W := 0) (rm7 l Z a0 hw [] m1 (f1 + (64 : Int32)) h0 n0 Z0 ) hZ (hw _ (List.mem_of_getElem? (i := 41) rfl)) (hw _ (List.mem_of_getElem? (i := 18) rfl)) (by decide) (by decide)) (g := (mkF m 22 #[.val (.ref a1), .val (.int (1 : Int32)), .val (.int p3), .val (.ref l0), .val (.int f1), .unset, .unset, .unset, .unset] [(.int (f1 + (64 : Int32))), (.int m1)])) rfl (by rw [hml]; rfl) (argsL := [(.int m1), (.int (f1 + (64 : Int32)))]) (rest := []) (lenOf pd_0 rfl) rfl (by show 2 * 0 + _ ≤ _; exact Nat.le_of_eq rfl) (hb hby d6_22) (fun _ _ => ⟨rfl, e1, (by decide : 0 + 0 ≤ _), (by decide : 0 + 0 ≤ _)⟩)
  dsimp only [Pt.U, Pt.locs, Pt.cells, Pt.slots] at X4 l4 y4 z4 st4 hQ4
  subst l4 y4 z4
  obtain ⟨rfl, Nq4, e4⟩ := hQ4
  have N4 := Fr.app N0 Nq4
  refine Wp.st (S' := T4.setTop (mkF m 25 #[.val (.ref a1), .val (.int (1 : Int32)), .val (.int p3), .val (.ref l0), .val (.int f1), .unset, .unset, .unset, .unset] [(.int (own_min m1 (f1 + (64 : Int32))))])) st4 ?_
  refine Wp.st (S' := T4.setTop (mkF m 27 #[.val (.ref a1), .val (.int (1 : Int32)), .val (.int p3), .val (.ref l0), .val (.int f1), .val (.int (own_min m1 (f1 + (64 : Int32)))), .unset, .unset, .unset] [])) (fun tt_ kk_ => XS.istore X4.here hx rfl (hb hby d6_25) rfl (l' := #[.val (.ref a1), .val (.int (1 : Int32)), .val (.int p3), .val (.ref l0), .val (.int f1), .val (.int (own_min m1 (f1 + (64 : Int32)))), .unset, .unset, .unset]) rfl kk_) ?_
  generalize qe1 : (own_min m1 (f1 + (64 : Int32))) = e1
  rw [qe1] at he1
  refine Wp.st (S' := T4.setTop (mkF m 28 #[.val (.ref a1), .val (.int (1 : Int32)), .val (.int p3), .val (.ref l0), .val (.int f1), .val (.int e1), .unset, .unset, .unset] [(.ref l0)])) (fun tt_ kk_ => XS.aloadN X4.here hx rfl (hb hby d6_27) rfl rfl kk_) ?_
  refine Wp.st (S' := T4.setTop (mkF m 30 #[.val (.ref a1), .val (.int (1 : Int32)), .val (.int p3), .val (.ref l0), .val (.int f1), .val (.int e1), .unset, .unset, .unset] [(.int f1), (.ref l0)])) (fun tt_ kk_ => XS.iload X4.here hx rfl (hb hby d6_28) rfl  kk_) ?_
  obtain ⟨cl5, Ar5, q5, S5, N5, H5, G5⟩ := id P3
  have hin5 := inb_of (j := f1) S5 (own_ibn (by omega))
  refine Wp.st (S' := T4.setTop (mkF m 31 #[.val (.ref a1), .val (.int (1 : Int32)), .val (.int p3), .val (.ref l0), .val (.int f1), .val (.int e1), .unset, .unset, .unset] [(.double (FP.l2d (Int64.ofInt (wf f1.toNatClampNeg))))])) (fun tt_ kk_ => X4.daload hx (j := f1) (v := (.double (FP.l2d (Int64.ofInt (wf f1.toNatClampNeg))))) (by rw [e4]; exact Ar5.1) (State.isArrayOf_alike hZ.alike Ar5.2.1) Ar5.2.2 hin5 (H5.at hin5 (own_dl_get wf (by rw [own_clamp]; omega) _)) (g := (mkF m 30 #[.val (.ref a1), .val (.int (1 : Int32)), .val (.int p3), .val (.ref l0), .val (.int f1), .val (.int e1), .unset, .unset, .unset] [(.int f1), (.ref l0)])) rfl rfl (hb hby d6_30) tt_ kk_) ?_
  refine Wp.st (S' := T4.setTop (mkF m 33 #[.val (.ref a1), .val (.int (1 : Int32)), .val (.int p3), .val (.ref l0), .val (.int f1), .val (.int e1), .val (.double (FP.l2d (Int64.ofInt (wf f1.toNatClampNeg)))), .second, .unset] [])) (fun tt_ kk_ => XS.dstore X4.here hx rfl (hb hby d6_31) rfl (l' := #[.val (.ref a1), .val (.int (1 : Int32)), .val (.int p3), .val (.ref l0), .val (.int f1), .val (.int e1), .val (.double (FP.l2d (Int64.ofInt (wf f1.toNatClampNeg)))), .second, .unset]) rfl kk_) ?_
  refine Wp.st (S' := T4.setTop (mkF m 35 #[.val (.ref a1), .val (.int (1 : Int32)), .val (.int p3), .val (.ref l0), .val (.int f1), .val (.int e1), .val (.double (FP.l2d (Int64.ofInt (wf f1.toNatClampNeg)))), .second, .unset] [(.int f1)])) (fun tt_ kk_ => XS.iload X4.here hx rfl (hb hby d6_33) rfl  kk_) ?_
  refine Wp.st (S' := T4.setTop (mkF m 36 #[.val (.ref a1), .val (.int (1 : Int32)), .val (.int p3), .val (.ref l0), .val (.int f1), .val (.int e1), .val (.double (FP.l2d (Int64.ofInt (wf f1.toNatClampNeg)))), .second, .unset] [(.int (1 : Int32)), (.int f1)])) (fun tt_ kk_ => XS.iconst X4.here hx rfl (hb hby d6_35) kk_) ?_
  refine Wp.st (S' := T4.setTop (mkF m 37 #[.val (.ref a1), .val (.int (1 : Int32)), .val (.int p3), .val (.ref l0), .val (.int f1), .val (.int e1), .val (.double (FP.l2d (Int64.ofInt (wf f1.toNatClampNeg)))), .second, .unset] [(.int (f1 + (1 : Int32)))])) (fun tt_ kk_ => XS.iadd X4.here hx rfl (hb hby d6_36) rfl kk_) ?_
  refine Wp.st (S' := T4.setTop (mkF m 39 #[.val (.ref a1), .val (.int (1 : Int32)), .val (.int p3), .val (.ref l0), .val (.int f1), .val (.int e1), .val (.double (FP.l2d (Int64.ofInt (wf f1.toNatClampNeg)))), .second, .val (.int (f1 + (1 : Int32)))] [])) (fun tt_ kk_ => XS.istore X4.here hx rfl (hb hby d6_37) rfl (l' := #[.val (.ref a1), .val (.int (1 : Int32)), .val (.int p3), .val (.ref l0), .val (.int f1), .val (.int e1), .val (.double (FP.l2d (Int64.ofInt (wf f1.toNatClampNeg)))), .second, .val (.int (f1 + (1 : Int32)))]) rfl kk_) ?_
  have J6 : ∀ (fu : Nat) (TJ6 : State) (loJ6 : List Loc) (i1 : Int32) (ac : Int) (NJ6 : Fr n0 loJ6) (XJ6 : Stand p l e ({ frames := 1, cells := 0, slots := 0, locals := 13 } : Room) s m #[(.ref a1), (.int (1 : Int32)), (.int p3)] below meth c TJ6 loJ6 0 0) (eJ6 : TJ6.heap = h0) (hi1 : f1.toInt < i1.toInt ∧ i1.toInt ≤ e1.toInt) (hac : ac = own_S wf f1.toNatClampNeg (i1.toInt - f1.toInt).toNat) (hfu : (e1.toInt - i1.toInt).toNat = fu), Wp p e below (fun o U' => ∃ v L, o = .returned v ∧ Q_rmAdd31 Z a1 p3 lv l0 l1 v2 kl ks kd m1 m2 wf uf h0 n0 v U'.heap L ∧ FrameEnd s o U' L ({ frames := 1, cells := 0, slots := 0, locals := 13 } : Room).cells ({ frames := 1, cells := 0, slots := 0, locals := 13 } : Room).slots) (TJ6.setTop (mkF m 39 #[.val (.ref a1), .val (.int (1 : Int32)), .val (.int p3), .val (.ref l0), .val (.int f1), .val (.int e1), .val (.double (FP.l2d (Int64.ofInt ac))), .second, .val (.int i1)] [])) := by
    refine own_loop (fun fu ihJ6 => ?_)
    intro TJ6 loJ6 i1 ac NJ6 XJ6 eJ6 hi1 hac hfu
    refine Wp.st (S' := TJ6.setTop (mkF m 41 #[.val (.ref a1), .val (.int (1 : Int32)), .val (.int p3), .val (.ref l0), .val (.int f1), .val (.int e1), .val (.double (FP.l2d (Int64.ofInt ac))), .second, .val (.int i1)] [(.int i1)])) (fun tt_ kk_ => XS.iload XJ6.here hx rfl (hb hby d6_39) rfl  kk_) ?_
    refine Wp.st (S' := TJ6.setTop (mkF m 43 #[.val (.ref a1), .val (.int (1 : Int32)), .val (.int p3), .val (.ref l0), .val (.int f1), .val (.int e1), .val (.double (FP.l2d (Int64.ofInt ac))), .second, .val (.int i1)] [(.int e1), (.int i1)])) (fun tt_ kk_ => XS.iload XJ6.here hx rfl (hb hby d6_41) rfl  kk_) ?_
    by_cases hlt : i1 < e1
    case pos =>
      refine Wp.st (S' := TJ6.setTop (mkF m 46 #[.val (.ref a1), .val (.int (1 : Int32)), .val (.int p3), .val (.ref l0), .val (.int f1), .val (.int e1), .val (.double (FP.l2d (Int64.ofInt ac))), .second, .val (.int i1)] [])) (fun tt_ kk_ => XS.icmpNo XJ6.here hx rfl (hb hby d6_43) rfl (tlt (hlt : i1 < e1)).2.1 kk_) ?_
      rw [Int32.lt_iff_toInt_lt] at hlt
      have hsb := own_S_b hbw f1.toNatClampNeg (i1.toInt - f1.toInt).toNat
      rw [← hac] at hsb
      have hwv := hbw i1.toNatClampNeg
      have hnx := own_one i1 (by omega)
      have hda : FP.dadd (FP.l2d (Int64.ofInt ac)) (FP.l2d (Int64.ofInt (wf i1.toNatClampNeg))) = (FP.l2d (Int64.ofInt (ac + wf i1.toNatClampNeg))) := own_dadd (by omega) (by omega)
      refine Wp.st (S' := TJ6.setTop (mkF m 48 #[.val (.ref a1), .val (.int (1 : Int32)), .val (.int p3), .val (.ref l0), .val (.int f1), .val (.int e1), .val (.double (FP.l2d (Int64.ofInt ac))), .second, .val (.int i1)] [(.double (FP.l2d (Int64.ofInt ac)))])) (fun tt_ kk_ => XS.dload XJ6.here hx rfl (hb hby d6_46) rfl  kk_) ?_
      refine Wp.st (S' := TJ6.setTop (mkF m 49 #[.val (.ref a1), .val (.int (1 : Int32)), .val (.int p3), .val (.ref l0), .val (.int f1), .val (.int e1), .val (.double (FP.l2d (Int64.ofInt ac))), .second, .val (.int i1)] [(.ref l0), (.double (FP.l2d (Int64.ofInt ac)))])) (fun tt_ kk_ => XS.aloadN XJ6.here hx rfl (hb hby d6_48) rfl rfl kk_) ?_
      refine Wp.st (S' := TJ6.setTop (mkF m 51 #[.val (.ref a1), .val (.int (1 : Int32)), .val (.int p3), .val (.ref l0), .val (.int f1), .val (.int e1), .val (.double (FP.l2d (Int64.ofInt ac))), .second, .val (.int i1)] [(.int i1), (.ref l0), (.double (FP.l2d (Int64.ofInt ac)))])) (fun tt_ kk_ => XS.iload XJ6.here hx rfl (hb hby d6_49) rfl  kk_) ?_
      obtain ⟨cl7, Ar7, q7, S7, N7, H7, G7⟩ := id P3
      have hin7 := inb_of (j := i1) S7 (own_ibn (by omega))
      refine Wp.st (S' := TJ6.setTop (mkF m 52 #[.val (.ref a1), .val (.int (1 : Int32)), .val (.int p3), .val (.ref l0), .val (.int f1), .val (.int e1), .val (.double (FP.l2d (Int64.ofInt ac))), .second, .val (.int i1)] [(.double (FP.l2d (Int64.ofInt (wf i1.toNatClampNeg)))), (.double (FP.l2d (Int64.ofInt ac)))])) (fun tt_ kk_ => XJ6.daload hx (j := i1) (v := (.double (FP.l2d (Int64.ofInt (wf i1.toNatClampNeg))))) (by rw [eJ6]; exact Ar7.1) (State.isArrayOf_alike hZ.alike Ar7.2.1) Ar7.2.2 hin7 (H7.at hin7 (own_dl_get wf (by rw [own_clamp]; omega) _)) (g := (mkF m 51 #[.val (.ref a1), .val (.int (1 : Int32)), .val (.int p3), .val (.ref l0), .val (.int f1), .val (.int e1), .val (.double (FP.l2d (Int64.ofInt ac))), .second, .val (.int i1)] [(.int i1), (.ref l0), (.double (FP.l2d (Int64.ofInt ac)))])) rfl rfl (hb hby d6_51) tt_ kk_) ?_
      refine Wp.st (S' := TJ6.setTop (mkF m 53 #[.val (.ref a1), .val (.int (1 : Int32)), .val (.int p3), .val (.ref l0), .val (.int f1), .val (.int e1), .val (.double (FP.l2d (Int64.ofInt ac))), .second, .val (.int i1)] [(.double (FP.l2d (Int64.ofInt (ac + wf i1.toNatClampNeg))))])) (fun tt_ kk_ => XS.daddS XJ6.here hx rfl (hb hby d6_52) rfl (hda ▸ own_nnl _) hda kk_) ?_
      refine Wp.st (S' := TJ6.setTop (mkF m 55 #[.val (.ref a1), .val (.int (1 : Int32)), .val (.int p3), .val (.ref l0), .val (.int f1), .val (.int e1), .val (.double (FP.l2d (Int64.ofInt (ac + wf i1.toNatClampNeg)))), .second, .val (.int i1)] [])) (fun tt_ kk_ => XS.dstore XJ6.here hx rfl (hb hby d6_53) rfl (l' := #[.val (.ref a1), .val (.int (1 : Int32)), .val (.int p3), .val (.ref l0), .val (.int f1), .val (.int e1), .val (.double (FP.l2d (Int64.ofInt (ac + wf i1.toNatClampNeg)))), .second, .val (.int i1)]) rfl kk_) ?_
      refine Wp.st (S' := TJ6.setTop (mkF m 58 #[.val (.ref a1), .val (.int (1 : Int32)), .val (.int p3), .val (.ref l0), .val (.int f1), .val (.int e1), .val (.double (FP.l2d (Int64.ofInt (ac + wf i1.toNatClampNeg)))), .second, .val (.int (i1 + (1 : Int32)))] [])) (fun tt_ kk_ => XS.iinc XJ6.here hx rfl (hb hby d6_55) rfl (l' := #[.val (.ref a1), .val (.int (1 : Int32)), .val (.int p3), .val (.ref l0), .val (.int f1), .val (.int e1), .val (.double (FP.l2d (Int64.ofInt (ac + wf i1.toNatClampNeg)))), .second, .val (.int (i1 + (1 : Int32)))]) rfl kk_) ?_
      refine Wp.st (S' := TJ6.setTop (mkF m 39 #[.val (.ref a1), .val (.int (1 : Int32)), .val (.int p3), .val (.ref l0), .val (.int f1), .val (.int e1), .val (.double (FP.l2d (Int64.ofInt (ac + wf i1.toNatClampNeg)))), .second, .val (.int (i1 + (1 : Int32)))] [])) (fun tt_ kk_ => XS.goto XJ6.here hx rfl (pc0 := 58) (pc' := 39) rfl (hb hby d6_58) (by decide) (by decide) kk_) ?_
      have hac2 : ac + wf i1.toNatClampNeg = own_S wf f1.toNatClampNeg ((i1 + 1).toInt - f1.toInt).toNat := by
        rw [hnx, show (i1.toInt + 1 - f1.toInt).toNat = (i1.toInt - f1.toInt).toNat + 1 by omega, hac]
        show _ = own_S wf _ _ + wf _
        rw [show f1.toNatClampNeg + (i1.toInt - f1.toInt).toNat = i1.toNatClampNeg by rw [own_clamp, own_clamp]; omega]
      exact ihJ6 (e1.toInt - (i1 + 1).toInt).toNat (by rw [hnx]; omega) _ _ (i1 + (1 : Int32)) (ac + wf i1.toNatClampNeg) NJ6 XJ6 eJ6 (by rw [hnx]; omega) hac2 rfl
    case neg =>
      refine Wp.st (S' := TJ6.setTop (mkF m 61 #[.val (.ref a1), .val (.int (1 : Int32)), .val (.int p3), .val (.ref l0), .val (.int f1), .val (.int e1), .val (.double (FP.l2d (Int64.ofInt ac))), .second, .val (.int i1)] [])) (fun tt_ kk_ => XS.icmpYes XJ6.here hx rfl (pc0 := 43) (pc' := 61) rfl (hb hby d6_43) rfl (flt (hlt : ¬ (i1 < e1))).2.1 (by decide) (by decide) kk_) ?_
      rw [own_nlt] at hlt
      have hie : i1.toInt = e1.toInt := by omega
      have hR : ac = (own_R wf m1.toNatClampNeg p3.toNatClampNeg) := by
        rw [hac]; unfold own_R
        congr 1
        · rw [own_clamp, own_clamp]; omega
        · rw [own_clamp, own_clamp]; omega
      refine Wp.st (S' := TJ6.setTop (mkF m 62 #[.val (.ref a1), .val (.int (1 : Int32)), .val (.int p3), .val (.ref l0), .val (.int f1), .val (.int e1), .val (.double (FP.l2d (Int64.ofInt ac))), .second, .val (.int i1)] [(.ref a1)])) (fun tt_ kk_ => XS.aloadN XJ6.here hx rfl (hb hby d6_61) rfl rfl kk_) ?_
      obtain ⟨T8, X8, e8, st8⟩ := getF XJ6 hx hZ hown (host := "") (Or.inl (hw _ (List.mem_of_getElem? (i := 22) rfl))) Via.refl eJ6 P1 (g := (mkF m 62 #[.val (.ref a1), .val (.int (1 : Int32)), .val (.int p3), .val (.ref l0), .val (.int f1), .val (.int e1), .val (.double (FP.l2d (Int64.ofInt ac))), .second, .val (.int i1)] [(.ref a1)])) rfl rfl (hb hby d6_62)
      refine Wp.st (S' := T8.setTop (mkF m 65 #[.val (.ref a1), .val (.int (1 : Int32)), .val (.int p3), .val (.ref l0), .val (.int f1), .val (.int e1), .val (.double (FP.l2d (Int64.ofInt ac))), .second, .val (.int i1)] [(.ref lv)])) st8 ?_
      refine Wp.st (S' := T8.setTop (mkF m 66 #[.val (.ref a1), .val (.int (1 : Int32)), .val (.int p3), .val (.ref l0), .val (.int f1), .val (.int e1), .val (.double (FP.l2d (Int64.ofInt ac))), .second, .val (.int i1)] [(.int (1 : Int32)), (.ref lv)])) (fun tt_ kk_ => XS.iloadN X8.here hx rfl (hb hby d6_65) rfl  kk_) ?_
      obtain ⟨cl9, Ar9, q9, S9, N9, H9, G9⟩ := id P2
      have hin9 := inb_of (j := (1 : Int32)) S9 ⟨by decide, by decide⟩
      refine Wp.st (S' := T8.setTop (mkF m 67 #[.val (.ref a1), .val (.int (1 : Int32)), .val (.int p3), .val (.ref l0), .val (.int f1), .val (.int e1), .val (.double (FP.l2d (Int64.ofInt ac))), .second, .val (.int i1)] [(.ref l1)])) (fun tt_ kk_ => X8.aaload hx (j := (1 : Int32)) (v := (.ref l1)) (by rw [e8]; exact Ar9.1) (State.isArrayOf_alike hZ.alike Ar9.2.1) rfl Ar9.2.2 hin9 (H9.at hin9 rfl) (g := (mkF m 66 #[.val (.ref a1), .val (.int (1 : Int32)), .val (.int p3), .val (.ref l0), .val (.int f1), .val (.int e1), .val (.double (FP.l2d (Int64.ofInt ac))), .second, .val (.int i1)] [(.int (1 : Int32)), (.ref lv)])) rfl rfl (hb hby d6_66) tt_ kk_) ?_
      refine Wp.st (S' := T8.setTop (mkF m 68 #[.val (.ref a1), .val (.int (1 : Int32)), .val (.int p3), .val (.ref l0), .val (.int f1), .val (.int e1), .val (.double (FP.l2d (Int64.ofInt ac))), .second, .val (.int i1)] [(.int p3), (.ref l1)])) (fun tt_ kk_ => XS.iloadN X8.here hx rfl (hb hby d6_67) rfl  kk_) ?_
      refine Wp.st (S' := T8.setTop (mkF m 70 #[.val (.ref a1), .val (.int (1 : Int32)), .val (.int p3), .val (.ref l0), .val (.int f1), .val (.int e1), .val (.double (FP.l2d (Int64.ofInt ac))), .second, .val (.int i1)] [(.double (FP.l2d (Int64.ofInt ac))), (.int p3), (.ref l1)])) (fun tt_ kk_ => XS.dload X8.here hx rfl (hb hby d6_68) rfl  kk_) ?_
      rw [hR]
      obtain ⟨cl10, Ar10, q10, S10, N10, H10, G10⟩ := id P4
      have hin10 := inb_of (j := p3) S10 (own_ibn (by omega))
      obtain ⟨T10, h10, X10, e10, W10, st10⟩ := stD X8 hx hZ e8 Ar10 (j := p3) hin10 (g := (mkF m 70 #[.val (.ref a1), .val (.int (1 : Int32)), .val (.int p3), .val (.ref l0), .val (.int f1), .val (.int e1), .val (.double (FP.l2d (Int64.ofInt (own_R wf m1.toNatClampNeg p3.toNatClampNeg)))), .second, .val (.int i1)] [(.double (FP.l2d (Int64.ofInt (own_R wf m1.toNatClampNeg p3.toNatClampNeg)))), (.int p3), (.ref l1)])) rfl rfl (hb hby d6_70)
      have z11 := Nat.le_of_eq W10.size.symm
      have V10 : Arv Z h10 l1 kd .double m2 (own_dl (own_up uf p3.toNatClampNeg (own_R wf m1.toNatClampNeg p3.toNatClampNeg))) (.double (0 : UInt64)) := own_aset Ar10 q10 S10 N10 H10 G10 W10 (by rw [own_clamp]; omega)
      have Nf10 := Fr.snoc X10 NJ6 g_l1
      refine Wp.st (S' := T10.setTop (mkF m 71 #[.val (.ref a1), .val (.int (1 : Int32)), .val (.int p3), .val (.ref l0), .val (.int f1), .val (.int e1), .val (.double (FP.l2d (Int64.ofInt (own_R wf m1.toNatClampNeg p3.toNatClampNeg)))), .second, .val (.int i1)] [])) st10 ?_
      have K12 := Keep.refl h0 [l1]
      have K13 := K12.wr W10 (Or.inl (List.mem_of_getElem? (i := 0) rfl))
      exact Wp.ret X10 hlk (v := none) (fun _ => rfl) (fun fs hr => X10.returnOut hx Bd.returns (hb hby d6_71) hr) (by decide) (by decide) (show Q_rmAdd31 Z a1 p3 lv l0 l1 v2 kl ks kd m1 m2 wf uf h0 n0 _ T10.heap _ by rw [e10]; exact ⟨rfl, Nf10, K13, V10⟩)
  exact J6 _ _ _ (f1 + (1 : Int32)) (wf f1.toNatClampNeg) N4 X4 e4 (by rw [own_one f1 (by omega)]; omega) (by rw [own_one f1 (by omega), show (f1.toInt + 1 - f1.toInt).toNat = 0 + 1 by omega]; show _ = 0 + wf _; rw [Nat.add_zero, Int.zero_add]) rfl
theorem ef_rmAdd32 (m : MethodId) (a1 : Addr) (p3 : Int32) : entryFrame m #[(.ref a1), (.int (2 : Int32)), (.int p3)] 9 = mkF m 0 #[.val (.ref a1), .val (.int (2 : Int32)), .val (.int p3), .unset, .unset, .unset, .unset, .unset, .unset] [] := by first | (simp [entryFrame, mkF, argsToLocals, Value.category]; done) | rfl
def Q_rmAdd32 (Z : State) (a1 : Addr) (p3 : Int32) (lv : Addr) (v0 : Value) (l1 : Addr) (l2 : Addr) (kl : ClassId) (ks : ClassId) (kd : ClassId) (m1 : Int32) (m2 : Int32) (wf : Nat → Int) (uf : Nat → Int) (h0 : Heap) (n0 : Nat) (v : Option Value) (h : Heap) (L : List Loc) : Prop := (v = none) ∧ (Fr n0 L) ∧ (Keep h0 h [l2]) ∧ (Arv Z h l2 kd .double m2 (own_dl (own_up uf p3.toNatClampNeg (own_R wf m1.toNatClampNeg p3.toNatClampNeg))) (.double (0 : UInt64)))
set_option maxRecDepth 65536 in
set_option maxHeartbeats 40000000 in
theorem rmAdd32 (l : Launch) (Z : State) (a0 : Array Value) (hw : ∀ d ∈ tables_1, d.before a0 Z = true) (ws : List Jvm.Cond) (a1 : Addr) (p3 : Int32) (lv : Addr) (v0 : Value) (l1 : Addr) (l2 : Addr) (kl : ClassId) (ks : ClassId) (kd : ClassId) (m1 : Int32) (m2 : Int32) (wf : Nat → Int) (uf : Nat → Int) (h0 : Heap) (n0 : Nat) (Z0 : n0 ≤ h0.size) (g_l2 : n0 ≤ l2) (P1 : Fld Z h0 a1 "com/example/dags_over_clouds/dagsoverclouds/plan/Tally" "levels" "[[D" (.ref lv)) (P2 : Arv Z h0 lv kl (.array .double) (3 : Int32) [v0, (.ref l1), (.ref l2)] .null) (P3 : Arv Z h0 l1 ks .double m1 (own_dl wf) (.double (0 : UInt64))) (P4 : Arv Z h0 l2 kd .double m2 (own_dl uf) (.double (0 : UInt64))) (hbw : own_b wf) (hr : own_hr p3 m1 m2) :
    MetFree l (⟨"com/example/dags_over_clouds/dagsoverclouds/plan/Tally", "addUp", "(II)V"⟩ : MethodName) (head1 (Jvm.Cond.code (⟨"com/example/dags_over_clouds/dagsoverclouds/plan/Tally", "addUp", "(II)V"⟩ : MethodName) prog_71_method_5_code 9 none :: ws) ({ frames := 1, cells := 0, slots := 0, locals := 13 } : Room)) (fun a U => a = #[(.ref a1), (.int (2 : Int32)), (.int p3)] ∧ Z.Warmed39 U.vm ∧ U.heap = h0) (fun _ _ _ _ _ => True) (fun _ U o U' => ∃ v L, o = .returned v ∧ Q_rmAdd32 Z a1 p3 lv v0 l1 l2 kl ks kd m1 m2 wf uf h0 n0 v U'.heap L ∧ FrameEnd U o U' L ({ frames := 1, cells := 0, slots := 0, locals := 13 } : Room).cells ({ frames := 1, cells := 0, slots := 0, locals := 13 } : Room).slots) := by
  refine MetFree.of_bodySF (plainFor_of_name pn_6) hisR ?_
  intro p e s m args below meth c s₁ Bd hml0 hP hK
  obtain ⟨rfl, hZ, hh⟩ := hP
  have hx := Bd.exec
  have hby := Bd.bytes
  have hml : c.maxLocals = 9 := hml0
  have hown : s.vm.findClass "com/example/dags_over_clouds/dagsoverclouds/plan/Tally" = some m.cls := findClass_of_methodNamed Bd.named
  have hnm := (name_of_methodNamed Bd.named Bd.method).1
  have hlk := Bd.notSynchronized
  have X0 : Stand p l e ({ frames := 1, cells := 0, slots := 0, locals := 13 } : Room) s m #[(.ref a1), (.int (2 : Int32)), (.int p3)] below meth c s₁ [] 0 0 := Stand.of_body Bd
  have e0 : s₁.heap = h0 := by rw [← hh, Bd.state]; rfl
  have N0 := Fr.nil n0
  refine Wp.goal (Post := (fun o U' => ∃ v L, o = .returned v ∧ Q_rmAdd32 Z a1 p3 lv v0 l1 l2 kl ks kd m1 m2 wf uf h0 n0 v U'.heap L ∧ FrameEnd s o U' L ({ frames := 1, cells := 0, slots := 0, locals := 13 } : Room).cells ({ frames := 1, cells := 0, slots := 0, locals := 13 } : Room).slots)) (Wp.st (S' := s₁.setTop (mkF m 0 #[.val (.ref a1), .val (.int (2 : Int32)), .val (.int p3), .unset, .unset, .unset, .unset, .unset, .unset] [])) (fun tt_ kk_ => castTop (ef_rmAdd32 m a1 p3 ) kk_) ?_)
  have hf1 := own_f1 hr
  have he1 := own_e1 hr
  unfold own_hr at hr
  refine Wp.st (S' := s₁.setTop (mkF m 1 #[.val (.ref a1), .val (.int (2 : Int32)), .val (.int p3), .unset, .unset, .unset, .unset, .unset, .unset] [(.ref a1)])) (fun tt_ kk_ => XS.aloadN X0.here hx rfl (hb hby d6_0) rfl rfl kk_) ?_
  obtain ⟨T1, X1, e1, st1⟩ := getF X0 hx hZ hown (host := "") (Or.inl (hw _ (List.mem_of_getElem? (i := 22) rfl))) Via.refl e0 P1 (g := (mkF m 1 #[.val (.ref a1), .val (.int (2 : Int32)), .val (.int p3), .unset, .unset, .unset, .unset, .unset, .unset] [(.ref a1)])) rfl rfl (hb hby d6_1)
  refine Wp.st (S' := T1.setTop (mkF m 4 #[.val (.ref a1), .val (.int (2 : Int32)), .val (.int p3), .unset, .unset, .unset, .unset, .unset, .unset] [(.ref lv)])) st1 ?_
  refine Wp.st (S' := T1.setTop (mkF m 5 #[.val (.ref a1), .val (.int (2 : Int32)), .val (.int p3), .unset, .unset, .unset, .unset, .unset, .unset] [(.int (2 : Int32)), (.ref lv)])) (fun tt_ kk_ => XS.iloadN X1.here hx rfl (hb hby d6_4) rfl  kk_) ?_
  refine Wp.st (S' := T1.setTop (mkF m 6 #[.val (.ref a1), .val (.int (2 : Int32)), .val (.int p3), .unset, .unset, .unset, .unset, .unset, .unset] [(.int (1 : Int32)), (.int (2 : Int32)), (.ref lv)])) (fun tt_ kk_ => XS.iconst X1.here hx rfl (hb hby d6_5) kk_) ?_
  refine Wp.st (S' := T1.setTop (mkF m 7 #[.val (.ref a1), .val (.int (2 : Int32)), .val (.int p3), .unset, .unset, .unset, .unset, .unset, .unset] [(.int ((2 : Int32) - (1 : Int32))), (.ref lv)])) (fun tt_ kk_ => XS.isub X1.here hx rfl (hb hby d6_6) rfl kk_) ?_
  rw [(by decide : ((2 : Int32) - (1 : Int32)) = (1 : Int32))]
  obtain ⟨cl2, Ar2, q2, S2, N2, H2, G2⟩ := id P2
  have hin2 := inb_of (j := (1 : Int32)) S2 ⟨by decide, by decide⟩
  refine Wp.st (S' := T1.setTop (mkF m 8 #[.val (.ref a1), .val (.int (2 : Int32)), .val (.int p3), .unset, .unset, .unset, .unset, .unset, .unset] [(.ref l1)])) (fun tt_ kk_ => X1.aaload hx (j := (1 : Int32)) (v := (.ref l1)) (by rw [e1]; exact Ar2.1) (State.isArrayOf_alike hZ.alike Ar2.2.1) rfl Ar2.2.2 hin2 (H2.at hin2 rfl) (g := (mkF m 7 #[.val (.ref a1), .val (.int (2 : Int32)), .val (.int p3), .unset, .unset, .unset, .unset, .unset, .unset] [(.int (1 : Int32)), (.ref lv)])) rfl rfl (hb hby d6_7) tt_ kk_) ?_
  refine Wp.st (S' := T1.setTop (mkF m 9 #[.val (.ref a1), .val (.int (2 : Int32)), .val (.int p3), .val (.ref l1), .unset, .unset, .unset, .unset, .unset] [])) (fun tt_ kk_ => XS.astoreN X1.here hx rfl (hb hby d6_8) rfl rfl (l' := #[.val (.ref a1), .val (.int (2 : Int32)), .val (.int p3), .val (.ref l1), .unset, .unset, .unset, .unset, .unset]) rfl kk_) ?_
  refine Wp.st (S' := T1.setTop (mkF m 10 #[.val (.ref a1), .val (.int (2 : Int32)), .val (.int p3), .val (.ref l1), .unset, .unset, .unset, .unset, .unset] [(.int p3)])) (fun tt_ kk_ => XS.iloadN X1.here hx rfl (hb hby d6_9) rfl  kk_) ?_
  refine Wp.st (S' := T1.setTop (mkF m 12 #[.val (.ref a1), .val (.int (2 : Int32)), .val (.int p3), .val (.ref l1), .unset, .unset, .unset, .unset, .unset] [(.int (64 : Int32)), (.int p3)])) (fun tt_ kk_ => XS.bipush X1.here hx rfl (hb hby d6_10) kk_) ?_
  refine Wp.st (S' := T1.setTop (mkF m 13 #[.val (.ref a1), .val (.int (2 : Int32)), .val (.int p3), .val (.ref l1), .unset, .unset, .unset, .unset, .unset] [(.int (p3 * (64 : Int32)))])) (fun tt_ kk_ => XS.imul X1.here hx rfl (hb hby d6_12) rfl kk_) ?_
  refine Wp.st (S' := T1.setTop (mkF m 15 #[.val (.ref a1), .val (.int (2 : Int32)), .val (.int p3), .val (.ref l1), .val (.int (p3 * (64 : Int32))), .unset, .unset, .unset, .unset] [])) (fun tt_ kk_ => XS.istore X1.here hx rfl (hb hby d6_13) rfl (l' := #[.val (.ref a1), .val (.int (2 : Int32)), .val (.int p3), .val (.ref l1), .val (.int (p3 * (64 : Int32))), .unset, .unset, .unset, .unset]) rfl kk_) ?_
  generalize qf1 : (p3 * (64 : Int32)) = f1
  rw [qf1] at hf1 he1
  refine Wp.st (S' := T1.setTop (mkF m 16 #[.val (.ref a1), .val (.int (2 : Int32)), .val (.int p3), .val (.ref l1), .val (.int f1), .unset, .unset, .unset, .unset] [(.ref l1)])) (fun tt_ kk_ => XS.aloadN X1.here hx rfl (hb hby d6_15) rfl rfl kk_) ?_
  obtain ⟨cl3, Ar3, q3, S3, N3, H3, G3⟩ := id P3
  refine Wp.st (S' := T1.setTop (mkF m 17 #[.val (.ref a1), .val (.int (2 : Int32)), .val (.int p3), .val (.ref l1), .val (.int f1), .unset, .unset, .unset, .unset] [(.int m1)])) (fun tt_ kk_ => X1.arraylength hx (by rw [e1]; exact Ar3.1) (State.isArrayOf_alike hZ.alike Ar3.2.1) (g := (mkF m 16 #[.val (.ref a1), .val (.int (2 : Int32)), .val (.int p3), .val (.ref l1), .val (.int f1), .unset, .unset, .unset, .unset] [(.ref l1)])) rfl rfl (hb hby d6_16) tt_ (by rw [len_of S3 N3]; exact kk_)) ?_
  refine Wp.st (S' := T1.setTop (mkF m 19 #[.val (.ref a1), .val (.int (2 : Int32)), .val (.int p3), .val (.ref l1), .val (.int f1), .unset, .unset, .unset, .unset] [(.int f1), (.int m1)])) (fun tt_ kk_ => XS.iload X1.here hx rfl (hb hby d6_17) rfl  kk_) ?_
  refine Wp.st (S' := T1.setTop (mkF m 21 #[.val (.ref a1), .val (.int (2 : Int32)), .val (.int p3), .val (.ref l1), .val (.int f1), .unset, .unset, .unset, .unset] [(.int (64 : Int32)), (.int f1), (.int m1)])) (fun tt_ kk_ => XS.bipush X1.here hx rfl (hb hby d6_19) kk_) ?_
  refine Wp.st (S' := T1.setTop (mkF m 22 #[.val (.ref a1), .val (.int (2 : Int32)), .val (.int p3), .val (.ref l1), .val (.int f1), .unset, .unset, .unset, .unset] [(.int (f1 + (64 : Int32))), (.int m1)])) (fun tt_ kk_ => XS.iadd X1.here hx rfl (hb hby d6_21) rfl kk_) ?_
  obtain ⟨vv4, _, ⟨T4, L4, k4, n4⟩, -, X4, ⟨Lc4, hQ4, l4, y4, z4⟩, st4⟩ := Jvm.LawKit.callS X1 hx (y := (⟨"java/lang/Math", "min", "(II)I"⟩ : MethodName)) hown (mvT hZ (hw _ (List.mem_of_getElem? (i := 39) rfl))) (mvT hZ (hw _ (List.mem_of_getElem? (i := 40) rfl))) (mvT hZ (hw _ (List.mem_of_getElem? (i := 18) rfl))) (mvT hZ (hw _ (List.mem_of_getElem? (i := 41) rfl))) (by decide) (backOf (W := 0) (rm7 l Z a0 hw [] m1 (f1 + (64 : Int32)) h0 n0 Z0 ) hZ (hw _ (List.mem_of_getElem? (i := 41) rfl)) (hw _ (List.mem_of_getElem? (i := 18) rfl)) (by decide) (by decide)) (g := (mkF m 22 #[.val (.ref a1), .val (.int (2 : Int32)), .val (.int p3), .val (.ref l1), .val (.int f1), .unset, .unset, .unset, .unset] [(.int (f1 + (64 : Int32))), (.int m1)])) rfl (by rw [hml]; rfl) (argsL := [(.int m1), (.int (f1 + (64 : Int32)))]) (rest := []) (lenOf pd_0 rfl) rfl (by show 2 * 0 + _ ≤ _; exact Nat.le_of_eq rfl) (hb hby d6_22) (fun _ _ => ⟨rfl, e1, (by decide : 0 + 0 ≤ _), (by decide : 0 + 0 ≤ _)⟩)
  dsimp only [Pt.U, Pt.locs, Pt.cells, Pt.slots] at X4 l4 y4 z4 st4 hQ4
  subst l4 y4 z4
  obtain ⟨rfl, Nq4, e4⟩ := hQ4
  have N4 := Fr.app N0 Nq4
  refine Wp.st (S' := T4.setTop (mkF m 25 #[.val (.ref a1), .val (.int (2 : Int32)), .val (.int p3), .val (.ref l1), .val (.int f1), .unset, .unset, .unset, .unset] [(.int (own_min m1 (f1 + (64 : Int32))))])) st4 ?_
  refine Wp.st (S' := T4.setTop (mkF m 27 #[.val (.ref a1), .val (.int (2 : Int32)), .val (.int p3), .val (.ref l1), .val (.int f1), .val (.int (own_min m1 (f1 + (64 : Int32)))), .unset, .unset, .unset] [])) (fun tt_ kk_ => XS.istore X4.here hx rfl (hb hby d6_25) rfl (l' := #[.val (.ref a1), .val (.int (2 : Int32)), .val (.int p3), .val (.ref l1), .val (.int f1), .val (.int (own_min m1 (f1 + (64 : Int32)))), .unset, .unset, .unset]) rfl kk_) ?_
  generalize qe1 : (own_min m1 (f1 + (64 : Int32))) = e1
  rw [qe1] at he1
  refine Wp.st (S' := T4.setTop (mkF m 28 #[.val (.ref a1), .val (.int (2 : Int32)), .val (.int p3), .val (.ref l1), .val (.int f1), .val (.int e1), .unset, .unset, .unset] [(.ref l1)])) (fun tt_ kk_ => XS.aloadN X4.here hx rfl (hb hby d6_27) rfl rfl kk_) ?_
  refine Wp.st (S' := T4.setTop (mkF m 30 #[.val (.ref a1), .val (.int (2 : Int32)), .val (.int p3), .val (.ref l1), .val (.int f1), .val (.int e1), .unset, .unset, .unset] [(.int f1), (.ref l1)])) (fun tt_ kk_ => XS.iload X4.here hx rfl (hb hby d6_28) rfl  kk_) ?_
  obtain ⟨cl5, Ar5, q5, S5, N5, H5, G5⟩ := id P3
  have hin5 := inb_of (j := f1) S5 (own_ibn (by omega))
  refine Wp.st (S' := T4.setTop (mkF m 31 #[.val (.ref a1), .val (.int (2 : Int32)), .val (.int p3), .val (.ref l1), .val (.int f1), .val (.int e1), .unset, .unset, .unset] [(.double (FP.l2d (Int64.ofInt (wf f1.toNatClampNeg))))])) (fun tt_ kk_ => X4.daload hx (j := f1) (v := (.double (FP.l2d (Int64.ofInt (wf f1.toNatClampNeg))))) (by rw [e4]; exact Ar5.1) (State.isArrayOf_alike hZ.alike Ar5.2.1) Ar5.2.2 hin5 (H5.at hin5 (own_dl_get wf (by rw [own_clamp]; omega) _)) (g := (mkF m 30 #[.val (.ref a1), .val (.int (2 : Int32)), .val (.int p3), .val (.ref l1), .val (.int f1), .val (.int e1), .unset, .unset, .unset] [(.int f1), (.ref l1)])) rfl rfl (hb hby d6_30) tt_ kk_) ?_
  refine Wp.st (S' := T4.setTop (mkF m 33 #[.val (.ref a1), .val (.int (2 : Int32)), .val (.int p3), .val (.ref l1), .val (.int f1), .val (.int e1), .val (.double (FP.l2d (Int64.ofInt (wf f1.toNatClampNeg)))), .second, .unset] [])) (fun tt_ kk_ => XS.dstore X4.here hx rfl (hb hby d6_31) rfl (l' := #[.val (.ref a1), .val (.int (2 : Int32)), .val (.int p3), .val (.ref l1), .val (.int f1), .val (.int e1), .val (.double (FP.l2d (Int64.ofInt (wf f1.toNatClampNeg)))), .second, .unset]) rfl kk_) ?_
  refine Wp.st (S' := T4.setTop (mkF m 35 #[.val (.ref a1), .val (.int (2 : Int32)), .val (.int p3), .val (.ref l1), .val (.int f1), .val (.int e1), .val (.double (FP.l2d (Int64.ofInt (wf f1.toNatClampNeg)))), .second, .unset] [(.int f1)])) (fun tt_ kk_ => XS.iload X4.here hx rfl (hb hby d6_33) rfl  kk_) ?_
  refine Wp.st (S' := T4.setTop (mkF m 36 #[.val (.ref a1), .val (.int (2 : Int32)), .val (.int p3), .val (.ref l1), .val (.int f1), .val (.int e1), .val (.double (FP.l2d (Int64.ofInt (wf f1.toNatClampNeg)))), .second, .unset] [(.int (1 : Int32)), (.int f1)])) (fun tt_ kk_ => XS.iconst X4.here hx rfl (hb hby d6_35) kk_) ?_
  refine Wp.st (S' := T4.setTop (mkF m 37 #[.val (.ref a1), .val (.int (2 : Int32)), .val (.int p3), .val (.ref l1), .val (.int f1), .val (.int e1), .val (.double (FP.l2d (Int64.ofInt (wf f1.toNatClampNeg)))), .second, .unset] [(.int (f1 + (1 : Int32)))])) (fun tt_ kk_ => XS.iadd X4.here hx rfl (hb hby d6_36) rfl kk_) ?_
  refine Wp.st (S' := T4.setTop (mkF m 39 #[.val (.ref a1), .val (.int (2 : Int32)), .val (.int p3), .val (.ref l1), .val (.int f1), .val (.int e1), .val (.double (FP.l2d (Int64.ofInt (wf f1.toNatClampNeg)))), .second, .val (.int (f1 + (1 : Int32)))] [])) (fun tt_ kk_ => XS.istore X4.here hx rfl (hb hby d6_37) rfl (l' := #[.val (.ref a1), .val (.int (2 : Int32)), .val (.int p3), .val (.ref l1), .val (.int f1), .val (.int e1), .val (.double (FP.l2d (Int64.ofInt (wf f1.toNatClampNeg)))), .second, .val (.int (f1 + (1 : Int32)))]) rfl kk_) ?_
  have J6 : ∀ (fu : Nat) (TJ6 : State) (loJ6 : List Loc) (i1 : Int32) (ac : Int) (NJ6 : Fr n0 loJ6) (XJ6 : Stand p l e ({ frames := 1, cells := 0, slots := 0, locals := 13 } : Room) s m #[(.ref a1), (.int (2 : Int32)), (.int p3)] below meth c TJ6 loJ6 0 0) (eJ6 : TJ6.heap = h0) (hi1 : f1.toInt < i1.toInt ∧ i1.toInt ≤ e1.toInt) (hac : ac = own_S wf f1.toNatClampNeg (i1.toInt - f1.toInt).toNat) (hfu : (e1.toInt - i1.toInt).toNat = fu), Wp p e below (fun o U' => ∃ v L, o = .returned v ∧ Q_rmAdd32 Z a1 p3 lv v0 l1 l2 kl ks kd m1 m2 wf uf h0 n0 v U'.heap L ∧ FrameEnd s o U' L ({ frames := 1, cells := 0, slots := 0, locals := 13 } : Room).cells ({ frames := 1, cells := 0, slots := 0, locals := 13 } : Room).slots) (TJ6.setTop (mkF m 39 #[.val (.ref a1), .val (.int (2 : Int32)), .val (.int p3), .val (.ref l1), .val (.int f1), .val (.int e1), .val (.double (FP.l2d (Int64.ofInt ac))), .second, .val (.int i1)] [])) := by
    refine own_loop (fun fu ihJ6 => ?_)
    intro TJ6 loJ6 i1 ac NJ6 XJ6 eJ6 hi1 hac hfu
    refine Wp.st (S' := TJ6.setTop (mkF m 41 #[.val (.ref a1), .val (.int (2 : Int32)), .val (.int p3), .val (.ref l1), .val (.int f1), .val (.int e1), .val (.double (FP.l2d (Int64.ofInt ac))), .second, .val (.int i1)] [(.int i1)])) (fun tt_ kk_ => XS.iload XJ6.here hx rfl (hb hby d6_39) rfl  kk_) ?_
    refine Wp.st (S' := TJ6.setTop (mkF m 43 #[.val (.ref a1), .val (.int (2 : Int32)), .val (.int p3), .val (.ref l1), .val (.int f1), .val (.int e1), .val (.double (FP.l2d (Int64.ofInt ac))), .second, .val (.int i1)] [(.int e1), (.int i1)])) (fun tt_ kk_ => XS.iload XJ6.here hx rfl (hb hby d6_41) rfl  kk_) ?_
    by_cases hlt : i1 < e1
    case pos =>
      refine Wp.st (S' := TJ6.setTop (mkF m 46 #[.val (.ref a1), .val (.int (2 : Int32)), .val (.int p3), .val (.ref l1), .val (.int f1), .val (.int e1), .val (.double (FP.l2d (Int64.ofInt ac))), .second, .val (.int i1)] [])) (fun tt_ kk_ => XS.icmpNo XJ6.here hx rfl (hb hby d6_43) rfl (tlt (hlt : i1 < e1)).2.1 kk_) ?_
      rw [Int32.lt_iff_toInt_lt] at hlt
      have hsb := own_S_b hbw f1.toNatClampNeg (i1.toInt - f1.toInt).toNat
      rw [← hac] at hsb
      have hwv := hbw i1.toNatClampNeg
      have hnx := own_one i1 (by omega)
      have hda : FP.dadd (FP.l2d (Int64.ofInt ac)) (FP.l2d (Int64.ofInt (wf i1.toNatClampNeg))) = (FP.l2d (Int64.ofInt (ac + wf i1.toNatClampNeg))) := own_dadd (by omega) (by omega)
      refine Wp.st (S' := TJ6.setTop (mkF m 48 #[.val (.ref a1), .val (.int (2 : Int32)), .val (.int p3), .val (.ref l1), .val (.int f1), .val (.int e1), .val (.double (FP.l2d (Int64.ofInt ac))), .second, .val (.int i1)] [(.double (FP.l2d (Int64.ofInt ac)))])) (fun tt_ kk_ => XS.dload XJ6.here hx rfl (hb hby d6_46) rfl  kk_) ?_
      refine Wp.st (S' := TJ6.setTop (mkF m 49 #[.val (.ref a1), .val (.int (2 : Int32)), .val (.int p3), .val (.ref l1), .val (.int f1), .val (.int e1), .val (.double (FP.l2d (Int64.ofInt ac))), .second, .val (.int i1)] [(.ref l1), (.double (FP.l2d (Int64.ofInt ac)))])) (fun tt_ kk_ => XS.aloadN XJ6.here hx rfl (hb hby d6_48) rfl rfl kk_) ?_
      refine Wp.st (S' := TJ6.setTop (mkF m 51 #[.val (.ref a1), .val (.int (2 : Int32)), .val (.int p3), .val (.ref l1), .val (.int f1), .val (.int e1), .val (.double (FP.l2d (Int64.ofInt ac))), .second, .val (.int i1)] [(.int i1), (.ref l1), (.double (FP.l2d (Int64.ofInt ac)))])) (fun tt_ kk_ => XS.iload XJ6.here hx rfl (hb hby d6_49) rfl  kk_) ?_
      obtain ⟨cl7, Ar7, q7, S7, N7, H7, G7⟩ := id P3
      have hin7 := inb_of (j := i1) S7 (own_ibn (by omega))
      refine Wp.st (S' := TJ6.setTop (mkF m 52 #[.val (.ref a1), .val (.int (2 : Int32)), .val (.int p3), .val (.ref l1), .val (.int f1), .val (.int e1), .val (.double (FP.l2d (Int64.ofInt ac))), .second, .val (.int i1)] [(.double (FP.l2d (Int64.ofInt (wf i1.toNatClampNeg)))), (.double (FP.l2d (Int64.ofInt ac)))])) (fun tt_ kk_ => XJ6.daload hx (j := i1) (v := (.double (FP.l2d (Int64.ofInt (wf i1.toNatClampNeg))))) (by rw [eJ6]; exact Ar7.1) (State.isArrayOf_alike hZ.alike Ar7.2.1) Ar7.2.2 hin7 (H7.at hin7 (own_dl_get wf (by rw [own_clamp]; omega) _)) (g := (mkF m 51 #[.val (.ref a1), .val (.int (2 : Int32)), .val (.int p3), .val (.ref l1), .val (.int f1), .val (.int e1), .val (.double (FP.l2d (Int64.ofInt ac))), .second, .val (.int i1)] [(.int i1), (.ref l1), (.double (FP.l2d (Int64.ofInt ac)))])) rfl rfl (hb hby d6_51) tt_ kk_) ?_
      refine Wp.st (S' := TJ6.setTop (mkF m 53 #[.val (.ref a1), .val (.int (2 : Int32)), .val (.int p3), .val (.ref l1), .val (.int f1), .val (.int e1), .val (.double (FP.l2d (Int64.ofInt ac))), .second, .val (.int i1)] [(.double (FP.l2d (Int64.ofInt (ac + wf i1.toNatClampNeg))))])) (fun tt_ kk_ => XS.daddS XJ6.here hx rfl (hb hby d6_52) rfl (hda ▸ own_nnl _) hda kk_) ?_
      refine Wp.st (S' := TJ6.setTop (mkF m 55 #[.val (.ref a1), .val (.int (2 : Int32)), .val (.int p3), .val (.ref l1), .val (.int f1), .val (.int e1), .val (.double (FP.l2d (Int64.ofInt (ac + wf i1.toNatClampNeg)))), .second, .val (.int i1)] [])) (fun tt_ kk_ => XS.dstore XJ6.here hx rfl (hb hby d6_53) rfl (l' := #[.val (.ref a1), .val (.int (2 : Int32)), .val (.int p3), .val (.ref l1), .val (.int f1), .val (.int e1), .val (.double (FP.l2d (Int64.ofInt (ac + wf i1.toNatClampNeg)))), .second, .val (.int i1)]) rfl kk_) ?_
      refine Wp.st (S' := TJ6.setTop (mkF m 58 #[.val (.ref a1), .val (.int (2 : Int32)), .val (.int p3), .val (.ref l1), .val (.int f1), .val (.int e1), .val (.double (FP.l2d (Int64.ofInt (ac + wf i1.toNatClampNeg)))), .second, .val (.int (i1 + (1 : Int32)))] [])) (fun tt_ kk_ => XS.iinc XJ6.here hx rfl (hb hby d6_55) rfl (l' := #[.val (.ref a1), .val (.int (2 : Int32)), .val (.int p3), .val (.ref l1), .val (.int f1), .val (.int e1), .val (.double (FP.l2d (Int64.ofInt (ac + wf i1.toNatClampNeg)))), .second, .val (.int (i1 + (1 : Int32)))]) rfl kk_) ?_
      refine Wp.st (S' := TJ6.setTop (mkF m 39 #[.val (.ref a1), .val (.int (2 : Int32)), .val (.int p3), .val (.ref l1), .val (.int f1), .val (.int e1), .val (.double (FP.l2d (Int64.ofInt (ac + wf i1.toNatClampNeg)))), .second, .val (.int (i1 + (1 : Int32)))] [])) (fun tt_ kk_ => XS.goto XJ6.here hx rfl (pc0 := 58) (pc' := 39) rfl (hb hby d6_58) (by decide) (by decide) kk_) ?_
      have hac2 : ac + wf i1.toNatClampNeg = own_S wf f1.toNatClampNeg ((i1 + 1).toInt - f1.toInt).toNat := by
        rw [hnx, show (i1.toInt + 1 - f1.toInt).toNat = (i1.toInt - f1.toInt).toNat + 1 by omega, hac]
        show _ = own_S wf _ _ + wf _
        rw [show f1.toNatClampNeg + (i1.toInt - f1.toInt).toNat = i1.toNatClampNeg by rw [own_clamp, own_clamp]; omega]
      exact ihJ6 (e1.toInt - (i1 + 1).toInt).toNat (by rw [hnx]; omega) _ _ (i1 + (1 : Int32)) (ac + wf i1.toNatClampNeg) NJ6 XJ6 eJ6 (by rw [hnx]; omega) hac2 rfl
    case neg =>
      refine Wp.st (S' := TJ6.setTop (mkF m 61 #[.val (.ref a1), .val (.int (2 : Int32)), .val (.int p3), .val (.ref l1), .val (.int f1), .val (.int e1), .val (.double (FP.l2d (Int64.ofInt ac))), .second, .val (.int i1)] [])) (fun tt_ kk_ => XS.icmpYes XJ6.here hx rfl (pc0 := 43) (pc' := 61) rfl (hb hby d6_43) rfl (flt (hlt : ¬ (i1 < e1))).2.1 (by decide) (by decide) kk_) ?_
      rw [own_nlt] at hlt
      have hie : i1.toInt = e1.toInt := by omega
      have hR : ac = (own_R wf m1.toNatClampNeg p3.toNatClampNeg) := by
        rw [hac]; unfold own_R
        congr 1
        · rw [own_clamp, own_clamp]; omega
        · rw [own_clamp, own_clamp]; omega
      refine Wp.st (S' := TJ6.setTop (mkF m 62 #[.val (.ref a1), .val (.int (2 : Int32)), .val (.int p3), .val (.ref l1), .val (.int f1), .val (.int e1), .val (.double (FP.l2d (Int64.ofInt ac))), .second, .val (.int i1)] [(.ref a1)])) (fun tt_ kk_ => XS.aloadN XJ6.here hx rfl (hb hby d6_61) rfl rfl kk_) ?_
      obtain ⟨T8, X8, e8, st8⟩ := getF XJ6 hx hZ hown (host := "") (Or.inl (hw _ (List.mem_of_getElem? (i := 22) rfl))) Via.refl eJ6 P1 (g := (mkF m 62 #[.val (.ref a1), .val (.int (2 : Int32)), .val (.int p3), .val (.ref l1), .val (.int f1), .val (.int e1), .val (.double (FP.l2d (Int64.ofInt ac))), .second, .val (.int i1)] [(.ref a1)])) rfl rfl (hb hby d6_62)
      refine Wp.st (S' := T8.setTop (mkF m 65 #[.val (.ref a1), .val (.int (2 : Int32)), .val (.int p3), .val (.ref l1), .val (.int f1), .val (.int e1), .val (.double (FP.l2d (Int64.ofInt ac))), .second, .val (.int i1)] [(.ref lv)])) st8 ?_
      refine Wp.st (S' := T8.setTop (mkF m 66 #[.val (.ref a1), .val (.int (2 : Int32)), .val (.int p3), .val (.ref l1), .val (.int f1), .val (.int e1), .val (.double (FP.l2d (Int64.ofInt ac))), .second, .val (.int i1)] [(.int (2 : Int32)), (.ref lv)])) (fun tt_ kk_ => XS.iloadN X8.here hx rfl (hb hby d6_65) rfl  kk_) ?_
      obtain ⟨cl9, Ar9, q9, S9, N9, H9, G9⟩ := id P2
      have hin9 := inb_of (j := (2 : Int32)) S9 ⟨by decide, by decide⟩
      refine Wp.st (S' := T8.setTop (mkF m 67 #[.val (.ref a1), .val (.int (2 : Int32)), .val (.int p3), .val (.ref l1), .val (.int f1), .val (.int e1), .val (.double (FP.l2d (Int64.ofInt ac))), .second, .val (.int i1)] [(.ref l2)])) (fun tt_ kk_ => X8.aaload hx (j := (2 : Int32)) (v := (.ref l2)) (by rw [e8]; exact Ar9.1) (State.isArrayOf_alike hZ.alike Ar9.2.1) rfl Ar9.2.2 hin9 (H9.at hin9 rfl) (g := (mkF m 66 #[.val (.ref a1), .val (.int (2 : Int32)), .val (.int p3), .val (.ref l1), .val (.int f1), .val (.int e1), .val (.double (FP.l2d (Int64.ofInt ac))), .second, .val (.int i1)] [(.int (2 : Int32)), (.ref lv)])) rfl rfl (hb hby d6_66) tt_ kk_) ?_
      refine Wp.st (S' := T8.setTop (mkF m 68 #[.val (.ref a1), .val (.int (2 : Int32)), .val (.int p3), .val (.ref l1), .val (.int f1), .val (.int e1), .val (.double (FP.l2d (Int64.ofInt ac))), .second, .val (.int i1)] [(.int p3), (.ref l2)])) (fun tt_ kk_ => XS.iloadN X8.here hx rfl (hb hby d6_67) rfl  kk_) ?_
      refine Wp.st (S' := T8.setTop (mkF m 70 #[.val (.ref a1), .val (.int (2 : Int32)), .val (.int p3), .val (.ref l1), .val (.int f1), .val (.int e1), .val (.double (FP.l2d (Int64.ofInt ac))), .second, .val (.int i1)] [(.double (FP.l2d (Int64.ofInt ac))), (.int p3), (.ref l2)])) (fun tt_ kk_ => XS.dload X8.here hx rfl (hb hby d6_68) rfl  kk_) ?_
      rw [hR]
      obtain ⟨cl10, Ar10, q10, S10, N10, H10, G10⟩ := id P4
      have hin10 := inb_of (j := p3) S10 (own_ibn (by omega))
      obtain ⟨T10, h10, X10, e10, W10, st10⟩ := stD X8 hx hZ e8 Ar10 (j := p3) hin10 (g := (mkF m 70 #[.val (.ref a1), .val (.int (2 : Int32)), .val (.int p3), .val (.ref l1), .val (.int f1), .val (.int e1), .val (.double (FP.l2d (Int64.ofInt (own_R wf m1.toNatClampNeg p3.toNatClampNeg)))), .second, .val (.int i1)] [(.double (FP.l2d (Int64.ofInt (own_R wf m1.toNatClampNeg p3.toNatClampNeg)))), (.int p3), (.ref l2)])) rfl rfl (hb hby d6_70)
      have z11 := Nat.le_of_eq W10.size.symm
      have V10 : Arv Z h10 l2 kd .double m2 (own_dl (own_up uf p3.toNatClampNeg (own_R wf m1.toNatClampNeg p3.toNatClampNeg))) (.double (0 : UInt64)) := own_aset Ar10 q10 S10 N10 H10 G10 W10 (by rw [own_clamp]; omega)
      have Nf10 := Fr.snoc X10 NJ6 g_l2
      refine Wp.st (S' := T10.setTop (mkF m 71 #[.val (.ref a1), .val (.int (2 : Int32)), .val (.int p3), .val (.ref l1), .val (.int f1), .val (.int e1), .val (.double (FP.l2d (Int64.ofInt (own_R wf m1.toNatClampNeg p3.toNatClampNeg)))), .second, .val (.int i1)] [])) st10 ?_
      have K12 := Keep.refl h0 [l2]
      have K13 := K12.wr W10 (Or.inl (List.mem_of_getElem? (i := 0) rfl))
      exact Wp.ret X10 hlk (v := none) (fun _ => rfl) (fun fs hr => X10.returnOut hx Bd.returns (hb hby d6_71) hr) (by decide) (by decide) (show Q_rmAdd32 Z a1 p3 lv v0 l1 l2 kl ks kd m1 m2 wf uf h0 n0 _ T10.heap _ by rw [e10]; exact ⟨rfl, Nf10, K13, V10⟩)
  exact J6 _ _ _ (f1 + (1 : Int32)) (wf f1.toNatClampNeg) N4 X4 e4 (by rw [own_one f1 (by omega)]; omega) (by rw [own_one f1 (by omega), show (f1.toInt + 1 - f1.toInt).toNat = 0 + 1 by omega]; show _ = 0 + wf _; rw [Nat.add_zero, Int.zero_add]) rfl
theorem pn_8 : plainName "com/example/dags_over_clouds/dagsoverclouds/plan/Tally" = true := by first | (simp [plainName, overriddenIn]; done) | decide +kernel
theorem d8_0 : decode prog_71_method_2_code 0 = .ok (.aload_n 0, 1) := by decide +kernel
theorem d8_1 : decode prog_71_method_2_code 1 = .ok (.getfield 21, 3) := by decide +kernel
theorem d8_4 : decode prog_71_method_2_code 4 = .ok (.aload_n 0, 1) := by decide +kernel
theorem d8_5 : decode prog_71_method_2_code 5 = .ok (.getfield 21, 3) := by decide +kernel
theorem d8_8 : decode prog_71_method_2_code 8 = .ok (.arraylength, 1) := by decide +kernel
theorem d8_9 : decode prog_71_method_2_code 9 = .ok (.iconst 1, 1) := by decide +kernel
theorem d8_10 : decode prog_71_method_2_code 10 = .ok (.isub, 1) := by decide +kernel
theorem d8_11 : decode prog_71_method_2_code 11 = .ok (.aaload, 1) := by decide +kernel
theorem d8_12 : decode prog_71_method_2_code 12 = .ok (.iconst 0, 1) := by decide +kernel
theorem d8_13 : decode prog_71_method_2_code 13 = .ok (.daload, 1) := by decide +kernel
theorem d8_14 : decode prog_71_method_2_code 14 = .ok (.dreturn, 1) := by decide +kernel
theorem ef_rmSum2 (m : MethodId) (a1 : Addr) : entryFrame m #[(.ref a1)] 1 = mkF m 0 #[.val (.ref a1)] [] := by first | (simp [entryFrame, mkF, argsToLocals, Value.category]; done) | rfl
def Q_rmSum2 (Z : State) (a1 : Addr) (lv : Addr) (v0 : Value) (l1 : Addr) (kl : ClassId) (kt : ClassId) (tf : Nat → Int) (h0 : Heap) (n0 : Nat) (v : Option Value) (h : Heap) (L : List Loc) : Prop := (v = some (.double (FP.l2d (Int64.ofInt (tf (0 : Int32).toNatClampNeg))))) ∧ (Fr n0 L) ∧ (h = h0)
set_option maxRecDepth 65536 in
set_option maxHeartbeats 40000000 in
theorem rmSum2 (l : Launch) (Z : State) (a0 : Array Value) (hw : ∀ d ∈ tables_1, d.before a0 Z = true) (ws : List Jvm.Cond) (a1 : Addr) (lv : Addr) (v0 : Value) (l1 : Addr) (kl : ClassId) (kt : ClassId) (tf : Nat → Int) (h0 : Heap) (n0 : Nat) (Z0 : n0 ≤ h0.size) (P0 : Fld Z h0 a1 "com/example/dags_over_clouds/dagsoverclouds/plan/Tally" "levels" "[[D" (.ref lv)) (P1 : Arv Z h0 lv kl (.array .double) (2 : Int32) [v0, (.ref l1)] .null) (P2 : Arv Z h0 l1 kt .double (1 : Int32) (own_dl tf) (.double (0 : UInt64))) :
    MetFree l (⟨"com/example/dags_over_clouds/dagsoverclouds/plan/Tally", "sum", "()D"⟩ : MethodName) (head1 (Jvm.Cond.code (⟨"com/example/dags_over_clouds/dagsoverclouds/plan/Tally", "sum", "()D"⟩ : MethodName) prog_71_method_2_code 1 (some .double) :: ws) ({ frames := 0, cells := 0, slots := 0, locals := 0 } : Room)) (fun a U => a = #[(.ref a1)] ∧ Z.Warmed39 U.vm ∧ U.heap = h0) (fun _ _ _ _ _ => True) (fun _ U o U' => ∃ v L, o = .returned v ∧ Q_rmSum2 Z a1 lv v0 l1 kl kt tf h0 n0 v U'.heap L ∧ FrameEnd U o U' L ({ frames := 0, cells := 0, slots := 0, locals := 0 } : Room).cells ({ frames := 0, cells := 0, slots := 0, locals := 0 } : Room).slots) := by
  refine MetFree.of_bodySF (plainFor_of_name pn_8) hisR ?_
  intro p e s m args below meth c s₁ Bd hml0 hP hK
  obtain ⟨rfl, hZ, hh⟩ := hP
  have hx := Bd.exec
  have hby := Bd.bytes
  have hml : c.maxLocals = 1 := hml0
  have hown : s.vm.findClass "com/example/dags_over_clouds/dagsoverclouds/plan/Tally" = some m.cls := findClass_of_methodNamed Bd.named
  have hnm := (name_of_methodNamed Bd.named Bd.method).1
  have hlk := Bd.notSynchronized
  have X0 : Stand p l e ({ frames := 0, cells := 0, slots := 0, locals := 0 } : Room) s m #[(.ref a1)] below meth c s₁ [] 0 0 := Stand.of_body Bd
  have e0 : s₁.heap = h0 := by rw [← hh, Bd.state]; rfl
  have N0 := Fr.nil n0
  refine Wp.goal (Post := (fun o U' => ∃ v L, o = .returned v ∧ Q_rmSum2 Z a1 lv v0 l1 kl kt tf h0 n0 v U'.heap L ∧ FrameEnd s o U' L ({ frames := 0, cells := 0, slots := 0, locals := 0 } : Room).cells ({ frames := 0, cells := 0, slots := 0, locals := 0 } : Room).slots)) (Wp.st (S' := s₁.setTop (mkF m 0 #[.val (.ref a1)] [])) (fun tt_ kk_ => castTop (ef_rmSum2 m a1 ) kk_) ?_)
  refine Wp.st (S' := s₁.setTop (mkF m 1 #[.val (.ref a1)] [(.ref a1)])) (fun tt_ kk_ => XS.aloadN X0.here hx rfl (hb hby d8_0) rfl rfl kk_) ?_
  obtain ⟨T1, X1, e1, st1⟩ := getF X0 hx hZ hown (host := "") (Or.inl (hw _ (List.mem_of_getElem? (i := 22) rfl))) Via.refl e0 P0 (g := (mkF m 1 #[.val (.ref a1)] [(.ref a1)])) rfl rfl (hb hby d8_1)
  refine Wp.st (S' := T1.setTop (mkF m 4 #[.val (.ref a1)] [(.ref lv)])) st1 ?_
  refine Wp.st (S' := T1.setTop (mkF m 5 #[.val (.ref a1)] [(.ref a1), (.ref lv)])) (fun tt_ kk_ => XS.aloadN X1.here hx rfl (hb hby d8_4) rfl rfl kk_) ?_
  obtain ⟨T2, X2, e2, st2⟩ := getF X1 hx hZ hown (host := "") (Or.inl (hw _ (List.mem_of_getElem? (i := 22) rfl))) Via.refl e1 P0 (g := (mkF m 5 #[.val (.ref a1)] [(.ref a1), (.ref lv)])) rfl rfl (hb hby d8_5)
  refine Wp.st (S' := T2.setTop (mkF m 8 #[.val (.ref a1)] [(.ref lv), (.ref lv)])) st2 ?_
  obtain ⟨cl3, Ar3, q3, S3, N3, H3, G3⟩ := id P1
  refine Wp.st (S' := T2.setTop (mkF m 9 #[.val (.ref a1)] [(.int (2 : Int32)), (.ref lv)])) (fun tt_ kk_ => X2.arraylength hx (by rw [e2]; exact Ar3.1) (State.isArrayOf_alike hZ.alike Ar3.2.1) (g := (mkF m 8 #[.val (.ref a1)] [(.ref lv), (.ref lv)])) rfl rfl (hb hby d8_8) tt_ (by rw [len_of S3 N3]; exact kk_)) ?_
  refine Wp.st (S' := T2.setTop (mkF m 10 #[.val (.ref a1)] [(.int (1 : Int32)), (.int (2 : Int32)), (.ref lv)])) (fun tt_ kk_ => XS.iconst X2.here hx rfl (hb hby d8_9) kk_) ?_
  refine Wp.st (S' := T2.setTop (mkF m 11 #[.val (.ref a1)] [(.int ((2 : Int32) - (1 : Int32))), (.ref lv)])) (fun tt_ kk_ => XS.isub X2.here hx rfl (hb hby d8_10) rfl kk_) ?_
  rw [(by decide : ((2 : Int32) - (1 : Int32)) = (1 : Int32))]
  obtain ⟨cl4, Ar4, q4, S4, N4, H4, G4⟩ := id P1
  have hin4 := inb_of (j := (1 : Int32)) S4 ⟨by decide, by decide⟩
  refine Wp.st (S' := T2.setTop (mkF m 12 #[.val (.ref a1)] [(.ref l1)])) (fun tt_ kk_ => X2.aaload hx (j := (1 : Int32)) (v := (.ref l1)) (by rw [e2]; exact Ar4.1) (State.isArrayOf_alike hZ.alike Ar4.2.1) rfl Ar4.2.2 hin4 (H4.at hin4 rfl) (g := (mkF m 11 #[.val (.ref a1)] [(.int (1 : Int32)), (.ref lv)])) rfl rfl (hb hby d8_11) tt_ kk_) ?_
  refine Wp.st (S' := T2.setTop (mkF m 13 #[.val (.ref a1)] [(.int (0 : Int32)), (.ref l1)])) (fun tt_ kk_ => XS.iconst X2.here hx rfl (hb hby d8_12) kk_) ?_
  obtain ⟨cl5, Ar5, q5, S5, N5, H5, G5⟩ := id P2
  have hin5 := inb_of (j := (0 : Int32)) S5 ⟨by decide, by decide⟩
  refine Wp.st (S' := T2.setTop (mkF m 14 #[.val (.ref a1)] [(.double (FP.l2d (Int64.ofInt (tf (0 : Int32).toNatClampNeg))))])) (fun tt_ kk_ => X2.daload hx (j := (0 : Int32)) (v := (.double (FP.l2d (Int64.ofInt (tf (0 : Int32).toNatClampNeg))))) (by rw [e2]; exact Ar5.1) (State.isArrayOf_alike hZ.alike Ar5.2.1) Ar5.2.2 hin5 (H5.at hin5 (own_dl_get tf (by decide) _)) (g := (mkF m 13 #[.val (.ref a1)] [(.int (0 : Int32)), (.ref l1)])) rfl rfl (hb hby d8_13) tt_ kk_) ?_
  exact Wp.ret X2 hlk (v := (some (.double (FP.l2d (Int64.ofInt (tf (0 : Int32).toNatClampNeg)))))) (fun h => by rw [Bd.returns] at h; cases h) (fun fs hr => retOut X2 hx Bd.returns rfl (Or.inr (Or.inr (Or.inl ⟨rfl, rfl, _, rfl⟩))) (hb hby d8_14) hr) (by decide) (by decide) (show Q_rmSum2 Z a1 lv v0 l1 kl kt tf h0 n0 _ T2.heap _ by rw [e2]; exact ⟨rfl, N0, rfl⟩)
theorem ef_rmSum3 (m : MethodId) (a1 : Addr) : entryFrame m #[(.ref a1)] 1 = mkF m 0 #[.val (.ref a1)] [] := by first | (simp [entryFrame, mkF, argsToLocals, Value.category]; done) | rfl
def Q_rmSum3 (Z : State) (a1 : Addr) (lv : Addr) (v0 : Value) (v1 : Value) (l2 : Addr) (kl : ClassId) (kt : ClassId) (tf : Nat → Int) (h0 : Heap) (n0 : Nat) (v : Option Value) (h : Heap) (L : List Loc) : Prop := (v = some (.double (FP.l2d (Int64.ofInt (tf (0 : Int32).toNatClampNeg))))) ∧ (Fr n0 L) ∧ (h = h0)
set_option maxRecDepth 65536 in
set_option maxHeartbeats 40000000 in
theorem rmSum3 (l : Launch) (Z : State) (a0 : Array Value) (hw : ∀ d ∈ tables_1, d.before a0 Z = true) (ws : List Jvm.Cond) (a1 : Addr) (lv : Addr) (v0 : Value) (v1 : Value) (l2 : Addr) (kl : ClassId) (kt : ClassId) (tf : Nat → Int) (h0 : Heap) (n0 : Nat) (Z0 : n0 ≤ h0.size) (P0 : Fld Z h0 a1 "com/example/dags_over_clouds/dagsoverclouds/plan/Tally" "levels" "[[D" (.ref lv)) (P1 : Arv Z h0 lv kl (.array .double) (3 : Int32) [v0, v1, (.ref l2)] .null) (P2 : Arv Z h0 l2 kt .double (1 : Int32) (own_dl tf) (.double (0 : UInt64))) :
    MetFree l (⟨"com/example/dags_over_clouds/dagsoverclouds/plan/Tally", "sum", "()D"⟩ : MethodName) (head1 (Jvm.Cond.code (⟨"com/example/dags_over_clouds/dagsoverclouds/plan/Tally", "sum", "()D"⟩ : MethodName) prog_71_method_2_code 1 (some .double) :: ws) ({ frames := 0, cells := 0, slots := 0, locals := 0 } : Room)) (fun a U => a = #[(.ref a1)] ∧ Z.Warmed39 U.vm ∧ U.heap = h0) (fun _ _ _ _ _ => True) (fun _ U o U' => ∃ v L, o = .returned v ∧ Q_rmSum3 Z a1 lv v0 v1 l2 kl kt tf h0 n0 v U'.heap L ∧ FrameEnd U o U' L ({ frames := 0, cells := 0, slots := 0, locals := 0 } : Room).cells ({ frames := 0, cells := 0, slots := 0, locals := 0 } : Room).slots) := by
  refine MetFree.of_bodySF (plainFor_of_name pn_8) hisR ?_
  intro p e s m args below meth c s₁ Bd hml0 hP hK
  obtain ⟨rfl, hZ, hh⟩ := hP
  have hx := Bd.exec
  have hby := Bd.bytes
  have hml : c.maxLocals = 1 := hml0
  have hown : s.vm.findClass "com/example/dags_over_clouds/dagsoverclouds/plan/Tally" = some m.cls := findClass_of_methodNamed Bd.named
  have hnm := (name_of_methodNamed Bd.named Bd.method).1
  have hlk := Bd.notSynchronized
  have X0 : Stand p l e ({ frames := 0, cells := 0, slots := 0, locals := 0 } : Room) s m #[(.ref a1)] below meth c s₁ [] 0 0 := Stand.of_body Bd
  have e0 : s₁.heap = h0 := by rw [← hh, Bd.state]; rfl
  have N0 := Fr.nil n0
  refine Wp.goal (Post := (fun o U' => ∃ v L, o = .returned v ∧ Q_rmSum3 Z a1 lv v0 v1 l2 kl kt tf h0 n0 v U'.heap L ∧ FrameEnd s o U' L ({ frames := 0, cells := 0, slots := 0, locals := 0 } : Room).cells ({ frames := 0, cells := 0, slots := 0, locals := 0 } : Room).slots)) (Wp.st (S' := s₁.setTop (mkF m 0 #[.val (.ref a1)] [])) (fun tt_ kk_ => castTop (ef_rmSum3 m a1 ) kk_) ?_)
  refine Wp.st (S' := s₁.setTop (mkF m 1 #[.val (.ref a1)] [(.ref a1)])) (fun tt_ kk_ => XS.aloadN X0.here hx rfl (hb hby d8_0) rfl rfl kk_) ?_
  obtain ⟨T1, X1, e1, st1⟩ := getF X0 hx hZ hown (host := "") (Or.inl (hw _ (List.mem_of_getElem? (i := 22) rfl))) Via.refl e0 P0 (g := (mkF m 1 #[.val (.ref a1)] [(.ref a1)])) rfl rfl (hb hby d8_1)
  refine Wp.st (S' := T1.setTop (mkF m 4 #[.val (.ref a1)] [(.ref lv)])) st1 ?_
  refine Wp.st (S' := T1.setTop (mkF m 5 #[.val (.ref a1)] [(.ref a1), (.ref lv)])) (fun tt_ kk_ => XS.aloadN X1.here hx rfl (hb hby d8_4) rfl rfl kk_) ?_
  obtain ⟨T2, X2, e2, st2⟩ := getF X1 hx hZ hown (host := "") (Or.inl (hw _ (List.mem_of_getElem? (i := 22) rfl))) Via.refl e1 P0 (g := (mkF m 5 #[.val (.ref a1)] [(.ref a1), (.ref lv)])) rfl rfl (hb hby d8_5)
  refine Wp.st (S' := T2.setTop (mkF m 8 #[.val (.ref a1)] [(.ref lv), (.ref lv)])) st2 ?_
  obtain ⟨cl3, Ar3, q3, S3, N3, H3, G3⟩ := id P1
  refine Wp.st (S' := T2.setTop (mkF m 9 #[.val (.ref a1)] [(.int (3 : Int32)), (.ref lv)])) (fun tt_ kk_ => X2.arraylength hx (by rw [e2]; exact Ar3.1) (State.isArrayOf_alike hZ.alike Ar3.2.1) (g := (mkF m 8 #[.val (.ref a1)] [(.ref lv), (.ref lv)])) rfl rfl (hb hby d8_8) tt_ (by rw [len_of S3 N3]; exact kk_)) ?_
  refine Wp.st (S' := T2.setTop (mkF m 10 #[.val (.ref a1)] [(.int (1 : Int32)), (.int (3 : Int32)), (.ref lv)])) (fun tt_ kk_ => XS.iconst X2.here hx rfl (hb hby d8_9) kk_) ?_
  refine Wp.st (S' := T2.setTop (mkF m 11 #[.val (.ref a1)] [(.int ((3 : Int32) - (1 : Int32))), (.ref lv)])) (fun tt_ kk_ => XS.isub X2.here hx rfl (hb hby d8_10) rfl kk_) ?_
  rw [(by decide : ((3 : Int32) - (1 : Int32)) = (2 : Int32))]
  obtain ⟨cl4, Ar4, q4, S4, N4, H4, G4⟩ := id P1
  have hin4 := inb_of (j := (2 : Int32)) S4 ⟨by decide, by decide⟩
  refine Wp.st (S' := T2.setTop (mkF m 12 #[.val (.ref a1)] [(.ref l2)])) (fun tt_ kk_ => X2.aaload hx (j := (2 : Int32)) (v := (.ref l2)) (by rw [e2]; exact Ar4.1) (State.isArrayOf_alike hZ.alike Ar4.2.1) rfl Ar4.2.2 hin4 (H4.at hin4 rfl) (g := (mkF m 11 #[.val (.ref a1)] [(.int (2 : Int32)), (.ref lv)])) rfl rfl (hb hby d8_11) tt_ kk_) ?_
  refine Wp.st (S' := T2.setTop (mkF m 13 #[.val (.ref a1)] [(.int (0 : Int32)), (.ref l2)])) (fun tt_ kk_ => XS.iconst X2.here hx rfl (hb hby d8_12) kk_) ?_
  obtain ⟨cl5, Ar5, q5, S5, N5, H5, G5⟩ := id P2
  have hin5 := inb_of (j := (0 : Int32)) S5 ⟨by decide, by decide⟩
  refine Wp.st (S' := T2.setTop (mkF m 14 #[.val (.ref a1)] [(.double (FP.l2d (Int64.ofInt (tf (0 : Int32).toNatClampNeg))))])) (fun tt_ kk_ => X2.daload hx (j := (0 : Int32)) (v := (.double (FP.l2d (Int64.ofInt (tf (0 : Int32).toNatClampNeg))))) (by rw [e2]; exact Ar5.1) (State.isArrayOf_alike hZ.alike Ar5.2.1) Ar5.2.2 hin5 (H5.at hin5 (own_dl_get tf (by decide) _)) (g := (mkF m 13 #[.val (.ref a1)] [(.int (0 : Int32)), (.ref l2)])) rfl rfl (hb hby d8_13) tt_ kk_) ?_
  exact Wp.ret X2 hlk (v := (some (.double (FP.l2d (Int64.ofInt (tf (0 : Int32).toNatClampNeg)))))) (fun h => by rw [Bd.returns] at h; cases h) (fun fs hr => retOut X2 hx Bd.returns rfl (Or.inr (Or.inr (Or.inl ⟨rfl, rfl, _, rfl⟩))) (hb hby d8_14) hr) (by decide) (by decide) (show Q_rmSum3 Z a1 lv v0 v1 l2 kl kt tf h0 n0 _ T2.heap _ by rw [e2]; exact ⟨rfl, N0, rfl⟩)
theorem pn_9 : plainName "com/example/dags_over_clouds/dagsoverclouds/plan/Tally" = true := by first | (simp [plainName, overriddenIn]; done) | decide +kernel
theorem d9_0 : decode prog_71_method_3_code 0 = .ok (.aload_n 0, 1) := by decide +kernel
theorem d9_1 : decode prog_71_method_3_code 1 = .ok (.getfield 21, 3) := by decide +kernel
theorem d9_4 : decode prog_71_method_3_code 4 = .ok (.iconst 0, 1) := by decide +kernel
theorem d9_5 : decode prog_71_method_3_code 5 = .ok (.aaload, 1) := by decide +kernel
theorem d9_6 : decode prog_71_method_3_code 6 = .ok (.iload_n 1, 1) := by decide +kernel
theorem d9_7 : decode prog_71_method_3_code 7 = .ok (.dload_n 2, 1) := by decide +kernel
theorem d9_8 : decode prog_71_method_3_code 8 = .ok (.dastore, 1) := by decide +kernel
theorem d9_9 : decode prog_71_method_3_code 9 = .ok (.iload_n 1, 1) := by decide +kernel
theorem d9_10 : decode prog_71_method_3_code 10 = .ok (.istore 4, 2) := by decide +kernel
theorem d9_12 : decode prog_71_method_3_code 12 = .ok (.iconst 1, 1) := by decide +kernel
theorem d9_13 : decode prog_71_method_3_code 13 = .ok (.istore 5, 2) := by decide +kernel
theorem d9_15 : decode prog_71_method_3_code 15 = .ok (.iload 5, 2) := by decide +kernel
theorem d9_17 : decode prog_71_method_3_code 17 = .ok (.aload_n 0, 1) := by decide +kernel
theorem d9_18 : decode prog_71_method_3_code 18 = .ok (.getfield 21, 3) := by decide +kernel
theorem d9_21 : decode prog_71_method_3_code 21 = .ok (.arraylength, 1) := by decide +kernel
theorem d9_22 : decode prog_71_method_3_code 22 = .ok (.if_icmp .ge 24, 3) := by decide +kernel
theorem d9_25 : decode prog_71_method_3_code 25 = .ok (.iload 4, 2) := by decide +kernel
theorem d9_27 : decode prog_71_method_3_code 27 = .ok (.bipush 64, 2) := by decide +kernel
theorem d9_29 : decode prog_71_method_3_code 29 = .ok (.idiv, 1) := by decide +kernel
theorem d9_30 : decode prog_71_method_3_code 30 = .ok (.istore 4, 2) := by decide +kernel
theorem d9_32 : decode prog_71_method_3_code 32 = .ok (.aload_n 0, 1) := by decide +kernel
theorem d9_33 : decode prog_71_method_3_code 33 = .ok (.iload 5, 2) := by decide +kernel
theorem d9_35 : decode prog_71_method_3_code 35 = .ok (.iload 4, 2) := by decide +kernel
theorem d9_37 : decode prog_71_method_3_code 37 = .ok (.invokevirtual 29, 3) := by decide +kernel
theorem pd_1 : parseMethodDescriptor "(II)V" = some ⟨[.int, .int], none⟩ := by decide +kernel
theorem d9_40 : decode prog_71_method_3_code 40 = .ok (.iinc 5 1, 3) := by decide +kernel
theorem d9_43 : decode prog_71_method_3_code 43 = .ok (.goto (-28), 3) := by decide +kernel
theorem d9_46 : decode prog_71_method_3_code 46 = .ok (.return_, 1) := by decide +kernel
theorem ef_rmSet2 (m : MethodId) (a1 : Addr) (p2 : Int32) (dd : UInt64) : entryFrame m #[(.ref a1), (.int p2), (.double dd)] 6 = mkF m 0 #[.val (.ref a1), .val (.int p2), .val (.double dd), .second, .unset, .unset] [] := by first | (simp [entryFrame, mkF, argsToLocals, Value.category]; done) | rfl
def Q_rmSet2 (Z : State) (a1 : Addr) (p2 : Int32) (dd : UInt64) (zz : Int) (lv : Addr) (l0 : Addr) (l1 : Addr) (kl : ClassId) (k0 : ClassId) (k1 : ClassId) (n : Int32) (wf : Nat → Int) (uf : Nat → Int) (h0 : Heap) (n0 : Nat) (v : Option Value) (h : Heap) (L : List Loc) : Prop := (v = none) ∧ (Fr n0 L) ∧ (Keep h0 h [l0, l1]) ∧ (Arv Z h l0 k0 .double n (own_dl (own_up wf p2.toNatClampNeg zz)) (.double (0 : UInt64))) ∧ (Arv Z h l1 k1 .double (1 : Int32) (own_dl (own_up uf (p2 / (64 : Int32)).toNatClampNeg (own_R (own_up wf p2.toNatClampNeg zz) n.toNatClampNeg (p2 / (64 : Int32)).toNatClampNeg))) (.double (0 : UInt64)))
set_option maxRecDepth 65536 in
set_option maxHeartbeats 40000000 in
theorem rmSet2 (l : Launch) (Z : State) (a0 : Array Value) (hw : ∀ d ∈ tables_1, d.before a0 Z = true) (ws : List Jvm.Cond) (a1 : Addr) (p2 : Int32) (dd : UInt64) (zz : Int) (lv : Addr) (l0 : Addr) (l1 : Addr) (kl : ClassId) (k0 : ClassId) (k1 : ClassId) (n : Int32) (wf : Nat → Int) (uf : Nat → Int) (h0 : Heap) (n0 : Nat) (Z0 : n0 ≤ h0.size) (g_l0 : n0 ≤ l0) (g_l1 : n0 ≤ l1) (P2 : Exa Z h0 a1 "com/example/dags_over_clouds/dagsoverclouds/plan/Tally") (P3 : Fld Z h0 a1 "com/example/dags_over_clouds/dagsoverclouds/plan/Tally" "levels" "[[D" (.ref lv)) (P4 : Arv Z h0 lv kl (.array .double) (2 : Int32) [(.ref l0), (.ref l1)] .null) (P5 : Arv Z h0 l0 k0 .double n (own_dl wf) (.double (0 : UInt64))) (P6 : Arv Z h0 l1 k1 .double (1 : Int32) (own_dl uf) (.double (0 : UInt64))) (hd : dd = (FP.l2d (Int64.ofInt zz))) (hk : 0 ≤ p2.toInt ∧ p2.toInt < n.toInt ∧ n.toInt ≤ 129) (hr1 : own_hr (p2 / (64 : Int32)) n (1 : Int32)) (hb0 : own_b0 (own_up wf p2.toNatClampNeg zz)) (n_a1_lv : a1 ≠ lv) (n_a1_l0 : a1 ≠ l0) (n_a1_l1 : a1 ≠ l1) (n_lv_l0 : lv ≠ l0) (n_lv_l1 : lv ≠ l1) (n_l0_l1 : l0 ≠ l1) :
    MetFree l (⟨"com/example/dags_over_clouds/dagsoverclouds/plan/Tally", "set", "(ID)V"⟩ : MethodName) (head1 (Jvm.Cond.code (⟨"com/example/dags_over_clouds/dagsoverclouds/plan/Tally", "set", "(ID)V"⟩ : MethodName) prog_71_method_3_code 6 none :: ws) ({ frames := 2, cells := 0, slots := 0, locals := 33 } : Room)) (fun a U => a = #[(.ref a1), (.int p2), (.double dd)] ∧ Z.Warmed39 U.vm ∧ U.heap = h0) (fun _ _ _ _ _ => True) (fun _ U o U' => ∃ v L, o = .returned v ∧ Q_rmSet2 Z a1 p2 dd zz lv l0 l1 kl k0 k1 n wf uf h0 n0 v U'.heap L ∧ FrameEnd U o U' L ({ frames := 2, cells := 0, slots := 0, locals := 33 } : Room).cells ({ frames := 2, cells := 0, slots := 0, locals := 33 } : Room).slots) := by
  refine MetFree.of_bodySF (plainFor_of_name pn_9) hisR ?_
  intro p e s m args below meth c s₁ Bd hml0 hP hK
  obtain ⟨rfl, hZ, hh⟩ := hP
  have hx := Bd.exec
  have hby := Bd.bytes
  have hml : c.maxLocals = 6 := hml0
  have hown : s.vm.findClass "com/example/dags_over_clouds/dagsoverclouds/plan/Tally" = some m.cls := findClass_of_methodNamed Bd.named
  have hnm := (name_of_methodNamed Bd.named Bd.method).1
  have hlk := Bd.notSynchronized
  have X0 : Stand p l e ({ frames := 2, cells := 0, slots := 0, locals := 33 } : Room) s m #[(.ref a1), (.int p2), (.double dd)] below meth c s₁ [] 0 0 := Stand.of_body Bd
  have e0 : s₁.heap = h0 := by rw [← hh, Bd.state]; rfl
  have N0 := Fr.nil n0
  refine Wp.goal (Post := (fun o U' => ∃ v L, o = .returned v ∧ Q_rmSet2 Z a1 p2 dd zz lv l0 l1 kl k0 k1 n wf uf h0 n0 v U'.heap L ∧ FrameEnd s o U' L ({ frames := 2, cells := 0, slots := 0, locals := 33 } : Room).cells ({ frames := 2, cells := 0, slots := 0, locals := 33 } : Room).slots)) (Wp.st (S' := s₁.setTop (mkF m 0 #[.val (.ref a1), .val (.int p2), .val (.double dd), .second, .unset, .unset] [])) (fun tt_ kk_ => castTop (ef_rmSet2 m a1 p2 dd ) kk_) ?_)
  subst hd
  refine Wp.st (S' := s₁.setTop (mkF m 1 #[.val (.ref a1), .val (.int p2), .val (.double (FP.l2d (Int64.ofInt zz))), .second, .unset, .unset] [(.ref a1)])) (fun tt_ kk_ => XS.aloadN X0.here hx rfl (hb hby d9_0) rfl rfl kk_) ?_
  obtain ⟨T1, X1, e1, st1⟩ := getF X0 hx hZ hown (host := "") (Or.inl (hw _ (List.mem_of_getElem? (i := 22) rfl))) Via.refl e0 P3 (g := (mkF m 1 #[.val (.ref a1), .val (.int p2), .val (.double (FP.l2d (Int64.ofInt zz))), .second, .unset, .unset] [(.ref a1)])) rfl rfl (hb hby d9_1)
  refine Wp.st (S' := T1.setTop (mkF m 4 #[.val (.ref a1), .val (.int p2), .val (.double (FP.l2d (Int64.ofInt zz))), .second, .unset, .unset] [(.ref lv)])) st1 ?_
  refine Wp.st (S' := T1.setTop (mkF m 5 #[.val (.ref a1), .val (.int p2), .val (.double (FP.l2d (Int64.ofInt zz))), .second, .unset, .unset] [(.int (0 : Int32)), (.ref lv)])) (fun tt_ kk_ => XS.iconst X1.here hx rfl (hb hby d9_4) kk_) ?_
  obtain ⟨cl2, Ar2, q2, S2, N2, H2, G2⟩ := id P4
  have hin2 := inb_of (j := (0 : Int32)) S2 ⟨by decide, by decide⟩
  refine Wp.st (S' := T1.setTop (mkF m 6 #[.val (.ref a1), .val (.int p2), .val (.double (FP.l2d (Int64.ofInt zz))), .second, .unset, .unset] [(.ref l0)])) (fun tt_ kk_ => X1.aaload hx (j := (0 : Int32)) (v := (.ref l0)) (by rw [e1]; exact Ar2.1) (State.isArrayOf_alike hZ.alike Ar2.2.1) rfl Ar2.2.2 hin2 (H2.at hin2 rfl) (g := (mkF m 5 #[.val (.ref a1), .val (.int p2), .val (.double (FP.l2d (Int64.ofInt zz))), .second, .unset, .unset] [(.int (0 : Int32)), (.ref lv)])) rfl rfl (hb hby d9_5) tt_ kk_) ?_
  refine Wp.st (S' := T1.setTop (mkF m 7 #[.val (.ref a1), .val (.int p2), .val (.double (FP.l2d (Int64.ofInt zz))), .second, .unset, .unset] [(.int p2), (.ref l0)])) (fun tt_ kk_ => XS.iloadN X1.here hx rfl (hb hby d9_6) rfl  kk_) ?_
  refine Wp.st (S' := T1.setTop (mkF m 8 #[.val (.ref a1), .val (.int p2), .val (.double (FP.l2d (Int64.ofInt zz))), .second, .unset, .unset] [(.double (FP.l2d (Int64.ofInt zz))), (.int p2), (.ref l0)])) (fun tt_ kk_ => XS.dloadN X1.here hx rfl (hb hby d9_7) rfl  kk_) ?_
  obtain ⟨cl3, Ar3, q3, S3, N3, H3, G3⟩ := id P5
  have hin3 := inb_of (j := p2) S3 (own_ibn (by omega))
  obtain ⟨T3, h3, X3, e3, W3, st3⟩ := stD X1 hx hZ e1 Ar3 (j := p2) hin3 (g := (mkF m 8 #[.val (.ref a1), .val (.int p2), .val (.double (FP.l2d (Int64.ofInt zz))), .second, .unset, .unset] [(.double (FP.l2d (Int64.ofInt zz))), (.int p2), (.ref l0)])) rfl rfl (hb hby d9_8)
  have z4 := Nat.le_of_eq W3.size.symm
  have V3 : Arv Z h3 l0 k0 .double n (own_dl (own_up wf p2.toNatClampNeg zz)) (.double (0 : UInt64)) := own_aset Ar3 q3 S3 N3 H3 G3 W3 (by rw [own_clamp]; omega)
  have Nf3 := Fr.snoc X3 N0 g_l0
  refine Wp.st (S' := T3.setTop (mkF m 9 #[.val (.ref a1), .val (.int p2), .val (.double (FP.l2d (Int64.ofInt zz))), .second, .unset, .unset] [])) st3 ?_
  refine Wp.st (S' := T3.setTop (mkF m 10 #[.val (.ref a1), .val (.int p2), .val (.double (FP.l2d (Int64.ofInt zz))), .second, .unset, .unset] [(.int p2)])) (fun tt_ kk_ => XS.iloadN X3.here hx rfl (hb hby d9_9) rfl  kk_) ?_
  refine Wp.st (S' := T3.setTop (mkF m 12 #[.val (.ref a1), .val (.int p2), .val (.double (FP.l2d (Int64.ofInt zz))), .second, .val (.int p2), .unset] [])) (fun tt_ kk_ => XS.istore X3.here hx rfl (hb hby d9_10) rfl (l' := #[.val (.ref a1), .val (.int p2), .val (.double (FP.l2d (Int64.ofInt zz))), .second, .val (.int p2), .unset]) rfl kk_) ?_
  refine Wp.st (S' := T3.setTop (mkF m 13 #[.val (.ref a1), .val (.int p2), .val (.double (FP.l2d (Int64.ofInt zz))), .second, .val (.int p2), .unset] [(.int (1 : Int32))])) (fun tt_ kk_ => XS.iconst X3.here hx rfl (hb hby d9_12) kk_) ?_
  refine Wp.st (S' := T3.setTop (mkF m 15 #[.val (.ref a1), .val (.int p2), .val (.double (FP.l2d (Int64.ofInt zz))), .second, .val (.int p2), .val (.int (1 : Int32))] [])) (fun tt_ kk_ => XS.istore X3.here hx rfl (hb hby d9_13) rfl (l' := #[.val (.ref a1), .val (.int p2), .val (.double (FP.l2d (Int64.ofInt zz))), .second, .val (.int p2), .val (.int (1 : Int32))]) rfl kk_) ?_
  refine Wp.st (S' := T3.setTop (mkF m 17 #[.val (.ref a1), .val (.int p2), .val (.double (FP.l2d (Int64.ofInt zz))), .second, .val (.int p2), .val (.int (1 : Int32))] [(.int (1 : Int32))])) (fun tt_ kk_ => XS.iload X3.here hx rfl (hb hby d9_15) rfl  kk_) ?_
  refine Wp.st (S' := T3.setTop (mkF m 18 #[.val (.ref a1), .val (.int p2), .val (.double (FP.l2d (Int64.ofInt zz))), .second, .val (.int p2), .val (.int (1 : Int32))] [(.ref a1), (.int (1 : Int32))])) (fun tt_ kk_ => XS.aloadN X3.here hx rfl (hb hby d9_17) rfl rfl kk_) ?_
  have F5 := P3.other W3 (Or.inl n_a1_l0)
  obtain ⟨T6, X6, e6, st6⟩ := getF X3 hx hZ hown (host := "") (Or.inl (hw _ (List.mem_of_getElem? (i := 22) rfl))) Via.refl e3 F5 (g := (mkF m 18 #[.val (.ref a1), .val (.int p2), .val (.double (FP.l2d (Int64.ofInt zz))), .second, .val (.int p2), .val (.int (1 : Int32))] [(.ref a1), (.int (1 : Int32))])) rfl rfl (hb hby d9_18)
  refine Wp.st (S' := T6.setTop (mkF m 21 #[.val (.ref a1), .val (.int p2), .val (.double (FP.l2d (Int64.ofInt zz))), .second, .val (.int p2), .val (.int (1 : Int32))] [(.ref lv), (.int (1 : Int32))])) st6 ?_
  have F7 := P4.other W3 n_lv_l0
  obtain ⟨cl8, Ar8, q8, S8, N8, H8, G8⟩ := id F7
  refine Wp.st (S' := T6.setTop (mkF m 22 #[.val (.ref a1), .val (.int p2), .val (.double (FP.l2d (Int64.ofInt zz))), .second, .val (.int p2), .val (.int (1 : Int32))] [(.int (2 : Int32)), (.int (1 : Int32))])) (fun tt_ kk_ => X6.arraylength hx (by rw [e6]; exact Ar8.1) (State.isArrayOf_alike hZ.alike Ar8.2.1) (g := (mkF m 21 #[.val (.ref a1), .val (.int p2), .val (.double (FP.l2d (Int64.ofInt zz))), .second, .val (.int p2), .val (.int (1 : Int32))] [(.ref lv), (.int (1 : Int32))])) rfl rfl (hb hby d9_21) tt_ (by rw [len_of S8 N8]; exact kk_)) ?_
  refine Wp.st (S' := T6.setTop (mkF m 25 #[.val (.ref a1), .val (.int p2), .val (.double (FP.l2d (Int64.ofInt zz))), .second, .val (.int p2), .val (.int (1 : Int32))] [])) (fun tt_ kk_ => XS.icmpNo X6.here hx rfl (hb hby d9_22) rfl (tlt ((by decide) : (1 : Int32) < (2 : Int32))).2.1 kk_) ?_
  refine Wp.st (S' := T6.setTop (mkF m 27 #[.val (.ref a1), .val (.int p2), .val (.double (FP.l2d (Int64.ofInt zz))), .second, .val (.int p2), .val (.int (1 : Int32))] [(.int p2)])) (fun tt_ kk_ => XS.iload X6.here hx rfl (hb hby d9_25) rfl  kk_) ?_
  refine Wp.st (S' := T6.setTop (mkF m 29 #[.val (.ref a1), .val (.int p2), .val (.double (FP.l2d (Int64.ofInt zz))), .second, .val (.int p2), .val (.int (1 : Int32))] [(.int (64 : Int32)), (.int p2)])) (fun tt_ kk_ => XS.bipush X6.here hx rfl (hb hby d9_27) kk_) ?_
  refine Wp.st (S' := T6.setTop (mkF m 30 #[.val (.ref a1), .val (.int p2), .val (.double (FP.l2d (Int64.ofInt zz))), .second, .val (.int p2), .val (.int (1 : Int32))] [(.int (p2 / (64 : Int32)))])) (fun tt_ kk_ => XS.idiv X6.here hx rfl (hb hby d9_29) rfl (by decide) kk_) ?_
  refine Wp.st (S' := T6.setTop (mkF m 32 #[.val (.ref a1), .val (.int p2), .val (.double (FP.l2d (Int64.ofInt zz))), .second, .val (.int (p2 / (64 : Int32))), .val (.int (1 : Int32))] [])) (fun tt_ kk_ => XS.istore X6.here hx rfl (hb hby d9_30) rfl (l' := #[.val (.ref a1), .val (.int p2), .val (.double (FP.l2d (Int64.ofInt zz))), .second, .val (.int (p2 / (64 : Int32))), .val (.int (1 : Int32))]) rfl kk_) ?_
  refine Wp.st (S' := T6.setTop (mkF m 33 #[.val (.ref a1), .val (.int p2), .val (.double (FP.l2d (Int64.ofInt zz))), .second, .val (.int (p2 / (64 : Int32))), .val (.int (1 : Int32))] [(.ref a1)])) (fun tt_ kk_ => XS.aloadN X6.here hx rfl (hb hby d9_32) rfl rfl kk_) ?_
  refine Wp.st (S' := T6.setTop (mkF m 35 #[.val (.ref a1), .val (.int p2), .val (.double (FP.l2d (Int64.ofInt zz))), .second, .val (.int (p2 / (64 : Int32))), .val (.int (1 : Int32))] [(.int (1 : Int32)), (.ref a1)])) (fun tt_ kk_ => XS.iload X6.here hx rfl (hb hby d9_33) rfl  kk_) ?_
  refine Wp.st (S' := T6.setTop (mkF m 37 #[.val (.ref a1), .val (.int p2), .val (.double (FP.l2d (Int64.ofInt zz))), .second, .val (.int (p2 / (64 : Int32))), .val (.int (1 : Int32))] [(.int (p2 / (64 : Int32))), (.int (1 : Int32)), (.ref a1)])) (fun tt_ kk_ => XS.iload X6.here hx rfl (hb hby d9_35) rfl  kk_) ?_
  have F10 := P6.other W3 (Ne.symm n_l0_l1)
  have F11 := P2.wr W3
  obtain ⟨cq9, q9, q9'⟩ := (F11).cell
  obtain ⟨vv9, _, ⟨T9, L9, k9, n9⟩, -, X9, ⟨Lc9, hQ9, l9, y9, z9⟩, st9⟩ := X6.privateBack hx (y := (⟨"com/example/dags_over_clouds/dagsoverclouds/plan/Tally", "addUp", "(II)V"⟩ : MethodName)) hown (mvT hZ (hw _ (List.mem_of_getElem? (i := 35) rfl))) (mvT hZ (hw _ (List.mem_of_getElem? (i := 36) rfl))) (mvT hZ (own_selP (hw _ (List.mem_of_getElem? (i := 45) rfl)) (hw _ (List.mem_of_getElem? (i := 36) rfl)) (hw _ (List.mem_of_getElem? (i := 37) rfl)))) (Cond.privateMethod_at (mvP hZ (hw _ (List.mem_of_getElem? (i := 37) rfl)) (args := #[]))) (mvT hZ (hw _ (List.mem_of_getElem? (i := 38) rfl))) (by decide) (backOf (W := 0) (rmAdd21 l Z a0 hw [] a1 (p2 / (64 : Int32)) lv l0 l1 kl k0 k1 n (1 : Int32) (own_up wf p2.toNatClampNeg zz) uf h3 n0 (Nat.le_trans Z0 z4) g_l1 F5 F7 V3 F10 ((by first | assumption | exact own_b_of (by assumption) | (repeat first | exact own_b_z | assumption | refine own_b_up ?_ _ (own_R_b (by assumption) _ _))) : own_b (own_up wf p2.toNatClampNeg zz)) ((by assumption) : own_hr (p2 / (64 : Int32)) n (1 : Int32))) hZ (hw _ (List.mem_of_getElem? (i := 38) rfl)) (hw _ (List.mem_of_getElem? (i := 9) rfl)) (by decide) (by decide)) (g := (mkF m 37 #[.val (.ref a1), .val (.int p2), .val (.double (FP.l2d (Int64.ofInt zz))), .second, .val (.int (p2 / (64 : Int32))), .val (.int (1 : Int32))] [(.int (p2 / (64 : Int32))), (.int (1 : Int32)), (.ref a1)])) rfl (by rw [hml]; rfl) (Steps.refl _) (a := a1) (by rw [e6]; exact q9) q9' (argsL := [(.int (1 : Int32)), (.int (p2 / (64 : Int32)))]) (rest := []) (lenOf pd_1 rfl) rfl (by show 2 * 0 + _ ≤ _; exact Nat.le_of_eq rfl) (hb hby d9_37) (fun _ _ => ⟨rfl, e6, (by decide : 0 + 0 ≤ _), (by decide : 0 + 0 ≤ _)⟩)
  dsimp only [Pt.U, Pt.locs, Pt.cells, Pt.slots] at X9 l9 y9 z9 st9 hQ9
  subst l9 y9 z9
  obtain ⟨rfl, Nq9, K9, P9_0⟩ := hQ9
  have N9 := Fr.app Nf3 Nq9
  have z12 := K9.1
  have e9 : T9.heap = T9.heap := rfl
  refine Wp.tr (S' := T9.setTop (mkF m 40 #[.val (.ref a1), .val (.int p2), .val (.double (FP.l2d (Int64.ofInt zz))), .second, .val (.int (p2 / (64 : Int32))), .val (.int (1 : Int32))] [])) st9 ?_
  refine Wp.st (S' := T9.setTop (mkF m 43 #[.val (.ref a1), .val (.int p2), .val (.double (FP.l2d (Int64.ofInt zz))), .second, .val (.int (p2 / (64 : Int32))), .val (.int ((1 : Int32) + (1 : Int32)))] [])) (fun tt_ kk_ => XS.iinc X9.here hx rfl (hb hby d9_40) rfl (l' := #[.val (.ref a1), .val (.int p2), .val (.double (FP.l2d (Int64.ofInt zz))), .second, .val (.int (p2 / (64 : Int32))), .val (.int ((1 : Int32) + (1 : Int32)))]) rfl kk_) ?_
  rw [(by decide : ((1 : Int32) + (1 : Int32)) = (2 : Int32))]
  refine Wp.st (S' := T9.setTop (mkF m 15 #[.val (.ref a1), .val (.int p2), .val (.double (FP.l2d (Int64.ofInt zz))), .second, .val (.int (p2 / (64 : Int32))), .val (.int (2 : Int32))] [])) (fun tt_ kk_ => XS.goto X9.here hx rfl (pc0 := 43) (pc' := 15) rfl (hb hby d9_43) (by decide) (by decide) kk_) ?_
  refine Wp.st (S' := T9.setTop (mkF m 17 #[.val (.ref a1), .val (.int p2), .val (.double (FP.l2d (Int64.ofInt zz))), .second, .val (.int (p2 / (64 : Int32))), .val (.int (2 : Int32))] [(.int (2 : Int32))])) (fun tt_ kk_ => XS.iload X9.here hx rfl (hb hby d9_15) rfl  kk_) ?_
  refine Wp.st (S' := T9.setTop (mkF m 18 #[.val (.ref a1), .val (.int p2), .val (.double (FP.l2d (Int64.ofInt zz))), .second, .val (.int (p2 / (64 : Int32))), .val (.int (2 : Int32))] [(.ref a1), (.int (2 : Int32))])) (fun tt_ kk_ => XS.aloadN X9.here hx rfl (hb hby d9_17) rfl rfl kk_) ?_
  have F13 := F5.keep K9 (ninS n_a1_l1 nin0)
  obtain ⟨T14, X14, e14, st14⟩ := getF X9 hx hZ hown (host := "") (Or.inl (hw _ (List.mem_of_getElem? (i := 22) rfl))) Via.refl e9 F13 (g := (mkF m 18 #[.val (.ref a1), .val (.int p2), .val (.double (FP.l2d (Int64.ofInt zz))), .second, .val (.int (p2 / (64 : Int32))), .val (.int (2 : Int32))] [(.ref a1), (.int (2 : Int32))])) rfl rfl (hb hby d9_18)
  refine Wp.st (S' := T14.setTop (mkF m 21 #[.val (.ref a1), .val (.int p2), .val (.double (FP.l2d (Int64.ofInt zz))), .second, .val (.int (p2 / (64 : Int32))), .val (.int (2 : Int32))] [(.ref lv), (.int (2 : Int32))])) st14 ?_
  have F15 := F7.keep K9 (ninS n_lv_l1 nin0)
  obtain ⟨cl16, Ar16, q16, S16, N16, H16, G16⟩ := id F15
  refine Wp.st (S' := T14.setTop (mkF m 22 #[.val (.ref a1), .val (.int p2), .val (.double (FP.l2d (Int64.ofInt zz))), .second, .val (.int (p2 / (64 : Int32))), .val (.int (2 : Int32))] [(.int (2 : Int32)), (.int (2 : Int32))])) (fun tt_ kk_ => X14.arraylength hx (by rw [e14]; exact Ar16.1) (State.isArrayOf_alike hZ.alike Ar16.2.1) (g := (mkF m 21 #[.val (.ref a1), .val (.int p2), .val (.double (FP.l2d (Int64.ofInt zz))), .second, .val (.int (p2 / (64 : Int32))), .val (.int (2 : Int32))] [(.ref lv), (.int (2 : Int32))])) rfl rfl (hb hby d9_21) tt_ (by rw [len_of S16 N16]; exact kk_)) ?_
  refine Wp.st (S' := T14.setTop (mkF m 46 #[.val (.ref a1), .val (.int p2), .val (.double (FP.l2d (Int64.ofInt zz))), .second, .val (.int (p2 / (64 : Int32))), .val (.int (2 : Int32))] [])) (fun tt_ kk_ => XS.icmpYes X14.here hx rfl (pc0 := 22) (pc' := 46) rfl (hb hby d9_22) rfl (flt ((by decide) : ¬ ((2 : Int32) < (2 : Int32)))).2.1 (by decide) (by decide) kk_) ?_
  have K17 := Keep.refl h0 [l0, l1]
  have K18 := K17.wr W3 (Or.inl (List.mem_of_getElem? (i := 0) rfl))
  have K19 := K18.trans K9 (allS (Or.inl (List.mem_of_getElem? (i := 1) rfl)) all0)
  have F20 := V3.keep K9 (ninS n_l0_l1 nin0)
  exact Wp.ret X14 hlk (v := none) (fun _ => rfl) (fun fs hr => X14.returnOut hx Bd.returns (hb hby d9_46) hr) (by decide) (by decide) (show Q_rmSet2 Z a1 p2 (FP.l2d (Int64.ofInt zz)) zz lv l0 l1 kl k0 k1 n wf uf h0 n0 _ T14.heap _ by rw [e14]; exact ⟨rfl, N9, K19, F20, P9_0⟩)
theorem ef_rmSet3 (m : MethodId) (a1 : Addr) (p2 : Int32) (dd : UInt64) : entryFrame m #[(.ref a1), (.int p2), (.double dd)] 6 = mkF m 0 #[.val (.ref a1), .val (.int p2), .val (.double dd), .second, .unset, .unset] [] := by first | (simp [entryFrame, mkF, argsToLocals, Value.category]; done) | rfl
def Q_rmSet3 (Z : State) (a1 : Addr) (p2 : Int32) (dd : UInt64) (zz : Int) (lv : Addr) (l0 : Addr) (l1 : Addr) (l2 : Addr) (kl : ClassId) (k0 : ClassId) (k1 : ClassId) (k2 : ClassId) (n : Int32) (rr : Int32) (wf : Nat → Int) (uf : Nat → Int) (tf : Nat → Int) (h0 : Heap) (n0 : Nat) (v : Option Value) (h : Heap) (L : List Loc) : Prop := (v = none) ∧ (Fr n0 L) ∧ (Keep h0 h [l0, l1, l2]) ∧ (Arv Z h l0 k0 .double n (own_dl (own_up wf p2.toNatClampNeg zz)) (.double (0 : UInt64))) ∧ (Arv Z h l1 k1 .double rr (own_dl (own_up uf (p2 / (64 : Int32)).toNatClampNeg (own_R (own_up wf p2.toNatClampNeg zz) n.toNatClampNeg (p2 / (64 : Int32)).toNatClampNeg))) (.double (0 : UInt64))) ∧ (Arv Z h l2 k2 .double (1 : Int32) (own_dl (own_up tf (0 : Int32).toNatClampNeg (own_R (own_up uf (p2 / (64 : Int32)).toNatClampNeg (own_R (own_up wf p2.toNatClampNeg zz) n.toNatClampNeg (p2 / (64 : Int32)).toNatClampNeg)) rr.toNatClampNeg (0 : Int32).toNatClampNeg))) (.double (0 : UInt64)))
set_option maxRecDepth 65536 in
set_option maxHeartbeats 40000000 in
theorem rmSet3 (l : Launch) (Z : State) (a0 : Array Value) (hw : ∀ d ∈ tables_1, d.before a0 Z = true) (ws : List Jvm.Cond) (a1 : Addr) (p2 : Int32) (dd : UInt64) (zz : Int) (lv : Addr) (l0 : Addr) (l1 : Addr) (l2 : Addr) (kl : ClassId) (k0 : ClassId) (k1 : ClassId) (k2 : ClassId) (n : Int32) (rr : Int32) (wf : Nat → Int) (uf : Nat → Int) (tf : Nat → Int) (h0 : Heap) (n0 : Nat) (Z0 : n0 ≤ h0.size) (g_l0 : n0 ≤ l0) (g_l1 : n0 ≤ l1) (g_l2 : n0 ≤ l2) (P3 : Exa Z h0 a1 "com/example/dags_over_clouds/dagsoverclouds/plan/Tally") (P4 : Fld Z h0 a1 "com/example/dags_over_clouds/dagsoverclouds/plan/Tally" "levels" "[[D" (.ref lv)) (P5 : Arv Z h0 lv kl (.array .double) (3 : Int32) [(.ref l0), (.ref l1), (.ref l2)] .null) (P6 : Arv Z h0 l0 k0 .double n (own_dl wf) (.double (0 : UInt64))) (P7 : Arv Z h0 l1 k1 .double rr (own_dl uf) (.double (0 : UInt64))) (P8 : Arv Z h0 l2 k2 .double (1 : Int32) (own_dl tf) (.double (0 : UInt64))) (hd : dd = (FP.l2d (Int64.ofInt zz))) (hk : 0 ≤ p2.toInt ∧ p2.toInt < n.toInt ∧ n.toInt ≤ 129) (hr1 : own_hr (p2 / (64 : Int32)) n rr) (hb0 : own_b0 (own_up wf p2.toNatClampNeg zz)) (hr2 : own_hr (0 : Int32) rr (1 : Int32)) (hbu : own_b uf) (hq : ((p2 / (64 : Int32)) / (64 : Int32)) = (0 : Int32)) (n_a1_lv : a1 ≠ lv) (n_a1_l0 : a1 ≠ l0) (n_a1_l1 : a1 ≠ l1) (n_a1_l2 : a1 ≠ l2) (n_lv_l0 : lv ≠ l0) (n_lv_l1 : lv ≠ l1) (n_lv_l2 : lv ≠ l2) (n_l0_l1 : l0 ≠ l1) (n_l0_l2 : l0 ≠ l2) (n_l1_l2 : l1 ≠ l2) :
    MetFree l (⟨"com/example/dags_over_clouds/dagsoverclouds/plan/Tally", "set", "(ID)V"⟩ : MethodName) (head1 (Jvm.Cond.code (⟨"com/example/dags_over_clouds/dagsoverclouds/plan/Tally", "set", "(ID)V"⟩ : MethodName) prog_71_method_3_code 6 none :: ws) ({ frames := 2, cells := 0, slots := 0, locals := 33 } : Room)) (fun a U => a = #[(.ref a1), (.int p2), (.double dd)] ∧ Z.Warmed39 U.vm ∧ U.heap = h0) (fun _ _ _ _ _ => True) (fun _ U o U' => ∃ v L, o = .returned v ∧ Q_rmSet3 Z a1 p2 dd zz lv l0 l1 l2 kl k0 k1 k2 n rr wf uf tf h0 n0 v U'.heap L ∧ FrameEnd U o U' L ({ frames := 2, cells := 0, slots := 0, locals := 33 } : Room).cells ({ frames := 2, cells := 0, slots := 0, locals := 33 } : Room).slots) := by
  refine MetFree.of_bodySF (plainFor_of_name pn_9) hisR ?_
  intro p e s m args below meth c s₁ Bd hml0 hP hK
  obtain ⟨rfl, hZ, hh⟩ := hP
  have hx := Bd.exec
  have hby := Bd.bytes
  have hml : c.maxLocals = 6 := hml0
  have hown : s.vm.findClass "com/example/dags_over_clouds/dagsoverclouds/plan/Tally" = some m.cls := findClass_of_methodNamed Bd.named
  have hnm := (name_of_methodNamed Bd.named Bd.method).1
  have hlk := Bd.notSynchronized
  have X0 : Stand p l e ({ frames := 2, cells := 0, slots := 0, locals := 33 } : Room) s m #[(.ref a1), (.int p2), (.double dd)] below meth c s₁ [] 0 0 := Stand.of_body Bd
  have e0 : s₁.heap = h0 := by rw [← hh, Bd.state]; rfl
  have N0 := Fr.nil n0
  refine Wp.goal (Post := (fun o U' => ∃ v L, o = .returned v ∧ Q_rmSet3 Z a1 p2 dd zz lv l0 l1 l2 kl k0 k1 k2 n rr wf uf tf h0 n0 v U'.heap L ∧ FrameEnd s o U' L ({ frames := 2, cells := 0, slots := 0, locals := 33 } : Room).cells ({ frames := 2, cells := 0, slots := 0, locals := 33 } : Room).slots)) (Wp.st (S' := s₁.setTop (mkF m 0 #[.val (.ref a1), .val (.int p2), .val (.double dd), .second, .unset, .unset] [])) (fun tt_ kk_ => castTop (ef_rmSet3 m a1 p2 dd ) kk_) ?_)
  subst hd
  refine Wp.st (S' := s₁.setTop (mkF m 1 #[.val (.ref a1), .val (.int p2), .val (.double (FP.l2d (Int64.ofInt zz))), .second, .unset, .unset] [(.ref a1)])) (fun tt_ kk_ => XS.aloadN X0.here hx rfl (hb hby d9_0) rfl rfl kk_) ?_
  obtain ⟨T1, X1, e1, st1⟩ := getF X0 hx hZ hown (host := "") (Or.inl (hw _ (List.mem_of_getElem? (i := 22) rfl))) Via.refl e0 P4 (g := (mkF m 1 #[.val (.ref a1), .val (.int p2), .val (.double (FP.l2d (Int64.ofInt zz))), .second, .unset, .unset] [(.ref a1)])) rfl rfl (hb hby d9_1)
  refine Wp.st (S' := T1.setTop (mkF m 4 #[.val (.ref a1), .val (.int p2), .val (.double (FP.l2d (Int64.ofInt zz))), .second, .unset, .unset] [(.ref lv)])) st1 ?_
  refine Wp.st (S' := T1.setTop (mkF m 5 #[.val (.ref a1), .val (.int p2), .val (.double (FP.l2d (Int64.ofInt zz))), .second, .unset, .unset] [(.int (0 : Int32)), (.ref lv)])) (fun tt_ kk_ => XS.iconst X1.here hx rfl (hb hby d9_4) kk_) ?_
  obtain ⟨cl2, Ar2, q2, S2, N2, H2, G2⟩ := id P5
  have hin2 := inb_of (j := (0 : Int32)) S2 ⟨by decide, by decide⟩
  refine Wp.st (S' := T1.setTop (mkF m 6 #[.val (.ref a1), .val (.int p2), .val (.double (FP.l2d (Int64.ofInt zz))), .second, .unset, .unset] [(.ref l0)])) (fun tt_ kk_ => X1.aaload hx (j := (0 : Int32)) (v := (.ref l0)) (by rw [e1]; exact Ar2.1) (State.isArrayOf_alike hZ.alike Ar2.2.1) rfl Ar2.2.2 hin2 (H2.at hin2 rfl) (g := (mkF m 5 #[.val (.ref a1), .val (.int p2), .val (.double (FP.l2d (Int64.ofInt zz))), .second, .unset, .unset] [(.int (0 : Int32)), (.ref lv)])) rfl rfl (hb hby d9_5) tt_ kk_) ?_
  refine Wp.st (S' := T1.setTop (mkF m 7 #[.val (.ref a1), .val (.int p2), .val (.double (FP.l2d (Int64.ofInt zz))), .second, .unset, .unset] [(.int p2), (.ref l0)])) (fun tt_ kk_ => XS.iloadN X1.here hx rfl (hb hby d9_6) rfl  kk_) ?_
  refine Wp.st (S' := T1.setTop (mkF m 8 #[.val (.ref a1), .val (.int p2), .val (.double (FP.l2d (Int64.ofInt zz))), .second, .unset, .unset] [(.double (FP.l2d (Int64.ofInt zz))), (.int p2), (.ref l0)])) (fun tt_ kk_ => XS.dloadN X1.here hx rfl (hb hby d9_7) rfl  kk_) ?_
  obtain ⟨cl3, Ar3, q3, S3, N3, H3, G3⟩ := id P6
  have hin3 := inb_of (j := p2) S3 (own_ibn (by omega))
  obtain ⟨T3, h3, X3, e3, W3, st3⟩ := stD X1 hx hZ e1 Ar3 (j := p2) hin3 (g := (mkF m 8 #[.val (.ref a1), .val (.int p2), .val (.double (FP.l2d (Int64.ofInt zz))), .second, .unset, .unset] [(.double (FP.l2d (Int64.ofInt zz))), (.int p2), (.ref l0)])) rfl rfl (hb hby d9_8)
  have z4 := Nat.le_of_eq W3.size.symm
  have V3 : Arv Z h3 l0 k0 .double n (own_dl (own_up wf p2.toNatClampNeg zz)) (.double (0 : UInt64)) := own_aset Ar3 q3 S3 N3 H3 G3 W3 (by rw [own_clamp]; omega)
  have Nf3 := Fr.snoc X3 N0 g_l0
  refine Wp.st (S' := T3.setTop (mkF m 9 #[.val (.ref a1), .val (.int p2), .val (.double (FP.l2d (Int64.ofInt zz))), .second, .unset, .unset] [])) st3 ?_
  refine Wp.st (S' := T3.setTop (mkF m 10 #[.val (.ref a1), .val (.int p2), .val (.double (FP.l2d (Int64.ofInt zz))), .second, .unset, .unset] [(.int p2)])) (fun tt_ kk_ => XS.iloadN X3.here hx rfl (hb hby d9_9) rfl  kk_) ?_
  refine Wp.st (S' := T3.setTop (mkF m 12 #[.val (.ref a1), .val (.int p2), .val (.double (FP.l2d (Int64.ofInt zz))), .second, .val (.int p2), .unset] [])) (fun tt_ kk_ => XS.istore X3.here hx rfl (hb hby d9_10) rfl (l' := #[.val (.ref a1), .val (.int p2), .val (.double (FP.l2d (Int64.ofInt zz))), .second, .val (.int p2), .unset]) rfl kk_) ?_
  refine Wp.st (S' := T3.setTop (mkF m 13 #[.val (.ref a1), .val (.int p2), .val (.double (FP.l2d (Int64.ofInt zz))), .second, .val (.int p2), .unset] [(.int (1 : Int32))])) (fun tt_ kk_ => XS.iconst X3.here hx rfl (hb hby d9_12) kk_) ?_
  refine Wp.st (S' := T3.setTop (mkF m 15 #[.val (.ref a1), .val (.int p2), .val (.double (FP.l2d (Int64.ofInt zz))), .second, .val (.int p2), .val (.int (1 : Int32))] [])) (fun tt_ kk_ => XS.istore X3.here hx rfl (hb hby d9_13) rfl (l' := #[.val (.ref a1), .val (.int p2), .val (.double (FP.l2d (Int64.ofInt zz))), .second, .val (.int p2), .val (.int (1 : Int32))]) rfl kk_) ?_
  refine Wp.st (S' := T3.setTop (mkF m 17 #[.val (.ref a1), .val (.int p2), .val (.double (FP.l2d (Int64.ofInt zz))), .second, .val (.int p2), .val (.int (1 : Int32))] [(.int (1 : Int32))])) (fun tt_ kk_ => XS.iload X3.here hx rfl (hb hby d9_15) rfl  kk_) ?_
  refine Wp.st (S' := T3.setTop (mkF m 18 #[.val (.ref a1), .val (.int p2), .val (.double (FP.l2d (Int64.ofInt zz))), .second, .val (.int p2), .val (.int (1 : Int32))] [(.ref a1), (.int (1 : Int32))])) (fun tt_ kk_ => XS.aloadN X3.here hx rfl (hb hby d9_17) rfl rfl kk_) ?_
  have F5 := P4.other W3 (Or.inl n_a1_l0)
  obtain ⟨T6, X6, e6, st6⟩ := getF X3 hx hZ hown (host := "") (Or.inl (hw _ (List.mem_of_getElem? (i := 22) rfl))) Via.refl e3 F5 (g := (mkF m 18 #[.val (.ref a1), .val (.int p2), .val (.double (FP.l2d (Int64.ofInt zz))), .second, .val (.int p2), .val (.int (1 : Int32))] [(.ref a1), (.int (1 : Int32))])) rfl rfl (hb hby d9_18)
  refine Wp.st (S' := T6.setTop (mkF m 21 #[.val (.ref a1), .val (.int p2), .val (.double (FP.l2d (Int64.ofInt zz))), .second, .val (.int p2), .val (.int (1 : Int32))] [(.ref lv), (.int (1 : Int32))])) st6 ?_
  have F7 := P5.other W3 n_lv_l0
  obtain ⟨cl8, Ar8, q8, S8, N8, H8, G8⟩ := id F7
  refine Wp.st (S' := T6.setTop (mkF m 22 #[.val (.ref a1), .val (.int p2), .val (.double (FP.l2d (Int64.ofInt zz))), .second, .val (.int p2), .val (.int (1 : Int32))] [(.int (3 : Int32)), (.int (1 : Int32))])) (fun tt_ kk_ => X6.arraylength hx (by rw [e6]; exact Ar8.1) (State.isArrayOf_alike hZ.alike Ar8.2.1) (g := (mkF m 21 #[.val (.ref a1), .val (.int p2), .val (.double (FP.l2d (Int64.ofInt zz))), .second, .val (.int p2), .val (.int (1 : Int32))] [(.ref lv), (.int (1 : Int32))])) rfl rfl (hb hby d9_21) tt_ (by rw [len_of S8 N8]; exact kk_)) ?_
  refine Wp.st (S' := T6.setTop (mkF m 25 #[.val (.ref a1), .val (.int p2), .val (.double (FP.l2d (Int64.ofInt zz))), .second, .val (.int p2), .val (.int (1 : Int32))] [])) (fun tt_ kk_ => XS.icmpNo X6.here hx rfl (hb hby d9_22) rfl (tlt ((by decide) : (1 : Int32) < (3 : Int32))).2.1 kk_) ?_
  refine Wp.st (S' := T6.setTop (mkF m 27 #[.val (.ref a1), .val (.int p2), .val (.double (FP.l2d (Int64.ofInt zz))), .second, .val (.int p2), .val (.int (1 : Int32))] [(.int p2)])) (fun tt_ kk_ => XS.iload X6.here hx rfl (hb hby d9_25) rfl  kk_) ?_
  refine Wp.st (S' := T6.setTop (mkF m 29 #[.val (.ref a1), .val (.int p2), .val (.double (FP.l2d (Int64.ofInt zz))), .second, .val (.int p2), .val (.int (1 : Int32))] [(.int (64 : Int32)), (.int p2)])) (fun tt_ kk_ => XS.bipush X6.here hx rfl (hb hby d9_27) kk_) ?_
  refine Wp.st (S' := T6.setTop (mkF m 30 #[.val (.ref a1), .val (.int p2), .val (.double (FP.l2d (Int64.ofInt zz))), .second, .val (.int p2), .val (.int (1 : Int32))] [(.int (p2 / (64 : Int32)))])) (fun tt_ kk_ => XS.idiv X6.here hx rfl (hb hby d9_29) rfl (by decide) kk_) ?_
  refine Wp.st (S' := T6.setTop (mkF m 32 #[.val (.ref a1), .val (.int p2), .val (.double (FP.l2d (Int64.ofInt zz))), .second, .val (.int (p2 / (64 : Int32))), .val (.int (1 : Int32))] [])) (fun tt_ kk_ => XS.istore X6.here hx rfl (hb hby d9_30) rfl (l' := #[.val (.ref a1), .val (.int p2), .val (.double (FP.l2d (Int64.ofInt zz))), .second, .val (.int (p2 / (64 : Int32))), .val (.int (1 : Int32))]) rfl kk_) ?_
  refine Wp.st (S' := T6.setTop (mkF m 33 #[.val (.ref a1), .val (.int p2), .val (.double (FP.l2d (Int64.ofInt zz))), .second, .val (.int (p2 / (64 : Int32))), .val (.int (1 : Int32))] [(.ref a1)])) (fun tt_ kk_ => XS.aloadN X6.here hx rfl (hb hby d9_32) rfl rfl kk_) ?_
  refine Wp.st (S' := T6.setTop (mkF m 35 #[.val (.ref a1), .val (.int p2), .val (.double (FP.l2d (Int64.ofInt zz))), .second, .val (.int (p2 / (64 : Int32))), .val (.int (1 : Int32))] [(.int (1 : Int32)), (.ref a1)])) (fun tt_ kk_ => XS.iload X6.here hx rfl (hb hby d9_33) rfl  kk_) ?_
  refine Wp.st (S' := T6.setTop (mkF m 37 #[.val (.ref a1), .val (.int p2), .val (.double (FP.l2d (Int64.ofInt zz))), .second, .val (.int (p2 / (64 : Int32))), .val (.int (1 : Int32))] [(.int (p2 / (64 : Int32))), (.int (1 : Int32)), (.ref a1)])) (fun tt_ kk_ => XS.iload X6.here hx rfl (hb hby d9_35) rfl  kk_) ?_
  have F10 := P7.other W3 (Ne.symm n_l0_l1)
  have F11 := P3.wr W3
  obtain ⟨cq9, q9, q9'⟩ := (F11).cell
  obtain ⟨vv9, _, ⟨T9, L9, k9, n9⟩, -, X9, ⟨Lc9, hQ9, l9, y9, z9⟩, st9⟩ := X6.privateBack hx (y := (⟨"com/example/dags_over_clouds/dagsoverclouds/plan/Tally", "addUp", "(II)V"⟩ : MethodName)) hown (mvT hZ (hw _ (List.mem_of_getElem? (i := 35) rfl))) (mvT hZ (hw _ (List.mem_of_getElem? (i := 36) rfl))) (mvT hZ (own_selP (hw _ (List.mem_of_getElem? (i := 45) rfl)) (hw _ (List.mem_of_getElem? (i := 36) rfl)) (hw _ (List.mem_of_getElem? (i := 37) rfl)))) (Cond.privateMethod_at (mvP hZ (hw _ (List.mem_of_getElem? (i := 37) rfl)) (args := #[]))) (mvT hZ (hw _ (List.mem_of_getElem? (i := 38) rfl))) (by decide) (backOf (W := 0) (rmAdd31 l Z a0 hw [] a1 (p2 / (64 : Int32)) lv l0 l1 (.ref l2) kl k0 k1 n rr (own_up wf p2.toNatClampNeg zz) uf h3 n0 (Nat.le_trans Z0 z4) g_l1 F5 F7 V3 F10 ((by first | assumption | exact own_b_of (by assumption) | (repeat first | exact own_b_z | assumption | refine own_b_up ?_ _ (own_R_b (by assumption) _ _))) : own_b (own_up wf p2.toNatClampNeg zz)) ((by assumption) : own_hr (p2 / (64 : Int32)) n rr)) hZ (hw _ (List.mem_of_getElem? (i := 38) rfl)) (hw _ (List.mem_of_getElem? (i := 9) rfl)) (by decide) (by decide)) (g := (mkF m 37 #[.val (.ref a1), .val (.int p2), .val (.double (FP.l2d (Int64.ofInt zz))), .second, .val (.int (p2 / (64 : Int32))), .val (.int (1 : Int32))] [(.int (p2 / (64 : Int32))), (.int (1 : Int32)), (.ref a1)])) rfl (by rw [hml]; rfl) (Steps.refl _) (a := a1) (by rw [e6]; exact q9) q9' (argsL := [(.int (1 : Int32)), (.int (p2 / (64 : Int32)))]) (rest := []) (lenOf pd_1 rfl) rfl (by show 2 * 0 + _ ≤ _; exact Nat.le_of_eq rfl) (hb hby d9_37) (fun _ _ => ⟨rfl, e6, (by decide : 0 + 0 ≤ _), (by decide : 0 + 0 ≤ _)⟩)
  dsimp only [Pt.U, Pt.locs, Pt.cells, Pt.slots] at X9 l9 y9 z9 st9 hQ9
  subst l9 y9 z9
  obtain ⟨rfl, Nq9, K9, P9_0⟩ := hQ9
  have N9 := Fr.app Nf3 Nq9
  have z12 := K9.1
  have e9 : T9.heap = T9.heap := rfl
  refine Wp.tr (S' := T9.setTop (mkF m 40 #[.val (.ref a1), .val (.int p2), .val (.double (FP.l2d (Int64.ofInt zz))), .second, .val (.int (p2 / (64 : Int32))), .val (.int (1 : Int32))] [])) st9 ?_
  refine Wp.st (S' := T9.setTop (mkF m 43 #[.val (.ref a1), .val (.int p2), .val (.double (FP.l2d (Int64.ofInt zz))), .second, .val (.int (p2 / (64 : Int32))), .val (.int ((1 : Int32) + (1 : Int32)))] [])) (fun tt_ kk_ => XS.iinc X9.here hx rfl (hb hby d9_40) rfl (l' := #[.val (.ref a1), .val (.int p2), .val (.double (FP.l2d (Int64.ofInt zz))), .second, .val (.int (p2 / (64 : Int32))), .val (.int ((1 : Int32) + (1 : Int32)))]) rfl kk_) ?_
  rw [(by decide : ((1 : Int32) + (1 : Int32)) = (2 : Int32))]
  refine Wp.st (S' := T9.setTop (mkF m 15 #[.val (.ref a1), .val (.int p2), .val (.double (FP.l2d (Int64.ofInt zz))), .second, .val (.int (p2 / (64 : Int32))), .val (.int (2 : Int32))] [])) (fun tt_ kk_ => XS.goto X9.here hx rfl (pc0 := 43) (pc' := 15) rfl (hb hby d9_43) (by decide) (by decide) kk_) ?_
  refine Wp.st (S' := T9.setTop (mkF m 17 #[.val (.ref a1), .val (.int p2), .val (.double (FP.l2d (Int64.ofInt zz))), .second, .val (.int (p2 / (64 : Int32))), .val (.int (2 : Int32))] [(.int (2 : Int32))])) (fun tt_ kk_ => XS.iload X9.here hx rfl (hb hby d9_15) rfl  kk_) ?_
  refine Wp.st (S' := T9.setTop (mkF m 18 #[.val (.ref a1), .val (.int p2), .val (.double (FP.l2d (Int64.ofInt zz))), .second, .val (.int (p2 / (64 : Int32))), .val (.int (2 : Int32))] [(.ref a1), (.int (2 : Int32))])) (fun tt_ kk_ => XS.aloadN X9.here hx rfl (hb hby d9_17) rfl rfl kk_) ?_
  have F13 := F5.keep K9 (ninS n_a1_l1 nin0)
  obtain ⟨T14, X14, e14, st14⟩ := getF X9 hx hZ hown (host := "") (Or.inl (hw _ (List.mem_of_getElem? (i := 22) rfl))) Via.refl e9 F13 (g := (mkF m 18 #[.val (.ref a1), .val (.int p2), .val (.double (FP.l2d (Int64.ofInt zz))), .second, .val (.int (p2 / (64 : Int32))), .val (.int (2 : Int32))] [(.ref a1), (.int (2 : Int32))])) rfl rfl (hb hby d9_18)
  refine Wp.st (S' := T14.setTop (mkF m 21 #[.val (.ref a1), .val (.int p2), .val (.double (FP.l2d (Int64.ofInt zz))), .second, .val (.int (p2 / (64 : Int32))), .val (.int (2 : Int32))] [(.ref lv), (.int (2 : Int32))])) st14 ?_
  have F15 := F7.keep K9 (ninS n_lv_l1 nin0)
  obtain ⟨cl16, Ar16, q16, S16, N16, H16, G16⟩ := id F15
  refine Wp.st (S' := T14.setTop (mkF m 22 #[.val (.ref a1), .val (.int p2), .val (.double (FP.l2d (Int64.ofInt zz))), .second, .val (.int (p2 / (64 : Int32))), .val (.int (2 : Int32))] [(.int (3 : Int32)), (.int (2 : Int32))])) (fun tt_ kk_ => X14.arraylength hx (by rw [e14]; exact Ar16.1) (State.isArrayOf_alike hZ.alike Ar16.2.1) (g := (mkF m 21 #[.val (.ref a1), .val (.int p2), .val (.double (FP.l2d (Int64.ofInt zz))), .second, .val (.int (p2 / (64 : Int32))), .val (.int (2 : Int32))] [(.ref lv), (.int (2 : Int32))])) rfl rfl (hb hby d9_21) tt_ (by rw [len_of S16 N16]; exact kk_)) ?_
  refine Wp.st (S' := T14.setTop (mkF m 25 #[.val (.ref a1), .val (.int p2), .val (.double (FP.l2d (Int64.ofInt zz))), .second, .val (.int (p2 / (64 : Int32))), .val (.int (2 : Int32))] [])) (fun tt_ kk_ => XS.icmpNo X14.here hx rfl (hb hby d9_22) rfl (tlt ((by decide) : (2 : Int32) < (3 : Int32))).2.1 kk_) ?_
  refine Wp.st (S' := T14.setTop (mkF m 27 #[.val (.ref a1), .val (.int p2), .val (.double (FP.l2d (Int64.ofInt zz))), .second, .val (.int (p2 / (64 : Int32))), .val (.int (2 : Int32))] [(.int (p2 / (64 : Int32)))])) (fun tt_ kk_ => XS.iload X14.here hx rfl (hb hby d9_25) rfl  kk_) ?_
  refine Wp.st (S' := T14.setTop (mkF m 29 #[.val (.ref a1), .val (.int p2), .val (.double (FP.l2d (Int64.ofInt zz))), .second, .val (.int (p2 / (64 : Int32))), .val (.int (2 : Int32))] [(.int (64 : Int32)), (.int (p2 / (64 : Int32)))])) (fun tt_ kk_ => XS.bipush X14.here hx rfl (hb hby d9_27) kk_) ?_
  refine Wp.st (S' := T14.setTop (mkF m 30 #[.val (.ref a1), .val (.int p2), .val (.double (FP.l2d (Int64.ofInt zz))), .second, .val (.int (p2 / (64 : Int32))), .val (.int (2 : Int32))] [(.int ((p2 / (64 : Int32)) / (64 : Int32)))])) (fun tt_ kk_ => XS.idiv X14.here hx rfl (hb hby d9_29) rfl (by decide) kk_) ?_
  rw [(hq : ((p2 / (64 : Int32)) / (64 : Int32)) = (0 : Int32))]
  refine Wp.st (S' := T14.setTop (mkF m 32 #[.val (.ref a1), .val (.int p2), .val (.double (FP.l2d (Int64.ofInt zz))), .second, .val (.int (0 : Int32)), .val (.int (2 : Int32))] [])) (fun tt_ kk_ => XS.istore X14.here hx rfl (hb hby d9_30) rfl (l' := #[.val (.ref a1), .val (.int p2), .val (.double (FP.l2d (Int64.ofInt zz))), .second, .val (.int (0 : Int32)), .val (.int (2 : Int32))]) rfl kk_) ?_
  refine Wp.st (S' := T14.setTop (mkF m 33 #[.val (.ref a1), .val (.int p2), .val (.double (FP.l2d (Int64.ofInt zz))), .second, .val (.int (0 : Int32)), .val (.int (2 : Int32))] [(.ref a1)])) (fun tt_ kk_ => XS.aloadN X14.here hx rfl (hb hby d9_32) rfl rfl kk_) ?_
  refine Wp.st (S' := T14.setTop (mkF m 35 #[.val (.ref a1), .val (.int p2), .val (.double (FP.l2d (Int64.ofInt zz))), .second, .val (.int (0 : Int32)), .val (.int (2 : Int32))] [(.int (2 : Int32)), (.ref a1)])) (fun tt_ kk_ => XS.iload X14.here hx rfl (hb hby d9_33) rfl  kk_) ?_
  refine Wp.st (S' := T14.setTop (mkF m 37 #[.val (.ref a1), .val (.int p2), .val (.double (FP.l2d (Int64.ofInt zz))), .second, .val (.int (0 : Int32)), .val (.int (2 : Int32))] [(.int (0 : Int32)), (.int (2 : Int32)), (.ref a1)])) (fun tt_ kk_ => XS.iload X14.here hx rfl (hb hby d9_35) rfl  kk_) ?_
  have F18 := P8.other W3 (Ne.symm n_l0_l2)
  have F19 := F18.keep K9 (ninS (Ne.symm n_l1_l2) nin0)
  have F20 := F11.keep K9
  obtain ⟨cq17, q17, q17'⟩ := (F20).cell
  obtain ⟨vv17, _, ⟨T17, L17, k17, n17⟩, -, X17, ⟨Lc17, hQ17, l17, y17, z17⟩, st17⟩ := X14.privateBack hx (y := (⟨"com/example/dags_over_clouds/dagsoverclouds/plan/Tally", "addUp", "(II)V"⟩ : MethodName)) hown (mvT hZ (hw _ (List.mem_of_getElem? (i := 35) rfl))) (mvT hZ (hw _ (List.mem_of_getElem? (i := 36) rfl))) (mvT hZ (own_selP (hw _ (List.mem_of_getElem? (i := 45) rfl)) (hw _ (List.mem_of_getElem? (i := 36) rfl)) (hw _ (List.mem_of_getElem? (i := 37) rfl)))) (Cond.privateMethod_at (mvP hZ (hw _ (List.mem_of_getElem? (i := 37) rfl)) (args := #[]))) (mvT hZ (hw _ (List.mem_of_getElem? (i := 38) rfl))) (by decide) (backOf (W := 0) (rmAdd32 l Z a0 hw [] a1 (0 : Int32) lv (.ref l0) l1 l2 kl k1 k2 rr (1 : Int32) (own_up uf (p2 / (64 : Int32)).toNatClampNeg (own_R (own_up wf p2.toNatClampNeg zz) n.toNatClampNeg (p2 / (64 : Int32)).toNatClampNeg)) tf T9.heap n0 (Nat.le_trans Z0 (Nat.le_trans z4 z12)) g_l2 F13 F15 P9_0 F19 ((by first | assumption | exact own_b_of (by assumption) | (repeat first | exact own_b_z | assumption | refine own_b_up ?_ _ (own_R_b (by assumption) _ _))) : own_b (own_up uf (p2 / (64 : Int32)).toNatClampNeg (own_R (own_up wf p2.toNatClampNeg zz) n.toNatClampNeg (p2 / (64 : Int32)).toNatClampNeg))) ((by assumption) : own_hr (0 : Int32) rr (1 : Int32))) hZ (hw _ (List.mem_of_getElem? (i := 38) rfl)) (hw _ (List.mem_of_getElem? (i := 9) rfl)) (by decide) (by decide)) (g := (mkF m 37 #[.val (.ref a1), .val (.int p2), .val (.double (FP.l2d (Int64.ofInt zz))), .second, .val (.int (0 : Int32)), .val (.int (2 : Int32))] [(.int (0 : Int32)), (.int (2 : Int32)), (.ref a1)])) rfl (by rw [hml]; rfl) (Steps.refl _) (a := a1) (by rw [e14]; exact q17) q17' (argsL := [(.int (2 : Int32)), (.int (0 : Int32))]) (rest := []) (lenOf pd_1 rfl) rfl (by show 2 * 0 + _ ≤ _; exact Nat.le_of_eq rfl) (hb hby d9_37) (fun _ _ => ⟨rfl, e14, (by decide : 0 + 0 ≤ _), (by decide : 0 + 0 ≤ _)⟩)
  dsimp only [Pt.U, Pt.locs, Pt.cells, Pt.slots] at X17 l17 y17 z17 st17 hQ17
  subst l17 y17 z17
  obtain ⟨rfl, Nq17, K17, P17_0⟩ := hQ17
  have N17 := Fr.app N9 Nq17
  have z21 := K17.1
  have e17 : T17.heap = T17.heap := rfl
  refine Wp.tr (S' := T17.setTop (mkF m 40 #[.val (.ref a1), .val (.int p2), .val (.double (FP.l2d (Int64.ofInt zz))), .second, .val (.int (0 : Int32)), .val (.int (2 : Int32))] [])) st17 ?_
  refine Wp.st (S' := T17.setTop (mkF m 43 #[.val (.ref a1), .val (.int p2), .val (.double (FP.l2d (Int64.ofInt zz))), .second, .val (.int (0 : Int32)), .val (.int ((2 : Int32) + (1 : Int32)))] [])) (fun tt_ kk_ => XS.iinc X17.here hx rfl (hb hby d9_40) rfl (l' := #[.val (.ref a1), .val (.int p2), .val (.double (FP.l2d (Int64.ofInt zz))), .second, .val (.int (0 : Int32)), .val (.int ((2 : Int32) + (1 : Int32)))]) rfl kk_) ?_
  rw [(by decide : ((2 : Int32) + (1 : Int32)) = (3 : Int32))]
  refine Wp.st (S' := T17.setTop (mkF m 15 #[.val (.ref a1), .val (.int p2), .val (.double (FP.l2d (Int64.ofInt zz))), .second, .val (.int (0 : Int32)), .val (.int (3 : Int32))] [])) (fun tt_ kk_ => XS.goto X17.here hx rfl (pc0 := 43) (pc' := 15) rfl (hb hby d9_43) (by decide) (by decide) kk_) ?_
  refine Wp.st (S' := T17.setTop (mkF m 17 #[.val (.ref a1), .val (.int p2), .val (.double (FP.l2d (Int64.ofInt zz))), .second, .val (.int (0 : Int32)), .val (.int (3 : Int32))] [(.int (3 : Int32))])) (fun tt_ kk_ => XS.iload X17.here hx rfl (hb hby d9_15) rfl  kk_) ?_
  refine Wp.st (S' := T17.setTop (mkF m 18 #[.val (.ref a1), .val (.int p2), .val (.double (FP.l2d (Int64.ofInt zz))), .second, .val (.int (0 : Int32)), .val (.int (3 : Int32))] [(.ref a1), (.int (3 : Int32))])) (fun tt_ kk_ => XS.aloadN X17.here hx rfl (hb hby d9_17) rfl rfl kk_) ?_
  have F22 := F13.keep K17 (ninS n_a1_l2 nin0)
  obtain ⟨T23, X23, e23, st23⟩ := getF X17 hx hZ hown (host := "") (Or.inl (hw _ (List.mem_of_getElem? (i := 22) rfl))) Via.refl e17 F22 (g := (mkF m 18 #[.val (.ref a1), .val (.int p2), .val (.double (FP.l2d (Int64.ofInt zz))), .second, .val (.int (0 : Int32)), .val (.int (3 : Int32))] [(.ref a1), (.int (3 : Int32))])) rfl rfl (hb hby d9_18)
  refine Wp.st (S' := T23.setTop (mkF m 21 #[.val (.ref a1), .val (.int p2), .val (.double (FP.l2d (Int64.ofInt zz))), .second, .val (.int (0 : Int32)), .val (.int (3 : Int32))] [(.ref lv), (.int (3 : Int32))])) st23 ?_
  have F24 := F15.keep K17 (ninS n_lv_l2 nin0)
  obtain ⟨cl25, Ar25, q25, S25, N25, H25, G25⟩ := id F24
  refine Wp.st (S' := T23.setTop (mkF m 22 #[.val (.ref a1), .val (.int p2), .val (.double (FP.l2d (Int64.ofInt zz))), .second, .val (.int (0 : Int32)), .val (.int (3 : Int32))] [(.int (3 : Int32)), (.int (3 : Int32))])) (fun tt_ kk_ => X23.arraylength hx (by rw [e23]; exact Ar25.1) (State.isArrayOf_alike hZ.alike Ar25.2.1) (g := (mkF m 21 #[.val (.ref a1), .val (.int p2), .val (.double (FP.l2d (Int64.ofInt zz))), .second, .val (.int (0 : Int32)), .val (.int (3 : Int32))] [(.ref lv), (.int (3 : Int32))])) rfl rfl (hb hby d9_21) tt_ (by rw [len_of S25 N25]; exact kk_)) ?_
  refine Wp.st (S' := T23.setTop (mkF m 46 #[.val (.ref a1), .val (.int p2), .val (.double (FP.l2d (Int64.ofInt zz))), .second, .val (.int (0 : Int32)), .val (.int (3 : Int32))] [])) (fun tt_ kk_ => XS.icmpYes X23.here hx rfl (pc0 := 22) (pc' := 46) rfl (hb hby d9_22) rfl (flt ((by decide) : ¬ ((3 : Int32) < (3 : Int32)))).2.1 (by decide) (by decide) kk_) ?_
  have K26 := Keep.refl h0 [l0, l1, l2]
  have K27 := K26.wr W3 (Or.inl (List.mem_of_getElem? (i := 0) rfl))
  have K28 := K27.trans K9 (allS (Or.inl (List.mem_of_getElem? (i := 1) rfl)) all0)
  have K29 := K28.trans K17 (allS (Or.inl (List.mem_of_getElem? (i := 2) rfl)) all0)
  have F30 := V3.keep K9 (ninS n_l0_l1 nin0)
  have F31 := F30.keep K17 (ninS n_l0_l2 nin0)
  have F32 := P9_0.keep K17 (ninS n_l1_l2 nin0)
  exact Wp.ret X23 hlk (v := none) (fun _ => rfl) (fun fs hr => X23.returnOut hx Bd.returns (hb hby d9_46) hr) (by decide) (by decide) (show Q_rmSet3 Z a1 p2 (FP.l2d (Int64.ofInt zz)) zz lv l0 l1 l2 kl k0 k1 k2 n rr wf uf tf h0 n0 _ T23.heap _ by rw [e23]; exact ⟨rfl, N17, K29, F31, F32, P17_0⟩)
theorem pn_2 : plainName "com/example/dags_over_clouds/dagsoverclouds/plan/Tally" = true := by first | (simp [plainName, overriddenIn]; done) | decide +kernel
theorem d2_0 : decode prog_71_method_1_code 0 = .ok (.aload_n 0, 1) := by decide +kernel
theorem d2_1 : decode prog_71_method_1_code 1 = .ok (.invokespecial 1, 3) := by decide +kernel
theorem d2_4 : decode prog_71_method_1_code 4 = .ok (.iconst 1, 1) := by decide +kernel
theorem d2_5 : decode prog_71_method_1_code 5 = .ok (.istore_n 2, 1) := by decide +kernel
theorem d2_6 : decode prog_71_method_1_code 6 = .ok (.aload_n 1, 1) := by decide +kernel
theorem d2_7 : decode prog_71_method_1_code 7 = .ok (.arraylength, 1) := by decide +kernel
theorem d2_8 : decode prog_71_method_1_code 8 = .ok (.istore_n 3, 1) := by decide +kernel
theorem d2_9 : decode prog_71_method_1_code 9 = .ok (.iload_n 3, 1) := by decide +kernel
theorem d2_10 : decode prog_71_method_1_code 10 = .ok (.iconst 1, 1) := by decide +kernel
theorem d2_11 : decode prog_71_method_1_code 11 = .ok (.if_icmp .le 14, 3) := by decide +kernel
theorem d2_25 : decode prog_71_method_1_code 25 = .ok (.iload_n 2, 1) := by decide +kernel
theorem d2_26 : decode prog_71_method_1_code 26 = .ok (.iconst 2, 1) := by decide +kernel
theorem d2_27 : decode prog_71_method_1_code 27 = .ok (.invokestatic 13, 3) := by decide +kernel
theorem d2_30 : decode prog_71_method_1_code 30 = .ok (.istore_n 2, 1) := by decide +kernel
theorem d2_31 : decode prog_71_method_1_code 31 = .ok (.aload_n 0, 1) := by decide +kernel
theorem d2_32 : decode prog_71_method_1_code 32 = .ok (.iload_n 2, 1) := by decide +kernel
theorem d2_33 : decode prog_71_method_1_code 33 = .ok (.anewarray 19, 3) := by decide +kernel
theorem d2_36 : decode prog_71_method_1_code 36 = .ok (.putfield 21, 3) := by decide +kernel
theorem d2_39 : decode prog_71_method_1_code 39 = .ok (.aload_n 0, 1) := by decide +kernel
theorem d2_40 : decode prog_71_method_1_code 40 = .ok (.getfield 21, 3) := by decide +kernel
theorem d2_43 : decode prog_71_method_1_code 43 = .ok (.iconst 0, 1) := by decide +kernel
theorem d2_44 : decode prog_71_method_1_code 44 = .ok (.aload_n 1, 1) := by decide +kernel
theorem d2_45 : decode prog_71_method_1_code 45 = .ok (.invokevirtual 25, 3) := by decide +kernel
theorem d2_48 : decode prog_71_method_1_code 48 = .ok (.checkcast 19, 3) := by decide +kernel
theorem d2_51 : decode prog_71_method_1_code 51 = .ok (.aastore, 1) := by decide +kernel
theorem d2_52 : decode prog_71_method_1_code 52 = .ok (.iconst 1, 1) := by decide +kernel
theorem d2_53 : decode prog_71_method_1_code 53 = .ok (.istore_n 3, 1) := by decide +kernel
theorem d2_54 : decode prog_71_method_1_code 54 = .ok (.iload_n 3, 1) := by decide +kernel
theorem d2_55 : decode prog_71_method_1_code 55 = .ok (.iload_n 2, 1) := by decide +kernel
theorem d2_56 : decode prog_71_method_1_code 56 = .ok (.if_icmp .ge 57, 3) := by decide +kernel
theorem d2_59 : decode prog_71_method_1_code 59 = .ok (.aload_n 0, 1) := by decide +kernel
theorem d2_60 : decode prog_71_method_1_code 60 = .ok (.getfield 21, 3) := by decide +kernel
theorem d2_63 : decode prog_71_method_1_code 63 = .ok (.iload_n 3, 1) := by decide +kernel
theorem d2_64 : decode prog_71_method_1_code 64 = .ok (.aload_n 0, 1) := by decide +kernel
theorem d2_65 : decode prog_71_method_1_code 65 = .ok (.getfield 21, 3) := by decide +kernel
theorem d2_68 : decode prog_71_method_1_code 68 = .ok (.iload_n 3, 1) := by decide +kernel
theorem d2_69 : decode prog_71_method_1_code 69 = .ok (.iconst 1, 1) := by decide +kernel
theorem d2_70 : decode prog_71_method_1_code 70 = .ok (.isub, 1) := by decide +kernel
theorem d2_71 : decode prog_71_method_1_code 71 = .ok (.aaload, 1) := by decide +kernel
theorem d2_72 : decode prog_71_method_1_code 72 = .ok (.arraylength, 1) := by decide +kernel
theorem d2_73 : decode prog_71_method_1_code 73 = .ok (.invokestatic 7, 3) := by decide +kernel
theorem pd_2 : parseMethodDescriptor "(I)I" = some ⟨[.int], some .int⟩ := by decide +kernel
theorem d2_76 : decode prog_71_method_1_code 76 = .ok (.newarray .double, 2) := by decide +kernel
theorem d2_78 : decode prog_71_method_1_code 78 = .ok (.aastore, 1) := by decide +kernel
theorem d2_79 : decode prog_71_method_1_code 79 = .ok (.iconst 0, 1) := by decide +kernel
theorem d2_80 : decode prog_71_method_1_code 80 = .ok (.istore 4, 2) := by decide +kernel
theorem d2_82 : decode prog_71_method_1_code 82 = .ok (.iload 4, 2) := by decide +kernel
theorem d2_84 : decode prog_71_method_1_code 84 = .ok (.aload_n 0, 1) := by decide +kernel
theorem d2_85 : decode prog_71_method_1_code 85 = .ok (.getfield 21, 3) := by decide +kernel
theorem d2_88 : decode prog_71_method_1_code 88 = .ok (.iload_n 3, 1) := by decide +kernel
theorem d2_89 : decode prog_71_method_1_code 89 = .ok (.aaload, 1) := by decide +kernel
theorem d2_90 : decode prog_71_method_1_code 90 = .ok (.arraylength, 1) := by decide +kernel
theorem d2_91 : decode prog_71_method_1_code 91 = .ok (.if_icmp .ge 16, 3) := by decide +kernel
theorem d2_94 : decode prog_71_method_1_code 94 = .ok (.aload_n 0, 1) := by decide +kernel
theorem d2_95 : decode prog_71_method_1_code 95 = .ok (.iload_n 3, 1) := by decide +kernel
theorem d2_96 : decode prog_71_method_1_code 96 = .ok (.iload 4, 2) := by decide +kernel
theorem d2_98 : decode prog_71_method_1_code 98 = .ok (.invokevirtual 29, 3) := by decide +kernel
theorem d2_101 : decode prog_71_method_1_code 101 = .ok (.iinc 4 1, 3) := by decide +kernel
theorem d2_104 : decode prog_71_method_1_code 104 = .ok (.goto (-22), 3) := by decide +kernel
theorem d2_107 : decode prog_71_method_1_code 107 = .ok (.iinc 3 1, 3) := by decide +kernel
theorem d2_110 : decode prog_71_method_1_code 110 = .ok (.goto (-56), 3) := by decide +kernel
theorem d2_113 : decode prog_71_method_1_code 113 = .ok (.return_, 1) := by decide +kernel
theorem ef_rmInitA1 (m : MethodId) (a1 : Addr) (a2 : Addr) : entryFrame m #[(.ref a1), (.ref a2)] 5 = mkF m 0 #[.val (.ref a1), .val (.ref a2), .unset, .unset, .unset] [] := by first | (simp [entryFrame, mkF, argsToLocals, Value.category]; done) | rfl
def Q_rmInitA1 (Z : State) (a1 : Addr) (a2 : Addr) (kt : ClassId) (n : Int32) (wf : Nat → Int) (h0 : Heap) (n0 : Nat) (v : Option Value) (h : Heap) (L : List Loc) : Prop := ∃ lv : Addr, ∃ l0 : Addr, ∃ l1 : Addr, ∃ kl : ClassId, ∃ k0 : ClassId, ∃ k1 : ClassId, (v = none) ∧ (Fr n0 L) ∧ (Keep h0 h [a1]) ∧ (h0.size ≤ lv) ∧ (h0.size ≤ l0) ∧ (h0.size ≤ l1) ∧ (Exa Z h a1 "com/example/dags_over_clouds/dagsoverclouds/plan/Tally") ∧ (Fld Z h a1 "com/example/dags_over_clouds/dagsoverclouds/plan/Tally" "levels" "[[D" (.ref lv)) ∧ (Arv Z h lv kl (.array .double) (2 : Int32) [(.ref l0), (.ref l1)] .null) ∧ (Arv Z h l0 k0 .double n (own_dl wf) (.double (0 : UInt64))) ∧ (Arv Z h l1 k1 .double (1 : Int32) (own_dl (own_up own_z (0 : Int32).toNatClampNeg (own_R wf n.toNatClampNeg (0 : Int32).toNatClampNeg))) (.double (0 : UInt64))) ∧ (lv ≠ l0) ∧ (lv ≠ l1) ∧ (l0 ≠ l1)
set_option maxRecDepth 65536 in
set_option maxHeartbeats 40000000 in
theorem rmInitA1 (l : Launch) (Z : State) (a0 : Array Value) (hw : ∀ d ∈ tables_1, d.before a0 Z = true) (ws : List Jvm.Cond) (a1 : Addr) (a2 : Addr) (kt : ClassId) (n : Int32) (wf : Nat → Int) (h0 : Heap) (n0 : Nat) (Z0 : n0 ≤ h0.size) (g_a1 : n0 ≤ a1) (P1 : Exa Z h0 a1 "com/example/dags_over_clouds/dagsoverclouds/plan/Tally") (P2 : Fld Z h0 a1 "com/example/dags_over_clouds/dagsoverclouds/plan/Tally" "levels" "[[D" .null) (P3 : Arv Z h0 a2 kt .double n (own_dl wf) (.double (0 : UInt64))) (P4 : Exa Z h0 a2 "[D") (hb0 : own_b0 wf) (hn : n = (1 : Int32)) (n_a1_a2 : a1 ≠ a2) :
    MetFree l (⟨"com/example/dags_over_clouds/dagsoverclouds/plan/Tally", "<init>", "([D)V"⟩ : MethodName) (head1 (Jvm.Cond.code (⟨"com/example/dags_over_clouds/dagsoverclouds/plan/Tally", "<init>", "([D)V"⟩ : MethodName) prog_71_method_1_code 5 none :: ws) ({ frames := 2, cells := 3, slots := 132, locals := 33 } : Room)) (fun a U => a = #[(.ref a1), (.ref a2)] ∧ Z.Warmed39 U.vm ∧ U.heap = h0) (fun _ _ _ _ _ => True) (fun _ U o U' => ∃ v L, o = .returned v ∧ Q_rmInitA1 Z a1 a2 kt n wf h0 n0 v U'.heap L ∧ FrameEnd U o U' L ({ frames := 2, cells := 3, slots := 132, locals := 33 } : Room).cells ({ frames := 2, cells := 3, slots := 132, locals := 33 } : Room).slots) := by
  refine MetFree.of_bodySF (plainFor_of_name pn_2) hisR ?_
  intro p e s m args below meth c s₁ Bd hml0 hP hK
  obtain ⟨rfl, hZ, hh⟩ := hP
  have hx := Bd.exec
  have hby := Bd.bytes
  have hml : c.maxLocals = 5 := hml0
  have hown : s.vm.findClass "com/example/dags_over_clouds/dagsoverclouds/plan/Tally" = some m.cls := findClass_of_methodNamed Bd.named
  have hnm := (name_of_methodNamed Bd.named Bd.method).1
  have hlk := Bd.notSynchronized
  have X0 : Stand p l e ({ frames := 2, cells := 3, slots := 132, locals := 33 } : Room) s m #[(.ref a1), (.ref a2)] below meth c s₁ [] 0 0 := Stand.of_body Bd
  have e0 : s₁.heap = h0 := by rw [← hh, Bd.state]; rfl
  have N0 := Fr.nil n0
  refine Wp.goal (Post := (fun o U' => ∃ v L, o = .returned v ∧ Q_rmInitA1 Z a1 a2 kt n wf h0 n0 v U'.heap L ∧ FrameEnd s o U' L ({ frames := 2, cells := 3, slots := 132, locals := 33 } : Room).cells ({ frames := 2, cells := 3, slots := 132, locals := 33 } : Room).slots)) (Wp.st (S' := s₁.setTop (mkF m 0 #[.val (.ref a1), .val (.ref a2), .unset, .unset, .unset] [])) (fun tt_ kk_ => castTop (ef_rmInitA1 m a1 a2 ) kk_) ?_)
  have hr_0 : own_hr (0 : Int32) n (1 : Int32) := by rcases hn with rfl <;> (unfold own_hr; decide)
  have hru : own_runs n = (1 : Int32) := (by rcases hn with rfl <;> decide)
  have hcap : n.toNatClampNeg ≤ 129 := (by rcases hn with rfl <;> decide)
  refine Wp.st (S' := s₁.setTop (mkF m 1 #[.val (.ref a1), .val (.ref a2), .unset, .unset, .unset] [(.ref a1)])) (fun tt_ kk_ => XS.aloadN X0.here hx rfl (hb hby d2_0) rfl rfl kk_) ?_
  obtain ⟨T1, X1, e1, st1⟩ := initO X0 hx hZ hown (hw _ (List.mem_of_getElem? (i := 13) rfl)) (hw _ (List.mem_of_getElem? (i := 14) rfl)) (hw _ (List.mem_of_getElem? (i := 15) rfl)) e0 (g := (mkF m 1 #[.val (.ref a1), .val (.ref a2), .unset, .unset, .unset] [(.ref a1)])) rfl (by rw [hml]; rfl) rfl (hb hby d2_1) (by decide) (W := 0) (by show 2 * 0 + _ ≤ _; exact Nat.le_of_eq rfl) (by decide)
  refine Wp.st (S' := T1.setTop (mkF m 4 #[.val (.ref a1), .val (.ref a2), .unset, .unset, .unset] [])) st1 ?_
  refine Wp.st (S' := T1.setTop (mkF m 5 #[.val (.ref a1), .val (.ref a2), .unset, .unset, .unset] [(.int (1 : Int32))])) (fun tt_ kk_ => XS.iconst X1.here hx rfl (hb hby d2_4) kk_) ?_
  refine Wp.st (S' := T1.setTop (mkF m 6 #[.val (.ref a1), .val (.ref a2), .val (.int (1 : Int32)), .unset, .unset] [])) (fun tt_ kk_ => XS.istoreN X1.here hx rfl (hb hby d2_5) rfl (l' := #[.val (.ref a1), .val (.ref a2), .val (.int (1 : Int32)), .unset, .unset]) rfl kk_) ?_
  refine Wp.st (S' := T1.setTop (mkF m 7 #[.val (.ref a1), .val (.ref a2), .val (.int (1 : Int32)), .unset, .unset] [(.ref a2)])) (fun tt_ kk_ => XS.aloadN X1.here hx rfl (hb hby d2_6) rfl rfl kk_) ?_
  obtain ⟨cl2, Ar2, q2, S2, N2, H2, G2⟩ := id P3
  refine Wp.st (S' := T1.setTop (mkF m 8 #[.val (.ref a1), .val (.ref a2), .val (.int (1 : Int32)), .unset, .unset] [(.int n)])) (fun tt_ kk_ => X1.arraylength hx (by rw [e1]; exact Ar2.1) (State.isArrayOf_alike hZ.alike Ar2.2.1) (g := (mkF m 7 #[.val (.ref a1), .val (.ref a2), .val (.int (1 : Int32)), .unset, .unset] [(.ref a2)])) rfl rfl (hb hby d2_7) tt_ (by rw [len_of S2 N2]; exact kk_)) ?_
  refine Wp.st (S' := T1.setTop (mkF m 9 #[.val (.ref a1), .val (.ref a2), .val (.int (1 : Int32)), .val (.int n), .unset] [])) (fun tt_ kk_ => XS.istoreN X1.here hx rfl (hb hby d2_8) rfl (l' := #[.val (.ref a1), .val (.ref a2), .val (.int (1 : Int32)), .val (.int n), .unset]) rfl kk_) ?_
  refine Wp.st (S' := T1.setTop (mkF m 10 #[.val (.ref a1), .val (.ref a2), .val (.int (1 : Int32)), .val (.int n), .unset] [(.int n)])) (fun tt_ kk_ => XS.iloadN X1.here hx rfl (hb hby d2_9) rfl  kk_) ?_
  refine Wp.st (S' := T1.setTop (mkF m 11 #[.val (.ref a1), .val (.ref a2), .val (.int (1 : Int32)), .val (.int n), .unset] [(.int (1 : Int32)), (.int n)])) (fun tt_ kk_ => XS.iconst X1.here hx rfl (hb hby d2_10) kk_) ?_
  refine Wp.st (S' := T1.setTop (mkF m 25 #[.val (.ref a1), .val (.ref a2), .val (.int (1 : Int32)), .val (.int n), .unset] [])) (fun tt_ kk_ => XS.icmpYes X1.here hx rfl (pc0 := 11) (pc' := 25) rfl (hb hby d2_11) rfl (flt ((by rcases hn with rfl <;> decide) : ¬ ((1 : Int32) < n))).2.2.2 (by decide) (by decide) kk_) ?_
  refine Wp.st (S' := T1.setTop (mkF m 26 #[.val (.ref a1), .val (.ref a2), .val (.int (1 : Int32)), .val (.int n), .unset] [(.int (1 : Int32))])) (fun tt_ kk_ => XS.iloadN X1.here hx rfl (hb hby d2_25) rfl  kk_) ?_
  refine Wp.st (S' := T1.setTop (mkF m 27 #[.val (.ref a1), .val (.ref a2), .val (.int (1 : Int32)), .val (.int n), .unset] [(.int (2 : Int32)), (.int (1 : Int32))])) (fun tt_ kk_ => XS.iconst X1.here hx rfl (hb hby d2_26) kk_) ?_
  obtain ⟨vv3, _, ⟨T3, L3, k3, n3⟩, -, X3, ⟨Lc3, hQ3, l3, y3, z3⟩, st3⟩ := Jvm.LawKit.callS X1 hx (y := (⟨"java/lang/Math", "max", "(II)I"⟩ : MethodName)) hown (mvT hZ (hw _ (List.mem_of_getElem? (i := 16) rfl))) (mvT hZ (hw _ (List.mem_of_getElem? (i := 17) rfl))) (mvT hZ (hw _ (List.mem_of_getElem? (i := 18) rfl))) (mvT hZ (hw _ (List.mem_of_getElem? (i := 19) rfl))) (by decide) (backOf (W := 0) (rm4 l Z a0 hw [] (1 : Int32) (2 : Int32) h0 n0 Z0 ) hZ (hw _ (List.mem_of_getElem? (i := 19) rfl)) (hw _ (List.mem_of_getElem? (i := 18) rfl)) (by decide) (by decide)) (g := (mkF m 27 #[.val (.ref a1), .val (.ref a2), .val (.int (1 : Int32)), .val (.int n), .unset] [(.int (2 : Int32)), (.int (1 : Int32))])) rfl (by rw [hml]; rfl) (argsL := [(.int (1 : Int32)), (.int (2 : Int32))]) (rest := []) (lenOf pd_0 rfl) rfl (by show 2 * 0 + _ ≤ _; exact Nat.le_of_eq rfl) (hb hby d2_27) (fun _ _ => ⟨rfl, e1, (by decide : 0 + 0 ≤ _), (by decide : 0 + 0 ≤ _)⟩)
  dsimp only [Pt.U, Pt.locs, Pt.cells, Pt.slots] at X3 l3 y3 z3 st3 hQ3
  subst l3 y3 z3
  obtain ⟨rfl, Nq3, e3⟩ := hQ3
  have N3 := Fr.app N0 Nq3
  refine Wp.st (S' := T3.setTop (mkF m 30 #[.val (.ref a1), .val (.ref a2), .val (.int (1 : Int32)), .val (.int n), .unset] [(.int (own_max (1 : Int32) (2 : Int32)))])) st3 ?_
  rw [(by decide : (own_max (1 : Int32) (2 : Int32)) = (2 : Int32))]
  refine Wp.st (S' := T3.setTop (mkF m 31 #[.val (.ref a1), .val (.ref a2), .val (.int (2 : Int32)), .val (.int n), .unset] [])) (fun tt_ kk_ => XS.istoreN X3.here hx rfl (hb hby d2_30) rfl (l' := #[.val (.ref a1), .val (.ref a2), .val (.int (2 : Int32)), .val (.int n), .unset]) rfl kk_) ?_
  refine Wp.st (S' := T3.setTop (mkF m 32 #[.val (.ref a1), .val (.ref a2), .val (.int (2 : Int32)), .val (.int n), .unset] [(.ref a1)])) (fun tt_ kk_ => XS.aloadN X3.here hx rfl (hb hby d2_31) rfl rfl kk_) ?_
  refine Wp.st (S' := T3.setTop (mkF m 33 #[.val (.ref a1), .val (.ref a2), .val (.int (2 : Int32)), .val (.int n), .unset] [(.int (2 : Int32)), (.ref a1)])) (fun tt_ kk_ => XS.iloadN X3.here hx rfl (hb hby d2_32) rfl  kk_) ?_
  obtain ⟨T4, h4, k4, X4, e4, E4, A4, Ea4, O4, st4⟩ := newRA X3 hx hZ hown (ty := .double) (C := "[D") (by decide +kernel) (hw _ (List.mem_of_getElem? (i := 20) rfl)) (hw _ (List.mem_of_getElem? (i := 21) rfl)) e3 (g := (mkF m 33 #[.val (.ref a1), .val (.ref a2), .val (.int (2 : Int32)), .val (.int n), .unset] [(.int (2 : Int32)), (.ref a1)])) rfl (hb hby d2_33) rfl (by decide) (cap := 2) (by decide) (by decide) (by decide) (by decide) (ad := "[[D") (by decide +kernel)
  clear Ea4
  obtain ⟨b4, g4⟩ : ∃ z, z = h0.size := ⟨_, rfl⟩
  rw [← g4] at A4 st4
  have z5 := E4.1
  have V4 : Arv Z h4 b4 k4 (.array .double) (2 : Int32) [.null, .null] .null := (Arv.new A4 (by decide)).pad (pad_rep [] .null 2)
  have g6 : n0 ≤ b4 := Nat.le_trans (Nat.le_trans Z0 (Nat.le_refl _)) (Nat.le_of_eq g4.symm)
  refine Wp.st (S' := T4.setTop (mkF m 36 #[.val (.ref a1), .val (.ref a2), .val (.int (2 : Int32)), .val (.int n), .unset] [(.ref b4), (.ref a1)])) st4 ?_
  have F8 := P2.ext E4
  have F9 := P1.ext E4
  obtain ⟨T7, h7, X7, e7, W7, st7⟩ := putF X4 hx hZ hown (host := "") (Or.inl (hw _ (List.mem_of_getElem? (i := 22) rfl))) Via.refl e4 F8 F9 (Or.inr ⟨(hw _ (List.mem_of_getElem? (i := 23) rfl)), rfl, hnm⟩) (hw _ (List.mem_of_getElem? (i := 8) rfl)) (ty := (.array (.array .double))) (by decide) rfl rfl (g := (mkF m 36 #[.val (.ref a1), .val (.ref a2), .val (.int (2 : Int32)), .val (.int n), .unset] [(.ref b4), (.ref a1)])) rfl rfl (hb hby d2_36)
  have z10 := Nat.le_of_eq W7.size.symm
  have Fw7 : Fld Z h7 a1 "com/example/dags_over_clouds/dagsoverclouds/plan/Tally" "levels" "[[D" (.ref b4) := F8.same W7
  have N7 := Fr.snoc X7 N3 g_a1
  refine Wp.st (S' := T7.setTop (mkF m 39 #[.val (.ref a1), .val (.ref a2), .val (.int (2 : Int32)), .val (.int n), .unset] [])) st7 ?_
  refine Wp.st (S' := T7.setTop (mkF m 40 #[.val (.ref a1), .val (.ref a2), .val (.int (2 : Int32)), .val (.int n), .unset] [(.ref a1)])) (fun tt_ kk_ => XS.aloadN X7.here hx rfl (hb hby d2_39) rfl rfl kk_) ?_
  obtain ⟨T11, X11, e11, st11⟩ := getF X7 hx hZ hown (host := "") (Or.inl (hw _ (List.mem_of_getElem? (i := 22) rfl))) Via.refl e7 Fw7 (g := (mkF m 40 #[.val (.ref a1), .val (.ref a2), .val (.int (2 : Int32)), .val (.int n), .unset] [(.ref a1)])) rfl rfl (hb hby d2_40)
  refine Wp.st (S' := T11.setTop (mkF m 43 #[.val (.ref a1), .val (.ref a2), .val (.int (2 : Int32)), .val (.int n), .unset] [(.ref b4)])) st11 ?_
  refine Wp.st (S' := T11.setTop (mkF m 44 #[.val (.ref a1), .val (.ref a2), .val (.int (2 : Int32)), .val (.int n), .unset] [(.int (0 : Int32)), (.ref b4)])) (fun tt_ kk_ => XS.iconst X11.here hx rfl (hb hby d2_43) kk_) ?_
  refine Wp.st (S' := T11.setTop (mkF m 45 #[.val (.ref a1), .val (.ref a2), .val (.int (2 : Int32)), .val (.int n), .unset] [(.ref a2), (.int (0 : Int32)), (.ref b4)])) (fun tt_ kk_ => XS.aloadN X11.here hx rfl (hb hby d2_44) rfl rfl kk_) ?_
  have F13 := P3.ext E4
  have F14 := F13.other W7 (Ne.symm n_a1_a2)
  have F15 := P4.ext E4
  have F16 := F15.wr W7
  obtain ⟨T12, h12, X12, e12, E12, A12, Ea12, st12⟩ := cloneH X11 hx hZ hown (hw _ (List.mem_of_getElem? (i := 24) rfl)) (hw _ (List.mem_of_getElem? (i := 25) rfl)) (hw _ (List.mem_of_getElem? (i := 29) rfl)) (hw _ (List.mem_of_getElem? (i := 27) rfl)) (hw _ (List.mem_of_getElem? (i := 28) rfl)) (hw _ (List.mem_of_getElem? (i := 30) rfl)) e11 (show Arh Z _ _ _ _ _ [] _ _ from F14) F16 (g := (mkF m 45 #[.val (.ref a1), .val (.ref a2), .val (.int (2 : Int32)), .val (.int n), .unset] [(.ref a2), (.int (0 : Int32)), (.ref b4)])) rfl (by rw [hml]; rfl) rfl (hb hby d2_45) (by decide) (W := 2) (cap := 129) (by show 2 * 0 + _ ≤ _; exact Nat.le_of_eq rfl) (by decide) hcap (by decide) (by decide)
  obtain ⟨b12, g12⟩ : ∃ z, z = h7.size := ⟨_, rfl⟩
  rw [← g12] at A12 Ea12 st12
  have z17 := E12.1
  have V12 : Arv Z h12 b12 kt .double n (own_dl wf) (.double (0 : UInt64)) := A12
  have g18 : n0 ≤ b12 := Nat.le_trans (Nat.le_trans Z0 (Nat.le_trans z5 z10)) (Nat.le_of_eq g12.symm)
  refine Wp.st (S' := T12.setTop (mkF m 48 #[.val (.ref a1), .val (.ref a2), .val (.int (2 : Int32)), .val (.int n), .unset] [(.ref b12), (.int (0 : Int32)), (.ref b4)])) st12 ?_
  obtain ⟨T19, X19, e19, st19⟩ := castY X12 hx hZ hown (hw _ (List.mem_of_getElem? (i := 20) rfl)) e12 (Ins.self Ea12) (g := (mkF m 48 #[.val (.ref a1), .val (.ref a2), .val (.int (2 : Int32)), .val (.int n), .unset] [(.ref b12), (.int (0 : Int32)), (.ref b4)])) rfl rfl (hb hby d2_48)
  refine Wp.st (S' := T19.setTop (mkF m 51 #[.val (.ref a1), .val (.ref a2), .val (.int (2 : Int32)), .val (.int n), .unset] [(.ref b12), (.int (0 : Int32)), (.ref b4)])) st19 ?_
  have F20 := V4.other W7 (Ne.symm (Nat.ne_of_lt (Nat.lt_of_lt_of_le P1.lt (Nat.le_trans (Nat.le_refl _) (Nat.le_of_eq g4.symm)))))
  have F21 := F20.ext E12
  obtain ⟨cl22, Ar22, q22, S22, N22, H22, G22⟩ := id F21
  have hin22 := inb_of (j := (0 : Int32)) S22 ⟨by decide, by decide⟩
  obtain ⟨T22, h22, X22, e22, W22, st22⟩ := stR X19 hx hZ e19 Ar22 (j := (0 : Int32)) hin22 rfl (Sto.ofVA Ar22 q22 O4 (Ins.self Ea12)) (g := (mkF m 51 #[.val (.ref a1), .val (.ref a2), .val (.int (2 : Int32)), .val (.int n), .unset] [(.ref b12), (.int (0 : Int32)), (.ref b4)])) rfl rfl (hb hby d2_51)
  have z23 := Nat.le_of_eq W22.size.symm
  have V22 : Arv Z h22 b4 k4 (.array .double) (2 : Int32) [(.ref b12), .null] .null := Arv.set Ar22 q22 S22 N22 H22 G22 rfl W22 0 rfl (Nat.le_of_ble_eq_true rfl)
  have Nf22 := Fr.snoc X22 N7 g6
  refine Wp.st (S' := T22.setTop (mkF m 52 #[.val (.ref a1), .val (.ref a2), .val (.int (2 : Int32)), .val (.int n), .unset] [])) st22 ?_
  refine Wp.st (S' := T22.setTop (mkF m 53 #[.val (.ref a1), .val (.ref a2), .val (.int (2 : Int32)), .val (.int n), .unset] [(.int (1 : Int32))])) (fun tt_ kk_ => XS.iconst X22.here hx rfl (hb hby d2_52) kk_) ?_
  refine Wp.st (S' := T22.setTop (mkF m 54 #[.val (.ref a1), .val (.ref a2), .val (.int (2 : Int32)), .val (.int (1 : Int32)), .unset] [])) (fun tt_ kk_ => XS.istoreN X22.here hx rfl (hb hby d2_53) rfl (l' := #[.val (.ref a1), .val (.ref a2), .val (.int (2 : Int32)), .val (.int (1 : Int32)), .unset]) rfl kk_) ?_
  refine Wp.st (S' := T22.setTop (mkF m 55 #[.val (.ref a1), .val (.ref a2), .val (.int (2 : Int32)), .val (.int (1 : Int32)), .unset] [(.int (1 : Int32))])) (fun tt_ kk_ => XS.iloadN X22.here hx rfl (hb hby d2_54) rfl  kk_) ?_
  refine Wp.st (S' := T22.setTop (mkF m 56 #[.val (.ref a1), .val (.ref a2), .val (.int (2 : Int32)), .val (.int (1 : Int32)), .unset] [(.int (2 : Int32)), (.int (1 : Int32))])) (fun tt_ kk_ => XS.iloadN X22.here hx rfl (hb hby d2_55) rfl  kk_) ?_
  refine Wp.st (S' := T22.setTop (mkF m 59 #[.val (.ref a1), .val (.ref a2), .val (.int (2 : Int32)), .val (.int (1 : Int32)), .unset] [])) (fun tt_ kk_ => XS.icmpNo X22.here hx rfl (hb hby d2_56) rfl (tlt ((by decide) : (1 : Int32) < (2 : Int32))).2.1 kk_) ?_
  refine Wp.st (S' := T22.setTop (mkF m 60 #[.val (.ref a1), .val (.ref a2), .val (.int (2 : Int32)), .val (.int (1 : Int32)), .unset] [(.ref a1)])) (fun tt_ kk_ => XS.aloadN X22.here hx rfl (hb hby d2_59) rfl rfl kk_) ?_
  have F24 := Fw7.ext E12
  have F25 := F24.other W22 (Or.inl (Nat.ne_of_lt (Nat.lt_of_lt_of_le P1.lt (Nat.le_trans (Nat.le_refl _) (Nat.le_of_eq g4.symm)))))
  obtain ⟨T26, X26, e26, st26⟩ := getF X22 hx hZ hown (host := "") (Or.inl (hw _ (List.mem_of_getElem? (i := 22) rfl))) Via.refl e22 F25 (g := (mkF m 60 #[.val (.ref a1), .val (.ref a2), .val (.int (2 : Int32)), .val (.int (1 : Int32)), .unset] [(.ref a1)])) rfl rfl (hb hby d2_60)
  refine Wp.st (S' := T26.setTop (mkF m 63 #[.val (.ref a1), .val (.ref a2), .val (.int (2 : Int32)), .val (.int (1 : Int32)), .unset] [(.ref b4)])) st26 ?_
  refine Wp.st (S' := T26.setTop (mkF m 64 #[.val (.ref a1), .val (.ref a2), .val (.int (2 : Int32)), .val (.int (1 : Int32)), .unset] [(.int (1 : Int32)), (.ref b4)])) (fun tt_ kk_ => XS.iloadN X26.here hx rfl (hb hby d2_63) rfl  kk_) ?_
  refine Wp.st (S' := T26.setTop (mkF m 65 #[.val (.ref a1), .val (.ref a2), .val (.int (2 : Int32)), .val (.int (1 : Int32)), .unset] [(.ref a1), (.int (1 : Int32)), (.ref b4)])) (fun tt_ kk_ => XS.aloadN X26.here hx rfl (hb hby d2_64) rfl rfl kk_) ?_
  obtain ⟨T27, X27, e27, st27⟩ := getF X26 hx hZ hown (host := "") (Or.inl (hw _ (List.mem_of_getElem? (i := 22) rfl))) Via.refl e26 F25 (g := (mkF m 65 #[.val (.ref a1), .val (.ref a2), .val (.int (2 : Int32)), .val (.int (1 : Int32)), .unset] [(.ref a1), (.int (1 : Int32)), (.ref b4)])) rfl rfl (hb hby d2_65)
  refine Wp.st (S' := T27.setTop (mkF m 68 #[.val (.ref a1), .val (.ref a2), .val (.int (2 : Int32)), .val (.int (1 : Int32)), .unset] [(.ref b4), (.int (1 : Int32)), (.ref b4)])) st27 ?_
  refine Wp.st (S' := T27.setTop (mkF m 69 #[.val (.ref a1), .val (.ref a2), .val (.int (2 : Int32)), .val (.int (1 : Int32)), .unset] [(.int (1 : Int32)), (.ref b4), (.int (1 : Int32)), (.ref b4)])) (fun tt_ kk_ => XS.iloadN X27.here hx rfl (hb hby d2_68) rfl  kk_) ?_
  refine Wp.st (S' := T27.setTop (mkF m 70 #[.val (.ref a1), .val (.ref a2), .val (.int (2 : Int32)), .val (.int (1 : Int32)), .unset] [(.int (1 : Int32)), (.int (1 : Int32)), (.ref b4), (.int (1 : Int32)), (.ref b4)])) (fun tt_ kk_ => XS.iconst X27.here hx rfl (hb hby d2_69) kk_) ?_
  refine Wp.st (S' := T27.setTop (mkF m 71 #[.val (.ref a1), .val (.ref a2), .val (.int (2 : Int32)), .val (.int (1 : Int32)), .unset] [(.int ((1 : Int32) - (1 : Int32))), (.ref b4), (.int (1 : Int32)), (.ref b4)])) (fun tt_ kk_ => XS.isub X27.here hx rfl (hb hby d2_70) rfl kk_) ?_
  rw [(by decide : ((1 : Int32) - (1 : Int32)) = (0 : Int32))]
  obtain ⟨cl28, Ar28, q28, S28, N28, H28, G28⟩ := id V22
  have hin28 := inb_of (j := (0 : Int32)) S28 ⟨by decide, by decide⟩
  refine Wp.st (S' := T27.setTop (mkF m 72 #[.val (.ref a1), .val (.ref a2), .val (.int (2 : Int32)), .val (.int (1 : Int32)), .unset] [(.ref b12), (.int (1 : Int32)), (.ref b4)])) (fun tt_ kk_ => X27.aaload hx (j := (0 : Int32)) (v := (.ref b12)) (by rw [e27]; exact Ar28.1) (State.isArrayOf_alike hZ.alike Ar28.2.1) rfl Ar28.2.2 hin28 (H28.at hin28 rfl) (g := (mkF m 71 #[.val (.ref a1), .val (.ref a2), .val (.int (2 : Int32)), .val (.int (1 : Int32)), .unset] [(.int (0 : Int32)), (.ref b4), (.int (1 : Int32)), (.ref b4)])) rfl rfl (hb hby d2_71) tt_ kk_) ?_
  have F29 := V12.other W22 (Ne.symm (Nat.ne_of_lt (Nat.lt_of_lt_of_le V4.lt (Nat.le_trans z10 (Nat.le_of_eq g12.symm)))))
  obtain ⟨cl30, Ar30, q30, S30, N30, H30, G30⟩ := id F29
  refine Wp.st (S' := T27.setTop (mkF m 73 #[.val (.ref a1), .val (.ref a2), .val (.int (2 : Int32)), .val (.int (1 : Int32)), .unset] [(.int n), (.int (1 : Int32)), (.ref b4)])) (fun tt_ kk_ => X27.arraylength hx (by rw [e27]; exact Ar30.1) (State.isArrayOf_alike hZ.alike Ar30.2.1) (g := (mkF m 72 #[.val (.ref a1), .val (.ref a2), .val (.int (2 : Int32)), .val (.int (1 : Int32)), .unset] [(.ref b12), (.int (1 : Int32)), (.ref b4)])) rfl rfl (hb hby d2_72) tt_ (by rw [len_of S30 N30]; exact kk_)) ?_
  obtain ⟨vv31, _, ⟨T31, L31, k31, n31⟩, -, X31, ⟨Lc31, hQ31, l31, y31, z31⟩, st31⟩ := Jvm.LawKit.callS X27 hx (y := (⟨"com/example/dags_over_clouds/dagsoverclouds/plan/Tally", "runs", "(I)I"⟩ : MethodName)) hown (mvT hZ (hw _ (List.mem_of_getElem? (i := 32) rfl))) (mvT hZ (hw _ (List.mem_of_getElem? (i := 33) rfl))) (mvT hZ (hw _ (List.mem_of_getElem? (i := 9) rfl))) (mvT hZ (hw _ (List.mem_of_getElem? (i := 34) rfl))) (by decide) (backOf (W := 2) (rm5 l Z a0 hw [] n h22 n0 (Nat.le_trans Z0 (Nat.le_trans (Nat.le_trans (Nat.le_trans z5 z10) z17) z23)) ) hZ (hw _ (List.mem_of_getElem? (i := 34) rfl)) (hw _ (List.mem_of_getElem? (i := 9) rfl)) (by decide) (by decide)) (g := (mkF m 73 #[.val (.ref a1), .val (.ref a2), .val (.int (2 : Int32)), .val (.int (1 : Int32)), .unset] [(.int n), (.int (1 : Int32)), (.ref b4)])) rfl (by rw [hml]; rfl) (argsL := [(.int n)]) (rest := [(.int (1 : Int32)), (.ref b4)]) (lenOf pd_2 rfl) rfl (by show 2 * 0 + _ ≤ _; exact Nat.le_of_eq rfl) (hb hby d2_73) (fun _ _ => ⟨rfl, e27, (by decide : 2 + 0 ≤ _), (by decide : 131 + 0 ≤ _)⟩)
  dsimp only [Pt.U, Pt.locs, Pt.cells, Pt.slots] at X31 l31 y31 z31 st31 hQ31
  subst l31 y31 z31
  obtain ⟨rfl, Nq31, e31⟩ := hQ31
  have N31 := Fr.app Nf22 Nq31
  refine Wp.st (S' := T31.setTop (mkF m 76 #[.val (.ref a1), .val (.ref a2), .val (.int (2 : Int32)), .val (.int (1 : Int32)), .unset] [(.int (own_runs n)), (.int (1 : Int32)), (.ref b4)])) st31 ?_
  rw [(hru : (own_runs n) = (1 : Int32))]
  obtain ⟨T32, h32, k32, X32, e32, E32, A32, Ea32, st32⟩ := newPE X31 hx hZ (hw _ (List.mem_of_getElem? (i := 6) rfl)) e31 (g := (mkF m 76 #[.val (.ref a1), .val (.ref a2), .val (.int (2 : Int32)), .val (.int (1 : Int32)), .unset] [(.int (1 : Int32)), (.int (1 : Int32)), (.ref b4)])) rfl (hb hby d2_76) rfl (by decide) (cap := 1) (by decide) (by decide) (by decide) (by decide) (ad := "[D") (by decide +kernel)
  obtain ⟨b32, g32⟩ : ∃ z, z = h22.size := ⟨_, rfl⟩
  rw [← g32] at A32 Ea32 st32
  have z33 := E32.1
  have V32 : Arv Z h32 b32 k32 .double (1 : Int32) [(.double (0 : UInt64))] (.double (0 : UInt64)) := (Arv.new A32 (by decide)).pad (pad_rep [] (.double (0 : UInt64)) 1)
  have g34 : n0 ≤ b32 := Nat.le_trans (Nat.le_trans Z0 (Nat.le_trans (Nat.le_trans (Nat.le_trans z5 z10) z17) z23)) (Nat.le_of_eq g32.symm)
  refine Wp.st (S' := T32.setTop (mkF m 78 #[.val (.ref a1), .val (.ref a2), .val (.int (2 : Int32)), .val (.int (1 : Int32)), .unset] [(.ref b32), (.int (1 : Int32)), (.ref b4)])) st32 ?_
  have Vz35 : Arv Z h32 b32 k32 .double (1 : Int32) (own_dl own_z) (.double (0 : UInt64)) := (V32).pad (own_zpad 1)
  have F36 := V22.ext E32
  obtain ⟨cl37, Ar37, q37, S37, N37, H37, G37⟩ := id F36
  have hin37 := inb_of (j := (1 : Int32)) S37 ⟨by decide, by decide⟩
  obtain ⟨T37, h37, X37, e37, W37, st37⟩ := stR X32 hx hZ e32 Ar37 (j := (1 : Int32)) hin37 rfl (Sto.ofVA Ar37 q37 O4 (Ins.self Ea32)) (g := (mkF m 78 #[.val (.ref a1), .val (.ref a2), .val (.int (2 : Int32)), .val (.int (1 : Int32)), .unset] [(.ref b32), (.int (1 : Int32)), (.ref b4)])) rfl rfl (hb hby d2_78)
  have z38 := Nat.le_of_eq W37.size.symm
  have V37 : Arv Z h37 b4 k4 (.array .double) (2 : Int32) [(.ref b12), (.ref b32)] .null := Arv.set Ar37 q37 S37 N37 H37 G37 rfl W37 1 rfl (Nat.le_of_ble_eq_true rfl)
  have Nf37 := Fr.snoc X37 N31 g6
  refine Wp.st (S' := T37.setTop (mkF m 79 #[.val (.ref a1), .val (.ref a2), .val (.int (2 : Int32)), .val (.int (1 : Int32)), .unset] [])) st37 ?_
  refine Wp.st (S' := T37.setTop (mkF m 80 #[.val (.ref a1), .val (.ref a2), .val (.int (2 : Int32)), .val (.int (1 : Int32)), .unset] [(.int (0 : Int32))])) (fun tt_ kk_ => XS.iconst X37.here hx rfl (hb hby d2_79) kk_) ?_
  refine Wp.st (S' := T37.setTop (mkF m 82 #[.val (.ref a1), .val (.ref a2), .val (.int (2 : Int32)), .val (.int (1 : Int32)), .val (.int (0 : Int32))] [])) (fun tt_ kk_ => XS.istore X37.here hx rfl (hb hby d2_80) rfl (l' := #[.val (.ref a1), .val (.ref a2), .val (.int (2 : Int32)), .val (.int (1 : Int32)), .val (.int (0 : Int32))]) rfl kk_) ?_
  refine Wp.st (S' := T37.setTop (mkF m 84 #[.val (.ref a1), .val (.ref a2), .val (.int (2 : Int32)), .val (.int (1 : Int32)), .val (.int (0 : Int32))] [(.int (0 : Int32))])) (fun tt_ kk_ => XS.iload X37.here hx rfl (hb hby d2_82) rfl  kk_) ?_
  refine Wp.st (S' := T37.setTop (mkF m 85 #[.val (.ref a1), .val (.ref a2), .val (.int (2 : Int32)), .val (.int (1 : Int32)), .val (.int (0 : Int32))] [(.ref a1), (.int (0 : Int32))])) (fun tt_ kk_ => XS.aloadN X37.here hx rfl (hb hby d2_84) rfl rfl kk_) ?_
  have F39 := F25.ext E32
  have F40 := F39.other W37 (Or.inl (Nat.ne_of_lt (Nat.lt_of_lt_of_le P1.lt (Nat.le_trans (Nat.le_refl _) (Nat.le_of_eq g4.symm)))))
  obtain ⟨T41, X41, e41, st41⟩ := getF X37 hx hZ hown (host := "") (Or.inl (hw _ (List.mem_of_getElem? (i := 22) rfl))) Via.refl e37 F40 (g := (mkF m 85 #[.val (.ref a1), .val (.ref a2), .val (.int (2 : Int32)), .val (.int (1 : Int32)), .val (.int (0 : Int32))] [(.ref a1), (.int (0 : Int32))])) rfl rfl (hb hby d2_85)
  refine Wp.st (S' := T41.setTop (mkF m 88 #[.val (.ref a1), .val (.ref a2), .val (.int (2 : Int32)), .val (.int (1 : Int32)), .val (.int (0 : Int32))] [(.ref b4), (.int (0 : Int32))])) st41 ?_
  refine Wp.st (S' := T41.setTop (mkF m 89 #[.val (.ref a1), .val (.ref a2), .val (.int (2 : Int32)), .val (.int (1 : Int32)), .val (.int (0 : Int32))] [(.int (1 : Int32)), (.ref b4), (.int (0 : Int32))])) (fun tt_ kk_ => XS.iloadN X41.here hx rfl (hb hby d2_88) rfl  kk_) ?_
  obtain ⟨cl42, Ar42, q42, S42, N42, H42, G42⟩ := id V37
  have hin42 := inb_of (j := (1 : Int32)) S42 ⟨by decide, by decide⟩
  refine Wp.st (S' := T41.setTop (mkF m 90 #[.val (.ref a1), .val (.ref a2), .val (.int (2 : Int32)), .val (.int (1 : Int32)), .val (.int (0 : Int32))] [(.ref b32), (.int (0 : Int32))])) (fun tt_ kk_ => X41.aaload hx (j := (1 : Int32)) (v := (.ref b32)) (by rw [e41]; exact Ar42.1) (State.isArrayOf_alike hZ.alike Ar42.2.1) rfl Ar42.2.2 hin42 (H42.at hin42 rfl) (g := (mkF m 89 #[.val (.ref a1), .val (.ref a2), .val (.int (2 : Int32)), .val (.int (1 : Int32)), .val (.int (0 : Int32))] [(.int (1 : Int32)), (.ref b4), (.int (0 : Int32))])) rfl rfl (hb hby d2_89) tt_ kk_) ?_
  have F43 := Vz35.other W37 (Ne.symm (Nat.ne_of_lt (Nat.lt_of_lt_of_le V4.lt (Nat.le_trans (Nat.le_trans (Nat.le_trans z10 z17) z23) (Nat.le_of_eq g32.symm)))))
  obtain ⟨cl44, Ar44, q44, S44, N44, H44, G44⟩ := id F43
  refine Wp.st (S' := T41.setTop (mkF m 91 #[.val (.ref a1), .val (.ref a2), .val (.int (2 : Int32)), .val (.int (1 : Int32)), .val (.int (0 : Int32))] [(.int (1 : Int32)), (.int (0 : Int32))])) (fun tt_ kk_ => X41.arraylength hx (by rw [e41]; exact Ar44.1) (State.isArrayOf_alike hZ.alike Ar44.2.1) (g := (mkF m 90 #[.val (.ref a1), .val (.ref a2), .val (.int (2 : Int32)), .val (.int (1 : Int32)), .val (.int (0 : Int32))] [(.ref b32), (.int (0 : Int32))])) rfl rfl (hb hby d2_90) tt_ (by rw [len_of S44 N44]; exact kk_)) ?_
  refine Wp.st (S' := T41.setTop (mkF m 94 #[.val (.ref a1), .val (.ref a2), .val (.int (2 : Int32)), .val (.int (1 : Int32)), .val (.int (0 : Int32))] [])) (fun tt_ kk_ => XS.icmpNo X41.here hx rfl (hb hby d2_91) rfl (tlt ((by decide) : (0 : Int32) < (1 : Int32))).2.1 kk_) ?_
  refine Wp.st (S' := T41.setTop (mkF m 95 #[.val (.ref a1), .val (.ref a2), .val (.int (2 : Int32)), .val (.int (1 : Int32)), .val (.int (0 : Int32))] [(.ref a1)])) (fun tt_ kk_ => XS.aloadN X41.here hx rfl (hb hby d2_94) rfl rfl kk_) ?_
  refine Wp.st (S' := T41.setTop (mkF m 96 #[.val (.ref a1), .val (.ref a2), .val (.int (2 : Int32)), .val (.int (1 : Int32)), .val (.int (0 : Int32))] [(.int (1 : Int32)), (.ref a1)])) (fun tt_ kk_ => XS.iloadN X41.here hx rfl (hb hby d2_95) rfl  kk_) ?_
  refine Wp.st (S' := T41.setTop (mkF m 98 #[.val (.ref a1), .val (.ref a2), .val (.int (2 : Int32)), .val (.int (1 : Int32)), .val (.int (0 : Int32))] [(.int (0 : Int32)), (.int (1 : Int32)), (.ref a1)])) (fun tt_ kk_ => XS.iload X41.here hx rfl (hb hby d2_96) rfl  kk_) ?_
  have F46 := F29.ext E32
  have F47 := F46.other W37 (Ne.symm (Nat.ne_of_lt (Nat.lt_of_lt_of_le V4.lt (Nat.le_trans z10 (Nat.le_of_eq g12.symm)))))
  have F48 := F9.wr W7
  have F49 := F48.ext E12
  have F50 := F49.wr W22
  have F51 := F50.ext E32
  have F52 := F51.wr W37
  obtain ⟨cq45, q45, q45'⟩ := (F52).cell
  obtain ⟨vv45, _, ⟨T45, L45, k45, n45⟩, -, X45, ⟨Lc45, hQ45, l45, y45, z45⟩, st45⟩ := X41.privateBack hx (y := (⟨"com/example/dags_over_clouds/dagsoverclouds/plan/Tally", "addUp", "(II)V"⟩ : MethodName)) hown (mvT hZ (hw _ (List.mem_of_getElem? (i := 35) rfl))) (mvT hZ (hw _ (List.mem_of_getElem? (i := 36) rfl))) (mvT hZ (own_selP (hw _ (List.mem_of_getElem? (i := 45) rfl)) (hw _ (List.mem_of_getElem? (i := 36) rfl)) (hw _ (List.mem_of_getElem? (i := 37) rfl)))) (Cond.privateMethod_at (mvP hZ (hw _ (List.mem_of_getElem? (i := 37) rfl)) (args := #[]))) (mvT hZ (hw _ (List.mem_of_getElem? (i := 38) rfl))) (by decide) (backOf (W := 0) (rmAdd21 l Z a0 hw [] a1 (0 : Int32) b4 b12 b32 k4 kt k32 n (1 : Int32) wf own_z h37 n0 (Nat.le_trans Z0 (Nat.le_trans (Nat.le_trans (Nat.le_trans (Nat.le_trans (Nat.le_trans z5 z10) z17) z23) z33) z38)) g34 F40 V37 F47 F43 ((by first | assumption | exact own_b_of (by assumption) | (repeat first | exact own_b_z | assumption | refine own_b_up ?_ _ (own_R_b (by assumption) _ _))) : own_b wf) ((by assumption) : own_hr (0 : Int32) n (1 : Int32))) hZ (hw _ (List.mem_of_getElem? (i := 38) rfl)) (hw _ (List.mem_of_getElem? (i := 9) rfl)) (by decide) (by decide)) (g := (mkF m 98 #[.val (.ref a1), .val (.ref a2), .val (.int (2 : Int32)), .val (.int (1 : Int32)), .val (.int (0 : Int32))] [(.int (0 : Int32)), (.int (1 : Int32)), (.ref a1)])) rfl (by rw [hml]; rfl) (Steps.refl _) (a := a1) (by rw [e41]; exact q45) q45' (argsL := [(.int (1 : Int32)), (.int (0 : Int32))]) (rest := []) (lenOf pd_1 rfl) rfl (by show 2 * 0 + _ ≤ _; exact Nat.le_of_eq rfl) (hb hby d2_98) (fun _ _ => ⟨rfl, e41, (by decide : 3 + 0 ≤ _), (by decide : 132 + 0 ≤ _)⟩)
  dsimp only [Pt.U, Pt.locs, Pt.cells, Pt.slots] at X45 l45 y45 z45 st45 hQ45
  subst l45 y45 z45
  obtain ⟨rfl, Nq45, K45, P45_0⟩ := hQ45
  have N45 := Fr.app Nf37 Nq45
  have z53 := K45.1
  have e45 : T45.heap = T45.heap := rfl
  refine Wp.tr (S' := T45.setTop (mkF m 101 #[.val (.ref a1), .val (.ref a2), .val (.int (2 : Int32)), .val (.int (1 : Int32)), .val (.int (0 : Int32))] [])) st45 ?_
  refine Wp.st (S' := T45.setTop (mkF m 104 #[.val (.ref a1), .val (.ref a2), .val (.int (2 : Int32)), .val (.int (1 : Int32)), .val (.int ((0 : Int32) + (1 : Int32)))] [])) (fun tt_ kk_ => XS.iinc X45.here hx rfl (hb hby d2_101) rfl (l' := #[.val (.ref a1), .val (.ref a2), .val (.int (2 : Int32)), .val (.int (1 : Int32)), .val (.int ((0 : Int32) + (1 : Int32)))]) rfl kk_) ?_
  rw [(by decide : ((0 : Int32) + (1 : Int32)) = (1 : Int32))]
  refine Wp.st (S' := T45.setTop (mkF m 82 #[.val (.ref a1), .val (.ref a2), .val (.int (2 : Int32)), .val (.int (1 : Int32)), .val (.int (1 : Int32))] [])) (fun tt_ kk_ => XS.goto X45.here hx rfl (pc0 := 104) (pc' := 82) rfl (hb hby d2_104) (by decide) (by decide) kk_) ?_
  refine Wp.st (S' := T45.setTop (mkF m 84 #[.val (.ref a1), .val (.ref a2), .val (.int (2 : Int32)), .val (.int (1 : Int32)), .val (.int (1 : Int32))] [(.int (1 : Int32))])) (fun tt_ kk_ => XS.iload X45.here hx rfl (hb hby d2_82) rfl  kk_) ?_
  refine Wp.st (S' := T45.setTop (mkF m 85 #[.val (.ref a1), .val (.ref a2), .val (.int (2 : Int32)), .val (.int (1 : Int32)), .val (.int (1 : Int32))] [(.ref a1), (.int (1 : Int32))])) (fun tt_ kk_ => XS.aloadN X45.here hx rfl (hb hby d2_84) rfl rfl kk_) ?_
  have F54 := F40.keep K45 (ninS (Nat.ne_of_lt (Nat.lt_of_lt_of_le P1.lt (Nat.le_trans (Nat.le_trans (Nat.le_trans (Nat.le_trans z5 z10) z17) z23) (Nat.le_of_eq g32.symm)))) nin0)
  obtain ⟨T55, X55, e55, st55⟩ := getF X45 hx hZ hown (host := "") (Or.inl (hw _ (List.mem_of_getElem? (i := 22) rfl))) Via.refl e45 F54 (g := (mkF m 85 #[.val (.ref a1), .val (.ref a2), .val (.int (2 : Int32)), .val (.int (1 : Int32)), .val (.int (1 : Int32))] [(.ref a1), (.int (1 : Int32))])) rfl rfl (hb hby d2_85)
  refine Wp.st (S' := T55.setTop (mkF m 88 #[.val (.ref a1), .val (.ref a2), .val (.int (2 : Int32)), .val (.int (1 : Int32)), .val (.int (1 : Int32))] [(.ref b4), (.int (1 : Int32))])) st55 ?_
  refine Wp.st (S' := T55.setTop (mkF m 89 #[.val (.ref a1), .val (.ref a2), .val (.int (2 : Int32)), .val (.int (1 : Int32)), .val (.int (1 : Int32))] [(.int (1 : Int32)), (.ref b4), (.int (1 : Int32))])) (fun tt_ kk_ => XS.iloadN X55.here hx rfl (hb hby d2_88) rfl  kk_) ?_
  have F56 := V37.keep K45 (ninS (Nat.ne_of_lt (Nat.lt_of_lt_of_le V4.lt (Nat.le_trans (Nat.le_trans (Nat.le_trans z10 z17) z23) (Nat.le_of_eq g32.symm)))) nin0)
  obtain ⟨cl57, Ar57, q57, S57, N57, H57, G57⟩ := id F56
  have hin57 := inb_of (j := (1 : Int32)) S57 ⟨by decide, by decide⟩
  refine Wp.st (S' := T55.setTop (mkF m 90 #[.val (.ref a1), .val (.ref a2), .val (.int (2 : Int32)), .val (.int (1 : Int32)), .val (.int (1 : Int32))] [(.ref b32), (.int (1 : Int32))])) (fun tt_ kk_ => X55.aaload hx (j := (1 : Int32)) (v := (.ref b32)) (by rw [e55]; exact Ar57.1) (State.isArrayOf_alike hZ.alike Ar57.2.1) rfl Ar57.2.2 hin57 (H57.at hin57 rfl) (g := (mkF m 89 #[.val (.ref a1), .val (.ref a2), .val (.int (2 : Int32)), .val (.int (1 : Int32)), .val (.int (1 : Int32))] [(.int (1 : Int32)), (.ref b4), (.int (1 : Int32))])) rfl rfl (hb hby d2_89) tt_ kk_) ?_
  obtain ⟨cl58, Ar58, q58, S58, N58, H58, G58⟩ := id P45_0
  refine Wp.st (S' := T55.setTop (mkF m 91 #[.val (.ref a1), .val (.ref a2), .val (.int (2 : Int32)), .val (.int (1 : Int32)), .val (.int (1 : Int32))] [(.int (1 : Int32)), (.int (1 : Int32))])) (fun tt_ kk_ => X55.arraylength hx (by rw [e55]; exact Ar58.1) (State.isArrayOf_alike hZ.alike Ar58.2.1) (g := (mkF m 90 #[.val (.ref a1), .val (.ref a2), .val (.int (2 : Int32)), .val (.int (1 : Int32)), .val (.int (1 : Int32))] [(.ref b32), (.int (1 : Int32))])) rfl rfl (hb hby d2_90) tt_ (by rw [len_of S58 N58]; exact kk_)) ?_
  refine Wp.st (S' := T55.setTop (mkF m 107 #[.val (.ref a1), .val (.ref a2), .val (.int (2 : Int32)), .val (.int (1 : Int32)), .val (.int (1 : Int32))] [])) (fun tt_ kk_ => XS.icmpYes X55.here hx rfl (pc0 := 91) (pc' := 107) rfl (hb hby d2_91) rfl (flt ((by decide) : ¬ ((1 : Int32) < (1 : Int32)))).2.1 (by decide) (by decide) kk_) ?_
  refine Wp.st (S' := T55.setTop (mkF m 110 #[.val (.ref a1), .val (.ref a2), .val (.int (2 : Int32)), .val (.int ((1 : Int32) + (1 : Int32))), .val (.int (1 : Int32))] [])) (fun tt_ kk_ => XS.iinc X55.here hx rfl (hb hby d2_107) rfl (l' := #[.val (.ref a1), .val (.ref a2), .val (.int (2 : Int32)), .val (.int ((1 : Int32) + (1 : Int32))), .val (.int (1 : Int32))]) rfl kk_) ?_
  rw [(by decide : ((1 : Int32) + (1 : Int32)) = (2 : Int32))]
  refine Wp.st (S' := T55.setTop (mkF m 54 #[.val (.ref a1), .val (.ref a2), .val (.int (2 : Int32)), .val (.int (2 : Int32)), .val (.int (1 : Int32))] [])) (fun tt_ kk_ => XS.goto X55.here hx rfl (pc0 := 110) (pc' := 54) rfl (hb hby d2_110) (by decide) (by decide) kk_) ?_
  refine Wp.st (S' := T55.setTop (mkF m 55 #[.val (.ref a1), .val (.ref a2), .val (.int (2 : Int32)), .val (.int (2 : Int32)), .val (.int (1 : Int32))] [(.int (2 : Int32))])) (fun tt_ kk_ => XS.iloadN X55.here hx rfl (hb hby d2_54) rfl  kk_) ?_
  refine Wp.st (S' := T55.setTop (mkF m 56 #[.val (.ref a1), .val (.ref a2), .val (.int (2 : Int32)), .val (.int (2 : Int32)), .val (.int (1 : Int32))] [(.int (2 : Int32)), (.int (2 : Int32))])) (fun tt_ kk_ => XS.iloadN X55.here hx rfl (hb hby d2_55) rfl  kk_) ?_
  refine Wp.st (S' := T55.setTop (mkF m 113 #[.val (.ref a1), .val (.ref a2), .val (.int (2 : Int32)), .val (.int (2 : Int32)), .val (.int (1 : Int32))] [])) (fun tt_ kk_ => XS.icmpYes X55.here hx rfl (pc0 := 56) (pc' := 113) rfl (hb hby d2_56) rfl (flt ((by decide) : ¬ ((2 : Int32) < (2 : Int32)))).2.1 (by decide) (by decide) kk_) ?_
  have K59 := Keep.refl h0 [a1]
  have K60 := K59.ext E4
  have K61 := K60.wr W7 (Or.inl (List.mem_of_getElem? (i := 0) rfl))
  have K62 := K61.ext E12
  have K63 := K62.wr W22 (Or.inr (Nat.le_trans (Nat.le_refl _) (Nat.le_of_eq g4.symm)))
  have K64 := K63.ext E32
  have K65 := K64.wr W37 (Or.inr (Nat.le_trans (Nat.le_refl _) (Nat.le_of_eq g4.symm)))
  have K66 := K65.trans K45 (allS (Or.inr (Nat.le_trans (Nat.le_trans (Nat.le_trans (Nat.le_trans z5 z10) z17) z23) (Nat.le_of_eq g32.symm))) all0)
  have F67 := F52.keep K45
  have F68 := F47.keep K45 (ninS (Nat.ne_of_lt (Nat.lt_of_lt_of_le Ea12.lt (Nat.le_trans z23 (Nat.le_of_eq g32.symm)))) nin0)
  exact Wp.ret X55 hlk (v := none) (fun _ => rfl) (fun fs hr => X55.returnOut hx Bd.returns (hb hby d2_113) hr) (by decide) (by decide) (show Q_rmInitA1 Z a1 a2 kt n wf h0 n0 _ T55.heap _ by rw [e55]; exact ⟨b4, b12, b32, k4, kt, k32, rfl, N45, K66, (Nat.le_trans (Nat.le_refl _) (Nat.le_of_eq g4.symm)), (Nat.le_trans (Nat.le_trans z5 z10) (Nat.le_of_eq g12.symm)), (Nat.le_trans (Nat.le_trans (Nat.le_trans (Nat.le_trans z5 z10) z17) z23) (Nat.le_of_eq g32.symm)), F67, F54, F56, F68, P45_0, (Nat.ne_of_lt (Nat.lt_of_lt_of_le V4.lt (Nat.le_trans z10 (Nat.le_of_eq g12.symm)))), (Nat.ne_of_lt (Nat.lt_of_lt_of_le V4.lt (Nat.le_trans (Nat.le_trans (Nat.le_trans z10 z17) z23) (Nat.le_of_eq g32.symm)))), (Nat.ne_of_lt (Nat.lt_of_lt_of_le Ea12.lt (Nat.le_trans z23 (Nat.le_of_eq g32.symm))))⟩)
theorem d2_14 : decode prog_71_method_1_code 14 = .ok (.iinc 2 1, 3) := by decide +kernel
theorem d2_17 : decode prog_71_method_1_code 17 = .ok (.iload_n 3, 1) := by decide +kernel
theorem d2_18 : decode prog_71_method_1_code 18 = .ok (.invokestatic 7, 3) := by decide +kernel
theorem d2_21 : decode prog_71_method_1_code 21 = .ok (.istore_n 3, 1) := by decide +kernel
theorem d2_22 : decode prog_71_method_1_code 22 = .ok (.goto (-13), 3) := by decide +kernel
theorem ef_rmInitA (m : MethodId) (a1 : Addr) (a2 : Addr) : entryFrame m #[(.ref a1), (.ref a2)] 5 = mkF m 0 #[.val (.ref a1), .val (.ref a2), .unset, .unset, .unset] [] := by first | (simp [entryFrame, mkF, argsToLocals, Value.category]; done) | rfl
def Q_rmInitA (Z : State) (a1 : Addr) (a2 : Addr) (kt : ClassId) (n : Int32) (wf : Nat → Int) (h0 : Heap) (n0 : Nat) (v : Option Value) (h : Heap) (L : List Loc) : Prop := ∃ lv : Addr, ∃ l0 : Addr, ∃ l1 : Addr, ∃ kl : ClassId, ∃ k0 : ClassId, ∃ k1 : ClassId, (v = none) ∧ (Fr n0 L) ∧ (Keep h0 h [a1]) ∧ (h0.size ≤ lv) ∧ (h0.size ≤ l0) ∧ (h0.size ≤ l1) ∧ (Exa Z h a1 "com/example/dags_over_clouds/dagsoverclouds/plan/Tally") ∧ (Fld Z h a1 "com/example/dags_over_clouds/dagsoverclouds/plan/Tally" "levels" "[[D" (.ref lv)) ∧ (Arv Z h lv kl (.array .double) (2 : Int32) [(.ref l0), (.ref l1)] .null) ∧ (Arv Z h l0 k0 .double n (own_dl wf) (.double (0 : UInt64))) ∧ (Arv Z h l1 k1 .double (1 : Int32) (own_dl (own_up own_z (0 : Int32).toNatClampNeg (own_R wf n.toNatClampNeg (0 : Int32).toNatClampNeg))) (.double (0 : UInt64))) ∧ (lv ≠ l0) ∧ (lv ≠ l1) ∧ (l0 ≠ l1)
set_option maxRecDepth 65536 in
set_option maxHeartbeats 40000000 in
theorem rmInitA (l : Launch) (Z : State) (a0 : Array Value) (hw : ∀ d ∈ tables_1, d.before a0 Z = true) (ws : List Jvm.Cond) (a1 : Addr) (a2 : Addr) (kt : ClassId) (n : Int32) (wf : Nat → Int) (h0 : Heap) (n0 : Nat) (Z0 : n0 ≤ h0.size) (g_a1 : n0 ≤ a1) (P1 : Exa Z h0 a1 "com/example/dags_over_clouds/dagsoverclouds/plan/Tally") (P2 : Fld Z h0 a1 "com/example/dags_over_clouds/dagsoverclouds/plan/Tally" "levels" "[[D" .null) (P3 : Arv Z h0 a2 kt .double n (own_dl wf) (.double (0 : UInt64))) (P4 : Exa Z h0 a2 "[D") (hb0 : own_b0 wf) (hn : n = (2 : Int32) ∨ n = (3 : Int32) ∨ n = (63 : Int32) ∨ n = (64 : Int32)) (n_a1_a2 : a1 ≠ a2) :
    MetFree l (⟨"com/example/dags_over_clouds/dagsoverclouds/plan/Tally", "<init>", "([D)V"⟩ : MethodName) (head1 (Jvm.Cond.code (⟨"com/example/dags_over_clouds/dagsoverclouds/plan/Tally", "<init>", "([D)V"⟩ : MethodName) prog_71_method_1_code 5 none :: ws) ({ frames := 2, cells := 3, slots := 132, locals := 33 } : Room)) (fun a U => a = #[(.ref a1), (.ref a2)] ∧ Z.Warmed39 U.vm ∧ U.heap = h0) (fun _ _ _ _ _ => True) (fun _ U o U' => ∃ v L, o = .returned v ∧ Q_rmInitA Z a1 a2 kt n wf h0 n0 v U'.heap L ∧ FrameEnd U o U' L ({ frames := 2, cells := 3, slots := 132, locals := 33 } : Room).cells ({ frames := 2, cells := 3, slots := 132, locals := 33 } : Room).slots) := by
  refine MetFree.of_bodySF (plainFor_of_name pn_2) hisR ?_
  intro p e s m args below meth c s₁ Bd hml0 hP hK
  obtain ⟨rfl, hZ, hh⟩ := hP
  have hx := Bd.exec
  have hby := Bd.bytes
  have hml : c.maxLocals = 5 := hml0
  have hown : s.vm.findClass "com/example/dags_over_clouds/dagsoverclouds/plan/Tally" = some m.cls := findClass_of_methodNamed Bd.named
  have hnm := (name_of_methodNamed Bd.named Bd.method).1
  have hlk := Bd.notSynchronized
  have X0 : Stand p l e ({ frames := 2, cells := 3, slots := 132, locals := 33 } : Room) s m #[(.ref a1), (.ref a2)] below meth c s₁ [] 0 0 := Stand.of_body Bd
  have e0 : s₁.heap = h0 := by rw [← hh, Bd.state]; rfl
  have N0 := Fr.nil n0
  refine Wp.goal (Post := (fun o U' => ∃ v L, o = .returned v ∧ Q_rmInitA Z a1 a2 kt n wf h0 n0 v U'.heap L ∧ FrameEnd s o U' L ({ frames := 2, cells := 3, slots := 132, locals := 33 } : Room).cells ({ frames := 2, cells := 3, slots := 132, locals := 33 } : Room).slots)) (Wp.st (S' := s₁.setTop (mkF m 0 #[.val (.ref a1), .val (.ref a2), .unset, .unset, .unset] [])) (fun tt_ kk_ => castTop (ef_rmInitA m a1 a2 ) kk_) ?_)
  have hr_0 : own_hr (0 : Int32) n (1 : Int32) := by rcases hn with rfl | rfl | rfl | rfl <;> (unfold own_hr; decide)
  have hru : own_runs n = (1 : Int32) := (by rcases hn with rfl | rfl | rfl | rfl <;> decide)
  have hcap : n.toNatClampNeg ≤ 129 := (by rcases hn with rfl | rfl | rfl | rfl <;> decide)
  refine Wp.st (S' := s₁.setTop (mkF m 1 #[.val (.ref a1), .val (.ref a2), .unset, .unset, .unset] [(.ref a1)])) (fun tt_ kk_ => XS.aloadN X0.here hx rfl (hb hby d2_0) rfl rfl kk_) ?_
  obtain ⟨T1, X1, e1, st1⟩ := initO X0 hx hZ hown (hw _ (List.mem_of_getElem? (i := 13) rfl)) (hw _ (List.mem_of_getElem? (i := 14) rfl)) (hw _ (List.mem_of_getElem? (i := 15) rfl)) e0 (g := (mkF m 1 #[.val (.ref a1), .val (.ref a2), .unset, .unset, .unset] [(.ref a1)])) rfl (by rw [hml]; rfl) rfl (hb hby d2_1) (by decide) (W := 0) (by show 2 * 0 + _ ≤ _; exact Nat.le_of_eq rfl) (by decide)
  refine Wp.st (S' := T1.setTop (mkF m 4 #[.val (.ref a1), .val (.ref a2), .unset, .unset, .unset] [])) st1 ?_
  refine Wp.st (S' := T1.setTop (mkF m 5 #[.val (.ref a1), .val (.ref a2), .unset, .unset, .unset] [(.int (1 : Int32))])) (fun tt_ kk_ => XS.iconst X1.here hx rfl (hb hby d2_4) kk_) ?_
  refine Wp.st (S' := T1.setTop (mkF m 6 #[.val (.ref a1), .val (.ref a2), .val (.int (1 : Int32)), .unset, .unset] [])) (fun tt_ kk_ => XS.istoreN X1.here hx rfl (hb hby d2_5) rfl (l' := #[.val (.ref a1), .val (.ref a2), .val (.int (1 : Int32)), .unset, .unset]) rfl kk_) ?_
  refine Wp.st (S' := T1.setTop (mkF m 7 #[.val (.ref a1), .val (.ref a2), .val (.int (1 : Int32)), .unset, .unset] [(.ref a2)])) (fun tt_ kk_ => XS.aloadN X1.here hx rfl (hb hby d2_6) rfl rfl kk_) ?_
  obtain ⟨cl2, Ar2, q2, S2, N2, H2, G2⟩ := id P3
  refine Wp.st (S' := T1.setTop (mkF m 8 #[.val (.ref a1), .val (.ref a2), .val (.int (1 : Int32)), .unset, .unset] [(.int n)])) (fun tt_ kk_ => X1.arraylength hx (by rw [e1]; exact Ar2.1) (State.isArrayOf_alike hZ.alike Ar2.2.1) (g := (mkF m 7 #[.val (.ref a1), .val (.ref a2), .val (.int (1 : Int32)), .unset, .unset] [(.ref a2)])) rfl rfl (hb hby d2_7) tt_ (by rw [len_of S2 N2]; exact kk_)) ?_
  refine Wp.st (S' := T1.setTop (mkF m 9 #[.val (.ref a1), .val (.ref a2), .val (.int (1 : Int32)), .val (.int n), .unset] [])) (fun tt_ kk_ => XS.istoreN X1.here hx rfl (hb hby d2_8) rfl (l' := #[.val (.ref a1), .val (.ref a2), .val (.int (1 : Int32)), .val (.int n), .unset]) rfl kk_) ?_
  refine Wp.st (S' := T1.setTop (mkF m 10 #[.val (.ref a1), .val (.ref a2), .val (.int (1 : Int32)), .val (.int n), .unset] [(.int n)])) (fun tt_ kk_ => XS.iloadN X1.here hx rfl (hb hby d2_9) rfl  kk_) ?_
  refine Wp.st (S' := T1.setTop (mkF m 11 #[.val (.ref a1), .val (.ref a2), .val (.int (1 : Int32)), .val (.int n), .unset] [(.int (1 : Int32)), (.int n)])) (fun tt_ kk_ => XS.iconst X1.here hx rfl (hb hby d2_10) kk_) ?_
  refine Wp.st (S' := T1.setTop (mkF m 14 #[.val (.ref a1), .val (.ref a2), .val (.int (1 : Int32)), .val (.int n), .unset] [])) (fun tt_ kk_ => XS.icmpNo X1.here hx rfl (hb hby d2_11) rfl (tlt ((by rcases hn with rfl | rfl | rfl | rfl <;> decide) : (1 : Int32) < n)).2.2.2 kk_) ?_
  refine Wp.st (S' := T1.setTop (mkF m 17 #[.val (.ref a1), .val (.ref a2), .val (.int ((1 : Int32) + (1 : Int32))), .val (.int n), .unset] [])) (fun tt_ kk_ => XS.iinc X1.here hx rfl (hb hby d2_14) rfl (l' := #[.val (.ref a1), .val (.ref a2), .val (.int ((1 : Int32) + (1 : Int32))), .val (.int n), .unset]) rfl kk_) ?_
  rw [(by decide : ((1 : Int32) + (1 : Int32)) = (2 : Int32))]
  refine Wp.st (S' := T1.setTop (mkF m 18 #[.val (.ref a1), .val (.ref a2), .val (.int (2 : Int32)), .val (.int n), .unset] [(.int n)])) (fun tt_ kk_ => XS.iloadN X1.here hx rfl (hb hby d2_17) rfl  kk_) ?_
  obtain ⟨vv3, _, ⟨T3, L3, k3, n3⟩, -, X3, ⟨Lc3, hQ3, l3, y3, z3⟩, st3⟩ := Jvm.LawKit.callS X1 hx (y := (⟨"com/example/dags_over_clouds/dagsoverclouds/plan/Tally", "runs", "(I)I"⟩ : MethodName)) hown (mvT hZ (hw _ (List.mem_of_getElem? (i := 32) rfl))) (mvT hZ (hw _ (List.mem_of_getElem? (i := 33) rfl))) (mvT hZ (hw _ (List.mem_of_getElem? (i := 9) rfl))) (mvT hZ (hw _ (List.mem_of_getElem? (i := 34) rfl))) (by decide) (backOf (W := 0) (rm5 l Z a0 hw [] n h0 n0 Z0 ) hZ (hw _ (List.mem_of_getElem? (i := 34) rfl)) (hw _ (List.mem_of_getElem? (i := 9) rfl)) (by decide) (by decide)) (g := (mkF m 18 #[.val (.ref a1), .val (.ref a2), .val (.int (2 : Int32)), .val (.int n), .unset] [(.int n)])) rfl (by rw [hml]; rfl) (argsL := [(.int n)]) (rest := []) (lenOf pd_2 rfl) rfl (by show 2 * 0 + _ ≤ _; exact Nat.le_of_eq rfl) (hb hby d2_18) (fun _ _ => ⟨rfl, e1, (by decide : 0 + 0 ≤ _), (by decide : 0 + 0 ≤ _)⟩)
  dsimp only [Pt.U, Pt.locs, Pt.cells, Pt.slots] at X3 l3 y3 z3 st3 hQ3
  subst l3 y3 z3
  obtain ⟨rfl, Nq3, e3⟩ := hQ3
  have N3 := Fr.app N0 Nq3
  refine Wp.st (S' := T3.setTop (mkF m 21 #[.val (.ref a1), .val (.ref a2), .val (.int (2 : Int32)), .val (.int n), .unset] [(.int (own_runs n))])) st3 ?_
  rw [(hru : (own_runs n) = (1 : Int32))]
  refine Wp.st (S' := T3.setTop (mkF m 22 #[.val (.ref a1), .val (.ref a2), .val (.int (2 : Int32)), .val (.int (1 : Int32)), .unset] [])) (fun tt_ kk_ => XS.istoreN X3.here hx rfl (hb hby d2_21) rfl (l' := #[.val (.ref a1), .val (.ref a2), .val (.int (2 : Int32)), .val (.int (1 : Int32)), .unset]) rfl kk_) ?_
  refine Wp.st (S' := T3.setTop (mkF m 9 #[.val (.ref a1), .val (.ref a2), .val (.int (2 : Int32)), .val (.int (1 : Int32)), .unset] [])) (fun tt_ kk_ => XS.goto X3.here hx rfl (pc0 := 22) (pc' := 9) rfl (hb hby d2_22) (by decide) (by decide) kk_) ?_
  refine Wp.st (S' := T3.setTop (mkF m 10 #[.val (.ref a1), .val (.ref a2), .val (.int (2 : Int32)), .val (.int (1 : Int32)), .unset] [(.int (1 : Int32))])) (fun tt_ kk_ => XS.iloadN X3.here hx rfl (hb hby d2_9) rfl  kk_) ?_
  refine Wp.st (S' := T3.setTop (mkF m 11 #[.val (.ref a1), .val (.ref a2), .val (.int (2 : Int32)), .val (.int (1 : Int32)), .unset] [(.int (1 : Int32)), (.int (1 : Int32))])) (fun tt_ kk_ => XS.iconst X3.here hx rfl (hb hby d2_10) kk_) ?_
  refine Wp.st (S' := T3.setTop (mkF m 25 #[.val (.ref a1), .val (.ref a2), .val (.int (2 : Int32)), .val (.int (1 : Int32)), .unset] [])) (fun tt_ kk_ => XS.icmpYes X3.here hx rfl (pc0 := 11) (pc' := 25) rfl (hb hby d2_11) rfl (flt ((by decide) : ¬ ((1 : Int32) < (1 : Int32)))).2.2.2 (by decide) (by decide) kk_) ?_
  refine Wp.st (S' := T3.setTop (mkF m 26 #[.val (.ref a1), .val (.ref a2), .val (.int (2 : Int32)), .val (.int (1 : Int32)), .unset] [(.int (2 : Int32))])) (fun tt_ kk_ => XS.iloadN X3.here hx rfl (hb hby d2_25) rfl  kk_) ?_
  refine Wp.st (S' := T3.setTop (mkF m 27 #[.val (.ref a1), .val (.ref a2), .val (.int (2 : Int32)), .val (.int (1 : Int32)), .unset] [(.int (2 : Int32)), (.int (2 : Int32))])) (fun tt_ kk_ => XS.iconst X3.here hx rfl (hb hby d2_26) kk_) ?_
  obtain ⟨vv4, _, ⟨T4, L4, k4, n4⟩, -, X4, ⟨Lc4, hQ4, l4, y4, z4⟩, st4⟩ := Jvm.LawKit.callS X3 hx (y := (⟨"java/lang/Math", "max", "(II)I"⟩ : MethodName)) hown (mvT hZ (hw _ (List.mem_of_getElem? (i := 16) rfl))) (mvT hZ (hw _ (List.mem_of_getElem? (i := 17) rfl))) (mvT hZ (hw _ (List.mem_of_getElem? (i := 18) rfl))) (mvT hZ (hw _ (List.mem_of_getElem? (i := 19) rfl))) (by decide) (backOf (W := 0) (rm4 l Z a0 hw [] (2 : Int32) (2 : Int32) h0 n0 Z0 ) hZ (hw _ (List.mem_of_getElem? (i := 19) rfl)) (hw _ (List.mem_of_getElem? (i := 18) rfl)) (by decide) (by decide)) (g := (mkF m 27 #[.val (.ref a1), .val (.ref a2), .val (.int (2 : Int32)), .val (.int (1 : Int32)), .unset] [(.int (2 : Int32)), (.int (2 : Int32))])) rfl (by rw [hml]; rfl) (argsL := [(.int (2 : Int32)), (.int (2 : Int32))]) (rest := []) (lenOf pd_0 rfl) rfl (by show 2 * 0 + _ ≤ _; exact Nat.le_of_eq rfl) (hb hby d2_27) (fun _ _ => ⟨rfl, e3, (by decide : 0 + 0 ≤ _), (by decide : 0 + 0 ≤ _)⟩)
  dsimp only [Pt.U, Pt.locs, Pt.cells, Pt.slots] at X4 l4 y4 z4 st4 hQ4
  subst l4 y4 z4
  obtain ⟨rfl, Nq4, e4⟩ := hQ4
  have N4 := Fr.app N3 Nq4
  refine Wp.st (S' := T4.setTop (mkF m 30 #[.val (.ref a1), .val (.ref a2), .val (.int (2 : Int32)), .val (.int (1 : Int32)), .unset] [(.int (own_max (2 : Int32) (2 : Int32)))])) st4 ?_
  rw [(by decide : (own_max (2 : Int32) (2 : Int32)) = (2 : Int32))]
  refine Wp.st (S' := T4.setTop (mkF m 31 #[.val (.ref a1), .val (.ref a2), .val (.int (2 : Int32)), .val (.int (1 : Int32)), .unset] [])) (fun tt_ kk_ => XS.istoreN X4.here hx rfl (hb hby d2_30) rfl (l' := #[.val (.ref a1), .val (.ref a2), .val (.int (2 : Int32)), .val (.int (1 : Int32)), .unset]) rfl kk_) ?_
  refine Wp.st (S' := T4.setTop (mkF m 32 #[.val (.ref a1), .val (.ref a2), .val (.int (2 : Int32)), .val (.int (1 : Int32)), .unset] [(.ref a1)])) (fun tt_ kk_ => XS.aloadN X4.here hx rfl (hb hby d2_31) rfl rfl kk_) ?_
  refine Wp.st (S' := T4.setTop (mkF m 33 #[.val (.ref a1), .val (.ref a2), .val (.int (2 : Int32)), .val (.int (1 : Int32)), .unset] [(.int (2 : Int32)), (.ref a1)])) (fun tt_ kk_ => XS.iloadN X4.here hx rfl (hb hby d2_32) rfl  kk_) ?_
  obtain ⟨T5, h5, k5, X5, e5, E5, A5, Ea5, O5, st5⟩ := newRA X4 hx hZ hown (ty := .double) (C := "[D") (by decide +kernel) (hw _ (List.mem_of_getElem? (i := 20) rfl)) (hw _ (List.mem_of_getElem? (i := 21) rfl)) e4 (g := (mkF m 33 #[.val (.ref a1), .val (.ref a2), .val (.int (2 : Int32)), .val (.int (1 : Int32)), .unset] [(.int (2 : Int32)), (.ref a1)])) rfl (hb hby d2_33) rfl (by decide) (cap := 2) (by decide) (by decide) (by decide) (by decide) (ad := "[[D") (by decide +kernel)
  clear Ea5
  obtain ⟨b5, g5⟩ : ∃ z, z = h0.size := ⟨_, rfl⟩
  rw [← g5] at A5 st5
  have z6 := E5.1
  have V5 : Arv Z h5 b5 k5 (.array .double) (2 : Int32) [.null, .null] .null := (Arv.new A5 (by decide)).pad (pad_rep [] .null 2)
  have g7 : n0 ≤ b5 := Nat.le_trans (Nat.le_trans Z0 (Nat.le_refl _)) (Nat.le_of_eq g5.symm)
  refine Wp.st (S' := T5.setTop (mkF m 36 #[.val (.ref a1), .val (.ref a2), .val (.int (2 : Int32)), .val (.int (1 : Int32)), .unset] [(.ref b5), (.ref a1)])) st5 ?_
  have F9 := P2.ext E5
  have F10 := P1.ext E5
  obtain ⟨T8, h8, X8, e8, W8, st8⟩ := putF X5 hx hZ hown (host := "") (Or.inl (hw _ (List.mem_of_getElem? (i := 22) rfl))) Via.refl e5 F9 F10 (Or.inr ⟨(hw _ (List.mem_of_getElem? (i := 23) rfl)), rfl, hnm⟩) (hw _ (List.mem_of_getElem? (i := 8) rfl)) (ty := (.array (.array .double))) (by decide) rfl rfl (g := (mkF m 36 #[.val (.ref a1), .val (.ref a2), .val (.int (2 : Int32)), .val (.int (1 : Int32)), .unset] [(.ref b5), (.ref a1)])) rfl rfl (hb hby d2_36)
  have z11 := Nat.le_of_eq W8.size.symm
  have Fw8 : Fld Z h8 a1 "com/example/dags_over_clouds/dagsoverclouds/plan/Tally" "levels" "[[D" (.ref b5) := F9.same W8
  have N8 := Fr.snoc X8 N4 g_a1
  refine Wp.st (S' := T8.setTop (mkF m 39 #[.val (.ref a1), .val (.ref a2), .val (.int (2 : Int32)), .val (.int (1 : Int32)), .unset] [])) st8 ?_
  refine Wp.st (S' := T8.setTop (mkF m 40 #[.val (.ref a1), .val (.ref a2), .val (.int (2 : Int32)), .val (.int (1 : Int32)), .unset] [(.ref a1)])) (fun tt_ kk_ => XS.aloadN X8.here hx rfl (hb hby d2_39) rfl rfl kk_) ?_
  obtain ⟨T12, X12, e12, st12⟩ := getF X8 hx hZ hown (host := "") (Or.inl (hw _ (List.mem_of_getElem? (i := 22) rfl))) Via.refl e8 Fw8 (g := (mkF m 40 #[.val (.ref a1), .val (.ref a2), .val (.int (2 : Int32)), .val (.int (1 : Int32)), .unset] [(.ref a1)])) rfl rfl (hb hby d2_40)
  refine Wp.st (S' := T12.setTop (mkF m 43 #[.val (.ref a1), .val (.ref a2), .val (.int (2 : Int32)), .val (.int (1 : Int32)), .unset] [(.ref b5)])) st12 ?_
  refine Wp.st (S' := T12.setTop (mkF m 44 #[.val (.ref a1), .val (.ref a2), .val (.int (2 : Int32)), .val (.int (1 : Int32)), .unset] [(.int (0 : Int32)), (.ref b5)])) (fun tt_ kk_ => XS.iconst X12.here hx rfl (hb hby d2_43) kk_) ?_
  refine Wp.st (S' := T12.setTop (mkF m 45 #[.val (.ref a1), .val (.ref a2), .val (.int (2 : Int32)), .val (.int (1 : Int32)), .unset] [(.ref a2), (.int (0 : Int32)), (.ref b5)])) (fun tt_ kk_ => XS.aloadN X12.here hx rfl (hb hby d2_44) rfl rfl kk_) ?_
  have F14 := P3.ext E5
  have F15 := F14.other W8 (Ne.symm n_a1_a2)
  have F16 := P4.ext E5
  have F17 := F16.wr W8
  obtain ⟨T13, h13, X13, e13, E13, A13, Ea13, st13⟩ := cloneH X12 hx hZ hown (hw _ (List.mem_of_getElem? (i := 24) rfl)) (hw _ (List.mem_of_getElem? (i := 25) rfl)) (hw _ (List.mem_of_getElem? (i := 29) rfl)) (hw _ (List.mem_of_getElem? (i := 27) rfl)) (hw _ (List.mem_of_getElem? (i := 28) rfl)) (hw _ (List.mem_of_getElem? (i := 30) rfl)) e12 (show Arh Z _ _ _ _ _ [] _ _ from F15) F17 (g := (mkF m 45 #[.val (.ref a1), .val (.ref a2), .val (.int (2 : Int32)), .val (.int (1 : Int32)), .unset] [(.ref a2), (.int (0 : Int32)), (.ref b5)])) rfl (by rw [hml]; rfl) rfl (hb hby d2_45) (by decide) (W := 2) (cap := 129) (by show 2 * 0 + _ ≤ _; exact Nat.le_of_eq rfl) (by decide) hcap (by decide) (by decide)
  obtain ⟨b13, g13⟩ : ∃ z, z = h8.size := ⟨_, rfl⟩
  rw [← g13] at A13 Ea13 st13
  have z18 := E13.1
  have V13 : Arv Z h13 b13 kt .double n (own_dl wf) (.double (0 : UInt64)) := A13
  have g19 : n0 ≤ b13 := Nat.le_trans (Nat.le_trans Z0 (Nat.le_trans z6 z11)) (Nat.le_of_eq g13.symm)
  refine Wp.st (S' := T13.setTop (mkF m 48 #[.val (.ref a1), .val (.ref a2), .val (.int (2 : Int32)), .val (.int (1 : Int32)), .unset] [(.ref b13), (.int (0 : Int32)), (.ref b5)])) st13 ?_
  obtain ⟨T20, X20, e20, st20⟩ := castY X13 hx hZ hown (hw _ (List.mem_of_getElem? (i := 20) rfl)) e13 (Ins.self Ea13) (g := (mkF m 48 #[.val (.ref a1), .val (.ref a2), .val (.int (2 : Int32)), .val (.int (1 : Int32)), .unset] [(.ref b13), (.int (0 : Int32)), (.ref b5)])) rfl rfl (hb hby d2_48)
  refine Wp.st (S' := T20.setTop (mkF m 51 #[.val (.ref a1), .val (.ref a2), .val (.int (2 : Int32)), .val (.int (1 : Int32)), .unset] [(.ref b13), (.int (0 : Int32)), (.ref b5)])) st20 ?_
  have F21 := V5.other W8 (Ne.symm (Nat.ne_of_lt (Nat.lt_of_lt_of_le P1.lt (Nat.le_trans (Nat.le_refl _) (Nat.le_of_eq g5.symm)))))
  have F22 := F21.ext E13
  obtain ⟨cl23, Ar23, q23, S23, N23, H23, G23⟩ := id F22
  have hin23 := inb_of (j := (0 : Int32)) S23 ⟨by decide, by decide⟩
  obtain ⟨T23, h23, X23, e23, W23, st23⟩ := stR X20 hx hZ e20 Ar23 (j := (0 : Int32)) hin23 rfl (Sto.ofVA Ar23 q23 O5 (Ins.self Ea13)) (g := (mkF m 51 #[.val (.ref a1), .val (.ref a2), .val (.int (2 : Int32)), .val (.int (1 : Int32)), .unset] [(.ref b13), (.int (0 : Int32)), (.ref b5)])) rfl rfl (hb hby d2_51)
  have z24 := Nat.le_of_eq W23.size.symm
  have V23 : Arv Z h23 b5 k5 (.array .double) (2 : Int32) [(.ref b13), .null] .null := Arv.set Ar23 q23 S23 N23 H23 G23 rfl W23 0 rfl (Nat.le_of_ble_eq_true rfl)
  have Nf23 := Fr.snoc X23 N8 g7
  refine Wp.st (S' := T23.setTop (mkF m 52 #[.val (.ref a1), .val (.ref a2), .val (.int (2 : Int32)), .val (.int (1 : Int32)), .unset] [])) st23 ?_
  refine Wp.st (S' := T23.setTop (mkF m 53 #[.val (.ref a1), .val (.ref a2), .val (.int (2 : Int32)), .val (.int (1 : Int32)), .unset] [(.int (1 : Int32))])) (fun tt_ kk_ => XS.iconst X23.here hx rfl (hb hby d2_52) kk_) ?_
  refine Wp.st (S' := T23.setTop (mkF m 54 #[.val (.ref a1), .val (.ref a2), .val (.int (2 : Int32)), .val (.int (1 : Int32)), .unset] [])) (fun tt_ kk_ => XS.istoreN X23.here hx rfl (hb hby d2_53) rfl (l' := #[.val (.ref a1), .val (.ref a2), .val (.int (2 : Int32)), .val (.int (1 : Int32)), .unset]) rfl kk_) ?_
  refine Wp.st (S' := T23.setTop (mkF m 55 #[.val (.ref a1), .val (.ref a2), .val (.int (2 : Int32)), .val (.int (1 : Int32)), .unset] [(.int (1 : Int32))])) (fun tt_ kk_ => XS.iloadN X23.here hx rfl (hb hby d2_54) rfl  kk_) ?_
  refine Wp.st (S' := T23.setTop (mkF m 56 #[.val (.ref a1), .val (.ref a2), .val (.int (2 : Int32)), .val (.int (1 : Int32)), .unset] [(.int (2 : Int32)), (.int (1 : Int32))])) (fun tt_ kk_ => XS.iloadN X23.here hx rfl (hb hby d2_55) rfl  kk_) ?_
  refine Wp.st (S' := T23.setTop (mkF m 59 #[.val (.ref a1), .val (.ref a2), .val (.int (2 : Int32)), .val (.int (1 : Int32)), .unset] [])) (fun tt_ kk_ => XS.icmpNo X23.here hx rfl (hb hby d2_56) rfl (tlt ((by decide) : (1 : Int32) < (2 : Int32))).2.1 kk_) ?_
  refine Wp.st (S' := T23.setTop (mkF m 60 #[.val (.ref a1), .val (.ref a2), .val (.int (2 : Int32)), .val (.int (1 : Int32)), .unset] [(.ref a1)])) (fun tt_ kk_ => XS.aloadN X23.here hx rfl (hb hby d2_59) rfl rfl kk_) ?_
  have F25 := Fw8.ext E13
  have F26 := F25.other W23 (Or.inl (Nat.ne_of_lt (Nat.lt_of_lt_of_le P1.lt (Nat.le_trans (Nat.le_refl _) (Nat.le_of_eq g5.symm)))))
  obtain ⟨T27, X27, e27, st27⟩ := getF X23 hx hZ hown (host := "") (Or.inl (hw _ (List.mem_of_getElem? (i := 22) rfl))) Via.refl e23 F26 (g := (mkF m 60 #[.val (.ref a1), .val (.ref a2), .val (.int (2 : Int32)), .val (.int (1 : Int32)), .unset] [(.ref a1)])) rfl rfl (hb hby d2_60)
  refine Wp.st (S' := T27.setTop (mkF m 63 #[.val (.ref a1), .val (.ref a2), .val (.int (2 : Int32)), .val (.int (1 : Int32)), .unset] [(.ref b5)])) st27 ?_
  refine Wp.st (S' := T27.setTop (mkF m 64 #[.val (.ref a1), .val (.ref a2), .val (.int (2 : Int32)), .val (.int (1 : Int32)), .unset] [(.int (1 : Int32)), (.ref b5)])) (fun tt_ kk_ => XS.iloadN X27.here hx rfl (hb hby d2_63) rfl  kk_) ?_
  refine Wp.st (S' := T27.setTop (mkF m 65 #[.val (.ref a1), .val (.ref a2), .val (.int (2 : Int32)), .val (.int (1 : Int32)), .unset] [(.ref a1), (.int (1 : Int32)), (.ref b5)])) (fun tt_ kk_ => XS.aloadN X27.here hx rfl (hb hby d2_64) rfl rfl kk_) ?_
  obtain ⟨T28, X28, e28, st28⟩ := getF X27 hx hZ hown (host := "") (Or.inl (hw _ (List.mem_of_getElem? (i := 22) rfl))) Via.refl e27 F26 (g := (mkF m 65 #[.val (.ref a1), .val (.ref a2), .val (.int (2 : Int32)), .val (.int (1 : Int32)), .unset] [(.ref a1), (.int (1 : Int32)), (.ref b5)])) rfl rfl (hb hby d2_65)
  refine Wp.st (S' := T28.setTop (mkF m 68 #[.val (.ref a1), .val (.ref a2), .val (.int (2 : Int32)), .val (.int (1 : Int32)), .unset] [(.ref b5), (.int (1 : Int32)), (.ref b5)])) st28 ?_
  refine Wp.st (S' := T28.setTop (mkF m 69 #[.val (.ref a1), .val (.ref a2), .val (.int (2 : Int32)), .val (.int (1 : Int32)), .unset] [(.int (1 : Int32)), (.ref b5), (.int (1 : Int32)), (.ref b5)])) (fun tt_ kk_ => XS.iloadN X28.here hx rfl (hb hby d2_68) rfl  kk_) ?_
  refine Wp.st (S' := T28.setTop (mkF m 70 #[.val (.ref a1), .val (.ref a2), .val (.int (2 : Int32)), .val (.int (1 : Int32)), .unset] [(.int (1 : Int32)), (.int (1 : Int32)), (.ref b5), (.int (1 : Int32)), (.ref b5)])) (fun tt_ kk_ => XS.iconst X28.here hx rfl (hb hby d2_69) kk_) ?_
  refine Wp.st (S' := T28.setTop (mkF m 71 #[.val (.ref a1), .val (.ref a2), .val (.int (2 : Int32)), .val (.int (1 : Int32)), .unset] [(.int ((1 : Int32) - (1 : Int32))), (.ref b5), (.int (1 : Int32)), (.ref b5)])) (fun tt_ kk_ => XS.isub X28.here hx rfl (hb hby d2_70) rfl kk_) ?_
  rw [(by decide : ((1 : Int32) - (1 : Int32)) = (0 : Int32))]
  obtain ⟨cl29, Ar29, q29, S29, N29, H29, G29⟩ := id V23
  have hin29 := inb_of (j := (0 : Int32)) S29 ⟨by decide, by decide⟩
  refine Wp.st (S' := T28.setTop (mkF m 72 #[.val (.ref a1), .val (.ref a2), .val (.int (2 : Int32)), .val (.int (1 : Int32)), .unset] [(.ref b13), (.int (1 : Int32)), (.ref b5)])) (fun tt_ kk_ => X28.aaload hx (j := (0 : Int32)) (v := (.ref b13)) (by rw [e28]; exact Ar29.1) (State.isArrayOf_alike hZ.alike Ar29.2.1) rfl Ar29.2.2 hin29 (H29.at hin29 rfl) (g := (mkF m 71 #[.val (.ref a1), .val (.ref a2), .val (.int (2 : Int32)), .val (.int (1 : Int32)), .unset] [(.int (0 : Int32)), (.ref b5), (.int (1 : Int32)), (.ref b5)])) rfl rfl (hb hby d2_71) tt_ kk_) ?_
  have F30 := V13.other W23 (Ne.symm (Nat.ne_of_lt (Nat.lt_of_lt_of_le V5.lt (Nat.le_trans z11 (Nat.le_of_eq g13.symm)))))
  obtain ⟨cl31, Ar31, q31, S31, N31, H31, G31⟩ := id F30
  refine Wp.st (S' := T28.setTop (mkF m 73 #[.val (.ref a1), .val (.ref a2), .val (.int (2 : Int32)), .val (.int (1 : Int32)), .unset] [(.int n), (.int (1 : Int32)), (.ref b5)])) (fun tt_ kk_ => X28.arraylength hx (by rw [e28]; exact Ar31.1) (State.isArrayOf_alike hZ.alike Ar31.2.1) (g := (mkF m 72 #[.val (.ref a1), .val (.ref a2), .val (.int (2 : Int32)), .val (.int (1 : Int32)), .unset] [(.ref b13), (.int (1 : Int32)), (.ref b5)])) rfl rfl (hb hby d2_72) tt_ (by rw [len_of S31 N31]; exact kk_)) ?_
  obtain ⟨vv32, _, ⟨T32, L32, k32, n32⟩, -, X32, ⟨Lc32, hQ32, l32, y32, z32⟩, st32⟩ := Jvm.LawKit.callS X28 hx (y := (⟨"com/example/dags_over_clouds/dagsoverclouds/plan/Tally", "runs", "(I)I"⟩ : MethodName)) hown (mvT hZ (hw _ (List.mem_of_getElem? (i := 32) rfl))) (mvT hZ (hw _ (List.mem_of_getElem? (i := 33) rfl))) (mvT hZ (hw _ (List.mem_of_getElem? (i := 9) rfl))) (mvT hZ (hw _ (List.mem_of_getElem? (i := 34) rfl))) (by decide) (backOf (W := 2) (rm5 l Z a0 hw [] n h23 n0 (Nat.le_trans Z0 (Nat.le_trans (Nat.le_trans (Nat.le_trans z6 z11) z18) z24)) ) hZ (hw _ (List.mem_of_getElem? (i := 34) rfl)) (hw _ (List.mem_of_getElem? (i := 9) rfl)) (by decide) (by decide)) (g := (mkF m 73 #[.val (.ref a1), .val (.ref a2), .val (.int (2 : Int32)), .val (.int (1 : Int32)), .unset] [(.int n), (.int (1 : Int32)), (.ref b5)])) rfl (by rw [hml]; rfl) (argsL := [(.int n)]) (rest := [(.int (1 : Int32)), (.ref b5)]) (lenOf pd_2 rfl) rfl (by show 2 * 0 + _ ≤ _; exact Nat.le_of_eq rfl) (hb hby d2_73) (fun _ _ => ⟨rfl, e28, (by decide : 2 + 0 ≤ _), (by decide : 131 + 0 ≤ _)⟩)
  dsimp only [Pt.U, Pt.locs, Pt.cells, Pt.slots] at X32 l32 y32 z32 st32 hQ32
  subst l32 y32 z32
  obtain ⟨rfl, Nq32, e32⟩ := hQ32
  have N32 := Fr.app Nf23 Nq32
  refine Wp.st (S' := T32.setTop (mkF m 76 #[.val (.ref a1), .val (.ref a2), .val (.int (2 : Int32)), .val (.int (1 : Int32)), .unset] [(.int (own_runs n)), (.int (1 : Int32)), (.ref b5)])) st32 ?_
  rw [(hru : (own_runs n) = (1 : Int32))]
  obtain ⟨T33, h33, k33, X33, e33, E33, A33, Ea33, st33⟩ := newPE X32 hx hZ (hw _ (List.mem_of_getElem? (i := 6) rfl)) e32 (g := (mkF m 76 #[.val (.ref a1), .val (.ref a2), .val (.int (2 : Int32)), .val (.int (1 : Int32)), .unset] [(.int (1 : Int32)), (.int (1 : Int32)), (.ref b5)])) rfl (hb hby d2_76) rfl (by decide) (cap := 1) (by decide) (by decide) (by decide) (by decide) (ad := "[D") (by decide +kernel)
  obtain ⟨b33, g33⟩ : ∃ z, z = h23.size := ⟨_, rfl⟩
  rw [← g33] at A33 Ea33 st33
  have z34 := E33.1
  have V33 : Arv Z h33 b33 k33 .double (1 : Int32) [(.double (0 : UInt64))] (.double (0 : UInt64)) := (Arv.new A33 (by decide)).pad (pad_rep [] (.double (0 : UInt64)) 1)
  have g35 : n0 ≤ b33 := Nat.le_trans (Nat.le_trans Z0 (Nat.le_trans (Nat.le_trans (Nat.le_trans z6 z11) z18) z24)) (Nat.le_of_eq g33.symm)
  refine Wp.st (S' := T33.setTop (mkF m 78 #[.val (.ref a1), .val (.ref a2), .val (.int (2 : Int32)), .val (.int (1 : Int32)), .unset] [(.ref b33), (.int (1 : Int32)), (.ref b5)])) st33 ?_
  have Vz36 : Arv Z h33 b33 k33 .double (1 : Int32) (own_dl own_z) (.double (0 : UInt64)) := (V33).pad (own_zpad 1)
  have F37 := V23.ext E33
  obtain ⟨cl38, Ar38, q38, S38, N38, H38, G38⟩ := id F37
  have hin38 := inb_of (j := (1 : Int32)) S38 ⟨by decide, by decide⟩
  obtain ⟨T38, h38, X38, e38, W38, st38⟩ := stR X33 hx hZ e33 Ar38 (j := (1 : Int32)) hin38 rfl (Sto.ofVA Ar38 q38 O5 (Ins.self Ea33)) (g := (mkF m 78 #[.val (.ref a1), .val (.ref a2), .val (.int (2 : Int32)), .val (.int (1 : Int32)), .unset] [(.ref b33), (.int (1 : Int32)), (.ref b5)])) rfl rfl (hb hby d2_78)
  have z39 := Nat.le_of_eq W38.size.symm
  have V38 : Arv Z h38 b5 k5 (.array .double) (2 : Int32) [(.ref b13), (.ref b33)] .null := Arv.set Ar38 q38 S38 N38 H38 G38 rfl W38 1 rfl (Nat.le_of_ble_eq_true rfl)
  have Nf38 := Fr.snoc X38 N32 g7
  refine Wp.st (S' := T38.setTop (mkF m 79 #[.val (.ref a1), .val (.ref a2), .val (.int (2 : Int32)), .val (.int (1 : Int32)), .unset] [])) st38 ?_
  refine Wp.st (S' := T38.setTop (mkF m 80 #[.val (.ref a1), .val (.ref a2), .val (.int (2 : Int32)), .val (.int (1 : Int32)), .unset] [(.int (0 : Int32))])) (fun tt_ kk_ => XS.iconst X38.here hx rfl (hb hby d2_79) kk_) ?_
  refine Wp.st (S' := T38.setTop (mkF m 82 #[.val (.ref a1), .val (.ref a2), .val (.int (2 : Int32)), .val (.int (1 : Int32)), .val (.int (0 : Int32))] [])) (fun tt_ kk_ => XS.istore X38.here hx rfl (hb hby d2_80) rfl (l' := #[.val (.ref a1), .val (.ref a2), .val (.int (2 : Int32)), .val (.int (1 : Int32)), .val (.int (0 : Int32))]) rfl kk_) ?_
  refine Wp.st (S' := T38.setTop (mkF m 84 #[.val (.ref a1), .val (.ref a2), .val (.int (2 : Int32)), .val (.int (1 : Int32)), .val (.int (0 : Int32))] [(.int (0 : Int32))])) (fun tt_ kk_ => XS.iload X38.here hx rfl (hb hby d2_82) rfl  kk_) ?_
  refine Wp.st (S' := T38.setTop (mkF m 85 #[.val (.ref a1), .val (.ref a2), .val (.int (2 : Int32)), .val (.int (1 : Int32)), .val (.int (0 : Int32))] [(.ref a1), (.int (0 : Int32))])) (fun tt_ kk_ => XS.aloadN X38.here hx rfl (hb hby d2_84) rfl rfl kk_) ?_
  have F40 := F26.ext E33
  have F41 := F40.other W38 (Or.inl (Nat.ne_of_lt (Nat.lt_of_lt_of_le P1.lt (Nat.le_trans (Nat.le_refl _) (Nat.le_of_eq g5.symm)))))
  obtain ⟨T42, X42, e42, st42⟩ := getF X38 hx hZ hown (host := "") (Or.inl (hw _ (List.mem_of_getElem? (i := 22) rfl))) Via.refl e38 F41 (g := (mkF m 85 #[.val (.ref a1), .val (.ref a2), .val (.int (2 : Int32)), .val (.int (1 : Int32)), .val (.int (0 : Int32))] [(.ref a1), (.int (0 : Int32))])) rfl rfl (hb hby d2_85)
  refine Wp.st (S' := T42.setTop (mkF m 88 #[.val (.ref a1), .val (.ref a2), .val (.int (2 : Int32)), .val (.int (1 : Int32)), .val (.int (0 : Int32))] [(.ref b5), (.int (0 : Int32))])) st42 ?_
  refine Wp.st (S' := T42.setTop (mkF m 89 #[.val (.ref a1), .val (.ref a2), .val (.int (2 : Int32)), .val (.int (1 : Int32)), .val (.int (0 : Int32))] [(.int (1 : Int32)), (.ref b5), (.int (0 : Int32))])) (fun tt_ kk_ => XS.iloadN X42.here hx rfl (hb hby d2_88) rfl  kk_) ?_
  obtain ⟨cl43, Ar43, q43, S43, N43, H43, G43⟩ := id V38
  have hin43 := inb_of (j := (1 : Int32)) S43 ⟨by decide, by decide⟩
  refine Wp.st (S' := T42.setTop (mkF m 90 #[.val (.ref a1), .val (.ref a2), .val (.int (2 : Int32)), .val (.int (1 : Int32)), .val (.int (0 : Int32))] [(.ref b33), (.int (0 : Int32))])) (fun tt_ kk_ => X42.aaload hx (j := (1 : Int32)) (v := (.ref b33)) (by rw [e42]; exact Ar43.1) (State.isArrayOf_alike hZ.alike Ar43.2.1) rfl Ar43.2.2 hin43 (H43.at hin43 rfl) (g := (mkF m 89 #[.val (.ref a1), .val (.ref a2), .val (.int (2 : Int32)), .val (.int (1 : Int32)), .val (.int (0 : Int32))] [(.int (1 : Int32)), (.ref b5), (.int (0 : Int32))])) rfl rfl (hb hby d2_89) tt_ kk_) ?_
  have F44 := Vz36.other W38 (Ne.symm (Nat.ne_of_lt (Nat.lt_of_lt_of_le V5.lt (Nat.le_trans (Nat.le_trans (Nat.le_trans z11 z18) z24) (Nat.le_of_eq g33.symm)))))
  obtain ⟨cl45, Ar45, q45, S45, N45, H45, G45⟩ := id F44
  refine Wp.st (S' := T42.setTop (mkF m 91 #[.val (.ref a1), .val (.ref a2), .val (.int (2 : Int32)), .val (.int (1 : Int32)), .val (.int (0 : Int32))] [(.int (1 : Int32)), (.int (0 : Int32))])) (fun tt_ kk_ => X42.arraylength hx (by rw [e42]; exact Ar45.1) (State.isArrayOf_alike hZ.alike Ar45.2.1) (g := (mkF m 90 #[.val (.ref a1), .val (.ref a2), .val (.int (2 : Int32)), .val (.int (1 : Int32)), .val (.int (0 : Int32))] [(.ref b33), (.int (0 : Int32))])) rfl rfl (hb hby d2_90) tt_ (by rw [len_of S45 N45]; exact kk_)) ?_
  refine Wp.st (S' := T42.setTop (mkF m 94 #[.val (.ref a1), .val (.ref a2), .val (.int (2 : Int32)), .val (.int (1 : Int32)), .val (.int (0 : Int32))] [])) (fun tt_ kk_ => XS.icmpNo X42.here hx rfl (hb hby d2_91) rfl (tlt ((by decide) : (0 : Int32) < (1 : Int32))).2.1 kk_) ?_
  refine Wp.st (S' := T42.setTop (mkF m 95 #[.val (.ref a1), .val (.ref a2), .val (.int (2 : Int32)), .val (.int (1 : Int32)), .val (.int (0 : Int32))] [(.ref a1)])) (fun tt_ kk_ => XS.aloadN X42.here hx rfl (hb hby d2_94) rfl rfl kk_) ?_
  refine Wp.st (S' := T42.setTop (mkF m 96 #[.val (.ref a1), .val (.ref a2), .val (.int (2 : Int32)), .val (.int (1 : Int32)), .val (.int (0 : Int32))] [(.int (1 : Int32)), (.ref a1)])) (fun tt_ kk_ => XS.iloadN X42.here hx rfl (hb hby d2_95) rfl  kk_) ?_
  refine Wp.st (S' := T42.setTop (mkF m 98 #[.val (.ref a1), .val (.ref a2), .val (.int (2 : Int32)), .val (.int (1 : Int32)), .val (.int (0 : Int32))] [(.int (0 : Int32)), (.int (1 : Int32)), (.ref a1)])) (fun tt_ kk_ => XS.iload X42.here hx rfl (hb hby d2_96) rfl  kk_) ?_
  have F47 := F30.ext E33
  have F48 := F47.other W38 (Ne.symm (Nat.ne_of_lt (Nat.lt_of_lt_of_le V5.lt (Nat.le_trans z11 (Nat.le_of_eq g13.symm)))))
  have F49 := F10.wr W8
  have F50 := F49.ext E13
  have F51 := F50.wr W23
  have F52 := F51.ext E33
  have F53 := F52.wr W38
  obtain ⟨cq46, q46, q46'⟩ := (F53).cell
  obtain ⟨vv46, _, ⟨T46, L46, k46, n46⟩, -, X46, ⟨Lc46, hQ46, l46, y46, z46⟩, st46⟩ := X42.privateBack hx (y := (⟨"com/example/dags_over_clouds/dagsoverclouds/plan/Tally", "addUp", "(II)V"⟩ : MethodName)) hown (mvT hZ (hw _ (List.mem_of_getElem? (i := 35) rfl))) (mvT hZ (hw _ (List.mem_of_getElem? (i := 36) rfl))) (mvT hZ (own_selP (hw _ (List.mem_of_getElem? (i := 45) rfl)) (hw _ (List.mem_of_getElem? (i := 36) rfl)) (hw _ (List.mem_of_getElem? (i := 37) rfl)))) (Cond.privateMethod_at (mvP hZ (hw _ (List.mem_of_getElem? (i := 37) rfl)) (args := #[]))) (mvT hZ (hw _ (List.mem_of_getElem? (i := 38) rfl))) (by decide) (backOf (W := 0) (rmAdd21 l Z a0 hw [] a1 (0 : Int32) b5 b13 b33 k5 kt k33 n (1 : Int32) wf own_z h38 n0 (Nat.le_trans Z0 (Nat.le_trans (Nat.le_trans (Nat.le_trans (Nat.le_trans (Nat.le_trans z6 z11) z18) z24) z34) z39)) g35 F41 V38 F48 F44 ((by first | assumption | exact own_b_of (by assumption) | (repeat first | exact own_b_z | assumption | refine own_b_up ?_ _ (own_R_b (by assumption) _ _))) : own_b wf) ((by assumption) : own_hr (0 : Int32) n (1 : Int32))) hZ (hw _ (List.mem_of_getElem? (i := 38) rfl)) (hw _ (List.mem_of_getElem? (i := 9) rfl)) (by decide) (by decide)) (g := (mkF m 98 #[.val (.ref a1), .val (.ref a2), .val (.int (2 : Int32)), .val (.int (1 : Int32)), .val (.int (0 : Int32))] [(.int (0 : Int32)), (.int (1 : Int32)), (.ref a1)])) rfl (by rw [hml]; rfl) (Steps.refl _) (a := a1) (by rw [e42]; exact q46) q46' (argsL := [(.int (1 : Int32)), (.int (0 : Int32))]) (rest := []) (lenOf pd_1 rfl) rfl (by show 2 * 0 + _ ≤ _; exact Nat.le_of_eq rfl) (hb hby d2_98) (fun _ _ => ⟨rfl, e42, (by decide : 3 + 0 ≤ _), (by decide : 132 + 0 ≤ _)⟩)
  dsimp only [Pt.U, Pt.locs, Pt.cells, Pt.slots] at X46 l46 y46 z46 st46 hQ46
  subst l46 y46 z46
  obtain ⟨rfl, Nq46, K46, P46_0⟩ := hQ46
  have N46 := Fr.app Nf38 Nq46
  have z54 := K46.1
  have e46 : T46.heap = T46.heap := rfl
  refine Wp.tr (S' := T46.setTop (mkF m 101 #[.val (.ref a1), .val (.ref a2), .val (.int (2 : Int32)), .val (.int (1 : Int32)), .val (.int (0 : Int32))] [])) st46 ?_
  refine Wp.st (S' := T46.setTop (mkF m 104 #[.val (.ref a1), .val (.ref a2), .val (.int (2 : Int32)), .val (.int (1 : Int32)), .val (.int ((0 : Int32) + (1 : Int32)))] [])) (fun tt_ kk_ => XS.iinc X46.here hx rfl (hb hby d2_101) rfl (l' := #[.val (.ref a1), .val (.ref a2), .val (.int (2 : Int32)), .val (.int (1 : Int32)), .val (.int ((0 : Int32) + (1 : Int32)))]) rfl kk_) ?_
  rw [(by decide : ((0 : Int32) + (1 : Int32)) = (1 : Int32))]
  refine Wp.st (S' := T46.setTop (mkF m 82 #[.val (.ref a1), .val (.ref a2), .val (.int (2 : Int32)), .val (.int (1 : Int32)), .val (.int (1 : Int32))] [])) (fun tt_ kk_ => XS.goto X46.here hx rfl (pc0 := 104) (pc' := 82) rfl (hb hby d2_104) (by decide) (by decide) kk_) ?_
  refine Wp.st (S' := T46.setTop (mkF m 84 #[.val (.ref a1), .val (.ref a2), .val (.int (2 : Int32)), .val (.int (1 : Int32)), .val (.int (1 : Int32))] [(.int (1 : Int32))])) (fun tt_ kk_ => XS.iload X46.here hx rfl (hb hby d2_82) rfl  kk_) ?_
  refine Wp.st (S' := T46.setTop (mkF m 85 #[.val (.ref a1), .val (.ref a2), .val (.int (2 : Int32)), .val (.int (1 : Int32)), .val (.int (1 : Int32))] [(.ref a1), (.int (1 : Int32))])) (fun tt_ kk_ => XS.aloadN X46.here hx rfl (hb hby d2_84) rfl rfl kk_) ?_
  have F55 := F41.keep K46 (ninS (Nat.ne_of_lt (Nat.lt_of_lt_of_le P1.lt (Nat.le_trans (Nat.le_trans (Nat.le_trans (Nat.le_trans z6 z11) z18) z24) (Nat.le_of_eq g33.symm)))) nin0)
  obtain ⟨T56, X56, e56, st56⟩ := getF X46 hx hZ hown (host := "") (Or.inl (hw _ (List.mem_of_getElem? (i := 22) rfl))) Via.refl e46 F55 (g := (mkF m 85 #[.val (.ref a1), .val (.ref a2), .val (.int (2 : Int32)), .val (.int (1 : Int32)), .val (.int (1 : Int32))] [(.ref a1), (.int (1 : Int32))])) rfl rfl (hb hby d2_85)
  refine Wp.st (S' := T56.setTop (mkF m 88 #[.val (.ref a1), .val (.ref a2), .val (.int (2 : Int32)), .val (.int (1 : Int32)), .val (.int (1 : Int32))] [(.ref b5), (.int (1 : Int32))])) st56 ?_
  refine Wp.st (S' := T56.setTop (mkF m 89 #[.val (.ref a1), .val (.ref a2), .val (.int (2 : Int32)), .val (.int (1 : Int32)), .val (.int (1 : Int32))] [(.int (1 : Int32)), (.ref b5), (.int (1 : Int32))])) (fun tt_ kk_ => XS.iloadN X56.here hx rfl (hb hby d2_88) rfl  kk_) ?_
  have F57 := V38.keep K46 (ninS (Nat.ne_of_lt (Nat.lt_of_lt_of_le V5.lt (Nat.le_trans (Nat.le_trans (Nat.le_trans z11 z18) z24) (Nat.le_of_eq g33.symm)))) nin0)
  obtain ⟨cl58, Ar58, q58, S58, N58, H58, G58⟩ := id F57
  have hin58 := inb_of (j := (1 : Int32)) S58 ⟨by decide, by decide⟩
  refine Wp.st (S' := T56.setTop (mkF m 90 #[.val (.ref a1), .val (.ref a2), .val (.int (2 : Int32)), .val (.int (1 : Int32)), .val (.int (1 : Int32))] [(.ref b33), (.int (1 : Int32))])) (fun tt_ kk_ => X56.aaload hx (j := (1 : Int32)) (v := (.ref b33)) (by rw [e56]; exact Ar58.1) (State.isArrayOf_alike hZ.alike Ar58.2.1) rfl Ar58.2.2 hin58 (H58.at hin58 rfl) (g := (mkF m 89 #[.val (.ref a1), .val (.ref a2), .val (.int (2 : Int32)), .val (.int (1 : Int32)), .val (.int (1 : Int32))] [(.int (1 : Int32)), (.ref b5), (.int (1 : Int32))])) rfl rfl (hb hby d2_89) tt_ kk_) ?_
  obtain ⟨cl59, Ar59, q59, S59, N59, H59, G59⟩ := id P46_0
  refine Wp.st (S' := T56.setTop (mkF m 91 #[.val (.ref a1), .val (.ref a2), .val (.int (2 : Int32)), .val (.int (1 : Int32)), .val (.int (1 : Int32))] [(.int (1 : Int32)), (.int (1 : Int32))])) (fun tt_ kk_ => X56.arraylength hx (by rw [e56]; exact Ar59.1) (State.isArrayOf_alike hZ.alike Ar59.2.1) (g := (mkF m 90 #[.val (.ref a1), .val (.ref a2), .val (.int (2 : Int32)), .val (.int (1 : Int32)), .val (.int (1 : Int32))] [(.ref b33), (.int (1 : Int32))])) rfl rfl (hb hby d2_90) tt_ (by rw [len_of S59 N59]; exact kk_)) ?_
  refine Wp.st (S' := T56.setTop (mkF m 107 #[.val (.ref a1), .val (.ref a2), .val (.int (2 : Int32)), .val (.int (1 : Int32)), .val (.int (1 : Int32))] [])) (fun tt_ kk_ => XS.icmpYes X56.here hx rfl (pc0 := 91) (pc' := 107) rfl (hb hby d2_91) rfl (flt ((by decide) : ¬ ((1 : Int32) < (1 : Int32)))).2.1 (by decide) (by decide) kk_) ?_
  refine Wp.st (S' := T56.setTop (mkF m 110 #[.val (.ref a1), .val (.ref a2), .val (.int (2 : Int32)), .val (.int ((1 : Int32) + (1 : Int32))), .val (.int (1 : Int32))] [])) (fun tt_ kk_ => XS.iinc X56.here hx rfl (hb hby d2_107) rfl (l' := #[.val (.ref a1), .val (.ref a2), .val (.int (2 : Int32)), .val (.int ((1 : Int32) + (1 : Int32))), .val (.int (1 : Int32))]) rfl kk_) ?_
  rw [(by decide : ((1 : Int32) + (1 : Int32)) = (2 : Int32))]
  refine Wp.st (S' := T56.setTop (mkF m 54 #[.val (.ref a1), .val (.ref a2), .val (.int (2 : Int32)), .val (.int (2 : Int32)), .val (.int (1 : Int32))] [])) (fun tt_ kk_ => XS.goto X56.here hx rfl (pc0 := 110) (pc' := 54) rfl (hb hby d2_110) (by decide) (by decide) kk_) ?_
  refine Wp.st (S' := T56.setTop (mkF m 55 #[.val (.ref a1), .val (.ref a2), .val (.int (2 : Int32)), .val (.int (2 : Int32)), .val (.int (1 : Int32))] [(.int (2 : Int32))])) (fun tt_ kk_ => XS.iloadN X56.here hx rfl (hb hby d2_54) rfl  kk_) ?_
  refine Wp.st (S' := T56.setTop (mkF m 56 #[.val (.ref a1), .val (.ref a2), .val (.int (2 : Int32)), .val (.int (2 : Int32)), .val (.int (1 : Int32))] [(.int (2 : Int32)), (.int (2 : Int32))])) (fun tt_ kk_ => XS.iloadN X56.here hx rfl (hb hby d2_55) rfl  kk_) ?_
  refine Wp.st (S' := T56.setTop (mkF m 113 #[.val (.ref a1), .val (.ref a2), .val (.int (2 : Int32)), .val (.int (2 : Int32)), .val (.int (1 : Int32))] [])) (fun tt_ kk_ => XS.icmpYes X56.here hx rfl (pc0 := 56) (pc' := 113) rfl (hb hby d2_56) rfl (flt ((by decide) : ¬ ((2 : Int32) < (2 : Int32)))).2.1 (by decide) (by decide) kk_) ?_
  have K60 := Keep.refl h0 [a1]
  have K61 := K60.ext E5
  have K62 := K61.wr W8 (Or.inl (List.mem_of_getElem? (i := 0) rfl))
  have K63 := K62.ext E13
  have K64 := K63.wr W23 (Or.inr (Nat.le_trans (Nat.le_refl _) (Nat.le_of_eq g5.symm)))
  have K65 := K64.ext E33
  have K66 := K65.wr W38 (Or.inr (Nat.le_trans (Nat.le_refl _) (Nat.le_of_eq g5.symm)))
  have K67 := K66.trans K46 (allS (Or.inr (Nat.le_trans (Nat.le_trans (Nat.le_trans (Nat.le_trans z6 z11) z18) z24) (Nat.le_of_eq g33.symm))) all0)
  have F68 := F53.keep K46
  have F69 := F48.keep K46 (ninS (Nat.ne_of_lt (Nat.lt_of_lt_of_le Ea13.lt (Nat.le_trans z24 (Nat.le_of_eq g33.symm)))) nin0)
  exact Wp.ret X56 hlk (v := none) (fun _ => rfl) (fun fs hr => X56.returnOut hx Bd.returns (hb hby d2_113) hr) (by decide) (by decide) (show Q_rmInitA Z a1 a2 kt n wf h0 n0 _ T56.heap _ by rw [e56]; exact ⟨b5, b13, b33, k5, kt, k33, rfl, N46, K67, (Nat.le_trans (Nat.le_refl _) (Nat.le_of_eq g5.symm)), (Nat.le_trans (Nat.le_trans z6 z11) (Nat.le_of_eq g13.symm)), (Nat.le_trans (Nat.le_trans (Nat.le_trans (Nat.le_trans z6 z11) z18) z24) (Nat.le_of_eq g33.symm)), F68, F55, F57, F69, P46_0, (Nat.ne_of_lt (Nat.lt_of_lt_of_le V5.lt (Nat.le_trans z11 (Nat.le_of_eq g13.symm)))), (Nat.ne_of_lt (Nat.lt_of_lt_of_le V5.lt (Nat.le_trans (Nat.le_trans (Nat.le_trans z11 z18) z24) (Nat.le_of_eq g33.symm)))), (Nat.ne_of_lt (Nat.lt_of_lt_of_le Ea13.lt (Nat.le_trans z24 (Nat.le_of_eq g33.symm))))⟩)
theorem ef_rmInitB (m : MethodId) (a1 : Addr) (a2 : Addr) : entryFrame m #[(.ref a1), (.ref a2)] 5 = mkF m 0 #[.val (.ref a1), .val (.ref a2), .unset, .unset, .unset] [] := by first | (simp [entryFrame, mkF, argsToLocals, Value.category]; done) | rfl
def Q_rmInitB (Z : State) (a1 : Addr) (a2 : Addr) (kt : ClassId) (n : Int32) (wf : Nat → Int) (h0 : Heap) (n0 : Nat) (v : Option Value) (h : Heap) (L : List Loc) : Prop := ∃ lv : Addr, ∃ l0 : Addr, ∃ l1 : Addr, ∃ l2 : Addr, ∃ kl : ClassId, ∃ k0 : ClassId, ∃ k1 : ClassId, ∃ k2 : ClassId, (v = none) ∧ (Fr n0 L) ∧ (Keep h0 h [a1]) ∧ (h0.size ≤ lv) ∧ (h0.size ≤ l0) ∧ (h0.size ≤ l1) ∧ (h0.size ≤ l2) ∧ (Exa Z h a1 "com/example/dags_over_clouds/dagsoverclouds/plan/Tally") ∧ (Fld Z h a1 "com/example/dags_over_clouds/dagsoverclouds/plan/Tally" "levels" "[[D" (.ref lv)) ∧ (Arv Z h lv kl (.array .double) (3 : Int32) [(.ref l0), (.ref l1), (.ref l2)] .null) ∧ (Arv Z h l0 k0 .double n (own_dl wf) (.double (0 : UInt64))) ∧ (Arv Z h l1 k1 .double (2 : Int32) (own_dl (own_up (own_up own_z (0 : Int32).toNatClampNeg (own_R wf n.toNatClampNeg (0 : Int32).toNatClampNeg)) (1 : Int32).toNatClampNeg (own_R wf n.toNatClampNeg (1 : Int32).toNatClampNeg))) (.double (0 : UInt64))) ∧ (Arv Z h l2 k2 .double (1 : Int32) (own_dl (own_up own_z (0 : Int32).toNatClampNeg (own_R (own_up (own_up own_z (0 : Int32).toNatClampNeg (own_R wf n.toNatClampNeg (0 : Int32).toNatClampNeg)) (1 : Int32).toNatClampNeg (own_R wf n.toNatClampNeg (1 : Int32).toNatClampNeg)) (2 : Int32).toNatClampNeg (0 : Int32).toNatClampNeg))) (.double (0 : UInt64))) ∧ (lv ≠ l0) ∧ (lv ≠ l1) ∧ (lv ≠ l2) ∧ (l0 ≠ l1) ∧ (l0 ≠ l2) ∧ (l1 ≠ l2)
set_option maxRecDepth 65536 in
set_option maxHeartbeats 40000000 in
theorem rmInitB (l : Launch) (Z : State) (a0 : Array Value) (hw : ∀ d ∈ tables_1, d.before a0 Z = true) (ws : List Jvm.Cond) (a1 : Addr) (a2 : Addr) (kt : ClassId) (n : Int32) (wf : Nat → Int) (h0 : Heap) (n0 : Nat) (Z0 : n0 ≤ h0.size) (g_a1 : n0 ≤ a1) (P1 : Exa Z h0 a1 "com/example/dags_over_clouds/dagsoverclouds/plan/Tally") (P2 : Fld Z h0 a1 "com/example/dags_over_clouds/dagsoverclouds/plan/Tally" "levels" "[[D" .null) (P3 : Arv Z h0 a2 kt .double n (own_dl wf) (.double (0 : UInt64))) (P4 : Exa Z h0 a2 "[D") (hb0 : own_b0 wf) (hn : n = (65 : Int32) ∨ n = (128 : Int32)) (n_a1_a2 : a1 ≠ a2) :
    MetFree l (⟨"com/example/dags_over_clouds/dagsoverclouds/plan/Tally", "<init>", "([D)V"⟩ : MethodName) (head1 (Jvm.Cond.code (⟨"com/example/dags_over_clouds/dagsoverclouds/plan/Tally", "<init>", "([D)V"⟩ : MethodName) prog_71_method_1_code 5 none :: ws) ({ frames := 2, cells := 4, slots := 135, locals := 33 } : Room)) (fun a U => a = #[(.ref a1), (.ref a2)] ∧ Z.Warmed39 U.vm ∧ U.heap = h0) (fun _ _ _ _ _ => True) (fun _ U o U' => ∃ v L, o = .returned v ∧ Q_rmInitB Z a1 a2 kt n wf h0 n0 v U'.heap L ∧ FrameEnd U o U' L ({ frames := 2, cells := 4, slots := 135, locals := 33 } : Room).cells ({ frames := 2, cells := 4, slots := 135, locals := 33 } : Room).slots) := by
  refine MetFree.of_bodySF (plainFor_of_name pn_2) hisR ?_
  intro p e s m args below meth c s₁ Bd hml0 hP hK
  obtain ⟨rfl, hZ, hh⟩ := hP
  have hx := Bd.exec
  have hby := Bd.bytes
  have hml : c.maxLocals = 5 := hml0
  have hown : s.vm.findClass "com/example/dags_over_clouds/dagsoverclouds/plan/Tally" = some m.cls := findClass_of_methodNamed Bd.named
  have hnm := (name_of_methodNamed Bd.named Bd.method).1
  have hlk := Bd.notSynchronized
  have X0 : Stand p l e ({ frames := 2, cells := 4, slots := 135, locals := 33 } : Room) s m #[(.ref a1), (.ref a2)] below meth c s₁ [] 0 0 := Stand.of_body Bd
  have e0 : s₁.heap = h0 := by rw [← hh, Bd.state]; rfl
  have N0 := Fr.nil n0
  refine Wp.goal (Post := (fun o U' => ∃ v L, o = .returned v ∧ Q_rmInitB Z a1 a2 kt n wf h0 n0 v U'.heap L ∧ FrameEnd s o U' L ({ frames := 2, cells := 4, slots := 135, locals := 33 } : Room).cells ({ frames := 2, cells := 4, slots := 135, locals := 33 } : Room).slots)) (Wp.st (S' := s₁.setTop (mkF m 0 #[.val (.ref a1), .val (.ref a2), .unset, .unset, .unset] [])) (fun tt_ kk_ => castTop (ef_rmInitB m a1 a2 ) kk_) ?_)
  have hr_0 : own_hr (0 : Int32) n (2 : Int32) := by rcases hn with rfl | rfl <;> (unfold own_hr; decide)
  have hr_1 : own_hr (1 : Int32) n (2 : Int32) := by rcases hn with rfl | rfl <;> (unfold own_hr; decide)
  have hr_t : own_hr (0 : Int32) (2 : Int32) (1 : Int32) := by unfold own_hr; decide
  have hru : own_runs n = (2 : Int32) := (by rcases hn with rfl | rfl <;> decide)
  have hcap : n.toNatClampNeg ≤ 129 := (by rcases hn with rfl | rfl <;> decide)
  refine Wp.st (S' := s₁.setTop (mkF m 1 #[.val (.ref a1), .val (.ref a2), .unset, .unset, .unset] [(.ref a1)])) (fun tt_ kk_ => XS.aloadN X0.here hx rfl (hb hby d2_0) rfl rfl kk_) ?_
  obtain ⟨T1, X1, e1, st1⟩ := initO X0 hx hZ hown (hw _ (List.mem_of_getElem? (i := 13) rfl)) (hw _ (List.mem_of_getElem? (i := 14) rfl)) (hw _ (List.mem_of_getElem? (i := 15) rfl)) e0 (g := (mkF m 1 #[.val (.ref a1), .val (.ref a2), .unset, .unset, .unset] [(.ref a1)])) rfl (by rw [hml]; rfl) rfl (hb hby d2_1) (by decide) (W := 0) (by show 2 * 0 + _ ≤ _; exact Nat.le_of_eq rfl) (by decide)
  refine Wp.st (S' := T1.setTop (mkF m 4 #[.val (.ref a1), .val (.ref a2), .unset, .unset, .unset] [])) st1 ?_
  refine Wp.st (S' := T1.setTop (mkF m 5 #[.val (.ref a1), .val (.ref a2), .unset, .unset, .unset] [(.int (1 : Int32))])) (fun tt_ kk_ => XS.iconst X1.here hx rfl (hb hby d2_4) kk_) ?_
  refine Wp.st (S' := T1.setTop (mkF m 6 #[.val (.ref a1), .val (.ref a2), .val (.int (1 : Int32)), .unset, .unset] [])) (fun tt_ kk_ => XS.istoreN X1.here hx rfl (hb hby d2_5) rfl (l' := #[.val (.ref a1), .val (.ref a2), .val (.int (1 : Int32)), .unset, .unset]) rfl kk_) ?_
  refine Wp.st (S' := T1.setTop (mkF m 7 #[.val (.ref a1), .val (.ref a2), .val (.int (1 : Int32)), .unset, .unset] [(.ref a2)])) (fun tt_ kk_ => XS.aloadN X1.here hx rfl (hb hby d2_6) rfl rfl kk_) ?_
  obtain ⟨cl2, Ar2, q2, S2, N2, H2, G2⟩ := id P3
  refine Wp.st (S' := T1.setTop (mkF m 8 #[.val (.ref a1), .val (.ref a2), .val (.int (1 : Int32)), .unset, .unset] [(.int n)])) (fun tt_ kk_ => X1.arraylength hx (by rw [e1]; exact Ar2.1) (State.isArrayOf_alike hZ.alike Ar2.2.1) (g := (mkF m 7 #[.val (.ref a1), .val (.ref a2), .val (.int (1 : Int32)), .unset, .unset] [(.ref a2)])) rfl rfl (hb hby d2_7) tt_ (by rw [len_of S2 N2]; exact kk_)) ?_
  refine Wp.st (S' := T1.setTop (mkF m 9 #[.val (.ref a1), .val (.ref a2), .val (.int (1 : Int32)), .val (.int n), .unset] [])) (fun tt_ kk_ => XS.istoreN X1.here hx rfl (hb hby d2_8) rfl (l' := #[.val (.ref a1), .val (.ref a2), .val (.int (1 : Int32)), .val (.int n), .unset]) rfl kk_) ?_
  refine Wp.st (S' := T1.setTop (mkF m 10 #[.val (.ref a1), .val (.ref a2), .val (.int (1 : Int32)), .val (.int n), .unset] [(.int n)])) (fun tt_ kk_ => XS.iloadN X1.here hx rfl (hb hby d2_9) rfl  kk_) ?_
  refine Wp.st (S' := T1.setTop (mkF m 11 #[.val (.ref a1), .val (.ref a2), .val (.int (1 : Int32)), .val (.int n), .unset] [(.int (1 : Int32)), (.int n)])) (fun tt_ kk_ => XS.iconst X1.here hx rfl (hb hby d2_10) kk_) ?_
  refine Wp.st (S' := T1.setTop (mkF m 14 #[.val (.ref a1), .val (.ref a2), .val (.int (1 : Int32)), .val (.int n), .unset] [])) (fun tt_ kk_ => XS.icmpNo X1.here hx rfl (hb hby d2_11) rfl (tlt ((by rcases hn with rfl | rfl <;> decide) : (1 : Int32) < n)).2.2.2 kk_) ?_
  refine Wp.st (S' := T1.setTop (mkF m 17 #[.val (.ref a1), .val (.ref a2), .val (.int ((1 : Int32) + (1 : Int32))), .val (.int n), .unset] [])) (fun tt_ kk_ => XS.iinc X1.here hx rfl (hb hby d2_14) rfl (l' := #[.val (.ref a1), .val (.ref a2), .val (.int ((1 : Int32) + (1 : Int32))), .val (.int n), .unset]) rfl kk_) ?_
  rw [(by decide : ((1 : Int32) + (1 : Int32)) = (2 : Int32))]
  refine Wp.st (S' := T1.setTop (mkF m 18 #[.val (.ref a1), .val (.ref a2), .val (.int (2 : Int32)), .val (.int n), .unset] [(.int n)])) (fun tt_ kk_ => XS.iloadN X1.here hx rfl (hb hby d2_17) rfl  kk_) ?_
  obtain ⟨vv3, _, ⟨T3, L3, k3, n3⟩, -, X3, ⟨Lc3, hQ3, l3, y3, z3⟩, st3⟩ := Jvm.LawKit.callS X1 hx (y := (⟨"com/example/dags_over_clouds/dagsoverclouds/plan/Tally", "runs", "(I)I"⟩ : MethodName)) hown (mvT hZ (hw _ (List.mem_of_getElem? (i := 32) rfl))) (mvT hZ (hw _ (List.mem_of_getElem? (i := 33) rfl))) (mvT hZ (hw _ (List.mem_of_getElem? (i := 9) rfl))) (mvT hZ (hw _ (List.mem_of_getElem? (i := 34) rfl))) (by decide) (backOf (W := 0) (rm5 l Z a0 hw [] n h0 n0 Z0 ) hZ (hw _ (List.mem_of_getElem? (i := 34) rfl)) (hw _ (List.mem_of_getElem? (i := 9) rfl)) (by decide) (by decide)) (g := (mkF m 18 #[.val (.ref a1), .val (.ref a2), .val (.int (2 : Int32)), .val (.int n), .unset] [(.int n)])) rfl (by rw [hml]; rfl) (argsL := [(.int n)]) (rest := []) (lenOf pd_2 rfl) rfl (by show 2 * 0 + _ ≤ _; exact Nat.le_of_eq rfl) (hb hby d2_18) (fun _ _ => ⟨rfl, e1, (by decide : 0 + 0 ≤ _), (by decide : 0 + 0 ≤ _)⟩)
  dsimp only [Pt.U, Pt.locs, Pt.cells, Pt.slots] at X3 l3 y3 z3 st3 hQ3
  subst l3 y3 z3
  obtain ⟨rfl, Nq3, e3⟩ := hQ3
  have N3 := Fr.app N0 Nq3
  refine Wp.st (S' := T3.setTop (mkF m 21 #[.val (.ref a1), .val (.ref a2), .val (.int (2 : Int32)), .val (.int n), .unset] [(.int (own_runs n))])) st3 ?_
  rw [(hru : (own_runs n) = (2 : Int32))]
  refine Wp.st (S' := T3.setTop (mkF m 22 #[.val (.ref a1), .val (.ref a2), .val (.int (2 : Int32)), .val (.int (2 : Int32)), .unset] [])) (fun tt_ kk_ => XS.istoreN X3.here hx rfl (hb hby d2_21) rfl (l' := #[.val (.ref a1), .val (.ref a2), .val (.int (2 : Int32)), .val (.int (2 : Int32)), .unset]) rfl kk_) ?_
  refine Wp.st (S' := T3.setTop (mkF m 9 #[.val (.ref a1), .val (.ref a2), .val (.int (2 : Int32)), .val (.int (2 : Int32)), .unset] [])) (fun tt_ kk_ => XS.goto X3.here hx rfl (pc0 := 22) (pc' := 9) rfl (hb hby d2_22) (by decide) (by decide) kk_) ?_
  refine Wp.st (S' := T3.setTop (mkF m 10 #[.val (.ref a1), .val (.ref a2), .val (.int (2 : Int32)), .val (.int (2 : Int32)), .unset] [(.int (2 : Int32))])) (fun tt_ kk_ => XS.iloadN X3.here hx rfl (hb hby d2_9) rfl  kk_) ?_
  refine Wp.st (S' := T3.setTop (mkF m 11 #[.val (.ref a1), .val (.ref a2), .val (.int (2 : Int32)), .val (.int (2 : Int32)), .unset] [(.int (1 : Int32)), (.int (2 : Int32))])) (fun tt_ kk_ => XS.iconst X3.here hx rfl (hb hby d2_10) kk_) ?_
  refine Wp.st (S' := T3.setTop (mkF m 14 #[.val (.ref a1), .val (.ref a2), .val (.int (2 : Int32)), .val (.int (2 : Int32)), .unset] [])) (fun tt_ kk_ => XS.icmpNo X3.here hx rfl (hb hby d2_11) rfl (tlt ((by decide) : (1 : Int32) < (2 : Int32))).2.2.2 kk_) ?_
  refine Wp.st (S' := T3.setTop (mkF m 17 #[.val (.ref a1), .val (.ref a2), .val (.int ((2 : Int32) + (1 : Int32))), .val (.int (2 : Int32)), .unset] [])) (fun tt_ kk_ => XS.iinc X3.here hx rfl (hb hby d2_14) rfl (l' := #[.val (.ref a1), .val (.ref a2), .val (.int ((2 : Int32) + (1 : Int32))), .val (.int (2 : Int32)), .unset]) rfl kk_) ?_
  rw [(by decide : ((2 : Int32) + (1 : Int32)) = (3 : Int32))]
  refine Wp.st (S' := T3.setTop (mkF m 18 #[.val (.ref a1), .val (.ref a2), .val (.int (3 : Int32)), .val (.int (2 : Int32)), .unset] [(.int (2 : Int32))])) (fun tt_ kk_ => XS.iloadN X3.here hx rfl (hb hby d2_17) rfl  kk_) ?_
  obtain ⟨vv4, _, ⟨T4, L4, k4, n4⟩, -, X4, ⟨Lc4, hQ4, l4, y4, z4⟩, st4⟩ := Jvm.LawKit.callS X3 hx (y := (⟨"com/example/dags_over_clouds/dagsoverclouds/plan/Tally", "runs", "(I)I"⟩ : MethodName)) hown (mvT hZ (hw _ (List.mem_of_getElem? (i := 32) rfl))) (mvT hZ (hw _ (List.mem_of_getElem? (i := 33) rfl))) (mvT hZ (hw _ (List.mem_of_getElem? (i := 9) rfl))) (mvT hZ (hw _ (List.mem_of_getElem? (i := 34) rfl))) (by decide) (backOf (W := 0) (rm5 l Z a0 hw [] (2 : Int32) h0 n0 Z0 ) hZ (hw _ (List.mem_of_getElem? (i := 34) rfl)) (hw _ (List.mem_of_getElem? (i := 9) rfl)) (by decide) (by decide)) (g := (mkF m 18 #[.val (.ref a1), .val (.ref a2), .val (.int (3 : Int32)), .val (.int (2 : Int32)), .unset] [(.int (2 : Int32))])) rfl (by rw [hml]; rfl) (argsL := [(.int (2 : Int32))]) (rest := []) (lenOf pd_2 rfl) rfl (by show 2 * 0 + _ ≤ _; exact Nat.le_of_eq rfl) (hb hby d2_18) (fun _ _ => ⟨rfl, e3, (by decide : 0 + 0 ≤ _), (by decide : 0 + 0 ≤ _)⟩)
  dsimp only [Pt.U, Pt.locs, Pt.cells, Pt.slots] at X4 l4 y4 z4 st4 hQ4
  subst l4 y4 z4
  obtain ⟨rfl, Nq4, e4⟩ := hQ4
  have N4 := Fr.app N3 Nq4
  refine Wp.st (S' := T4.setTop (mkF m 21 #[.val (.ref a1), .val (.ref a2), .val (.int (3 : Int32)), .val (.int (2 : Int32)), .unset] [(.int (own_runs (2 : Int32)))])) st4 ?_
  rw [(by decide : (own_runs (2 : Int32)) = (1 : Int32))]
  refine Wp.st (S' := T4.setTop (mkF m 22 #[.val (.ref a1), .val (.ref a2), .val (.int (3 : Int32)), .val (.int (1 : Int32)), .unset] [])) (fun tt_ kk_ => XS.istoreN X4.here hx rfl (hb hby d2_21) rfl (l' := #[.val (.ref a1), .val (.ref a2), .val (.int (3 : Int32)), .val (.int (1 : Int32)), .unset]) rfl kk_) ?_
  refine Wp.st (S' := T4.setTop (mkF m 9 #[.val (.ref a1), .val (.ref a2), .val (.int (3 : Int32)), .val (.int (1 : Int32)), .unset] [])) (fun tt_ kk_ => XS.goto X4.here hx rfl (pc0 := 22) (pc' := 9) rfl (hb hby d2_22) (by decide) (by decide) kk_) ?_
  refine Wp.st (S' := T4.setTop (mkF m 10 #[.val (.ref a1), .val (.ref a2), .val (.int (3 : Int32)), .val (.int (1 : Int32)), .unset] [(.int (1 : Int32))])) (fun tt_ kk_ => XS.iloadN X4.here hx rfl (hb hby d2_9) rfl  kk_) ?_
  refine Wp.st (S' := T4.setTop (mkF m 11 #[.val (.ref a1), .val (.ref a2), .val (.int (3 : Int32)), .val (.int (1 : Int32)), .unset] [(.int (1 : Int32)), (.int (1 : Int32))])) (fun tt_ kk_ => XS.iconst X4.here hx rfl (hb hby d2_10) kk_) ?_
  refine Wp.st (S' := T4.setTop (mkF m 25 #[.val (.ref a1), .val (.ref a2), .val (.int (3 : Int32)), .val (.int (1 : Int32)), .unset] [])) (fun tt_ kk_ => XS.icmpYes X4.here hx rfl (pc0 := 11) (pc' := 25) rfl (hb hby d2_11) rfl (flt ((by decide) : ¬ ((1 : Int32) < (1 : Int32)))).2.2.2 (by decide) (by decide) kk_) ?_
  refine Wp.st (S' := T4.setTop (mkF m 26 #[.val (.ref a1), .val (.ref a2), .val (.int (3 : Int32)), .val (.int (1 : Int32)), .unset] [(.int (3 : Int32))])) (fun tt_ kk_ => XS.iloadN X4.here hx rfl (hb hby d2_25) rfl  kk_) ?_
  refine Wp.st (S' := T4.setTop (mkF m 27 #[.val (.ref a1), .val (.ref a2), .val (.int (3 : Int32)), .val (.int (1 : Int32)), .unset] [(.int (2 : Int32)), (.int (3 : Int32))])) (fun tt_ kk_ => XS.iconst X4.here hx rfl (hb hby d2_26) kk_) ?_
  obtain ⟨vv5, _, ⟨T5, L5, k5, n5⟩, -, X5, ⟨Lc5, hQ5, l5, y5, z5⟩, st5⟩ := Jvm.LawKit.callS X4 hx (y := (⟨"java/lang/Math", "max", "(II)I"⟩ : MethodName)) hown (mvT hZ (hw _ (List.mem_of_getElem? (i := 16) rfl))) (mvT hZ (hw _ (List.mem_of_getElem? (i := 17) rfl))) (mvT hZ (hw _ (List.mem_of_getElem? (i := 18) rfl))) (mvT hZ (hw _ (List.mem_of_getElem? (i := 19) rfl))) (by decide) (backOf (W := 0) (rm4 l Z a0 hw [] (3 : Int32) (2 : Int32) h0 n0 Z0 ) hZ (hw _ (List.mem_of_getElem? (i := 19) rfl)) (hw _ (List.mem_of_getElem? (i := 18) rfl)) (by decide) (by decide)) (g := (mkF m 27 #[.val (.ref a1), .val (.ref a2), .val (.int (3 : Int32)), .val (.int (1 : Int32)), .unset] [(.int (2 : Int32)), (.int (3 : Int32))])) rfl (by rw [hml]; rfl) (argsL := [(.int (3 : Int32)), (.int (2 : Int32))]) (rest := []) (lenOf pd_0 rfl) rfl (by show 2 * 0 + _ ≤ _; exact Nat.le_of_eq rfl) (hb hby d2_27) (fun _ _ => ⟨rfl, e4, (by decide : 0 + 0 ≤ _), (by decide : 0 + 0 ≤ _)⟩)
  dsimp only [Pt.U, Pt.locs, Pt.cells, Pt.slots] at X5 l5 y5 z5 st5 hQ5
  subst l5 y5 z5
  obtain ⟨rfl, Nq5, e5⟩ := hQ5
  have N5 := Fr.app N4 Nq5
  refine Wp.st (S' := T5.setTop (mkF m 30 #[.val (.ref a1), .val (.ref a2), .val (.int (3 : Int32)), .val (.int (1 : Int32)), .unset] [(.int (own_max (3 : Int32) (2 : Int32)))])) st5 ?_
  rw [(by decide : (own_max (3 : Int32) (2 : Int32)) = (3 : Int32))]
  refine Wp.st (S' := T5.setTop (mkF m 31 #[.val (.ref a1), .val (.ref a2), .val (.int (3 : Int32)), .val (.int (1 : Int32)), .unset] [])) (fun tt_ kk_ => XS.istoreN X5.here hx rfl (hb hby d2_30) rfl (l' := #[.val (.ref a1), .val (.ref a2), .val (.int (3 : Int32)), .val (.int (1 : Int32)), .unset]) rfl kk_) ?_
  refine Wp.st (S' := T5.setTop (mkF m 32 #[.val (.ref a1), .val (.ref a2), .val (.int (3 : Int32)), .val (.int (1 : Int32)), .unset] [(.ref a1)])) (fun tt_ kk_ => XS.aloadN X5.here hx rfl (hb hby d2_31) rfl rfl kk_) ?_
  refine Wp.st (S' := T5.setTop (mkF m 33 #[.val (.ref a1), .val (.ref a2), .val (.int (3 : Int32)), .val (.int (1 : Int32)), .unset] [(.int (3 : Int32)), (.ref a1)])) (fun tt_ kk_ => XS.iloadN X5.here hx rfl (hb hby d2_32) rfl  kk_) ?_
  obtain ⟨T6, h6, k6, X6, e6, E6, A6, Ea6, O6, st6⟩ := newRA X5 hx hZ hown (ty := .double) (C := "[D") (by decide +kernel) (hw _ (List.mem_of_getElem? (i := 20) rfl)) (hw _ (List.mem_of_getElem? (i := 21) rfl)) e5 (g := (mkF m 33 #[.val (.ref a1), .val (.ref a2), .val (.int (3 : Int32)), .val (.int (1 : Int32)), .unset] [(.int (3 : Int32)), (.ref a1)])) rfl (hb hby d2_33) rfl (by decide) (cap := 3) (by decide) (by decide) (by decide) (by decide) (ad := "[[D") (by decide +kernel)
  clear Ea6
  obtain ⟨b6, g6⟩ : ∃ z, z = h0.size := ⟨_, rfl⟩
  rw [← g6] at A6 st6
  have z7 := E6.1
  have V6 : Arv Z h6 b6 k6 (.array .double) (3 : Int32) [.null, .null, .null] .null := (Arv.new A6 (by decide)).pad (pad_rep [] .null 3)
  have g8 : n0 ≤ b6 := Nat.le_trans (Nat.le_trans Z0 (Nat.le_refl _)) (Nat.le_of_eq g6.symm)
  refine Wp.st (S' := T6.setTop (mkF m 36 #[.val (.ref a1), .val (.ref a2), .val (.int (3 : Int32)), .val (.int (1 : Int32)), .unset] [(.ref b6), (.ref a1)])) st6 ?_
  have F10 := P2.ext E6
  have F11 := P1.ext E6
  obtain ⟨T9, h9, X9, e9, W9, st9⟩ := putF X6 hx hZ hown (host := "") (Or.inl (hw _ (List.mem_of_getElem? (i := 22) rfl))) Via.refl e6 F10 F11 (Or.inr ⟨(hw _ (List.mem_of_getElem? (i := 23) rfl)), rfl, hnm⟩) (hw _ (List.mem_of_getElem? (i := 8) rfl)) (ty := (.array (.array .double))) (by decide) rfl rfl (g := (mkF m 36 #[.val (.ref a1), .val (.ref a2), .val (.int (3 : Int32)), .val (.int (1 : Int32)), .unset] [(.ref b6), (.ref a1)])) rfl rfl (hb hby d2_36)
  have z12 := Nat.le_of_eq W9.size.symm
  have Fw9 : Fld Z h9 a1 "com/example/dags_over_clouds/dagsoverclouds/plan/Tally" "levels" "[[D" (.ref b6) := F10.same W9
  have N9 := Fr.snoc X9 N5 g_a1
  refine Wp.st (S' := T9.setTop (mkF m 39 #[.val (.ref a1), .val (.ref a2), .val (.int (3 : Int32)), .val (.int (1 : Int32)), .unset] [])) st9 ?_
  refine Wp.st (S' := T9.setTop (mkF m 40 #[.val (.ref a1), .val (.ref a2), .val (.int (3 : Int32)), .val (.int (1 : Int32)), .unset] [(.ref a1)])) (fun tt_ kk_ => XS.aloadN X9.here hx rfl (hb hby d2_39) rfl rfl kk_) ?_
  obtain ⟨T13, X13, e13, st13⟩ := getF X9 hx hZ hown (host := "") (Or.inl (hw _ (List.mem_of_getElem? (i := 22) rfl))) Via.refl e9 Fw9 (g := (mkF m 40 #[.val (.ref a1), .val (.ref a2), .val (.int (3 : Int32)), .val (.int (1 : Int32)), .unset] [(.ref a1)])) rfl rfl (hb hby d2_40)
  refine Wp.st (S' := T13.setTop (mkF m 43 #[.val (.ref a1), .val (.ref a2), .val (.int (3 : Int32)), .val (.int (1 : Int32)), .unset] [(.ref b6)])) st13 ?_
  refine Wp.st (S' := T13.setTop (mkF m 44 #[.val (.ref a1), .val (.ref a2), .val (.int (3 : Int32)), .val (.int (1 : Int32)), .unset] [(.int (0 : Int32)), (.ref b6)])) (fun tt_ kk_ => XS.iconst X13.here hx rfl (hb hby d2_43) kk_) ?_
  refine Wp.st (S' := T13.setTop (mkF m 45 #[.val (.ref a1), .val (.ref a2), .val (.int (3 : Int32)), .val (.int (1 : Int32)), .unset] [(.ref a2), (.int (0 : Int32)), (.ref b6)])) (fun tt_ kk_ => XS.aloadN X13.here hx rfl (hb hby d2_44) rfl rfl kk_) ?_
  have F15 := P3.ext E6
  have F16 := F15.other W9 (Ne.symm n_a1_a2)
  have F17 := P4.ext E6
  have F18 := F17.wr W9
  obtain ⟨T14, h14, X14, e14, E14, A14, Ea14, st14⟩ := cloneH X13 hx hZ hown (hw _ (List.mem_of_getElem? (i := 24) rfl)) (hw _ (List.mem_of_getElem? (i := 25) rfl)) (hw _ (List.mem_of_getElem? (i := 29) rfl)) (hw _ (List.mem_of_getElem? (i := 27) rfl)) (hw _ (List.mem_of_getElem? (i := 28) rfl)) (hw _ (List.mem_of_getElem? (i := 30) rfl)) e13 (show Arh Z _ _ _ _ _ [] _ _ from F16) F18 (g := (mkF m 45 #[.val (.ref a1), .val (.ref a2), .val (.int (3 : Int32)), .val (.int (1 : Int32)), .unset] [(.ref a2), (.int (0 : Int32)), (.ref b6)])) rfl (by rw [hml]; rfl) rfl (hb hby d2_45) (by decide) (W := 2) (cap := 129) (by show 2 * 0 + _ ≤ _; exact Nat.le_of_eq rfl) (by decide) hcap (by decide) (by decide)
  obtain ⟨b14, g14⟩ : ∃ z, z = h9.size := ⟨_, rfl⟩
  rw [← g14] at A14 Ea14 st14
  have z19 := E14.1
  have V14 : Arv Z h14 b14 kt .double n (own_dl wf) (.double (0 : UInt64)) := A14
  have g20 : n0 ≤ b14 := Nat.le_trans (Nat.le_trans Z0 (Nat.le_trans z7 z12)) (Nat.le_of_eq g14.symm)
  refine Wp.st (S' := T14.setTop (mkF m 48 #[.val (.ref a1), .val (.ref a2), .val (.int (3 : Int32)), .val (.int (1 : Int32)), .unset] [(.ref b14), (.int (0 : Int32)), (.ref b6)])) st14 ?_
  obtain ⟨T21, X21, e21, st21⟩ := castY X14 hx hZ hown (hw _ (List.mem_of_getElem? (i := 20) rfl)) e14 (Ins.self Ea14) (g := (mkF m 48 #[.val (.ref a1), .val (.ref a2), .val (.int (3 : Int32)), .val (.int (1 : Int32)), .unset] [(.ref b14), (.int (0 : Int32)), (.ref b6)])) rfl rfl (hb hby d2_48)
  refine Wp.st (S' := T21.setTop (mkF m 51 #[.val (.ref a1), .val (.ref a2), .val (.int (3 : Int32)), .val (.int (1 : Int32)), .unset] [(.ref b14), (.int (0 : Int32)), (.ref b6)])) st21 ?_
  have F22 := V6.other W9 (Ne.symm (Nat.ne_of_lt (Nat.lt_of_lt_of_le P1.lt (Nat.le_trans (Nat.le_refl _) (Nat.le_of_eq g6.symm)))))
  have F23 := F22.ext E14
  obtain ⟨cl24, Ar24, q24, S24, N24, H24, G24⟩ := id F23
  have hin24 := inb_of (j := (0 : Int32)) S24 ⟨by decide, by decide⟩
  obtain ⟨T24, h24, X24, e24, W24, st24⟩ := stR X21 hx hZ e21 Ar24 (j := (0 : Int32)) hin24 rfl (Sto.ofVA Ar24 q24 O6 (Ins.self Ea14)) (g := (mkF m 51 #[.val (.ref a1), .val (.ref a2), .val (.int (3 : Int32)), .val (.int (1 : Int32)), .unset] [(.ref b14), (.int (0 : Int32)), (.ref b6)])) rfl rfl (hb hby d2_51)
  have z25 := Nat.le_of_eq W24.size.symm
  have V24 : Arv Z h24 b6 k6 (.array .double) (3 : Int32) [(.ref b14), .null, .null] .null := Arv.set Ar24 q24 S24 N24 H24 G24 rfl W24 0 rfl (Nat.le_of_ble_eq_true rfl)
  have Nf24 := Fr.snoc X24 N9 g8
  refine Wp.st (S' := T24.setTop (mkF m 52 #[.val (.ref a1), .val (.ref a2), .val (.int (3 : Int32)), .val (.int (1 : Int32)), .unset] [])) st24 ?_
  refine Wp.st (S' := T24.setTop (mkF m 53 #[.val (.ref a1), .val (.ref a2), .val (.int (3 : Int32)), .val (.int (1 : Int32)), .unset] [(.int (1 : Int32))])) (fun tt_ kk_ => XS.iconst X24.here hx rfl (hb hby d2_52) kk_) ?_
  refine Wp.st (S' := T24.setTop (mkF m 54 #[.val (.ref a1), .val (.ref a2), .val (.int (3 : Int32)), .val (.int (1 : Int32)), .unset] [])) (fun tt_ kk_ => XS.istoreN X24.here hx rfl (hb hby d2_53) rfl (l' := #[.val (.ref a1), .val (.ref a2), .val (.int (3 : Int32)), .val (.int (1 : Int32)), .unset]) rfl kk_) ?_
  refine Wp.st (S' := T24.setTop (mkF m 55 #[.val (.ref a1), .val (.ref a2), .val (.int (3 : Int32)), .val (.int (1 : Int32)), .unset] [(.int (1 : Int32))])) (fun tt_ kk_ => XS.iloadN X24.here hx rfl (hb hby d2_54) rfl  kk_) ?_
  refine Wp.st (S' := T24.setTop (mkF m 56 #[.val (.ref a1), .val (.ref a2), .val (.int (3 : Int32)), .val (.int (1 : Int32)), .unset] [(.int (3 : Int32)), (.int (1 : Int32))])) (fun tt_ kk_ => XS.iloadN X24.here hx rfl (hb hby d2_55) rfl  kk_) ?_
  refine Wp.st (S' := T24.setTop (mkF m 59 #[.val (.ref a1), .val (.ref a2), .val (.int (3 : Int32)), .val (.int (1 : Int32)), .unset] [])) (fun tt_ kk_ => XS.icmpNo X24.here hx rfl (hb hby d2_56) rfl (tlt ((by decide) : (1 : Int32) < (3 : Int32))).2.1 kk_) ?_
  refine Wp.st (S' := T24.setTop (mkF m 60 #[.val (.ref a1), .val (.ref a2), .val (.int (3 : Int32)), .val (.int (1 : Int32)), .unset] [(.ref a1)])) (fun tt_ kk_ => XS.aloadN X24.here hx rfl (hb hby d2_59) rfl rfl kk_) ?_
  have F26 := Fw9.ext E14
  have F27 := F26.other W24 (Or.inl (Nat.ne_of_lt (Nat.lt_of_lt_of_le P1.lt (Nat.le_trans (Nat.le_refl _) (Nat.le_of_eq g6.symm)))))
  obtain ⟨T28, X28, e28, st28⟩ := getF X24 hx hZ hown (host := "") (Or.inl (hw _ (List.mem_of_getElem? (i := 22) rfl))) Via.refl e24 F27 (g := (mkF m 60 #[.val (.ref a1), .val (.ref a2), .val (.int (3 : Int32)), .val (.int (1 : Int32)), .unset] [(.ref a1)])) rfl rfl (hb hby d2_60)
  refine Wp.st (S' := T28.setTop (mkF m 63 #[.val (.ref a1), .val (.ref a2), .val (.int (3 : Int32)), .val (.int (1 : Int32)), .unset] [(.ref b6)])) st28 ?_
  refine Wp.st (S' := T28.setTop (mkF m 64 #[.val (.ref a1), .val (.ref a2), .val (.int (3 : Int32)), .val (.int (1 : Int32)), .unset] [(.int (1 : Int32)), (.ref b6)])) (fun tt_ kk_ => XS.iloadN X28.here hx rfl (hb hby d2_63) rfl  kk_) ?_
  refine Wp.st (S' := T28.setTop (mkF m 65 #[.val (.ref a1), .val (.ref a2), .val (.int (3 : Int32)), .val (.int (1 : Int32)), .unset] [(.ref a1), (.int (1 : Int32)), (.ref b6)])) (fun tt_ kk_ => XS.aloadN X28.here hx rfl (hb hby d2_64) rfl rfl kk_) ?_
  obtain ⟨T29, X29, e29, st29⟩ := getF X28 hx hZ hown (host := "") (Or.inl (hw _ (List.mem_of_getElem? (i := 22) rfl))) Via.refl e28 F27 (g := (mkF m 65 #[.val (.ref a1), .val (.ref a2), .val (.int (3 : Int32)), .val (.int (1 : Int32)), .unset] [(.ref a1), (.int (1 : Int32)), (.ref b6)])) rfl rfl (hb hby d2_65)
  refine Wp.st (S' := T29.setTop (mkF m 68 #[.val (.ref a1), .val (.ref a2), .val (.int (3 : Int32)), .val (.int (1 : Int32)), .unset] [(.ref b6), (.int (1 : Int32)), (.ref b6)])) st29 ?_
  refine Wp.st (S' := T29.setTop (mkF m 69 #[.val (.ref a1), .val (.ref a2), .val (.int (3 : Int32)), .val (.int (1 : Int32)), .unset] [(.int (1 : Int32)), (.ref b6), (.int (1 : Int32)), (.ref b6)])) (fun tt_ kk_ => XS.iloadN X29.here hx rfl (hb hby d2_68) rfl  kk_) ?_
  refine Wp.st (S' := T29.setTop (mkF m 70 #[.val (.ref a1), .val (.ref a2), .val (.int (3 : Int32)), .val (.int (1 : Int32)), .unset] [(.int (1 : Int32)), (.int (1 : Int32)), (.ref b6), (.int (1 : Int32)), (.ref b6)])) (fun tt_ kk_ => XS.iconst X29.here hx rfl (hb hby d2_69) kk_) ?_
  refine Wp.st (S' := T29.setTop (mkF m 71 #[.val (.ref a1), .val (.ref a2), .val (.int (3 : Int32)), .val (.int (1 : Int32)), .unset] [(.int ((1 : Int32) - (1 : Int32))), (.ref b6), (.int (1 : Int32)), (.ref b6)])) (fun tt_ kk_ => XS.isub X29.here hx rfl (hb hby d2_70) rfl kk_) ?_
  rw [(by decide : ((1 : Int32) - (1 : Int32)) = (0 : Int32))]
  obtain ⟨cl30, Ar30, q30, S30, N30, H30, G30⟩ := id V24
  have hin30 := inb_of (j := (0 : Int32)) S30 ⟨by decide, by decide⟩
  refine Wp.st (S' := T29.setTop (mkF m 72 #[.val (.ref a1), .val (.ref a2), .val (.int (3 : Int32)), .val (.int (1 : Int32)), .unset] [(.ref b14), (.int (1 : Int32)), (.ref b6)])) (fun tt_ kk_ => X29.aaload hx (j := (0 : Int32)) (v := (.ref b14)) (by rw [e29]; exact Ar30.1) (State.isArrayOf_alike hZ.alike Ar30.2.1) rfl Ar30.2.2 hin30 (H30.at hin30 rfl) (g := (mkF m 71 #[.val (.ref a1), .val (.ref a2), .val (.int (3 : Int32)), .val (.int (1 : Int32)), .unset] [(.int (0 : Int32)), (.ref b6), (.int (1 : Int32)), (.ref b6)])) rfl rfl (hb hby d2_71) tt_ kk_) ?_
  have F31 := V14.other W24 (Ne.symm (Nat.ne_of_lt (Nat.lt_of_lt_of_le V6.lt (Nat.le_trans z12 (Nat.le_of_eq g14.symm)))))
  obtain ⟨cl32, Ar32, q32, S32, N32, H32, G32⟩ := id F31
  refine Wp.st (S' := T29.setTop (mkF m 73 #[.val (.ref a1), .val (.ref a2), .val (.int (3 : Int32)), .val (.int (1 : Int32)), .unset] [(.int n), (.int (1 : Int32)), (.ref b6)])) (fun tt_ kk_ => X29.arraylength hx (by rw [e29]; exact Ar32.1) (State.isArrayOf_alike hZ.alike Ar32.2.1) (g := (mkF m 72 #[.val (.ref a1), .val (.ref a2), .val (.int (3 : Int32)), .val (.int (1 : Int32)), .unset] [(.ref b14), (.int (1 : Int32)), (.ref b6)])) rfl rfl (hb hby d2_72) tt_ (by rw [len_of S32 N32]; exact kk_)) ?_
  obtain ⟨vv33, _, ⟨T33, L33, k33, n33⟩, -, X33, ⟨Lc33, hQ33, l33, y33, z33⟩, st33⟩ := Jvm.LawKit.callS X29 hx (y := (⟨"com/example/dags_over_clouds/dagsoverclouds/plan/Tally", "runs", "(I)I"⟩ : MethodName)) hown (mvT hZ (hw _ (List.mem_of_getElem? (i := 32) rfl))) (mvT hZ (hw _ (List.mem_of_getElem? (i := 33) rfl))) (mvT hZ (hw _ (List.mem_of_getElem? (i := 9) rfl))) (mvT hZ (hw _ (List.mem_of_getElem? (i := 34) rfl))) (by decide) (backOf (W := 2) (rm5 l Z a0 hw [] n h24 n0 (Nat.le_trans Z0 (Nat.le_trans (Nat.le_trans (Nat.le_trans z7 z12) z19) z25)) ) hZ (hw _ (List.mem_of_getElem? (i := 34) rfl)) (hw _ (List.mem_of_getElem? (i := 9) rfl)) (by decide) (by decide)) (g := (mkF m 73 #[.val (.ref a1), .val (.ref a2), .val (.int (3 : Int32)), .val (.int (1 : Int32)), .unset] [(.int n), (.int (1 : Int32)), (.ref b6)])) rfl (by rw [hml]; rfl) (argsL := [(.int n)]) (rest := [(.int (1 : Int32)), (.ref b6)]) (lenOf pd_2 rfl) rfl (by show 2 * 0 + _ ≤ _; exact Nat.le_of_eq rfl) (hb hby d2_73) (fun _ _ => ⟨rfl, e29, (by decide : 2 + 0 ≤ _), (by decide : 132 + 0 ≤ _)⟩)
  dsimp only [Pt.U, Pt.locs, Pt.cells, Pt.slots] at X33 l33 y33 z33 st33 hQ33
  subst l33 y33 z33
  obtain ⟨rfl, Nq33, e33⟩ := hQ33
  have N33 := Fr.app Nf24 Nq33
  refine Wp.st (S' := T33.setTop (mkF m 76 #[.val (.ref a1), .val (.ref a2), .val (.int (3 : Int32)), .val (.int (1 : Int32)), .unset] [(.int (own_runs n)), (.int (1 : Int32)), (.ref b6)])) st33 ?_
  rw [(hru : (own_runs n) = (2 : Int32))]
  obtain ⟨T34, h34, k34, X34, e34, E34, A34, Ea34, st34⟩ := newPE X33 hx hZ (hw _ (List.mem_of_getElem? (i := 6) rfl)) e33 (g := (mkF m 76 #[.val (.ref a1), .val (.ref a2), .val (.int (3 : Int32)), .val (.int (1 : Int32)), .unset] [(.int (2 : Int32)), (.int (1 : Int32)), (.ref b6)])) rfl (hb hby d2_76) rfl (by decide) (cap := 2) (by decide) (by decide) (by decide) (by decide) (ad := "[D") (by decide +kernel)
  obtain ⟨b34, g34⟩ : ∃ z, z = h24.size := ⟨_, rfl⟩
  rw [← g34] at A34 Ea34 st34
  have z35 := E34.1
  have V34 : Arv Z h34 b34 k34 .double (2 : Int32) [(.double (0 : UInt64)), (.double (0 : UInt64))] (.double (0 : UInt64)) := (Arv.new A34 (by decide)).pad (pad_rep [] (.double (0 : UInt64)) 2)
  have g36 : n0 ≤ b34 := Nat.le_trans (Nat.le_trans Z0 (Nat.le_trans (Nat.le_trans (Nat.le_trans z7 z12) z19) z25)) (Nat.le_of_eq g34.symm)
  refine Wp.st (S' := T34.setTop (mkF m 78 #[.val (.ref a1), .val (.ref a2), .val (.int (3 : Int32)), .val (.int (1 : Int32)), .unset] [(.ref b34), (.int (1 : Int32)), (.ref b6)])) st34 ?_
  have Vz37 : Arv Z h34 b34 k34 .double (2 : Int32) (own_dl own_z) (.double (0 : UInt64)) := (V34).pad (own_zpad 2)
  have F38 := V24.ext E34
  obtain ⟨cl39, Ar39, q39, S39, N39, H39, G39⟩ := id F38
  have hin39 := inb_of (j := (1 : Int32)) S39 ⟨by decide, by decide⟩
  obtain ⟨T39, h39, X39, e39, W39, st39⟩ := stR X34 hx hZ e34 Ar39 (j := (1 : Int32)) hin39 rfl (Sto.ofVA Ar39 q39 O6 (Ins.self Ea34)) (g := (mkF m 78 #[.val (.ref a1), .val (.ref a2), .val (.int (3 : Int32)), .val (.int (1 : Int32)), .unset] [(.ref b34), (.int (1 : Int32)), (.ref b6)])) rfl rfl (hb hby d2_78)
  have z40 := Nat.le_of_eq W39.size.symm
  have V39 : Arv Z h39 b6 k6 (.array .double) (3 : Int32) [(.ref b14), (.ref b34), .null] .null := Arv.set Ar39 q39 S39 N39 H39 G39 rfl W39 1 rfl (Nat.le_of_ble_eq_true rfl)
  have Nf39 := Fr.snoc X39 N33 g8
  refine Wp.st (S' := T39.setTop (mkF m 79 #[.val (.ref a1), .val (.ref a2), .val (.int (3 : Int32)), .val (.int (1 : Int32)), .unset] [])) st39 ?_
  refine Wp.st (S' := T39.setTop (mkF m 80 #[.val (.ref a1), .val (.ref a2), .val (.int (3 : Int32)), .val (.int (1 : Int32)), .unset] [(.int (0 : Int32))])) (fun tt_ kk_ => XS.iconst X39.here hx rfl (hb hby d2_79) kk_) ?_
  refine Wp.st (S' := T39.setTop (mkF m 82 #[.val (.ref a1), .val (.ref a2), .val (.int (3 : Int32)), .val (.int (1 : Int32)), .val (.int (0 : Int32))] [])) (fun tt_ kk_ => XS.istore X39.here hx rfl (hb hby d2_80) rfl (l' := #[.val (.ref a1), .val (.ref a2), .val (.int (3 : Int32)), .val (.int (1 : Int32)), .val (.int (0 : Int32))]) rfl kk_) ?_
  refine Wp.st (S' := T39.setTop (mkF m 84 #[.val (.ref a1), .val (.ref a2), .val (.int (3 : Int32)), .val (.int (1 : Int32)), .val (.int (0 : Int32))] [(.int (0 : Int32))])) (fun tt_ kk_ => XS.iload X39.here hx rfl (hb hby d2_82) rfl  kk_) ?_
  refine Wp.st (S' := T39.setTop (mkF m 85 #[.val (.ref a1), .val (.ref a2), .val (.int (3 : Int32)), .val (.int (1 : Int32)), .val (.int (0 : Int32))] [(.ref a1), (.int (0 : Int32))])) (fun tt_ kk_ => XS.aloadN X39.here hx rfl (hb hby d2_84) rfl rfl kk_) ?_
  have F41 := F27.ext E34
  have F42 := F41.other W39 (Or.inl (Nat.ne_of_lt (Nat.lt_of_lt_of_le P1.lt (Nat.le_trans (Nat.le_refl _) (Nat.le_of_eq g6.symm)))))
  obtain ⟨T43, X43, e43, st43⟩ := getF X39 hx hZ hown (host := "") (Or.inl (hw _ (List.mem_of_getElem? (i := 22) rfl))) Via.refl e39 F42 (g := (mkF m 85 #[.val (.ref a1), .val (.ref a2), .val (.int (3 : Int32)), .val (.int (1 : Int32)), .val (.int (0 : Int32))] [(.ref a1), (.int (0 : Int32))])) rfl rfl (hb hby d2_85)
  refine Wp.st (S' := T43.setTop (mkF m 88 #[.val (.ref a1), .val (.ref a2), .val (.int (3 : Int32)), .val (.int (1 : Int32)), .val (.int (0 : Int32))] [(.ref b6), (.int (0 : Int32))])) st43 ?_
  refine Wp.st (S' := T43.setTop (mkF m 89 #[.val (.ref a1), .val (.ref a2), .val (.int (3 : Int32)), .val (.int (1 : Int32)), .val (.int (0 : Int32))] [(.int (1 : Int32)), (.ref b6), (.int (0 : Int32))])) (fun tt_ kk_ => XS.iloadN X43.here hx rfl (hb hby d2_88) rfl  kk_) ?_
  obtain ⟨cl44, Ar44, q44, S44, N44, H44, G44⟩ := id V39
  have hin44 := inb_of (j := (1 : Int32)) S44 ⟨by decide, by decide⟩
  refine Wp.st (S' := T43.setTop (mkF m 90 #[.val (.ref a1), .val (.ref a2), .val (.int (3 : Int32)), .val (.int (1 : Int32)), .val (.int (0 : Int32))] [(.ref b34), (.int (0 : Int32))])) (fun tt_ kk_ => X43.aaload hx (j := (1 : Int32)) (v := (.ref b34)) (by rw [e43]; exact Ar44.1) (State.isArrayOf_alike hZ.alike Ar44.2.1) rfl Ar44.2.2 hin44 (H44.at hin44 rfl) (g := (mkF m 89 #[.val (.ref a1), .val (.ref a2), .val (.int (3 : Int32)), .val (.int (1 : Int32)), .val (.int (0 : Int32))] [(.int (1 : Int32)), (.ref b6), (.int (0 : Int32))])) rfl rfl (hb hby d2_89) tt_ kk_) ?_
  have F45 := Vz37.other W39 (Ne.symm (Nat.ne_of_lt (Nat.lt_of_lt_of_le V6.lt (Nat.le_trans (Nat.le_trans (Nat.le_trans z12 z19) z25) (Nat.le_of_eq g34.symm)))))
  obtain ⟨cl46, Ar46, q46, S46, N46, H46, G46⟩ := id F45
  refine Wp.st (S' := T43.setTop (mkF m 91 #[.val (.ref a1), .val (.ref a2), .val (.int (3 : Int32)), .val (.int (1 : Int32)), .val (.int (0 : Int32))] [(.int (2 : Int32)), (.int (0 : Int32))])) (fun tt_ kk_ => X43.arraylength hx (by rw [e43]; exact Ar46.1) (State.isArrayOf_alike hZ.alike Ar46.2.1) (g := (mkF m 90 #[.val (.ref a1), .val (.ref a2), .val (.int (3 : Int32)), .val (.int (1 : Int32)), .val (.int (0 : Int32))] [(.ref b34), (.int (0 : Int32))])) rfl rfl (hb hby d2_90) tt_ (by rw [len_of S46 N46]; exact kk_)) ?_
  refine Wp.st (S' := T43.setTop (mkF m 94 #[.val (.ref a1), .val (.ref a2), .val (.int (3 : Int32)), .val (.int (1 : Int32)), .val (.int (0 : Int32))] [])) (fun tt_ kk_ => XS.icmpNo X43.here hx rfl (hb hby d2_91) rfl (tlt ((by decide) : (0 : Int32) < (2 : Int32))).2.1 kk_) ?_
  refine Wp.st (S' := T43.setTop (mkF m 95 #[.val (.ref a1), .val (.ref a2), .val (.int (3 : Int32)), .val (.int (1 : Int32)), .val (.int (0 : Int32))] [(.ref a1)])) (fun tt_ kk_ => XS.aloadN X43.here hx rfl (hb hby d2_94) rfl rfl kk_) ?_
  refine Wp.st (S' := T43.setTop (mkF m 96 #[.val (.ref a1), .val (.ref a2), .val (.int (3 : Int32)), .val (.int (1 : Int32)), .val (.int (0 : Int32))] [(.int (1 : Int32)), (.ref a1)])) (fun tt_ kk_ => XS.iloadN X43.here hx rfl (hb hby d2_95) rfl  kk_) ?_
  refine Wp.st (S' := T43.setTop (mkF m 98 #[.val (.ref a1), .val (.ref a2), .val (.int (3 : Int32)), .val (.int (1 : Int32)), .val (.int (0 : Int32))] [(.int (0 : Int32)), (.int (1 : Int32)), (.ref a1)])) (fun tt_ kk_ => XS.iload X43.here hx rfl (hb hby d2_96) rfl  kk_) ?_
  have F48 := F31.ext E34
  have F49 := F48.other W39 (Ne.symm (Nat.ne_of_lt (Nat.lt_of_lt_of_le V6.lt (Nat.le_trans z12 (Nat.le_of_eq g14.symm)))))
  have F50 := F11.wr W9
  have F51 := F50.ext E14
  have F52 := F51.wr W24
  have F53 := F52.ext E34
  have F54 := F53.wr W39
  obtain ⟨cq47, q47, q47'⟩ := (F54).cell
  obtain ⟨vv47, _, ⟨T47, L47, k47, n47⟩, -, X47, ⟨Lc47, hQ47, l47, y47, z47⟩, st47⟩ := X43.privateBack hx (y := (⟨"com/example/dags_over_clouds/dagsoverclouds/plan/Tally", "addUp", "(II)V"⟩ : MethodName)) hown (mvT hZ (hw _ (List.mem_of_getElem? (i := 35) rfl))) (mvT hZ (hw _ (List.mem_of_getElem? (i := 36) rfl))) (mvT hZ (own_selP (hw _ (List.mem_of_getElem? (i := 45) rfl)) (hw _ (List.mem_of_getElem? (i := 36) rfl)) (hw _ (List.mem_of_getElem? (i := 37) rfl)))) (Cond.privateMethod_at (mvP hZ (hw _ (List.mem_of_getElem? (i := 37) rfl)) (args := #[]))) (mvT hZ (hw _ (List.mem_of_getElem? (i := 38) rfl))) (by decide) (backOf (W := 0) (rmAdd31 l Z a0 hw [] a1 (0 : Int32) b6 b14 b34 .null k6 kt k34 n (2 : Int32) wf own_z h39 n0 (Nat.le_trans Z0 (Nat.le_trans (Nat.le_trans (Nat.le_trans (Nat.le_trans (Nat.le_trans z7 z12) z19) z25) z35) z40)) g36 F42 V39 F49 F45 ((by first | assumption | exact own_b_of (by assumption) | (repeat first | exact own_b_z | assumption | refine own_b_up ?_ _ (own_R_b (by assumption) _ _))) : own_b wf) ((by assumption) : own_hr (0 : Int32) n (2 : Int32))) hZ (hw _ (List.mem_of_getElem? (i := 38) rfl)) (hw _ (List.mem_of_getElem? (i := 9) rfl)) (by decide) (by decide)) (g := (mkF m 98 #[.val (.ref a1), .val (.ref a2), .val (.int (3 : Int32)), .val (.int (1 : Int32)), .val (.int (0 : Int32))] [(.int (0 : Int32)), (.int (1 : Int32)), (.ref a1)])) rfl (by rw [hml]; rfl) (Steps.refl _) (a := a1) (by rw [e43]; exact q47) q47' (argsL := [(.int (1 : Int32)), (.int (0 : Int32))]) (rest := []) (lenOf pd_1 rfl) rfl (by show 2 * 0 + _ ≤ _; exact Nat.le_of_eq rfl) (hb hby d2_98) (fun _ _ => ⟨rfl, e43, (by decide : 3 + 0 ≤ _), (by decide : 134 + 0 ≤ _)⟩)
  dsimp only [Pt.U, Pt.locs, Pt.cells, Pt.slots] at X47 l47 y47 z47 st47 hQ47
  subst l47 y47 z47
  obtain ⟨rfl, Nq47, K47, P47_0⟩ := hQ47
  have N47 := Fr.app Nf39 Nq47
  have z55 := K47.1
  have e47 : T47.heap = T47.heap := rfl
  refine Wp.tr (S' := T47.setTop (mkF m 101 #[.val (.ref a1), .val (.ref a2), .val (.int (3 : Int32)), .val (.int (1 : Int32)), .val (.int (0 : Int32))] [])) st47 ?_
  refine Wp.st (S' := T47.setTop (mkF m 104 #[.val (.ref a1), .val (.ref a2), .val (.int (3 : Int32)), .val (.int (1 : Int32)), .val (.int ((0 : Int32) + (1 : Int32)))] [])) (fun tt_ kk_ => XS.iinc X47.here hx rfl (hb hby d2_101) rfl (l' := #[.val (.ref a1), .val (.ref a2), .val (.int (3 : Int32)), .val (.int (1 : Int32)), .val (.int ((0 : Int32) + (1 : Int32)))]) rfl kk_) ?_
  rw [(by decide : ((0 : Int32) + (1 : Int32)) = (1 : Int32))]
  refine Wp.st (S' := T47.setTop (mkF m 82 #[.val (.ref a1), .val (.ref a2), .val (.int (3 : Int32)), .val (.int (1 : Int32)), .val (.int (1 : Int32))] [])) (fun tt_ kk_ => XS.goto X47.here hx rfl (pc0 := 104) (pc' := 82) rfl (hb hby d2_104) (by decide) (by decide) kk_) ?_
  refine Wp.st (S' := T47.setTop (mkF m 84 #[.val (.ref a1), .val (.ref a2), .val (.int (3 : Int32)), .val (.int (1 : Int32)), .val (.int (1 : Int32))] [(.int (1 : Int32))])) (fun tt_ kk_ => XS.iload X47.here hx rfl (hb hby d2_82) rfl  kk_) ?_
  refine Wp.st (S' := T47.setTop (mkF m 85 #[.val (.ref a1), .val (.ref a2), .val (.int (3 : Int32)), .val (.int (1 : Int32)), .val (.int (1 : Int32))] [(.ref a1), (.int (1 : Int32))])) (fun tt_ kk_ => XS.aloadN X47.here hx rfl (hb hby d2_84) rfl rfl kk_) ?_
  have F56 := F42.keep K47 (ninS (Nat.ne_of_lt (Nat.lt_of_lt_of_le P1.lt (Nat.le_trans (Nat.le_trans (Nat.le_trans (Nat.le_trans z7 z12) z19) z25) (Nat.le_of_eq g34.symm)))) nin0)
  obtain ⟨T57, X57, e57, st57⟩ := getF X47 hx hZ hown (host := "") (Or.inl (hw _ (List.mem_of_getElem? (i := 22) rfl))) Via.refl e47 F56 (g := (mkF m 85 #[.val (.ref a1), .val (.ref a2), .val (.int (3 : Int32)), .val (.int (1 : Int32)), .val (.int (1 : Int32))] [(.ref a1), (.int (1 : Int32))])) rfl rfl (hb hby d2_85)
  refine Wp.st (S' := T57.setTop (mkF m 88 #[.val (.ref a1), .val (.ref a2), .val (.int (3 : Int32)), .val (.int (1 : Int32)), .val (.int (1 : Int32))] [(.ref b6), (.int (1 : Int32))])) st57 ?_
  refine Wp.st (S' := T57.setTop (mkF m 89 #[.val (.ref a1), .val (.ref a2), .val (.int (3 : Int32)), .val (.int (1 : Int32)), .val (.int (1 : Int32))] [(.int (1 : Int32)), (.ref b6), (.int (1 : Int32))])) (fun tt_ kk_ => XS.iloadN X57.here hx rfl (hb hby d2_88) rfl  kk_) ?_
  have F58 := V39.keep K47 (ninS (Nat.ne_of_lt (Nat.lt_of_lt_of_le V6.lt (Nat.le_trans (Nat.le_trans (Nat.le_trans z12 z19) z25) (Nat.le_of_eq g34.symm)))) nin0)
  obtain ⟨cl59, Ar59, q59, S59, N59, H59, G59⟩ := id F58
  have hin59 := inb_of (j := (1 : Int32)) S59 ⟨by decide, by decide⟩
  refine Wp.st (S' := T57.setTop (mkF m 90 #[.val (.ref a1), .val (.ref a2), .val (.int (3 : Int32)), .val (.int (1 : Int32)), .val (.int (1 : Int32))] [(.ref b34), (.int (1 : Int32))])) (fun tt_ kk_ => X57.aaload hx (j := (1 : Int32)) (v := (.ref b34)) (by rw [e57]; exact Ar59.1) (State.isArrayOf_alike hZ.alike Ar59.2.1) rfl Ar59.2.2 hin59 (H59.at hin59 rfl) (g := (mkF m 89 #[.val (.ref a1), .val (.ref a2), .val (.int (3 : Int32)), .val (.int (1 : Int32)), .val (.int (1 : Int32))] [(.int (1 : Int32)), (.ref b6), (.int (1 : Int32))])) rfl rfl (hb hby d2_89) tt_ kk_) ?_
  obtain ⟨cl60, Ar60, q60, S60, N60, H60, G60⟩ := id P47_0
  refine Wp.st (S' := T57.setTop (mkF m 91 #[.val (.ref a1), .val (.ref a2), .val (.int (3 : Int32)), .val (.int (1 : Int32)), .val (.int (1 : Int32))] [(.int (2 : Int32)), (.int (1 : Int32))])) (fun tt_ kk_ => X57.arraylength hx (by rw [e57]; exact Ar60.1) (State.isArrayOf_alike hZ.alike Ar60.2.1) (g := (mkF m 90 #[.val (.ref a1), .val (.ref a2), .val (.int (3 : Int32)), .val (.int (1 : Int32)), .val (.int (1 : Int32))] [(.ref b34), (.int (1 : Int32))])) rfl rfl (hb hby d2_90) tt_ (by rw [len_of S60 N60]; exact kk_)) ?_
  refine Wp.st (S' := T57.setTop (mkF m 94 #[.val (.ref a1), .val (.ref a2), .val (.int (3 : Int32)), .val (.int (1 : Int32)), .val (.int (1 : Int32))] [])) (fun tt_ kk_ => XS.icmpNo X57.here hx rfl (hb hby d2_91) rfl (tlt ((by decide) : (1 : Int32) < (2 : Int32))).2.1 kk_) ?_
  refine Wp.st (S' := T57.setTop (mkF m 95 #[.val (.ref a1), .val (.ref a2), .val (.int (3 : Int32)), .val (.int (1 : Int32)), .val (.int (1 : Int32))] [(.ref a1)])) (fun tt_ kk_ => XS.aloadN X57.here hx rfl (hb hby d2_94) rfl rfl kk_) ?_
  refine Wp.st (S' := T57.setTop (mkF m 96 #[.val (.ref a1), .val (.ref a2), .val (.int (3 : Int32)), .val (.int (1 : Int32)), .val (.int (1 : Int32))] [(.int (1 : Int32)), (.ref a1)])) (fun tt_ kk_ => XS.iloadN X57.here hx rfl (hb hby d2_95) rfl  kk_) ?_
  refine Wp.st (S' := T57.setTop (mkF m 98 #[.val (.ref a1), .val (.ref a2), .val (.int (3 : Int32)), .val (.int (1 : Int32)), .val (.int (1 : Int32))] [(.int (1 : Int32)), (.int (1 : Int32)), (.ref a1)])) (fun tt_ kk_ => XS.iload X57.here hx rfl (hb hby d2_96) rfl  kk_) ?_
  have F62 := F49.keep K47 (ninS (Nat.ne_of_lt (Nat.lt_of_lt_of_le Ea14.lt (Nat.le_trans z25 (Nat.le_of_eq g34.symm)))) nin0)
  have F63 := F54.keep K47
  obtain ⟨cq61, q61, q61'⟩ := (F63).cell
  obtain ⟨vv61, _, ⟨T61, L61, k61, n61⟩, -, X61, ⟨Lc61, hQ61, l61, y61, z61⟩, st61⟩ := X57.privateBack hx (y := (⟨"com/example/dags_over_clouds/dagsoverclouds/plan/Tally", "addUp", "(II)V"⟩ : MethodName)) hown (mvT hZ (hw _ (List.mem_of_getElem? (i := 35) rfl))) (mvT hZ (hw _ (List.mem_of_getElem? (i := 36) rfl))) (mvT hZ (own_selP (hw _ (List.mem_of_getElem? (i := 45) rfl)) (hw _ (List.mem_of_getElem? (i := 36) rfl)) (hw _ (List.mem_of_getElem? (i := 37) rfl)))) (Cond.privateMethod_at (mvP hZ (hw _ (List.mem_of_getElem? (i := 37) rfl)) (args := #[]))) (mvT hZ (hw _ (List.mem_of_getElem? (i := 38) rfl))) (by decide) (backOf (W := 0) (rmAdd31 l Z a0 hw [] a1 (1 : Int32) b6 b14 b34 .null k6 kt k34 n (2 : Int32) wf (own_up own_z (0 : Int32).toNatClampNeg (own_R wf n.toNatClampNeg (0 : Int32).toNatClampNeg)) T47.heap n0 (Nat.le_trans Z0 (Nat.le_trans (Nat.le_trans (Nat.le_trans (Nat.le_trans (Nat.le_trans (Nat.le_trans z7 z12) z19) z25) z35) z40) z55)) g36 F56 F58 F62 P47_0 ((by first | assumption | exact own_b_of (by assumption) | (repeat first | exact own_b_z | assumption | refine own_b_up ?_ _ (own_R_b (by assumption) _ _))) : own_b wf) ((by assumption) : own_hr (1 : Int32) n (2 : Int32))) hZ (hw _ (List.mem_of_getElem? (i := 38) rfl)) (hw _ (List.mem_of_getElem? (i := 9) rfl)) (by decide) (by decide)) (g := (mkF m 98 #[.val (.ref a1), .val (.ref a2), .val (.int (3 : Int32)), .val (.int (1 : Int32)), .val (.int (1 : Int32))] [(.int (1 : Int32)), (.int (1 : Int32)), (.ref a1)])) rfl (by rw [hml]; rfl) (Steps.refl _) (a := a1) (by rw [e57]; exact q61) q61' (argsL := [(.int (1 : Int32)), (.int (1 : Int32))]) (rest := []) (lenOf pd_1 rfl) rfl (by show 2 * 0 + _ ≤ _; exact Nat.le_of_eq rfl) (hb hby d2_98) (fun _ _ => ⟨rfl, e57, (by decide : 3 + 0 ≤ _), (by decide : 134 + 0 ≤ _)⟩)
  dsimp only [Pt.U, Pt.locs, Pt.cells, Pt.slots] at X61 l61 y61 z61 st61 hQ61
  subst l61 y61 z61
  obtain ⟨rfl, Nq61, K61, P61_0⟩ := hQ61
  have N61 := Fr.app N47 Nq61
  have z64 := K61.1
  have e61 : T61.heap = T61.heap := rfl
  refine Wp.tr (S' := T61.setTop (mkF m 101 #[.val (.ref a1), .val (.ref a2), .val (.int (3 : Int32)), .val (.int (1 : Int32)), .val (.int (1 : Int32))] [])) st61 ?_
  refine Wp.st (S' := T61.setTop (mkF m 104 #[.val (.ref a1), .val (.ref a2), .val (.int (3 : Int32)), .val (.int (1 : Int32)), .val (.int ((1 : Int32) + (1 : Int32)))] [])) (fun tt_ kk_ => XS.iinc X61.here hx rfl (hb hby d2_101) rfl (l' := #[.val (.ref a1), .val (.ref a2), .val (.int (3 : Int32)), .val (.int (1 : Int32)), .val (.int ((1 : Int32) + (1 : Int32)))]) rfl kk_) ?_
  rw [(by decide : ((1 : Int32) + (1 : Int32)) = (2 : Int32))]
  refine Wp.st (S' := T61.setTop (mkF m 82 #[.val (.ref a1), .val (.ref a2), .val (.int (3 : Int32)), .val (.int (1 : Int32)), .val (.int (2 : Int32))] [])) (fun tt_ kk_ => XS.goto X61.here hx rfl (pc0 := 104) (pc' := 82) rfl (hb hby d2_104) (by decide) (by decide) kk_) ?_
  refine Wp.st (S' := T61.setTop (mkF m 84 #[.val (.ref a1), .val (.ref a2), .val (.int (3 : Int32)), .val (.int (1 : Int32)), .val (.int (2 : Int32))] [(.int (2 : Int32))])) (fun tt_ kk_ => XS.iload X61.here hx rfl (hb hby d2_82) rfl  kk_) ?_
  refine Wp.st (S' := T61.setTop (mkF m 85 #[.val (.ref a1), .val (.ref a2), .val (.int (3 : Int32)), .val (.int (1 : Int32)), .val (.int (2 : Int32))] [(.ref a1), (.int (2 : Int32))])) (fun tt_ kk_ => XS.aloadN X61.here hx rfl (hb hby d2_84) rfl rfl kk_) ?_
  have F65 := F56.keep K61 (ninS (Nat.ne_of_lt (Nat.lt_of_lt_of_le P1.lt (Nat.le_trans (Nat.le_trans (Nat.le_trans (Nat.le_trans z7 z12) z19) z25) (Nat.le_of_eq g34.symm)))) nin0)
  obtain ⟨T66, X66, e66, st66⟩ := getF X61 hx hZ hown (host := "") (Or.inl (hw _ (List.mem_of_getElem? (i := 22) rfl))) Via.refl e61 F65 (g := (mkF m 85 #[.val (.ref a1), .val (.ref a2), .val (.int (3 : Int32)), .val (.int (1 : Int32)), .val (.int (2 : Int32))] [(.ref a1), (.int (2 : Int32))])) rfl rfl (hb hby d2_85)
  refine Wp.st (S' := T66.setTop (mkF m 88 #[.val (.ref a1), .val (.ref a2), .val (.int (3 : Int32)), .val (.int (1 : Int32)), .val (.int (2 : Int32))] [(.ref b6), (.int (2 : Int32))])) st66 ?_
  refine Wp.st (S' := T66.setTop (mkF m 89 #[.val (.ref a1), .val (.ref a2), .val (.int (3 : Int32)), .val (.int (1 : Int32)), .val (.int (2 : Int32))] [(.int (1 : Int32)), (.ref b6), (.int (2 : Int32))])) (fun tt_ kk_ => XS.iloadN X66.here hx rfl (hb hby d2_88) rfl  kk_) ?_
  have F67 := F58.keep K61 (ninS (Nat.ne_of_lt (Nat.lt_of_lt_of_le V6.lt (Nat.le_trans (Nat.le_trans (Nat.le_trans z12 z19) z25) (Nat.le_of_eq g34.symm)))) nin0)
  obtain ⟨cl68, Ar68, q68, S68, N68, H68, G68⟩ := id F67
  have hin68 := inb_of (j := (1 : Int32)) S68 ⟨by decide, by decide⟩
  refine Wp.st (S' := T66.setTop (mkF m 90 #[.val (.ref a1), .val (.ref a2), .val (.int (3 : Int32)), .val (.int (1 : Int32)), .val (.int (2 : Int32))] [(.ref b34), (.int (2 : Int32))])) (fun tt_ kk_ => X66.aaload hx (j := (1 : Int32)) (v := (.ref b34)) (by rw [e66]; exact Ar68.1) (State.isArrayOf_alike hZ.alike Ar68.2.1) rfl Ar68.2.2 hin68 (H68.at hin68 rfl) (g := (mkF m 89 #[.val (.ref a1), .val (.ref a2), .val (.int (3 : Int32)), .val (.int (1 : Int32)), .val (.int (2 : Int32))] [(.int (1 : Int32)), (.ref b6), (.int (2 : Int32))])) rfl rfl (hb hby d2_89) tt_ kk_) ?_
  obtain ⟨cl69, Ar69, q69, S69, N69, H69, G69⟩ := id P61_0
  refine Wp.st (S' := T66.setTop (mkF m 91 #[.val (.ref a1), .val (.ref a2), .val (.int (3 : Int32)), .val (.int (1 : Int32)), .val (.int (2 : Int32))] [(.int (2 : Int32)), (.int (2 : Int32))])) (fun tt_ kk_ => X66.arraylength hx (by rw [e66]; exact Ar69.1) (State.isArrayOf_alike hZ.alike Ar69.2.1) (g := (mkF m 90 #[.val (.ref a1), .val (.ref a2), .val (.int (3 : Int32)), .val (.int (1 : Int32)), .val (.int (2 : Int32))] [(.ref b34), (.int (2 : Int32))])) rfl rfl (hb hby d2_90) tt_ (by rw [len_of S69 N69]; exact kk_)) ?_
  refine Wp.st (S' := T66.setTop (mkF m 107 #[.val (.ref a1), .val (.ref a2), .val (.int (3 : Int32)), .val (.int (1 : Int32)), .val (.int (2 : Int32))] [])) (fun tt_ kk_ => XS.icmpYes X66.here hx rfl (pc0 := 91) (pc' := 107) rfl (hb hby d2_91) rfl (flt ((by decide) : ¬ ((2 : Int32) < (2 : Int32)))).2.1 (by decide) (by decide) kk_) ?_
  refine Wp.st (S' := T66.setTop (mkF m 110 #[.val (.ref a1), .val (.ref a2), .val (.int (3 : Int32)), .val (.int ((1 : Int32) + (1 : Int32))), .val (.int (2 : Int32))] [])) (fun tt_ kk_ => XS.iinc X66.here hx rfl (hb hby d2_107) rfl (l' := #[.val (.ref a1), .val (.ref a2), .val (.int (3 : Int32)), .val (.int ((1 : Int32) + (1 : Int32))), .val (.int (2 : Int32))]) rfl kk_) ?_
  rw [(by decide : ((1 : Int32) + (1 : Int32)) = (2 : Int32))]
  refine Wp.st (S' := T66.setTop (mkF m 54 #[.val (.ref a1), .val (.ref a2), .val (.int (3 : Int32)), .val (.int (2 : Int32)), .val (.int (2 : Int32))] [])) (fun tt_ kk_ => XS.goto X66.here hx rfl (pc0 := 110) (pc' := 54) rfl (hb hby d2_110) (by decide) (by decide) kk_) ?_
  refine Wp.st (S' := T66.setTop (mkF m 55 #[.val (.ref a1), .val (.ref a2), .val (.int (3 : Int32)), .val (.int (2 : Int32)), .val (.int (2 : Int32))] [(.int (2 : Int32))])) (fun tt_ kk_ => XS.iloadN X66.here hx rfl (hb hby d2_54) rfl  kk_) ?_
  refine Wp.st (S' := T66.setTop (mkF m 56 #[.val (.ref a1), .val (.ref a2), .val (.int (3 : Int32)), .val (.int (2 : Int32)), .val (.int (2 : Int32))] [(.int (3 : Int32)), (.int (2 : Int32))])) (fun tt_ kk_ => XS.iloadN X66.here hx rfl (hb hby d2_55) rfl  kk_) ?_
  refine Wp.st (S' := T66.setTop (mkF m 59 #[.val (.ref a1), .val (.ref a2), .val (.int (3 : Int32)), .val (.int (2 : Int32)), .val (.int (2 : Int32))] [])) (fun tt_ kk_ => XS.icmpNo X66.here hx rfl (hb hby d2_56) rfl (tlt ((by decide) : (2 : Int32) < (3 : Int32))).2.1 kk_) ?_
  refine Wp.st (S' := T66.setTop (mkF m 60 #[.val (.ref a1), .val (.ref a2), .val (.int (3 : Int32)), .val (.int (2 : Int32)), .val (.int (2 : Int32))] [(.ref a1)])) (fun tt_ kk_ => XS.aloadN X66.here hx rfl (hb hby d2_59) rfl rfl kk_) ?_
  obtain ⟨T70, X70, e70, st70⟩ := getF X66 hx hZ hown (host := "") (Or.inl (hw _ (List.mem_of_getElem? (i := 22) rfl))) Via.refl e66 F65 (g := (mkF m 60 #[.val (.ref a1), .val (.ref a2), .val (.int (3 : Int32)), .val (.int (2 : Int32)), .val (.int (2 : Int32))] [(.ref a1)])) rfl rfl (hb hby d2_60)
  refine Wp.st (S' := T70.setTop (mkF m 63 #[.val (.ref a1), .val (.ref a2), .val (.int (3 : Int32)), .val (.int (2 : Int32)), .val (.int (2 : Int32))] [(.ref b6)])) st70 ?_
  refine Wp.st (S' := T70.setTop (mkF m 64 #[.val (.ref a1), .val (.ref a2), .val (.int (3 : Int32)), .val (.int (2 : Int32)), .val (.int (2 : Int32))] [(.int (2 : Int32)), (.ref b6)])) (fun tt_ kk_ => XS.iloadN X70.here hx rfl (hb hby d2_63) rfl  kk_) ?_
  refine Wp.st (S' := T70.setTop (mkF m 65 #[.val (.ref a1), .val (.ref a2), .val (.int (3 : Int32)), .val (.int (2 : Int32)), .val (.int (2 : Int32))] [(.ref a1), (.int (2 : Int32)), (.ref b6)])) (fun tt_ kk_ => XS.aloadN X70.here hx rfl (hb hby d2_64) rfl rfl kk_) ?_
  obtain ⟨T71, X71, e71, st71⟩ := getF X70 hx hZ hown (host := "") (Or.inl (hw _ (List.mem_of_getElem? (i := 22) rfl))) Via.refl e70 F65 (g := (mkF m 65 #[.val (.ref a1), .val (.ref a2), .val (.int (3 : Int32)), .val (.int (2 : Int32)), .val (.int (2 : Int32))] [(.ref a1), (.int (2 : Int32)), (.ref b6)])) rfl rfl (hb hby d2_65)
  refine Wp.st (S' := T71.setTop (mkF m 68 #[.val (.ref a1), .val (.ref a2), .val (.int (3 : Int32)), .val (.int (2 : Int32)), .val (.int (2 : Int32))] [(.ref b6), (.int (2 : Int32)), (.ref b6)])) st71 ?_
  refine Wp.st (S' := T71.setTop (mkF m 69 #[.val (.ref a1), .val (.ref a2), .val (.int (3 : Int32)), .val (.int (2 : Int32)), .val (.int (2 : Int32))] [(.int (2 : Int32)), (.ref b6), (.int (2 : Int32)), (.ref b6)])) (fun tt_ kk_ => XS.iloadN X71.here hx rfl (hb hby d2_68) rfl  kk_) ?_
  refine Wp.st (S' := T71.setTop (mkF m 70 #[.val (.ref a1), .val (.ref a2), .val (.int (3 : Int32)), .val (.int (2 : Int32)), .val (.int (2 : Int32))] [(.int (1 : Int32)), (.int (2 : Int32)), (.ref b6), (.int (2 : Int32)), (.ref b6)])) (fun tt_ kk_ => XS.iconst X71.here hx rfl (hb hby d2_69) kk_) ?_
  refine Wp.st (S' := T71.setTop (mkF m 71 #[.val (.ref a1), .val (.ref a2), .val (.int (3 : Int32)), .val (.int (2 : Int32)), .val (.int (2 : Int32))] [(.int ((2 : Int32) - (1 : Int32))), (.ref b6), (.int (2 : Int32)), (.ref b6)])) (fun tt_ kk_ => XS.isub X71.here hx rfl (hb hby d2_70) rfl kk_) ?_
  rw [(by decide : ((2 : Int32) - (1 : Int32)) = (1 : Int32))]
  obtain ⟨cl72, Ar72, q72, S72, N72, H72, G72⟩ := id F67
  have hin72 := inb_of (j := (1 : Int32)) S72 ⟨by decide, by decide⟩
  refine Wp.st (S' := T71.setTop (mkF m 72 #[.val (.ref a1), .val (.ref a2), .val (.int (3 : Int32)), .val (.int (2 : Int32)), .val (.int (2 : Int32))] [(.ref b34), (.int (2 : Int32)), (.ref b6)])) (fun tt_ kk_ => X71.aaload hx (j := (1 : Int32)) (v := (.ref b34)) (by rw [e71]; exact Ar72.1) (State.isArrayOf_alike hZ.alike Ar72.2.1) rfl Ar72.2.2 hin72 (H72.at hin72 rfl) (g := (mkF m 71 #[.val (.ref a1), .val (.ref a2), .val (.int (3 : Int32)), .val (.int (2 : Int32)), .val (.int (2 : Int32))] [(.int (1 : Int32)), (.ref b6), (.int (2 : Int32)), (.ref b6)])) rfl rfl (hb hby d2_71) tt_ kk_) ?_
  obtain ⟨cl73, Ar73, q73, S73, N73, H73, G73⟩ := id P61_0
  refine Wp.st (S' := T71.setTop (mkF m 73 #[.val (.ref a1), .val (.ref a2), .val (.int (3 : Int32)), .val (.int (2 : Int32)), .val (.int (2 : Int32))] [(.int (2 : Int32)), (.int (2 : Int32)), (.ref b6)])) (fun tt_ kk_ => X71.arraylength hx (by rw [e71]; exact Ar73.1) (State.isArrayOf_alike hZ.alike Ar73.2.1) (g := (mkF m 72 #[.val (.ref a1), .val (.ref a2), .val (.int (3 : Int32)), .val (.int (2 : Int32)), .val (.int (2 : Int32))] [(.ref b34), (.int (2 : Int32)), (.ref b6)])) rfl rfl (hb hby d2_72) tt_ (by rw [len_of S73 N73]; exact kk_)) ?_
  obtain ⟨vv74, _, ⟨T74, L74, k74, n74⟩, -, X74, ⟨Lc74, hQ74, l74, y74, z74⟩, st74⟩ := Jvm.LawKit.callS X71 hx (y := (⟨"com/example/dags_over_clouds/dagsoverclouds/plan/Tally", "runs", "(I)I"⟩ : MethodName)) hown (mvT hZ (hw _ (List.mem_of_getElem? (i := 32) rfl))) (mvT hZ (hw _ (List.mem_of_getElem? (i := 33) rfl))) (mvT hZ (hw _ (List.mem_of_getElem? (i := 9) rfl))) (mvT hZ (hw _ (List.mem_of_getElem? (i := 34) rfl))) (by decide) (backOf (W := 2) (rm5 l Z a0 hw [] (2 : Int32) T61.heap n0 (Nat.le_trans Z0 (Nat.le_trans (Nat.le_trans (Nat.le_trans (Nat.le_trans (Nat.le_trans (Nat.le_trans (Nat.le_trans z7 z12) z19) z25) z35) z40) z55) z64)) ) hZ (hw _ (List.mem_of_getElem? (i := 34) rfl)) (hw _ (List.mem_of_getElem? (i := 9) rfl)) (by decide) (by decide)) (g := (mkF m 73 #[.val (.ref a1), .val (.ref a2), .val (.int (3 : Int32)), .val (.int (2 : Int32)), .val (.int (2 : Int32))] [(.int (2 : Int32)), (.int (2 : Int32)), (.ref b6)])) rfl (by rw [hml]; rfl) (argsL := [(.int (2 : Int32))]) (rest := [(.int (2 : Int32)), (.ref b6)]) (lenOf pd_2 rfl) rfl (by show 2 * 0 + _ ≤ _; exact Nat.le_of_eq rfl) (hb hby d2_73) (fun _ _ => ⟨rfl, e71, (by decide : 3 + 0 ≤ _), (by decide : 134 + 0 ≤ _)⟩)
  dsimp only [Pt.U, Pt.locs, Pt.cells, Pt.slots] at X74 l74 y74 z74 st74 hQ74
  subst l74 y74 z74
  obtain ⟨rfl, Nq74, e74⟩ := hQ74
  have N74 := Fr.app N61 Nq74
  refine Wp.st (S' := T74.setTop (mkF m 76 #[.val (.ref a1), .val (.ref a2), .val (.int (3 : Int32)), .val (.int (2 : Int32)), .val (.int (2 : Int32))] [(.int (own_runs (2 : Int32))), (.int (2 : Int32)), (.ref b6)])) st74 ?_
  rw [(by decide : (own_runs (2 : Int32)) = (1 : Int32))]
  obtain ⟨T75, h75, k75, X75, e75, E75, A75, Ea75, st75⟩ := newPE X74 hx hZ (hw _ (List.mem_of_getElem? (i := 6) rfl)) e74 (g := (mkF m 76 #[.val (.ref a1), .val (.ref a2), .val (.int (3 : Int32)), .val (.int (2 : Int32)), .val (.int (2 : Int32))] [(.int (1 : Int32)), (.int (2 : Int32)), (.ref b6)])) rfl (hb hby d2_76) rfl (by decide) (cap := 1) (by decide) (by decide) (by decide) (by decide) (ad := "[D") (by decide +kernel)
  obtain ⟨b75, g75⟩ : ∃ z, z = T61.heap.size := ⟨_, rfl⟩
  rw [← g75] at A75 Ea75 st75
  have z76 := E75.1
  have V75 : Arv Z h75 b75 k75 .double (1 : Int32) [(.double (0 : UInt64))] (.double (0 : UInt64)) := (Arv.new A75 (by decide)).pad (pad_rep [] (.double (0 : UInt64)) 1)
  have g77 : n0 ≤ b75 := Nat.le_trans (Nat.le_trans Z0 (Nat.le_trans (Nat.le_trans (Nat.le_trans (Nat.le_trans (Nat.le_trans (Nat.le_trans (Nat.le_trans z7 z12) z19) z25) z35) z40) z55) z64)) (Nat.le_of_eq g75.symm)
  refine Wp.st (S' := T75.setTop (mkF m 78 #[.val (.ref a1), .val (.ref a2), .val (.int (3 : Int32)), .val (.int (2 : Int32)), .val (.int (2 : Int32))] [(.ref b75), (.int (2 : Int32)), (.ref b6)])) st75 ?_
  have Vz78 : Arv Z h75 b75 k75 .double (1 : Int32) (own_dl own_z) (.double (0 : UInt64)) := (V75).pad (own_zpad 1)
  have F79 := F67.ext E75
  obtain ⟨cl80, Ar80, q80, S80, N80, H80, G80⟩ := id F79
  have hin80 := inb_of (j := (2 : Int32)) S80 ⟨by decide, by decide⟩
  obtain ⟨T80, h80, X80, e80, W80, st80⟩ := stR X75 hx hZ e75 Ar80 (j := (2 : Int32)) hin80 rfl (Sto.ofVA Ar80 q80 O6 (Ins.self Ea75)) (g := (mkF m 78 #[.val (.ref a1), .val (.ref a2), .val (.int (3 : Int32)), .val (.int (2 : Int32)), .val (.int (2 : Int32))] [(.ref b75), (.int (2 : Int32)), (.ref b6)])) rfl rfl (hb hby d2_78)
  have z81 := Nat.le_of_eq W80.size.symm
  have V80 : Arv Z h80 b6 k6 (.array .double) (3 : Int32) [(.ref b14), (.ref b34), (.ref b75)] .null := Arv.set Ar80 q80 S80 N80 H80 G80 rfl W80 2 rfl (Nat.le_of_ble_eq_true rfl)
  have Nf80 := Fr.snoc X80 N74 g8
  refine Wp.st (S' := T80.setTop (mkF m 79 #[.val (.ref a1), .val (.ref a2), .val (.int (3 : Int32)), .val (.int (2 : Int32)), .val (.int (2 : Int32))] [])) st80 ?_
  refine Wp.st (S' := T80.setTop (mkF m 80 #[.val (.ref a1), .val (.ref a2), .val (.int (3 : Int32)), .val (.int (2 : Int32)), .val (.int (2 : Int32))] [(.int (0 : Int32))])) (fun tt_ kk_ => XS.iconst X80.here hx rfl (hb hby d2_79) kk_) ?_
  refine Wp.st (S' := T80.setTop (mkF m 82 #[.val (.ref a1), .val (.ref a2), .val (.int (3 : Int32)), .val (.int (2 : Int32)), .val (.int (0 : Int32))] [])) (fun tt_ kk_ => XS.istore X80.here hx rfl (hb hby d2_80) rfl (l' := #[.val (.ref a1), .val (.ref a2), .val (.int (3 : Int32)), .val (.int (2 : Int32)), .val (.int (0 : Int32))]) rfl kk_) ?_
  refine Wp.st (S' := T80.setTop (mkF m 84 #[.val (.ref a1), .val (.ref a2), .val (.int (3 : Int32)), .val (.int (2 : Int32)), .val (.int (0 : Int32))] [(.int (0 : Int32))])) (fun tt_ kk_ => XS.iload X80.here hx rfl (hb hby d2_82) rfl  kk_) ?_
  refine Wp.st (S' := T80.setTop (mkF m 85 #[.val (.ref a1), .val (.ref a2), .val (.int (3 : Int32)), .val (.int (2 : Int32)), .val (.int (0 : Int32))] [(.ref a1), (.int (0 : Int32))])) (fun tt_ kk_ => XS.aloadN X80.here hx rfl (hb hby d2_84) rfl rfl kk_) ?_
  have F82 := F65.ext E75
  have F83 := F82.other W80 (Or.inl (Nat.ne_of_lt (Nat.lt_of_lt_of_le P1.lt (Nat.le_trans (Nat.le_refl _) (Nat.le_of_eq g6.symm)))))
  obtain ⟨T84, X84, e84, st84⟩ := getF X80 hx hZ hown (host := "") (Or.inl (hw _ (List.mem_of_getElem? (i := 22) rfl))) Via.refl e80 F83 (g := (mkF m 85 #[.val (.ref a1), .val (.ref a2), .val (.int (3 : Int32)), .val (.int (2 : Int32)), .val (.int (0 : Int32))] [(.ref a1), (.int (0 : Int32))])) rfl rfl (hb hby d2_85)
  refine Wp.st (S' := T84.setTop (mkF m 88 #[.val (.ref a1), .val (.ref a2), .val (.int (3 : Int32)), .val (.int (2 : Int32)), .val (.int (0 : Int32))] [(.ref b6), (.int (0 : Int32))])) st84 ?_
  refine Wp.st (S' := T84.setTop (mkF m 89 #[.val (.ref a1), .val (.ref a2), .val (.int (3 : Int32)), .val (.int (2 : Int32)), .val (.int (0 : Int32))] [(.int (2 : Int32)), (.ref b6), (.int (0 : Int32))])) (fun tt_ kk_ => XS.iloadN X84.here hx rfl (hb hby d2_88) rfl  kk_) ?_
  obtain ⟨cl85, Ar85, q85, S85, N85, H85, G85⟩ := id V80
  have hin85 := inb_of (j := (2 : Int32)) S85 ⟨by decide, by decide⟩
  refine Wp.st (S' := T84.setTop (mkF m 90 #[.val (.ref a1), .val (.ref a2), .val (.int (3 : Int32)), .val (.int (2 : Int32)), .val (.int (0 : Int32))] [(.ref b75), (.int (0 : Int32))])) (fun tt_ kk_ => X84.aaload hx (j := (2 : Int32)) (v := (.ref b75)) (by rw [e84]; exact Ar85.1) (State.isArrayOf_alike hZ.alike Ar85.2.1) rfl Ar85.2.2 hin85 (H85.at hin85 rfl) (g := (mkF m 89 #[.val (.ref a1), .val (.ref a2), .val (.int (3 : Int32)), .val (.int (2 : Int32)), .val (.int (0 : Int32))] [(.int (2 : Int32)), (.ref b6), (.int (0 : Int32))])) rfl rfl (hb hby d2_89) tt_ kk_) ?_
  have F86 := Vz78.other W80 (Ne.symm (Nat.ne_of_lt (Nat.lt_of_lt_of_le V6.lt (Nat.le_trans (Nat.le_trans (Nat.le_trans (Nat.le_trans (Nat.le_trans (Nat.le_trans (Nat.le_trans z12 z19) z25) z35) z40) z55) z64) (Nat.le_of_eq g75.symm)))))
  obtain ⟨cl87, Ar87, q87, S87, N87, H87, G87⟩ := id F86
  refine Wp.st (S' := T84.setTop (mkF m 91 #[.val (.ref a1), .val (.ref a2), .val (.int (3 : Int32)), .val (.int (2 : Int32)), .val (.int (0 : Int32))] [(.int (1 : Int32)), (.int (0 : Int32))])) (fun tt_ kk_ => X84.arraylength hx (by rw [e84]; exact Ar87.1) (State.isArrayOf_alike hZ.alike Ar87.2.1) (g := (mkF m 90 #[.val (.ref a1), .val (.ref a2), .val (.int (3 : Int32)), .val (.int (2 : Int32)), .val (.int (0 : Int32))] [(.ref b75), (.int (0 : Int32))])) rfl rfl (hb hby d2_90) tt_ (by rw [len_of S87 N87]; exact kk_)) ?_
  refine Wp.st (S' := T84.setTop (mkF m 94 #[.val (.ref a1), .val (.ref a2), .val (.int (3 : Int32)), .val (.int (2 : Int32)), .val (.int (0 : Int32))] [])) (fun tt_ kk_ => XS.icmpNo X84.here hx rfl (hb hby d2_91) rfl (tlt ((by decide) : (0 : Int32) < (1 : Int32))).2.1 kk_) ?_
  refine Wp.st (S' := T84.setTop (mkF m 95 #[.val (.ref a1), .val (.ref a2), .val (.int (3 : Int32)), .val (.int (2 : Int32)), .val (.int (0 : Int32))] [(.ref a1)])) (fun tt_ kk_ => XS.aloadN X84.here hx rfl (hb hby d2_94) rfl rfl kk_) ?_
  refine Wp.st (S' := T84.setTop (mkF m 96 #[.val (.ref a1), .val (.ref a2), .val (.int (3 : Int32)), .val (.int (2 : Int32)), .val (.int (0 : Int32))] [(.int (2 : Int32)), (.ref a1)])) (fun tt_ kk_ => XS.iloadN X84.here hx rfl (hb hby d2_95) rfl  kk_) ?_
  refine Wp.st (S' := T84.setTop (mkF m 98 #[.val (.ref a1), .val (.ref a2), .val (.int (3 : Int32)), .val (.int (2 : Int32)), .val (.int (0 : Int32))] [(.int (0 : Int32)), (.int (2 : Int32)), (.ref a1)])) (fun tt_ kk_ => XS.iload X84.here hx rfl (hb hby d2_96) rfl  kk_) ?_
  have F89 := P61_0.ext E75
  have F90 := F89.other W80 (Ne.symm (Nat.ne_of_lt (Nat.lt_of_lt_of_le V6.lt (Nat.le_trans (Nat.le_trans (Nat.le_trans z12 z19) z25) (Nat.le_of_eq g34.symm)))))
  have F91 := F63.keep K61
  have F92 := F91.ext E75
  have F93 := F92.wr W80
  obtain ⟨cq88, q88, q88'⟩ := (F93).cell
  obtain ⟨vv88, _, ⟨T88, L88, k88, n88⟩, -, X88, ⟨Lc88, hQ88, l88, y88, z88⟩, st88⟩ := X84.privateBack hx (y := (⟨"com/example/dags_over_clouds/dagsoverclouds/plan/Tally", "addUp", "(II)V"⟩ : MethodName)) hown (mvT hZ (hw _ (List.mem_of_getElem? (i := 35) rfl))) (mvT hZ (hw _ (List.mem_of_getElem? (i := 36) rfl))) (mvT hZ (own_selP (hw _ (List.mem_of_getElem? (i := 45) rfl)) (hw _ (List.mem_of_getElem? (i := 36) rfl)) (hw _ (List.mem_of_getElem? (i := 37) rfl)))) (Cond.privateMethod_at (mvP hZ (hw _ (List.mem_of_getElem? (i := 37) rfl)) (args := #[]))) (mvT hZ (hw _ (List.mem_of_getElem? (i := 38) rfl))) (by decide) (backOf (W := 0) (rmAdd32 l Z a0 hw [] a1 (0 : Int32) b6 (.ref b14) b34 b75 k6 k34 k75 (2 : Int32) (1 : Int32) (own_up (own_up own_z (0 : Int32).toNatClampNeg (own_R wf n.toNatClampNeg (0 : Int32).toNatClampNeg)) (1 : Int32).toNatClampNeg (own_R wf n.toNatClampNeg (1 : Int32).toNatClampNeg)) own_z h80 n0 (Nat.le_trans Z0 (Nat.le_trans (Nat.le_trans (Nat.le_trans (Nat.le_trans (Nat.le_trans (Nat.le_trans (Nat.le_trans (Nat.le_trans (Nat.le_trans z7 z12) z19) z25) z35) z40) z55) z64) z76) z81)) g77 F83 V80 F90 F86 ((by first | assumption | exact own_b_of (by assumption) | (repeat first | exact own_b_z | assumption | refine own_b_up ?_ _ (own_R_b (by assumption) _ _))) : own_b (own_up (own_up own_z (0 : Int32).toNatClampNeg (own_R wf n.toNatClampNeg (0 : Int32).toNatClampNeg)) (1 : Int32).toNatClampNeg (own_R wf n.toNatClampNeg (1 : Int32).toNatClampNeg))) ((by assumption) : own_hr (0 : Int32) (2 : Int32) (1 : Int32))) hZ (hw _ (List.mem_of_getElem? (i := 38) rfl)) (hw _ (List.mem_of_getElem? (i := 9) rfl)) (by decide) (by decide)) (g := (mkF m 98 #[.val (.ref a1), .val (.ref a2), .val (.int (3 : Int32)), .val (.int (2 : Int32)), .val (.int (0 : Int32))] [(.int (0 : Int32)), (.int (2 : Int32)), (.ref a1)])) rfl (by rw [hml]; rfl) (Steps.refl _) (a := a1) (by rw [e84]; exact q88) q88' (argsL := [(.int (2 : Int32)), (.int (0 : Int32))]) (rest := []) (lenOf pd_1 rfl) rfl (by show 2 * 0 + _ ≤ _; exact Nat.le_of_eq rfl) (hb hby d2_98) (fun _ _ => ⟨rfl, e84, (by decide : 4 + 0 ≤ _), (by decide : 135 + 0 ≤ _)⟩)
  dsimp only [Pt.U, Pt.locs, Pt.cells, Pt.slots] at X88 l88 y88 z88 st88 hQ88
  subst l88 y88 z88
  obtain ⟨rfl, Nq88, K88, P88_0⟩ := hQ88
  have N88 := Fr.app Nf80 Nq88
  have z94 := K88.1
  have e88 : T88.heap = T88.heap := rfl
  refine Wp.tr (S' := T88.setTop (mkF m 101 #[.val (.ref a1), .val (.ref a2), .val (.int (3 : Int32)), .val (.int (2 : Int32)), .val (.int (0 : Int32))] [])) st88 ?_
  refine Wp.st (S' := T88.setTop (mkF m 104 #[.val (.ref a1), .val (.ref a2), .val (.int (3 : Int32)), .val (.int (2 : Int32)), .val (.int ((0 : Int32) + (1 : Int32)))] [])) (fun tt_ kk_ => XS.iinc X88.here hx rfl (hb hby d2_101) rfl (l' := #[.val (.ref a1), .val (.ref a2), .val (.int (3 : Int32)), .val (.int (2 : Int32)), .val (.int ((0 : Int32) + (1 : Int32)))]) rfl kk_) ?_
  rw [(by decide : ((0 : Int32) + (1 : Int32)) = (1 : Int32))]
  refine Wp.st (S' := T88.setTop (mkF m 82 #[.val (.ref a1), .val (.ref a2), .val (.int (3 : Int32)), .val (.int (2 : Int32)), .val (.int (1 : Int32))] [])) (fun tt_ kk_ => XS.goto X88.here hx rfl (pc0 := 104) (pc' := 82) rfl (hb hby d2_104) (by decide) (by decide) kk_) ?_
  refine Wp.st (S' := T88.setTop (mkF m 84 #[.val (.ref a1), .val (.ref a2), .val (.int (3 : Int32)), .val (.int (2 : Int32)), .val (.int (1 : Int32))] [(.int (1 : Int32))])) (fun tt_ kk_ => XS.iload X88.here hx rfl (hb hby d2_82) rfl  kk_) ?_
  refine Wp.st (S' := T88.setTop (mkF m 85 #[.val (.ref a1), .val (.ref a2), .val (.int (3 : Int32)), .val (.int (2 : Int32)), .val (.int (1 : Int32))] [(.ref a1), (.int (1 : Int32))])) (fun tt_ kk_ => XS.aloadN X88.here hx rfl (hb hby d2_84) rfl rfl kk_) ?_
  have F95 := F83.keep K88 (ninS (Nat.ne_of_lt (Nat.lt_of_lt_of_le P1.lt (Nat.le_trans (Nat.le_trans (Nat.le_trans (Nat.le_trans (Nat.le_trans (Nat.le_trans (Nat.le_trans (Nat.le_trans z7 z12) z19) z25) z35) z40) z55) z64) (Nat.le_of_eq g75.symm)))) nin0)
  obtain ⟨T96, X96, e96, st96⟩ := getF X88 hx hZ hown (host := "") (Or.inl (hw _ (List.mem_of_getElem? (i := 22) rfl))) Via.refl e88 F95 (g := (mkF m 85 #[.val (.ref a1), .val (.ref a2), .val (.int (3 : Int32)), .val (.int (2 : Int32)), .val (.int (1 : Int32))] [(.ref a1), (.int (1 : Int32))])) rfl rfl (hb hby d2_85)
  refine Wp.st (S' := T96.setTop (mkF m 88 #[.val (.ref a1), .val (.ref a2), .val (.int (3 : Int32)), .val (.int (2 : Int32)), .val (.int (1 : Int32))] [(.ref b6), (.int (1 : Int32))])) st96 ?_
  refine Wp.st (S' := T96.setTop (mkF m 89 #[.val (.ref a1), .val (.ref a2), .val (.int (3 : Int32)), .val (.int (2 : Int32)), .val (.int (1 : Int32))] [(.int (2 : Int32)), (.ref b6), (.int (1 : Int32))])) (fun tt_ kk_ => XS.iloadN X96.here hx rfl (hb hby d2_88) rfl  kk_) ?_
  have F97 := V80.keep K88 (ninS (Nat.ne_of_lt (Nat.lt_of_lt_of_le V6.lt (Nat.le_trans (Nat.le_trans (Nat.le_trans (Nat.le_trans (Nat.le_trans (Nat.le_trans (Nat.le_trans z12 z19) z25) z35) z40) z55) z64) (Nat.le_of_eq g75.symm)))) nin0)
  obtain ⟨cl98, Ar98, q98, S98, N98, H98, G98⟩ := id F97
  have hin98 := inb_of (j := (2 : Int32)) S98 ⟨by decide, by decide⟩
  refine Wp.st (S' := T96.setTop (mkF m 90 #[.val (.ref a1), .val (.ref a2), .val (.int (3 : Int32)), .val (.int (2 : Int32)), .val (.int (1 : Int32))] [(.ref b75), (.int (1 : Int32))])) (fun tt_ kk_ => X96.aaload hx (j := (2 : Int32)) (v := (.ref b75)) (by rw [e96]; exact Ar98.1) (State.isArrayOf_alike hZ.alike Ar98.2.1) rfl Ar98.2.2 hin98 (H98.at hin98 rfl) (g := (mkF m 89 #[.val (.ref a1), .val (.ref a2), .val (.int (3 : Int32)), .val (.int (2 : Int32)), .val (.int (1 : Int32))] [(.int (2 : Int32)), (.ref b6), (.int (1 : Int32))])) rfl rfl (hb hby d2_89) tt_ kk_) ?_
  obtain ⟨cl99, Ar99, q99, S99, N99, H99, G99⟩ := id P88_0
  refine Wp.st (S' := T96.setTop (mkF m 91 #[.val (.ref a1), .val (.ref a2), .val (.int (3 : Int32)), .val (.int (2 : Int32)), .val (.int (1 : Int32))] [(.int (1 : Int32)), (.int (1 : Int32))])) (fun tt_ kk_ => X96.arraylength hx (by rw [e96]; exact Ar99.1) (State.isArrayOf_alike hZ.alike Ar99.2.1) (g := (mkF m 90 #[.val (.ref a1), .val (.ref a2), .val (.int (3 : Int32)), .val (.int (2 : Int32)), .val (.int (1 : Int32))] [(.ref b75), (.int (1 : Int32))])) rfl rfl (hb hby d2_90) tt_ (by rw [len_of S99 N99]; exact kk_)) ?_
  refine Wp.st (S' := T96.setTop (mkF m 107 #[.val (.ref a1), .val (.ref a2), .val (.int (3 : Int32)), .val (.int (2 : Int32)), .val (.int (1 : Int32))] [])) (fun tt_ kk_ => XS.icmpYes X96.here hx rfl (pc0 := 91) (pc' := 107) rfl (hb hby d2_91) rfl (flt ((by decide) : ¬ ((1 : Int32) < (1 : Int32)))).2.1 (by decide) (by decide) kk_) ?_
  refine Wp.st (S' := T96.setTop (mkF m 110 #[.val (.ref a1), .val (.ref a2), .val (.int (3 : Int32)), .val (.int ((2 : Int32) + (1 : Int32))), .val (.int (1 : Int32))] [])) (fun tt_ kk_ => XS.iinc X96.here hx rfl (hb hby d2_107) rfl (l' := #[.val (.ref a1), .val (.ref a2), .val (.int (3 : Int32)), .val (.int ((2 : Int32) + (1 : Int32))), .val (.int (1 : Int32))]) rfl kk_) ?_
  rw [(by decide : ((2 : Int32) + (1 : Int32)) = (3 : Int32))]
  refine Wp.st (S' := T96.setTop (mkF m 54 #[.val (.ref a1), .val (.ref a2), .val (.int (3 : Int32)), .val (.int (3 : Int32)), .val (.int (1 : Int32))] [])) (fun tt_ kk_ => XS.goto X96.here hx rfl (pc0 := 110) (pc' := 54) rfl (hb hby d2_110) (by decide) (by decide) kk_) ?_
  refine Wp.st (S' := T96.setTop (mkF m 55 #[.val (.ref a1), .val (.ref a2), .val (.int (3 : Int32)), .val (.int (3 : Int32)), .val (.int (1 : Int32))] [(.int (3 : Int32))])) (fun tt_ kk_ => XS.iloadN X96.here hx rfl (hb hby d2_54) rfl  kk_) ?_
  refine Wp.st (S' := T96.setTop (mkF m 56 #[.val (.ref a1), .val (.ref a2), .val (.int (3 : Int32)), .val (.int (3 : Int32)), .val (.int (1 : Int32))] [(.int (3 : Int32)), (.int (3 : Int32))])) (fun tt_ kk_ => XS.iloadN X96.here hx rfl (hb hby d2_55) rfl  kk_) ?_
  refine Wp.st (S' := T96.setTop (mkF m 113 #[.val (.ref a1), .val (.ref a2), .val (.int (3 : Int32)), .val (.int (3 : Int32)), .val (.int (1 : Int32))] [])) (fun tt_ kk_ => XS.icmpYes X96.here hx rfl (pc0 := 56) (pc' := 113) rfl (hb hby d2_56) rfl (flt ((by decide) : ¬ ((3 : Int32) < (3 : Int32)))).2.1 (by decide) (by decide) kk_) ?_
  have K100 := Keep.refl h0 [a1]
  have K101 := K100.ext E6
  have K102 := K101.wr W9 (Or.inl (List.mem_of_getElem? (i := 0) rfl))
  have K103 := K102.ext E14
  have K104 := K103.wr W24 (Or.inr (Nat.le_trans (Nat.le_refl _) (Nat.le_of_eq g6.symm)))
  have K105 := K104.ext E34
  have K106 := K105.wr W39 (Or.inr (Nat.le_trans (Nat.le_refl _) (Nat.le_of_eq g6.symm)))
  have K107 := K106.trans K47 (allS (Or.inr (Nat.le_trans (Nat.le_trans (Nat.le_trans (Nat.le_trans z7 z12) z19) z25) (Nat.le_of_eq g34.symm))) all0)
  have K108 := K107.trans K61 (allS (Or.inr (Nat.le_trans (Nat.le_trans (Nat.le_trans (Nat.le_trans z7 z12) z19) z25) (Nat.le_of_eq g34.symm))) all0)
  have K109 := K108.ext E75
  have K110 := K109.wr W80 (Or.inr (Nat.le_trans (Nat.le_refl _) (Nat.le_of_eq g6.symm)))
  have K111 := K110.trans K88 (allS (Or.inr (Nat.le_trans (Nat.le_trans (Nat.le_trans (Nat.le_trans (Nat.le_trans (Nat.le_trans (Nat.le_trans (Nat.le_trans z7 z12) z19) z25) z35) z40) z55) z64) (Nat.le_of_eq g75.symm))) all0)
  have F112 := F93.keep K88
  have F113 := F62.keep K61 (ninS (Nat.ne_of_lt (Nat.lt_of_lt_of_le Ea14.lt (Nat.le_trans z25 (Nat.le_of_eq g34.symm)))) nin0)
  have F114 := F113.ext E75
  have F115 := F114.other W80 (Ne.symm (Nat.ne_of_lt (Nat.lt_of_lt_of_le V6.lt (Nat.le_trans z12 (Nat.le_of_eq g14.symm)))))
  have F116 := F115.keep K88 (ninS (Nat.ne_of_lt (Nat.lt_of_lt_of_le Ea14.lt (Nat.le_trans (Nat.le_trans (Nat.le_trans (Nat.le_trans (Nat.le_trans z25 z35) z40) z55) z64) (Nat.le_of_eq g75.symm)))) nin0)
  have F117 := F90.keep K88 (ninS (Nat.ne_of_lt (Nat.lt_of_lt_of_le V34.lt (Nat.le_trans (Nat.le_trans (Nat.le_trans z40 z55) z64) (Nat.le_of_eq g75.symm)))) nin0)
  exact Wp.ret X96 hlk (v := none) (fun _ => rfl) (fun fs hr => X96.returnOut hx Bd.returns (hb hby d2_113) hr) (by decide) (by decide) (show Q_rmInitB Z a1 a2 kt n wf h0 n0 _ T96.heap _ by rw [e96]; exact ⟨b6, b14, b34, b75, k6, kt, k34, k75, rfl, N88, K111, (Nat.le_trans (Nat.le_refl _) (Nat.le_of_eq g6.symm)), (Nat.le_trans (Nat.le_trans z7 z12) (Nat.le_of_eq g14.symm)), (Nat.le_trans (Nat.le_trans (Nat.le_trans (Nat.le_trans z7 z12) z19) z25) (Nat.le_of_eq g34.symm)), (Nat.le_trans (Nat.le_trans (Nat.le_trans (Nat.le_trans (Nat.le_trans (Nat.le_trans (Nat.le_trans (Nat.le_trans z7 z12) z19) z25) z35) z40) z55) z64) (Nat.le_of_eq g75.symm)), F112, F95, F97, F116, F117, P88_0, (Nat.ne_of_lt (Nat.lt_of_lt_of_le V6.lt (Nat.le_trans z12 (Nat.le_of_eq g14.symm)))), (Nat.ne_of_lt (Nat.lt_of_lt_of_le V6.lt (Nat.le_trans (Nat.le_trans (Nat.le_trans z12 z19) z25) (Nat.le_of_eq g34.symm)))), (Nat.ne_of_lt (Nat.lt_of_lt_of_le V6.lt (Nat.le_trans (Nat.le_trans (Nat.le_trans (Nat.le_trans (Nat.le_trans (Nat.le_trans (Nat.le_trans z12 z19) z25) z35) z40) z55) z64) (Nat.le_of_eq g75.symm)))), (Nat.ne_of_lt (Nat.lt_of_lt_of_le Ea14.lt (Nat.le_trans z25 (Nat.le_of_eq g34.symm)))), (Nat.ne_of_lt (Nat.lt_of_lt_of_le Ea14.lt (Nat.le_trans (Nat.le_trans (Nat.le_trans (Nat.le_trans (Nat.le_trans z25 z35) z40) z55) z64) (Nat.le_of_eq g75.symm)))), (Nat.ne_of_lt (Nat.lt_of_lt_of_le V34.lt (Nat.le_trans (Nat.le_trans (Nat.le_trans z40 z55) z64) (Nat.le_of_eq g75.symm))))⟩)
theorem ef_rmInitC (m : MethodId) (a1 : Addr) (a2 : Addr) : entryFrame m #[(.ref a1), (.ref a2)] 5 = mkF m 0 #[.val (.ref a1), .val (.ref a2), .unset, .unset, .unset] [] := by first | (simp [entryFrame, mkF, argsToLocals, Value.category]; done) | rfl
def Q_rmInitC (Z : State) (a1 : Addr) (a2 : Addr) (kt : ClassId) (n : Int32) (wf : Nat → Int) (h0 : Heap) (n0 : Nat) (v : Option Value) (h : Heap) (L : List Loc) : Prop := ∃ lv : Addr, ∃ l0 : Addr, ∃ l1 : Addr, ∃ l2 : Addr, ∃ kl : ClassId, ∃ k0 : ClassId, ∃ k1 : ClassId, ∃ k2 : ClassId, (v = none) ∧ (Fr n0 L) ∧ (Keep h0 h [a1]) ∧ (h0.size ≤ lv) ∧ (h0.size ≤ l0) ∧ (h0.size ≤ l1) ∧ (h0.size ≤ l2) ∧ (Exa Z h a1 "com/example/dags_over_clouds/dagsoverclouds/plan/Tally") ∧ (Fld Z h a1 "com/example/dags_over_clouds/dagsoverclouds/plan/Tally" "levels" "[[D" (.ref lv)) ∧ (Arv Z h lv kl (.array .double) (3 : Int32) [(.ref l0), (.ref l1), (.ref l2)] .null) ∧ (Arv Z h l0 k0 .double n (own_dl wf) (.double (0 : UInt64))) ∧ (Arv Z h l1 k1 .double (3 : Int32) (own_dl (own_up (own_up (own_up own_z (0 : Int32).toNatClampNeg (own_R wf n.toNatClampNeg (0 : Int32).toNatClampNeg)) (1 : Int32).toNatClampNeg (own_R wf n.toNatClampNeg (1 : Int32).toNatClampNeg)) (2 : Int32).toNatClampNeg (own_R wf n.toNatClampNeg (2 : Int32).toNatClampNeg))) (.double (0 : UInt64))) ∧ (Arv Z h l2 k2 .double (1 : Int32) (own_dl (own_up own_z (0 : Int32).toNatClampNeg (own_R (own_up (own_up (own_up own_z (0 : Int32).toNatClampNeg (own_R wf n.toNatClampNeg (0 : Int32).toNatClampNeg)) (1 : Int32).toNatClampNeg (own_R wf n.toNatClampNeg (1 : Int32).toNatClampNeg)) (2 : Int32).toNatClampNeg (own_R wf n.toNatClampNeg (2 : Int32).toNatClampNeg)) (3 : Int32).toNatClampNeg (0 : Int32).toNatClampNeg))) (.double (0 : UInt64))) ∧ (lv ≠ l0) ∧ (lv ≠ l1) ∧ (lv ≠ l2) ∧ (l0 ≠ l1) ∧ (l0 ≠ l2) ∧ (l1 ≠ l2)
set_option maxRecDepth 65536 in
set_option maxHeartbeats 40000000 in
theorem rmInitC (l : Launch) (Z : State) (a0 : Array Value) (hw : ∀ d ∈ tables_1, d.before a0 Z = true) (ws : List Jvm.Cond) (a1 : Addr) (a2 : Addr) (kt : ClassId) (n : Int32) (wf : Nat → Int) (h0 : Heap) (n0 : Nat) (Z0 : n0 ≤ h0.size) (g_a1 : n0 ≤ a1) (P1 : Exa Z h0 a1 "com/example/dags_over_clouds/dagsoverclouds/plan/Tally") (P2 : Fld Z h0 a1 "com/example/dags_over_clouds/dagsoverclouds/plan/Tally" "levels" "[[D" .null) (P3 : Arv Z h0 a2 kt .double n (own_dl wf) (.double (0 : UInt64))) (P4 : Exa Z h0 a2 "[D") (hb0 : own_b0 wf) (hn : n = (129 : Int32)) (n_a1_a2 : a1 ≠ a2) :
    MetFree l (⟨"com/example/dags_over_clouds/dagsoverclouds/plan/Tally", "<init>", "([D)V"⟩ : MethodName) (head1 (Jvm.Cond.code (⟨"com/example/dags_over_clouds/dagsoverclouds/plan/Tally", "<init>", "([D)V"⟩ : MethodName) prog_71_method_1_code 5 none :: ws) ({ frames := 2, cells := 4, slots := 136, locals := 33 } : Room)) (fun a U => a = #[(.ref a1), (.ref a2)] ∧ Z.Warmed39 U.vm ∧ U.heap = h0) (fun _ _ _ _ _ => True) (fun _ U o U' => ∃ v L, o = .returned v ∧ Q_rmInitC Z a1 a2 kt n wf h0 n0 v U'.heap L ∧ FrameEnd U o U' L ({ frames := 2, cells := 4, slots := 136, locals := 33 } : Room).cells ({ frames := 2, cells := 4, slots := 136, locals := 33 } : Room).slots) := by
  refine MetFree.of_bodySF (plainFor_of_name pn_2) hisR ?_
  intro p e s m args below meth c s₁ Bd hml0 hP hK
  obtain ⟨rfl, hZ, hh⟩ := hP
  have hx := Bd.exec
  have hby := Bd.bytes
  have hml : c.maxLocals = 5 := hml0
  have hown : s.vm.findClass "com/example/dags_over_clouds/dagsoverclouds/plan/Tally" = some m.cls := findClass_of_methodNamed Bd.named
  have hnm := (name_of_methodNamed Bd.named Bd.method).1
  have hlk := Bd.notSynchronized
  have X0 : Stand p l e ({ frames := 2, cells := 4, slots := 136, locals := 33 } : Room) s m #[(.ref a1), (.ref a2)] below meth c s₁ [] 0 0 := Stand.of_body Bd
  have e0 : s₁.heap = h0 := by rw [← hh, Bd.state]; rfl
  have N0 := Fr.nil n0
  refine Wp.goal (Post := (fun o U' => ∃ v L, o = .returned v ∧ Q_rmInitC Z a1 a2 kt n wf h0 n0 v U'.heap L ∧ FrameEnd s o U' L ({ frames := 2, cells := 4, slots := 136, locals := 33 } : Room).cells ({ frames := 2, cells := 4, slots := 136, locals := 33 } : Room).slots)) (Wp.st (S' := s₁.setTop (mkF m 0 #[.val (.ref a1), .val (.ref a2), .unset, .unset, .unset] [])) (fun tt_ kk_ => castTop (ef_rmInitC m a1 a2 ) kk_) ?_)
  have hr_0 : own_hr (0 : Int32) n (3 : Int32) := by rcases hn with rfl <;> (unfold own_hr; decide)
  have hr_1 : own_hr (1 : Int32) n (3 : Int32) := by rcases hn with rfl <;> (unfold own_hr; decide)
  have hr_2 : own_hr (2 : Int32) n (3 : Int32) := by rcases hn with rfl <;> (unfold own_hr; decide)
  have hr_t : own_hr (0 : Int32) (3 : Int32) (1 : Int32) := by unfold own_hr; decide
  have hru : own_runs n = (3 : Int32) := (by rcases hn with rfl <;> decide)
  have hcap : n.toNatClampNeg ≤ 129 := (by rcases hn with rfl <;> decide)
  refine Wp.st (S' := s₁.setTop (mkF m 1 #[.val (.ref a1), .val (.ref a2), .unset, .unset, .unset] [(.ref a1)])) (fun tt_ kk_ => XS.aloadN X0.here hx rfl (hb hby d2_0) rfl rfl kk_) ?_
  obtain ⟨T1, X1, e1, st1⟩ := initO X0 hx hZ hown (hw _ (List.mem_of_getElem? (i := 13) rfl)) (hw _ (List.mem_of_getElem? (i := 14) rfl)) (hw _ (List.mem_of_getElem? (i := 15) rfl)) e0 (g := (mkF m 1 #[.val (.ref a1), .val (.ref a2), .unset, .unset, .unset] [(.ref a1)])) rfl (by rw [hml]; rfl) rfl (hb hby d2_1) (by decide) (W := 0) (by show 2 * 0 + _ ≤ _; exact Nat.le_of_eq rfl) (by decide)
  refine Wp.st (S' := T1.setTop (mkF m 4 #[.val (.ref a1), .val (.ref a2), .unset, .unset, .unset] [])) st1 ?_
  refine Wp.st (S' := T1.setTop (mkF m 5 #[.val (.ref a1), .val (.ref a2), .unset, .unset, .unset] [(.int (1 : Int32))])) (fun tt_ kk_ => XS.iconst X1.here hx rfl (hb hby d2_4) kk_) ?_
  refine Wp.st (S' := T1.setTop (mkF m 6 #[.val (.ref a1), .val (.ref a2), .val (.int (1 : Int32)), .unset, .unset] [])) (fun tt_ kk_ => XS.istoreN X1.here hx rfl (hb hby d2_5) rfl (l' := #[.val (.ref a1), .val (.ref a2), .val (.int (1 : Int32)), .unset, .unset]) rfl kk_) ?_
  refine Wp.st (S' := T1.setTop (mkF m 7 #[.val (.ref a1), .val (.ref a2), .val (.int (1 : Int32)), .unset, .unset] [(.ref a2)])) (fun tt_ kk_ => XS.aloadN X1.here hx rfl (hb hby d2_6) rfl rfl kk_) ?_
  obtain ⟨cl2, Ar2, q2, S2, N2, H2, G2⟩ := id P3
  refine Wp.st (S' := T1.setTop (mkF m 8 #[.val (.ref a1), .val (.ref a2), .val (.int (1 : Int32)), .unset, .unset] [(.int n)])) (fun tt_ kk_ => X1.arraylength hx (by rw [e1]; exact Ar2.1) (State.isArrayOf_alike hZ.alike Ar2.2.1) (g := (mkF m 7 #[.val (.ref a1), .val (.ref a2), .val (.int (1 : Int32)), .unset, .unset] [(.ref a2)])) rfl rfl (hb hby d2_7) tt_ (by rw [len_of S2 N2]; exact kk_)) ?_
  refine Wp.st (S' := T1.setTop (mkF m 9 #[.val (.ref a1), .val (.ref a2), .val (.int (1 : Int32)), .val (.int n), .unset] [])) (fun tt_ kk_ => XS.istoreN X1.here hx rfl (hb hby d2_8) rfl (l' := #[.val (.ref a1), .val (.ref a2), .val (.int (1 : Int32)), .val (.int n), .unset]) rfl kk_) ?_
  refine Wp.st (S' := T1.setTop (mkF m 10 #[.val (.ref a1), .val (.ref a2), .val (.int (1 : Int32)), .val (.int n), .unset] [(.int n)])) (fun tt_ kk_ => XS.iloadN X1.here hx rfl (hb hby d2_9) rfl  kk_) ?_
  refine Wp.st (S' := T1.setTop (mkF m 11 #[.val (.ref a1), .val (.ref a2), .val (.int (1 : Int32)), .val (.int n), .unset] [(.int (1 : Int32)), (.int n)])) (fun tt_ kk_ => XS.iconst X1.here hx rfl (hb hby d2_10) kk_) ?_
  refine Wp.st (S' := T1.setTop (mkF m 14 #[.val (.ref a1), .val (.ref a2), .val (.int (1 : Int32)), .val (.int n), .unset] [])) (fun tt_ kk_ => XS.icmpNo X1.here hx rfl (hb hby d2_11) rfl (tlt ((by rcases hn with rfl <;> decide) : (1 : Int32) < n)).2.2.2 kk_) ?_
  refine Wp.st (S' := T1.setTop (mkF m 17 #[.val (.ref a1), .val (.ref a2), .val (.int ((1 : Int32) + (1 : Int32))), .val (.int n), .unset] [])) (fun tt_ kk_ => XS.iinc X1.here hx rfl (hb hby d2_14) rfl (l' := #[.val (.ref a1), .val (.ref a2), .val (.int ((1 : Int32) + (1 : Int32))), .val (.int n), .unset]) rfl kk_) ?_
  rw [(by decide : ((1 : Int32) + (1 : Int32)) = (2 : Int32))]
  refine Wp.st (S' := T1.setTop (mkF m 18 #[.val (.ref a1), .val (.ref a2), .val (.int (2 : Int32)), .val (.int n), .unset] [(.int n)])) (fun tt_ kk_ => XS.iloadN X1.here hx rfl (hb hby d2_17) rfl  kk_) ?_
  obtain ⟨vv3, _, ⟨T3, L3, k3, n3⟩, -, X3, ⟨Lc3, hQ3, l3, y3, z3⟩, st3⟩ := Jvm.LawKit.callS X1 hx (y := (⟨"com/example/dags_over_clouds/dagsoverclouds/plan/Tally", "runs", "(I)I"⟩ : MethodName)) hown (mvT hZ (hw _ (List.mem_of_getElem? (i := 32) rfl))) (mvT hZ (hw _ (List.mem_of_getElem? (i := 33) rfl))) (mvT hZ (hw _ (List.mem_of_getElem? (i := 9) rfl))) (mvT hZ (hw _ (List.mem_of_getElem? (i := 34) rfl))) (by decide) (backOf (W := 0) (rm5 l Z a0 hw [] n h0 n0 Z0 ) hZ (hw _ (List.mem_of_getElem? (i := 34) rfl)) (hw _ (List.mem_of_getElem? (i := 9) rfl)) (by decide) (by decide)) (g := (mkF m 18 #[.val (.ref a1), .val (.ref a2), .val (.int (2 : Int32)), .val (.int n), .unset] [(.int n)])) rfl (by rw [hml]; rfl) (argsL := [(.int n)]) (rest := []) (lenOf pd_2 rfl) rfl (by show 2 * 0 + _ ≤ _; exact Nat.le_of_eq rfl) (hb hby d2_18) (fun _ _ => ⟨rfl, e1, (by decide : 0 + 0 ≤ _), (by decide : 0 + 0 ≤ _)⟩)
  dsimp only [Pt.U, Pt.locs, Pt.cells, Pt.slots] at X3 l3 y3 z3 st3 hQ3
  subst l3 y3 z3
  obtain ⟨rfl, Nq3, e3⟩ := hQ3
  have N3 := Fr.app N0 Nq3
  refine Wp.st (S' := T3.setTop (mkF m 21 #[.val (.ref a1), .val (.ref a2), .val (.int (2 : Int32)), .val (.int n), .unset] [(.int (own_runs n))])) st3 ?_
  rw [(hru : (own_runs n) = (3 : Int32))]
  refine Wp.st (S' := T3.setTop (mkF m 22 #[.val (.ref a1), .val (.ref a2), .val (.int (2 : Int32)), .val (.int (3 : Int32)), .unset] [])) (fun tt_ kk_ => XS.istoreN X3.here hx rfl (hb hby d2_21) rfl (l' := #[.val (.ref a1), .val (.ref a2), .val (.int (2 : Int32)), .val (.int (3 : Int32)), .unset]) rfl kk_) ?_
  refine Wp.st (S' := T3.setTop (mkF m 9 #[.val (.ref a1), .val (.ref a2), .val (.int (2 : Int32)), .val (.int (3 : Int32)), .unset] [])) (fun tt_ kk_ => XS.goto X3.here hx rfl (pc0 := 22) (pc' := 9) rfl (hb hby d2_22) (by decide) (by decide) kk_) ?_
  refine Wp.st (S' := T3.setTop (mkF m 10 #[.val (.ref a1), .val (.ref a2), .val (.int (2 : Int32)), .val (.int (3 : Int32)), .unset] [(.int (3 : Int32))])) (fun tt_ kk_ => XS.iloadN X3.here hx rfl (hb hby d2_9) rfl  kk_) ?_
  refine Wp.st (S' := T3.setTop (mkF m 11 #[.val (.ref a1), .val (.ref a2), .val (.int (2 : Int32)), .val (.int (3 : Int32)), .unset] [(.int (1 : Int32)), (.int (3 : Int32))])) (fun tt_ kk_ => XS.iconst X3.here hx rfl (hb hby d2_10) kk_) ?_
  refine Wp.st (S' := T3.setTop (mkF m 14 #[.val (.ref a1), .val (.ref a2), .val (.int (2 : Int32)), .val (.int (3 : Int32)), .unset] [])) (fun tt_ kk_ => XS.icmpNo X3.here hx rfl (hb hby d2_11) rfl (tlt ((by decide) : (1 : Int32) < (3 : Int32))).2.2.2 kk_) ?_
  refine Wp.st (S' := T3.setTop (mkF m 17 #[.val (.ref a1), .val (.ref a2), .val (.int ((2 : Int32) + (1 : Int32))), .val (.int (3 : Int32)), .unset] [])) (fun tt_ kk_ => XS.iinc X3.here hx rfl (hb hby d2_14) rfl (l' := #[.val (.ref a1), .val (.ref a2), .val (.int ((2 : Int32) + (1 : Int32))), .val (.int (3 : Int32)), .unset]) rfl kk_) ?_
  rw [(by decide : ((2 : Int32) + (1 : Int32)) = (3 : Int32))]
  refine Wp.st (S' := T3.setTop (mkF m 18 #[.val (.ref a1), .val (.ref a2), .val (.int (3 : Int32)), .val (.int (3 : Int32)), .unset] [(.int (3 : Int32))])) (fun tt_ kk_ => XS.iloadN X3.here hx rfl (hb hby d2_17) rfl  kk_) ?_
  obtain ⟨vv4, _, ⟨T4, L4, k4, n4⟩, -, X4, ⟨Lc4, hQ4, l4, y4, z4⟩, st4⟩ := Jvm.LawKit.callS X3 hx (y := (⟨"com/example/dags_over_clouds/dagsoverclouds/plan/Tally", "runs", "(I)I"⟩ : MethodName)) hown (mvT hZ (hw _ (List.mem_of_getElem? (i := 32) rfl))) (mvT hZ (hw _ (List.mem_of_getElem? (i := 33) rfl))) (mvT hZ (hw _ (List.mem_of_getElem? (i := 9) rfl))) (mvT hZ (hw _ (List.mem_of_getElem? (i := 34) rfl))) (by decide) (backOf (W := 0) (rm5 l Z a0 hw [] (3 : Int32) h0 n0 Z0 ) hZ (hw _ (List.mem_of_getElem? (i := 34) rfl)) (hw _ (List.mem_of_getElem? (i := 9) rfl)) (by decide) (by decide)) (g := (mkF m 18 #[.val (.ref a1), .val (.ref a2), .val (.int (3 : Int32)), .val (.int (3 : Int32)), .unset] [(.int (3 : Int32))])) rfl (by rw [hml]; rfl) (argsL := [(.int (3 : Int32))]) (rest := []) (lenOf pd_2 rfl) rfl (by show 2 * 0 + _ ≤ _; exact Nat.le_of_eq rfl) (hb hby d2_18) (fun _ _ => ⟨rfl, e3, (by decide : 0 + 0 ≤ _), (by decide : 0 + 0 ≤ _)⟩)
  dsimp only [Pt.U, Pt.locs, Pt.cells, Pt.slots] at X4 l4 y4 z4 st4 hQ4
  subst l4 y4 z4
  obtain ⟨rfl, Nq4, e4⟩ := hQ4
  have N4 := Fr.app N3 Nq4
  refine Wp.st (S' := T4.setTop (mkF m 21 #[.val (.ref a1), .val (.ref a2), .val (.int (3 : Int32)), .val (.int (3 : Int32)), .unset] [(.int (own_runs (3 : Int32)))])) st4 ?_
  rw [(by decide : (own_runs (3 : Int32)) = (1 : Int32))]
  refine Wp.st (S' := T4.setTop (mkF m 22 #[.val (.ref a1), .val (.ref a2), .val (.int (3 : Int32)), .val (.int (1 : Int32)), .unset] [])) (fun tt_ kk_ => XS.istoreN X4.here hx rfl (hb hby d2_21) rfl (l' := #[.val (.ref a1), .val (.ref a2), .val (.int (3 : Int32)), .val (.int (1 : Int32)), .unset]) rfl kk_) ?_
  refine Wp.st (S' := T4.setTop (mkF m 9 #[.val (.ref a1), .val (.ref a2), .val (.int (3 : Int32)), .val (.int (1 : Int32)), .unset] [])) (fun tt_ kk_ => XS.goto X4.here hx rfl (pc0 := 22) (pc' := 9) rfl (hb hby d2_22) (by decide) (by decide) kk_) ?_
  refine Wp.st (S' := T4.setTop (mkF m 10 #[.val (.ref a1), .val (.ref a2), .val (.int (3 : Int32)), .val (.int (1 : Int32)), .unset] [(.int (1 : Int32))])) (fun tt_ kk_ => XS.iloadN X4.here hx rfl (hb hby d2_9) rfl  kk_) ?_
  refine Wp.st (S' := T4.setTop (mkF m 11 #[.val (.ref a1), .val (.ref a2), .val (.int (3 : Int32)), .val (.int (1 : Int32)), .unset] [(.int (1 : Int32)), (.int (1 : Int32))])) (fun tt_ kk_ => XS.iconst X4.here hx rfl (hb hby d2_10) kk_) ?_
  refine Wp.st (S' := T4.setTop (mkF m 25 #[.val (.ref a1), .val (.ref a2), .val (.int (3 : Int32)), .val (.int (1 : Int32)), .unset] [])) (fun tt_ kk_ => XS.icmpYes X4.here hx rfl (pc0 := 11) (pc' := 25) rfl (hb hby d2_11) rfl (flt ((by decide) : ¬ ((1 : Int32) < (1 : Int32)))).2.2.2 (by decide) (by decide) kk_) ?_
  refine Wp.st (S' := T4.setTop (mkF m 26 #[.val (.ref a1), .val (.ref a2), .val (.int (3 : Int32)), .val (.int (1 : Int32)), .unset] [(.int (3 : Int32))])) (fun tt_ kk_ => XS.iloadN X4.here hx rfl (hb hby d2_25) rfl  kk_) ?_
  refine Wp.st (S' := T4.setTop (mkF m 27 #[.val (.ref a1), .val (.ref a2), .val (.int (3 : Int32)), .val (.int (1 : Int32)), .unset] [(.int (2 : Int32)), (.int (3 : Int32))])) (fun tt_ kk_ => XS.iconst X4.here hx rfl (hb hby d2_26) kk_) ?_
  obtain ⟨vv5, _, ⟨T5, L5, k5, n5⟩, -, X5, ⟨Lc5, hQ5, l5, y5, z5⟩, st5⟩ := Jvm.LawKit.callS X4 hx (y := (⟨"java/lang/Math", "max", "(II)I"⟩ : MethodName)) hown (mvT hZ (hw _ (List.mem_of_getElem? (i := 16) rfl))) (mvT hZ (hw _ (List.mem_of_getElem? (i := 17) rfl))) (mvT hZ (hw _ (List.mem_of_getElem? (i := 18) rfl))) (mvT hZ (hw _ (List.mem_of_getElem? (i := 19) rfl))) (by decide) (backOf (W := 0) (rm4 l Z a0 hw [] (3 : Int32) (2 : Int32) h0 n0 Z0 ) hZ (hw _ (List.mem_of_getElem? (i := 19) rfl)) (hw _ (List.mem_of_getElem? (i := 18) rfl)) (by decide) (by decide)) (g := (mkF m 27 #[.val (.ref a1), .val (.ref a2), .val (.int (3 : Int32)), .val (.int (1 : Int32)), .unset] [(.int (2 : Int32)), (.int (3 : Int32))])) rfl (by rw [hml]; rfl) (argsL := [(.int (3 : Int32)), (.int (2 : Int32))]) (rest := []) (lenOf pd_0 rfl) rfl (by show 2 * 0 + _ ≤ _; exact Nat.le_of_eq rfl) (hb hby d2_27) (fun _ _ => ⟨rfl, e4, (by decide : 0 + 0 ≤ _), (by decide : 0 + 0 ≤ _)⟩)
  dsimp only [Pt.U, Pt.locs, Pt.cells, Pt.slots] at X5 l5 y5 z5 st5 hQ5
  subst l5 y5 z5
  obtain ⟨rfl, Nq5, e5⟩ := hQ5
  have N5 := Fr.app N4 Nq5
  refine Wp.st (S' := T5.setTop (mkF m 30 #[.val (.ref a1), .val (.ref a2), .val (.int (3 : Int32)), .val (.int (1 : Int32)), .unset] [(.int (own_max (3 : Int32) (2 : Int32)))])) st5 ?_
  rw [(by decide : (own_max (3 : Int32) (2 : Int32)) = (3 : Int32))]
  refine Wp.st (S' := T5.setTop (mkF m 31 #[.val (.ref a1), .val (.ref a2), .val (.int (3 : Int32)), .val (.int (1 : Int32)), .unset] [])) (fun tt_ kk_ => XS.istoreN X5.here hx rfl (hb hby d2_30) rfl (l' := #[.val (.ref a1), .val (.ref a2), .val (.int (3 : Int32)), .val (.int (1 : Int32)), .unset]) rfl kk_) ?_
  refine Wp.st (S' := T5.setTop (mkF m 32 #[.val (.ref a1), .val (.ref a2), .val (.int (3 : Int32)), .val (.int (1 : Int32)), .unset] [(.ref a1)])) (fun tt_ kk_ => XS.aloadN X5.here hx rfl (hb hby d2_31) rfl rfl kk_) ?_
  refine Wp.st (S' := T5.setTop (mkF m 33 #[.val (.ref a1), .val (.ref a2), .val (.int (3 : Int32)), .val (.int (1 : Int32)), .unset] [(.int (3 : Int32)), (.ref a1)])) (fun tt_ kk_ => XS.iloadN X5.here hx rfl (hb hby d2_32) rfl  kk_) ?_
  obtain ⟨T6, h6, k6, X6, e6, E6, A6, Ea6, O6, st6⟩ := newRA X5 hx hZ hown (ty := .double) (C := "[D") (by decide +kernel) (hw _ (List.mem_of_getElem? (i := 20) rfl)) (hw _ (List.mem_of_getElem? (i := 21) rfl)) e5 (g := (mkF m 33 #[.val (.ref a1), .val (.ref a2), .val (.int (3 : Int32)), .val (.int (1 : Int32)), .unset] [(.int (3 : Int32)), (.ref a1)])) rfl (hb hby d2_33) rfl (by decide) (cap := 3) (by decide) (by decide) (by decide) (by decide) (ad := "[[D") (by decide +kernel)
  clear Ea6
  obtain ⟨b6, g6⟩ : ∃ z, z = h0.size := ⟨_, rfl⟩
  rw [← g6] at A6 st6
  have z7 := E6.1
  have V6 : Arv Z h6 b6 k6 (.array .double) (3 : Int32) [.null, .null, .null] .null := (Arv.new A6 (by decide)).pad (pad_rep [] .null 3)
  have g8 : n0 ≤ b6 := Nat.le_trans (Nat.le_trans Z0 (Nat.le_refl _)) (Nat.le_of_eq g6.symm)
  refine Wp.st (S' := T6.setTop (mkF m 36 #[.val (.ref a1), .val (.ref a2), .val (.int (3 : Int32)), .val (.int (1 : Int32)), .unset] [(.ref b6), (.ref a1)])) st6 ?_
  have F10 := P2.ext E6
  have F11 := P1.ext E6
  obtain ⟨T9, h9, X9, e9, W9, st9⟩ := putF X6 hx hZ hown (host := "") (Or.inl (hw _ (List.mem_of_getElem? (i := 22) rfl))) Via.refl e6 F10 F11 (Or.inr ⟨(hw _ (List.mem_of_getElem? (i := 23) rfl)), rfl, hnm⟩) (hw _ (List.mem_of_getElem? (i := 8) rfl)) (ty := (.array (.array .double))) (by decide) rfl rfl (g := (mkF m 36 #[.val (.ref a1), .val (.ref a2), .val (.int (3 : Int32)), .val (.int (1 : Int32)), .unset] [(.ref b6), (.ref a1)])) rfl rfl (hb hby d2_36)
  have z12 := Nat.le_of_eq W9.size.symm
  have Fw9 : Fld Z h9 a1 "com/example/dags_over_clouds/dagsoverclouds/plan/Tally" "levels" "[[D" (.ref b6) := F10.same W9
  have N9 := Fr.snoc X9 N5 g_a1
  refine Wp.st (S' := T9.setTop (mkF m 39 #[.val (.ref a1), .val (.ref a2), .val (.int (3 : Int32)), .val (.int (1 : Int32)), .unset] [])) st9 ?_
  refine Wp.st (S' := T9.setTop (mkF m 40 #[.val (.ref a1), .val (.ref a2), .val (.int (3 : Int32)), .val (.int (1 : Int32)), .unset] [(.ref a1)])) (fun tt_ kk_ => XS.aloadN X9.here hx rfl (hb hby d2_39) rfl rfl kk_) ?_
  obtain ⟨T13, X13, e13, st13⟩ := getF X9 hx hZ hown (host := "") (Or.inl (hw _ (List.mem_of_getElem? (i := 22) rfl))) Via.refl e9 Fw9 (g := (mkF m 40 #[.val (.ref a1), .val (.ref a2), .val (.int (3 : Int32)), .val (.int (1 : Int32)), .unset] [(.ref a1)])) rfl rfl (hb hby d2_40)
  refine Wp.st (S' := T13.setTop (mkF m 43 #[.val (.ref a1), .val (.ref a2), .val (.int (3 : Int32)), .val (.int (1 : Int32)), .unset] [(.ref b6)])) st13 ?_
  refine Wp.st (S' := T13.setTop (mkF m 44 #[.val (.ref a1), .val (.ref a2), .val (.int (3 : Int32)), .val (.int (1 : Int32)), .unset] [(.int (0 : Int32)), (.ref b6)])) (fun tt_ kk_ => XS.iconst X13.here hx rfl (hb hby d2_43) kk_) ?_
  refine Wp.st (S' := T13.setTop (mkF m 45 #[.val (.ref a1), .val (.ref a2), .val (.int (3 : Int32)), .val (.int (1 : Int32)), .unset] [(.ref a2), (.int (0 : Int32)), (.ref b6)])) (fun tt_ kk_ => XS.aloadN X13.here hx rfl (hb hby d2_44) rfl rfl kk_) ?_
  have F15 := P3.ext E6
  have F16 := F15.other W9 (Ne.symm n_a1_a2)
  have F17 := P4.ext E6
  have F18 := F17.wr W9
  obtain ⟨T14, h14, X14, e14, E14, A14, Ea14, st14⟩ := cloneH X13 hx hZ hown (hw _ (List.mem_of_getElem? (i := 24) rfl)) (hw _ (List.mem_of_getElem? (i := 25) rfl)) (hw _ (List.mem_of_getElem? (i := 29) rfl)) (hw _ (List.mem_of_getElem? (i := 27) rfl)) (hw _ (List.mem_of_getElem? (i := 28) rfl)) (hw _ (List.mem_of_getElem? (i := 30) rfl)) e13 (show Arh Z _ _ _ _ _ [] _ _ from F16) F18 (g := (mkF m 45 #[.val (.ref a1), .val (.ref a2), .val (.int (3 : Int32)), .val (.int (1 : Int32)), .unset] [(.ref a2), (.int (0 : Int32)), (.ref b6)])) rfl (by rw [hml]; rfl) rfl (hb hby d2_45) (by decide) (W := 2) (cap := 129) (by show 2 * 0 + _ ≤ _; exact Nat.le_of_eq rfl) (by decide) hcap (by decide) (by decide)
  obtain ⟨b14, g14⟩ : ∃ z, z = h9.size := ⟨_, rfl⟩
  rw [← g14] at A14 Ea14 st14
  have z19 := E14.1
  have V14 : Arv Z h14 b14 kt .double n (own_dl wf) (.double (0 : UInt64)) := A14
  have g20 : n0 ≤ b14 := Nat.le_trans (Nat.le_trans Z0 (Nat.le_trans z7 z12)) (Nat.le_of_eq g14.symm)
  refine Wp.st (S' := T14.setTop (mkF m 48 #[.val (.ref a1), .val (.ref a2), .val (.int (3 : Int32)), .val (.int (1 : Int32)), .unset] [(.ref b14), (.int (0 : Int32)), (.ref b6)])) st14 ?_
  obtain ⟨T21, X21, e21, st21⟩ := castY X14 hx hZ hown (hw _ (List.mem_of_getElem? (i := 20) rfl)) e14 (Ins.self Ea14) (g := (mkF m 48 #[.val (.ref a1), .val (.ref a2), .val (.int (3 : Int32)), .val (.int (1 : Int32)), .unset] [(.ref b14), (.int (0 : Int32)), (.ref b6)])) rfl rfl (hb hby d2_48)
  refine Wp.st (S' := T21.setTop (mkF m 51 #[.val (.ref a1), .val (.ref a2), .val (.int (3 : Int32)), .val (.int (1 : Int32)), .unset] [(.ref b14), (.int (0 : Int32)), (.ref b6)])) st21 ?_
  have F22 := V6.other W9 (Ne.symm (Nat.ne_of_lt (Nat.lt_of_lt_of_le P1.lt (Nat.le_trans (Nat.le_refl _) (Nat.le_of_eq g6.symm)))))
  have F23 := F22.ext E14
  obtain ⟨cl24, Ar24, q24, S24, N24, H24, G24⟩ := id F23
  have hin24 := inb_of (j := (0 : Int32)) S24 ⟨by decide, by decide⟩
  obtain ⟨T24, h24, X24, e24, W24, st24⟩ := stR X21 hx hZ e21 Ar24 (j := (0 : Int32)) hin24 rfl (Sto.ofVA Ar24 q24 O6 (Ins.self Ea14)) (g := (mkF m 51 #[.val (.ref a1), .val (.ref a2), .val (.int (3 : Int32)), .val (.int (1 : Int32)), .unset] [(.ref b14), (.int (0 : Int32)), (.ref b6)])) rfl rfl (hb hby d2_51)
  have z25 := Nat.le_of_eq W24.size.symm
  have V24 : Arv Z h24 b6 k6 (.array .double) (3 : Int32) [(.ref b14), .null, .null] .null := Arv.set Ar24 q24 S24 N24 H24 G24 rfl W24 0 rfl (Nat.le_of_ble_eq_true rfl)
  have Nf24 := Fr.snoc X24 N9 g8
  refine Wp.st (S' := T24.setTop (mkF m 52 #[.val (.ref a1), .val (.ref a2), .val (.int (3 : Int32)), .val (.int (1 : Int32)), .unset] [])) st24 ?_
  refine Wp.st (S' := T24.setTop (mkF m 53 #[.val (.ref a1), .val (.ref a2), .val (.int (3 : Int32)), .val (.int (1 : Int32)), .unset] [(.int (1 : Int32))])) (fun tt_ kk_ => XS.iconst X24.here hx rfl (hb hby d2_52) kk_) ?_
  refine Wp.st (S' := T24.setTop (mkF m 54 #[.val (.ref a1), .val (.ref a2), .val (.int (3 : Int32)), .val (.int (1 : Int32)), .unset] [])) (fun tt_ kk_ => XS.istoreN X24.here hx rfl (hb hby d2_53) rfl (l' := #[.val (.ref a1), .val (.ref a2), .val (.int (3 : Int32)), .val (.int (1 : Int32)), .unset]) rfl kk_) ?_
  refine Wp.st (S' := T24.setTop (mkF m 55 #[.val (.ref a1), .val (.ref a2), .val (.int (3 : Int32)), .val (.int (1 : Int32)), .unset] [(.int (1 : Int32))])) (fun tt_ kk_ => XS.iloadN X24.here hx rfl (hb hby d2_54) rfl  kk_) ?_
  refine Wp.st (S' := T24.setTop (mkF m 56 #[.val (.ref a1), .val (.ref a2), .val (.int (3 : Int32)), .val (.int (1 : Int32)), .unset] [(.int (3 : Int32)), (.int (1 : Int32))])) (fun tt_ kk_ => XS.iloadN X24.here hx rfl (hb hby d2_55) rfl  kk_) ?_
  refine Wp.st (S' := T24.setTop (mkF m 59 #[.val (.ref a1), .val (.ref a2), .val (.int (3 : Int32)), .val (.int (1 : Int32)), .unset] [])) (fun tt_ kk_ => XS.icmpNo X24.here hx rfl (hb hby d2_56) rfl (tlt ((by decide) : (1 : Int32) < (3 : Int32))).2.1 kk_) ?_
  refine Wp.st (S' := T24.setTop (mkF m 60 #[.val (.ref a1), .val (.ref a2), .val (.int (3 : Int32)), .val (.int (1 : Int32)), .unset] [(.ref a1)])) (fun tt_ kk_ => XS.aloadN X24.here hx rfl (hb hby d2_59) rfl rfl kk_) ?_
  have F26 := Fw9.ext E14
  have F27 := F26.other W24 (Or.inl (Nat.ne_of_lt (Nat.lt_of_lt_of_le P1.lt (Nat.le_trans (Nat.le_refl _) (Nat.le_of_eq g6.symm)))))
  obtain ⟨T28, X28, e28, st28⟩ := getF X24 hx hZ hown (host := "") (Or.inl (hw _ (List.mem_of_getElem? (i := 22) rfl))) Via.refl e24 F27 (g := (mkF m 60 #[.val (.ref a1), .val (.ref a2), .val (.int (3 : Int32)), .val (.int (1 : Int32)), .unset] [(.ref a1)])) rfl rfl (hb hby d2_60)
  refine Wp.st (S' := T28.setTop (mkF m 63 #[.val (.ref a1), .val (.ref a2), .val (.int (3 : Int32)), .val (.int (1 : Int32)), .unset] [(.ref b6)])) st28 ?_
  refine Wp.st (S' := T28.setTop (mkF m 64 #[.val (.ref a1), .val (.ref a2), .val (.int (3 : Int32)), .val (.int (1 : Int32)), .unset] [(.int (1 : Int32)), (.ref b6)])) (fun tt_ kk_ => XS.iloadN X28.here hx rfl (hb hby d2_63) rfl  kk_) ?_
  refine Wp.st (S' := T28.setTop (mkF m 65 #[.val (.ref a1), .val (.ref a2), .val (.int (3 : Int32)), .val (.int (1 : Int32)), .unset] [(.ref a1), (.int (1 : Int32)), (.ref b6)])) (fun tt_ kk_ => XS.aloadN X28.here hx rfl (hb hby d2_64) rfl rfl kk_) ?_
  obtain ⟨T29, X29, e29, st29⟩ := getF X28 hx hZ hown (host := "") (Or.inl (hw _ (List.mem_of_getElem? (i := 22) rfl))) Via.refl e28 F27 (g := (mkF m 65 #[.val (.ref a1), .val (.ref a2), .val (.int (3 : Int32)), .val (.int (1 : Int32)), .unset] [(.ref a1), (.int (1 : Int32)), (.ref b6)])) rfl rfl (hb hby d2_65)
  refine Wp.st (S' := T29.setTop (mkF m 68 #[.val (.ref a1), .val (.ref a2), .val (.int (3 : Int32)), .val (.int (1 : Int32)), .unset] [(.ref b6), (.int (1 : Int32)), (.ref b6)])) st29 ?_
  refine Wp.st (S' := T29.setTop (mkF m 69 #[.val (.ref a1), .val (.ref a2), .val (.int (3 : Int32)), .val (.int (1 : Int32)), .unset] [(.int (1 : Int32)), (.ref b6), (.int (1 : Int32)), (.ref b6)])) (fun tt_ kk_ => XS.iloadN X29.here hx rfl (hb hby d2_68) rfl  kk_) ?_
  refine Wp.st (S' := T29.setTop (mkF m 70 #[.val (.ref a1), .val (.ref a2), .val (.int (3 : Int32)), .val (.int (1 : Int32)), .unset] [(.int (1 : Int32)), (.int (1 : Int32)), (.ref b6), (.int (1 : Int32)), (.ref b6)])) (fun tt_ kk_ => XS.iconst X29.here hx rfl (hb hby d2_69) kk_) ?_
  refine Wp.st (S' := T29.setTop (mkF m 71 #[.val (.ref a1), .val (.ref a2), .val (.int (3 : Int32)), .val (.int (1 : Int32)), .unset] [(.int ((1 : Int32) - (1 : Int32))), (.ref b6), (.int (1 : Int32)), (.ref b6)])) (fun tt_ kk_ => XS.isub X29.here hx rfl (hb hby d2_70) rfl kk_) ?_
  rw [(by decide : ((1 : Int32) - (1 : Int32)) = (0 : Int32))]
  obtain ⟨cl30, Ar30, q30, S30, N30, H30, G30⟩ := id V24
  have hin30 := inb_of (j := (0 : Int32)) S30 ⟨by decide, by decide⟩
  refine Wp.st (S' := T29.setTop (mkF m 72 #[.val (.ref a1), .val (.ref a2), .val (.int (3 : Int32)), .val (.int (1 : Int32)), .unset] [(.ref b14), (.int (1 : Int32)), (.ref b6)])) (fun tt_ kk_ => X29.aaload hx (j := (0 : Int32)) (v := (.ref b14)) (by rw [e29]; exact Ar30.1) (State.isArrayOf_alike hZ.alike Ar30.2.1) rfl Ar30.2.2 hin30 (H30.at hin30 rfl) (g := (mkF m 71 #[.val (.ref a1), .val (.ref a2), .val (.int (3 : Int32)), .val (.int (1 : Int32)), .unset] [(.int (0 : Int32)), (.ref b6), (.int (1 : Int32)), (.ref b6)])) rfl rfl (hb hby d2_71) tt_ kk_) ?_
  have F31 := V14.other W24 (Ne.symm (Nat.ne_of_lt (Nat.lt_of_lt_of_le V6.lt (Nat.le_trans z12 (Nat.le_of_eq g14.symm)))))
  obtain ⟨cl32, Ar32, q32, S32, N32, H32, G32⟩ := id F31
  refine Wp.st (S' := T29.setTop (mkF m 73 #[.val (.ref a1), .val (.ref a2), .val (.int (3 : Int32)), .val (.int (1 : Int32)), .unset] [(.int n), (.int (1 : Int32)), (.ref b6)])) (fun tt_ kk_ => X29.arraylength hx (by rw [e29]; exact Ar32.1) (State.isArrayOf_alike hZ.alike Ar32.2.1) (g := (mkF m 72 #[.val (.ref a1), .val (.ref a2), .val (.int (3 : Int32)), .val (.int (1 : Int32)), .unset] [(.ref b14), (.int (1 : Int32)), (.ref b6)])) rfl rfl (hb hby d2_72) tt_ (by rw [len_of S32 N32]; exact kk_)) ?_
  obtain ⟨vv33, _, ⟨T33, L33, k33, n33⟩, -, X33, ⟨Lc33, hQ33, l33, y33, z33⟩, st33⟩ := Jvm.LawKit.callS X29 hx (y := (⟨"com/example/dags_over_clouds/dagsoverclouds/plan/Tally", "runs", "(I)I"⟩ : MethodName)) hown (mvT hZ (hw _ (List.mem_of_getElem? (i := 32) rfl))) (mvT hZ (hw _ (List.mem_of_getElem? (i := 33) rfl))) (mvT hZ (hw _ (List.mem_of_getElem? (i := 9) rfl))) (mvT hZ (hw _ (List.mem_of_getElem? (i := 34) rfl))) (by decide) (backOf (W := 2) (rm5 l Z a0 hw [] n h24 n0 (Nat.le_trans Z0 (Nat.le_trans (Nat.le_trans (Nat.le_trans z7 z12) z19) z25)) ) hZ (hw _ (List.mem_of_getElem? (i := 34) rfl)) (hw _ (List.mem_of_getElem? (i := 9) rfl)) (by decide) (by decide)) (g := (mkF m 73 #[.val (.ref a1), .val (.ref a2), .val (.int (3 : Int32)), .val (.int (1 : Int32)), .unset] [(.int n), (.int (1 : Int32)), (.ref b6)])) rfl (by rw [hml]; rfl) (argsL := [(.int n)]) (rest := [(.int (1 : Int32)), (.ref b6)]) (lenOf pd_2 rfl) rfl (by show 2 * 0 + _ ≤ _; exact Nat.le_of_eq rfl) (hb hby d2_73) (fun _ _ => ⟨rfl, e29, (by decide : 2 + 0 ≤ _), (by decide : 132 + 0 ≤ _)⟩)
  dsimp only [Pt.U, Pt.locs, Pt.cells, Pt.slots] at X33 l33 y33 z33 st33 hQ33
  subst l33 y33 z33
  obtain ⟨rfl, Nq33, e33⟩ := hQ33
  have N33 := Fr.app Nf24 Nq33
  refine Wp.st (S' := T33.setTop (mkF m 76 #[.val (.ref a1), .val (.ref a2), .val (.int (3 : Int32)), .val (.int (1 : Int32)), .unset] [(.int (own_runs n)), (.int (1 : Int32)), (.ref b6)])) st33 ?_
  rw [(hru : (own_runs n) = (3 : Int32))]
  obtain ⟨T34, h34, k34, X34, e34, E34, A34, Ea34, st34⟩ := newPE X33 hx hZ (hw _ (List.mem_of_getElem? (i := 6) rfl)) e33 (g := (mkF m 76 #[.val (.ref a1), .val (.ref a2), .val (.int (3 : Int32)), .val (.int (1 : Int32)), .unset] [(.int (3 : Int32)), (.int (1 : Int32)), (.ref b6)])) rfl (hb hby d2_76) rfl (by decide) (cap := 3) (by decide) (by decide) (by decide) (by decide) (ad := "[D") (by decide +kernel)
  obtain ⟨b34, g34⟩ : ∃ z, z = h24.size := ⟨_, rfl⟩
  rw [← g34] at A34 Ea34 st34
  have z35 := E34.1
  have V34 : Arv Z h34 b34 k34 .double (3 : Int32) [(.double (0 : UInt64)), (.double (0 : UInt64)), (.double (0 : UInt64))] (.double (0 : UInt64)) := (Arv.new A34 (by decide)).pad (pad_rep [] (.double (0 : UInt64)) 3)
  have g36 : n0 ≤ b34 := Nat.le_trans (Nat.le_trans Z0 (Nat.le_trans (Nat.le_trans (Nat.le_trans z7 z12) z19) z25)) (Nat.le_of_eq g34.symm)
  refine Wp.st (S' := T34.setTop (mkF m 78 #[.val (.ref a1), .val (.ref a2), .val (.int (3 : Int32)), .val (.int (1 : Int32)), .unset] [(.ref b34), (.int (1 : Int32)), (.ref b6)])) st34 ?_
  have Vz37 : Arv Z h34 b34 k34 .double (3 : Int32) (own_dl own_z) (.double (0 : UInt64)) := (V34).pad (own_zpad 3)
  have F38 := V24.ext E34
  obtain ⟨cl39, Ar39, q39, S39, N39, H39, G39⟩ := id F38
  have hin39 := inb_of (j := (1 : Int32)) S39 ⟨by decide, by decide⟩
  obtain ⟨T39, h39, X39, e39, W39, st39⟩ := stR X34 hx hZ e34 Ar39 (j := (1 : Int32)) hin39 rfl (Sto.ofVA Ar39 q39 O6 (Ins.self Ea34)) (g := (mkF m 78 #[.val (.ref a1), .val (.ref a2), .val (.int (3 : Int32)), .val (.int (1 : Int32)), .unset] [(.ref b34), (.int (1 : Int32)), (.ref b6)])) rfl rfl (hb hby d2_78)
  have z40 := Nat.le_of_eq W39.size.symm
  have V39 : Arv Z h39 b6 k6 (.array .double) (3 : Int32) [(.ref b14), (.ref b34), .null] .null := Arv.set Ar39 q39 S39 N39 H39 G39 rfl W39 1 rfl (Nat.le_of_ble_eq_true rfl)
  have Nf39 := Fr.snoc X39 N33 g8
  refine Wp.st (S' := T39.setTop (mkF m 79 #[.val (.ref a1), .val (.ref a2), .val (.int (3 : Int32)), .val (.int (1 : Int32)), .unset] [])) st39 ?_
  refine Wp.st (S' := T39.setTop (mkF m 80 #[.val (.ref a1), .val (.ref a2), .val (.int (3 : Int32)), .val (.int (1 : Int32)), .unset] [(.int (0 : Int32))])) (fun tt_ kk_ => XS.iconst X39.here hx rfl (hb hby d2_79) kk_) ?_
  refine Wp.st (S' := T39.setTop (mkF m 82 #[.val (.ref a1), .val (.ref a2), .val (.int (3 : Int32)), .val (.int (1 : Int32)), .val (.int (0 : Int32))] [])) (fun tt_ kk_ => XS.istore X39.here hx rfl (hb hby d2_80) rfl (l' := #[.val (.ref a1), .val (.ref a2), .val (.int (3 : Int32)), .val (.int (1 : Int32)), .val (.int (0 : Int32))]) rfl kk_) ?_
  refine Wp.st (S' := T39.setTop (mkF m 84 #[.val (.ref a1), .val (.ref a2), .val (.int (3 : Int32)), .val (.int (1 : Int32)), .val (.int (0 : Int32))] [(.int (0 : Int32))])) (fun tt_ kk_ => XS.iload X39.here hx rfl (hb hby d2_82) rfl  kk_) ?_
  refine Wp.st (S' := T39.setTop (mkF m 85 #[.val (.ref a1), .val (.ref a2), .val (.int (3 : Int32)), .val (.int (1 : Int32)), .val (.int (0 : Int32))] [(.ref a1), (.int (0 : Int32))])) (fun tt_ kk_ => XS.aloadN X39.here hx rfl (hb hby d2_84) rfl rfl kk_) ?_
  have F41 := F27.ext E34
  have F42 := F41.other W39 (Or.inl (Nat.ne_of_lt (Nat.lt_of_lt_of_le P1.lt (Nat.le_trans (Nat.le_refl _) (Nat.le_of_eq g6.symm)))))
  obtain ⟨T43, X43, e43, st43⟩ := getF X39 hx hZ hown (host := "") (Or.inl (hw _ (List.mem_of_getElem? (i := 22) rfl))) Via.refl e39 F42 (g := (mkF m 85 #[.val (.ref a1), .val (.ref a2), .val (.int (3 : Int32)), .val (.int (1 : Int32)), .val (.int (0 : Int32))] [(.ref a1), (.int (0 : Int32))])) rfl rfl (hb hby d2_85)
  refine Wp.st (S' := T43.setTop (mkF m 88 #[.val (.ref a1), .val (.ref a2), .val (.int (3 : Int32)), .val (.int (1 : Int32)), .val (.int (0 : Int32))] [(.ref b6), (.int (0 : Int32))])) st43 ?_
  refine Wp.st (S' := T43.setTop (mkF m 89 #[.val (.ref a1), .val (.ref a2), .val (.int (3 : Int32)), .val (.int (1 : Int32)), .val (.int (0 : Int32))] [(.int (1 : Int32)), (.ref b6), (.int (0 : Int32))])) (fun tt_ kk_ => XS.iloadN X43.here hx rfl (hb hby d2_88) rfl  kk_) ?_
  obtain ⟨cl44, Ar44, q44, S44, N44, H44, G44⟩ := id V39
  have hin44 := inb_of (j := (1 : Int32)) S44 ⟨by decide, by decide⟩
  refine Wp.st (S' := T43.setTop (mkF m 90 #[.val (.ref a1), .val (.ref a2), .val (.int (3 : Int32)), .val (.int (1 : Int32)), .val (.int (0 : Int32))] [(.ref b34), (.int (0 : Int32))])) (fun tt_ kk_ => X43.aaload hx (j := (1 : Int32)) (v := (.ref b34)) (by rw [e43]; exact Ar44.1) (State.isArrayOf_alike hZ.alike Ar44.2.1) rfl Ar44.2.2 hin44 (H44.at hin44 rfl) (g := (mkF m 89 #[.val (.ref a1), .val (.ref a2), .val (.int (3 : Int32)), .val (.int (1 : Int32)), .val (.int (0 : Int32))] [(.int (1 : Int32)), (.ref b6), (.int (0 : Int32))])) rfl rfl (hb hby d2_89) tt_ kk_) ?_
  have F45 := Vz37.other W39 (Ne.symm (Nat.ne_of_lt (Nat.lt_of_lt_of_le V6.lt (Nat.le_trans (Nat.le_trans (Nat.le_trans z12 z19) z25) (Nat.le_of_eq g34.symm)))))
  obtain ⟨cl46, Ar46, q46, S46, N46, H46, G46⟩ := id F45
  refine Wp.st (S' := T43.setTop (mkF m 91 #[.val (.ref a1), .val (.ref a2), .val (.int (3 : Int32)), .val (.int (1 : Int32)), .val (.int (0 : Int32))] [(.int (3 : Int32)), (.int (0 : Int32))])) (fun tt_ kk_ => X43.arraylength hx (by rw [e43]; exact Ar46.1) (State.isArrayOf_alike hZ.alike Ar46.2.1) (g := (mkF m 90 #[.val (.ref a1), .val (.ref a2), .val (.int (3 : Int32)), .val (.int (1 : Int32)), .val (.int (0 : Int32))] [(.ref b34), (.int (0 : Int32))])) rfl rfl (hb hby d2_90) tt_ (by rw [len_of S46 N46]; exact kk_)) ?_
  refine Wp.st (S' := T43.setTop (mkF m 94 #[.val (.ref a1), .val (.ref a2), .val (.int (3 : Int32)), .val (.int (1 : Int32)), .val (.int (0 : Int32))] [])) (fun tt_ kk_ => XS.icmpNo X43.here hx rfl (hb hby d2_91) rfl (tlt ((by decide) : (0 : Int32) < (3 : Int32))).2.1 kk_) ?_
  refine Wp.st (S' := T43.setTop (mkF m 95 #[.val (.ref a1), .val (.ref a2), .val (.int (3 : Int32)), .val (.int (1 : Int32)), .val (.int (0 : Int32))] [(.ref a1)])) (fun tt_ kk_ => XS.aloadN X43.here hx rfl (hb hby d2_94) rfl rfl kk_) ?_
  refine Wp.st (S' := T43.setTop (mkF m 96 #[.val (.ref a1), .val (.ref a2), .val (.int (3 : Int32)), .val (.int (1 : Int32)), .val (.int (0 : Int32))] [(.int (1 : Int32)), (.ref a1)])) (fun tt_ kk_ => XS.iloadN X43.here hx rfl (hb hby d2_95) rfl  kk_) ?_
  refine Wp.st (S' := T43.setTop (mkF m 98 #[.val (.ref a1), .val (.ref a2), .val (.int (3 : Int32)), .val (.int (1 : Int32)), .val (.int (0 : Int32))] [(.int (0 : Int32)), (.int (1 : Int32)), (.ref a1)])) (fun tt_ kk_ => XS.iload X43.here hx rfl (hb hby d2_96) rfl  kk_) ?_
  have F48 := F31.ext E34
  have F49 := F48.other W39 (Ne.symm (Nat.ne_of_lt (Nat.lt_of_lt_of_le V6.lt (Nat.le_trans z12 (Nat.le_of_eq g14.symm)))))
  have F50 := F11.wr W9
  have F51 := F50.ext E14
  have F52 := F51.wr W24
  have F53 := F52.ext E34
  have F54 := F53.wr W39
  obtain ⟨cq47, q47, q47'⟩ := (F54).cell
  obtain ⟨vv47, _, ⟨T47, L47, k47, n47⟩, -, X47, ⟨Lc47, hQ47, l47, y47, z47⟩, st47⟩ := X43.privateBack hx (y := (⟨"com/example/dags_over_clouds/dagsoverclouds/plan/Tally", "addUp", "(II)V"⟩ : MethodName)) hown (mvT hZ (hw _ (List.mem_of_getElem? (i := 35) rfl))) (mvT hZ (hw _ (List.mem_of_getElem? (i := 36) rfl))) (mvT hZ (own_selP (hw _ (List.mem_of_getElem? (i := 45) rfl)) (hw _ (List.mem_of_getElem? (i := 36) rfl)) (hw _ (List.mem_of_getElem? (i := 37) rfl)))) (Cond.privateMethod_at (mvP hZ (hw _ (List.mem_of_getElem? (i := 37) rfl)) (args := #[]))) (mvT hZ (hw _ (List.mem_of_getElem? (i := 38) rfl))) (by decide) (backOf (W := 0) (rmAdd31 l Z a0 hw [] a1 (0 : Int32) b6 b14 b34 .null k6 kt k34 n (3 : Int32) wf own_z h39 n0 (Nat.le_trans Z0 (Nat.le_trans (Nat.le_trans (Nat.le_trans (Nat.le_trans (Nat.le_trans z7 z12) z19) z25) z35) z40)) g36 F42 V39 F49 F45 ((by first | assumption | exact own_b_of (by assumption) | (repeat first | exact own_b_z | assumption | refine own_b_up ?_ _ (own_R_b (by assumption) _ _))) : own_b wf) ((by assumption) : own_hr (0 : Int32) n (3 : Int32))) hZ (hw _ (List.mem_of_getElem? (i := 38) rfl)) (hw _ (List.mem_of_getElem? (i := 9) rfl)) (by decide) (by decide)) (g := (mkF m 98 #[.val (.ref a1), .val (.ref a2), .val (.int (3 : Int32)), .val (.int (1 : Int32)), .val (.int (0 : Int32))] [(.int (0 : Int32)), (.int (1 : Int32)), (.ref a1)])) rfl (by rw [hml]; rfl) (Steps.refl _) (a := a1) (by rw [e43]; exact q47) q47' (argsL := [(.int (1 : Int32)), (.int (0 : Int32))]) (rest := []) (lenOf pd_1 rfl) rfl (by show 2 * 0 + _ ≤ _; exact Nat.le_of_eq rfl) (hb hby d2_98) (fun _ _ => ⟨rfl, e43, (by decide : 3 + 0 ≤ _), (by decide : 135 + 0 ≤ _)⟩)
  dsimp only [Pt.U, Pt.locs, Pt.cells, Pt.slots] at X47 l47 y47 z47 st47 hQ47
  subst l47 y47 z47
  obtain ⟨rfl, Nq47, K47, P47_0⟩ := hQ47
  have N47 := Fr.app Nf39 Nq47
  have z55 := K47.1
  have e47 : T47.heap = T47.heap := rfl
  refine Wp.tr (S' := T47.setTop (mkF m 101 #[.val (.ref a1), .val (.ref a2), .val (.int (3 : Int32)), .val (.int (1 : Int32)), .val (.int (0 : Int32))] [])) st47 ?_
  refine Wp.st (S' := T47.setTop (mkF m 104 #[.val (.ref a1), .val (.ref a2), .val (.int (3 : Int32)), .val (.int (1 : Int32)), .val (.int ((0 : Int32) + (1 : Int32)))] [])) (fun tt_ kk_ => XS.iinc X47.here hx rfl (hb hby d2_101) rfl (l' := #[.val (.ref a1), .val (.ref a2), .val (.int (3 : Int32)), .val (.int (1 : Int32)), .val (.int ((0 : Int32) + (1 : Int32)))]) rfl kk_) ?_
  rw [(by decide : ((0 : Int32) + (1 : Int32)) = (1 : Int32))]
  refine Wp.st (S' := T47.setTop (mkF m 82 #[.val (.ref a1), .val (.ref a2), .val (.int (3 : Int32)), .val (.int (1 : Int32)), .val (.int (1 : Int32))] [])) (fun tt_ kk_ => XS.goto X47.here hx rfl (pc0 := 104) (pc' := 82) rfl (hb hby d2_104) (by decide) (by decide) kk_) ?_
  refine Wp.st (S' := T47.setTop (mkF m 84 #[.val (.ref a1), .val (.ref a2), .val (.int (3 : Int32)), .val (.int (1 : Int32)), .val (.int (1 : Int32))] [(.int (1 : Int32))])) (fun tt_ kk_ => XS.iload X47.here hx rfl (hb hby d2_82) rfl  kk_) ?_
  refine Wp.st (S' := T47.setTop (mkF m 85 #[.val (.ref a1), .val (.ref a2), .val (.int (3 : Int32)), .val (.int (1 : Int32)), .val (.int (1 : Int32))] [(.ref a1), (.int (1 : Int32))])) (fun tt_ kk_ => XS.aloadN X47.here hx rfl (hb hby d2_84) rfl rfl kk_) ?_
  have F56 := F42.keep K47 (ninS (Nat.ne_of_lt (Nat.lt_of_lt_of_le P1.lt (Nat.le_trans (Nat.le_trans (Nat.le_trans (Nat.le_trans z7 z12) z19) z25) (Nat.le_of_eq g34.symm)))) nin0)
  obtain ⟨T57, X57, e57, st57⟩ := getF X47 hx hZ hown (host := "") (Or.inl (hw _ (List.mem_of_getElem? (i := 22) rfl))) Via.refl e47 F56 (g := (mkF m 85 #[.val (.ref a1), .val (.ref a2), .val (.int (3 : Int32)), .val (.int (1 : Int32)), .val (.int (1 : Int32))] [(.ref a1), (.int (1 : Int32))])) rfl rfl (hb hby d2_85)
  refine Wp.st (S' := T57.setTop (mkF m 88 #[.val (.ref a1), .val (.ref a2), .val (.int (3 : Int32)), .val (.int (1 : Int32)), .val (.int (1 : Int32))] [(.ref b6), (.int (1 : Int32))])) st57 ?_
  refine Wp.st (S' := T57.setTop (mkF m 89 #[.val (.ref a1), .val (.ref a2), .val (.int (3 : Int32)), .val (.int (1 : Int32)), .val (.int (1 : Int32))] [(.int (1 : Int32)), (.ref b6), (.int (1 : Int32))])) (fun tt_ kk_ => XS.iloadN X57.here hx rfl (hb hby d2_88) rfl  kk_) ?_
  have F58 := V39.keep K47 (ninS (Nat.ne_of_lt (Nat.lt_of_lt_of_le V6.lt (Nat.le_trans (Nat.le_trans (Nat.le_trans z12 z19) z25) (Nat.le_of_eq g34.symm)))) nin0)
  obtain ⟨cl59, Ar59, q59, S59, N59, H59, G59⟩ := id F58
  have hin59 := inb_of (j := (1 : Int32)) S59 ⟨by decide, by decide⟩
  refine Wp.st (S' := T57.setTop (mkF m 90 #[.val (.ref a1), .val (.ref a2), .val (.int (3 : Int32)), .val (.int (1 : Int32)), .val (.int (1 : Int32))] [(.ref b34), (.int (1 : Int32))])) (fun tt_ kk_ => X57.aaload hx (j := (1 : Int32)) (v := (.ref b34)) (by rw [e57]; exact Ar59.1) (State.isArrayOf_alike hZ.alike Ar59.2.1) rfl Ar59.2.2 hin59 (H59.at hin59 rfl) (g := (mkF m 89 #[.val (.ref a1), .val (.ref a2), .val (.int (3 : Int32)), .val (.int (1 : Int32)), .val (.int (1 : Int32))] [(.int (1 : Int32)), (.ref b6), (.int (1 : Int32))])) rfl rfl (hb hby d2_89) tt_ kk_) ?_
  obtain ⟨cl60, Ar60, q60, S60, N60, H60, G60⟩ := id P47_0
  refine Wp.st (S' := T57.setTop (mkF m 91 #[.val (.ref a1), .val (.ref a2), .val (.int (3 : Int32)), .val (.int (1 : Int32)), .val (.int (1 : Int32))] [(.int (3 : Int32)), (.int (1 : Int32))])) (fun tt_ kk_ => X57.arraylength hx (by rw [e57]; exact Ar60.1) (State.isArrayOf_alike hZ.alike Ar60.2.1) (g := (mkF m 90 #[.val (.ref a1), .val (.ref a2), .val (.int (3 : Int32)), .val (.int (1 : Int32)), .val (.int (1 : Int32))] [(.ref b34), (.int (1 : Int32))])) rfl rfl (hb hby d2_90) tt_ (by rw [len_of S60 N60]; exact kk_)) ?_
  refine Wp.st (S' := T57.setTop (mkF m 94 #[.val (.ref a1), .val (.ref a2), .val (.int (3 : Int32)), .val (.int (1 : Int32)), .val (.int (1 : Int32))] [])) (fun tt_ kk_ => XS.icmpNo X57.here hx rfl (hb hby d2_91) rfl (tlt ((by decide) : (1 : Int32) < (3 : Int32))).2.1 kk_) ?_
  refine Wp.st (S' := T57.setTop (mkF m 95 #[.val (.ref a1), .val (.ref a2), .val (.int (3 : Int32)), .val (.int (1 : Int32)), .val (.int (1 : Int32))] [(.ref a1)])) (fun tt_ kk_ => XS.aloadN X57.here hx rfl (hb hby d2_94) rfl rfl kk_) ?_
  refine Wp.st (S' := T57.setTop (mkF m 96 #[.val (.ref a1), .val (.ref a2), .val (.int (3 : Int32)), .val (.int (1 : Int32)), .val (.int (1 : Int32))] [(.int (1 : Int32)), (.ref a1)])) (fun tt_ kk_ => XS.iloadN X57.here hx rfl (hb hby d2_95) rfl  kk_) ?_
  refine Wp.st (S' := T57.setTop (mkF m 98 #[.val (.ref a1), .val (.ref a2), .val (.int (3 : Int32)), .val (.int (1 : Int32)), .val (.int (1 : Int32))] [(.int (1 : Int32)), (.int (1 : Int32)), (.ref a1)])) (fun tt_ kk_ => XS.iload X57.here hx rfl (hb hby d2_96) rfl  kk_) ?_
  have F62 := F49.keep K47 (ninS (Nat.ne_of_lt (Nat.lt_of_lt_of_le Ea14.lt (Nat.le_trans z25 (Nat.le_of_eq g34.symm)))) nin0)
  have F63 := F54.keep K47
  obtain ⟨cq61, q61, q61'⟩ := (F63).cell
  obtain ⟨vv61, _, ⟨T61, L61, k61, n61⟩, -, X61, ⟨Lc61, hQ61, l61, y61, z61⟩, st61⟩ := X57.privateBack hx (y := (⟨"com/example/dags_over_clouds/dagsoverclouds/plan/Tally", "addUp", "(II)V"⟩ : MethodName)) hown (mvT hZ (hw _ (List.mem_of_getElem? (i := 35) rfl))) (mvT hZ (hw _ (List.mem_of_getElem? (i := 36) rfl))) (mvT hZ (own_selP (hw _ (List.mem_of_getElem? (i := 45) rfl)) (hw _ (List.mem_of_getElem? (i := 36) rfl)) (hw _ (List.mem_of_getElem? (i := 37) rfl)))) (Cond.privateMethod_at (mvP hZ (hw _ (List.mem_of_getElem? (i := 37) rfl)) (args := #[]))) (mvT hZ (hw _ (List.mem_of_getElem? (i := 38) rfl))) (by decide) (backOf (W := 0) (rmAdd31 l Z a0 hw [] a1 (1 : Int32) b6 b14 b34 .null k6 kt k34 n (3 : Int32) wf (own_up own_z (0 : Int32).toNatClampNeg (own_R wf n.toNatClampNeg (0 : Int32).toNatClampNeg)) T47.heap n0 (Nat.le_trans Z0 (Nat.le_trans (Nat.le_trans (Nat.le_trans (Nat.le_trans (Nat.le_trans (Nat.le_trans z7 z12) z19) z25) z35) z40) z55)) g36 F56 F58 F62 P47_0 ((by first | assumption | exact own_b_of (by assumption) | (repeat first | exact own_b_z | assumption | refine own_b_up ?_ _ (own_R_b (by assumption) _ _))) : own_b wf) ((by assumption) : own_hr (1 : Int32) n (3 : Int32))) hZ (hw _ (List.mem_of_getElem? (i := 38) rfl)) (hw _ (List.mem_of_getElem? (i := 9) rfl)) (by decide) (by decide)) (g := (mkF m 98 #[.val (.ref a1), .val (.ref a2), .val (.int (3 : Int32)), .val (.int (1 : Int32)), .val (.int (1 : Int32))] [(.int (1 : Int32)), (.int (1 : Int32)), (.ref a1)])) rfl (by rw [hml]; rfl) (Steps.refl _) (a := a1) (by rw [e57]; exact q61) q61' (argsL := [(.int (1 : Int32)), (.int (1 : Int32))]) (rest := []) (lenOf pd_1 rfl) rfl (by show 2 * 0 + _ ≤ _; exact Nat.le_of_eq rfl) (hb hby d2_98) (fun _ _ => ⟨rfl, e57, (by decide : 3 + 0 ≤ _), (by decide : 135 + 0 ≤ _)⟩)
  dsimp only [Pt.U, Pt.locs, Pt.cells, Pt.slots] at X61 l61 y61 z61 st61 hQ61
  subst l61 y61 z61
  obtain ⟨rfl, Nq61, K61, P61_0⟩ := hQ61
  have N61 := Fr.app N47 Nq61
  have z64 := K61.1
  have e61 : T61.heap = T61.heap := rfl
  refine Wp.tr (S' := T61.setTop (mkF m 101 #[.val (.ref a1), .val (.ref a2), .val (.int (3 : Int32)), .val (.int (1 : Int32)), .val (.int (1 : Int32))] [])) st61 ?_
  refine Wp.st (S' := T61.setTop (mkF m 104 #[.val (.ref a1), .val (.ref a2), .val (.int (3 : Int32)), .val (.int (1 : Int32)), .val (.int ((1 : Int32) + (1 : Int32)))] [])) (fun tt_ kk_ => XS.iinc X61.here hx rfl (hb hby d2_101) rfl (l' := #[.val (.ref a1), .val (.ref a2), .val (.int (3 : Int32)), .val (.int (1 : Int32)), .val (.int ((1 : Int32) + (1 : Int32)))]) rfl kk_) ?_
  rw [(by decide : ((1 : Int32) + (1 : Int32)) = (2 : Int32))]
  refine Wp.st (S' := T61.setTop (mkF m 82 #[.val (.ref a1), .val (.ref a2), .val (.int (3 : Int32)), .val (.int (1 : Int32)), .val (.int (2 : Int32))] [])) (fun tt_ kk_ => XS.goto X61.here hx rfl (pc0 := 104) (pc' := 82) rfl (hb hby d2_104) (by decide) (by decide) kk_) ?_
  refine Wp.st (S' := T61.setTop (mkF m 84 #[.val (.ref a1), .val (.ref a2), .val (.int (3 : Int32)), .val (.int (1 : Int32)), .val (.int (2 : Int32))] [(.int (2 : Int32))])) (fun tt_ kk_ => XS.iload X61.here hx rfl (hb hby d2_82) rfl  kk_) ?_
  refine Wp.st (S' := T61.setTop (mkF m 85 #[.val (.ref a1), .val (.ref a2), .val (.int (3 : Int32)), .val (.int (1 : Int32)), .val (.int (2 : Int32))] [(.ref a1), (.int (2 : Int32))])) (fun tt_ kk_ => XS.aloadN X61.here hx rfl (hb hby d2_84) rfl rfl kk_) ?_
  have F65 := F56.keep K61 (ninS (Nat.ne_of_lt (Nat.lt_of_lt_of_le P1.lt (Nat.le_trans (Nat.le_trans (Nat.le_trans (Nat.le_trans z7 z12) z19) z25) (Nat.le_of_eq g34.symm)))) nin0)
  obtain ⟨T66, X66, e66, st66⟩ := getF X61 hx hZ hown (host := "") (Or.inl (hw _ (List.mem_of_getElem? (i := 22) rfl))) Via.refl e61 F65 (g := (mkF m 85 #[.val (.ref a1), .val (.ref a2), .val (.int (3 : Int32)), .val (.int (1 : Int32)), .val (.int (2 : Int32))] [(.ref a1), (.int (2 : Int32))])) rfl rfl (hb hby d2_85)
  refine Wp.st (S' := T66.setTop (mkF m 88 #[.val (.ref a1), .val (.ref a2), .val (.int (3 : Int32)), .val (.int (1 : Int32)), .val (.int (2 : Int32))] [(.ref b6), (.int (2 : Int32))])) st66 ?_
  refine Wp.st (S' := T66.setTop (mkF m 89 #[.val (.ref a1), .val (.ref a2), .val (.int (3 : Int32)), .val (.int (1 : Int32)), .val (.int (2 : Int32))] [(.int (1 : Int32)), (.ref b6), (.int (2 : Int32))])) (fun tt_ kk_ => XS.iloadN X66.here hx rfl (hb hby d2_88) rfl  kk_) ?_
  have F67 := F58.keep K61 (ninS (Nat.ne_of_lt (Nat.lt_of_lt_of_le V6.lt (Nat.le_trans (Nat.le_trans (Nat.le_trans z12 z19) z25) (Nat.le_of_eq g34.symm)))) nin0)
  obtain ⟨cl68, Ar68, q68, S68, N68, H68, G68⟩ := id F67
  have hin68 := inb_of (j := (1 : Int32)) S68 ⟨by decide, by decide⟩
  refine Wp.st (S' := T66.setTop (mkF m 90 #[.val (.ref a1), .val (.ref a2), .val (.int (3 : Int32)), .val (.int (1 : Int32)), .val (.int (2 : Int32))] [(.ref b34), (.int (2 : Int32))])) (fun tt_ kk_ => X66.aaload hx (j := (1 : Int32)) (v := (.ref b34)) (by rw [e66]; exact Ar68.1) (State.isArrayOf_alike hZ.alike Ar68.2.1) rfl Ar68.2.2 hin68 (H68.at hin68 rfl) (g := (mkF m 89 #[.val (.ref a1), .val (.ref a2), .val (.int (3 : Int32)), .val (.int (1 : Int32)), .val (.int (2 : Int32))] [(.int (1 : Int32)), (.ref b6), (.int (2 : Int32))])) rfl rfl (hb hby d2_89) tt_ kk_) ?_
  obtain ⟨cl69, Ar69, q69, S69, N69, H69, G69⟩ := id P61_0
  refine Wp.st (S' := T66.setTop (mkF m 91 #[.val (.ref a1), .val (.ref a2), .val (.int (3 : Int32)), .val (.int (1 : Int32)), .val (.int (2 : Int32))] [(.int (3 : Int32)), (.int (2 : Int32))])) (fun tt_ kk_ => X66.arraylength hx (by rw [e66]; exact Ar69.1) (State.isArrayOf_alike hZ.alike Ar69.2.1) (g := (mkF m 90 #[.val (.ref a1), .val (.ref a2), .val (.int (3 : Int32)), .val (.int (1 : Int32)), .val (.int (2 : Int32))] [(.ref b34), (.int (2 : Int32))])) rfl rfl (hb hby d2_90) tt_ (by rw [len_of S69 N69]; exact kk_)) ?_
  refine Wp.st (S' := T66.setTop (mkF m 94 #[.val (.ref a1), .val (.ref a2), .val (.int (3 : Int32)), .val (.int (1 : Int32)), .val (.int (2 : Int32))] [])) (fun tt_ kk_ => XS.icmpNo X66.here hx rfl (hb hby d2_91) rfl (tlt ((by decide) : (2 : Int32) < (3 : Int32))).2.1 kk_) ?_
  refine Wp.st (S' := T66.setTop (mkF m 95 #[.val (.ref a1), .val (.ref a2), .val (.int (3 : Int32)), .val (.int (1 : Int32)), .val (.int (2 : Int32))] [(.ref a1)])) (fun tt_ kk_ => XS.aloadN X66.here hx rfl (hb hby d2_94) rfl rfl kk_) ?_
  refine Wp.st (S' := T66.setTop (mkF m 96 #[.val (.ref a1), .val (.ref a2), .val (.int (3 : Int32)), .val (.int (1 : Int32)), .val (.int (2 : Int32))] [(.int (1 : Int32)), (.ref a1)])) (fun tt_ kk_ => XS.iloadN X66.here hx rfl (hb hby d2_95) rfl  kk_) ?_
  refine Wp.st (S' := T66.setTop (mkF m 98 #[.val (.ref a1), .val (.ref a2), .val (.int (3 : Int32)), .val (.int (1 : Int32)), .val (.int (2 : Int32))] [(.int (2 : Int32)), (.int (1 : Int32)), (.ref a1)])) (fun tt_ kk_ => XS.iload X66.here hx rfl (hb hby d2_96) rfl  kk_) ?_
  have F71 := F62.keep K61 (ninS (Nat.ne_of_lt (Nat.lt_of_lt_of_le Ea14.lt (Nat.le_trans z25 (Nat.le_of_eq g34.symm)))) nin0)
  have F72 := F63.keep K61
  obtain ⟨cq70, q70, q70'⟩ := (F72).cell
  obtain ⟨vv70, _, ⟨T70, L70, k70, n70⟩, -, X70, ⟨Lc70, hQ70, l70, y70, z70⟩, st70⟩ := X66.privateBack hx (y := (⟨"com/example/dags_over_clouds/dagsoverclouds/plan/Tally", "addUp", "(II)V"⟩ : MethodName)) hown (mvT hZ (hw _ (List.mem_of_getElem? (i := 35) rfl))) (mvT hZ (hw _ (List.mem_of_getElem? (i := 36) rfl))) (mvT hZ (own_selP (hw _ (List.mem_of_getElem? (i := 45) rfl)) (hw _ (List.mem_of_getElem? (i := 36) rfl)) (hw _ (List.mem_of_getElem? (i := 37) rfl)))) (Cond.privateMethod_at (mvP hZ (hw _ (List.mem_of_getElem? (i := 37) rfl)) (args := #[]))) (mvT hZ (hw _ (List.mem_of_getElem? (i := 38) rfl))) (by decide) (backOf (W := 0) (rmAdd31 l Z a0 hw [] a1 (2 : Int32) b6 b14 b34 .null k6 kt k34 n (3 : Int32) wf (own_up (own_up own_z (0 : Int32).toNatClampNeg (own_R wf n.toNatClampNeg (0 : Int32).toNatClampNeg)) (1 : Int32).toNatClampNeg (own_R wf n.toNatClampNeg (1 : Int32).toNatClampNeg)) T61.heap n0 (Nat.le_trans Z0 (Nat.le_trans (Nat.le_trans (Nat.le_trans (Nat.le_trans (Nat.le_trans (Nat.le_trans (Nat.le_trans z7 z12) z19) z25) z35) z40) z55) z64)) g36 F65 F67 F71 P61_0 ((by first | assumption | exact own_b_of (by assumption) | (repeat first | exact own_b_z | assumption | refine own_b_up ?_ _ (own_R_b (by assumption) _ _))) : own_b wf) ((by assumption) : own_hr (2 : Int32) n (3 : Int32))) hZ (hw _ (List.mem_of_getElem? (i := 38) rfl)) (hw _ (List.mem_of_getElem? (i := 9) rfl)) (by decide) (by decide)) (g := (mkF m 98 #[.val (.ref a1), .val (.ref a2), .val (.int (3 : Int32)), .val (.int (1 : Int32)), .val (.int (2 : Int32))] [(.int (2 : Int32)), (.int (1 : Int32)), (.ref a1)])) rfl (by rw [hml]; rfl) (Steps.refl _) (a := a1) (by rw [e66]; exact q70) q70' (argsL := [(.int (1 : Int32)), (.int (2 : Int32))]) (rest := []) (lenOf pd_1 rfl) rfl (by show 2 * 0 + _ ≤ _; exact Nat.le_of_eq rfl) (hb hby d2_98) (fun _ _ => ⟨rfl, e66, (by decide : 3 + 0 ≤ _), (by decide : 135 + 0 ≤ _)⟩)
  dsimp only [Pt.U, Pt.locs, Pt.cells, Pt.slots] at X70 l70 y70 z70 st70 hQ70
  subst l70 y70 z70
  obtain ⟨rfl, Nq70, K70, P70_0⟩ := hQ70
  have N70 := Fr.app N61 Nq70
  have z73 := K70.1
  have e70 : T70.heap = T70.heap := rfl
  refine Wp.tr (S' := T70.setTop (mkF m 101 #[.val (.ref a1), .val (.ref a2), .val (.int (3 : Int32)), .val (.int (1 : Int32)), .val (.int (2 : Int32))] [])) st70 ?_
  refine Wp.st (S' := T70.setTop (mkF m 104 #[.val (.ref a1), .val (.ref a2), .val (.int (3 : Int32)), .val (.int (1 : Int32)), .val (.int ((2 : Int32) + (1 : Int32)))] [])) (fun tt_ kk_ => XS.iinc X70.here hx rfl (hb hby d2_101) rfl (l' := #[.val (.ref a1), .val (.ref a2), .val (.int (3 : Int32)), .val (.int (1 : Int32)), .val (.int ((2 : Int32) + (1 : Int32)))]) rfl kk_) ?_
  rw [(by decide : ((2 : Int32) + (1 : Int32)) = (3 : Int32))]
  refine Wp.st (S' := T70.setTop (mkF m 82 #[.val (.ref a1), .val (.ref a2), .val (.int (3 : Int32)), .val (.int (1 : Int32)), .val (.int (3 : Int32))] [])) (fun tt_ kk_ => XS.goto X70.here hx rfl (pc0 := 104) (pc' := 82) rfl (hb hby d2_104) (by decide) (by decide) kk_) ?_
  refine Wp.st (S' := T70.setTop (mkF m 84 #[.val (.ref a1), .val (.ref a2), .val (.int (3 : Int32)), .val (.int (1 : Int32)), .val (.int (3 : Int32))] [(.int (3 : Int32))])) (fun tt_ kk_ => XS.iload X70.here hx rfl (hb hby d2_82) rfl  kk_) ?_
  refine Wp.st (S' := T70.setTop (mkF m 85 #[.val (.ref a1), .val (.ref a2), .val (.int (3 : Int32)), .val (.int (1 : Int32)), .val (.int (3 : Int32))] [(.ref a1), (.int (3 : Int32))])) (fun tt_ kk_ => XS.aloadN X70.here hx rfl (hb hby d2_84) rfl rfl kk_) ?_
  have F74 := F65.keep K70 (ninS (Nat.ne_of_lt (Nat.lt_of_lt_of_le P1.lt (Nat.le_trans (Nat.le_trans (Nat.le_trans (Nat.le_trans z7 z12) z19) z25) (Nat.le_of_eq g34.symm)))) nin0)
  obtain ⟨T75, X75, e75, st75⟩ := getF X70 hx hZ hown (host := "") (Or.inl (hw _ (List.mem_of_getElem? (i := 22) rfl))) Via.refl e70 F74 (g := (mkF m 85 #[.val (.ref a1), .val (.ref a2), .val (.int (3 : Int32)), .val (.int (1 : Int32)), .val (.int (3 : Int32))] [(.ref a1), (.int (3 : Int32))])) rfl rfl (hb hby d2_85)
  refine Wp.st (S' := T75.setTop (mkF m 88 #[.val (.ref a1), .val (.ref a2), .val (.int (3 : Int32)), .val (.int (1 : Int32)), .val (.int (3 : Int32))] [(.ref b6), (.int (3 : Int32))])) st75 ?_
  refine Wp.st (S' := T75.setTop (mkF m 89 #[.val (.ref a1), .val (.ref a2), .val (.int (3 : Int32)), .val (.int (1 : Int32)), .val (.int (3 : Int32))] [(.int (1 : Int32)), (.ref b6), (.int (3 : Int32))])) (fun tt_ kk_ => XS.iloadN X75.here hx rfl (hb hby d2_88) rfl  kk_) ?_
  have F76 := F67.keep K70 (ninS (Nat.ne_of_lt (Nat.lt_of_lt_of_le V6.lt (Nat.le_trans (Nat.le_trans (Nat.le_trans z12 z19) z25) (Nat.le_of_eq g34.symm)))) nin0)
  obtain ⟨cl77, Ar77, q77, S77, N77, H77, G77⟩ := id F76
  have hin77 := inb_of (j := (1 : Int32)) S77 ⟨by decide, by decide⟩
  refine Wp.st (S' := T75.setTop (mkF m 90 #[.val (.ref a1), .val (.ref a2), .val (.int (3 : Int32)), .val (.int (1 : Int32)), .val (.int (3 : Int32))] [(.ref b34), (.int (3 : Int32))])) (fun tt_ kk_ => X75.aaload hx (j := (1 : Int32)) (v := (.ref b34)) (by rw [e75]; exact Ar77.1) (State.isArrayOf_alike hZ.alike Ar77.2.1) rfl Ar77.2.2 hin77 (H77.at hin77 rfl) (g := (mkF m 89 #[.val (.ref a1), .val (.ref a2), .val (.int (3 : Int32)), .val (.int (1 : Int32)), .val (.int (3 : Int32))] [(.int (1 : Int32)), (.ref b6), (.int (3 : Int32))])) rfl rfl (hb hby d2_89) tt_ kk_) ?_
  obtain ⟨cl78, Ar78, q78, S78, N78, H78, G78⟩ := id P70_0
  refine Wp.st (S' := T75.setTop (mkF m 91 #[.val (.ref a1), .val (.ref a2), .val (.int (3 : Int32)), .val (.int (1 : Int32)), .val (.int (3 : Int32))] [(.int (3 : Int32)), (.int (3 : Int32))])) (fun tt_ kk_ => X75.arraylength hx (by rw [e75]; exact Ar78.1) (State.isArrayOf_alike hZ.alike Ar78.2.1) (g := (mkF m 90 #[.val (.ref a1), .val (.ref a2), .val (.int (3 : Int32)), .val (.int (1 : Int32)), .val (.int (3 : Int32))] [(.ref b34), (.int (3 : Int32))])) rfl rfl (hb hby d2_90) tt_ (by rw [len_of S78 N78]; exact kk_)) ?_
  refine Wp.st (S' := T75.setTop (mkF m 107 #[.val (.ref a1), .val (.ref a2), .val (.int (3 : Int32)), .val (.int (1 : Int32)), .val (.int (3 : Int32))] [])) (fun tt_ kk_ => XS.icmpYes X75.here hx rfl (pc0 := 91) (pc' := 107) rfl (hb hby d2_91) rfl (flt ((by decide) : ¬ ((3 : Int32) < (3 : Int32)))).2.1 (by decide) (by decide) kk_) ?_
  refine Wp.st (S' := T75.setTop (mkF m 110 #[.val (.ref a1), .val (.ref a2), .val (.int (3 : Int32)), .val (.int ((1 : Int32) + (1 : Int32))), .val (.int (3 : Int32))] [])) (fun tt_ kk_ => XS.iinc X75.here hx rfl (hb hby d2_107) rfl (l' := #[.val (.ref a1), .val (.ref a2), .val (.int (3 : Int32)), .val (.int ((1 : Int32) + (1 : Int32))), .val (.int (3 : Int32))]) rfl kk_) ?_
  rw [(by decide : ((1 : Int32) + (1 : Int32)) = (2 : Int32))]
  refine Wp.st (S' := T75.setTop (mkF m 54 #[.val (.ref a1), .val (.ref a2), .val (.int (3 : Int32)), .val (.int (2 : Int32)), .val (.int (3 : Int32))] [])) (fun tt_ kk_ => XS.goto X75.here hx rfl (pc0 := 110) (pc' := 54) rfl (hb hby d2_110) (by decide) (by decide) kk_) ?_
  refine Wp.st (S' := T75.setTop (mkF m 55 #[.val (.ref a1), .val (.ref a2), .val (.int (3 : Int32)), .val (.int (2 : Int32)), .val (.int (3 : Int32))] [(.int (2 : Int32))])) (fun tt_ kk_ => XS.iloadN X75.here hx rfl (hb hby d2_54) rfl  kk_) ?_
  refine Wp.st (S' := T75.setTop (mkF m 56 #[.val (.ref a1), .val (.ref a2), .val (.int (3 : Int32)), .val (.int (2 : Int32)), .val (.int (3 : Int32))] [(.int (3 : Int32)), (.int (2 : Int32))])) (fun tt_ kk_ => XS.iloadN X75.here hx rfl (hb hby d2_55) rfl  kk_) ?_
  refine Wp.st (S' := T75.setTop (mkF m 59 #[.val (.ref a1), .val (.ref a2), .val (.int (3 : Int32)), .val (.int (2 : Int32)), .val (.int (3 : Int32))] [])) (fun tt_ kk_ => XS.icmpNo X75.here hx rfl (hb hby d2_56) rfl (tlt ((by decide) : (2 : Int32) < (3 : Int32))).2.1 kk_) ?_
  refine Wp.st (S' := T75.setTop (mkF m 60 #[.val (.ref a1), .val (.ref a2), .val (.int (3 : Int32)), .val (.int (2 : Int32)), .val (.int (3 : Int32))] [(.ref a1)])) (fun tt_ kk_ => XS.aloadN X75.here hx rfl (hb hby d2_59) rfl rfl kk_) ?_
  obtain ⟨T79, X79, e79, st79⟩ := getF X75 hx hZ hown (host := "") (Or.inl (hw _ (List.mem_of_getElem? (i := 22) rfl))) Via.refl e75 F74 (g := (mkF m 60 #[.val (.ref a1), .val (.ref a2), .val (.int (3 : Int32)), .val (.int (2 : Int32)), .val (.int (3 : Int32))] [(.ref a1)])) rfl rfl (hb hby d2_60)
  refine Wp.st (S' := T79.setTop (mkF m 63 #[.val (.ref a1), .val (.ref a2), .val (.int (3 : Int32)), .val (.int (2 : Int32)), .val (.int (3 : Int32))] [(.ref b6)])) st79 ?_
  refine Wp.st (S' := T79.setTop (mkF m 64 #[.val (.ref a1), .val (.ref a2), .val (.int (3 : Int32)), .val (.int (2 : Int32)), .val (.int (3 : Int32))] [(.int (2 : Int32)), (.ref b6)])) (fun tt_ kk_ => XS.iloadN X79.here hx rfl (hb hby d2_63) rfl  kk_) ?_
  refine Wp.st (S' := T79.setTop (mkF m 65 #[.val (.ref a1), .val (.ref a2), .val (.int (3 : Int32)), .val (.int (2 : Int32)), .val (.int (3 : Int32))] [(.ref a1), (.int (2 : Int32)), (.ref b6)])) (fun tt_ kk_ => XS.aloadN X79.here hx rfl (hb hby d2_64) rfl rfl kk_) ?_
  obtain ⟨T80, X80, e80, st80⟩ := getF X79 hx hZ hown (host := "") (Or.inl (hw _ (List.mem_of_getElem? (i := 22) rfl))) Via.refl e79 F74 (g := (mkF m 65 #[.val (.ref a1), .val (.ref a2), .val (.int (3 : Int32)), .val (.int (2 : Int32)), .val (.int (3 : Int32))] [(.ref a1), (.int (2 : Int32)), (.ref b6)])) rfl rfl (hb hby d2_65)
  refine Wp.st (S' := T80.setTop (mkF m 68 #[.val (.ref a1), .val (.ref a2), .val (.int (3 : Int32)), .val (.int (2 : Int32)), .val (.int (3 : Int32))] [(.ref b6), (.int (2 : Int32)), (.ref b6)])) st80 ?_
  refine Wp.st (S' := T80.setTop (mkF m 69 #[.val (.ref a1), .val (.ref a2), .val (.int (3 : Int32)), .val (.int (2 : Int32)), .val (.int (3 : Int32))] [(.int (2 : Int32)), (.ref b6), (.int (2 : Int32)), (.ref b6)])) (fun tt_ kk_ => XS.iloadN X80.here hx rfl (hb hby d2_68) rfl  kk_) ?_
  refine Wp.st (S' := T80.setTop (mkF m 70 #[.val (.ref a1), .val (.ref a2), .val (.int (3 : Int32)), .val (.int (2 : Int32)), .val (.int (3 : Int32))] [(.int (1 : Int32)), (.int (2 : Int32)), (.ref b6), (.int (2 : Int32)), (.ref b6)])) (fun tt_ kk_ => XS.iconst X80.here hx rfl (hb hby d2_69) kk_) ?_
  refine Wp.st (S' := T80.setTop (mkF m 71 #[.val (.ref a1), .val (.ref a2), .val (.int (3 : Int32)), .val (.int (2 : Int32)), .val (.int (3 : Int32))] [(.int ((2 : Int32) - (1 : Int32))), (.ref b6), (.int (2 : Int32)), (.ref b6)])) (fun tt_ kk_ => XS.isub X80.here hx rfl (hb hby d2_70) rfl kk_) ?_
  rw [(by decide : ((2 : Int32) - (1 : Int32)) = (1 : Int32))]
  obtain ⟨cl81, Ar81, q81, S81, N81, H81, G81⟩ := id F76
  have hin81 := inb_of (j := (1 : Int32)) S81 ⟨by decide, by decide⟩
  refine Wp.st (S' := T80.setTop (mkF m 72 #[.val (.ref a1), .val (.ref a2), .val (.int (3 : Int32)), .val (.int (2 : Int32)), .val (.int (3 : Int32))] [(.ref b34), (.int (2 : Int32)), (.ref b6)])) (fun tt_ kk_ => X80.aaload hx (j := (1 : Int32)) (v := (.ref b34)) (by rw [e80]; exact Ar81.1) (State.isArrayOf_alike hZ.alike Ar81.2.1) rfl Ar81.2.2 hin81 (H81.at hin81 rfl) (g := (mkF m 71 #[.val (.ref a1), .val (.ref a2), .val (.int (3 : Int32)), .val (.int (2 : Int32)), .val (.int (3 : Int32))] [(.int (1 : Int32)), (.ref b6), (.int (2 : Int32)), (.ref b6)])) rfl rfl (hb hby d2_71) tt_ kk_) ?_
  obtain ⟨cl82, Ar82, q82, S82, N82, H82, G82⟩ := id P70_0
  refine Wp.st (S' := T80.setTop (mkF m 73 #[.val (.ref a1), .val (.ref a2), .val (.int (3 : Int32)), .val (.int (2 : Int32)), .val (.int (3 : Int32))] [(.int (3 : Int32)), (.int (2 : Int32)), (.ref b6)])) (fun tt_ kk_ => X80.arraylength hx (by rw [e80]; exact Ar82.1) (State.isArrayOf_alike hZ.alike Ar82.2.1) (g := (mkF m 72 #[.val (.ref a1), .val (.ref a2), .val (.int (3 : Int32)), .val (.int (2 : Int32)), .val (.int (3 : Int32))] [(.ref b34), (.int (2 : Int32)), (.ref b6)])) rfl rfl (hb hby d2_72) tt_ (by rw [len_of S82 N82]; exact kk_)) ?_
  obtain ⟨vv83, _, ⟨T83, L83, k83, n83⟩, -, X83, ⟨Lc83, hQ83, l83, y83, z83⟩, st83⟩ := Jvm.LawKit.callS X80 hx (y := (⟨"com/example/dags_over_clouds/dagsoverclouds/plan/Tally", "runs", "(I)I"⟩ : MethodName)) hown (mvT hZ (hw _ (List.mem_of_getElem? (i := 32) rfl))) (mvT hZ (hw _ (List.mem_of_getElem? (i := 33) rfl))) (mvT hZ (hw _ (List.mem_of_getElem? (i := 9) rfl))) (mvT hZ (hw _ (List.mem_of_getElem? (i := 34) rfl))) (by decide) (backOf (W := 2) (rm5 l Z a0 hw [] (3 : Int32) T70.heap n0 (Nat.le_trans Z0 (Nat.le_trans (Nat.le_trans (Nat.le_trans (Nat.le_trans (Nat.le_trans (Nat.le_trans (Nat.le_trans (Nat.le_trans z7 z12) z19) z25) z35) z40) z55) z64) z73)) ) hZ (hw _ (List.mem_of_getElem? (i := 34) rfl)) (hw _ (List.mem_of_getElem? (i := 9) rfl)) (by decide) (by decide)) (g := (mkF m 73 #[.val (.ref a1), .val (.ref a2), .val (.int (3 : Int32)), .val (.int (2 : Int32)), .val (.int (3 : Int32))] [(.int (3 : Int32)), (.int (2 : Int32)), (.ref b6)])) rfl (by rw [hml]; rfl) (argsL := [(.int (3 : Int32))]) (rest := [(.int (2 : Int32)), (.ref b6)]) (lenOf pd_2 rfl) rfl (by show 2 * 0 + _ ≤ _; exact Nat.le_of_eq rfl) (hb hby d2_73) (fun _ _ => ⟨rfl, e80, (by decide : 3 + 0 ≤ _), (by decide : 135 + 0 ≤ _)⟩)
  dsimp only [Pt.U, Pt.locs, Pt.cells, Pt.slots] at X83 l83 y83 z83 st83 hQ83
  subst l83 y83 z83
  obtain ⟨rfl, Nq83, e83⟩ := hQ83
  have N83 := Fr.app N70 Nq83
  refine Wp.st (S' := T83.setTop (mkF m 76 #[.val (.ref a1), .val (.ref a2), .val (.int (3 : Int32)), .val (.int (2 : Int32)), .val (.int (3 : Int32))] [(.int (own_runs (3 : Int32))), (.int (2 : Int32)), (.ref b6)])) st83 ?_
  rw [(by decide : (own_runs (3 : Int32)) = (1 : Int32))]
  obtain ⟨T84, h84, k84, X84, e84, E84, A84, Ea84, st84⟩ := newPE X83 hx hZ (hw _ (List.mem_of_getElem? (i := 6) rfl)) e83 (g := (mkF m 76 #[.val (.ref a1), .val (.ref a2), .val (.int (3 : Int32)), .val (.int (2 : Int32)), .val (.int (3 : Int32))] [(.int (1 : Int32)), (.int (2 : Int32)), (.ref b6)])) rfl (hb hby d2_76) rfl (by decide) (cap := 1) (by decide) (by decide) (by decide) (by decide) (ad := "[D") (by decide +kernel)
  obtain ⟨b84, g84⟩ : ∃ z, z = T70.heap.size := ⟨_, rfl⟩
  rw [← g84] at A84 Ea84 st84
  have z85 := E84.1
  have V84 : Arv Z h84 b84 k84 .double (1 : Int32) [(.double (0 : UInt64))] (.double (0 : UInt64)) := (Arv.new A84 (by decide)).pad (pad_rep [] (.double (0 : UInt64)) 1)
  have g86 : n0 ≤ b84 := Nat.le_trans (Nat.le_trans Z0 (Nat.le_trans (Nat.le_trans (Nat.le_trans (Nat.le_trans (Nat.le_trans (Nat.le_trans (Nat.le_trans (Nat.le_trans z7 z12) z19) z25) z35) z40) z55) z64) z73)) (Nat.le_of_eq g84.symm)
  refine Wp.st (S' := T84.setTop (mkF m 78 #[.val (.ref a1), .val (.ref a2), .val (.int (3 : Int32)), .val (.int (2 : Int32)), .val (.int (3 : Int32))] [(.ref b84), (.int (2 : Int32)), (.ref b6)])) st84 ?_
  have Vz87 : Arv Z h84 b84 k84 .double (1 : Int32) (own_dl own_z) (.double (0 : UInt64)) := (V84).pad (own_zpad 1)
  have F88 := F76.ext E84
  obtain ⟨cl89, Ar89, q89, S89, N89, H89, G89⟩ := id F88
  have hin89 := inb_of (j := (2 : Int32)) S89 ⟨by decide, by decide⟩
  obtain ⟨T89, h89, X89, e89, W89, st89⟩ := stR X84 hx hZ e84 Ar89 (j := (2 : Int32)) hin89 rfl (Sto.ofVA Ar89 q89 O6 (Ins.self Ea84)) (g := (mkF m 78 #[.val (.ref a1), .val (.ref a2), .val (.int (3 : Int32)), .val (.int (2 : Int32)), .val (.int (3 : Int32))] [(.ref b84), (.int (2 : Int32)), (.ref b6)])) rfl rfl (hb hby d2_78)
  have z90 := Nat.le_of_eq W89.size.symm
  have V89 : Arv Z h89 b6 k6 (.array .double) (3 : Int32) [(.ref b14), (.ref b34), (.ref b84)] .null := Arv.set Ar89 q89 S89 N89 H89 G89 rfl W89 2 rfl (Nat.le_of_ble_eq_true rfl)
  have Nf89 := Fr.snoc X89 N83 g8
  refine Wp.st (S' := T89.setTop (mkF m 79 #[.val (.ref a1), .val (.ref a2), .val (.int (3 : Int32)), .val (.int (2 : Int32)), .val (.int (3 : Int32))] [])) st89 ?_
  refine Wp.st (S' := T89.setTop (mkF m 80 #[.val (.ref a1), .val (.ref a2), .val (.int (3 : Int32)), .val (.int (2 : Int32)), .val (.int (3 : Int32))] [(.int (0 : Int32))])) (fun tt_ kk_ => XS.iconst X89.here hx rfl (hb hby d2_79) kk_) ?_
  refine Wp.st (S' := T89.setTop (mkF m 82 #[.val (.ref a1), .val (.ref a2), .val (.int (3 : Int32)), .val (.int (2 : Int32)), .val (.int (0 : Int32))] [])) (fun tt_ kk_ => XS.istore X89.here hx rfl (hb hby d2_80) rfl (l' := #[.val (.ref a1), .val (.ref a2), .val (.int (3 : Int32)), .val (.int (2 : Int32)), .val (.int (0 : Int32))]) rfl kk_) ?_
  refine Wp.st (S' := T89.setTop (mkF m 84 #[.val (.ref a1), .val (.ref a2), .val (.int (3 : Int32)), .val (.int (2 : Int32)), .val (.int (0 : Int32))] [(.int (0 : Int32))])) (fun tt_ kk_ => XS.iload X89.here hx rfl (hb hby d2_82) rfl  kk_) ?_
  refine Wp.st (S' := T89.setTop (mkF m 85 #[.val (.ref a1), .val (.ref a2), .val (.int (3 : Int32)), .val (.int (2 : Int32)), .val (.int (0 : Int32))] [(.ref a1), (.int (0 : Int32))])) (fun tt_ kk_ => XS.aloadN X89.here hx rfl (hb hby d2_84) rfl rfl kk_) ?_
  have F91 := F74.ext E84
  have F92 := F91.other W89 (Or.inl (Nat.ne_of_lt (Nat.lt_of_lt_of_le P1.lt (Nat.le_trans (Nat.le_refl _) (Nat.le_of_eq g6.symm)))))
  obtain ⟨T93, X93, e93, st93⟩ := getF X89 hx hZ hown (host := "") (Or.inl (hw _ (List.mem_of_getElem? (i := 22) rfl))) Via.refl e89 F92 (g := (mkF m 85 #[.val (.ref a1), .val (.ref a2), .val (.int (3 : Int32)), .val (.int (2 : Int32)), .val (.int (0 : Int32))] [(.ref a1), (.int (0 : Int32))])) rfl rfl (hb hby d2_85)
  refine Wp.st (S' := T93.setTop (mkF m 88 #[.val (.ref a1), .val (.ref a2), .val (.int (3 : Int32)), .val (.int (2 : Int32)), .val (.int (0 : Int32))] [(.ref b6), (.int (0 : Int32))])) st93 ?_
  refine Wp.st (S' := T93.setTop (mkF m 89 #[.val (.ref a1), .val (.ref a2), .val (.int (3 : Int32)), .val (.int (2 : Int32)), .val (.int (0 : Int32))] [(.int (2 : Int32)), (.ref b6), (.int (0 : Int32))])) (fun tt_ kk_ => XS.iloadN X93.here hx rfl (hb hby d2_88) rfl  kk_) ?_
  obtain ⟨cl94, Ar94, q94, S94, N94, H94, G94⟩ := id V89
  have hin94 := inb_of (j := (2 : Int32)) S94 ⟨by decide, by decide⟩
  refine Wp.st (S' := T93.setTop (mkF m 90 #[.val (.ref a1), .val (.ref a2), .val (.int (3 : Int32)), .val (.int (2 : Int32)), .val (.int (0 : Int32))] [(.ref b84), (.int (0 : Int32))])) (fun tt_ kk_ => X93.aaload hx (j := (2 : Int32)) (v := (.ref b84)) (by rw [e93]; exact Ar94.1) (State.isArrayOf_alike hZ.alike Ar94.2.1) rfl Ar94.2.2 hin94 (H94.at hin94 rfl) (g := (mkF m 89 #[.val (.ref a1), .val (.ref a2), .val (.int (3 : Int32)), .val (.int (2 : Int32)), .val (.int (0 : Int32))] [(.int (2 : Int32)), (.ref b6), (.int (0 : Int32))])) rfl rfl (hb hby d2_89) tt_ kk_) ?_
  have F95 := Vz87.other W89 (Ne.symm (Nat.ne_of_lt (Nat.lt_of_lt_of_le V6.lt (Nat.le_trans (Nat.le_trans (Nat.le_trans (Nat.le_trans (Nat.le_trans (Nat.le_trans (Nat.le_trans (Nat.le_trans z12 z19) z25) z35) z40) z55) z64) z73) (Nat.le_of_eq g84.symm)))))
  obtain ⟨cl96, Ar96, q96, S96, N96, H96, G96⟩ := id F95
  refine Wp.st (S' := T93.setTop (mkF m 91 #[.val (.ref a1), .val (.ref a2), .val (.int (3 : Int32)), .val (.int (2 : Int32)), .val (.int (0 : Int32))] [(.int (1 : Int32)), (.int (0 : Int32))])) (fun tt_ kk_ => X93.arraylength hx (by rw [e93]; exact Ar96.1) (State.isArrayOf_alike hZ.alike Ar96.2.1) (g := (mkF m 90 #[.val (.ref a1), .val (.ref a2), .val (.int (3 : Int32)), .val (.int (2 : Int32)), .val (.int (0 : Int32))] [(.ref b84), (.int (0 : Int32))])) rfl rfl (hb hby d2_90) tt_ (by rw [len_of S96 N96]; exact kk_)) ?_
  refine Wp.st (S' := T93.setTop (mkF m 94 #[.val (.ref a1), .val (.ref a2), .val (.int (3 : Int32)), .val (.int (2 : Int32)), .val (.int (0 : Int32))] [])) (fun tt_ kk_ => XS.icmpNo X93.here hx rfl (hb hby d2_91) rfl (tlt ((by decide) : (0 : Int32) < (1 : Int32))).2.1 kk_) ?_
  refine Wp.st (S' := T93.setTop (mkF m 95 #[.val (.ref a1), .val (.ref a2), .val (.int (3 : Int32)), .val (.int (2 : Int32)), .val (.int (0 : Int32))] [(.ref a1)])) (fun tt_ kk_ => XS.aloadN X93.here hx rfl (hb hby d2_94) rfl rfl kk_) ?_
  refine Wp.st (S' := T93.setTop (mkF m 96 #[.val (.ref a1), .val (.ref a2), .val (.int (3 : Int32)), .val (.int (2 : Int32)), .val (.int (0 : Int32))] [(.int (2 : Int32)), (.ref a1)])) (fun tt_ kk_ => XS.iloadN X93.here hx rfl (hb hby d2_95) rfl  kk_) ?_
  refine Wp.st (S' := T93.setTop (mkF m 98 #[.val (.ref a1), .val (.ref a2), .val (.int (3 : Int32)), .val (.int (2 : Int32)), .val (.int (0 : Int32))] [(.int (0 : Int32)), (.int (2 : Int32)), (.ref a1)])) (fun tt_ kk_ => XS.iload X93.here hx rfl (hb hby d2_96) rfl  kk_) ?_
  have F98 := P70_0.ext E84
  have F99 := F98.other W89 (Ne.symm (Nat.ne_of_lt (Nat.lt_of_lt_of_le V6.lt (Nat.le_trans (Nat.le_trans (Nat.le_trans z12 z19) z25) (Nat.le_of_eq g34.symm)))))
  have F100 := F72.keep K70
  have F101 := F100.ext E84
  have F102 := F101.wr W89
  obtain ⟨cq97, q97, q97'⟩ := (F102).cell
  obtain ⟨vv97, _, ⟨T97, L97, k97, n97⟩, -, X97, ⟨Lc97, hQ97, l97, y97, z97⟩, st97⟩ := X93.privateBack hx (y := (⟨"com/example/dags_over_clouds/dagsoverclouds/plan/Tally", "addUp", "(II)V"⟩ : MethodName)) hown (mvT hZ (hw _ (List.mem_of_getElem? (i := 35) rfl))) (mvT hZ (hw _ (List.mem_of_getElem? (i := 36) rfl))) (mvT hZ (own_selP (hw _ (List.mem_of_getElem? (i := 45) rfl)) (hw _ (List.mem_of_getElem? (i := 36) rfl)) (hw _ (List.mem_of_getElem? (i := 37) rfl)))) (Cond.privateMethod_at (mvP hZ (hw _ (List.mem_of_getElem? (i := 37) rfl)) (args := #[]))) (mvT hZ (hw _ (List.mem_of_getElem? (i := 38) rfl))) (by decide) (backOf (W := 0) (rmAdd32 l Z a0 hw [] a1 (0 : Int32) b6 (.ref b14) b34 b84 k6 k34 k84 (3 : Int32) (1 : Int32) (own_up (own_up (own_up own_z (0 : Int32).toNatClampNeg (own_R wf n.toNatClampNeg (0 : Int32).toNatClampNeg)) (1 : Int32).toNatClampNeg (own_R wf n.toNatClampNeg (1 : Int32).toNatClampNeg)) (2 : Int32).toNatClampNeg (own_R wf n.toNatClampNeg (2 : Int32).toNatClampNeg)) own_z h89 n0 (Nat.le_trans Z0 (Nat.le_trans (Nat.le_trans (Nat.le_trans (Nat.le_trans (Nat.le_trans (Nat.le_trans (Nat.le_trans (Nat.le_trans (Nat.le_trans (Nat.le_trans z7 z12) z19) z25) z35) z40) z55) z64) z73) z85) z90)) g86 F92 V89 F99 F95 ((by first | assumption | exact own_b_of (by assumption) | (repeat first | exact own_b_z | assumption | refine own_b_up ?_ _ (own_R_b (by assumption) _ _))) : own_b (own_up (own_up (own_up own_z (0 : Int32).toNatClampNeg (own_R wf n.toNatClampNeg (0 : Int32).toNatClampNeg)) (1 : Int32).toNatClampNeg (own_R wf n.toNatClampNeg (1 : Int32).toNatClampNeg)) (2 : Int32).toNatClampNeg (own_R wf n.toNatClampNeg (2 : Int32).toNatClampNeg))) ((by assumption) : own_hr (0 : Int32) (3 : Int32) (1 : Int32))) hZ (hw _ (List.mem_of_getElem? (i := 38) rfl)) (hw _ (List.mem_of_getElem? (i := 9) rfl)) (by decide) (by decide)) (g := (mkF m 98 #[.val (.ref a1), .val (.ref a2), .val (.int (3 : Int32)), .val (.int (2 : Int32)), .val (.int (0 : Int32))] [(.int (0 : Int32)), (.int (2 : Int32)), (.ref a1)])) rfl (by rw [hml]; rfl) (Steps.refl _) (a := a1) (by rw [e93]; exact q97) q97' (argsL := [(.int (2 : Int32)), (.int (0 : Int32))]) (rest := []) (lenOf pd_1 rfl) rfl (by show 2 * 0 + _ ≤ _; exact Nat.le_of_eq rfl) (hb hby d2_98) (fun _ _ => ⟨rfl, e93, (by decide : 4 + 0 ≤ _), (by decide : 136 + 0 ≤ _)⟩)
  dsimp only [Pt.U, Pt.locs, Pt.cells, Pt.slots] at X97 l97 y97 z97 st97 hQ97
  subst l97 y97 z97
  obtain ⟨rfl, Nq97, K97, P97_0⟩ := hQ97
  have N97 := Fr.app Nf89 Nq97
  have z103 := K97.1
  have e97 : T97.heap = T97.heap := rfl
  refine Wp.tr (S' := T97.setTop (mkF m 101 #[.val (.ref a1), .val (.ref a2), .val (.int (3 : Int32)), .val (.int (2 : Int32)), .val (.int (0 : Int32))] [])) st97 ?_
  refine Wp.st (S' := T97.setTop (mkF m 104 #[.val (.ref a1), .val (.ref a2), .val (.int (3 : Int32)), .val (.int (2 : Int32)), .val (.int ((0 : Int32) + (1 : Int32)))] [])) (fun tt_ kk_ => XS.iinc X97.here hx rfl (hb hby d2_101) rfl (l' := #[.val (.ref a1), .val (.ref a2), .val (.int (3 : Int32)), .val (.int (2 : Int32)), .val (.int ((0 : Int32) + (1 : Int32)))]) rfl kk_) ?_
  rw [(by decide : ((0 : Int32) + (1 : Int32)) = (1 : Int32))]
  refine Wp.st (S' := T97.setTop (mkF m 82 #[.val (.ref a1), .val (.ref a2), .val (.int (3 : Int32)), .val (.int (2 : Int32)), .val (.int (1 : Int32))] [])) (fun tt_ kk_ => XS.goto X97.here hx rfl (pc0 := 104) (pc' := 82) rfl (hb hby d2_104) (by decide) (by decide) kk_) ?_
  refine Wp.st (S' := T97.setTop (mkF m 84 #[.val (.ref a1), .val (.ref a2), .val (.int (3 : Int32)), .val (.int (2 : Int32)), .val (.int (1 : Int32))] [(.int (1 : Int32))])) (fun tt_ kk_ => XS.iload X97.here hx rfl (hb hby d2_82) rfl  kk_) ?_
  refine Wp.st (S' := T97.setTop (mkF m 85 #[.val (.ref a1), .val (.ref a2), .val (.int (3 : Int32)), .val (.int (2 : Int32)), .val (.int (1 : Int32))] [(.ref a1), (.int (1 : Int32))])) (fun tt_ kk_ => XS.aloadN X97.here hx rfl (hb hby d2_84) rfl rfl kk_) ?_
  have F104 := F92.keep K97 (ninS (Nat.ne_of_lt (Nat.lt_of_lt_of_le P1.lt (Nat.le_trans (Nat.le_trans (Nat.le_trans (Nat.le_trans (Nat.le_trans (Nat.le_trans (Nat.le_trans (Nat.le_trans (Nat.le_trans z7 z12) z19) z25) z35) z40) z55) z64) z73) (Nat.le_of_eq g84.symm)))) nin0)
  obtain ⟨T105, X105, e105, st105⟩ := getF X97 hx hZ hown (host := "") (Or.inl (hw _ (List.mem_of_getElem? (i := 22) rfl))) Via.refl e97 F104 (g := (mkF m 85 #[.val (.ref a1), .val (.ref a2), .val (.int (3 : Int32)), .val (.int (2 : Int32)), .val (.int (1 : Int32))] [(.ref a1), (.int (1 : Int32))])) rfl rfl (hb hby d2_85)
  refine Wp.st (S' := T105.setTop (mkF m 88 #[.val (.ref a1), .val (.ref a2), .val (.int (3 : Int32)), .val (.int (2 : Int32)), .val (.int (1 : Int32))] [(.ref b6), (.int (1 : Int32))])) st105 ?_
  refine Wp.st (S' := T105.setTop (mkF m 89 #[.val (.ref a1), .val (.ref a2), .val (.int (3 : Int32)), .val (.int (2 : Int32)), .val (.int (1 : Int32))] [(.int (2 : Int32)), (.ref b6), (.int (1 : Int32))])) (fun tt_ kk_ => XS.iloadN X105.here hx rfl (hb hby d2_88) rfl  kk_) ?_
  have F106 := V89.keep K97 (ninS (Nat.ne_of_lt (Nat.lt_of_lt_of_le V6.lt (Nat.le_trans (Nat.le_trans (Nat.le_trans (Nat.le_trans (Nat.le_trans (Nat.le_trans (Nat.le_trans (Nat.le_trans z12 z19) z25) z35) z40) z55) z64) z73) (Nat.le_of_eq g84.symm)))) nin0)
  obtain ⟨cl107, Ar107, q107, S107, N107, H107, G107⟩ := id F106
  have hin107 := inb_of (j := (2 : Int32)) S107 ⟨by decide, by decide⟩
  refine Wp.st (S' := T105.setTop (mkF m 90 #[.val (.ref a1), .val (.ref a2), .val (.int (3 : Int32)), .val (.int (2 : Int32)), .val (.int (1 : Int32))] [(.ref b84), (.int (1 : Int32))])) (fun tt_ kk_ => X105.aaload hx (j := (2 : Int32)) (v := (.ref b84)) (by rw [e105]; exact Ar107.1) (State.isArrayOf_alike hZ.alike Ar107.2.1) rfl Ar107.2.2 hin107 (H107.at hin107 rfl) (g := (mkF m 89 #[.val (.ref a1), .val (.ref a2), .val (.int (3 : Int32)), .val (.int (2 : Int32)), .val (.int (1 : Int32))] [(.int (2 : Int32)), (.ref b6), (.int (1 : Int32))])) rfl rfl (hb hby d2_89) tt_ kk_) ?_
  obtain ⟨cl108, Ar108, q108, S108, N108, H108, G108⟩ := id P97_0
  refine Wp.st (S' := T105.setTop (mkF m 91 #[.val (.ref a1), .val (.ref a2), .val (.int (3 : Int32)), .val (.int (2 : Int32)), .val (.int (1 : Int32))] [(.int (1 : Int32)), (.int (1 : Int32))])) (fun tt_ kk_ => X105.arraylength hx (by rw [e105]; exact Ar108.1) (State.isArrayOf_alike hZ.alike Ar108.2.1) (g := (mkF m 90 #[.val (.ref a1), .val (.ref a2), .val (.int (3 : Int32)), .val (.int (2 : Int32)), .val (.int (1 : Int32))] [(.ref b84), (.int (1 : Int32))])) rfl rfl (hb hby d2_90) tt_ (by rw [len_of S108 N108]; exact kk_)) ?_
  refine Wp.st (S' := T105.setTop (mkF m 107 #[.val (.ref a1), .val (.ref a2), .val (.int (3 : Int32)), .val (.int (2 : Int32)), .val (.int (1 : Int32))] [])) (fun tt_ kk_ => XS.icmpYes X105.here hx rfl (pc0 := 91) (pc' := 107) rfl (hb hby d2_91) rfl (flt ((by decide) : ¬ ((1 : Int32) < (1 : Int32)))).2.1 (by decide) (by decide) kk_) ?_
  refine Wp.st (S' := T105.setTop (mkF m 110 #[.val (.ref a1), .val (.ref a2), .val (.int (3 : Int32)), .val (.int ((2 : Int32) + (1 : Int32))), .val (.int (1 : Int32))] [])) (fun tt_ kk_ => XS.iinc X105.here hx rfl (hb hby d2_107) rfl (l' := #[.val (.ref a1), .val (.ref a2), .val (.int (3 : Int32)), .val (.int ((2 : Int32) + (1 : Int32))), .val (.int (1 : Int32))]) rfl kk_) ?_
  rw [(by decide : ((2 : Int32) + (1 : Int32)) = (3 : Int32))]
  refine Wp.st (S' := T105.setTop (mkF m 54 #[.val (.ref a1), .val (.ref a2), .val (.int (3 : Int32)), .val (.int (3 : Int32)), .val (.int (1 : Int32))] [])) (fun tt_ kk_ => XS.goto X105.here hx rfl (pc0 := 110) (pc' := 54) rfl (hb hby d2_110) (by decide) (by decide) kk_) ?_
  refine Wp.st (S' := T105.setTop (mkF m 55 #[.val (.ref a1), .val (.ref a2), .val (.int (3 : Int32)), .val (.int (3 : Int32)), .val (.int (1 : Int32))] [(.int (3 : Int32))])) (fun tt_ kk_ => XS.iloadN X105.here hx rfl (hb hby d2_54) rfl  kk_) ?_
  refine Wp.st (S' := T105.setTop (mkF m 56 #[.val (.ref a1), .val (.ref a2), .val (.int (3 : Int32)), .val (.int (3 : Int32)), .val (.int (1 : Int32))] [(.int (3 : Int32)), (.int (3 : Int32))])) (fun tt_ kk_ => XS.iloadN X105.here hx rfl (hb hby d2_55) rfl  kk_) ?_
  refine Wp.st (S' := T105.setTop (mkF m 113 #[.val (.ref a1), .val (.ref a2), .val (.int (3 : Int32)), .val (.int (3 : Int32)), .val (.int (1 : Int32))] [])) (fun tt_ kk_ => XS.icmpYes X105.here hx rfl (pc0 := 56) (pc' := 113) rfl (hb hby d2_56) rfl (flt ((by decide) : ¬ ((3 : Int32) < (3 : Int32)))).2.1 (by decide) (by decide) kk_) ?_
  have K109 := Keep.refl h0 [a1]
  have K110 := K109.ext E6
  have K111 := K110.wr W9 (Or.inl (List.mem_of_getElem? (i := 0) rfl))
  have K112 := K111.ext E14
  have K113 := K112.wr W24 (Or.inr (Nat.le_trans (Nat.le_refl _) (Nat.le_of_eq g6.symm)))
  have K114 := K113.ext E34
  have K115 := K114.wr W39 (Or.inr (Nat.le_trans (Nat.le_refl _) (Nat.le_of_eq g6.symm)))
  have K116 := K115.trans K47 (allS (Or.inr (Nat.le_trans (Nat.le_trans (Nat.le_trans (Nat.le_trans z7 z12) z19) z25) (Nat.le_of_eq g34.symm))) all0)
  have K117 := K116.trans K61 (allS (Or.inr (Nat.le_trans (Nat.le_trans (Nat.le_trans (Nat.le_trans z7 z12) z19) z25) (Nat.le_of_eq g34.symm))) all0)
  have K118 := K117.trans K70 (allS (Or.inr (Nat.le_trans (Nat.le_trans (Nat.le_trans (Nat.le_trans z7 z12) z19) z25) (Nat.le_of_eq g34.symm))) all0)
  have K119 := K118.ext E84
  have K120 := K119.wr W89 (Or.inr (Nat.le_trans (Nat.le_refl _) (Nat.le_of_eq g6.symm)))
  have K121 := K120.trans K97 (allS (Or.inr (Nat.le_trans (Nat.le_trans (Nat.le_trans (Nat.le_trans (Nat.le_trans (Nat.le_trans (Nat.le_trans (Nat.le_trans (Nat.le_trans z7 z12) z19) z25) z35) z40) z55) z64) z73) (Nat.le_of_eq g84.symm))) all0)
  have F122 := F102.keep K97
  have F123 := F71.keep K70 (ninS (Nat.ne_of_lt (Nat.lt_of_lt_of_le Ea14.lt (Nat.le_trans z25 (Nat.le_of_eq g34.symm)))) nin0)
  have F124 := F123.ext E84
  have F125 := F124.other W89 (Ne.symm (Nat.ne_of_lt (Nat.lt_of_lt_of_le V6.lt (Nat.le_trans z12 (Nat.le_of_eq g14.symm)))))
  have F126 := F125.keep K97 (ninS (Nat.ne_of_lt (Nat.lt_of_lt_of_le Ea14.lt (Nat.le_trans (Nat.le_trans (Nat.le_trans (Nat.le_trans (Nat.le_trans (Nat.le_trans z25 z35) z40) z55) z64) z73) (Nat.le_of_eq g84.symm)))) nin0)
  have F127 := F99.keep K97 (ninS (Nat.ne_of_lt (Nat.lt_of_lt_of_le V34.lt (Nat.le_trans (Nat.le_trans (Nat.le_trans (Nat.le_trans z40 z55) z64) z73) (Nat.le_of_eq g84.symm)))) nin0)
  exact Wp.ret X105 hlk (v := none) (fun _ => rfl) (fun fs hr => X105.returnOut hx Bd.returns (hb hby d2_113) hr) (by decide) (by decide) (show Q_rmInitC Z a1 a2 kt n wf h0 n0 _ T105.heap _ by rw [e105]; exact ⟨b6, b14, b34, b84, k6, kt, k34, k84, rfl, N97, K121, (Nat.le_trans (Nat.le_refl _) (Nat.le_of_eq g6.symm)), (Nat.le_trans (Nat.le_trans z7 z12) (Nat.le_of_eq g14.symm)), (Nat.le_trans (Nat.le_trans (Nat.le_trans (Nat.le_trans z7 z12) z19) z25) (Nat.le_of_eq g34.symm)), (Nat.le_trans (Nat.le_trans (Nat.le_trans (Nat.le_trans (Nat.le_trans (Nat.le_trans (Nat.le_trans (Nat.le_trans (Nat.le_trans z7 z12) z19) z25) z35) z40) z55) z64) z73) (Nat.le_of_eq g84.symm)), F122, F104, F106, F126, F127, P97_0, (Nat.ne_of_lt (Nat.lt_of_lt_of_le V6.lt (Nat.le_trans z12 (Nat.le_of_eq g14.symm)))), (Nat.ne_of_lt (Nat.lt_of_lt_of_le V6.lt (Nat.le_trans (Nat.le_trans (Nat.le_trans z12 z19) z25) (Nat.le_of_eq g34.symm)))), (Nat.ne_of_lt (Nat.lt_of_lt_of_le V6.lt (Nat.le_trans (Nat.le_trans (Nat.le_trans (Nat.le_trans (Nat.le_trans (Nat.le_trans (Nat.le_trans (Nat.le_trans z12 z19) z25) z35) z40) z55) z64) z73) (Nat.le_of_eq g84.symm)))), (Nat.ne_of_lt (Nat.lt_of_lt_of_le Ea14.lt (Nat.le_trans z25 (Nat.le_of_eq g34.symm)))), (Nat.ne_of_lt (Nat.lt_of_lt_of_le Ea14.lt (Nat.le_trans (Nat.le_trans (Nat.le_trans (Nat.le_trans (Nat.le_trans (Nat.le_trans z25 z35) z40) z55) z64) z73) (Nat.le_of_eq g84.symm)))), (Nat.ne_of_lt (Nat.lt_of_lt_of_le V34.lt (Nat.le_trans (Nat.le_trans (Nat.le_trans (Nat.le_trans z40 z55) z64) z73) (Nat.le_of_eq g84.symm))))⟩)
theorem pn_0 : plainName "com/example/dags_over_clouds/dagsoverclouds/plan/TallySumPinLaw" = true := by first | (simp [plainName, overriddenIn]; done) | decide +kernel
theorem pd_3 : parseMethodDescriptor "([D)V" = some ⟨[(.array .double)], none⟩ := by decide +kernel
theorem pd_4 : parseMethodDescriptor "()D" = some ⟨[], some .double⟩ := by decide +kernel
theorem pd_5 : parseMethodDescriptor "(ID)V" = some ⟨[.int, .double], none⟩ := by decide +kernel
theorem ef_rm0 (m : MethodId) (x1 : Int32) (q2 : Int64) (x3 : Int32) (x4 : Int32) (x5 : Int32) (x6 : Int32) : entryFrame m #[(.int x1), (.long q2), (.int x3), (.int x4), (.int x5), (.int x6)] maxLocals = mkF m 0 #[.val (.int x1), .val (.long q2), .second, .val (.int x3), .val (.int x4), .val (.int x5), .val (.int x6), .unset, .unset, .unset, .unset, .unset, .unset, .unset, .unset, .unset, .unset, .unset, .unset] [] := by first | (simp [entryFrame, mkF, argsToLocals, Value.category, maxLocals]; done) | rfl
def Q_rm0 (Z : State) (x1 : Int32) (q2 : Int64) (x3 : Int32) (x4 : Int32) (x5 : Int32) (x6 : Int32) (h0 : Heap) (n0 : Nat) (v : Option Value) (h : Heap) (L : List Loc) : Prop := (v = some (.int (1 : Int32))) ∧ (Fr n0 L) ∧ (Keep h0 h [])
set_option maxRecDepth 65536 in
set_option maxHeartbeats 40000000 in
theorem rm0 (l : Launch) (Z : State) (a0 : Array Value) (hw : ∀ d ∈ tables_1, d.before a0 Z = true) (ws : List Jvm.Cond) (x1 : Int32) (q2 : Int64) (x3 : Int32) (x4 : Int32) (x5 : Int32) (x6 : Int32) (h0 : Heap) (n0 : Nat) (Z0 : n0 ≤ h0.size) (OZ : Jvm.RoadKit.Old Z n0 h0)  :
    MetFree l x (head1 (Jvm.Cond.code x code maxLocals ret :: ws) room_1) (fun a U => a = #[(.int x1), (.long q2), (.int x3), (.int x4), (.int x5), (.int x6)] ∧ Z.Warmed39 U.vm ∧ U.heap = h0) (fun _ _ _ _ _ => True) (fun _ U o U' => ∃ v L, o = .returned v ∧ Q_rm0 Z x1 q2 x3 x4 x5 x6 h0 n0 v U'.heap L ∧ FrameEnd U o U' L room_1.cells room_1.slots) := by
  refine MetFree.of_bodySF (plainFor_of_name pn_0) hisR ?_
  intro p e s m args below meth c s₁ Bd hml0 hP hK
  obtain ⟨rfl, hZ, hh⟩ := hP
  have hx := Bd.exec
  have hby := Bd.bytes
  have hml : c.maxLocals = 19 := hml0
  have hown : s.vm.findClass "com/example/dags_over_clouds/dagsoverclouds/plan/TallySumPinLaw" = some m.cls := findClass_of_methodNamed Bd.named
  have hnm := (name_of_methodNamed Bd.named Bd.method).1
  have hlk := Bd.notSynchronized
  have X0 : Stand p l e room_1 s m #[(.int x1), (.long q2), (.int x3), (.int x4), (.int x5), (.int x6)] below meth c s₁ [] 0 0 := Stand.of_body Bd
  have e0 : s₁.heap = h0 := by rw [← hh, Bd.state]; rfl
  have N0 := Fr.nil n0
  refine Wp.goal (Post := (fun o U' => ∃ v L, o = .returned v ∧ Q_rm0 Z x1 q2 x3 x4 x5 x6 h0 n0 v U'.heap L ∧ FrameEnd s o U' L room_1.cells room_1.slots)) (Wp.st (S' := s₁.setTop (mkF m 0 #[.val (.int x1), .val (.long q2), .second, .val (.int x3), .val (.int x4), .val (.int x5), .val (.int x6), .unset, .unset, .unset, .unset, .unset, .unset, .unset, .unset, .unset, .unset, .unset, .unset] [])) (fun tt_ kk_ => castTop (ef_rm0 m x1 q2 x3 x4 x5 x6 ) kk_) ?_)
  have O0 : Jvm.RoadKit.Old Z n0 h0 := OZ
  refine Wp.st (S' := s₁.setTop (mkF m 1 #[.val (.int x1), .val (.long q2), .second, .val (.int x3), .val (.int x4), .val (.int x5), .val (.int x6), .unset, .unset, .unset, .unset, .unset, .unset, .unset, .unset, .unset, .unset, .unset, .unset] [(.int x1)])) (fun tt_ kk_ => XS.iloadN X0.here hx rfl (hb hby at_0) rfl  kk_) ?_
  refine Wp.st (S' := s₁.setTop (mkF m 3 #[.val (.int x1), .val (.long q2), .second, .val (.int x3), .val (.int x4), .val (.int x5), .val (.int x6), .unset, .unset, .unset, .unset, .unset, .unset, .unset, .unset, .unset, .unset, .unset, .unset] [(.int (7 : Int32)), (.int x1)])) (fun tt_ kk_ => XS.bipush X0.here hx rfl (hb hby at_1) kk_) ?_
  refine Wp.st (S' := s₁.setTop (mkF m 4 #[.val (.int x1), .val (.long q2), .second, .val (.int x3), .val (.int x4), .val (.int x5), .val (.int x6), .unset, .unset, .unset, .unset, .unset, .unset, .unset, .unset, .unset, .unset, .unset, .unset] [(.int (x1 &&& (7 : Int32)))])) (fun tt_ kk_ => XS.iand X0.here hx rfl (hb hby at_3) rfl kk_) ?_
  obtain ⟨vv1, _, ⟨T1, L1, k1, n1⟩, -, X1, ⟨Lc1, hQ1, l1, y1, z1⟩, st1⟩ := Jvm.LawKit.callS X0 hx (y := (⟨"com/example/dags_over_clouds/dagsoverclouds/plan/TallySumPinLaw", "size", "(I)I"⟩ : MethodName)) hown (mvT hZ (hw _ (List.mem_of_getElem? (i := 0) rfl))) (mvT hZ (hw _ (List.mem_of_getElem? (i := 1) rfl))) (mvT hZ (hw _ (List.mem_of_getElem? (i := 2) rfl))) (mvT hZ (hw _ (List.mem_of_getElem? (i := 3) rfl))) (by decide) (backOf (W := 0) (rm1 l Z a0 hw [] (x1 &&& (7 : Int32)) h0 n0 Z0 ) hZ (hw _ (List.mem_of_getElem? (i := 3) rfl)) (hw _ (List.mem_of_getElem? (i := 2) rfl)) (by decide) (by decide)) (g := (mkF m 4 #[.val (.int x1), .val (.long q2), .second, .val (.int x3), .val (.int x4), .val (.int x5), .val (.int x6), .unset, .unset, .unset, .unset, .unset, .unset, .unset, .unset, .unset, .unset, .unset, .unset] [(.int (x1 &&& (7 : Int32)))])) rfl (by rw [hml]; rfl) (argsL := [(.int (x1 &&& (7 : Int32)))]) (rest := []) (lenOf pd_2 rfl) rfl (by show 2 * 0 + _ ≤ _; exact Nat.le_of_eq rfl) (hb hby at_4) (fun _ _ => ⟨rfl, e0, (by decide : 0 + 0 ≤ _), (by decide : 0 + 0 ≤ _)⟩)
  dsimp only [Pt.U, Pt.locs, Pt.cells, Pt.slots] at X1 l1 y1 z1 st1 hQ1
  subst l1 y1 z1
  obtain ⟨c2, rfl, Nq1, e1, P1_0⟩ := hQ1
  have N1 := Fr.app N0 Nq1
  refine Wp.st (S' := T1.setTop (mkF m 7 #[.val (.int x1), .val (.long q2), .second, .val (.int x3), .val (.int x4), .val (.int x5), .val (.int x6), .unset, .unset, .unset, .unset, .unset, .unset, .unset, .unset, .unset, .unset, .unset, .unset] [(.int c2)])) st1 ?_
  have hnr : 0 < c2.toInt ∧ c2.toInt ≤ 129 := by rcases P1_0 with rfl | rfl | rfl | rfl | rfl | rfl | rfl | rfl <;> decide
  have hnz42 : ¬ c2 = 0 := by rcases P1_0 with rfl | rfl | rfl | rfl | rfl | rfl | rfl | rfl <;> decide
  have hnz17 : ¬ c2.toInt64 = 0 := by rcases P1_0 with rfl | rfl | rfl | rfl | rfl | rfl | rfl | rfl <;> decide
  have hnz32 := hnz17
  refine Wp.st (S' := T1.setTop (mkF m 9 #[.val (.int x1), .val (.long q2), .second, .val (.int x3), .val (.int x4), .val (.int x5), .val (.int x6), .val (.int c2), .unset, .unset, .unset, .unset, .unset, .unset, .unset, .unset, .unset, .unset, .unset] [])) (fun tt_ kk_ => XS.istore X1.here hx rfl (hb hby at_7) rfl (l' := #[.val (.int x1), .val (.long q2), .second, .val (.int x3), .val (.int x4), .val (.int x5), .val (.int x6), .val (.int c2), .unset, .unset, .unset, .unset, .unset, .unset, .unset, .unset, .unset, .unset, .unset]) rfl kk_) ?_
  refine Wp.st (S' := T1.setTop (mkF m 10 #[.val (.int x1), .val (.long q2), .second, .val (.int x3), .val (.int x4), .val (.int x5), .val (.int x6), .val (.int c2), .unset, .unset, .unset, .unset, .unset, .unset, .unset, .unset, .unset, .unset, .unset] [(.long q2)])) (fun tt_ kk_ => XS.lloadN X1.here hx rfl (hb hby at_9) rfl  kk_) ?_
  refine Wp.st (S' := T1.setTop (mkF m 13 #[.val (.int x1), .val (.long q2), .second, .val (.int x3), .val (.int x4), .val (.int x5), .val (.int x6), .val (.int c2), .unset, .unset, .unset, .unset, .unset, .unset, .unset, .unset, .unset, .unset, .unset] [(.long (2147483647 : Int64)), (.long q2)])) (fun tt_ kk_ => X1.ldc2Long hx hown (mvT hZ (hw _ (List.mem_of_getElem? (i := 4) rfl))) (g := (mkF m 10 #[.val (.int x1), .val (.long q2), .second, .val (.int x3), .val (.int x4), .val (.int x5), .val (.int x6), .val (.int c2), .unset, .unset, .unset, .unset, .unset, .unset, .unset, .unset, .unset, .unset, .unset] [(.long q2)])) rfl (hb hby at_10) tt_ kk_) ?_
  refine Wp.st (S' := T1.setTop (mkF m 14 #[.val (.int x1), .val (.long q2), .second, .val (.int x3), .val (.int x4), .val (.int x5), .val (.int x6), .val (.int c2), .unset, .unset, .unset, .unset, .unset, .unset, .unset, .unset, .unset, .unset, .unset] [(.long (q2 &&& (2147483647 : Int64)))])) (fun tt_ kk_ => XS.land X1.here hx rfl (hb hby at_13) rfl kk_) ?_
  refine Wp.st (S' := T1.setTop (mkF m 16 #[.val (.int x1), .val (.long q2), .second, .val (.int x3), .val (.int x4), .val (.int x5), .val (.int x6), .val (.int c2), .unset, .unset, .unset, .unset, .unset, .unset, .unset, .unset, .unset, .unset, .unset] [(.int c2), (.long (q2 &&& (2147483647 : Int64)))])) (fun tt_ kk_ => XS.iload X1.here hx rfl (hb hby at_14) rfl  kk_) ?_
  refine Wp.st (S' := T1.setTop (mkF m 17 #[.val (.int x1), .val (.long q2), .second, .val (.int x3), .val (.int x4), .val (.int x5), .val (.int x6), .val (.int c2), .unset, .unset, .unset, .unset, .unset, .unset, .unset, .unset, .unset, .unset, .unset] [(.long (c2.toInt64)), (.long (q2 &&& (2147483647 : Int64)))])) (fun tt_ kk_ => XS.i2l X1.here hx rfl (hb hby at_16) rfl kk_) ?_
  refine Wp.st (S' := T1.setTop (mkF m 18 #[.val (.int x1), .val (.long q2), .second, .val (.int x3), .val (.int x4), .val (.int x5), .val (.int x6), .val (.int c2), .unset, .unset, .unset, .unset, .unset, .unset, .unset, .unset, .unset, .unset, .unset] [(.long ((q2 &&& (2147483647 : Int64)) - ((q2 &&& (2147483647 : Int64)) / (c2.toInt64)) * (c2.toInt64)))])) (fun tt_ kk_ => XS.lrem X1.here hx rfl (hb hby at_17) rfl hnz17 kk_) ?_
  refine Wp.st (S' := T1.setTop (mkF m 19 #[.val (.int x1), .val (.long q2), .second, .val (.int x3), .val (.int x4), .val (.int x5), .val (.int x6), .val (.int c2), .unset, .unset, .unset, .unset, .unset, .unset, .unset, .unset, .unset, .unset, .unset] [(.int (((q2 &&& (2147483647 : Int64)) - ((q2 &&& (2147483647 : Int64)) / (c2.toInt64)) * (c2.toInt64)).toInt32))])) (fun tt_ kk_ => XS.l2i X1.here hx rfl (hb hby at_18) rfl kk_) ?_
  refine Wp.st (S' := T1.setTop (mkF m 21 #[.val (.int x1), .val (.long q2), .second, .val (.int x3), .val (.int x4), .val (.int x5), .val (.int x6), .val (.int c2), .val (.int (((q2 &&& (2147483647 : Int64)) - ((q2 &&& (2147483647 : Int64)) / (c2.toInt64)) * (c2.toInt64)).toInt32)), .unset, .unset, .unset, .unset, .unset, .unset, .unset, .unset, .unset, .unset] [])) (fun tt_ kk_ => XS.istore X1.here hx rfl (hb hby at_19) rfl (l' := #[.val (.int x1), .val (.long q2), .second, .val (.int x3), .val (.int x4), .val (.int x5), .val (.int x6), .val (.int c2), .val (.int (((q2 &&& (2147483647 : Int64)) - ((q2 &&& (2147483647 : Int64)) / (c2.toInt64)) * (c2.toInt64)).toInt32)), .unset, .unset, .unset, .unset, .unset, .unset, .unset, .unset, .unset, .unset]) rfl kk_) ?_
  have h_i1 : 0 ≤ (((q2 &&& (2147483647 : Int64)) - ((q2 &&& (2147483647 : Int64)) / (c2.toInt64)) * (c2.toInt64)).toInt32).toInt ∧ (((q2 &&& (2147483647 : Int64)) - ((q2 &&& (2147483647 : Int64)) / (c2.toInt64)) * (c2.toInt64)).toInt32).toInt < c2.toInt := own_modL hnr (own_maskL _)
  generalize hv_i1 : (((q2 &&& (2147483647 : Int64)) - ((q2 &&& (2147483647 : Int64)) / (c2.toInt64)) * (c2.toInt64)).toInt32) = i1
  rw [hv_i1] at h_i1
  refine Wp.st (S' := T1.setTop (mkF m 22 #[.val (.int x1), .val (.long q2), .second, .val (.int x3), .val (.int x4), .val (.int x5), .val (.int x6), .val (.int c2), .val (.int i1), .unset, .unset, .unset, .unset, .unset, .unset, .unset, .unset, .unset, .unset] [(.long q2)])) (fun tt_ kk_ => XS.lloadN X1.here hx rfl (hb hby at_21) rfl  kk_) ?_
  refine Wp.st (S' := T1.setTop (mkF m 24 #[.val (.int x1), .val (.long q2), .second, .val (.int x3), .val (.int x4), .val (.int x5), .val (.int x6), .val (.int c2), .val (.int i1), .unset, .unset, .unset, .unset, .unset, .unset, .unset, .unset, .unset, .unset] [(.int (32 : Int32)), (.long q2)])) (fun tt_ kk_ => XS.bipush X1.here hx rfl (hb hby at_22) kk_) ?_
  refine Wp.st (S' := T1.setTop (mkF m 25 #[.val (.int x1), .val (.long q2), .second, .val (.int x3), .val (.int x4), .val (.int x5), .val (.int x6), .val (.int c2), .val (.int i1), .unset, .unset, .unset, .unset, .unset, .unset, .unset, .unset, .unset, .unset] [(.long ((q2.toUInt64 >>> ((32 : Int32) &&& 0x3f).toInt64.toUInt64).toInt64))])) (fun tt_ kk_ => XS.lushr X1.here hx rfl (hb hby at_24) rfl kk_) ?_
  refine Wp.st (S' := T1.setTop (mkF m 28 #[.val (.int x1), .val (.long q2), .second, .val (.int x3), .val (.int x4), .val (.int x5), .val (.int x6), .val (.int c2), .val (.int i1), .unset, .unset, .unset, .unset, .unset, .unset, .unset, .unset, .unset, .unset] [(.long (2147483647 : Int64)), (.long ((q2.toUInt64 >>> ((32 : Int32) &&& 0x3f).toInt64.toUInt64).toInt64))])) (fun tt_ kk_ => X1.ldc2Long hx hown (mvT hZ (hw _ (List.mem_of_getElem? (i := 4) rfl))) (g := (mkF m 25 #[.val (.int x1), .val (.long q2), .second, .val (.int x3), .val (.int x4), .val (.int x5), .val (.int x6), .val (.int c2), .val (.int i1), .unset, .unset, .unset, .unset, .unset, .unset, .unset, .unset, .unset, .unset] [(.long ((q2.toUInt64 >>> ((32 : Int32) &&& 0x3f).toInt64.toUInt64).toInt64))])) rfl (hb hby at_25) tt_ kk_) ?_
  refine Wp.st (S' := T1.setTop (mkF m 29 #[.val (.int x1), .val (.long q2), .second, .val (.int x3), .val (.int x4), .val (.int x5), .val (.int x6), .val (.int c2), .val (.int i1), .unset, .unset, .unset, .unset, .unset, .unset, .unset, .unset, .unset, .unset] [(.long (((q2.toUInt64 >>> ((32 : Int32) &&& 0x3f).toInt64.toUInt64).toInt64) &&& (2147483647 : Int64)))])) (fun tt_ kk_ => XS.land X1.here hx rfl (hb hby at_28) rfl kk_) ?_
  refine Wp.st (S' := T1.setTop (mkF m 31 #[.val (.int x1), .val (.long q2), .second, .val (.int x3), .val (.int x4), .val (.int x5), .val (.int x6), .val (.int c2), .val (.int i1), .unset, .unset, .unset, .unset, .unset, .unset, .unset, .unset, .unset, .unset] [(.int c2), (.long (((q2.toUInt64 >>> ((32 : Int32) &&& 0x3f).toInt64.toUInt64).toInt64) &&& (2147483647 : Int64)))])) (fun tt_ kk_ => XS.iload X1.here hx rfl (hb hby at_29) rfl  kk_) ?_
  refine Wp.st (S' := T1.setTop (mkF m 32 #[.val (.int x1), .val (.long q2), .second, .val (.int x3), .val (.int x4), .val (.int x5), .val (.int x6), .val (.int c2), .val (.int i1), .unset, .unset, .unset, .unset, .unset, .unset, .unset, .unset, .unset, .unset] [(.long (c2.toInt64)), (.long (((q2.toUInt64 >>> ((32 : Int32) &&& 0x3f).toInt64.toUInt64).toInt64) &&& (2147483647 : Int64)))])) (fun tt_ kk_ => XS.i2l X1.here hx rfl (hb hby at_31) rfl kk_) ?_
  refine Wp.st (S' := T1.setTop (mkF m 33 #[.val (.int x1), .val (.long q2), .second, .val (.int x3), .val (.int x4), .val (.int x5), .val (.int x6), .val (.int c2), .val (.int i1), .unset, .unset, .unset, .unset, .unset, .unset, .unset, .unset, .unset, .unset] [(.long ((((q2.toUInt64 >>> ((32 : Int32) &&& 0x3f).toInt64.toUInt64).toInt64) &&& (2147483647 : Int64)) - ((((q2.toUInt64 >>> ((32 : Int32) &&& 0x3f).toInt64.toUInt64).toInt64) &&& (2147483647 : Int64)) / (c2.toInt64)) * (c2.toInt64)))])) (fun tt_ kk_ => XS.lrem X1.here hx rfl (hb hby at_32) rfl hnz32 kk_) ?_
  refine Wp.st (S' := T1.setTop (mkF m 34 #[.val (.int x1), .val (.long q2), .second, .val (.int x3), .val (.int x4), .val (.int x5), .val (.int x6), .val (.int c2), .val (.int i1), .unset, .unset, .unset, .unset, .unset, .unset, .unset, .unset, .unset, .unset] [(.int (((((q2.toUInt64 >>> ((32 : Int32) &&& 0x3f).toInt64.toUInt64).toInt64) &&& (2147483647 : Int64)) - ((((q2.toUInt64 >>> ((32 : Int32) &&& 0x3f).toInt64.toUInt64).toInt64) &&& (2147483647 : Int64)) / (c2.toInt64)) * (c2.toInt64)).toInt32))])) (fun tt_ kk_ => XS.l2i X1.here hx rfl (hb hby at_33) rfl kk_) ?_
  refine Wp.st (S' := T1.setTop (mkF m 36 #[.val (.int x1), .val (.long q2), .second, .val (.int x3), .val (.int x4), .val (.int x5), .val (.int x6), .val (.int c2), .val (.int i1), .val (.int (((((q2.toUInt64 >>> ((32 : Int32) &&& 0x3f).toInt64.toUInt64).toInt64) &&& (2147483647 : Int64)) - ((((q2.toUInt64 >>> ((32 : Int32) &&& 0x3f).toInt64.toUInt64).toInt64) &&& (2147483647 : Int64)) / (c2.toInt64)) * (c2.toInt64)).toInt32)), .unset, .unset, .unset, .unset, .unset, .unset, .unset, .unset, .unset] [])) (fun tt_ kk_ => XS.istore X1.here hx rfl (hb hby at_34) rfl (l' := #[.val (.int x1), .val (.long q2), .second, .val (.int x3), .val (.int x4), .val (.int x5), .val (.int x6), .val (.int c2), .val (.int i1), .val (.int (((((q2.toUInt64 >>> ((32 : Int32) &&& 0x3f).toInt64.toUInt64).toInt64) &&& (2147483647 : Int64)) - ((((q2.toUInt64 >>> ((32 : Int32) &&& 0x3f).toInt64.toUInt64).toInt64) &&& (2147483647 : Int64)) / (c2.toInt64)) * (c2.toInt64)).toInt32)), .unset, .unset, .unset, .unset, .unset, .unset, .unset, .unset, .unset]) rfl kk_) ?_
  have h_j1 : 0 ≤ (((((q2.toUInt64 >>> ((32 : Int32) &&& 0x3f).toInt64.toUInt64).toInt64) &&& (2147483647 : Int64)) - ((((q2.toUInt64 >>> ((32 : Int32) &&& 0x3f).toInt64.toUInt64).toInt64) &&& (2147483647 : Int64)) / (c2.toInt64)) * (c2.toInt64)).toInt32).toInt ∧ (((((q2.toUInt64 >>> ((32 : Int32) &&& 0x3f).toInt64.toUInt64).toInt64) &&& (2147483647 : Int64)) - ((((q2.toUInt64 >>> ((32 : Int32) &&& 0x3f).toInt64.toUInt64).toInt64) &&& (2147483647 : Int64)) / (c2.toInt64)) * (c2.toInt64)).toInt32).toInt < c2.toInt := own_modL hnr (own_maskL _)
  generalize hv_j1 : (((((q2.toUInt64 >>> ((32 : Int32) &&& 0x3f).toInt64.toUInt64).toInt64) &&& (2147483647 : Int64)) - ((((q2.toUInt64 >>> ((32 : Int32) &&& 0x3f).toInt64.toUInt64).toInt64) &&& (2147483647 : Int64)) / (c2.toInt64)) * (c2.toInt64)).toInt32) = j1
  rw [hv_j1] at h_j1
  refine Wp.st (S' := T1.setTop (mkF m 37 #[.val (.int x1), .val (.long q2), .second, .val (.int x3), .val (.int x4), .val (.int x5), .val (.int x6), .val (.int c2), .val (.int i1), .val (.int j1), .unset, .unset, .unset, .unset, .unset, .unset, .unset, .unset, .unset] [(.int x3)])) (fun tt_ kk_ => XS.iloadN X1.here hx rfl (hb hby at_36) rfl  kk_) ?_
  refine Wp.st (S' := T1.setTop (mkF m 39 #[.val (.int x1), .val (.long q2), .second, .val (.int x3), .val (.int x4), .val (.int x5), .val (.int x6), .val (.int c2), .val (.int i1), .val (.int j1), .unset, .unset, .unset, .unset, .unset, .unset, .unset, .unset, .unset] [(.int (2147483647 : Int32)), (.int x3)])) (fun tt_ kk_ => X1.ldcInt hx hown (mvT hZ (hw _ (List.mem_of_getElem? (i := 5) rfl))) (g := (mkF m 37 #[.val (.int x1), .val (.long q2), .second, .val (.int x3), .val (.int x4), .val (.int x5), .val (.int x6), .val (.int c2), .val (.int i1), .val (.int j1), .unset, .unset, .unset, .unset, .unset, .unset, .unset, .unset, .unset] [(.int x3)])) rfl (hb hby at_37) tt_ kk_) ?_
  refine Wp.st (S' := T1.setTop (mkF m 40 #[.val (.int x1), .val (.long q2), .second, .val (.int x3), .val (.int x4), .val (.int x5), .val (.int x6), .val (.int c2), .val (.int i1), .val (.int j1), .unset, .unset, .unset, .unset, .unset, .unset, .unset, .unset, .unset] [(.int (x3 &&& (2147483647 : Int32)))])) (fun tt_ kk_ => XS.iand X1.here hx rfl (hb hby at_39) rfl kk_) ?_
  refine Wp.st (S' := T1.setTop (mkF m 42 #[.val (.int x1), .val (.long q2), .second, .val (.int x3), .val (.int x4), .val (.int x5), .val (.int x6), .val (.int c2), .val (.int i1), .val (.int j1), .unset, .unset, .unset, .unset, .unset, .unset, .unset, .unset, .unset] [(.int c2), (.int (x3 &&& (2147483647 : Int32)))])) (fun tt_ kk_ => XS.iload X1.here hx rfl (hb hby at_40) rfl  kk_) ?_
  refine Wp.st (S' := T1.setTop (mkF m 43 #[.val (.int x1), .val (.long q2), .second, .val (.int x3), .val (.int x4), .val (.int x5), .val (.int x6), .val (.int c2), .val (.int i1), .val (.int j1), .unset, .unset, .unset, .unset, .unset, .unset, .unset, .unset, .unset] [(.int ((x3 &&& (2147483647 : Int32)) % c2))])) (fun tt_ kk_ => iremM X1 hx rfl (hb hby at_42) rfl hnz42 kk_) ?_
  refine Wp.st (S' := T1.setTop (mkF m 45 #[.val (.int x1), .val (.long q2), .second, .val (.int x3), .val (.int x4), .val (.int x5), .val (.int x6), .val (.int c2), .val (.int i1), .val (.int j1), .val (.int ((x3 &&& (2147483647 : Int32)) % c2)), .unset, .unset, .unset, .unset, .unset, .unset, .unset, .unset] [])) (fun tt_ kk_ => XS.istore X1.here hx rfl (hb hby at_43) rfl (l' := #[.val (.int x1), .val (.long q2), .second, .val (.int x3), .val (.int x4), .val (.int x5), .val (.int x6), .val (.int c2), .val (.int i1), .val (.int j1), .val (.int ((x3 &&& (2147483647 : Int32)) % c2)), .unset, .unset, .unset, .unset, .unset, .unset, .unset, .unset]) rfl kk_) ?_
  have h_k1 : 0 ≤ ((x3 &&& (2147483647 : Int32)) % c2).toInt ∧ ((x3 &&& (2147483647 : Int32)) % c2).toInt < c2.toInt := own_modI hnr
  generalize hv_k1 : ((x3 &&& (2147483647 : Int32)) % c2) = k1
  rw [hv_k1] at h_k1
  have hsh : (c2 = (1 : Int32)) ∨ (c2 = (2 : Int32) ∨ c2 = (3 : Int32) ∨ c2 = (63 : Int32) ∨ c2 = (64 : Int32)) ∨ (c2 = (65 : Int32) ∨ c2 = (128 : Int32)) ∨ (c2 = (129 : Int32)) := by rcases P1_0 with h | h | h | h | h | h | h | h <;> simp [h]
  clear P1_0
  rcases hsh with hn | hn | hn | hn
  · have _u := True.intro
    have hcap : c2.toNatClampNeg ≤ 129 := by rw [own_clamp]; omega
    have hneg : ¬ c2 < 0 := by rw [own_nlt]; have e0 : (0 : Int32).toInt = 0 := (by decide); omega
    have b_i : i1.toNatClampNeg < c2.toNatClampNeg := by rw [own_clamp, own_clamp]; omega
    have b_j : j1.toNatClampNeg < c2.toNatClampNeg := by rw [own_clamp, own_clamp]; omega
    have b_k : k1.toNatClampNeg < c2.toNatClampNeg := by rw [own_clamp, own_clamp]; omega
    have hsum1 := own_sum1 b_i b_j x4.toInt x5.toInt
    have hsum2 := own_sum2 b_i b_j b_k x4.toInt x5.toInt x6.toInt
    simp only [own_cl_eq h_i1.1 h_j1.1] at hsum1
    simp only [own_cl_eq h_i1.1 h_j1.1, own_cl_eq h_j1.1 h_k1.1, own_cl_eq h_i1.1 h_k1.1] at hsum2
    have r4 := rng32 x4; have r5 := rng32 x5; have r6 := rng32 x6
    refine Wp.st (S' := T1.setTop (mkF m 47 #[.val (.int x1), .val (.long q2), .second, .val (.int x3), .val (.int x4), .val (.int x5), .val (.int x6), .val (.int c2), .val (.int i1), .val (.int j1), .val (.int k1), .unset, .unset, .unset, .unset, .unset, .unset, .unset, .unset] [(.int c2)])) (fun tt_ kk_ => XS.iload X1.here hx rfl (hb hby at_45) rfl  kk_) ?_
    obtain ⟨T3, h3, k3, X3, e3, E3, A3, Ea3, st3⟩ := newPE X1 hx hZ (hw _ (List.mem_of_getElem? (i := 6) rfl)) e1 (g := (mkF m 47 #[.val (.int x1), .val (.long q2), .second, .val (.int x3), .val (.int x4), .val (.int x5), .val (.int x6), .val (.int c2), .val (.int i1), .val (.int j1), .val (.int k1), .unset, .unset, .unset, .unset, .unset, .unset, .unset, .unset] [(.int c2)])) rfl (hb hby at_47) rfl hneg (cap := 129) hcap (by decide) (by decide) (by decide) (ad := "[D") (by decide +kernel)
    obtain ⟨b3, g3⟩ : ∃ z, z = h0.size := ⟨_, rfl⟩
    rw [← g3] at A3 Ea3 st3
    have z4 := E3.1
    have V3 : Arv Z h3 b3 k3 .double c2 [] (.double (0 : UInt64)) := Arv.new A3 hneg
    have g5 : n0 ≤ b3 := Nat.le_trans (Nat.le_trans Z0 (Nat.le_refl _)) (Nat.le_of_eq g3.symm)
    refine Wp.st (S' := T3.setTop (mkF m 49 #[.val (.int x1), .val (.long q2), .second, .val (.int x3), .val (.int x4), .val (.int x5), .val (.int x6), .val (.int c2), .val (.int i1), .val (.int j1), .val (.int k1), .unset, .unset, .unset, .unset, .unset, .unset, .unset, .unset] [(.ref b3)])) st3 ?_
    have Vz6 : Arv Z h3 b3 k3 .double c2 (own_dl own_z) (.double (0 : UInt64)) := (V3).pad (own_zpad 0)
    refine Wp.st (S' := T3.setTop (mkF m 51 #[.val (.int x1), .val (.long q2), .second, .val (.int x3), .val (.int x4), .val (.int x5), .val (.int x6), .val (.int c2), .val (.int i1), .val (.int j1), .val (.int k1), .val (.ref b3), .unset, .unset, .unset, .unset, .unset, .unset, .unset] [])) (fun tt_ kk_ => XS.astore X3.here hx rfl (hb hby at_49) rfl rfl (l' := #[.val (.int x1), .val (.long q2), .second, .val (.int x3), .val (.int x4), .val (.int x5), .val (.int x6), .val (.int c2), .val (.int i1), .val (.int j1), .val (.int k1), .val (.ref b3), .unset, .unset, .unset, .unset, .unset, .unset, .unset]) rfl kk_) ?_
    refine Wp.st (S' := T3.setTop (mkF m 53 #[.val (.int x1), .val (.long q2), .second, .val (.int x3), .val (.int x4), .val (.int x5), .val (.int x6), .val (.int c2), .val (.int i1), .val (.int j1), .val (.int k1), .val (.ref b3), .unset, .unset, .unset, .unset, .unset, .unset, .unset] [(.ref b3)])) (fun tt_ kk_ => XS.aload X3.here hx rfl (hb hby at_51) rfl rfl kk_) ?_
    refine Wp.st (S' := T3.setTop (mkF m 55 #[.val (.int x1), .val (.long q2), .second, .val (.int x3), .val (.int x4), .val (.int x5), .val (.int x6), .val (.int c2), .val (.int i1), .val (.int j1), .val (.int k1), .val (.ref b3), .unset, .unset, .unset, .unset, .unset, .unset, .unset] [(.int i1), (.ref b3)])) (fun tt_ kk_ => XS.iload X3.here hx rfl (hb hby at_53) rfl  kk_) ?_
    refine Wp.st (S' := T3.setTop (mkF m 57 #[.val (.int x1), .val (.long q2), .second, .val (.int x3), .val (.int x4), .val (.int x5), .val (.int x6), .val (.int c2), .val (.int i1), .val (.int j1), .val (.int k1), .val (.ref b3), .unset, .unset, .unset, .unset, .unset, .unset, .unset] [(.int x4), (.int i1), (.ref b3)])) (fun tt_ kk_ => XS.iload X3.here hx rfl (hb hby at_55) rfl  kk_) ?_
    refine Wp.st (S' := T3.setTop (mkF m 58 #[.val (.int x1), .val (.long q2), .second, .val (.int x3), .val (.int x4), .val (.int x5), .val (.int x6), .val (.int c2), .val (.int i1), .val (.int j1), .val (.int k1), .val (.ref b3), .unset, .unset, .unset, .unset, .unset, .unset, .unset] [(.double (FP.l2d (Int64.ofInt x4.toInt))), (.int i1), (.ref b3)])) (fun tt_ kk_ => XS.i2dS X3.here hx rfl (hb hby at_57) rfl (own_i2d x4) kk_) ?_
    obtain ⟨cl7, Ar7, q7, S7, N7, H7, G7⟩ := id Vz6
    have hin7 := inb_of (j := i1) S7 (own_ibn h_i1)
    obtain ⟨T7, h7, X7, e7, W7, st7⟩ := stD X3 hx hZ e3 Ar7 (j := i1) hin7 (g := (mkF m 58 #[.val (.int x1), .val (.long q2), .second, .val (.int x3), .val (.int x4), .val (.int x5), .val (.int x6), .val (.int c2), .val (.int i1), .val (.int j1), .val (.int k1), .val (.ref b3), .unset, .unset, .unset, .unset, .unset, .unset, .unset] [(.double (FP.l2d (Int64.ofInt x4.toInt))), (.int i1), (.ref b3)])) rfl rfl (hb hby at_58)
    have z8 := Nat.le_of_eq W7.size.symm
    have V7 : Arv Z h7 b3 k3 .double c2 (own_dl (own_up own_z i1.toNatClampNeg x4.toInt)) (.double (0 : UInt64)) := own_aset Ar7 q7 S7 N7 H7 G7 W7 (by rw [own_clamp]; omega)
    have Nf7 := Fr.snoc X7 N1 g5
    refine Wp.st (S' := T7.setTop (mkF m 59 #[.val (.int x1), .val (.long q2), .second, .val (.int x3), .val (.int x4), .val (.int x5), .val (.int x6), .val (.int c2), .val (.int i1), .val (.int j1), .val (.int k1), .val (.ref b3), .unset, .unset, .unset, .unset, .unset, .unset, .unset] [])) st7 ?_
    refine Wp.st (S' := T7.setTop (mkF m 61 #[.val (.int x1), .val (.long q2), .second, .val (.int x3), .val (.int x4), .val (.int x5), .val (.int x6), .val (.int c2), .val (.int i1), .val (.int j1), .val (.int k1), .val (.ref b3), .unset, .unset, .unset, .unset, .unset, .unset, .unset] [(.ref b3)])) (fun tt_ kk_ => XS.aload X7.here hx rfl (hb hby at_59) rfl rfl kk_) ?_
    refine Wp.st (S' := T7.setTop (mkF m 63 #[.val (.int x1), .val (.long q2), .second, .val (.int x3), .val (.int x4), .val (.int x5), .val (.int x6), .val (.int c2), .val (.int i1), .val (.int j1), .val (.int k1), .val (.ref b3), .unset, .unset, .unset, .unset, .unset, .unset, .unset] [(.int j1), (.ref b3)])) (fun tt_ kk_ => XS.iload X7.here hx rfl (hb hby at_61) rfl  kk_) ?_
    refine Wp.st (S' := T7.setTop (mkF m 65 #[.val (.int x1), .val (.long q2), .second, .val (.int x3), .val (.int x4), .val (.int x5), .val (.int x6), .val (.int c2), .val (.int i1), .val (.int j1), .val (.int k1), .val (.ref b3), .unset, .unset, .unset, .unset, .unset, .unset, .unset] [(.int x5), (.int j1), (.ref b3)])) (fun tt_ kk_ => XS.iload X7.here hx rfl (hb hby at_63) rfl  kk_) ?_
    refine Wp.st (S' := T7.setTop (mkF m 66 #[.val (.int x1), .val (.long q2), .second, .val (.int x3), .val (.int x4), .val (.int x5), .val (.int x6), .val (.int c2), .val (.int i1), .val (.int j1), .val (.int k1), .val (.ref b3), .unset, .unset, .unset, .unset, .unset, .unset, .unset] [(.double (FP.l2d (Int64.ofInt x5.toInt))), (.int j1), (.ref b3)])) (fun tt_ kk_ => XS.i2dS X7.here hx rfl (hb hby at_65) rfl (own_i2d x5) kk_) ?_
    obtain ⟨cl9, Ar9, q9, S9, N9, H9, G9⟩ := id V7
    have hin9 := inb_of (j := j1) S9 (own_ibn h_j1)
    obtain ⟨T9, h9, X9, e9, W9, st9⟩ := stD X7 hx hZ e7 Ar9 (j := j1) hin9 (g := (mkF m 66 #[.val (.int x1), .val (.long q2), .second, .val (.int x3), .val (.int x4), .val (.int x5), .val (.int x6), .val (.int c2), .val (.int i1), .val (.int j1), .val (.int k1), .val (.ref b3), .unset, .unset, .unset, .unset, .unset, .unset, .unset] [(.double (FP.l2d (Int64.ofInt x5.toInt))), (.int j1), (.ref b3)])) rfl rfl (hb hby at_66)
    have z10 := Nat.le_of_eq W9.size.symm
    have V9 : Arv Z h9 b3 k3 .double c2 (own_dl (own_up (own_up own_z i1.toNatClampNeg x4.toInt) j1.toNatClampNeg x5.toInt)) (.double (0 : UInt64)) := own_aset Ar9 q9 S9 N9 H9 G9 W9 (by rw [own_clamp]; omega)
    have Nf9 := Fr.snoc X9 Nf7 g5
    refine Wp.st (S' := T9.setTop (mkF m 67 #[.val (.int x1), .val (.long q2), .second, .val (.int x3), .val (.int x4), .val (.int x5), .val (.int x6), .val (.int c2), .val (.int i1), .val (.int j1), .val (.int k1), .val (.ref b3), .unset, .unset, .unset, .unset, .unset, .unset, .unset] [])) st9 ?_
    obtain ⟨T11, h11, X11, e11, E11, A11, D11, U11, st11⟩ := newO X9 hx hZ hown (hw _ (List.mem_of_getElem? (i := 7) rfl)) (hw _ (List.mem_of_getElem? (i := 8) rfl)) (hw _ (List.mem_of_getElem? (i := 9) rfl)) e9 (g := (mkF m 67 #[.val (.int x1), .val (.long q2), .second, .val (.int x3), .val (.int x4), .val (.int x5), .val (.int x6), .val (.int c2), .val (.int i1), .val (.int j1), .val (.int k1), .val (.ref b3), .unset, .unset, .unset, .unset, .unset, .unset, .unset] [])) rfl (hb hby at_67) (by decide) (by decide)
    obtain ⟨b11, g11⟩ : ∃ z, z = h9.size := ⟨_, rfl⟩
    rw [← g11] at A11 D11 U11 st11
    have z12 := E11.1
    have g13 : n0 ≤ b11 := Nat.le_trans (Nat.le_trans Z0 (Nat.le_trans (Nat.le_trans z4 z8) z10)) (Nat.le_of_eq g11.symm)
    have F14 : Fld Z h11 b11 "com/example/dags_over_clouds/dagsoverclouds/plan/Tally" "levels" "[[D" .null := D11 (Or.inr (hw _ (List.mem_of_getElem? (i := 23) rfl))) (ty := (.array (.array .double))) (by decide)
    refine Wp.st (S' := T11.setTop (mkF m 70 #[.val (.int x1), .val (.long q2), .second, .val (.int x3), .val (.int x4), .val (.int x5), .val (.int x6), .val (.int c2), .val (.int i1), .val (.int j1), .val (.int k1), .val (.ref b3), .unset, .unset, .unset, .unset, .unset, .unset, .unset] [(.ref b11)])) st11 ?_
    refine Wp.st (S' := T11.setTop (mkF m 71 #[.val (.int x1), .val (.long q2), .second, .val (.int x3), .val (.int x4), .val (.int x5), .val (.int x6), .val (.int c2), .val (.int i1), .val (.int j1), .val (.int k1), .val (.ref b3), .unset, .unset, .unset, .unset, .unset, .unset, .unset] [(.ref b11), (.ref b11)])) (fun tt_ kk_ => XS.dup X11.here hx rfl (hb hby at_70) rfl rfl kk_) ?_
    refine Wp.st (S' := T11.setTop (mkF m 73 #[.val (.int x1), .val (.long q2), .second, .val (.int x3), .val (.int x4), .val (.int x5), .val (.int x6), .val (.int c2), .val (.int i1), .val (.int j1), .val (.int k1), .val (.ref b3), .unset, .unset, .unset, .unset, .unset, .unset, .unset] [(.ref b3), (.ref b11), (.ref b11)])) (fun tt_ kk_ => XS.aload X11.here hx rfl (hb hby at_71) rfl rfl kk_) ?_
    have F16 := V9.ext E11
    have F17 := Ea3.wr W7
    have F18 := F17.wr W9
    have F19 := F18.ext E11
    obtain ⟨vv15, _, ⟨T15, L15, k15, n15⟩, -, X15, ⟨Lc15, hQ15, l15, y15, z15⟩, st15⟩ := X11.specialBack hx (y := (⟨"com/example/dags_over_clouds/dagsoverclouds/plan/Tally", "<init>", "([D)V"⟩ : MethodName)) rfl hown (mvT hZ (hw _ (List.mem_of_getElem? (i := 10) rfl))) (mvT hZ (hw _ (List.mem_of_getElem? (i := 11) rfl))) (mvT hZ (hw _ (List.mem_of_getElem? (i := 12) rfl))) (by decide) (backOf (W := 1) (rmInitA1 l Z a0 hw [] b11 b3 k3 c2 (own_up (own_up own_z i1.toNatClampNeg x4.toInt) j1.toNatClampNeg x5.toInt) h11 n0 (Nat.le_trans Z0 (Nat.le_trans (Nat.le_trans (Nat.le_trans z4 z8) z10) z12)) g13 A11 F14 F16 F19 ((own_b0_up (own_b0_up own_b0_z _ _) _ _) : own_b0 (own_up (own_up own_z i1.toNatClampNeg x4.toInt) j1.toNatClampNeg x5.toInt)) ((by assumption) : c2 = (1 : Int32)) ((Ne.symm (Nat.ne_of_lt (Nat.lt_of_lt_of_le V3.lt (Nat.le_trans (Nat.le_trans z8 z10) (Nat.le_of_eq g11.symm))))) : b11 ≠ b3)) hZ (hw _ (List.mem_of_getElem? (i := 12) rfl)) (hw _ (List.mem_of_getElem? (i := 9) rfl)) (by decide) (by decide)) (g := (mkF m 73 #[.val (.int x1), .val (.long q2), .second, .val (.int x3), .val (.int x4), .val (.int x5), .val (.int x6), .val (.int c2), .val (.int i1), .val (.int j1), .val (.int k1), .val (.ref b3), .unset, .unset, .unset, .unset, .unset, .unset, .unset] [(.ref b3), (.ref b11), (.ref b11)])) rfl (by rw [hml]; rfl) (Steps.refl _) (a := b11) (argsL := [(.ref b3)]) (rest := [(.ref b11)]) (lenOf pd_3 rfl) rfl (by show 2 * 0 + _ ≤ _; exact Nat.le_of_eq rfl) (hb hby at_73) (fun _ _ => ⟨rfl, e11, (by decide : 2 + 3 ≤ _), (by decide : 130 + 132 ≤ _)⟩)
    dsimp only [Pt.U, Pt.locs, Pt.cells, Pt.slots] at X15 l15 y15 z15 st15 hQ15
    subst l15 y15 z15
    obtain ⟨b20, b21, b22, c23, c24, c25, rfl, Nq15, K15, P15_0, P15_1, P15_2, P15_3, P15_4, P15_5, P15_6, P15_7, P15_8, P15_9, P15_10⟩ := hQ15
    have N15 := Fr.app Nf9 Nq15
    have z26 := K15.1
    have g27 : n0 ≤ b20 := Nat.le_trans (Nat.le_trans Z0 (Nat.le_trans (Nat.le_trans (Nat.le_trans z4 z8) z10) z12)) P15_0
    have g28 : n0 ≤ b21 := Nat.le_trans (Nat.le_trans Z0 (Nat.le_trans (Nat.le_trans (Nat.le_trans z4 z8) z10) z12)) P15_1
    have g29 : n0 ≤ b22 := Nat.le_trans (Nat.le_trans Z0 (Nat.le_trans (Nat.le_trans (Nat.le_trans z4 z8) z10) z12)) P15_2
    have e15 : T15.heap = T15.heap := rfl
    refine Wp.tr (S' := T15.setTop (mkF m 76 #[.val (.int x1), .val (.long q2), .second, .val (.int x3), .val (.int x4), .val (.int x5), .val (.int x6), .val (.int c2), .val (.int i1), .val (.int j1), .val (.int k1), .val (.ref b3), .unset, .unset, .unset, .unset, .unset, .unset, .unset] [(.ref b11)])) st15 ?_
    refine Wp.st (S' := T15.setTop (mkF m 78 #[.val (.int x1), .val (.long q2), .second, .val (.int x3), .val (.int x4), .val (.int x5), .val (.int x6), .val (.int c2), .val (.int i1), .val (.int j1), .val (.int k1), .val (.ref b3), .val (.ref b11), .unset, .unset, .unset, .unset, .unset, .unset] [])) (fun tt_ kk_ => XS.astore X15.here hx rfl (hb hby at_76) rfl rfl (l' := #[.val (.int x1), .val (.long q2), .second, .val (.int x3), .val (.int x4), .val (.int x5), .val (.int x6), .val (.int c2), .val (.int i1), .val (.int j1), .val (.int k1), .val (.ref b3), .val (.ref b11), .unset, .unset, .unset, .unset, .unset, .unset]) rfl kk_) ?_
    refine Wp.st (S' := T15.setTop (mkF m 80 #[.val (.int x1), .val (.long q2), .second, .val (.int x3), .val (.int x4), .val (.int x5), .val (.int x6), .val (.int c2), .val (.int i1), .val (.int j1), .val (.int k1), .val (.ref b3), .val (.ref b11), .unset, .unset, .unset, .unset, .unset, .unset] [(.ref b3)])) (fun tt_ kk_ => XS.aload X15.here hx rfl (hb hby at_78) rfl rfl kk_) ?_
    refine Wp.st (S' := T15.setTop (mkF m 82 #[.val (.int x1), .val (.long q2), .second, .val (.int x3), .val (.int x4), .val (.int x5), .val (.int x6), .val (.int c2), .val (.int i1), .val (.int j1), .val (.int k1), .val (.ref b3), .val (.ref b11), .unset, .unset, .unset, .unset, .unset, .unset] [(.int i1), (.ref b3)])) (fun tt_ kk_ => XS.iload X15.here hx rfl (hb hby at_80) rfl  kk_) ?_
    refine Wp.st (S' := T15.setTop (mkF m 84 #[.val (.int x1), .val (.long q2), .second, .val (.int x3), .val (.int x4), .val (.int x5), .val (.int x6), .val (.int c2), .val (.int i1), .val (.int j1), .val (.int k1), .val (.ref b3), .val (.ref b11), .unset, .unset, .unset, .unset, .unset, .unset] [(.int x6), (.int i1), (.ref b3)])) (fun tt_ kk_ => XS.iload X15.here hx rfl (hb hby at_82) rfl  kk_) ?_
    refine Wp.st (S' := T15.setTop (mkF m 85 #[.val (.int x1), .val (.long q2), .second, .val (.int x3), .val (.int x4), .val (.int x5), .val (.int x6), .val (.int c2), .val (.int i1), .val (.int j1), .val (.int k1), .val (.ref b3), .val (.ref b11), .unset, .unset, .unset, .unset, .unset, .unset] [(.double (FP.l2d (Int64.ofInt x6.toInt))), (.int i1), (.ref b3)])) (fun tt_ kk_ => XS.i2dS X15.here hx rfl (hb hby at_84) rfl (own_i2d x6) kk_) ?_
    have F30 := F16.keep K15 (ninS (Nat.ne_of_lt (Nat.lt_of_lt_of_le V3.lt (Nat.le_trans (Nat.le_trans z8 z10) (Nat.le_of_eq g11.symm)))) nin0)
    obtain ⟨cl31, Ar31, q31, S31, N31, H31, G31⟩ := id F30
    have hin31 := inb_of (j := i1) S31 (own_ibn h_i1)
    obtain ⟨T31, h31, X31, e31, W31, st31⟩ := stD X15 hx hZ e15 Ar31 (j := i1) hin31 (g := (mkF m 85 #[.val (.int x1), .val (.long q2), .second, .val (.int x3), .val (.int x4), .val (.int x5), .val (.int x6), .val (.int c2), .val (.int i1), .val (.int j1), .val (.int k1), .val (.ref b3), .val (.ref b11), .unset, .unset, .unset, .unset, .unset, .unset] [(.double (FP.l2d (Int64.ofInt x6.toInt))), (.int i1), (.ref b3)])) rfl rfl (hb hby at_85)
    have z32 := Nat.le_of_eq W31.size.symm
    have V31 : Arv Z h31 b3 k3 .double c2 (own_dl (own_up (own_up (own_up own_z i1.toNatClampNeg x4.toInt) j1.toNatClampNeg x5.toInt) i1.toNatClampNeg x6.toInt)) (.double (0 : UInt64)) := own_aset Ar31 q31 S31 N31 H31 G31 W31 (by rw [own_clamp]; omega)
    have Nf31 := Fr.snoc X31 N15 g5
    refine Wp.st (S' := T31.setTop (mkF m 86 #[.val (.int x1), .val (.long q2), .second, .val (.int x3), .val (.int x4), .val (.int x5), .val (.int x6), .val (.int c2), .val (.int i1), .val (.int j1), .val (.int k1), .val (.ref b3), .val (.ref b11), .unset, .unset, .unset, .unset, .unset, .unset] [])) st31 ?_
    refine Wp.st (S' := T31.setTop (mkF m 88 #[.val (.int x1), .val (.long q2), .second, .val (.int x3), .val (.int x4), .val (.int x5), .val (.int x6), .val (.int c2), .val (.int i1), .val (.int j1), .val (.int k1), .val (.ref b3), .val (.ref b11), .unset, .unset, .unset, .unset, .unset, .unset] [(.int x5)])) (fun tt_ kk_ => XS.iload X31.here hx rfl (hb hby at_86) rfl  kk_) ?_
    have J33 : ∀ (TJ33 : State) (loJ33 : List Loc) (wa : Int64) (NJ33 : Fr n0 loJ33) (XJ33 : Stand p l e room_1 s m #[(.int x1), (.long q2), (.int x3), (.int x4), (.int x5), (.int x6)] below meth c TJ33 loJ33 5 262) (eJ33 : TJ33.heap = h31) (hwa : wa.toInt = x5.toInt + (if i1 = j1 then 0 else x4.toInt)), Wp p e below (fun o U' => ∃ v L, o = .returned v ∧ Q_rm0 Z x1 q2 x3 x4 x5 x6 h0 n0 v U'.heap L ∧ FrameEnd s o U' L room_1.cells room_1.slots) (TJ33.setTop (mkF m 104 #[.val (.int x1), .val (.long q2), .second, .val (.int x3), .val (.int x4), .val (.int x5), .val (.int x6), .val (.int c2), .val (.int i1), .val (.int j1), .val (.int k1), .val (.ref b3), .val (.ref b11), .unset, .unset, .unset, .unset, .unset, .unset] [(.long wa)])) := by
      intro TJ33 loJ33 wa NJ33 XJ33 eJ33 hwa
      have htop : (own_up own_z (0 : Int32).toNatClampNeg (own_R (own_up (own_up own_z i1.toNatClampNeg x4.toInt) j1.toNatClampNeg x5.toInt) c2.toNatClampNeg (0 : Int32).toNatClampNeg)) (0 : Int32).toNatClampNeg = own_S (own_up (own_up own_z i1.toNatClampNeg x4.toInt) j1.toNatClampNeg x5.toInt) 0 c2.toNatClampNeg := own_topA (own_up (own_up own_z i1.toNatClampNeg x4.toInt) j1.toNatClampNeg x5.toInt) (by rcases hn with rfl <;> decide)
      rw [hsum1] at htop
      have hb1 : -9007199254740992 < (own_up own_z (0 : Int32).toNatClampNeg (own_R (own_up (own_up own_z i1.toNatClampNeg x4.toInt) j1.toNatClampNeg x5.toInt) c2.toNatClampNeg (0 : Int32).toNatClampNeg)) (0 : Int32).toNatClampNeg ∧ (own_up own_z (0 : Int32).toNatClampNeg (own_R (own_up (own_up own_z i1.toNatClampNeg x4.toInt) j1.toNatClampNeg x5.toInt) c2.toNatClampNeg (0 : Int32).toNatClampNeg)) (0 : Int32).toNatClampNeg < 9007199254740992 := by rw [htop]; split <;> omega
      refine Wp.st (S' := TJ33.setTop (mkF m 106 #[.val (.int x1), .val (.long q2), .second, .val (.int x3), .val (.int x4), .val (.int x5), .val (.int x6), .val (.int c2), .val (.int i1), .val (.int j1), .val (.int k1), .val (.ref b3), .val (.ref b11), .val (.long wa), .second, .unset, .unset, .unset, .unset] [])) (fun tt_ kk_ => XS.lstore XJ33.here hx rfl (hb hby at_104) rfl (l' := #[.val (.int x1), .val (.long q2), .second, .val (.int x3), .val (.int x4), .val (.int x5), .val (.int x6), .val (.int c2), .val (.int i1), .val (.int j1), .val (.int k1), .val (.ref b3), .val (.ref b11), .val (.long wa), .second, .unset, .unset, .unset, .unset]) rfl kk_) ?_
      refine Wp.st (S' := TJ33.setTop (mkF m 108 #[.val (.int x1), .val (.long q2), .second, .val (.int x3), .val (.int x4), .val (.int x5), .val (.int x6), .val (.int c2), .val (.int i1), .val (.int j1), .val (.int k1), .val (.ref b3), .val (.ref b11), .val (.long wa), .second, .unset, .unset, .unset, .unset] [(.ref b11)])) (fun tt_ kk_ => XS.aload XJ33.here hx rfl (hb hby at_106) rfl rfl kk_) ?_
      have F35 := P15_4.other W31 (Or.inl (Ne.symm (Nat.ne_of_lt (Nat.lt_of_lt_of_le V3.lt (Nat.le_trans (Nat.le_trans z8 z10) (Nat.le_of_eq g11.symm))))))
      have F36 := P15_5.other W31 (Ne.symm (Nat.ne_of_lt (Nat.lt_of_lt_of_le V3.lt (Nat.le_trans (Nat.le_trans (Nat.le_trans z8 z10) z12) P15_0))))
      have F37 := P15_7.other W31 (Ne.symm (Nat.ne_of_lt (Nat.lt_of_lt_of_le V3.lt (Nat.le_trans (Nat.le_trans (Nat.le_trans z8 z10) z12) P15_2))))
      have F38 := P15_3.wr W31
      obtain ⟨cq34, kq34, q34a, q34b, q34c⟩ := isOf hZ eJ33 F38
      obtain ⟨vv34, _, ⟨T34, L34, k34, n34⟩, -, X34, ⟨Lc34, hQ34, l34, y34, z34⟩, st34⟩ := XJ33.virtualBack hx (y := (⟨"com/example/dags_over_clouds/dagsoverclouds/plan/Tally", "sum", "()D"⟩ : MethodName)) (z := (⟨"com/example/dags_over_clouds/dagsoverclouds/plan/Tally", "sum", "()D"⟩ : MethodName)) hown (mvT hZ (hw _ (List.mem_of_getElem? (i := 42) rfl))) (mvT hZ (hw _ (List.mem_of_getElem? (i := 43) rfl))) (notFace_of_selects (args := #[]) (mvT hZ (hw _ (List.mem_of_getElem? (i := 45) rfl)))) (mvT hZ (hw _ (List.mem_of_getElem? (i := 45) rfl))) (mvT hZ (hw _ (List.mem_of_getElem? (i := 44) rfl))) (by decide) (backOf (W := 0) (rmSum2 l Z a0 hw [] b11 b20 (.ref b21) b22 c23 c25 (own_up own_z (0 : Int32).toNatClampNeg (own_R (own_up (own_up own_z i1.toNatClampNeg x4.toInt) j1.toNatClampNeg x5.toInt) c2.toNatClampNeg (0 : Int32).toNatClampNeg)) h31 n0 (Nat.le_trans Z0 (Nat.le_trans (Nat.le_trans (Nat.le_trans (Nat.le_trans (Nat.le_trans z4 z8) z10) z12) z26) z32)) F35 F36 F37) hZ (hw _ (List.mem_of_getElem? (i := 46) rfl)) (hw _ (List.mem_of_getElem? (i := 9) rfl)) (by decide) (by decide)) q34a q34c (g := (mkF m 108 #[.val (.int x1), .val (.long q2), .second, .val (.int x3), .val (.int x4), .val (.int x5), .val (.int x6), .val (.int c2), .val (.int i1), .val (.int j1), .val (.int k1), .val (.ref b3), .val (.ref b11), .val (.long wa), .second, .unset, .unset, .unset, .unset] [(.ref b11)])) rfl (by rw [hml]; rfl) (Steps.refl _) (argsL := []) (rest := []) (lenOf pd_4 rfl) rfl (by show 2 * 0 + _ ≤ _; exact Nat.le_of_eq rfl) (hb hby at_108) (fun _ _ => ⟨rfl, eJ33, (by decide : 5 + 0 ≤ _), (by decide : 262 + 0 ≤ _)⟩)
      dsimp only [Pt.U, Pt.locs, Pt.cells, Pt.slots] at X34 l34 y34 z34 st34 hQ34
      subst l34 y34 z34
      obtain ⟨rfl, Nq34, e34⟩ := hQ34
      have N34 := Fr.app NJ33 Nq34
      refine Wp.tr (S' := T34.setTop (mkF m 111 #[.val (.int x1), .val (.long q2), .second, .val (.int x3), .val (.int x4), .val (.int x5), .val (.int x6), .val (.int c2), .val (.int i1), .val (.int j1), .val (.int k1), .val (.ref b3), .val (.ref b11), .val (.long wa), .second, .unset, .unset, .unset, .unset] [(.double (FP.l2d (Int64.ofInt ((own_up own_z (0 : Int32).toNatClampNeg (own_R (own_up (own_up own_z i1.toNatClampNeg x4.toInt) j1.toNatClampNeg x5.toInt) c2.toNatClampNeg (0 : Int32).toNatClampNeg)) (0 : Int32).toNatClampNeg))))])) st34 ?_
      refine Wp.st (S' := T34.setTop (mkF m 113 #[.val (.int x1), .val (.long q2), .second, .val (.int x3), .val (.int x4), .val (.int x5), .val (.int x6), .val (.int c2), .val (.int i1), .val (.int j1), .val (.int k1), .val (.ref b3), .val (.ref b11), .val (.long wa), .second, .unset, .unset, .unset, .unset] [(.long wa), (.double (FP.l2d (Int64.ofInt ((own_up own_z (0 : Int32).toNatClampNeg (own_R (own_up (own_up own_z i1.toNatClampNeg x4.toInt) j1.toNatClampNeg x5.toInt) c2.toNatClampNeg (0 : Int32).toNatClampNeg)) (0 : Int32).toNatClampNeg))))])) (fun tt_ kk_ => XS.lload X34.here hx rfl (hb hby at_111) rfl  kk_) ?_
      refine Wp.st (S' := T34.setTop (mkF m 114 #[.val (.int x1), .val (.long q2), .second, .val (.int x3), .val (.int x4), .val (.int x5), .val (.int x6), .val (.int c2), .val (.int i1), .val (.int j1), .val (.int k1), .val (.ref b3), .val (.ref b11), .val (.long wa), .second, .unset, .unset, .unset, .unset] [(.double (FP.l2d wa)), (.double (FP.l2d (Int64.ofInt ((own_up own_z (0 : Int32).toNatClampNeg (own_R (own_up (own_up own_z i1.toNatClampNeg x4.toInt) j1.toNatClampNeg x5.toInt) c2.toNatClampNeg (0 : Int32).toNatClampNeg)) (0 : Int32).toNatClampNeg))))])) (fun tt_ kk_ => XS.l2dS X34.here hx rfl (hb hby at_113) rfl rfl kk_) ?_
      refine Wp.st (S' := T34.setTop (mkF m 115 #[.val (.int x1), .val (.long q2), .second, .val (.int x3), .val (.int x4), .val (.int x5), .val (.int x6), .val (.int c2), .val (.int i1), .val (.int j1), .val (.int k1), .val (.ref b3), .val (.ref b11), .val (.long wa), .second, .unset, .unset, .unset, .unset] [(.int (0 : Int32))])) (fun tt_ kk_ => XS.dcmpS X34.here hx rfl (hb hby at_114) rfl (own_cmp (hwa.trans htop.symm) hb1) kk_) ?_
      refine Wp.st (S' := T34.setTop (mkF m 118 #[.val (.int x1), .val (.long q2), .second, .val (.int x3), .val (.int x4), .val (.int x5), .val (.int x6), .val (.int c2), .val (.int i1), .val (.int j1), .val (.int k1), .val (.ref b3), .val (.ref b11), .val (.long wa), .second, .unset, .unset, .unset, .unset] [])) (fun tt_ kk_ => XS.ifNo X34.here hx rfl (hb hby at_115) rfl ((if0 _ _).trans (teq ((by decide) : (0 : Int32) = (0 : Int32))).2) kk_) ?_
      refine Wp.st (S' := T34.setTop (mkF m 119 #[.val (.int x1), .val (.long q2), .second, .val (.int x3), .val (.int x4), .val (.int x5), .val (.int x6), .val (.int c2), .val (.int i1), .val (.int j1), .val (.int k1), .val (.ref b3), .val (.ref b11), .val (.long wa), .second, .unset, .unset, .unset, .unset] [(.int (1 : Int32))])) (fun tt_ kk_ => XS.iconst X34.here hx rfl (hb hby at_118) kk_) ?_
      refine Wp.st (S' := T34.setTop (mkF m 123 #[.val (.int x1), .val (.long q2), .second, .val (.int x3), .val (.int x4), .val (.int x5), .val (.int x6), .val (.int c2), .val (.int i1), .val (.int j1), .val (.int k1), .val (.ref b3), .val (.ref b11), .val (.long wa), .second, .unset, .unset, .unset, .unset] [(.int (1 : Int32))])) (fun tt_ kk_ => XS.goto X34.here hx rfl (pc0 := 119) (pc' := 123) rfl (hb hby at_119) (by decide) (by decide) kk_) ?_
      refine Wp.st (S' := T34.setTop (mkF m 125 #[.val (.int x1), .val (.long q2), .second, .val (.int x3), .val (.int x4), .val (.int x5), .val (.int x6), .val (.int c2), .val (.int i1), .val (.int j1), .val (.int k1), .val (.ref b3), .val (.ref b11), .val (.long wa), .second, .val (.int (1 : Int32)), .unset, .unset, .unset] [])) (fun tt_ kk_ => XS.istore X34.here hx rfl (hb hby at_123) rfl (l' := #[.val (.int x1), .val (.long q2), .second, .val (.int x3), .val (.int x4), .val (.int x5), .val (.int x6), .val (.int c2), .val (.int i1), .val (.int j1), .val (.int k1), .val (.ref b3), .val (.ref b11), .val (.long wa), .second, .val (.int (1 : Int32)), .unset, .unset, .unset]) rfl kk_) ?_
      refine Wp.st (S' := T34.setTop (mkF m 127 #[.val (.int x1), .val (.long q2), .second, .val (.int x3), .val (.int x4), .val (.int x5), .val (.int x6), .val (.int c2), .val (.int i1), .val (.int j1), .val (.int k1), .val (.ref b3), .val (.ref b11), .val (.long wa), .second, .val (.int (1 : Int32)), .unset, .unset, .unset] [(.ref b11)])) (fun tt_ kk_ => XS.aload X34.here hx rfl (hb hby at_125) rfl rfl kk_) ?_
      refine Wp.st (S' := T34.setTop (mkF m 129 #[.val (.int x1), .val (.long q2), .second, .val (.int x3), .val (.int x4), .val (.int x5), .val (.int x6), .val (.int c2), .val (.int i1), .val (.int j1), .val (.int k1), .val (.ref b3), .val (.ref b11), .val (.long wa), .second, .val (.int (1 : Int32)), .unset, .unset, .unset] [(.int k1), (.ref b11)])) (fun tt_ kk_ => XS.iload X34.here hx rfl (hb hby at_127) rfl  kk_) ?_
      refine Wp.st (S' := T34.setTop (mkF m 131 #[.val (.int x1), .val (.long q2), .second, .val (.int x3), .val (.int x4), .val (.int x5), .val (.int x6), .val (.int c2), .val (.int i1), .val (.int j1), .val (.int k1), .val (.ref b3), .val (.ref b11), .val (.long wa), .second, .val (.int (1 : Int32)), .unset, .unset, .unset] [(.int x6), (.int k1), (.ref b11)])) (fun tt_ kk_ => XS.iload X34.here hx rfl (hb hby at_129) rfl  kk_) ?_
      refine Wp.st (S' := T34.setTop (mkF m 132 #[.val (.int x1), .val (.long q2), .second, .val (.int x3), .val (.int x4), .val (.int x5), .val (.int x6), .val (.int c2), .val (.int i1), .val (.int j1), .val (.int k1), .val (.ref b3), .val (.ref b11), .val (.long wa), .second, .val (.int (1 : Int32)), .unset, .unset, .unset] [(.double (FP.l2d (Int64.ofInt x6.toInt))), (.int k1), (.ref b11)])) (fun tt_ kk_ => XS.i2dS X34.here hx rfl (hb hby at_131) rfl (own_i2d x6) kk_) ?_
      have hk_ : 0 ≤ k1.toInt ∧ k1.toInt < c2.toInt ∧ c2.toInt ≤ 129 := by omega
      have hq64 := own_q64 h_k1.1
      have hr1_ : own_hr (k1 / (64 : Int32)) c2 (1 : Int32) := by
        have hnv : c2.toInt ≤ 64 := by rcases hn with rfl <;> decide
        have e1 : (1 : Int32).toInt = 1 := by decide
        unfold own_hr; rw [hq64, e1]; omega
      have F40 := P15_6.other W31 (Ne.symm (Nat.ne_of_lt (Nat.lt_of_lt_of_le V3.lt (Nat.le_trans (Nat.le_trans (Nat.le_trans z8 z10) z12) P15_1))))
      obtain ⟨cq39, kq39, q39a, q39b, q39c⟩ := isOf hZ e34 F38
      obtain ⟨vv39, _, ⟨T39, L39, k39, n39⟩, -, X39, ⟨Lc39, hQ39, l39, y39, z39⟩, st39⟩ := X34.virtualBack hx (y := (⟨"com/example/dags_over_clouds/dagsoverclouds/plan/Tally", "set", "(ID)V"⟩ : MethodName)) (z := (⟨"com/example/dags_over_clouds/dagsoverclouds/plan/Tally", "set", "(ID)V"⟩ : MethodName)) hown (mvT hZ (hw _ (List.mem_of_getElem? (i := 47) rfl))) (mvT hZ (hw _ (List.mem_of_getElem? (i := 48) rfl))) (notFace_of_selects (args := #[]) (mvT hZ (hw _ (List.mem_of_getElem? (i := 50) rfl)))) (mvT hZ (hw _ (List.mem_of_getElem? (i := 50) rfl))) (mvT hZ (hw _ (List.mem_of_getElem? (i := 49) rfl))) (by decide) (backOf (W := 0) (rmSet2 l Z a0 hw [] b11 k1 (FP.l2d (Int64.ofInt x6.toInt)) x6.toInt b20 b21 b22 c23 c24 c25 c2 (own_up (own_up own_z i1.toNatClampNeg x4.toInt) j1.toNatClampNeg x5.toInt) (own_up own_z (0 : Int32).toNatClampNeg (own_R (own_up (own_up own_z i1.toNatClampNeg x4.toInt) j1.toNatClampNeg x5.toInt) c2.toNatClampNeg (0 : Int32).toNatClampNeg)) h31 n0 (Nat.le_trans Z0 (Nat.le_trans (Nat.le_trans (Nat.le_trans (Nat.le_trans (Nat.le_trans z4 z8) z10) z12) z26) z32)) g28 g29 F38 F35 F36 F40 F37 (rfl : (FP.l2d (Int64.ofInt x6.toInt)) = (FP.l2d (Int64.ofInt x6.toInt))) ((by assumption) : 0 ≤ k1.toInt ∧ k1.toInt < c2.toInt ∧ c2.toInt ≤ 129) ((by assumption) : own_hr (k1 / (64 : Int32)) c2 (1 : Int32)) ((own_b0_up (own_b0_up (own_b0_up own_b0_z _ _) _ _) _ _) : own_b0 (own_up (own_up (own_up own_z i1.toNatClampNeg x4.toInt) j1.toNatClampNeg x5.toInt) k1.toNatClampNeg x6.toInt)) ((Nat.ne_of_lt (Nat.lt_of_lt_of_le A11.lt (Nat.le_trans (Nat.le_refl _) P15_0))) : b11 ≠ b20) ((Nat.ne_of_lt (Nat.lt_of_lt_of_le A11.lt (Nat.le_trans (Nat.le_refl _) P15_1))) : b11 ≠ b21) ((Nat.ne_of_lt (Nat.lt_of_lt_of_le A11.lt (Nat.le_trans (Nat.le_refl _) P15_2))) : b11 ≠ b22) (P15_8 : b20 ≠ b21) (P15_9 : b20 ≠ b22) (P15_10 : b21 ≠ b22)) hZ (hw _ (List.mem_of_getElem? (i := 51) rfl)) (hw _ (List.mem_of_getElem? (i := 9) rfl)) (by decide) (by decide)) q39a q39c (g := (mkF m 132 #[.val (.int x1), .val (.long q2), .second, .val (.int x3), .val (.int x4), .val (.int x5), .val (.int x6), .val (.int c2), .val (.int i1), .val (.int j1), .val (.int k1), .val (.ref b3), .val (.ref b11), .val (.long wa), .second, .val (.int (1 : Int32)), .unset, .unset, .unset] [(.double (FP.l2d (Int64.ofInt x6.toInt))), (.int k1), (.ref b11)])) rfl (by rw [hml]; rfl) (Steps.refl _) (argsL := [(.int k1), (.double (FP.l2d (Int64.ofInt x6.toInt)))]) (rest := []) (lenOf pd_5 rfl) rfl (by show 2 * 0 + _ ≤ _; exact Nat.le_of_eq rfl) (hb hby at_132) (fun _ _ => ⟨rfl, e34, (by decide : 5 + 0 ≤ _), (by decide : 262 + 0 ≤ _)⟩)
      dsimp only [Pt.U, Pt.locs, Pt.cells, Pt.slots] at X39 l39 y39 z39 st39 hQ39
      subst l39 y39 z39
      obtain ⟨rfl, Nq39, K39, P39_0, P39_1⟩ := hQ39
      have N39 := Fr.app N34 Nq39
      have z41 := K39.1
      have e39 : T39.heap = T39.heap := rfl
      refine Wp.tr (S' := T39.setTop (mkF m 135 #[.val (.int x1), .val (.long q2), .second, .val (.int x3), .val (.int x4), .val (.int x5), .val (.int x6), .val (.int c2), .val (.int i1), .val (.int j1), .val (.int k1), .val (.ref b3), .val (.ref b11), .val (.long wa), .second, .val (.int (1 : Int32)), .unset, .unset, .unset] [])) st39 ?_
      refine Wp.st (S' := T39.setTop (mkF m 137 #[.val (.int x1), .val (.long q2), .second, .val (.int x3), .val (.int x4), .val (.int x5), .val (.int x6), .val (.int c2), .val (.int i1), .val (.int j1), .val (.int k1), .val (.ref b3), .val (.ref b11), .val (.long wa), .second, .val (.int (1 : Int32)), .unset, .unset, .unset] [(.int x6)])) (fun tt_ kk_ => XS.iload X39.here hx rfl (hb hby at_135) rfl  kk_) ?_
      have J42 : ∀ (TJ42 : State) (loJ42 : List Loc) (wb : Int64) (NJ42 : Fr n0 loJ42) (XJ42 : Stand p l e room_1 s m #[(.int x1), (.long q2), (.int x3), (.int x4), (.int x5), (.int x6)] below meth c TJ42 loJ42 5 262) (eJ42 : TJ42.heap = T39.heap) (hwb : wb.toInt = x6.toInt + (if j1 = k1 then 0 else x5.toInt) + (if i1 = j1 then 0 else if i1 = k1 then 0 else x4.toInt)), Wp p e below (fun o U' => ∃ v L, o = .returned v ∧ Q_rm0 Z x1 q2 x3 x4 x5 x6 h0 n0 v U'.heap L ∧ FrameEnd s o U' L room_1.cells room_1.slots) (TJ42.setTop (mkF m 175 #[.val (.int x1), .val (.long q2), .second, .val (.int x3), .val (.int x4), .val (.int x5), .val (.int x6), .val (.int c2), .val (.int i1), .val (.int j1), .val (.int k1), .val (.ref b3), .val (.ref b11), .val (.long wa), .second, .val (.int (1 : Int32)), .unset, .unset, .unset] [(.long wb)])) := by
        intro TJ42 loJ42 wb NJ42 XJ42 eJ42 hwb
        have hq64c := own_q64c h_k1.1
        have htop2 : (own_up (own_up own_z (0 : Int32).toNatClampNeg (own_R (own_up (own_up own_z i1.toNatClampNeg x4.toInt) j1.toNatClampNeg x5.toInt) c2.toNatClampNeg (0 : Int32).toNatClampNeg)) (k1 / (64 : Int32)).toNatClampNeg (own_R (own_up (own_up (own_up own_z i1.toNatClampNeg x4.toInt) j1.toNatClampNeg x5.toInt) k1.toNatClampNeg x6.toInt) c2.toNatClampNeg (k1 / (64 : Int32)).toNatClampNeg)) (0 : Int32).toNatClampNeg = own_S (own_up (own_up (own_up own_z i1.toNatClampNeg x4.toInt) j1.toNatClampNeg x5.toInt) k1.toNatClampNeg x6.toInt) 0 c2.toNatClampNeg := by
          rw [hq64c]; exact own_setA (own_up (own_up own_z i1.toNatClampNeg x4.toInt) j1.toNatClampNeg x5.toInt) _ x6.toInt (by rcases hn with rfl <;> decide) b_k
        rw [hsum2] at htop2
        have hb2 : -9007199254740992 < (own_up (own_up own_z (0 : Int32).toNatClampNeg (own_R (own_up (own_up own_z i1.toNatClampNeg x4.toInt) j1.toNatClampNeg x5.toInt) c2.toNatClampNeg (0 : Int32).toNatClampNeg)) (k1 / (64 : Int32)).toNatClampNeg (own_R (own_up (own_up (own_up own_z i1.toNatClampNeg x4.toInt) j1.toNatClampNeg x5.toInt) k1.toNatClampNeg x6.toInt) c2.toNatClampNeg (k1 / (64 : Int32)).toNatClampNeg)) (0 : Int32).toNatClampNeg ∧ (own_up (own_up own_z (0 : Int32).toNatClampNeg (own_R (own_up (own_up own_z i1.toNatClampNeg x4.toInt) j1.toNatClampNeg x5.toInt) c2.toNatClampNeg (0 : Int32).toNatClampNeg)) (k1 / (64 : Int32)).toNatClampNeg (own_R (own_up (own_up (own_up own_z i1.toNatClampNeg x4.toInt) j1.toNatClampNeg x5.toInt) k1.toNatClampNeg x6.toInt) c2.toNatClampNeg (k1 / (64 : Int32)).toNatClampNeg)) (0 : Int32).toNatClampNeg < 9007199254740992 := by rw [htop2]; repeat' split; all_goals omega
        refine Wp.st (S' := TJ42.setTop (mkF m 177 #[.val (.int x1), .val (.long q2), .second, .val (.int x3), .val (.int x4), .val (.int x5), .val (.int x6), .val (.int c2), .val (.int i1), .val (.int j1), .val (.int k1), .val (.ref b3), .val (.ref b11), .val (.long wa), .second, .val (.int (1 : Int32)), .val (.long wb), .second, .unset] [])) (fun tt_ kk_ => XS.lstore XJ42.here hx rfl (hb hby at_175) rfl (l' := #[.val (.int x1), .val (.long q2), .second, .val (.int x3), .val (.int x4), .val (.int x5), .val (.int x6), .val (.int c2), .val (.int i1), .val (.int j1), .val (.int k1), .val (.ref b3), .val (.ref b11), .val (.long wa), .second, .val (.int (1 : Int32)), .val (.long wb), .second, .unset]) rfl kk_) ?_
        refine Wp.st (S' := TJ42.setTop (mkF m 179 #[.val (.int x1), .val (.long q2), .second, .val (.int x3), .val (.int x4), .val (.int x5), .val (.int x6), .val (.int c2), .val (.int i1), .val (.int j1), .val (.int k1), .val (.ref b3), .val (.ref b11), .val (.long wa), .second, .val (.int (1 : Int32)), .val (.long wb), .second, .unset] [(.ref b11)])) (fun tt_ kk_ => XS.aload XJ42.here hx rfl (hb hby at_177) rfl rfl kk_) ?_
        have F44 := F35.keep K39 (ninS (Nat.ne_of_lt (Nat.lt_of_lt_of_le A11.lt (Nat.le_trans (Nat.le_refl _) P15_1))) (ninS (Nat.ne_of_lt (Nat.lt_of_lt_of_le A11.lt (Nat.le_trans (Nat.le_refl _) P15_2))) nin0))
        have F45 := F36.keep K39 (ninS P15_8 (ninS P15_9 nin0))
        have F46 := F38.keep K39
        obtain ⟨cq43, kq43, q43a, q43b, q43c⟩ := isOf hZ eJ42 F46
        obtain ⟨vv43, _, ⟨T43, L43, k43, n43⟩, -, X43, ⟨Lc43, hQ43, l43, y43, z43⟩, st43⟩ := XJ42.virtualBack hx (y := (⟨"com/example/dags_over_clouds/dagsoverclouds/plan/Tally", "sum", "()D"⟩ : MethodName)) (z := (⟨"com/example/dags_over_clouds/dagsoverclouds/plan/Tally", "sum", "()D"⟩ : MethodName)) hown (mvT hZ (hw _ (List.mem_of_getElem? (i := 42) rfl))) (mvT hZ (hw _ (List.mem_of_getElem? (i := 43) rfl))) (notFace_of_selects (args := #[]) (mvT hZ (hw _ (List.mem_of_getElem? (i := 45) rfl)))) (mvT hZ (hw _ (List.mem_of_getElem? (i := 45) rfl))) (mvT hZ (hw _ (List.mem_of_getElem? (i := 44) rfl))) (by decide) (backOf (W := 0) (rmSum2 l Z a0 hw [] b11 b20 (.ref b21) b22 c23 c25 (own_up (own_up own_z (0 : Int32).toNatClampNeg (own_R (own_up (own_up own_z i1.toNatClampNeg x4.toInt) j1.toNatClampNeg x5.toInt) c2.toNatClampNeg (0 : Int32).toNatClampNeg)) (k1 / (64 : Int32)).toNatClampNeg (own_R (own_up (own_up (own_up own_z i1.toNatClampNeg x4.toInt) j1.toNatClampNeg x5.toInt) k1.toNatClampNeg x6.toInt) c2.toNatClampNeg (k1 / (64 : Int32)).toNatClampNeg)) T39.heap n0 (Nat.le_trans Z0 (Nat.le_trans (Nat.le_trans (Nat.le_trans (Nat.le_trans (Nat.le_trans (Nat.le_trans z4 z8) z10) z12) z26) z32) z41)) F44 F45 P39_1) hZ (hw _ (List.mem_of_getElem? (i := 46) rfl)) (hw _ (List.mem_of_getElem? (i := 9) rfl)) (by decide) (by decide)) q43a q43c (g := (mkF m 179 #[.val (.int x1), .val (.long q2), .second, .val (.int x3), .val (.int x4), .val (.int x5), .val (.int x6), .val (.int c2), .val (.int i1), .val (.int j1), .val (.int k1), .val (.ref b3), .val (.ref b11), .val (.long wa), .second, .val (.int (1 : Int32)), .val (.long wb), .second, .unset] [(.ref b11)])) rfl (by rw [hml]; rfl) (Steps.refl _) (argsL := []) (rest := []) (lenOf pd_4 rfl) rfl (by show 2 * 0 + _ ≤ _; exact Nat.le_of_eq rfl) (hb hby at_179) (fun _ _ => ⟨rfl, eJ42, (by decide : 5 + 0 ≤ _), (by decide : 262 + 0 ≤ _)⟩)
        dsimp only [Pt.U, Pt.locs, Pt.cells, Pt.slots] at X43 l43 y43 z43 st43 hQ43
        subst l43 y43 z43
        obtain ⟨rfl, Nq43, e43⟩ := hQ43
        have N43 := Fr.app NJ42 Nq43
        refine Wp.tr (S' := T43.setTop (mkF m 182 #[.val (.int x1), .val (.long q2), .second, .val (.int x3), .val (.int x4), .val (.int x5), .val (.int x6), .val (.int c2), .val (.int i1), .val (.int j1), .val (.int k1), .val (.ref b3), .val (.ref b11), .val (.long wa), .second, .val (.int (1 : Int32)), .val (.long wb), .second, .unset] [(.double (FP.l2d (Int64.ofInt ((own_up (own_up own_z (0 : Int32).toNatClampNeg (own_R (own_up (own_up own_z i1.toNatClampNeg x4.toInt) j1.toNatClampNeg x5.toInt) c2.toNatClampNeg (0 : Int32).toNatClampNeg)) (k1 / (64 : Int32)).toNatClampNeg (own_R (own_up (own_up (own_up own_z i1.toNatClampNeg x4.toInt) j1.toNatClampNeg x5.toInt) k1.toNatClampNeg x6.toInt) c2.toNatClampNeg (k1 / (64 : Int32)).toNatClampNeg)) (0 : Int32).toNatClampNeg))))])) st43 ?_
        refine Wp.st (S' := T43.setTop (mkF m 184 #[.val (.int x1), .val (.long q2), .second, .val (.int x3), .val (.int x4), .val (.int x5), .val (.int x6), .val (.int c2), .val (.int i1), .val (.int j1), .val (.int k1), .val (.ref b3), .val (.ref b11), .val (.long wa), .second, .val (.int (1 : Int32)), .val (.long wb), .second, .unset] [(.long wb), (.double (FP.l2d (Int64.ofInt ((own_up (own_up own_z (0 : Int32).toNatClampNeg (own_R (own_up (own_up own_z i1.toNatClampNeg x4.toInt) j1.toNatClampNeg x5.toInt) c2.toNatClampNeg (0 : Int32).toNatClampNeg)) (k1 / (64 : Int32)).toNatClampNeg (own_R (own_up (own_up (own_up own_z i1.toNatClampNeg x4.toInt) j1.toNatClampNeg x5.toInt) k1.toNatClampNeg x6.toInt) c2.toNatClampNeg (k1 / (64 : Int32)).toNatClampNeg)) (0 : Int32).toNatClampNeg))))])) (fun tt_ kk_ => XS.lload X43.here hx rfl (hb hby at_182) rfl  kk_) ?_
        refine Wp.st (S' := T43.setTop (mkF m 185 #[.val (.int x1), .val (.long q2), .second, .val (.int x3), .val (.int x4), .val (.int x5), .val (.int x6), .val (.int c2), .val (.int i1), .val (.int j1), .val (.int k1), .val (.ref b3), .val (.ref b11), .val (.long wa), .second, .val (.int (1 : Int32)), .val (.long wb), .second, .unset] [(.double (FP.l2d wb)), (.double (FP.l2d (Int64.ofInt ((own_up (own_up own_z (0 : Int32).toNatClampNeg (own_R (own_up (own_up own_z i1.toNatClampNeg x4.toInt) j1.toNatClampNeg x5.toInt) c2.toNatClampNeg (0 : Int32).toNatClampNeg)) (k1 / (64 : Int32)).toNatClampNeg (own_R (own_up (own_up (own_up own_z i1.toNatClampNeg x4.toInt) j1.toNatClampNeg x5.toInt) k1.toNatClampNeg x6.toInt) c2.toNatClampNeg (k1 / (64 : Int32)).toNatClampNeg)) (0 : Int32).toNatClampNeg))))])) (fun tt_ kk_ => XS.l2dS X43.here hx rfl (hb hby at_184) rfl rfl kk_) ?_
        refine Wp.st (S' := T43.setTop (mkF m 186 #[.val (.int x1), .val (.long q2), .second, .val (.int x3), .val (.int x4), .val (.int x5), .val (.int x6), .val (.int c2), .val (.int i1), .val (.int j1), .val (.int k1), .val (.ref b3), .val (.ref b11), .val (.long wa), .second, .val (.int (1 : Int32)), .val (.long wb), .second, .unset] [(.int (0 : Int32))])) (fun tt_ kk_ => XS.dcmpS X43.here hx rfl (hb hby at_185) rfl (own_cmp (hwb.trans htop2.symm) hb2) kk_) ?_
        refine Wp.st (S' := T43.setTop (mkF m 189 #[.val (.int x1), .val (.long q2), .second, .val (.int x3), .val (.int x4), .val (.int x5), .val (.int x6), .val (.int c2), .val (.int i1), .val (.int j1), .val (.int k1), .val (.ref b3), .val (.ref b11), .val (.long wa), .second, .val (.int (1 : Int32)), .val (.long wb), .second, .unset] [])) (fun tt_ kk_ => XS.ifNo X43.here hx rfl (hb hby at_186) rfl ((if0 _ _).trans (teq ((by decide) : (0 : Int32) = (0 : Int32))).2) kk_) ?_
        refine Wp.st (S' := T43.setTop (mkF m 190 #[.val (.int x1), .val (.long q2), .second, .val (.int x3), .val (.int x4), .val (.int x5), .val (.int x6), .val (.int c2), .val (.int i1), .val (.int j1), .val (.int k1), .val (.ref b3), .val (.ref b11), .val (.long wa), .second, .val (.int (1 : Int32)), .val (.long wb), .second, .unset] [(.int (1 : Int32))])) (fun tt_ kk_ => XS.iconst X43.here hx rfl (hb hby at_189) kk_) ?_
        refine Wp.st (S' := T43.setTop (mkF m 194 #[.val (.int x1), .val (.long q2), .second, .val (.int x3), .val (.int x4), .val (.int x5), .val (.int x6), .val (.int c2), .val (.int i1), .val (.int j1), .val (.int k1), .val (.ref b3), .val (.ref b11), .val (.long wa), .second, .val (.int (1 : Int32)), .val (.long wb), .second, .unset] [(.int (1 : Int32))])) (fun tt_ kk_ => XS.goto X43.here hx rfl (pc0 := 190) (pc' := 194) rfl (hb hby at_190) (by decide) (by decide) kk_) ?_
        refine Wp.st (S' := T43.setTop (mkF m 196 #[.val (.int x1), .val (.long q2), .second, .val (.int x3), .val (.int x4), .val (.int x5), .val (.int x6), .val (.int c2), .val (.int i1), .val (.int j1), .val (.int k1), .val (.ref b3), .val (.ref b11), .val (.long wa), .second, .val (.int (1 : Int32)), .val (.long wb), .second, .val (.int (1 : Int32))] [])) (fun tt_ kk_ => XS.istore X43.here hx rfl (hb hby at_194) rfl (l' := #[.val (.int x1), .val (.long q2), .second, .val (.int x3), .val (.int x4), .val (.int x5), .val (.int x6), .val (.int c2), .val (.int i1), .val (.int j1), .val (.int k1), .val (.ref b3), .val (.ref b11), .val (.long wa), .second, .val (.int (1 : Int32)), .val (.long wb), .second, .val (.int (1 : Int32))]) rfl kk_) ?_
        refine Wp.st (S' := T43.setTop (mkF m 198 #[.val (.int x1), .val (.long q2), .second, .val (.int x3), .val (.int x4), .val (.int x5), .val (.int x6), .val (.int c2), .val (.int i1), .val (.int j1), .val (.int k1), .val (.ref b3), .val (.ref b11), .val (.long wa), .second, .val (.int (1 : Int32)), .val (.long wb), .second, .val (.int (1 : Int32))] [(.int (1 : Int32))])) (fun tt_ kk_ => XS.iload X43.here hx rfl (hb hby at_196) rfl  kk_) ?_
        refine Wp.st (S' := T43.setTop (mkF m 201 #[.val (.int x1), .val (.long q2), .second, .val (.int x3), .val (.int x4), .val (.int x5), .val (.int x6), .val (.int c2), .val (.int i1), .val (.int j1), .val (.int k1), .val (.ref b3), .val (.ref b11), .val (.long wa), .second, .val (.int (1 : Int32)), .val (.long wb), .second, .val (.int (1 : Int32))] [])) (fun tt_ kk_ => XS.ifNo X43.here hx rfl (hb hby at_198) rfl ((if0 _ _).trans (feq ((by decide) : ¬ ((1 : Int32) = (0 : Int32)))).1) kk_) ?_
        refine Wp.st (S' := T43.setTop (mkF m 203 #[.val (.int x1), .val (.long q2), .second, .val (.int x3), .val (.int x4), .val (.int x5), .val (.int x6), .val (.int c2), .val (.int i1), .val (.int j1), .val (.int k1), .val (.ref b3), .val (.ref b11), .val (.long wa), .second, .val (.int (1 : Int32)), .val (.long wb), .second, .val (.int (1 : Int32))] [(.int (1 : Int32))])) (fun tt_ kk_ => XS.iload X43.here hx rfl (hb hby at_201) rfl  kk_) ?_
        refine Wp.st (S' := T43.setTop (mkF m 206 #[.val (.int x1), .val (.long q2), .second, .val (.int x3), .val (.int x4), .val (.int x5), .val (.int x6), .val (.int c2), .val (.int i1), .val (.int j1), .val (.int k1), .val (.ref b3), .val (.ref b11), .val (.long wa), .second, .val (.int (1 : Int32)), .val (.long wb), .second, .val (.int (1 : Int32))] [])) (fun tt_ kk_ => XS.ifNo X43.here hx rfl (hb hby at_203) rfl ((if0 _ _).trans (feq ((by decide) : ¬ ((1 : Int32) = (0 : Int32)))).1) kk_) ?_
        refine Wp.st (S' := T43.setTop (mkF m 207 #[.val (.int x1), .val (.long q2), .second, .val (.int x3), .val (.int x4), .val (.int x5), .val (.int x6), .val (.int c2), .val (.int i1), .val (.int j1), .val (.int k1), .val (.ref b3), .val (.ref b11), .val (.long wa), .second, .val (.int (1 : Int32)), .val (.long wb), .second, .val (.int (1 : Int32))] [(.int (1 : Int32))])) (fun tt_ kk_ => XS.iconst X43.here hx rfl (hb hby at_206) kk_) ?_
        refine Wp.st (S' := T43.setTop (mkF m 211 #[.val (.int x1), .val (.long q2), .second, .val (.int x3), .val (.int x4), .val (.int x5), .val (.int x6), .val (.int c2), .val (.int i1), .val (.int j1), .val (.int k1), .val (.ref b3), .val (.ref b11), .val (.long wa), .second, .val (.int (1 : Int32)), .val (.long wb), .second, .val (.int (1 : Int32))] [(.int (1 : Int32))])) (fun tt_ kk_ => XS.goto X43.here hx rfl (pc0 := 207) (pc' := 211) rfl (hb hby at_207) (by decide) (by decide) kk_) ?_
        have K47 := Keep.refl h0 []
        have K48 := K47.ext E3
        have K49 := K48.wr W7 (Or.inr (Nat.le_trans (Nat.le_refl _) (Nat.le_of_eq g3.symm)))
        have K50 := K49.wr W9 (Or.inr (Nat.le_trans (Nat.le_refl _) (Nat.le_of_eq g3.symm)))
        have K51 := K50.ext E11
        have K52 := K51.trans K15 (allS (Or.inr (Nat.le_trans (Nat.le_trans (Nat.le_trans z4 z8) z10) (Nat.le_of_eq g11.symm))) all0)
        have K53 := K52.wr W31 (Or.inr (Nat.le_trans (Nat.le_refl _) (Nat.le_of_eq g3.symm)))
        have K54 := K53.trans K39 (allS (Or.inr (Nat.le_trans (Nat.le_trans (Nat.le_trans (Nat.le_trans z4 z8) z10) z12) P15_1)) (allS (Or.inr (Nat.le_trans (Nat.le_trans (Nat.le_trans (Nat.le_trans z4 z8) z10) z12) P15_2)) all0))
        exact Wp.ret X43 hlk (v := (some (.int (1 : Int32)))) (fun h => by rw [Bd.returns] at h; cases h) (fun fs hr => retN (z := (1 : Int32)) X43 hx (t := .boolean) Bd.returns (by simp) (hb hby at_211) hr) (by decide) (by decide) (show Q_rm0 Z x1 q2 x3 x4 x5 x6 h0 n0 _ T43.heap _ by rw [e43]; exact ⟨rfl, N43, K54⟩)
      refine Wp.st (S' := T39.setTop (mkF m 138 #[.val (.int x1), .val (.long q2), .second, .val (.int x3), .val (.int x4), .val (.int x5), .val (.int x6), .val (.int c2), .val (.int i1), .val (.int j1), .val (.int k1), .val (.ref b3), .val (.ref b11), .val (.long wa), .second, .val (.int (1 : Int32)), .unset, .unset, .unset] [(.long (x6.toInt64))])) (fun tt_ kk_ => XS.i2l X39.here hx rfl (hb hby at_137) rfl kk_) ?_
      refine Wp.st (S' := T39.setTop (mkF m 140 #[.val (.int x1), .val (.long q2), .second, .val (.int x3), .val (.int x4), .val (.int x5), .val (.int x6), .val (.int c2), .val (.int i1), .val (.int j1), .val (.int k1), .val (.ref b3), .val (.ref b11), .val (.long wa), .second, .val (.int (1 : Int32)), .unset, .unset, .unset] [(.int j1), (.long (x6.toInt64))])) (fun tt_ kk_ => XS.iload X39.here hx rfl (hb hby at_138) rfl  kk_) ?_
      refine Wp.st (S' := T39.setTop (mkF m 142 #[.val (.int x1), .val (.long q2), .second, .val (.int x3), .val (.int x4), .val (.int x5), .val (.int x6), .val (.int c2), .val (.int i1), .val (.int j1), .val (.int k1), .val (.ref b3), .val (.ref b11), .val (.long wa), .second, .val (.int (1 : Int32)), .unset, .unset, .unset] [(.int k1), (.int j1), (.long (x6.toInt64))])) (fun tt_ kk_ => XS.iload X39.here hx rfl (hb hby at_140) rfl  kk_) ?_
      by_cases fJ : j1 = k1
      case pos =>
        refine Wp.st (S' := T39.setTop (mkF m 151 #[.val (.int x1), .val (.long q2), .second, .val (.int x3), .val (.int x4), .val (.int x5), .val (.int x6), .val (.int c2), .val (.int i1), .val (.int j1), .val (.int k1), .val (.ref b3), .val (.ref b11), .val (.long wa), .second, .val (.int (1 : Int32)), .unset, .unset, .unset] [(.long (x6.toInt64))])) (fun tt_ kk_ => XS.icmpYes X39.here hx rfl (pc0 := 142) (pc' := 151) rfl (hb hby at_142) rfl (teq (fJ : j1 = k1)).1 (by decide) (by decide) kk_) ?_
        refine Wp.st (S' := T39.setTop (mkF m 152 #[.val (.int x1), .val (.long q2), .second, .val (.int x3), .val (.int x4), .val (.int x5), .val (.int x6), .val (.int c2), .val (.int i1), .val (.int j1), .val (.int k1), .val (.ref b3), .val (.ref b11), .val (.long wa), .second, .val (.int (1 : Int32)), .unset, .unset, .unset] [(.long (0 : Int64)), (.long (x6.toInt64))])) (fun tt_ kk_ => XS.lconst X39.here hx rfl (hb hby at_151) kk_) ?_
        refine Wp.st (S' := T39.setTop (mkF m 153 #[.val (.int x1), .val (.long q2), .second, .val (.int x3), .val (.int x4), .val (.int x5), .val (.int x6), .val (.int c2), .val (.int i1), .val (.int j1), .val (.int k1), .val (.ref b3), .val (.ref b11), .val (.long wa), .second, .val (.int (1 : Int32)), .unset, .unset, .unset] [(.long ((x6.toInt64) + (0 : Int64)))])) (fun tt_ kk_ => XS.ladd X39.here hx rfl (hb hby at_152) rfl kk_) ?_
        refine Wp.st (S' := T39.setTop (mkF m 155 #[.val (.int x1), .val (.long q2), .second, .val (.int x3), .val (.int x4), .val (.int x5), .val (.int x6), .val (.int c2), .val (.int i1), .val (.int j1), .val (.int k1), .val (.ref b3), .val (.ref b11), .val (.long wa), .second, .val (.int (1 : Int32)), .unset, .unset, .unset] [(.int i1), (.long ((x6.toInt64) + (0 : Int64)))])) (fun tt_ kk_ => XS.iload X39.here hx rfl (hb hby at_153) rfl  kk_) ?_
        refine Wp.st (S' := T39.setTop (mkF m 157 #[.val (.int x1), .val (.long q2), .second, .val (.int x3), .val (.int x4), .val (.int x5), .val (.int x6), .val (.int c2), .val (.int i1), .val (.int j1), .val (.int k1), .val (.ref b3), .val (.ref b11), .val (.long wa), .second, .val (.int (1 : Int32)), .unset, .unset, .unset] [(.int j1), (.int i1), (.long ((x6.toInt64) + (0 : Int64)))])) (fun tt_ kk_ => XS.iload X39.here hx rfl (hb hby at_155) rfl  kk_) ?_
        by_cases fI : i1 = j1
        case pos =>
          refine Wp.st (S' := T39.setTop (mkF m 173 #[.val (.int x1), .val (.long q2), .second, .val (.int x3), .val (.int x4), .val (.int x5), .val (.int x6), .val (.int c2), .val (.int i1), .val (.int j1), .val (.int k1), .val (.ref b3), .val (.ref b11), .val (.long wa), .second, .val (.int (1 : Int32)), .unset, .unset, .unset] [(.long ((x6.toInt64) + (0 : Int64)))])) (fun tt_ kk_ => XS.icmpYes X39.here hx rfl (pc0 := 157) (pc' := 173) rfl (hb hby at_157) rfl (teq (fI : i1 = j1)).1 (by decide) (by decide) kk_) ?_
          refine Wp.st (S' := T39.setTop (mkF m 174 #[.val (.int x1), .val (.long q2), .second, .val (.int x3), .val (.int x4), .val (.int x5), .val (.int x6), .val (.int c2), .val (.int i1), .val (.int j1), .val (.int k1), .val (.ref b3), .val (.ref b11), .val (.long wa), .second, .val (.int (1 : Int32)), .unset, .unset, .unset] [(.long (0 : Int64)), (.long ((x6.toInt64) + (0 : Int64)))])) (fun tt_ kk_ => XS.lconst X39.here hx rfl (hb hby at_173) kk_) ?_
          refine Wp.st (S' := T39.setTop (mkF m 175 #[.val (.int x1), .val (.long q2), .second, .val (.int x3), .val (.int x4), .val (.int x5), .val (.int x6), .val (.int c2), .val (.int i1), .val (.int j1), .val (.int k1), .val (.ref b3), .val (.ref b11), .val (.long wa), .second, .val (.int (1 : Int32)), .unset, .unset, .unset] [(.long (((x6.toInt64) + (0 : Int64)) + (0 : Int64)))])) (fun tt_ kk_ => XS.ladd X39.here hx rfl (hb hby at_174) rfl kk_) ?_
          have ew : (((x6.toInt64) + (0 : Int64)) + (0 : Int64)).toInt = x6.toInt + (if j1 = k1 then 0 else x5.toInt) + (if i1 = j1 then 0 else if i1 = k1 then 0 else x4.toInt) := by
            rw [if_pos fJ, if_pos fI]
            have e0 : (0 : Int64).toInt = 0 := by decide
            have c4 := c_i2l x4; have c5 := c_i2l x5; have c6 := c_i2l x6
            have a1 := c_ladd x6.toInt64 (0 : Int64); have b1 := rng64 (x6.toInt64 + (0 : Int64))
            have a2 := c_ladd (x6.toInt64 + (0 : Int64)) (0 : Int64); have b2 := rng64 (x6.toInt64 + (0 : Int64) + (0 : Int64))
            omega
          exact J42 _ _ (((x6.toInt64) + (0 : Int64)) + (0 : Int64)) N39 X39 e39 ew
        case neg =>
          refine Wp.st (S' := T39.setTop (mkF m 160 #[.val (.int x1), .val (.long q2), .second, .val (.int x3), .val (.int x4), .val (.int x5), .val (.int x6), .val (.int c2), .val (.int i1), .val (.int j1), .val (.int k1), .val (.ref b3), .val (.ref b11), .val (.long wa), .second, .val (.int (1 : Int32)), .unset, .unset, .unset] [(.long ((x6.toInt64) + (0 : Int64)))])) (fun tt_ kk_ => XS.icmpNo X39.here hx rfl (hb hby at_157) rfl (feq (fI : ¬ (i1 = j1))).1 kk_) ?_
          refine Wp.st (S' := T39.setTop (mkF m 162 #[.val (.int x1), .val (.long q2), .second, .val (.int x3), .val (.int x4), .val (.int x5), .val (.int x6), .val (.int c2), .val (.int i1), .val (.int j1), .val (.int k1), .val (.ref b3), .val (.ref b11), .val (.long wa), .second, .val (.int (1 : Int32)), .unset, .unset, .unset] [(.int i1), (.long ((x6.toInt64) + (0 : Int64)))])) (fun tt_ kk_ => XS.iload X39.here hx rfl (hb hby at_160) rfl  kk_) ?_
          refine Wp.st (S' := T39.setTop (mkF m 164 #[.val (.int x1), .val (.long q2), .second, .val (.int x3), .val (.int x4), .val (.int x5), .val (.int x6), .val (.int c2), .val (.int i1), .val (.int j1), .val (.int k1), .val (.ref b3), .val (.ref b11), .val (.long wa), .second, .val (.int (1 : Int32)), .unset, .unset, .unset] [(.int k1), (.int i1), (.long ((x6.toInt64) + (0 : Int64)))])) (fun tt_ kk_ => XS.iload X39.here hx rfl (hb hby at_162) rfl  kk_) ?_
          by_cases fK : i1 = k1
          case pos =>
            refine Wp.st (S' := T39.setTop (mkF m 173 #[.val (.int x1), .val (.long q2), .second, .val (.int x3), .val (.int x4), .val (.int x5), .val (.int x6), .val (.int c2), .val (.int i1), .val (.int j1), .val (.int k1), .val (.ref b3), .val (.ref b11), .val (.long wa), .second, .val (.int (1 : Int32)), .unset, .unset, .unset] [(.long ((x6.toInt64) + (0 : Int64)))])) (fun tt_ kk_ => XS.icmpYes X39.here hx rfl (pc0 := 164) (pc' := 173) rfl (hb hby at_164) rfl (teq (fK : i1 = k1)).1 (by decide) (by decide) kk_) ?_
            refine Wp.st (S' := T39.setTop (mkF m 174 #[.val (.int x1), .val (.long q2), .second, .val (.int x3), .val (.int x4), .val (.int x5), .val (.int x6), .val (.int c2), .val (.int i1), .val (.int j1), .val (.int k1), .val (.ref b3), .val (.ref b11), .val (.long wa), .second, .val (.int (1 : Int32)), .unset, .unset, .unset] [(.long (0 : Int64)), (.long ((x6.toInt64) + (0 : Int64)))])) (fun tt_ kk_ => XS.lconst X39.here hx rfl (hb hby at_173) kk_) ?_
            refine Wp.st (S' := T39.setTop (mkF m 175 #[.val (.int x1), .val (.long q2), .second, .val (.int x3), .val (.int x4), .val (.int x5), .val (.int x6), .val (.int c2), .val (.int i1), .val (.int j1), .val (.int k1), .val (.ref b3), .val (.ref b11), .val (.long wa), .second, .val (.int (1 : Int32)), .unset, .unset, .unset] [(.long (((x6.toInt64) + (0 : Int64)) + (0 : Int64)))])) (fun tt_ kk_ => XS.ladd X39.here hx rfl (hb hby at_174) rfl kk_) ?_
            have ew : (((x6.toInt64) + (0 : Int64)) + (0 : Int64)).toInt = x6.toInt + (if j1 = k1 then 0 else x5.toInt) + (if i1 = j1 then 0 else if i1 = k1 then 0 else x4.toInt) := by
              rw [if_pos fJ, if_neg fI, if_pos fK]
              have e0 : (0 : Int64).toInt = 0 := by decide
              have c4 := c_i2l x4; have c5 := c_i2l x5; have c6 := c_i2l x6
              have a1 := c_ladd x6.toInt64 (0 : Int64); have b1 := rng64 (x6.toInt64 + (0 : Int64))
              have a2 := c_ladd (x6.toInt64 + (0 : Int64)) (0 : Int64); have b2 := rng64 (x6.toInt64 + (0 : Int64) + (0 : Int64))
              omega
            exact J42 _ _ (((x6.toInt64) + (0 : Int64)) + (0 : Int64)) N39 X39 e39 ew
          case neg =>
            refine Wp.st (S' := T39.setTop (mkF m 167 #[.val (.int x1), .val (.long q2), .second, .val (.int x3), .val (.int x4), .val (.int x5), .val (.int x6), .val (.int c2), .val (.int i1), .val (.int j1), .val (.int k1), .val (.ref b3), .val (.ref b11), .val (.long wa), .second, .val (.int (1 : Int32)), .unset, .unset, .unset] [(.long ((x6.toInt64) + (0 : Int64)))])) (fun tt_ kk_ => XS.icmpNo X39.here hx rfl (hb hby at_164) rfl (feq (fK : ¬ (i1 = k1))).1 kk_) ?_
            refine Wp.st (S' := T39.setTop (mkF m 169 #[.val (.int x1), .val (.long q2), .second, .val (.int x3), .val (.int x4), .val (.int x5), .val (.int x6), .val (.int c2), .val (.int i1), .val (.int j1), .val (.int k1), .val (.ref b3), .val (.ref b11), .val (.long wa), .second, .val (.int (1 : Int32)), .unset, .unset, .unset] [(.int x4), (.long ((x6.toInt64) + (0 : Int64)))])) (fun tt_ kk_ => XS.iload X39.here hx rfl (hb hby at_167) rfl  kk_) ?_
            refine Wp.st (S' := T39.setTop (mkF m 170 #[.val (.int x1), .val (.long q2), .second, .val (.int x3), .val (.int x4), .val (.int x5), .val (.int x6), .val (.int c2), .val (.int i1), .val (.int j1), .val (.int k1), .val (.ref b3), .val (.ref b11), .val (.long wa), .second, .val (.int (1 : Int32)), .unset, .unset, .unset] [(.long (x4.toInt64)), (.long ((x6.toInt64) + (0 : Int64)))])) (fun tt_ kk_ => XS.i2l X39.here hx rfl (hb hby at_169) rfl kk_) ?_
            refine Wp.st (S' := T39.setTop (mkF m 174 #[.val (.int x1), .val (.long q2), .second, .val (.int x3), .val (.int x4), .val (.int x5), .val (.int x6), .val (.int c2), .val (.int i1), .val (.int j1), .val (.int k1), .val (.ref b3), .val (.ref b11), .val (.long wa), .second, .val (.int (1 : Int32)), .unset, .unset, .unset] [(.long (x4.toInt64)), (.long ((x6.toInt64) + (0 : Int64)))])) (fun tt_ kk_ => XS.goto X39.here hx rfl (pc0 := 170) (pc' := 174) rfl (hb hby at_170) (by decide) (by decide) kk_) ?_
            refine Wp.st (S' := T39.setTop (mkF m 175 #[.val (.int x1), .val (.long q2), .second, .val (.int x3), .val (.int x4), .val (.int x5), .val (.int x6), .val (.int c2), .val (.int i1), .val (.int j1), .val (.int k1), .val (.ref b3), .val (.ref b11), .val (.long wa), .second, .val (.int (1 : Int32)), .unset, .unset, .unset] [(.long (((x6.toInt64) + (0 : Int64)) + (x4.toInt64)))])) (fun tt_ kk_ => XS.ladd X39.here hx rfl (hb hby at_174) rfl kk_) ?_
            have ew : (((x6.toInt64) + (0 : Int64)) + (x4.toInt64)).toInt = x6.toInt + (if j1 = k1 then 0 else x5.toInt) + (if i1 = j1 then 0 else if i1 = k1 then 0 else x4.toInt) := by
              rw [if_pos fJ, if_neg fI, if_neg fK]
              have e0 : (0 : Int64).toInt = 0 := by decide
              have c4 := c_i2l x4; have c5 := c_i2l x5; have c6 := c_i2l x6
              have a1 := c_ladd x6.toInt64 (0 : Int64); have b1 := rng64 (x6.toInt64 + (0 : Int64))
              have a2 := c_ladd (x6.toInt64 + (0 : Int64)) x4.toInt64; have b2 := rng64 (x6.toInt64 + (0 : Int64) + x4.toInt64)
              omega
            exact J42 _ _ (((x6.toInt64) + (0 : Int64)) + (x4.toInt64)) N39 X39 e39 ew
      case neg =>
        refine Wp.st (S' := T39.setTop (mkF m 145 #[.val (.int x1), .val (.long q2), .second, .val (.int x3), .val (.int x4), .val (.int x5), .val (.int x6), .val (.int c2), .val (.int i1), .val (.int j1), .val (.int k1), .val (.ref b3), .val (.ref b11), .val (.long wa), .second, .val (.int (1 : Int32)), .unset, .unset, .unset] [(.long (x6.toInt64))])) (fun tt_ kk_ => XS.icmpNo X39.here hx rfl (hb hby at_142) rfl (feq (fJ : ¬ (j1 = k1))).1 kk_) ?_
        refine Wp.st (S' := T39.setTop (mkF m 147 #[.val (.int x1), .val (.long q2), .second, .val (.int x3), .val (.int x4), .val (.int x5), .val (.int x6), .val (.int c2), .val (.int i1), .val (.int j1), .val (.int k1), .val (.ref b3), .val (.ref b11), .val (.long wa), .second, .val (.int (1 : Int32)), .unset, .unset, .unset] [(.int x5), (.long (x6.toInt64))])) (fun tt_ kk_ => XS.iload X39.here hx rfl (hb hby at_145) rfl  kk_) ?_
        refine Wp.st (S' := T39.setTop (mkF m 148 #[.val (.int x1), .val (.long q2), .second, .val (.int x3), .val (.int x4), .val (.int x5), .val (.int x6), .val (.int c2), .val (.int i1), .val (.int j1), .val (.int k1), .val (.ref b3), .val (.ref b11), .val (.long wa), .second, .val (.int (1 : Int32)), .unset, .unset, .unset] [(.long (x5.toInt64)), (.long (x6.toInt64))])) (fun tt_ kk_ => XS.i2l X39.here hx rfl (hb hby at_147) rfl kk_) ?_
        refine Wp.st (S' := T39.setTop (mkF m 152 #[.val (.int x1), .val (.long q2), .second, .val (.int x3), .val (.int x4), .val (.int x5), .val (.int x6), .val (.int c2), .val (.int i1), .val (.int j1), .val (.int k1), .val (.ref b3), .val (.ref b11), .val (.long wa), .second, .val (.int (1 : Int32)), .unset, .unset, .unset] [(.long (x5.toInt64)), (.long (x6.toInt64))])) (fun tt_ kk_ => XS.goto X39.here hx rfl (pc0 := 148) (pc' := 152) rfl (hb hby at_148) (by decide) (by decide) kk_) ?_
        refine Wp.st (S' := T39.setTop (mkF m 153 #[.val (.int x1), .val (.long q2), .second, .val (.int x3), .val (.int x4), .val (.int x5), .val (.int x6), .val (.int c2), .val (.int i1), .val (.int j1), .val (.int k1), .val (.ref b3), .val (.ref b11), .val (.long wa), .second, .val (.int (1 : Int32)), .unset, .unset, .unset] [(.long ((x6.toInt64) + (x5.toInt64)))])) (fun tt_ kk_ => XS.ladd X39.here hx rfl (hb hby at_152) rfl kk_) ?_
        refine Wp.st (S' := T39.setTop (mkF m 155 #[.val (.int x1), .val (.long q2), .second, .val (.int x3), .val (.int x4), .val (.int x5), .val (.int x6), .val (.int c2), .val (.int i1), .val (.int j1), .val (.int k1), .val (.ref b3), .val (.ref b11), .val (.long wa), .second, .val (.int (1 : Int32)), .unset, .unset, .unset] [(.int i1), (.long ((x6.toInt64) + (x5.toInt64)))])) (fun tt_ kk_ => XS.iload X39.here hx rfl (hb hby at_153) rfl  kk_) ?_
        refine Wp.st (S' := T39.setTop (mkF m 157 #[.val (.int x1), .val (.long q2), .second, .val (.int x3), .val (.int x4), .val (.int x5), .val (.int x6), .val (.int c2), .val (.int i1), .val (.int j1), .val (.int k1), .val (.ref b3), .val (.ref b11), .val (.long wa), .second, .val (.int (1 : Int32)), .unset, .unset, .unset] [(.int j1), (.int i1), (.long ((x6.toInt64) + (x5.toInt64)))])) (fun tt_ kk_ => XS.iload X39.here hx rfl (hb hby at_155) rfl  kk_) ?_
        by_cases fI : i1 = j1
        case pos =>
          refine Wp.st (S' := T39.setTop (mkF m 173 #[.val (.int x1), .val (.long q2), .second, .val (.int x3), .val (.int x4), .val (.int x5), .val (.int x6), .val (.int c2), .val (.int i1), .val (.int j1), .val (.int k1), .val (.ref b3), .val (.ref b11), .val (.long wa), .second, .val (.int (1 : Int32)), .unset, .unset, .unset] [(.long ((x6.toInt64) + (x5.toInt64)))])) (fun tt_ kk_ => XS.icmpYes X39.here hx rfl (pc0 := 157) (pc' := 173) rfl (hb hby at_157) rfl (teq (fI : i1 = j1)).1 (by decide) (by decide) kk_) ?_
          refine Wp.st (S' := T39.setTop (mkF m 174 #[.val (.int x1), .val (.long q2), .second, .val (.int x3), .val (.int x4), .val (.int x5), .val (.int x6), .val (.int c2), .val (.int i1), .val (.int j1), .val (.int k1), .val (.ref b3), .val (.ref b11), .val (.long wa), .second, .val (.int (1 : Int32)), .unset, .unset, .unset] [(.long (0 : Int64)), (.long ((x6.toInt64) + (x5.toInt64)))])) (fun tt_ kk_ => XS.lconst X39.here hx rfl (hb hby at_173) kk_) ?_
          refine Wp.st (S' := T39.setTop (mkF m 175 #[.val (.int x1), .val (.long q2), .second, .val (.int x3), .val (.int x4), .val (.int x5), .val (.int x6), .val (.int c2), .val (.int i1), .val (.int j1), .val (.int k1), .val (.ref b3), .val (.ref b11), .val (.long wa), .second, .val (.int (1 : Int32)), .unset, .unset, .unset] [(.long (((x6.toInt64) + (x5.toInt64)) + (0 : Int64)))])) (fun tt_ kk_ => XS.ladd X39.here hx rfl (hb hby at_174) rfl kk_) ?_
          have ew : (((x6.toInt64) + (x5.toInt64)) + (0 : Int64)).toInt = x6.toInt + (if j1 = k1 then 0 else x5.toInt) + (if i1 = j1 then 0 else if i1 = k1 then 0 else x4.toInt) := by
            rw [if_neg fJ, if_pos fI]
            have e0 : (0 : Int64).toInt = 0 := by decide
            have c4 := c_i2l x4; have c5 := c_i2l x5; have c6 := c_i2l x6
            have a1 := c_ladd x6.toInt64 x5.toInt64; have b1 := rng64 (x6.toInt64 + x5.toInt64)
            have a2 := c_ladd (x6.toInt64 + x5.toInt64) (0 : Int64); have b2 := rng64 (x6.toInt64 + x5.toInt64 + (0 : Int64))
            omega
          exact J42 _ _ (((x6.toInt64) + (x5.toInt64)) + (0 : Int64)) N39 X39 e39 ew
        case neg =>
          refine Wp.st (S' := T39.setTop (mkF m 160 #[.val (.int x1), .val (.long q2), .second, .val (.int x3), .val (.int x4), .val (.int x5), .val (.int x6), .val (.int c2), .val (.int i1), .val (.int j1), .val (.int k1), .val (.ref b3), .val (.ref b11), .val (.long wa), .second, .val (.int (1 : Int32)), .unset, .unset, .unset] [(.long ((x6.toInt64) + (x5.toInt64)))])) (fun tt_ kk_ => XS.icmpNo X39.here hx rfl (hb hby at_157) rfl (feq (fI : ¬ (i1 = j1))).1 kk_) ?_
          refine Wp.st (S' := T39.setTop (mkF m 162 #[.val (.int x1), .val (.long q2), .second, .val (.int x3), .val (.int x4), .val (.int x5), .val (.int x6), .val (.int c2), .val (.int i1), .val (.int j1), .val (.int k1), .val (.ref b3), .val (.ref b11), .val (.long wa), .second, .val (.int (1 : Int32)), .unset, .unset, .unset] [(.int i1), (.long ((x6.toInt64) + (x5.toInt64)))])) (fun tt_ kk_ => XS.iload X39.here hx rfl (hb hby at_160) rfl  kk_) ?_
          refine Wp.st (S' := T39.setTop (mkF m 164 #[.val (.int x1), .val (.long q2), .second, .val (.int x3), .val (.int x4), .val (.int x5), .val (.int x6), .val (.int c2), .val (.int i1), .val (.int j1), .val (.int k1), .val (.ref b3), .val (.ref b11), .val (.long wa), .second, .val (.int (1 : Int32)), .unset, .unset, .unset] [(.int k1), (.int i1), (.long ((x6.toInt64) + (x5.toInt64)))])) (fun tt_ kk_ => XS.iload X39.here hx rfl (hb hby at_162) rfl  kk_) ?_
          by_cases fK : i1 = k1
          case pos =>
            refine Wp.st (S' := T39.setTop (mkF m 173 #[.val (.int x1), .val (.long q2), .second, .val (.int x3), .val (.int x4), .val (.int x5), .val (.int x6), .val (.int c2), .val (.int i1), .val (.int j1), .val (.int k1), .val (.ref b3), .val (.ref b11), .val (.long wa), .second, .val (.int (1 : Int32)), .unset, .unset, .unset] [(.long ((x6.toInt64) + (x5.toInt64)))])) (fun tt_ kk_ => XS.icmpYes X39.here hx rfl (pc0 := 164) (pc' := 173) rfl (hb hby at_164) rfl (teq (fK : i1 = k1)).1 (by decide) (by decide) kk_) ?_
            refine Wp.st (S' := T39.setTop (mkF m 174 #[.val (.int x1), .val (.long q2), .second, .val (.int x3), .val (.int x4), .val (.int x5), .val (.int x6), .val (.int c2), .val (.int i1), .val (.int j1), .val (.int k1), .val (.ref b3), .val (.ref b11), .val (.long wa), .second, .val (.int (1 : Int32)), .unset, .unset, .unset] [(.long (0 : Int64)), (.long ((x6.toInt64) + (x5.toInt64)))])) (fun tt_ kk_ => XS.lconst X39.here hx rfl (hb hby at_173) kk_) ?_
            refine Wp.st (S' := T39.setTop (mkF m 175 #[.val (.int x1), .val (.long q2), .second, .val (.int x3), .val (.int x4), .val (.int x5), .val (.int x6), .val (.int c2), .val (.int i1), .val (.int j1), .val (.int k1), .val (.ref b3), .val (.ref b11), .val (.long wa), .second, .val (.int (1 : Int32)), .unset, .unset, .unset] [(.long (((x6.toInt64) + (x5.toInt64)) + (0 : Int64)))])) (fun tt_ kk_ => XS.ladd X39.here hx rfl (hb hby at_174) rfl kk_) ?_
            have ew : (((x6.toInt64) + (x5.toInt64)) + (0 : Int64)).toInt = x6.toInt + (if j1 = k1 then 0 else x5.toInt) + (if i1 = j1 then 0 else if i1 = k1 then 0 else x4.toInt) := by
              rw [if_neg fJ, if_neg fI, if_pos fK]
              have e0 : (0 : Int64).toInt = 0 := by decide
              have c4 := c_i2l x4; have c5 := c_i2l x5; have c6 := c_i2l x6
              have a1 := c_ladd x6.toInt64 x5.toInt64; have b1 := rng64 (x6.toInt64 + x5.toInt64)
              have a2 := c_ladd (x6.toInt64 + x5.toInt64) (0 : Int64); have b2 := rng64 (x6.toInt64 + x5.toInt64 + (0 : Int64))
              omega
            exact J42 _ _ (((x6.toInt64) + (x5.toInt64)) + (0 : Int64)) N39 X39 e39 ew
          case neg =>
            refine Wp.st (S' := T39.setTop (mkF m 167 #[.val (.int x1), .val (.long q2), .second, .val (.int x3), .val (.int x4), .val (.int x5), .val (.int x6), .val (.int c2), .val (.int i1), .val (.int j1), .val (.int k1), .val (.ref b3), .val (.ref b11), .val (.long wa), .second, .val (.int (1 : Int32)), .unset, .unset, .unset] [(.long ((x6.toInt64) + (x5.toInt64)))])) (fun tt_ kk_ => XS.icmpNo X39.here hx rfl (hb hby at_164) rfl (feq (fK : ¬ (i1 = k1))).1 kk_) ?_
            refine Wp.st (S' := T39.setTop (mkF m 169 #[.val (.int x1), .val (.long q2), .second, .val (.int x3), .val (.int x4), .val (.int x5), .val (.int x6), .val (.int c2), .val (.int i1), .val (.int j1), .val (.int k1), .val (.ref b3), .val (.ref b11), .val (.long wa), .second, .val (.int (1 : Int32)), .unset, .unset, .unset] [(.int x4), (.long ((x6.toInt64) + (x5.toInt64)))])) (fun tt_ kk_ => XS.iload X39.here hx rfl (hb hby at_167) rfl  kk_) ?_
            refine Wp.st (S' := T39.setTop (mkF m 170 #[.val (.int x1), .val (.long q2), .second, .val (.int x3), .val (.int x4), .val (.int x5), .val (.int x6), .val (.int c2), .val (.int i1), .val (.int j1), .val (.int k1), .val (.ref b3), .val (.ref b11), .val (.long wa), .second, .val (.int (1 : Int32)), .unset, .unset, .unset] [(.long (x4.toInt64)), (.long ((x6.toInt64) + (x5.toInt64)))])) (fun tt_ kk_ => XS.i2l X39.here hx rfl (hb hby at_169) rfl kk_) ?_
            refine Wp.st (S' := T39.setTop (mkF m 174 #[.val (.int x1), .val (.long q2), .second, .val (.int x3), .val (.int x4), .val (.int x5), .val (.int x6), .val (.int c2), .val (.int i1), .val (.int j1), .val (.int k1), .val (.ref b3), .val (.ref b11), .val (.long wa), .second, .val (.int (1 : Int32)), .unset, .unset, .unset] [(.long (x4.toInt64)), (.long ((x6.toInt64) + (x5.toInt64)))])) (fun tt_ kk_ => XS.goto X39.here hx rfl (pc0 := 170) (pc' := 174) rfl (hb hby at_170) (by decide) (by decide) kk_) ?_
            refine Wp.st (S' := T39.setTop (mkF m 175 #[.val (.int x1), .val (.long q2), .second, .val (.int x3), .val (.int x4), .val (.int x5), .val (.int x6), .val (.int c2), .val (.int i1), .val (.int j1), .val (.int k1), .val (.ref b3), .val (.ref b11), .val (.long wa), .second, .val (.int (1 : Int32)), .unset, .unset, .unset] [(.long (((x6.toInt64) + (x5.toInt64)) + (x4.toInt64)))])) (fun tt_ kk_ => XS.ladd X39.here hx rfl (hb hby at_174) rfl kk_) ?_
            have ew : (((x6.toInt64) + (x5.toInt64)) + (x4.toInt64)).toInt = x6.toInt + (if j1 = k1 then 0 else x5.toInt) + (if i1 = j1 then 0 else if i1 = k1 then 0 else x4.toInt) := by
              rw [if_neg fJ, if_neg fI, if_neg fK]
              have e0 : (0 : Int64).toInt = 0 := by decide
              have c4 := c_i2l x4; have c5 := c_i2l x5; have c6 := c_i2l x6
              have a1 := c_ladd x6.toInt64 x5.toInt64; have b1 := rng64 (x6.toInt64 + x5.toInt64)
              have a2 := c_ladd (x6.toInt64 + x5.toInt64) x4.toInt64; have b2 := rng64 (x6.toInt64 + x5.toInt64 + x4.toInt64)
              omega
            exact J42 _ _ (((x6.toInt64) + (x5.toInt64)) + (x4.toInt64)) N39 X39 e39 ew
    refine Wp.st (S' := T31.setTop (mkF m 89 #[.val (.int x1), .val (.long q2), .second, .val (.int x3), .val (.int x4), .val (.int x5), .val (.int x6), .val (.int c2), .val (.int i1), .val (.int j1), .val (.int k1), .val (.ref b3), .val (.ref b11), .unset, .unset, .unset, .unset, .unset, .unset] [(.long (x5.toInt64))])) (fun tt_ kk_ => XS.i2l X31.here hx rfl (hb hby at_88) rfl kk_) ?_
    refine Wp.st (S' := T31.setTop (mkF m 91 #[.val (.int x1), .val (.long q2), .second, .val (.int x3), .val (.int x4), .val (.int x5), .val (.int x6), .val (.int c2), .val (.int i1), .val (.int j1), .val (.int k1), .val (.ref b3), .val (.ref b11), .unset, .unset, .unset, .unset, .unset, .unset] [(.int i1), (.long (x5.toInt64))])) (fun tt_ kk_ => XS.iload X31.here hx rfl (hb hby at_89) rfl  kk_) ?_
    refine Wp.st (S' := T31.setTop (mkF m 93 #[.val (.int x1), .val (.long q2), .second, .val (.int x3), .val (.int x4), .val (.int x5), .val (.int x6), .val (.int c2), .val (.int i1), .val (.int j1), .val (.int k1), .val (.ref b3), .val (.ref b11), .unset, .unset, .unset, .unset, .unset, .unset] [(.int j1), (.int i1), (.long (x5.toInt64))])) (fun tt_ kk_ => XS.iload X31.here hx rfl (hb hby at_91) rfl  kk_) ?_
    by_cases fE : i1 = j1
    case pos =>
      refine Wp.st (S' := T31.setTop (mkF m 102 #[.val (.int x1), .val (.long q2), .second, .val (.int x3), .val (.int x4), .val (.int x5), .val (.int x6), .val (.int c2), .val (.int i1), .val (.int j1), .val (.int k1), .val (.ref b3), .val (.ref b11), .unset, .unset, .unset, .unset, .unset, .unset] [(.long (x5.toInt64))])) (fun tt_ kk_ => XS.icmpYes X31.here hx rfl (pc0 := 93) (pc' := 102) rfl (hb hby at_93) rfl (teq (fE : i1 = j1)).1 (by decide) (by decide) kk_) ?_
      refine Wp.st (S' := T31.setTop (mkF m 103 #[.val (.int x1), .val (.long q2), .second, .val (.int x3), .val (.int x4), .val (.int x5), .val (.int x6), .val (.int c2), .val (.int i1), .val (.int j1), .val (.int k1), .val (.ref b3), .val (.ref b11), .unset, .unset, .unset, .unset, .unset, .unset] [(.long (0 : Int64)), (.long (x5.toInt64))])) (fun tt_ kk_ => XS.lconst X31.here hx rfl (hb hby at_102) kk_) ?_
      refine Wp.st (S' := T31.setTop (mkF m 104 #[.val (.int x1), .val (.long q2), .second, .val (.int x3), .val (.int x4), .val (.int x5), .val (.int x6), .val (.int c2), .val (.int i1), .val (.int j1), .val (.int k1), .val (.ref b3), .val (.ref b11), .unset, .unset, .unset, .unset, .unset, .unset] [(.long ((x5.toInt64) + (0 : Int64)))])) (fun tt_ kk_ => XS.ladd X31.here hx rfl (hb hby at_103) rfl kk_) ?_
      have ew : ((x5.toInt64) + (0 : Int64)).toInt = x5.toInt + (if i1 = j1 then 0 else x4.toInt) := by
        rw [if_pos fE]
        have e0 : (0 : Int64).toInt = 0 := by decide
        have c4 := c_i2l x4; have c5 := c_i2l x5
        have a1 := c_ladd x5.toInt64 (0 : Int64); have b1 := rng64 (x5.toInt64 + (0 : Int64))
        omega
      exact J33 _ _ ((x5.toInt64) + (0 : Int64)) Nf31 X31 e31 ew
    case neg =>
      refine Wp.st (S' := T31.setTop (mkF m 96 #[.val (.int x1), .val (.long q2), .second, .val (.int x3), .val (.int x4), .val (.int x5), .val (.int x6), .val (.int c2), .val (.int i1), .val (.int j1), .val (.int k1), .val (.ref b3), .val (.ref b11), .unset, .unset, .unset, .unset, .unset, .unset] [(.long (x5.toInt64))])) (fun tt_ kk_ => XS.icmpNo X31.here hx rfl (hb hby at_93) rfl (feq (fE : ¬ (i1 = j1))).1 kk_) ?_
      refine Wp.st (S' := T31.setTop (mkF m 98 #[.val (.int x1), .val (.long q2), .second, .val (.int x3), .val (.int x4), .val (.int x5), .val (.int x6), .val (.int c2), .val (.int i1), .val (.int j1), .val (.int k1), .val (.ref b3), .val (.ref b11), .unset, .unset, .unset, .unset, .unset, .unset] [(.int x4), (.long (x5.toInt64))])) (fun tt_ kk_ => XS.iload X31.here hx rfl (hb hby at_96) rfl  kk_) ?_
      refine Wp.st (S' := T31.setTop (mkF m 99 #[.val (.int x1), .val (.long q2), .second, .val (.int x3), .val (.int x4), .val (.int x5), .val (.int x6), .val (.int c2), .val (.int i1), .val (.int j1), .val (.int k1), .val (.ref b3), .val (.ref b11), .unset, .unset, .unset, .unset, .unset, .unset] [(.long (x4.toInt64)), (.long (x5.toInt64))])) (fun tt_ kk_ => XS.i2l X31.here hx rfl (hb hby at_98) rfl kk_) ?_
      refine Wp.st (S' := T31.setTop (mkF m 103 #[.val (.int x1), .val (.long q2), .second, .val (.int x3), .val (.int x4), .val (.int x5), .val (.int x6), .val (.int c2), .val (.int i1), .val (.int j1), .val (.int k1), .val (.ref b3), .val (.ref b11), .unset, .unset, .unset, .unset, .unset, .unset] [(.long (x4.toInt64)), (.long (x5.toInt64))])) (fun tt_ kk_ => XS.goto X31.here hx rfl (pc0 := 99) (pc' := 103) rfl (hb hby at_99) (by decide) (by decide) kk_) ?_
      refine Wp.st (S' := T31.setTop (mkF m 104 #[.val (.int x1), .val (.long q2), .second, .val (.int x3), .val (.int x4), .val (.int x5), .val (.int x6), .val (.int c2), .val (.int i1), .val (.int j1), .val (.int k1), .val (.ref b3), .val (.ref b11), .unset, .unset, .unset, .unset, .unset, .unset] [(.long ((x5.toInt64) + (x4.toInt64)))])) (fun tt_ kk_ => XS.ladd X31.here hx rfl (hb hby at_103) rfl kk_) ?_
      have ew : ((x5.toInt64) + (x4.toInt64)).toInt = x5.toInt + (if i1 = j1 then 0 else x4.toInt) := by
        rw [if_neg fE]
        have e0 : (0 : Int64).toInt = 0 := by decide
        have c4 := c_i2l x4; have c5 := c_i2l x5
        have a1 := c_ladd x5.toInt64 x4.toInt64; have b1 := rng64 (x5.toInt64 + x4.toInt64)
        omega
      exact J33 _ _ ((x5.toInt64) + (x4.toInt64)) Nf31 X31 e31 ew
  · have _u := True.intro
    have hcap : c2.toNatClampNeg ≤ 129 := by rw [own_clamp]; omega
    have hneg : ¬ c2 < 0 := by rw [own_nlt]; have e0 : (0 : Int32).toInt = 0 := (by decide); omega
    have b_i : i1.toNatClampNeg < c2.toNatClampNeg := by rw [own_clamp, own_clamp]; omega
    have b_j : j1.toNatClampNeg < c2.toNatClampNeg := by rw [own_clamp, own_clamp]; omega
    have b_k : k1.toNatClampNeg < c2.toNatClampNeg := by rw [own_clamp, own_clamp]; omega
    have hsum1 := own_sum1 b_i b_j x4.toInt x5.toInt
    have hsum2 := own_sum2 b_i b_j b_k x4.toInt x5.toInt x6.toInt
    simp only [own_cl_eq h_i1.1 h_j1.1] at hsum1
    simp only [own_cl_eq h_i1.1 h_j1.1, own_cl_eq h_j1.1 h_k1.1, own_cl_eq h_i1.1 h_k1.1] at hsum2
    have r4 := rng32 x4; have r5 := rng32 x5; have r6 := rng32 x6
    refine Wp.st (S' := T1.setTop (mkF m 47 #[.val (.int x1), .val (.long q2), .second, .val (.int x3), .val (.int x4), .val (.int x5), .val (.int x6), .val (.int c2), .val (.int i1), .val (.int j1), .val (.int k1), .unset, .unset, .unset, .unset, .unset, .unset, .unset, .unset] [(.int c2)])) (fun tt_ kk_ => XS.iload X1.here hx rfl (hb hby at_45) rfl  kk_) ?_
    obtain ⟨T55, h55, k55, X55, e55, E55, A55, Ea55, st55⟩ := newPE X1 hx hZ (hw _ (List.mem_of_getElem? (i := 6) rfl)) e1 (g := (mkF m 47 #[.val (.int x1), .val (.long q2), .second, .val (.int x3), .val (.int x4), .val (.int x5), .val (.int x6), .val (.int c2), .val (.int i1), .val (.int j1), .val (.int k1), .unset, .unset, .unset, .unset, .unset, .unset, .unset, .unset] [(.int c2)])) rfl (hb hby at_47) rfl hneg (cap := 129) hcap (by decide) (by decide) (by decide) (ad := "[D") (by decide +kernel)
    obtain ⟨b55, g55⟩ : ∃ z, z = h0.size := ⟨_, rfl⟩
    rw [← g55] at A55 Ea55 st55
    have z56 := E55.1
    have V55 : Arv Z h55 b55 k55 .double c2 [] (.double (0 : UInt64)) := Arv.new A55 hneg
    have g57 : n0 ≤ b55 := Nat.le_trans (Nat.le_trans Z0 (Nat.le_refl _)) (Nat.le_of_eq g55.symm)
    refine Wp.st (S' := T55.setTop (mkF m 49 #[.val (.int x1), .val (.long q2), .second, .val (.int x3), .val (.int x4), .val (.int x5), .val (.int x6), .val (.int c2), .val (.int i1), .val (.int j1), .val (.int k1), .unset, .unset, .unset, .unset, .unset, .unset, .unset, .unset] [(.ref b55)])) st55 ?_
    have Vz58 : Arv Z h55 b55 k55 .double c2 (own_dl own_z) (.double (0 : UInt64)) := (V55).pad (own_zpad 0)
    refine Wp.st (S' := T55.setTop (mkF m 51 #[.val (.int x1), .val (.long q2), .second, .val (.int x3), .val (.int x4), .val (.int x5), .val (.int x6), .val (.int c2), .val (.int i1), .val (.int j1), .val (.int k1), .val (.ref b55), .unset, .unset, .unset, .unset, .unset, .unset, .unset] [])) (fun tt_ kk_ => XS.astore X55.here hx rfl (hb hby at_49) rfl rfl (l' := #[.val (.int x1), .val (.long q2), .second, .val (.int x3), .val (.int x4), .val (.int x5), .val (.int x6), .val (.int c2), .val (.int i1), .val (.int j1), .val (.int k1), .val (.ref b55), .unset, .unset, .unset, .unset, .unset, .unset, .unset]) rfl kk_) ?_
    refine Wp.st (S' := T55.setTop (mkF m 53 #[.val (.int x1), .val (.long q2), .second, .val (.int x3), .val (.int x4), .val (.int x5), .val (.int x6), .val (.int c2), .val (.int i1), .val (.int j1), .val (.int k1), .val (.ref b55), .unset, .unset, .unset, .unset, .unset, .unset, .unset] [(.ref b55)])) (fun tt_ kk_ => XS.aload X55.here hx rfl (hb hby at_51) rfl rfl kk_) ?_
    refine Wp.st (S' := T55.setTop (mkF m 55 #[.val (.int x1), .val (.long q2), .second, .val (.int x3), .val (.int x4), .val (.int x5), .val (.int x6), .val (.int c2), .val (.int i1), .val (.int j1), .val (.int k1), .val (.ref b55), .unset, .unset, .unset, .unset, .unset, .unset, .unset] [(.int i1), (.ref b55)])) (fun tt_ kk_ => XS.iload X55.here hx rfl (hb hby at_53) rfl  kk_) ?_
    refine Wp.st (S' := T55.setTop (mkF m 57 #[.val (.int x1), .val (.long q2), .second, .val (.int x3), .val (.int x4), .val (.int x5), .val (.int x6), .val (.int c2), .val (.int i1), .val (.int j1), .val (.int k1), .val (.ref b55), .unset, .unset, .unset, .unset, .unset, .unset, .unset] [(.int x4), (.int i1), (.ref b55)])) (fun tt_ kk_ => XS.iload X55.here hx rfl (hb hby at_55) rfl  kk_) ?_
    refine Wp.st (S' := T55.setTop (mkF m 58 #[.val (.int x1), .val (.long q2), .second, .val (.int x3), .val (.int x4), .val (.int x5), .val (.int x6), .val (.int c2), .val (.int i1), .val (.int j1), .val (.int k1), .val (.ref b55), .unset, .unset, .unset, .unset, .unset, .unset, .unset] [(.double (FP.l2d (Int64.ofInt x4.toInt))), (.int i1), (.ref b55)])) (fun tt_ kk_ => XS.i2dS X55.here hx rfl (hb hby at_57) rfl (own_i2d x4) kk_) ?_
    obtain ⟨cl59, Ar59, q59, S59, N59, H59, G59⟩ := id Vz58
    have hin59 := inb_of (j := i1) S59 (own_ibn h_i1)
    obtain ⟨T59, h59, X59, e59, W59, st59⟩ := stD X55 hx hZ e55 Ar59 (j := i1) hin59 (g := (mkF m 58 #[.val (.int x1), .val (.long q2), .second, .val (.int x3), .val (.int x4), .val (.int x5), .val (.int x6), .val (.int c2), .val (.int i1), .val (.int j1), .val (.int k1), .val (.ref b55), .unset, .unset, .unset, .unset, .unset, .unset, .unset] [(.double (FP.l2d (Int64.ofInt x4.toInt))), (.int i1), (.ref b55)])) rfl rfl (hb hby at_58)
    have z60 := Nat.le_of_eq W59.size.symm
    have V59 : Arv Z h59 b55 k55 .double c2 (own_dl (own_up own_z i1.toNatClampNeg x4.toInt)) (.double (0 : UInt64)) := own_aset Ar59 q59 S59 N59 H59 G59 W59 (by rw [own_clamp]; omega)
    have Nf59 := Fr.snoc X59 N1 g57
    refine Wp.st (S' := T59.setTop (mkF m 59 #[.val (.int x1), .val (.long q2), .second, .val (.int x3), .val (.int x4), .val (.int x5), .val (.int x6), .val (.int c2), .val (.int i1), .val (.int j1), .val (.int k1), .val (.ref b55), .unset, .unset, .unset, .unset, .unset, .unset, .unset] [])) st59 ?_
    refine Wp.st (S' := T59.setTop (mkF m 61 #[.val (.int x1), .val (.long q2), .second, .val (.int x3), .val (.int x4), .val (.int x5), .val (.int x6), .val (.int c2), .val (.int i1), .val (.int j1), .val (.int k1), .val (.ref b55), .unset, .unset, .unset, .unset, .unset, .unset, .unset] [(.ref b55)])) (fun tt_ kk_ => XS.aload X59.here hx rfl (hb hby at_59) rfl rfl kk_) ?_
    refine Wp.st (S' := T59.setTop (mkF m 63 #[.val (.int x1), .val (.long q2), .second, .val (.int x3), .val (.int x4), .val (.int x5), .val (.int x6), .val (.int c2), .val (.int i1), .val (.int j1), .val (.int k1), .val (.ref b55), .unset, .unset, .unset, .unset, .unset, .unset, .unset] [(.int j1), (.ref b55)])) (fun tt_ kk_ => XS.iload X59.here hx rfl (hb hby at_61) rfl  kk_) ?_
    refine Wp.st (S' := T59.setTop (mkF m 65 #[.val (.int x1), .val (.long q2), .second, .val (.int x3), .val (.int x4), .val (.int x5), .val (.int x6), .val (.int c2), .val (.int i1), .val (.int j1), .val (.int k1), .val (.ref b55), .unset, .unset, .unset, .unset, .unset, .unset, .unset] [(.int x5), (.int j1), (.ref b55)])) (fun tt_ kk_ => XS.iload X59.here hx rfl (hb hby at_63) rfl  kk_) ?_
    refine Wp.st (S' := T59.setTop (mkF m 66 #[.val (.int x1), .val (.long q2), .second, .val (.int x3), .val (.int x4), .val (.int x5), .val (.int x6), .val (.int c2), .val (.int i1), .val (.int j1), .val (.int k1), .val (.ref b55), .unset, .unset, .unset, .unset, .unset, .unset, .unset] [(.double (FP.l2d (Int64.ofInt x5.toInt))), (.int j1), (.ref b55)])) (fun tt_ kk_ => XS.i2dS X59.here hx rfl (hb hby at_65) rfl (own_i2d x5) kk_) ?_
    obtain ⟨cl61, Ar61, q61, S61, N61, H61, G61⟩ := id V59
    have hin61 := inb_of (j := j1) S61 (own_ibn h_j1)
    obtain ⟨T61, h61, X61, e61, W61, st61⟩ := stD X59 hx hZ e59 Ar61 (j := j1) hin61 (g := (mkF m 66 #[.val (.int x1), .val (.long q2), .second, .val (.int x3), .val (.int x4), .val (.int x5), .val (.int x6), .val (.int c2), .val (.int i1), .val (.int j1), .val (.int k1), .val (.ref b55), .unset, .unset, .unset, .unset, .unset, .unset, .unset] [(.double (FP.l2d (Int64.ofInt x5.toInt))), (.int j1), (.ref b55)])) rfl rfl (hb hby at_66)
    have z62 := Nat.le_of_eq W61.size.symm
    have V61 : Arv Z h61 b55 k55 .double c2 (own_dl (own_up (own_up own_z i1.toNatClampNeg x4.toInt) j1.toNatClampNeg x5.toInt)) (.double (0 : UInt64)) := own_aset Ar61 q61 S61 N61 H61 G61 W61 (by rw [own_clamp]; omega)
    have Nf61 := Fr.snoc X61 Nf59 g57
    refine Wp.st (S' := T61.setTop (mkF m 67 #[.val (.int x1), .val (.long q2), .second, .val (.int x3), .val (.int x4), .val (.int x5), .val (.int x6), .val (.int c2), .val (.int i1), .val (.int j1), .val (.int k1), .val (.ref b55), .unset, .unset, .unset, .unset, .unset, .unset, .unset] [])) st61 ?_
    obtain ⟨T63, h63, X63, e63, E63, A63, D63, U63, st63⟩ := newO X61 hx hZ hown (hw _ (List.mem_of_getElem? (i := 7) rfl)) (hw _ (List.mem_of_getElem? (i := 8) rfl)) (hw _ (List.mem_of_getElem? (i := 9) rfl)) e61 (g := (mkF m 67 #[.val (.int x1), .val (.long q2), .second, .val (.int x3), .val (.int x4), .val (.int x5), .val (.int x6), .val (.int c2), .val (.int i1), .val (.int j1), .val (.int k1), .val (.ref b55), .unset, .unset, .unset, .unset, .unset, .unset, .unset] [])) rfl (hb hby at_67) (by decide) (by decide)
    obtain ⟨b63, g63⟩ : ∃ z, z = h61.size := ⟨_, rfl⟩
    rw [← g63] at A63 D63 U63 st63
    have z64 := E63.1
    have g65 : n0 ≤ b63 := Nat.le_trans (Nat.le_trans Z0 (Nat.le_trans (Nat.le_trans z56 z60) z62)) (Nat.le_of_eq g63.symm)
    have F66 : Fld Z h63 b63 "com/example/dags_over_clouds/dagsoverclouds/plan/Tally" "levels" "[[D" .null := D63 (Or.inr (hw _ (List.mem_of_getElem? (i := 23) rfl))) (ty := (.array (.array .double))) (by decide)
    refine Wp.st (S' := T63.setTop (mkF m 70 #[.val (.int x1), .val (.long q2), .second, .val (.int x3), .val (.int x4), .val (.int x5), .val (.int x6), .val (.int c2), .val (.int i1), .val (.int j1), .val (.int k1), .val (.ref b55), .unset, .unset, .unset, .unset, .unset, .unset, .unset] [(.ref b63)])) st63 ?_
    refine Wp.st (S' := T63.setTop (mkF m 71 #[.val (.int x1), .val (.long q2), .second, .val (.int x3), .val (.int x4), .val (.int x5), .val (.int x6), .val (.int c2), .val (.int i1), .val (.int j1), .val (.int k1), .val (.ref b55), .unset, .unset, .unset, .unset, .unset, .unset, .unset] [(.ref b63), (.ref b63)])) (fun tt_ kk_ => XS.dup X63.here hx rfl (hb hby at_70) rfl rfl kk_) ?_
    refine Wp.st (S' := T63.setTop (mkF m 73 #[.val (.int x1), .val (.long q2), .second, .val (.int x3), .val (.int x4), .val (.int x5), .val (.int x6), .val (.int c2), .val (.int i1), .val (.int j1), .val (.int k1), .val (.ref b55), .unset, .unset, .unset, .unset, .unset, .unset, .unset] [(.ref b55), (.ref b63), (.ref b63)])) (fun tt_ kk_ => XS.aload X63.here hx rfl (hb hby at_71) rfl rfl kk_) ?_
    have F68 := V61.ext E63
    have F69 := Ea55.wr W59
    have F70 := F69.wr W61
    have F71 := F70.ext E63
    obtain ⟨vv67, _, ⟨T67, L67, k67, n67⟩, -, X67, ⟨Lc67, hQ67, l67, y67, z67⟩, st67⟩ := X63.specialBack hx (y := (⟨"com/example/dags_over_clouds/dagsoverclouds/plan/Tally", "<init>", "([D)V"⟩ : MethodName)) rfl hown (mvT hZ (hw _ (List.mem_of_getElem? (i := 10) rfl))) (mvT hZ (hw _ (List.mem_of_getElem? (i := 11) rfl))) (mvT hZ (hw _ (List.mem_of_getElem? (i := 12) rfl))) (by decide) (backOf (W := 1) (rmInitA l Z a0 hw [] b63 b55 k55 c2 (own_up (own_up own_z i1.toNatClampNeg x4.toInt) j1.toNatClampNeg x5.toInt) h63 n0 (Nat.le_trans Z0 (Nat.le_trans (Nat.le_trans (Nat.le_trans z56 z60) z62) z64)) g65 A63 F66 F68 F71 ((own_b0_up (own_b0_up own_b0_z _ _) _ _) : own_b0 (own_up (own_up own_z i1.toNatClampNeg x4.toInt) j1.toNatClampNeg x5.toInt)) ((by assumption) : c2 = (2 : Int32) ∨ c2 = (3 : Int32) ∨ c2 = (63 : Int32) ∨ c2 = (64 : Int32)) ((Ne.symm (Nat.ne_of_lt (Nat.lt_of_lt_of_le V55.lt (Nat.le_trans (Nat.le_trans z60 z62) (Nat.le_of_eq g63.symm))))) : b63 ≠ b55)) hZ (hw _ (List.mem_of_getElem? (i := 12) rfl)) (hw _ (List.mem_of_getElem? (i := 9) rfl)) (by decide) (by decide)) (g := (mkF m 73 #[.val (.int x1), .val (.long q2), .second, .val (.int x3), .val (.int x4), .val (.int x5), .val (.int x6), .val (.int c2), .val (.int i1), .val (.int j1), .val (.int k1), .val (.ref b55), .unset, .unset, .unset, .unset, .unset, .unset, .unset] [(.ref b55), (.ref b63), (.ref b63)])) rfl (by rw [hml]; rfl) (Steps.refl _) (a := b63) (argsL := [(.ref b55)]) (rest := [(.ref b63)]) (lenOf pd_3 rfl) rfl (by show 2 * 0 + _ ≤ _; exact Nat.le_of_eq rfl) (hb hby at_73) (fun _ _ => ⟨rfl, e63, (by decide : 2 + 3 ≤ _), (by decide : 130 + 132 ≤ _)⟩)
    dsimp only [Pt.U, Pt.locs, Pt.cells, Pt.slots] at X67 l67 y67 z67 st67 hQ67
    subst l67 y67 z67
    obtain ⟨b72, b73, b74, c75, c76, c77, rfl, Nq67, K67, P67_0, P67_1, P67_2, P67_3, P67_4, P67_5, P67_6, P67_7, P67_8, P67_9, P67_10⟩ := hQ67
    have N67 := Fr.app Nf61 Nq67
    have z78 := K67.1
    have g79 : n0 ≤ b72 := Nat.le_trans (Nat.le_trans Z0 (Nat.le_trans (Nat.le_trans (Nat.le_trans z56 z60) z62) z64)) P67_0
    have g80 : n0 ≤ b73 := Nat.le_trans (Nat.le_trans Z0 (Nat.le_trans (Nat.le_trans (Nat.le_trans z56 z60) z62) z64)) P67_1
    have g81 : n0 ≤ b74 := Nat.le_trans (Nat.le_trans Z0 (Nat.le_trans (Nat.le_trans (Nat.le_trans z56 z60) z62) z64)) P67_2
    have e67 : T67.heap = T67.heap := rfl
    refine Wp.tr (S' := T67.setTop (mkF m 76 #[.val (.int x1), .val (.long q2), .second, .val (.int x3), .val (.int x4), .val (.int x5), .val (.int x6), .val (.int c2), .val (.int i1), .val (.int j1), .val (.int k1), .val (.ref b55), .unset, .unset, .unset, .unset, .unset, .unset, .unset] [(.ref b63)])) st67 ?_
    refine Wp.st (S' := T67.setTop (mkF m 78 #[.val (.int x1), .val (.long q2), .second, .val (.int x3), .val (.int x4), .val (.int x5), .val (.int x6), .val (.int c2), .val (.int i1), .val (.int j1), .val (.int k1), .val (.ref b55), .val (.ref b63), .unset, .unset, .unset, .unset, .unset, .unset] [])) (fun tt_ kk_ => XS.astore X67.here hx rfl (hb hby at_76) rfl rfl (l' := #[.val (.int x1), .val (.long q2), .second, .val (.int x3), .val (.int x4), .val (.int x5), .val (.int x6), .val (.int c2), .val (.int i1), .val (.int j1), .val (.int k1), .val (.ref b55), .val (.ref b63), .unset, .unset, .unset, .unset, .unset, .unset]) rfl kk_) ?_
    refine Wp.st (S' := T67.setTop (mkF m 80 #[.val (.int x1), .val (.long q2), .second, .val (.int x3), .val (.int x4), .val (.int x5), .val (.int x6), .val (.int c2), .val (.int i1), .val (.int j1), .val (.int k1), .val (.ref b55), .val (.ref b63), .unset, .unset, .unset, .unset, .unset, .unset] [(.ref b55)])) (fun tt_ kk_ => XS.aload X67.here hx rfl (hb hby at_78) rfl rfl kk_) ?_
    refine Wp.st (S' := T67.setTop (mkF m 82 #[.val (.int x1), .val (.long q2), .second, .val (.int x3), .val (.int x4), .val (.int x5), .val (.int x6), .val (.int c2), .val (.int i1), .val (.int j1), .val (.int k1), .val (.ref b55), .val (.ref b63), .unset, .unset, .unset, .unset, .unset, .unset] [(.int i1), (.ref b55)])) (fun tt_ kk_ => XS.iload X67.here hx rfl (hb hby at_80) rfl  kk_) ?_
    refine Wp.st (S' := T67.setTop (mkF m 84 #[.val (.int x1), .val (.long q2), .second, .val (.int x3), .val (.int x4), .val (.int x5), .val (.int x6), .val (.int c2), .val (.int i1), .val (.int j1), .val (.int k1), .val (.ref b55), .val (.ref b63), .unset, .unset, .unset, .unset, .unset, .unset] [(.int x6), (.int i1), (.ref b55)])) (fun tt_ kk_ => XS.iload X67.here hx rfl (hb hby at_82) rfl  kk_) ?_
    refine Wp.st (S' := T67.setTop (mkF m 85 #[.val (.int x1), .val (.long q2), .second, .val (.int x3), .val (.int x4), .val (.int x5), .val (.int x6), .val (.int c2), .val (.int i1), .val (.int j1), .val (.int k1), .val (.ref b55), .val (.ref b63), .unset, .unset, .unset, .unset, .unset, .unset] [(.double (FP.l2d (Int64.ofInt x6.toInt))), (.int i1), (.ref b55)])) (fun tt_ kk_ => XS.i2dS X67.here hx rfl (hb hby at_84) rfl (own_i2d x6) kk_) ?_
    have F82 := F68.keep K67 (ninS (Nat.ne_of_lt (Nat.lt_of_lt_of_le V55.lt (Nat.le_trans (Nat.le_trans z60 z62) (Nat.le_of_eq g63.symm)))) nin0)
    obtain ⟨cl83, Ar83, q83, S83, N83, H83, G83⟩ := id F82
    have hin83 := inb_of (j := i1) S83 (own_ibn h_i1)
    obtain ⟨T83, h83, X83, e83, W83, st83⟩ := stD X67 hx hZ e67 Ar83 (j := i1) hin83 (g := (mkF m 85 #[.val (.int x1), .val (.long q2), .second, .val (.int x3), .val (.int x4), .val (.int x5), .val (.int x6), .val (.int c2), .val (.int i1), .val (.int j1), .val (.int k1), .val (.ref b55), .val (.ref b63), .unset, .unset, .unset, .unset, .unset, .unset] [(.double (FP.l2d (Int64.ofInt x6.toInt))), (.int i1), (.ref b55)])) rfl rfl (hb hby at_85)
    have z84 := Nat.le_of_eq W83.size.symm
    have V83 : Arv Z h83 b55 k55 .double c2 (own_dl (own_up (own_up (own_up own_z i1.toNatClampNeg x4.toInt) j1.toNatClampNeg x5.toInt) i1.toNatClampNeg x6.toInt)) (.double (0 : UInt64)) := own_aset Ar83 q83 S83 N83 H83 G83 W83 (by rw [own_clamp]; omega)
    have Nf83 := Fr.snoc X83 N67 g57
    refine Wp.st (S' := T83.setTop (mkF m 86 #[.val (.int x1), .val (.long q2), .second, .val (.int x3), .val (.int x4), .val (.int x5), .val (.int x6), .val (.int c2), .val (.int i1), .val (.int j1), .val (.int k1), .val (.ref b55), .val (.ref b63), .unset, .unset, .unset, .unset, .unset, .unset] [])) st83 ?_
    refine Wp.st (S' := T83.setTop (mkF m 88 #[.val (.int x1), .val (.long q2), .second, .val (.int x3), .val (.int x4), .val (.int x5), .val (.int x6), .val (.int c2), .val (.int i1), .val (.int j1), .val (.int k1), .val (.ref b55), .val (.ref b63), .unset, .unset, .unset, .unset, .unset, .unset] [(.int x5)])) (fun tt_ kk_ => XS.iload X83.here hx rfl (hb hby at_86) rfl  kk_) ?_
    have J85 : ∀ (TJ85 : State) (loJ85 : List Loc) (wa : Int64) (NJ85 : Fr n0 loJ85) (XJ85 : Stand p l e room_1 s m #[(.int x1), (.long q2), (.int x3), (.int x4), (.int x5), (.int x6)] below meth c TJ85 loJ85 5 262) (eJ85 : TJ85.heap = h83) (hwa : wa.toInt = x5.toInt + (if i1 = j1 then 0 else x4.toInt)), Wp p e below (fun o U' => ∃ v L, o = .returned v ∧ Q_rm0 Z x1 q2 x3 x4 x5 x6 h0 n0 v U'.heap L ∧ FrameEnd s o U' L room_1.cells room_1.slots) (TJ85.setTop (mkF m 104 #[.val (.int x1), .val (.long q2), .second, .val (.int x3), .val (.int x4), .val (.int x5), .val (.int x6), .val (.int c2), .val (.int i1), .val (.int j1), .val (.int k1), .val (.ref b55), .val (.ref b63), .unset, .unset, .unset, .unset, .unset, .unset] [(.long wa)])) := by
      intro TJ85 loJ85 wa NJ85 XJ85 eJ85 hwa
      have htop : (own_up own_z (0 : Int32).toNatClampNeg (own_R (own_up (own_up own_z i1.toNatClampNeg x4.toInt) j1.toNatClampNeg x5.toInt) c2.toNatClampNeg (0 : Int32).toNatClampNeg)) (0 : Int32).toNatClampNeg = own_S (own_up (own_up own_z i1.toNatClampNeg x4.toInt) j1.toNatClampNeg x5.toInt) 0 c2.toNatClampNeg := own_topA (own_up (own_up own_z i1.toNatClampNeg x4.toInt) j1.toNatClampNeg x5.toInt) (by rcases hn with rfl | rfl | rfl | rfl <;> decide)
      rw [hsum1] at htop
      have hb1 : -9007199254740992 < (own_up own_z (0 : Int32).toNatClampNeg (own_R (own_up (own_up own_z i1.toNatClampNeg x4.toInt) j1.toNatClampNeg x5.toInt) c2.toNatClampNeg (0 : Int32).toNatClampNeg)) (0 : Int32).toNatClampNeg ∧ (own_up own_z (0 : Int32).toNatClampNeg (own_R (own_up (own_up own_z i1.toNatClampNeg x4.toInt) j1.toNatClampNeg x5.toInt) c2.toNatClampNeg (0 : Int32).toNatClampNeg)) (0 : Int32).toNatClampNeg < 9007199254740992 := by rw [htop]; split <;> omega
      refine Wp.st (S' := TJ85.setTop (mkF m 106 #[.val (.int x1), .val (.long q2), .second, .val (.int x3), .val (.int x4), .val (.int x5), .val (.int x6), .val (.int c2), .val (.int i1), .val (.int j1), .val (.int k1), .val (.ref b55), .val (.ref b63), .val (.long wa), .second, .unset, .unset, .unset, .unset] [])) (fun tt_ kk_ => XS.lstore XJ85.here hx rfl (hb hby at_104) rfl (l' := #[.val (.int x1), .val (.long q2), .second, .val (.int x3), .val (.int x4), .val (.int x5), .val (.int x6), .val (.int c2), .val (.int i1), .val (.int j1), .val (.int k1), .val (.ref b55), .val (.ref b63), .val (.long wa), .second, .unset, .unset, .unset, .unset]) rfl kk_) ?_
      refine Wp.st (S' := TJ85.setTop (mkF m 108 #[.val (.int x1), .val (.long q2), .second, .val (.int x3), .val (.int x4), .val (.int x5), .val (.int x6), .val (.int c2), .val (.int i1), .val (.int j1), .val (.int k1), .val (.ref b55), .val (.ref b63), .val (.long wa), .second, .unset, .unset, .unset, .unset] [(.ref b63)])) (fun tt_ kk_ => XS.aload XJ85.here hx rfl (hb hby at_106) rfl rfl kk_) ?_
      have F87 := P67_4.other W83 (Or.inl (Ne.symm (Nat.ne_of_lt (Nat.lt_of_lt_of_le V55.lt (Nat.le_trans (Nat.le_trans z60 z62) (Nat.le_of_eq g63.symm))))))
      have F88 := P67_5.other W83 (Ne.symm (Nat.ne_of_lt (Nat.lt_of_lt_of_le V55.lt (Nat.le_trans (Nat.le_trans (Nat.le_trans z60 z62) z64) P67_0))))
      have F89 := P67_7.other W83 (Ne.symm (Nat.ne_of_lt (Nat.lt_of_lt_of_le V55.lt (Nat.le_trans (Nat.le_trans (Nat.le_trans z60 z62) z64) P67_2))))
      have F90 := P67_3.wr W83
      obtain ⟨cq86, kq86, q86a, q86b, q86c⟩ := isOf hZ eJ85 F90
      obtain ⟨vv86, _, ⟨T86, L86, k86, n86⟩, -, X86, ⟨Lc86, hQ86, l86, y86, z86⟩, st86⟩ := XJ85.virtualBack hx (y := (⟨"com/example/dags_over_clouds/dagsoverclouds/plan/Tally", "sum", "()D"⟩ : MethodName)) (z := (⟨"com/example/dags_over_clouds/dagsoverclouds/plan/Tally", "sum", "()D"⟩ : MethodName)) hown (mvT hZ (hw _ (List.mem_of_getElem? (i := 42) rfl))) (mvT hZ (hw _ (List.mem_of_getElem? (i := 43) rfl))) (notFace_of_selects (args := #[]) (mvT hZ (hw _ (List.mem_of_getElem? (i := 45) rfl)))) (mvT hZ (hw _ (List.mem_of_getElem? (i := 45) rfl))) (mvT hZ (hw _ (List.mem_of_getElem? (i := 44) rfl))) (by decide) (backOf (W := 0) (rmSum2 l Z a0 hw [] b63 b72 (.ref b73) b74 c75 c77 (own_up own_z (0 : Int32).toNatClampNeg (own_R (own_up (own_up own_z i1.toNatClampNeg x4.toInt) j1.toNatClampNeg x5.toInt) c2.toNatClampNeg (0 : Int32).toNatClampNeg)) h83 n0 (Nat.le_trans Z0 (Nat.le_trans (Nat.le_trans (Nat.le_trans (Nat.le_trans (Nat.le_trans z56 z60) z62) z64) z78) z84)) F87 F88 F89) hZ (hw _ (List.mem_of_getElem? (i := 46) rfl)) (hw _ (List.mem_of_getElem? (i := 9) rfl)) (by decide) (by decide)) q86a q86c (g := (mkF m 108 #[.val (.int x1), .val (.long q2), .second, .val (.int x3), .val (.int x4), .val (.int x5), .val (.int x6), .val (.int c2), .val (.int i1), .val (.int j1), .val (.int k1), .val (.ref b55), .val (.ref b63), .val (.long wa), .second, .unset, .unset, .unset, .unset] [(.ref b63)])) rfl (by rw [hml]; rfl) (Steps.refl _) (argsL := []) (rest := []) (lenOf pd_4 rfl) rfl (by show 2 * 0 + _ ≤ _; exact Nat.le_of_eq rfl) (hb hby at_108) (fun _ _ => ⟨rfl, eJ85, (by decide : 5 + 0 ≤ _), (by decide : 262 + 0 ≤ _)⟩)
      dsimp only [Pt.U, Pt.locs, Pt.cells, Pt.slots] at X86 l86 y86 z86 st86 hQ86
      subst l86 y86 z86
      obtain ⟨rfl, Nq86, e86⟩ := hQ86
      have N86 := Fr.app NJ85 Nq86
      refine Wp.tr (S' := T86.setTop (mkF m 111 #[.val (.int x1), .val (.long q2), .second, .val (.int x3), .val (.int x4), .val (.int x5), .val (.int x6), .val (.int c2), .val (.int i1), .val (.int j1), .val (.int k1), .val (.ref b55), .val (.ref b63), .val (.long wa), .second, .unset, .unset, .unset, .unset] [(.double (FP.l2d (Int64.ofInt ((own_up own_z (0 : Int32).toNatClampNeg (own_R (own_up (own_up own_z i1.toNatClampNeg x4.toInt) j1.toNatClampNeg x5.toInt) c2.toNatClampNeg (0 : Int32).toNatClampNeg)) (0 : Int32).toNatClampNeg))))])) st86 ?_
      refine Wp.st (S' := T86.setTop (mkF m 113 #[.val (.int x1), .val (.long q2), .second, .val (.int x3), .val (.int x4), .val (.int x5), .val (.int x6), .val (.int c2), .val (.int i1), .val (.int j1), .val (.int k1), .val (.ref b55), .val (.ref b63), .val (.long wa), .second, .unset, .unset, .unset, .unset] [(.long wa), (.double (FP.l2d (Int64.ofInt ((own_up own_z (0 : Int32).toNatClampNeg (own_R (own_up (own_up own_z i1.toNatClampNeg x4.toInt) j1.toNatClampNeg x5.toInt) c2.toNatClampNeg (0 : Int32).toNatClampNeg)) (0 : Int32).toNatClampNeg))))])) (fun tt_ kk_ => XS.lload X86.here hx rfl (hb hby at_111) rfl  kk_) ?_
      refine Wp.st (S' := T86.setTop (mkF m 114 #[.val (.int x1), .val (.long q2), .second, .val (.int x3), .val (.int x4), .val (.int x5), .val (.int x6), .val (.int c2), .val (.int i1), .val (.int j1), .val (.int k1), .val (.ref b55), .val (.ref b63), .val (.long wa), .second, .unset, .unset, .unset, .unset] [(.double (FP.l2d wa)), (.double (FP.l2d (Int64.ofInt ((own_up own_z (0 : Int32).toNatClampNeg (own_R (own_up (own_up own_z i1.toNatClampNeg x4.toInt) j1.toNatClampNeg x5.toInt) c2.toNatClampNeg (0 : Int32).toNatClampNeg)) (0 : Int32).toNatClampNeg))))])) (fun tt_ kk_ => XS.l2dS X86.here hx rfl (hb hby at_113) rfl rfl kk_) ?_
      refine Wp.st (S' := T86.setTop (mkF m 115 #[.val (.int x1), .val (.long q2), .second, .val (.int x3), .val (.int x4), .val (.int x5), .val (.int x6), .val (.int c2), .val (.int i1), .val (.int j1), .val (.int k1), .val (.ref b55), .val (.ref b63), .val (.long wa), .second, .unset, .unset, .unset, .unset] [(.int (0 : Int32))])) (fun tt_ kk_ => XS.dcmpS X86.here hx rfl (hb hby at_114) rfl (own_cmp (hwa.trans htop.symm) hb1) kk_) ?_
      refine Wp.st (S' := T86.setTop (mkF m 118 #[.val (.int x1), .val (.long q2), .second, .val (.int x3), .val (.int x4), .val (.int x5), .val (.int x6), .val (.int c2), .val (.int i1), .val (.int j1), .val (.int k1), .val (.ref b55), .val (.ref b63), .val (.long wa), .second, .unset, .unset, .unset, .unset] [])) (fun tt_ kk_ => XS.ifNo X86.here hx rfl (hb hby at_115) rfl ((if0 _ _).trans (teq ((by decide) : (0 : Int32) = (0 : Int32))).2) kk_) ?_
      refine Wp.st (S' := T86.setTop (mkF m 119 #[.val (.int x1), .val (.long q2), .second, .val (.int x3), .val (.int x4), .val (.int x5), .val (.int x6), .val (.int c2), .val (.int i1), .val (.int j1), .val (.int k1), .val (.ref b55), .val (.ref b63), .val (.long wa), .second, .unset, .unset, .unset, .unset] [(.int (1 : Int32))])) (fun tt_ kk_ => XS.iconst X86.here hx rfl (hb hby at_118) kk_) ?_
      refine Wp.st (S' := T86.setTop (mkF m 123 #[.val (.int x1), .val (.long q2), .second, .val (.int x3), .val (.int x4), .val (.int x5), .val (.int x6), .val (.int c2), .val (.int i1), .val (.int j1), .val (.int k1), .val (.ref b55), .val (.ref b63), .val (.long wa), .second, .unset, .unset, .unset, .unset] [(.int (1 : Int32))])) (fun tt_ kk_ => XS.goto X86.here hx rfl (pc0 := 119) (pc' := 123) rfl (hb hby at_119) (by decide) (by decide) kk_) ?_
      refine Wp.st (S' := T86.setTop (mkF m 125 #[.val (.int x1), .val (.long q2), .second, .val (.int x3), .val (.int x4), .val (.int x5), .val (.int x6), .val (.int c2), .val (.int i1), .val (.int j1), .val (.int k1), .val (.ref b55), .val (.ref b63), .val (.long wa), .second, .val (.int (1 : Int32)), .unset, .unset, .unset] [])) (fun tt_ kk_ => XS.istore X86.here hx rfl (hb hby at_123) rfl (l' := #[.val (.int x1), .val (.long q2), .second, .val (.int x3), .val (.int x4), .val (.int x5), .val (.int x6), .val (.int c2), .val (.int i1), .val (.int j1), .val (.int k1), .val (.ref b55), .val (.ref b63), .val (.long wa), .second, .val (.int (1 : Int32)), .unset, .unset, .unset]) rfl kk_) ?_
      refine Wp.st (S' := T86.setTop (mkF m 127 #[.val (.int x1), .val (.long q2), .second, .val (.int x3), .val (.int x4), .val (.int x5), .val (.int x6), .val (.int c2), .val (.int i1), .val (.int j1), .val (.int k1), .val (.ref b55), .val (.ref b63), .val (.long wa), .second, .val (.int (1 : Int32)), .unset, .unset, .unset] [(.ref b63)])) (fun tt_ kk_ => XS.aload X86.here hx rfl (hb hby at_125) rfl rfl kk_) ?_
      refine Wp.st (S' := T86.setTop (mkF m 129 #[.val (.int x1), .val (.long q2), .second, .val (.int x3), .val (.int x4), .val (.int x5), .val (.int x6), .val (.int c2), .val (.int i1), .val (.int j1), .val (.int k1), .val (.ref b55), .val (.ref b63), .val (.long wa), .second, .val (.int (1 : Int32)), .unset, .unset, .unset] [(.int k1), (.ref b63)])) (fun tt_ kk_ => XS.iload X86.here hx rfl (hb hby at_127) rfl  kk_) ?_
      refine Wp.st (S' := T86.setTop (mkF m 131 #[.val (.int x1), .val (.long q2), .second, .val (.int x3), .val (.int x4), .val (.int x5), .val (.int x6), .val (.int c2), .val (.int i1), .val (.int j1), .val (.int k1), .val (.ref b55), .val (.ref b63), .val (.long wa), .second, .val (.int (1 : Int32)), .unset, .unset, .unset] [(.int x6), (.int k1), (.ref b63)])) (fun tt_ kk_ => XS.iload X86.here hx rfl (hb hby at_129) rfl  kk_) ?_
      refine Wp.st (S' := T86.setTop (mkF m 132 #[.val (.int x1), .val (.long q2), .second, .val (.int x3), .val (.int x4), .val (.int x5), .val (.int x6), .val (.int c2), .val (.int i1), .val (.int j1), .val (.int k1), .val (.ref b55), .val (.ref b63), .val (.long wa), .second, .val (.int (1 : Int32)), .unset, .unset, .unset] [(.double (FP.l2d (Int64.ofInt x6.toInt))), (.int k1), (.ref b63)])) (fun tt_ kk_ => XS.i2dS X86.here hx rfl (hb hby at_131) rfl (own_i2d x6) kk_) ?_
      have hk_ : 0 ≤ k1.toInt ∧ k1.toInt < c2.toInt ∧ c2.toInt ≤ 129 := by omega
      have hq64 := own_q64 h_k1.1
      have hr1_ : own_hr (k1 / (64 : Int32)) c2 (1 : Int32) := by
        have hnv : c2.toInt ≤ 64 := by rcases hn with rfl | rfl | rfl | rfl <;> decide
        have e1 : (1 : Int32).toInt = 1 := by decide
        unfold own_hr; rw [hq64, e1]; omega
      have F92 := P67_6.other W83 (Ne.symm (Nat.ne_of_lt (Nat.lt_of_lt_of_le V55.lt (Nat.le_trans (Nat.le_trans (Nat.le_trans z60 z62) z64) P67_1))))
      obtain ⟨cq91, kq91, q91a, q91b, q91c⟩ := isOf hZ e86 F90
      obtain ⟨vv91, _, ⟨T91, L91, k91, n91⟩, -, X91, ⟨Lc91, hQ91, l91, y91, z91⟩, st91⟩ := X86.virtualBack hx (y := (⟨"com/example/dags_over_clouds/dagsoverclouds/plan/Tally", "set", "(ID)V"⟩ : MethodName)) (z := (⟨"com/example/dags_over_clouds/dagsoverclouds/plan/Tally", "set", "(ID)V"⟩ : MethodName)) hown (mvT hZ (hw _ (List.mem_of_getElem? (i := 47) rfl))) (mvT hZ (hw _ (List.mem_of_getElem? (i := 48) rfl))) (notFace_of_selects (args := #[]) (mvT hZ (hw _ (List.mem_of_getElem? (i := 50) rfl)))) (mvT hZ (hw _ (List.mem_of_getElem? (i := 50) rfl))) (mvT hZ (hw _ (List.mem_of_getElem? (i := 49) rfl))) (by decide) (backOf (W := 0) (rmSet2 l Z a0 hw [] b63 k1 (FP.l2d (Int64.ofInt x6.toInt)) x6.toInt b72 b73 b74 c75 c76 c77 c2 (own_up (own_up own_z i1.toNatClampNeg x4.toInt) j1.toNatClampNeg x5.toInt) (own_up own_z (0 : Int32).toNatClampNeg (own_R (own_up (own_up own_z i1.toNatClampNeg x4.toInt) j1.toNatClampNeg x5.toInt) c2.toNatClampNeg (0 : Int32).toNatClampNeg)) h83 n0 (Nat.le_trans Z0 (Nat.le_trans (Nat.le_trans (Nat.le_trans (Nat.le_trans (Nat.le_trans z56 z60) z62) z64) z78) z84)) g80 g81 F90 F87 F88 F92 F89 (rfl : (FP.l2d (Int64.ofInt x6.toInt)) = (FP.l2d (Int64.ofInt x6.toInt))) ((by assumption) : 0 ≤ k1.toInt ∧ k1.toInt < c2.toInt ∧ c2.toInt ≤ 129) ((by assumption) : own_hr (k1 / (64 : Int32)) c2 (1 : Int32)) ((own_b0_up (own_b0_up (own_b0_up own_b0_z _ _) _ _) _ _) : own_b0 (own_up (own_up (own_up own_z i1.toNatClampNeg x4.toInt) j1.toNatClampNeg x5.toInt) k1.toNatClampNeg x6.toInt)) ((Nat.ne_of_lt (Nat.lt_of_lt_of_le A63.lt (Nat.le_trans (Nat.le_refl _) P67_0))) : b63 ≠ b72) ((Nat.ne_of_lt (Nat.lt_of_lt_of_le A63.lt (Nat.le_trans (Nat.le_refl _) P67_1))) : b63 ≠ b73) ((Nat.ne_of_lt (Nat.lt_of_lt_of_le A63.lt (Nat.le_trans (Nat.le_refl _) P67_2))) : b63 ≠ b74) (P67_8 : b72 ≠ b73) (P67_9 : b72 ≠ b74) (P67_10 : b73 ≠ b74)) hZ (hw _ (List.mem_of_getElem? (i := 51) rfl)) (hw _ (List.mem_of_getElem? (i := 9) rfl)) (by decide) (by decide)) q91a q91c (g := (mkF m 132 #[.val (.int x1), .val (.long q2), .second, .val (.int x3), .val (.int x4), .val (.int x5), .val (.int x6), .val (.int c2), .val (.int i1), .val (.int j1), .val (.int k1), .val (.ref b55), .val (.ref b63), .val (.long wa), .second, .val (.int (1 : Int32)), .unset, .unset, .unset] [(.double (FP.l2d (Int64.ofInt x6.toInt))), (.int k1), (.ref b63)])) rfl (by rw [hml]; rfl) (Steps.refl _) (argsL := [(.int k1), (.double (FP.l2d (Int64.ofInt x6.toInt)))]) (rest := []) (lenOf pd_5 rfl) rfl (by show 2 * 0 + _ ≤ _; exact Nat.le_of_eq rfl) (hb hby at_132) (fun _ _ => ⟨rfl, e86, (by decide : 5 + 0 ≤ _), (by decide : 262 + 0 ≤ _)⟩)
      dsimp only [Pt.U, Pt.locs, Pt.cells, Pt.slots] at X91 l91 y91 z91 st91 hQ91
      subst l91 y91 z91
      obtain ⟨rfl, Nq91, K91, P91_0, P91_1⟩ := hQ91
      have N91 := Fr.app N86 Nq91
      have z93 := K91.1
      have e91 : T91.heap = T91.heap := rfl
      refine Wp.tr (S' := T91.setTop (mkF m 135 #[.val (.int x1), .val (.long q2), .second, .val (.int x3), .val (.int x4), .val (.int x5), .val (.int x6), .val (.int c2), .val (.int i1), .val (.int j1), .val (.int k1), .val (.ref b55), .val (.ref b63), .val (.long wa), .second, .val (.int (1 : Int32)), .unset, .unset, .unset] [])) st91 ?_
      refine Wp.st (S' := T91.setTop (mkF m 137 #[.val (.int x1), .val (.long q2), .second, .val (.int x3), .val (.int x4), .val (.int x5), .val (.int x6), .val (.int c2), .val (.int i1), .val (.int j1), .val (.int k1), .val (.ref b55), .val (.ref b63), .val (.long wa), .second, .val (.int (1 : Int32)), .unset, .unset, .unset] [(.int x6)])) (fun tt_ kk_ => XS.iload X91.here hx rfl (hb hby at_135) rfl  kk_) ?_
      have J94 : ∀ (TJ94 : State) (loJ94 : List Loc) (wb : Int64) (NJ94 : Fr n0 loJ94) (XJ94 : Stand p l e room_1 s m #[(.int x1), (.long q2), (.int x3), (.int x4), (.int x5), (.int x6)] below meth c TJ94 loJ94 5 262) (eJ94 : TJ94.heap = T91.heap) (hwb : wb.toInt = x6.toInt + (if j1 = k1 then 0 else x5.toInt) + (if i1 = j1 then 0 else if i1 = k1 then 0 else x4.toInt)), Wp p e below (fun o U' => ∃ v L, o = .returned v ∧ Q_rm0 Z x1 q2 x3 x4 x5 x6 h0 n0 v U'.heap L ∧ FrameEnd s o U' L room_1.cells room_1.slots) (TJ94.setTop (mkF m 175 #[.val (.int x1), .val (.long q2), .second, .val (.int x3), .val (.int x4), .val (.int x5), .val (.int x6), .val (.int c2), .val (.int i1), .val (.int j1), .val (.int k1), .val (.ref b55), .val (.ref b63), .val (.long wa), .second, .val (.int (1 : Int32)), .unset, .unset, .unset] [(.long wb)])) := by
        intro TJ94 loJ94 wb NJ94 XJ94 eJ94 hwb
        have hq64c := own_q64c h_k1.1
        have htop2 : (own_up (own_up own_z (0 : Int32).toNatClampNeg (own_R (own_up (own_up own_z i1.toNatClampNeg x4.toInt) j1.toNatClampNeg x5.toInt) c2.toNatClampNeg (0 : Int32).toNatClampNeg)) (k1 / (64 : Int32)).toNatClampNeg (own_R (own_up (own_up (own_up own_z i1.toNatClampNeg x4.toInt) j1.toNatClampNeg x5.toInt) k1.toNatClampNeg x6.toInt) c2.toNatClampNeg (k1 / (64 : Int32)).toNatClampNeg)) (0 : Int32).toNatClampNeg = own_S (own_up (own_up (own_up own_z i1.toNatClampNeg x4.toInt) j1.toNatClampNeg x5.toInt) k1.toNatClampNeg x6.toInt) 0 c2.toNatClampNeg := by
          rw [hq64c]; exact own_setA (own_up (own_up own_z i1.toNatClampNeg x4.toInt) j1.toNatClampNeg x5.toInt) _ x6.toInt (by rcases hn with rfl | rfl | rfl | rfl <;> decide) b_k
        rw [hsum2] at htop2
        have hb2 : -9007199254740992 < (own_up (own_up own_z (0 : Int32).toNatClampNeg (own_R (own_up (own_up own_z i1.toNatClampNeg x4.toInt) j1.toNatClampNeg x5.toInt) c2.toNatClampNeg (0 : Int32).toNatClampNeg)) (k1 / (64 : Int32)).toNatClampNeg (own_R (own_up (own_up (own_up own_z i1.toNatClampNeg x4.toInt) j1.toNatClampNeg x5.toInt) k1.toNatClampNeg x6.toInt) c2.toNatClampNeg (k1 / (64 : Int32)).toNatClampNeg)) (0 : Int32).toNatClampNeg ∧ (own_up (own_up own_z (0 : Int32).toNatClampNeg (own_R (own_up (own_up own_z i1.toNatClampNeg x4.toInt) j1.toNatClampNeg x5.toInt) c2.toNatClampNeg (0 : Int32).toNatClampNeg)) (k1 / (64 : Int32)).toNatClampNeg (own_R (own_up (own_up (own_up own_z i1.toNatClampNeg x4.toInt) j1.toNatClampNeg x5.toInt) k1.toNatClampNeg x6.toInt) c2.toNatClampNeg (k1 / (64 : Int32)).toNatClampNeg)) (0 : Int32).toNatClampNeg < 9007199254740992 := by rw [htop2]; repeat' split; all_goals omega
        refine Wp.st (S' := TJ94.setTop (mkF m 177 #[.val (.int x1), .val (.long q2), .second, .val (.int x3), .val (.int x4), .val (.int x5), .val (.int x6), .val (.int c2), .val (.int i1), .val (.int j1), .val (.int k1), .val (.ref b55), .val (.ref b63), .val (.long wa), .second, .val (.int (1 : Int32)), .val (.long wb), .second, .unset] [])) (fun tt_ kk_ => XS.lstore XJ94.here hx rfl (hb hby at_175) rfl (l' := #[.val (.int x1), .val (.long q2), .second, .val (.int x3), .val (.int x4), .val (.int x5), .val (.int x6), .val (.int c2), .val (.int i1), .val (.int j1), .val (.int k1), .val (.ref b55), .val (.ref b63), .val (.long wa), .second, .val (.int (1 : Int32)), .val (.long wb), .second, .unset]) rfl kk_) ?_
        refine Wp.st (S' := TJ94.setTop (mkF m 179 #[.val (.int x1), .val (.long q2), .second, .val (.int x3), .val (.int x4), .val (.int x5), .val (.int x6), .val (.int c2), .val (.int i1), .val (.int j1), .val (.int k1), .val (.ref b55), .val (.ref b63), .val (.long wa), .second, .val (.int (1 : Int32)), .val (.long wb), .second, .unset] [(.ref b63)])) (fun tt_ kk_ => XS.aload XJ94.here hx rfl (hb hby at_177) rfl rfl kk_) ?_
        have F96 := F87.keep K91 (ninS (Nat.ne_of_lt (Nat.lt_of_lt_of_le A63.lt (Nat.le_trans (Nat.le_refl _) P67_1))) (ninS (Nat.ne_of_lt (Nat.lt_of_lt_of_le A63.lt (Nat.le_trans (Nat.le_refl _) P67_2))) nin0))
        have F97 := F88.keep K91 (ninS P67_8 (ninS P67_9 nin0))
        have F98 := F90.keep K91
        obtain ⟨cq95, kq95, q95a, q95b, q95c⟩ := isOf hZ eJ94 F98
        obtain ⟨vv95, _, ⟨T95, L95, k95, n95⟩, -, X95, ⟨Lc95, hQ95, l95, y95, z95⟩, st95⟩ := XJ94.virtualBack hx (y := (⟨"com/example/dags_over_clouds/dagsoverclouds/plan/Tally", "sum", "()D"⟩ : MethodName)) (z := (⟨"com/example/dags_over_clouds/dagsoverclouds/plan/Tally", "sum", "()D"⟩ : MethodName)) hown (mvT hZ (hw _ (List.mem_of_getElem? (i := 42) rfl))) (mvT hZ (hw _ (List.mem_of_getElem? (i := 43) rfl))) (notFace_of_selects (args := #[]) (mvT hZ (hw _ (List.mem_of_getElem? (i := 45) rfl)))) (mvT hZ (hw _ (List.mem_of_getElem? (i := 45) rfl))) (mvT hZ (hw _ (List.mem_of_getElem? (i := 44) rfl))) (by decide) (backOf (W := 0) (rmSum2 l Z a0 hw [] b63 b72 (.ref b73) b74 c75 c77 (own_up (own_up own_z (0 : Int32).toNatClampNeg (own_R (own_up (own_up own_z i1.toNatClampNeg x4.toInt) j1.toNatClampNeg x5.toInt) c2.toNatClampNeg (0 : Int32).toNatClampNeg)) (k1 / (64 : Int32)).toNatClampNeg (own_R (own_up (own_up (own_up own_z i1.toNatClampNeg x4.toInt) j1.toNatClampNeg x5.toInt) k1.toNatClampNeg x6.toInt) c2.toNatClampNeg (k1 / (64 : Int32)).toNatClampNeg)) T91.heap n0 (Nat.le_trans Z0 (Nat.le_trans (Nat.le_trans (Nat.le_trans (Nat.le_trans (Nat.le_trans (Nat.le_trans z56 z60) z62) z64) z78) z84) z93)) F96 F97 P91_1) hZ (hw _ (List.mem_of_getElem? (i := 46) rfl)) (hw _ (List.mem_of_getElem? (i := 9) rfl)) (by decide) (by decide)) q95a q95c (g := (mkF m 179 #[.val (.int x1), .val (.long q2), .second, .val (.int x3), .val (.int x4), .val (.int x5), .val (.int x6), .val (.int c2), .val (.int i1), .val (.int j1), .val (.int k1), .val (.ref b55), .val (.ref b63), .val (.long wa), .second, .val (.int (1 : Int32)), .val (.long wb), .second, .unset] [(.ref b63)])) rfl (by rw [hml]; rfl) (Steps.refl _) (argsL := []) (rest := []) (lenOf pd_4 rfl) rfl (by show 2 * 0 + _ ≤ _; exact Nat.le_of_eq rfl) (hb hby at_179) (fun _ _ => ⟨rfl, eJ94, (by decide : 5 + 0 ≤ _), (by decide : 262 + 0 ≤ _)⟩)
        dsimp only [Pt.U, Pt.locs, Pt.cells, Pt.slots] at X95 l95 y95 z95 st95 hQ95
        subst l95 y95 z95
        obtain ⟨rfl, Nq95, e95⟩ := hQ95
        have N95 := Fr.app NJ94 Nq95
        refine Wp.tr (S' := T95.setTop (mkF m 182 #[.val (.int x1), .val (.long q2), .second, .val (.int x3), .val (.int x4), .val (.int x5), .val (.int x6), .val (.int c2), .val (.int i1), .val (.int j1), .val (.int k1), .val (.ref b55), .val (.ref b63), .val (.long wa), .second, .val (.int (1 : Int32)), .val (.long wb), .second, .unset] [(.double (FP.l2d (Int64.ofInt ((own_up (own_up own_z (0 : Int32).toNatClampNeg (own_R (own_up (own_up own_z i1.toNatClampNeg x4.toInt) j1.toNatClampNeg x5.toInt) c2.toNatClampNeg (0 : Int32).toNatClampNeg)) (k1 / (64 : Int32)).toNatClampNeg (own_R (own_up (own_up (own_up own_z i1.toNatClampNeg x4.toInt) j1.toNatClampNeg x5.toInt) k1.toNatClampNeg x6.toInt) c2.toNatClampNeg (k1 / (64 : Int32)).toNatClampNeg)) (0 : Int32).toNatClampNeg))))])) st95 ?_
        refine Wp.st (S' := T95.setTop (mkF m 184 #[.val (.int x1), .val (.long q2), .second, .val (.int x3), .val (.int x4), .val (.int x5), .val (.int x6), .val (.int c2), .val (.int i1), .val (.int j1), .val (.int k1), .val (.ref b55), .val (.ref b63), .val (.long wa), .second, .val (.int (1 : Int32)), .val (.long wb), .second, .unset] [(.long wb), (.double (FP.l2d (Int64.ofInt ((own_up (own_up own_z (0 : Int32).toNatClampNeg (own_R (own_up (own_up own_z i1.toNatClampNeg x4.toInt) j1.toNatClampNeg x5.toInt) c2.toNatClampNeg (0 : Int32).toNatClampNeg)) (k1 / (64 : Int32)).toNatClampNeg (own_R (own_up (own_up (own_up own_z i1.toNatClampNeg x4.toInt) j1.toNatClampNeg x5.toInt) k1.toNatClampNeg x6.toInt) c2.toNatClampNeg (k1 / (64 : Int32)).toNatClampNeg)) (0 : Int32).toNatClampNeg))))])) (fun tt_ kk_ => XS.lload X95.here hx rfl (hb hby at_182) rfl  kk_) ?_
        refine Wp.st (S' := T95.setTop (mkF m 185 #[.val (.int x1), .val (.long q2), .second, .val (.int x3), .val (.int x4), .val (.int x5), .val (.int x6), .val (.int c2), .val (.int i1), .val (.int j1), .val (.int k1), .val (.ref b55), .val (.ref b63), .val (.long wa), .second, .val (.int (1 : Int32)), .val (.long wb), .second, .unset] [(.double (FP.l2d wb)), (.double (FP.l2d (Int64.ofInt ((own_up (own_up own_z (0 : Int32).toNatClampNeg (own_R (own_up (own_up own_z i1.toNatClampNeg x4.toInt) j1.toNatClampNeg x5.toInt) c2.toNatClampNeg (0 : Int32).toNatClampNeg)) (k1 / (64 : Int32)).toNatClampNeg (own_R (own_up (own_up (own_up own_z i1.toNatClampNeg x4.toInt) j1.toNatClampNeg x5.toInt) k1.toNatClampNeg x6.toInt) c2.toNatClampNeg (k1 / (64 : Int32)).toNatClampNeg)) (0 : Int32).toNatClampNeg))))])) (fun tt_ kk_ => XS.l2dS X95.here hx rfl (hb hby at_184) rfl rfl kk_) ?_
        refine Wp.st (S' := T95.setTop (mkF m 186 #[.val (.int x1), .val (.long q2), .second, .val (.int x3), .val (.int x4), .val (.int x5), .val (.int x6), .val (.int c2), .val (.int i1), .val (.int j1), .val (.int k1), .val (.ref b55), .val (.ref b63), .val (.long wa), .second, .val (.int (1 : Int32)), .val (.long wb), .second, .unset] [(.int (0 : Int32))])) (fun tt_ kk_ => XS.dcmpS X95.here hx rfl (hb hby at_185) rfl (own_cmp (hwb.trans htop2.symm) hb2) kk_) ?_
        refine Wp.st (S' := T95.setTop (mkF m 189 #[.val (.int x1), .val (.long q2), .second, .val (.int x3), .val (.int x4), .val (.int x5), .val (.int x6), .val (.int c2), .val (.int i1), .val (.int j1), .val (.int k1), .val (.ref b55), .val (.ref b63), .val (.long wa), .second, .val (.int (1 : Int32)), .val (.long wb), .second, .unset] [])) (fun tt_ kk_ => XS.ifNo X95.here hx rfl (hb hby at_186) rfl ((if0 _ _).trans (teq ((by decide) : (0 : Int32) = (0 : Int32))).2) kk_) ?_
        refine Wp.st (S' := T95.setTop (mkF m 190 #[.val (.int x1), .val (.long q2), .second, .val (.int x3), .val (.int x4), .val (.int x5), .val (.int x6), .val (.int c2), .val (.int i1), .val (.int j1), .val (.int k1), .val (.ref b55), .val (.ref b63), .val (.long wa), .second, .val (.int (1 : Int32)), .val (.long wb), .second, .unset] [(.int (1 : Int32))])) (fun tt_ kk_ => XS.iconst X95.here hx rfl (hb hby at_189) kk_) ?_
        refine Wp.st (S' := T95.setTop (mkF m 194 #[.val (.int x1), .val (.long q2), .second, .val (.int x3), .val (.int x4), .val (.int x5), .val (.int x6), .val (.int c2), .val (.int i1), .val (.int j1), .val (.int k1), .val (.ref b55), .val (.ref b63), .val (.long wa), .second, .val (.int (1 : Int32)), .val (.long wb), .second, .unset] [(.int (1 : Int32))])) (fun tt_ kk_ => XS.goto X95.here hx rfl (pc0 := 190) (pc' := 194) rfl (hb hby at_190) (by decide) (by decide) kk_) ?_
        refine Wp.st (S' := T95.setTop (mkF m 196 #[.val (.int x1), .val (.long q2), .second, .val (.int x3), .val (.int x4), .val (.int x5), .val (.int x6), .val (.int c2), .val (.int i1), .val (.int j1), .val (.int k1), .val (.ref b55), .val (.ref b63), .val (.long wa), .second, .val (.int (1 : Int32)), .val (.long wb), .second, .val (.int (1 : Int32))] [])) (fun tt_ kk_ => XS.istore X95.here hx rfl (hb hby at_194) rfl (l' := #[.val (.int x1), .val (.long q2), .second, .val (.int x3), .val (.int x4), .val (.int x5), .val (.int x6), .val (.int c2), .val (.int i1), .val (.int j1), .val (.int k1), .val (.ref b55), .val (.ref b63), .val (.long wa), .second, .val (.int (1 : Int32)), .val (.long wb), .second, .val (.int (1 : Int32))]) rfl kk_) ?_
        refine Wp.st (S' := T95.setTop (mkF m 198 #[.val (.int x1), .val (.long q2), .second, .val (.int x3), .val (.int x4), .val (.int x5), .val (.int x6), .val (.int c2), .val (.int i1), .val (.int j1), .val (.int k1), .val (.ref b55), .val (.ref b63), .val (.long wa), .second, .val (.int (1 : Int32)), .val (.long wb), .second, .val (.int (1 : Int32))] [(.int (1 : Int32))])) (fun tt_ kk_ => XS.iload X95.here hx rfl (hb hby at_196) rfl  kk_) ?_
        refine Wp.st (S' := T95.setTop (mkF m 201 #[.val (.int x1), .val (.long q2), .second, .val (.int x3), .val (.int x4), .val (.int x5), .val (.int x6), .val (.int c2), .val (.int i1), .val (.int j1), .val (.int k1), .val (.ref b55), .val (.ref b63), .val (.long wa), .second, .val (.int (1 : Int32)), .val (.long wb), .second, .val (.int (1 : Int32))] [])) (fun tt_ kk_ => XS.ifNo X95.here hx rfl (hb hby at_198) rfl ((if0 _ _).trans (feq ((by decide) : ¬ ((1 : Int32) = (0 : Int32)))).1) kk_) ?_
        refine Wp.st (S' := T95.setTop (mkF m 203 #[.val (.int x1), .val (.long q2), .second, .val (.int x3), .val (.int x4), .val (.int x5), .val (.int x6), .val (.int c2), .val (.int i1), .val (.int j1), .val (.int k1), .val (.ref b55), .val (.ref b63), .val (.long wa), .second, .val (.int (1 : Int32)), .val (.long wb), .second, .val (.int (1 : Int32))] [(.int (1 : Int32))])) (fun tt_ kk_ => XS.iload X95.here hx rfl (hb hby at_201) rfl  kk_) ?_
        refine Wp.st (S' := T95.setTop (mkF m 206 #[.val (.int x1), .val (.long q2), .second, .val (.int x3), .val (.int x4), .val (.int x5), .val (.int x6), .val (.int c2), .val (.int i1), .val (.int j1), .val (.int k1), .val (.ref b55), .val (.ref b63), .val (.long wa), .second, .val (.int (1 : Int32)), .val (.long wb), .second, .val (.int (1 : Int32))] [])) (fun tt_ kk_ => XS.ifNo X95.here hx rfl (hb hby at_203) rfl ((if0 _ _).trans (feq ((by decide) : ¬ ((1 : Int32) = (0 : Int32)))).1) kk_) ?_
        refine Wp.st (S' := T95.setTop (mkF m 207 #[.val (.int x1), .val (.long q2), .second, .val (.int x3), .val (.int x4), .val (.int x5), .val (.int x6), .val (.int c2), .val (.int i1), .val (.int j1), .val (.int k1), .val (.ref b55), .val (.ref b63), .val (.long wa), .second, .val (.int (1 : Int32)), .val (.long wb), .second, .val (.int (1 : Int32))] [(.int (1 : Int32))])) (fun tt_ kk_ => XS.iconst X95.here hx rfl (hb hby at_206) kk_) ?_
        refine Wp.st (S' := T95.setTop (mkF m 211 #[.val (.int x1), .val (.long q2), .second, .val (.int x3), .val (.int x4), .val (.int x5), .val (.int x6), .val (.int c2), .val (.int i1), .val (.int j1), .val (.int k1), .val (.ref b55), .val (.ref b63), .val (.long wa), .second, .val (.int (1 : Int32)), .val (.long wb), .second, .val (.int (1 : Int32))] [(.int (1 : Int32))])) (fun tt_ kk_ => XS.goto X95.here hx rfl (pc0 := 207) (pc' := 211) rfl (hb hby at_207) (by decide) (by decide) kk_) ?_
        have K99 := Keep.refl h0 []
        have K100 := K99.ext E55
        have K101 := K100.wr W59 (Or.inr (Nat.le_trans (Nat.le_refl _) (Nat.le_of_eq g55.symm)))
        have K102 := K101.wr W61 (Or.inr (Nat.le_trans (Nat.le_refl _) (Nat.le_of_eq g55.symm)))
        have K103 := K102.ext E63
        have K104 := K103.trans K67 (allS (Or.inr (Nat.le_trans (Nat.le_trans (Nat.le_trans z56 z60) z62) (Nat.le_of_eq g63.symm))) all0)
        have K105 := K104.wr W83 (Or.inr (Nat.le_trans (Nat.le_refl _) (Nat.le_of_eq g55.symm)))
        have K106 := K105.trans K91 (allS (Or.inr (Nat.le_trans (Nat.le_trans (Nat.le_trans (Nat.le_trans z56 z60) z62) z64) P67_1)) (allS (Or.inr (Nat.le_trans (Nat.le_trans (Nat.le_trans (Nat.le_trans z56 z60) z62) z64) P67_2)) all0))
        exact Wp.ret X95 hlk (v := (some (.int (1 : Int32)))) (fun h => by rw [Bd.returns] at h; cases h) (fun fs hr => retN (z := (1 : Int32)) X95 hx (t := .boolean) Bd.returns (by simp) (hb hby at_211) hr) (by decide) (by decide) (show Q_rm0 Z x1 q2 x3 x4 x5 x6 h0 n0 _ T95.heap _ by rw [e95]; exact ⟨rfl, N95, K106⟩)
      refine Wp.st (S' := T91.setTop (mkF m 138 #[.val (.int x1), .val (.long q2), .second, .val (.int x3), .val (.int x4), .val (.int x5), .val (.int x6), .val (.int c2), .val (.int i1), .val (.int j1), .val (.int k1), .val (.ref b55), .val (.ref b63), .val (.long wa), .second, .val (.int (1 : Int32)), .unset, .unset, .unset] [(.long (x6.toInt64))])) (fun tt_ kk_ => XS.i2l X91.here hx rfl (hb hby at_137) rfl kk_) ?_
      refine Wp.st (S' := T91.setTop (mkF m 140 #[.val (.int x1), .val (.long q2), .second, .val (.int x3), .val (.int x4), .val (.int x5), .val (.int x6), .val (.int c2), .val (.int i1), .val (.int j1), .val (.int k1), .val (.ref b55), .val (.ref b63), .val (.long wa), .second, .val (.int (1 : Int32)), .unset, .unset, .unset] [(.int j1), (.long (x6.toInt64))])) (fun tt_ kk_ => XS.iload X91.here hx rfl (hb hby at_138) rfl  kk_) ?_
      refine Wp.st (S' := T91.setTop (mkF m 142 #[.val (.int x1), .val (.long q2), .second, .val (.int x3), .val (.int x4), .val (.int x5), .val (.int x6), .val (.int c2), .val (.int i1), .val (.int j1), .val (.int k1), .val (.ref b55), .val (.ref b63), .val (.long wa), .second, .val (.int (1 : Int32)), .unset, .unset, .unset] [(.int k1), (.int j1), (.long (x6.toInt64))])) (fun tt_ kk_ => XS.iload X91.here hx rfl (hb hby at_140) rfl  kk_) ?_
      by_cases fJ : j1 = k1
      case pos =>
        refine Wp.st (S' := T91.setTop (mkF m 151 #[.val (.int x1), .val (.long q2), .second, .val (.int x3), .val (.int x4), .val (.int x5), .val (.int x6), .val (.int c2), .val (.int i1), .val (.int j1), .val (.int k1), .val (.ref b55), .val (.ref b63), .val (.long wa), .second, .val (.int (1 : Int32)), .unset, .unset, .unset] [(.long (x6.toInt64))])) (fun tt_ kk_ => XS.icmpYes X91.here hx rfl (pc0 := 142) (pc' := 151) rfl (hb hby at_142) rfl (teq (fJ : j1 = k1)).1 (by decide) (by decide) kk_) ?_
        refine Wp.st (S' := T91.setTop (mkF m 152 #[.val (.int x1), .val (.long q2), .second, .val (.int x3), .val (.int x4), .val (.int x5), .val (.int x6), .val (.int c2), .val (.int i1), .val (.int j1), .val (.int k1), .val (.ref b55), .val (.ref b63), .val (.long wa), .second, .val (.int (1 : Int32)), .unset, .unset, .unset] [(.long (0 : Int64)), (.long (x6.toInt64))])) (fun tt_ kk_ => XS.lconst X91.here hx rfl (hb hby at_151) kk_) ?_
        refine Wp.st (S' := T91.setTop (mkF m 153 #[.val (.int x1), .val (.long q2), .second, .val (.int x3), .val (.int x4), .val (.int x5), .val (.int x6), .val (.int c2), .val (.int i1), .val (.int j1), .val (.int k1), .val (.ref b55), .val (.ref b63), .val (.long wa), .second, .val (.int (1 : Int32)), .unset, .unset, .unset] [(.long ((x6.toInt64) + (0 : Int64)))])) (fun tt_ kk_ => XS.ladd X91.here hx rfl (hb hby at_152) rfl kk_) ?_
        refine Wp.st (S' := T91.setTop (mkF m 155 #[.val (.int x1), .val (.long q2), .second, .val (.int x3), .val (.int x4), .val (.int x5), .val (.int x6), .val (.int c2), .val (.int i1), .val (.int j1), .val (.int k1), .val (.ref b55), .val (.ref b63), .val (.long wa), .second, .val (.int (1 : Int32)), .unset, .unset, .unset] [(.int i1), (.long ((x6.toInt64) + (0 : Int64)))])) (fun tt_ kk_ => XS.iload X91.here hx rfl (hb hby at_153) rfl  kk_) ?_
        refine Wp.st (S' := T91.setTop (mkF m 157 #[.val (.int x1), .val (.long q2), .second, .val (.int x3), .val (.int x4), .val (.int x5), .val (.int x6), .val (.int c2), .val (.int i1), .val (.int j1), .val (.int k1), .val (.ref b55), .val (.ref b63), .val (.long wa), .second, .val (.int (1 : Int32)), .unset, .unset, .unset] [(.int j1), (.int i1), (.long ((x6.toInt64) + (0 : Int64)))])) (fun tt_ kk_ => XS.iload X91.here hx rfl (hb hby at_155) rfl  kk_) ?_
        by_cases fI : i1 = j1
        case pos =>
          refine Wp.st (S' := T91.setTop (mkF m 173 #[.val (.int x1), .val (.long q2), .second, .val (.int x3), .val (.int x4), .val (.int x5), .val (.int x6), .val (.int c2), .val (.int i1), .val (.int j1), .val (.int k1), .val (.ref b55), .val (.ref b63), .val (.long wa), .second, .val (.int (1 : Int32)), .unset, .unset, .unset] [(.long ((x6.toInt64) + (0 : Int64)))])) (fun tt_ kk_ => XS.icmpYes X91.here hx rfl (pc0 := 157) (pc' := 173) rfl (hb hby at_157) rfl (teq (fI : i1 = j1)).1 (by decide) (by decide) kk_) ?_
          refine Wp.st (S' := T91.setTop (mkF m 174 #[.val (.int x1), .val (.long q2), .second, .val (.int x3), .val (.int x4), .val (.int x5), .val (.int x6), .val (.int c2), .val (.int i1), .val (.int j1), .val (.int k1), .val (.ref b55), .val (.ref b63), .val (.long wa), .second, .val (.int (1 : Int32)), .unset, .unset, .unset] [(.long (0 : Int64)), (.long ((x6.toInt64) + (0 : Int64)))])) (fun tt_ kk_ => XS.lconst X91.here hx rfl (hb hby at_173) kk_) ?_
          refine Wp.st (S' := T91.setTop (mkF m 175 #[.val (.int x1), .val (.long q2), .second, .val (.int x3), .val (.int x4), .val (.int x5), .val (.int x6), .val (.int c2), .val (.int i1), .val (.int j1), .val (.int k1), .val (.ref b55), .val (.ref b63), .val (.long wa), .second, .val (.int (1 : Int32)), .unset, .unset, .unset] [(.long (((x6.toInt64) + (0 : Int64)) + (0 : Int64)))])) (fun tt_ kk_ => XS.ladd X91.here hx rfl (hb hby at_174) rfl kk_) ?_
          have ew : (((x6.toInt64) + (0 : Int64)) + (0 : Int64)).toInt = x6.toInt + (if j1 = k1 then 0 else x5.toInt) + (if i1 = j1 then 0 else if i1 = k1 then 0 else x4.toInt) := by
            rw [if_pos fJ, if_pos fI]
            have e0 : (0 : Int64).toInt = 0 := by decide
            have c4 := c_i2l x4; have c5 := c_i2l x5; have c6 := c_i2l x6
            have a1 := c_ladd x6.toInt64 (0 : Int64); have b1 := rng64 (x6.toInt64 + (0 : Int64))
            have a2 := c_ladd (x6.toInt64 + (0 : Int64)) (0 : Int64); have b2 := rng64 (x6.toInt64 + (0 : Int64) + (0 : Int64))
            omega
          exact J94 _ _ (((x6.toInt64) + (0 : Int64)) + (0 : Int64)) N91 X91 e91 ew
        case neg =>
          refine Wp.st (S' := T91.setTop (mkF m 160 #[.val (.int x1), .val (.long q2), .second, .val (.int x3), .val (.int x4), .val (.int x5), .val (.int x6), .val (.int c2), .val (.int i1), .val (.int j1), .val (.int k1), .val (.ref b55), .val (.ref b63), .val (.long wa), .second, .val (.int (1 : Int32)), .unset, .unset, .unset] [(.long ((x6.toInt64) + (0 : Int64)))])) (fun tt_ kk_ => XS.icmpNo X91.here hx rfl (hb hby at_157) rfl (feq (fI : ¬ (i1 = j1))).1 kk_) ?_
          refine Wp.st (S' := T91.setTop (mkF m 162 #[.val (.int x1), .val (.long q2), .second, .val (.int x3), .val (.int x4), .val (.int x5), .val (.int x6), .val (.int c2), .val (.int i1), .val (.int j1), .val (.int k1), .val (.ref b55), .val (.ref b63), .val (.long wa), .second, .val (.int (1 : Int32)), .unset, .unset, .unset] [(.int i1), (.long ((x6.toInt64) + (0 : Int64)))])) (fun tt_ kk_ => XS.iload X91.here hx rfl (hb hby at_160) rfl  kk_) ?_
          refine Wp.st (S' := T91.setTop (mkF m 164 #[.val (.int x1), .val (.long q2), .second, .val (.int x3), .val (.int x4), .val (.int x5), .val (.int x6), .val (.int c2), .val (.int i1), .val (.int j1), .val (.int k1), .val (.ref b55), .val (.ref b63), .val (.long wa), .second, .val (.int (1 : Int32)), .unset, .unset, .unset] [(.int k1), (.int i1), (.long ((x6.toInt64) + (0 : Int64)))])) (fun tt_ kk_ => XS.iload X91.here hx rfl (hb hby at_162) rfl  kk_) ?_
          by_cases fK : i1 = k1
          case pos =>
            refine Wp.st (S' := T91.setTop (mkF m 173 #[.val (.int x1), .val (.long q2), .second, .val (.int x3), .val (.int x4), .val (.int x5), .val (.int x6), .val (.int c2), .val (.int i1), .val (.int j1), .val (.int k1), .val (.ref b55), .val (.ref b63), .val (.long wa), .second, .val (.int (1 : Int32)), .unset, .unset, .unset] [(.long ((x6.toInt64) + (0 : Int64)))])) (fun tt_ kk_ => XS.icmpYes X91.here hx rfl (pc0 := 164) (pc' := 173) rfl (hb hby at_164) rfl (teq (fK : i1 = k1)).1 (by decide) (by decide) kk_) ?_
            refine Wp.st (S' := T91.setTop (mkF m 174 #[.val (.int x1), .val (.long q2), .second, .val (.int x3), .val (.int x4), .val (.int x5), .val (.int x6), .val (.int c2), .val (.int i1), .val (.int j1), .val (.int k1), .val (.ref b55), .val (.ref b63), .val (.long wa), .second, .val (.int (1 : Int32)), .unset, .unset, .unset] [(.long (0 : Int64)), (.long ((x6.toInt64) + (0 : Int64)))])) (fun tt_ kk_ => XS.lconst X91.here hx rfl (hb hby at_173) kk_) ?_
            refine Wp.st (S' := T91.setTop (mkF m 175 #[.val (.int x1), .val (.long q2), .second, .val (.int x3), .val (.int x4), .val (.int x5), .val (.int x6), .val (.int c2), .val (.int i1), .val (.int j1), .val (.int k1), .val (.ref b55), .val (.ref b63), .val (.long wa), .second, .val (.int (1 : Int32)), .unset, .unset, .unset] [(.long (((x6.toInt64) + (0 : Int64)) + (0 : Int64)))])) (fun tt_ kk_ => XS.ladd X91.here hx rfl (hb hby at_174) rfl kk_) ?_
            have ew : (((x6.toInt64) + (0 : Int64)) + (0 : Int64)).toInt = x6.toInt + (if j1 = k1 then 0 else x5.toInt) + (if i1 = j1 then 0 else if i1 = k1 then 0 else x4.toInt) := by
              rw [if_pos fJ, if_neg fI, if_pos fK]
              have e0 : (0 : Int64).toInt = 0 := by decide
              have c4 := c_i2l x4; have c5 := c_i2l x5; have c6 := c_i2l x6
              have a1 := c_ladd x6.toInt64 (0 : Int64); have b1 := rng64 (x6.toInt64 + (0 : Int64))
              have a2 := c_ladd (x6.toInt64 + (0 : Int64)) (0 : Int64); have b2 := rng64 (x6.toInt64 + (0 : Int64) + (0 : Int64))
              omega
            exact J94 _ _ (((x6.toInt64) + (0 : Int64)) + (0 : Int64)) N91 X91 e91 ew
          case neg =>
            refine Wp.st (S' := T91.setTop (mkF m 167 #[.val (.int x1), .val (.long q2), .second, .val (.int x3), .val (.int x4), .val (.int x5), .val (.int x6), .val (.int c2), .val (.int i1), .val (.int j1), .val (.int k1), .val (.ref b55), .val (.ref b63), .val (.long wa), .second, .val (.int (1 : Int32)), .unset, .unset, .unset] [(.long ((x6.toInt64) + (0 : Int64)))])) (fun tt_ kk_ => XS.icmpNo X91.here hx rfl (hb hby at_164) rfl (feq (fK : ¬ (i1 = k1))).1 kk_) ?_
            refine Wp.st (S' := T91.setTop (mkF m 169 #[.val (.int x1), .val (.long q2), .second, .val (.int x3), .val (.int x4), .val (.int x5), .val (.int x6), .val (.int c2), .val (.int i1), .val (.int j1), .val (.int k1), .val (.ref b55), .val (.ref b63), .val (.long wa), .second, .val (.int (1 : Int32)), .unset, .unset, .unset] [(.int x4), (.long ((x6.toInt64) + (0 : Int64)))])) (fun tt_ kk_ => XS.iload X91.here hx rfl (hb hby at_167) rfl  kk_) ?_
            refine Wp.st (S' := T91.setTop (mkF m 170 #[.val (.int x1), .val (.long q2), .second, .val (.int x3), .val (.int x4), .val (.int x5), .val (.int x6), .val (.int c2), .val (.int i1), .val (.int j1), .val (.int k1), .val (.ref b55), .val (.ref b63), .val (.long wa), .second, .val (.int (1 : Int32)), .unset, .unset, .unset] [(.long (x4.toInt64)), (.long ((x6.toInt64) + (0 : Int64)))])) (fun tt_ kk_ => XS.i2l X91.here hx rfl (hb hby at_169) rfl kk_) ?_
            refine Wp.st (S' := T91.setTop (mkF m 174 #[.val (.int x1), .val (.long q2), .second, .val (.int x3), .val (.int x4), .val (.int x5), .val (.int x6), .val (.int c2), .val (.int i1), .val (.int j1), .val (.int k1), .val (.ref b55), .val (.ref b63), .val (.long wa), .second, .val (.int (1 : Int32)), .unset, .unset, .unset] [(.long (x4.toInt64)), (.long ((x6.toInt64) + (0 : Int64)))])) (fun tt_ kk_ => XS.goto X91.here hx rfl (pc0 := 170) (pc' := 174) rfl (hb hby at_170) (by decide) (by decide) kk_) ?_
            refine Wp.st (S' := T91.setTop (mkF m 175 #[.val (.int x1), .val (.long q2), .second, .val (.int x3), .val (.int x4), .val (.int x5), .val (.int x6), .val (.int c2), .val (.int i1), .val (.int j1), .val (.int k1), .val (.ref b55), .val (.ref b63), .val (.long wa), .second, .val (.int (1 : Int32)), .unset, .unset, .unset] [(.long (((x6.toInt64) + (0 : Int64)) + (x4.toInt64)))])) (fun tt_ kk_ => XS.ladd X91.here hx rfl (hb hby at_174) rfl kk_) ?_
            have ew : (((x6.toInt64) + (0 : Int64)) + (x4.toInt64)).toInt = x6.toInt + (if j1 = k1 then 0 else x5.toInt) + (if i1 = j1 then 0 else if i1 = k1 then 0 else x4.toInt) := by
              rw [if_pos fJ, if_neg fI, if_neg fK]
              have e0 : (0 : Int64).toInt = 0 := by decide
              have c4 := c_i2l x4; have c5 := c_i2l x5; have c6 := c_i2l x6
              have a1 := c_ladd x6.toInt64 (0 : Int64); have b1 := rng64 (x6.toInt64 + (0 : Int64))
              have a2 := c_ladd (x6.toInt64 + (0 : Int64)) x4.toInt64; have b2 := rng64 (x6.toInt64 + (0 : Int64) + x4.toInt64)
              omega
            exact J94 _ _ (((x6.toInt64) + (0 : Int64)) + (x4.toInt64)) N91 X91 e91 ew
      case neg =>
        refine Wp.st (S' := T91.setTop (mkF m 145 #[.val (.int x1), .val (.long q2), .second, .val (.int x3), .val (.int x4), .val (.int x5), .val (.int x6), .val (.int c2), .val (.int i1), .val (.int j1), .val (.int k1), .val (.ref b55), .val (.ref b63), .val (.long wa), .second, .val (.int (1 : Int32)), .unset, .unset, .unset] [(.long (x6.toInt64))])) (fun tt_ kk_ => XS.icmpNo X91.here hx rfl (hb hby at_142) rfl (feq (fJ : ¬ (j1 = k1))).1 kk_) ?_
        refine Wp.st (S' := T91.setTop (mkF m 147 #[.val (.int x1), .val (.long q2), .second, .val (.int x3), .val (.int x4), .val (.int x5), .val (.int x6), .val (.int c2), .val (.int i1), .val (.int j1), .val (.int k1), .val (.ref b55), .val (.ref b63), .val (.long wa), .second, .val (.int (1 : Int32)), .unset, .unset, .unset] [(.int x5), (.long (x6.toInt64))])) (fun tt_ kk_ => XS.iload X91.here hx rfl (hb hby at_145) rfl  kk_) ?_
        refine Wp.st (S' := T91.setTop (mkF m 148 #[.val (.int x1), .val (.long q2), .second, .val (.int x3), .val (.int x4), .val (.int x5), .val (.int x6), .val (.int c2), .val (.int i1), .val (.int j1), .val (.int k1), .val (.ref b55), .val (.ref b63), .val (.long wa), .second, .val (.int (1 : Int32)), .unset, .unset, .unset] [(.long (x5.toInt64)), (.long (x6.toInt64))])) (fun tt_ kk_ => XS.i2l X91.here hx rfl (hb hby at_147) rfl kk_) ?_
        refine Wp.st (S' := T91.setTop (mkF m 152 #[.val (.int x1), .val (.long q2), .second, .val (.int x3), .val (.int x4), .val (.int x5), .val (.int x6), .val (.int c2), .val (.int i1), .val (.int j1), .val (.int k1), .val (.ref b55), .val (.ref b63), .val (.long wa), .second, .val (.int (1 : Int32)), .unset, .unset, .unset] [(.long (x5.toInt64)), (.long (x6.toInt64))])) (fun tt_ kk_ => XS.goto X91.here hx rfl (pc0 := 148) (pc' := 152) rfl (hb hby at_148) (by decide) (by decide) kk_) ?_
        refine Wp.st (S' := T91.setTop (mkF m 153 #[.val (.int x1), .val (.long q2), .second, .val (.int x3), .val (.int x4), .val (.int x5), .val (.int x6), .val (.int c2), .val (.int i1), .val (.int j1), .val (.int k1), .val (.ref b55), .val (.ref b63), .val (.long wa), .second, .val (.int (1 : Int32)), .unset, .unset, .unset] [(.long ((x6.toInt64) + (x5.toInt64)))])) (fun tt_ kk_ => XS.ladd X91.here hx rfl (hb hby at_152) rfl kk_) ?_
        refine Wp.st (S' := T91.setTop (mkF m 155 #[.val (.int x1), .val (.long q2), .second, .val (.int x3), .val (.int x4), .val (.int x5), .val (.int x6), .val (.int c2), .val (.int i1), .val (.int j1), .val (.int k1), .val (.ref b55), .val (.ref b63), .val (.long wa), .second, .val (.int (1 : Int32)), .unset, .unset, .unset] [(.int i1), (.long ((x6.toInt64) + (x5.toInt64)))])) (fun tt_ kk_ => XS.iload X91.here hx rfl (hb hby at_153) rfl  kk_) ?_
        refine Wp.st (S' := T91.setTop (mkF m 157 #[.val (.int x1), .val (.long q2), .second, .val (.int x3), .val (.int x4), .val (.int x5), .val (.int x6), .val (.int c2), .val (.int i1), .val (.int j1), .val (.int k1), .val (.ref b55), .val (.ref b63), .val (.long wa), .second, .val (.int (1 : Int32)), .unset, .unset, .unset] [(.int j1), (.int i1), (.long ((x6.toInt64) + (x5.toInt64)))])) (fun tt_ kk_ => XS.iload X91.here hx rfl (hb hby at_155) rfl  kk_) ?_
        by_cases fI : i1 = j1
        case pos =>
          refine Wp.st (S' := T91.setTop (mkF m 173 #[.val (.int x1), .val (.long q2), .second, .val (.int x3), .val (.int x4), .val (.int x5), .val (.int x6), .val (.int c2), .val (.int i1), .val (.int j1), .val (.int k1), .val (.ref b55), .val (.ref b63), .val (.long wa), .second, .val (.int (1 : Int32)), .unset, .unset, .unset] [(.long ((x6.toInt64) + (x5.toInt64)))])) (fun tt_ kk_ => XS.icmpYes X91.here hx rfl (pc0 := 157) (pc' := 173) rfl (hb hby at_157) rfl (teq (fI : i1 = j1)).1 (by decide) (by decide) kk_) ?_
          refine Wp.st (S' := T91.setTop (mkF m 174 #[.val (.int x1), .val (.long q2), .second, .val (.int x3), .val (.int x4), .val (.int x5), .val (.int x6), .val (.int c2), .val (.int i1), .val (.int j1), .val (.int k1), .val (.ref b55), .val (.ref b63), .val (.long wa), .second, .val (.int (1 : Int32)), .unset, .unset, .unset] [(.long (0 : Int64)), (.long ((x6.toInt64) + (x5.toInt64)))])) (fun tt_ kk_ => XS.lconst X91.here hx rfl (hb hby at_173) kk_) ?_
          refine Wp.st (S' := T91.setTop (mkF m 175 #[.val (.int x1), .val (.long q2), .second, .val (.int x3), .val (.int x4), .val (.int x5), .val (.int x6), .val (.int c2), .val (.int i1), .val (.int j1), .val (.int k1), .val (.ref b55), .val (.ref b63), .val (.long wa), .second, .val (.int (1 : Int32)), .unset, .unset, .unset] [(.long (((x6.toInt64) + (x5.toInt64)) + (0 : Int64)))])) (fun tt_ kk_ => XS.ladd X91.here hx rfl (hb hby at_174) rfl kk_) ?_
          have ew : (((x6.toInt64) + (x5.toInt64)) + (0 : Int64)).toInt = x6.toInt + (if j1 = k1 then 0 else x5.toInt) + (if i1 = j1 then 0 else if i1 = k1 then 0 else x4.toInt) := by
            rw [if_neg fJ, if_pos fI]
            have e0 : (0 : Int64).toInt = 0 := by decide
            have c4 := c_i2l x4; have c5 := c_i2l x5; have c6 := c_i2l x6
            have a1 := c_ladd x6.toInt64 x5.toInt64; have b1 := rng64 (x6.toInt64 + x5.toInt64)
            have a2 := c_ladd (x6.toInt64 + x5.toInt64) (0 : Int64); have b2 := rng64 (x6.toInt64 + x5.toInt64 + (0 : Int64))
            omega
          exact J94 _ _ (((x6.toInt64) + (x5.toInt64)) + (0 : Int64)) N91 X91 e91 ew
        case neg =>
          refine Wp.st (S' := T91.setTop (mkF m 160 #[.val (.int x1), .val (.long q2), .second, .val (.int x3), .val (.int x4), .val (.int x5), .val (.int x6), .val (.int c2), .val (.int i1), .val (.int j1), .val (.int k1), .val (.ref b55), .val (.ref b63), .val (.long wa), .second, .val (.int (1 : Int32)), .unset, .unset, .unset] [(.long ((x6.toInt64) + (x5.toInt64)))])) (fun tt_ kk_ => XS.icmpNo X91.here hx rfl (hb hby at_157) rfl (feq (fI : ¬ (i1 = j1))).1 kk_) ?_
          refine Wp.st (S' := T91.setTop (mkF m 162 #[.val (.int x1), .val (.long q2), .second, .val (.int x3), .val (.int x4), .val (.int x5), .val (.int x6), .val (.int c2), .val (.int i1), .val (.int j1), .val (.int k1), .val (.ref b55), .val (.ref b63), .val (.long wa), .second, .val (.int (1 : Int32)), .unset, .unset, .unset] [(.int i1), (.long ((x6.toInt64) + (x5.toInt64)))])) (fun tt_ kk_ => XS.iload X91.here hx rfl (hb hby at_160) rfl  kk_) ?_
          refine Wp.st (S' := T91.setTop (mkF m 164 #[.val (.int x1), .val (.long q2), .second, .val (.int x3), .val (.int x4), .val (.int x5), .val (.int x6), .val (.int c2), .val (.int i1), .val (.int j1), .val (.int k1), .val (.ref b55), .val (.ref b63), .val (.long wa), .second, .val (.int (1 : Int32)), .unset, .unset, .unset] [(.int k1), (.int i1), (.long ((x6.toInt64) + (x5.toInt64)))])) (fun tt_ kk_ => XS.iload X91.here hx rfl (hb hby at_162) rfl  kk_) ?_
          by_cases fK : i1 = k1
          case pos =>
            refine Wp.st (S' := T91.setTop (mkF m 173 #[.val (.int x1), .val (.long q2), .second, .val (.int x3), .val (.int x4), .val (.int x5), .val (.int x6), .val (.int c2), .val (.int i1), .val (.int j1), .val (.int k1), .val (.ref b55), .val (.ref b63), .val (.long wa), .second, .val (.int (1 : Int32)), .unset, .unset, .unset] [(.long ((x6.toInt64) + (x5.toInt64)))])) (fun tt_ kk_ => XS.icmpYes X91.here hx rfl (pc0 := 164) (pc' := 173) rfl (hb hby at_164) rfl (teq (fK : i1 = k1)).1 (by decide) (by decide) kk_) ?_
            refine Wp.st (S' := T91.setTop (mkF m 174 #[.val (.int x1), .val (.long q2), .second, .val (.int x3), .val (.int x4), .val (.int x5), .val (.int x6), .val (.int c2), .val (.int i1), .val (.int j1), .val (.int k1), .val (.ref b55), .val (.ref b63), .val (.long wa), .second, .val (.int (1 : Int32)), .unset, .unset, .unset] [(.long (0 : Int64)), (.long ((x6.toInt64) + (x5.toInt64)))])) (fun tt_ kk_ => XS.lconst X91.here hx rfl (hb hby at_173) kk_) ?_
            refine Wp.st (S' := T91.setTop (mkF m 175 #[.val (.int x1), .val (.long q2), .second, .val (.int x3), .val (.int x4), .val (.int x5), .val (.int x6), .val (.int c2), .val (.int i1), .val (.int j1), .val (.int k1), .val (.ref b55), .val (.ref b63), .val (.long wa), .second, .val (.int (1 : Int32)), .unset, .unset, .unset] [(.long (((x6.toInt64) + (x5.toInt64)) + (0 : Int64)))])) (fun tt_ kk_ => XS.ladd X91.here hx rfl (hb hby at_174) rfl kk_) ?_
            have ew : (((x6.toInt64) + (x5.toInt64)) + (0 : Int64)).toInt = x6.toInt + (if j1 = k1 then 0 else x5.toInt) + (if i1 = j1 then 0 else if i1 = k1 then 0 else x4.toInt) := by
              rw [if_neg fJ, if_neg fI, if_pos fK]
              have e0 : (0 : Int64).toInt = 0 := by decide
              have c4 := c_i2l x4; have c5 := c_i2l x5; have c6 := c_i2l x6
              have a1 := c_ladd x6.toInt64 x5.toInt64; have b1 := rng64 (x6.toInt64 + x5.toInt64)
              have a2 := c_ladd (x6.toInt64 + x5.toInt64) (0 : Int64); have b2 := rng64 (x6.toInt64 + x5.toInt64 + (0 : Int64))
              omega
            exact J94 _ _ (((x6.toInt64) + (x5.toInt64)) + (0 : Int64)) N91 X91 e91 ew
          case neg =>
            refine Wp.st (S' := T91.setTop (mkF m 167 #[.val (.int x1), .val (.long q2), .second, .val (.int x3), .val (.int x4), .val (.int x5), .val (.int x6), .val (.int c2), .val (.int i1), .val (.int j1), .val (.int k1), .val (.ref b55), .val (.ref b63), .val (.long wa), .second, .val (.int (1 : Int32)), .unset, .unset, .unset] [(.long ((x6.toInt64) + (x5.toInt64)))])) (fun tt_ kk_ => XS.icmpNo X91.here hx rfl (hb hby at_164) rfl (feq (fK : ¬ (i1 = k1))).1 kk_) ?_
            refine Wp.st (S' := T91.setTop (mkF m 169 #[.val (.int x1), .val (.long q2), .second, .val (.int x3), .val (.int x4), .val (.int x5), .val (.int x6), .val (.int c2), .val (.int i1), .val (.int j1), .val (.int k1), .val (.ref b55), .val (.ref b63), .val (.long wa), .second, .val (.int (1 : Int32)), .unset, .unset, .unset] [(.int x4), (.long ((x6.toInt64) + (x5.toInt64)))])) (fun tt_ kk_ => XS.iload X91.here hx rfl (hb hby at_167) rfl  kk_) ?_
            refine Wp.st (S' := T91.setTop (mkF m 170 #[.val (.int x1), .val (.long q2), .second, .val (.int x3), .val (.int x4), .val (.int x5), .val (.int x6), .val (.int c2), .val (.int i1), .val (.int j1), .val (.int k1), .val (.ref b55), .val (.ref b63), .val (.long wa), .second, .val (.int (1 : Int32)), .unset, .unset, .unset] [(.long (x4.toInt64)), (.long ((x6.toInt64) + (x5.toInt64)))])) (fun tt_ kk_ => XS.i2l X91.here hx rfl (hb hby at_169) rfl kk_) ?_
            refine Wp.st (S' := T91.setTop (mkF m 174 #[.val (.int x1), .val (.long q2), .second, .val (.int x3), .val (.int x4), .val (.int x5), .val (.int x6), .val (.int c2), .val (.int i1), .val (.int j1), .val (.int k1), .val (.ref b55), .val (.ref b63), .val (.long wa), .second, .val (.int (1 : Int32)), .unset, .unset, .unset] [(.long (x4.toInt64)), (.long ((x6.toInt64) + (x5.toInt64)))])) (fun tt_ kk_ => XS.goto X91.here hx rfl (pc0 := 170) (pc' := 174) rfl (hb hby at_170) (by decide) (by decide) kk_) ?_
            refine Wp.st (S' := T91.setTop (mkF m 175 #[.val (.int x1), .val (.long q2), .second, .val (.int x3), .val (.int x4), .val (.int x5), .val (.int x6), .val (.int c2), .val (.int i1), .val (.int j1), .val (.int k1), .val (.ref b55), .val (.ref b63), .val (.long wa), .second, .val (.int (1 : Int32)), .unset, .unset, .unset] [(.long (((x6.toInt64) + (x5.toInt64)) + (x4.toInt64)))])) (fun tt_ kk_ => XS.ladd X91.here hx rfl (hb hby at_174) rfl kk_) ?_
            have ew : (((x6.toInt64) + (x5.toInt64)) + (x4.toInt64)).toInt = x6.toInt + (if j1 = k1 then 0 else x5.toInt) + (if i1 = j1 then 0 else if i1 = k1 then 0 else x4.toInt) := by
              rw [if_neg fJ, if_neg fI, if_neg fK]
              have e0 : (0 : Int64).toInt = 0 := by decide
              have c4 := c_i2l x4; have c5 := c_i2l x5; have c6 := c_i2l x6
              have a1 := c_ladd x6.toInt64 x5.toInt64; have b1 := rng64 (x6.toInt64 + x5.toInt64)
              have a2 := c_ladd (x6.toInt64 + x5.toInt64) x4.toInt64; have b2 := rng64 (x6.toInt64 + x5.toInt64 + x4.toInt64)
              omega
            exact J94 _ _ (((x6.toInt64) + (x5.toInt64)) + (x4.toInt64)) N91 X91 e91 ew
    refine Wp.st (S' := T83.setTop (mkF m 89 #[.val (.int x1), .val (.long q2), .second, .val (.int x3), .val (.int x4), .val (.int x5), .val (.int x6), .val (.int c2), .val (.int i1), .val (.int j1), .val (.int k1), .val (.ref b55), .val (.ref b63), .unset, .unset, .unset, .unset, .unset, .unset] [(.long (x5.toInt64))])) (fun tt_ kk_ => XS.i2l X83.here hx rfl (hb hby at_88) rfl kk_) ?_
    refine Wp.st (S' := T83.setTop (mkF m 91 #[.val (.int x1), .val (.long q2), .second, .val (.int x3), .val (.int x4), .val (.int x5), .val (.int x6), .val (.int c2), .val (.int i1), .val (.int j1), .val (.int k1), .val (.ref b55), .val (.ref b63), .unset, .unset, .unset, .unset, .unset, .unset] [(.int i1), (.long (x5.toInt64))])) (fun tt_ kk_ => XS.iload X83.here hx rfl (hb hby at_89) rfl  kk_) ?_
    refine Wp.st (S' := T83.setTop (mkF m 93 #[.val (.int x1), .val (.long q2), .second, .val (.int x3), .val (.int x4), .val (.int x5), .val (.int x6), .val (.int c2), .val (.int i1), .val (.int j1), .val (.int k1), .val (.ref b55), .val (.ref b63), .unset, .unset, .unset, .unset, .unset, .unset] [(.int j1), (.int i1), (.long (x5.toInt64))])) (fun tt_ kk_ => XS.iload X83.here hx rfl (hb hby at_91) rfl  kk_) ?_
    by_cases fE : i1 = j1
    case pos =>
      refine Wp.st (S' := T83.setTop (mkF m 102 #[.val (.int x1), .val (.long q2), .second, .val (.int x3), .val (.int x4), .val (.int x5), .val (.int x6), .val (.int c2), .val (.int i1), .val (.int j1), .val (.int k1), .val (.ref b55), .val (.ref b63), .unset, .unset, .unset, .unset, .unset, .unset] [(.long (x5.toInt64))])) (fun tt_ kk_ => XS.icmpYes X83.here hx rfl (pc0 := 93) (pc' := 102) rfl (hb hby at_93) rfl (teq (fE : i1 = j1)).1 (by decide) (by decide) kk_) ?_
      refine Wp.st (S' := T83.setTop (mkF m 103 #[.val (.int x1), .val (.long q2), .second, .val (.int x3), .val (.int x4), .val (.int x5), .val (.int x6), .val (.int c2), .val (.int i1), .val (.int j1), .val (.int k1), .val (.ref b55), .val (.ref b63), .unset, .unset, .unset, .unset, .unset, .unset] [(.long (0 : Int64)), (.long (x5.toInt64))])) (fun tt_ kk_ => XS.lconst X83.here hx rfl (hb hby at_102) kk_) ?_
      refine Wp.st (S' := T83.setTop (mkF m 104 #[.val (.int x1), .val (.long q2), .second, .val (.int x3), .val (.int x4), .val (.int x5), .val (.int x6), .val (.int c2), .val (.int i1), .val (.int j1), .val (.int k1), .val (.ref b55), .val (.ref b63), .unset, .unset, .unset, .unset, .unset, .unset] [(.long ((x5.toInt64) + (0 : Int64)))])) (fun tt_ kk_ => XS.ladd X83.here hx rfl (hb hby at_103) rfl kk_) ?_
      have ew : ((x5.toInt64) + (0 : Int64)).toInt = x5.toInt + (if i1 = j1 then 0 else x4.toInt) := by
        rw [if_pos fE]
        have e0 : (0 : Int64).toInt = 0 := by decide
        have c4 := c_i2l x4; have c5 := c_i2l x5
        have a1 := c_ladd x5.toInt64 (0 : Int64); have b1 := rng64 (x5.toInt64 + (0 : Int64))
        omega
      exact J85 _ _ ((x5.toInt64) + (0 : Int64)) Nf83 X83 e83 ew
    case neg =>
      refine Wp.st (S' := T83.setTop (mkF m 96 #[.val (.int x1), .val (.long q2), .second, .val (.int x3), .val (.int x4), .val (.int x5), .val (.int x6), .val (.int c2), .val (.int i1), .val (.int j1), .val (.int k1), .val (.ref b55), .val (.ref b63), .unset, .unset, .unset, .unset, .unset, .unset] [(.long (x5.toInt64))])) (fun tt_ kk_ => XS.icmpNo X83.here hx rfl (hb hby at_93) rfl (feq (fE : ¬ (i1 = j1))).1 kk_) ?_
      refine Wp.st (S' := T83.setTop (mkF m 98 #[.val (.int x1), .val (.long q2), .second, .val (.int x3), .val (.int x4), .val (.int x5), .val (.int x6), .val (.int c2), .val (.int i1), .val (.int j1), .val (.int k1), .val (.ref b55), .val (.ref b63), .unset, .unset, .unset, .unset, .unset, .unset] [(.int x4), (.long (x5.toInt64))])) (fun tt_ kk_ => XS.iload X83.here hx rfl (hb hby at_96) rfl  kk_) ?_
      refine Wp.st (S' := T83.setTop (mkF m 99 #[.val (.int x1), .val (.long q2), .second, .val (.int x3), .val (.int x4), .val (.int x5), .val (.int x6), .val (.int c2), .val (.int i1), .val (.int j1), .val (.int k1), .val (.ref b55), .val (.ref b63), .unset, .unset, .unset, .unset, .unset, .unset] [(.long (x4.toInt64)), (.long (x5.toInt64))])) (fun tt_ kk_ => XS.i2l X83.here hx rfl (hb hby at_98) rfl kk_) ?_
      refine Wp.st (S' := T83.setTop (mkF m 103 #[.val (.int x1), .val (.long q2), .second, .val (.int x3), .val (.int x4), .val (.int x5), .val (.int x6), .val (.int c2), .val (.int i1), .val (.int j1), .val (.int k1), .val (.ref b55), .val (.ref b63), .unset, .unset, .unset, .unset, .unset, .unset] [(.long (x4.toInt64)), (.long (x5.toInt64))])) (fun tt_ kk_ => XS.goto X83.here hx rfl (pc0 := 99) (pc' := 103) rfl (hb hby at_99) (by decide) (by decide) kk_) ?_
      refine Wp.st (S' := T83.setTop (mkF m 104 #[.val (.int x1), .val (.long q2), .second, .val (.int x3), .val (.int x4), .val (.int x5), .val (.int x6), .val (.int c2), .val (.int i1), .val (.int j1), .val (.int k1), .val (.ref b55), .val (.ref b63), .unset, .unset, .unset, .unset, .unset, .unset] [(.long ((x5.toInt64) + (x4.toInt64)))])) (fun tt_ kk_ => XS.ladd X83.here hx rfl (hb hby at_103) rfl kk_) ?_
      have ew : ((x5.toInt64) + (x4.toInt64)).toInt = x5.toInt + (if i1 = j1 then 0 else x4.toInt) := by
        rw [if_neg fE]
        have e0 : (0 : Int64).toInt = 0 := by decide
        have c4 := c_i2l x4; have c5 := c_i2l x5
        have a1 := c_ladd x5.toInt64 x4.toInt64; have b1 := rng64 (x5.toInt64 + x4.toInt64)
        omega
      exact J85 _ _ ((x5.toInt64) + (x4.toInt64)) Nf83 X83 e83 ew
  · have _u := True.intro
    have hcap : c2.toNatClampNeg ≤ 129 := by rw [own_clamp]; omega
    have hneg : ¬ c2 < 0 := by rw [own_nlt]; have e0 : (0 : Int32).toInt = 0 := (by decide); omega
    have b_i : i1.toNatClampNeg < c2.toNatClampNeg := by rw [own_clamp, own_clamp]; omega
    have b_j : j1.toNatClampNeg < c2.toNatClampNeg := by rw [own_clamp, own_clamp]; omega
    have b_k : k1.toNatClampNeg < c2.toNatClampNeg := by rw [own_clamp, own_clamp]; omega
    have hsum1 := own_sum1 b_i b_j x4.toInt x5.toInt
    have hsum2 := own_sum2 b_i b_j b_k x4.toInt x5.toInt x6.toInt
    simp only [own_cl_eq h_i1.1 h_j1.1] at hsum1
    simp only [own_cl_eq h_i1.1 h_j1.1, own_cl_eq h_j1.1 h_k1.1, own_cl_eq h_i1.1 h_k1.1] at hsum2
    have r4 := rng32 x4; have r5 := rng32 x5; have r6 := rng32 x6
    refine Wp.st (S' := T1.setTop (mkF m 47 #[.val (.int x1), .val (.long q2), .second, .val (.int x3), .val (.int x4), .val (.int x5), .val (.int x6), .val (.int c2), .val (.int i1), .val (.int j1), .val (.int k1), .unset, .unset, .unset, .unset, .unset, .unset, .unset, .unset] [(.int c2)])) (fun tt_ kk_ => XS.iload X1.here hx rfl (hb hby at_45) rfl  kk_) ?_
    obtain ⟨T107, h107, k107, X107, e107, E107, A107, Ea107, st107⟩ := newPE X1 hx hZ (hw _ (List.mem_of_getElem? (i := 6) rfl)) e1 (g := (mkF m 47 #[.val (.int x1), .val (.long q2), .second, .val (.int x3), .val (.int x4), .val (.int x5), .val (.int x6), .val (.int c2), .val (.int i1), .val (.int j1), .val (.int k1), .unset, .unset, .unset, .unset, .unset, .unset, .unset, .unset] [(.int c2)])) rfl (hb hby at_47) rfl hneg (cap := 129) hcap (by decide) (by decide) (by decide) (ad := "[D") (by decide +kernel)
    obtain ⟨b107, g107⟩ : ∃ z, z = h0.size := ⟨_, rfl⟩
    rw [← g107] at A107 Ea107 st107
    have z108 := E107.1
    have V107 : Arv Z h107 b107 k107 .double c2 [] (.double (0 : UInt64)) := Arv.new A107 hneg
    have g109 : n0 ≤ b107 := Nat.le_trans (Nat.le_trans Z0 (Nat.le_refl _)) (Nat.le_of_eq g107.symm)
    refine Wp.st (S' := T107.setTop (mkF m 49 #[.val (.int x1), .val (.long q2), .second, .val (.int x3), .val (.int x4), .val (.int x5), .val (.int x6), .val (.int c2), .val (.int i1), .val (.int j1), .val (.int k1), .unset, .unset, .unset, .unset, .unset, .unset, .unset, .unset] [(.ref b107)])) st107 ?_
    have Vz110 : Arv Z h107 b107 k107 .double c2 (own_dl own_z) (.double (0 : UInt64)) := (V107).pad (own_zpad 0)
    refine Wp.st (S' := T107.setTop (mkF m 51 #[.val (.int x1), .val (.long q2), .second, .val (.int x3), .val (.int x4), .val (.int x5), .val (.int x6), .val (.int c2), .val (.int i1), .val (.int j1), .val (.int k1), .val (.ref b107), .unset, .unset, .unset, .unset, .unset, .unset, .unset] [])) (fun tt_ kk_ => XS.astore X107.here hx rfl (hb hby at_49) rfl rfl (l' := #[.val (.int x1), .val (.long q2), .second, .val (.int x3), .val (.int x4), .val (.int x5), .val (.int x6), .val (.int c2), .val (.int i1), .val (.int j1), .val (.int k1), .val (.ref b107), .unset, .unset, .unset, .unset, .unset, .unset, .unset]) rfl kk_) ?_
    refine Wp.st (S' := T107.setTop (mkF m 53 #[.val (.int x1), .val (.long q2), .second, .val (.int x3), .val (.int x4), .val (.int x5), .val (.int x6), .val (.int c2), .val (.int i1), .val (.int j1), .val (.int k1), .val (.ref b107), .unset, .unset, .unset, .unset, .unset, .unset, .unset] [(.ref b107)])) (fun tt_ kk_ => XS.aload X107.here hx rfl (hb hby at_51) rfl rfl kk_) ?_
    refine Wp.st (S' := T107.setTop (mkF m 55 #[.val (.int x1), .val (.long q2), .second, .val (.int x3), .val (.int x4), .val (.int x5), .val (.int x6), .val (.int c2), .val (.int i1), .val (.int j1), .val (.int k1), .val (.ref b107), .unset, .unset, .unset, .unset, .unset, .unset, .unset] [(.int i1), (.ref b107)])) (fun tt_ kk_ => XS.iload X107.here hx rfl (hb hby at_53) rfl  kk_) ?_
    refine Wp.st (S' := T107.setTop (mkF m 57 #[.val (.int x1), .val (.long q2), .second, .val (.int x3), .val (.int x4), .val (.int x5), .val (.int x6), .val (.int c2), .val (.int i1), .val (.int j1), .val (.int k1), .val (.ref b107), .unset, .unset, .unset, .unset, .unset, .unset, .unset] [(.int x4), (.int i1), (.ref b107)])) (fun tt_ kk_ => XS.iload X107.here hx rfl (hb hby at_55) rfl  kk_) ?_
    refine Wp.st (S' := T107.setTop (mkF m 58 #[.val (.int x1), .val (.long q2), .second, .val (.int x3), .val (.int x4), .val (.int x5), .val (.int x6), .val (.int c2), .val (.int i1), .val (.int j1), .val (.int k1), .val (.ref b107), .unset, .unset, .unset, .unset, .unset, .unset, .unset] [(.double (FP.l2d (Int64.ofInt x4.toInt))), (.int i1), (.ref b107)])) (fun tt_ kk_ => XS.i2dS X107.here hx rfl (hb hby at_57) rfl (own_i2d x4) kk_) ?_
    obtain ⟨cl111, Ar111, q111, S111, N111, H111, G111⟩ := id Vz110
    have hin111 := inb_of (j := i1) S111 (own_ibn h_i1)
    obtain ⟨T111, h111, X111, e111, W111, st111⟩ := stD X107 hx hZ e107 Ar111 (j := i1) hin111 (g := (mkF m 58 #[.val (.int x1), .val (.long q2), .second, .val (.int x3), .val (.int x4), .val (.int x5), .val (.int x6), .val (.int c2), .val (.int i1), .val (.int j1), .val (.int k1), .val (.ref b107), .unset, .unset, .unset, .unset, .unset, .unset, .unset] [(.double (FP.l2d (Int64.ofInt x4.toInt))), (.int i1), (.ref b107)])) rfl rfl (hb hby at_58)
    have z112 := Nat.le_of_eq W111.size.symm
    have V111 : Arv Z h111 b107 k107 .double c2 (own_dl (own_up own_z i1.toNatClampNeg x4.toInt)) (.double (0 : UInt64)) := own_aset Ar111 q111 S111 N111 H111 G111 W111 (by rw [own_clamp]; omega)
    have Nf111 := Fr.snoc X111 N1 g109
    refine Wp.st (S' := T111.setTop (mkF m 59 #[.val (.int x1), .val (.long q2), .second, .val (.int x3), .val (.int x4), .val (.int x5), .val (.int x6), .val (.int c2), .val (.int i1), .val (.int j1), .val (.int k1), .val (.ref b107), .unset, .unset, .unset, .unset, .unset, .unset, .unset] [])) st111 ?_
    refine Wp.st (S' := T111.setTop (mkF m 61 #[.val (.int x1), .val (.long q2), .second, .val (.int x3), .val (.int x4), .val (.int x5), .val (.int x6), .val (.int c2), .val (.int i1), .val (.int j1), .val (.int k1), .val (.ref b107), .unset, .unset, .unset, .unset, .unset, .unset, .unset] [(.ref b107)])) (fun tt_ kk_ => XS.aload X111.here hx rfl (hb hby at_59) rfl rfl kk_) ?_
    refine Wp.st (S' := T111.setTop (mkF m 63 #[.val (.int x1), .val (.long q2), .second, .val (.int x3), .val (.int x4), .val (.int x5), .val (.int x6), .val (.int c2), .val (.int i1), .val (.int j1), .val (.int k1), .val (.ref b107), .unset, .unset, .unset, .unset, .unset, .unset, .unset] [(.int j1), (.ref b107)])) (fun tt_ kk_ => XS.iload X111.here hx rfl (hb hby at_61) rfl  kk_) ?_
    refine Wp.st (S' := T111.setTop (mkF m 65 #[.val (.int x1), .val (.long q2), .second, .val (.int x3), .val (.int x4), .val (.int x5), .val (.int x6), .val (.int c2), .val (.int i1), .val (.int j1), .val (.int k1), .val (.ref b107), .unset, .unset, .unset, .unset, .unset, .unset, .unset] [(.int x5), (.int j1), (.ref b107)])) (fun tt_ kk_ => XS.iload X111.here hx rfl (hb hby at_63) rfl  kk_) ?_
    refine Wp.st (S' := T111.setTop (mkF m 66 #[.val (.int x1), .val (.long q2), .second, .val (.int x3), .val (.int x4), .val (.int x5), .val (.int x6), .val (.int c2), .val (.int i1), .val (.int j1), .val (.int k1), .val (.ref b107), .unset, .unset, .unset, .unset, .unset, .unset, .unset] [(.double (FP.l2d (Int64.ofInt x5.toInt))), (.int j1), (.ref b107)])) (fun tt_ kk_ => XS.i2dS X111.here hx rfl (hb hby at_65) rfl (own_i2d x5) kk_) ?_
    obtain ⟨cl113, Ar113, q113, S113, N113, H113, G113⟩ := id V111
    have hin113 := inb_of (j := j1) S113 (own_ibn h_j1)
    obtain ⟨T113, h113, X113, e113, W113, st113⟩ := stD X111 hx hZ e111 Ar113 (j := j1) hin113 (g := (mkF m 66 #[.val (.int x1), .val (.long q2), .second, .val (.int x3), .val (.int x4), .val (.int x5), .val (.int x6), .val (.int c2), .val (.int i1), .val (.int j1), .val (.int k1), .val (.ref b107), .unset, .unset, .unset, .unset, .unset, .unset, .unset] [(.double (FP.l2d (Int64.ofInt x5.toInt))), (.int j1), (.ref b107)])) rfl rfl (hb hby at_66)
    have z114 := Nat.le_of_eq W113.size.symm
    have V113 : Arv Z h113 b107 k107 .double c2 (own_dl (own_up (own_up own_z i1.toNatClampNeg x4.toInt) j1.toNatClampNeg x5.toInt)) (.double (0 : UInt64)) := own_aset Ar113 q113 S113 N113 H113 G113 W113 (by rw [own_clamp]; omega)
    have Nf113 := Fr.snoc X113 Nf111 g109
    refine Wp.st (S' := T113.setTop (mkF m 67 #[.val (.int x1), .val (.long q2), .second, .val (.int x3), .val (.int x4), .val (.int x5), .val (.int x6), .val (.int c2), .val (.int i1), .val (.int j1), .val (.int k1), .val (.ref b107), .unset, .unset, .unset, .unset, .unset, .unset, .unset] [])) st113 ?_
    obtain ⟨T115, h115, X115, e115, E115, A115, D115, U115, st115⟩ := newO X113 hx hZ hown (hw _ (List.mem_of_getElem? (i := 7) rfl)) (hw _ (List.mem_of_getElem? (i := 8) rfl)) (hw _ (List.mem_of_getElem? (i := 9) rfl)) e113 (g := (mkF m 67 #[.val (.int x1), .val (.long q2), .second, .val (.int x3), .val (.int x4), .val (.int x5), .val (.int x6), .val (.int c2), .val (.int i1), .val (.int j1), .val (.int k1), .val (.ref b107), .unset, .unset, .unset, .unset, .unset, .unset, .unset] [])) rfl (hb hby at_67) (by decide) (by decide)
    obtain ⟨b115, g115⟩ : ∃ z, z = h113.size := ⟨_, rfl⟩
    rw [← g115] at A115 D115 U115 st115
    have z116 := E115.1
    have g117 : n0 ≤ b115 := Nat.le_trans (Nat.le_trans Z0 (Nat.le_trans (Nat.le_trans z108 z112) z114)) (Nat.le_of_eq g115.symm)
    have F118 : Fld Z h115 b115 "com/example/dags_over_clouds/dagsoverclouds/plan/Tally" "levels" "[[D" .null := D115 (Or.inr (hw _ (List.mem_of_getElem? (i := 23) rfl))) (ty := (.array (.array .double))) (by decide)
    refine Wp.st (S' := T115.setTop (mkF m 70 #[.val (.int x1), .val (.long q2), .second, .val (.int x3), .val (.int x4), .val (.int x5), .val (.int x6), .val (.int c2), .val (.int i1), .val (.int j1), .val (.int k1), .val (.ref b107), .unset, .unset, .unset, .unset, .unset, .unset, .unset] [(.ref b115)])) st115 ?_
    refine Wp.st (S' := T115.setTop (mkF m 71 #[.val (.int x1), .val (.long q2), .second, .val (.int x3), .val (.int x4), .val (.int x5), .val (.int x6), .val (.int c2), .val (.int i1), .val (.int j1), .val (.int k1), .val (.ref b107), .unset, .unset, .unset, .unset, .unset, .unset, .unset] [(.ref b115), (.ref b115)])) (fun tt_ kk_ => XS.dup X115.here hx rfl (hb hby at_70) rfl rfl kk_) ?_
    refine Wp.st (S' := T115.setTop (mkF m 73 #[.val (.int x1), .val (.long q2), .second, .val (.int x3), .val (.int x4), .val (.int x5), .val (.int x6), .val (.int c2), .val (.int i1), .val (.int j1), .val (.int k1), .val (.ref b107), .unset, .unset, .unset, .unset, .unset, .unset, .unset] [(.ref b107), (.ref b115), (.ref b115)])) (fun tt_ kk_ => XS.aload X115.here hx rfl (hb hby at_71) rfl rfl kk_) ?_
    have F120 := V113.ext E115
    have F121 := Ea107.wr W111
    have F122 := F121.wr W113
    have F123 := F122.ext E115
    obtain ⟨vv119, _, ⟨T119, L119, k119, n119⟩, -, X119, ⟨Lc119, hQ119, l119, y119, z119⟩, st119⟩ := X115.specialBack hx (y := (⟨"com/example/dags_over_clouds/dagsoverclouds/plan/Tally", "<init>", "([D)V"⟩ : MethodName)) rfl hown (mvT hZ (hw _ (List.mem_of_getElem? (i := 10) rfl))) (mvT hZ (hw _ (List.mem_of_getElem? (i := 11) rfl))) (mvT hZ (hw _ (List.mem_of_getElem? (i := 12) rfl))) (by decide) (backOf (W := 1) (rmInitB l Z a0 hw [] b115 b107 k107 c2 (own_up (own_up own_z i1.toNatClampNeg x4.toInt) j1.toNatClampNeg x5.toInt) h115 n0 (Nat.le_trans Z0 (Nat.le_trans (Nat.le_trans (Nat.le_trans z108 z112) z114) z116)) g117 A115 F118 F120 F123 ((own_b0_up (own_b0_up own_b0_z _ _) _ _) : own_b0 (own_up (own_up own_z i1.toNatClampNeg x4.toInt) j1.toNatClampNeg x5.toInt)) ((by assumption) : c2 = (65 : Int32) ∨ c2 = (128 : Int32)) ((Ne.symm (Nat.ne_of_lt (Nat.lt_of_lt_of_le V107.lt (Nat.le_trans (Nat.le_trans z112 z114) (Nat.le_of_eq g115.symm))))) : b115 ≠ b107)) hZ (hw _ (List.mem_of_getElem? (i := 12) rfl)) (hw _ (List.mem_of_getElem? (i := 9) rfl)) (by decide) (by decide)) (g := (mkF m 73 #[.val (.int x1), .val (.long q2), .second, .val (.int x3), .val (.int x4), .val (.int x5), .val (.int x6), .val (.int c2), .val (.int i1), .val (.int j1), .val (.int k1), .val (.ref b107), .unset, .unset, .unset, .unset, .unset, .unset, .unset] [(.ref b107), (.ref b115), (.ref b115)])) rfl (by rw [hml]; rfl) (Steps.refl _) (a := b115) (argsL := [(.ref b107)]) (rest := [(.ref b115)]) (lenOf pd_3 rfl) rfl (by show 2 * 0 + _ ≤ _; exact Nat.le_of_eq rfl) (hb hby at_73) (fun _ _ => ⟨rfl, e115, (by decide : 2 + 4 ≤ _), (by decide : 130 + 135 ≤ _)⟩)
    dsimp only [Pt.U, Pt.locs, Pt.cells, Pt.slots] at X119 l119 y119 z119 st119 hQ119
    subst l119 y119 z119
    obtain ⟨b124, b125, b126, b127, c128, c129, c130, c131, rfl, Nq119, K119, P119_0, P119_1, P119_2, P119_3, P119_4, P119_5, P119_6, P119_7, P119_8, P119_9, P119_10, P119_11, P119_12, P119_13, P119_14, P119_15⟩ := hQ119
    have N119 := Fr.app Nf113 Nq119
    have z132 := K119.1
    have g133 : n0 ≤ b124 := Nat.le_trans (Nat.le_trans Z0 (Nat.le_trans (Nat.le_trans (Nat.le_trans z108 z112) z114) z116)) P119_0
    have g134 : n0 ≤ b125 := Nat.le_trans (Nat.le_trans Z0 (Nat.le_trans (Nat.le_trans (Nat.le_trans z108 z112) z114) z116)) P119_1
    have g135 : n0 ≤ b126 := Nat.le_trans (Nat.le_trans Z0 (Nat.le_trans (Nat.le_trans (Nat.le_trans z108 z112) z114) z116)) P119_2
    have g136 : n0 ≤ b127 := Nat.le_trans (Nat.le_trans Z0 (Nat.le_trans (Nat.le_trans (Nat.le_trans z108 z112) z114) z116)) P119_3
    have e119 : T119.heap = T119.heap := rfl
    refine Wp.tr (S' := T119.setTop (mkF m 76 #[.val (.int x1), .val (.long q2), .second, .val (.int x3), .val (.int x4), .val (.int x5), .val (.int x6), .val (.int c2), .val (.int i1), .val (.int j1), .val (.int k1), .val (.ref b107), .unset, .unset, .unset, .unset, .unset, .unset, .unset] [(.ref b115)])) st119 ?_
    refine Wp.st (S' := T119.setTop (mkF m 78 #[.val (.int x1), .val (.long q2), .second, .val (.int x3), .val (.int x4), .val (.int x5), .val (.int x6), .val (.int c2), .val (.int i1), .val (.int j1), .val (.int k1), .val (.ref b107), .val (.ref b115), .unset, .unset, .unset, .unset, .unset, .unset] [])) (fun tt_ kk_ => XS.astore X119.here hx rfl (hb hby at_76) rfl rfl (l' := #[.val (.int x1), .val (.long q2), .second, .val (.int x3), .val (.int x4), .val (.int x5), .val (.int x6), .val (.int c2), .val (.int i1), .val (.int j1), .val (.int k1), .val (.ref b107), .val (.ref b115), .unset, .unset, .unset, .unset, .unset, .unset]) rfl kk_) ?_
    refine Wp.st (S' := T119.setTop (mkF m 80 #[.val (.int x1), .val (.long q2), .second, .val (.int x3), .val (.int x4), .val (.int x5), .val (.int x6), .val (.int c2), .val (.int i1), .val (.int j1), .val (.int k1), .val (.ref b107), .val (.ref b115), .unset, .unset, .unset, .unset, .unset, .unset] [(.ref b107)])) (fun tt_ kk_ => XS.aload X119.here hx rfl (hb hby at_78) rfl rfl kk_) ?_
    refine Wp.st (S' := T119.setTop (mkF m 82 #[.val (.int x1), .val (.long q2), .second, .val (.int x3), .val (.int x4), .val (.int x5), .val (.int x6), .val (.int c2), .val (.int i1), .val (.int j1), .val (.int k1), .val (.ref b107), .val (.ref b115), .unset, .unset, .unset, .unset, .unset, .unset] [(.int i1), (.ref b107)])) (fun tt_ kk_ => XS.iload X119.here hx rfl (hb hby at_80) rfl  kk_) ?_
    refine Wp.st (S' := T119.setTop (mkF m 84 #[.val (.int x1), .val (.long q2), .second, .val (.int x3), .val (.int x4), .val (.int x5), .val (.int x6), .val (.int c2), .val (.int i1), .val (.int j1), .val (.int k1), .val (.ref b107), .val (.ref b115), .unset, .unset, .unset, .unset, .unset, .unset] [(.int x6), (.int i1), (.ref b107)])) (fun tt_ kk_ => XS.iload X119.here hx rfl (hb hby at_82) rfl  kk_) ?_
    refine Wp.st (S' := T119.setTop (mkF m 85 #[.val (.int x1), .val (.long q2), .second, .val (.int x3), .val (.int x4), .val (.int x5), .val (.int x6), .val (.int c2), .val (.int i1), .val (.int j1), .val (.int k1), .val (.ref b107), .val (.ref b115), .unset, .unset, .unset, .unset, .unset, .unset] [(.double (FP.l2d (Int64.ofInt x6.toInt))), (.int i1), (.ref b107)])) (fun tt_ kk_ => XS.i2dS X119.here hx rfl (hb hby at_84) rfl (own_i2d x6) kk_) ?_
    have F137 := F120.keep K119 (ninS (Nat.ne_of_lt (Nat.lt_of_lt_of_le V107.lt (Nat.le_trans (Nat.le_trans z112 z114) (Nat.le_of_eq g115.symm)))) nin0)
    obtain ⟨cl138, Ar138, q138, S138, N138, H138, G138⟩ := id F137
    have hin138 := inb_of (j := i1) S138 (own_ibn h_i1)
    obtain ⟨T138, h138, X138, e138, W138, st138⟩ := stD X119 hx hZ e119 Ar138 (j := i1) hin138 (g := (mkF m 85 #[.val (.int x1), .val (.long q2), .second, .val (.int x3), .val (.int x4), .val (.int x5), .val (.int x6), .val (.int c2), .val (.int i1), .val (.int j1), .val (.int k1), .val (.ref b107), .val (.ref b115), .unset, .unset, .unset, .unset, .unset, .unset] [(.double (FP.l2d (Int64.ofInt x6.toInt))), (.int i1), (.ref b107)])) rfl rfl (hb hby at_85)
    have z139 := Nat.le_of_eq W138.size.symm
    have V138 : Arv Z h138 b107 k107 .double c2 (own_dl (own_up (own_up (own_up own_z i1.toNatClampNeg x4.toInt) j1.toNatClampNeg x5.toInt) i1.toNatClampNeg x6.toInt)) (.double (0 : UInt64)) := own_aset Ar138 q138 S138 N138 H138 G138 W138 (by rw [own_clamp]; omega)
    have Nf138 := Fr.snoc X138 N119 g109
    refine Wp.st (S' := T138.setTop (mkF m 86 #[.val (.int x1), .val (.long q2), .second, .val (.int x3), .val (.int x4), .val (.int x5), .val (.int x6), .val (.int c2), .val (.int i1), .val (.int j1), .val (.int k1), .val (.ref b107), .val (.ref b115), .unset, .unset, .unset, .unset, .unset, .unset] [])) st138 ?_
    refine Wp.st (S' := T138.setTop (mkF m 88 #[.val (.int x1), .val (.long q2), .second, .val (.int x3), .val (.int x4), .val (.int x5), .val (.int x6), .val (.int c2), .val (.int i1), .val (.int j1), .val (.int k1), .val (.ref b107), .val (.ref b115), .unset, .unset, .unset, .unset, .unset, .unset] [(.int x5)])) (fun tt_ kk_ => XS.iload X138.here hx rfl (hb hby at_86) rfl  kk_) ?_
    have J140 : ∀ (TJ140 : State) (loJ140 : List Loc) (wa : Int64) (NJ140 : Fr n0 loJ140) (XJ140 : Stand p l e room_1 s m #[(.int x1), (.long q2), (.int x3), (.int x4), (.int x5), (.int x6)] below meth c TJ140 loJ140 6 265) (eJ140 : TJ140.heap = h138) (hwa : wa.toInt = x5.toInt + (if i1 = j1 then 0 else x4.toInt)), Wp p e below (fun o U' => ∃ v L, o = .returned v ∧ Q_rm0 Z x1 q2 x3 x4 x5 x6 h0 n0 v U'.heap L ∧ FrameEnd s o U' L room_1.cells room_1.slots) (TJ140.setTop (mkF m 104 #[.val (.int x1), .val (.long q2), .second, .val (.int x3), .val (.int x4), .val (.int x5), .val (.int x6), .val (.int c2), .val (.int i1), .val (.int j1), .val (.int k1), .val (.ref b107), .val (.ref b115), .unset, .unset, .unset, .unset, .unset, .unset] [(.long wa)])) := by
      intro TJ140 loJ140 wa NJ140 XJ140 eJ140 hwa
      have htop : (own_up own_z (0 : Int32).toNatClampNeg (own_R (own_up (own_up own_z (0 : Int32).toNatClampNeg (own_R (own_up (own_up own_z i1.toNatClampNeg x4.toInt) j1.toNatClampNeg x5.toInt) c2.toNatClampNeg (0 : Int32).toNatClampNeg)) (1 : Int32).toNatClampNeg (own_R (own_up (own_up own_z i1.toNatClampNeg x4.toInt) j1.toNatClampNeg x5.toInt) c2.toNatClampNeg (1 : Int32).toNatClampNeg)) (2 : Int32).toNatClampNeg (0 : Int32).toNatClampNeg)) (0 : Int32).toNatClampNeg = own_S (own_up (own_up own_z i1.toNatClampNeg x4.toInt) j1.toNatClampNeg x5.toInt) 0 c2.toNatClampNeg := own_topB2 (own_up (own_up own_z i1.toNatClampNeg x4.toInt) j1.toNatClampNeg x5.toInt) own_z (by rcases hn with rfl | rfl <;> decide) (by rcases hn with rfl | rfl <;> decide)
      rw [hsum1] at htop
      have hb1 : -9007199254740992 < (own_up own_z (0 : Int32).toNatClampNeg (own_R (own_up (own_up own_z (0 : Int32).toNatClampNeg (own_R (own_up (own_up own_z i1.toNatClampNeg x4.toInt) j1.toNatClampNeg x5.toInt) c2.toNatClampNeg (0 : Int32).toNatClampNeg)) (1 : Int32).toNatClampNeg (own_R (own_up (own_up own_z i1.toNatClampNeg x4.toInt) j1.toNatClampNeg x5.toInt) c2.toNatClampNeg (1 : Int32).toNatClampNeg)) (2 : Int32).toNatClampNeg (0 : Int32).toNatClampNeg)) (0 : Int32).toNatClampNeg ∧ (own_up own_z (0 : Int32).toNatClampNeg (own_R (own_up (own_up own_z (0 : Int32).toNatClampNeg (own_R (own_up (own_up own_z i1.toNatClampNeg x4.toInt) j1.toNatClampNeg x5.toInt) c2.toNatClampNeg (0 : Int32).toNatClampNeg)) (1 : Int32).toNatClampNeg (own_R (own_up (own_up own_z i1.toNatClampNeg x4.toInt) j1.toNatClampNeg x5.toInt) c2.toNatClampNeg (1 : Int32).toNatClampNeg)) (2 : Int32).toNatClampNeg (0 : Int32).toNatClampNeg)) (0 : Int32).toNatClampNeg < 9007199254740992 := by rw [htop]; split <;> omega
      refine Wp.st (S' := TJ140.setTop (mkF m 106 #[.val (.int x1), .val (.long q2), .second, .val (.int x3), .val (.int x4), .val (.int x5), .val (.int x6), .val (.int c2), .val (.int i1), .val (.int j1), .val (.int k1), .val (.ref b107), .val (.ref b115), .val (.long wa), .second, .unset, .unset, .unset, .unset] [])) (fun tt_ kk_ => XS.lstore XJ140.here hx rfl (hb hby at_104) rfl (l' := #[.val (.int x1), .val (.long q2), .second, .val (.int x3), .val (.int x4), .val (.int x5), .val (.int x6), .val (.int c2), .val (.int i1), .val (.int j1), .val (.int k1), .val (.ref b107), .val (.ref b115), .val (.long wa), .second, .unset, .unset, .unset, .unset]) rfl kk_) ?_
      refine Wp.st (S' := TJ140.setTop (mkF m 108 #[.val (.int x1), .val (.long q2), .second, .val (.int x3), .val (.int x4), .val (.int x5), .val (.int x6), .val (.int c2), .val (.int i1), .val (.int j1), .val (.int k1), .val (.ref b107), .val (.ref b115), .val (.long wa), .second, .unset, .unset, .unset, .unset] [(.ref b115)])) (fun tt_ kk_ => XS.aload XJ140.here hx rfl (hb hby at_106) rfl rfl kk_) ?_
      have F142 := P119_5.other W138 (Or.inl (Ne.symm (Nat.ne_of_lt (Nat.lt_of_lt_of_le V107.lt (Nat.le_trans (Nat.le_trans z112 z114) (Nat.le_of_eq g115.symm))))))
      have F143 := P119_6.other W138 (Ne.symm (Nat.ne_of_lt (Nat.lt_of_lt_of_le V107.lt (Nat.le_trans (Nat.le_trans (Nat.le_trans z112 z114) z116) P119_0))))
      have F144 := P119_9.other W138 (Ne.symm (Nat.ne_of_lt (Nat.lt_of_lt_of_le V107.lt (Nat.le_trans (Nat.le_trans (Nat.le_trans z112 z114) z116) P119_3))))
      have F145 := P119_4.wr W138
      obtain ⟨cq141, kq141, q141a, q141b, q141c⟩ := isOf hZ eJ140 F145
      obtain ⟨vv141, _, ⟨T141, L141, k141, n141⟩, -, X141, ⟨Lc141, hQ141, l141, y141, z141⟩, st141⟩ := XJ140.virtualBack hx (y := (⟨"com/example/dags_over_clouds/dagsoverclouds/plan/Tally", "sum", "()D"⟩ : MethodName)) (z := (⟨"com/example/dags_over_clouds/dagsoverclouds/plan/Tally", "sum", "()D"⟩ : MethodName)) hown (mvT hZ (hw _ (List.mem_of_getElem? (i := 42) rfl))) (mvT hZ (hw _ (List.mem_of_getElem? (i := 43) rfl))) (notFace_of_selects (args := #[]) (mvT hZ (hw _ (List.mem_of_getElem? (i := 45) rfl)))) (mvT hZ (hw _ (List.mem_of_getElem? (i := 45) rfl))) (mvT hZ (hw _ (List.mem_of_getElem? (i := 44) rfl))) (by decide) (backOf (W := 0) (rmSum3 l Z a0 hw [] b115 b124 (.ref b125) (.ref b126) b127 c128 c131 (own_up own_z (0 : Int32).toNatClampNeg (own_R (own_up (own_up own_z (0 : Int32).toNatClampNeg (own_R (own_up (own_up own_z i1.toNatClampNeg x4.toInt) j1.toNatClampNeg x5.toInt) c2.toNatClampNeg (0 : Int32).toNatClampNeg)) (1 : Int32).toNatClampNeg (own_R (own_up (own_up own_z i1.toNatClampNeg x4.toInt) j1.toNatClampNeg x5.toInt) c2.toNatClampNeg (1 : Int32).toNatClampNeg)) (2 : Int32).toNatClampNeg (0 : Int32).toNatClampNeg)) h138 n0 (Nat.le_trans Z0 (Nat.le_trans (Nat.le_trans (Nat.le_trans (Nat.le_trans (Nat.le_trans z108 z112) z114) z116) z132) z139)) F142 F143 F144) hZ (hw _ (List.mem_of_getElem? (i := 46) rfl)) (hw _ (List.mem_of_getElem? (i := 9) rfl)) (by decide) (by decide)) q141a q141c (g := (mkF m 108 #[.val (.int x1), .val (.long q2), .second, .val (.int x3), .val (.int x4), .val (.int x5), .val (.int x6), .val (.int c2), .val (.int i1), .val (.int j1), .val (.int k1), .val (.ref b107), .val (.ref b115), .val (.long wa), .second, .unset, .unset, .unset, .unset] [(.ref b115)])) rfl (by rw [hml]; rfl) (Steps.refl _) (argsL := []) (rest := []) (lenOf pd_4 rfl) rfl (by show 2 * 0 + _ ≤ _; exact Nat.le_of_eq rfl) (hb hby at_108) (fun _ _ => ⟨rfl, eJ140, (by decide : 6 + 0 ≤ _), (by decide : 265 + 0 ≤ _)⟩)
      dsimp only [Pt.U, Pt.locs, Pt.cells, Pt.slots] at X141 l141 y141 z141 st141 hQ141
      subst l141 y141 z141
      obtain ⟨rfl, Nq141, e141⟩ := hQ141
      have N141 := Fr.app NJ140 Nq141
      refine Wp.tr (S' := T141.setTop (mkF m 111 #[.val (.int x1), .val (.long q2), .second, .val (.int x3), .val (.int x4), .val (.int x5), .val (.int x6), .val (.int c2), .val (.int i1), .val (.int j1), .val (.int k1), .val (.ref b107), .val (.ref b115), .val (.long wa), .second, .unset, .unset, .unset, .unset] [(.double (FP.l2d (Int64.ofInt ((own_up own_z (0 : Int32).toNatClampNeg (own_R (own_up (own_up own_z (0 : Int32).toNatClampNeg (own_R (own_up (own_up own_z i1.toNatClampNeg x4.toInt) j1.toNatClampNeg x5.toInt) c2.toNatClampNeg (0 : Int32).toNatClampNeg)) (1 : Int32).toNatClampNeg (own_R (own_up (own_up own_z i1.toNatClampNeg x4.toInt) j1.toNatClampNeg x5.toInt) c2.toNatClampNeg (1 : Int32).toNatClampNeg)) (2 : Int32).toNatClampNeg (0 : Int32).toNatClampNeg)) (0 : Int32).toNatClampNeg))))])) st141 ?_
      refine Wp.st (S' := T141.setTop (mkF m 113 #[.val (.int x1), .val (.long q2), .second, .val (.int x3), .val (.int x4), .val (.int x5), .val (.int x6), .val (.int c2), .val (.int i1), .val (.int j1), .val (.int k1), .val (.ref b107), .val (.ref b115), .val (.long wa), .second, .unset, .unset, .unset, .unset] [(.long wa), (.double (FP.l2d (Int64.ofInt ((own_up own_z (0 : Int32).toNatClampNeg (own_R (own_up (own_up own_z (0 : Int32).toNatClampNeg (own_R (own_up (own_up own_z i1.toNatClampNeg x4.toInt) j1.toNatClampNeg x5.toInt) c2.toNatClampNeg (0 : Int32).toNatClampNeg)) (1 : Int32).toNatClampNeg (own_R (own_up (own_up own_z i1.toNatClampNeg x4.toInt) j1.toNatClampNeg x5.toInt) c2.toNatClampNeg (1 : Int32).toNatClampNeg)) (2 : Int32).toNatClampNeg (0 : Int32).toNatClampNeg)) (0 : Int32).toNatClampNeg))))])) (fun tt_ kk_ => XS.lload X141.here hx rfl (hb hby at_111) rfl  kk_) ?_
      refine Wp.st (S' := T141.setTop (mkF m 114 #[.val (.int x1), .val (.long q2), .second, .val (.int x3), .val (.int x4), .val (.int x5), .val (.int x6), .val (.int c2), .val (.int i1), .val (.int j1), .val (.int k1), .val (.ref b107), .val (.ref b115), .val (.long wa), .second, .unset, .unset, .unset, .unset] [(.double (FP.l2d wa)), (.double (FP.l2d (Int64.ofInt ((own_up own_z (0 : Int32).toNatClampNeg (own_R (own_up (own_up own_z (0 : Int32).toNatClampNeg (own_R (own_up (own_up own_z i1.toNatClampNeg x4.toInt) j1.toNatClampNeg x5.toInt) c2.toNatClampNeg (0 : Int32).toNatClampNeg)) (1 : Int32).toNatClampNeg (own_R (own_up (own_up own_z i1.toNatClampNeg x4.toInt) j1.toNatClampNeg x5.toInt) c2.toNatClampNeg (1 : Int32).toNatClampNeg)) (2 : Int32).toNatClampNeg (0 : Int32).toNatClampNeg)) (0 : Int32).toNatClampNeg))))])) (fun tt_ kk_ => XS.l2dS X141.here hx rfl (hb hby at_113) rfl rfl kk_) ?_
      refine Wp.st (S' := T141.setTop (mkF m 115 #[.val (.int x1), .val (.long q2), .second, .val (.int x3), .val (.int x4), .val (.int x5), .val (.int x6), .val (.int c2), .val (.int i1), .val (.int j1), .val (.int k1), .val (.ref b107), .val (.ref b115), .val (.long wa), .second, .unset, .unset, .unset, .unset] [(.int (0 : Int32))])) (fun tt_ kk_ => XS.dcmpS X141.here hx rfl (hb hby at_114) rfl (own_cmp (hwa.trans htop.symm) hb1) kk_) ?_
      refine Wp.st (S' := T141.setTop (mkF m 118 #[.val (.int x1), .val (.long q2), .second, .val (.int x3), .val (.int x4), .val (.int x5), .val (.int x6), .val (.int c2), .val (.int i1), .val (.int j1), .val (.int k1), .val (.ref b107), .val (.ref b115), .val (.long wa), .second, .unset, .unset, .unset, .unset] [])) (fun tt_ kk_ => XS.ifNo X141.here hx rfl (hb hby at_115) rfl ((if0 _ _).trans (teq ((by decide) : (0 : Int32) = (0 : Int32))).2) kk_) ?_
      refine Wp.st (S' := T141.setTop (mkF m 119 #[.val (.int x1), .val (.long q2), .second, .val (.int x3), .val (.int x4), .val (.int x5), .val (.int x6), .val (.int c2), .val (.int i1), .val (.int j1), .val (.int k1), .val (.ref b107), .val (.ref b115), .val (.long wa), .second, .unset, .unset, .unset, .unset] [(.int (1 : Int32))])) (fun tt_ kk_ => XS.iconst X141.here hx rfl (hb hby at_118) kk_) ?_
      refine Wp.st (S' := T141.setTop (mkF m 123 #[.val (.int x1), .val (.long q2), .second, .val (.int x3), .val (.int x4), .val (.int x5), .val (.int x6), .val (.int c2), .val (.int i1), .val (.int j1), .val (.int k1), .val (.ref b107), .val (.ref b115), .val (.long wa), .second, .unset, .unset, .unset, .unset] [(.int (1 : Int32))])) (fun tt_ kk_ => XS.goto X141.here hx rfl (pc0 := 119) (pc' := 123) rfl (hb hby at_119) (by decide) (by decide) kk_) ?_
      refine Wp.st (S' := T141.setTop (mkF m 125 #[.val (.int x1), .val (.long q2), .second, .val (.int x3), .val (.int x4), .val (.int x5), .val (.int x6), .val (.int c2), .val (.int i1), .val (.int j1), .val (.int k1), .val (.ref b107), .val (.ref b115), .val (.long wa), .second, .val (.int (1 : Int32)), .unset, .unset, .unset] [])) (fun tt_ kk_ => XS.istore X141.here hx rfl (hb hby at_123) rfl (l' := #[.val (.int x1), .val (.long q2), .second, .val (.int x3), .val (.int x4), .val (.int x5), .val (.int x6), .val (.int c2), .val (.int i1), .val (.int j1), .val (.int k1), .val (.ref b107), .val (.ref b115), .val (.long wa), .second, .val (.int (1 : Int32)), .unset, .unset, .unset]) rfl kk_) ?_
      refine Wp.st (S' := T141.setTop (mkF m 127 #[.val (.int x1), .val (.long q2), .second, .val (.int x3), .val (.int x4), .val (.int x5), .val (.int x6), .val (.int c2), .val (.int i1), .val (.int j1), .val (.int k1), .val (.ref b107), .val (.ref b115), .val (.long wa), .second, .val (.int (1 : Int32)), .unset, .unset, .unset] [(.ref b115)])) (fun tt_ kk_ => XS.aload X141.here hx rfl (hb hby at_125) rfl rfl kk_) ?_
      refine Wp.st (S' := T141.setTop (mkF m 129 #[.val (.int x1), .val (.long q2), .second, .val (.int x3), .val (.int x4), .val (.int x5), .val (.int x6), .val (.int c2), .val (.int i1), .val (.int j1), .val (.int k1), .val (.ref b107), .val (.ref b115), .val (.long wa), .second, .val (.int (1 : Int32)), .unset, .unset, .unset] [(.int k1), (.ref b115)])) (fun tt_ kk_ => XS.iload X141.here hx rfl (hb hby at_127) rfl  kk_) ?_
      refine Wp.st (S' := T141.setTop (mkF m 131 #[.val (.int x1), .val (.long q2), .second, .val (.int x3), .val (.int x4), .val (.int x5), .val (.int x6), .val (.int c2), .val (.int i1), .val (.int j1), .val (.int k1), .val (.ref b107), .val (.ref b115), .val (.long wa), .second, .val (.int (1 : Int32)), .unset, .unset, .unset] [(.int x6), (.int k1), (.ref b115)])) (fun tt_ kk_ => XS.iload X141.here hx rfl (hb hby at_129) rfl  kk_) ?_
      refine Wp.st (S' := T141.setTop (mkF m 132 #[.val (.int x1), .val (.long q2), .second, .val (.int x3), .val (.int x4), .val (.int x5), .val (.int x6), .val (.int c2), .val (.int i1), .val (.int j1), .val (.int k1), .val (.ref b107), .val (.ref b115), .val (.long wa), .second, .val (.int (1 : Int32)), .unset, .unset, .unset] [(.double (FP.l2d (Int64.ofInt x6.toInt))), (.int k1), (.ref b115)])) (fun tt_ kk_ => XS.i2dS X141.here hx rfl (hb hby at_131) rfl (own_i2d x6) kk_) ?_
      have hk_ : 0 ≤ k1.toInt ∧ k1.toInt < c2.toInt ∧ c2.toInt ≤ 129 := by omega
      have hq64 := own_q64 h_k1.1
      have hr1_ : own_hr (k1 / (64 : Int32)) c2 (2 : Int32) := by
        have hnv : c2.toInt ≤ 128 := by rcases hn with rfl | rfl <;> decide
        have e1 : (2 : Int32).toInt = 2 := by decide
        unfold own_hr; rw [hq64, e1]; omega
      have hr2_ : own_hr (0 : Int32) (2 : Int32) (1 : Int32) := by unfold own_hr; decide
      have hq_ : ((k1 / (64 : Int32)) / (64 : Int32)) = (0 : Int32) := by
        apply Int32.toInt_inj.mp
        rw [own_q64 (by rw [hq64]; omega), hq64]
        have e0 : (0 : Int32).toInt = 0 := by decide
        omega
      have hbw0 : own_b0 (own_up (own_up own_z i1.toNatClampNeg x4.toInt) j1.toNatClampNeg x5.toInt) := own_b0_up (own_b0_up own_b0_z _ _) _ _
      have F147 := P119_7.other W138 (Ne.symm (Nat.ne_of_lt (Nat.lt_of_lt_of_le V107.lt (Nat.le_trans (Nat.le_trans (Nat.le_trans z112 z114) z116) P119_1))))
      have F148 := P119_8.other W138 (Ne.symm (Nat.ne_of_lt (Nat.lt_of_lt_of_le V107.lt (Nat.le_trans (Nat.le_trans (Nat.le_trans z112 z114) z116) P119_2))))
      obtain ⟨cq146, kq146, q146a, q146b, q146c⟩ := isOf hZ e141 F145
      obtain ⟨vv146, _, ⟨T146, L146, k146, n146⟩, -, X146, ⟨Lc146, hQ146, l146, y146, z146⟩, st146⟩ := X141.virtualBack hx (y := (⟨"com/example/dags_over_clouds/dagsoverclouds/plan/Tally", "set", "(ID)V"⟩ : MethodName)) (z := (⟨"com/example/dags_over_clouds/dagsoverclouds/plan/Tally", "set", "(ID)V"⟩ : MethodName)) hown (mvT hZ (hw _ (List.mem_of_getElem? (i := 47) rfl))) (mvT hZ (hw _ (List.mem_of_getElem? (i := 48) rfl))) (notFace_of_selects (args := #[]) (mvT hZ (hw _ (List.mem_of_getElem? (i := 50) rfl)))) (mvT hZ (hw _ (List.mem_of_getElem? (i := 50) rfl))) (mvT hZ (hw _ (List.mem_of_getElem? (i := 49) rfl))) (by decide) (backOf (W := 0) (rmSet3 l Z a0 hw [] b115 k1 (FP.l2d (Int64.ofInt x6.toInt)) x6.toInt b124 b125 b126 b127 c128 c129 c130 c131 c2 (2 : Int32) (own_up (own_up own_z i1.toNatClampNeg x4.toInt) j1.toNatClampNeg x5.toInt) (own_up (own_up own_z (0 : Int32).toNatClampNeg (own_R (own_up (own_up own_z i1.toNatClampNeg x4.toInt) j1.toNatClampNeg x5.toInt) c2.toNatClampNeg (0 : Int32).toNatClampNeg)) (1 : Int32).toNatClampNeg (own_R (own_up (own_up own_z i1.toNatClampNeg x4.toInt) j1.toNatClampNeg x5.toInt) c2.toNatClampNeg (1 : Int32).toNatClampNeg)) (own_up own_z (0 : Int32).toNatClampNeg (own_R (own_up (own_up own_z (0 : Int32).toNatClampNeg (own_R (own_up (own_up own_z i1.toNatClampNeg x4.toInt) j1.toNatClampNeg x5.toInt) c2.toNatClampNeg (0 : Int32).toNatClampNeg)) (1 : Int32).toNatClampNeg (own_R (own_up (own_up own_z i1.toNatClampNeg x4.toInt) j1.toNatClampNeg x5.toInt) c2.toNatClampNeg (1 : Int32).toNatClampNeg)) (2 : Int32).toNatClampNeg (0 : Int32).toNatClampNeg)) h138 n0 (Nat.le_trans Z0 (Nat.le_trans (Nat.le_trans (Nat.le_trans (Nat.le_trans (Nat.le_trans z108 z112) z114) z116) z132) z139)) g134 g135 g136 F145 F142 F143 F147 F148 F144 (rfl : (FP.l2d (Int64.ofInt x6.toInt)) = (FP.l2d (Int64.ofInt x6.toInt))) ((by assumption) : 0 ≤ k1.toInt ∧ k1.toInt < c2.toInt ∧ c2.toInt ≤ 129) ((by assumption) : own_hr (k1 / (64 : Int32)) c2 (2 : Int32)) ((own_b0_up (own_b0_up (own_b0_up own_b0_z _ _) _ _) _ _) : own_b0 (own_up (own_up (own_up own_z i1.toNatClampNeg x4.toInt) j1.toNatClampNeg x5.toInt) k1.toNatClampNeg x6.toInt)) ((by assumption) : own_hr (0 : Int32) (2 : Int32) (1 : Int32)) ((by first | assumption | exact own_b_of (by assumption) | (repeat first | exact own_b_z | assumption | refine own_b_up ?_ _ (own_R_b (by assumption) _ _))) : own_b (own_up (own_up own_z (0 : Int32).toNatClampNeg (own_R (own_up (own_up own_z i1.toNatClampNeg x4.toInt) j1.toNatClampNeg x5.toInt) c2.toNatClampNeg (0 : Int32).toNatClampNeg)) (1 : Int32).toNatClampNeg (own_R (own_up (own_up own_z i1.toNatClampNeg x4.toInt) j1.toNatClampNeg x5.toInt) c2.toNatClampNeg (1 : Int32).toNatClampNeg))) ((by assumption) : ((k1 / (64 : Int32)) / (64 : Int32)) = (0 : Int32)) ((Nat.ne_of_lt (Nat.lt_of_lt_of_le A115.lt (Nat.le_trans (Nat.le_refl _) P119_0))) : b115 ≠ b124) ((Nat.ne_of_lt (Nat.lt_of_lt_of_le A115.lt (Nat.le_trans (Nat.le_refl _) P119_1))) : b115 ≠ b125) ((Nat.ne_of_lt (Nat.lt_of_lt_of_le A115.lt (Nat.le_trans (Nat.le_refl _) P119_2))) : b115 ≠ b126) ((Nat.ne_of_lt (Nat.lt_of_lt_of_le A115.lt (Nat.le_trans (Nat.le_refl _) P119_3))) : b115 ≠ b127) (P119_10 : b124 ≠ b125) (P119_11 : b124 ≠ b126) (P119_12 : b124 ≠ b127) (P119_13 : b125 ≠ b126) (P119_14 : b125 ≠ b127) (P119_15 : b126 ≠ b127)) hZ (hw _ (List.mem_of_getElem? (i := 51) rfl)) (hw _ (List.mem_of_getElem? (i := 9) rfl)) (by decide) (by decide)) q146a q146c (g := (mkF m 132 #[.val (.int x1), .val (.long q2), .second, .val (.int x3), .val (.int x4), .val (.int x5), .val (.int x6), .val (.int c2), .val (.int i1), .val (.int j1), .val (.int k1), .val (.ref b107), .val (.ref b115), .val (.long wa), .second, .val (.int (1 : Int32)), .unset, .unset, .unset] [(.double (FP.l2d (Int64.ofInt x6.toInt))), (.int k1), (.ref b115)])) rfl (by rw [hml]; rfl) (Steps.refl _) (argsL := [(.int k1), (.double (FP.l2d (Int64.ofInt x6.toInt)))]) (rest := []) (lenOf pd_5 rfl) rfl (by show 2 * 0 + _ ≤ _; exact Nat.le_of_eq rfl) (hb hby at_132) (fun _ _ => ⟨rfl, e141, (by decide : 6 + 0 ≤ _), (by decide : 265 + 0 ≤ _)⟩)
      dsimp only [Pt.U, Pt.locs, Pt.cells, Pt.slots] at X146 l146 y146 z146 st146 hQ146
      subst l146 y146 z146
      obtain ⟨rfl, Nq146, K146, P146_0, P146_1, P146_2⟩ := hQ146
      have N146 := Fr.app N141 Nq146
      have z149 := K146.1
      have e146 : T146.heap = T146.heap := rfl
      refine Wp.tr (S' := T146.setTop (mkF m 135 #[.val (.int x1), .val (.long q2), .second, .val (.int x3), .val (.int x4), .val (.int x5), .val (.int x6), .val (.int c2), .val (.int i1), .val (.int j1), .val (.int k1), .val (.ref b107), .val (.ref b115), .val (.long wa), .second, .val (.int (1 : Int32)), .unset, .unset, .unset] [])) st146 ?_
      refine Wp.st (S' := T146.setTop (mkF m 137 #[.val (.int x1), .val (.long q2), .second, .val (.int x3), .val (.int x4), .val (.int x5), .val (.int x6), .val (.int c2), .val (.int i1), .val (.int j1), .val (.int k1), .val (.ref b107), .val (.ref b115), .val (.long wa), .second, .val (.int (1 : Int32)), .unset, .unset, .unset] [(.int x6)])) (fun tt_ kk_ => XS.iload X146.here hx rfl (hb hby at_135) rfl  kk_) ?_
      have J150 : ∀ (TJ150 : State) (loJ150 : List Loc) (wb : Int64) (NJ150 : Fr n0 loJ150) (XJ150 : Stand p l e room_1 s m #[(.int x1), (.long q2), (.int x3), (.int x4), (.int x5), (.int x6)] below meth c TJ150 loJ150 6 265) (eJ150 : TJ150.heap = T146.heap) (hwb : wb.toInt = x6.toInt + (if j1 = k1 then 0 else x5.toInt) + (if i1 = j1 then 0 else if i1 = k1 then 0 else x4.toInt)), Wp p e below (fun o U' => ∃ v L, o = .returned v ∧ Q_rm0 Z x1 q2 x3 x4 x5 x6 h0 n0 v U'.heap L ∧ FrameEnd s o U' L room_1.cells room_1.slots) (TJ150.setTop (mkF m 175 #[.val (.int x1), .val (.long q2), .second, .val (.int x3), .val (.int x4), .val (.int x5), .val (.int x6), .val (.int c2), .val (.int i1), .val (.int j1), .val (.int k1), .val (.ref b107), .val (.ref b115), .val (.long wa), .second, .val (.int (1 : Int32)), .unset, .unset, .unset] [(.long wb)])) := by
        intro TJ150 loJ150 wb NJ150 XJ150 eJ150 hwb
        have hq64c := own_q64c h_k1.1
        have htop2 : (own_up (own_up own_z (0 : Int32).toNatClampNeg (own_R (own_up (own_up own_z (0 : Int32).toNatClampNeg (own_R (own_up (own_up own_z i1.toNatClampNeg x4.toInt) j1.toNatClampNeg x5.toInt) c2.toNatClampNeg (0 : Int32).toNatClampNeg)) (1 : Int32).toNatClampNeg (own_R (own_up (own_up own_z i1.toNatClampNeg x4.toInt) j1.toNatClampNeg x5.toInt) c2.toNatClampNeg (1 : Int32).toNatClampNeg)) (2 : Int32).toNatClampNeg (0 : Int32).toNatClampNeg)) (0 : Int32).toNatClampNeg (own_R (own_up (own_up (own_up own_z (0 : Int32).toNatClampNeg (own_R (own_up (own_up own_z i1.toNatClampNeg x4.toInt) j1.toNatClampNeg x5.toInt) c2.toNatClampNeg (0 : Int32).toNatClampNeg)) (1 : Int32).toNatClampNeg (own_R (own_up (own_up own_z i1.toNatClampNeg x4.toInt) j1.toNatClampNeg x5.toInt) c2.toNatClampNeg (1 : Int32).toNatClampNeg)) (k1 / (64 : Int32)).toNatClampNeg (own_R (own_up (own_up (own_up own_z i1.toNatClampNeg x4.toInt) j1.toNatClampNeg x5.toInt) k1.toNatClampNeg x6.toInt) c2.toNatClampNeg (k1 / (64 : Int32)).toNatClampNeg)) (2 : Int32).toNatClampNeg (0 : Int32).toNatClampNeg)) (0 : Int32).toNatClampNeg = own_S (own_up (own_up (own_up own_z i1.toNatClampNeg x4.toInt) j1.toNatClampNeg x5.toInt) k1.toNatClampNeg x6.toInt) 0 c2.toNatClampNeg := by
          rw [hq64c]; exact own_setB2 (own_up (own_up own_z i1.toNatClampNeg x4.toInt) j1.toNatClampNeg x5.toInt) _ x6.toInt (by rcases hn with rfl | rfl <;> decide) (by rcases hn with rfl | rfl <;> decide) b_k
        rw [hsum2] at htop2
        have hb2 : -9007199254740992 < (own_up (own_up own_z (0 : Int32).toNatClampNeg (own_R (own_up (own_up own_z (0 : Int32).toNatClampNeg (own_R (own_up (own_up own_z i1.toNatClampNeg x4.toInt) j1.toNatClampNeg x5.toInt) c2.toNatClampNeg (0 : Int32).toNatClampNeg)) (1 : Int32).toNatClampNeg (own_R (own_up (own_up own_z i1.toNatClampNeg x4.toInt) j1.toNatClampNeg x5.toInt) c2.toNatClampNeg (1 : Int32).toNatClampNeg)) (2 : Int32).toNatClampNeg (0 : Int32).toNatClampNeg)) (0 : Int32).toNatClampNeg (own_R (own_up (own_up (own_up own_z (0 : Int32).toNatClampNeg (own_R (own_up (own_up own_z i1.toNatClampNeg x4.toInt) j1.toNatClampNeg x5.toInt) c2.toNatClampNeg (0 : Int32).toNatClampNeg)) (1 : Int32).toNatClampNeg (own_R (own_up (own_up own_z i1.toNatClampNeg x4.toInt) j1.toNatClampNeg x5.toInt) c2.toNatClampNeg (1 : Int32).toNatClampNeg)) (k1 / (64 : Int32)).toNatClampNeg (own_R (own_up (own_up (own_up own_z i1.toNatClampNeg x4.toInt) j1.toNatClampNeg x5.toInt) k1.toNatClampNeg x6.toInt) c2.toNatClampNeg (k1 / (64 : Int32)).toNatClampNeg)) (2 : Int32).toNatClampNeg (0 : Int32).toNatClampNeg)) (0 : Int32).toNatClampNeg ∧ (own_up (own_up own_z (0 : Int32).toNatClampNeg (own_R (own_up (own_up own_z (0 : Int32).toNatClampNeg (own_R (own_up (own_up own_z i1.toNatClampNeg x4.toInt) j1.toNatClampNeg x5.toInt) c2.toNatClampNeg (0 : Int32).toNatClampNeg)) (1 : Int32).toNatClampNeg (own_R (own_up (own_up own_z i1.toNatClampNeg x4.toInt) j1.toNatClampNeg x5.toInt) c2.toNatClampNeg (1 : Int32).toNatClampNeg)) (2 : Int32).toNatClampNeg (0 : Int32).toNatClampNeg)) (0 : Int32).toNatClampNeg (own_R (own_up (own_up (own_up own_z (0 : Int32).toNatClampNeg (own_R (own_up (own_up own_z i1.toNatClampNeg x4.toInt) j1.toNatClampNeg x5.toInt) c2.toNatClampNeg (0 : Int32).toNatClampNeg)) (1 : Int32).toNatClampNeg (own_R (own_up (own_up own_z i1.toNatClampNeg x4.toInt) j1.toNatClampNeg x5.toInt) c2.toNatClampNeg (1 : Int32).toNatClampNeg)) (k1 / (64 : Int32)).toNatClampNeg (own_R (own_up (own_up (own_up own_z i1.toNatClampNeg x4.toInt) j1.toNatClampNeg x5.toInt) k1.toNatClampNeg x6.toInt) c2.toNatClampNeg (k1 / (64 : Int32)).toNatClampNeg)) (2 : Int32).toNatClampNeg (0 : Int32).toNatClampNeg)) (0 : Int32).toNatClampNeg < 9007199254740992 := by rw [htop2]; repeat' split; all_goals omega
        refine Wp.st (S' := TJ150.setTop (mkF m 177 #[.val (.int x1), .val (.long q2), .second, .val (.int x3), .val (.int x4), .val (.int x5), .val (.int x6), .val (.int c2), .val (.int i1), .val (.int j1), .val (.int k1), .val (.ref b107), .val (.ref b115), .val (.long wa), .second, .val (.int (1 : Int32)), .val (.long wb), .second, .unset] [])) (fun tt_ kk_ => XS.lstore XJ150.here hx rfl (hb hby at_175) rfl (l' := #[.val (.int x1), .val (.long q2), .second, .val (.int x3), .val (.int x4), .val (.int x5), .val (.int x6), .val (.int c2), .val (.int i1), .val (.int j1), .val (.int k1), .val (.ref b107), .val (.ref b115), .val (.long wa), .second, .val (.int (1 : Int32)), .val (.long wb), .second, .unset]) rfl kk_) ?_
        refine Wp.st (S' := TJ150.setTop (mkF m 179 #[.val (.int x1), .val (.long q2), .second, .val (.int x3), .val (.int x4), .val (.int x5), .val (.int x6), .val (.int c2), .val (.int i1), .val (.int j1), .val (.int k1), .val (.ref b107), .val (.ref b115), .val (.long wa), .second, .val (.int (1 : Int32)), .val (.long wb), .second, .unset] [(.ref b115)])) (fun tt_ kk_ => XS.aload XJ150.here hx rfl (hb hby at_177) rfl rfl kk_) ?_
        have F152 := F142.keep K146 (ninS (Nat.ne_of_lt (Nat.lt_of_lt_of_le A115.lt (Nat.le_trans (Nat.le_refl _) P119_1))) (ninS (Nat.ne_of_lt (Nat.lt_of_lt_of_le A115.lt (Nat.le_trans (Nat.le_refl _) P119_2))) (ninS (Nat.ne_of_lt (Nat.lt_of_lt_of_le A115.lt (Nat.le_trans (Nat.le_refl _) P119_3))) nin0)))
        have F153 := F143.keep K146 (ninS P119_10 (ninS P119_11 (ninS P119_12 nin0)))
        have F154 := F145.keep K146
        obtain ⟨cq151, kq151, q151a, q151b, q151c⟩ := isOf hZ eJ150 F154
        obtain ⟨vv151, _, ⟨T151, L151, k151, n151⟩, -, X151, ⟨Lc151, hQ151, l151, y151, z151⟩, st151⟩ := XJ150.virtualBack hx (y := (⟨"com/example/dags_over_clouds/dagsoverclouds/plan/Tally", "sum", "()D"⟩ : MethodName)) (z := (⟨"com/example/dags_over_clouds/dagsoverclouds/plan/Tally", "sum", "()D"⟩ : MethodName)) hown (mvT hZ (hw _ (List.mem_of_getElem? (i := 42) rfl))) (mvT hZ (hw _ (List.mem_of_getElem? (i := 43) rfl))) (notFace_of_selects (args := #[]) (mvT hZ (hw _ (List.mem_of_getElem? (i := 45) rfl)))) (mvT hZ (hw _ (List.mem_of_getElem? (i := 45) rfl))) (mvT hZ (hw _ (List.mem_of_getElem? (i := 44) rfl))) (by decide) (backOf (W := 0) (rmSum3 l Z a0 hw [] b115 b124 (.ref b125) (.ref b126) b127 c128 c131 (own_up (own_up own_z (0 : Int32).toNatClampNeg (own_R (own_up (own_up own_z (0 : Int32).toNatClampNeg (own_R (own_up (own_up own_z i1.toNatClampNeg x4.toInt) j1.toNatClampNeg x5.toInt) c2.toNatClampNeg (0 : Int32).toNatClampNeg)) (1 : Int32).toNatClampNeg (own_R (own_up (own_up own_z i1.toNatClampNeg x4.toInt) j1.toNatClampNeg x5.toInt) c2.toNatClampNeg (1 : Int32).toNatClampNeg)) (2 : Int32).toNatClampNeg (0 : Int32).toNatClampNeg)) (0 : Int32).toNatClampNeg (own_R (own_up (own_up (own_up own_z (0 : Int32).toNatClampNeg (own_R (own_up (own_up own_z i1.toNatClampNeg x4.toInt) j1.toNatClampNeg x5.toInt) c2.toNatClampNeg (0 : Int32).toNatClampNeg)) (1 : Int32).toNatClampNeg (own_R (own_up (own_up own_z i1.toNatClampNeg x4.toInt) j1.toNatClampNeg x5.toInt) c2.toNatClampNeg (1 : Int32).toNatClampNeg)) (k1 / (64 : Int32)).toNatClampNeg (own_R (own_up (own_up (own_up own_z i1.toNatClampNeg x4.toInt) j1.toNatClampNeg x5.toInt) k1.toNatClampNeg x6.toInt) c2.toNatClampNeg (k1 / (64 : Int32)).toNatClampNeg)) (2 : Int32).toNatClampNeg (0 : Int32).toNatClampNeg)) T146.heap n0 (Nat.le_trans Z0 (Nat.le_trans (Nat.le_trans (Nat.le_trans (Nat.le_trans (Nat.le_trans (Nat.le_trans z108 z112) z114) z116) z132) z139) z149)) F152 F153 P146_2) hZ (hw _ (List.mem_of_getElem? (i := 46) rfl)) (hw _ (List.mem_of_getElem? (i := 9) rfl)) (by decide) (by decide)) q151a q151c (g := (mkF m 179 #[.val (.int x1), .val (.long q2), .second, .val (.int x3), .val (.int x4), .val (.int x5), .val (.int x6), .val (.int c2), .val (.int i1), .val (.int j1), .val (.int k1), .val (.ref b107), .val (.ref b115), .val (.long wa), .second, .val (.int (1 : Int32)), .val (.long wb), .second, .unset] [(.ref b115)])) rfl (by rw [hml]; rfl) (Steps.refl _) (argsL := []) (rest := []) (lenOf pd_4 rfl) rfl (by show 2 * 0 + _ ≤ _; exact Nat.le_of_eq rfl) (hb hby at_179) (fun _ _ => ⟨rfl, eJ150, (by decide : 6 + 0 ≤ _), (by decide : 265 + 0 ≤ _)⟩)
        dsimp only [Pt.U, Pt.locs, Pt.cells, Pt.slots] at X151 l151 y151 z151 st151 hQ151
        subst l151 y151 z151
        obtain ⟨rfl, Nq151, e151⟩ := hQ151
        have N151 := Fr.app NJ150 Nq151
        refine Wp.tr (S' := T151.setTop (mkF m 182 #[.val (.int x1), .val (.long q2), .second, .val (.int x3), .val (.int x4), .val (.int x5), .val (.int x6), .val (.int c2), .val (.int i1), .val (.int j1), .val (.int k1), .val (.ref b107), .val (.ref b115), .val (.long wa), .second, .val (.int (1 : Int32)), .val (.long wb), .second, .unset] [(.double (FP.l2d (Int64.ofInt ((own_up (own_up own_z (0 : Int32).toNatClampNeg (own_R (own_up (own_up own_z (0 : Int32).toNatClampNeg (own_R (own_up (own_up own_z i1.toNatClampNeg x4.toInt) j1.toNatClampNeg x5.toInt) c2.toNatClampNeg (0 : Int32).toNatClampNeg)) (1 : Int32).toNatClampNeg (own_R (own_up (own_up own_z i1.toNatClampNeg x4.toInt) j1.toNatClampNeg x5.toInt) c2.toNatClampNeg (1 : Int32).toNatClampNeg)) (2 : Int32).toNatClampNeg (0 : Int32).toNatClampNeg)) (0 : Int32).toNatClampNeg (own_R (own_up (own_up (own_up own_z (0 : Int32).toNatClampNeg (own_R (own_up (own_up own_z i1.toNatClampNeg x4.toInt) j1.toNatClampNeg x5.toInt) c2.toNatClampNeg (0 : Int32).toNatClampNeg)) (1 : Int32).toNatClampNeg (own_R (own_up (own_up own_z i1.toNatClampNeg x4.toInt) j1.toNatClampNeg x5.toInt) c2.toNatClampNeg (1 : Int32).toNatClampNeg)) (k1 / (64 : Int32)).toNatClampNeg (own_R (own_up (own_up (own_up own_z i1.toNatClampNeg x4.toInt) j1.toNatClampNeg x5.toInt) k1.toNatClampNeg x6.toInt) c2.toNatClampNeg (k1 / (64 : Int32)).toNatClampNeg)) (2 : Int32).toNatClampNeg (0 : Int32).toNatClampNeg)) (0 : Int32).toNatClampNeg))))])) st151 ?_
        refine Wp.st (S' := T151.setTop (mkF m 184 #[.val (.int x1), .val (.long q2), .second, .val (.int x3), .val (.int x4), .val (.int x5), .val (.int x6), .val (.int c2), .val (.int i1), .val (.int j1), .val (.int k1), .val (.ref b107), .val (.ref b115), .val (.long wa), .second, .val (.int (1 : Int32)), .val (.long wb), .second, .unset] [(.long wb), (.double (FP.l2d (Int64.ofInt ((own_up (own_up own_z (0 : Int32).toNatClampNeg (own_R (own_up (own_up own_z (0 : Int32).toNatClampNeg (own_R (own_up (own_up own_z i1.toNatClampNeg x4.toInt) j1.toNatClampNeg x5.toInt) c2.toNatClampNeg (0 : Int32).toNatClampNeg)) (1 : Int32).toNatClampNeg (own_R (own_up (own_up own_z i1.toNatClampNeg x4.toInt) j1.toNatClampNeg x5.toInt) c2.toNatClampNeg (1 : Int32).toNatClampNeg)) (2 : Int32).toNatClampNeg (0 : Int32).toNatClampNeg)) (0 : Int32).toNatClampNeg (own_R (own_up (own_up (own_up own_z (0 : Int32).toNatClampNeg (own_R (own_up (own_up own_z i1.toNatClampNeg x4.toInt) j1.toNatClampNeg x5.toInt) c2.toNatClampNeg (0 : Int32).toNatClampNeg)) (1 : Int32).toNatClampNeg (own_R (own_up (own_up own_z i1.toNatClampNeg x4.toInt) j1.toNatClampNeg x5.toInt) c2.toNatClampNeg (1 : Int32).toNatClampNeg)) (k1 / (64 : Int32)).toNatClampNeg (own_R (own_up (own_up (own_up own_z i1.toNatClampNeg x4.toInt) j1.toNatClampNeg x5.toInt) k1.toNatClampNeg x6.toInt) c2.toNatClampNeg (k1 / (64 : Int32)).toNatClampNeg)) (2 : Int32).toNatClampNeg (0 : Int32).toNatClampNeg)) (0 : Int32).toNatClampNeg))))])) (fun tt_ kk_ => XS.lload X151.here hx rfl (hb hby at_182) rfl  kk_) ?_
        refine Wp.st (S' := T151.setTop (mkF m 185 #[.val (.int x1), .val (.long q2), .second, .val (.int x3), .val (.int x4), .val (.int x5), .val (.int x6), .val (.int c2), .val (.int i1), .val (.int j1), .val (.int k1), .val (.ref b107), .val (.ref b115), .val (.long wa), .second, .val (.int (1 : Int32)), .val (.long wb), .second, .unset] [(.double (FP.l2d wb)), (.double (FP.l2d (Int64.ofInt ((own_up (own_up own_z (0 : Int32).toNatClampNeg (own_R (own_up (own_up own_z (0 : Int32).toNatClampNeg (own_R (own_up (own_up own_z i1.toNatClampNeg x4.toInt) j1.toNatClampNeg x5.toInt) c2.toNatClampNeg (0 : Int32).toNatClampNeg)) (1 : Int32).toNatClampNeg (own_R (own_up (own_up own_z i1.toNatClampNeg x4.toInt) j1.toNatClampNeg x5.toInt) c2.toNatClampNeg (1 : Int32).toNatClampNeg)) (2 : Int32).toNatClampNeg (0 : Int32).toNatClampNeg)) (0 : Int32).toNatClampNeg (own_R (own_up (own_up (own_up own_z (0 : Int32).toNatClampNeg (own_R (own_up (own_up own_z i1.toNatClampNeg x4.toInt) j1.toNatClampNeg x5.toInt) c2.toNatClampNeg (0 : Int32).toNatClampNeg)) (1 : Int32).toNatClampNeg (own_R (own_up (own_up own_z i1.toNatClampNeg x4.toInt) j1.toNatClampNeg x5.toInt) c2.toNatClampNeg (1 : Int32).toNatClampNeg)) (k1 / (64 : Int32)).toNatClampNeg (own_R (own_up (own_up (own_up own_z i1.toNatClampNeg x4.toInt) j1.toNatClampNeg x5.toInt) k1.toNatClampNeg x6.toInt) c2.toNatClampNeg (k1 / (64 : Int32)).toNatClampNeg)) (2 : Int32).toNatClampNeg (0 : Int32).toNatClampNeg)) (0 : Int32).toNatClampNeg))))])) (fun tt_ kk_ => XS.l2dS X151.here hx rfl (hb hby at_184) rfl rfl kk_) ?_
        refine Wp.st (S' := T151.setTop (mkF m 186 #[.val (.int x1), .val (.long q2), .second, .val (.int x3), .val (.int x4), .val (.int x5), .val (.int x6), .val (.int c2), .val (.int i1), .val (.int j1), .val (.int k1), .val (.ref b107), .val (.ref b115), .val (.long wa), .second, .val (.int (1 : Int32)), .val (.long wb), .second, .unset] [(.int (0 : Int32))])) (fun tt_ kk_ => XS.dcmpS X151.here hx rfl (hb hby at_185) rfl (own_cmp (hwb.trans htop2.symm) hb2) kk_) ?_
        refine Wp.st (S' := T151.setTop (mkF m 189 #[.val (.int x1), .val (.long q2), .second, .val (.int x3), .val (.int x4), .val (.int x5), .val (.int x6), .val (.int c2), .val (.int i1), .val (.int j1), .val (.int k1), .val (.ref b107), .val (.ref b115), .val (.long wa), .second, .val (.int (1 : Int32)), .val (.long wb), .second, .unset] [])) (fun tt_ kk_ => XS.ifNo X151.here hx rfl (hb hby at_186) rfl ((if0 _ _).trans (teq ((by decide) : (0 : Int32) = (0 : Int32))).2) kk_) ?_
        refine Wp.st (S' := T151.setTop (mkF m 190 #[.val (.int x1), .val (.long q2), .second, .val (.int x3), .val (.int x4), .val (.int x5), .val (.int x6), .val (.int c2), .val (.int i1), .val (.int j1), .val (.int k1), .val (.ref b107), .val (.ref b115), .val (.long wa), .second, .val (.int (1 : Int32)), .val (.long wb), .second, .unset] [(.int (1 : Int32))])) (fun tt_ kk_ => XS.iconst X151.here hx rfl (hb hby at_189) kk_) ?_
        refine Wp.st (S' := T151.setTop (mkF m 194 #[.val (.int x1), .val (.long q2), .second, .val (.int x3), .val (.int x4), .val (.int x5), .val (.int x6), .val (.int c2), .val (.int i1), .val (.int j1), .val (.int k1), .val (.ref b107), .val (.ref b115), .val (.long wa), .second, .val (.int (1 : Int32)), .val (.long wb), .second, .unset] [(.int (1 : Int32))])) (fun tt_ kk_ => XS.goto X151.here hx rfl (pc0 := 190) (pc' := 194) rfl (hb hby at_190) (by decide) (by decide) kk_) ?_
        refine Wp.st (S' := T151.setTop (mkF m 196 #[.val (.int x1), .val (.long q2), .second, .val (.int x3), .val (.int x4), .val (.int x5), .val (.int x6), .val (.int c2), .val (.int i1), .val (.int j1), .val (.int k1), .val (.ref b107), .val (.ref b115), .val (.long wa), .second, .val (.int (1 : Int32)), .val (.long wb), .second, .val (.int (1 : Int32))] [])) (fun tt_ kk_ => XS.istore X151.here hx rfl (hb hby at_194) rfl (l' := #[.val (.int x1), .val (.long q2), .second, .val (.int x3), .val (.int x4), .val (.int x5), .val (.int x6), .val (.int c2), .val (.int i1), .val (.int j1), .val (.int k1), .val (.ref b107), .val (.ref b115), .val (.long wa), .second, .val (.int (1 : Int32)), .val (.long wb), .second, .val (.int (1 : Int32))]) rfl kk_) ?_
        refine Wp.st (S' := T151.setTop (mkF m 198 #[.val (.int x1), .val (.long q2), .second, .val (.int x3), .val (.int x4), .val (.int x5), .val (.int x6), .val (.int c2), .val (.int i1), .val (.int j1), .val (.int k1), .val (.ref b107), .val (.ref b115), .val (.long wa), .second, .val (.int (1 : Int32)), .val (.long wb), .second, .val (.int (1 : Int32))] [(.int (1 : Int32))])) (fun tt_ kk_ => XS.iload X151.here hx rfl (hb hby at_196) rfl  kk_) ?_
        refine Wp.st (S' := T151.setTop (mkF m 201 #[.val (.int x1), .val (.long q2), .second, .val (.int x3), .val (.int x4), .val (.int x5), .val (.int x6), .val (.int c2), .val (.int i1), .val (.int j1), .val (.int k1), .val (.ref b107), .val (.ref b115), .val (.long wa), .second, .val (.int (1 : Int32)), .val (.long wb), .second, .val (.int (1 : Int32))] [])) (fun tt_ kk_ => XS.ifNo X151.here hx rfl (hb hby at_198) rfl ((if0 _ _).trans (feq ((by decide) : ¬ ((1 : Int32) = (0 : Int32)))).1) kk_) ?_
        refine Wp.st (S' := T151.setTop (mkF m 203 #[.val (.int x1), .val (.long q2), .second, .val (.int x3), .val (.int x4), .val (.int x5), .val (.int x6), .val (.int c2), .val (.int i1), .val (.int j1), .val (.int k1), .val (.ref b107), .val (.ref b115), .val (.long wa), .second, .val (.int (1 : Int32)), .val (.long wb), .second, .val (.int (1 : Int32))] [(.int (1 : Int32))])) (fun tt_ kk_ => XS.iload X151.here hx rfl (hb hby at_201) rfl  kk_) ?_
        refine Wp.st (S' := T151.setTop (mkF m 206 #[.val (.int x1), .val (.long q2), .second, .val (.int x3), .val (.int x4), .val (.int x5), .val (.int x6), .val (.int c2), .val (.int i1), .val (.int j1), .val (.int k1), .val (.ref b107), .val (.ref b115), .val (.long wa), .second, .val (.int (1 : Int32)), .val (.long wb), .second, .val (.int (1 : Int32))] [])) (fun tt_ kk_ => XS.ifNo X151.here hx rfl (hb hby at_203) rfl ((if0 _ _).trans (feq ((by decide) : ¬ ((1 : Int32) = (0 : Int32)))).1) kk_) ?_
        refine Wp.st (S' := T151.setTop (mkF m 207 #[.val (.int x1), .val (.long q2), .second, .val (.int x3), .val (.int x4), .val (.int x5), .val (.int x6), .val (.int c2), .val (.int i1), .val (.int j1), .val (.int k1), .val (.ref b107), .val (.ref b115), .val (.long wa), .second, .val (.int (1 : Int32)), .val (.long wb), .second, .val (.int (1 : Int32))] [(.int (1 : Int32))])) (fun tt_ kk_ => XS.iconst X151.here hx rfl (hb hby at_206) kk_) ?_
        refine Wp.st (S' := T151.setTop (mkF m 211 #[.val (.int x1), .val (.long q2), .second, .val (.int x3), .val (.int x4), .val (.int x5), .val (.int x6), .val (.int c2), .val (.int i1), .val (.int j1), .val (.int k1), .val (.ref b107), .val (.ref b115), .val (.long wa), .second, .val (.int (1 : Int32)), .val (.long wb), .second, .val (.int (1 : Int32))] [(.int (1 : Int32))])) (fun tt_ kk_ => XS.goto X151.here hx rfl (pc0 := 207) (pc' := 211) rfl (hb hby at_207) (by decide) (by decide) kk_) ?_
        have K155 := Keep.refl h0 []
        have K156 := K155.ext E107
        have K157 := K156.wr W111 (Or.inr (Nat.le_trans (Nat.le_refl _) (Nat.le_of_eq g107.symm)))
        have K158 := K157.wr W113 (Or.inr (Nat.le_trans (Nat.le_refl _) (Nat.le_of_eq g107.symm)))
        have K159 := K158.ext E115
        have K160 := K159.trans K119 (allS (Or.inr (Nat.le_trans (Nat.le_trans (Nat.le_trans z108 z112) z114) (Nat.le_of_eq g115.symm))) all0)
        have K161 := K160.wr W138 (Or.inr (Nat.le_trans (Nat.le_refl _) (Nat.le_of_eq g107.symm)))
        have K162 := K161.trans K146 (allS (Or.inr (Nat.le_trans (Nat.le_trans (Nat.le_trans (Nat.le_trans z108 z112) z114) z116) P119_1)) (allS (Or.inr (Nat.le_trans (Nat.le_trans (Nat.le_trans (Nat.le_trans z108 z112) z114) z116) P119_2)) (allS (Or.inr (Nat.le_trans (Nat.le_trans (Nat.le_trans (Nat.le_trans z108 z112) z114) z116) P119_3)) all0)))
        exact Wp.ret X151 hlk (v := (some (.int (1 : Int32)))) (fun h => by rw [Bd.returns] at h; cases h) (fun fs hr => retN (z := (1 : Int32)) X151 hx (t := .boolean) Bd.returns (by simp) (hb hby at_211) hr) (by decide) (by decide) (show Q_rm0 Z x1 q2 x3 x4 x5 x6 h0 n0 _ T151.heap _ by rw [e151]; exact ⟨rfl, N151, K162⟩)
      refine Wp.st (S' := T146.setTop (mkF m 138 #[.val (.int x1), .val (.long q2), .second, .val (.int x3), .val (.int x4), .val (.int x5), .val (.int x6), .val (.int c2), .val (.int i1), .val (.int j1), .val (.int k1), .val (.ref b107), .val (.ref b115), .val (.long wa), .second, .val (.int (1 : Int32)), .unset, .unset, .unset] [(.long (x6.toInt64))])) (fun tt_ kk_ => XS.i2l X146.here hx rfl (hb hby at_137) rfl kk_) ?_
      refine Wp.st (S' := T146.setTop (mkF m 140 #[.val (.int x1), .val (.long q2), .second, .val (.int x3), .val (.int x4), .val (.int x5), .val (.int x6), .val (.int c2), .val (.int i1), .val (.int j1), .val (.int k1), .val (.ref b107), .val (.ref b115), .val (.long wa), .second, .val (.int (1 : Int32)), .unset, .unset, .unset] [(.int j1), (.long (x6.toInt64))])) (fun tt_ kk_ => XS.iload X146.here hx rfl (hb hby at_138) rfl  kk_) ?_
      refine Wp.st (S' := T146.setTop (mkF m 142 #[.val (.int x1), .val (.long q2), .second, .val (.int x3), .val (.int x4), .val (.int x5), .val (.int x6), .val (.int c2), .val (.int i1), .val (.int j1), .val (.int k1), .val (.ref b107), .val (.ref b115), .val (.long wa), .second, .val (.int (1 : Int32)), .unset, .unset, .unset] [(.int k1), (.int j1), (.long (x6.toInt64))])) (fun tt_ kk_ => XS.iload X146.here hx rfl (hb hby at_140) rfl  kk_) ?_
      by_cases fJ : j1 = k1
      case pos =>
        refine Wp.st (S' := T146.setTop (mkF m 151 #[.val (.int x1), .val (.long q2), .second, .val (.int x3), .val (.int x4), .val (.int x5), .val (.int x6), .val (.int c2), .val (.int i1), .val (.int j1), .val (.int k1), .val (.ref b107), .val (.ref b115), .val (.long wa), .second, .val (.int (1 : Int32)), .unset, .unset, .unset] [(.long (x6.toInt64))])) (fun tt_ kk_ => XS.icmpYes X146.here hx rfl (pc0 := 142) (pc' := 151) rfl (hb hby at_142) rfl (teq (fJ : j1 = k1)).1 (by decide) (by decide) kk_) ?_
        refine Wp.st (S' := T146.setTop (mkF m 152 #[.val (.int x1), .val (.long q2), .second, .val (.int x3), .val (.int x4), .val (.int x5), .val (.int x6), .val (.int c2), .val (.int i1), .val (.int j1), .val (.int k1), .val (.ref b107), .val (.ref b115), .val (.long wa), .second, .val (.int (1 : Int32)), .unset, .unset, .unset] [(.long (0 : Int64)), (.long (x6.toInt64))])) (fun tt_ kk_ => XS.lconst X146.here hx rfl (hb hby at_151) kk_) ?_
        refine Wp.st (S' := T146.setTop (mkF m 153 #[.val (.int x1), .val (.long q2), .second, .val (.int x3), .val (.int x4), .val (.int x5), .val (.int x6), .val (.int c2), .val (.int i1), .val (.int j1), .val (.int k1), .val (.ref b107), .val (.ref b115), .val (.long wa), .second, .val (.int (1 : Int32)), .unset, .unset, .unset] [(.long ((x6.toInt64) + (0 : Int64)))])) (fun tt_ kk_ => XS.ladd X146.here hx rfl (hb hby at_152) rfl kk_) ?_
        refine Wp.st (S' := T146.setTop (mkF m 155 #[.val (.int x1), .val (.long q2), .second, .val (.int x3), .val (.int x4), .val (.int x5), .val (.int x6), .val (.int c2), .val (.int i1), .val (.int j1), .val (.int k1), .val (.ref b107), .val (.ref b115), .val (.long wa), .second, .val (.int (1 : Int32)), .unset, .unset, .unset] [(.int i1), (.long ((x6.toInt64) + (0 : Int64)))])) (fun tt_ kk_ => XS.iload X146.here hx rfl (hb hby at_153) rfl  kk_) ?_
        refine Wp.st (S' := T146.setTop (mkF m 157 #[.val (.int x1), .val (.long q2), .second, .val (.int x3), .val (.int x4), .val (.int x5), .val (.int x6), .val (.int c2), .val (.int i1), .val (.int j1), .val (.int k1), .val (.ref b107), .val (.ref b115), .val (.long wa), .second, .val (.int (1 : Int32)), .unset, .unset, .unset] [(.int j1), (.int i1), (.long ((x6.toInt64) + (0 : Int64)))])) (fun tt_ kk_ => XS.iload X146.here hx rfl (hb hby at_155) rfl  kk_) ?_
        by_cases fI : i1 = j1
        case pos =>
          refine Wp.st (S' := T146.setTop (mkF m 173 #[.val (.int x1), .val (.long q2), .second, .val (.int x3), .val (.int x4), .val (.int x5), .val (.int x6), .val (.int c2), .val (.int i1), .val (.int j1), .val (.int k1), .val (.ref b107), .val (.ref b115), .val (.long wa), .second, .val (.int (1 : Int32)), .unset, .unset, .unset] [(.long ((x6.toInt64) + (0 : Int64)))])) (fun tt_ kk_ => XS.icmpYes X146.here hx rfl (pc0 := 157) (pc' := 173) rfl (hb hby at_157) rfl (teq (fI : i1 = j1)).1 (by decide) (by decide) kk_) ?_
          refine Wp.st (S' := T146.setTop (mkF m 174 #[.val (.int x1), .val (.long q2), .second, .val (.int x3), .val (.int x4), .val (.int x5), .val (.int x6), .val (.int c2), .val (.int i1), .val (.int j1), .val (.int k1), .val (.ref b107), .val (.ref b115), .val (.long wa), .second, .val (.int (1 : Int32)), .unset, .unset, .unset] [(.long (0 : Int64)), (.long ((x6.toInt64) + (0 : Int64)))])) (fun tt_ kk_ => XS.lconst X146.here hx rfl (hb hby at_173) kk_) ?_
          refine Wp.st (S' := T146.setTop (mkF m 175 #[.val (.int x1), .val (.long q2), .second, .val (.int x3), .val (.int x4), .val (.int x5), .val (.int x6), .val (.int c2), .val (.int i1), .val (.int j1), .val (.int k1), .val (.ref b107), .val (.ref b115), .val (.long wa), .second, .val (.int (1 : Int32)), .unset, .unset, .unset] [(.long (((x6.toInt64) + (0 : Int64)) + (0 : Int64)))])) (fun tt_ kk_ => XS.ladd X146.here hx rfl (hb hby at_174) rfl kk_) ?_
          have ew : (((x6.toInt64) + (0 : Int64)) + (0 : Int64)).toInt = x6.toInt + (if j1 = k1 then 0 else x5.toInt) + (if i1 = j1 then 0 else if i1 = k1 then 0 else x4.toInt) := by
            rw [if_pos fJ, if_pos fI]
            have e0 : (0 : Int64).toInt = 0 := by decide
            have c4 := c_i2l x4; have c5 := c_i2l x5; have c6 := c_i2l x6
            have a1 := c_ladd x6.toInt64 (0 : Int64); have b1 := rng64 (x6.toInt64 + (0 : Int64))
            have a2 := c_ladd (x6.toInt64 + (0 : Int64)) (0 : Int64); have b2 := rng64 (x6.toInt64 + (0 : Int64) + (0 : Int64))
            omega
          exact J150 _ _ (((x6.toInt64) + (0 : Int64)) + (0 : Int64)) N146 X146 e146 ew
        case neg =>
          refine Wp.st (S' := T146.setTop (mkF m 160 #[.val (.int x1), .val (.long q2), .second, .val (.int x3), .val (.int x4), .val (.int x5), .val (.int x6), .val (.int c2), .val (.int i1), .val (.int j1), .val (.int k1), .val (.ref b107), .val (.ref b115), .val (.long wa), .second, .val (.int (1 : Int32)), .unset, .unset, .unset] [(.long ((x6.toInt64) + (0 : Int64)))])) (fun tt_ kk_ => XS.icmpNo X146.here hx rfl (hb hby at_157) rfl (feq (fI : ¬ (i1 = j1))).1 kk_) ?_
          refine Wp.st (S' := T146.setTop (mkF m 162 #[.val (.int x1), .val (.long q2), .second, .val (.int x3), .val (.int x4), .val (.int x5), .val (.int x6), .val (.int c2), .val (.int i1), .val (.int j1), .val (.int k1), .val (.ref b107), .val (.ref b115), .val (.long wa), .second, .val (.int (1 : Int32)), .unset, .unset, .unset] [(.int i1), (.long ((x6.toInt64) + (0 : Int64)))])) (fun tt_ kk_ => XS.iload X146.here hx rfl (hb hby at_160) rfl  kk_) ?_
          refine Wp.st (S' := T146.setTop (mkF m 164 #[.val (.int x1), .val (.long q2), .second, .val (.int x3), .val (.int x4), .val (.int x5), .val (.int x6), .val (.int c2), .val (.int i1), .val (.int j1), .val (.int k1), .val (.ref b107), .val (.ref b115), .val (.long wa), .second, .val (.int (1 : Int32)), .unset, .unset, .unset] [(.int k1), (.int i1), (.long ((x6.toInt64) + (0 : Int64)))])) (fun tt_ kk_ => XS.iload X146.here hx rfl (hb hby at_162) rfl  kk_) ?_
          by_cases fK : i1 = k1
          case pos =>
            refine Wp.st (S' := T146.setTop (mkF m 173 #[.val (.int x1), .val (.long q2), .second, .val (.int x3), .val (.int x4), .val (.int x5), .val (.int x6), .val (.int c2), .val (.int i1), .val (.int j1), .val (.int k1), .val (.ref b107), .val (.ref b115), .val (.long wa), .second, .val (.int (1 : Int32)), .unset, .unset, .unset] [(.long ((x6.toInt64) + (0 : Int64)))])) (fun tt_ kk_ => XS.icmpYes X146.here hx rfl (pc0 := 164) (pc' := 173) rfl (hb hby at_164) rfl (teq (fK : i1 = k1)).1 (by decide) (by decide) kk_) ?_
            refine Wp.st (S' := T146.setTop (mkF m 174 #[.val (.int x1), .val (.long q2), .second, .val (.int x3), .val (.int x4), .val (.int x5), .val (.int x6), .val (.int c2), .val (.int i1), .val (.int j1), .val (.int k1), .val (.ref b107), .val (.ref b115), .val (.long wa), .second, .val (.int (1 : Int32)), .unset, .unset, .unset] [(.long (0 : Int64)), (.long ((x6.toInt64) + (0 : Int64)))])) (fun tt_ kk_ => XS.lconst X146.here hx rfl (hb hby at_173) kk_) ?_
            refine Wp.st (S' := T146.setTop (mkF m 175 #[.val (.int x1), .val (.long q2), .second, .val (.int x3), .val (.int x4), .val (.int x5), .val (.int x6), .val (.int c2), .val (.int i1), .val (.int j1), .val (.int k1), .val (.ref b107), .val (.ref b115), .val (.long wa), .second, .val (.int (1 : Int32)), .unset, .unset, .unset] [(.long (((x6.toInt64) + (0 : Int64)) + (0 : Int64)))])) (fun tt_ kk_ => XS.ladd X146.here hx rfl (hb hby at_174) rfl kk_) ?_
            have ew : (((x6.toInt64) + (0 : Int64)) + (0 : Int64)).toInt = x6.toInt + (if j1 = k1 then 0 else x5.toInt) + (if i1 = j1 then 0 else if i1 = k1 then 0 else x4.toInt) := by
              rw [if_pos fJ, if_neg fI, if_pos fK]
              have e0 : (0 : Int64).toInt = 0 := by decide
              have c4 := c_i2l x4; have c5 := c_i2l x5; have c6 := c_i2l x6
              have a1 := c_ladd x6.toInt64 (0 : Int64); have b1 := rng64 (x6.toInt64 + (0 : Int64))
              have a2 := c_ladd (x6.toInt64 + (0 : Int64)) (0 : Int64); have b2 := rng64 (x6.toInt64 + (0 : Int64) + (0 : Int64))
              omega
            exact J150 _ _ (((x6.toInt64) + (0 : Int64)) + (0 : Int64)) N146 X146 e146 ew
          case neg =>
            refine Wp.st (S' := T146.setTop (mkF m 167 #[.val (.int x1), .val (.long q2), .second, .val (.int x3), .val (.int x4), .val (.int x5), .val (.int x6), .val (.int c2), .val (.int i1), .val (.int j1), .val (.int k1), .val (.ref b107), .val (.ref b115), .val (.long wa), .second, .val (.int (1 : Int32)), .unset, .unset, .unset] [(.long ((x6.toInt64) + (0 : Int64)))])) (fun tt_ kk_ => XS.icmpNo X146.here hx rfl (hb hby at_164) rfl (feq (fK : ¬ (i1 = k1))).1 kk_) ?_
            refine Wp.st (S' := T146.setTop (mkF m 169 #[.val (.int x1), .val (.long q2), .second, .val (.int x3), .val (.int x4), .val (.int x5), .val (.int x6), .val (.int c2), .val (.int i1), .val (.int j1), .val (.int k1), .val (.ref b107), .val (.ref b115), .val (.long wa), .second, .val (.int (1 : Int32)), .unset, .unset, .unset] [(.int x4), (.long ((x6.toInt64) + (0 : Int64)))])) (fun tt_ kk_ => XS.iload X146.here hx rfl (hb hby at_167) rfl  kk_) ?_
            refine Wp.st (S' := T146.setTop (mkF m 170 #[.val (.int x1), .val (.long q2), .second, .val (.int x3), .val (.int x4), .val (.int x5), .val (.int x6), .val (.int c2), .val (.int i1), .val (.int j1), .val (.int k1), .val (.ref b107), .val (.ref b115), .val (.long wa), .second, .val (.int (1 : Int32)), .unset, .unset, .unset] [(.long (x4.toInt64)), (.long ((x6.toInt64) + (0 : Int64)))])) (fun tt_ kk_ => XS.i2l X146.here hx rfl (hb hby at_169) rfl kk_) ?_
            refine Wp.st (S' := T146.setTop (mkF m 174 #[.val (.int x1), .val (.long q2), .second, .val (.int x3), .val (.int x4), .val (.int x5), .val (.int x6), .val (.int c2), .val (.int i1), .val (.int j1), .val (.int k1), .val (.ref b107), .val (.ref b115), .val (.long wa), .second, .val (.int (1 : Int32)), .unset, .unset, .unset] [(.long (x4.toInt64)), (.long ((x6.toInt64) + (0 : Int64)))])) (fun tt_ kk_ => XS.goto X146.here hx rfl (pc0 := 170) (pc' := 174) rfl (hb hby at_170) (by decide) (by decide) kk_) ?_
            refine Wp.st (S' := T146.setTop (mkF m 175 #[.val (.int x1), .val (.long q2), .second, .val (.int x3), .val (.int x4), .val (.int x5), .val (.int x6), .val (.int c2), .val (.int i1), .val (.int j1), .val (.int k1), .val (.ref b107), .val (.ref b115), .val (.long wa), .second, .val (.int (1 : Int32)), .unset, .unset, .unset] [(.long (((x6.toInt64) + (0 : Int64)) + (x4.toInt64)))])) (fun tt_ kk_ => XS.ladd X146.here hx rfl (hb hby at_174) rfl kk_) ?_
            have ew : (((x6.toInt64) + (0 : Int64)) + (x4.toInt64)).toInt = x6.toInt + (if j1 = k1 then 0 else x5.toInt) + (if i1 = j1 then 0 else if i1 = k1 then 0 else x4.toInt) := by
              rw [if_pos fJ, if_neg fI, if_neg fK]
              have e0 : (0 : Int64).toInt = 0 := by decide
              have c4 := c_i2l x4; have c5 := c_i2l x5; have c6 := c_i2l x6
              have a1 := c_ladd x6.toInt64 (0 : Int64); have b1 := rng64 (x6.toInt64 + (0 : Int64))
              have a2 := c_ladd (x6.toInt64 + (0 : Int64)) x4.toInt64; have b2 := rng64 (x6.toInt64 + (0 : Int64) + x4.toInt64)
              omega
            exact J150 _ _ (((x6.toInt64) + (0 : Int64)) + (x4.toInt64)) N146 X146 e146 ew
      case neg =>
        refine Wp.st (S' := T146.setTop (mkF m 145 #[.val (.int x1), .val (.long q2), .second, .val (.int x3), .val (.int x4), .val (.int x5), .val (.int x6), .val (.int c2), .val (.int i1), .val (.int j1), .val (.int k1), .val (.ref b107), .val (.ref b115), .val (.long wa), .second, .val (.int (1 : Int32)), .unset, .unset, .unset] [(.long (x6.toInt64))])) (fun tt_ kk_ => XS.icmpNo X146.here hx rfl (hb hby at_142) rfl (feq (fJ : ¬ (j1 = k1))).1 kk_) ?_
        refine Wp.st (S' := T146.setTop (mkF m 147 #[.val (.int x1), .val (.long q2), .second, .val (.int x3), .val (.int x4), .val (.int x5), .val (.int x6), .val (.int c2), .val (.int i1), .val (.int j1), .val (.int k1), .val (.ref b107), .val (.ref b115), .val (.long wa), .second, .val (.int (1 : Int32)), .unset, .unset, .unset] [(.int x5), (.long (x6.toInt64))])) (fun tt_ kk_ => XS.iload X146.here hx rfl (hb hby at_145) rfl  kk_) ?_
        refine Wp.st (S' := T146.setTop (mkF m 148 #[.val (.int x1), .val (.long q2), .second, .val (.int x3), .val (.int x4), .val (.int x5), .val (.int x6), .val (.int c2), .val (.int i1), .val (.int j1), .val (.int k1), .val (.ref b107), .val (.ref b115), .val (.long wa), .second, .val (.int (1 : Int32)), .unset, .unset, .unset] [(.long (x5.toInt64)), (.long (x6.toInt64))])) (fun tt_ kk_ => XS.i2l X146.here hx rfl (hb hby at_147) rfl kk_) ?_
        refine Wp.st (S' := T146.setTop (mkF m 152 #[.val (.int x1), .val (.long q2), .second, .val (.int x3), .val (.int x4), .val (.int x5), .val (.int x6), .val (.int c2), .val (.int i1), .val (.int j1), .val (.int k1), .val (.ref b107), .val (.ref b115), .val (.long wa), .second, .val (.int (1 : Int32)), .unset, .unset, .unset] [(.long (x5.toInt64)), (.long (x6.toInt64))])) (fun tt_ kk_ => XS.goto X146.here hx rfl (pc0 := 148) (pc' := 152) rfl (hb hby at_148) (by decide) (by decide) kk_) ?_
        refine Wp.st (S' := T146.setTop (mkF m 153 #[.val (.int x1), .val (.long q2), .second, .val (.int x3), .val (.int x4), .val (.int x5), .val (.int x6), .val (.int c2), .val (.int i1), .val (.int j1), .val (.int k1), .val (.ref b107), .val (.ref b115), .val (.long wa), .second, .val (.int (1 : Int32)), .unset, .unset, .unset] [(.long ((x6.toInt64) + (x5.toInt64)))])) (fun tt_ kk_ => XS.ladd X146.here hx rfl (hb hby at_152) rfl kk_) ?_
        refine Wp.st (S' := T146.setTop (mkF m 155 #[.val (.int x1), .val (.long q2), .second, .val (.int x3), .val (.int x4), .val (.int x5), .val (.int x6), .val (.int c2), .val (.int i1), .val (.int j1), .val (.int k1), .val (.ref b107), .val (.ref b115), .val (.long wa), .second, .val (.int (1 : Int32)), .unset, .unset, .unset] [(.int i1), (.long ((x6.toInt64) + (x5.toInt64)))])) (fun tt_ kk_ => XS.iload X146.here hx rfl (hb hby at_153) rfl  kk_) ?_
        refine Wp.st (S' := T146.setTop (mkF m 157 #[.val (.int x1), .val (.long q2), .second, .val (.int x3), .val (.int x4), .val (.int x5), .val (.int x6), .val (.int c2), .val (.int i1), .val (.int j1), .val (.int k1), .val (.ref b107), .val (.ref b115), .val (.long wa), .second, .val (.int (1 : Int32)), .unset, .unset, .unset] [(.int j1), (.int i1), (.long ((x6.toInt64) + (x5.toInt64)))])) (fun tt_ kk_ => XS.iload X146.here hx rfl (hb hby at_155) rfl  kk_) ?_
        by_cases fI : i1 = j1
        case pos =>
          refine Wp.st (S' := T146.setTop (mkF m 173 #[.val (.int x1), .val (.long q2), .second, .val (.int x3), .val (.int x4), .val (.int x5), .val (.int x6), .val (.int c2), .val (.int i1), .val (.int j1), .val (.int k1), .val (.ref b107), .val (.ref b115), .val (.long wa), .second, .val (.int (1 : Int32)), .unset, .unset, .unset] [(.long ((x6.toInt64) + (x5.toInt64)))])) (fun tt_ kk_ => XS.icmpYes X146.here hx rfl (pc0 := 157) (pc' := 173) rfl (hb hby at_157) rfl (teq (fI : i1 = j1)).1 (by decide) (by decide) kk_) ?_
          refine Wp.st (S' := T146.setTop (mkF m 174 #[.val (.int x1), .val (.long q2), .second, .val (.int x3), .val (.int x4), .val (.int x5), .val (.int x6), .val (.int c2), .val (.int i1), .val (.int j1), .val (.int k1), .val (.ref b107), .val (.ref b115), .val (.long wa), .second, .val (.int (1 : Int32)), .unset, .unset, .unset] [(.long (0 : Int64)), (.long ((x6.toInt64) + (x5.toInt64)))])) (fun tt_ kk_ => XS.lconst X146.here hx rfl (hb hby at_173) kk_) ?_
          refine Wp.st (S' := T146.setTop (mkF m 175 #[.val (.int x1), .val (.long q2), .second, .val (.int x3), .val (.int x4), .val (.int x5), .val (.int x6), .val (.int c2), .val (.int i1), .val (.int j1), .val (.int k1), .val (.ref b107), .val (.ref b115), .val (.long wa), .second, .val (.int (1 : Int32)), .unset, .unset, .unset] [(.long (((x6.toInt64) + (x5.toInt64)) + (0 : Int64)))])) (fun tt_ kk_ => XS.ladd X146.here hx rfl (hb hby at_174) rfl kk_) ?_
          have ew : (((x6.toInt64) + (x5.toInt64)) + (0 : Int64)).toInt = x6.toInt + (if j1 = k1 then 0 else x5.toInt) + (if i1 = j1 then 0 else if i1 = k1 then 0 else x4.toInt) := by
            rw [if_neg fJ, if_pos fI]
            have e0 : (0 : Int64).toInt = 0 := by decide
            have c4 := c_i2l x4; have c5 := c_i2l x5; have c6 := c_i2l x6
            have a1 := c_ladd x6.toInt64 x5.toInt64; have b1 := rng64 (x6.toInt64 + x5.toInt64)
            have a2 := c_ladd (x6.toInt64 + x5.toInt64) (0 : Int64); have b2 := rng64 (x6.toInt64 + x5.toInt64 + (0 : Int64))
            omega
          exact J150 _ _ (((x6.toInt64) + (x5.toInt64)) + (0 : Int64)) N146 X146 e146 ew
        case neg =>
          refine Wp.st (S' := T146.setTop (mkF m 160 #[.val (.int x1), .val (.long q2), .second, .val (.int x3), .val (.int x4), .val (.int x5), .val (.int x6), .val (.int c2), .val (.int i1), .val (.int j1), .val (.int k1), .val (.ref b107), .val (.ref b115), .val (.long wa), .second, .val (.int (1 : Int32)), .unset, .unset, .unset] [(.long ((x6.toInt64) + (x5.toInt64)))])) (fun tt_ kk_ => XS.icmpNo X146.here hx rfl (hb hby at_157) rfl (feq (fI : ¬ (i1 = j1))).1 kk_) ?_
          refine Wp.st (S' := T146.setTop (mkF m 162 #[.val (.int x1), .val (.long q2), .second, .val (.int x3), .val (.int x4), .val (.int x5), .val (.int x6), .val (.int c2), .val (.int i1), .val (.int j1), .val (.int k1), .val (.ref b107), .val (.ref b115), .val (.long wa), .second, .val (.int (1 : Int32)), .unset, .unset, .unset] [(.int i1), (.long ((x6.toInt64) + (x5.toInt64)))])) (fun tt_ kk_ => XS.iload X146.here hx rfl (hb hby at_160) rfl  kk_) ?_
          refine Wp.st (S' := T146.setTop (mkF m 164 #[.val (.int x1), .val (.long q2), .second, .val (.int x3), .val (.int x4), .val (.int x5), .val (.int x6), .val (.int c2), .val (.int i1), .val (.int j1), .val (.int k1), .val (.ref b107), .val (.ref b115), .val (.long wa), .second, .val (.int (1 : Int32)), .unset, .unset, .unset] [(.int k1), (.int i1), (.long ((x6.toInt64) + (x5.toInt64)))])) (fun tt_ kk_ => XS.iload X146.here hx rfl (hb hby at_162) rfl  kk_) ?_
          by_cases fK : i1 = k1
          case pos =>
            refine Wp.st (S' := T146.setTop (mkF m 173 #[.val (.int x1), .val (.long q2), .second, .val (.int x3), .val (.int x4), .val (.int x5), .val (.int x6), .val (.int c2), .val (.int i1), .val (.int j1), .val (.int k1), .val (.ref b107), .val (.ref b115), .val (.long wa), .second, .val (.int (1 : Int32)), .unset, .unset, .unset] [(.long ((x6.toInt64) + (x5.toInt64)))])) (fun tt_ kk_ => XS.icmpYes X146.here hx rfl (pc0 := 164) (pc' := 173) rfl (hb hby at_164) rfl (teq (fK : i1 = k1)).1 (by decide) (by decide) kk_) ?_
            refine Wp.st (S' := T146.setTop (mkF m 174 #[.val (.int x1), .val (.long q2), .second, .val (.int x3), .val (.int x4), .val (.int x5), .val (.int x6), .val (.int c2), .val (.int i1), .val (.int j1), .val (.int k1), .val (.ref b107), .val (.ref b115), .val (.long wa), .second, .val (.int (1 : Int32)), .unset, .unset, .unset] [(.long (0 : Int64)), (.long ((x6.toInt64) + (x5.toInt64)))])) (fun tt_ kk_ => XS.lconst X146.here hx rfl (hb hby at_173) kk_) ?_
            refine Wp.st (S' := T146.setTop (mkF m 175 #[.val (.int x1), .val (.long q2), .second, .val (.int x3), .val (.int x4), .val (.int x5), .val (.int x6), .val (.int c2), .val (.int i1), .val (.int j1), .val (.int k1), .val (.ref b107), .val (.ref b115), .val (.long wa), .second, .val (.int (1 : Int32)), .unset, .unset, .unset] [(.long (((x6.toInt64) + (x5.toInt64)) + (0 : Int64)))])) (fun tt_ kk_ => XS.ladd X146.here hx rfl (hb hby at_174) rfl kk_) ?_
            have ew : (((x6.toInt64) + (x5.toInt64)) + (0 : Int64)).toInt = x6.toInt + (if j1 = k1 then 0 else x5.toInt) + (if i1 = j1 then 0 else if i1 = k1 then 0 else x4.toInt) := by
              rw [if_neg fJ, if_neg fI, if_pos fK]
              have e0 : (0 : Int64).toInt = 0 := by decide
              have c4 := c_i2l x4; have c5 := c_i2l x5; have c6 := c_i2l x6
              have a1 := c_ladd x6.toInt64 x5.toInt64; have b1 := rng64 (x6.toInt64 + x5.toInt64)
              have a2 := c_ladd (x6.toInt64 + x5.toInt64) (0 : Int64); have b2 := rng64 (x6.toInt64 + x5.toInt64 + (0 : Int64))
              omega
            exact J150 _ _ (((x6.toInt64) + (x5.toInt64)) + (0 : Int64)) N146 X146 e146 ew
          case neg =>
            refine Wp.st (S' := T146.setTop (mkF m 167 #[.val (.int x1), .val (.long q2), .second, .val (.int x3), .val (.int x4), .val (.int x5), .val (.int x6), .val (.int c2), .val (.int i1), .val (.int j1), .val (.int k1), .val (.ref b107), .val (.ref b115), .val (.long wa), .second, .val (.int (1 : Int32)), .unset, .unset, .unset] [(.long ((x6.toInt64) + (x5.toInt64)))])) (fun tt_ kk_ => XS.icmpNo X146.here hx rfl (hb hby at_164) rfl (feq (fK : ¬ (i1 = k1))).1 kk_) ?_
            refine Wp.st (S' := T146.setTop (mkF m 169 #[.val (.int x1), .val (.long q2), .second, .val (.int x3), .val (.int x4), .val (.int x5), .val (.int x6), .val (.int c2), .val (.int i1), .val (.int j1), .val (.int k1), .val (.ref b107), .val (.ref b115), .val (.long wa), .second, .val (.int (1 : Int32)), .unset, .unset, .unset] [(.int x4), (.long ((x6.toInt64) + (x5.toInt64)))])) (fun tt_ kk_ => XS.iload X146.here hx rfl (hb hby at_167) rfl  kk_) ?_
            refine Wp.st (S' := T146.setTop (mkF m 170 #[.val (.int x1), .val (.long q2), .second, .val (.int x3), .val (.int x4), .val (.int x5), .val (.int x6), .val (.int c2), .val (.int i1), .val (.int j1), .val (.int k1), .val (.ref b107), .val (.ref b115), .val (.long wa), .second, .val (.int (1 : Int32)), .unset, .unset, .unset] [(.long (x4.toInt64)), (.long ((x6.toInt64) + (x5.toInt64)))])) (fun tt_ kk_ => XS.i2l X146.here hx rfl (hb hby at_169) rfl kk_) ?_
            refine Wp.st (S' := T146.setTop (mkF m 174 #[.val (.int x1), .val (.long q2), .second, .val (.int x3), .val (.int x4), .val (.int x5), .val (.int x6), .val (.int c2), .val (.int i1), .val (.int j1), .val (.int k1), .val (.ref b107), .val (.ref b115), .val (.long wa), .second, .val (.int (1 : Int32)), .unset, .unset, .unset] [(.long (x4.toInt64)), (.long ((x6.toInt64) + (x5.toInt64)))])) (fun tt_ kk_ => XS.goto X146.here hx rfl (pc0 := 170) (pc' := 174) rfl (hb hby at_170) (by decide) (by decide) kk_) ?_
            refine Wp.st (S' := T146.setTop (mkF m 175 #[.val (.int x1), .val (.long q2), .second, .val (.int x3), .val (.int x4), .val (.int x5), .val (.int x6), .val (.int c2), .val (.int i1), .val (.int j1), .val (.int k1), .val (.ref b107), .val (.ref b115), .val (.long wa), .second, .val (.int (1 : Int32)), .unset, .unset, .unset] [(.long (((x6.toInt64) + (x5.toInt64)) + (x4.toInt64)))])) (fun tt_ kk_ => XS.ladd X146.here hx rfl (hb hby at_174) rfl kk_) ?_
            have ew : (((x6.toInt64) + (x5.toInt64)) + (x4.toInt64)).toInt = x6.toInt + (if j1 = k1 then 0 else x5.toInt) + (if i1 = j1 then 0 else if i1 = k1 then 0 else x4.toInt) := by
              rw [if_neg fJ, if_neg fI, if_neg fK]
              have e0 : (0 : Int64).toInt = 0 := by decide
              have c4 := c_i2l x4; have c5 := c_i2l x5; have c6 := c_i2l x6
              have a1 := c_ladd x6.toInt64 x5.toInt64; have b1 := rng64 (x6.toInt64 + x5.toInt64)
              have a2 := c_ladd (x6.toInt64 + x5.toInt64) x4.toInt64; have b2 := rng64 (x6.toInt64 + x5.toInt64 + x4.toInt64)
              omega
            exact J150 _ _ (((x6.toInt64) + (x5.toInt64)) + (x4.toInt64)) N146 X146 e146 ew
    refine Wp.st (S' := T138.setTop (mkF m 89 #[.val (.int x1), .val (.long q2), .second, .val (.int x3), .val (.int x4), .val (.int x5), .val (.int x6), .val (.int c2), .val (.int i1), .val (.int j1), .val (.int k1), .val (.ref b107), .val (.ref b115), .unset, .unset, .unset, .unset, .unset, .unset] [(.long (x5.toInt64))])) (fun tt_ kk_ => XS.i2l X138.here hx rfl (hb hby at_88) rfl kk_) ?_
    refine Wp.st (S' := T138.setTop (mkF m 91 #[.val (.int x1), .val (.long q2), .second, .val (.int x3), .val (.int x4), .val (.int x5), .val (.int x6), .val (.int c2), .val (.int i1), .val (.int j1), .val (.int k1), .val (.ref b107), .val (.ref b115), .unset, .unset, .unset, .unset, .unset, .unset] [(.int i1), (.long (x5.toInt64))])) (fun tt_ kk_ => XS.iload X138.here hx rfl (hb hby at_89) rfl  kk_) ?_
    refine Wp.st (S' := T138.setTop (mkF m 93 #[.val (.int x1), .val (.long q2), .second, .val (.int x3), .val (.int x4), .val (.int x5), .val (.int x6), .val (.int c2), .val (.int i1), .val (.int j1), .val (.int k1), .val (.ref b107), .val (.ref b115), .unset, .unset, .unset, .unset, .unset, .unset] [(.int j1), (.int i1), (.long (x5.toInt64))])) (fun tt_ kk_ => XS.iload X138.here hx rfl (hb hby at_91) rfl  kk_) ?_
    by_cases fE : i1 = j1
    case pos =>
      refine Wp.st (S' := T138.setTop (mkF m 102 #[.val (.int x1), .val (.long q2), .second, .val (.int x3), .val (.int x4), .val (.int x5), .val (.int x6), .val (.int c2), .val (.int i1), .val (.int j1), .val (.int k1), .val (.ref b107), .val (.ref b115), .unset, .unset, .unset, .unset, .unset, .unset] [(.long (x5.toInt64))])) (fun tt_ kk_ => XS.icmpYes X138.here hx rfl (pc0 := 93) (pc' := 102) rfl (hb hby at_93) rfl (teq (fE : i1 = j1)).1 (by decide) (by decide) kk_) ?_
      refine Wp.st (S' := T138.setTop (mkF m 103 #[.val (.int x1), .val (.long q2), .second, .val (.int x3), .val (.int x4), .val (.int x5), .val (.int x6), .val (.int c2), .val (.int i1), .val (.int j1), .val (.int k1), .val (.ref b107), .val (.ref b115), .unset, .unset, .unset, .unset, .unset, .unset] [(.long (0 : Int64)), (.long (x5.toInt64))])) (fun tt_ kk_ => XS.lconst X138.here hx rfl (hb hby at_102) kk_) ?_
      refine Wp.st (S' := T138.setTop (mkF m 104 #[.val (.int x1), .val (.long q2), .second, .val (.int x3), .val (.int x4), .val (.int x5), .val (.int x6), .val (.int c2), .val (.int i1), .val (.int j1), .val (.int k1), .val (.ref b107), .val (.ref b115), .unset, .unset, .unset, .unset, .unset, .unset] [(.long ((x5.toInt64) + (0 : Int64)))])) (fun tt_ kk_ => XS.ladd X138.here hx rfl (hb hby at_103) rfl kk_) ?_
      have ew : ((x5.toInt64) + (0 : Int64)).toInt = x5.toInt + (if i1 = j1 then 0 else x4.toInt) := by
        rw [if_pos fE]
        have e0 : (0 : Int64).toInt = 0 := by decide
        have c4 := c_i2l x4; have c5 := c_i2l x5
        have a1 := c_ladd x5.toInt64 (0 : Int64); have b1 := rng64 (x5.toInt64 + (0 : Int64))
        omega
      exact J140 _ _ ((x5.toInt64) + (0 : Int64)) Nf138 X138 e138 ew
    case neg =>
      refine Wp.st (S' := T138.setTop (mkF m 96 #[.val (.int x1), .val (.long q2), .second, .val (.int x3), .val (.int x4), .val (.int x5), .val (.int x6), .val (.int c2), .val (.int i1), .val (.int j1), .val (.int k1), .val (.ref b107), .val (.ref b115), .unset, .unset, .unset, .unset, .unset, .unset] [(.long (x5.toInt64))])) (fun tt_ kk_ => XS.icmpNo X138.here hx rfl (hb hby at_93) rfl (feq (fE : ¬ (i1 = j1))).1 kk_) ?_
      refine Wp.st (S' := T138.setTop (mkF m 98 #[.val (.int x1), .val (.long q2), .second, .val (.int x3), .val (.int x4), .val (.int x5), .val (.int x6), .val (.int c2), .val (.int i1), .val (.int j1), .val (.int k1), .val (.ref b107), .val (.ref b115), .unset, .unset, .unset, .unset, .unset, .unset] [(.int x4), (.long (x5.toInt64))])) (fun tt_ kk_ => XS.iload X138.here hx rfl (hb hby at_96) rfl  kk_) ?_
      refine Wp.st (S' := T138.setTop (mkF m 99 #[.val (.int x1), .val (.long q2), .second, .val (.int x3), .val (.int x4), .val (.int x5), .val (.int x6), .val (.int c2), .val (.int i1), .val (.int j1), .val (.int k1), .val (.ref b107), .val (.ref b115), .unset, .unset, .unset, .unset, .unset, .unset] [(.long (x4.toInt64)), (.long (x5.toInt64))])) (fun tt_ kk_ => XS.i2l X138.here hx rfl (hb hby at_98) rfl kk_) ?_
      refine Wp.st (S' := T138.setTop (mkF m 103 #[.val (.int x1), .val (.long q2), .second, .val (.int x3), .val (.int x4), .val (.int x5), .val (.int x6), .val (.int c2), .val (.int i1), .val (.int j1), .val (.int k1), .val (.ref b107), .val (.ref b115), .unset, .unset, .unset, .unset, .unset, .unset] [(.long (x4.toInt64)), (.long (x5.toInt64))])) (fun tt_ kk_ => XS.goto X138.here hx rfl (pc0 := 99) (pc' := 103) rfl (hb hby at_99) (by decide) (by decide) kk_) ?_
      refine Wp.st (S' := T138.setTop (mkF m 104 #[.val (.int x1), .val (.long q2), .second, .val (.int x3), .val (.int x4), .val (.int x5), .val (.int x6), .val (.int c2), .val (.int i1), .val (.int j1), .val (.int k1), .val (.ref b107), .val (.ref b115), .unset, .unset, .unset, .unset, .unset, .unset] [(.long ((x5.toInt64) + (x4.toInt64)))])) (fun tt_ kk_ => XS.ladd X138.here hx rfl (hb hby at_103) rfl kk_) ?_
      have ew : ((x5.toInt64) + (x4.toInt64)).toInt = x5.toInt + (if i1 = j1 then 0 else x4.toInt) := by
        rw [if_neg fE]
        have e0 : (0 : Int64).toInt = 0 := by decide
        have c4 := c_i2l x4; have c5 := c_i2l x5
        have a1 := c_ladd x5.toInt64 x4.toInt64; have b1 := rng64 (x5.toInt64 + x4.toInt64)
        omega
      exact J140 _ _ ((x5.toInt64) + (x4.toInt64)) Nf138 X138 e138 ew
  · have _u := True.intro
    have hcap : c2.toNatClampNeg ≤ 129 := by rw [own_clamp]; omega
    have hneg : ¬ c2 < 0 := by rw [own_nlt]; have e0 : (0 : Int32).toInt = 0 := (by decide); omega
    have b_i : i1.toNatClampNeg < c2.toNatClampNeg := by rw [own_clamp, own_clamp]; omega
    have b_j : j1.toNatClampNeg < c2.toNatClampNeg := by rw [own_clamp, own_clamp]; omega
    have b_k : k1.toNatClampNeg < c2.toNatClampNeg := by rw [own_clamp, own_clamp]; omega
    have hsum1 := own_sum1 b_i b_j x4.toInt x5.toInt
    have hsum2 := own_sum2 b_i b_j b_k x4.toInt x5.toInt x6.toInt
    simp only [own_cl_eq h_i1.1 h_j1.1] at hsum1
    simp only [own_cl_eq h_i1.1 h_j1.1, own_cl_eq h_j1.1 h_k1.1, own_cl_eq h_i1.1 h_k1.1] at hsum2
    have r4 := rng32 x4; have r5 := rng32 x5; have r6 := rng32 x6
    refine Wp.st (S' := T1.setTop (mkF m 47 #[.val (.int x1), .val (.long q2), .second, .val (.int x3), .val (.int x4), .val (.int x5), .val (.int x6), .val (.int c2), .val (.int i1), .val (.int j1), .val (.int k1), .unset, .unset, .unset, .unset, .unset, .unset, .unset, .unset] [(.int c2)])) (fun tt_ kk_ => XS.iload X1.here hx rfl (hb hby at_45) rfl  kk_) ?_
    obtain ⟨T163, h163, k163, X163, e163, E163, A163, Ea163, st163⟩ := newPE X1 hx hZ (hw _ (List.mem_of_getElem? (i := 6) rfl)) e1 (g := (mkF m 47 #[.val (.int x1), .val (.long q2), .second, .val (.int x3), .val (.int x4), .val (.int x5), .val (.int x6), .val (.int c2), .val (.int i1), .val (.int j1), .val (.int k1), .unset, .unset, .unset, .unset, .unset, .unset, .unset, .unset] [(.int c2)])) rfl (hb hby at_47) rfl hneg (cap := 129) hcap (by decide) (by decide) (by decide) (ad := "[D") (by decide +kernel)
    obtain ⟨b163, g163⟩ : ∃ z, z = h0.size := ⟨_, rfl⟩
    rw [← g163] at A163 Ea163 st163
    have z164 := E163.1
    have V163 : Arv Z h163 b163 k163 .double c2 [] (.double (0 : UInt64)) := Arv.new A163 hneg
    have g165 : n0 ≤ b163 := Nat.le_trans (Nat.le_trans Z0 (Nat.le_refl _)) (Nat.le_of_eq g163.symm)
    refine Wp.st (S' := T163.setTop (mkF m 49 #[.val (.int x1), .val (.long q2), .second, .val (.int x3), .val (.int x4), .val (.int x5), .val (.int x6), .val (.int c2), .val (.int i1), .val (.int j1), .val (.int k1), .unset, .unset, .unset, .unset, .unset, .unset, .unset, .unset] [(.ref b163)])) st163 ?_
    have Vz166 : Arv Z h163 b163 k163 .double c2 (own_dl own_z) (.double (0 : UInt64)) := (V163).pad (own_zpad 0)
    refine Wp.st (S' := T163.setTop (mkF m 51 #[.val (.int x1), .val (.long q2), .second, .val (.int x3), .val (.int x4), .val (.int x5), .val (.int x6), .val (.int c2), .val (.int i1), .val (.int j1), .val (.int k1), .val (.ref b163), .unset, .unset, .unset, .unset, .unset, .unset, .unset] [])) (fun tt_ kk_ => XS.astore X163.here hx rfl (hb hby at_49) rfl rfl (l' := #[.val (.int x1), .val (.long q2), .second, .val (.int x3), .val (.int x4), .val (.int x5), .val (.int x6), .val (.int c2), .val (.int i1), .val (.int j1), .val (.int k1), .val (.ref b163), .unset, .unset, .unset, .unset, .unset, .unset, .unset]) rfl kk_) ?_
    refine Wp.st (S' := T163.setTop (mkF m 53 #[.val (.int x1), .val (.long q2), .second, .val (.int x3), .val (.int x4), .val (.int x5), .val (.int x6), .val (.int c2), .val (.int i1), .val (.int j1), .val (.int k1), .val (.ref b163), .unset, .unset, .unset, .unset, .unset, .unset, .unset] [(.ref b163)])) (fun tt_ kk_ => XS.aload X163.here hx rfl (hb hby at_51) rfl rfl kk_) ?_
    refine Wp.st (S' := T163.setTop (mkF m 55 #[.val (.int x1), .val (.long q2), .second, .val (.int x3), .val (.int x4), .val (.int x5), .val (.int x6), .val (.int c2), .val (.int i1), .val (.int j1), .val (.int k1), .val (.ref b163), .unset, .unset, .unset, .unset, .unset, .unset, .unset] [(.int i1), (.ref b163)])) (fun tt_ kk_ => XS.iload X163.here hx rfl (hb hby at_53) rfl  kk_) ?_
    refine Wp.st (S' := T163.setTop (mkF m 57 #[.val (.int x1), .val (.long q2), .second, .val (.int x3), .val (.int x4), .val (.int x5), .val (.int x6), .val (.int c2), .val (.int i1), .val (.int j1), .val (.int k1), .val (.ref b163), .unset, .unset, .unset, .unset, .unset, .unset, .unset] [(.int x4), (.int i1), (.ref b163)])) (fun tt_ kk_ => XS.iload X163.here hx rfl (hb hby at_55) rfl  kk_) ?_
    refine Wp.st (S' := T163.setTop (mkF m 58 #[.val (.int x1), .val (.long q2), .second, .val (.int x3), .val (.int x4), .val (.int x5), .val (.int x6), .val (.int c2), .val (.int i1), .val (.int j1), .val (.int k1), .val (.ref b163), .unset, .unset, .unset, .unset, .unset, .unset, .unset] [(.double (FP.l2d (Int64.ofInt x4.toInt))), (.int i1), (.ref b163)])) (fun tt_ kk_ => XS.i2dS X163.here hx rfl (hb hby at_57) rfl (own_i2d x4) kk_) ?_
    obtain ⟨cl167, Ar167, q167, S167, N167, H167, G167⟩ := id Vz166
    have hin167 := inb_of (j := i1) S167 (own_ibn h_i1)
    obtain ⟨T167, h167, X167, e167, W167, st167⟩ := stD X163 hx hZ e163 Ar167 (j := i1) hin167 (g := (mkF m 58 #[.val (.int x1), .val (.long q2), .second, .val (.int x3), .val (.int x4), .val (.int x5), .val (.int x6), .val (.int c2), .val (.int i1), .val (.int j1), .val (.int k1), .val (.ref b163), .unset, .unset, .unset, .unset, .unset, .unset, .unset] [(.double (FP.l2d (Int64.ofInt x4.toInt))), (.int i1), (.ref b163)])) rfl rfl (hb hby at_58)
    have z168 := Nat.le_of_eq W167.size.symm
    have V167 : Arv Z h167 b163 k163 .double c2 (own_dl (own_up own_z i1.toNatClampNeg x4.toInt)) (.double (0 : UInt64)) := own_aset Ar167 q167 S167 N167 H167 G167 W167 (by rw [own_clamp]; omega)
    have Nf167 := Fr.snoc X167 N1 g165
    refine Wp.st (S' := T167.setTop (mkF m 59 #[.val (.int x1), .val (.long q2), .second, .val (.int x3), .val (.int x4), .val (.int x5), .val (.int x6), .val (.int c2), .val (.int i1), .val (.int j1), .val (.int k1), .val (.ref b163), .unset, .unset, .unset, .unset, .unset, .unset, .unset] [])) st167 ?_
    refine Wp.st (S' := T167.setTop (mkF m 61 #[.val (.int x1), .val (.long q2), .second, .val (.int x3), .val (.int x4), .val (.int x5), .val (.int x6), .val (.int c2), .val (.int i1), .val (.int j1), .val (.int k1), .val (.ref b163), .unset, .unset, .unset, .unset, .unset, .unset, .unset] [(.ref b163)])) (fun tt_ kk_ => XS.aload X167.here hx rfl (hb hby at_59) rfl rfl kk_) ?_
    refine Wp.st (S' := T167.setTop (mkF m 63 #[.val (.int x1), .val (.long q2), .second, .val (.int x3), .val (.int x4), .val (.int x5), .val (.int x6), .val (.int c2), .val (.int i1), .val (.int j1), .val (.int k1), .val (.ref b163), .unset, .unset, .unset, .unset, .unset, .unset, .unset] [(.int j1), (.ref b163)])) (fun tt_ kk_ => XS.iload X167.here hx rfl (hb hby at_61) rfl  kk_) ?_
    refine Wp.st (S' := T167.setTop (mkF m 65 #[.val (.int x1), .val (.long q2), .second, .val (.int x3), .val (.int x4), .val (.int x5), .val (.int x6), .val (.int c2), .val (.int i1), .val (.int j1), .val (.int k1), .val (.ref b163), .unset, .unset, .unset, .unset, .unset, .unset, .unset] [(.int x5), (.int j1), (.ref b163)])) (fun tt_ kk_ => XS.iload X167.here hx rfl (hb hby at_63) rfl  kk_) ?_
    refine Wp.st (S' := T167.setTop (mkF m 66 #[.val (.int x1), .val (.long q2), .second, .val (.int x3), .val (.int x4), .val (.int x5), .val (.int x6), .val (.int c2), .val (.int i1), .val (.int j1), .val (.int k1), .val (.ref b163), .unset, .unset, .unset, .unset, .unset, .unset, .unset] [(.double (FP.l2d (Int64.ofInt x5.toInt))), (.int j1), (.ref b163)])) (fun tt_ kk_ => XS.i2dS X167.here hx rfl (hb hby at_65) rfl (own_i2d x5) kk_) ?_
    obtain ⟨cl169, Ar169, q169, S169, N169, H169, G169⟩ := id V167
    have hin169 := inb_of (j := j1) S169 (own_ibn h_j1)
    obtain ⟨T169, h169, X169, e169, W169, st169⟩ := stD X167 hx hZ e167 Ar169 (j := j1) hin169 (g := (mkF m 66 #[.val (.int x1), .val (.long q2), .second, .val (.int x3), .val (.int x4), .val (.int x5), .val (.int x6), .val (.int c2), .val (.int i1), .val (.int j1), .val (.int k1), .val (.ref b163), .unset, .unset, .unset, .unset, .unset, .unset, .unset] [(.double (FP.l2d (Int64.ofInt x5.toInt))), (.int j1), (.ref b163)])) rfl rfl (hb hby at_66)
    have z170 := Nat.le_of_eq W169.size.symm
    have V169 : Arv Z h169 b163 k163 .double c2 (own_dl (own_up (own_up own_z i1.toNatClampNeg x4.toInt) j1.toNatClampNeg x5.toInt)) (.double (0 : UInt64)) := own_aset Ar169 q169 S169 N169 H169 G169 W169 (by rw [own_clamp]; omega)
    have Nf169 := Fr.snoc X169 Nf167 g165
    refine Wp.st (S' := T169.setTop (mkF m 67 #[.val (.int x1), .val (.long q2), .second, .val (.int x3), .val (.int x4), .val (.int x5), .val (.int x6), .val (.int c2), .val (.int i1), .val (.int j1), .val (.int k1), .val (.ref b163), .unset, .unset, .unset, .unset, .unset, .unset, .unset] [])) st169 ?_
    obtain ⟨T171, h171, X171, e171, E171, A171, D171, U171, st171⟩ := newO X169 hx hZ hown (hw _ (List.mem_of_getElem? (i := 7) rfl)) (hw _ (List.mem_of_getElem? (i := 8) rfl)) (hw _ (List.mem_of_getElem? (i := 9) rfl)) e169 (g := (mkF m 67 #[.val (.int x1), .val (.long q2), .second, .val (.int x3), .val (.int x4), .val (.int x5), .val (.int x6), .val (.int c2), .val (.int i1), .val (.int j1), .val (.int k1), .val (.ref b163), .unset, .unset, .unset, .unset, .unset, .unset, .unset] [])) rfl (hb hby at_67) (by decide) (by decide)
    obtain ⟨b171, g171⟩ : ∃ z, z = h169.size := ⟨_, rfl⟩
    rw [← g171] at A171 D171 U171 st171
    have z172 := E171.1
    have g173 : n0 ≤ b171 := Nat.le_trans (Nat.le_trans Z0 (Nat.le_trans (Nat.le_trans z164 z168) z170)) (Nat.le_of_eq g171.symm)
    have F174 : Fld Z h171 b171 "com/example/dags_over_clouds/dagsoverclouds/plan/Tally" "levels" "[[D" .null := D171 (Or.inr (hw _ (List.mem_of_getElem? (i := 23) rfl))) (ty := (.array (.array .double))) (by decide)
    refine Wp.st (S' := T171.setTop (mkF m 70 #[.val (.int x1), .val (.long q2), .second, .val (.int x3), .val (.int x4), .val (.int x5), .val (.int x6), .val (.int c2), .val (.int i1), .val (.int j1), .val (.int k1), .val (.ref b163), .unset, .unset, .unset, .unset, .unset, .unset, .unset] [(.ref b171)])) st171 ?_
    refine Wp.st (S' := T171.setTop (mkF m 71 #[.val (.int x1), .val (.long q2), .second, .val (.int x3), .val (.int x4), .val (.int x5), .val (.int x6), .val (.int c2), .val (.int i1), .val (.int j1), .val (.int k1), .val (.ref b163), .unset, .unset, .unset, .unset, .unset, .unset, .unset] [(.ref b171), (.ref b171)])) (fun tt_ kk_ => XS.dup X171.here hx rfl (hb hby at_70) rfl rfl kk_) ?_
    refine Wp.st (S' := T171.setTop (mkF m 73 #[.val (.int x1), .val (.long q2), .second, .val (.int x3), .val (.int x4), .val (.int x5), .val (.int x6), .val (.int c2), .val (.int i1), .val (.int j1), .val (.int k1), .val (.ref b163), .unset, .unset, .unset, .unset, .unset, .unset, .unset] [(.ref b163), (.ref b171), (.ref b171)])) (fun tt_ kk_ => XS.aload X171.here hx rfl (hb hby at_71) rfl rfl kk_) ?_
    have F176 := V169.ext E171
    have F177 := Ea163.wr W167
    have F178 := F177.wr W169
    have F179 := F178.ext E171
    obtain ⟨vv175, _, ⟨T175, L175, k175, n175⟩, -, X175, ⟨Lc175, hQ175, l175, y175, z175⟩, st175⟩ := X171.specialBack hx (y := (⟨"com/example/dags_over_clouds/dagsoverclouds/plan/Tally", "<init>", "([D)V"⟩ : MethodName)) rfl hown (mvT hZ (hw _ (List.mem_of_getElem? (i := 10) rfl))) (mvT hZ (hw _ (List.mem_of_getElem? (i := 11) rfl))) (mvT hZ (hw _ (List.mem_of_getElem? (i := 12) rfl))) (by decide) (backOf (W := 1) (rmInitC l Z a0 hw [] b171 b163 k163 c2 (own_up (own_up own_z i1.toNatClampNeg x4.toInt) j1.toNatClampNeg x5.toInt) h171 n0 (Nat.le_trans Z0 (Nat.le_trans (Nat.le_trans (Nat.le_trans z164 z168) z170) z172)) g173 A171 F174 F176 F179 ((own_b0_up (own_b0_up own_b0_z _ _) _ _) : own_b0 (own_up (own_up own_z i1.toNatClampNeg x4.toInt) j1.toNatClampNeg x5.toInt)) ((by assumption) : c2 = (129 : Int32)) ((Ne.symm (Nat.ne_of_lt (Nat.lt_of_lt_of_le V163.lt (Nat.le_trans (Nat.le_trans z168 z170) (Nat.le_of_eq g171.symm))))) : b171 ≠ b163)) hZ (hw _ (List.mem_of_getElem? (i := 12) rfl)) (hw _ (List.mem_of_getElem? (i := 9) rfl)) (by decide) (by decide)) (g := (mkF m 73 #[.val (.int x1), .val (.long q2), .second, .val (.int x3), .val (.int x4), .val (.int x5), .val (.int x6), .val (.int c2), .val (.int i1), .val (.int j1), .val (.int k1), .val (.ref b163), .unset, .unset, .unset, .unset, .unset, .unset, .unset] [(.ref b163), (.ref b171), (.ref b171)])) rfl (by rw [hml]; rfl) (Steps.refl _) (a := b171) (argsL := [(.ref b163)]) (rest := [(.ref b171)]) (lenOf pd_3 rfl) rfl (by show 2 * 0 + _ ≤ _; exact Nat.le_of_eq rfl) (hb hby at_73) (fun _ _ => ⟨rfl, e171, (by decide : 2 + 4 ≤ _), (by decide : 130 + 136 ≤ _)⟩)
    dsimp only [Pt.U, Pt.locs, Pt.cells, Pt.slots] at X175 l175 y175 z175 st175 hQ175
    subst l175 y175 z175
    obtain ⟨b180, b181, b182, b183, c184, c185, c186, c187, rfl, Nq175, K175, P175_0, P175_1, P175_2, P175_3, P175_4, P175_5, P175_6, P175_7, P175_8, P175_9, P175_10, P175_11, P175_12, P175_13, P175_14, P175_15⟩ := hQ175
    have N175 := Fr.app Nf169 Nq175
    have z188 := K175.1
    have g189 : n0 ≤ b180 := Nat.le_trans (Nat.le_trans Z0 (Nat.le_trans (Nat.le_trans (Nat.le_trans z164 z168) z170) z172)) P175_0
    have g190 : n0 ≤ b181 := Nat.le_trans (Nat.le_trans Z0 (Nat.le_trans (Nat.le_trans (Nat.le_trans z164 z168) z170) z172)) P175_1
    have g191 : n0 ≤ b182 := Nat.le_trans (Nat.le_trans Z0 (Nat.le_trans (Nat.le_trans (Nat.le_trans z164 z168) z170) z172)) P175_2
    have g192 : n0 ≤ b183 := Nat.le_trans (Nat.le_trans Z0 (Nat.le_trans (Nat.le_trans (Nat.le_trans z164 z168) z170) z172)) P175_3
    have e175 : T175.heap = T175.heap := rfl
    refine Wp.tr (S' := T175.setTop (mkF m 76 #[.val (.int x1), .val (.long q2), .second, .val (.int x3), .val (.int x4), .val (.int x5), .val (.int x6), .val (.int c2), .val (.int i1), .val (.int j1), .val (.int k1), .val (.ref b163), .unset, .unset, .unset, .unset, .unset, .unset, .unset] [(.ref b171)])) st175 ?_
    refine Wp.st (S' := T175.setTop (mkF m 78 #[.val (.int x1), .val (.long q2), .second, .val (.int x3), .val (.int x4), .val (.int x5), .val (.int x6), .val (.int c2), .val (.int i1), .val (.int j1), .val (.int k1), .val (.ref b163), .val (.ref b171), .unset, .unset, .unset, .unset, .unset, .unset] [])) (fun tt_ kk_ => XS.astore X175.here hx rfl (hb hby at_76) rfl rfl (l' := #[.val (.int x1), .val (.long q2), .second, .val (.int x3), .val (.int x4), .val (.int x5), .val (.int x6), .val (.int c2), .val (.int i1), .val (.int j1), .val (.int k1), .val (.ref b163), .val (.ref b171), .unset, .unset, .unset, .unset, .unset, .unset]) rfl kk_) ?_
    refine Wp.st (S' := T175.setTop (mkF m 80 #[.val (.int x1), .val (.long q2), .second, .val (.int x3), .val (.int x4), .val (.int x5), .val (.int x6), .val (.int c2), .val (.int i1), .val (.int j1), .val (.int k1), .val (.ref b163), .val (.ref b171), .unset, .unset, .unset, .unset, .unset, .unset] [(.ref b163)])) (fun tt_ kk_ => XS.aload X175.here hx rfl (hb hby at_78) rfl rfl kk_) ?_
    refine Wp.st (S' := T175.setTop (mkF m 82 #[.val (.int x1), .val (.long q2), .second, .val (.int x3), .val (.int x4), .val (.int x5), .val (.int x6), .val (.int c2), .val (.int i1), .val (.int j1), .val (.int k1), .val (.ref b163), .val (.ref b171), .unset, .unset, .unset, .unset, .unset, .unset] [(.int i1), (.ref b163)])) (fun tt_ kk_ => XS.iload X175.here hx rfl (hb hby at_80) rfl  kk_) ?_
    refine Wp.st (S' := T175.setTop (mkF m 84 #[.val (.int x1), .val (.long q2), .second, .val (.int x3), .val (.int x4), .val (.int x5), .val (.int x6), .val (.int c2), .val (.int i1), .val (.int j1), .val (.int k1), .val (.ref b163), .val (.ref b171), .unset, .unset, .unset, .unset, .unset, .unset] [(.int x6), (.int i1), (.ref b163)])) (fun tt_ kk_ => XS.iload X175.here hx rfl (hb hby at_82) rfl  kk_) ?_
    refine Wp.st (S' := T175.setTop (mkF m 85 #[.val (.int x1), .val (.long q2), .second, .val (.int x3), .val (.int x4), .val (.int x5), .val (.int x6), .val (.int c2), .val (.int i1), .val (.int j1), .val (.int k1), .val (.ref b163), .val (.ref b171), .unset, .unset, .unset, .unset, .unset, .unset] [(.double (FP.l2d (Int64.ofInt x6.toInt))), (.int i1), (.ref b163)])) (fun tt_ kk_ => XS.i2dS X175.here hx rfl (hb hby at_84) rfl (own_i2d x6) kk_) ?_
    have F193 := F176.keep K175 (ninS (Nat.ne_of_lt (Nat.lt_of_lt_of_le V163.lt (Nat.le_trans (Nat.le_trans z168 z170) (Nat.le_of_eq g171.symm)))) nin0)
    obtain ⟨cl194, Ar194, q194, S194, N194, H194, G194⟩ := id F193
    have hin194 := inb_of (j := i1) S194 (own_ibn h_i1)
    obtain ⟨T194, h194, X194, e194, W194, st194⟩ := stD X175 hx hZ e175 Ar194 (j := i1) hin194 (g := (mkF m 85 #[.val (.int x1), .val (.long q2), .second, .val (.int x3), .val (.int x4), .val (.int x5), .val (.int x6), .val (.int c2), .val (.int i1), .val (.int j1), .val (.int k1), .val (.ref b163), .val (.ref b171), .unset, .unset, .unset, .unset, .unset, .unset] [(.double (FP.l2d (Int64.ofInt x6.toInt))), (.int i1), (.ref b163)])) rfl rfl (hb hby at_85)
    have z195 := Nat.le_of_eq W194.size.symm
    have V194 : Arv Z h194 b163 k163 .double c2 (own_dl (own_up (own_up (own_up own_z i1.toNatClampNeg x4.toInt) j1.toNatClampNeg x5.toInt) i1.toNatClampNeg x6.toInt)) (.double (0 : UInt64)) := own_aset Ar194 q194 S194 N194 H194 G194 W194 (by rw [own_clamp]; omega)
    have Nf194 := Fr.snoc X194 N175 g165
    refine Wp.st (S' := T194.setTop (mkF m 86 #[.val (.int x1), .val (.long q2), .second, .val (.int x3), .val (.int x4), .val (.int x5), .val (.int x6), .val (.int c2), .val (.int i1), .val (.int j1), .val (.int k1), .val (.ref b163), .val (.ref b171), .unset, .unset, .unset, .unset, .unset, .unset] [])) st194 ?_
    refine Wp.st (S' := T194.setTop (mkF m 88 #[.val (.int x1), .val (.long q2), .second, .val (.int x3), .val (.int x4), .val (.int x5), .val (.int x6), .val (.int c2), .val (.int i1), .val (.int j1), .val (.int k1), .val (.ref b163), .val (.ref b171), .unset, .unset, .unset, .unset, .unset, .unset] [(.int x5)])) (fun tt_ kk_ => XS.iload X194.here hx rfl (hb hby at_86) rfl  kk_) ?_
    have J196 : ∀ (TJ196 : State) (loJ196 : List Loc) (wa : Int64) (NJ196 : Fr n0 loJ196) (XJ196 : Stand p l e room_1 s m #[(.int x1), (.long q2), (.int x3), (.int x4), (.int x5), (.int x6)] below meth c TJ196 loJ196 6 266) (eJ196 : TJ196.heap = h194) (hwa : wa.toInt = x5.toInt + (if i1 = j1 then 0 else x4.toInt)), Wp p e below (fun o U' => ∃ v L, o = .returned v ∧ Q_rm0 Z x1 q2 x3 x4 x5 x6 h0 n0 v U'.heap L ∧ FrameEnd s o U' L room_1.cells room_1.slots) (TJ196.setTop (mkF m 104 #[.val (.int x1), .val (.long q2), .second, .val (.int x3), .val (.int x4), .val (.int x5), .val (.int x6), .val (.int c2), .val (.int i1), .val (.int j1), .val (.int k1), .val (.ref b163), .val (.ref b171), .unset, .unset, .unset, .unset, .unset, .unset] [(.long wa)])) := by
      intro TJ196 loJ196 wa NJ196 XJ196 eJ196 hwa
      have htop : (own_up own_z (0 : Int32).toNatClampNeg (own_R (own_up (own_up (own_up own_z (0 : Int32).toNatClampNeg (own_R (own_up (own_up own_z i1.toNatClampNeg x4.toInt) j1.toNatClampNeg x5.toInt) c2.toNatClampNeg (0 : Int32).toNatClampNeg)) (1 : Int32).toNatClampNeg (own_R (own_up (own_up own_z i1.toNatClampNeg x4.toInt) j1.toNatClampNeg x5.toInt) c2.toNatClampNeg (1 : Int32).toNatClampNeg)) (2 : Int32).toNatClampNeg (own_R (own_up (own_up own_z i1.toNatClampNeg x4.toInt) j1.toNatClampNeg x5.toInt) c2.toNatClampNeg (2 : Int32).toNatClampNeg)) (3 : Int32).toNatClampNeg (0 : Int32).toNatClampNeg)) (0 : Int32).toNatClampNeg = own_S (own_up (own_up own_z i1.toNatClampNeg x4.toInt) j1.toNatClampNeg x5.toInt) 0 c2.toNatClampNeg := own_topB3 (own_up (own_up own_z i1.toNatClampNeg x4.toInt) j1.toNatClampNeg x5.toInt) own_z (by rcases hn with rfl <;> decide) (by rcases hn with rfl <;> decide)
      rw [hsum1] at htop
      have hb1 : -9007199254740992 < (own_up own_z (0 : Int32).toNatClampNeg (own_R (own_up (own_up (own_up own_z (0 : Int32).toNatClampNeg (own_R (own_up (own_up own_z i1.toNatClampNeg x4.toInt) j1.toNatClampNeg x5.toInt) c2.toNatClampNeg (0 : Int32).toNatClampNeg)) (1 : Int32).toNatClampNeg (own_R (own_up (own_up own_z i1.toNatClampNeg x4.toInt) j1.toNatClampNeg x5.toInt) c2.toNatClampNeg (1 : Int32).toNatClampNeg)) (2 : Int32).toNatClampNeg (own_R (own_up (own_up own_z i1.toNatClampNeg x4.toInt) j1.toNatClampNeg x5.toInt) c2.toNatClampNeg (2 : Int32).toNatClampNeg)) (3 : Int32).toNatClampNeg (0 : Int32).toNatClampNeg)) (0 : Int32).toNatClampNeg ∧ (own_up own_z (0 : Int32).toNatClampNeg (own_R (own_up (own_up (own_up own_z (0 : Int32).toNatClampNeg (own_R (own_up (own_up own_z i1.toNatClampNeg x4.toInt) j1.toNatClampNeg x5.toInt) c2.toNatClampNeg (0 : Int32).toNatClampNeg)) (1 : Int32).toNatClampNeg (own_R (own_up (own_up own_z i1.toNatClampNeg x4.toInt) j1.toNatClampNeg x5.toInt) c2.toNatClampNeg (1 : Int32).toNatClampNeg)) (2 : Int32).toNatClampNeg (own_R (own_up (own_up own_z i1.toNatClampNeg x4.toInt) j1.toNatClampNeg x5.toInt) c2.toNatClampNeg (2 : Int32).toNatClampNeg)) (3 : Int32).toNatClampNeg (0 : Int32).toNatClampNeg)) (0 : Int32).toNatClampNeg < 9007199254740992 := by rw [htop]; split <;> omega
      refine Wp.st (S' := TJ196.setTop (mkF m 106 #[.val (.int x1), .val (.long q2), .second, .val (.int x3), .val (.int x4), .val (.int x5), .val (.int x6), .val (.int c2), .val (.int i1), .val (.int j1), .val (.int k1), .val (.ref b163), .val (.ref b171), .val (.long wa), .second, .unset, .unset, .unset, .unset] [])) (fun tt_ kk_ => XS.lstore XJ196.here hx rfl (hb hby at_104) rfl (l' := #[.val (.int x1), .val (.long q2), .second, .val (.int x3), .val (.int x4), .val (.int x5), .val (.int x6), .val (.int c2), .val (.int i1), .val (.int j1), .val (.int k1), .val (.ref b163), .val (.ref b171), .val (.long wa), .second, .unset, .unset, .unset, .unset]) rfl kk_) ?_
      refine Wp.st (S' := TJ196.setTop (mkF m 108 #[.val (.int x1), .val (.long q2), .second, .val (.int x3), .val (.int x4), .val (.int x5), .val (.int x6), .val (.int c2), .val (.int i1), .val (.int j1), .val (.int k1), .val (.ref b163), .val (.ref b171), .val (.long wa), .second, .unset, .unset, .unset, .unset] [(.ref b171)])) (fun tt_ kk_ => XS.aload XJ196.here hx rfl (hb hby at_106) rfl rfl kk_) ?_
      have F198 := P175_5.other W194 (Or.inl (Ne.symm (Nat.ne_of_lt (Nat.lt_of_lt_of_le V163.lt (Nat.le_trans (Nat.le_trans z168 z170) (Nat.le_of_eq g171.symm))))))
      have F199 := P175_6.other W194 (Ne.symm (Nat.ne_of_lt (Nat.lt_of_lt_of_le V163.lt (Nat.le_trans (Nat.le_trans (Nat.le_trans z168 z170) z172) P175_0))))
      have F200 := P175_9.other W194 (Ne.symm (Nat.ne_of_lt (Nat.lt_of_lt_of_le V163.lt (Nat.le_trans (Nat.le_trans (Nat.le_trans z168 z170) z172) P175_3))))
      have F201 := P175_4.wr W194
      obtain ⟨cq197, kq197, q197a, q197b, q197c⟩ := isOf hZ eJ196 F201
      obtain ⟨vv197, _, ⟨T197, L197, k197, n197⟩, -, X197, ⟨Lc197, hQ197, l197, y197, z197⟩, st197⟩ := XJ196.virtualBack hx (y := (⟨"com/example/dags_over_clouds/dagsoverclouds/plan/Tally", "sum", "()D"⟩ : MethodName)) (z := (⟨"com/example/dags_over_clouds/dagsoverclouds/plan/Tally", "sum", "()D"⟩ : MethodName)) hown (mvT hZ (hw _ (List.mem_of_getElem? (i := 42) rfl))) (mvT hZ (hw _ (List.mem_of_getElem? (i := 43) rfl))) (notFace_of_selects (args := #[]) (mvT hZ (hw _ (List.mem_of_getElem? (i := 45) rfl)))) (mvT hZ (hw _ (List.mem_of_getElem? (i := 45) rfl))) (mvT hZ (hw _ (List.mem_of_getElem? (i := 44) rfl))) (by decide) (backOf (W := 0) (rmSum3 l Z a0 hw [] b171 b180 (.ref b181) (.ref b182) b183 c184 c187 (own_up own_z (0 : Int32).toNatClampNeg (own_R (own_up (own_up (own_up own_z (0 : Int32).toNatClampNeg (own_R (own_up (own_up own_z i1.toNatClampNeg x4.toInt) j1.toNatClampNeg x5.toInt) c2.toNatClampNeg (0 : Int32).toNatClampNeg)) (1 : Int32).toNatClampNeg (own_R (own_up (own_up own_z i1.toNatClampNeg x4.toInt) j1.toNatClampNeg x5.toInt) c2.toNatClampNeg (1 : Int32).toNatClampNeg)) (2 : Int32).toNatClampNeg (own_R (own_up (own_up own_z i1.toNatClampNeg x4.toInt) j1.toNatClampNeg x5.toInt) c2.toNatClampNeg (2 : Int32).toNatClampNeg)) (3 : Int32).toNatClampNeg (0 : Int32).toNatClampNeg)) h194 n0 (Nat.le_trans Z0 (Nat.le_trans (Nat.le_trans (Nat.le_trans (Nat.le_trans (Nat.le_trans z164 z168) z170) z172) z188) z195)) F198 F199 F200) hZ (hw _ (List.mem_of_getElem? (i := 46) rfl)) (hw _ (List.mem_of_getElem? (i := 9) rfl)) (by decide) (by decide)) q197a q197c (g := (mkF m 108 #[.val (.int x1), .val (.long q2), .second, .val (.int x3), .val (.int x4), .val (.int x5), .val (.int x6), .val (.int c2), .val (.int i1), .val (.int j1), .val (.int k1), .val (.ref b163), .val (.ref b171), .val (.long wa), .second, .unset, .unset, .unset, .unset] [(.ref b171)])) rfl (by rw [hml]; rfl) (Steps.refl _) (argsL := []) (rest := []) (lenOf pd_4 rfl) rfl (by show 2 * 0 + _ ≤ _; exact Nat.le_of_eq rfl) (hb hby at_108) (fun _ _ => ⟨rfl, eJ196, (by decide : 6 + 0 ≤ _), (by decide : 266 + 0 ≤ _)⟩)
      dsimp only [Pt.U, Pt.locs, Pt.cells, Pt.slots] at X197 l197 y197 z197 st197 hQ197
      subst l197 y197 z197
      obtain ⟨rfl, Nq197, e197⟩ := hQ197
      have N197 := Fr.app NJ196 Nq197
      refine Wp.tr (S' := T197.setTop (mkF m 111 #[.val (.int x1), .val (.long q2), .second, .val (.int x3), .val (.int x4), .val (.int x5), .val (.int x6), .val (.int c2), .val (.int i1), .val (.int j1), .val (.int k1), .val (.ref b163), .val (.ref b171), .val (.long wa), .second, .unset, .unset, .unset, .unset] [(.double (FP.l2d (Int64.ofInt ((own_up own_z (0 : Int32).toNatClampNeg (own_R (own_up (own_up (own_up own_z (0 : Int32).toNatClampNeg (own_R (own_up (own_up own_z i1.toNatClampNeg x4.toInt) j1.toNatClampNeg x5.toInt) c2.toNatClampNeg (0 : Int32).toNatClampNeg)) (1 : Int32).toNatClampNeg (own_R (own_up (own_up own_z i1.toNatClampNeg x4.toInt) j1.toNatClampNeg x5.toInt) c2.toNatClampNeg (1 : Int32).toNatClampNeg)) (2 : Int32).toNatClampNeg (own_R (own_up (own_up own_z i1.toNatClampNeg x4.toInt) j1.toNatClampNeg x5.toInt) c2.toNatClampNeg (2 : Int32).toNatClampNeg)) (3 : Int32).toNatClampNeg (0 : Int32).toNatClampNeg)) (0 : Int32).toNatClampNeg))))])) st197 ?_
      refine Wp.st (S' := T197.setTop (mkF m 113 #[.val (.int x1), .val (.long q2), .second, .val (.int x3), .val (.int x4), .val (.int x5), .val (.int x6), .val (.int c2), .val (.int i1), .val (.int j1), .val (.int k1), .val (.ref b163), .val (.ref b171), .val (.long wa), .second, .unset, .unset, .unset, .unset] [(.long wa), (.double (FP.l2d (Int64.ofInt ((own_up own_z (0 : Int32).toNatClampNeg (own_R (own_up (own_up (own_up own_z (0 : Int32).toNatClampNeg (own_R (own_up (own_up own_z i1.toNatClampNeg x4.toInt) j1.toNatClampNeg x5.toInt) c2.toNatClampNeg (0 : Int32).toNatClampNeg)) (1 : Int32).toNatClampNeg (own_R (own_up (own_up own_z i1.toNatClampNeg x4.toInt) j1.toNatClampNeg x5.toInt) c2.toNatClampNeg (1 : Int32).toNatClampNeg)) (2 : Int32).toNatClampNeg (own_R (own_up (own_up own_z i1.toNatClampNeg x4.toInt) j1.toNatClampNeg x5.toInt) c2.toNatClampNeg (2 : Int32).toNatClampNeg)) (3 : Int32).toNatClampNeg (0 : Int32).toNatClampNeg)) (0 : Int32).toNatClampNeg))))])) (fun tt_ kk_ => XS.lload X197.here hx rfl (hb hby at_111) rfl  kk_) ?_
      refine Wp.st (S' := T197.setTop (mkF m 114 #[.val (.int x1), .val (.long q2), .second, .val (.int x3), .val (.int x4), .val (.int x5), .val (.int x6), .val (.int c2), .val (.int i1), .val (.int j1), .val (.int k1), .val (.ref b163), .val (.ref b171), .val (.long wa), .second, .unset, .unset, .unset, .unset] [(.double (FP.l2d wa)), (.double (FP.l2d (Int64.ofInt ((own_up own_z (0 : Int32).toNatClampNeg (own_R (own_up (own_up (own_up own_z (0 : Int32).toNatClampNeg (own_R (own_up (own_up own_z i1.toNatClampNeg x4.toInt) j1.toNatClampNeg x5.toInt) c2.toNatClampNeg (0 : Int32).toNatClampNeg)) (1 : Int32).toNatClampNeg (own_R (own_up (own_up own_z i1.toNatClampNeg x4.toInt) j1.toNatClampNeg x5.toInt) c2.toNatClampNeg (1 : Int32).toNatClampNeg)) (2 : Int32).toNatClampNeg (own_R (own_up (own_up own_z i1.toNatClampNeg x4.toInt) j1.toNatClampNeg x5.toInt) c2.toNatClampNeg (2 : Int32).toNatClampNeg)) (3 : Int32).toNatClampNeg (0 : Int32).toNatClampNeg)) (0 : Int32).toNatClampNeg))))])) (fun tt_ kk_ => XS.l2dS X197.here hx rfl (hb hby at_113) rfl rfl kk_) ?_
      refine Wp.st (S' := T197.setTop (mkF m 115 #[.val (.int x1), .val (.long q2), .second, .val (.int x3), .val (.int x4), .val (.int x5), .val (.int x6), .val (.int c2), .val (.int i1), .val (.int j1), .val (.int k1), .val (.ref b163), .val (.ref b171), .val (.long wa), .second, .unset, .unset, .unset, .unset] [(.int (0 : Int32))])) (fun tt_ kk_ => XS.dcmpS X197.here hx rfl (hb hby at_114) rfl (own_cmp (hwa.trans htop.symm) hb1) kk_) ?_
      refine Wp.st (S' := T197.setTop (mkF m 118 #[.val (.int x1), .val (.long q2), .second, .val (.int x3), .val (.int x4), .val (.int x5), .val (.int x6), .val (.int c2), .val (.int i1), .val (.int j1), .val (.int k1), .val (.ref b163), .val (.ref b171), .val (.long wa), .second, .unset, .unset, .unset, .unset] [])) (fun tt_ kk_ => XS.ifNo X197.here hx rfl (hb hby at_115) rfl ((if0 _ _).trans (teq ((by decide) : (0 : Int32) = (0 : Int32))).2) kk_) ?_
      refine Wp.st (S' := T197.setTop (mkF m 119 #[.val (.int x1), .val (.long q2), .second, .val (.int x3), .val (.int x4), .val (.int x5), .val (.int x6), .val (.int c2), .val (.int i1), .val (.int j1), .val (.int k1), .val (.ref b163), .val (.ref b171), .val (.long wa), .second, .unset, .unset, .unset, .unset] [(.int (1 : Int32))])) (fun tt_ kk_ => XS.iconst X197.here hx rfl (hb hby at_118) kk_) ?_
      refine Wp.st (S' := T197.setTop (mkF m 123 #[.val (.int x1), .val (.long q2), .second, .val (.int x3), .val (.int x4), .val (.int x5), .val (.int x6), .val (.int c2), .val (.int i1), .val (.int j1), .val (.int k1), .val (.ref b163), .val (.ref b171), .val (.long wa), .second, .unset, .unset, .unset, .unset] [(.int (1 : Int32))])) (fun tt_ kk_ => XS.goto X197.here hx rfl (pc0 := 119) (pc' := 123) rfl (hb hby at_119) (by decide) (by decide) kk_) ?_
      refine Wp.st (S' := T197.setTop (mkF m 125 #[.val (.int x1), .val (.long q2), .second, .val (.int x3), .val (.int x4), .val (.int x5), .val (.int x6), .val (.int c2), .val (.int i1), .val (.int j1), .val (.int k1), .val (.ref b163), .val (.ref b171), .val (.long wa), .second, .val (.int (1 : Int32)), .unset, .unset, .unset] [])) (fun tt_ kk_ => XS.istore X197.here hx rfl (hb hby at_123) rfl (l' := #[.val (.int x1), .val (.long q2), .second, .val (.int x3), .val (.int x4), .val (.int x5), .val (.int x6), .val (.int c2), .val (.int i1), .val (.int j1), .val (.int k1), .val (.ref b163), .val (.ref b171), .val (.long wa), .second, .val (.int (1 : Int32)), .unset, .unset, .unset]) rfl kk_) ?_
      refine Wp.st (S' := T197.setTop (mkF m 127 #[.val (.int x1), .val (.long q2), .second, .val (.int x3), .val (.int x4), .val (.int x5), .val (.int x6), .val (.int c2), .val (.int i1), .val (.int j1), .val (.int k1), .val (.ref b163), .val (.ref b171), .val (.long wa), .second, .val (.int (1 : Int32)), .unset, .unset, .unset] [(.ref b171)])) (fun tt_ kk_ => XS.aload X197.here hx rfl (hb hby at_125) rfl rfl kk_) ?_
      refine Wp.st (S' := T197.setTop (mkF m 129 #[.val (.int x1), .val (.long q2), .second, .val (.int x3), .val (.int x4), .val (.int x5), .val (.int x6), .val (.int c2), .val (.int i1), .val (.int j1), .val (.int k1), .val (.ref b163), .val (.ref b171), .val (.long wa), .second, .val (.int (1 : Int32)), .unset, .unset, .unset] [(.int k1), (.ref b171)])) (fun tt_ kk_ => XS.iload X197.here hx rfl (hb hby at_127) rfl  kk_) ?_
      refine Wp.st (S' := T197.setTop (mkF m 131 #[.val (.int x1), .val (.long q2), .second, .val (.int x3), .val (.int x4), .val (.int x5), .val (.int x6), .val (.int c2), .val (.int i1), .val (.int j1), .val (.int k1), .val (.ref b163), .val (.ref b171), .val (.long wa), .second, .val (.int (1 : Int32)), .unset, .unset, .unset] [(.int x6), (.int k1), (.ref b171)])) (fun tt_ kk_ => XS.iload X197.here hx rfl (hb hby at_129) rfl  kk_) ?_
      refine Wp.st (S' := T197.setTop (mkF m 132 #[.val (.int x1), .val (.long q2), .second, .val (.int x3), .val (.int x4), .val (.int x5), .val (.int x6), .val (.int c2), .val (.int i1), .val (.int j1), .val (.int k1), .val (.ref b163), .val (.ref b171), .val (.long wa), .second, .val (.int (1 : Int32)), .unset, .unset, .unset] [(.double (FP.l2d (Int64.ofInt x6.toInt))), (.int k1), (.ref b171)])) (fun tt_ kk_ => XS.i2dS X197.here hx rfl (hb hby at_131) rfl (own_i2d x6) kk_) ?_
      have hk_ : 0 ≤ k1.toInt ∧ k1.toInt < c2.toInt ∧ c2.toInt ≤ 129 := by omega
      have hq64 := own_q64 h_k1.1
      have hr1_ : own_hr (k1 / (64 : Int32)) c2 (3 : Int32) := by
        have hnv : c2.toInt ≤ 129 := by rcases hn with rfl <;> decide
        have e1 : (3 : Int32).toInt = 3 := by decide
        unfold own_hr; rw [hq64, e1]; omega
      have hr2_ : own_hr (0 : Int32) (3 : Int32) (1 : Int32) := by unfold own_hr; decide
      have hq_ : ((k1 / (64 : Int32)) / (64 : Int32)) = (0 : Int32) := by
        apply Int32.toInt_inj.mp
        rw [own_q64 (by rw [hq64]; omega), hq64]
        have e0 : (0 : Int32).toInt = 0 := by decide
        omega
      have hbw0 : own_b0 (own_up (own_up own_z i1.toNatClampNeg x4.toInt) j1.toNatClampNeg x5.toInt) := own_b0_up (own_b0_up own_b0_z _ _) _ _
      have F203 := P175_7.other W194 (Ne.symm (Nat.ne_of_lt (Nat.lt_of_lt_of_le V163.lt (Nat.le_trans (Nat.le_trans (Nat.le_trans z168 z170) z172) P175_1))))
      have F204 := P175_8.other W194 (Ne.symm (Nat.ne_of_lt (Nat.lt_of_lt_of_le V163.lt (Nat.le_trans (Nat.le_trans (Nat.le_trans z168 z170) z172) P175_2))))
      obtain ⟨cq202, kq202, q202a, q202b, q202c⟩ := isOf hZ e197 F201
      obtain ⟨vv202, _, ⟨T202, L202, k202, n202⟩, -, X202, ⟨Lc202, hQ202, l202, y202, z202⟩, st202⟩ := X197.virtualBack hx (y := (⟨"com/example/dags_over_clouds/dagsoverclouds/plan/Tally", "set", "(ID)V"⟩ : MethodName)) (z := (⟨"com/example/dags_over_clouds/dagsoverclouds/plan/Tally", "set", "(ID)V"⟩ : MethodName)) hown (mvT hZ (hw _ (List.mem_of_getElem? (i := 47) rfl))) (mvT hZ (hw _ (List.mem_of_getElem? (i := 48) rfl))) (notFace_of_selects (args := #[]) (mvT hZ (hw _ (List.mem_of_getElem? (i := 50) rfl)))) (mvT hZ (hw _ (List.mem_of_getElem? (i := 50) rfl))) (mvT hZ (hw _ (List.mem_of_getElem? (i := 49) rfl))) (by decide) (backOf (W := 0) (rmSet3 l Z a0 hw [] b171 k1 (FP.l2d (Int64.ofInt x6.toInt)) x6.toInt b180 b181 b182 b183 c184 c185 c186 c187 c2 (3 : Int32) (own_up (own_up own_z i1.toNatClampNeg x4.toInt) j1.toNatClampNeg x5.toInt) (own_up (own_up (own_up own_z (0 : Int32).toNatClampNeg (own_R (own_up (own_up own_z i1.toNatClampNeg x4.toInt) j1.toNatClampNeg x5.toInt) c2.toNatClampNeg (0 : Int32).toNatClampNeg)) (1 : Int32).toNatClampNeg (own_R (own_up (own_up own_z i1.toNatClampNeg x4.toInt) j1.toNatClampNeg x5.toInt) c2.toNatClampNeg (1 : Int32).toNatClampNeg)) (2 : Int32).toNatClampNeg (own_R (own_up (own_up own_z i1.toNatClampNeg x4.toInt) j1.toNatClampNeg x5.toInt) c2.toNatClampNeg (2 : Int32).toNatClampNeg)) (own_up own_z (0 : Int32).toNatClampNeg (own_R (own_up (own_up (own_up own_z (0 : Int32).toNatClampNeg (own_R (own_up (own_up own_z i1.toNatClampNeg x4.toInt) j1.toNatClampNeg x5.toInt) c2.toNatClampNeg (0 : Int32).toNatClampNeg)) (1 : Int32).toNatClampNeg (own_R (own_up (own_up own_z i1.toNatClampNeg x4.toInt) j1.toNatClampNeg x5.toInt) c2.toNatClampNeg (1 : Int32).toNatClampNeg)) (2 : Int32).toNatClampNeg (own_R (own_up (own_up own_z i1.toNatClampNeg x4.toInt) j1.toNatClampNeg x5.toInt) c2.toNatClampNeg (2 : Int32).toNatClampNeg)) (3 : Int32).toNatClampNeg (0 : Int32).toNatClampNeg)) h194 n0 (Nat.le_trans Z0 (Nat.le_trans (Nat.le_trans (Nat.le_trans (Nat.le_trans (Nat.le_trans z164 z168) z170) z172) z188) z195)) g190 g191 g192 F201 F198 F199 F203 F204 F200 (rfl : (FP.l2d (Int64.ofInt x6.toInt)) = (FP.l2d (Int64.ofInt x6.toInt))) ((by assumption) : 0 ≤ k1.toInt ∧ k1.toInt < c2.toInt ∧ c2.toInt ≤ 129) ((by assumption) : own_hr (k1 / (64 : Int32)) c2 (3 : Int32)) ((own_b0_up (own_b0_up (own_b0_up own_b0_z _ _) _ _) _ _) : own_b0 (own_up (own_up (own_up own_z i1.toNatClampNeg x4.toInt) j1.toNatClampNeg x5.toInt) k1.toNatClampNeg x6.toInt)) ((by assumption) : own_hr (0 : Int32) (3 : Int32) (1 : Int32)) ((by first | assumption | exact own_b_of (by assumption) | (repeat first | exact own_b_z | assumption | refine own_b_up ?_ _ (own_R_b (by assumption) _ _))) : own_b (own_up (own_up (own_up own_z (0 : Int32).toNatClampNeg (own_R (own_up (own_up own_z i1.toNatClampNeg x4.toInt) j1.toNatClampNeg x5.toInt) c2.toNatClampNeg (0 : Int32).toNatClampNeg)) (1 : Int32).toNatClampNeg (own_R (own_up (own_up own_z i1.toNatClampNeg x4.toInt) j1.toNatClampNeg x5.toInt) c2.toNatClampNeg (1 : Int32).toNatClampNeg)) (2 : Int32).toNatClampNeg (own_R (own_up (own_up own_z i1.toNatClampNeg x4.toInt) j1.toNatClampNeg x5.toInt) c2.toNatClampNeg (2 : Int32).toNatClampNeg))) ((by assumption) : ((k1 / (64 : Int32)) / (64 : Int32)) = (0 : Int32)) ((Nat.ne_of_lt (Nat.lt_of_lt_of_le A171.lt (Nat.le_trans (Nat.le_refl _) P175_0))) : b171 ≠ b180) ((Nat.ne_of_lt (Nat.lt_of_lt_of_le A171.lt (Nat.le_trans (Nat.le_refl _) P175_1))) : b171 ≠ b181) ((Nat.ne_of_lt (Nat.lt_of_lt_of_le A171.lt (Nat.le_trans (Nat.le_refl _) P175_2))) : b171 ≠ b182) ((Nat.ne_of_lt (Nat.lt_of_lt_of_le A171.lt (Nat.le_trans (Nat.le_refl _) P175_3))) : b171 ≠ b183) (P175_10 : b180 ≠ b181) (P175_11 : b180 ≠ b182) (P175_12 : b180 ≠ b183) (P175_13 : b181 ≠ b182) (P175_14 : b181 ≠ b183) (P175_15 : b182 ≠ b183)) hZ (hw _ (List.mem_of_getElem? (i := 51) rfl)) (hw _ (List.mem_of_getElem? (i := 9) rfl)) (by decide) (by decide)) q202a q202c (g := (mkF m 132 #[.val (.int x1), .val (.long q2), .second, .val (.int x3), .val (.int x4), .val (.int x5), .val (.int x6), .val (.int c2), .val (.int i1), .val (.int j1), .val (.int k1), .val (.ref b163), .val (.ref b171), .val (.long wa), .second, .val (.int (1 : Int32)), .unset, .unset, .unset] [(.double (FP.l2d (Int64.ofInt x6.toInt))), (.int k1), (.ref b171)])) rfl (by rw [hml]; rfl) (Steps.refl _) (argsL := [(.int k1), (.double (FP.l2d (Int64.ofInt x6.toInt)))]) (rest := []) (lenOf pd_5 rfl) rfl (by show 2 * 0 + _ ≤ _; exact Nat.le_of_eq rfl) (hb hby at_132) (fun _ _ => ⟨rfl, e197, (by decide : 6 + 0 ≤ _), (by decide : 266 + 0 ≤ _)⟩)
      dsimp only [Pt.U, Pt.locs, Pt.cells, Pt.slots] at X202 l202 y202 z202 st202 hQ202
      subst l202 y202 z202
      obtain ⟨rfl, Nq202, K202, P202_0, P202_1, P202_2⟩ := hQ202
      have N202 := Fr.app N197 Nq202
      have z205 := K202.1
      have e202 : T202.heap = T202.heap := rfl
      refine Wp.tr (S' := T202.setTop (mkF m 135 #[.val (.int x1), .val (.long q2), .second, .val (.int x3), .val (.int x4), .val (.int x5), .val (.int x6), .val (.int c2), .val (.int i1), .val (.int j1), .val (.int k1), .val (.ref b163), .val (.ref b171), .val (.long wa), .second, .val (.int (1 : Int32)), .unset, .unset, .unset] [])) st202 ?_
      refine Wp.st (S' := T202.setTop (mkF m 137 #[.val (.int x1), .val (.long q2), .second, .val (.int x3), .val (.int x4), .val (.int x5), .val (.int x6), .val (.int c2), .val (.int i1), .val (.int j1), .val (.int k1), .val (.ref b163), .val (.ref b171), .val (.long wa), .second, .val (.int (1 : Int32)), .unset, .unset, .unset] [(.int x6)])) (fun tt_ kk_ => XS.iload X202.here hx rfl (hb hby at_135) rfl  kk_) ?_
      have J206 : ∀ (TJ206 : State) (loJ206 : List Loc) (wb : Int64) (NJ206 : Fr n0 loJ206) (XJ206 : Stand p l e room_1 s m #[(.int x1), (.long q2), (.int x3), (.int x4), (.int x5), (.int x6)] below meth c TJ206 loJ206 6 266) (eJ206 : TJ206.heap = T202.heap) (hwb : wb.toInt = x6.toInt + (if j1 = k1 then 0 else x5.toInt) + (if i1 = j1 then 0 else if i1 = k1 then 0 else x4.toInt)), Wp p e below (fun o U' => ∃ v L, o = .returned v ∧ Q_rm0 Z x1 q2 x3 x4 x5 x6 h0 n0 v U'.heap L ∧ FrameEnd s o U' L room_1.cells room_1.slots) (TJ206.setTop (mkF m 175 #[.val (.int x1), .val (.long q2), .second, .val (.int x3), .val (.int x4), .val (.int x5), .val (.int x6), .val (.int c2), .val (.int i1), .val (.int j1), .val (.int k1), .val (.ref b163), .val (.ref b171), .val (.long wa), .second, .val (.int (1 : Int32)), .unset, .unset, .unset] [(.long wb)])) := by
        intro TJ206 loJ206 wb NJ206 XJ206 eJ206 hwb
        have hq64c := own_q64c h_k1.1
        have htop2 : (own_up (own_up own_z (0 : Int32).toNatClampNeg (own_R (own_up (own_up (own_up own_z (0 : Int32).toNatClampNeg (own_R (own_up (own_up own_z i1.toNatClampNeg x4.toInt) j1.toNatClampNeg x5.toInt) c2.toNatClampNeg (0 : Int32).toNatClampNeg)) (1 : Int32).toNatClampNeg (own_R (own_up (own_up own_z i1.toNatClampNeg x4.toInt) j1.toNatClampNeg x5.toInt) c2.toNatClampNeg (1 : Int32).toNatClampNeg)) (2 : Int32).toNatClampNeg (own_R (own_up (own_up own_z i1.toNatClampNeg x4.toInt) j1.toNatClampNeg x5.toInt) c2.toNatClampNeg (2 : Int32).toNatClampNeg)) (3 : Int32).toNatClampNeg (0 : Int32).toNatClampNeg)) (0 : Int32).toNatClampNeg (own_R (own_up (own_up (own_up (own_up own_z (0 : Int32).toNatClampNeg (own_R (own_up (own_up own_z i1.toNatClampNeg x4.toInt) j1.toNatClampNeg x5.toInt) c2.toNatClampNeg (0 : Int32).toNatClampNeg)) (1 : Int32).toNatClampNeg (own_R (own_up (own_up own_z i1.toNatClampNeg x4.toInt) j1.toNatClampNeg x5.toInt) c2.toNatClampNeg (1 : Int32).toNatClampNeg)) (2 : Int32).toNatClampNeg (own_R (own_up (own_up own_z i1.toNatClampNeg x4.toInt) j1.toNatClampNeg x5.toInt) c2.toNatClampNeg (2 : Int32).toNatClampNeg)) (k1 / (64 : Int32)).toNatClampNeg (own_R (own_up (own_up (own_up own_z i1.toNatClampNeg x4.toInt) j1.toNatClampNeg x5.toInt) k1.toNatClampNeg x6.toInt) c2.toNatClampNeg (k1 / (64 : Int32)).toNatClampNeg)) (3 : Int32).toNatClampNeg (0 : Int32).toNatClampNeg)) (0 : Int32).toNatClampNeg = own_S (own_up (own_up (own_up own_z i1.toNatClampNeg x4.toInt) j1.toNatClampNeg x5.toInt) k1.toNatClampNeg x6.toInt) 0 c2.toNatClampNeg := by
          rw [hq64c]; exact own_setB3 (own_up (own_up own_z i1.toNatClampNeg x4.toInt) j1.toNatClampNeg x5.toInt) _ x6.toInt (by rcases hn with rfl <;> decide) (by rcases hn with rfl <;> decide) b_k
        rw [hsum2] at htop2
        have hb2 : -9007199254740992 < (own_up (own_up own_z (0 : Int32).toNatClampNeg (own_R (own_up (own_up (own_up own_z (0 : Int32).toNatClampNeg (own_R (own_up (own_up own_z i1.toNatClampNeg x4.toInt) j1.toNatClampNeg x5.toInt) c2.toNatClampNeg (0 : Int32).toNatClampNeg)) (1 : Int32).toNatClampNeg (own_R (own_up (own_up own_z i1.toNatClampNeg x4.toInt) j1.toNatClampNeg x5.toInt) c2.toNatClampNeg (1 : Int32).toNatClampNeg)) (2 : Int32).toNatClampNeg (own_R (own_up (own_up own_z i1.toNatClampNeg x4.toInt) j1.toNatClampNeg x5.toInt) c2.toNatClampNeg (2 : Int32).toNatClampNeg)) (3 : Int32).toNatClampNeg (0 : Int32).toNatClampNeg)) (0 : Int32).toNatClampNeg (own_R (own_up (own_up (own_up (own_up own_z (0 : Int32).toNatClampNeg (own_R (own_up (own_up own_z i1.toNatClampNeg x4.toInt) j1.toNatClampNeg x5.toInt) c2.toNatClampNeg (0 : Int32).toNatClampNeg)) (1 : Int32).toNatClampNeg (own_R (own_up (own_up own_z i1.toNatClampNeg x4.toInt) j1.toNatClampNeg x5.toInt) c2.toNatClampNeg (1 : Int32).toNatClampNeg)) (2 : Int32).toNatClampNeg (own_R (own_up (own_up own_z i1.toNatClampNeg x4.toInt) j1.toNatClampNeg x5.toInt) c2.toNatClampNeg (2 : Int32).toNatClampNeg)) (k1 / (64 : Int32)).toNatClampNeg (own_R (own_up (own_up (own_up own_z i1.toNatClampNeg x4.toInt) j1.toNatClampNeg x5.toInt) k1.toNatClampNeg x6.toInt) c2.toNatClampNeg (k1 / (64 : Int32)).toNatClampNeg)) (3 : Int32).toNatClampNeg (0 : Int32).toNatClampNeg)) (0 : Int32).toNatClampNeg ∧ (own_up (own_up own_z (0 : Int32).toNatClampNeg (own_R (own_up (own_up (own_up own_z (0 : Int32).toNatClampNeg (own_R (own_up (own_up own_z i1.toNatClampNeg x4.toInt) j1.toNatClampNeg x5.toInt) c2.toNatClampNeg (0 : Int32).toNatClampNeg)) (1 : Int32).toNatClampNeg (own_R (own_up (own_up own_z i1.toNatClampNeg x4.toInt) j1.toNatClampNeg x5.toInt) c2.toNatClampNeg (1 : Int32).toNatClampNeg)) (2 : Int32).toNatClampNeg (own_R (own_up (own_up own_z i1.toNatClampNeg x4.toInt) j1.toNatClampNeg x5.toInt) c2.toNatClampNeg (2 : Int32).toNatClampNeg)) (3 : Int32).toNatClampNeg (0 : Int32).toNatClampNeg)) (0 : Int32).toNatClampNeg (own_R (own_up (own_up (own_up (own_up own_z (0 : Int32).toNatClampNeg (own_R (own_up (own_up own_z i1.toNatClampNeg x4.toInt) j1.toNatClampNeg x5.toInt) c2.toNatClampNeg (0 : Int32).toNatClampNeg)) (1 : Int32).toNatClampNeg (own_R (own_up (own_up own_z i1.toNatClampNeg x4.toInt) j1.toNatClampNeg x5.toInt) c2.toNatClampNeg (1 : Int32).toNatClampNeg)) (2 : Int32).toNatClampNeg (own_R (own_up (own_up own_z i1.toNatClampNeg x4.toInt) j1.toNatClampNeg x5.toInt) c2.toNatClampNeg (2 : Int32).toNatClampNeg)) (k1 / (64 : Int32)).toNatClampNeg (own_R (own_up (own_up (own_up own_z i1.toNatClampNeg x4.toInt) j1.toNatClampNeg x5.toInt) k1.toNatClampNeg x6.toInt) c2.toNatClampNeg (k1 / (64 : Int32)).toNatClampNeg)) (3 : Int32).toNatClampNeg (0 : Int32).toNatClampNeg)) (0 : Int32).toNatClampNeg < 9007199254740992 := by rw [htop2]; repeat' split; all_goals omega
        refine Wp.st (S' := TJ206.setTop (mkF m 177 #[.val (.int x1), .val (.long q2), .second, .val (.int x3), .val (.int x4), .val (.int x5), .val (.int x6), .val (.int c2), .val (.int i1), .val (.int j1), .val (.int k1), .val (.ref b163), .val (.ref b171), .val (.long wa), .second, .val (.int (1 : Int32)), .val (.long wb), .second, .unset] [])) (fun tt_ kk_ => XS.lstore XJ206.here hx rfl (hb hby at_175) rfl (l' := #[.val (.int x1), .val (.long q2), .second, .val (.int x3), .val (.int x4), .val (.int x5), .val (.int x6), .val (.int c2), .val (.int i1), .val (.int j1), .val (.int k1), .val (.ref b163), .val (.ref b171), .val (.long wa), .second, .val (.int (1 : Int32)), .val (.long wb), .second, .unset]) rfl kk_) ?_
        refine Wp.st (S' := TJ206.setTop (mkF m 179 #[.val (.int x1), .val (.long q2), .second, .val (.int x3), .val (.int x4), .val (.int x5), .val (.int x6), .val (.int c2), .val (.int i1), .val (.int j1), .val (.int k1), .val (.ref b163), .val (.ref b171), .val (.long wa), .second, .val (.int (1 : Int32)), .val (.long wb), .second, .unset] [(.ref b171)])) (fun tt_ kk_ => XS.aload XJ206.here hx rfl (hb hby at_177) rfl rfl kk_) ?_
        have F208 := F198.keep K202 (ninS (Nat.ne_of_lt (Nat.lt_of_lt_of_le A171.lt (Nat.le_trans (Nat.le_refl _) P175_1))) (ninS (Nat.ne_of_lt (Nat.lt_of_lt_of_le A171.lt (Nat.le_trans (Nat.le_refl _) P175_2))) (ninS (Nat.ne_of_lt (Nat.lt_of_lt_of_le A171.lt (Nat.le_trans (Nat.le_refl _) P175_3))) nin0)))
        have F209 := F199.keep K202 (ninS P175_10 (ninS P175_11 (ninS P175_12 nin0)))
        have F210 := F201.keep K202
        obtain ⟨cq207, kq207, q207a, q207b, q207c⟩ := isOf hZ eJ206 F210
        obtain ⟨vv207, _, ⟨T207, L207, k207, n207⟩, -, X207, ⟨Lc207, hQ207, l207, y207, z207⟩, st207⟩ := XJ206.virtualBack hx (y := (⟨"com/example/dags_over_clouds/dagsoverclouds/plan/Tally", "sum", "()D"⟩ : MethodName)) (z := (⟨"com/example/dags_over_clouds/dagsoverclouds/plan/Tally", "sum", "()D"⟩ : MethodName)) hown (mvT hZ (hw _ (List.mem_of_getElem? (i := 42) rfl))) (mvT hZ (hw _ (List.mem_of_getElem? (i := 43) rfl))) (notFace_of_selects (args := #[]) (mvT hZ (hw _ (List.mem_of_getElem? (i := 45) rfl)))) (mvT hZ (hw _ (List.mem_of_getElem? (i := 45) rfl))) (mvT hZ (hw _ (List.mem_of_getElem? (i := 44) rfl))) (by decide) (backOf (W := 0) (rmSum3 l Z a0 hw [] b171 b180 (.ref b181) (.ref b182) b183 c184 c187 (own_up (own_up own_z (0 : Int32).toNatClampNeg (own_R (own_up (own_up (own_up own_z (0 : Int32).toNatClampNeg (own_R (own_up (own_up own_z i1.toNatClampNeg x4.toInt) j1.toNatClampNeg x5.toInt) c2.toNatClampNeg (0 : Int32).toNatClampNeg)) (1 : Int32).toNatClampNeg (own_R (own_up (own_up own_z i1.toNatClampNeg x4.toInt) j1.toNatClampNeg x5.toInt) c2.toNatClampNeg (1 : Int32).toNatClampNeg)) (2 : Int32).toNatClampNeg (own_R (own_up (own_up own_z i1.toNatClampNeg x4.toInt) j1.toNatClampNeg x5.toInt) c2.toNatClampNeg (2 : Int32).toNatClampNeg)) (3 : Int32).toNatClampNeg (0 : Int32).toNatClampNeg)) (0 : Int32).toNatClampNeg (own_R (own_up (own_up (own_up (own_up own_z (0 : Int32).toNatClampNeg (own_R (own_up (own_up own_z i1.toNatClampNeg x4.toInt) j1.toNatClampNeg x5.toInt) c2.toNatClampNeg (0 : Int32).toNatClampNeg)) (1 : Int32).toNatClampNeg (own_R (own_up (own_up own_z i1.toNatClampNeg x4.toInt) j1.toNatClampNeg x5.toInt) c2.toNatClampNeg (1 : Int32).toNatClampNeg)) (2 : Int32).toNatClampNeg (own_R (own_up (own_up own_z i1.toNatClampNeg x4.toInt) j1.toNatClampNeg x5.toInt) c2.toNatClampNeg (2 : Int32).toNatClampNeg)) (k1 / (64 : Int32)).toNatClampNeg (own_R (own_up (own_up (own_up own_z i1.toNatClampNeg x4.toInt) j1.toNatClampNeg x5.toInt) k1.toNatClampNeg x6.toInt) c2.toNatClampNeg (k1 / (64 : Int32)).toNatClampNeg)) (3 : Int32).toNatClampNeg (0 : Int32).toNatClampNeg)) T202.heap n0 (Nat.le_trans Z0 (Nat.le_trans (Nat.le_trans (Nat.le_trans (Nat.le_trans (Nat.le_trans (Nat.le_trans z164 z168) z170) z172) z188) z195) z205)) F208 F209 P202_2) hZ (hw _ (List.mem_of_getElem? (i := 46) rfl)) (hw _ (List.mem_of_getElem? (i := 9) rfl)) (by decide) (by decide)) q207a q207c (g := (mkF m 179 #[.val (.int x1), .val (.long q2), .second, .val (.int x3), .val (.int x4), .val (.int x5), .val (.int x6), .val (.int c2), .val (.int i1), .val (.int j1), .val (.int k1), .val (.ref b163), .val (.ref b171), .val (.long wa), .second, .val (.int (1 : Int32)), .val (.long wb), .second, .unset] [(.ref b171)])) rfl (by rw [hml]; rfl) (Steps.refl _) (argsL := []) (rest := []) (lenOf pd_4 rfl) rfl (by show 2 * 0 + _ ≤ _; exact Nat.le_of_eq rfl) (hb hby at_179) (fun _ _ => ⟨rfl, eJ206, (by decide : 6 + 0 ≤ _), (by decide : 266 + 0 ≤ _)⟩)
        dsimp only [Pt.U, Pt.locs, Pt.cells, Pt.slots] at X207 l207 y207 z207 st207 hQ207
        subst l207 y207 z207
        obtain ⟨rfl, Nq207, e207⟩ := hQ207
        have N207 := Fr.app NJ206 Nq207
        refine Wp.tr (S' := T207.setTop (mkF m 182 #[.val (.int x1), .val (.long q2), .second, .val (.int x3), .val (.int x4), .val (.int x5), .val (.int x6), .val (.int c2), .val (.int i1), .val (.int j1), .val (.int k1), .val (.ref b163), .val (.ref b171), .val (.long wa), .second, .val (.int (1 : Int32)), .val (.long wb), .second, .unset] [(.double (FP.l2d (Int64.ofInt ((own_up (own_up own_z (0 : Int32).toNatClampNeg (own_R (own_up (own_up (own_up own_z (0 : Int32).toNatClampNeg (own_R (own_up (own_up own_z i1.toNatClampNeg x4.toInt) j1.toNatClampNeg x5.toInt) c2.toNatClampNeg (0 : Int32).toNatClampNeg)) (1 : Int32).toNatClampNeg (own_R (own_up (own_up own_z i1.toNatClampNeg x4.toInt) j1.toNatClampNeg x5.toInt) c2.toNatClampNeg (1 : Int32).toNatClampNeg)) (2 : Int32).toNatClampNeg (own_R (own_up (own_up own_z i1.toNatClampNeg x4.toInt) j1.toNatClampNeg x5.toInt) c2.toNatClampNeg (2 : Int32).toNatClampNeg)) (3 : Int32).toNatClampNeg (0 : Int32).toNatClampNeg)) (0 : Int32).toNatClampNeg (own_R (own_up (own_up (own_up (own_up own_z (0 : Int32).toNatClampNeg (own_R (own_up (own_up own_z i1.toNatClampNeg x4.toInt) j1.toNatClampNeg x5.toInt) c2.toNatClampNeg (0 : Int32).toNatClampNeg)) (1 : Int32).toNatClampNeg (own_R (own_up (own_up own_z i1.toNatClampNeg x4.toInt) j1.toNatClampNeg x5.toInt) c2.toNatClampNeg (1 : Int32).toNatClampNeg)) (2 : Int32).toNatClampNeg (own_R (own_up (own_up own_z i1.toNatClampNeg x4.toInt) j1.toNatClampNeg x5.toInt) c2.toNatClampNeg (2 : Int32).toNatClampNeg)) (k1 / (64 : Int32)).toNatClampNeg (own_R (own_up (own_up (own_up own_z i1.toNatClampNeg x4.toInt) j1.toNatClampNeg x5.toInt) k1.toNatClampNeg x6.toInt) c2.toNatClampNeg (k1 / (64 : Int32)).toNatClampNeg)) (3 : Int32).toNatClampNeg (0 : Int32).toNatClampNeg)) (0 : Int32).toNatClampNeg))))])) st207 ?_
        refine Wp.st (S' := T207.setTop (mkF m 184 #[.val (.int x1), .val (.long q2), .second, .val (.int x3), .val (.int x4), .val (.int x5), .val (.int x6), .val (.int c2), .val (.int i1), .val (.int j1), .val (.int k1), .val (.ref b163), .val (.ref b171), .val (.long wa), .second, .val (.int (1 : Int32)), .val (.long wb), .second, .unset] [(.long wb), (.double (FP.l2d (Int64.ofInt ((own_up (own_up own_z (0 : Int32).toNatClampNeg (own_R (own_up (own_up (own_up own_z (0 : Int32).toNatClampNeg (own_R (own_up (own_up own_z i1.toNatClampNeg x4.toInt) j1.toNatClampNeg x5.toInt) c2.toNatClampNeg (0 : Int32).toNatClampNeg)) (1 : Int32).toNatClampNeg (own_R (own_up (own_up own_z i1.toNatClampNeg x4.toInt) j1.toNatClampNeg x5.toInt) c2.toNatClampNeg (1 : Int32).toNatClampNeg)) (2 : Int32).toNatClampNeg (own_R (own_up (own_up own_z i1.toNatClampNeg x4.toInt) j1.toNatClampNeg x5.toInt) c2.toNatClampNeg (2 : Int32).toNatClampNeg)) (3 : Int32).toNatClampNeg (0 : Int32).toNatClampNeg)) (0 : Int32).toNatClampNeg (own_R (own_up (own_up (own_up (own_up own_z (0 : Int32).toNatClampNeg (own_R (own_up (own_up own_z i1.toNatClampNeg x4.toInt) j1.toNatClampNeg x5.toInt) c2.toNatClampNeg (0 : Int32).toNatClampNeg)) (1 : Int32).toNatClampNeg (own_R (own_up (own_up own_z i1.toNatClampNeg x4.toInt) j1.toNatClampNeg x5.toInt) c2.toNatClampNeg (1 : Int32).toNatClampNeg)) (2 : Int32).toNatClampNeg (own_R (own_up (own_up own_z i1.toNatClampNeg x4.toInt) j1.toNatClampNeg x5.toInt) c2.toNatClampNeg (2 : Int32).toNatClampNeg)) (k1 / (64 : Int32)).toNatClampNeg (own_R (own_up (own_up (own_up own_z i1.toNatClampNeg x4.toInt) j1.toNatClampNeg x5.toInt) k1.toNatClampNeg x6.toInt) c2.toNatClampNeg (k1 / (64 : Int32)).toNatClampNeg)) (3 : Int32).toNatClampNeg (0 : Int32).toNatClampNeg)) (0 : Int32).toNatClampNeg))))])) (fun tt_ kk_ => XS.lload X207.here hx rfl (hb hby at_182) rfl  kk_) ?_
        refine Wp.st (S' := T207.setTop (mkF m 185 #[.val (.int x1), .val (.long q2), .second, .val (.int x3), .val (.int x4), .val (.int x5), .val (.int x6), .val (.int c2), .val (.int i1), .val (.int j1), .val (.int k1), .val (.ref b163), .val (.ref b171), .val (.long wa), .second, .val (.int (1 : Int32)), .val (.long wb), .second, .unset] [(.double (FP.l2d wb)), (.double (FP.l2d (Int64.ofInt ((own_up (own_up own_z (0 : Int32).toNatClampNeg (own_R (own_up (own_up (own_up own_z (0 : Int32).toNatClampNeg (own_R (own_up (own_up own_z i1.toNatClampNeg x4.toInt) j1.toNatClampNeg x5.toInt) c2.toNatClampNeg (0 : Int32).toNatClampNeg)) (1 : Int32).toNatClampNeg (own_R (own_up (own_up own_z i1.toNatClampNeg x4.toInt) j1.toNatClampNeg x5.toInt) c2.toNatClampNeg (1 : Int32).toNatClampNeg)) (2 : Int32).toNatClampNeg (own_R (own_up (own_up own_z i1.toNatClampNeg x4.toInt) j1.toNatClampNeg x5.toInt) c2.toNatClampNeg (2 : Int32).toNatClampNeg)) (3 : Int32).toNatClampNeg (0 : Int32).toNatClampNeg)) (0 : Int32).toNatClampNeg (own_R (own_up (own_up (own_up (own_up own_z (0 : Int32).toNatClampNeg (own_R (own_up (own_up own_z i1.toNatClampNeg x4.toInt) j1.toNatClampNeg x5.toInt) c2.toNatClampNeg (0 : Int32).toNatClampNeg)) (1 : Int32).toNatClampNeg (own_R (own_up (own_up own_z i1.toNatClampNeg x4.toInt) j1.toNatClampNeg x5.toInt) c2.toNatClampNeg (1 : Int32).toNatClampNeg)) (2 : Int32).toNatClampNeg (own_R (own_up (own_up own_z i1.toNatClampNeg x4.toInt) j1.toNatClampNeg x5.toInt) c2.toNatClampNeg (2 : Int32).toNatClampNeg)) (k1 / (64 : Int32)).toNatClampNeg (own_R (own_up (own_up (own_up own_z i1.toNatClampNeg x4.toInt) j1.toNatClampNeg x5.toInt) k1.toNatClampNeg x6.toInt) c2.toNatClampNeg (k1 / (64 : Int32)).toNatClampNeg)) (3 : Int32).toNatClampNeg (0 : Int32).toNatClampNeg)) (0 : Int32).toNatClampNeg))))])) (fun tt_ kk_ => XS.l2dS X207.here hx rfl (hb hby at_184) rfl rfl kk_) ?_
        refine Wp.st (S' := T207.setTop (mkF m 186 #[.val (.int x1), .val (.long q2), .second, .val (.int x3), .val (.int x4), .val (.int x5), .val (.int x6), .val (.int c2), .val (.int i1), .val (.int j1), .val (.int k1), .val (.ref b163), .val (.ref b171), .val (.long wa), .second, .val (.int (1 : Int32)), .val (.long wb), .second, .unset] [(.int (0 : Int32))])) (fun tt_ kk_ => XS.dcmpS X207.here hx rfl (hb hby at_185) rfl (own_cmp (hwb.trans htop2.symm) hb2) kk_) ?_
        refine Wp.st (S' := T207.setTop (mkF m 189 #[.val (.int x1), .val (.long q2), .second, .val (.int x3), .val (.int x4), .val (.int x5), .val (.int x6), .val (.int c2), .val (.int i1), .val (.int j1), .val (.int k1), .val (.ref b163), .val (.ref b171), .val (.long wa), .second, .val (.int (1 : Int32)), .val (.long wb), .second, .unset] [])) (fun tt_ kk_ => XS.ifNo X207.here hx rfl (hb hby at_186) rfl ((if0 _ _).trans (teq ((by decide) : (0 : Int32) = (0 : Int32))).2) kk_) ?_
        refine Wp.st (S' := T207.setTop (mkF m 190 #[.val (.int x1), .val (.long q2), .second, .val (.int x3), .val (.int x4), .val (.int x5), .val (.int x6), .val (.int c2), .val (.int i1), .val (.int j1), .val (.int k1), .val (.ref b163), .val (.ref b171), .val (.long wa), .second, .val (.int (1 : Int32)), .val (.long wb), .second, .unset] [(.int (1 : Int32))])) (fun tt_ kk_ => XS.iconst X207.here hx rfl (hb hby at_189) kk_) ?_
        refine Wp.st (S' := T207.setTop (mkF m 194 #[.val (.int x1), .val (.long q2), .second, .val (.int x3), .val (.int x4), .val (.int x5), .val (.int x6), .val (.int c2), .val (.int i1), .val (.int j1), .val (.int k1), .val (.ref b163), .val (.ref b171), .val (.long wa), .second, .val (.int (1 : Int32)), .val (.long wb), .second, .unset] [(.int (1 : Int32))])) (fun tt_ kk_ => XS.goto X207.here hx rfl (pc0 := 190) (pc' := 194) rfl (hb hby at_190) (by decide) (by decide) kk_) ?_
        refine Wp.st (S' := T207.setTop (mkF m 196 #[.val (.int x1), .val (.long q2), .second, .val (.int x3), .val (.int x4), .val (.int x5), .val (.int x6), .val (.int c2), .val (.int i1), .val (.int j1), .val (.int k1), .val (.ref b163), .val (.ref b171), .val (.long wa), .second, .val (.int (1 : Int32)), .val (.long wb), .second, .val (.int (1 : Int32))] [])) (fun tt_ kk_ => XS.istore X207.here hx rfl (hb hby at_194) rfl (l' := #[.val (.int x1), .val (.long q2), .second, .val (.int x3), .val (.int x4), .val (.int x5), .val (.int x6), .val (.int c2), .val (.int i1), .val (.int j1), .val (.int k1), .val (.ref b163), .val (.ref b171), .val (.long wa), .second, .val (.int (1 : Int32)), .val (.long wb), .second, .val (.int (1 : Int32))]) rfl kk_) ?_
        refine Wp.st (S' := T207.setTop (mkF m 198 #[.val (.int x1), .val (.long q2), .second, .val (.int x3), .val (.int x4), .val (.int x5), .val (.int x6), .val (.int c2), .val (.int i1), .val (.int j1), .val (.int k1), .val (.ref b163), .val (.ref b171), .val (.long wa), .second, .val (.int (1 : Int32)), .val (.long wb), .second, .val (.int (1 : Int32))] [(.int (1 : Int32))])) (fun tt_ kk_ => XS.iload X207.here hx rfl (hb hby at_196) rfl  kk_) ?_
        refine Wp.st (S' := T207.setTop (mkF m 201 #[.val (.int x1), .val (.long q2), .second, .val (.int x3), .val (.int x4), .val (.int x5), .val (.int x6), .val (.int c2), .val (.int i1), .val (.int j1), .val (.int k1), .val (.ref b163), .val (.ref b171), .val (.long wa), .second, .val (.int (1 : Int32)), .val (.long wb), .second, .val (.int (1 : Int32))] [])) (fun tt_ kk_ => XS.ifNo X207.here hx rfl (hb hby at_198) rfl ((if0 _ _).trans (feq ((by decide) : ¬ ((1 : Int32) = (0 : Int32)))).1) kk_) ?_
        refine Wp.st (S' := T207.setTop (mkF m 203 #[.val (.int x1), .val (.long q2), .second, .val (.int x3), .val (.int x4), .val (.int x5), .val (.int x6), .val (.int c2), .val (.int i1), .val (.int j1), .val (.int k1), .val (.ref b163), .val (.ref b171), .val (.long wa), .second, .val (.int (1 : Int32)), .val (.long wb), .second, .val (.int (1 : Int32))] [(.int (1 : Int32))])) (fun tt_ kk_ => XS.iload X207.here hx rfl (hb hby at_201) rfl  kk_) ?_
        refine Wp.st (S' := T207.setTop (mkF m 206 #[.val (.int x1), .val (.long q2), .second, .val (.int x3), .val (.int x4), .val (.int x5), .val (.int x6), .val (.int c2), .val (.int i1), .val (.int j1), .val (.int k1), .val (.ref b163), .val (.ref b171), .val (.long wa), .second, .val (.int (1 : Int32)), .val (.long wb), .second, .val (.int (1 : Int32))] [])) (fun tt_ kk_ => XS.ifNo X207.here hx rfl (hb hby at_203) rfl ((if0 _ _).trans (feq ((by decide) : ¬ ((1 : Int32) = (0 : Int32)))).1) kk_) ?_
        refine Wp.st (S' := T207.setTop (mkF m 207 #[.val (.int x1), .val (.long q2), .second, .val (.int x3), .val (.int x4), .val (.int x5), .val (.int x6), .val (.int c2), .val (.int i1), .val (.int j1), .val (.int k1), .val (.ref b163), .val (.ref b171), .val (.long wa), .second, .val (.int (1 : Int32)), .val (.long wb), .second, .val (.int (1 : Int32))] [(.int (1 : Int32))])) (fun tt_ kk_ => XS.iconst X207.here hx rfl (hb hby at_206) kk_) ?_
        refine Wp.st (S' := T207.setTop (mkF m 211 #[.val (.int x1), .val (.long q2), .second, .val (.int x3), .val (.int x4), .val (.int x5), .val (.int x6), .val (.int c2), .val (.int i1), .val (.int j1), .val (.int k1), .val (.ref b163), .val (.ref b171), .val (.long wa), .second, .val (.int (1 : Int32)), .val (.long wb), .second, .val (.int (1 : Int32))] [(.int (1 : Int32))])) (fun tt_ kk_ => XS.goto X207.here hx rfl (pc0 := 207) (pc' := 211) rfl (hb hby at_207) (by decide) (by decide) kk_) ?_
        have K211 := Keep.refl h0 []
        have K212 := K211.ext E163
        have K213 := K212.wr W167 (Or.inr (Nat.le_trans (Nat.le_refl _) (Nat.le_of_eq g163.symm)))
        have K214 := K213.wr W169 (Or.inr (Nat.le_trans (Nat.le_refl _) (Nat.le_of_eq g163.symm)))
        have K215 := K214.ext E171
        have K216 := K215.trans K175 (allS (Or.inr (Nat.le_trans (Nat.le_trans (Nat.le_trans z164 z168) z170) (Nat.le_of_eq g171.symm))) all0)
        have K217 := K216.wr W194 (Or.inr (Nat.le_trans (Nat.le_refl _) (Nat.le_of_eq g163.symm)))
        have K218 := K217.trans K202 (allS (Or.inr (Nat.le_trans (Nat.le_trans (Nat.le_trans (Nat.le_trans z164 z168) z170) z172) P175_1)) (allS (Or.inr (Nat.le_trans (Nat.le_trans (Nat.le_trans (Nat.le_trans z164 z168) z170) z172) P175_2)) (allS (Or.inr (Nat.le_trans (Nat.le_trans (Nat.le_trans (Nat.le_trans z164 z168) z170) z172) P175_3)) all0)))
        exact Wp.ret X207 hlk (v := (some (.int (1 : Int32)))) (fun h => by rw [Bd.returns] at h; cases h) (fun fs hr => retN (z := (1 : Int32)) X207 hx (t := .boolean) Bd.returns (by simp) (hb hby at_211) hr) (by decide) (by decide) (show Q_rm0 Z x1 q2 x3 x4 x5 x6 h0 n0 _ T207.heap _ by rw [e207]; exact ⟨rfl, N207, K218⟩)
      refine Wp.st (S' := T202.setTop (mkF m 138 #[.val (.int x1), .val (.long q2), .second, .val (.int x3), .val (.int x4), .val (.int x5), .val (.int x6), .val (.int c2), .val (.int i1), .val (.int j1), .val (.int k1), .val (.ref b163), .val (.ref b171), .val (.long wa), .second, .val (.int (1 : Int32)), .unset, .unset, .unset] [(.long (x6.toInt64))])) (fun tt_ kk_ => XS.i2l X202.here hx rfl (hb hby at_137) rfl kk_) ?_
      refine Wp.st (S' := T202.setTop (mkF m 140 #[.val (.int x1), .val (.long q2), .second, .val (.int x3), .val (.int x4), .val (.int x5), .val (.int x6), .val (.int c2), .val (.int i1), .val (.int j1), .val (.int k1), .val (.ref b163), .val (.ref b171), .val (.long wa), .second, .val (.int (1 : Int32)), .unset, .unset, .unset] [(.int j1), (.long (x6.toInt64))])) (fun tt_ kk_ => XS.iload X202.here hx rfl (hb hby at_138) rfl  kk_) ?_
      refine Wp.st (S' := T202.setTop (mkF m 142 #[.val (.int x1), .val (.long q2), .second, .val (.int x3), .val (.int x4), .val (.int x5), .val (.int x6), .val (.int c2), .val (.int i1), .val (.int j1), .val (.int k1), .val (.ref b163), .val (.ref b171), .val (.long wa), .second, .val (.int (1 : Int32)), .unset, .unset, .unset] [(.int k1), (.int j1), (.long (x6.toInt64))])) (fun tt_ kk_ => XS.iload X202.here hx rfl (hb hby at_140) rfl  kk_) ?_
      by_cases fJ : j1 = k1
      case pos =>
        refine Wp.st (S' := T202.setTop (mkF m 151 #[.val (.int x1), .val (.long q2), .second, .val (.int x3), .val (.int x4), .val (.int x5), .val (.int x6), .val (.int c2), .val (.int i1), .val (.int j1), .val (.int k1), .val (.ref b163), .val (.ref b171), .val (.long wa), .second, .val (.int (1 : Int32)), .unset, .unset, .unset] [(.long (x6.toInt64))])) (fun tt_ kk_ => XS.icmpYes X202.here hx rfl (pc0 := 142) (pc' := 151) rfl (hb hby at_142) rfl (teq (fJ : j1 = k1)).1 (by decide) (by decide) kk_) ?_
        refine Wp.st (S' := T202.setTop (mkF m 152 #[.val (.int x1), .val (.long q2), .second, .val (.int x3), .val (.int x4), .val (.int x5), .val (.int x6), .val (.int c2), .val (.int i1), .val (.int j1), .val (.int k1), .val (.ref b163), .val (.ref b171), .val (.long wa), .second, .val (.int (1 : Int32)), .unset, .unset, .unset] [(.long (0 : Int64)), (.long (x6.toInt64))])) (fun tt_ kk_ => XS.lconst X202.here hx rfl (hb hby at_151) kk_) ?_
        refine Wp.st (S' := T202.setTop (mkF m 153 #[.val (.int x1), .val (.long q2), .second, .val (.int x3), .val (.int x4), .val (.int x5), .val (.int x6), .val (.int c2), .val (.int i1), .val (.int j1), .val (.int k1), .val (.ref b163), .val (.ref b171), .val (.long wa), .second, .val (.int (1 : Int32)), .unset, .unset, .unset] [(.long ((x6.toInt64) + (0 : Int64)))])) (fun tt_ kk_ => XS.ladd X202.here hx rfl (hb hby at_152) rfl kk_) ?_
        refine Wp.st (S' := T202.setTop (mkF m 155 #[.val (.int x1), .val (.long q2), .second, .val (.int x3), .val (.int x4), .val (.int x5), .val (.int x6), .val (.int c2), .val (.int i1), .val (.int j1), .val (.int k1), .val (.ref b163), .val (.ref b171), .val (.long wa), .second, .val (.int (1 : Int32)), .unset, .unset, .unset] [(.int i1), (.long ((x6.toInt64) + (0 : Int64)))])) (fun tt_ kk_ => XS.iload X202.here hx rfl (hb hby at_153) rfl  kk_) ?_
        refine Wp.st (S' := T202.setTop (mkF m 157 #[.val (.int x1), .val (.long q2), .second, .val (.int x3), .val (.int x4), .val (.int x5), .val (.int x6), .val (.int c2), .val (.int i1), .val (.int j1), .val (.int k1), .val (.ref b163), .val (.ref b171), .val (.long wa), .second, .val (.int (1 : Int32)), .unset, .unset, .unset] [(.int j1), (.int i1), (.long ((x6.toInt64) + (0 : Int64)))])) (fun tt_ kk_ => XS.iload X202.here hx rfl (hb hby at_155) rfl  kk_) ?_
        by_cases fI : i1 = j1
        case pos =>
          refine Wp.st (S' := T202.setTop (mkF m 173 #[.val (.int x1), .val (.long q2), .second, .val (.int x3), .val (.int x4), .val (.int x5), .val (.int x6), .val (.int c2), .val (.int i1), .val (.int j1), .val (.int k1), .val (.ref b163), .val (.ref b171), .val (.long wa), .second, .val (.int (1 : Int32)), .unset, .unset, .unset] [(.long ((x6.toInt64) + (0 : Int64)))])) (fun tt_ kk_ => XS.icmpYes X202.here hx rfl (pc0 := 157) (pc' := 173) rfl (hb hby at_157) rfl (teq (fI : i1 = j1)).1 (by decide) (by decide) kk_) ?_
          refine Wp.st (S' := T202.setTop (mkF m 174 #[.val (.int x1), .val (.long q2), .second, .val (.int x3), .val (.int x4), .val (.int x5), .val (.int x6), .val (.int c2), .val (.int i1), .val (.int j1), .val (.int k1), .val (.ref b163), .val (.ref b171), .val (.long wa), .second, .val (.int (1 : Int32)), .unset, .unset, .unset] [(.long (0 : Int64)), (.long ((x6.toInt64) + (0 : Int64)))])) (fun tt_ kk_ => XS.lconst X202.here hx rfl (hb hby at_173) kk_) ?_
          refine Wp.st (S' := T202.setTop (mkF m 175 #[.val (.int x1), .val (.long q2), .second, .val (.int x3), .val (.int x4), .val (.int x5), .val (.int x6), .val (.int c2), .val (.int i1), .val (.int j1), .val (.int k1), .val (.ref b163), .val (.ref b171), .val (.long wa), .second, .val (.int (1 : Int32)), .unset, .unset, .unset] [(.long (((x6.toInt64) + (0 : Int64)) + (0 : Int64)))])) (fun tt_ kk_ => XS.ladd X202.here hx rfl (hb hby at_174) rfl kk_) ?_
          have ew : (((x6.toInt64) + (0 : Int64)) + (0 : Int64)).toInt = x6.toInt + (if j1 = k1 then 0 else x5.toInt) + (if i1 = j1 then 0 else if i1 = k1 then 0 else x4.toInt) := by
            rw [if_pos fJ, if_pos fI]
            have e0 : (0 : Int64).toInt = 0 := by decide
            have c4 := c_i2l x4; have c5 := c_i2l x5; have c6 := c_i2l x6
            have a1 := c_ladd x6.toInt64 (0 : Int64); have b1 := rng64 (x6.toInt64 + (0 : Int64))
            have a2 := c_ladd (x6.toInt64 + (0 : Int64)) (0 : Int64); have b2 := rng64 (x6.toInt64 + (0 : Int64) + (0 : Int64))
            omega
          exact J206 _ _ (((x6.toInt64) + (0 : Int64)) + (0 : Int64)) N202 X202 e202 ew
        case neg =>
          refine Wp.st (S' := T202.setTop (mkF m 160 #[.val (.int x1), .val (.long q2), .second, .val (.int x3), .val (.int x4), .val (.int x5), .val (.int x6), .val (.int c2), .val (.int i1), .val (.int j1), .val (.int k1), .val (.ref b163), .val (.ref b171), .val (.long wa), .second, .val (.int (1 : Int32)), .unset, .unset, .unset] [(.long ((x6.toInt64) + (0 : Int64)))])) (fun tt_ kk_ => XS.icmpNo X202.here hx rfl (hb hby at_157) rfl (feq (fI : ¬ (i1 = j1))).1 kk_) ?_
          refine Wp.st (S' := T202.setTop (mkF m 162 #[.val (.int x1), .val (.long q2), .second, .val (.int x3), .val (.int x4), .val (.int x5), .val (.int x6), .val (.int c2), .val (.int i1), .val (.int j1), .val (.int k1), .val (.ref b163), .val (.ref b171), .val (.long wa), .second, .val (.int (1 : Int32)), .unset, .unset, .unset] [(.int i1), (.long ((x6.toInt64) + (0 : Int64)))])) (fun tt_ kk_ => XS.iload X202.here hx rfl (hb hby at_160) rfl  kk_) ?_
          refine Wp.st (S' := T202.setTop (mkF m 164 #[.val (.int x1), .val (.long q2), .second, .val (.int x3), .val (.int x4), .val (.int x5), .val (.int x6), .val (.int c2), .val (.int i1), .val (.int j1), .val (.int k1), .val (.ref b163), .val (.ref b171), .val (.long wa), .second, .val (.int (1 : Int32)), .unset, .unset, .unset] [(.int k1), (.int i1), (.long ((x6.toInt64) + (0 : Int64)))])) (fun tt_ kk_ => XS.iload X202.here hx rfl (hb hby at_162) rfl  kk_) ?_
          by_cases fK : i1 = k1
          case pos =>
            refine Wp.st (S' := T202.setTop (mkF m 173 #[.val (.int x1), .val (.long q2), .second, .val (.int x3), .val (.int x4), .val (.int x5), .val (.int x6), .val (.int c2), .val (.int i1), .val (.int j1), .val (.int k1), .val (.ref b163), .val (.ref b171), .val (.long wa), .second, .val (.int (1 : Int32)), .unset, .unset, .unset] [(.long ((x6.toInt64) + (0 : Int64)))])) (fun tt_ kk_ => XS.icmpYes X202.here hx rfl (pc0 := 164) (pc' := 173) rfl (hb hby at_164) rfl (teq (fK : i1 = k1)).1 (by decide) (by decide) kk_) ?_
            refine Wp.st (S' := T202.setTop (mkF m 174 #[.val (.int x1), .val (.long q2), .second, .val (.int x3), .val (.int x4), .val (.int x5), .val (.int x6), .val (.int c2), .val (.int i1), .val (.int j1), .val (.int k1), .val (.ref b163), .val (.ref b171), .val (.long wa), .second, .val (.int (1 : Int32)), .unset, .unset, .unset] [(.long (0 : Int64)), (.long ((x6.toInt64) + (0 : Int64)))])) (fun tt_ kk_ => XS.lconst X202.here hx rfl (hb hby at_173) kk_) ?_
            refine Wp.st (S' := T202.setTop (mkF m 175 #[.val (.int x1), .val (.long q2), .second, .val (.int x3), .val (.int x4), .val (.int x5), .val (.int x6), .val (.int c2), .val (.int i1), .val (.int j1), .val (.int k1), .val (.ref b163), .val (.ref b171), .val (.long wa), .second, .val (.int (1 : Int32)), .unset, .unset, .unset] [(.long (((x6.toInt64) + (0 : Int64)) + (0 : Int64)))])) (fun tt_ kk_ => XS.ladd X202.here hx rfl (hb hby at_174) rfl kk_) ?_
            have ew : (((x6.toInt64) + (0 : Int64)) + (0 : Int64)).toInt = x6.toInt + (if j1 = k1 then 0 else x5.toInt) + (if i1 = j1 then 0 else if i1 = k1 then 0 else x4.toInt) := by
              rw [if_pos fJ, if_neg fI, if_pos fK]
              have e0 : (0 : Int64).toInt = 0 := by decide
              have c4 := c_i2l x4; have c5 := c_i2l x5; have c6 := c_i2l x6
              have a1 := c_ladd x6.toInt64 (0 : Int64); have b1 := rng64 (x6.toInt64 + (0 : Int64))
              have a2 := c_ladd (x6.toInt64 + (0 : Int64)) (0 : Int64); have b2 := rng64 (x6.toInt64 + (0 : Int64) + (0 : Int64))
              omega
            exact J206 _ _ (((x6.toInt64) + (0 : Int64)) + (0 : Int64)) N202 X202 e202 ew
          case neg =>
            refine Wp.st (S' := T202.setTop (mkF m 167 #[.val (.int x1), .val (.long q2), .second, .val (.int x3), .val (.int x4), .val (.int x5), .val (.int x6), .val (.int c2), .val (.int i1), .val (.int j1), .val (.int k1), .val (.ref b163), .val (.ref b171), .val (.long wa), .second, .val (.int (1 : Int32)), .unset, .unset, .unset] [(.long ((x6.toInt64) + (0 : Int64)))])) (fun tt_ kk_ => XS.icmpNo X202.here hx rfl (hb hby at_164) rfl (feq (fK : ¬ (i1 = k1))).1 kk_) ?_
            refine Wp.st (S' := T202.setTop (mkF m 169 #[.val (.int x1), .val (.long q2), .second, .val (.int x3), .val (.int x4), .val (.int x5), .val (.int x6), .val (.int c2), .val (.int i1), .val (.int j1), .val (.int k1), .val (.ref b163), .val (.ref b171), .val (.long wa), .second, .val (.int (1 : Int32)), .unset, .unset, .unset] [(.int x4), (.long ((x6.toInt64) + (0 : Int64)))])) (fun tt_ kk_ => XS.iload X202.here hx rfl (hb hby at_167) rfl  kk_) ?_
            refine Wp.st (S' := T202.setTop (mkF m 170 #[.val (.int x1), .val (.long q2), .second, .val (.int x3), .val (.int x4), .val (.int x5), .val (.int x6), .val (.int c2), .val (.int i1), .val (.int j1), .val (.int k1), .val (.ref b163), .val (.ref b171), .val (.long wa), .second, .val (.int (1 : Int32)), .unset, .unset, .unset] [(.long (x4.toInt64)), (.long ((x6.toInt64) + (0 : Int64)))])) (fun tt_ kk_ => XS.i2l X202.here hx rfl (hb hby at_169) rfl kk_) ?_
            refine Wp.st (S' := T202.setTop (mkF m 174 #[.val (.int x1), .val (.long q2), .second, .val (.int x3), .val (.int x4), .val (.int x5), .val (.int x6), .val (.int c2), .val (.int i1), .val (.int j1), .val (.int k1), .val (.ref b163), .val (.ref b171), .val (.long wa), .second, .val (.int (1 : Int32)), .unset, .unset, .unset] [(.long (x4.toInt64)), (.long ((x6.toInt64) + (0 : Int64)))])) (fun tt_ kk_ => XS.goto X202.here hx rfl (pc0 := 170) (pc' := 174) rfl (hb hby at_170) (by decide) (by decide) kk_) ?_
            refine Wp.st (S' := T202.setTop (mkF m 175 #[.val (.int x1), .val (.long q2), .second, .val (.int x3), .val (.int x4), .val (.int x5), .val (.int x6), .val (.int c2), .val (.int i1), .val (.int j1), .val (.int k1), .val (.ref b163), .val (.ref b171), .val (.long wa), .second, .val (.int (1 : Int32)), .unset, .unset, .unset] [(.long (((x6.toInt64) + (0 : Int64)) + (x4.toInt64)))])) (fun tt_ kk_ => XS.ladd X202.here hx rfl (hb hby at_174) rfl kk_) ?_
            have ew : (((x6.toInt64) + (0 : Int64)) + (x4.toInt64)).toInt = x6.toInt + (if j1 = k1 then 0 else x5.toInt) + (if i1 = j1 then 0 else if i1 = k1 then 0 else x4.toInt) := by
              rw [if_pos fJ, if_neg fI, if_neg fK]
              have e0 : (0 : Int64).toInt = 0 := by decide
              have c4 := c_i2l x4; have c5 := c_i2l x5; have c6 := c_i2l x6
              have a1 := c_ladd x6.toInt64 (0 : Int64); have b1 := rng64 (x6.toInt64 + (0 : Int64))
              have a2 := c_ladd (x6.toInt64 + (0 : Int64)) x4.toInt64; have b2 := rng64 (x6.toInt64 + (0 : Int64) + x4.toInt64)
              omega
            exact J206 _ _ (((x6.toInt64) + (0 : Int64)) + (x4.toInt64)) N202 X202 e202 ew
      case neg =>
        refine Wp.st (S' := T202.setTop (mkF m 145 #[.val (.int x1), .val (.long q2), .second, .val (.int x3), .val (.int x4), .val (.int x5), .val (.int x6), .val (.int c2), .val (.int i1), .val (.int j1), .val (.int k1), .val (.ref b163), .val (.ref b171), .val (.long wa), .second, .val (.int (1 : Int32)), .unset, .unset, .unset] [(.long (x6.toInt64))])) (fun tt_ kk_ => XS.icmpNo X202.here hx rfl (hb hby at_142) rfl (feq (fJ : ¬ (j1 = k1))).1 kk_) ?_
        refine Wp.st (S' := T202.setTop (mkF m 147 #[.val (.int x1), .val (.long q2), .second, .val (.int x3), .val (.int x4), .val (.int x5), .val (.int x6), .val (.int c2), .val (.int i1), .val (.int j1), .val (.int k1), .val (.ref b163), .val (.ref b171), .val (.long wa), .second, .val (.int (1 : Int32)), .unset, .unset, .unset] [(.int x5), (.long (x6.toInt64))])) (fun tt_ kk_ => XS.iload X202.here hx rfl (hb hby at_145) rfl  kk_) ?_
        refine Wp.st (S' := T202.setTop (mkF m 148 #[.val (.int x1), .val (.long q2), .second, .val (.int x3), .val (.int x4), .val (.int x5), .val (.int x6), .val (.int c2), .val (.int i1), .val (.int j1), .val (.int k1), .val (.ref b163), .val (.ref b171), .val (.long wa), .second, .val (.int (1 : Int32)), .unset, .unset, .unset] [(.long (x5.toInt64)), (.long (x6.toInt64))])) (fun tt_ kk_ => XS.i2l X202.here hx rfl (hb hby at_147) rfl kk_) ?_
        refine Wp.st (S' := T202.setTop (mkF m 152 #[.val (.int x1), .val (.long q2), .second, .val (.int x3), .val (.int x4), .val (.int x5), .val (.int x6), .val (.int c2), .val (.int i1), .val (.int j1), .val (.int k1), .val (.ref b163), .val (.ref b171), .val (.long wa), .second, .val (.int (1 : Int32)), .unset, .unset, .unset] [(.long (x5.toInt64)), (.long (x6.toInt64))])) (fun tt_ kk_ => XS.goto X202.here hx rfl (pc0 := 148) (pc' := 152) rfl (hb hby at_148) (by decide) (by decide) kk_) ?_
        refine Wp.st (S' := T202.setTop (mkF m 153 #[.val (.int x1), .val (.long q2), .second, .val (.int x3), .val (.int x4), .val (.int x5), .val (.int x6), .val (.int c2), .val (.int i1), .val (.int j1), .val (.int k1), .val (.ref b163), .val (.ref b171), .val (.long wa), .second, .val (.int (1 : Int32)), .unset, .unset, .unset] [(.long ((x6.toInt64) + (x5.toInt64)))])) (fun tt_ kk_ => XS.ladd X202.here hx rfl (hb hby at_152) rfl kk_) ?_
        refine Wp.st (S' := T202.setTop (mkF m 155 #[.val (.int x1), .val (.long q2), .second, .val (.int x3), .val (.int x4), .val (.int x5), .val (.int x6), .val (.int c2), .val (.int i1), .val (.int j1), .val (.int k1), .val (.ref b163), .val (.ref b171), .val (.long wa), .second, .val (.int (1 : Int32)), .unset, .unset, .unset] [(.int i1), (.long ((x6.toInt64) + (x5.toInt64)))])) (fun tt_ kk_ => XS.iload X202.here hx rfl (hb hby at_153) rfl  kk_) ?_
        refine Wp.st (S' := T202.setTop (mkF m 157 #[.val (.int x1), .val (.long q2), .second, .val (.int x3), .val (.int x4), .val (.int x5), .val (.int x6), .val (.int c2), .val (.int i1), .val (.int j1), .val (.int k1), .val (.ref b163), .val (.ref b171), .val (.long wa), .second, .val (.int (1 : Int32)), .unset, .unset, .unset] [(.int j1), (.int i1), (.long ((x6.toInt64) + (x5.toInt64)))])) (fun tt_ kk_ => XS.iload X202.here hx rfl (hb hby at_155) rfl  kk_) ?_
        by_cases fI : i1 = j1
        case pos =>
          refine Wp.st (S' := T202.setTop (mkF m 173 #[.val (.int x1), .val (.long q2), .second, .val (.int x3), .val (.int x4), .val (.int x5), .val (.int x6), .val (.int c2), .val (.int i1), .val (.int j1), .val (.int k1), .val (.ref b163), .val (.ref b171), .val (.long wa), .second, .val (.int (1 : Int32)), .unset, .unset, .unset] [(.long ((x6.toInt64) + (x5.toInt64)))])) (fun tt_ kk_ => XS.icmpYes X202.here hx rfl (pc0 := 157) (pc' := 173) rfl (hb hby at_157) rfl (teq (fI : i1 = j1)).1 (by decide) (by decide) kk_) ?_
          refine Wp.st (S' := T202.setTop (mkF m 174 #[.val (.int x1), .val (.long q2), .second, .val (.int x3), .val (.int x4), .val (.int x5), .val (.int x6), .val (.int c2), .val (.int i1), .val (.int j1), .val (.int k1), .val (.ref b163), .val (.ref b171), .val (.long wa), .second, .val (.int (1 : Int32)), .unset, .unset, .unset] [(.long (0 : Int64)), (.long ((x6.toInt64) + (x5.toInt64)))])) (fun tt_ kk_ => XS.lconst X202.here hx rfl (hb hby at_173) kk_) ?_
          refine Wp.st (S' := T202.setTop (mkF m 175 #[.val (.int x1), .val (.long q2), .second, .val (.int x3), .val (.int x4), .val (.int x5), .val (.int x6), .val (.int c2), .val (.int i1), .val (.int j1), .val (.int k1), .val (.ref b163), .val (.ref b171), .val (.long wa), .second, .val (.int (1 : Int32)), .unset, .unset, .unset] [(.long (((x6.toInt64) + (x5.toInt64)) + (0 : Int64)))])) (fun tt_ kk_ => XS.ladd X202.here hx rfl (hb hby at_174) rfl kk_) ?_
          have ew : (((x6.toInt64) + (x5.toInt64)) + (0 : Int64)).toInt = x6.toInt + (if j1 = k1 then 0 else x5.toInt) + (if i1 = j1 then 0 else if i1 = k1 then 0 else x4.toInt) := by
            rw [if_neg fJ, if_pos fI]
            have e0 : (0 : Int64).toInt = 0 := by decide
            have c4 := c_i2l x4; have c5 := c_i2l x5; have c6 := c_i2l x6
            have a1 := c_ladd x6.toInt64 x5.toInt64; have b1 := rng64 (x6.toInt64 + x5.toInt64)
            have a2 := c_ladd (x6.toInt64 + x5.toInt64) (0 : Int64); have b2 := rng64 (x6.toInt64 + x5.toInt64 + (0 : Int64))
            omega
          exact J206 _ _ (((x6.toInt64) + (x5.toInt64)) + (0 : Int64)) N202 X202 e202 ew
        case neg =>
          refine Wp.st (S' := T202.setTop (mkF m 160 #[.val (.int x1), .val (.long q2), .second, .val (.int x3), .val (.int x4), .val (.int x5), .val (.int x6), .val (.int c2), .val (.int i1), .val (.int j1), .val (.int k1), .val (.ref b163), .val (.ref b171), .val (.long wa), .second, .val (.int (1 : Int32)), .unset, .unset, .unset] [(.long ((x6.toInt64) + (x5.toInt64)))])) (fun tt_ kk_ => XS.icmpNo X202.here hx rfl (hb hby at_157) rfl (feq (fI : ¬ (i1 = j1))).1 kk_) ?_
          refine Wp.st (S' := T202.setTop (mkF m 162 #[.val (.int x1), .val (.long q2), .second, .val (.int x3), .val (.int x4), .val (.int x5), .val (.int x6), .val (.int c2), .val (.int i1), .val (.int j1), .val (.int k1), .val (.ref b163), .val (.ref b171), .val (.long wa), .second, .val (.int (1 : Int32)), .unset, .unset, .unset] [(.int i1), (.long ((x6.toInt64) + (x5.toInt64)))])) (fun tt_ kk_ => XS.iload X202.here hx rfl (hb hby at_160) rfl  kk_) ?_
          refine Wp.st (S' := T202.setTop (mkF m 164 #[.val (.int x1), .val (.long q2), .second, .val (.int x3), .val (.int x4), .val (.int x5), .val (.int x6), .val (.int c2), .val (.int i1), .val (.int j1), .val (.int k1), .val (.ref b163), .val (.ref b171), .val (.long wa), .second, .val (.int (1 : Int32)), .unset, .unset, .unset] [(.int k1), (.int i1), (.long ((x6.toInt64) + (x5.toInt64)))])) (fun tt_ kk_ => XS.iload X202.here hx rfl (hb hby at_162) rfl  kk_) ?_
          by_cases fK : i1 = k1
          case pos =>
            refine Wp.st (S' := T202.setTop (mkF m 173 #[.val (.int x1), .val (.long q2), .second, .val (.int x3), .val (.int x4), .val (.int x5), .val (.int x6), .val (.int c2), .val (.int i1), .val (.int j1), .val (.int k1), .val (.ref b163), .val (.ref b171), .val (.long wa), .second, .val (.int (1 : Int32)), .unset, .unset, .unset] [(.long ((x6.toInt64) + (x5.toInt64)))])) (fun tt_ kk_ => XS.icmpYes X202.here hx rfl (pc0 := 164) (pc' := 173) rfl (hb hby at_164) rfl (teq (fK : i1 = k1)).1 (by decide) (by decide) kk_) ?_
            refine Wp.st (S' := T202.setTop (mkF m 174 #[.val (.int x1), .val (.long q2), .second, .val (.int x3), .val (.int x4), .val (.int x5), .val (.int x6), .val (.int c2), .val (.int i1), .val (.int j1), .val (.int k1), .val (.ref b163), .val (.ref b171), .val (.long wa), .second, .val (.int (1 : Int32)), .unset, .unset, .unset] [(.long (0 : Int64)), (.long ((x6.toInt64) + (x5.toInt64)))])) (fun tt_ kk_ => XS.lconst X202.here hx rfl (hb hby at_173) kk_) ?_
            refine Wp.st (S' := T202.setTop (mkF m 175 #[.val (.int x1), .val (.long q2), .second, .val (.int x3), .val (.int x4), .val (.int x5), .val (.int x6), .val (.int c2), .val (.int i1), .val (.int j1), .val (.int k1), .val (.ref b163), .val (.ref b171), .val (.long wa), .second, .val (.int (1 : Int32)), .unset, .unset, .unset] [(.long (((x6.toInt64) + (x5.toInt64)) + (0 : Int64)))])) (fun tt_ kk_ => XS.ladd X202.here hx rfl (hb hby at_174) rfl kk_) ?_
            have ew : (((x6.toInt64) + (x5.toInt64)) + (0 : Int64)).toInt = x6.toInt + (if j1 = k1 then 0 else x5.toInt) + (if i1 = j1 then 0 else if i1 = k1 then 0 else x4.toInt) := by
              rw [if_neg fJ, if_neg fI, if_pos fK]
              have e0 : (0 : Int64).toInt = 0 := by decide
              have c4 := c_i2l x4; have c5 := c_i2l x5; have c6 := c_i2l x6
              have a1 := c_ladd x6.toInt64 x5.toInt64; have b1 := rng64 (x6.toInt64 + x5.toInt64)
              have a2 := c_ladd (x6.toInt64 + x5.toInt64) (0 : Int64); have b2 := rng64 (x6.toInt64 + x5.toInt64 + (0 : Int64))
              omega
            exact J206 _ _ (((x6.toInt64) + (x5.toInt64)) + (0 : Int64)) N202 X202 e202 ew
          case neg =>
            refine Wp.st (S' := T202.setTop (mkF m 167 #[.val (.int x1), .val (.long q2), .second, .val (.int x3), .val (.int x4), .val (.int x5), .val (.int x6), .val (.int c2), .val (.int i1), .val (.int j1), .val (.int k1), .val (.ref b163), .val (.ref b171), .val (.long wa), .second, .val (.int (1 : Int32)), .unset, .unset, .unset] [(.long ((x6.toInt64) + (x5.toInt64)))])) (fun tt_ kk_ => XS.icmpNo X202.here hx rfl (hb hby at_164) rfl (feq (fK : ¬ (i1 = k1))).1 kk_) ?_
            refine Wp.st (S' := T202.setTop (mkF m 169 #[.val (.int x1), .val (.long q2), .second, .val (.int x3), .val (.int x4), .val (.int x5), .val (.int x6), .val (.int c2), .val (.int i1), .val (.int j1), .val (.int k1), .val (.ref b163), .val (.ref b171), .val (.long wa), .second, .val (.int (1 : Int32)), .unset, .unset, .unset] [(.int x4), (.long ((x6.toInt64) + (x5.toInt64)))])) (fun tt_ kk_ => XS.iload X202.here hx rfl (hb hby at_167) rfl  kk_) ?_
            refine Wp.st (S' := T202.setTop (mkF m 170 #[.val (.int x1), .val (.long q2), .second, .val (.int x3), .val (.int x4), .val (.int x5), .val (.int x6), .val (.int c2), .val (.int i1), .val (.int j1), .val (.int k1), .val (.ref b163), .val (.ref b171), .val (.long wa), .second, .val (.int (1 : Int32)), .unset, .unset, .unset] [(.long (x4.toInt64)), (.long ((x6.toInt64) + (x5.toInt64)))])) (fun tt_ kk_ => XS.i2l X202.here hx rfl (hb hby at_169) rfl kk_) ?_
            refine Wp.st (S' := T202.setTop (mkF m 174 #[.val (.int x1), .val (.long q2), .second, .val (.int x3), .val (.int x4), .val (.int x5), .val (.int x6), .val (.int c2), .val (.int i1), .val (.int j1), .val (.int k1), .val (.ref b163), .val (.ref b171), .val (.long wa), .second, .val (.int (1 : Int32)), .unset, .unset, .unset] [(.long (x4.toInt64)), (.long ((x6.toInt64) + (x5.toInt64)))])) (fun tt_ kk_ => XS.goto X202.here hx rfl (pc0 := 170) (pc' := 174) rfl (hb hby at_170) (by decide) (by decide) kk_) ?_
            refine Wp.st (S' := T202.setTop (mkF m 175 #[.val (.int x1), .val (.long q2), .second, .val (.int x3), .val (.int x4), .val (.int x5), .val (.int x6), .val (.int c2), .val (.int i1), .val (.int j1), .val (.int k1), .val (.ref b163), .val (.ref b171), .val (.long wa), .second, .val (.int (1 : Int32)), .unset, .unset, .unset] [(.long (((x6.toInt64) + (x5.toInt64)) + (x4.toInt64)))])) (fun tt_ kk_ => XS.ladd X202.here hx rfl (hb hby at_174) rfl kk_) ?_
            have ew : (((x6.toInt64) + (x5.toInt64)) + (x4.toInt64)).toInt = x6.toInt + (if j1 = k1 then 0 else x5.toInt) + (if i1 = j1 then 0 else if i1 = k1 then 0 else x4.toInt) := by
              rw [if_neg fJ, if_neg fI, if_neg fK]
              have e0 : (0 : Int64).toInt = 0 := by decide
              have c4 := c_i2l x4; have c5 := c_i2l x5; have c6 := c_i2l x6
              have a1 := c_ladd x6.toInt64 x5.toInt64; have b1 := rng64 (x6.toInt64 + x5.toInt64)
              have a2 := c_ladd (x6.toInt64 + x5.toInt64) x4.toInt64; have b2 := rng64 (x6.toInt64 + x5.toInt64 + x4.toInt64)
              omega
            exact J206 _ _ (((x6.toInt64) + (x5.toInt64)) + (x4.toInt64)) N202 X202 e202 ew
    refine Wp.st (S' := T194.setTop (mkF m 89 #[.val (.int x1), .val (.long q2), .second, .val (.int x3), .val (.int x4), .val (.int x5), .val (.int x6), .val (.int c2), .val (.int i1), .val (.int j1), .val (.int k1), .val (.ref b163), .val (.ref b171), .unset, .unset, .unset, .unset, .unset, .unset] [(.long (x5.toInt64))])) (fun tt_ kk_ => XS.i2l X194.here hx rfl (hb hby at_88) rfl kk_) ?_
    refine Wp.st (S' := T194.setTop (mkF m 91 #[.val (.int x1), .val (.long q2), .second, .val (.int x3), .val (.int x4), .val (.int x5), .val (.int x6), .val (.int c2), .val (.int i1), .val (.int j1), .val (.int k1), .val (.ref b163), .val (.ref b171), .unset, .unset, .unset, .unset, .unset, .unset] [(.int i1), (.long (x5.toInt64))])) (fun tt_ kk_ => XS.iload X194.here hx rfl (hb hby at_89) rfl  kk_) ?_
    refine Wp.st (S' := T194.setTop (mkF m 93 #[.val (.int x1), .val (.long q2), .second, .val (.int x3), .val (.int x4), .val (.int x5), .val (.int x6), .val (.int c2), .val (.int i1), .val (.int j1), .val (.int k1), .val (.ref b163), .val (.ref b171), .unset, .unset, .unset, .unset, .unset, .unset] [(.int j1), (.int i1), (.long (x5.toInt64))])) (fun tt_ kk_ => XS.iload X194.here hx rfl (hb hby at_91) rfl  kk_) ?_
    by_cases fE : i1 = j1
    case pos =>
      refine Wp.st (S' := T194.setTop (mkF m 102 #[.val (.int x1), .val (.long q2), .second, .val (.int x3), .val (.int x4), .val (.int x5), .val (.int x6), .val (.int c2), .val (.int i1), .val (.int j1), .val (.int k1), .val (.ref b163), .val (.ref b171), .unset, .unset, .unset, .unset, .unset, .unset] [(.long (x5.toInt64))])) (fun tt_ kk_ => XS.icmpYes X194.here hx rfl (pc0 := 93) (pc' := 102) rfl (hb hby at_93) rfl (teq (fE : i1 = j1)).1 (by decide) (by decide) kk_) ?_
      refine Wp.st (S' := T194.setTop (mkF m 103 #[.val (.int x1), .val (.long q2), .second, .val (.int x3), .val (.int x4), .val (.int x5), .val (.int x6), .val (.int c2), .val (.int i1), .val (.int j1), .val (.int k1), .val (.ref b163), .val (.ref b171), .unset, .unset, .unset, .unset, .unset, .unset] [(.long (0 : Int64)), (.long (x5.toInt64))])) (fun tt_ kk_ => XS.lconst X194.here hx rfl (hb hby at_102) kk_) ?_
      refine Wp.st (S' := T194.setTop (mkF m 104 #[.val (.int x1), .val (.long q2), .second, .val (.int x3), .val (.int x4), .val (.int x5), .val (.int x6), .val (.int c2), .val (.int i1), .val (.int j1), .val (.int k1), .val (.ref b163), .val (.ref b171), .unset, .unset, .unset, .unset, .unset, .unset] [(.long ((x5.toInt64) + (0 : Int64)))])) (fun tt_ kk_ => XS.ladd X194.here hx rfl (hb hby at_103) rfl kk_) ?_
      have ew : ((x5.toInt64) + (0 : Int64)).toInt = x5.toInt + (if i1 = j1 then 0 else x4.toInt) := by
        rw [if_pos fE]
        have e0 : (0 : Int64).toInt = 0 := by decide
        have c4 := c_i2l x4; have c5 := c_i2l x5
        have a1 := c_ladd x5.toInt64 (0 : Int64); have b1 := rng64 (x5.toInt64 + (0 : Int64))
        omega
      exact J196 _ _ ((x5.toInt64) + (0 : Int64)) Nf194 X194 e194 ew
    case neg =>
      refine Wp.st (S' := T194.setTop (mkF m 96 #[.val (.int x1), .val (.long q2), .second, .val (.int x3), .val (.int x4), .val (.int x5), .val (.int x6), .val (.int c2), .val (.int i1), .val (.int j1), .val (.int k1), .val (.ref b163), .val (.ref b171), .unset, .unset, .unset, .unset, .unset, .unset] [(.long (x5.toInt64))])) (fun tt_ kk_ => XS.icmpNo X194.here hx rfl (hb hby at_93) rfl (feq (fE : ¬ (i1 = j1))).1 kk_) ?_
      refine Wp.st (S' := T194.setTop (mkF m 98 #[.val (.int x1), .val (.long q2), .second, .val (.int x3), .val (.int x4), .val (.int x5), .val (.int x6), .val (.int c2), .val (.int i1), .val (.int j1), .val (.int k1), .val (.ref b163), .val (.ref b171), .unset, .unset, .unset, .unset, .unset, .unset] [(.int x4), (.long (x5.toInt64))])) (fun tt_ kk_ => XS.iload X194.here hx rfl (hb hby at_96) rfl  kk_) ?_
      refine Wp.st (S' := T194.setTop (mkF m 99 #[.val (.int x1), .val (.long q2), .second, .val (.int x3), .val (.int x4), .val (.int x5), .val (.int x6), .val (.int c2), .val (.int i1), .val (.int j1), .val (.int k1), .val (.ref b163), .val (.ref b171), .unset, .unset, .unset, .unset, .unset, .unset] [(.long (x4.toInt64)), (.long (x5.toInt64))])) (fun tt_ kk_ => XS.i2l X194.here hx rfl (hb hby at_98) rfl kk_) ?_
      refine Wp.st (S' := T194.setTop (mkF m 103 #[.val (.int x1), .val (.long q2), .second, .val (.int x3), .val (.int x4), .val (.int x5), .val (.int x6), .val (.int c2), .val (.int i1), .val (.int j1), .val (.int k1), .val (.ref b163), .val (.ref b171), .unset, .unset, .unset, .unset, .unset, .unset] [(.long (x4.toInt64)), (.long (x5.toInt64))])) (fun tt_ kk_ => XS.goto X194.here hx rfl (pc0 := 99) (pc' := 103) rfl (hb hby at_99) (by decide) (by decide) kk_) ?_
      refine Wp.st (S' := T194.setTop (mkF m 104 #[.val (.int x1), .val (.long q2), .second, .val (.int x3), .val (.int x4), .val (.int x5), .val (.int x6), .val (.int c2), .val (.int i1), .val (.int j1), .val (.int k1), .val (.ref b163), .val (.ref b171), .unset, .unset, .unset, .unset, .unset, .unset] [(.long ((x5.toInt64) + (x4.toInt64)))])) (fun tt_ kk_ => XS.ladd X194.here hx rfl (hb hby at_103) rfl kk_) ?_
      have ew : ((x5.toInt64) + (x4.toInt64)).toInt = x5.toInt + (if i1 = j1 then 0 else x4.toInt) := by
        rw [if_neg fE]
        have e0 : (0 : Int64).toInt = 0 := by decide
        have c4 := c_i2l x4; have c5 := c_i2l x5
        have a1 := c_ladd x5.toInt64 x4.toInt64; have b1 := rng64 (x5.toInt64 + x4.toInt64)
        omega
      exact J196 _ _ ((x5.toInt64) + (x4.toInt64)) Nf194 X194 e194 ew
set_option maxRecDepth 65536 in
set_option maxHeartbeats 40000000 in
theorem comes_1 {Post : Tables → Env → Array Value → State → Outcome → State → Prop} (hpost : ∀ tb e args s v u, (limb_1_1.after args s (.returned v) u = true ∧ limb_1_2.after args s (.returned v) u = true ∧ True) → FrameEnd s (.returned v) u (Jvm.fieldLocs frame_1_writes args s ++ Jvm.arrayLocs frame_1_arrays args s ++ Jvm.staticLocs frame_1_statics s) 24 640 → Post tb e args s (.returned v) u) :
    ArmFor flags0 classFile x code maxLocals ret World_1 tables_1 room_1 Calls_1 rest_1 Pre_1 Post := by
  intro l hfl _ _ p e ha hc hk s m args below hf hA hF happ hP
  obtain ⟨hcalls, hrest, hpre⟩ := hP
  obtain ⟨-, -, -, hnamed, -, -, -, hat⟩ := (Spec.applies_iff hf).mp happ
  obtain ⟨hg, hn⟩ := and_e (Cond.before_iff.mp (show (Jvm.Cond.and given_1 narrow_1).before args s = true from hpre))
  obtain ⟨q1, q2⟩ := and_e hg
  obtain ⟨w0, w1, w2, w3, w4, w5, rfl⟩ : ∃ w0 w1 w2 w3 w4 w5 : Value, args = #[w0, w1, w2, w3, w4, w5] := by
    have hs : args.size = 6 := by simpa [Cond.value, given_1] using q1
    obtain ⟨L⟩ := args
    match L, hs with
    | [w0, w1, w2, w3, w4, w5], _ => exact ⟨w0, w1, w2, w3, w4, w5, rfl⟩
  obtain ⟨q3, q4⟩ := and_e q2
  obtain ⟨q5, q6⟩ := and_e q4
  obtain ⟨q7, q8⟩ := and_e q6
  obtain ⟨q9, q10⟩ := and_e q8
  obtain ⟨q11, q12⟩ := and_e q10
  have hw := fun d (hd : d ∈ tables_1) => atoms_spec (ws := Jvm.Cond.code x code maxLocals ret :: tables_1) hat d (List.mem_cons_of_mem _ hd)
  have hfit : Fit s := fun {y c} hc i hi => by
    obtain ⟨ha, rfl⟩ := Array.getElem?_eq_some_iff.mp hc
    have q := List.all_eq_true.mp ((Array.all_eq_true_iff_forall_mem.mp hF) _ (Array.getElem_mem ha)) i (List.mem_range.mpr hi)
    simpa [Array.getElem?_eq_getElem hi] using q
  obtain ⟨i0, ei0⟩ := is_v q3
  obtain rfl : w0 = (.int i0) := Option.some.inj ei0
  obtain ⟨i1, ei1⟩ := isL_v q5
  obtain rfl : w1 = (.long i1) := Option.some.inj ei1
  obtain ⟨i2, ei2⟩ := is_v q7
  obtain rfl : w2 = (.int i2) := Option.some.inj ei2
  obtain ⟨i3, ei3⟩ := is_v q9
  obtain rfl : w3 = (.int i3) := Option.some.inj ei3
  obtain ⟨i4, ei4⟩ := is_v q11
  obtain rfl : w4 = (.int i4) := Option.some.inj ei4
  obtain ⟨i5, ei5⟩ := is_v q12
  obtain rfl : w5 = (.int i5) := Option.some.inj ei5
  obtain ⟨n, o, h1, h2, h3, _, L, rfl, ⟨rfl, N, -⟩, hq⟩ := rm0 l s _ hw tables_1 i0 i1 i2 i3 i4 i5 s.heap s.heap.size (Nat.le_refl _) (Old.start s)  p e ha hc hk s m _ below hf ((Spec.applies_iff_loose hf).mp happ).1 ⟨rfl, State.Warmed39.refl s, rfl⟩ trivial
  refine ⟨n, _, h1, h2, h3, hpost _ _ _ _ _ _ ⟨Cond.after_iff.mpr rfl, Cond.after_iff.mpr (eq_i res_at (Term.int_eval (1)) rfl), trivial⟩ ⟨hq.1, hq.2.1, (hq.2.2.sift fun y hy => Or.inr (N y hy)).mono (by decide) (by decide)⟩⟩
theorem main_1_1 : Claimed_1_1 := comes_1 fun _ _ _ _ _ _ h hF => ⟨h.1, hF⟩
theorem main_1_2 : Claimed_1_2 := comes_1 fun _ _ _ _ _ _ h hF => ⟨h.2.1, hF⟩
end Jvm.Pilot.@@N@@
namespace Jvm.Pilot.@@N@@
open Jvm Jvm.ClassFile Sem Op Lib Jvm.Free Jvm.Stand Jvm.Pilot.@@N@@.Jvm.D
/-! MADE BY PROGRAM (witnessworld.py) out of the Statement's table words and the real class files: 13 classes; the members and pool entries that the words name. The judged class is class 1, her method 1. -/
namespace start1
open Jvm.ClassFile
def u (s : String) : CpInfo := .utf8 (stringToUtf16 s)
/-- a pool by its gaps: so many unusable entries, then the entry; so many at the end -/
def gap : Nat → List CpInfo → List CpInfo
  | 0, r => r
  | n + 1, r => .unusable :: gap n r
def poolList (es : List (Nat × CpInfo)) (last : Nat) : List CpInfo := es.foldr (fun e r => gap e.1 (e.2 :: r)) (gap last [])
def pool (es : List (Nat × CpInfo)) (last : Nat) : Array CpInfo := ⟨poolList es last⟩
def fileOf (pool : Array CpInfo) (this : Nat) (attrs : Array Attribute := #[]) (ms : Array MethodInfo := #[]) (fl : Nat := 33) (sup : Nat := 0) (ifs : Array Nat := #[]) (fds : Array FieldInfo := #[]) : ClassFile where
  minorVersion := 0
  majorVersion := 65
  constantPool := pool
  accessFlags := fl
  thisClass := this
  superClass := sup
  interfaces := ifs
  fields := fds
  methods := ms
  attributes := attrs
def plain (name : String) (sup : Option ClassId) : Class where
  name := name
  kind := .ordinary
  loader := none
  accessFlags := 33
  super := sup
  interfaces := #[]
  cf := none
  fields := #[]
  methods := #[]
  instanceTypes := #[]
  staticTypes := #[]
  resolved := #[]
  callSites := []
  init := .initialized
  statics := none
  mirror := none

def pool0 : Array CpInfo := pool [(5, u "<init>"), (0, u "()V"), (1, .class_ 10), (1, u "java/lang/Object"), (85, u "clone"), (0, u "()Ljava/lang/Object;")] 26

def k0c0 : Code := { maxStack := 0, maxLocals := 1, code := object_method_1_code, exceptionTable := #[], attributes := #[] }
def k0m0 : Method := { name := "<init>", desc := "()V", sig := { parameters := [], returnType := none }, accessFlags := 1, code := some k0c0 }
def k0m1 : Method := { name := "clone", desc := "()Ljava/lang/Object;", sig := { parameters := [], returnType := some (.object "java/lang/Object") }, accessFlags := 260, code := none }
/-- java/lang/Object -/
def k0 : Class := { plain "java/lang/Object" none with
  accessFlags := 33
  interfaces := #[]
  cf := some (fileOf pool0 8 #[] #[{ accessFlags := 1, nameIndex := 5, descriptorIndex := 6, attributes := #[] }, { accessFlags := 260, nameIndex := 96, descriptorIndex := 97, attributes := #[] }] 33 0 #[] #[])
  fields := #[]
  methods := #[k0m0, k0m1]
  instanceTypes := #[]
  staticTypes := #[]
  resolved := Array.replicate 124 none
  statics := none }

def pool1 : Array CpInfo := pool [(2, .class_ 4), (1, u "java/lang/Object"), (0, u "<init>"), (0, u "()V"), (0, .methodref 8 9), (0, .class_ 10), (0, .nameAndType 11 12), (0, u "com/example/dags_over_clouds/dagsoverclouds/plan/TallySumPinLaw"), (0, u "size"), (0, u "(I)I"), (0, .long 2147483647), (1, .integer 2147483647), (0, .class_ 17), (0, u "com/example/dags_over_clouds/dagsoverclouds/plan/Tally"), (0, .methodref 16 19), (0, .nameAndType 5 20), (0, u "([D)V"), (0, .methodref 16 22), (0, .nameAndType 23 24), (0, u "sum"), (0, u "()D"), (0, .methodref 16 26), (0, .nameAndType 27 28), (0, u "set"), (0, u "(ID)V"), (2, u "law"), (0, u "(IJIIII)Z")] 5

def k1m0 : Method := { name := "<init>", desc := "()V", sig := { parameters := [], returnType := none }, accessFlags := 1, code := none }
def k1c1 : Code := { maxStack := 4, maxLocals := 19, code := code, exceptionTable := #[], attributes := #[] }
def k1m1 : Method := { name := "law", desc := "(IJIIII)Z", sig := { parameters := [.int, .long, .int, .int, .int, .int], returnType := some .boolean }, accessFlags := 9, code := some k1c1 }
def k1c2 : Code := { maxStack := 2, maxLocals := 1, code := method_3_code, exceptionTable := #[], attributes := #[] }
def k1m2 : Method := { name := "size", desc := "(I)I", sig := { parameters := [.int], returnType := some .int }, accessFlags := 10, code := some k1c2 }
/-- com/example/dags_over_clouds/dagsoverclouds/plan/TallySumPinLaw -/
def k1 : Class := { plain "com/example/dags_over_clouds/dagsoverclouds/plan/TallySumPinLaw" (some 0) with
  accessFlags := 49
  interfaces := #[]
  cf := some (fileOf pool1 8 #[] #[{ accessFlags := 1, nameIndex := 5, descriptorIndex := 6, attributes := #[] }, { accessFlags := 9, nameIndex := 31, descriptorIndex := 32, attributes := #[] }, { accessFlags := 10, nameIndex := 11, descriptorIndex := 12, attributes := #[] }] 49 2 #[] #[])
  fields := #[]
  methods := #[k1m0, k1m1, k1m2]
  instanceTypes := #[]
  staticTypes := #[]
  resolved := Array.replicate 38 none
  statics := none }

def pool2 : Array CpInfo := pool [(1, .methodref 2 3), (0, .class_ 4), (0, .nameAndType 5 6), (0, u "java/lang/Object"), (0, u "<init>"), (0, u "()V"), (0, .methodref 8 9), (0, .class_ 10), (0, .nameAndType 11 12), (0, u "com/example/dags_over_clouds/dagsoverclouds/plan/Tally"), (0, u "runs"), (0, u "(I)I"), (0, .methodref 14 15), (0, .class_ 16), (0, .nameAndType 17 18), (0, u "java/lang/Math"), (0, u "max"), (0, u "(II)I"), (0, .class_ 20), (0, u "[D"), (0, .fieldref 8 22), (0, .nameAndType 23 24), (0, u "levels"), (0, u "[[D"), (0, .methodref 19 26), (0, .nameAndType 27 28), (0, u "clone"), (0, u "()Ljava/lang/Object;"), (0, .methodref 8 30), (0, .nameAndType 31 32), (0, u "addUp"), (0, u "(II)V"), (29, .methodref 14 63), (0, .nameAndType 64 18), (0, u "min"), (0, u "RUN"), (0, u "I"), (2, u "([D)V"), (3, u "sum"), (0, u "()D"), (0, u "set"), (0, u "(ID)V")] 5

def k2c0 : Code := { maxStack := 5, maxLocals := 5, code := prog_71_method_1_code, exceptionTable := #[], attributes := #[] }
def k2m0 : Method := { name := "<init>", desc := "([D)V", sig := { parameters := [(.array .double)], returnType := none }, accessFlags := 0, code := some k2c0 }
def k2c1 : Code := { maxStack := 3, maxLocals := 1, code := prog_71_method_2_code, exceptionTable := #[], attributes := #[] }
def k2m1 : Method := { name := "sum", desc := "()D", sig := { parameters := [], returnType := some .double }, accessFlags := 0, code := some k2c1 }
def k2c2 : Code := { maxStack := 4, maxLocals := 6, code := prog_71_method_3_code, exceptionTable := #[], attributes := #[] }
def k2m2 : Method := { name := "set", desc := "(ID)V", sig := { parameters := [.int, .double], returnType := none }, accessFlags := 0, code := some k2c2 }
def k2c3 : Code := { maxStack := 4, maxLocals := 9, code := prog_71_method_5_code, exceptionTable := #[], attributes := #[] }
def k2m3 : Method := { name := "addUp", desc := "(II)V", sig := { parameters := [.int, .int], returnType := none }, accessFlags := 2, code := some k2c3 }
def k2c4 : Code := { maxStack := 2, maxLocals := 1, code := prog_71_method_6_code, exceptionTable := #[], attributes := #[] }
def k2m4 : Method := { name := "runs", desc := "(I)I", sig := { parameters := [.int], returnType := some .int }, accessFlags := 10, code := some k2c4 }
/-- com/example/dags_over_clouds/dagsoverclouds/plan/Tally -/
def k2 : Class := { plain "com/example/dags_over_clouds/dagsoverclouds/plan/Tally" (some 0) with
  accessFlags := 48
  interfaces := #[]
  cf := some (fileOf pool2 8 #[] #[{ accessFlags := 0, nameIndex := 5, descriptorIndex := 69, attributes := #[] }, { accessFlags := 0, nameIndex := 73, descriptorIndex := 74, attributes := #[] }, { accessFlags := 0, nameIndex := 75, descriptorIndex := 76, attributes := #[] }, { accessFlags := 2, nameIndex := 31, descriptorIndex := 32, attributes := #[] }, { accessFlags := 10, nameIndex := 11, descriptorIndex := 12, attributes := #[] }] 48 2 #[] #[{ accessFlags := 26, nameIndex := 65, descriptorIndex := 66, attributes := #[] }, { accessFlags := 18, nameIndex := 23, descriptorIndex := 24, attributes := #[] }])
  fields := #[{ name := "RUN", type := .int, accessFlags := 26, slot := 0, constantValue := 0 }, { name := "levels", type := (.array (.array .double)), accessFlags := 18, slot := 0, constantValue := 0 }]
  methods := #[k2m0, k2m1, k2m2, k2m3, k2m4]
  instanceTypes := #[(.array (.array .double))]
  staticTypes := #[.int]
  resolved := Array.replicate 82 none
  statics := none }

def pool3 : Array CpInfo := pool [(1, .class_ 2), (0, u "java/lang/Math"), (1, .class_ 6), (1, u "java/lang/Object"), (0, u "<init>"), (0, u "()V"), (89, .class_ 100), (1, u "java/lang/Math$RandomNumberGeneratorHolder"), (71, u "negativeZeroFloatBits"), (0, u "J"), (2, u "negativeZeroDoubleBits"), (21, u "max"), (2, u "min"), (43, u "$assertionsDisabled"), (0, u "Z"), (88, u "(II)I"), (2, u "twoToTheDoubleScaleDown"), (0, u "D"), (4, u "twoToTheDoubleScaleUp"), (9, u "E"), (3, u "PI"), (2, u "TAU"), (2, u "DEGREES_TO_RADIANS"), (0, u "RADIANS_TO_DEGREES")] 94

def k3m0 : Method := { name := "<init>", desc := "()V", sig := { parameters := [], returnType := none }, accessFlags := 2, code := none }
def k3c1 : Code := { maxStack := 2, maxLocals := 2, code := jdk_29_method_65_code, exceptionTable := #[], attributes := #[] }
def k3m1 : Method := { name := "max", desc := "(II)I", sig := { parameters := [.int, .int], returnType := some .int }, accessFlags := 9, code := some k3c1 }
def k3c2 : Code := { maxStack := 2, maxLocals := 2, code := jdk_29_method_69_code, exceptionTable := #[], attributes := #[] }
def k3m2 : Method := { name := "min", desc := "(II)I", sig := { parameters := [.int, .int], returnType := some .int }, accessFlags := 9, code := some k3c2 }
/-- java/lang/Math -/
def k3 : Class := { plain "java/lang/Math" (some 0) with
  accessFlags := 49
  interfaces := #[]
  cf := some (fileOf pool3 1 #[.nestMembers #[98]] #[{ accessFlags := 2, nameIndex := 7, descriptorIndex := 8, attributes := #[] }, { accessFlags := 9, nameIndex := 198, descriptorIndex := 335, attributes := #[] }, { accessFlags := 9, nameIndex := 201, descriptorIndex := 335, attributes := #[] }] 49 4 #[] #[{ accessFlags := 25, nameIndex := 354, descriptorIndex := 339, attributes := #[] }, { accessFlags := 25, nameIndex := 358, descriptorIndex := 339, attributes := #[] }, { accessFlags := 25, nameIndex := 361, descriptorIndex := 339, attributes := #[] }, { accessFlags := 26, nameIndex := 364, descriptorIndex := 339, attributes := #[] }, { accessFlags := 26, nameIndex := 365, descriptorIndex := 339, attributes := #[] }, { accessFlags := 26, nameIndex := 172, descriptorIndex := 173, attributes := #[] }, { accessFlags := 26, nameIndex := 176, descriptorIndex := 173, attributes := #[] }, { accessFlags := 8, nameIndex := 344, descriptorIndex := 339, attributes := #[] }, { accessFlags := 8, nameIndex := 338, descriptorIndex := 339, attributes := #[] }, { accessFlags := 4120, nameIndex := 245, descriptorIndex := 246, attributes := #[] }])
  fields := #[{ name := "E", type := .double, accessFlags := 25, slot := 0, constantValue := 0 }, { name := "PI", type := .double, accessFlags := 25, slot := 1, constantValue := 0 }, { name := "TAU", type := .double, accessFlags := 25, slot := 2, constantValue := 0 }, { name := "DEGREES_TO_RADIANS", type := .double, accessFlags := 26, slot := 3, constantValue := 0 }, { name := "RADIANS_TO_DEGREES", type := .double, accessFlags := 26, slot := 4, constantValue := 0 }, { name := "negativeZeroFloatBits", type := .long, accessFlags := 26, slot := 5, constantValue := 0 }, { name := "negativeZeroDoubleBits", type := .long, accessFlags := 26, slot := 6, constantValue := 0 }, { name := "twoToTheDoubleScaleUp", type := .double, accessFlags := 8, slot := 7, constantValue := 0 }, { name := "twoToTheDoubleScaleDown", type := .double, accessFlags := 8, slot := 8, constantValue := 0 }, { name := "$assertionsDisabled", type := .boolean, accessFlags := 4120, slot := 9, constantValue := 0 }]
  methods := #[k3m0, k3m1, k3m2]
  instanceTypes := #[]
  staticTypes := #[.double, .double, .double, .double, .double, .long, .long, .double, .double, .boolean]
  resolved := Array.replicate 460 none
  statics := none }

def pool4 : Array CpInfo := pool [(1, .class_ 2), (0, u "java/lang/Cloneable"), (0, .class_ 4), (0, u "java/lang/Object")] 2

/-- java/lang/Cloneable -/
def k4 : Class := { plain "java/lang/Cloneable" (some 0) with
  accessFlags := 1537
  interfaces := #[]
  cf := some (fileOf pool4 1 #[] #[] 1537 3 #[] #[])
  fields := #[]
  methods := #[]
  instanceTypes := #[]
  staticTypes := #[]
  resolved := Array.replicate 7 none
  statics := none }

def pool5 : Array CpInfo := pool [(1, u "java/io/Serializable"), (0, .class_ 1), (0, u "java/lang/Object"), (0, .class_ 3)] 3

/-- java/io/Serializable -/
def k5 : Class := { plain "java/io/Serializable" (some 0) with
  accessFlags := 1537
  interfaces := #[]
  cf := some (fileOf pool5 2 #[] #[] 1537 4 #[] #[])
  fields := #[]
  methods := #[]
  instanceTypes := #[]
  staticTypes := #[]
  resolved := Array.replicate 8 none
  statics := none }

/-- the primitive byte -/
def k6 : Class := { plain "byte" none with kind := .primitive 'B', accessFlags := 0x411 }
/-- [B -/
def k7 : Class := { plain "[B" (some 0) with kind := .array 6 .byte, interfaces := #[4, 5], accessFlags := 1041 }

/-- the primitive double -/
def k8 : Class := { plain "double" none with kind := .primitive 'D', accessFlags := 0x411 }
/-- [D -/
def k9 : Class := { plain "[D" (some 0) with kind := .array 8 .double, interfaces := #[4, 5], accessFlags := 1041 }

/-- the primitive int -/
def k10 : Class := { plain "int" none with kind := .primitive 'I', accessFlags := 0x411 }
/-- [I -/
def k11 : Class := { plain "[I" (some 0) with kind := .array 10 .int, interfaces := #[4, 5], accessFlags := 1041 }

/-- [[D -/
def k12 : Class := { plain "[[D" (some 0) with kind := .array 9 (.array .double), interfaces := #[4, 5], accessFlags := 1041 }

def heap : Heap := #[]
def classes : Array Class := #[k0, k1, k2, k3, k4, k5, k6, k7, k8, k9, k10, k11, k12]
def interned : List (Array UInt16 × Addr) := []
def slotsUsed : Nat := 0
def theMethod : MethodId := ⟨1, 1⟩
def args0 : Array Value := #[.int 5, .long 7, .int 3, .int 4, .int 5, .int 6]
def aboutOver (below : List Frame) : State where
  vm := { classes := classes, interned := interned.toArray }
  heap := heap
  slotsUsed := slotsUsed
  threads := #[{ frames := .invoking theMethod args0 :: below }]
def below0 : List Frame := [.native { method := ⟨0, 0⟩, args := #[] }]
def about1 : State := aboutOver below0
def p0 : Program := .bare "" "" ""
def e0 : Env := launch0.env 0 0 0
theorem w_frames : about1.frames = Frame.invoking theMethod args0 :: below0 := rfl
set_option maxRecDepth 65536 in
theorem w_args : argsFit about1.vm theMethod args0 = true := by decide +kernel
set_option maxRecDepth 65536 in
theorem w_heap : heapFits about1 = true := by decide +kernel
set_option maxRecDepth 65536 in
theorem w_runnable : about1.curStatus? = some .runnable := by decide +kernel
set_option maxRecDepth 65536 in
theorem w_alone : about1.alone = true := by decide +kernel
set_option maxRecDepth 65536 in
theorem w_named : about1.methodNamed? x = some theMethod := by decide +kernel
set_option maxRecDepth 65536 in
theorem w_hears : about1.hears theMethod below0 = true := by decide +kernel
set_option maxRecDepth 65536 in
theorem w_ripe : about1.ripe theMethod args0 below0 = true := by decide +kernel
theorem w_running : about1.status = .running := rfl
set_option maxRecDepth 65536 in
theorem w_room : about1.hasRoom e0.platform room_1 = true :=
  launch0.hasRoom_least _ room_1 (by decide +kernel) (by decide +kernel) (by decide +kernel) (by decide +kernel) (by decide +kernel) (by decide +kernel)
theorem allAtoms_all (ts : List Jvm.Cond) (a : Array Jvm.Value) (st : Jvm.State) : (allAtoms ts).before a st = ts.all (fun c => c.before a st) := by
  induction ts with
  | nil => rfl
  | cons c t ih =>
    show (Jvm.Cond.and c (allAtoms t)).before a st = _
    rw [Jvm.Cond.before_and, ih, List.all_cons]
def words1 : List Jvm.Cond := Jvm.Cond.code x code maxLocals ret :: tables_1
/-- a 'code' word, met by the world's own term for the bytes: nothing is compared byte by byte -/
theorem code_word {y : MethodName} {bytes : ByteArray} {mx : Nat} {rt : Option FieldType} {a : Array Value} {s : State} {m : MethodId} {meth : Method} {c : Code} (h1 : s.methodNamed? y = some m) (h2 : s.vm.method? m = some meth) (h3 : meth.code = some c) (h4 : c.code = bytes)
    (h5 : (c.maxLocals == mx && c.exceptionTable.isEmpty && decide (c.maxStack ≤ mostOperands) && decide (meth.sig.returnType = rt) && !meth.locks && decide (parseMethodDescriptor y.desc = some meth.sig)) = true) : (Jvm.Cond.code y bytes mx rt).before a s = true := by
  simp only [Bool.and_eq_true, beq_iff_eq, Bool.not_eq_true', decide_eq_true_eq] at h5
  obtain ⟨⟨⟨⟨⟨g1, g2⟩, g3⟩, g4⟩, g5⟩, g6⟩ := h5
  simp [Cond.before, Cond.holds, Cond.value, h1, h2, h3, h4, g1, g2, g3, g4, g5, g6]
def isCode : Jvm.Cond → Bool
  | .code _ _ _ _ => true
  | _ => false
theorem all_split {L : List Jvm.Cond} {P : Jvm.Cond → Bool} (h1 : L.all (fun c => isCode c || P c) = true) (h2 : ∀ c ∈ L.filter isCode, P c = true) : L.all P = true := by
  refine List.all_eq_true.mpr fun c hc => ?_
  have h := List.all_eq_true.mp h1 c hc
  rcases Bool.eq_false_or_eq_true (isCode c) with hi | hi
  · exact h2 c (List.mem_filter.mpr ⟨hc, hi⟩)
  · simpa [hi] using h
set_option maxRecDepth 65536 in
theorem w_c0 : (Jvm.Cond.code x code maxLocals ret).before args0 about1 = true := code_word (m := ⟨1, 1⟩) (meth := k1m1) (c := k1c1) (by decide +kernel) rfl rfl rfl (by decide +kernel)
set_option maxRecDepth 65536 in
theorem w_c1 : (Jvm.Cond.code ({ cls := "com/example/dags_over_clouds/dagsoverclouds/plan/TallySumPinLaw", name := "size", desc := "(I)I" } : Jvm.MethodName) method_3_code (1 : Nat) (Option.some Jvm.ClassFile.FieldType.int)).before args0 about1 = true := code_word (m := ⟨1, 2⟩) (meth := k1m2) (c := k1c2) (by decide +kernel) rfl rfl rfl (by decide +kernel)
set_option maxRecDepth 65536 in
theorem w_c2 : (Jvm.Cond.code ({ cls := "com/example/dags_over_clouds/dagsoverclouds/plan/Tally", name := "<init>", desc := "([D)V" } : Jvm.MethodName) prog_71_method_1_code (5 : Nat) (Option.none : Option Jvm.ClassFile.FieldType)).before args0 about1 = true := code_word (m := ⟨2, 0⟩) (meth := k2m0) (c := k2c0) (by decide +kernel) rfl rfl rfl (by decide +kernel)
set_option maxRecDepth 65536 in
theorem w_c3 : (Jvm.Cond.code ({ cls := "java/lang/Object", name := "<init>", desc := "()V" } : Jvm.MethodName) object_method_1_code (1 : Nat) (Option.none : Option Jvm.ClassFile.FieldType)).before args0 about1 = true := code_word (m := ⟨0, 0⟩) (meth := k0m0) (c := k0c0) (by decide +kernel) rfl rfl rfl (by decide +kernel)
set_option maxRecDepth 65536 in
theorem w_c4 : (Jvm.Cond.code ({ cls := "java/lang/Math", name := "max", desc := "(II)I" } : Jvm.MethodName) jdk_29_method_65_code (2 : Nat) (Option.some Jvm.ClassFile.FieldType.int)).before args0 about1 = true := code_word (m := ⟨3, 1⟩) (meth := k3m1) (c := k3c1) (by decide +kernel) rfl rfl rfl (by decide +kernel)
set_option maxRecDepth 65536 in
theorem w_c5 : (Jvm.Cond.code ({ cls := "com/example/dags_over_clouds/dagsoverclouds/plan/Tally", name := "runs", desc := "(I)I" } : Jvm.MethodName) prog_71_method_6_code (1 : Nat) (Option.some Jvm.ClassFile.FieldType.int)).before args0 about1 = true := code_word (m := ⟨2, 4⟩) (meth := k2m4) (c := k2c4) (by decide +kernel) rfl rfl rfl (by decide +kernel)
set_option maxRecDepth 65536 in
theorem w_c6 : (Jvm.Cond.code ({ cls := "com/example/dags_over_clouds/dagsoverclouds/plan/Tally", name := "addUp", desc := "(II)V" } : Jvm.MethodName) prog_71_method_5_code (9 : Nat) (Option.none : Option Jvm.ClassFile.FieldType)).before args0 about1 = true := code_word (m := ⟨2, 3⟩) (meth := k2m3) (c := k2c3) (by decide +kernel) rfl rfl rfl (by decide +kernel)
set_option maxRecDepth 65536 in
theorem w_c7 : (Jvm.Cond.code ({ cls := "java/lang/Math", name := "min", desc := "(II)I" } : Jvm.MethodName) jdk_29_method_69_code (2 : Nat) (Option.some Jvm.ClassFile.FieldType.int)).before args0 about1 = true := code_word (m := ⟨3, 2⟩) (meth := k3m2) (c := k3c2) (by decide +kernel) rfl rfl rfl (by decide +kernel)
set_option maxRecDepth 65536 in
theorem w_c8 : (Jvm.Cond.code ({ cls := "com/example/dags_over_clouds/dagsoverclouds/plan/Tally", name := "sum", desc := "()D" } : Jvm.MethodName) prog_71_method_2_code (1 : Nat) (Option.some Jvm.ClassFile.FieldType.double)).before args0 about1 = true := code_word (m := ⟨2, 1⟩) (meth := k2m1) (c := k2c1) (by decide +kernel) rfl rfl rfl (by decide +kernel)
set_option maxRecDepth 65536 in
theorem w_c9 : (Jvm.Cond.code ({ cls := "com/example/dags_over_clouds/dagsoverclouds/plan/Tally", name := "set", desc := "(ID)V" } : Jvm.MethodName) prog_71_method_3_code (6 : Nat) (Option.none : Option Jvm.ClassFile.FieldType)).before args0 about1 = true := code_word (m := ⟨2, 2⟩) (meth := k2m2) (c := k2c2) (by decide +kernel) rfl rfl rfl (by decide +kernel)
def codes1 : List Jvm.Cond := [Jvm.Cond.code x code maxLocals ret, Jvm.Cond.code ({ cls := "com/example/dags_over_clouds/dagsoverclouds/plan/TallySumPinLaw", name := "size", desc := "(I)I" } : Jvm.MethodName) method_3_code (1 : Nat) (Option.some Jvm.ClassFile.FieldType.int), Jvm.Cond.code ({ cls := "com/example/dags_over_clouds/dagsoverclouds/plan/Tally", name := "<init>", desc := "([D)V" } : Jvm.MethodName) prog_71_method_1_code (5 : Nat) (Option.none : Option Jvm.ClassFile.FieldType), Jvm.Cond.code ({ cls := "java/lang/Object", name := "<init>", desc := "()V" } : Jvm.MethodName) object_method_1_code (1 : Nat) (Option.none : Option Jvm.ClassFile.FieldType), Jvm.Cond.code ({ cls := "java/lang/Math", name := "max", desc := "(II)I" } : Jvm.MethodName) jdk_29_method_65_code (2 : Nat) (Option.some Jvm.ClassFile.FieldType.int), Jvm.Cond.code ({ cls := "com/example/dags_over_clouds/dagsoverclouds/plan/Tally", name := "runs", desc := "(I)I" } : Jvm.MethodName) prog_71_method_6_code (1 : Nat) (Option.some Jvm.ClassFile.FieldType.int), Jvm.Cond.code ({ cls := "com/example/dags_over_clouds/dagsoverclouds/plan/Tally", name := "addUp", desc := "(II)V" } : Jvm.MethodName) prog_71_method_5_code (9 : Nat) (Option.none : Option Jvm.ClassFile.FieldType), Jvm.Cond.code ({ cls := "java/lang/Math", name := "min", desc := "(II)I" } : Jvm.MethodName) jdk_29_method_69_code (2 : Nat) (Option.some Jvm.ClassFile.FieldType.int), Jvm.Cond.code ({ cls := "com/example/dags_over_clouds/dagsoverclouds/plan/Tally", name := "sum", desc := "()D" } : Jvm.MethodName) prog_71_method_2_code (1 : Nat) (Option.some Jvm.ClassFile.FieldType.double), Jvm.Cond.code ({ cls := "com/example/dags_over_clouds/dagsoverclouds/plan/Tally", name := "set", desc := "(ID)V" } : Jvm.MethodName) prog_71_method_3_code (6 : Nat) (Option.none : Option Jvm.ClassFile.FieldType)]
set_option maxRecDepth 65536 in
theorem codes_eq : words1.filter isCode = codes1 := rfl
theorem w_codes : ∀ c ∈ words1.filter isCode, c.before args0 about1 = true := by
  rw [codes_eq]
  intro c hc
  simp only [codes1, List.mem_cons, List.not_mem_nil, or_false] at hc
  rcases hc with rfl | rfl | rfl | rfl | rfl | rfl | rfl | rfl | rfl | rfl
  · exact w_c0
  · exact w_c1
  · exact w_c2
  · exact w_c3
  · exact w_c4
  · exact w_c5
  · exact w_c6
  · exact w_c7
  · exact w_c8
  · exact w_c9
set_option maxRecDepth 65536 in
theorem w_t1 : (words1.take 24).all (fun c => isCode c || c.before args0 about1) = true := by decide +kernel
set_option maxRecDepth 65536 in
theorem w_t2 : ((words1.drop 24).take 24).all (fun c => isCode c || c.before args0 about1) = true := by decide +kernel
set_option maxRecDepth 65536 in
theorem w_t3 : ((words1.drop 24).drop 24).all (fun c => isCode c || c.before args0 about1) = true := by decide +kernel
theorem w_tables : (allAtoms (Jvm.Cond.code x code maxLocals ret :: tables_1)).before args0 about1 = true := by
  rw [allAtoms_all]
  show words1.all (fun c => c.before args0 about1) = true
  refine all_split ?_ w_codes
  rw [← List.take_append_drop 24 words1, List.all_append, w_t1, ← List.take_append_drop 24 (words1.drop 24), List.all_append, w_t2, w_t3]
  rfl
set_option maxRecDepth 65536 in
theorem w_case : (Jvm.Cond.and given_1 narrow_1).before args0 about1 = true := by decide +kernel
theorem w_applies : (headSpec (Jvm.Cond.code x code maxLocals ret :: tables_1) room_1).applies x e0.platform about1 = true :=
  (Spec.applies_iff w_frames).mpr ⟨w_running, w_runnable, w_alone, w_named, w_hears, w_ripe, w_room, w_tables⟩
theorem atStart : AtStart classFile x code maxLocals ret World_1 tables_1 room_1 Calls_1 rest_1 Pre_1 launch0 p0 e0 about1 theMethod args0 below0 :=
  ⟨lists_1, trivial, launch0.admits_env _ _ _, launch0.least_env, fairChoices_fair.cas, fairChoices_fair.clock, w_frames, w_args, w_heap, w_applies, trivial, trivial, w_case⟩
end start1
theorem witness_1 : WitnessClaimed_1 := ⟨start1.p0, start1.e0, start1.about1, start1.theMethod, start1.args0, start1.below0, start1.atStart⟩
end Jvm.Pilot.@@N@@
