import JvmDerived
import JvmDerived.Pilot.@@N@@Statement
import JvmDerived.Pilot.@@N@@Code
set_option linter.unusedVariables false
set_option linter.unusedSimpArgs false
namespace Jvm.RoadKit
open Sem ClassFile Op Lib Jvm.Stand Jvm.Free Jvm.LawKit
section New
variable {p : Program} {l : Launch} {e : Env} {R : Room} {s : State} {m : MethodId} {args : Array Value} {below : List Frame} {meth : Method} {c : Code} {T : State} {locs : List Loc} {cells slots : Nat}
theorem retI (X : Stand p l e R s m args below meth c T locs cells slots) (hx : p.tables.exec = Jvm.exec) {pc : Nat} {Ls : Array Slot} {z : Int32} {rest : List Value} (hret : meth.sig.returnType = some .int) (hd : decode c.code pc = .ok (.ireturn, 1)) {fs : List Frame}
    (hl : ∀ (f : JFrame) (acts : List Action), f.method = m → f.locked = none → f.entered = [] → (doReturn e (T.setTop f) acts (some (.int z))).1 = T.setFrames fs) : Steps p.tables e below (T.setTop (mkF m pc Ls (.int z :: rest))) (T.setFrames fs) := by
  have hm' : T.vm.method? m = some meth := X.method'
  have hn : narrow .int (.int z) = .int z := rfl
  show Steps p.tables e below (T.setTop { method := m, pc := pc, locals := Ls, stack := _ :: rest, locked := none }) _
  jvm_step X.here [X.here.top, hx, hd, hm', hret, hn]
  first | (intro acts; rw [hl _ acts rfl rfl rfl]) | rw [hl _ _ rfl rfl rfl]
  exact Steps.refl _
end New
end Jvm.RoadKit
@@BLOCK:TracedD.lean.txt@@
/- laws to paste: Road.backV, Road.eqW (cut by pick.py; bodies as the Statement names them) -/
namespace Jvm.Pilot.@@N@@
namespace StrChars
open Jvm Sem ClassFile Op Lib Jvm.Stand Jvm.Free.XT Jvm.Free.ALB Jvm.Free.JM Jvm.Free
open Jvm.Lib.Cold (StaticIs)
/-- a char array whose places are chars -/
def Ch (a : Addr) (A : Cell) (U : State) : Prop := Arr .char a A U ∧ Typed .char A
theorem Ch.mv {a : Addr} {A : Cell} {U U' : State} (h : Ch a A U) (hal : U.vm.Alike U'.vm) (hh : U'.heap = U.heap) : Ch a A U' := ⟨h.1.mv hal hh, h.2⟩
theorem Ch.keep {a : Addr} {A : Cell} {U U' : State} (h : Ch a A U) (hal : U.vm.Alike U'.vm) (hk : U'.heap[a]? = some A) : Ch a A U' := ⟨h.1.keep hal hk, h.2⟩
/-- what place i of a char[]'s cell holds -/
def cv (A : Cell) (i : Nat) : Int32 := match A.slots[i]? with | some (.int x) => x | _ => 0
theorem Ch.get {a : Addr} {A : Cell} {U : State} (h : Ch a A U) {i : Nat} (hi : i < A.slots.size) : A.slots[i]? = some (.int (cv A i)) := by
  have e := Array.getElem?_eq_getElem hi
  have f := h.2 i _ e
  unfold cv; rw [e]
  generalize A.slots[i] = v at f
  cases v <;> simp [fits] at f ⊢
/-- the byte that i2b leaves of a char -/
def lo8 (x : Int32) : Int32 := x.toInt8.toInt32
theorem fits_lo8 (y : Int32) : fits .byte (.int (lo8 y)) = true := by
  have h1 := y.toInt8.le_toInt
  have h2 := y.toInt8.toInt_lt
  simp only [lo8, fits, Bool.and_eq_true, decide_eq_true_eq, Int32.le_iff_toInt_le, Int8.toInt_toInt32, show (-128 : Int32).toInt = -128 from by decide, show (127 : Int32).toInt = 127 from by decide]
  omega
/-- A' is A but that each place j of lo .. hi - 1 holds f j -/
def Laid (A A' : Cell) (lo hi : Nat) (f : Nat → Value) : Prop := A'.cls = A.cls ∧ A'.vm = A.vm ∧ A'.slots.size = A.slots.size ∧ ∀ i, A'.slots[i]? = if lo ≤ i ∧ i < hi then some (f i) else A.slots[i]?
theorem Laid.zero (A : Cell) (lo : Nat) (f : Nat → Value) : Laid A A lo (lo + 0) f := ⟨rfl, rfl, rfl, fun i => by rw [if_neg (by omega)]⟩
theorem Laid.step {A Ak : Cell} {lo k : Nat} {f : Nat → Value} {v : Value} (h : Laid A Ak lo k f) (hlo : lo ≤ k) (hk : k < Ak.slots.size) (hv : v = f k) : Laid A (Ak.setSlot k v) lo (k + 1) f := by
  refine ⟨h.1, h.2.1, by simpa [Cell.setSlot] using h.2.2.1, fun i => ?_⟩
  by_cases e : k = i
  · subst e; rw [Cell.slots_setSlot_self v hk, if_pos (by omega), hv]
  · rw [Cell.slots_setSlot_ne v e, h.2.2.2 i]
    by_cases q : lo ≤ i ∧ i < k
    · rw [if_pos q, if_pos (by omega)]
    · rw [if_neg q, if_neg (by omega)]
def U16 : String := "java/lang/StringUTF16"
namespace Cmp5
def yN : MethodName := ⟨"java/lang/StringUTF16", "compress", "([CI[BII)I"⟩
abbrev yB : ByteArray := jdk_52_method_21_code
theorem d0 : decode yB 0 = .ok (.iconst 0, 1) := by decide +kernel
theorem d1 : decode yB 1 = .ok (.istore 5, 2) := by decide +kernel
theorem d3 : decode yB 3 = .ok (.iload 5, 2) := by decide +kernel
theorem d5 : decode yB 5 = .ok (.iload 4, 2) := by decide +kernel
theorem d7 : decode yB 7 = .ok (.if_icmp (.ge) 37, 3) := by decide +kernel
theorem d10 : decode yB 10 = .ok (.aload_n 0, 1) := by decide +kernel
theorem d11 : decode yB 11 = .ok (.iload_n 1, 1) := by decide +kernel
theorem d12 : decode yB 12 = .ok (.caload, 1) := by decide +kernel
theorem d13 : decode yB 13 = .ok (.istore 6, 2) := by decide +kernel
theorem d15 : decode yB 15 = .ok (.iload 6, 2) := by decide +kernel
theorem d17 : decode yB 17 = .ok (.sipush 255, 3) := by decide +kernel
theorem d20 : decode yB 20 = .ok (.if_icmp (.le) 6, 3) := by decide +kernel
theorem d26 : decode yB 26 = .ok (.aload_n 2, 1) := by decide +kernel
theorem d27 : decode yB 27 = .ok (.iload_n 3, 1) := by decide +kernel
theorem d28 : decode yB 28 = .ok (.iload 6, 2) := by decide +kernel
theorem d30 : decode yB 30 = .ok (.i2b, 1) := by decide +kernel
theorem d31 : decode yB 31 = .ok (.bastore, 1) := by decide +kernel
theorem d32 : decode yB 32 = .ok (.iinc 1 1, 3) := by decide +kernel
theorem d35 : decode yB 35 = .ok (.iinc 3 1, 3) := by decide +kernel
theorem d38 : decode yB 38 = .ok (.iinc 5 1, 3) := by decide +kernel
theorem d41 : decode yB 41 = .ok (.goto (-38), 3) := by decide +kernel
theorem d44 : decode yB 44 = .ok (.iload 4, 2) := by decide +kernel
theorem d46 : decode yB 46 = .ok (.ireturn, 1) := by decide +kernel
def site : List Cond := []
def tab : Cond := tabOf yN yB 7 (some .int) site
def P (b : Addr) (A : Cell) (d : Addr) (B : Cell) (o q len : Nat) (args : Array Value) (s : State) : Prop := args = #[.ref b, .int (Int32.ofNat o), .ref d, .int (Int32.ofNat q), .int (Int32.ofNat len)] ∧ Ch b A s ∧ Arr .byte d B s ∧ b ≠ d ∧ o + len ≤ A.slots.size ∧ q + len ≤ B.slots.size ∧ ∀ i, i < len → ¬ 255 < cv A (o + i)
def E (b : Addr) (A : Cell) (d : Addr) (B : Cell) (o q len : Nat) (r : Option Value) (s u : State) : Prop := r = some (.int (Int32.ofNat len)) ∧ ∃ B', Put d B' s u ∧ Laid B B' q (q + len) (fun j => Value.int (lo8 (cv A (o + (j - q)))))
/-- no char of the range above 255: len; the places written hold each char's low byte -/
theorem law (l : Launch) (b : Addr) (A : Cell) (d : Addr) (B : Cell) (o q len : Nat) : Law l yN 5 5 0 0 yB 7 (some .int) site (P b A d B o q len) (E b A d B o q len) (copyLocs d q len) 0 0 := by
  refine Law.of_walk (plainFor_of_name (by decide +kernel)) (by decide +kernel) (by decide +kernel) (by decide) (fun _ _ h => by rw [h.1]; rfl) (fun _ U U' hal hh h => ⟨h.1, h.2.1.mv hal hh, h.2.2.1.mv hal hh, h.2.2.2⟩) (fun r U U' V V' h1 hal h2 h => ⟨h.1, h.2.elim fun B' q => ⟨B', q.1.mv h1 h2, q.2⟩⟩) ?_
  intro p e s m args below meth c s₁ X0 hexec hbytes hml hret hlk hnm hown hh0 W hP
  obtain ⟨rfl, hA, hB, hne, l1, l2, hp⟩ := hP
  have c1 : Steps p.tables e below (s₁.setTop (entryFrame m #[.ref b, .int (Int32.ofNat o), .ref d, .int (Int32.ofNat q), .int (Int32.ofNat len)] 7)) (s₁.setTop (mkF m 0 #[.val (.ref b), .val (.int (Int32.ofNat o)), .val (.ref d), .val (.int (Int32.ofNat q)), .val (.int (Int32.ofNat len)), .unset, .unset] [])) := entry rfl
  have hA0 := hA.1.mv X0.warmed.alike hh0
  have hB0 := hB.mv X0.warmed.alike hh0
  have a31 := hA.1.2.2.2
  have c2 : Steps p.tables e below (s₁.setTop (entryFrame m #[.ref b, .int (Int32.ofNat o), .ref d, .int (Int32.ofNat q), .int (Int32.ofNat len)] 7)) (s₁.setTop (mkF m 3 #[.val (.ref b), .val (.int (Int32.ofNat o)), .val (.ref d), .val (.int (Int32.ofNat q)), .val (.int (Int32.ofNat len)), .val (.int 0), .unset] [])) := c1.trans (by
    refine iconstV X0.here hexec rfl 0 (hb hbytes d0) (by decide) ?_
    refine XS.istore X0.here hexec rfl (hb hbytes d1) rfl rfl ?_
    exact Steps.refl _)
  have loop : ∀ (r i : Nat), i + r = len → ∀ (z : Slot), (z = .unset ∨ ∃ w, z = .val w ∧ w.category = 1) → ∀ (Tl : State) (Bk : Cell), Stand p l e { frames := 0, locals := 0, cells := 0, slots := 0 } s m #[.ref b, .int (Int32.ofNat o), .ref d, .int (Int32.ofNat q), .int (Int32.ofNat len)] below meth c Tl ([] ++ copyLocs d q i) 0 0 → Put d Bk s₁ Tl → Laid B Bk q (q + i) (fun j => Value.int (lo8 (cv A (o + (j - q))))) →
      Steps p.tables e below (s₁.setTop (entryFrame m #[.ref b, .int (Int32.ofNat o), .ref d, .int (Int32.ofNat q), .int (Int32.ofNat len)] 7)) (Tl.setTop (mkF m 3 #[.val (.ref b), .val (.int (Int32.ofNat (o + i))), .val (.ref d), .val (.int (Int32.ofNat (q + i))), .val (.int (Int32.ofNat len)), .val (.int (Int32.ofNat i)), z] [])) → ∃ (T' : State) (B' : Cell) (z' : Slot), Stand p l e { frames := 0, locals := 0, cells := 0, slots := 0 } s m #[.ref b, .int (Int32.ofNat o), .ref d, .int (Int32.ofNat q), .int (Int32.ofNat len)] below meth c T' ([] ++ copyLocs d q len) 0 0 ∧ Put d B' s₁ T' ∧ Laid B B' q (q + len) (fun j => Value.int (lo8 (cv A (o + (j - q))))) ∧
      Steps p.tables e below (s₁.setTop (entryFrame m #[.ref b, .int (Int32.ofNat o), .ref d, .int (Int32.ofNat q), .int (Int32.ofNat len)] 7)) (T'.setTop (mkF m 3 #[.val (.ref b), .val (.int (Int32.ofNat (o + len))), .val (.ref d), .val (.int (Int32.ofNat (q + len))), .val (.int (Int32.ofNat len)), .val (.int (Int32.ofNat len)), z'] [])) := by
    intro r
    induction r with
    | zero =>
      intro i hi z hz Tl Bk Xl pl fl cl
      have hil : i = len := by omega
      rw [hil] at Xl fl cl
      exact ⟨Tl, Bk, z, Xl, pl, fl, cl⟩
    | succ r ih =>
      intro i hi z hz Tl Bk Xl pl fl cl
      have all := X0.warmed.alike.symm.trans Xl.warmed.alike
      have hAl := hA0.keep all (pl.other hne hA0.1)
      have hBk := hB0.like all pl.1 fl.1 fl.2.1 fl.2.2.1
      have hlt : q + i < Bk.slots.size := by rw [fl.2.2.1]; omega
      have c3 : Steps p.tables e below (s₁.setTop (entryFrame m #[.ref b, .int (Int32.ofNat o), .ref d, .int (Int32.ofNat q), .int (Int32.ofNat len)] 7)) (Tl.setTop (mkF m 12 #[.val (.ref b), .val (.int (Int32.ofNat (o + i))), .val (.ref d), .val (.int (Int32.ofNat (q + i))), .val (.int (Int32.ofNat len)), .val (.int (Int32.ofNat i)), z] [.int (Int32.ofNat (o + i)), .ref b])) := cl.trans (by
        refine XS.iload Xl.here hexec rfl (hb hbytes d3) rfl ?_
        refine XS.iload Xl.here hexec rfl (hb hbytes d5) rfl ?_
        refine XS.icmpNo Xl.here hexec rfl (hb hbytes d7) rfl (ii_ge_f (lt32 (by omega) (by omega))) ?_
        refine XS.aloadN Xl.here hexec rfl (hb hbytes d10) rfl rfl ?_
        refine XS.iloadN Xl.here hexec rfl (hb hbytes d11) rfl ?_
        exact Steps.refl _)
      have c4 : Steps p.tables e below (s₁.setTop (entryFrame m #[.ref b, .int (Int32.ofNat o), .ref d, .int (Int32.ofNat q), .int (Int32.ofNat len)] 7)) (Tl.setTop (mkF m 13 #[.val (.ref b), .val (.int (Int32.ofNat (o + i))), .val (.ref d), .val (.int (Int32.ofNat (q + i))), .val (.int (Int32.ofNat len)), .val (.int (Int32.ofNat i)), z] [.int (cv A (o + i))])) := c3.trans (by
        refine Xl.aget hexec hAl rfl (hA.get (i := o + i) (by omega)) rfl rfl (hb hbytes d12) ?_
        exact Steps.refl _)
      have c5 : Steps p.tables e below (s₁.setTop (entryFrame m #[.ref b, .int (Int32.ofNat o), .ref d, .int (Int32.ofNat q), .int (Int32.ofNat len)] 7)) (Tl.setTop (mkF m 15 #[.val (.ref b), .val (.int (Int32.ofNat (o + i))), .val (.ref d), .val (.int (Int32.ofNat (q + i))), .val (.int (Int32.ofNat len)), .val (.int (Int32.ofNat i)), .val (.int (cv A (o + i)))] [])) := c4.trans (by
        refine XS.istoreS Xl.here hexec rfl (hb hbytes d13) rfl rfl hz ?_
        exact Steps.refl _)
      have c6 : Steps p.tables e below (s₁.setTop (entryFrame m #[.ref b, .int (Int32.ofNat o), .ref d, .int (Int32.ofNat q), .int (Int32.ofNat len)] 7)) (Tl.setTop (mkF m 31 #[.val (.ref b), .val (.int (Int32.ofNat (o + i))), .val (.ref d), .val (.int (Int32.ofNat (q + i))), .val (.int (Int32.ofNat len)), .val (.int (Int32.ofNat i)), .val (.int (cv A (o + i)))] [.int (lo8 (cv A (o + i))), .int (Int32.ofNat (q + i)), .ref d])) := c5.trans (by
        refine XS.iload Xl.here hexec rfl (hb hbytes d15) rfl ?_
        refine sipushV Xl.here hexec rfl 255 (hb hbytes d17) (by decide) ?_
        refine XS.icmpYes Xl.here hexec rfl (pc0 := 20) rfl (hb hbytes d20) rfl (ii_le_t (hp i (by omega))) (by decide) rfl ?_
        refine XS.aloadN Xl.here hexec rfl (hb hbytes d26) rfl rfl ?_
        refine XS.iloadN Xl.here hexec rfl (hb hbytes d27) rfl ?_
        refine XS.iload Xl.here hexec rfl (hb hbytes d28) rfl ?_
        refine i2b Xl.here hexec rfl (hb hbytes d30) rfl ?_
        exact Steps.refl _)
      obtain ⟨T7, X7, p7, st7⟩ := Xl.aput hexec hBk rfl hlt rfl (fits_lo8 (cv A (o + i))) (g := (mkF m 31 #[.val (.ref b), .val (.int (Int32.ofNat (o + i))), .val (.ref d), .val (.int (Int32.ofNat (q + i))), .val (.int (Int32.ofNat len)), .val (.int (Int32.ofNat i)), .val (.int (cv A (o + i)))] [.int (lo8 (cv A (o + i))), .int (Int32.ofNat (q + i)), .ref d])) rfl (rest := []) rfl (hb hbytes d31)
      have c8 : Steps p.tables e below (s₁.setTop (entryFrame m #[.ref b, .int (Int32.ofNat o), .ref d, .int (Int32.ofNat q), .int (Int32.ofNat len)] 7)) (T7.setTop (mkF m 32 #[.val (.ref b), .val (.int (Int32.ofNat (o + i))), .val (.ref d), .val (.int (Int32.ofNat (q + i))), .val (.int (Int32.ofNat len)), .val (.int (Int32.ofNat i)), .val (.int (cv A (o + i)))] [])) := c6.trans (st7 _ (Steps.refl _))
      have c9 : Steps p.tables e below (s₁.setTop (entryFrame m #[.ref b, .int (Int32.ofNat o), .ref d, .int (Int32.ofNat q), .int (Int32.ofNat len)] 7)) (T7.setTop (mkF m 3 #[.val (.ref b), .val (.int (Int32.ofNat (o + i) + 1)), .val (.ref d), .val (.int (Int32.ofNat (q + i) + 1)), .val (.int (Int32.ofNat len)), .val (.int (Int32.ofNat i + 1)), .val (.int (cv A (o + i)))] [])) := c8.trans (by
        refine iincV X7.here hexec rfl 1 (hb hbytes d32) (by decide) rfl rfl ?_
        refine iincV X7.here hexec rfl 1 (hb hbytes d35) (by decide) rfl rfl ?_
        refine iincV X7.here hexec rfl 1 (hb hbytes d38) (by decide) rfl rfl ?_
        refine XS.goto X7.here hexec rfl (pc0 := 41) rfl (hb hbytes d41) (by decide) rfl ?_
        exact Steps.refl _)
      have c10 : Steps p.tables e below (s₁.setTop (entryFrame m #[.ref b, .int (Int32.ofNat o), .ref d, .int (Int32.ofNat q), .int (Int32.ofNat len)] 7)) (T7.setTop (mkF m 3 #[.val (.ref b), .val (.int (Int32.ofNat (o + (i + 1)))), .val (.ref d), .val (.int (Int32.ofNat (q + (i + 1)))), .val (.int (Int32.ofNat len)), .val (.int (Int32.ofNat (i + 1))), .val (.int (cv A (o + i)))] [])) := by
        have := c9
        rw [succ32, succ32, succ32] at this
        exact this
      exact ih (i + 1) (by omega) _ (Or.inr ⟨_, rfl, rfl⟩) T7 _ (by rw [copyLocs_step, ← List.append_assoc]; exact X7) (pl.trans p7) (fl.step (by omega) hlt (by simp)) c10
  obtain ⟨T9, B9, z9, X9, p9, f9, g9⟩ := loop len 0 (by omega) .unset (Or.inl rfl) s₁ B (by simpa [copyLocs] using X0) ⟨hB0.1, fun _ _ => rfl, rfl⟩ (Laid.zero _ _ _) c2
  have c11 : Steps p.tables e below (s₁.setTop (entryFrame m #[.ref b, .int (Int32.ofNat o), .ref d, .int (Int32.ofNat q), .int (Int32.ofNat len)] 7)) (T9.setTop (mkF m 46 #[.val (.ref b), .val (.int (Int32.ofNat (o + len))), .val (.ref d), .val (.int (Int32.ofNat (q + len))), .val (.int (Int32.ofNat len)), .val (.int (Int32.ofNat len)), z9] [.int (Int32.ofNat len)])) := g9.trans (by
    refine XS.iload X9.here hexec rfl (hb hbytes d3) rfl ?_
    refine XS.iload X9.here hexec rfl (hb hbytes d5) rfl ?_
    refine XS.icmpYes X9.here hexec rfl (pc0 := 7) rfl (hb hbytes d7) rfl (ii_ge_t (nlt32 (by omega) (Nat.le_refl _))) (by decide) rfl ?_
    refine XS.iload X9.here hexec rfl (hb hbytes d44) rfl ?_
    exact Steps.refl _)
  exact ⟨T9, some (.int (Int32.ofNat len)), _, _, _, X9, by simp, rfl, rfl, (fun h => by cases h), ⟨rfl, B9, p9.from hh0, f9⟩, fun fs hl => c11.trans (X9.ireturnOut hexec hret rfl (Or.inl rfl) (hb hbytes d46) hl)⟩
end Cmp5
namespace Cmp3
def yN : MethodName := ⟨"java/lang/StringUTF16", "compress", "([CII)[B"⟩
abbrev yB : ByteArray := jdk_52_method_16_code
theorem d0 : decode yB 0 = .ok (.iload_n 2, 1) := by decide +kernel
theorem d1 : decode yB 1 = .ok (.newarray .byte, 2) := by decide +kernel
theorem d3 : decode yB 3 = .ok (.astore_n 3, 1) := by decide +kernel
theorem d4 : decode yB 4 = .ok (.aload_n 0, 1) := by decide +kernel
theorem d5 : decode yB 5 = .ok (.iload_n 1, 1) := by decide +kernel
theorem d6 : decode yB 6 = .ok (.aload_n 3, 1) := by decide +kernel
theorem d7 : decode yB 7 = .ok (.iconst 0, 1) := by decide +kernel
theorem d8 : decode yB 8 = .ok (.iload_n 2, 1) := by decide +kernel
theorem d9 : decode yB 9 = .ok (.invokestatic 115, 3) := by decide +kernel
theorem d12 : decode yB 12 = .ok (.istore 4, 2) := by decide +kernel
theorem d14 : decode yB 14 = .ok (.iload 4, 2) := by decide +kernel
theorem d16 : decode yB 16 = .ok (.iload_n 2, 1) := by decide +kernel
theorem d17 : decode yB 17 = .ok (.if_icmp (.eq) 40, 3) := by decide +kernel
theorem d57 : decode yB 57 = .ok (.aload_n 3, 1) := by decide +kernel
theorem d58 : decode yB 58 = .ok (.areturn, 1) := by decide +kernel
def site : List Cond := [.arrayClass .byte, Cmp5.tab] ++ staticW U16 115 Cmp5.yN
def tab : Cond := tabOf yN yB 6 (some (.array .byte)) site
def P (b : Addr) (A : Cell) (o len : Nat) (args : Array Value) (s : State) : Prop := args = #[.ref b, .int (Int32.ofNat o), .int (Int32.ofNat len)] ∧ Ch b A s ∧ o + len ≤ A.slots.size ∧ len ≤ 536870912 ∧ ∀ i, i < len → ¬ 255 < cv A (o + i)
def E (b : Addr) (A : Cell) (o len : Nat) (r : Option Value) (s u : State) : Prop := NewArr .byte "[B" len (fun j => .int (lo8 (cv A (o + j)))) r s u ∧ u.heap.size = s.heap.size + 1
/-- no char of the range above 255: a new byte[] of their low bytes -/
theorem law (l : Launch) (b : Addr) (A : Cell) (o len : Nat) : Law l yN 3 3 1 18 yB 6 (some (.array .byte)) site (P b A o len) (E b A o len) [] 1 len := by
  refine Law.of_walk (plainFor_of_name (by decide +kernel)) (by decide +kernel) (by decide +kernel) (by decide) (fun _ _ h => by rw [h.1]; rfl) (fun _ U U' hal hh h => ⟨h.1, h.2.1.mv hal hh, h.2.2⟩) (fun r U U' V V' h1 hal h2 h => ⟨NewArr.mv r U U' V V' h1 hal h2 h.1, by rw [h1, h2]; exact h.2⟩) ?_
  intro p e s m args below meth c s₁ X0 hexec hbytes hml hret hlk hnm hown hh0 W hP
  obtain ⟨rfl, hA, l1, l2, hp⟩ := hP
  have a31 := hA.1.2.2.2
  have c1 : Steps p.tables e below (s₁.setTop (entryFrame m #[.ref b, .int (Int32.ofNat o), .int (Int32.ofNat len)] 6)) (s₁.setTop (mkF m 0 #[.val (.ref b), .val (.int (Int32.ofNat o)), .val (.int (Int32.ofNat len)), .unset, .unset, .unset] [])) := entry rfl
  have c2 : Steps p.tables e below (s₁.setTop (entryFrame m #[.ref b, .int (Int32.ofNat o), .int (Int32.ofNat len)] 6)) (s₁.setTop (mkF m 1 #[.val (.ref b), .val (.int (Int32.ofNat o)), .val (.int (Int32.ofNat len)), .unset, .unset, .unset] [.int (Int32.ofNat len)])) := c1.trans (by
    refine XS.iloadN X0.here hexec rfl (hb hbytes d0) rfl ?_
    exact Steps.refl _)
  obtain ⟨T3, B3, X3, ba3, bs3, bv3, bh3, bf3, st3⟩ := X0.anew hexec (atype := .byte) (wk W (.arrayClass .byte)) rfl (by show len * 1 ≤ _; omega) (by omega) (g := (mkF m 1 #[.val (.ref b), .val (.int (Int32.ofNat o)), .val (.int (Int32.ofNat len)), .unset, .unset, .unset] [.int (Int32.ofNat len)])) rfl (hb hbytes d1) (rest := []) rfl (Nat.le_refl _) (by show 0 + len ≤ len; omega)
  rw [hh0] at ba3 st3
  have kp3 : XT.Kept s T3 := (XT.Kept.of_eq hh0).push bh3
  have hA3 := hA.keep X3.warmed.alike (kp3 _ _ hA.1.1)
  have hne : b ≠ s.heap.size := hA.1.ne
  have c4 : Steps p.tables e below (s₁.setTop (entryFrame m #[.ref b, .int (Int32.ofNat o), .int (Int32.ofNat len)] 6)) (T3.setTop (mkF m 3 #[.val (.ref b), .val (.int (Int32.ofNat o)), .val (.int (Int32.ofNat len)), .unset, .unset, .unset] [.ref s.heap.size])) := c2.trans (st3 _ (Steps.refl _))
  have c5 : Steps p.tables e below (s₁.setTop (entryFrame m #[.ref b, .int (Int32.ofNat o), .int (Int32.ofNat len)] 6)) (T3.setTop (mkF m 9 #[.val (.ref b), .val (.int (Int32.ofNat o)), .val (.int (Int32.ofNat len)), .val (.ref s.heap.size), .unset, .unset] [.int (Int32.ofNat len), .int 0, .ref s.heap.size, .int (Int32.ofNat o), .ref b])) := c4.trans (by
    refine XS.astoreN X3.here hexec rfl (hb hbytes d3) rfl rfl rfl ?_
    refine XS.aloadN X3.here hexec rfl (hb hbytes d4) rfl rfl ?_
    refine XS.iloadN X3.here hexec rfl (hb hbytes d5) rfl ?_
    refine XS.aloadN X3.here hexec rfl (hb hbytes d6) rfl rfl ?_
    refine iconstV X3.here hexec rfl 0 (hb hbytes d7) (by decide) ?_
    refine XS.iloadN X3.here hexec rfl (hb hbytes d8) rfl ?_
    exact Steps.refl _)
  obtain ⟨v6, T6, X6, E6, g6⟩ := X3.callS hexec (Cmp5.law l b A s.heap.size B3 o 0 len) hown (wks W (staticW U16 115 Cmp5.yN)) (wk W Cmp5.tab) (W := 0) (Nat.le_of_ble_eq_true rfl) (Nat.le_of_ble_eq_true rfl) (Nat.le_refl _) (by show 0 + len + 0 ≤ len; omega) (g := (mkF m 9 #[.val (.ref b), .val (.int (Int32.ofNat o)), .val (.int (Int32.ofNat len)), .val (.ref s.heap.size), .unset, .unset] [.int (Int32.ofNat len), .int (Int32.ofNat 0), .ref s.heap.size, .int (Int32.ofNat o), .ref b])) rfl (by rw [hml]; rfl) c5 (argsL := [.ref b, .int (Int32.ofNat o), .ref s.heap.size, .int (Int32.ofNat 0), .int (Int32.ofNat len)]) (rest := []) rfl rfl (by show 2 * 0 + 0 ≤ _; decide) (hb hbytes d9) (⟨rfl, hA3, ba3, hne, l1, by rw [bs3]; simp, hp⟩)
  obtain ⟨rfl, B6, p6, f6⟩ := E6
  have c7 : Steps p.tables e below (s₁.setTop (entryFrame m #[.ref b, .int (Int32.ofNat o), .int (Int32.ofNat len)] 6)) (T6.setTop (mkF m 12 #[.val (.ref b), .val (.int (Int32.ofNat o)), .val (.int (Int32.ofNat len)), .val (.ref s.heap.size), .unset, .unset] [.int (Int32.ofNat len)])) := g6
  have c8 : Steps p.tables e below (s₁.setTop (entryFrame m #[.ref b, .int (Int32.ofNat o), .int (Int32.ofNat len)] 6)) (T6.setTop (mkF m 58 #[.val (.ref b), .val (.int (Int32.ofNat o)), .val (.int (Int32.ofNat len)), .val (.ref s.heap.size), .val (.int (Int32.ofNat len)), .unset] [.ref s.heap.size])) := c7.trans (by
    refine XS.istore X6.here hexec rfl (hb hbytes d12) rfl rfl ?_
    refine XS.iload X6.here hexec rfl (hb hbytes d14) rfl ?_
    refine XS.iloadN X6.here hexec rfl (hb hbytes d16) rfl ?_
    refine XS.icmpYes X6.here hexec rfl (pc0 := 17) rfl (hb hbytes d17) rfl (ii_eq_t rfl) (by decide) rfl ?_
    refine XS.aloadN X6.here hexec rfl (hb hbytes d57) rfl rfl ?_
    exact Steps.refl _)
  have X8 := X6.wide (L' := []) (cells' := 1) (slots' := len) (fun x hx hlt => by
    simp only [List.nil_append, copyLocs, List.mem_map, List.mem_range] at hx
    obtain ⟨i, -, rfl⟩ := hx
    exact absurd hlt (Nat.lt_irrefl _)) (Nat.le_refl _) (by omega)
  exact ⟨T6, some (.ref s.heap.size), _, _, _, X8, rfl, rfl, rfl, (fun h => by cases h), ⟨⟨rfl, B6, ba3.like (X3.warmed.alike.symm.trans X6.warmed.alike) p6.1 f6.1 f6.2.1 f6.2.2.1, f6.2.1.trans bv3, by rw [X6.warmed.alike.findClass, f6.1]; exact bf3, by rw [f6.2.2.1, bs3]; simp, fun j hj => by rw [f6.2.2.2 j, if_pos (by omega)]; rfl, kp3.put p6 (Nat.le_refl _)⟩, by rw [p6.2.2, bh3, hh0]; simp⟩, fun fs hl => c8.trans (X8.areturnOut hexec rfl hret rfl (hb hbytes d58) hl)⟩
end Cmp3
namespace CodL
def yN : MethodName := ⟨"java/lang/StringUTF16", "coderFromArrayLen", "([BI)B"⟩
abbrev yB : ByteArray := jdk_52_method_15_code
theorem d0 : decode yB 0 = .ok (.iload_n 1, 1) := by decide +kernel
theorem d1 : decode yB 1 = .ok (.aload_n 0, 1) := by decide +kernel
theorem d2 : decode yB 2 = .ok (.arraylength, 1) := by decide +kernel
theorem d3 : decode yB 3 = .ok (.isub, 1) := by decide +kernel
theorem d4 : decode yB 4 = .ok (.bipush 31, 2) := by decide +kernel
theorem d6 : decode yB 6 = .ok (.iushr, 1) := by decide +kernel
theorem d7 : decode yB 7 = .ok (.i2b, 1) := by decide +kernel
theorem d8 : decode yB 8 = .ok (.ireturn, 1) := by decide +kernel
def site : List Cond := []
def tab : Cond := tabOf yN yB 2 (some .byte) site
def P (d : Addr) (B : Cell) (args : Array Value) (s : State) : Prop := args = #[.ref d, .int (Int32.ofNat B.slots.size)] ∧ Arr .byte d B s
def E (r : Option Value) (s u : State) : Prop := XT.PureE (some (.int 0)) r s u
/-- an array as long as the number of chars: LATIN1 -/
theorem law (l : Launch) (d : Addr) (B : Cell) : Law l yN 2 2 0 0 yB 2 (some .byte) site (P d B) E [] 0 0 := by
  refine Law.of_walk (plainFor_of_name (by decide +kernel)) (by decide +kernel) (by decide +kernel) (by decide) (fun _ _ h => by rw [h.1]; rfl) (fun _ U U' hal hh h => ⟨h.1, h.2.mv hal hh⟩) (fun r U U' V V' h1 hal h2 h => XT.PureE.mv r U U' V V' h1 hal h2 h) ?_
  intro p e s m args below meth c s₁ X0 hexec hbytes hml hret hlk hnm hown hh0 W hP
  obtain ⟨rfl, hB⟩ := hP
  have hB0 := hB.mv X0.warmed.alike hh0
  have c1 : Steps p.tables e below (s₁.setTop (entryFrame m #[.ref d, .int (Int32.ofNat B.slots.size)] 2)) (s₁.setTop (mkF m 0 #[.val (.ref d), .val (.int (Int32.ofNat B.slots.size))] [])) := entry rfl
  have c2 : Steps p.tables e below (s₁.setTop (entryFrame m #[.ref d, .int (Int32.ofNat B.slots.size)] 2)) (s₁.setTop (mkF m 2 #[.val (.ref d), .val (.int (Int32.ofNat B.slots.size))] [.ref d, .int (Int32.ofNat B.slots.size)])) := c1.trans (by
    refine XS.iloadN X0.here hexec rfl (hb hbytes d0) rfl ?_
    refine XS.aloadN X0.here hexec rfl (hb hbytes d1) rfl rfl ?_
    exact Steps.refl _)
  have c3 : Steps p.tables e below (s₁.setTop (entryFrame m #[.ref d, .int (Int32.ofNat B.slots.size)] 2)) (s₁.setTop (mkF m 8 #[.val (.ref d), .val (.int (Int32.ofNat B.slots.size))] [.int (lo8 (ushr (Int32.ofNat B.slots.size - Int32.ofNat B.slots.size) 31))])) := c2.trans (by
    refine X0.alen hexec hB0 rfl rfl (hb hbytes d2) ?_
    refine XS.isub X0.here hexec rfl (hb hbytes d3) rfl ?_
    refine bipushV X0.here hexec rfl 31 (hb hbytes d4) (by decide) ?_
    refine iushr X0.here hexec rfl (hb hbytes d6) rfl ?_
    refine i2b X0.here hexec rfl (hb hbytes d7) rfl ?_
    exact Steps.refl _)
  have e0 : lo8 (ushr (Int32.ofNat B.slots.size - Int32.ofNat B.slots.size) 31) = 0 := by rw [Int32.sub_self]; decide
  rw [e0] at c3
  exact ⟨s₁, some (.int 0), _, _, _, X0, rfl, rfl, rfl, (fun h => by cases h), ⟨rfl, hh0⟩, fun fs hl => c3.trans (X0.ireturnOut hexec hret rfl (Or.inr (Or.inr (Or.inl rfl))) (hb hbytes d8) hl)⟩
end CodL
/-- the String at a is Latin-1 over a new byte[] (the heap's one new cell): the low bytes of the len chars of A from o on; every cell but a is kept -/
def Got (a : Addr) (D : Cell) (fV fC : Field) (A : Cell) (o len : Nat) (r : Option Value) (s u : State) : Prop := r = none ∧ ∃ D' V : Cell, Blank "java/lang/String" a D' u ∧ Same D D' [fV.slot, fC.slot] ∧ D'.slots[fV.slot]? = some (.ref s.heap.size) ∧ D'.slots[fC.slot]? = some (.int 0) ∧ Arr .byte s.heap.size V u ∧ V.vm = .none ∧ u.vm.findClass "[B" = some V.cls ∧ V.slots.size = len ∧ (∀ j, j < len → V.slots[j]? = some (.int (lo8 (cv A (o + j))))) ∧ (∀ (y : Addr) (c : Cell), y ≠ a → s.heap[y]? = some c → u.heap[y]? = some c) ∧ u.heap.size = s.heap.size + 1
theorem Got.mv {a : Addr} {D A : Cell} {fV fC : Field} {o len : Nat} : ∀ r (U U' V V' : State), U'.heap = U.heap → V.vm.Alike V'.vm → V'.heap = V.heap → Got a D fV fC A o len r U V → Got a D fV fC A o len r U' V' :=
  fun r U U' V V' h1 hal h2 ⟨e0, D', X, a1, a2, a3, a4, a5, a6, a7, a8, a9, a10, a11⟩ => ⟨e0, D', X, a1.mv hal h2, a2, by rw [h1]; exact a3, a4, by rw [h1]; exact a5.mv hal h2, a6, by rw [hal.findClass]; exact a7, a8, a9, by rw [h1, h2]; exact a10, by rw [h1, h2]; exact a11⟩
namespace New4
def yN : MethodName := ⟨"java/lang/String", "<init>", "([CIILjava/lang/Void;)V"⟩
abbrev yB : ByteArray := jdk_42_method_149_code
theorem d0 : decode yB 0 = .ok (.aload_n 0, 1) := by decide +kernel
theorem d1 : decode yB 1 = .ok (.invokespecial 1, 3) := by decide +kernel
theorem d4 : decode yB 4 = .ok (.iload_n 3, 1) := by decide +kernel
theorem d5 : decode yB 5 = .ok (.ifCond (.ne) 22, 3) := by decide +kernel
theorem d27 : decode yB 27 = .ok (.getstatic 38, 3) := by decide +kernel
theorem d30 : decode yB 30 = .ok (.ifCond (.eq) 28, 3) := by decide +kernel
theorem d33 : decode yB 33 = .ok (.aload_n 1, 1) := by decide +kernel
theorem d34 : decode yB 34 = .ok (.iload_n 2, 1) := by decide +kernel
theorem d35 : decode yB 35 = .ok (.iload_n 3, 1) := by decide +kernel
theorem d36 : decode yB 36 = .ok (.invokestatic 177, 3) := by decide +kernel
theorem d39 : decode yB 39 = .ok (.astore 5, 2) := by decide +kernel
theorem d41 : decode yB 41 = .ok (.aload_n 0, 1) := by decide +kernel
theorem d42 : decode yB 42 = .ok (.aload 5, 2) := by decide +kernel
theorem d44 : decode yB 44 = .ok (.iload_n 3, 1) := by decide +kernel
theorem d45 : decode yB 45 = .ok (.invokestatic 47, 3) := by decide +kernel
theorem d48 : decode yB 48 = .ok (.putfield 15, 3) := by decide +kernel
theorem d51 : decode yB 51 = .ok (.aload_n 0, 1) := by decide +kernel
theorem d52 : decode yB 52 = .ok (.aload 5, 2) := by decide +kernel
theorem d54 : decode yB 54 = .ok (.putfield 9, 3) := by decide +kernel
theorem d57 : decode yB 57 = .ok (.return_, 1) := by decide +kernel
def site : List Cond := [.fieldLink "java/lang/String" 38 "java/lang/String" "COMPACT_STRINGS" "Z", Cmp3.tab, CodL.tab, .laysFinal "java/lang/String" "java/lang/String" "value" "[B", .fieldLink "java/lang/String" 9 "java/lang/String" "value" "[B", .laysFinal "java/lang/String" "java/lang/String" "coder" "B", .fieldLink "java/lang/String" 15 "java/lang/String" "coder" "B"] ++ objW "java/lang/String" 1 ++ staticW "java/lang/String" 177 Cmp3.yN ++ staticW "java/lang/String" 47 CodL.yN
def tab : Cond := tabOf yN yB 6 none site
def P (a : Addr) (D : Cell) (fV fC : Field) (b : Addr) (A : Cell) (z : Int32) (o len : Nat) (args : Array Value) (s : State) : Prop := args = #[.ref a, .ref b, .int (Int32.ofNat o), .int (Int32.ofNat len), .null] ∧ Blank "java/lang/String" a D s ∧ Found "java/lang/String" "value" "[B" fV s ∧ Found "java/lang/String" "coder" "B" fC s ∧ Ch b A s ∧ StaticIs s "java/lang/String" "COMPACT_STRINGS" "Z" (.int z) ∧ ¬ z = 0 ∧ 0 < len ∧ o + len ≤ A.slots.size ∧ len ≤ 536870912 ∧ ∀ i, i < len → ¬ 255 < cv A (o + i)
def E (a : Addr) (D : Cell) (fV fC : Field) (A : Cell) (o len : Nat) (r : Option Value) (s u : State) : Prop := Got a D fV fC A o len r s u
/-- len > 0, no char of the range above 255: a Latin-1 String of their low bytes -/
theorem law (l : Launch) (a : Addr) (D : Cell) (fV fC : Field) (b : Addr) (A : Cell) (z : Int32) (o len : Nat) : Law l yN 5 4 2 35 yB 6 none site (P a D fV fC b A z o len) (E a D fV fC A o len) [⟨a, fC.slot⟩, ⟨a, fV.slot⟩] 1 len := by
  refine Law.of_walk (plainFor_of_name (by decide +kernel)) (by decide +kernel) (by decide +kernel) (by decide) (fun _ _ h => by rw [h.1]; rfl) (fun _ U U' hal hh h => ⟨h.1, h.2.1.mv hal hh, h.2.2.1.al hal, h.2.2.2.1.al hal, h.2.2.2.2.1.mv hal hh, h.2.2.2.2.2.1.there hal hh, h.2.2.2.2.2.2⟩) (fun r U U' V V' h1 hal h2 h => Got.mv r U U' V V' h1 hal h2 h) ?_
  intro p e s m args below meth c s₁ X0 hexec hbytes hml hret hlk hnm hown hh0 W hP
  obtain ⟨rfl, hB, f1, f2, hA, s1, hz, l0, l1, l2, hp⟩ := hP
  have a31 := hA.1.2.2.2
  have c1 : Steps p.tables e below (s₁.setTop (entryFrame m #[.ref a, .ref b, .int (Int32.ofNat o), .int (Int32.ofNat len), .null] 6)) (s₁.setTop (mkF m 0 #[.val (.ref a), .val (.ref b), .val (.int (Int32.ofNat o)), .val (.int (Int32.ofNat len)), .val .null, .unset] [])) := entry rfl
  have c2 : Steps p.tables e below (s₁.setTop (entryFrame m #[.ref a, .ref b, .int (Int32.ofNat o), .int (Int32.ofNat len), .null] 6)) (s₁.setTop (mkF m 1 #[.val (.ref a), .val (.ref b), .val (.int (Int32.ofNat o)), .val (.int (Int32.ofNat len)), .val .null, .unset] [.ref a])) := c1.trans (by
    refine XS.aloadN X0.here hexec rfl (hb hbytes d0) rfl rfl ?_
    exact Steps.refl _)
  obtain ⟨T3, X3, q3, st3⟩ := X0.oinit hexec hown (wks W (objW "java/lang/String" 1)) (g := (mkF m 1 #[.val (.ref a), .val (.ref b), .val (.int (Int32.ofNat o)), .val (.int (Int32.ofNat len)), .val .null, .unset] [.ref a])) rfl (by rw [hml]; rfl) (rest := []) rfl (hb hbytes d1) (W := 0) (by show 2 * 0 + 0 ≤ _; decide) (Nat.le_of_ble_eq_true rfl) (Nat.le_of_ble_eq_true rfl)
  have hh3 := q3.trans hh0
  have c4 : Steps p.tables e below (s₁.setTop (entryFrame m #[.ref a, .ref b, .int (Int32.ofNat o), .int (Int32.ofNat len), .null] 6)) (T3.setTop (mkF m 27 #[.val (.ref a), .val (.ref b), .val (.int (Int32.ofNat o)), .val (.int (Int32.ofNat len)), .val .null, .unset] [])) := (c2.trans (st3 _ (Steps.refl _))).trans (by
    refine XS.iloadN X3.here hexec rfl (hb hbytes d4) rfl ?_
    refine XS.ifYes X3.here hexec rfl (pc0 := 5) rfl (hb hbytes d5) rfl (i0_ne_t (nz32 (by omega) l0)) (by decide) rfl ?_
    exact Steps.refl _)
  obtain ⟨T5, X5, q5, st5⟩ := X3.sget hexec hown (wk W (.fieldLink "java/lang/String" 38 "java/lang/String" "COMPACT_STRINGS" "Z")) s1 (fun _ _ h => by rw [hh3]; exact h) (g := (mkF m 27 #[.val (.ref a), .val (.ref b), .val (.int (Int32.ofNat o)), .val (.int (Int32.ofNat len)), .val .null, .unset] [])) rfl (hb hbytes d27)
  have hh5 := q5.trans hh3
  have c6 : Steps p.tables e below (s₁.setTop (entryFrame m #[.ref a, .ref b, .int (Int32.ofNat o), .int (Int32.ofNat len), .null] 6)) (T5.setTop (mkF m 30 #[.val (.ref a), .val (.ref b), .val (.int (Int32.ofNat o)), .val (.int (Int32.ofNat len)), .val .null, .unset] [.int z])) := c4.trans (st5 _ (Steps.refl _))
  have c7 : Steps p.tables e below (s₁.setTop (entryFrame m #[.ref a, .ref b, .int (Int32.ofNat o), .int (Int32.ofNat len), .null] 6)) (T5.setTop (mkF m 36 #[.val (.ref a), .val (.ref b), .val (.int (Int32.ofNat o)), .val (.int (Int32.ofNat len)), .val .null, .unset] [.int (Int32.ofNat len), .int (Int32.ofNat o), .ref b])) := c6.trans (by
    refine XS.ifNo X5.here hexec rfl (hb hbytes d30) rfl (i0_eq_f hz) ?_
    refine XS.aloadN X5.here hexec rfl (hb hbytes d33) rfl rfl ?_
    refine XS.iloadN X5.here hexec rfl (hb hbytes d34) rfl ?_
    refine XS.iloadN X5.here hexec rfl (hb hbytes d35) rfl ?_
    exact Steps.refl _)
  obtain ⟨v8, T8, X8, E8, g8⟩ := X5.callS hexec (Cmp3.law l b A o len) hown (wks W (staticW "java/lang/String" 177 Cmp3.yN)) (wk W Cmp3.tab) (W := 0) (Nat.le_of_ble_eq_true rfl) (Nat.le_of_ble_eq_true rfl) (Nat.le_refl _) (by show 0 + len ≤ len; omega) (g := (mkF m 36 #[.val (.ref a), .val (.ref b), .val (.int (Int32.ofNat o)), .val (.int (Int32.ofNat len)), .val .null, .unset] [.int (Int32.ofNat len), .int (Int32.ofNat o), .ref b])) rfl (by rw [hml]; rfl) c7 (argsL := [.ref b, .int (Int32.ofNat o), .int (Int32.ofNat len)]) (rest := []) rfl rfl (by show 2 * 0 + 0 ≤ _; decide) (hb hbytes d36) (⟨rfl, hA.mv X5.warmed.alike hh5, l1, l2, hp⟩)
  obtain ⟨e8, z8⟩ := E8
  obtain ⟨rfl, N, n1, n2, n3, n4, n5, n6⟩ := NewArr.mv _ T5 s _ _ hh5.symm (Vm.Alike.refl _) rfl e8
  rw [hh5] at z8
  have hB1 := hB.keep X8.warmed.alike (n6 _ _ hB.1)
  have hne : s.heap.size ≠ a := (Nat.ne_of_lt (Array.getElem?_eq_some_iff.mp hB.1).1).symm
  have c9 : Steps p.tables e below (s₁.setTop (entryFrame m #[.ref a, .ref b, .int (Int32.ofNat o), .int (Int32.ofNat len), .null] 6)) (T8.setTop (mkF m 39 #[.val (.ref a), .val (.ref b), .val (.int (Int32.ofNat o)), .val (.int (Int32.ofNat len)), .val .null, .unset] [.ref s.heap.size])) := g8
  have c10 : Steps p.tables e below (s₁.setTop (entryFrame m #[.ref a, .ref b, .int (Int32.ofNat o), .int (Int32.ofNat len), .null] 6)) (T8.setTop (mkF m 45 #[.val (.ref a), .val (.ref b), .val (.int (Int32.ofNat o)), .val (.int (Int32.ofNat len)), .val .null, .val (.ref s.heap.size)] [.int (Int32.ofNat N.slots.size), .ref s.heap.size, .ref a])) := by
    have hc : Steps p.tables e below (s₁.setTop (entryFrame m #[.ref a, .ref b, .int (Int32.ofNat o), .int (Int32.ofNat len), .null] 6)) (T8.setTop (mkF m 45 #[.val (.ref a), .val (.ref b), .val (.int (Int32.ofNat o)), .val (.int (Int32.ofNat len)), .val .null, .val (.ref s.heap.size)] [.int (Int32.ofNat len), .ref s.heap.size, .ref a])) := c9.trans (by
      refine XS.astore X8.here hexec rfl (hb hbytes d39) rfl rfl rfl ?_
      refine XS.aloadN X8.here hexec rfl (hb hbytes d41) rfl rfl ?_
      refine XS.aload X8.here hexec rfl (hb hbytes d42) rfl rfl ?_
      refine XS.iloadN X8.here hexec rfl (hb hbytes d44) rfl ?_
      exact Steps.refl _)
    rw [n4]; exact hc
  obtain ⟨v11, T11, X11, E11, g11⟩ := X8.callS hexec (CodL.law l s.heap.size N) hown (wks W (staticW "java/lang/String" 47 CodL.yN)) (wk W CodL.tab) (W := 1) (Nat.le_of_ble_eq_true rfl) (Nat.le_of_ble_eq_true rfl) (Nat.le_refl _) (by show 0 + len + 0 ≤ len; omega) (g := (mkF m 45 #[.val (.ref a), .val (.ref b), .val (.int (Int32.ofNat o)), .val (.int (Int32.ofNat len)), .val .null, .val (.ref s.heap.size)] [.int (Int32.ofNat N.slots.size), .ref s.heap.size, .ref a])) rfl (by rw [hml]; rfl) c10 (argsL := [.ref s.heap.size, .int (Int32.ofNat N.slots.size)]) (rest := [.ref a]) rfl rfl (by show 2 * 0 + (1 + 0) ≤ _; decide) (hb hbytes d45) (⟨rfl, n1⟩)
  obtain ⟨rfl, q11⟩ := E11
  have hB11 := hB1.mv (X8.warmed.alike.symm.trans X11.warmed.alike) q11
  have c12 : Steps p.tables e below (s₁.setTop (entryFrame m #[.ref a, .ref b, .int (Int32.ofNat o), .int (Int32.ofNat len), .null] 6)) (T11.setTop (mkF m 48 #[.val (.ref a), .val (.ref b), .val (.int (Int32.ofNat o)), .val (.int (Int32.ofNat len)), .val .null, .val (.ref s.heap.size)] [.int 0, .ref a])) := g11
  obtain ⟨T13, X13, p13, bl13, sl13, st13⟩ := X11.finit hexec hown (wk W (.fieldLink "java/lang/String" 15 "java/lang/String" "coder" "B")) (Or.inr ⟨_, (wk W (.laysFinal "java/lang/String" "java/lang/String" "coder" "B"))⟩) (Or.inl ⟨rfl, hnm⟩) f2 (Or.inl rfl) hB11 (t := .byte) (by decide +kernel) rfl (g := (mkF m 48 #[.val (.ref a), .val (.ref b), .val (.int (Int32.ofNat o)), .val (.int (Int32.ofNat len)), .val .null, .val (.ref s.heap.size)] [.int 0, .ref a])) rfl (rest := []) rfl (hb hbytes d48)
  have c14 : Steps p.tables e below (s₁.setTop (entryFrame m #[.ref a, .ref b, .int (Int32.ofNat o), .int (Int32.ofNat len), .null] 6)) (T13.setTop (mkF m 54 #[.val (.ref a), .val (.ref b), .val (.int (Int32.ofNat o)), .val (.int (Int32.ofNat len)), .val .null, .val (.ref s.heap.size)] [.ref s.heap.size, .ref a])) := (c12.trans (st13 _ (Steps.refl _))).trans (by
    refine XS.aloadN X13.here hexec rfl (hb hbytes d51) rfl rfl ?_
    refine XS.aload X13.here hexec rfl (hb hbytes d52) rfl rfl ?_
    exact Steps.refl _)
  obtain ⟨T15, X15, p15, bl15, sl15, st15⟩ := X13.finit hexec hown (wk W (.fieldLink "java/lang/String" 9 "java/lang/String" "value" "[B")) (Or.inr ⟨_, (wk W (.laysFinal "java/lang/String" "java/lang/String" "value" "[B"))⟩) (Or.inl ⟨rfl, hnm⟩) f1 (Or.inl rfl) bl13 (t := (.array .byte)) (by decide +kernel) rfl (g := (mkF m 54 #[.val (.ref a), .val (.ref b), .val (.int (Int32.ofNat o)), .val (.int (Int32.ofNat len)), .val .null, .val (.ref s.heap.size)] [.ref s.heap.size, .ref a])) rfl (rest := []) rfl (hb hbytes d54)
  have c16 : Steps p.tables e below (s₁.setTop (entryFrame m #[.ref a, .ref b, .int (Int32.ofNat o), .int (Int32.ofNat len), .null] 6)) (T15.setTop (mkF m 57 #[.val (.ref a), .val (.ref b), .val (.int (Int32.ofNat o)), .val (.int (Int32.ofNat len)), .val .null, .val (.ref s.heap.size)] [])) := c14.trans (st15 _ (Steps.refl _))
  have ap := apart (Or.inr ⟨_, (wk W (.laysFinal "java/lang/String" "java/lang/String" "value" "[B"))⟩) (Or.inr ⟨_, (wk W (.laysFinal "java/lang/String" "java/lang/String" "coder" "B"))⟩) f1 f2 (t₁ := .array .byte) (t₂ := .byte) (by decide +kernel) (by decide +kernel) (by decide)
  have al := X8.warmed.alike.symm.trans X15.warmed.alike
  have n7 : T11.heap[s.heap.size]? = some N := by rw [q11]; exact n1.1
  exact ⟨T15, none, _, _, _, X15, by simp, rfl, by omega, (fun _ => rfl), ⟨rfl, _, N, bl15, ((Same.refl D _).set _ (by simp)).set _ (by simp), sl15, (Cell.slots_setSlot_ne _ ap).trans sl13, n1.keep al (p15.other hne (p13.other hne n7)), n2, by rw [al.findClass]; exact n3, n4, n5, fun y c h1 h2 => p15.other h1 (p13.other h1 (by rw [q11]; exact n6 y c h2)), by rw [p15.2.2, p13.2.2, q11]; exact z8⟩, fun fs hl => c16.trans (X15.returnOut hexec hret (hb hbytes d57) hl)⟩
end New4
namespace New1
def yN : MethodName := ⟨"java/lang/String", "<init>", "([C)V"⟩
abbrev yB : ByteArray := jdk_42_method_3_code
theorem d0 : decode yB 0 = .ok (.aload_n 0, 1) := by decide +kernel
theorem d1 : decode yB 1 = .ok (.aload_n 1, 1) := by decide +kernel
theorem d2 : decode yB 2 = .ok (.iconst 0, 1) := by decide +kernel
theorem d3 : decode yB 3 = .ok (.aload_n 1, 1) := by decide +kernel
theorem d4 : decode yB 4 = .ok (.arraylength, 1) := by decide +kernel
theorem d5 : decode yB 5 = .ok (.aconst_null, 1) := by decide +kernel
theorem d6 : decode yB 6 = .ok (.invokespecial 27, 3) := by decide +kernel
theorem d9 : decode yB 9 = .ok (.return_, 1) := by decide +kernel
def site : List Cond := [New4.tab] ++ initW "java/lang/String" 27 New4.yN
def tab : Cond := tabOf yN yB 2 none site
def P (a : Addr) (D : Cell) (fV fC : Field) (b : Addr) (A : Cell) (z : Int32) (args : Array Value) (s : State) : Prop := args = #[.ref a, .ref b] ∧ Blank "java/lang/String" a D s ∧ Found "java/lang/String" "value" "[B" fV s ∧ Found "java/lang/String" "coder" "B" fC s ∧ Ch b A s ∧ StaticIs s "java/lang/String" "COMPACT_STRINGS" "Z" (.int z) ∧ ¬ z = 0 ∧ 0 < A.slots.size ∧ A.slots.size ≤ 536870912 ∧ ∀ i, i < A.slots.size → ¬ 255 < cv A i
def E (a : Addr) (D : Cell) (fV fC : Field) (A : Cell) (r : Option Value) (s u : State) : Prop := Got a D fV fC A 0 A.slots.size r s u
/-- new String(chars), not empty, no char above 255: a Latin-1 String of their low bytes -/
theorem law (l : Launch) (a : Addr) (D : Cell) (fV fC : Field) (b : Addr) (A : Cell) (z : Int32) : Law l yN 2 1 3 52 yB 2 none site (P a D fV fC b A z) (E a D fV fC A) [⟨a, fC.slot⟩, ⟨a, fV.slot⟩] 1 A.slots.size := by
  refine Law.of_walk (plainFor_of_name (by decide +kernel)) (by decide +kernel) (by decide +kernel) (by decide) (fun _ _ h => by rw [h.1]; rfl) (fun _ U U' hal hh h => ⟨h.1, h.2.1.mv hal hh, h.2.2.1.al hal, h.2.2.2.1.al hal, h.2.2.2.2.1.mv hal hh, h.2.2.2.2.2.1.there hal hh, h.2.2.2.2.2.2⟩) (fun r U U' V V' h1 hal h2 h => Got.mv r U U' V V' h1 hal h2 h) ?_
  intro p e s m args below meth c s₁ X0 hexec hbytes hml hret hlk hnm hown hh0 W hP
  obtain ⟨rfl, hB, f1, f2, hA, s1, hz, l0, l2, hp⟩ := hP
  have c1 : Steps p.tables e below (s₁.setTop (entryFrame m #[.ref a, .ref b] 2)) (s₁.setTop (mkF m 0 #[.val (.ref a), .val (.ref b)] [])) := entry rfl
  have c2 : Steps p.tables e below (s₁.setTop (entryFrame m #[.ref a, .ref b] 2)) (s₁.setTop (mkF m 6 #[.val (.ref a), .val (.ref b)] [.null, .int (Int32.ofNat A.slots.size), .int 0, .ref b, .ref a])) := c1.trans (by
    refine XS.aloadN X0.here hexec rfl (hb hbytes d0) rfl rfl ?_
    refine XS.aloadN X0.here hexec rfl (hb hbytes d1) rfl rfl ?_
    refine iconstV X0.here hexec rfl 0 (hb hbytes d2) (by decide) ?_
    refine XS.aloadN X0.here hexec rfl (hb hbytes d3) rfl rfl ?_
    refine X0.alen hexec (hA.1.mv X0.warmed.alike hh0) rfl rfl (hb hbytes d4) ?_
    refine XS.aconstNull X0.here hexec rfl (hb hbytes d5) ?_
    exact Steps.refl _)
  obtain ⟨v3, T3, X3, E3, g3⟩ := X0.callN hexec (New4.law l a D fV fC b A z 0 A.slots.size) rfl hown (wks W (initW "java/lang/String" 27 New4.yN)) (W New4.tab (by simp only [site, List.mem_cons, List.mem_append, true_or, or_true])) (W := 0) (Nat.le_of_ble_eq_true rfl) (Nat.le_of_ble_eq_true rfl) (Nat.le_refl _) (by show 0 + A.slots.size ≤ A.slots.size; omega) (g := (mkF m 6 #[.val (.ref a), .val (.ref b)] [.null, .int (Int32.ofNat A.slots.size), .int (Int32.ofNat 0), .ref b, .ref a])) rfl (by rw [hml]; rfl) c2 (argsL := [.ref b, .int (Int32.ofNat 0), .int (Int32.ofNat A.slots.size), .null]) (rest := []) rfl rfl (by show 2 * 0 + 0 ≤ _; decide) (hb hbytes d6) (⟨rfl, hB.mv X0.warmed.alike hh0, f1.al X0.warmed.alike, f2.al X0.warmed.alike, hA.mv X0.warmed.alike hh0, s1.there X0.warmed.alike hh0, hz, l0, by omega, l2, fun i hi => by rw [Nat.zero_add]; exact hp i hi⟩)
  have e0 := Got.mv _ s₁ s _ _ hh0.symm (Vm.Alike.refl _) rfl E3
  obtain rfl := e0.1
  have c4 : Steps p.tables e below (s₁.setTop (entryFrame m #[.ref a, .ref b] 2)) (T3.setTop (mkF m 9 #[.val (.ref a), .val (.ref b)] [])) := g3
  exact ⟨T3, none, _, _, _, X3, by simp, rfl, by omega, (fun _ => rfl), e0, fun fs hl => c4.trans (X3.returnOut hexec hret (hb hbytes d9) hl)⟩
theorem pays {l : Launch} {R : Room} {p : Program} {e : Env} {below : List Frame} {s : State} {sargs : Array Value} {len W : Nat} (a : Addr) (D : Cell) (fV fC : Field) (b : Addr) (A : Cell) (z : Int32) (htab : tab.before sargs s = true) (hfr : 4 ≤ R.frames) (hlo : W + 65 ≤ R.locals) :
    Back l R p e below s sargs yN len W (fun A₁ a₁ => A₁.cells + 1 ≤ R.cells ∧ A₁.slots + A.slots.size ≤ R.slots ∧ P a D fV fC b A z a₁ A₁.U) (fun A₁ _ v₁ B₁ => E a D fV fC A v₁ A₁.U B₁.U ∧ B₁.locs = A₁.locs ++ [⟨a, fC.slot⟩, ⟨a, fV.slot⟩] ∧ B₁.cells = A₁.cells + 1 ∧ B₁.slots = A₁.slots + A.slots.size) :=
  (law l a D fV fC b A z).pays htab hfr (by omega)
end New1
/-- the byte, read back as charAt reads it, is the char -/
theorem lo8_mask {x : Int32} (h0 : ¬ x < 0) (h1 : ¬ 255 < x) : lo8 x &&& 255 = x := by
  have t : ∀ k : Fin 256, lo8 (Int32.ofNat k.val) &&& 255 = Int32.ofNat k.val := by decide +kernel
  rw [Int32.lt_iff_toInt_lt] at h0 h1
  have e0 : (0 : Int32).toInt = 0 := rfl
  have e1 : (255 : Int32).toInt = 255 := rfl
  obtain ⟨k, hk⟩ : ∃ k : Nat, x.toInt = k := ⟨x.toInt.toNat, by omega⟩
  have hx : x = Int32.ofNat k := Int32.toInt_inj.mp (by rw [hk, Int32.toInt_ofNat_small (by omega)])
  rw [hx]
  exact t ⟨k, by omega⟩
end StrChars
namespace StrChars.Road
open Jvm Sem ClassFile Op Lib Jvm.Stand Jvm.Free Jvm.Free.XT
open Jvm.Lib.Cold (StaticIs)
abbrev ST : String := "java/lang/String"
/-- every table word that New1's law asks, flat -/
abbrev words : List Jvm.Cond := [.code New1.yN New1.yB 2 none, .initialized ST, .methodLink ST 27 New4.yN, .instanceMethod New4.yN,
  .code New4.yN New4.yB 6 none, .fieldLink ST 38 ST "COMPACT_STRINGS" "Z", .laysFinal ST ST "value" "[B", .fieldLink ST 9 ST "value" "[B", .laysFinal ST ST "coder" "B", .fieldLink ST 15 ST "coder" "B",
  .methodLink ST 1 Lib.objectInit, .instanceMethod Lib.objectInit, .code Lib.objectInit ⟨#[0xb1]⟩ 1 none, .methodLink ST 177 Cmp3.yN, .static Cmp3.yN, .methodLink ST 47 CodL.yN, .static CodL.yN,
  .code Cmp3.yN Cmp3.yB 6 (some (.array .byte)), .initialized U16, .arrayClass .byte, .methodLink U16 115 Cmp5.yN, .static Cmp5.yN, .code Cmp5.yN Cmp5.yB 7 (some .int), .code CodL.yN CodL.yB 2 (some .byte)]
theorem tab_of {a : Array Value} {s : State} (h : ∀ w ∈ words, w.before a s = true) : New1.tab.before a s = true := by
  have h5 : Cmp5.tab.before a s = true := unparts (wk h (.code Cmp5.yN Cmp5.yB 7 (some .int))) (wks h (.initialized Cmp5.yN.cls :: Cmp5.site))
  have hc : CodL.tab.before a s = true := unparts (wk h (.code CodL.yN CodL.yB 2 (some .byte))) (wks h (.initialized CodL.yN.cls :: CodL.site))
  have q5 : ∀ w ∈ Cmp5.tab :: words, w.before a s = true := fun w hw => (List.mem_cons.mp hw).elim (fun e => e ▸ h5) (h w)
  have h3 : Cmp3.tab.before a s = true := unparts (wk q5 (.code Cmp3.yN Cmp3.yB 6 (some (.array .byte)))) (wks q5 (.initialized Cmp3.yN.cls :: Cmp3.site))
  have q3 : ∀ w ∈ Cmp3.tab :: CodL.tab :: words, w.before a s = true := fun w hw => (List.mem_cons.mp hw).elim (fun e => e ▸ h3) fun hw => (List.mem_cons.mp hw).elim (fun e => e ▸ hc) (h w)
  have h4 : New4.tab.before a s = true := unparts (wk q3 (.code New4.yN New4.yB 6 none)) (wks q3 (.initialized New4.yN.cls :: New4.site))
  have q4 : ∀ w ∈ New4.tab :: words, w.before a s = true := fun w hw => (List.mem_cons.mp hw).elim (fun e => e ▸ h4) (h w)
  exact unparts (wk q4 (.code New1.yN New1.yB 2 none)) (wks q4 (.initialized New1.yN.cls :: New1.site))
/-- the words ride from the start Z to the walk's own state -/
theorem moved {Z s : State} {a0 args : Array Value} (hZ : Z.Warmed39 s.vm) (hw : ∀ d ∈ words, d.before a0 Z = true) : ∀ d ∈ words, d.before args s = true := fun d hd => by
  have q := hw d hd
  have t : ∀ d ∈ words, d = .arrayClass .byte ∨ (d.onTables && d.keepsFace) = true := by decide +kernel
  rcases t d hd with rfl | t
  · exact RoadKit.mvA hZ q
  · exact RoadKit.mv hZ q t
/-- WHAT COMES BACK, over the tables of the start Z: h the heap at the call, h' behind it -/
def Q (Z : State) (x : Addr) (A : Cell) (h : Heap) (v : Option Value) (h' : Heap) (L : List Loc) : Prop := v = none ∧ (∀ y ∈ L, y.base = x) ∧ RoadKit.Keep h h' [x] ∧ h'.size = h.size + 1 ∧ RoadKit.Exa Z h' x ST ∧ RoadKit.Fld Z h' x ST "value" "[B" (.ref h.size) ∧ RoadKit.Fld Z h' x ST "coder" "B" (.int 0) ∧
  (∃ V : Cell, RoadKit.Arr Z h' h.size V .byte ∧ V.vm = .none ∧ Z.vm.findClass "[B" = some V.cls ∧ V.slots.size = A.slots.size ∧ ∀ j, j < A.slots.size → V.slots[j]? = some (.int (lo8 (cv A j)))) ∧
  ∀ (O n d : String) (w : Value), RoadKit.Fld Z h x O n d w → RoadKit.slotOf Z O n d ≠ RoadKit.slotOf Z ST "value" "[B" → RoadKit.slotOf Z O n d ≠ RoadKit.slotOf Z ST "coder" "B" → RoadKit.Fld Z h' x O n d w
/-- **new String(chars) AT A CALL, IN THE ROAD'S FORM**: for specialBack behind newO: x the fresh String, b the char[] with the cell A -/
theorem back {p : Program} {l : Launch} {e : Env} {R : Room} {s : State} {args : Array Value} {below : List Frame} {len W : Nat} {Z : State} {a0 : Array Value} {h : Heap} (hZ : Z.Warmed39 s.vm) (hw : ∀ d ∈ words, d.before a0 Z = true) {kI : Nat} (wi : (Jvm.Cond.instantiable ST kI).before a0 Z = true)
    {x b : Addr} {A : Cell} {z : Int32} {v0 c0 : Value} (E : RoadKit.Exa Z h x ST) (V : RoadKit.Fld Z h x ST "value" "[B" v0) (C : RoadKit.Fld Z h x ST "coder" "B" c0) (K : RoadKit.Arr Z h b A .char) (hty : Typed .char A) (S : RoadKit.Sta Z h ST "COMPACT_STRINGS" "Z" (.int z)) (hz : ¬ z = 0)
    (l0 : 0 < A.slots.size) (l2 : A.slots.size ≤ 536870912) (hp : ∀ i, i < A.slots.size → ¬ 255 < cv A i) (hfr : 4 ≤ R.frames) (hlo : W + 65 ≤ R.locals) :
    Back l R p e below s args New1.yN len W (fun P a => a = #[.ref x, .ref b] ∧ P.U.heap = h ∧ P.cells + 1 ≤ R.cells ∧ P.slots + A.slots.size ≤ R.slots)
      (fun P _ v B => ∃ L, Q Z x A h v B.U.heap L ∧ B.locs = P.locs ++ L ∧ B.cells = P.cells + 1 ∧ B.slots = P.slots + A.slots.size) := by
  intro m meth c P g ig mk a X hg hsize hdg hW hn hp'
  obtain ⟨rfl, rfl, r1, r2⟩ := hp'
  have al : Z.vm.Alike P.U.vm := hZ.alike.trans X.warmed.alike
  obtain ⟨D, cfV, kV, iV, fV, hD, gV, stV, knV, obV, asV, slV⟩ := id V
  obtain ⟨D', cfC, kC, iC, fC, hD', gC, stC, -, -, asC, slC⟩ := id C
  cases hD.symm.trans hD'
  obtain ⟨D2, kD, e1, e2, e3, e4, e5⟩ := id E
  cases hD.symm.trans e1
  obtain ⟨c2, k2, i1, i2, i3, -⟩ := Cond.instantiable_spec wi
  cases e2.symm.trans i1
  cases e3.symm.trans i2
  obtain ⟨kU, u1, u2⟩ := al.2.2 _ _ e3
  have hB : Blank ST x D P.U := ⟨hD, ⟨knV, fun q hq => by rw [hq] at obV; cases obV⟩, by rw [al.findClass]; exact e2, kU, u1, by rw [u2]; exact i3, by rw [u2]; exact e5 i3⟩
  have F1 : Found ST "value" "[B" fV P.U := ⟨SBG.found_only al ⟨cfV, kV, iV, gV⟩, stV⟩
  have F2 : Found ST "coder" "B" fC P.U := ⟨SBG.found_only al ⟨cfC, kC, iC, gC⟩, stC⟩
  have hA : Ch b A P.U := ⟨⟨K.1, State.isArrayOf_alike al K.2.1, K.2.2, by omega⟩, hty⟩
  have hS : StaticIs P.U ST "COMPACT_STRINGS" "Z" (.int z) := by
    obtain ⟨cfS, iS, kS, fS, st, cS, t1, t2, t3, t4, t5, t6, t7⟩ := S
    exact StaticIs.there (s := { Z with heap := P.U.heap }) ⟨cfS, iS, kS, fS, st, cS, t1, t2, t3, t4, t5, (fun q => by rw [q] at t6; cases t6), t7⟩ al rfl
  obtain ⟨v, B, X', ⟨⟨hv, E', V', q1, q2, q3, q4, q5, q6, q7, q8, q9, q10, q11⟩, hl, hc, hs⟩, st⟩ := New1.pays x D fV fC b A z (tab_of (moved hZ hw)) hfr hlo m meth c P g ig mk _ X hg hsize hdg hW hn ⟨r1, r2, rfl, hB, F1, F2, hA, hS, hz, l0, l2, hp⟩
  have al' : Z.vm.Alike B.U.vm := hZ.alike.trans X'.warmed.alike
  have hsz : E'.slots.size = D.slots.size := by
    obtain ⟨-, -, -, kB, w1, w2, w3⟩ := q1
    obtain ⟨kB', y1, y2⟩ := al'.2.2 _ _ e3
    rw [q2.2.1] at w1
    cases w1.symm.trans y1
    rw [w3, e5 i3, y2]
  refine ⟨v, B, X', ⟨_, ⟨hv, ?_, ⟨by omega, fun y cy hy hn' => q10 y cy (by simpa using hn') hy, fun y cy hy => ?_⟩, q11, ⟨E', _, q1.1, by rw [q2.2.1]; exact e2, by rw [q2.2.1]; exact e3, by rw [q2.1]; exact obV, fun _ => by rw [hsz]; exact e5 i3⟩,
    ⟨E', cfV, kV, iV, fV, q1.1, gV, stV, by rw [q2.1]; exact knV, by rw [q2.1]; exact obV, by rw [q2.2.1]; exact asV, q3⟩, ⟨E', cfC, kC, iC, fC, q1.1, gC, stC, by rw [q2.1]; exact knV, by rw [q2.1]; exact obV, by rw [q2.2.1]; exact asC, q4⟩,
    ⟨V', ⟨q5.1, State.isArrayOf_alike al'.symm q5.2.1, q5.2.2.1⟩, q6, by rw [← al'.findClass]; exact q7, q8, fun j hj => by have := q9 j hj; rwa [Nat.zero_add] at this⟩, fun O n d w F n1 n2 => ?_⟩, hl, hc, hs⟩, st⟩
  · intro y hy
    simp only [List.mem_cons, List.not_mem_nil, or_false] at hy
    rcases hy with rfl | rfl <;> rfl
  · by_cases q : y = x
    · subst q
      cases hD.symm.trans hy
      exact ⟨E', q1.1, q2.2.1, q2.1, hsz⟩
    · exact ⟨cy, q10 y cy q hy, rfl, rfl, rfl⟩
  · obtain ⟨D3, cf, k, i, f, g1, g2, g3, g4, g5, g6, g7⟩ := F
    cases hD.symm.trans g1
    simp only [RoadKit.slotOf, g2, gV, gC, Option.map_some, Option.getD_some] at n1 n2
    exact ⟨E', cf, k, i, f, q1.1, g2, g3, by rw [q2.1]; exact g4, by rw [q2.1]; exact g5, by rw [q2.2.1]; exact g6, by rw [q2.2.2 f.slot (by simp [n1, n2])]; exact g7⟩
end StrChars.Road
namespace StrChars.Road
open Jvm Sem ClassFile Op Lib Jvm.Stand Jvm.Free Jvm.Free.XT
/-- WHAT COMES BACK, the byte[] as a list of values -/
def QA (Z : State) (x : Addr) (zn : Int32) (cs : List Int32) (h : Heap) (v : Option Value) (h' : Heap) (L : List Loc) : Prop := v = none ∧ (∀ y ∈ L, y.base = x) ∧ RoadKit.Keep h h' [x] ∧ h'.size = h.size + 1 ∧ RoadKit.Exa Z h' x ST ∧ RoadKit.Fld Z h' x ST "value" "[B" (.ref h.size) ∧ RoadKit.Fld Z h' x ST "coder" "B" (.int 0) ∧
  (∃ kb, Z.vm.findClass "[B" = some kb ∧ RoadKit.Arv Z h' h.size kb .byte zn (cs.map fun c => .int (lo8 c)) (.int 0)) ∧
  ∀ (O n d : String) (w : Value), RoadKit.Fld Z h x O n d w → RoadKit.slotOf Z O n d ≠ RoadKit.slotOf Z ST "value" "[B" → RoadKit.slotOf Z O n d ≠ RoadKit.slotOf Z ST "coder" "B" → RoadKit.Fld Z h' x O n d w
/-- **new String(chars) AT A CALL, THE ARRAYS AS LISTS**: the char[] at b holds cs, not empty, no char above 255 -/
theorem backArv {p : Program} {l : Launch} {e : Env} {R : Room} {s : State} {args : Array Value} {below : List Frame} {len W : Nat} {Z : State} {a0 : Array Value} {h : Heap} (hZ : Z.Warmed39 s.vm) (hw : ∀ d ∈ words, d.before a0 Z = true) {kI : Nat} (wi : (Jvm.Cond.instantiable ST kI).before a0 Z = true)
    {x b : Addr} {k : ClassId} {zn z : Int32} {cs : List Int32} {dv v0 c0 : Value} (E : RoadKit.Exa Z h x ST) (V : RoadKit.Fld Z h x ST "value" "[B" v0) (C : RoadKit.Fld Z h x ST "coder" "B" c0) (K : RoadKit.Arv Z h b k .char zn (cs.map Value.int) dv) (S : RoadKit.Sta Z h ST "COMPACT_STRINGS" "Z" (.int z)) (hz : ¬ z = 0)
    (hlen : zn.toNatClampNeg = cs.length) (h0 : 0 < cs.length) (hbig : cs.length ≤ 536870912) (hall : ∀ c ∈ cs, ¬ 255 < c) (hfr : 4 ≤ R.frames) (hlo : W + 65 ≤ R.locals) :
    Back l R p e below s args New1.yN len W (fun P a => a = #[.ref x, .ref b] ∧ P.U.heap = h ∧ P.cells + 1 ≤ R.cells ∧ P.slots + cs.length ≤ R.slots)
      (fun P _ v B => ∃ L, QA Z x zn cs h v B.U.heap L ∧ B.locs = P.locs ++ L ∧ B.cells = P.cells + 1 ∧ B.slots = P.slots + cs.length) := by
  obtain ⟨A, K1, K2, K3, K4, K5, K6⟩ := K
  have e : A.slots.size = cs.length := K3.trans hlen
  have hat : ∀ (i : Nat) (hi : i < cs.length), A.slots[i]? = some (.int cs[i]) := fun i hi => by rw [K5 i (by omega)]; simp [List.getD_eq_getElem?_getD, hi]
  have hcv : ∀ (i : Nat) (hi : i < cs.length), cv A i = cs[i] := fun i hi => by unfold cv; rw [hat i hi]
  have hty : Typed .char A := fun i v hv => by
    have hi : i < A.slots.size := (Array.getElem?_eq_some_iff.mp hv).1
    have q := K5 i hi
    rw [hv] at q
    rw [Option.some.inj q]
    exact K6 i hi
  refine Back.mono (back hZ hw wi E V C K1 hty S hz (by omega) (by omega) (fun i hi => by rw [hcv i (by omega)]; exact hall _ (List.getElem_mem _)) hfr hlo) (fun P a hp => ⟨hp.1, hp.2.1, hp.2.2.1, by rw [e]; exact hp.2.2.2⟩) (fun P a v B hp hq => ?_)
  obtain ⟨L, ⟨q1, q2, q3, q4, q5, q6, q7, ⟨V', v1, v2, v3, v4, v5⟩, q9⟩, hl, hc, hs⟩ := hq
  refine ⟨L, ⟨q1, q2, q3, q4, q5, q6, q7, ⟨V'.cls, v3, V', v1, rfl, by rw [v4, e, hlen], K4, fun i hi => ?_, fun i hi => ?_⟩, q9⟩, hl, hc, by rw [hs, e]⟩
  · have hi' : i < cs.length := by omega
    rw [v5 i (by omega), hcv i hi']; simp [List.getD_eq_getElem?_getD, hi']
  · have hi' : i < cs.length := by omega
    simp only [List.getD_eq_getElem?_getD, List.getElem?_map, List.getElem?_eq_getElem hi', Option.map_some, Option.getD_some]
    exact fits_lo8 _
end StrChars.Road
namespace StrChars.Road
open Jvm Sem ClassFile Op Lib Jvm.Stand Jvm.Free Jvm.Free.XT
/-- WHAT COMES BACK, in the writer's own shape -/
def QV (Z : State) (x : Addr) (N : Int32) (bs : List Int32) (h : Heap) (n0 : Nat) (v : Option Value) (h' : Heap) (L : List Loc) : Prop := v = none ∧ RoadKit.Fr n0 L ∧ RoadKit.Keep h h' [x] ∧ RoadKit.Exa Z h' x ST ∧ RoadKit.Fld Z h' x ST "coder" "B" (.int 0) ∧
  ∃ (t : Addr) (kb : ClassId), n0 ≤ t ∧ h.size ≤ t ∧ ¬ t = x ∧ RoadKit.Fld Z h' x ST "value" "[B" (.ref t) ∧ RoadKit.Arv Z h' t kb .byte N (bs.map Value.int) (.int 0)
/-- **new String(chars) AT A CALL, FOR THE WRITER**: a char[] of n known ints, each 0 to 255 -/
theorem backV {p : Program} {l : Launch} {e : Env} {R : Room} {s : State} {args : Array Value} {below : List Frame} {len W : Nat} {Z : State} {a0 : Array Value} {h : Heap} (hZ : Z.Warmed39 s.vm) (hw : ∀ d ∈ words, d.before a0 Z = true) {kI : Nat} (wi : (Jvm.Cond.instantiable ST kI).before a0 Z = true)
    {x b : Addr} {kC : ClassId} {cs bs : List Int32} {d v0 c0 : Value} {z N : Int32} {n n0 : Nat} (hx0 : n0 ≤ x) (hh0 : n0 ≤ h.size) (E : RoadKit.Exa Z h x ST) (V : RoadKit.Fld Z h x ST "value" "[B" v0) (C : RoadKit.Fld Z h x ST "coder" "B" c0) (K : RoadKit.Arv Z h b kC .char N (cs.map Value.int) d) (S : RoadKit.Sta Z h ST "COMPACT_STRINGS" "Z" (.int z)) (hz : ¬ z = 0)
    (hn : cs.length = n) (hN : N = Int32.ofNat n) (l0 : 0 < n) (l2 : n ≤ 4000) (hp : ∀ c ∈ cs, ¬ c < 0 ∧ ¬ (255 : Int32) < c) (hb : bs = cs.map (fun c => c.toInt8.toInt32)) (hfr : 4 ≤ R.frames) (hlo : W + 65 ≤ R.locals) :
    Back l R p e below s args (⟨"java/lang/String", "<init>", "([C)V"⟩ : MethodName) len W (fun P a => a = #[.ref x, .ref b] ∧ P.U.heap = h ∧ P.cells + 1 ≤ R.cells ∧ P.slots + n ≤ R.slots)
      (fun P _ v B => ∃ L, QV Z x N bs h n0 v B.U.heap L ∧ B.locs = P.locs ++ L ∧ B.cells = P.cells + 1 ∧ B.slots = P.slots + n) := by
  subst hn hN hb
  refine Back.mono (backArv hZ hw wi E V C K S hz (n32 (by omega)) l0 (by omega) (fun c hc => (hp c hc).2) hfr hlo) (fun P a hp => hp) (fun P a v B hp hq => ?_)
  obtain ⟨L, ⟨q1, q2, q3, q4, q5, q6, q7, ⟨kb, v1, v2⟩, q9⟩, hl, hc, hs⟩ := hq
  exact ⟨L, ⟨q1, fun y hy => by rw [q2 y hy]; exact hx0, q3, q5, q7, h.size, kb, hh0, Nat.le_refl _, Nat.ne_of_gt E.lt, q6, by rw [List.map_map]; exact v2⟩, hl, hc, hs⟩
end StrChars.Road
namespace StrChars
open Jvm Sem ClassFile Op Lib Jvm.Stand Jvm.Free.XT Jvm.Free.ALB Jvm.Free.JM Jvm.Free
open Jvm.Lib.Cold (StaticIs)
def hi8 (x : Int32) : Int32 := lo8 (x >>> ((8 : Int32) &&& 31))
/-- what StringUTF16.getChar makes of two bytes -/
def pairCh (u v : Int32) : Int32 := (((u &&& 255) <<< ((0 : Int32) &&& 31)) ||| ((v &&& 255) <<< ((8 : Int32) &&& 31))).toUInt32.toUInt16.toUInt32.toInt32
theorem lo8_and (x : Int32) : (lo8 x &&& 255).toBitVec.toNat = x.toBitVec.toNat % 256 := by
  have h : (lo8 x).toBitVec = (x.toBitVec.signExtend 8).signExtend 32 := by rw [lo8, Int8.toBitVec_toInt32, Int32.toBitVec_toInt8]
  rw [Int32.toBitVec_and, BitVec.toNat_and, h]
  have e : ((x.toBitVec.signExtend 8).signExtend 32).toNat % 256 = x.toBitVec.toNat % 256 := by
    rw [BitVec.toNat_signExtend]
    have hlt := x.toBitVec.isLt
    simp only [BitVec.toNat_setWidth, BitVec.toNat_signExtend]
    split <;> split <;> omega
  rw [← e]
  exact Nat.and_two_pow_sub_one_eq_mod _ 8
theorem pair_says {c : Int32} (h0 : ¬ c < 0) (h1 : ¬ 65535 < c) : pairCh (lo8 c) (hi8 c) = c := by
  rw [Int32.lt_iff_toInt_lt] at h0 h1
  have e0 : (0 : Int32).toInt = 0 := rfl
  have e1 : (65535 : Int32).toInt = 65535 := rfl
  have hc : c.toInt = c.toBitVec.toNat := by
    have := c.toBitVec.isLt
    have e : c.toInt = c.toBitVec.toInt := rfl
    rw [e] at h0 h1
    rw [e]
    rw [BitVec.toInt_eq_toNat_cond] at h0 h1 ⊢
    split at h0 <;> split <;> omega
  have hn : c.toBitVec.toNat < 65536 := by omega
  have a1 := lo8_and c
  have a2 : (hi8 c &&& 255).toBitVec.toNat = c.toBitVec.toNat / 256 := by
    rw [hi8, lo8_and]
    have e : ((8 : Int32) &&& 31) = 8 := by decide
    rw [e, Int32.toBitVec_shiftRight]
    have e2 : ((8 : Int32).toBitVec.smod 32) = 8#32 := by decide
    rw [e2, BitVec.sshiftRight_eq', BitVec.toNat_sshiftRight_of_msb_false (by rw [BitVec.msb_eq_false_iff_two_mul_lt]; omega)]
    show c.toBitVec.toNat >>> 8 % 256 = _
    rw [Nat.shiftRight_eq_div_pow]
    omega
  unfold pairCh
  apply Int32.toBitVec_inj.mp
  apply BitVec.eq_of_toNat_eq
  have f0 : ((0 : Int32) &&& 31) = 0 := by decide
  have f8 : ((8 : Int32) &&& 31) = 8 := by decide
  rw [f0, f8]
  have g : (((lo8 c &&& 255) <<< (0 : Int32)) ||| ((hi8 c &&& 255) <<< (8 : Int32))).toBitVec.toNat = c.toBitVec.toNat := by
    rw [Int32.toBitVec_or, Int32.toBitVec_shiftLeft, Int32.toBitVec_shiftLeft]
    have s0 : ((0 : Int32).toBitVec.smod 32) = 0#32 := by decide
    have s8 : ((8 : Int32).toBitVec.smod 32) = 8#32 := by decide
    rw [s0, s8, BitVec.toNat_or]
    simp only [BitVec.shiftLeft_eq', BitVec.toNat_shiftLeft, a1, a2]
    show (c.toBitVec.toNat % 256) <<< 0 % 2 ^ 32 ||| (c.toBitVec.toNat / 256) <<< 8 % 2 ^ 32 = _
    rw [Nat.shiftLeft_zero, Nat.mod_eq_of_lt (show c.toBitVec.toNat % 256 < 2 ^ 32 by omega), Nat.mod_eq_of_lt (show (c.toBitVec.toNat / 256) <<< 8 < 2 ^ 32 by rw [Nat.shiftLeft_eq]; omega), Nat.or_comm, ← Nat.shiftLeft_add_eq_or_of_lt (by omega), Nat.shiftLeft_eq]
    omega
  show BitVec.toNat (((((lo8 c &&& 255) <<< (0 : Int32)) ||| ((hi8 c &&& 255) <<< (8 : Int32))).toBitVec.setWidth 16).setWidth 32) = _
  rw [BitVec.toNat_setWidth, BitVec.toNat_setWidth, g]
  omega
end StrChars
namespace StrChars
open Jvm Sem ClassFile Op Lib Jvm.Stand Jvm.Free.XT Jvm.Free.ALB Jvm.Free.JM Jvm.Free
open Jvm.Lib.Cold (StaticIs)
/-- the array's cell V codes the n chars f 0 .. f (n - 1) by the coder cd, as the JDK does: coder 1 just where some char is above 255 -/
def Cod (cd : Int32) (n : Nat) (f : Nat → Int32) (V : Cell) : Prop := (cd = 0 ∧ V.slots.size = n ∧ ∀ j, j < n → V.slots[j]? = some (.int (lo8 (f j))) ∧ ¬ 255 < f j) ∨ (cd = 1 ∧ V.slots.size = 2 * n ∧ (∀ j, j < n → V.slots[2 * j]? = some (.int (lo8 (f j))) ∧ V.slots[2 * j + 1]? = some (.int (hi8 (f j)))) ∧ ∃ j, j < n ∧ 255 < f j)
/-- **x is a String of the n chars f 0 .. f (n - 1)**, Latin-1 or UTF-16; its array at t has the cell V -/
def Txt (x t : Addr) (V : Cell) (cd : Int32) (n : Nat) (f : Nat → Int32) (U : State) : Prop := Exact "java/lang/String" x U ∧ Has x "java/lang/String" "value" "[B" (.ref t) U ∧ Has x "java/lang/String" "coder" "B" (.int cd) U ∧ XT.Arr .byte t V U ∧ Cod cd n f V ∧ ∀ j, j < n → ¬ f j < 0 ∧ ¬ 65535 < f j
theorem Txt.mv {x t : Addr} {V : Cell} {cd : Int32} {n : Nat} {f : Nat → Int32} {U U' : State} (h : Txt x t V cd n f U) (hal : U.vm.Alike U'.vm) (hh : U'.heap = U.heap) : Txt x t V cd n f U' := ⟨h.1.mv hal hh, h.2.1.mv hal hh, h.2.2.1.mv hal hh, h.2.2.2.1.mv hal hh, h.2.2.2.2⟩
end StrChars
namespace StrChars.Road
open Jvm Sem ClassFile Op Lib Jvm.Stand Jvm.Free Jvm.Free.XT
open Jvm.Lib.Cold (StaticIs)
theorem consq {a : Array Value} {s : State} {c : Jvm.Cond} {L : List Jvm.Cond} (h0 : c.before a s = true) (h : ∀ w ∈ L, w.before a s = true) : ∀ w ∈ c :: L, w.before a s = true := fun w hw => (List.mem_cons.mp hw).elim (fun e => e ▸ h0) (h w)
/-- the bytes of the chars cs, low before high -/
def wideBytes : List Int32 → List Value
  | [] => []
  | c :: cs => .int (lo8 c) :: .int (hi8 c) :: wideBytes cs
theorem wide_lo (d : Value) : ∀ (cs : List Int32) (j : Nat), j < cs.length → (wideBytes cs).getD (2 * j) d = .int (lo8 (cs.getD j 0))
  | [], j, h => absurd h (Nat.not_lt_zero j)
  | c :: cs, 0, _ => rfl
  | c :: cs, j + 1, h => by
    have q := wide_lo d cs j (by simpa using h)
    rw [show 2 * (j + 1) = 2 * j + 1 + 1 from by omega]
    simpa [wideBytes] using q
theorem wide_hi (d : Value) : ∀ (cs : List Int32) (j : Nat), j < cs.length → (wideBytes cs).getD (2 * j + 1) d = .int (hi8 (cs.getD j 0))
  | [], j, h => absurd h (Nat.not_lt_zero j)
  | c :: cs, 0, _ => rfl
  | c :: cs, j + 1, h => by
    have q := wide_hi d cs j (by simpa using h)
    rw [show 2 * (j + 1) + 1 = 2 * j + 1 + 1 + 1 from by omega]
    simpa [wideBytes] using q
theorem low_at (d : Value) (cs : List Int32) (j : Nat) (h : j < cs.length) : (cs.map fun c => Value.int (lo8 c)).getD j d = .int (lo8 (cs.getD j 0)) := by
  simp [List.getD_eq_getElem?_getD, h]
/-- an array of N2 bytes vs codes the chars cs by the coder cd -/
def CodA (cs : List Int32) (cd N2 : Int32) (vs : List Value) : Prop := (cd = 0 ∧ N2 = Int32.ofNat cs.length ∧ vs = (cs.map fun c => Value.int (lo8 c)) ∧ ∀ c ∈ cs, ¬ 255 < c) ∨ (cd = 1 ∧ N2 = Int32.ofNat (2 * cs.length) ∧ vs = wideBytes cs ∧ ∃ c ∈ cs, 255 < c)
theorem CodA.cod {cs : List Int32} {cd N2 : Int32} {vs : List Value} {V : Cell} (h : CodA cs cd N2 vs) (hn : 2 * cs.length < 2 ^ 31) (hs : V.slots.size = N2.toNatClampNeg) (hv : RoadKit.Has V vs (.int 0)) : Cod cd cs.length (fun j => cs.getD j 0) V := by
  rcases h with ⟨rfl, rfl, rfl, h⟩ | ⟨rfl, rfl, rfl, c, hc, hw⟩
  · rw [n32 (by omega)] at hs
    exact Or.inl ⟨rfl, hs, fun j hj => ⟨by rw [hv j (by omega), low_at _ _ _ hj], by
      have e : cs.getD j 0 = cs[j] := by simp [List.getD_eq_getElem?_getD, hj]
      show ¬ 255 < cs.getD j 0
      rw [e]; exact h _ (List.getElem_mem _)⟩⟩
  · rw [n32 (by omega)] at hs
    obtain ⟨j, hj, rfl⟩ := List.getElem_of_mem hc
    exact Or.inr ⟨rfl, hs, fun j hj => ⟨by rw [hv _ (by omega), wide_lo _ _ _ hj], by rw [hv _ (by omega), wide_hi _ _ _ hj]⟩, j, hj, by
      have e : cs.getD j 0 = cs[j] := by simp [List.getD_eq_getElem?_getD, hj]
      show 255 < cs.getD j 0
      rw [e]; exact hw⟩
/-- an object of exactly java/lang/String, its two fields found: as the laws ask it -/
theorem strObj {Z U : State} {a0 : Array Value} {kI : Nat} (wi : (Jvm.Cond.instantiable ST kI).before a0 Z = true) (al : Z.vm.Alike U.vm) {x : Addr} {v0 c0 : Value} (E : RoadKit.Exa Z U.heap x ST) (V : RoadKit.Fld Z U.heap x ST "value" "[B" v0) (C : RoadKit.Fld Z U.heap x ST "coder" "B" c0) :
    ∃ (D : Cell) (fV fC : Field), Blank ST x D U ∧ Found ST "value" "[B" fV U ∧ Found ST "coder" "B" fC U ∧ D.slots[fV.slot]? = some v0 ∧ D.slots[fC.slot]? = some c0 ∧ RoadKit.slotOf Z ST "value" "[B" = fV.slot ∧ RoadKit.slotOf Z ST "coder" "B" = fC.slot := by
  obtain ⟨D, cfV, kV, iV, fV, hD, gV, stV, knV, obV, asV, slV⟩ := V
  obtain ⟨D', cfC, kC, iC, fC, hD', gC, stC, -, -, asC, slC⟩ := C
  cases hD.symm.trans hD'
  obtain ⟨D2, kD, e1, e2, e3, e4, e5⟩ := E
  cases hD.symm.trans e1
  obtain ⟨c2, k2, i1, i2, i3, -⟩ := Cond.instantiable_spec wi
  cases e2.symm.trans i1
  cases e3.symm.trans i2
  obtain ⟨kU, u1, u2⟩ := al.2.2 _ _ e3
  exact ⟨D, fV, fC, ⟨hD, ⟨knV, fun q hq => by rw [hq] at obV; cases obV⟩, by rw [al.findClass]; exact e2, kU, u1, by rw [u2]; exact i3, by rw [u2]; exact e5 i3⟩, ⟨SBG.found_only al ⟨cfV, kV, iV, gV⟩, stV⟩, ⟨SBG.found_only al ⟨cfC, kC, iC, gC⟩, stC⟩, slV, slC, by simp [RoadKit.slotOf, gV], by simp [RoadKit.slotOf, gC]⟩
theorem sta_is {Z U : State} (al : Z.vm.Alike U.vm) {C n d : String} {v : Value} (S : RoadKit.Sta Z U.heap C n d v) : StaticIs U C n d v := by
  obtain ⟨cfS, iS, kS, fS, st, cS, t1, t2, t3, t4, t5, t6, t7⟩ := S
  exact StaticIs.there (s := { Z with heap := U.heap }) ⟨cfS, iS, kS, fS, st, cS, t1, t2, t3, t4, t5, (fun q => by rw [q] at t6; cases t6), t7⟩ al rfl
end StrChars.Road
namespace StrChars
open Jvm Sem ClassFile Op Lib Jvm.Stand Jvm.Free.XT Jvm.Free.ALB Jvm.Free.JM Jvm.Free
open Jvm.Lib.Cold (StaticIs)
/-- what place i of a byte[]'s cell holds -/
def yv (A : Cell) (i : Nat) : Int32 := match A.slots[i]? with | some (.int x) => x | _ => 0
theorem yv_get {a : Addr} {A : Cell} {U : State} (h : XT.Arr .byte a A U) (ht : Typed .byte A) {i : Nat} (hi : i < A.slots.size) : A.slots[i]? = some (.int (yv A i)) := by
  have e := Array.getElem?_eq_getElem hi
  have f := ht i _ e
  unfold yv; rw [e]
  generalize A.slots[i] = v at f
  cases v <;> simp [fits] at f ⊢
/-- the two arrays are equal, place for place -/
def EqC (A B : Cell) : Prop := A.slots.size = B.slots.size ∧ ∀ i, i < A.slots.size → yv A i = yv B i
/-- a boolean that says whether p -/
def Says01 (q : Prop) (r : Option Value) (s u : State) : Prop := ∃ v : Int32, r = some (.int v) ∧ u.heap = s.heap ∧ ((v = 1 ∧ q) ∨ (v = 0 ∧ ¬ q))
theorem Says01.mv {q : Prop} : ∀ r (U U' V V' : State), U'.heap = U.heap → V.vm.Alike V'.vm → V'.heap = V.heap → Says01 q r U V → Says01 q r U' V' :=
  fun r U U' V V' h1 _ h2 ⟨v, a, b, c⟩ => ⟨v, a, by rw [h1, h2]; exact b, c⟩
namespace LEq
def yN : MethodName := ⟨"java/lang/StringLatin1", "equals", "([B[B)Z"⟩
abbrev yB : ByteArray := jdk_43_method_13_code
theorem d0 : decode yB 0 = .ok (.aload_n 0, 1) := by decide +kernel
theorem d1 : decode yB 1 = .ok (.arraylength, 1) := by decide +kernel
theorem d2 : decode yB 2 = .ok (.aload_n 1, 1) := by decide +kernel
theorem d3 : decode yB 3 = .ok (.arraylength, 1) := by decide +kernel
theorem d4 : decode yB 4 = .ok (.if_icmp (.ne) 30, 3) := by decide +kernel
theorem d7 : decode yB 7 = .ok (.iconst 0, 1) := by decide +kernel
theorem d8 : decode yB 8 = .ok (.istore_n 2, 1) := by decide +kernel
theorem d9 : decode yB 9 = .ok (.iload_n 2, 1) := by decide +kernel
theorem d10 : decode yB 10 = .ok (.aload_n 0, 1) := by decide +kernel
theorem d11 : decode yB 11 = .ok (.arraylength, 1) := by decide +kernel
theorem d12 : decode yB 12 = .ok (.if_icmp (.ge) 20, 3) := by decide +kernel
theorem d15 : decode yB 15 = .ok (.aload_n 0, 1) := by decide +kernel
theorem d16 : decode yB 16 = .ok (.iload_n 2, 1) := by decide +kernel
theorem d17 : decode yB 17 = .ok (.baload, 1) := by decide +kernel
theorem d18 : decode yB 18 = .ok (.aload_n 1, 1) := by decide +kernel
theorem d19 : decode yB 19 = .ok (.iload_n 2, 1) := by decide +kernel
theorem d20 : decode yB 20 = .ok (.baload, 1) := by decide +kernel
theorem d21 : decode yB 21 = .ok (.if_icmp (.eq) 5, 3) := by decide +kernel
theorem d24 : decode yB 24 = .ok (.iconst 0, 1) := by decide +kernel
theorem d25 : decode yB 25 = .ok (.ireturn, 1) := by decide +kernel
theorem d26 : decode yB 26 = .ok (.iinc 2 1, 3) := by decide +kernel
theorem d29 : decode yB 29 = .ok (.goto (-20), 3) := by decide +kernel
theorem d32 : decode yB 32 = .ok (.iconst 1, 1) := by decide +kernel
theorem d33 : decode yB 33 = .ok (.ireturn, 1) := by decide +kernel
theorem d34 : decode yB 34 = .ok (.iconst 0, 1) := by decide +kernel
theorem d35 : decode yB 35 = .ok (.ireturn, 1) := by decide +kernel
def site : List Cond := []
def tab : Cond := tabOf yN yB 3 (some .boolean) site
def P (a : Addr) (A : Cell) (b : Addr) (B : Cell) (args : Array Value) (s : State) : Prop := args = #[.ref a, .ref b] ∧ XT.Arr .byte a A s ∧ Typed .byte A ∧ XT.Arr .byte b B s ∧ Typed .byte B
/-- whether two byte[] are equal, place for place -/
theorem law (l : Launch) (a : Addr) (A : Cell) (b : Addr) (B : Cell) : Law l yN 2 2 0 0 yB 3 (some .boolean) site (P a A b B) (Says01 (EqC A B)) [] 0 0 := by
  refine Law.of_walk (plainFor_of_name (by decide +kernel)) (by decide +kernel) (by decide +kernel) (by decide) (fun _ _ h => by rw [h.1]; rfl) (fun _ U U' hal hh h => ⟨h.1, h.2.1.mv hal hh, h.2.2.1, h.2.2.2.1.mv hal hh, h.2.2.2.2⟩) (fun r U U' V V' h1 hal h2 h => Says01.mv r U U' V V' h1 hal h2 h) ?_
  intro p e s m args below meth c s₁ X0 hexec hbytes hml hret hlk hnm hown hh0 W hP
  obtain ⟨rfl, hA, tA, hB, tB⟩ := hP
  have a31 := hA.2.2.2
  have b31 := hB.2.2.2
  have hA0 := hA.mv X0.warmed.alike hh0
  have hB0 := hB.mv X0.warmed.alike hh0
  have c1 : Steps p.tables e below (s₁.setTop (entryFrame m #[.ref a, .ref b] 3)) (s₁.setTop (mkF m 0 #[.val (.ref a), .val (.ref b), .unset] [])) := entry rfl
  have c2 : Steps p.tables e below (s₁.setTop (entryFrame m #[.ref a, .ref b] 3)) (s₁.setTop (mkF m 4 #[.val (.ref a), .val (.ref b), .unset] [.int (Int32.ofNat B.slots.size), .int (Int32.ofNat A.slots.size)])) := c1.trans (by
    refine XS.aloadN X0.here hexec rfl (hb hbytes d0) rfl rfl ?_
    refine X0.alen hexec hA0 rfl rfl (hb hbytes d1) ?_
    refine XS.aloadN X0.here hexec rfl (hb hbytes d2) rfl rfl ?_
    refine X0.alen hexec hB0 rfl rfl (hb hbytes d3) ?_
    exact Steps.refl _)
  by_cases hs : A.slots.size = B.slots.size
  · have c3 : Steps p.tables e below (s₁.setTop (entryFrame m #[.ref a, .ref b] 3)) (s₁.setTop (mkF m 9 #[.val (.ref a), .val (.ref b), .val (.int 0)] [])) := c2.trans (by
      refine XS.icmpNo X0.here hexec rfl (hb hbytes d4) rfl (ii_ne_f (by rw [hs])) ?_
      refine iconstV X0.here hexec rfl 0 (hb hbytes d7) (by decide) ?_
      refine XS.istoreN X0.here hexec rfl (hb hbytes d8) rfl rfl ?_
      exact Steps.refl _)
    have loop : ∀ (r i : Nat), i + r = A.slots.size → (∀ j, j < i → yv A j = yv B j) → Steps p.tables e below (s₁.setTop (entryFrame m #[.ref a, .ref b] 3)) (s₁.setTop (mkF m 9 #[.val (.ref a), .val (.ref b), .val (.int (Int32.ofNat i))] [])) → ∃ (pc : Nat) (Ls : Array Slot) (v : Int32), (pc = 25 ∨ pc = 33) ∧ ((v = 1 ∧ EqC A B) ∨ (v = 0 ∧ ¬ EqC A B)) ∧ Steps p.tables e below (s₁.setTop (entryFrame m #[.ref a, .ref b] 3)) (s₁.setTop (mkF m pc Ls [.int v])) := by
      intro r
      induction r with
      | zero =>
        intro i hi he cl
        exact ⟨33, _, 1, Or.inr rfl, Or.inl ⟨rfl, hs, fun j hj => he j (by omega)⟩, cl.trans (by
          refine XS.iloadN X0.here hexec rfl (hb hbytes d9) rfl ?_
          refine XS.aloadN X0.here hexec rfl (hb hbytes d10) rfl rfl ?_
          refine X0.alen hexec hA0 rfl rfl (hb hbytes d11) ?_
          refine XS.icmpYes X0.here hexec rfl (pc0 := 12) rfl (hb hbytes d12) rfl (ii_ge_t (nlt32 (by omega) (by omega))) (by decide) rfl ?_
          refine iconstV X0.here hexec rfl 1 (hb hbytes d32) (by decide) ?_
          exact Steps.refl _)⟩
      | succ r ih =>
        intro i hi he cl
        have c4 : Steps p.tables e below (s₁.setTop (entryFrame m #[.ref a, .ref b] 3)) (s₁.setTop (mkF m 21 #[.val (.ref a), .val (.ref b), .val (.int (Int32.ofNat i))] [.int (yv B i), .int (yv A i)])) := cl.trans (by
          refine XS.iloadN X0.here hexec rfl (hb hbytes d9) rfl ?_
          refine XS.aloadN X0.here hexec rfl (hb hbytes d10) rfl rfl ?_
          refine X0.alen hexec hA0 rfl rfl (hb hbytes d11) ?_
          refine XS.icmpNo X0.here hexec rfl (hb hbytes d12) rfl (ii_ge_f (lt32 (by omega) (by omega))) ?_
          refine XS.aloadN X0.here hexec rfl (hb hbytes d15) rfl rfl ?_
          refine XS.iloadN X0.here hexec rfl (hb hbytes d16) rfl ?_
          refine X0.aget hexec hA0 rfl (yv_get hA tA (i := i) (by omega)) rfl rfl (hb hbytes d17) ?_
          refine XS.aloadN X0.here hexec rfl (hb hbytes d18) rfl rfl ?_
          refine XS.iloadN X0.here hexec rfl (hb hbytes d19) rfl ?_
          refine X0.aget hexec hB0 rfl (yv_get hB tB (i := i) (by omega)) rfl rfl (hb hbytes d20) ?_
          exact Steps.refl _)
        by_cases hv : yv A i = yv B i
        · have c5 : Steps p.tables e below (s₁.setTop (entryFrame m #[.ref a, .ref b] 3)) (s₁.setTop (mkF m 9 #[.val (.ref a), .val (.ref b), .val (.int (Int32.ofNat i + 1))] [])) := c4.trans (by
            refine XS.icmpYes X0.here hexec rfl (pc0 := 21) rfl (hb hbytes d21) rfl (ii_eq_t hv) (by decide) rfl ?_
            refine iincV X0.here hexec rfl 1 (hb hbytes d26) (by decide) rfl rfl ?_
            refine XS.goto X0.here hexec rfl (pc0 := 29) rfl (hb hbytes d29) (by decide) rfl ?_
            exact Steps.refl _)
          rw [succ32] at c5
          exact ih (i + 1) (by omega) (fun j hj => by
            by_cases e : j = i
            · rw [e]; exact hv
            · exact he j (by omega)) c5
        · exact ⟨25, _, 0, Or.inl rfl, Or.inr ⟨rfl, fun q => hv (q.2 i (by omega))⟩, c4.trans (by
            refine XS.icmpNo X0.here hexec rfl (hb hbytes d21) rfl (ii_eq_f hv) ?_
            refine iconstV X0.here hexec rfl 0 (hb hbytes d24) (by decide) ?_
            exact Steps.refl _)⟩
    obtain ⟨pc, Ls, v, hpc, hv, cz⟩ := loop A.slots.size 0 (by omega) (fun j hj => absurd hj (Nat.not_lt_zero j)) c3
    have nv : narrow .boolean (.int v) = .int v := by rcases hv with ⟨rfl, -⟩ | ⟨rfl, -⟩ <;> rfl
    rcases hpc with rfl | rfl
    · exact ⟨s₁, some (.int v), _, _, _, X0, rfl, rfl, rfl, (fun h => by cases h), ⟨v, rfl, hh0, hv⟩, fun fs hl => cz.trans (X0.ireturnOut hexec hret nv (Or.inr (Or.inl rfl)) (hb hbytes d25) hl)⟩
    · exact ⟨s₁, some (.int v), _, _, _, X0, rfl, rfl, rfl, (fun h => by cases h), ⟨v, rfl, hh0, hv⟩, fun fs hl => cz.trans (X0.ireturnOut hexec hret nv (Or.inr (Or.inl rfl)) (hb hbytes d33) hl)⟩
  · have c3 : Steps p.tables e below (s₁.setTop (entryFrame m #[.ref a, .ref b] 3)) (s₁.setTop (mkF m 35 #[.val (.ref a), .val (.ref b), .unset] [.int 0])) := c2.trans (by
      refine XS.icmpYes X0.here hexec rfl (pc0 := 4) rfl (hb hbytes d4) rfl (ii_ne_t (ne32 a31 b31 hs)) (by decide) rfl ?_
      refine iconstV X0.here hexec rfl 0 (hb hbytes d34) (by decide) ?_
      exact Steps.refl _)
    exact ⟨s₁, some (.int 0), _, _, _, X0, rfl, rfl, rfl, (fun h => by cases h), ⟨0, rfl, hh0, Or.inr ⟨rfl, fun q => hs q.1⟩⟩, fun fs hl => c3.trans (X0.ireturnOut hexec hret rfl (Or.inr (Or.inl rfl)) (hb hbytes d35) hl)⟩
end LEq
theorem Cod.ty {cd : Int32} {n : Nat} {f : Nat → Int32} {V : Cell} (h : Cod cd n f V) : Typed .byte V := fun i v hv => by
  have hi : i < V.slots.size := (Array.getElem?_eq_some_iff.mp hv).1
  rcases h with ⟨-, k1, k2⟩ | ⟨-, k1, k2, -⟩
  · rw [(k2 i (by omega)).1] at hv; cases hv; exact fits_lo8 _
  · rcases Nat.mod_two_eq_zero_or_one i with e | e
    · obtain ⟨j, rfl⟩ : ∃ j, i = 2 * j := ⟨i / 2, by omega⟩
      rw [(k2 j (by omega)).1] at hv; cases hv; exact fits_lo8 _
    · obtain ⟨j, rfl⟩ : ∃ j, i = 2 * j + 1 := ⟨i / 2, by omega⟩
      rw [(k2 j (by omega)).2] at hv; cases hv; exact fits_lo8 _
/-- the same text -/
def SameT (n : Nat) (f : Nat → Int32) (k : Nat) (g : Nat → Int32) : Prop := n = k ∧ ∀ j, j < n → f j = g j
theorem lo8_inj {x y : Int32} (h0 : ¬ x < 0) (h1 : ¬ 255 < x) (k0 : ¬ y < 0) (k1 : ¬ 255 < y) (h : lo8 x = lo8 y) : x = y := by
  rw [← lo8_mask h0 h1, ← lo8_mask k0 k1, h]
/-- arrays coded by one coder are equal just where the texts are -/
theorem Cod.eqv {cd : Int32} {n k : Nat} {f g : Nat → Int32} {V V' : Cell} (h : Cod cd n f V) (h' : Cod cd k g V') (hf : ∀ j, j < n → ¬ f j < 0 ∧ ¬ 65535 < f j) (hg : ∀ j, j < k → ¬ g j < 0 ∧ ¬ 65535 < g j) : EqC V V' ↔ SameT n f k g := by
  have yvv : ∀ {W : Cell} {i : Nat} {x : Int32}, W.slots[i]? = some (.int x) → yv W i = x := fun q => by unfold yv; rw [q]
  rcases h with ⟨rfl, k1, k2⟩ | ⟨rfl, k1, k2, -⟩
  · rcases h' with ⟨-, m1, m2⟩ | ⟨e, -⟩
    · constructor
      · rintro ⟨e1, e2⟩
        refine ⟨by omega, fun j hj => ?_⟩
        have q := e2 j (by omega)
        rw [yvv (k2 j hj).1, yvv (m2 j (by omega)).1] at q
        exact lo8_inj (hf j hj).1 (k2 j hj).2 (hg j (by omega)).1 (m2 j (by omega)).2 q
      · rintro ⟨rfl, e2⟩
        refine ⟨by omega, fun j hj => ?_⟩
        rw [yvv (k2 j (by omega)).1, yvv (m2 j (by omega)).1, e2 j (by omega)]
    · exact absurd e (by decide)
  · rcases h' with ⟨e, -⟩ | ⟨-, m1, m2, -⟩
    · exact absurd e (by decide)
    · constructor
      · rintro ⟨e1, e2⟩
        refine ⟨by omega, fun j hj => ?_⟩
        have q1 := e2 (2 * j) (by omega)
        have q2 := e2 (2 * j + 1) (by omega)
        rw [yvv (k2 j hj).1, yvv (m2 j (by omega)).1] at q1
        rw [yvv (k2 j hj).2, yvv (m2 j (by omega)).2] at q2
        rw [← pair_says (hf j hj).1 (hf j hj).2, ← pair_says (hg j (by omega)).1 (hg j (by omega)).2, q1, q2]
      · rintro ⟨rfl, e2⟩
        refine ⟨by omega, fun i hi => ?_⟩
        rcases Nat.mod_two_eq_zero_or_one i with e | e
        · obtain ⟨j, rfl⟩ : ∃ j, i = 2 * j := ⟨i / 2, by omega⟩
          rw [yvv (k2 j (by omega)).1, yvv (m2 j (by omega)).1, e2 j (by omega)]
        · obtain ⟨j, rfl⟩ : ∃ j, i = 2 * j + 1 := ⟨i / 2, by omega⟩
          rw [yvv (k2 j (by omega)).2, yvv (m2 j (by omega)).2, e2 j (by omega)]
/-- two codings differ: so do the texts -/
theorem Cod.dif {cd cd' : Int32} {n k : Nat} {f g : Nat → Int32} {V V' : Cell} (h : Cod cd n f V) (h' : Cod cd' k g V') (hne : ¬ cd = cd') : ¬ SameT n f k g := by
  rintro ⟨rfl, e⟩
  rcases h with ⟨rfl, -, k2⟩ | ⟨rfl, -, -, j, hj, hw⟩
  · rcases h' with ⟨rfl, -⟩ | ⟨-, -, -, j, hj, hw⟩
    · exact hne rfl
    · exact (k2 j hj).2 (by rw [e j hj]; exact hw)
  · rcases h' with ⟨-, -, m2⟩ | ⟨rfl, -⟩
    · exact (m2 j hj).2 (by rw [← e j hj]; exact hw)
    · exact hne rfl
/-- an object of exactly C is an instance of C -/
theorem cinst {p : Program} {l : Launch} {e : Env} {R : Room} {s : State} {m : MethodId} {args : Array Value} {below : List Frame} {meth : Method} {c : Code} {T : State} {locs : List Loc} {cells slots : Nat} (X : Stand p l e R s m args below meth c T locs cells slots) (hexec : p.tables.exec = Jvm.exec) {own C : String} {index : Nat} (hown : s.vm.findClass own = some m.cls) (hlink : (Cond.classLink own index C).before args s = true) {a : Addr} (hE : Exact C a T)
    {g : JFrame} (hg : g.method = m) {rest : List Value} (hstack : g.stack = .ref a :: rest) (hdg : decode c.code g.pc = .ok (.instanceof index, 3)) :
    ∃ T', Stand p l e R s m args below meth c T' locs cells slots ∧ T'.heap = T.heap ∧ ∀ target, Steps p.tables e below (T'.setTop { g with pc := g.pc + 3, stack := .int 1 :: rest }) target → Steps p.tables e below (T.setTop g) target := by
  obtain ⟨cB, h1, D, h2, h3, h4⟩ := hE
  have h1' : s.vm.findClass C = some cB := by rw [← X.warmed.alike.findClass]; exact h1
  obtain ⟨vm', X', st⟩ := X.instanceofYes hexec hown hlink h2 h4 h1' (by rw [h3]; exact Jvm.Free.SB.assignable_self _ _) hg hstack hdg
  exact ⟨_, X', rfl, st⟩
theorem cself {p : Program} {l : Launch} {e : Env} {R : Room} {s : State} {m : MethodId} {args : Array Value} {below : List Frame} {meth : Method} {c : Code} {T : State} {locs : List Loc} {cells slots : Nat} (X : Stand p l e R s m args below meth c T locs cells slots) (hexec : p.tables.exec = Jvm.exec) {own C : String} {index : Nat} (hown : s.vm.findClass own = some m.cls) (hlink : (Cond.classLink own index C).before args s = true) {a : Addr} (hE : Exact C a T)
    {g : JFrame} (hg : g.method = m) {rest : List Value} (hstack : g.stack = .ref a :: rest) (hdg : decode c.code g.pc = .ok (.checkcast index, 3)) :
    ∃ T', Stand p l e R s m args below meth c T' locs cells slots ∧ T'.heap = T.heap ∧ ∀ target, Steps p.tables e below (T'.setTop { g with pc := g.pc + 3, stack := .ref a :: rest }) target → Steps p.tables e below (T.setTop g) target := by
  obtain ⟨cB, h1, D, h2, h3, h4⟩ := hE
  have h1' : s.vm.findClass C = some cB := by rw [← X.warmed.alike.findClass]; exact h1
  obtain ⟨vm', X', st⟩ := X.checkcastYes hexec hown hlink h2 h4 h1' (by rw [h3]; exact Jvm.Free.SB.assignable_self _ _) hg hstack hdg
  exact ⟨_, X', rfl, fun t h => st t (by rw [← hstack] at h; exact h)⟩
namespace SEq
def yN : MethodName := ⟨"java/lang/String", "equals", "(Ljava/lang/Object;)Z"⟩
abbrev yB : ByteArray := jdk_42_method_66_code
theorem d0 : decode yB 0 = .ok (.aload_n 0, 1) := by decide +kernel
theorem d1 : decode yB 1 = .ok (.aload_n 1, 1) := by decide +kernel
theorem d2 : decode yB 2 = .ok (.if_acmp (.ne) 5, 3) := by decide +kernel
theorem d5 : decode yB 5 = .ok (.iconst 1, 1) := by decide +kernel
theorem d6 : decode yB 6 = .ok (.ireturn, 1) := by decide +kernel
theorem d7 : decode yB 7 = .ok (.aload_n 1, 1) := by decide +kernel
theorem d8 : decode yB 8 = .ok (.instanceof 10, 3) := by decide +kernel
theorem d11 : decode yB 11 = .ok (.ifCond (.eq) 43, 3) := by decide +kernel
theorem d14 : decode yB 14 = .ok (.aload_n 1, 1) := by decide +kernel
theorem d15 : decode yB 15 = .ok (.checkcast 10, 3) := by decide +kernel
theorem d18 : decode yB 18 = .ok (.astore_n 2, 1) := by decide +kernel
theorem d19 : decode yB 19 = .ok (.getstatic 38, 3) := by decide +kernel
theorem d22 : decode yB 22 = .ok (.ifCond (.eq) 14, 3) := by decide +kernel
theorem d25 : decode yB 25 = .ok (.aload_n 0, 1) := by decide +kernel
theorem d26 : decode yB 26 = .ok (.getfield 15, 3) := by decide +kernel
theorem d29 : decode yB 29 = .ok (.aload_n 2, 1) := by decide +kernel
theorem d30 : decode yB 30 = .ok (.getfield 15, 3) := by decide +kernel
theorem d33 : decode yB 33 = .ok (.if_icmp (.ne) 21, 3) := by decide +kernel
theorem d36 : decode yB 36 = .ok (.aload_n 0, 1) := by decide +kernel
theorem d37 : decode yB 37 = .ok (.getfield 9, 3) := by decide +kernel
theorem d40 : decode yB 40 = .ok (.aload_n 2, 1) := by decide +kernel
theorem d41 : decode yB 41 = .ok (.getfield 9, 3) := by decide +kernel
theorem d44 : decode yB 44 = .ok (.invokestatic 541, 3) := by decide +kernel
theorem d47 : decode yB 47 = .ok (.ifCond (.eq) 7, 3) := by decide +kernel
theorem d50 : decode yB 50 = .ok (.iconst 1, 1) := by decide +kernel
theorem d51 : decode yB 51 = .ok (.goto 4, 3) := by decide +kernel
theorem d54 : decode yB 54 = .ok (.iconst 0, 1) := by decide +kernel
theorem d55 : decode yB 55 = .ok (.ireturn, 1) := by decide +kernel
def site : List Cond := [.classLink "java/lang/String" 10 "java/lang/String", .fieldLink "java/lang/String" 38 "java/lang/String" "COMPACT_STRINGS" "Z", .fieldLink "java/lang/String" 15 "java/lang/String" "coder" "B", .fieldLink "java/lang/String" 9 "java/lang/String" "value" "[B", LEq.tab] ++ staticW "java/lang/String" 541 LEq.yN
def tab : Cond := tabOf yN yB 3 (some .boolean) site
def P (x t : Addr) (V : Cell) (cd : Int32) (n : Nat) (f : Nat → Int32) (y t' : Addr) (V' : Cell) (cd' : Int32) (k : Nat) (g : Nat → Int32) (z : Int32) (args : Array Value) (s : State) : Prop := args = #[.ref x, .ref y] ∧ Txt x t V cd n f s ∧ Txt y t' V' cd' k g s ∧ StaticIs s "java/lang/String" "COMPACT_STRINGS" "Z" (.int z) ∧ ¬ z = 0
/-- equals(Object) of two Strings: whether the texts are the same -/
theorem law (l : Launch) (x t : Addr) (V : Cell) (cd : Int32) (n : Nat) (f : Nat → Int32) (y t' : Addr) (V' : Cell) (cd' : Int32) (k : Nat) (g : Nat → Int32) (z : Int32) : Law l yN 2 1 1 14 yB 3 (some .boolean) site (P x t V cd n f y t' V' cd' k g z) (Says01 (SameT n f k g)) [] 0 0 := by
  refine Law.of_walk (plainFor_of_name (by decide +kernel)) (by decide +kernel) (by decide +kernel) (by decide) (fun _ _ h => by rw [h.1]; rfl) (fun _ U U' hal hh h => ⟨h.1, h.2.1.mv hal hh, h.2.2.1.mv hal hh, h.2.2.2.1.there hal hh, h.2.2.2.2⟩) (fun r U U' V V' h1 hal h2 h => Says01.mv r U U' V V' h1 hal h2 h) ?_
  intro p e s m args below meth c s₁ X0 hexec hbytes hml hret hlk hnm hown hh0 W hP
  obtain ⟨rfl, hx, hy, s1, hz⟩ := hP
  have c1 : Steps p.tables e below (s₁.setTop (entryFrame m #[.ref x, .ref y] 3)) (s₁.setTop (mkF m 2 #[.val (.ref x), .val (.ref y), .unset] [.ref y, .ref x])) := Steps.trans (entry rfl) (by
    show Steps p.tables e below (s₁.setTop (mkF m 0 #[.val (.ref x), .val (.ref y), .unset] [])) _
    refine XS.aloadN X0.here hexec rfl (hb hbytes d0) rfl rfl ?_
    refine XS.aloadN X0.here hexec rfl (hb hbytes d1) rfl rfl ?_
    exact Steps.refl _)
  by_cases hxy : x = y
  · have c2 : Steps p.tables e below (s₁.setTop (entryFrame m #[.ref x, .ref y] 3)) (s₁.setTop (mkF m 6 #[.val (.ref x), .val (.ref y), .unset] [.int 1])) := c1.trans (by
      refine acmpNo X0.here hexec rfl (hb hbytes d2) rfl rfl rfl (by simp [acmp, hxy]) ?_
      refine iconstV X0.here hexec rfl 1 (hb hbytes d5) (by decide) ?_
      exact Steps.refl _)
    subst hxy
    have ec : cd = cd' := by
      obtain ⟨D, fd, a1, a2, a3⟩ := hx.2.2.1
      obtain ⟨D', fd', b1, b2, b3⟩ := hy.2.2.1
      cases a1.symm.trans b1
      obtain ⟨q1, q2, q3, q4⟩ := a2.1
      obtain ⟨r1, r2, r3, r4⟩ := b2.1
      cases q4.symm.trans r4
      cases a3.symm.trans b3; rfl
    have et : t = t' := by
      obtain ⟨D, fd, a1, a2, a3⟩ := hx.2.1
      obtain ⟨D', fd', b1, b2, b3⟩ := hy.2.1
      cases a1.symm.trans b1
      obtain ⟨q1, q2, q3, q4⟩ := a2.1
      obtain ⟨r1, r2, r3, r4⟩ := b2.1
      cases q4.symm.trans r4
      cases a3.symm.trans b3; rfl
    subst ec et
    have ev : V = V' := by cases hx.2.2.2.1.1.symm.trans hy.2.2.2.1.1; rfl
    subst ev
    have hs : SameT n f k g := (Cod.eqv hx.2.2.2.2.1 hy.2.2.2.2.1 hx.2.2.2.2.2 hy.2.2.2.2.2).mp ⟨rfl, fun _ _ => rfl⟩
    exact ⟨s₁, some (.int 1), _, _, _, X0, rfl, rfl, rfl, (fun h => by cases h), ⟨1, rfl, hh0, Or.inl ⟨rfl, hs⟩⟩, fun fs hl => c2.trans (X0.ireturnOut hexec hret rfl (Or.inr (Or.inl rfl)) (hb hbytes d6) hl)⟩
  · have c2 : Steps p.tables e below (s₁.setTop (entryFrame m #[.ref x, .ref y] 3)) (s₁.setTop (mkF m 8 #[.val (.ref x), .val (.ref y), .unset] [.ref y])) := c1.trans (by
      refine acmpYes X0.here hexec rfl (pc0 := 2) rfl (hb hbytes d2) rfl rfl rfl (by simp [acmp, hxy]) (by decide) rfl ?_
      refine XS.aloadN X0.here hexec rfl (hb hbytes d7) rfl rfl ?_
      exact Steps.refl _)
    obtain ⟨T3, X3, q3, st3⟩ := cinst X0 hexec hown (wk W (.classLink "java/lang/String" 10 "java/lang/String")) (hy.mv X0.warmed.alike hh0).1 (g := (mkF m 8 #[.val (.ref x), .val (.ref y), .unset] [.ref y])) rfl (rest := []) rfl (hb hbytes d8)
    have hh3 := q3.trans hh0
    have c4 : Steps p.tables e below (s₁.setTop (entryFrame m #[.ref x, .ref y] 3)) (T3.setTop (mkF m 15 #[.val (.ref x), .val (.ref y), .unset] [.ref y])) := (c2.trans (st3 _ (Steps.refl _))).trans (by
      refine XS.ifNo X3.here hexec rfl (hb hbytes d11) rfl (i0_eq_f (by decide)) ?_
      refine XS.aloadN X3.here hexec rfl (hb hbytes d14) rfl rfl ?_
      exact Steps.refl _)
    obtain ⟨T5, X5, q5, st5⟩ := cself X3 hexec hown (wk W (.classLink "java/lang/String" 10 "java/lang/String")) (hy.mv X3.warmed.alike hh3).1 (g := (mkF m 15 #[.val (.ref x), .val (.ref y), .unset] [.ref y])) rfl (rest := []) rfl (hb hbytes d15)
    have hh5 := q5.trans hh3
    have c6 : Steps p.tables e below (s₁.setTop (entryFrame m #[.ref x, .ref y] 3)) (T5.setTop (mkF m 19 #[.val (.ref x), .val (.ref y), .val (.ref y)] [])) := (c4.trans (st5 _ (Steps.refl _))).trans (by
      refine XS.astoreN X5.here hexec rfl (hb hbytes d18) rfl rfl rfl ?_
      exact Steps.refl _)
    obtain ⟨T7, X7, q7, st7⟩ := X5.sget hexec hown (wk W (.fieldLink "java/lang/String" 38 "java/lang/String" "COMPACT_STRINGS" "Z")) s1 (fun _ _ h => by rw [hh5]; exact h) (g := (mkF m 19 #[.val (.ref x), .val (.ref y), .val (.ref y)] [])) rfl (hb hbytes d19)
    have hh7 := q7.trans hh5
    have c8 : Steps p.tables e below (s₁.setTop (entryFrame m #[.ref x, .ref y] 3)) (T7.setTop (mkF m 26 #[.val (.ref x), .val (.ref y), .val (.ref y)] [.ref x])) := (c6.trans (st7 _ (Steps.refl _))).trans (by
      refine XS.ifNo X7.here hexec rfl (hb hbytes d22) rfl (i0_eq_f hz) ?_
      refine XS.aloadN X7.here hexec rfl (hb hbytes d25) rfl rfl ?_
      exact Steps.refl _)
    obtain ⟨T9, X9, q9, st9⟩ := X7.hget hexec hown (wk W (.fieldLink "java/lang/String" 15 "java/lang/String" "coder" "B")) (hx.mv X7.warmed.alike hh7).2.2.1 (g := (mkF m 26 #[.val (.ref x), .val (.ref y), .val (.ref y)] [.ref x])) rfl (rest := []) rfl (hb hbytes d26)
    have hh9 := q9.trans hh7
    have c10 : Steps p.tables e below (s₁.setTop (entryFrame m #[.ref x, .ref y] 3)) (T9.setTop (mkF m 30 #[.val (.ref x), .val (.ref y), .val (.ref y)] [.ref y, .int cd])) := (c8.trans (st9 _ (Steps.refl _))).trans (by
      refine XS.aloadN X9.here hexec rfl (hb hbytes d29) rfl rfl ?_
      exact Steps.refl _)
    obtain ⟨T11, X11, q11, st11⟩ := X9.hget hexec hown (wk W (.fieldLink "java/lang/String" 15 "java/lang/String" "coder" "B")) (hy.mv X9.warmed.alike hh9).2.2.1 (g := (mkF m 30 #[.val (.ref x), .val (.ref y), .val (.ref y)] [.ref y, .int cd])) rfl (rest := [.int cd]) rfl (hb hbytes d30)
    have hh11 := q11.trans hh9
    have c12 : Steps p.tables e below (s₁.setTop (entryFrame m #[.ref x, .ref y] 3)) (T11.setTop (mkF m 33 #[.val (.ref x), .val (.ref y), .val (.ref y)] [.int cd', .int cd])) := c10.trans (st11 _ (Steps.refl _))
    by_cases hcd : cd = cd'
    · subst hcd
      have c13 : Steps p.tables e below (s₁.setTop (entryFrame m #[.ref x, .ref y] 3)) (T11.setTop (mkF m 37 #[.val (.ref x), .val (.ref y), .val (.ref y)] [.ref x])) := c12.trans (by
        refine XS.icmpNo X11.here hexec rfl (hb hbytes d33) rfl (ii_ne_f rfl) ?_
        refine XS.aloadN X11.here hexec rfl (hb hbytes d36) rfl rfl ?_
        exact Steps.refl _)
      obtain ⟨T14, X14, q14, st14⟩ := X11.hget hexec hown (wk W (.fieldLink "java/lang/String" 9 "java/lang/String" "value" "[B")) (hx.mv X11.warmed.alike hh11).2.1 (g := (mkF m 37 #[.val (.ref x), .val (.ref y), .val (.ref y)] [.ref x])) rfl (rest := []) rfl (hb hbytes d37)
      have hh14 := q14.trans hh11
      have c15 : Steps p.tables e below (s₁.setTop (entryFrame m #[.ref x, .ref y] 3)) (T14.setTop (mkF m 41 #[.val (.ref x), .val (.ref y), .val (.ref y)] [.ref y, .ref t])) := (c13.trans (st14 _ (Steps.refl _))).trans (by
        refine XS.aloadN X14.here hexec rfl (hb hbytes d40) rfl rfl ?_
        exact Steps.refl _)
      obtain ⟨T16, X16, q16, st16⟩ := X14.hget hexec hown (wk W (.fieldLink "java/lang/String" 9 "java/lang/String" "value" "[B")) (hy.mv X14.warmed.alike hh14).2.1 (g := (mkF m 41 #[.val (.ref x), .val (.ref y), .val (.ref y)] [.ref y, .ref t])) rfl (rest := [.ref t]) rfl (hb hbytes d41)
      have hh16 := q16.trans hh14
      have c17 : Steps p.tables e below (s₁.setTop (entryFrame m #[.ref x, .ref y] 3)) (T16.setTop (mkF m 44 #[.val (.ref x), .val (.ref y), .val (.ref y)] [.ref t', .ref t])) := c15.trans (st16 _ (Steps.refl _))
      obtain ⟨v18, T18, X18, E18, g18⟩ := X16.callS hexec (LEq.law l t V t' V') hown (wks W (staticW "java/lang/String" 541 LEq.yN)) (wk W LEq.tab) (W := 0) (Nat.le_of_ble_eq_true rfl) (Nat.le_of_ble_eq_true rfl) (Nat.le_refl _) (Nat.le_refl _) (g := (mkF m 44 #[.val (.ref x), .val (.ref y), .val (.ref y)] [.ref t', .ref t])) rfl (by rw [hml]; rfl) c17 (argsL := [.ref t, .ref t']) (rest := []) rfl rfl (by show 2 * 0 + 0 ≤ _; decide) (hb hbytes d44) (⟨rfl, hx.2.2.2.1.mv X16.warmed.alike hh16, hx.2.2.2.2.1.ty, hy.2.2.2.1.mv X16.warmed.alike hh16, hy.2.2.2.2.1.ty⟩)
      obtain ⟨v, rfl, q18, hv⟩ := E18
      have iff := Cod.eqv hx.2.2.2.2.1 hy.2.2.2.2.1 hx.2.2.2.2.2 hy.2.2.2.2.2
      rcases hv with ⟨rfl, he⟩ | ⟨rfl, he⟩
      · have c19 : Steps p.tables e below (s₁.setTop (entryFrame m #[.ref x, .ref y] 3)) (T18.setTop (mkF m 55 #[.val (.ref x), .val (.ref y), .val (.ref y)] [.int 1])) := Steps.trans g18 (by
          refine XS.ifNo X18.here hexec rfl (hb hbytes d47) rfl (i0_eq_f (by decide)) ?_
          refine iconstV X18.here hexec rfl 1 (hb hbytes d50) (by decide) ?_
          refine XS.goto X18.here hexec rfl (pc0 := 51) rfl (hb hbytes d51) (by decide) rfl ?_
          exact Steps.refl _)
        exact ⟨T18, some (.int 1), _, _, _, X18, rfl, rfl, rfl, (fun h => by cases h), ⟨1, rfl, q18.trans hh16, Or.inl ⟨rfl, iff.mp he⟩⟩, fun fs hl => c19.trans (X18.ireturnOut hexec hret rfl (Or.inr (Or.inl rfl)) (hb hbytes d55) hl)⟩
      · have c19 : Steps p.tables e below (s₁.setTop (entryFrame m #[.ref x, .ref y] 3)) (T18.setTop (mkF m 55 #[.val (.ref x), .val (.ref y), .val (.ref y)] [.int 0])) := Steps.trans g18 (by
          refine XS.ifYes X18.here hexec rfl (pc0 := 47) rfl (hb hbytes d47) rfl (i0_eq_t rfl) (by decide) rfl ?_
          refine iconstV X18.here hexec rfl 0 (hb hbytes d54) (by decide) ?_
          exact Steps.refl _)
        exact ⟨T18, some (.int 0), _, _, _, X18, rfl, rfl, rfl, (fun h => by cases h), ⟨0, rfl, q18.trans hh16, Or.inr ⟨rfl, fun q => he (iff.mpr q)⟩⟩, fun fs hl => c19.trans (X18.ireturnOut hexec hret rfl (Or.inr (Or.inl rfl)) (hb hbytes d55) hl)⟩
    · have c13 : Steps p.tables e below (s₁.setTop (entryFrame m #[.ref x, .ref y] 3)) (T11.setTop (mkF m 55 #[.val (.ref x), .val (.ref y), .val (.ref y)] [.int 0])) := c12.trans (by
        refine XS.icmpYes X11.here hexec rfl (pc0 := 33) rfl (hb hbytes d33) rfl (ii_ne_t hcd) (by decide) rfl ?_
        refine iconstV X11.here hexec rfl 0 (hb hbytes d54) (by decide) ?_
        exact Steps.refl _)
      exact ⟨T11, some (.int 0), _, _, _, X11, rfl, rfl, rfl, (fun h => by cases h), ⟨0, rfl, hh11, Or.inr ⟨rfl, Cod.dif hx.2.2.2.2.1 hy.2.2.2.2.1 hcd⟩⟩, fun fs hl => c13.trans (X11.ireturnOut hexec hret rfl (Or.inr (Or.inl rfl)) (hb hbytes d55) hl)⟩
theorem pays {l : Launch} {R : Room} {p : Program} {e : Env} {below : List Frame} {s : State} {sargs : Array Value} {len W : Nat} (x t : Addr) (V : Cell) (cd : Int32) (n : Nat) (f : Nat → Int32) (y t' : Addr) (V' : Cell) (cd' : Int32) (k : Nat) (g : Nat → Int32) (z : Int32) (htab : tab.before sargs s = true) (hfr : 2 ≤ R.frames) (hlo : W + 28 ≤ R.locals) :
    Back l R p e below s sargs yN len W (fun A₁ a₁ => A₁.cells + 0 ≤ R.cells ∧ A₁.slots + 0 ≤ R.slots ∧ P x t V cd n f y t' V' cd' k g z a₁ A₁.U) (fun A₁ _ v₁ B₁ => Says01 (SameT n f k g) v₁ A₁.U B₁.U ∧ B₁.locs = A₁.locs ++ [] ∧ B₁.cells = A₁.cells + 0 ∧ B₁.slots = A₁.slots + 0) :=
  (law l x t V cd n f y t' V' cd' k g z).pays htab hfr (by omega)
end SEq
end StrChars
namespace StrChars.Road
open Jvm Sem ClassFile Op Lib Jvm.Stand Jvm.Free Jvm.Free.XT
open Jvm.Lib.Cold (StaticIs)
/-- the words of String.equals(Object) -/
abbrev wordsEq : List Jvm.Cond := [.code SEq.yN SEq.yB 3 (some .boolean), .initialized ST, .classLink ST 10 ST, .fieldLink ST 38 ST "COMPACT_STRINGS" "Z", .fieldLink ST 15 ST "coder" "B", .fieldLink ST 9 ST "value" "[B", .methodLink ST 541 LEq.yN, .static LEq.yN, .code LEq.yN LEq.yB 3 (some .boolean), .initialized "java/lang/StringLatin1"]
theorem tabEq_of {a : Array Value} {s : State} (h : ∀ w ∈ wordsEq, w.before a s = true) : SEq.tab.before a s = true := by
  have hl : LEq.tab.before a s = true := unparts (wk h (.code LEq.yN LEq.yB 3 (some .boolean))) (wks h (.initialized LEq.yN.cls :: LEq.site))
  have q := consq hl h
  exact unparts (wk q (.code SEq.yN SEq.yB 3 (some .boolean))) (wks q (.initialized SEq.yN.cls :: SEq.site))
theorem movedEq {Z s : State} {a0 args : Array Value} (hZ : Z.Warmed39 s.vm) (hw : ∀ d ∈ wordsEq, d.before a0 Z = true) : ∀ d ∈ wordsEq, d.before args s = true := fun d hd => by
  have t : ∀ d ∈ wordsEq, (d.onTables && d.keepsFace) = true := by decide +kernel
  exact RoadKit.mv hZ (hw d hd) (t d hd)
/-- the road's facts of a String, as the laws ask it -/
theorem txt_of {Z U : State} {a0 : Array Value} {kI : Nat} (wi : (Jvm.Cond.instantiable ST kI).before a0 Z = true) (al : Z.vm.Alike U.vm) {x t : Addr} {kb : ClassId} {cs : List Int32} {cd N2 : Int32} {vs : List Value} (E : RoadKit.Exa Z U.heap x ST) (V : RoadKit.Fld Z U.heap x ST "value" "[B" (.ref t)) (C : RoadKit.Fld Z U.heap x ST "coder" "B" (.int cd)) (K : RoadKit.Arv Z U.heap t kb .byte N2 vs (.int 0)) (hc : CodA cs cd N2 vs) (hb : ∀ c ∈ cs, ¬ c < 0 ∧ ¬ (65535 : Int32) < c) (l2 : cs.length ≤ 4000) :
    ∃ A, Txt x t A cd cs.length (fun j => cs.getD j 0) U := by
  obtain ⟨A, K1, K2, K3, K4, K5, K6⟩ := K
  have hcod := hc.cod (by omega) K3 K5
  obtain ⟨D, fV, fC, hB, F1, F2, g1, g2, -, -⟩ := strObj wi al E V C
  exact ⟨A, ⟨_, hB.2.2.1, D, hB.1, rfl, by cases q : D.vm <;> first | rfl | exact absurd q (hB.2.1.2 _)⟩, Has.of hB F1 g1, Has.of hB F2 g2, ⟨K1.1, State.isArrayOf_alike al K1.2.1, K1.2.2, by rcases hcod with ⟨-, q, -⟩ | ⟨-, q, -⟩ <;> omega⟩, hcod, fun j hj => by
    have e : cs.getD j 0 = cs[j] := by simp [List.getD_eq_getElem?_getD, hj]
    show ¬ cs.getD j 0 < 0 ∧ ¬ 65535 < cs.getD j 0
    rw [e]; exact hb _ (List.getElem_mem _)⟩
theorem same_list (cs ds : List Int32) : SameT cs.length (fun j => cs.getD j 0) ds.length (fun j => ds.getD j 0) ↔ cs = ds := by
  constructor
  · rintro ⟨e, q⟩
    refine List.ext_getElem e fun j h1 h2 => ?_
    have := q j h1
    simpa [List.getD_eq_getElem?_getD, h1, h2] using this
  · rintro rfl
    exact ⟨rfl, fun _ _ => rfl⟩
/-- **equals(Object) OF TWO SUCH STRINGS**: 1 just where the chars are the same -/
theorem eqW {p : Program} {l : Launch} {e : Env} {R : Room} {s : State} {args : Array Value} {below : List Frame} {len W : Nat} {Z : State} {a0 : Array Value} {h : Heap} (hZ : Z.Warmed39 s.vm) (hw : ∀ d ∈ wordsEq, d.before a0 Z = true) {kI : Nat} (wi : (Jvm.Cond.instantiable ST kI).before a0 Z = true)
    {x t : Addr} {kb : ClassId} {cs : List Int32} {cd N2 : Int32} {vs : List Value} (E : RoadKit.Exa Z h x ST) (V : RoadKit.Fld Z h x ST "value" "[B" (.ref t)) (C : RoadKit.Fld Z h x ST "coder" "B" (.int cd)) (K : RoadKit.Arv Z h t kb .byte N2 vs (.int 0)) (hc : CodA cs cd N2 vs) (hb : ∀ c ∈ cs, ¬ c < 0 ∧ ¬ (65535 : Int32) < c) (l2 : cs.length ≤ 4000)
    {y t' : Addr} {kb' : ClassId} {ds : List Int32} {cd' N2' : Int32} {vs' : List Value} (E' : RoadKit.Exa Z h y ST) (V' : RoadKit.Fld Z h y ST "value" "[B" (.ref t')) (C' : RoadKit.Fld Z h y ST "coder" "B" (.int cd')) (K' : RoadKit.Arv Z h t' kb' .byte N2' vs' (.int 0)) (hc' : CodA ds cd' N2' vs') (hb' : ∀ c ∈ ds, ¬ c < 0 ∧ ¬ (65535 : Int32) < c) (l2' : ds.length ≤ 4000)
    {z : Int32} (S : RoadKit.Sta Z h ST "COMPACT_STRINGS" "Z" (.int z)) (hz : ¬ z = 0) (hfr : 2 ≤ R.frames) (hlo : W + 28 ≤ R.locals) :
    Back l R p e below s args (⟨"java/lang/String", "equals", "(Ljava/lang/Object;)Z"⟩ : MethodName) len W (fun P a => a = #[.ref x, .ref y] ∧ P.U.heap = h ∧ P.cells + 0 ≤ R.cells ∧ P.slots + 0 ≤ R.slots)
      (fun P _ v B => ∃ L, (((v = some (.int 1) ∧ cs = ds) ∨ (v = some (.int 0) ∧ ¬ cs = ds)) ∧ L = [] ∧ B.U.heap = h) ∧ B.locs = P.locs ++ L ∧ B.cells = P.cells + 0 ∧ B.slots = P.slots + 0) := by
  intro m meth c P g ig mk a X hg hsize hdg hW hn hp'
  obtain ⟨rfl, rfl, r1, r2⟩ := hp'
  have al : Z.vm.Alike P.U.vm := hZ.alike.trans X.warmed.alike
  obtain ⟨A, hx⟩ := txt_of wi al E V C K hc hb l2
  obtain ⟨A', hy⟩ := txt_of wi al E' V' C' K' hc' hb' l2'
  obtain ⟨v, B, X', ⟨⟨w, hv, hh, hq⟩, hl, hk, hs⟩, st⟩ := SEq.pays x t A cd cs.length (fun j => cs.getD j 0) y t' A' cd' ds.length (fun j => ds.getD j 0) z (tabEq_of (movedEq hZ hw)) hfr hlo m meth c P g ig mk _ X hg hsize hdg hW hn ⟨r1, r2, rfl, hx, hy, sta_is al S, hz⟩
  refine ⟨v, B, X', ⟨[], ⟨?_, rfl, hh⟩, hl, hk, hs⟩, st⟩
  rcases hq with ⟨rfl, q⟩ | ⟨rfl, q⟩
  · exact Or.inl ⟨hv, (same_list cs ds).mp q⟩
  · exact Or.inr ⟨hv, fun e => q ((same_list cs ds).mpr e)⟩
end StrChars.Road
end Jvm.Pilot.@@N@@
namespace Jvm.Pilot.@@N@@
open Jvm Jvm.ClassFile Sem Op Lib Jvm.Free Jvm.Stand Jvm.LawKit Jvm.RoadKit Bundle Jvm.Pilot.@@N@@.Jvm.D
section Own
variable {p : Program} {l : Launch} {e : Env} {R : Room} {s : State} {m : MethodId} {args : Array Value} {below : List Frame} {meth : Method} {c : Code} {T : State} {locs : List Loc} {cells slots : Nat}
/-- from here the method ends as Post says -/
def Wp (p : Program) (e : Env) (below : List Frame) (Post : Outcome → State → Prop) (S : State) : Prop := ∃ s₂ o, Steps p.tables e below S s₂ ∧ s₂.status = .running ∧ Ended s₂ below o ∧ Post o s₂
theorem Wp.goal {Post : Outcome → State → Prop} {S : State} (w : Wp p e below Post S) : ∃ s₂ o, Steps p.tables e below S s₂ ∧ s₂.status = .running ∧ Ended s₂ below o ∧ Post o s₂ := w
theorem Wp.st {Post : Outcome → State → Prop} {S S' : State} (h : ∀ t, Steps p.tables e below S' t → Steps p.tables e below S t) (w : Wp p e below Post S') : Wp p e below Post S := by
  obtain ⟨t, o, h1, h2⟩ := w
  exact ⟨t, o, h t h1, h2⟩
theorem Wp.tr {Post : Outcome → State → Prop} {S S' : State} (h : Steps p.tables e below S S') (w : Wp p e below Post S') : Wp p e below Post S := by
  obtain ⟨t, o, h1, h2⟩ := w
  exact ⟨t, o, h.trans h1, h2⟩
theorem Wp.ret (X : Stand p l e R s m args below meth c T locs cells slots) (hlk : meth.locks = false) {v : Option Value} (hv : meth.sig.returnType = none → v = none) {g : JFrame}
    (hst : ∀ fs, (∀ (f : JFrame) (acts : List Action), f.method = m → f.locked = none → f.entered = [] → (doReturn e (T.setTop f) acts v).1 = T.setFrames fs) → Steps p.tables e below (T.setTop g) (T.setFrames fs))
    {Q : Option Value → Heap → List Loc → Prop} {k n : Nat} (hk : cells ≤ k) (hn : slots ≤ n) (q : Q v T.heap locs) :
    Wp p e below (fun o U' => ∃ v L, o = .returned v ∧ Q v U'.heap L ∧ FrameEnd s o U' L k n) (T.setTop g) := by
  obtain ⟨fs, hr, hrun, hended, hW, hsame⟩ := X.leave (v := v) hv
  exact ⟨_, _, hst fs hr, hrun, hended, v, locs, rfl, q, ⟨v, rfl⟩, hW, hsame.mono hk hn⟩
theorem Wp.retW {vm₁ : Vm} (X : Stand p l e R (s.setVm vm₁) m args below meth c T locs cells slots) (hlk : meth.locks = false) {k0 : Nat} (hS : s.Since vm₁ k0) (hk0 : k0 ≤ T.heap.size) {v : Option Value} (hv : meth.sig.returnType = none → v = none) {g : JFrame}
    (hst : ∀ fs, (∀ (f : JFrame) (acts : List Action), f.method = m → f.locked = none → f.entered = [] → (doReturn e (T.setTop f) acts v).1 = T.setFrames fs) → Steps p.tables e below (T.setTop g) (T.setFrames fs))
    {Q : Option Value → Heap → List Loc → Prop} {k n : Nat} (hk : cells ≤ k) (hn : slots ≤ n) (q : Q v T.heap locs) :
    Wp p e below (fun o U' => ∃ v L, o = .returned v ∧ Q v U'.heap L ∧ ReturnedEndW s o U' L k n) (T.setTop g) := by
  obtain ⟨fs, hr, hrun, hended, ⟨h1, h2, h3, h4⟩⟩ := X.leaveW hS hk0 (v := v) hv
  exact ⟨_, _, hst fs hr, hrun, hended, v, locs, rfl, q, h1, h2, h3, h4.mono hk hn⟩
theorem Wp.retH {vm₁ : Vm} (X : Stand p l e R (s.setVm vm₁) m args below meth c T locs cells slots) (hlk : meth.locks = false) {k0 : Nat} (hS : s.Since vm₁ k0) (hk0 : k0 ≤ T.heap.size) {v : Option Value} (hv : meth.sig.returnType = none → v = none) {g : JFrame}
    (hst : ∀ fs, (∀ (f : JFrame) (acts : List Action), f.method = m → f.locked = none → f.entered = [] → (doReturn e (T.setTop f) acts v).1 = T.setFrames fs) → Steps p.tables e below (T.setTop g) (T.setFrames fs))
    {Q : Option Value → Heap → List Loc → Prop} {Z : State} {EL : List (String × Nat)} {k n : Nat} (hk : cells ≤ k) (hn : slots ≤ n) (q : Q v T.heap locs) (cr : CHr Z EL s.vm s.heap T.vm T.heap) :
    Wp p e below (fun o U' => ∃ v L, o = .returned v ∧ Q v U'.heap L ∧ CHr Z EL s.vm s.heap U'.vm U'.heap ∧ ReturnedEndW s o U' L k n) (T.setTop g) := by
  obtain ⟨fs, hr, hrun, hended, ⟨h1, h2, h3, h4⟩⟩ := X.leaveW hS hk0 (v := v) hv
  exact ⟨_, _, hst fs hr, hrun, hended, v, locs, rfl, q, cr, h1, h2, h3, h4.mono hk hn⟩
theorem own_narZ {q : Int32} (h : nar .boolean q = q) : narrow .boolean (.int q) = .int q := by show Value.int (nar .boolean q) = _; rw [h]
theorem own_fitZ {q : Int32} (h : nar .boolean q = q) : fits .boolean (.int q) = true := by rw [← h]; exact fits_nar_bool q
theorem own_nn {v : Value} (h : v.isRef = true) (h' : ¬ v = .null) : ∃ a, v = .ref a := (ref_cases h).resolve_left h'
theorem own_cat1 {v : Value} (h : v.isRef = true) : v.category = 1 := by rcases ref_cases h with rfl | ⟨a, rfl⟩ <;> rfl
theorem own_iteR {c : Prop} [Decidable c] {v w : Value} (hv : v.isRef = true) (hw : w.isRef = true) : (if c then v else w).isRef = true := by by_cases h : c <;> simp [h, hv, hw]
theorem own_fits {v : Value} {C : String} (h : v.isRef = true) : fits (.object C) v = true := by rcases ref_cases h with rfl | ⟨a, rfl⟩ <;> rfl
theorem own_narrow {v : Value} {C : String} (h : v.isRef = true) : narrow (.object C) v = v := by rcases ref_cases h with rfl | ⟨a, rfl⟩ <;> rfl
end Own
abbrev oI (x : Int32) : Slot := .val (.int x)
abbrev oR (a : Addr) : Slot := .val (.ref a)
abbrev oU : Slot := .unset
theorem own_ch255 (x : Int32) : ¬ nar .char ((x &&& (255 : Int32)).toUInt32.toUInt16.toUInt32.toInt32) < 0 ∧ ¬ (255 : Int32) < nar .char ((x &&& (255 : Int32)).toUInt32.toUInt16.toUInt32.toInt32) := by
  have t : ∀ k : Fin 256, ¬ nar .char ((Int32.ofNat k.val).toUInt32.toUInt16.toUInt32.toInt32) < 0 ∧ ¬ (255 : Int32) < nar .char ((Int32.ofNat k.val).toUInt32.toUInt16.toUInt32.toInt32) := by decide +kernel
  have h : (x &&& 255).toBitVec.toNat < 256 := by
    simp only [Int32.toBitVec_and, BitVec.toNat_and]
    exact Nat.lt_succ_of_le Nat.and_le_right
  have e : (x &&& 255) = Int32.ofNat (x &&& 255).toBitVec.toNat := by
    apply Int32.toBitVec_inj.mp
    show _ = BitVec.ofNat 32 _
    rw [BitVec.ofNat_toNat]; simp
  rw [e]
  exact t ⟨_, h⟩
def own_bytes (cs : List Int32) : List Value := (cs.map (fun c => c.toInt8.toInt32)).map Value.int
theorem own_cod {cs : List Int32} (hp : ∀ c ∈ cs, ¬ c < 0 ∧ ¬ (255 : Int32) < c) : StrChars.Road.CodA cs 0 (Int32.ofNat cs.length) (own_bytes cs) := Or.inl ⟨rfl, rfl, by unfold own_bytes; rw [List.map_map]; rfl, fun c hc => (hp c hc).2⟩
theorem own_up {cs : List Int32} (h : ∀ c ∈ cs, ¬ c < 0 ∧ ¬ (255 : Int32) < c) : ∀ c ∈ cs, ¬ c < 0 ∧ ¬ (65535 : Int32) < c := fun c hc => ⟨(h c hc).1, fun q => (h c hc).2 (by rw [Int32.lt_iff_toInt_lt] at q ⊢; have e1 : (65535 : Int32).toInt = 65535 := rfl; have e2 : (255 : Int32).toInt = 255 := rfl; omega)⟩
def own_EL : List (String × Nat) := [("com/example/mortise_lock/mortiselock/redis/RedisCallException", 14), ("com/example/mortise_lock/mortiselock/redis/RedisCallException", 20), ("java/lang/String", 7)]
theorem own_EW {Z : State} {a0 : Array Value} (hw : ∀ d ∈ tables_1, d.before a0 Z = true) : EW Z a0 own_EL := (EW.cons (hw _ (List.mem_of_getElem? (i := 61) rfl)) (by decide) (EW.cons (hw _ (List.mem_of_getElem? (i := 109) rfl)) (by decide) (EW.cons (hw _ (List.mem_of_getElem? (i := 18) rfl)) (by decide) EW.nil)))
theorem own_fld_fun {Z : State} {h : Heap} {a : Addr} {C n d : String} {v w : Value} (F : Fld Z h a C n d v) (G : Fld Z h a C n d w) : v = w := by
  by_cases q : v = w
  · exact q
  · exact absurd rfl (Fld.ne F G q)
theorem own_safe {Z : State} {EL : List (String × Nat)} {vm : Vm} {h : Heap} {x : Addr} {a0 : Array Value} (hal : Z.vm.Alike vm) (E : Exa Z h x "java/lang/String") (F : Fld Z h x "java/lang/String" "value" "[B" .null) (wi : (Jvm.Cond.instantiable "java/lang/String" 4).before a0 Z = true) : Safe Z EL vm h x := fun B => by
  obtain ⟨p, -, u, a, -, q, -, S, hq⟩ := B
  have ha := S.ha
  have hd := S.hd
  obtain ⟨cS, ⟨⟨s1, s2, s3, ⟨c1, k1, i1, f1, f1'⟩, s5, s6, s7, s8, s9, s10, s11, s12, s13, s14, s15, s16⟩, hfS, hcS⟩, -⟩ := S
  rcases hq with rfl | rfl
  · obtain ⟨cell, cf, k, i, f, h1, h2, -, -, -, -, h7⟩ := F
    obtain ⟨k3, e3, -⟩ := State.fieldFound?_setVm (s := Z) hal h2
    have e4 := (show (Z.setVm vm).fieldFound? _ _ _ = _ from f1).symm.trans e3
    simp only [Option.some.injEq, Prod.mk.injEq] at e4
    cases h1.symm.trans ha
    rw [← e4.2.2.2] at h7
    rw [h7] at s8
    cases s8
  · obtain ⟨cell, k, e1, e2, e3, -, -⟩ := E
    cases e1.symm.trans hd
    obtain ⟨c2, k2, i1, i2, i3, -⟩ := Cond.instantiable_spec wi
    cases e2.symm.trans i1
    obtain ⟨-, kk, hk, comp, hkind⟩ := s11
    obtain ⟨k', hk', ek⟩ := hal.2.2 _ _ i2
    cases (show vm.classes[_]? = some kk from hk).symm.trans hk'
    rw [ek, i3] at hkind; cases hkind
def own_P : List Int32 := [(108 : Int32), (111 : Int32), (99 : Int32), (107 : Int32), (32 : Int32), (39 : Int32)]
def own_Sf : List Int32 := [(39 : Int32), (58 : Int32), (32 : Int32), (105 : Int32), (116 : Int32), (115 : Int32), (32 : Int32), (77 : Int32), (111 : Int32), (114 : Int32), (116 : Int32), (105 : Int32), (115 : Int32), (101 : Int32), (76 : Int32), (111 : Int32), (99 : Int32), (107 : Int32), (32 : Int32), (105 : Int32), (115 : Int32), (32 : Int32), (99 : Int32), (108 : Int32), (111 : Int32), (115 : Int32), (101 : Int32), (100 : Int32)]
def own_put (vs : List Value) (o : Nat) : Nat → List Value
  | 0 => vs
  | k + 1 => (own_put vs o k).set (o + k) (.int (own_Sf.getD k 0))
theorem own_put_len (vs : List Value) (o k : Nat) : (own_put vs o k).length = vs.length := by
  induction k with
  | zero => rfl
  | succ k ih => simp only [own_put, List.length_set]; exact ih
theorem own_asetC {Z : State} {h h' : Heap} {a : Addr} {kk : ClassId} {n j : Int32} {vs : List Value} {o k k' : Nat} (hk : k + 1 = k') {v : Int32} {cl : Cell} (A : Arr Z h a cl .char) (q1 : cl.cls = kk) (S : cl.slots.size = n.toNatClampNeg) (q3 : ¬ n < 0) (H : Has cl (own_put vs o k) (.int 0)) (G : ∀ i, i < cl.slots.size → fits .char ((own_put vs o k).getD i (.int 0)) = true) (W : Wr h h' a j.toNatClampNeg (.int v)) (hv : v = own_Sf.getD k 0) (hf : fits .char (.int v) = true) (hj : j.toNatClampNeg = o + k) (hl : o + k < vs.length) : Arv Z h' a kk .char n (own_put vs o k') (.int 0) := by
  subst hk
  have q := Arv.set A q1 S q3 H G hf W (o + k) hj (by rw [own_put_len]; exact hl)
  rw [hv] at q; exact q
def own_cp (vd vs : List Value) (dp nn : Int32) : List Value := vd.take dp.toNatClampNeg ++ ((List.range nn.toNatClampNeg).map fun i => vs.getD ((0 : Int32).toNatClampNeg + i) (.int 0)) ++ vd.drop (dp.toNatClampNeg + nn.toNatClampNeg)
def own_max (p1 p2 : Int32) : Int32 := if p1 < p2 then p2 else p1
def own_min (p1 p2 : Int32) : Int32 := if p2 < p1 then p2 else p1
theorem own_shr0 (x : Int32) : x >>> ((0 : Int32) &&& 31) = x := by
  apply Int32.toInt_inj.mp
  rw [c_ishr x 0 0 (by decide)]; simp
theorem own_shl0 (x : Int32) : x <<< ((0 : Int32) &&& 31) = x := by
  apply Int32.toInt_inj.mp
  have a := c_ishl x 0 0 (by decide); have b := rng32 x; have d := rng32 (x <<< ((0 : Int32) &&& 31))
  simp only [Nat.pow_zero, Int.natCast_one, Int.mul_one] at a
  omega
theorem own_sel {Z : State} {a0 : Array Value} {C : String} {y z : MethodName} (w : (Cond.selects C z z).before a0 Z = true) (hz : z.cls = y.cls) : ∃ c k, Z.vm.findClass y.cls = some c ∧ Z.vm.classes[c]? = some k ∧ k.isInterface = false := by
  obtain ⟨c, r, mm, h1, h2, h3, h4, k, h5, h6⟩ := Cond.selects_spec w
  have q := findClass_of_methodNamed h3
  rw [hz] at q
  exact ⟨_, k, q, h5, h6⟩
theorem own_selP {Z : State} {a0 : Array Value} {C : String} {y z : MethodName} (w : (Cond.selects C z z).before a0 Z = true) (wi : (Cond.instanceMethod y).before a0 Z = true) (wp : (Cond.privateMethod y).before a0 Z = true) (hz : z.cls = y.cls := by rfl) (hy : y.cls ≠ "java/lang/invoke/MethodHandle" ∧ y.cls ≠ "java/lang/invoke/VarHandle" := by decide) : (Cond.selects y.cls y y).before a0 Z = true := by
  obtain ⟨c, k, q, h5, h6⟩ := own_sel w hz
  exact Jvm.Stand.selects_self_of_private q h5 h6 (Cond.privateMethod_at wp) wi hy
theorem own_same {Z : State} {a0 : Array Value} {C : String} {y z : MethodName} (w : (Cond.selects C z z).before a0 Z = true) (wi : (Cond.instanceMethod y).before a0 Z = true) (hz : z.cls = y.cls := by rfl) (hy : y.cls ≠ "java/lang/invoke/MethodHandle" ∧ y.cls ≠ "java/lang/invoke/VarHandle" := by decide) : (Cond.sameMethod y.cls y.cls y.name y.desc).before a0 Z = true := by
  obtain ⟨c, k, q, h5, h6⟩ := own_sel w hz
  obtain ⟨mk, methM, hnamed, hmethM, -, -⟩ := Cond.instanceMethod_spec wi
  have hf := State.methodFound?_of_named hnamed hy
  have hn : Z.methodNamed? ⟨y.cls, y.name, y.desc⟩ = some mk := hnamed
  simp [Cond.before, Cond.holds, Cond.value, q, hf, hn, h5, h6]
theorem own_nf {s : State} {args : Array Value} {C : String} {y z : MethodName} (w : (Cond.selects C z z).before args s = true) (hz : z.cls = y.cls := by rfl) : NotFace s y := fun r0 h0 => by
  obtain ⟨c, k, q, h5, h6⟩ := own_sel w hz
  cases (findClass_of_methodNamed h0).symm.trans q
  exact ⟨k, h5, h6⟩
theorem own_clamp (x : Int32) : x.toNatClampNeg = x.toInt.toNat := rfl
theorem own_padz (vs : List Value) (k i : Nat) : vs.getD i (.int 0 : Value) = (vs ++ List.replicate k (.int 0 : Value)).getD i (.int 0 : Value) := by
  simp only [List.getD_eq_getElem?_getD]
  by_cases h : i < vs.length
  · rw [List.getElem?_append_left h]
  · rw [List.getElem?_append_right (by omega), List.getElem?_eq_none (by omega), List.getElem?_replicate]; split <;> rfl
theorem own_zpad (k i : Nat) : (List.replicate k (.int 0 : Value)).getD i (.int 0) = ([] : List Value).getD i (.int 0) := by
  rw [List.getD_eq_getElem?_getD, List.getElem?_replicate]; split <;> rfl
theorem own_and3 (x : Int32) : x &&& (3 : Int32) = (0 : Int32) ∨ x &&& (3 : Int32) = (1 : Int32) ∨ x &&& (3 : Int32) = (2 : Int32) ∨ x &&& (3 : Int32) = (3 : Int32) := by
  have h := c_and x 3 (by decide)
  have e : (3 : Int32).toInt = 3 := by decide
  rw [e] at h
  have q : ∀ n : Int32, (x &&& 3).toInt = n.toInt → x &&& 3 = n := fun n hn => Int32.toInt_inj.mp hn
  have c : (x &&& 3).toInt = 0 ∨ (x &&& 3).toInt = 1 ∨ (x &&& 3).toInt = 2 ∨ (x &&& 3).toInt = 3 := by omega
  rcases c with h | h | h | h
  · exact Or.inl (q 0 h)
  · exact Or.inr (Or.inl (q 1 h))
  · exact Or.inr (Or.inr (Or.inl (q 2 h)))
  · exact Or.inr (Or.inr (Or.inr (q 3 h)))
theorem own_isref {Z : State} {args : Array Value} {t : Term} (h : (Jvm.Cond.isRef t).value args Z none Z [] = some true) : ∃ v, t.eval args Z none [] Z = some v ∧ v.isRef = true := by
  simp only [Cond.value] at h
  cases e : t.eval args Z none [] Z with
  | none => simp [e] at h
  | some v =>
    refine ⟨v, rfl, ?_⟩
    rw [e] at h
    cases v <;> first | rfl | (simp at h)
def own_z16 : List Value := List.replicate 16 (.int 0)
def own_z64 : List Value := List.replicate 64 (.int 0)
theorem own_len16 : (own_cp own_z16 (own_P.map Value.int) 0 6).length = 16 := by decide +kernel
theorem own_len64 (vd : List Value) : (own_cp own_z64 vd 0 16).length = 64 := by
  have e0 : (0 : Int32).toNatClampNeg = 0 := by decide
  have e1 : (16 : Int32).toNatClampNeg = 16 := by decide
  simp only [own_cp, own_z64, e0, e1, List.length_append, List.length_take, List.length_map, List.length_range, List.length_drop, List.length_replicate]
  decide
/-- what the builder holds at the end -/
def own_msg (bs : List Value) (ln : Int32) : List Value := own_cp (own_cp own_z64 (own_cp (own_cp own_z16 (own_P.map Value.int) 0 6) bs 6 ln) 0 16) (own_Sf.map Value.int) (6 + ln) 28
theorem d21_0 : decode jdk_29_method_65_code 0 = .ok (.iload_n 0, 1) := by decide +kernel
theorem d21_1 : decode jdk_29_method_65_code 1 = .ok (.iload_n 1, 1) := by decide +kernel
theorem d21_2 : decode jdk_29_method_65_code 2 = .ok (.if_icmp .lt 7, 3) := by decide +kernel
theorem d21_9 : decode jdk_29_method_65_code 9 = .ok (.iload_n 1, 1) := by decide +kernel
theorem d21_10 : decode jdk_29_method_65_code 10 = .ok (.ireturn, 1) := by decide +kernel
theorem d21_5 : decode jdk_29_method_65_code 5 = .ok (.iload_n 0, 1) := by decide +kernel
theorem d21_6 : decode jdk_29_method_65_code 6 = .ok (.goto 4, 3) := by decide +kernel
theorem ef_rm21 (m : MethodId) (p1 : Int32) (p2 : Int32) : entryFrame m #[(.int p1), (.int p2)] 2 = mkF m 0 #[oI p1, oI p2] [] := by first | (simp [entryFrame, mkF, argsToLocals, Value.category]; done) | rfl
def Q_rm21 (Z : State) (p1 : Int32) (p2 : Int32) (h0 : Heap) (n0 : Nat) (v : Option Value) (h : Heap) (L : List Loc) : Prop := (v = some (.int (own_max p1 p2))) ∧ (Fr n0 L) ∧ (h = h0)
set_option maxRecDepth 65536 in
set_option maxHeartbeats 40000000 in
theorem rm21 (l : Launch) (Z : State) (a0 : Array Value) (hw : ∀ d ∈ tables_1, d.before a0 Z = true) (ws : List Jvm.Cond) (p1 : Int32) (p2 : Int32) (h0 : Heap) (n0 : Nat) (Z0 : n0 ≤ h0.size)  :
    MetFree l (⟨"java/lang/Math", "max", "(II)I"⟩ : MethodName) (head1 (Jvm.Cond.code (⟨"java/lang/Math", "max", "(II)I"⟩ : MethodName) jdk_29_method_65_code 2 (some .int) :: ws) ({ frames := 0, cells := 0, slots := 0, locals := 0 } : Room)) (fun a U => a = #[(.int p1), (.int p2)] ∧ Z.Warmed39 U.vm ∧ U.heap = h0) (fun _ _ _ _ _ => True) (fun _ U o U' => ∃ v L, o = .returned v ∧ Q_rm21 Z p1 p2 h0 n0 v U'.heap L ∧ FrameEnd U o U' L ({ frames := 0, cells := 0, slots := 0, locals := 0 } : Room).cells ({ frames := 0, cells := 0, slots := 0, locals := 0 } : Room).slots) := by
  refine MetFree.of_bodySF (Jvm.Free.JP.mathPlain rfl (by decide +kernel)) hisR ?_
  intro p e s m args below meth c s₁ Bd hml0 hP hK
  obtain ⟨rfl, hZ, hh⟩ := hP
  have hx := Bd.exec
  have hby := Bd.bytes
  have hml : c.maxLocals = 2 := hml0
  have hown : s.vm.findClass "java/lang/Math" = some m.cls := findClass_of_methodNamed Bd.named
  have hnm := (name_of_methodNamed Bd.named Bd.method).1
  have hlk := Bd.notSynchronized
  have X0 : Stand p l e ({ frames := 0, cells := 0, slots := 0, locals := 0 } : Room) s m #[(.int p1), (.int p2)] below meth c s₁ [] 0 0 := Stand.of_body Bd
  have e0 : s₁.heap = h0 := by rw [← hh, Bd.state]; rfl
  have N0 := Fr.nil n0
  refine Wp.goal (Post := (fun o U' => ∃ v L, o = .returned v ∧ Q_rm21 Z p1 p2 h0 n0 v U'.heap L ∧ FrameEnd s o U' L ({ frames := 0, cells := 0, slots := 0, locals := 0 } : Room).cells ({ frames := 0, cells := 0, slots := 0, locals := 0 } : Room).slots)) (Wp.st (S' := s₁.setTop (mkF m 0 #[oI p1, oI p2] [])) (fun tt_ kk_ => castTop (ef_rm21 m p1 p2 ) kk_) ?_)
  refine Wp.st (S' := s₁.setTop (mkF m 1 #[oI p1, oI p2] [(.int p1)])) (fun tt_ kk_ => XS.iloadN X0.here hx rfl (hb hby d21_0) rfl  kk_) ?_
  refine Wp.st (S' := s₁.setTop (mkF m 2 #[oI p1, oI p2] [(.int p2), (.int p1)])) (fun tt_ kk_ => XS.iloadN X0.here hx rfl (hb hby d21_1) rfl  kk_) ?_
  by_cases h : p1 < p2
  case pos =>
    refine Wp.st (S' := s₁.setTop (mkF m 9 #[oI p1, oI p2] [])) (fun tt_ kk_ => XS.icmpYes X0.here hx rfl (pc0 := 2) (pc' := 9) rfl (hb hby d21_2) rfl (tlt (h : p1 < p2)).1 (by decide) (by decide) kk_) ?_
    refine Wp.st (S' := s₁.setTop (mkF m 10 #[oI p1, oI p2] [(.int p2)])) (fun tt_ kk_ => XS.iloadN X0.here hx rfl (hb hby d21_9) rfl  kk_) ?_
    exact Wp.ret X0 hlk (v := (some (.int p2))) (fun h => by rw [Bd.returns] at h; cases h) (fun fs hr => retI X0 hx Bd.returns (hb hby d21_10) hr) (by decide) (by decide) (show Q_rm21 Z p1 p2 h0 n0 _ s₁.heap _ by rw [e0]; exact ⟨(by unfold own_max; rw [if_pos h]), N0, rfl⟩)
  case neg =>
    refine Wp.st (S' := s₁.setTop (mkF m 5 #[oI p1, oI p2] [])) (fun tt_ kk_ => XS.icmpNo X0.here hx rfl (hb hby d21_2) rfl (flt (h : ¬ (p1 < p2))).1 kk_) ?_
    refine Wp.st (S' := s₁.setTop (mkF m 6 #[oI p1, oI p2] [(.int p1)])) (fun tt_ kk_ => XS.iloadN X0.here hx rfl (hb hby d21_5) rfl  kk_) ?_
    refine Wp.st (S' := s₁.setTop (mkF m 10 #[oI p1, oI p2] [(.int p1)])) (fun tt_ kk_ => XS.goto X0.here hx rfl (pc0 := 6) (pc' := 10) rfl (hb hby d21_6) (by decide) (by decide) kk_) ?_
    exact Wp.ret X0 hlk (v := (some (.int p1))) (fun h => by rw [Bd.returns] at h; cases h) (fun fs hr => retI X0 hx Bd.returns (hb hby d21_10) hr) (by decide) (by decide) (show Q_rm21 Z p1 p2 h0 n0 _ s₁.heap _ by rw [e0]; exact ⟨(by unfold own_max; rw [if_neg h]), N0, rfl⟩)
theorem d23_0 : decode jdk_29_method_69_code 0 = .ok (.iload_n 0, 1) := by decide +kernel
theorem d23_1 : decode jdk_29_method_69_code 1 = .ok (.iload_n 1, 1) := by decide +kernel
theorem d23_2 : decode jdk_29_method_69_code 2 = .ok (.if_icmp .gt 7, 3) := by decide +kernel
theorem d23_9 : decode jdk_29_method_69_code 9 = .ok (.iload_n 1, 1) := by decide +kernel
theorem d23_10 : decode jdk_29_method_69_code 10 = .ok (.ireturn, 1) := by decide +kernel
theorem d23_5 : decode jdk_29_method_69_code 5 = .ok (.iload_n 0, 1) := by decide +kernel
theorem d23_6 : decode jdk_29_method_69_code 6 = .ok (.goto 4, 3) := by decide +kernel
theorem ef_rm23 (m : MethodId) (p1 : Int32) (p2 : Int32) : entryFrame m #[(.int p1), (.int p2)] 2 = mkF m 0 #[oI p1, oI p2] [] := by first | (simp [entryFrame, mkF, argsToLocals, Value.category]; done) | rfl
def Q_rm23 (Z : State) (p1 : Int32) (p2 : Int32) (h0 : Heap) (n0 : Nat) (v : Option Value) (h : Heap) (L : List Loc) : Prop := (v = some (.int (own_min p1 p2))) ∧ (Fr n0 L) ∧ (h = h0)
set_option maxRecDepth 65536 in
set_option maxHeartbeats 40000000 in
theorem rm23 (l : Launch) (Z : State) (a0 : Array Value) (hw : ∀ d ∈ tables_1, d.before a0 Z = true) (ws : List Jvm.Cond) (p1 : Int32) (p2 : Int32) (h0 : Heap) (n0 : Nat) (Z0 : n0 ≤ h0.size)  :
    MetFree l (⟨"java/lang/Math", "min", "(II)I"⟩ : MethodName) (head1 (Jvm.Cond.code (⟨"java/lang/Math", "min", "(II)I"⟩ : MethodName) jdk_29_method_69_code 2 (some .int) :: ws) ({ frames := 0, cells := 0, slots := 0, locals := 0 } : Room)) (fun a U => a = #[(.int p1), (.int p2)] ∧ Z.Warmed39 U.vm ∧ U.heap = h0) (fun _ _ _ _ _ => True) (fun _ U o U' => ∃ v L, o = .returned v ∧ Q_rm23 Z p1 p2 h0 n0 v U'.heap L ∧ FrameEnd U o U' L ({ frames := 0, cells := 0, slots := 0, locals := 0 } : Room).cells ({ frames := 0, cells := 0, slots := 0, locals := 0 } : Room).slots) := by
  refine MetFree.of_bodySF (Jvm.Free.JP.mathPlain rfl (by decide +kernel)) hisR ?_
  intro p e s m args below meth c s₁ Bd hml0 hP hK
  obtain ⟨rfl, hZ, hh⟩ := hP
  have hx := Bd.exec
  have hby := Bd.bytes
  have hml : c.maxLocals = 2 := hml0
  have hown : s.vm.findClass "java/lang/Math" = some m.cls := findClass_of_methodNamed Bd.named
  have hnm := (name_of_methodNamed Bd.named Bd.method).1
  have hlk := Bd.notSynchronized
  have X0 : Stand p l e ({ frames := 0, cells := 0, slots := 0, locals := 0 } : Room) s m #[(.int p1), (.int p2)] below meth c s₁ [] 0 0 := Stand.of_body Bd
  have e0 : s₁.heap = h0 := by rw [← hh, Bd.state]; rfl
  have N0 := Fr.nil n0
  refine Wp.goal (Post := (fun o U' => ∃ v L, o = .returned v ∧ Q_rm23 Z p1 p2 h0 n0 v U'.heap L ∧ FrameEnd s o U' L ({ frames := 0, cells := 0, slots := 0, locals := 0 } : Room).cells ({ frames := 0, cells := 0, slots := 0, locals := 0 } : Room).slots)) (Wp.st (S' := s₁.setTop (mkF m 0 #[oI p1, oI p2] [])) (fun tt_ kk_ => castTop (ef_rm23 m p1 p2 ) kk_) ?_)
  refine Wp.st (S' := s₁.setTop (mkF m 1 #[oI p1, oI p2] [(.int p1)])) (fun tt_ kk_ => XS.iloadN X0.here hx rfl (hb hby d23_0) rfl  kk_) ?_
  refine Wp.st (S' := s₁.setTop (mkF m 2 #[oI p1, oI p2] [(.int p2), (.int p1)])) (fun tt_ kk_ => XS.iloadN X0.here hx rfl (hb hby d23_1) rfl  kk_) ?_
  by_cases h : p2 < p1
  case pos =>
    refine Wp.st (S' := s₁.setTop (mkF m 9 #[oI p1, oI p2] [])) (fun tt_ kk_ => XS.icmpYes X0.here hx rfl (pc0 := 2) (pc' := 9) rfl (hb hby d23_2) rfl (tlt (h : p2 < p1)).2.2.1 (by decide) (by decide) kk_) ?_
    refine Wp.st (S' := s₁.setTop (mkF m 10 #[oI p1, oI p2] [(.int p2)])) (fun tt_ kk_ => XS.iloadN X0.here hx rfl (hb hby d23_9) rfl  kk_) ?_
    exact Wp.ret X0 hlk (v := (some (.int p2))) (fun h => by rw [Bd.returns] at h; cases h) (fun fs hr => retI X0 hx Bd.returns (hb hby d23_10) hr) (by decide) (by decide) (show Q_rm23 Z p1 p2 h0 n0 _ s₁.heap _ by rw [e0]; exact ⟨(by unfold own_min; rw [if_pos h]), N0, rfl⟩)
  case neg =>
    refine Wp.st (S' := s₁.setTop (mkF m 5 #[oI p1, oI p2] [])) (fun tt_ kk_ => XS.icmpNo X0.here hx rfl (hb hby d23_2) rfl (flt (h : ¬ (p2 < p1))).2.2.1 kk_) ?_
    refine Wp.st (S' := s₁.setTop (mkF m 6 #[oI p1, oI p2] [(.int p1)])) (fun tt_ kk_ => XS.iloadN X0.here hx rfl (hb hby d23_5) rfl  kk_) ?_
    refine Wp.st (S' := s₁.setTop (mkF m 10 #[oI p1, oI p2] [(.int p1)])) (fun tt_ kk_ => XS.goto X0.here hx rfl (pc0 := 6) (pc' := 10) rfl (hb hby d23_6) (by decide) (by decide) kk_) ?_
    exact Wp.ret X0 hlk (v := (some (.int p1))) (fun h => by rw [Bd.returns] at h; cases h) (fun fs hr => retI X0 hx Bd.returns (hb hby d23_10) hr) (by decide) (by decide) (show Q_rm23 Z p1 p2 h0 n0 _ s₁.heap _ by rw [e0]; exact ⟨(by unfold own_min; rw [if_neg h]), N0, rfl⟩)
theorem pn_14 : plainName "java/lang/String" = true := by first | (simp [plainName, overriddenIn]; done) | decide +kernel
theorem d14_0 : decode jdk_42_method_152_code 0 = .ok (.getstatic 38, 3) := by decide +kernel
theorem d14_3 : decode jdk_42_method_152_code 3 = .ok (.ifCond .eq 10, 3) := by decide +kernel
theorem d14_6 : decode jdk_42_method_152_code 6 = .ok (.aload_n 0, 1) := by decide +kernel
theorem d14_7 : decode jdk_42_method_152_code 7 = .ok (.getfield 15, 3) := by decide +kernel
theorem d14_10 : decode jdk_42_method_152_code 10 = .ok (.goto 4, 3) := by decide +kernel
theorem d14_14 : decode jdk_42_method_152_code 14 = .ok (.ireturn, 1) := by decide +kernel
theorem ef_rm14 (m : MethodId) (a1 : Addr) : entryFrame m #[(.ref a1)] 1 = mkF m 0 #[oR a1] [] := by first | (simp [entryFrame, mkF, argsToLocals, Value.category]; done) | rfl
def Q_rm14 (Z : State) (a1 : Addr) (zcs : Int32) (h0 : Heap) (n0 : Nat) (v : Option Value) (h : Heap) (L : List Loc) : Prop := (v = some (.int (0 : Int32))) ∧ (Fr n0 L) ∧ (h = h0)
set_option maxRecDepth 65536 in
set_option maxHeartbeats 40000000 in
theorem rm14 (l : Launch) (Z : State) (a0 : Array Value) (hw : ∀ d ∈ tables_1, d.before a0 Z = true) (ws : List Jvm.Cond) (a1 : Addr) (zcs : Int32) (h0 : Heap) (n0 : Nat) (Z0 : n0 ≤ h0.size) (O0 : Jvm.RoadKit.Old Z n0 h0) (SCompact : Sta Z Z.heap "java/lang/String" "COMPACT_STRINGS" "Z" (.int zcs)) (hCS : ¬ zcs = 0) (P3 : Fld Z h0 a1 "java/lang/String" "coder" "B" (.int (0 : Int32))) :
    MetFree l (⟨"java/lang/String", "coder", "()B"⟩ : MethodName) (head1 (Jvm.Cond.code (⟨"java/lang/String", "coder", "()B"⟩ : MethodName) jdk_42_method_152_code 1 (some .byte) :: ws) ({ frames := 0, cells := 0, slots := 0, locals := 0 } : Room)) (fun a U => a = #[(.ref a1)] ∧ Z.Warmed39 U.vm ∧ U.heap = h0) (fun _ _ _ _ _ => True) (fun _ U o U' => ∃ v L, o = .returned v ∧ Q_rm14 Z a1 zcs h0 n0 v U'.heap L ∧ FrameEnd U o U' L ({ frames := 0, cells := 0, slots := 0, locals := 0 } : Room).cells ({ frames := 0, cells := 0, slots := 0, locals := 0 } : Room).slots) := by
  refine MetFree.of_bodySF (plainFor_of_name pn_14) hisR ?_
  intro p e s m args below meth c s₁ Bd hml0 hP hK
  obtain ⟨rfl, hZ, hh⟩ := hP
  have hx := Bd.exec
  have hby := Bd.bytes
  have hml : c.maxLocals = 1 := hml0
  have hown : s.vm.findClass "java/lang/String" = some m.cls := findClass_of_methodNamed Bd.named
  have hnm := (name_of_methodNamed Bd.named Bd.method).1
  have hlk := Bd.notSynchronized
  have X0 : Stand p l e ({ frames := 0, cells := 0, slots := 0, locals := 0 } : Room) s m #[(.ref a1)] below meth c s₁ [] 0 0 := Stand.of_body Bd
  have e0 : s₁.heap = h0 := by rw [← hh, Bd.state]; rfl
  have N0 := Fr.nil n0
  refine Wp.goal (Post := (fun o U' => ∃ v L, o = .returned v ∧ Q_rm14 Z a1 zcs h0 n0 v U'.heap L ∧ FrameEnd s o U' L ({ frames := 0, cells := 0, slots := 0, locals := 0 } : Room).cells ({ frames := 0, cells := 0, slots := 0, locals := 0 } : Room).slots)) (Wp.st (S' := s₁.setTop (mkF m 0 #[oR a1] [])) (fun tt_ kk_ => castTop (ef_rm14 m a1 ) kk_) ?_)
  obtain ⟨T1, X1, e1, st1⟩ := getS2 X0 hx hZ hown (host := "") (Or.inl (hw _ (List.mem_of_getElem? (i := 26) rfl))) Via.refl e0 (SCompact.ext O0.2) (g := (mkF m 0 #[oR a1] [])) rfl (hb hby d14_0)
  refine Wp.st (S' := T1.setTop (mkF m 3 #[oR a1] [(.int zcs)])) st1 ?_
  refine Wp.st (S' := T1.setTop (mkF m 6 #[oR a1] [])) (fun tt_ kk_ => XS.ifNo X1.here hx rfl (hb hby d14_3) rfl ((if0 _ _).trans (feq (hCS : ¬ (zcs = (0 : Int32)))).1) kk_) ?_
  refine Wp.st (S' := T1.setTop (mkF m 7 #[oR a1] [(.ref a1)])) (fun tt_ kk_ => XS.aloadN X1.here hx rfl (hb hby d14_6) rfl rfl kk_) ?_
  obtain ⟨T2, X2, e2, st2⟩ := getF X1 hx hZ hown (host := "") (Or.inl (hw _ (List.mem_of_getElem? (i := 25) rfl))) Via.refl e1 P3 (g := (mkF m 7 #[oR a1] [(.ref a1)])) rfl rfl (hb hby d14_7)
  refine Wp.st (S' := T2.setTop (mkF m 10 #[oR a1] [(.int (0 : Int32))])) st2 ?_
  refine Wp.st (S' := T2.setTop (mkF m 14 #[oR a1] [(.int (0 : Int32))])) (fun tt_ kk_ => XS.goto X2.here hx rfl (pc0 := 10) (pc' := 14) rfl (hb hby d14_10) (by decide) (by decide) kk_) ?_
  exact Wp.ret X2 hlk (v := (some (.int (0 : Int32)))) (fun h => by rw [Bd.returns] at h; cases h) (fun fs hr => retN (z := (0 : Int32)) X2 hx (t := .byte) Bd.returns (by simp) (hb hby d14_14) hr) (by decide) (by decide) (show Q_rm14 Z a1 zcs h0 n0 _ T2.heap _ by rw [e2]; exact ⟨rfl, N0, rfl⟩)
theorem pn_13 : plainName "java/lang/String" = true := by first | (simp [plainName, overriddenIn]; done) | decide +kernel
theorem d13_0 : decode jdk_42_method_54_code 0 = .ok (.aload_n 0, 1) := by decide +kernel
theorem d13_1 : decode jdk_42_method_54_code 1 = .ok (.getfield 9, 3) := by decide +kernel
theorem d13_4 : decode jdk_42_method_54_code 4 = .ok (.arraylength, 1) := by decide +kernel
theorem d13_5 : decode jdk_42_method_54_code 5 = .ok (.aload_n 0, 1) := by decide +kernel
theorem d13_6 : decode jdk_42_method_54_code 6 = .ok (.invokevirtual 335, 3) := by decide +kernel
theorem pd_0 : parseMethodDescriptor "()B" = some ⟨[], some .byte⟩ := by decide +kernel
theorem d13_9 : decode jdk_42_method_54_code 9 = .ok (.ishr, 1) := by decide +kernel
theorem d13_10 : decode jdk_42_method_54_code 10 = .ok (.ireturn, 1) := by decide +kernel
theorem ef_rm13 (m : MethodId) (a1 : Addr) : entryFrame m #[(.ref a1)] 1 = mkF m 0 #[oR a1] [] := by first | (simp [entryFrame, mkF, argsToLocals, Value.category]; done) | rfl
def Q_rm13 (Z : State) (a1 : Addr) (zcs : Int32) (t1 : Addr) (k1 : ClassId) (ln : Int32) (bs : List Value) (h0 : Heap) (n0 : Nat) (v : Option Value) (h : Heap) (L : List Loc) : Prop := (v = some (.int ln)) ∧ (Fr n0 L) ∧ (h = h0)
set_option maxRecDepth 65536 in
set_option maxHeartbeats 40000000 in
theorem rm13 (l : Launch) (Z : State) (a0 : Array Value) (hw : ∀ d ∈ tables_1, d.before a0 Z = true) (ws : List Jvm.Cond) (a1 : Addr) (zcs : Int32) (t1 : Addr) (k1 : ClassId) (ln : Int32) (bs : List Value) (h0 : Heap) (n0 : Nat) (Z0 : n0 ≤ h0.size) (O0 : Jvm.RoadKit.Old Z n0 h0) (SCompact : Sta Z Z.heap "java/lang/String" "COMPACT_STRINGS" "Z" (.int zcs)) (hCS : ¬ zcs = 0) (P3 : Exa Z h0 a1 "java/lang/String") (P4 : Fld Z h0 a1 "java/lang/String" "value" "[B" (.ref t1)) (P5 : Fld Z h0 a1 "java/lang/String" "coder" "B" (.int (0 : Int32))) (P6 : Arv Z h0 t1 k1 .byte ln bs (.int (0 : Int32))) :
    MetFree l (⟨"java/lang/String", "length", "()I"⟩ : MethodName) (head1 (Jvm.Cond.code (⟨"java/lang/String", "length", "()I"⟩ : MethodName) jdk_42_method_54_code 1 (some .int) :: ws) ({ frames := 1, cells := 0, slots := 0, locals := 13 } : Room)) (fun a U => a = #[(.ref a1)] ∧ Z.Warmed39 U.vm ∧ U.heap = h0) (fun _ _ _ _ _ => True) (fun _ U o U' => ∃ v L, o = .returned v ∧ Q_rm13 Z a1 zcs t1 k1 ln bs h0 n0 v U'.heap L ∧ FrameEnd U o U' L ({ frames := 1, cells := 0, slots := 0, locals := 13 } : Room).cells ({ frames := 1, cells := 0, slots := 0, locals := 13 } : Room).slots) := by
  refine MetFree.of_bodySF (plainFor_of_name pn_13) hisR ?_
  intro p e s m args below meth c s₁ Bd hml0 hP hK
  obtain ⟨rfl, hZ, hh⟩ := hP
  have hx := Bd.exec
  have hby := Bd.bytes
  have hml : c.maxLocals = 1 := hml0
  have hown : s.vm.findClass "java/lang/String" = some m.cls := findClass_of_methodNamed Bd.named
  have hnm := (name_of_methodNamed Bd.named Bd.method).1
  have hlk := Bd.notSynchronized
  have X0 : Stand p l e ({ frames := 1, cells := 0, slots := 0, locals := 13 } : Room) s m #[(.ref a1)] below meth c s₁ [] 0 0 := Stand.of_body Bd
  have e0 : s₁.heap = h0 := by rw [← hh, Bd.state]; rfl
  have N0 := Fr.nil n0
  refine Wp.goal (Post := (fun o U' => ∃ v L, o = .returned v ∧ Q_rm13 Z a1 zcs t1 k1 ln bs h0 n0 v U'.heap L ∧ FrameEnd s o U' L ({ frames := 1, cells := 0, slots := 0, locals := 13 } : Room).cells ({ frames := 1, cells := 0, slots := 0, locals := 13 } : Room).slots)) (Wp.st (S' := s₁.setTop (mkF m 0 #[oR a1] [])) (fun tt_ kk_ => castTop (ef_rm13 m a1 ) kk_) ?_)
  refine Wp.st (S' := s₁.setTop (mkF m 1 #[oR a1] [(.ref a1)])) (fun tt_ kk_ => XS.aloadN X0.here hx rfl (hb hby d13_0) rfl rfl kk_) ?_
  obtain ⟨T1, X1, e1, st1⟩ := getF X0 hx hZ hown (host := "") (Or.inl (hw _ (List.mem_of_getElem? (i := 24) rfl))) Via.refl e0 P4 (g := (mkF m 1 #[oR a1] [(.ref a1)])) rfl rfl (hb hby d13_1)
  refine Wp.st (S' := T1.setTop (mkF m 4 #[oR a1] [(.ref t1)])) st1 ?_
  obtain ⟨cl2, Ar2, q2, S2, N2, H2, G2⟩ := id P6
  refine Wp.st (S' := T1.setTop (mkF m 5 #[oR a1] [(.int ln)])) (fun tt_ kk_ => X1.arraylength hx (by rw [e1]; exact Ar2.1) (State.isArrayOf_alike hZ.alike Ar2.2.1) (g := (mkF m 4 #[oR a1] [(.ref t1)])) rfl rfl (hb hby d13_4) tt_ (by rw [len_of S2 N2]; exact kk_)) ?_
  refine Wp.st (S' := T1.setTop (mkF m 6 #[oR a1] [(.ref a1), (.int ln)])) (fun tt_ kk_ => XS.aloadN X1.here hx rfl (hb hby d13_5) rfl rfl kk_) ?_
  obtain ⟨cq3, kq3, q3a, q3b, q3c⟩ := isOf hZ e1 P3
  obtain ⟨vv3, _, ⟨T3, L3, k3, n3⟩, -, X3, ⟨Lc3, hQ3, l3, y3, z3⟩, st3⟩ := X1.virtualBack hx (y := (⟨"java/lang/String", "coder", "()B"⟩ : MethodName)) (z := (⟨"java/lang/String", "coder", "()B"⟩ : MethodName)) hown (mvT hZ (hw _ (List.mem_of_getElem? (i := 77) rfl))) (mvT hZ (hw _ (List.mem_of_getElem? (i := 78) rfl))) (notFace_of_selects (args := #[]) (mvT hZ (hw _ (List.mem_of_getElem? (i := 80) rfl)))) (mvT hZ (hw _ (List.mem_of_getElem? (i := 80) rfl))) (mvT hZ (hw _ (List.mem_of_getElem? (i := 79) rfl))) (by decide) (backOf (W := 1) (rm14 l Z a0 hw [] a1 zcs h0 n0 Z0 O0 SCompact (hCS : ¬ zcs = 0) P5) hZ (hw _ (List.mem_of_getElem? (i := 81) rfl)) (hw _ (List.mem_of_getElem? (i := 7) rfl)) (by decide) (by decide)) q3a q3c (g := (mkF m 6 #[oR a1] [(.ref a1), (.int ln)])) rfl (by rw [hml]; rfl) (Steps.refl _) (argsL := []) (rest := [(.int ln)]) (lenOf pd_0 rfl) rfl (by show 2 * 0 + _ ≤ _; exact Nat.le_of_eq rfl) (hb hby d13_6) (fun _ _ => ⟨rfl, e1, (by decide : 0 + 0 ≤ _), (by decide : 0 + 0 ≤ _)⟩)
  dsimp only [Pt.U, Pt.locs, Pt.cells, Pt.slots] at X3 l3 y3 z3 st3 hQ3
  subst l3 y3 z3
  obtain ⟨rfl, Nq3, e3⟩ := hQ3
  have N3 := Fr.app N0 Nq3
  refine Wp.tr (S' := T3.setTop (mkF m 9 #[oR a1] [(.int (0 : Int32)), (.int ln)])) st3 ?_
  refine Wp.st (S' := T3.setTop (mkF m 10 #[oR a1] [(.int (ln >>> ((0 : Int32) &&& 31)))])) (fun tt_ kk_ => XS.ishr X3.here hx rfl (hb hby d13_9) rfl kk_) ?_
  rw [(own_shr0 ln : (ln >>> ((0 : Int32) &&& 31)) = ln)]
  exact Wp.ret X3 hlk (v := (some (.int ln))) (fun h => by rw [Bd.returns] at h; cases h) (fun fs hr => retI X3 hx Bd.returns (hb hby d13_10) hr) (by decide) (by decide) (show Q_rm13 Z a1 zcs t1 k1 ln bs h0 n0 _ T3.heap _ by rw [e3]; exact ⟨rfl, N3, rfl⟩)
theorem pn_20 : plainName "jdk/internal/util/ArraysSupport" = true := by first | (simp [plainName, overriddenIn]; done) | decide +kernel
theorem d20_0 : decode jdk_48_method_27_code 0 = .ok (.iload_n 0, 1) := by decide +kernel
theorem d20_1 : decode jdk_48_method_27_code 1 = .ok (.iload_n 1, 1) := by decide +kernel
theorem d20_2 : decode jdk_48_method_27_code 2 = .ok (.iload_n 2, 1) := by decide +kernel
theorem d20_3 : decode jdk_48_method_27_code 3 = .ok (.invokestatic 194, 3) := by decide +kernel
theorem pd_1 : parseMethodDescriptor "(II)I" = some ⟨[.int, .int], some .int⟩ := by decide +kernel
theorem d20_6 : decode jdk_48_method_27_code 6 = .ok (.iadd, 1) := by decide +kernel
theorem d20_7 : decode jdk_48_method_27_code 7 = .ok (.istore_n 3, 1) := by decide +kernel
theorem d20_8 : decode jdk_48_method_27_code 8 = .ok (.iconst 0, 1) := by decide +kernel
theorem d20_9 : decode jdk_48_method_27_code 9 = .ok (.iload_n 3, 1) := by decide +kernel
theorem d20_10 : decode jdk_48_method_27_code 10 = .ok (.if_icmp .ge 11, 3) := by decide +kernel
theorem d20_13 : decode jdk_48_method_27_code 13 = .ok (.iload_n 3, 1) := by decide +kernel
theorem d20_14 : decode jdk_48_method_27_code 14 = .ok (.ldc 200, 2) := by decide +kernel
theorem d20_16 : decode jdk_48_method_27_code 16 = .ok (.if_icmp .gt 5, 3) := by decide +kernel
theorem d20_19 : decode jdk_48_method_27_code 19 = .ok (.iload_n 3, 1) := by decide +kernel
theorem d20_20 : decode jdk_48_method_27_code 20 = .ok (.ireturn, 1) := by decide +kernel
theorem ef_rm20 (m : MethodId) (p1 : Int32) (p2 : Int32) (p3 : Int32) : entryFrame m #[(.int p1), (.int p2), (.int p3)] 4 = mkF m 0 #[oI p1, oI p2, oI p3, oU] [] := by first | (simp [entryFrame, mkF, argsToLocals, Value.category]; done) | rfl
def Q_rm20 (Z : State) (p1 : Int32) (p2 : Int32) (p3 : Int32) (h0 : Heap) (n0 : Nat) (v : Option Value) (h : Heap) (L : List Loc) : Prop := (v = some (.int (p1 + (own_max p2 p3)))) ∧ (Fr n0 L) ∧ (h = h0)
set_option maxRecDepth 65536 in
set_option maxHeartbeats 40000000 in
theorem rm20 (l : Launch) (Z : State) (a0 : Array Value) (hw : ∀ d ∈ tables_1, d.before a0 Z = true) (ws : List Jvm.Cond) (p1 : Int32) (p2 : Int32) (p3 : Int32) (h0 : Heap) (n0 : Nat) (Z0 : n0 ≤ h0.size) (h1 : (0 : Int32) < (p1 + (own_max p2 p3))) (h2 : ¬ (2147483639 : Int32) < (p1 + (own_max p2 p3))) :
    MetFree l (⟨"jdk/internal/util/ArraysSupport", "newLength", "(III)I"⟩ : MethodName) (head1 (Jvm.Cond.code (⟨"jdk/internal/util/ArraysSupport", "newLength", "(III)I"⟩ : MethodName) jdk_48_method_27_code 4 (some .int) :: ws) ({ frames := 1, cells := 0, slots := 0, locals := 14 } : Room)) (fun a U => a = #[(.int p1), (.int p2), (.int p3)] ∧ Z.Warmed39 U.vm ∧ U.heap = h0) (fun _ _ _ _ _ => True) (fun _ U o U' => ∃ v L, o = .returned v ∧ Q_rm20 Z p1 p2 p3 h0 n0 v U'.heap L ∧ FrameEnd U o U' L ({ frames := 1, cells := 0, slots := 0, locals := 14 } : Room).cells ({ frames := 1, cells := 0, slots := 0, locals := 14 } : Room).slots) := by
  refine MetFree.of_bodySF (plainFor_of_name pn_20) hisR ?_
  intro p e s m args below meth c s₁ Bd hml0 hP hK
  obtain ⟨rfl, hZ, hh⟩ := hP
  have hx := Bd.exec
  have hby := Bd.bytes
  have hml : c.maxLocals = 4 := hml0
  have hown : s.vm.findClass "jdk/internal/util/ArraysSupport" = some m.cls := findClass_of_methodNamed Bd.named
  have hnm := (name_of_methodNamed Bd.named Bd.method).1
  have hlk := Bd.notSynchronized
  have X0 : Stand p l e ({ frames := 1, cells := 0, slots := 0, locals := 14 } : Room) s m #[(.int p1), (.int p2), (.int p3)] below meth c s₁ [] 0 0 := Stand.of_body Bd
  have e0 : s₁.heap = h0 := by rw [← hh, Bd.state]; rfl
  have N0 := Fr.nil n0
  refine Wp.goal (Post := (fun o U' => ∃ v L, o = .returned v ∧ Q_rm20 Z p1 p2 p3 h0 n0 v U'.heap L ∧ FrameEnd s o U' L ({ frames := 1, cells := 0, slots := 0, locals := 14 } : Room).cells ({ frames := 1, cells := 0, slots := 0, locals := 14 } : Room).slots)) (Wp.st (S' := s₁.setTop (mkF m 0 #[oI p1, oI p2, oI p3, oU] [])) (fun tt_ kk_ => castTop (ef_rm20 m p1 p2 p3 ) kk_) ?_)
  refine Wp.st (S' := s₁.setTop (mkF m 1 #[oI p1, oI p2, oI p3, oU] [(.int p1)])) (fun tt_ kk_ => XS.iloadN X0.here hx rfl (hb hby d20_0) rfl  kk_) ?_
  refine Wp.st (S' := s₁.setTop (mkF m 2 #[oI p1, oI p2, oI p3, oU] [(.int p2), (.int p1)])) (fun tt_ kk_ => XS.iloadN X0.here hx rfl (hb hby d20_1) rfl  kk_) ?_
  refine Wp.st (S' := s₁.setTop (mkF m 3 #[oI p1, oI p2, oI p3, oU] [(.int p3), (.int p2), (.int p1)])) (fun tt_ kk_ => XS.iloadN X0.here hx rfl (hb hby d20_2) rfl  kk_) ?_
  obtain ⟨vv1, _, ⟨T1, L1, k1, n1⟩, -, X1, ⟨Lc1, hQ1, l1, y1, z1⟩, st1⟩ := Jvm.LawKit.callS X0 hx (y := (⟨"java/lang/Math", "max", "(II)I"⟩ : MethodName)) hown (mvT hZ (hw _ (List.mem_of_getElem? (i := 119) rfl))) (mvT hZ (hw _ (List.mem_of_getElem? (i := 120) rfl))) (mvT hZ (hw _ (List.mem_of_getElem? (i := 121) rfl))) (mvT hZ (hw _ (List.mem_of_getElem? (i := 122) rfl))) (by decide) (backOf (W := 1) (rm21 l Z a0 hw [] p2 p3 h0 n0 Z0 ) hZ (hw _ (List.mem_of_getElem? (i := 122) rfl)) (hw _ (List.mem_of_getElem? (i := 121) rfl)) (by decide) (by decide)) (g := (mkF m 3 #[oI p1, oI p2, oI p3, oU] [(.int p3), (.int p2), (.int p1)])) rfl (by rw [hml]; rfl) (argsL := [(.int p2), (.int p3)]) (rest := [(.int p1)]) (lenOf pd_1 rfl) rfl (by show 2 * 0 + _ ≤ _; exact Nat.le_of_eq rfl) (hb hby d20_3) (fun _ _ => ⟨rfl, e0, (by decide : 0 + 0 ≤ _), (by decide : 0 + 0 ≤ _)⟩)
  dsimp only [Pt.U, Pt.locs, Pt.cells, Pt.slots] at X1 l1 y1 z1 st1 hQ1
  subst l1 y1 z1
  obtain ⟨rfl, Nq1, e1⟩ := hQ1
  have N1 := Fr.app N0 Nq1
  refine Wp.st (S' := T1.setTop (mkF m 6 #[oI p1, oI p2, oI p3, oU] [(.int (own_max p2 p3)), (.int p1)])) st1 ?_
  refine Wp.st (S' := T1.setTop (mkF m 7 #[oI p1, oI p2, oI p3, oU] [(.int (p1 + (own_max p2 p3)))])) (fun tt_ kk_ => XS.iadd X1.here hx rfl (hb hby d20_6) rfl kk_) ?_
  refine Wp.st (S' := T1.setTop (mkF m 8 #[oI p1, oI p2, oI p3, oI (p1 + (own_max p2 p3))] [])) (fun tt_ kk_ => XS.istoreN X1.here hx rfl (hb hby d20_7) rfl (l' := #[oI p1, oI p2, oI p3, oI (p1 + (own_max p2 p3))]) rfl kk_) ?_
  refine Wp.st (S' := T1.setTop (mkF m 9 #[oI p1, oI p2, oI p3, oI (p1 + (own_max p2 p3))] [(.int (0 : Int32))])) (fun tt_ kk_ => XS.iconst X1.here hx rfl (hb hby d20_8) kk_) ?_
  refine Wp.st (S' := T1.setTop (mkF m 10 #[oI p1, oI p2, oI p3, oI (p1 + (own_max p2 p3))] [(.int (p1 + (own_max p2 p3))), (.int (0 : Int32))])) (fun tt_ kk_ => XS.iloadN X1.here hx rfl (hb hby d20_9) rfl  kk_) ?_
  refine Wp.st (S' := T1.setTop (mkF m 13 #[oI p1, oI p2, oI p3, oI (p1 + (own_max p2 p3))] [])) (fun tt_ kk_ => XS.icmpNo X1.here hx rfl (hb hby d20_10) rfl (tlt (h1 : (0 : Int32) < (p1 + (own_max p2 p3)))).2.1 kk_) ?_
  refine Wp.st (S' := T1.setTop (mkF m 14 #[oI p1, oI p2, oI p3, oI (p1 + (own_max p2 p3))] [(.int (p1 + (own_max p2 p3)))])) (fun tt_ kk_ => XS.iloadN X1.here hx rfl (hb hby d20_13) rfl  kk_) ?_
  refine Wp.st (S' := T1.setTop (mkF m 16 #[oI p1, oI p2, oI p3, oI (p1 + (own_max p2 p3))] [(.int (2147483639 : Int32)), (.int (p1 + (own_max p2 p3)))])) (fun tt_ kk_ => X1.ldcInt hx hown (mvT hZ (hw _ (List.mem_of_getElem? (i := 123) rfl))) (g := (mkF m 14 #[oI p1, oI p2, oI p3, oI (p1 + (own_max p2 p3))] [(.int (p1 + (own_max p2 p3)))])) rfl (hb hby d20_14) tt_ kk_) ?_
  refine Wp.st (S' := T1.setTop (mkF m 19 #[oI p1, oI p2, oI p3, oI (p1 + (own_max p2 p3))] [])) (fun tt_ kk_ => XS.icmpNo X1.here hx rfl (hb hby d20_16) rfl (flt (h2 : ¬ ((2147483639 : Int32) < (p1 + (own_max p2 p3))))).2.2.1 kk_) ?_
  refine Wp.st (S' := T1.setTop (mkF m 20 #[oI p1, oI p2, oI p3, oI (p1 + (own_max p2 p3))] [(.int (p1 + (own_max p2 p3)))])) (fun tt_ kk_ => XS.iloadN X1.here hx rfl (hb hby d20_19) rfl  kk_) ?_
  exact Wp.ret X1 hlk (v := (some (.int (p1 + (own_max p2 p3))))) (fun h => by rw [Bd.returns] at h; cases h) (fun fs hr => retI X1 hx Bd.returns (hb hby d20_20) hr) (by decide) (by decide) (show Q_rm20 Z p1 p2 p3 h0 n0 _ T1.heap _ by rw [e1]; exact ⟨rfl, N1, rfl⟩)
theorem pn_17 : plainName "java/lang/AbstractStringBuilder" = true := by first | (simp [plainName, overriddenIn]; done) | decide +kernel
theorem d17_0 : decode jdk_68_method_71_code 0 = .ok (.getstatic 18, 3) := by decide +kernel
theorem d17_3 : decode jdk_68_method_71_code 3 = .ok (.ifCond .eq 18, 3) := by decide +kernel
theorem d17_6 : decode jdk_68_method_71_code 6 = .ok (.aload_n 0, 1) := by decide +kernel
theorem d17_7 : decode jdk_68_method_71_code 7 = .ok (.getfield 22, 3) := by decide +kernel
theorem d17_10 : decode jdk_68_method_71_code 10 = .ok (.aload_n 1, 1) := by decide +kernel
theorem d17_11 : decode jdk_68_method_71_code 11 = .ok (.invokevirtual 40, 3) := by decide +kernel
theorem d17_14 : decode jdk_68_method_71_code 14 = .ok (.if_icmp .eq 7, 3) := by decide +kernel
theorem d17_21 : decode jdk_68_method_71_code 21 = .ok (.return_, 1) := by decide +kernel
theorem ef_rm17 (m : MethodId) (a1 : Addr) (a2 : Addr) : entryFrame m #[(.ref a1), (.ref a2)] 2 = mkF m 0 #[oR a1, oR a2] [] := by first | (simp [entryFrame, mkF, argsToLocals, Value.category]; done) | rfl
def Q_rm17 (Z : State) (a1 : Addr) (a2 : Addr) (zcs : Int32) (h0 : Heap) (n0 : Nat) (v : Option Value) (h : Heap) (L : List Loc) : Prop := (v = none) ∧ (Fr n0 L) ∧ (h = h0)
set_option maxRecDepth 65536 in
set_option maxHeartbeats 40000000 in
theorem rm17 (l : Launch) (Z : State) (a0 : Array Value) (hw : ∀ d ∈ tables_1, d.before a0 Z = true) (ws : List Jvm.Cond) (a1 : Addr) (a2 : Addr) (zcs : Int32) (h0 : Heap) (n0 : Nat) (Z0 : n0 ≤ h0.size) (O0 : Jvm.RoadKit.Old Z n0 h0) (SCompact : Sta Z Z.heap "java/lang/String" "COMPACT_STRINGS" "Z" (.int zcs)) (hCS : ¬ zcs = 0) (P3 : Fld Z h0 a1 "java/lang/AbstractStringBuilder" "coder" "B" (.int (0 : Int32))) (P4 : Exa Z h0 a2 "java/lang/String") (P5 : Fld Z h0 a2 "java/lang/String" "coder" "B" (.int (0 : Int32))) :
    MetFree l (⟨"java/lang/AbstractStringBuilder", "inflateIfNeededFor", "(Ljava/lang/String;)V"⟩ : MethodName) (head1 (Jvm.Cond.code (⟨"java/lang/AbstractStringBuilder", "inflateIfNeededFor", "(Ljava/lang/String;)V"⟩ : MethodName) jdk_68_method_71_code 2 none :: ws) ({ frames := 1, cells := 0, slots := 0, locals := 13 } : Room)) (fun a U => a = #[(.ref a1), (.ref a2)] ∧ Z.Warmed39 U.vm ∧ U.heap = h0) (fun _ _ _ _ _ => True) (fun _ U o U' => ∃ v L, o = .returned v ∧ Q_rm17 Z a1 a2 zcs h0 n0 v U'.heap L ∧ FrameEnd U o U' L ({ frames := 1, cells := 0, slots := 0, locals := 13 } : Room).cells ({ frames := 1, cells := 0, slots := 0, locals := 13 } : Room).slots) := by
  refine MetFree.of_bodySF (plainFor_of_name pn_17) hisR ?_
  intro p e s m args below meth c s₁ Bd hml0 hP hK
  obtain ⟨rfl, hZ, hh⟩ := hP
  have hx := Bd.exec
  have hby := Bd.bytes
  have hml : c.maxLocals = 2 := hml0
  have hown : s.vm.findClass "java/lang/AbstractStringBuilder" = some m.cls := findClass_of_methodNamed Bd.named
  have hnm := (name_of_methodNamed Bd.named Bd.method).1
  have hlk := Bd.notSynchronized
  have X0 : Stand p l e ({ frames := 1, cells := 0, slots := 0, locals := 13 } : Room) s m #[(.ref a1), (.ref a2)] below meth c s₁ [] 0 0 := Stand.of_body Bd
  have e0 : s₁.heap = h0 := by rw [← hh, Bd.state]; rfl
  have N0 := Fr.nil n0
  refine Wp.goal (Post := (fun o U' => ∃ v L, o = .returned v ∧ Q_rm17 Z a1 a2 zcs h0 n0 v U'.heap L ∧ FrameEnd s o U' L ({ frames := 1, cells := 0, slots := 0, locals := 13 } : Room).cells ({ frames := 1, cells := 0, slots := 0, locals := 13 } : Room).slots)) (Wp.st (S' := s₁.setTop (mkF m 0 #[oR a1, oR a2] [])) (fun tt_ kk_ => castTop (ef_rm17 m a1 a2 ) kk_) ?_)
  obtain ⟨T1, X1, e1, st1⟩ := getS2 X0 hx hZ hown (host := "") (Or.inl (hw _ (List.mem_of_getElem? (i := 56) rfl))) Via.refl e0 (SCompact.ext O0.2) (g := (mkF m 0 #[oR a1, oR a2] [])) rfl (hb hby d17_0)
  refine Wp.st (S' := T1.setTop (mkF m 3 #[oR a1, oR a2] [(.int zcs)])) st1 ?_
  refine Wp.st (S' := T1.setTop (mkF m 6 #[oR a1, oR a2] [])) (fun tt_ kk_ => XS.ifNo X1.here hx rfl (hb hby d17_3) rfl ((if0 _ _).trans (feq (hCS : ¬ (zcs = (0 : Int32)))).1) kk_) ?_
  refine Wp.st (S' := T1.setTop (mkF m 7 #[oR a1, oR a2] [(.ref a1)])) (fun tt_ kk_ => XS.aloadN X1.here hx rfl (hb hby d17_6) rfl rfl kk_) ?_
  obtain ⟨T2, X2, e2, st2⟩ := getF X1 hx hZ hown (host := "") (Or.inl (hw _ (List.mem_of_getElem? (i := 59) rfl))) Via.refl e1 P3 (g := (mkF m 7 #[oR a1, oR a2] [(.ref a1)])) rfl rfl (hb hby d17_7)
  refine Wp.st (S' := T2.setTop (mkF m 10 #[oR a1, oR a2] [(.int (0 : Int32))])) st2 ?_
  refine Wp.st (S' := T2.setTop (mkF m 11 #[oR a1, oR a2] [(.ref a2), (.int (0 : Int32))])) (fun tt_ kk_ => XS.aloadN X2.here hx rfl (hb hby d17_10) rfl rfl kk_) ?_
  obtain ⟨cq3, kq3, q3a, q3b, q3c⟩ := isOf hZ e2 P4
  obtain ⟨vv3, _, ⟨T3, L3, k3, n3⟩, -, X3, ⟨Lc3, hQ3, l3, y3, z3⟩, st3⟩ := X2.virtualBack hx (y := (⟨"java/lang/String", "coder", "()B"⟩ : MethodName)) (z := (⟨"java/lang/String", "coder", "()B"⟩ : MethodName)) hown (mvT hZ (hw _ (List.mem_of_getElem? (i := 99) rfl))) (mvT hZ (hw _ (List.mem_of_getElem? (i := 78) rfl))) (notFace_of_selects (args := #[]) (mvT hZ (hw _ (List.mem_of_getElem? (i := 80) rfl)))) (mvT hZ (hw _ (List.mem_of_getElem? (i := 80) rfl))) (mvT hZ (hw _ (List.mem_of_getElem? (i := 79) rfl))) (by decide) (backOf (W := 1) (rm14 l Z a0 hw [] a2 zcs h0 n0 Z0 O0 SCompact (hCS : ¬ zcs = 0) P5) hZ (hw _ (List.mem_of_getElem? (i := 81) rfl)) (hw _ (List.mem_of_getElem? (i := 7) rfl)) (by decide) (by decide)) q3a q3c (g := (mkF m 11 #[oR a1, oR a2] [(.ref a2), (.int (0 : Int32))])) rfl (by rw [hml]; rfl) (Steps.refl _) (argsL := []) (rest := [(.int (0 : Int32))]) (lenOf pd_0 rfl) rfl (by show 2 * 0 + _ ≤ _; exact Nat.le_of_eq rfl) (hb hby d17_11) (fun _ _ => ⟨rfl, e2, (by decide : 0 + 0 ≤ _), (by decide : 0 + 0 ≤ _)⟩)
  dsimp only [Pt.U, Pt.locs, Pt.cells, Pt.slots] at X3 l3 y3 z3 st3 hQ3
  subst l3 y3 z3
  obtain ⟨rfl, Nq3, e3⟩ := hQ3
  have N3 := Fr.app N0 Nq3
  refine Wp.tr (S' := T3.setTop (mkF m 14 #[oR a1, oR a2] [(.int (0 : Int32)), (.int (0 : Int32))])) st3 ?_
  refine Wp.st (S' := T3.setTop (mkF m 21 #[oR a1, oR a2] [])) (fun tt_ kk_ => XS.icmpYes X3.here hx rfl (pc0 := 14) (pc' := 21) rfl (hb hby d17_14) rfl (teq ((by decide) : (0 : Int32) = (0 : Int32))).1 (by decide) (by decide) kk_) ?_
  exact Wp.ret X3 hlk (v := none) (fun _ => rfl) (fun fs hr => X3.returnOut hx Bd.returns (hb hby d17_21) hr) (by decide) (by decide) (show Q_rm17 Z a1 a2 zcs h0 n0 _ T3.heap _ by rw [e3]; exact ⟨rfl, N3, rfl⟩)
theorem pn_18 : plainName "java/lang/String" = true := by first | (simp [plainName, overriddenIn]; done) | decide +kernel
theorem d18_0 : decode jdk_42_method_147_code 0 = .ok (.aload_n 0, 1) := by decide +kernel
theorem d18_1 : decode jdk_42_method_147_code 1 = .ok (.invokevirtual 335, 3) := by decide +kernel
theorem d18_4 : decode jdk_42_method_147_code 4 = .ok (.iload_n 3, 1) := by decide +kernel
theorem d18_5 : decode jdk_42_method_147_code 5 = .ok (.if_icmp .ne 23, 3) := by decide +kernel
theorem d18_8 : decode jdk_42_method_147_code 8 = .ok (.aload_n 0, 1) := by decide +kernel
theorem d18_9 : decode jdk_42_method_147_code 9 = .ok (.getfield 9, 3) := by decide +kernel
theorem d18_12 : decode jdk_42_method_147_code 12 = .ok (.iconst 0, 1) := by decide +kernel
theorem d18_13 : decode jdk_42_method_147_code 13 = .ok (.aload_n 1, 1) := by decide +kernel
theorem d18_14 : decode jdk_42_method_147_code 14 = .ok (.iload_n 2, 1) := by decide +kernel
theorem d18_15 : decode jdk_42_method_147_code 15 = .ok (.iload_n 3, 1) := by decide +kernel
theorem d18_16 : decode jdk_42_method_147_code 16 = .ok (.ishl, 1) := by decide +kernel
theorem d18_17 : decode jdk_42_method_147_code 17 = .ok (.aload_n 0, 1) := by decide +kernel
theorem d18_18 : decode jdk_42_method_147_code 18 = .ok (.getfield 9, 3) := by decide +kernel
theorem d18_21 : decode jdk_42_method_147_code 21 = .ok (.arraylength, 1) := by decide +kernel
theorem d18_22 : decode jdk_42_method_147_code 22 = .ok (.invokestatic 212, 3) := by decide +kernel
theorem d18_25 : decode jdk_42_method_147_code 25 = .ok (.goto 18, 3) := by decide +kernel
theorem d18_43 : decode jdk_42_method_147_code 43 = .ok (.return_, 1) := by decide +kernel
theorem ef_rm18 (m : MethodId) (a1 : Addr) (a2 : Addr) (p3 : Int32) : entryFrame m #[(.ref a1), (.ref a2), (.int p3), (.int (0 : Int32))] 4 = mkF m 0 #[oR a1, oR a2, oI p3, oI (0 : Int32)] [] := by first | (simp [entryFrame, mkF, argsToLocals, Value.category]; done) | rfl
def Q_rm18 (Z : State) (a1 : Addr) (a2 : Addr) (p3 : Int32) (zcs : Int32) (t1 : Addr) (k1 : ClassId) (ln : Int32) (bs : List Value) (kd : ClassId) (cp : Int32) (vd : List Value) (h0 : Heap) (n0 : Nat) (v : Option Value) (h : Heap) (L : List Loc) : Prop := (v = none) ∧ (Fr n0 L) ∧ (Keep h0 h [a2]) ∧ (Arv Z h a2 kd .byte cp (own_cp vd bs p3 ln) (.int (0 : Int32)))
set_option maxRecDepth 65536 in
set_option maxHeartbeats 40000000 in
theorem rm18 (l : Launch) (Z : State) (a0 : Array Value) (hw : ∀ d ∈ tables_1, d.before a0 Z = true) (ws : List Jvm.Cond) (a1 : Addr) (a2 : Addr) (p3 : Int32) (zcs : Int32) (t1 : Addr) (k1 : ClassId) (ln : Int32) (bs : List Value) (kd : ClassId) (cp : Int32) (vd : List Value) (h0 : Heap) (n0 : Nat) (Z0 : n0 ≤ h0.size) (g_a2 : n0 ≤ a2) (O0 : Jvm.RoadKit.Old Z n0 h0) (SCompact : Sta Z Z.heap "java/lang/String" "COMPACT_STRINGS" "Z" (.int zcs)) (hCS : ¬ zcs = 0) (P4 : Exa Z h0 a1 "java/lang/String") (P5 : Fld Z h0 a1 "java/lang/String" "value" "[B" (.ref t1)) (P6 : Fld Z h0 a1 "java/lang/String" "coder" "B" (.int (0 : Int32))) (P7 : Arv Z h0 t1 k1 .byte ln bs (.int (0 : Int32))) (P8 : Arv Z h0 a2 kd .byte cp vd (.int (0 : Int32))) (f1 : ¬ p3 < 0) (f2 : ¬ ln < 0) (f3 : p3.toNatClampNeg + ln.toNatClampNeg ≤ cp.toNatClampNeg) (f4 : p3.toNatClampNeg + ln.toNatClampNeg ≤ vd.length) :
    MetFree l (⟨"java/lang/String", "getBytes", "([BIB)V"⟩ : MethodName) (head1 (Jvm.Cond.code (⟨"java/lang/String", "getBytes", "([BIB)V"⟩ : MethodName) jdk_42_method_147_code 4 none :: ws) ({ frames := 1, cells := 0, slots := 0, locals := 18 } : Room)) (fun a U => a = #[(.ref a1), (.ref a2), (.int p3), (.int (0 : Int32))] ∧ Z.Warmed39 U.vm ∧ U.heap = h0) (fun _ _ _ _ _ => True) (fun _ U o U' => ∃ v L, o = .returned v ∧ Q_rm18 Z a1 a2 p3 zcs t1 k1 ln bs kd cp vd h0 n0 v U'.heap L ∧ FrameEnd U o U' L ({ frames := 1, cells := 0, slots := 0, locals := 18 } : Room).cells ({ frames := 1, cells := 0, slots := 0, locals := 18 } : Room).slots) := by
  refine MetFree.of_bodySF (plainFor_of_name pn_18) hisR ?_
  intro p e s m args below meth c s₁ Bd hml0 hP hK
  obtain ⟨rfl, hZ, hh⟩ := hP
  have hx := Bd.exec
  have hby := Bd.bytes
  have hml : c.maxLocals = 4 := hml0
  have hown : s.vm.findClass "java/lang/String" = some m.cls := findClass_of_methodNamed Bd.named
  have hnm := (name_of_methodNamed Bd.named Bd.method).1
  have hlk := Bd.notSynchronized
  have X0 : Stand p l e ({ frames := 1, cells := 0, slots := 0, locals := 18 } : Room) s m #[(.ref a1), (.ref a2), (.int p3), (.int (0 : Int32))] below meth c s₁ [] 0 0 := Stand.of_body Bd
  have e0 : s₁.heap = h0 := by rw [← hh, Bd.state]; rfl
  have N0 := Fr.nil n0
  refine Wp.goal (Post := (fun o U' => ∃ v L, o = .returned v ∧ Q_rm18 Z a1 a2 p3 zcs t1 k1 ln bs kd cp vd h0 n0 v U'.heap L ∧ FrameEnd s o U' L ({ frames := 1, cells := 0, slots := 0, locals := 18 } : Room).cells ({ frames := 1, cells := 0, slots := 0, locals := 18 } : Room).slots)) (Wp.st (S' := s₁.setTop (mkF m 0 #[oR a1, oR a2, oI p3, oI (0 : Int32)] [])) (fun tt_ kk_ => castTop (ef_rm18 m a1 a2 p3 ) kk_) ?_)
  refine Wp.st (S' := s₁.setTop (mkF m 1 #[oR a1, oR a2, oI p3, oI (0 : Int32)] [(.ref a1)])) (fun tt_ kk_ => XS.aloadN X0.here hx rfl (hb hby d18_0) rfl rfl kk_) ?_
  obtain ⟨cq1, kq1, q1a, q1b, q1c⟩ := isOf hZ e0 P4
  obtain ⟨vv1, _, ⟨T1, L1, k1, n1⟩, -, X1, ⟨Lc1, hQ1, l1, y1, z1⟩, st1⟩ := X0.virtualBack hx (y := (⟨"java/lang/String", "coder", "()B"⟩ : MethodName)) (z := (⟨"java/lang/String", "coder", "()B"⟩ : MethodName)) hown (mvT hZ (hw _ (List.mem_of_getElem? (i := 77) rfl))) (mvT hZ (hw _ (List.mem_of_getElem? (i := 78) rfl))) (notFace_of_selects (args := #[]) (mvT hZ (hw _ (List.mem_of_getElem? (i := 80) rfl)))) (mvT hZ (hw _ (List.mem_of_getElem? (i := 80) rfl))) (mvT hZ (hw _ (List.mem_of_getElem? (i := 79) rfl))) (by decide) (backOf (W := 0) (rm14 l Z a0 hw [] a1 zcs h0 n0 Z0 O0 SCompact (hCS : ¬ zcs = 0) P6) hZ (hw _ (List.mem_of_getElem? (i := 81) rfl)) (hw _ (List.mem_of_getElem? (i := 7) rfl)) (by decide) (by decide)) q1a q1c (g := (mkF m 1 #[oR a1, oR a2, oI p3, oI (0 : Int32)] [(.ref a1)])) rfl (by rw [hml]; rfl) (Steps.refl _) (argsL := []) (rest := []) (lenOf pd_0 rfl) rfl (by show 2 * 0 + _ ≤ _; exact Nat.le_of_eq rfl) (hb hby d18_1) (fun _ _ => ⟨rfl, e0, (by decide : 0 + 0 ≤ _), (by decide : 0 + 0 ≤ _)⟩)
  dsimp only [Pt.U, Pt.locs, Pt.cells, Pt.slots] at X1 l1 y1 z1 st1 hQ1
  subst l1 y1 z1
  obtain ⟨rfl, Nq1, e1⟩ := hQ1
  have N1 := Fr.app N0 Nq1
  refine Wp.tr (S' := T1.setTop (mkF m 4 #[oR a1, oR a2, oI p3, oI (0 : Int32)] [(.int (0 : Int32))])) st1 ?_
  refine Wp.st (S' := T1.setTop (mkF m 5 #[oR a1, oR a2, oI p3, oI (0 : Int32)] [(.int (0 : Int32)), (.int (0 : Int32))])) (fun tt_ kk_ => XS.iloadN X1.here hx rfl (hb hby d18_4) rfl  kk_) ?_
  refine Wp.st (S' := T1.setTop (mkF m 8 #[oR a1, oR a2, oI p3, oI (0 : Int32)] [])) (fun tt_ kk_ => XS.icmpNo X1.here hx rfl (hb hby d18_5) rfl (teq ((by decide) : (0 : Int32) = (0 : Int32))).2 kk_) ?_
  refine Wp.st (S' := T1.setTop (mkF m 9 #[oR a1, oR a2, oI p3, oI (0 : Int32)] [(.ref a1)])) (fun tt_ kk_ => XS.aloadN X1.here hx rfl (hb hby d18_8) rfl rfl kk_) ?_
  obtain ⟨T2, X2, e2, st2⟩ := getF X1 hx hZ hown (host := "") (Or.inl (hw _ (List.mem_of_getElem? (i := 24) rfl))) Via.refl e1 P5 (g := (mkF m 9 #[oR a1, oR a2, oI p3, oI (0 : Int32)] [(.ref a1)])) rfl rfl (hb hby d18_9)
  refine Wp.st (S' := T2.setTop (mkF m 12 #[oR a1, oR a2, oI p3, oI (0 : Int32)] [(.ref t1)])) st2 ?_
  refine Wp.st (S' := T2.setTop (mkF m 13 #[oR a1, oR a2, oI p3, oI (0 : Int32)] [(.int (0 : Int32)), (.ref t1)])) (fun tt_ kk_ => XS.iconst X2.here hx rfl (hb hby d18_12) kk_) ?_
  refine Wp.st (S' := T2.setTop (mkF m 14 #[oR a1, oR a2, oI p3, oI (0 : Int32)] [(.ref a2), (.int (0 : Int32)), (.ref t1)])) (fun tt_ kk_ => XS.aloadN X2.here hx rfl (hb hby d18_13) rfl rfl kk_) ?_
  refine Wp.st (S' := T2.setTop (mkF m 15 #[oR a1, oR a2, oI p3, oI (0 : Int32)] [(.int p3), (.ref a2), (.int (0 : Int32)), (.ref t1)])) (fun tt_ kk_ => XS.iloadN X2.here hx rfl (hb hby d18_14) rfl  kk_) ?_
  refine Wp.st (S' := T2.setTop (mkF m 16 #[oR a1, oR a2, oI p3, oI (0 : Int32)] [(.int (0 : Int32)), (.int p3), (.ref a2), (.int (0 : Int32)), (.ref t1)])) (fun tt_ kk_ => XS.iloadN X2.here hx rfl (hb hby d18_15) rfl  kk_) ?_
  refine Wp.st (S' := T2.setTop (mkF m 17 #[oR a1, oR a2, oI p3, oI (0 : Int32)] [(.int (p3 <<< ((0 : Int32) &&& 31))), (.ref a2), (.int (0 : Int32)), (.ref t1)])) (fun tt_ kk_ => XS.ishl X2.here hx rfl (hb hby d18_16) rfl kk_) ?_
  rw [(own_shl0 p3 : (p3 <<< ((0 : Int32) &&& 31)) = p3)]
  refine Wp.st (S' := T2.setTop (mkF m 18 #[oR a1, oR a2, oI p3, oI (0 : Int32)] [(.ref a1), (.int p3), (.ref a2), (.int (0 : Int32)), (.ref t1)])) (fun tt_ kk_ => XS.aloadN X2.here hx rfl (hb hby d18_17) rfl rfl kk_) ?_
  obtain ⟨T3, X3, e3, st3⟩ := getF X2 hx hZ hown (host := "") (Or.inl (hw _ (List.mem_of_getElem? (i := 24) rfl))) Via.refl e2 P5 (g := (mkF m 18 #[oR a1, oR a2, oI p3, oI (0 : Int32)] [(.ref a1), (.int p3), (.ref a2), (.int (0 : Int32)), (.ref t1)])) rfl rfl (hb hby d18_18)
  refine Wp.st (S' := T3.setTop (mkF m 21 #[oR a1, oR a2, oI p3, oI (0 : Int32)] [(.ref t1), (.int p3), (.ref a2), (.int (0 : Int32)), (.ref t1)])) st3 ?_
  obtain ⟨cl4, Ar4, q4, S4, N4, H4, G4⟩ := id P7
  refine Wp.st (S' := T3.setTop (mkF m 22 #[oR a1, oR a2, oI p3, oI (0 : Int32)] [(.int ln), (.int p3), (.ref a2), (.int (0 : Int32)), (.ref t1)])) (fun tt_ kk_ => X3.arraylength hx (by rw [e3]; exact Ar4.1) (State.isArrayOf_alike hZ.alike Ar4.2.1) (g := (mkF m 21 #[oR a1, oR a2, oI p3, oI (0 : Int32)] [(.ref t1), (.int p3), (.ref a2), (.int (0 : Int32)), (.ref t1)])) rfl rfl (hb hby d18_21) tt_ (by rw [len_of S4 N4]; exact kk_)) ?_
  obtain ⟨T5, h5, L5, X5, e5, Nc5, K5, A5, st5⟩ := cpA X3 hx hZ hown (hw _ (List.mem_of_getElem? (i := 105) rfl)) (hw _ (List.mem_of_getElem? (i := 108) rfl)) (hw _ (List.mem_of_getElem? (i := 106) rfl)) (hw _ (List.mem_of_getElem? (i := 107) rfl)) e3 P7 P8 (Or.inl ⟨rfl, rfl⟩) (by decide) f1 f2 (Nat.le_of_eq (Nat.zero_add _)) f3 rfl f4 N1 g_a2 (g := (mkF m 22 #[oR a1, oR a2, oI p3, oI (0 : Int32)] [(.int ln), (.int p3), (.ref a2), (.int (0 : Int32)), (.ref t1)])) rfl (by rw [hml]; rfl) rfl (hb hby d18_22) (by decide) (W := 0) (by show 2 * 0 + _ ≤ _; exact Nat.le_of_eq rfl) (by decide)
  have z6 := K5.1
  have V5 : Arv Z h5 a2 kd .byte cp (own_cp vd bs p3 ln) (.int (0 : Int32)) := A5
  refine Wp.st (S' := T5.setTop (mkF m 25 #[oR a1, oR a2, oI p3, oI (0 : Int32)] [])) st5 ?_
  refine Wp.st (S' := T5.setTop (mkF m 43 #[oR a1, oR a2, oI p3, oI (0 : Int32)] [])) (fun tt_ kk_ => XS.goto X5.here hx rfl (pc0 := 25) (pc' := 43) rfl (hb hby d18_25) (by decide) (by decide) kk_) ?_
  have K7 := Keep.refl h0 [a2]
  have K8 := K7.trans K5 (allS (Or.inl (List.mem_of_getElem? (i := 0) rfl)) all0)
  exact Wp.ret X5 hlk (v := none) (fun _ => rfl) (fun fs hr => X5.returnOut hx Bd.returns (hb hby d18_43) hr) (by decide) (by decide) (show Q_rm18 Z a1 a2 p3 zcs t1 k1 ln bs kd cp vd h0 n0 _ T5.heap _ by rw [e5]; exact ⟨rfl, Nc5, K8, V5⟩)
theorem pn_16 : plainName "java/lang/AbstractStringBuilder" = true := by first | (simp [plainName, overriddenIn]; done) | decide +kernel
theorem d16_0 : decode jdk_68_method_73_code 0 = .ok (.aload_n 0, 1) := by decide +kernel
theorem d16_1 : decode jdk_68_method_73_code 1 = .ok (.aload_n 2, 1) := by decide +kernel
theorem d16_2 : decode jdk_68_method_73_code 2 = .ok (.invokevirtual 397, 3) := by decide +kernel
theorem pd_2 : parseMethodDescriptor "(Ljava/lang/String;)V" = some ⟨[(.object "java/lang/String")], none⟩ := by decide +kernel
theorem d16_5 : decode jdk_68_method_73_code 5 = .ok (.aload_n 2, 1) := by decide +kernel
theorem d16_6 : decode jdk_68_method_73_code 6 = .ok (.aload_n 0, 1) := by decide +kernel
theorem d16_7 : decode jdk_68_method_73_code 7 = .ok (.getfield 15, 3) := by decide +kernel
theorem d16_10 : decode jdk_68_method_73_code 10 = .ok (.iload_n 1, 1) := by decide +kernel
theorem d16_11 : decode jdk_68_method_73_code 11 = .ok (.aload_n 0, 1) := by decide +kernel
theorem d16_12 : decode jdk_68_method_73_code 12 = .ok (.getfield 22, 3) := by decide +kernel
theorem d16_15 : decode jdk_68_method_73_code 15 = .ok (.invokevirtual 399, 3) := by decide +kernel
theorem pd_3 : parseMethodDescriptor "([BIB)V" = some ⟨[(.array .byte), .int, .byte], none⟩ := by decide +kernel
theorem d16_18 : decode jdk_68_method_73_code 18 = .ok (.return_, 1) := by decide +kernel
theorem ef_rm16 (m : MethodId) (a1 : Addr) (p3 : Int32) (a2 : Addr) : entryFrame m #[(.ref a1), (.int p3), (.ref a2)] 3 = mkF m 0 #[oR a1, oI p3, oR a2] [] := by first | (simp [entryFrame, mkF, argsToLocals, Value.category]; done) | rfl
def Q_rm16 (Z : State) (a1 : Addr) (p3 : Int32) (a2 : Addr) (zcs : Int32) (va : Addr) (kd : ClassId) (cp : Int32) (vd : List Value) (t1 : Addr) (k1 : ClassId) (ln : Int32) (bs : List Value) (h0 : Heap) (n0 : Nat) (v : Option Value) (h : Heap) (L : List Loc) : Prop := (v = none) ∧ (Fr n0 L) ∧ (Keep h0 h [va]) ∧ (Arv Z h va kd .byte cp (own_cp vd bs p3 ln) (.int (0 : Int32)))
set_option maxRecDepth 65536 in
set_option maxHeartbeats 40000000 in
theorem rm16 (l : Launch) (Z : State) (a0 : Array Value) (hw : ∀ d ∈ tables_1, d.before a0 Z = true) (ws : List Jvm.Cond) (a1 : Addr) (p3 : Int32) (a2 : Addr) (zcs : Int32) (va : Addr) (kd : ClassId) (cp : Int32) (vd : List Value) (t1 : Addr) (k1 : ClassId) (ln : Int32) (bs : List Value) (h0 : Heap) (n0 : Nat) (Z0 : n0 ≤ h0.size) (g_va : n0 ≤ va) (O0 : Jvm.RoadKit.Old Z n0 h0) (SCompact : Sta Z Z.heap "java/lang/String" "COMPACT_STRINGS" "Z" (.int zcs)) (hCS : ¬ zcs = 0) (P4 : Exa Z h0 a1 "java/lang/StringBuilder") (P5 : Fld Z h0 a1 "java/lang/AbstractStringBuilder" "value" "[B" (.ref va)) (P6 : Fld Z h0 a1 "java/lang/AbstractStringBuilder" "coder" "B" (.int (0 : Int32))) (P7 : Arv Z h0 va kd .byte cp vd (.int (0 : Int32))) (P8 : Exa Z h0 a2 "java/lang/String") (P9 : Fld Z h0 a2 "java/lang/String" "value" "[B" (.ref t1)) (P10 : Fld Z h0 a2 "java/lang/String" "coder" "B" (.int (0 : Int32))) (P11 : Arv Z h0 t1 k1 .byte ln bs (.int (0 : Int32))) (f1 : ¬ p3 < 0) (f2 : ¬ ln < 0) (f3 : p3.toNatClampNeg + ln.toNatClampNeg ≤ cp.toNatClampNeg) (f4 : p3.toNatClampNeg + ln.toNatClampNeg ≤ vd.length) :
    MetFree l (⟨"java/lang/AbstractStringBuilder", "putStringAt", "(ILjava/lang/String;)V"⟩ : MethodName) (head1 (Jvm.Cond.code (⟨"java/lang/AbstractStringBuilder", "putStringAt", "(ILjava/lang/String;)V"⟩ : MethodName) jdk_68_method_73_code 3 none :: ws) ({ frames := 2, cells := 0, slots := 0, locals := 33 } : Room)) (fun a U => a = #[(.ref a1), (.int p3), (.ref a2)] ∧ Z.Warmed39 U.vm ∧ U.heap = h0) (fun _ _ _ _ _ => True) (fun _ U o U' => ∃ v L, o = .returned v ∧ Q_rm16 Z a1 p3 a2 zcs va kd cp vd t1 k1 ln bs h0 n0 v U'.heap L ∧ FrameEnd U o U' L ({ frames := 2, cells := 0, slots := 0, locals := 33 } : Room).cells ({ frames := 2, cells := 0, slots := 0, locals := 33 } : Room).slots) := by
  refine MetFree.of_bodySF (plainFor_of_name pn_16) hisR ?_
  intro p e s m args below meth c s₁ Bd hml0 hP hK
  obtain ⟨rfl, hZ, hh⟩ := hP
  have hx := Bd.exec
  have hby := Bd.bytes
  have hml : c.maxLocals = 3 := hml0
  have hown : s.vm.findClass "java/lang/AbstractStringBuilder" = some m.cls := findClass_of_methodNamed Bd.named
  have hnm := (name_of_methodNamed Bd.named Bd.method).1
  have hlk := Bd.notSynchronized
  have X0 : Stand p l e ({ frames := 2, cells := 0, slots := 0, locals := 33 } : Room) s m #[(.ref a1), (.int p3), (.ref a2)] below meth c s₁ [] 0 0 := Stand.of_body Bd
  have e0 : s₁.heap = h0 := by rw [← hh, Bd.state]; rfl
  have N0 := Fr.nil n0
  refine Wp.goal (Post := (fun o U' => ∃ v L, o = .returned v ∧ Q_rm16 Z a1 p3 a2 zcs va kd cp vd t1 k1 ln bs h0 n0 v U'.heap L ∧ FrameEnd s o U' L ({ frames := 2, cells := 0, slots := 0, locals := 33 } : Room).cells ({ frames := 2, cells := 0, slots := 0, locals := 33 } : Room).slots)) (Wp.st (S' := s₁.setTop (mkF m 0 #[oR a1, oI p3, oR a2] [])) (fun tt_ kk_ => castTop (ef_rm16 m a1 p3 a2 ) kk_) ?_)
  refine Wp.st (S' := s₁.setTop (mkF m 1 #[oR a1, oI p3, oR a2] [(.ref a1)])) (fun tt_ kk_ => XS.aloadN X0.here hx rfl (hb hby d16_0) rfl rfl kk_) ?_
  refine Wp.st (S' := s₁.setTop (mkF m 2 #[oR a1, oI p3, oR a2] [(.ref a2), (.ref a1)])) (fun tt_ kk_ => XS.aloadN X0.here hx rfl (hb hby d16_1) rfl rfl kk_) ?_
  obtain ⟨cq1, q1, q1'⟩ := (P4).cell
  obtain ⟨vv1, _, ⟨T1, L1, k1, n1⟩, -, X1, ⟨Lc1, hQ1, l1, y1, z1⟩, st1⟩ := X0.privateBack hx (y := (⟨"java/lang/AbstractStringBuilder", "inflateIfNeededFor", "(Ljava/lang/String;)V"⟩ : MethodName)) hown (mvT hZ (hw _ (List.mem_of_getElem? (i := 94) rfl))) (mvT hZ (hw _ (List.mem_of_getElem? (i := 95) rfl))) (mvT hZ (own_selP (hw _ (List.mem_of_getElem? (i := 87) rfl)) (hw _ (List.mem_of_getElem? (i := 95) rfl)) (hw _ (List.mem_of_getElem? (i := 96) rfl)))) (Cond.privateMethod_at (mvP hZ (hw _ (List.mem_of_getElem? (i := 96) rfl)) (args := #[]))) (mvT hZ (hw _ (List.mem_of_getElem? (i := 98) rfl))) (by decide) (backOf (W := 0) (rm17 l Z a0 hw [] a1 a2 zcs h0 n0 Z0 O0 SCompact (hCS : ¬ zcs = 0) P6 P8 P10) hZ (hw _ (List.mem_of_getElem? (i := 98) rfl)) (hw _ (List.mem_of_getElem? (i := 53) rfl)) (by decide) (by decide)) (g := (mkF m 2 #[oR a1, oI p3, oR a2] [(.ref a2), (.ref a1)])) rfl (by rw [hml]; rfl) (Steps.refl _) (a := a1) (by rw [e0]; exact q1) q1' (argsL := [(.ref a2)]) (rest := []) (lenOf pd_2 rfl) rfl (by show 2 * 0 + _ ≤ _; exact Nat.le_of_eq rfl) (hb hby d16_2) (fun _ _ => ⟨rfl, e0, (by decide : 0 + 0 ≤ _), (by decide : 0 + 0 ≤ _)⟩)
  dsimp only [Pt.U, Pt.locs, Pt.cells, Pt.slots] at X1 l1 y1 z1 st1 hQ1
  subst l1 y1 z1
  obtain ⟨rfl, Nq1, e1⟩ := hQ1
  have N1 := Fr.app N0 Nq1
  refine Wp.tr (S' := T1.setTop (mkF m 5 #[oR a1, oI p3, oR a2] [])) st1 ?_
  refine Wp.st (S' := T1.setTop (mkF m 6 #[oR a1, oI p3, oR a2] [(.ref a2)])) (fun tt_ kk_ => XS.aloadN X1.here hx rfl (hb hby d16_5) rfl rfl kk_) ?_
  refine Wp.st (S' := T1.setTop (mkF m 7 #[oR a1, oI p3, oR a2] [(.ref a1), (.ref a2)])) (fun tt_ kk_ => XS.aloadN X1.here hx rfl (hb hby d16_6) rfl rfl kk_) ?_
  obtain ⟨T2, X2, e2, st2⟩ := getF X1 hx hZ hown (host := "") (Or.inl (hw _ (List.mem_of_getElem? (i := 57) rfl))) Via.refl e1 P5 (g := (mkF m 7 #[oR a1, oI p3, oR a2] [(.ref a1), (.ref a2)])) rfl rfl (hb hby d16_7)
  refine Wp.st (S' := T2.setTop (mkF m 10 #[oR a1, oI p3, oR a2] [(.ref va), (.ref a2)])) st2 ?_
  refine Wp.st (S' := T2.setTop (mkF m 11 #[oR a1, oI p3, oR a2] [(.int p3), (.ref va), (.ref a2)])) (fun tt_ kk_ => XS.iloadN X2.here hx rfl (hb hby d16_10) rfl  kk_) ?_
  refine Wp.st (S' := T2.setTop (mkF m 12 #[oR a1, oI p3, oR a2] [(.ref a1), (.int p3), (.ref va), (.ref a2)])) (fun tt_ kk_ => XS.aloadN X2.here hx rfl (hb hby d16_11) rfl rfl kk_) ?_
  obtain ⟨T3, X3, e3, st3⟩ := getF X2 hx hZ hown (host := "") (Or.inl (hw _ (List.mem_of_getElem? (i := 59) rfl))) Via.refl e2 P6 (g := (mkF m 12 #[oR a1, oI p3, oR a2] [(.ref a1), (.int p3), (.ref va), (.ref a2)])) rfl rfl (hb hby d16_12)
  refine Wp.st (S' := T3.setTop (mkF m 15 #[oR a1, oI p3, oR a2] [(.int (0 : Int32)), (.int p3), (.ref va), (.ref a2)])) st3 ?_
  obtain ⟨cq4, kq4, q4a, q4b, q4c⟩ := isOf hZ e3 P8
  obtain ⟨vv4, _, ⟨T4, L4, k4, n4⟩, -, X4, ⟨Lc4, hQ4, l4, y4, z4⟩, st4⟩ := X3.virtualBack hx (y := (⟨"java/lang/String", "getBytes", "([BIB)V"⟩ : MethodName)) (z := (⟨"java/lang/String", "getBytes", "([BIB)V"⟩ : MethodName)) hown (mvT hZ (hw _ (List.mem_of_getElem? (i := 100) rfl))) (mvT hZ (hw _ (List.mem_of_getElem? (i := 101) rfl))) (notFace_of_selects (args := #[]) (mvT hZ (hw _ (List.mem_of_getElem? (i := 103) rfl)))) (mvT hZ (hw _ (List.mem_of_getElem? (i := 103) rfl))) (mvT hZ (hw _ (List.mem_of_getElem? (i := 102) rfl))) (by decide) (backOf (W := 0) (rm18 l Z a0 hw [] a2 va p3 zcs t1 k1 ln bs kd cp vd h0 n0 Z0 g_va O0 SCompact (hCS : ¬ zcs = 0) P8 P9 P10 P11 P7 ((by assumption) : ¬ p3 < 0) ((by assumption) : ¬ ln < 0) ((by assumption) : p3.toNatClampNeg + ln.toNatClampNeg ≤ cp.toNatClampNeg) ((by assumption) : p3.toNatClampNeg + ln.toNatClampNeg ≤ vd.length)) hZ (hw _ (List.mem_of_getElem? (i := 104) rfl)) (hw _ (List.mem_of_getElem? (i := 7) rfl)) (by decide) (by decide)) q4a q4c (g := (mkF m 15 #[oR a1, oI p3, oR a2] [(.int (0 : Int32)), (.int p3), (.ref va), (.ref a2)])) rfl (by rw [hml]; rfl) (Steps.refl _) (argsL := [(.ref va), (.int p3), (.int (0 : Int32))]) (rest := []) (lenOf pd_3 rfl) rfl (by show 2 * 0 + _ ≤ _; exact Nat.le_of_eq rfl) (hb hby d16_15) (fun _ _ => ⟨rfl, e3, (by decide : 0 + 0 ≤ _), (by decide : 0 + 0 ≤ _)⟩)
  dsimp only [Pt.U, Pt.locs, Pt.cells, Pt.slots] at X4 l4 y4 z4 st4 hQ4
  subst l4 y4 z4
  obtain ⟨rfl, Nq4, K4, P4_0⟩ := hQ4
  have N4 := Fr.app N1 Nq4
  have z5 := K4.1
  have e4 : T4.heap = T4.heap := rfl
  refine Wp.tr (S' := T4.setTop (mkF m 18 #[oR a1, oI p3, oR a2] [])) st4 ?_
  have K6 := Keep.refl h0 [va]
  have K7 := K6.trans K4 (allS (Or.inl (List.mem_of_getElem? (i := 0) rfl)) all0)
  exact Wp.ret X4 hlk (v := none) (fun _ => rfl) (fun fs hr => X4.returnOut hx Bd.returns (hb hby d16_18) hr) (by decide) (by decide) (show Q_rm16 Z a1 p3 a2 zcs va kd cp vd t1 k1 ln bs h0 n0 _ T4.heap _ by rw [e4]; exact ⟨rfl, N4, K7, P4_0⟩)
theorem pn_19 : plainName "java/lang/AbstractStringBuilder" = true := by first | (simp [plainName, overriddenIn]; done) | decide +kernel
theorem d19_0 : decode jdk_68_method_10_code 0 = .ok (.aload_n 0, 1) := by decide +kernel
theorem d19_1 : decode jdk_68_method_10_code 1 = .ok (.getfield 15, 3) := by decide +kernel
theorem d19_4 : decode jdk_68_method_10_code 4 = .ok (.arraylength, 1) := by decide +kernel
theorem d19_5 : decode jdk_68_method_10_code 5 = .ok (.istore_n 2, 1) := by decide +kernel
theorem d19_6 : decode jdk_68_method_10_code 6 = .ok (.iload_n 1, 1) := by decide +kernel
theorem d19_7 : decode jdk_68_method_10_code 7 = .ok (.aload_n 0, 1) := by decide +kernel
theorem d19_8 : decode jdk_68_method_10_code 8 = .ok (.getfield 22, 3) := by decide +kernel
theorem d19_11 : decode jdk_68_method_10_code 11 = .ok (.ishl, 1) := by decide +kernel
theorem d19_12 : decode jdk_68_method_10_code 12 = .ok (.istore_n 3, 1) := by decide +kernel
theorem d19_13 : decode jdk_68_method_10_code 13 = .ok (.iload_n 3, 1) := by decide +kernel
theorem d19_14 : decode jdk_68_method_10_code 14 = .ok (.iload_n 2, 1) := by decide +kernel
theorem d19_15 : decode jdk_68_method_10_code 15 = .ok (.isub, 1) := by decide +kernel
theorem d19_16 : decode jdk_68_method_10_code 16 = .ok (.istore 4, 2) := by decide +kernel
theorem d19_18 : decode jdk_68_method_10_code 18 = .ok (.iload_n 2, 1) := by decide +kernel
theorem d19_19 : decode jdk_68_method_10_code 19 = .ok (.iload 4, 2) := by decide +kernel
theorem d19_21 : decode jdk_68_method_10_code 21 = .ok (.iload_n 2, 1) := by decide +kernel
theorem d19_22 : decode jdk_68_method_10_code 22 = .ok (.iconst 2, 1) := by decide +kernel
theorem d19_23 : decode jdk_68_method_10_code 23 = .ok (.aload_n 0, 1) := by decide +kernel
theorem d19_24 : decode jdk_68_method_10_code 24 = .ok (.getfield 22, 3) := by decide +kernel
theorem d19_27 : decode jdk_68_method_10_code 27 = .ok (.ishl, 1) := by decide +kernel
theorem d19_28 : decode jdk_68_method_10_code 28 = .ok (.iadd, 1) := by decide +kernel
theorem d19_29 : decode jdk_68_method_10_code 29 = .ok (.invokestatic 114, 3) := by decide +kernel
theorem pd_4 : parseMethodDescriptor "(III)I" = some ⟨[.int, .int, .int], some .int⟩ := by decide +kernel
theorem d19_32 : decode jdk_68_method_10_code 32 = .ok (.istore 5, 2) := by decide +kernel
theorem d19_34 : decode jdk_68_method_10_code 34 = .ok (.iload 5, 2) := by decide +kernel
theorem d19_36 : decode jdk_68_method_10_code 36 = .ok (.ldc 39, 2) := by decide +kernel
theorem d19_38 : decode jdk_68_method_10_code 38 = .ok (.if_icmp .ne 13, 3) := by decide +kernel
theorem d19_51 : decode jdk_68_method_10_code 51 = .ok (.iload 5, 2) := by decide +kernel
theorem d19_53 : decode jdk_68_method_10_code 53 = .ok (.aload_n 0, 1) := by decide +kernel
theorem d19_54 : decode jdk_68_method_10_code 54 = .ok (.getfield 22, 3) := by decide +kernel
theorem d19_57 : decode jdk_68_method_10_code 57 = .ok (.ishr, 1) := by decide +kernel
theorem d19_58 : decode jdk_68_method_10_code 58 = .ok (.ireturn, 1) := by decide +kernel
theorem ef_rm19 (m : MethodId) (a1 : Addr) (p2 : Int32) : entryFrame m #[(.ref a1), (.int p2)] 6 = mkF m 0 #[oR a1, oI p2, oU, oU, oU, oU] [] := by first | (simp [entryFrame, mkF, argsToLocals, Value.category]; done) | rfl
def Q_rm19 (Z : State) (a1 : Addr) (p2 : Int32) (va : Addr) (kd : ClassId) (vd : List Value) (h0 : Heap) (n0 : Nat) (v : Option Value) (h : Heap) (L : List Loc) : Prop := (v = some (.int p2)) ∧ (Fr n0 L) ∧ (h = h0)
set_option maxRecDepth 65536 in
set_option maxHeartbeats 40000000 in
theorem rm19 (l : Launch) (Z : State) (a0 : Array Value) (hw : ∀ d ∈ tables_1, d.before a0 Z = true) (ws : List Jvm.Cond) (a1 : Addr) (p2 : Int32) (va : Addr) (kd : ClassId) (vd : List Value) (h0 : Heap) (n0 : Nat) (Z0 : n0 ≤ h0.size) (P0 : Fld Z h0 a1 "java/lang/AbstractStringBuilder" "value" "[B" (.ref va)) (P1 : Fld Z h0 a1 "java/lang/AbstractStringBuilder" "coder" "B" (.int (0 : Int32))) (P2 : Arv Z h0 va kd .byte (16 : Int32) vd (.int (0 : Int32))) (hp2 : p2 = (34 : Int32) ∨ p2 = (35 : Int32) ∨ p2 = (36 : Int32) ∨ p2 = (37 : Int32)) :
    MetFree l (⟨"java/lang/AbstractStringBuilder", "newCapacity", "(I)I"⟩ : MethodName) (head1 (Jvm.Cond.code (⟨"java/lang/AbstractStringBuilder", "newCapacity", "(I)I"⟩ : MethodName) jdk_68_method_10_code 6 (some .int) :: ws) ({ frames := 2, cells := 0, slots := 0, locals := 29 } : Room)) (fun a U => a = #[(.ref a1), (.int p2)] ∧ Z.Warmed39 U.vm ∧ U.heap = h0) (fun _ _ _ _ _ => True) (fun _ U o U' => ∃ v L, o = .returned v ∧ Q_rm19 Z a1 p2 va kd vd h0 n0 v U'.heap L ∧ FrameEnd U o U' L ({ frames := 2, cells := 0, slots := 0, locals := 29 } : Room).cells ({ frames := 2, cells := 0, slots := 0, locals := 29 } : Room).slots) := by
  refine MetFree.of_bodySF (plainFor_of_name pn_19) hisR ?_
  intro p e s m args below meth c s₁ Bd hml0 hP hK
  obtain ⟨rfl, hZ, hh⟩ := hP
  have hx := Bd.exec
  have hby := Bd.bytes
  have hml : c.maxLocals = 6 := hml0
  have hown : s.vm.findClass "java/lang/AbstractStringBuilder" = some m.cls := findClass_of_methodNamed Bd.named
  have hnm := (name_of_methodNamed Bd.named Bd.method).1
  have hlk := Bd.notSynchronized
  have X0 : Stand p l e ({ frames := 2, cells := 0, slots := 0, locals := 29 } : Room) s m #[(.ref a1), (.int p2)] below meth c s₁ [] 0 0 := Stand.of_body Bd
  have e0 : s₁.heap = h0 := by rw [← hh, Bd.state]; rfl
  have N0 := Fr.nil n0
  refine Wp.goal (Post := (fun o U' => ∃ v L, o = .returned v ∧ Q_rm19 Z a1 p2 va kd vd h0 n0 v U'.heap L ∧ FrameEnd s o U' L ({ frames := 2, cells := 0, slots := 0, locals := 29 } : Room).cells ({ frames := 2, cells := 0, slots := 0, locals := 29 } : Room).slots)) (Wp.st (S' := s₁.setTop (mkF m 0 #[oR a1, oI p2, oU, oU, oU, oU] [])) (fun tt_ kk_ => castTop (ef_rm19 m a1 p2 ) kk_) ?_)
  have hnl : ((16 : Int32) + (own_max (p2 - (16 : Int32)) (18 : Int32))) = p2 := (by rcases hp2 with rfl | rfl | rfl | rfl <;> decide)
  have hm1 : (0 : Int32) < ((16 : Int32) + (own_max (p2 - (16 : Int32)) (18 : Int32))) := by rw [hnl]; rcases hp2 with rfl | rfl | rfl | rfl <;> decide
  have hm2 : ¬ (2147483639 : Int32) < ((16 : Int32) + (own_max (p2 - (16 : Int32)) (18 : Int32))) := by rw [hnl]; rcases hp2 with rfl | rfl | rfl | rfl <;> decide
  refine Wp.st (S' := s₁.setTop (mkF m 1 #[oR a1, oI p2, oU, oU, oU, oU] [(.ref a1)])) (fun tt_ kk_ => XS.aloadN X0.here hx rfl (hb hby d19_0) rfl rfl kk_) ?_
  obtain ⟨T1, X1, e1, st1⟩ := getF X0 hx hZ hown (host := "") (Or.inl (hw _ (List.mem_of_getElem? (i := 57) rfl))) Via.refl e0 P0 (g := (mkF m 1 #[oR a1, oI p2, oU, oU, oU, oU] [(.ref a1)])) rfl rfl (hb hby d19_1)
  refine Wp.st (S' := T1.setTop (mkF m 4 #[oR a1, oI p2, oU, oU, oU, oU] [(.ref va)])) st1 ?_
  obtain ⟨cl2, Ar2, q2, S2, N2, H2, G2⟩ := id P2
  refine Wp.st (S' := T1.setTop (mkF m 5 #[oR a1, oI p2, oU, oU, oU, oU] [(.int (16 : Int32))])) (fun tt_ kk_ => X1.arraylength hx (by rw [e1]; exact Ar2.1) (State.isArrayOf_alike hZ.alike Ar2.2.1) (g := (mkF m 4 #[oR a1, oI p2, oU, oU, oU, oU] [(.ref va)])) rfl rfl (hb hby d19_4) tt_ (by rw [len_of S2 N2]; exact kk_)) ?_
  refine Wp.st (S' := T1.setTop (mkF m 6 #[oR a1, oI p2, oI (16 : Int32), oU, oU, oU] [])) (fun tt_ kk_ => XS.istoreN X1.here hx rfl (hb hby d19_5) rfl (l' := #[oR a1, oI p2, oI (16 : Int32), oU, oU, oU]) rfl kk_) ?_
  refine Wp.st (S' := T1.setTop (mkF m 7 #[oR a1, oI p2, oI (16 : Int32), oU, oU, oU] [(.int p2)])) (fun tt_ kk_ => XS.iloadN X1.here hx rfl (hb hby d19_6) rfl  kk_) ?_
  refine Wp.st (S' := T1.setTop (mkF m 8 #[oR a1, oI p2, oI (16 : Int32), oU, oU, oU] [(.ref a1), (.int p2)])) (fun tt_ kk_ => XS.aloadN X1.here hx rfl (hb hby d19_7) rfl rfl kk_) ?_
  obtain ⟨T3, X3, e3, st3⟩ := getF X1 hx hZ hown (host := "") (Or.inl (hw _ (List.mem_of_getElem? (i := 59) rfl))) Via.refl e1 P1 (g := (mkF m 8 #[oR a1, oI p2, oI (16 : Int32), oU, oU, oU] [(.ref a1), (.int p2)])) rfl rfl (hb hby d19_8)
  refine Wp.st (S' := T3.setTop (mkF m 11 #[oR a1, oI p2, oI (16 : Int32), oU, oU, oU] [(.int (0 : Int32)), (.int p2)])) st3 ?_
  refine Wp.st (S' := T3.setTop (mkF m 12 #[oR a1, oI p2, oI (16 : Int32), oU, oU, oU] [(.int (p2 <<< ((0 : Int32) &&& 31)))])) (fun tt_ kk_ => XS.ishl X3.here hx rfl (hb hby d19_11) rfl kk_) ?_
  rw [(own_shl0 p2 : (p2 <<< ((0 : Int32) &&& 31)) = p2)]
  refine Wp.st (S' := T3.setTop (mkF m 13 #[oR a1, oI p2, oI (16 : Int32), oI p2, oU, oU] [])) (fun tt_ kk_ => XS.istoreN X3.here hx rfl (hb hby d19_12) rfl (l' := #[oR a1, oI p2, oI (16 : Int32), oI p2, oU, oU]) rfl kk_) ?_
  refine Wp.st (S' := T3.setTop (mkF m 14 #[oR a1, oI p2, oI (16 : Int32), oI p2, oU, oU] [(.int p2)])) (fun tt_ kk_ => XS.iloadN X3.here hx rfl (hb hby d19_13) rfl  kk_) ?_
  refine Wp.st (S' := T3.setTop (mkF m 15 #[oR a1, oI p2, oI (16 : Int32), oI p2, oU, oU] [(.int (16 : Int32)), (.int p2)])) (fun tt_ kk_ => XS.iloadN X3.here hx rfl (hb hby d19_14) rfl  kk_) ?_
  refine Wp.st (S' := T3.setTop (mkF m 16 #[oR a1, oI p2, oI (16 : Int32), oI p2, oU, oU] [(.int (p2 - (16 : Int32)))])) (fun tt_ kk_ => XS.isub X3.here hx rfl (hb hby d19_15) rfl kk_) ?_
  refine Wp.st (S' := T3.setTop (mkF m 18 #[oR a1, oI p2, oI (16 : Int32), oI p2, oI (p2 - (16 : Int32)), oU] [])) (fun tt_ kk_ => XS.istore X3.here hx rfl (hb hby d19_16) rfl (l' := #[oR a1, oI p2, oI (16 : Int32), oI p2, oI (p2 - (16 : Int32)), oU]) rfl kk_) ?_
  refine Wp.st (S' := T3.setTop (mkF m 19 #[oR a1, oI p2, oI (16 : Int32), oI p2, oI (p2 - (16 : Int32)), oU] [(.int (16 : Int32))])) (fun tt_ kk_ => XS.iloadN X3.here hx rfl (hb hby d19_18) rfl  kk_) ?_
  refine Wp.st (S' := T3.setTop (mkF m 21 #[oR a1, oI p2, oI (16 : Int32), oI p2, oI (p2 - (16 : Int32)), oU] [(.int (p2 - (16 : Int32))), (.int (16 : Int32))])) (fun tt_ kk_ => XS.iload X3.here hx rfl (hb hby d19_19) rfl  kk_) ?_
  refine Wp.st (S' := T3.setTop (mkF m 22 #[oR a1, oI p2, oI (16 : Int32), oI p2, oI (p2 - (16 : Int32)), oU] [(.int (16 : Int32)), (.int (p2 - (16 : Int32))), (.int (16 : Int32))])) (fun tt_ kk_ => XS.iloadN X3.here hx rfl (hb hby d19_21) rfl  kk_) ?_
  refine Wp.st (S' := T3.setTop (mkF m 23 #[oR a1, oI p2, oI (16 : Int32), oI p2, oI (p2 - (16 : Int32)), oU] [(.int (2 : Int32)), (.int (16 : Int32)), (.int (p2 - (16 : Int32))), (.int (16 : Int32))])) (fun tt_ kk_ => XS.iconst X3.here hx rfl (hb hby d19_22) kk_) ?_
  refine Wp.st (S' := T3.setTop (mkF m 24 #[oR a1, oI p2, oI (16 : Int32), oI p2, oI (p2 - (16 : Int32)), oU] [(.ref a1), (.int (2 : Int32)), (.int (16 : Int32)), (.int (p2 - (16 : Int32))), (.int (16 : Int32))])) (fun tt_ kk_ => XS.aloadN X3.here hx rfl (hb hby d19_23) rfl rfl kk_) ?_
  obtain ⟨T4, X4, e4, st4⟩ := getF X3 hx hZ hown (host := "") (Or.inl (hw _ (List.mem_of_getElem? (i := 59) rfl))) Via.refl e3 P1 (g := (mkF m 24 #[oR a1, oI p2, oI (16 : Int32), oI p2, oI (p2 - (16 : Int32)), oU] [(.ref a1), (.int (2 : Int32)), (.int (16 : Int32)), (.int (p2 - (16 : Int32))), (.int (16 : Int32))])) rfl rfl (hb hby d19_24)
  refine Wp.st (S' := T4.setTop (mkF m 27 #[oR a1, oI p2, oI (16 : Int32), oI p2, oI (p2 - (16 : Int32)), oU] [(.int (0 : Int32)), (.int (2 : Int32)), (.int (16 : Int32)), (.int (p2 - (16 : Int32))), (.int (16 : Int32))])) st4 ?_
  refine Wp.st (S' := T4.setTop (mkF m 28 #[oR a1, oI p2, oI (16 : Int32), oI p2, oI (p2 - (16 : Int32)), oU] [(.int ((2 : Int32) <<< ((0 : Int32) &&& 31))), (.int (16 : Int32)), (.int (p2 - (16 : Int32))), (.int (16 : Int32))])) (fun tt_ kk_ => XS.ishl X4.here hx rfl (hb hby d19_27) rfl kk_) ?_
  rw [(own_shl0 2 : ((2 : Int32) <<< ((0 : Int32) &&& 31)) = (2 : Int32))]
  refine Wp.st (S' := T4.setTop (mkF m 29 #[oR a1, oI p2, oI (16 : Int32), oI p2, oI (p2 - (16 : Int32)), oU] [(.int ((16 : Int32) + (2 : Int32))), (.int (p2 - (16 : Int32))), (.int (16 : Int32))])) (fun tt_ kk_ => XS.iadd X4.here hx rfl (hb hby d19_28) rfl kk_) ?_
  rw [(by decide : ((16 : Int32) + (2 : Int32)) = (18 : Int32))]
  obtain ⟨vv5, _, ⟨T5, L5, k5, n5⟩, -, X5, ⟨Lc5, hQ5, l5, y5, z5⟩, st5⟩ := Jvm.LawKit.callS X4 hx (y := (⟨"jdk/internal/util/ArraysSupport", "newLength", "(III)I"⟩ : MethodName)) hown (mvT hZ (hw _ (List.mem_of_getElem? (i := 115) rfl))) (mvT hZ (hw _ (List.mem_of_getElem? (i := 116) rfl))) (mvT hZ (hw _ (List.mem_of_getElem? (i := 117) rfl))) (mvT hZ (hw _ (List.mem_of_getElem? (i := 118) rfl))) (by decide) (backOf (W := 0) (rm20 l Z a0 hw [] (16 : Int32) (p2 - (16 : Int32)) (18 : Int32) h0 n0 Z0 ((by assumption) : (0 : Int32) < ((16 : Int32) + (own_max (p2 - (16 : Int32)) (18 : Int32)))) ((by assumption) : ¬ (2147483639 : Int32) < ((16 : Int32) + (own_max (p2 - (16 : Int32)) (18 : Int32))))) hZ (hw _ (List.mem_of_getElem? (i := 118) rfl)) (hw _ (List.mem_of_getElem? (i := 117) rfl)) (by decide) (by decide)) (g := (mkF m 29 #[oR a1, oI p2, oI (16 : Int32), oI p2, oI (p2 - (16 : Int32)), oU] [(.int (18 : Int32)), (.int (p2 - (16 : Int32))), (.int (16 : Int32))])) rfl (by rw [hml]; rfl) (argsL := [(.int (16 : Int32)), (.int (p2 - (16 : Int32))), (.int (18 : Int32))]) (rest := []) (lenOf pd_4 rfl) rfl (by show 2 * 0 + _ ≤ _; exact Nat.le_of_eq rfl) (hb hby d19_29) (fun _ _ => ⟨rfl, e4, (by decide : 0 + 0 ≤ _), (by decide : 0 + 0 ≤ _)⟩)
  dsimp only [Pt.U, Pt.locs, Pt.cells, Pt.slots] at X5 l5 y5 z5 st5 hQ5
  subst l5 y5 z5
  obtain ⟨rfl, Nq5, e5⟩ := hQ5
  have N5 := Fr.app N0 Nq5
  refine Wp.st (S' := T5.setTop (mkF m 32 #[oR a1, oI p2, oI (16 : Int32), oI p2, oI (p2 - (16 : Int32)), oU] [(.int ((16 : Int32) + (own_max (p2 - (16 : Int32)) (18 : Int32))))])) st5 ?_
  rw [(hnl : ((16 : Int32) + (own_max (p2 - (16 : Int32)) (18 : Int32))) = p2)]
  refine Wp.st (S' := T5.setTop (mkF m 34 #[oR a1, oI p2, oI (16 : Int32), oI p2, oI (p2 - (16 : Int32)), oI p2] [])) (fun tt_ kk_ => XS.istore X5.here hx rfl (hb hby d19_32) rfl (l' := #[oR a1, oI p2, oI (16 : Int32), oI p2, oI (p2 - (16 : Int32)), oI p2]) rfl kk_) ?_
  refine Wp.st (S' := T5.setTop (mkF m 36 #[oR a1, oI p2, oI (16 : Int32), oI p2, oI (p2 - (16 : Int32)), oI p2] [(.int p2)])) (fun tt_ kk_ => XS.iload X5.here hx rfl (hb hby d19_34) rfl  kk_) ?_
  refine Wp.st (S' := T5.setTop (mkF m 38 #[oR a1, oI p2, oI (16 : Int32), oI p2, oI (p2 - (16 : Int32)), oI p2] [(.int (2147483647 : Int32)), (.int p2)])) (fun tt_ kk_ => X5.ldcInt hx hown (mvT hZ (hw _ (List.mem_of_getElem? (i := 124) rfl))) (g := (mkF m 36 #[oR a1, oI p2, oI (16 : Int32), oI p2, oI (p2 - (16 : Int32)), oI p2] [(.int p2)])) rfl (hb hby d19_36) tt_ kk_) ?_
  refine Wp.st (S' := T5.setTop (mkF m 51 #[oR a1, oI p2, oI (16 : Int32), oI p2, oI (p2 - (16 : Int32)), oI p2] [])) (fun tt_ kk_ => XS.icmpYes X5.here hx rfl (pc0 := 38) (pc' := 51) rfl (hb hby d19_38) rfl (feq ((by rcases hp2 with rfl | rfl | rfl | rfl <;> decide) : ¬ (p2 = (2147483647 : Int32)))).2 (by decide) (by decide) kk_) ?_
  refine Wp.st (S' := T5.setTop (mkF m 53 #[oR a1, oI p2, oI (16 : Int32), oI p2, oI (p2 - (16 : Int32)), oI p2] [(.int p2)])) (fun tt_ kk_ => XS.iload X5.here hx rfl (hb hby d19_51) rfl  kk_) ?_
  refine Wp.st (S' := T5.setTop (mkF m 54 #[oR a1, oI p2, oI (16 : Int32), oI p2, oI (p2 - (16 : Int32)), oI p2] [(.ref a1), (.int p2)])) (fun tt_ kk_ => XS.aloadN X5.here hx rfl (hb hby d19_53) rfl rfl kk_) ?_
  obtain ⟨T6, X6, e6, st6⟩ := getF X5 hx hZ hown (host := "") (Or.inl (hw _ (List.mem_of_getElem? (i := 59) rfl))) Via.refl e5 P1 (g := (mkF m 54 #[oR a1, oI p2, oI (16 : Int32), oI p2, oI (p2 - (16 : Int32)), oI p2] [(.ref a1), (.int p2)])) rfl rfl (hb hby d19_54)
  refine Wp.st (S' := T6.setTop (mkF m 57 #[oR a1, oI p2, oI (16 : Int32), oI p2, oI (p2 - (16 : Int32)), oI p2] [(.int (0 : Int32)), (.int p2)])) st6 ?_
  refine Wp.st (S' := T6.setTop (mkF m 58 #[oR a1, oI p2, oI (16 : Int32), oI p2, oI (p2 - (16 : Int32)), oI p2] [(.int (p2 >>> ((0 : Int32) &&& 31)))])) (fun tt_ kk_ => XS.ishr X6.here hx rfl (hb hby d19_57) rfl kk_) ?_
  rw [(own_shr0 p2 : (p2 >>> ((0 : Int32) &&& 31)) = p2)]
  exact Wp.ret X6 hlk (v := (some (.int p2))) (fun h => by rw [Bd.returns] at h; cases h) (fun fs hr => retI X6 hx Bd.returns (hb hby d19_58) hr) (by decide) (by decide) (show Q_rm19 Z a1 p2 va kd vd h0 n0 _ T6.heap _ by rw [e6]; exact ⟨rfl, N5, rfl⟩)
theorem pn_22 : plainName "java/util/Arrays" = true := by first | (simp [plainName, overriddenIn]; done) | decide +kernel
theorem d22_0 : decode jdk_65_method_121_code 0 = .ok (.iload_n 1, 1) := by decide +kernel
theorem d22_1 : decode jdk_65_method_121_code 1 = .ok (.aload_n 0, 1) := by decide +kernel
theorem d22_2 : decode jdk_65_method_121_code 2 = .ok (.arraylength, 1) := by decide +kernel
theorem d22_3 : decode jdk_65_method_121_code 3 = .ok (.if_icmp .ne 11, 3) := by decide +kernel
theorem d22_14 : decode jdk_65_method_121_code 14 = .ok (.iload_n 1, 1) := by decide +kernel
theorem d22_15 : decode jdk_65_method_121_code 15 = .ok (.newarray .byte, 2) := by decide +kernel
theorem d22_17 : decode jdk_65_method_121_code 17 = .ok (.astore_n 2, 1) := by decide +kernel
theorem d22_18 : decode jdk_65_method_121_code 18 = .ok (.aload_n 0, 1) := by decide +kernel
theorem d22_19 : decode jdk_65_method_121_code 19 = .ok (.iconst 0, 1) := by decide +kernel
theorem d22_20 : decode jdk_65_method_121_code 20 = .ok (.aload_n 2, 1) := by decide +kernel
theorem d22_21 : decode jdk_65_method_121_code 21 = .ok (.iconst 0, 1) := by decide +kernel
theorem d22_22 : decode jdk_65_method_121_code 22 = .ok (.aload_n 0, 1) := by decide +kernel
theorem d22_23 : decode jdk_65_method_121_code 23 = .ok (.arraylength, 1) := by decide +kernel
theorem d22_24 : decode jdk_65_method_121_code 24 = .ok (.iload_n 1, 1) := by decide +kernel
theorem d22_25 : decode jdk_65_method_121_code 25 = .ok (.invokestatic 304, 3) := by decide +kernel
theorem d22_28 : decode jdk_65_method_121_code 28 = .ok (.invokestatic 150, 3) := by decide +kernel
theorem d22_31 : decode jdk_65_method_121_code 31 = .ok (.aload_n 2, 1) := by decide +kernel
theorem d22_32 : decode jdk_65_method_121_code 32 = .ok (.areturn, 1) := by decide +kernel
theorem ef_rm22 (m : MethodId) (a1 : Addr) (p2 : Int32) : entryFrame m #[(.ref a1), (.int p2)] 3 = mkF m 0 #[oR a1, oI p2, oU] [] := by first | (simp [entryFrame, mkF, argsToLocals, Value.category]; done) | rfl
def Q_rm22 (Z : State) (a1 : Addr) (p2 : Int32) (kd : ClassId) (vd : List Value) (h0 : Heap) (n0 : Nat) (v : Option Value) (h : Heap) (L : List Loc) : Prop := ∃ b : Addr, ∃ kb : ClassId, (v = some (.ref b)) ∧ (Fr n0 L) ∧ (Keep h0 h []) ∧ (h0.size ≤ b) ∧ (Exa Z h b "[B") ∧ (Arv Z h b kb .byte p2 (own_cp own_z64 vd (0 : Int32) (16 : Int32)) (.int (0 : Int32)))
set_option maxRecDepth 65536 in
set_option maxHeartbeats 40000000 in
theorem rm22 (l : Launch) (Z : State) (a0 : Array Value) (hw : ∀ d ∈ tables_1, d.before a0 Z = true) (ws : List Jvm.Cond) (a1 : Addr) (p2 : Int32) (kd : ClassId) (vd : List Value) (h0 : Heap) (n0 : Nat) (Z0 : n0 ≤ h0.size) (P0 : Arv Z h0 a1 kd .byte (16 : Int32) vd (.int (0 : Int32))) (hp2 : p2 = (34 : Int32) ∨ p2 = (35 : Int32) ∨ p2 = (36 : Int32) ∨ p2 = (37 : Int32)) :
    MetFree l (⟨"java/util/Arrays", "copyOf", "([BI)[B"⟩ : MethodName) (head1 (Jvm.Cond.code (⟨"java/util/Arrays", "copyOf", "([BI)[B"⟩ : MethodName) jdk_65_method_121_code 3 (some (.array .byte)) :: ws) ({ frames := 1, cells := 1, slots := 37, locals := 18 } : Room)) (fun a U => a = #[(.ref a1), (.int p2)] ∧ Z.Warmed39 U.vm ∧ U.heap = h0) (fun _ _ _ _ _ => True) (fun _ U o U' => ∃ v L, o = .returned v ∧ Q_rm22 Z a1 p2 kd vd h0 n0 v U'.heap L ∧ FrameEnd U o U' L ({ frames := 1, cells := 1, slots := 37, locals := 18 } : Room).cells ({ frames := 1, cells := 1, slots := 37, locals := 18 } : Room).slots) := by
  refine MetFree.of_bodySF (plainFor_of_name pn_22) hisR ?_
  intro p e s m args below meth c s₁ Bd hml0 hP hK
  obtain ⟨rfl, hZ, hh⟩ := hP
  have hx := Bd.exec
  have hby := Bd.bytes
  have hml : c.maxLocals = 3 := hml0
  have hown : s.vm.findClass "java/util/Arrays" = some m.cls := findClass_of_methodNamed Bd.named
  have hnm := (name_of_methodNamed Bd.named Bd.method).1
  have hlk := Bd.notSynchronized
  have X0 : Stand p l e ({ frames := 1, cells := 1, slots := 37, locals := 18 } : Room) s m #[(.ref a1), (.int p2)] below meth c s₁ [] 0 0 := Stand.of_body Bd
  have e0 : s₁.heap = h0 := by rw [← hh, Bd.state]; rfl
  have N0 := Fr.nil n0
  refine Wp.goal (Post := (fun o U' => ∃ v L, o = .returned v ∧ Q_rm22 Z a1 p2 kd vd h0 n0 v U'.heap L ∧ FrameEnd s o U' L ({ frames := 1, cells := 1, slots := 37, locals := 18 } : Room).cells ({ frames := 1, cells := 1, slots := 37, locals := 18 } : Room).slots)) (Wp.st (S' := s₁.setTop (mkF m 0 #[oR a1, oI p2, oU] [])) (fun tt_ kk_ => castTop (ef_rm22 m a1 p2 ) kk_) ?_)
  refine Wp.st (S' := s₁.setTop (mkF m 1 #[oR a1, oI p2, oU] [(.int p2)])) (fun tt_ kk_ => XS.iloadN X0.here hx rfl (hb hby d22_0) rfl  kk_) ?_
  refine Wp.st (S' := s₁.setTop (mkF m 2 #[oR a1, oI p2, oU] [(.ref a1), (.int p2)])) (fun tt_ kk_ => XS.aloadN X0.here hx rfl (hb hby d22_1) rfl rfl kk_) ?_
  obtain ⟨cl1, Ar1, q1, S1, N1, H1, G1⟩ := id P0
  refine Wp.st (S' := s₁.setTop (mkF m 3 #[oR a1, oI p2, oU] [(.int (16 : Int32)), (.int p2)])) (fun tt_ kk_ => X0.arraylength hx (by rw [e0]; exact Ar1.1) (State.isArrayOf_alike hZ.alike Ar1.2.1) (g := (mkF m 2 #[oR a1, oI p2, oU] [(.ref a1), (.int p2)])) rfl rfl (hb hby d22_2) tt_ (by rw [len_of S1 N1]; exact kk_)) ?_
  refine Wp.st (S' := s₁.setTop (mkF m 14 #[oR a1, oI p2, oU] [])) (fun tt_ kk_ => XS.icmpYes X0.here hx rfl (pc0 := 3) (pc' := 14) rfl (hb hby d22_3) rfl (feq ((by rcases hp2 with rfl | rfl | rfl | rfl <;> decide) : ¬ (p2 = (16 : Int32)))).2 (by decide) (by decide) kk_) ?_
  refine Wp.st (S' := s₁.setTop (mkF m 15 #[oR a1, oI p2, oU] [(.int p2)])) (fun tt_ kk_ => XS.iloadN X0.here hx rfl (hb hby d22_14) rfl  kk_) ?_
  obtain ⟨T2, h2, k2, X2, e2, E2, A2, Ea2, st2⟩ := newPE X0 hx hZ (hw _ (List.mem_of_getElem? (i := 19) rfl)) e0 (g := (mkF m 15 #[oR a1, oI p2, oU] [(.int p2)])) rfl (hb hby d22_15) rfl (by rcases hp2 with rfl | rfl | rfl | rfl <;> decide) (cap := 37) (by rcases hp2 with rfl | rfl | rfl | rfl <;> decide) (by decide) (by decide) (by decide) (ad := "[B") (by decide +kernel)
  obtain ⟨b2, g2⟩ : ∃ z, z = h0.size := ⟨_, rfl⟩
  rw [← g2] at A2 Ea2 st2
  have z3 := E2.1
  have V2 : Arv Z h2 b2 k2 .byte p2 [] (.int (0 : Int32)) := Arv.new A2 (by rcases hp2 with rfl | rfl | rfl | rfl <;> decide)
  have g4 : n0 ≤ b2 := Nat.le_trans (Nat.le_trans Z0 (Nat.le_refl _)) (Nat.le_of_eq g2.symm)
  refine Wp.st (S' := T2.setTop (mkF m 17 #[oR a1, oI p2, oU] [(.ref b2)])) st2 ?_
  have Vz5 : Arv Z h2 b2 k2 .byte p2 own_z64 (.int (0 : Int32)) := (V2).pad (own_zpad 64)
  refine Wp.st (S' := T2.setTop (mkF m 18 #[oR a1, oI p2, oR b2] [])) (fun tt_ kk_ => XS.astoreN X2.here hx rfl (hb hby d22_17) rfl rfl (l' := #[oR a1, oI p2, oR b2]) rfl kk_) ?_
  refine Wp.st (S' := T2.setTop (mkF m 19 #[oR a1, oI p2, oR b2] [(.ref a1)])) (fun tt_ kk_ => XS.aloadN X2.here hx rfl (hb hby d22_18) rfl rfl kk_) ?_
  refine Wp.st (S' := T2.setTop (mkF m 20 #[oR a1, oI p2, oR b2] [(.int (0 : Int32)), (.ref a1)])) (fun tt_ kk_ => XS.iconst X2.here hx rfl (hb hby d22_19) kk_) ?_
  refine Wp.st (S' := T2.setTop (mkF m 21 #[oR a1, oI p2, oR b2] [(.ref b2), (.int (0 : Int32)), (.ref a1)])) (fun tt_ kk_ => XS.aloadN X2.here hx rfl (hb hby d22_20) rfl rfl kk_) ?_
  refine Wp.st (S' := T2.setTop (mkF m 22 #[oR a1, oI p2, oR b2] [(.int (0 : Int32)), (.ref b2), (.int (0 : Int32)), (.ref a1)])) (fun tt_ kk_ => XS.iconst X2.here hx rfl (hb hby d22_21) kk_) ?_
  refine Wp.st (S' := T2.setTop (mkF m 23 #[oR a1, oI p2, oR b2] [(.ref a1), (.int (0 : Int32)), (.ref b2), (.int (0 : Int32)), (.ref a1)])) (fun tt_ kk_ => XS.aloadN X2.here hx rfl (hb hby d22_22) rfl rfl kk_) ?_
  have F6 := P0.ext E2
  obtain ⟨cl7, Ar7, q7, S7, N7, H7, G7⟩ := id F6
  refine Wp.st (S' := T2.setTop (mkF m 24 #[oR a1, oI p2, oR b2] [(.int (16 : Int32)), (.int (0 : Int32)), (.ref b2), (.int (0 : Int32)), (.ref a1)])) (fun tt_ kk_ => X2.arraylength hx (by rw [e2]; exact Ar7.1) (State.isArrayOf_alike hZ.alike Ar7.2.1) (g := (mkF m 23 #[oR a1, oI p2, oR b2] [(.ref a1), (.int (0 : Int32)), (.ref b2), (.int (0 : Int32)), (.ref a1)])) rfl rfl (hb hby d22_23) tt_ (by rw [len_of S7 N7]; exact kk_)) ?_
  refine Wp.st (S' := T2.setTop (mkF m 25 #[oR a1, oI p2, oR b2] [(.int p2), (.int (16 : Int32)), (.int (0 : Int32)), (.ref b2), (.int (0 : Int32)), (.ref a1)])) (fun tt_ kk_ => XS.iloadN X2.here hx rfl (hb hby d22_24) rfl  kk_) ?_
  obtain ⟨vv8, _, ⟨T8, L8, k8, n8⟩, -, X8, ⟨Lc8, hQ8, l8, y8, z8⟩, st8⟩ := Jvm.LawKit.callS X2 hx (y := (⟨"java/lang/Math", "min", "(II)I"⟩ : MethodName)) hown (mvT hZ (hw _ (List.mem_of_getElem? (i := 129) rfl))) (mvT hZ (hw _ (List.mem_of_getElem? (i := 130) rfl))) (mvT hZ (hw _ (List.mem_of_getElem? (i := 121) rfl))) (mvT hZ (hw _ (List.mem_of_getElem? (i := 131) rfl))) (by decide) (backOf (W := 4) (rm23 l Z a0 hw [] (16 : Int32) p2 h2 n0 (Nat.le_trans Z0 z3) ) hZ (hw _ (List.mem_of_getElem? (i := 131) rfl)) (hw _ (List.mem_of_getElem? (i := 121) rfl)) (by decide) (by decide)) (g := (mkF m 25 #[oR a1, oI p2, oR b2] [(.int p2), (.int (16 : Int32)), (.int (0 : Int32)), (.ref b2), (.int (0 : Int32)), (.ref a1)])) rfl (by rw [hml]; rfl) (argsL := [(.int (16 : Int32)), (.int p2)]) (rest := [(.int (0 : Int32)), (.ref b2), (.int (0 : Int32)), (.ref a1)]) (lenOf pd_1 rfl) rfl (by show 2 * 0 + _ ≤ _; exact Nat.le_of_eq rfl) (hb hby d22_25) (fun _ _ => ⟨rfl, e2, (by decide : 1 + 0 ≤ _), (by decide : 37 + 0 ≤ _)⟩)
  dsimp only [Pt.U, Pt.locs, Pt.cells, Pt.slots] at X8 l8 y8 z8 st8 hQ8
  subst l8 y8 z8
  obtain ⟨rfl, Nq8, e8⟩ := hQ8
  have N8 := Fr.app N0 Nq8
  refine Wp.st (S' := T8.setTop (mkF m 28 #[oR a1, oI p2, oR b2] [(.int (own_min (16 : Int32) p2)), (.int (0 : Int32)), (.ref b2), (.int (0 : Int32)), (.ref a1)])) st8 ?_
  rw [((by rcases hp2 with rfl | rfl | rfl | rfl <;> decide) : (own_min (16 : Int32) p2) = (16 : Int32))]
  obtain ⟨T9, h9, L9, X9, e9, Nc9, K9, A9, st9⟩ := cpA X8 hx hZ hown (hw _ (List.mem_of_getElem? (i := 132) rfl)) (hw _ (List.mem_of_getElem? (i := 108) rfl)) (hw _ (List.mem_of_getElem? (i := 106) rfl)) (hw _ (List.mem_of_getElem? (i := 107) rfl)) e8 F6 Vz5 (Or.inl ⟨rfl, rfl⟩) (by decide) (by decide) (by decide) (by decide) (by rcases hp2 with rfl | rfl | rfl | rfl <;> decide) rfl (by decide) N8 g4 (g := (mkF m 28 #[oR a1, oI p2, oR b2] [(.int (16 : Int32)), (.int (0 : Int32)), (.ref b2), (.int (0 : Int32)), (.ref a1)])) rfl (by rw [hml]; rfl) rfl (hb hby d22_28) (by decide) (W := 0) (by show 2 * 0 + _ ≤ _; exact Nat.le_of_eq rfl) (by decide)
  have z10 := K9.1
  have V9 : Arv Z h9 b2 k2 .byte p2 (own_cp own_z64 vd (0 : Int32) (16 : Int32)) (.int (0 : Int32)) := A9
  refine Wp.st (S' := T9.setTop (mkF m 31 #[oR a1, oI p2, oR b2] [])) st9 ?_
  refine Wp.st (S' := T9.setTop (mkF m 32 #[oR a1, oI p2, oR b2] [(.ref b2)])) (fun tt_ kk_ => XS.aloadN X9.here hx rfl (hb hby d22_31) rfl rfl kk_) ?_
  have K11 := Keep.refl h0 []
  have K12 := K11.ext E2
  have K13 := K12.trans K9 (allS (Or.inr (Nat.le_trans (Nat.le_refl _) (Nat.le_of_eq g2.symm))) all0)
  have F14 := Ea2.keep K9
  exact Wp.ret X9 hlk (v := (some (.ref b2))) (fun h => by rw [Bd.returns] at h; cases h) (fun fs hr => retOut X9 hx Bd.returns rfl (Or.inr (Or.inr (Or.inr (Or.inr ⟨rfl, rfl, rfl⟩)))) (hb hby d22_32) hr) (by decide) (by decide) (show Q_rm22 Z a1 p2 kd vd h0 n0 _ T9.heap _ by rw [e9]; exact ⟨b2, k2, rfl, Nc9, K13, (Nat.le_trans (Nat.le_refl _) (Nat.le_of_eq g2.symm)), F14, V9⟩)
theorem pn_15 : plainName "java/lang/AbstractStringBuilder" = true := by first | (simp [plainName, overriddenIn]; done) | decide +kernel
theorem d15_0 : decode jdk_68_method_9_code 0 = .ok (.aload_n 0, 1) := by decide +kernel
theorem d15_1 : decode jdk_68_method_9_code 1 = .ok (.getfield 15, 3) := by decide +kernel
theorem d15_4 : decode jdk_68_method_9_code 4 = .ok (.arraylength, 1) := by decide +kernel
theorem d15_5 : decode jdk_68_method_9_code 5 = .ok (.aload_n 0, 1) := by decide +kernel
theorem d15_6 : decode jdk_68_method_9_code 6 = .ok (.getfield 22, 3) := by decide +kernel
theorem d15_9 : decode jdk_68_method_9_code 9 = .ok (.ishr, 1) := by decide +kernel
theorem d15_10 : decode jdk_68_method_9_code 10 = .ok (.istore_n 2, 1) := by decide +kernel
theorem d15_11 : decode jdk_68_method_9_code 11 = .ok (.iload_n 1, 1) := by decide +kernel
theorem d15_12 : decode jdk_68_method_9_code 12 = .ok (.iload_n 2, 1) := by decide +kernel
theorem d15_13 : decode jdk_68_method_9_code 13 = .ok (.isub, 1) := by decide +kernel
theorem d15_14 : decode jdk_68_method_9_code 14 = .ok (.ifCond .le 24, 3) := by decide +kernel
theorem d15_38 : decode jdk_68_method_9_code 38 = .ok (.return_, 1) := by decide +kernel
theorem ef_rmEnN (m : MethodId) (a1 : Addr) (p2 : Int32) : entryFrame m #[(.ref a1), (.int p2)] 3 = mkF m 0 #[oR a1, oI p2, oU] [] := by first | (simp [entryFrame, mkF, argsToLocals, Value.category]; done) | rfl
def Q_rmEnN (Z : State) (a1 : Addr) (p2 : Int32) (va : Addr) (kd : ClassId) (vd : List Value) (h0 : Heap) (n0 : Nat) (v : Option Value) (h : Heap) (L : List Loc) : Prop := (v = none) ∧ (Fr n0 L) ∧ (h = h0)
set_option maxRecDepth 65536 in
set_option maxHeartbeats 40000000 in
theorem rmEnN (l : Launch) (Z : State) (a0 : Array Value) (hw : ∀ d ∈ tables_1, d.before a0 Z = true) (ws : List Jvm.Cond) (a1 : Addr) (p2 : Int32) (va : Addr) (kd : ClassId) (vd : List Value) (h0 : Heap) (n0 : Nat) (Z0 : n0 ≤ h0.size) (P0 : Fld Z h0 a1 "java/lang/AbstractStringBuilder" "value" "[B" (.ref va)) (P1 : Fld Z h0 a1 "java/lang/AbstractStringBuilder" "coder" "B" (.int (0 : Int32))) (P2 : Arv Z h0 va kd .byte (16 : Int32) vd (.int (0 : Int32))) (hng : ¬ (0 : Int32) < (p2 - (16 : Int32))) :
    MetFree l (⟨"java/lang/AbstractStringBuilder", "ensureCapacityInternal", "(I)V"⟩ : MethodName) (head1 (Jvm.Cond.code (⟨"java/lang/AbstractStringBuilder", "ensureCapacityInternal", "(I)V"⟩ : MethodName) jdk_68_method_9_code 3 none :: ws) ({ frames := 0, cells := 0, slots := 0, locals := 0 } : Room)) (fun a U => a = #[(.ref a1), (.int p2)] ∧ Z.Warmed39 U.vm ∧ U.heap = h0) (fun _ _ _ _ _ => True) (fun _ U o U' => ∃ v L, o = .returned v ∧ Q_rmEnN Z a1 p2 va kd vd h0 n0 v U'.heap L ∧ FrameEnd U o U' L ({ frames := 0, cells := 0, slots := 0, locals := 0 } : Room).cells ({ frames := 0, cells := 0, slots := 0, locals := 0 } : Room).slots) := by
  refine MetFree.of_bodySF (plainFor_of_name pn_15) hisR ?_
  intro p e s m args below meth c s₁ Bd hml0 hP hK
  obtain ⟨rfl, hZ, hh⟩ := hP
  have hx := Bd.exec
  have hby := Bd.bytes
  have hml : c.maxLocals = 3 := hml0
  have hown : s.vm.findClass "java/lang/AbstractStringBuilder" = some m.cls := findClass_of_methodNamed Bd.named
  have hnm := (name_of_methodNamed Bd.named Bd.method).1
  have hlk := Bd.notSynchronized
  have X0 : Stand p l e ({ frames := 0, cells := 0, slots := 0, locals := 0 } : Room) s m #[(.ref a1), (.int p2)] below meth c s₁ [] 0 0 := Stand.of_body Bd
  have e0 : s₁.heap = h0 := by rw [← hh, Bd.state]; rfl
  have N0 := Fr.nil n0
  refine Wp.goal (Post := (fun o U' => ∃ v L, o = .returned v ∧ Q_rmEnN Z a1 p2 va kd vd h0 n0 v U'.heap L ∧ FrameEnd s o U' L ({ frames := 0, cells := 0, slots := 0, locals := 0 } : Room).cells ({ frames := 0, cells := 0, slots := 0, locals := 0 } : Room).slots)) (Wp.st (S' := s₁.setTop (mkF m 0 #[oR a1, oI p2, oU] [])) (fun tt_ kk_ => castTop (ef_rmEnN m a1 p2 ) kk_) ?_)
  refine Wp.st (S' := s₁.setTop (mkF m 1 #[oR a1, oI p2, oU] [(.ref a1)])) (fun tt_ kk_ => XS.aloadN X0.here hx rfl (hb hby d15_0) rfl rfl kk_) ?_
  obtain ⟨T1, X1, e1, st1⟩ := getF X0 hx hZ hown (host := "") (Or.inl (hw _ (List.mem_of_getElem? (i := 57) rfl))) Via.refl e0 P0 (g := (mkF m 1 #[oR a1, oI p2, oU] [(.ref a1)])) rfl rfl (hb hby d15_1)
  refine Wp.st (S' := T1.setTop (mkF m 4 #[oR a1, oI p2, oU] [(.ref va)])) st1 ?_
  obtain ⟨cl2, Ar2, q2, S2, N2, H2, G2⟩ := id P2
  refine Wp.st (S' := T1.setTop (mkF m 5 #[oR a1, oI p2, oU] [(.int (16 : Int32))])) (fun tt_ kk_ => X1.arraylength hx (by rw [e1]; exact Ar2.1) (State.isArrayOf_alike hZ.alike Ar2.2.1) (g := (mkF m 4 #[oR a1, oI p2, oU] [(.ref va)])) rfl rfl (hb hby d15_4) tt_ (by rw [len_of S2 N2]; exact kk_)) ?_
  refine Wp.st (S' := T1.setTop (mkF m 6 #[oR a1, oI p2, oU] [(.ref a1), (.int (16 : Int32))])) (fun tt_ kk_ => XS.aloadN X1.here hx rfl (hb hby d15_5) rfl rfl kk_) ?_
  obtain ⟨T3, X3, e3, st3⟩ := getF X1 hx hZ hown (host := "") (Or.inl (hw _ (List.mem_of_getElem? (i := 59) rfl))) Via.refl e1 P1 (g := (mkF m 6 #[oR a1, oI p2, oU] [(.ref a1), (.int (16 : Int32))])) rfl rfl (hb hby d15_6)
  refine Wp.st (S' := T3.setTop (mkF m 9 #[oR a1, oI p2, oU] [(.int (0 : Int32)), (.int (16 : Int32))])) st3 ?_
  refine Wp.st (S' := T3.setTop (mkF m 10 #[oR a1, oI p2, oU] [(.int ((16 : Int32) >>> ((0 : Int32) &&& 31)))])) (fun tt_ kk_ => XS.ishr X3.here hx rfl (hb hby d15_9) rfl kk_) ?_
  rw [(own_shr0 16 : ((16 : Int32) >>> ((0 : Int32) &&& 31)) = (16 : Int32))]
  refine Wp.st (S' := T3.setTop (mkF m 11 #[oR a1, oI p2, oI (16 : Int32)] [])) (fun tt_ kk_ => XS.istoreN X3.here hx rfl (hb hby d15_10) rfl (l' := #[oR a1, oI p2, oI (16 : Int32)]) rfl kk_) ?_
  refine Wp.st (S' := T3.setTop (mkF m 12 #[oR a1, oI p2, oI (16 : Int32)] [(.int p2)])) (fun tt_ kk_ => XS.iloadN X3.here hx rfl (hb hby d15_11) rfl  kk_) ?_
  refine Wp.st (S' := T3.setTop (mkF m 13 #[oR a1, oI p2, oI (16 : Int32)] [(.int (16 : Int32)), (.int p2)])) (fun tt_ kk_ => XS.iloadN X3.here hx rfl (hb hby d15_12) rfl  kk_) ?_
  refine Wp.st (S' := T3.setTop (mkF m 14 #[oR a1, oI p2, oI (16 : Int32)] [(.int (p2 - (16 : Int32)))])) (fun tt_ kk_ => XS.isub X3.here hx rfl (hb hby d15_13) rfl kk_) ?_
  refine Wp.st (S' := T3.setTop (mkF m 38 #[oR a1, oI p2, oI (16 : Int32)] [])) (fun tt_ kk_ => XS.ifYes X3.here hx rfl (pc0 := 14) (pc' := 38) rfl (hb hby d15_14) rfl ((if0 _ _).trans (flt (hng : ¬ ((0 : Int32) < (p2 - (16 : Int32))))).2.2.2) (by decide) (by decide) kk_) ?_
  exact Wp.ret X3 hlk (v := none) (fun _ => rfl) (fun fs hr => X3.returnOut hx Bd.returns (hb hby d15_38) hr) (by decide) (by decide) (show Q_rmEnN Z a1 p2 va kd vd h0 n0 _ T3.heap _ by rw [e3]; exact ⟨rfl, N0, rfl⟩)
theorem d15_17 : decode jdk_68_method_9_code 17 = .ok (.aload_n 0, 1) := by decide +kernel
theorem d15_18 : decode jdk_68_method_9_code 18 = .ok (.aload_n 0, 1) := by decide +kernel
theorem d15_19 : decode jdk_68_method_9_code 19 = .ok (.getfield 15, 3) := by decide +kernel
theorem d15_22 : decode jdk_68_method_9_code 22 = .ok (.aload_n 0, 1) := by decide +kernel
theorem d15_23 : decode jdk_68_method_9_code 23 = .ok (.iload_n 1, 1) := by decide +kernel
theorem d15_24 : decode jdk_68_method_9_code 24 = .ok (.invokevirtual 104, 3) := by decide +kernel
theorem pd_5 : parseMethodDescriptor "(I)I" = some ⟨[.int], some .int⟩ := by decide +kernel
theorem d15_27 : decode jdk_68_method_9_code 27 = .ok (.aload_n 0, 1) := by decide +kernel
theorem d15_28 : decode jdk_68_method_9_code 28 = .ok (.getfield 22, 3) := by decide +kernel
theorem d15_31 : decode jdk_68_method_9_code 31 = .ok (.ishl, 1) := by decide +kernel
theorem d15_32 : decode jdk_68_method_9_code 32 = .ok (.invokestatic 108, 3) := by decide +kernel
theorem pd_6 : parseMethodDescriptor "([BI)[B" = some ⟨[(.array .byte), .int], some (.array .byte)⟩ := by decide +kernel
theorem d15_35 : decode jdk_68_method_9_code 35 = .ok (.putfield 15, 3) := by decide +kernel
theorem ef_rmEnG (m : MethodId) (a1 : Addr) (p2 : Int32) : entryFrame m #[(.ref a1), (.int p2)] 3 = mkF m 0 #[oR a1, oI p2, oU] [] := by first | (simp [entryFrame, mkF, argsToLocals, Value.category]; done) | rfl
def Q_rmEnG (Z : State) (a1 : Addr) (p2 : Int32) (ct : Int32) (va : Addr) (kd : ClassId) (vd : List Value) (h0 : Heap) (n0 : Nat) (v : Option Value) (h : Heap) (L : List Loc) : Prop := ∃ b : Addr, ∃ kb : ClassId, (v = none) ∧ (Fr n0 L) ∧ (Keep h0 h [a1]) ∧ (h0.size ≤ b) ∧ (Exa Z h b "[B") ∧ (Fld Z h a1 "java/lang/AbstractStringBuilder" "value" "[B" (.ref b)) ∧ (Fld Z h a1 "java/lang/AbstractStringBuilder" "coder" "B" (.int (0 : Int32))) ∧ (Fld Z h a1 "java/lang/AbstractStringBuilder" "count" "I" (.int ct)) ∧ (Arv Z h b kb .byte p2 (own_cp own_z64 vd (0 : Int32) (16 : Int32)) (.int (0 : Int32)))
set_option maxRecDepth 65536 in
set_option maxHeartbeats 40000000 in
theorem rmEnG (l : Launch) (Z : State) (a0 : Array Value) (hw : ∀ d ∈ tables_1, d.before a0 Z = true) (ws : List Jvm.Cond) (a1 : Addr) (p2 : Int32) (ct : Int32) (va : Addr) (kd : ClassId) (vd : List Value) (h0 : Heap) (n0 : Nat) (Z0 : n0 ≤ h0.size) (g_a1 : n0 ≤ a1) (P1 : Exa Z h0 a1 "java/lang/StringBuilder") (P2 : Fld Z h0 a1 "java/lang/AbstractStringBuilder" "value" "[B" (.ref va)) (P3 : Fld Z h0 a1 "java/lang/AbstractStringBuilder" "coder" "B" (.int (0 : Int32))) (P4 : Fld Z h0 a1 "java/lang/AbstractStringBuilder" "count" "I" (.int ct)) (P5 : Arv Z h0 va kd .byte (16 : Int32) vd (.int (0 : Int32))) (hp2 : p2 = (34 : Int32) ∨ p2 = (35 : Int32) ∨ p2 = (36 : Int32) ∨ p2 = (37 : Int32)) (n1 : a1 ≠ va) :
    MetFree l (⟨"java/lang/AbstractStringBuilder", "ensureCapacityInternal", "(I)V"⟩ : MethodName) (head1 (Jvm.Cond.code (⟨"java/lang/AbstractStringBuilder", "ensureCapacityInternal", "(I)V"⟩ : MethodName) jdk_68_method_9_code 3 none :: ws) ({ frames := 3, cells := 1, slots := 37, locals := 48 } : Room)) (fun a U => a = #[(.ref a1), (.int p2)] ∧ Z.Warmed39 U.vm ∧ U.heap = h0) (fun _ _ _ _ _ => True) (fun _ U o U' => ∃ v L, o = .returned v ∧ Q_rmEnG Z a1 p2 ct va kd vd h0 n0 v U'.heap L ∧ FrameEnd U o U' L ({ frames := 3, cells := 1, slots := 37, locals := 48 } : Room).cells ({ frames := 3, cells := 1, slots := 37, locals := 48 } : Room).slots) := by
  refine MetFree.of_bodySF (plainFor_of_name pn_15) hisR ?_
  intro p e s m args below meth c s₁ Bd hml0 hP hK
  obtain ⟨rfl, hZ, hh⟩ := hP
  have hx := Bd.exec
  have hby := Bd.bytes
  have hml : c.maxLocals = 3 := hml0
  have hown : s.vm.findClass "java/lang/AbstractStringBuilder" = some m.cls := findClass_of_methodNamed Bd.named
  have hnm := (name_of_methodNamed Bd.named Bd.method).1
  have hlk := Bd.notSynchronized
  have X0 : Stand p l e ({ frames := 3, cells := 1, slots := 37, locals := 48 } : Room) s m #[(.ref a1), (.int p2)] below meth c s₁ [] 0 0 := Stand.of_body Bd
  have e0 : s₁.heap = h0 := by rw [← hh, Bd.state]; rfl
  have N0 := Fr.nil n0
  refine Wp.goal (Post := (fun o U' => ∃ v L, o = .returned v ∧ Q_rmEnG Z a1 p2 ct va kd vd h0 n0 v U'.heap L ∧ FrameEnd s o U' L ({ frames := 3, cells := 1, slots := 37, locals := 48 } : Room).cells ({ frames := 3, cells := 1, slots := 37, locals := 48 } : Room).slots)) (Wp.st (S' := s₁.setTop (mkF m 0 #[oR a1, oI p2, oU] [])) (fun tt_ kk_ => castTop (ef_rmEnG m a1 p2 ) kk_) ?_)
  refine Wp.st (S' := s₁.setTop (mkF m 1 #[oR a1, oI p2, oU] [(.ref a1)])) (fun tt_ kk_ => XS.aloadN X0.here hx rfl (hb hby d15_0) rfl rfl kk_) ?_
  obtain ⟨T1, X1, e1, st1⟩ := getF X0 hx hZ hown (host := "") (Or.inl (hw _ (List.mem_of_getElem? (i := 57) rfl))) Via.refl e0 P2 (g := (mkF m 1 #[oR a1, oI p2, oU] [(.ref a1)])) rfl rfl (hb hby d15_1)
  refine Wp.st (S' := T1.setTop (mkF m 4 #[oR a1, oI p2, oU] [(.ref va)])) st1 ?_
  obtain ⟨cl2, Ar2, q2, S2, N2, H2, G2⟩ := id P5
  refine Wp.st (S' := T1.setTop (mkF m 5 #[oR a1, oI p2, oU] [(.int (16 : Int32))])) (fun tt_ kk_ => X1.arraylength hx (by rw [e1]; exact Ar2.1) (State.isArrayOf_alike hZ.alike Ar2.2.1) (g := (mkF m 4 #[oR a1, oI p2, oU] [(.ref va)])) rfl rfl (hb hby d15_4) tt_ (by rw [len_of S2 N2]; exact kk_)) ?_
  refine Wp.st (S' := T1.setTop (mkF m 6 #[oR a1, oI p2, oU] [(.ref a1), (.int (16 : Int32))])) (fun tt_ kk_ => XS.aloadN X1.here hx rfl (hb hby d15_5) rfl rfl kk_) ?_
  obtain ⟨T3, X3, e3, st3⟩ := getF X1 hx hZ hown (host := "") (Or.inl (hw _ (List.mem_of_getElem? (i := 59) rfl))) Via.refl e1 P3 (g := (mkF m 6 #[oR a1, oI p2, oU] [(.ref a1), (.int (16 : Int32))])) rfl rfl (hb hby d15_6)
  refine Wp.st (S' := T3.setTop (mkF m 9 #[oR a1, oI p2, oU] [(.int (0 : Int32)), (.int (16 : Int32))])) st3 ?_
  refine Wp.st (S' := T3.setTop (mkF m 10 #[oR a1, oI p2, oU] [(.int ((16 : Int32) >>> ((0 : Int32) &&& 31)))])) (fun tt_ kk_ => XS.ishr X3.here hx rfl (hb hby d15_9) rfl kk_) ?_
  rw [(own_shr0 16 : ((16 : Int32) >>> ((0 : Int32) &&& 31)) = (16 : Int32))]
  refine Wp.st (S' := T3.setTop (mkF m 11 #[oR a1, oI p2, oI (16 : Int32)] [])) (fun tt_ kk_ => XS.istoreN X3.here hx rfl (hb hby d15_10) rfl (l' := #[oR a1, oI p2, oI (16 : Int32)]) rfl kk_) ?_
  refine Wp.st (S' := T3.setTop (mkF m 12 #[oR a1, oI p2, oI (16 : Int32)] [(.int p2)])) (fun tt_ kk_ => XS.iloadN X3.here hx rfl (hb hby d15_11) rfl  kk_) ?_
  refine Wp.st (S' := T3.setTop (mkF m 13 #[oR a1, oI p2, oI (16 : Int32)] [(.int (16 : Int32)), (.int p2)])) (fun tt_ kk_ => XS.iloadN X3.here hx rfl (hb hby d15_12) rfl  kk_) ?_
  refine Wp.st (S' := T3.setTop (mkF m 14 #[oR a1, oI p2, oI (16 : Int32)] [(.int (p2 - (16 : Int32)))])) (fun tt_ kk_ => XS.isub X3.here hx rfl (hb hby d15_13) rfl kk_) ?_
  refine Wp.st (S' := T3.setTop (mkF m 17 #[oR a1, oI p2, oI (16 : Int32)] [])) (fun tt_ kk_ => XS.ifNo X3.here hx rfl (hb hby d15_14) rfl ((if0 _ _).trans (tlt ((by rcases hp2 with rfl | rfl | rfl | rfl <;> decide) : (0 : Int32) < (p2 - (16 : Int32)))).2.2.2) kk_) ?_
  refine Wp.st (S' := T3.setTop (mkF m 18 #[oR a1, oI p2, oI (16 : Int32)] [(.ref a1)])) (fun tt_ kk_ => XS.aloadN X3.here hx rfl (hb hby d15_17) rfl rfl kk_) ?_
  refine Wp.st (S' := T3.setTop (mkF m 19 #[oR a1, oI p2, oI (16 : Int32)] [(.ref a1), (.ref a1)])) (fun tt_ kk_ => XS.aloadN X3.here hx rfl (hb hby d15_18) rfl rfl kk_) ?_
  obtain ⟨T4, X4, e4, st4⟩ := getF X3 hx hZ hown (host := "") (Or.inl (hw _ (List.mem_of_getElem? (i := 57) rfl))) Via.refl e3 P2 (g := (mkF m 19 #[oR a1, oI p2, oI (16 : Int32)] [(.ref a1), (.ref a1)])) rfl rfl (hb hby d15_19)
  refine Wp.st (S' := T4.setTop (mkF m 22 #[oR a1, oI p2, oI (16 : Int32)] [(.ref va), (.ref a1)])) st4 ?_
  refine Wp.st (S' := T4.setTop (mkF m 23 #[oR a1, oI p2, oI (16 : Int32)] [(.ref a1), (.ref va), (.ref a1)])) (fun tt_ kk_ => XS.aloadN X4.here hx rfl (hb hby d15_22) rfl rfl kk_) ?_
  refine Wp.st (S' := T4.setTop (mkF m 24 #[oR a1, oI p2, oI (16 : Int32)] [(.int p2), (.ref a1), (.ref va), (.ref a1)])) (fun tt_ kk_ => XS.iloadN X4.here hx rfl (hb hby d15_23) rfl  kk_) ?_
  obtain ⟨cq5, q5, q5'⟩ := (P1).cell
  obtain ⟨vv5, _, ⟨T5, L5, k5, n5⟩, -, X5, ⟨Lc5, hQ5, l5, y5, z5⟩, st5⟩ := X4.privateBack hx (y := (⟨"java/lang/AbstractStringBuilder", "newCapacity", "(I)I"⟩ : MethodName)) hown (mvT hZ (hw _ (List.mem_of_getElem? (i := 110) rfl))) (mvT hZ (hw _ (List.mem_of_getElem? (i := 111) rfl))) (mvT hZ (own_selP (hw _ (List.mem_of_getElem? (i := 87) rfl)) (hw _ (List.mem_of_getElem? (i := 111) rfl)) (hw _ (List.mem_of_getElem? (i := 112) rfl)))) (Cond.privateMethod_at (mvP hZ (hw _ (List.mem_of_getElem? (i := 112) rfl)) (args := #[]))) (mvT hZ (hw _ (List.mem_of_getElem? (i := 114) rfl))) (by decide) (backOf (W := 2) (rm19 l Z a0 hw [] a1 p2 va kd vd h0 n0 Z0 P2 P3 P5 ((by assumption) : p2 = (34 : Int32) ∨ p2 = (35 : Int32) ∨ p2 = (36 : Int32) ∨ p2 = (37 : Int32))) hZ (hw _ (List.mem_of_getElem? (i := 114) rfl)) (hw _ (List.mem_of_getElem? (i := 53) rfl)) (by decide) (by decide)) (g := (mkF m 24 #[oR a1, oI p2, oI (16 : Int32)] [(.int p2), (.ref a1), (.ref va), (.ref a1)])) rfl (by rw [hml]; rfl) (Steps.refl _) (a := a1) (by rw [e4]; exact q5) q5' (argsL := [(.int p2)]) (rest := [(.ref va), (.ref a1)]) (lenOf pd_5 rfl) rfl (by show 2 * 0 + _ ≤ _; exact Nat.le_of_eq rfl) (hb hby d15_24) (fun _ _ => ⟨rfl, e4, (by decide : 0 + 0 ≤ _), (by decide : 0 + 0 ≤ _)⟩)
  dsimp only [Pt.U, Pt.locs, Pt.cells, Pt.slots] at X5 l5 y5 z5 st5 hQ5
  subst l5 y5 z5
  obtain ⟨rfl, Nq5, e5⟩ := hQ5
  have N5 := Fr.app N0 Nq5
  refine Wp.tr (S' := T5.setTop (mkF m 27 #[oR a1, oI p2, oI (16 : Int32)] [(.int p2), (.ref va), (.ref a1)])) st5 ?_
  refine Wp.st (S' := T5.setTop (mkF m 28 #[oR a1, oI p2, oI (16 : Int32)] [(.ref a1), (.int p2), (.ref va), (.ref a1)])) (fun tt_ kk_ => XS.aloadN X5.here hx rfl (hb hby d15_27) rfl rfl kk_) ?_
  obtain ⟨T6, X6, e6, st6⟩ := getF X5 hx hZ hown (host := "") (Or.inl (hw _ (List.mem_of_getElem? (i := 59) rfl))) Via.refl e5 P3 (g := (mkF m 28 #[oR a1, oI p2, oI (16 : Int32)] [(.ref a1), (.int p2), (.ref va), (.ref a1)])) rfl rfl (hb hby d15_28)
  refine Wp.st (S' := T6.setTop (mkF m 31 #[oR a1, oI p2, oI (16 : Int32)] [(.int (0 : Int32)), (.int p2), (.ref va), (.ref a1)])) st6 ?_
  refine Wp.st (S' := T6.setTop (mkF m 32 #[oR a1, oI p2, oI (16 : Int32)] [(.int (p2 <<< ((0 : Int32) &&& 31))), (.ref va), (.ref a1)])) (fun tt_ kk_ => XS.ishl X6.here hx rfl (hb hby d15_31) rfl kk_) ?_
  rw [(own_shl0 p2 : (p2 <<< ((0 : Int32) &&& 31)) = p2)]
  obtain ⟨vv7, _, ⟨T7, L7, k7, n7⟩, -, X7, ⟨Lc7, hQ7, l7, y7, z7⟩, st7⟩ := Jvm.LawKit.callS X6 hx (y := (⟨"java/util/Arrays", "copyOf", "([BI)[B"⟩ : MethodName)) hown (mvT hZ (hw _ (List.mem_of_getElem? (i := 125) rfl))) (mvT hZ (hw _ (List.mem_of_getElem? (i := 126) rfl))) (mvT hZ (hw _ (List.mem_of_getElem? (i := 127) rfl))) (mvT hZ (hw _ (List.mem_of_getElem? (i := 128) rfl))) (by decide) (backOf (W := 1) (rm22 l Z a0 hw [] va p2 kd vd h0 n0 Z0 P5 ((by assumption) : p2 = (34 : Int32) ∨ p2 = (35 : Int32) ∨ p2 = (36 : Int32) ∨ p2 = (37 : Int32))) hZ (hw _ (List.mem_of_getElem? (i := 128) rfl)) (hw _ (List.mem_of_getElem? (i := 127) rfl)) (by decide) (by decide)) (g := (mkF m 32 #[oR a1, oI p2, oI (16 : Int32)] [(.int p2), (.ref va), (.ref a1)])) rfl (by rw [hml]; rfl) (argsL := [(.ref va), (.int p2)]) (rest := [(.ref a1)]) (lenOf pd_6 rfl) rfl (by show 2 * 0 + _ ≤ _; exact Nat.le_of_eq rfl) (hb hby d15_32) (fun _ _ => ⟨rfl, e6, (by decide : 0 + 1 ≤ _), (by decide : 0 + 37 ≤ _)⟩)
  dsimp only [Pt.U, Pt.locs, Pt.cells, Pt.slots] at X7 l7 y7 z7 st7 hQ7
  subst l7 y7 z7
  obtain ⟨b8, c9, rfl, Nq7, K7, P7_0, P7_1, P7_2⟩ := hQ7
  have N7 := Fr.app N5 Nq7
  have z10 := K7.1
  have g11 : n0 ≤ b8 := Nat.le_trans (Nat.le_trans Z0 (Nat.le_refl _)) P7_0
  have e7 : T7.heap = T7.heap := rfl
  refine Wp.st (S' := T7.setTop (mkF m 35 #[oR a1, oI p2, oI (16 : Int32)] [(.ref b8), (.ref a1)])) st7 ?_
  have F13 := P2.keep K7 nin0
  have F14 := P1.keep K7
  obtain ⟨T12, h12, X12, e12, W12, st12⟩ := putF X7 hx hZ hown (host := "") (Or.inl (hw _ (List.mem_of_getElem? (i := 57) rfl))) Via.refl e7 F13 F14 (Or.inl (hw _ (List.mem_of_getElem? (i := 58) rfl))) (hw _ (List.mem_of_getElem? (i := 44) rfl)) (ty := (.array .byte)) (by decide) rfl rfl (g := (mkF m 35 #[oR a1, oI p2, oI (16 : Int32)] [(.ref b8), (.ref a1)])) rfl rfl (hb hby d15_35)
  have z15 := Nat.le_of_eq W12.size.symm
  have Fw12 : Fld Z h12 a1 "java/lang/AbstractStringBuilder" "value" "[B" (.ref b8) := F13.same W12
  have N12 := Fr.snoc X12 N7 g_a1
  refine Wp.st (S' := T12.setTop (mkF m 38 #[oR a1, oI p2, oI (16 : Int32)] [])) st12 ?_
  have K16 := Keep.refl h0 [a1]
  have K17 := K16.trans K7 all0
  have K18 := K17.wr W12 (Or.inl (List.mem_of_getElem? (i := 0) rfl))
  have F19 := P7_1.wr W12
  have F20 := P3.keep K7 nin0
  have F21 := F20.other W12 (Or.inr (slot_ne (Or.inl (hw _ (List.mem_of_getElem? (i := 60) rfl))) (Or.inl (hw _ (List.mem_of_getElem? (i := 58) rfl))) (by decide) (t := .byte) (t' := (.array .byte)) (by decide) (by decide)))
  have F22 := P4.keep K7 nin0
  have F23 := F22.other W12 (Or.inr (slot_ne (Or.inl (hw _ (List.mem_of_getElem? (i := 83) rfl))) (Or.inl (hw _ (List.mem_of_getElem? (i := 58) rfl))) (by decide) (t := .int) (t' := (.array .byte)) (by decide) (by decide)))
  have F24 := P7_2.other W12 (Ne.symm (Nat.ne_of_lt (Nat.lt_of_lt_of_le P1.lt (Nat.le_trans (Nat.le_refl _) P7_0))))
  exact Wp.ret X12 hlk (v := none) (fun _ => rfl) (fun fs hr => X12.returnOut hx Bd.returns (hb hby d15_38) hr) (by decide) (by decide) (show Q_rmEnG Z a1 p2 ct va kd vd h0 n0 _ T12.heap _ by rw [e12]; exact ⟨b8, c9, rfl, N12, K18, (Nat.le_trans (Nat.le_refl _) P7_0), F19, Fw12, F21, F23, F24⟩)
theorem pn_12 : plainName "java/lang/AbstractStringBuilder" = true := by first | (simp [plainName, overriddenIn]; done) | decide +kernel
theorem d12_0 : decode jdk_68_method_22_code 0 = .ok (.aload_n 1, 1) := by decide +kernel
theorem d12_1 : decode jdk_68_method_22_code 1 = .ok (.ifnonnull 8, 3) := by decide +kernel
theorem d12_9 : decode jdk_68_method_22_code 9 = .ok (.aload_n 1, 1) := by decide +kernel
theorem d12_10 : decode jdk_68_method_22_code 10 = .ok (.invokevirtual 32, 3) := by decide +kernel
theorem pd_7 : parseMethodDescriptor "()I" = some ⟨[], some .int⟩ := by decide +kernel
theorem d12_13 : decode jdk_68_method_22_code 13 = .ok (.istore_n 2, 1) := by decide +kernel
theorem d12_14 : decode jdk_68_method_22_code 14 = .ok (.aload_n 0, 1) := by decide +kernel
theorem d12_15 : decode jdk_68_method_22_code 15 = .ok (.aload_n 0, 1) := by decide +kernel
theorem d12_16 : decode jdk_68_method_22_code 16 = .ok (.getfield 79, 3) := by decide +kernel
theorem d12_19 : decode jdk_68_method_22_code 19 = .ok (.iload_n 2, 1) := by decide +kernel
theorem d12_20 : decode jdk_68_method_22_code 20 = .ok (.iadd, 1) := by decide +kernel
theorem d12_21 : decode jdk_68_method_22_code 21 = .ok (.invokevirtual 100, 3) := by decide +kernel
theorem pd_8 : parseMethodDescriptor "(I)V" = some ⟨[.int], none⟩ := by decide +kernel
theorem d12_24 : decode jdk_68_method_22_code 24 = .ok (.aload_n 0, 1) := by decide +kernel
theorem d12_25 : decode jdk_68_method_22_code 25 = .ok (.aload_n 0, 1) := by decide +kernel
theorem d12_26 : decode jdk_68_method_22_code 26 = .ok (.getfield 79, 3) := by decide +kernel
theorem d12_29 : decode jdk_68_method_22_code 29 = .ok (.aload_n 1, 1) := by decide +kernel
theorem d12_30 : decode jdk_68_method_22_code 30 = .ok (.invokevirtual 208, 3) := by decide +kernel
theorem pd_9 : parseMethodDescriptor "(ILjava/lang/String;)V" = some ⟨[.int, (.object "java/lang/String")], none⟩ := by decide +kernel
theorem d12_33 : decode jdk_68_method_22_code 33 = .ok (.aload_n 0, 1) := by decide +kernel
theorem d12_34 : decode jdk_68_method_22_code 34 = .ok (.dup, 1) := by decide +kernel
theorem d12_35 : decode jdk_68_method_22_code 35 = .ok (.getfield 79, 3) := by decide +kernel
theorem d12_38 : decode jdk_68_method_22_code 38 = .ok (.iload_n 2, 1) := by decide +kernel
theorem d12_39 : decode jdk_68_method_22_code 39 = .ok (.iadd, 1) := by decide +kernel
theorem d12_40 : decode jdk_68_method_22_code 40 = .ok (.putfield 79, 3) := by decide +kernel
theorem d12_43 : decode jdk_68_method_22_code 43 = .ok (.aload_n 0, 1) := by decide +kernel
theorem d12_44 : decode jdk_68_method_22_code 44 = .ok (.areturn, 1) := by decide +kernel
theorem ef_rmApAN (m : MethodId) (a1 : Addr) (a2 : Addr) : entryFrame m #[(.ref a1), (.ref a2)] 3 = mkF m 0 #[oR a1, oR a2, oU] [] := by first | (simp [entryFrame, mkF, argsToLocals, Value.category]; done) | rfl
def Q_rmApAN (Z : State) (a1 : Addr) (a2 : Addr) (zcs : Int32) (va : Addr) (ct : Int32) (kd : ClassId) (vd : List Value) (t1 : Addr) (k1 : ClassId) (ln : Int32) (bs : List Value) (h0 : Heap) (n0 : Nat) (v : Option Value) (h : Heap) (L : List Loc) : Prop := (v = some (.ref a1)) ∧ (Fr n0 L) ∧ (Keep h0 h [a1, va]) ∧ (Fld Z h a1 "java/lang/AbstractStringBuilder" "value" "[B" (.ref va)) ∧ (Fld Z h a1 "java/lang/AbstractStringBuilder" "count" "I" (.int (ct + ln))) ∧ (Fld Z h a1 "java/lang/AbstractStringBuilder" "coder" "B" (.int (0 : Int32))) ∧ (Arv Z h va kd .byte (16 : Int32) (own_cp vd bs ct ln) (.int (0 : Int32)))
set_option maxRecDepth 65536 in
set_option maxHeartbeats 40000000 in
theorem rmApAN (l : Launch) (Z : State) (a0 : Array Value) (hw : ∀ d ∈ tables_1, d.before a0 Z = true) (ws : List Jvm.Cond) (a1 : Addr) (a2 : Addr) (zcs : Int32) (va : Addr) (ct : Int32) (kd : ClassId) (vd : List Value) (t1 : Addr) (k1 : ClassId) (ln : Int32) (bs : List Value) (h0 : Heap) (n0 : Nat) (Z0 : n0 ≤ h0.size) (g_a1 : n0 ≤ a1) (g_va : n0 ≤ va) (O0 : Jvm.RoadKit.Old Z n0 h0) (SCompact : Sta Z Z.heap "java/lang/String" "COMPACT_STRINGS" "Z" (.int zcs)) (hCS : ¬ zcs = 0) (P5 : Exa Z h0 a1 "java/lang/StringBuilder") (P6 : Fld Z h0 a1 "java/lang/AbstractStringBuilder" "value" "[B" (.ref va)) (P7 : Fld Z h0 a1 "java/lang/AbstractStringBuilder" "count" "I" (.int ct)) (P8 : Fld Z h0 a1 "java/lang/AbstractStringBuilder" "coder" "B" (.int (0 : Int32))) (P9 : Arv Z h0 va kd .byte (16 : Int32) vd (.int (0 : Int32))) (P10 : Exa Z h0 a2 "java/lang/String") (P11 : Fld Z h0 a2 "java/lang/String" "value" "[B" (.ref t1)) (P12 : Fld Z h0 a2 "java/lang/String" "coder" "B" (.int (0 : Int32))) (P13 : Arv Z h0 t1 k1 .byte ln bs (.int (0 : Int32))) (n1 : a1 ≠ va) (n2 : a1 ≠ a2) (n3 : a1 ≠ t1) (n4 : va ≠ t1) (hng : ¬ (0 : Int32) < ((ct + ln) - (16 : Int32))) (f1 : ¬ ct < 0) (f2 : ¬ ln < 0) (f3 : ct.toNatClampNeg + ln.toNatClampNeg ≤ (16 : Int32).toNatClampNeg) (f4 : ct.toNatClampNeg + ln.toNatClampNeg ≤ vd.length) :
    MetFree l (⟨"java/lang/AbstractStringBuilder", "append", "(Ljava/lang/String;)Ljava/lang/AbstractStringBuilder;"⟩ : MethodName) (head1 (Jvm.Cond.code (⟨"java/lang/AbstractStringBuilder", "append", "(Ljava/lang/String;)Ljava/lang/AbstractStringBuilder;"⟩ : MethodName) jdk_68_method_22_code 3 (some (.object "java/lang/AbstractStringBuilder")) :: ws) ({ frames := 3, cells := 0, slots := 0, locals := 47 } : Room)) (fun a U => a = #[(.ref a1), (.ref a2)] ∧ Z.Warmed39 U.vm ∧ U.heap = h0) (fun _ _ _ _ _ => True) (fun _ U o U' => ∃ v L, o = .returned v ∧ Q_rmApAN Z a1 a2 zcs va ct kd vd t1 k1 ln bs h0 n0 v U'.heap L ∧ FrameEnd U o U' L ({ frames := 3, cells := 0, slots := 0, locals := 47 } : Room).cells ({ frames := 3, cells := 0, slots := 0, locals := 47 } : Room).slots) := by
  refine MetFree.of_bodySF (plainFor_of_name pn_12) hisR ?_
  intro p e s m args below meth c s₁ Bd hml0 hP hK
  obtain ⟨rfl, hZ, hh⟩ := hP
  have hx := Bd.exec
  have hby := Bd.bytes
  have hml : c.maxLocals = 3 := hml0
  have hown : s.vm.findClass "java/lang/AbstractStringBuilder" = some m.cls := findClass_of_methodNamed Bd.named
  have hnm := (name_of_methodNamed Bd.named Bd.method).1
  have hlk := Bd.notSynchronized
  have X0 : Stand p l e ({ frames := 3, cells := 0, slots := 0, locals := 47 } : Room) s m #[(.ref a1), (.ref a2)] below meth c s₁ [] 0 0 := Stand.of_body Bd
  have e0 : s₁.heap = h0 := by rw [← hh, Bd.state]; rfl
  have N0 := Fr.nil n0
  refine Wp.goal (Post := (fun o U' => ∃ v L, o = .returned v ∧ Q_rmApAN Z a1 a2 zcs va ct kd vd t1 k1 ln bs h0 n0 v U'.heap L ∧ FrameEnd s o U' L ({ frames := 3, cells := 0, slots := 0, locals := 47 } : Room).cells ({ frames := 3, cells := 0, slots := 0, locals := 47 } : Room).slots)) (Wp.st (S' := s₁.setTop (mkF m 0 #[oR a1, oR a2, oU] [])) (fun tt_ kk_ => castTop (ef_rmApAN m a1 a2 ) kk_) ?_)
  refine Wp.st (S' := s₁.setTop (mkF m 1 #[oR a1, oR a2, oU] [(.ref a2)])) (fun tt_ kk_ => XS.aloadN X0.here hx rfl (hb hby d12_0) rfl rfl kk_) ?_
  refine Wp.st (S' := s₁.setTop (mkF m 9 #[oR a1, oR a2, oU] [])) (fun tt_ kk_ => XS.ifnonnullYes X0.here hx rfl (pc0 := 1) (pc' := 9) rfl (hb hby d12_1) rfl (by decide) (by decide) kk_) ?_
  refine Wp.st (S' := s₁.setTop (mkF m 10 #[oR a1, oR a2, oU] [(.ref a2)])) (fun tt_ kk_ => XS.aloadN X0.here hx rfl (hb hby d12_9) rfl rfl kk_) ?_
  obtain ⟨cq1, kq1, q1a, q1b, q1c⟩ := isOf hZ e0 P10
  obtain ⟨vv1, _, ⟨T1, L1, k1, n1⟩, -, X1, ⟨Lc1, hQ1, l1, y1, z1⟩, st1⟩ := X0.virtualBack hx (y := (⟨"java/lang/String", "length", "()I"⟩ : MethodName)) (z := (⟨"java/lang/String", "length", "()I"⟩ : MethodName)) hown (mvT hZ (hw _ (List.mem_of_getElem? (i := 72) rfl))) (mvT hZ (hw _ (List.mem_of_getElem? (i := 73) rfl))) (notFace_of_selects (args := #[]) (mvT hZ (hw _ (List.mem_of_getElem? (i := 75) rfl)))) (mvT hZ (hw _ (List.mem_of_getElem? (i := 75) rfl))) (mvT hZ (hw _ (List.mem_of_getElem? (i := 74) rfl))) (by decide) (backOf (W := 0) (rm13 l Z a0 hw [] a2 zcs t1 k1 ln bs h0 n0 Z0 O0 SCompact (hCS : ¬ zcs = 0) P10 P11 P12 P13) hZ (hw _ (List.mem_of_getElem? (i := 76) rfl)) (hw _ (List.mem_of_getElem? (i := 7) rfl)) (by decide) (by decide)) q1a q1c (g := (mkF m 10 #[oR a1, oR a2, oU] [(.ref a2)])) rfl (by rw [hml]; rfl) (Steps.refl _) (argsL := []) (rest := []) (lenOf pd_7 rfl) rfl (by show 2 * 0 + _ ≤ _; exact Nat.le_of_eq rfl) (hb hby d12_10) (fun _ _ => ⟨rfl, e0, (by decide : 0 + 0 ≤ _), (by decide : 0 + 0 ≤ _)⟩)
  dsimp only [Pt.U, Pt.locs, Pt.cells, Pt.slots] at X1 l1 y1 z1 st1 hQ1
  subst l1 y1 z1
  obtain ⟨rfl, Nq1, e1⟩ := hQ1
  have N1 := Fr.app N0 Nq1
  refine Wp.tr (S' := T1.setTop (mkF m 13 #[oR a1, oR a2, oU] [(.int ln)])) st1 ?_
  refine Wp.st (S' := T1.setTop (mkF m 14 #[oR a1, oR a2, oI ln] [])) (fun tt_ kk_ => XS.istoreN X1.here hx rfl (hb hby d12_13) rfl (l' := #[oR a1, oR a2, oI ln]) rfl kk_) ?_
  refine Wp.st (S' := T1.setTop (mkF m 15 #[oR a1, oR a2, oI ln] [(.ref a1)])) (fun tt_ kk_ => XS.aloadN X1.here hx rfl (hb hby d12_14) rfl rfl kk_) ?_
  refine Wp.st (S' := T1.setTop (mkF m 16 #[oR a1, oR a2, oI ln] [(.ref a1), (.ref a1)])) (fun tt_ kk_ => XS.aloadN X1.here hx rfl (hb hby d12_15) rfl rfl kk_) ?_
  obtain ⟨T2, X2, e2, st2⟩ := getF X1 hx hZ hown (host := "") (Or.inl (hw _ (List.mem_of_getElem? (i := 82) rfl))) Via.refl e1 P7 (g := (mkF m 16 #[oR a1, oR a2, oI ln] [(.ref a1), (.ref a1)])) rfl rfl (hb hby d12_16)
  refine Wp.st (S' := T2.setTop (mkF m 19 #[oR a1, oR a2, oI ln] [(.int ct), (.ref a1)])) st2 ?_
  refine Wp.st (S' := T2.setTop (mkF m 20 #[oR a1, oR a2, oI ln] [(.int ln), (.int ct), (.ref a1)])) (fun tt_ kk_ => XS.iloadN X2.here hx rfl (hb hby d12_19) rfl  kk_) ?_
  refine Wp.st (S' := T2.setTop (mkF m 21 #[oR a1, oR a2, oI ln] [(.int (ct + ln)), (.ref a1)])) (fun tt_ kk_ => XS.iadd X2.here hx rfl (hb hby d12_20) rfl kk_) ?_
  obtain ⟨cq3, q3, q3'⟩ := (P5).cell
  obtain ⟨vv3, _, ⟨T3, L3, k3, n3⟩, -, X3, ⟨Lc3, hQ3, l3, y3, z3⟩, st3⟩ := X2.privateBack hx (y := (⟨"java/lang/AbstractStringBuilder", "ensureCapacityInternal", "(I)V"⟩ : MethodName)) hown (mvT hZ (hw _ (List.mem_of_getElem? (i := 84) rfl))) (mvT hZ (hw _ (List.mem_of_getElem? (i := 85) rfl))) (mvT hZ (own_selP (hw _ (List.mem_of_getElem? (i := 87) rfl)) (hw _ (List.mem_of_getElem? (i := 85) rfl)) (hw _ (List.mem_of_getElem? (i := 86) rfl)))) (Cond.privateMethod_at (mvP hZ (hw _ (List.mem_of_getElem? (i := 86) rfl)) (args := #[]))) (mvT hZ (hw _ (List.mem_of_getElem? (i := 88) rfl))) (by decide) (backOf (W := 0) (rmEnN l Z a0 hw [] a1 (ct + ln) va kd vd h0 n0 Z0 P6 P8 P9 ((by assumption) : ¬ (0 : Int32) < ((ct + ln) - (16 : Int32)))) hZ (hw _ (List.mem_of_getElem? (i := 88) rfl)) (hw _ (List.mem_of_getElem? (i := 53) rfl)) (by decide) (by decide)) (g := (mkF m 21 #[oR a1, oR a2, oI ln] [(.int (ct + ln)), (.ref a1)])) rfl (by rw [hml]; rfl) (Steps.refl _) (a := a1) (by rw [e2]; exact q3) q3' (argsL := [(.int (ct + ln))]) (rest := []) (lenOf pd_8 rfl) rfl (by show 2 * 0 + _ ≤ _; exact Nat.le_of_eq rfl) (hb hby d12_21) (fun _ _ => ⟨rfl, e2, (by decide : 0 + 0 ≤ _), (by decide : 0 + 0 ≤ _)⟩)
  dsimp only [Pt.U, Pt.locs, Pt.cells, Pt.slots] at X3 l3 y3 z3 st3 hQ3
  subst l3 y3 z3
  obtain ⟨rfl, Nq3, e3⟩ := hQ3
  have N3 := Fr.app N1 Nq3
  refine Wp.tr (S' := T3.setTop (mkF m 24 #[oR a1, oR a2, oI ln] [])) st3 ?_
  refine Wp.st (S' := T3.setTop (mkF m 25 #[oR a1, oR a2, oI ln] [(.ref a1)])) (fun tt_ kk_ => XS.aloadN X3.here hx rfl (hb hby d12_24) rfl rfl kk_) ?_
  refine Wp.st (S' := T3.setTop (mkF m 26 #[oR a1, oR a2, oI ln] [(.ref a1), (.ref a1)])) (fun tt_ kk_ => XS.aloadN X3.here hx rfl (hb hby d12_25) rfl rfl kk_) ?_
  obtain ⟨T4, X4, e4, st4⟩ := getF X3 hx hZ hown (host := "") (Or.inl (hw _ (List.mem_of_getElem? (i := 82) rfl))) Via.refl e3 P7 (g := (mkF m 26 #[oR a1, oR a2, oI ln] [(.ref a1), (.ref a1)])) rfl rfl (hb hby d12_26)
  refine Wp.st (S' := T4.setTop (mkF m 29 #[oR a1, oR a2, oI ln] [(.int ct), (.ref a1)])) st4 ?_
  refine Wp.st (S' := T4.setTop (mkF m 30 #[oR a1, oR a2, oI ln] [(.ref a2), (.int ct), (.ref a1)])) (fun tt_ kk_ => XS.aloadN X4.here hx rfl (hb hby d12_29) rfl rfl kk_) ?_
  obtain ⟨cq5, q5, q5'⟩ := (P5).cell
  obtain ⟨vv5, _, ⟨T5, L5, k5, n5⟩, -, X5, ⟨Lc5, hQ5, l5, y5, z5⟩, st5⟩ := X4.privateBack hx (y := (⟨"java/lang/AbstractStringBuilder", "putStringAt", "(ILjava/lang/String;)V"⟩ : MethodName)) hown (mvT hZ (hw _ (List.mem_of_getElem? (i := 89) rfl))) (mvT hZ (hw _ (List.mem_of_getElem? (i := 90) rfl))) (mvT hZ (own_selP (hw _ (List.mem_of_getElem? (i := 87) rfl)) (hw _ (List.mem_of_getElem? (i := 90) rfl)) (hw _ (List.mem_of_getElem? (i := 91) rfl)))) (Cond.privateMethod_at (mvP hZ (hw _ (List.mem_of_getElem? (i := 91) rfl)) (args := #[]))) (mvT hZ (hw _ (List.mem_of_getElem? (i := 93) rfl))) (by decide) (backOf (W := 0) (rm16 l Z a0 hw [] a1 ct a2 zcs va kd (16 : Int32) vd t1 k1 ln bs h0 n0 Z0 g_va O0 SCompact (hCS : ¬ zcs = 0) P5 P6 P8 P9 P10 P11 P12 P13 ((by assumption) : ¬ ct < 0) ((by assumption) : ¬ ln < 0) ((by assumption) : ct.toNatClampNeg + ln.toNatClampNeg ≤ (16 : Int32).toNatClampNeg) ((by assumption) : ct.toNatClampNeg + ln.toNatClampNeg ≤ vd.length)) hZ (hw _ (List.mem_of_getElem? (i := 93) rfl)) (hw _ (List.mem_of_getElem? (i := 53) rfl)) (by decide) (by decide)) (g := (mkF m 30 #[oR a1, oR a2, oI ln] [(.ref a2), (.int ct), (.ref a1)])) rfl (by rw [hml]; rfl) (Steps.refl _) (a := a1) (by rw [e4]; exact q5) q5' (argsL := [(.int ct), (.ref a2)]) (rest := []) (lenOf pd_9 rfl) rfl (by show 2 * 0 + _ ≤ _; exact Nat.le_of_eq rfl) (hb hby d12_30) (fun _ _ => ⟨rfl, e4, (by decide : 0 + 0 ≤ _), (by decide : 0 + 0 ≤ _)⟩)
  dsimp only [Pt.U, Pt.locs, Pt.cells, Pt.slots] at X5 l5 y5 z5 st5 hQ5
  subst l5 y5 z5
  obtain ⟨rfl, Nq5, K5, P5_0⟩ := hQ5
  have N5 := Fr.app N3 Nq5
  have z6 := K5.1
  have e5 : T5.heap = T5.heap := rfl
  refine Wp.tr (S' := T5.setTop (mkF m 33 #[oR a1, oR a2, oI ln] [])) st5 ?_
  refine Wp.st (S' := T5.setTop (mkF m 34 #[oR a1, oR a2, oI ln] [(.ref a1)])) (fun tt_ kk_ => XS.aloadN X5.here hx rfl (hb hby d12_33) rfl rfl kk_) ?_
  refine Wp.st (S' := T5.setTop (mkF m 35 #[oR a1, oR a2, oI ln] [(.ref a1), (.ref a1)])) (fun tt_ kk_ => XS.dup X5.here hx rfl (hb hby d12_34) rfl rfl kk_) ?_
  have F7 := P7.keep K5 (ninS n1 nin0)
  obtain ⟨T8, X8, e8, st8⟩ := getF X5 hx hZ hown (host := "") (Or.inl (hw _ (List.mem_of_getElem? (i := 82) rfl))) Via.refl e5 F7 (g := (mkF m 35 #[oR a1, oR a2, oI ln] [(.ref a1), (.ref a1)])) rfl rfl (hb hby d12_35)
  refine Wp.st (S' := T8.setTop (mkF m 38 #[oR a1, oR a2, oI ln] [(.int ct), (.ref a1)])) st8 ?_
  refine Wp.st (S' := T8.setTop (mkF m 39 #[oR a1, oR a2, oI ln] [(.int ln), (.int ct), (.ref a1)])) (fun tt_ kk_ => XS.iloadN X8.here hx rfl (hb hby d12_38) rfl  kk_) ?_
  refine Wp.st (S' := T8.setTop (mkF m 40 #[oR a1, oR a2, oI ln] [(.int (ct + ln)), (.ref a1)])) (fun tt_ kk_ => XS.iadd X8.here hx rfl (hb hby d12_39) rfl kk_) ?_
  have F10 := P5.keep K5
  obtain ⟨T9, h9, X9, e9, W9, st9⟩ := putF X8 hx hZ hown (host := "") (Or.inl (hw _ (List.mem_of_getElem? (i := 82) rfl))) Via.refl e8 F7 F10 (Or.inl (hw _ (List.mem_of_getElem? (i := 83) rfl))) (hw _ (List.mem_of_getElem? (i := 44) rfl)) (ty := .int) (by decide) rfl rfl (g := (mkF m 40 #[oR a1, oR a2, oI ln] [(.int (ct + ln)), (.ref a1)])) rfl rfl (hb hby d12_40)
  have z11 := Nat.le_of_eq W9.size.symm
  have Fw9 : Fld Z h9 a1 "java/lang/AbstractStringBuilder" "count" "I" (.int (ct + ln)) := F7.same W9
  have N9 := Fr.snoc X9 N5 g_a1
  refine Wp.st (S' := T9.setTop (mkF m 43 #[oR a1, oR a2, oI ln] [])) st9 ?_
  refine Wp.st (S' := T9.setTop (mkF m 44 #[oR a1, oR a2, oI ln] [(.ref a1)])) (fun tt_ kk_ => XS.aloadN X9.here hx rfl (hb hby d12_43) rfl rfl kk_) ?_
  have K12 := Keep.refl h0 [a1, va]
  have K13 := K12.trans K5 (allS (Or.inl (List.mem_of_getElem? (i := 1) rfl)) all0)
  have K14 := K13.wr W9 (Or.inl (List.mem_of_getElem? (i := 0) rfl))
  have F15 := P6.keep K5 (ninS n1 nin0)
  have F16 := F15.other W9 (Or.inr (slot_ne (Or.inl (hw _ (List.mem_of_getElem? (i := 58) rfl))) (Or.inl (hw _ (List.mem_of_getElem? (i := 83) rfl))) (by decide) (t := (.array .byte)) (t' := .int) (by decide) (by decide)))
  have F17 := P8.keep K5 (ninS n1 nin0)
  have F18 := F17.other W9 (Or.inr (slot_ne (Or.inl (hw _ (List.mem_of_getElem? (i := 60) rfl))) (Or.inl (hw _ (List.mem_of_getElem? (i := 83) rfl))) (by decide) (t := .byte) (t' := .int) (by decide) (by decide)))
  have F19 := P5_0.other W9 (Ne.symm n1)
  exact Wp.ret X9 hlk (v := (some (.ref a1))) (fun h => by rw [Bd.returns] at h; cases h) (fun fs hr => retOut X9 hx Bd.returns rfl (Or.inr (Or.inr (Or.inr (Or.inr ⟨rfl, rfl, rfl⟩)))) (hb hby d12_44) hr) (by decide) (by decide) (show Q_rmApAN Z a1 a2 zcs va ct kd vd t1 k1 ln bs h0 n0 _ T9.heap _ by rw [e9]; exact ⟨rfl, N9, K14, F16, Fw9, F18, F19⟩)
theorem pn_11 : plainName "java/lang/StringBuilder" = true := by first | (simp [plainName, overriddenIn]; done) | decide +kernel
theorem d11_0 : decode jdk_67_method_7_code 0 = .ok (.aload_n 0, 1) := by decide +kernel
theorem d11_1 : decode jdk_67_method_7_code 1 = .ok (.aload_n 1, 1) := by decide +kernel
theorem d11_2 : decode jdk_67_method_7_code 2 = .ok (.invokespecial 29, 3) := by decide +kernel
theorem pd_10 : parseMethodDescriptor "(Ljava/lang/String;)Ljava/lang/AbstractStringBuilder;" = some ⟨[(.object "java/lang/String")], some (.object "java/lang/AbstractStringBuilder")⟩ := by decide +kernel
theorem d11_5 : decode jdk_67_method_7_code 5 = .ok (.pop, 1) := by decide +kernel
theorem d11_6 : decode jdk_67_method_7_code 6 = .ok (.aload_n 0, 1) := by decide +kernel
theorem d11_7 : decode jdk_67_method_7_code 7 = .ok (.areturn, 1) := by decide +kernel
theorem ef_rmApSN (m : MethodId) (a1 : Addr) (a2 : Addr) : entryFrame m #[(.ref a1), (.ref a2)] 2 = mkF m 0 #[oR a1, oR a2] [] := by first | (simp [entryFrame, mkF, argsToLocals, Value.category]; done) | rfl
def Q_rmApSN (Z : State) (a1 : Addr) (a2 : Addr) (zcs : Int32) (va : Addr) (ct : Int32) (kd : ClassId) (vd : List Value) (t1 : Addr) (k1 : ClassId) (ln : Int32) (bs : List Value) (h0 : Heap) (n0 : Nat) (v : Option Value) (h : Heap) (L : List Loc) : Prop := (v = some (.ref a1)) ∧ (Fr n0 L) ∧ (Keep h0 h [a1, va]) ∧ (Fld Z h a1 "java/lang/AbstractStringBuilder" "value" "[B" (.ref va)) ∧ (Fld Z h a1 "java/lang/AbstractStringBuilder" "count" "I" (.int (ct + ln))) ∧ (Fld Z h a1 "java/lang/AbstractStringBuilder" "coder" "B" (.int (0 : Int32))) ∧ (Arv Z h va kd .byte (16 : Int32) (own_cp vd bs ct ln) (.int (0 : Int32)))
set_option maxRecDepth 65536 in
set_option maxHeartbeats 40000000 in
theorem rmApSN (l : Launch) (Z : State) (a0 : Array Value) (hw : ∀ d ∈ tables_1, d.before a0 Z = true) (ws : List Jvm.Cond) (a1 : Addr) (a2 : Addr) (zcs : Int32) (va : Addr) (ct : Int32) (kd : ClassId) (vd : List Value) (t1 : Addr) (k1 : ClassId) (ln : Int32) (bs : List Value) (h0 : Heap) (n0 : Nat) (Z0 : n0 ≤ h0.size) (g_a1 : n0 ≤ a1) (g_va : n0 ≤ va) (O0 : Jvm.RoadKit.Old Z n0 h0) (SCompact : Sta Z Z.heap "java/lang/String" "COMPACT_STRINGS" "Z" (.int zcs)) (hCS : ¬ zcs = 0) (P5 : Exa Z h0 a1 "java/lang/StringBuilder") (P6 : Fld Z h0 a1 "java/lang/AbstractStringBuilder" "value" "[B" (.ref va)) (P7 : Fld Z h0 a1 "java/lang/AbstractStringBuilder" "count" "I" (.int ct)) (P8 : Fld Z h0 a1 "java/lang/AbstractStringBuilder" "coder" "B" (.int (0 : Int32))) (P9 : Arv Z h0 va kd .byte (16 : Int32) vd (.int (0 : Int32))) (P10 : Exa Z h0 a2 "java/lang/String") (P11 : Fld Z h0 a2 "java/lang/String" "value" "[B" (.ref t1)) (P12 : Fld Z h0 a2 "java/lang/String" "coder" "B" (.int (0 : Int32))) (P13 : Arv Z h0 t1 k1 .byte ln bs (.int (0 : Int32))) (n1 : a1 ≠ va) (n2 : a1 ≠ a2) (n3 : a1 ≠ t1) (n4 : va ≠ t1) (hng : ¬ (0 : Int32) < ((ct + ln) - (16 : Int32))) (f1 : ¬ ct < 0) (f2 : ¬ ln < 0) (f3 : ct.toNatClampNeg + ln.toNatClampNeg ≤ (16 : Int32).toNatClampNeg) (f4 : ct.toNatClampNeg + ln.toNatClampNeg ≤ vd.length) :
    MetFree l (⟨"java/lang/StringBuilder", "append", "(Ljava/lang/String;)Ljava/lang/StringBuilder;"⟩ : MethodName) (head1 (Jvm.Cond.code (⟨"java/lang/StringBuilder", "append", "(Ljava/lang/String;)Ljava/lang/StringBuilder;"⟩ : MethodName) jdk_67_method_7_code 2 (some (.object "java/lang/StringBuilder")) :: ws) ({ frames := 4, cells := 0, slots := 0, locals := 61 } : Room)) (fun a U => a = #[(.ref a1), (.ref a2)] ∧ Z.Warmed39 U.vm ∧ U.heap = h0) (fun _ _ _ _ _ => True) (fun _ U o U' => ∃ v L, o = .returned v ∧ Q_rmApSN Z a1 a2 zcs va ct kd vd t1 k1 ln bs h0 n0 v U'.heap L ∧ FrameEnd U o U' L ({ frames := 4, cells := 0, slots := 0, locals := 61 } : Room).cells ({ frames := 4, cells := 0, slots := 0, locals := 61 } : Room).slots) := by
  refine MetFree.of_bodySF (plainFor_of_name pn_11) hisR ?_
  intro p e s m args below meth c s₁ Bd hml0 hP hK
  obtain ⟨rfl, hZ, hh⟩ := hP
  have hx := Bd.exec
  have hby := Bd.bytes
  have hml : c.maxLocals = 2 := hml0
  have hown : s.vm.findClass "java/lang/StringBuilder" = some m.cls := findClass_of_methodNamed Bd.named
  have hnm := (name_of_methodNamed Bd.named Bd.method).1
  have hlk := Bd.notSynchronized
  have X0 : Stand p l e ({ frames := 4, cells := 0, slots := 0, locals := 61 } : Room) s m #[(.ref a1), (.ref a2)] below meth c s₁ [] 0 0 := Stand.of_body Bd
  have e0 : s₁.heap = h0 := by rw [← hh, Bd.state]; rfl
  have N0 := Fr.nil n0
  refine Wp.goal (Post := (fun o U' => ∃ v L, o = .returned v ∧ Q_rmApSN Z a1 a2 zcs va ct kd vd t1 k1 ln bs h0 n0 v U'.heap L ∧ FrameEnd s o U' L ({ frames := 4, cells := 0, slots := 0, locals := 61 } : Room).cells ({ frames := 4, cells := 0, slots := 0, locals := 61 } : Room).slots)) (Wp.st (S' := s₁.setTop (mkF m 0 #[oR a1, oR a2] [])) (fun tt_ kk_ => castTop (ef_rmApSN m a1 a2 ) kk_) ?_)
  refine Wp.st (S' := s₁.setTop (mkF m 1 #[oR a1, oR a2] [(.ref a1)])) (fun tt_ kk_ => XS.aloadN X0.here hx rfl (hb hby d11_0) rfl rfl kk_) ?_
  refine Wp.st (S' := s₁.setTop (mkF m 2 #[oR a1, oR a2] [(.ref a2), (.ref a1)])) (fun tt_ kk_ => XS.aloadN X0.here hx rfl (hb hby d11_1) rfl rfl kk_) ?_
  obtain ⟨vv1, _, ⟨T1, L1, k1, n1⟩, -, X1, ⟨Lc1, hQ1, l1, y1, z1⟩, st1⟩ := superBack X0 hx hZ (y := (⟨"java/lang/AbstractStringBuilder", "append", "(Ljava/lang/String;)Ljava/lang/AbstractStringBuilder;"⟩ : MethodName)) hown (hw _ (List.mem_of_getElem? (i := 67) rfl)) (own_same (hw _ (List.mem_of_getElem? (i := 87) rfl)) (hw _ (List.mem_of_getElem? (i := 68) rfl))) (hw _ (List.mem_of_getElem? (i := 68) rfl)) (hw _ (List.mem_of_getElem? (i := 69) rfl)) (by decide) (backOf (W := 0) (rmApAN l Z a0 hw [] a1 a2 zcs va ct kd vd t1 k1 ln bs h0 n0 Z0 g_a1 g_va O0 SCompact (hCS : ¬ zcs = 0) P5 P6 P7 P8 P9 P10 P11 P12 P13 (n1 : a1 ≠ va) (n2 : a1 ≠ a2) (n3 : a1 ≠ t1) (n4 : va ≠ t1) ((by assumption) : ¬ (0 : Int32) < ((ct + ln) - (16 : Int32))) ((by assumption) : ¬ ct < 0) ((by assumption) : ¬ ln < 0) ((by assumption) : ct.toNatClampNeg + ln.toNatClampNeg ≤ (16 : Int32).toNatClampNeg) ((by assumption) : ct.toNatClampNeg + ln.toNatClampNeg ≤ vd.length)) hZ (hw _ (List.mem_of_getElem? (i := 71) rfl)) (hw _ (List.mem_of_getElem? (i := 53) rfl)) (by decide) (by decide)) e0 (Ins.self P5) (g := (mkF m 2 #[oR a1, oR a2] [(.ref a2), (.ref a1)])) rfl (by rw [hml]; rfl) (hw _ (List.mem_of_getElem? (i := 71) rfl)) (argsL := [(.ref a2)]) (rest := []) (lenOf pd_10 rfl) rfl (by show 2 * 0 + _ ≤ _; exact Nat.le_of_eq rfl) (hb hby d11_2) (fun _ _ => ⟨rfl, e0, (by decide : 0 + 0 ≤ _), (by decide : 0 + 0 ≤ _)⟩)
  dsimp only [Pt.U, Pt.locs, Pt.cells, Pt.slots] at X1 l1 y1 z1 st1 hQ1
  subst l1 y1 z1
  obtain ⟨rfl, Nq1, K1, P1_0, P1_1, P1_2, P1_3⟩ := hQ1
  have N1 := Fr.app N0 Nq1
  have z2 := K1.1
  have e1 : T1.heap = T1.heap := rfl
  refine Wp.tr (S' := T1.setTop (mkF m 5 #[oR a1, oR a2] [(.ref a1)])) st1 ?_
  refine Wp.st (S' := T1.setTop (mkF m 6 #[oR a1, oR a2] [])) (fun tt_ kk_ => XS.pop X1.here hx rfl (hb hby d11_5) rfl rfl kk_) ?_
  refine Wp.st (S' := T1.setTop (mkF m 7 #[oR a1, oR a2] [(.ref a1)])) (fun tt_ kk_ => XS.aloadN X1.here hx rfl (hb hby d11_6) rfl rfl kk_) ?_
  have K3 := Keep.refl h0 [a1, va]
  have K4 := K3.trans K1 (allS (Or.inl (List.mem_of_getElem? (i := 0) rfl)) (allS (Or.inl (List.mem_of_getElem? (i := 1) rfl)) all0))
  exact Wp.ret X1 hlk (v := (some (.ref a1))) (fun h => by rw [Bd.returns] at h; cases h) (fun fs hr => retOut X1 hx Bd.returns rfl (Or.inr (Or.inr (Or.inr (Or.inr ⟨rfl, rfl, rfl⟩)))) (hb hby d11_7) hr) (by decide) (by decide) (show Q_rmApSN Z a1 a2 zcs va ct kd vd t1 k1 ln bs h0 n0 _ T1.heap _ by rw [e1]; exact ⟨rfl, N1, K4, P1_0, P1_1, P1_2, P1_3⟩)
theorem ef_rmApAG (m : MethodId) (a1 : Addr) (a2 : Addr) : entryFrame m #[(.ref a1), (.ref a2)] 3 = mkF m 0 #[oR a1, oR a2, oU] [] := by first | (simp [entryFrame, mkF, argsToLocals, Value.category]; done) | rfl
def Q_rmApAG (Z : State) (a1 : Addr) (a2 : Addr) (zcs : Int32) (va : Addr) (ct : Int32) (kd : ClassId) (vd : List Value) (t1 : Addr) (k1 : ClassId) (ln : Int32) (bs : List Value) (h0 : Heap) (n0 : Nat) (v : Option Value) (h : Heap) (L : List Loc) : Prop := ∃ b : Addr, ∃ kb : ClassId, (v = some (.ref a1)) ∧ (Fr n0 L) ∧ (Keep h0 h [a1]) ∧ (h0.size ≤ b) ∧ (Exa Z h b "[B") ∧ (Fld Z h a1 "java/lang/AbstractStringBuilder" "value" "[B" (.ref b)) ∧ (Fld Z h a1 "java/lang/AbstractStringBuilder" "count" "I" (.int (ct + ln))) ∧ (Fld Z h a1 "java/lang/AbstractStringBuilder" "coder" "B" (.int (0 : Int32))) ∧ (Arv Z h b kb .byte (ct + ln) (own_cp (own_cp own_z64 vd (0 : Int32) (16 : Int32)) bs ct ln) (.int (0 : Int32)))
set_option maxRecDepth 65536 in
set_option maxHeartbeats 40000000 in
theorem rmApAG (l : Launch) (Z : State) (a0 : Array Value) (hw : ∀ d ∈ tables_1, d.before a0 Z = true) (ws : List Jvm.Cond) (a1 : Addr) (a2 : Addr) (zcs : Int32) (va : Addr) (ct : Int32) (kd : ClassId) (vd : List Value) (t1 : Addr) (k1 : ClassId) (ln : Int32) (bs : List Value) (h0 : Heap) (n0 : Nat) (Z0 : n0 ≤ h0.size) (g_a1 : n0 ≤ a1) (g_va : n0 ≤ va) (O0 : Jvm.RoadKit.Old Z n0 h0) (SCompact : Sta Z Z.heap "java/lang/String" "COMPACT_STRINGS" "Z" (.int zcs)) (hCS : ¬ zcs = 0) (P5 : Exa Z h0 a1 "java/lang/StringBuilder") (P6 : Fld Z h0 a1 "java/lang/AbstractStringBuilder" "value" "[B" (.ref va)) (P7 : Fld Z h0 a1 "java/lang/AbstractStringBuilder" "count" "I" (.int ct)) (P8 : Fld Z h0 a1 "java/lang/AbstractStringBuilder" "coder" "B" (.int (0 : Int32))) (P9 : Arv Z h0 va kd .byte (16 : Int32) vd (.int (0 : Int32))) (P10 : Exa Z h0 a2 "java/lang/String") (P11 : Fld Z h0 a2 "java/lang/String" "value" "[B" (.ref t1)) (P12 : Fld Z h0 a2 "java/lang/String" "coder" "B" (.int (0 : Int32))) (P13 : Arv Z h0 t1 k1 .byte ln bs (.int (0 : Int32))) (n1 : a1 ≠ va) (n2 : a1 ≠ a2) (n3 : a1 ≠ t1) (n4 : va ≠ t1) (hp2 : (ct + ln) = (34 : Int32) ∨ (ct + ln) = (35 : Int32) ∨ (ct + ln) = (36 : Int32) ∨ (ct + ln) = (37 : Int32)) (f1 : ¬ ct < 0) (f2 : ¬ ln < 0) (f3 : ct.toNatClampNeg + ln.toNatClampNeg ≤ (ct + ln).toNatClampNeg) (f4 : ct.toNatClampNeg + ln.toNatClampNeg ≤ (own_cp own_z64 vd (0 : Int32) (16 : Int32)).length) :
    MetFree l (⟨"java/lang/AbstractStringBuilder", "append", "(Ljava/lang/String;)Ljava/lang/AbstractStringBuilder;"⟩ : MethodName) (head1 (Jvm.Cond.code (⟨"java/lang/AbstractStringBuilder", "append", "(Ljava/lang/String;)Ljava/lang/AbstractStringBuilder;"⟩ : MethodName) jdk_68_method_22_code 3 (some (.object "java/lang/AbstractStringBuilder")) :: ws) ({ frames := 4, cells := 1, slots := 37, locals := 62 } : Room)) (fun a U => a = #[(.ref a1), (.ref a2)] ∧ Z.Warmed39 U.vm ∧ U.heap = h0) (fun _ _ _ _ _ => True) (fun _ U o U' => ∃ v L, o = .returned v ∧ Q_rmApAG Z a1 a2 zcs va ct kd vd t1 k1 ln bs h0 n0 v U'.heap L ∧ FrameEnd U o U' L ({ frames := 4, cells := 1, slots := 37, locals := 62 } : Room).cells ({ frames := 4, cells := 1, slots := 37, locals := 62 } : Room).slots) := by
  refine MetFree.of_bodySF (plainFor_of_name pn_12) hisR ?_
  intro p e s m args below meth c s₁ Bd hml0 hP hK
  obtain ⟨rfl, hZ, hh⟩ := hP
  have hx := Bd.exec
  have hby := Bd.bytes
  have hml : c.maxLocals = 3 := hml0
  have hown : s.vm.findClass "java/lang/AbstractStringBuilder" = some m.cls := findClass_of_methodNamed Bd.named
  have hnm := (name_of_methodNamed Bd.named Bd.method).1
  have hlk := Bd.notSynchronized
  have X0 : Stand p l e ({ frames := 4, cells := 1, slots := 37, locals := 62 } : Room) s m #[(.ref a1), (.ref a2)] below meth c s₁ [] 0 0 := Stand.of_body Bd
  have e0 : s₁.heap = h0 := by rw [← hh, Bd.state]; rfl
  have N0 := Fr.nil n0
  refine Wp.goal (Post := (fun o U' => ∃ v L, o = .returned v ∧ Q_rmApAG Z a1 a2 zcs va ct kd vd t1 k1 ln bs h0 n0 v U'.heap L ∧ FrameEnd s o U' L ({ frames := 4, cells := 1, slots := 37, locals := 62 } : Room).cells ({ frames := 4, cells := 1, slots := 37, locals := 62 } : Room).slots)) (Wp.st (S' := s₁.setTop (mkF m 0 #[oR a1, oR a2, oU] [])) (fun tt_ kk_ => castTop (ef_rmApAG m a1 a2 ) kk_) ?_)
  refine Wp.st (S' := s₁.setTop (mkF m 1 #[oR a1, oR a2, oU] [(.ref a2)])) (fun tt_ kk_ => XS.aloadN X0.here hx rfl (hb hby d12_0) rfl rfl kk_) ?_
  refine Wp.st (S' := s₁.setTop (mkF m 9 #[oR a1, oR a2, oU] [])) (fun tt_ kk_ => XS.ifnonnullYes X0.here hx rfl (pc0 := 1) (pc' := 9) rfl (hb hby d12_1) rfl (by decide) (by decide) kk_) ?_
  refine Wp.st (S' := s₁.setTop (mkF m 10 #[oR a1, oR a2, oU] [(.ref a2)])) (fun tt_ kk_ => XS.aloadN X0.here hx rfl (hb hby d12_9) rfl rfl kk_) ?_
  obtain ⟨cq1, kq1, q1a, q1b, q1c⟩ := isOf hZ e0 P10
  obtain ⟨vv1, _, ⟨T1, L1, k1, n1⟩, -, X1, ⟨Lc1, hQ1, l1, y1, z1⟩, st1⟩ := X0.virtualBack hx (y := (⟨"java/lang/String", "length", "()I"⟩ : MethodName)) (z := (⟨"java/lang/String", "length", "()I"⟩ : MethodName)) hown (mvT hZ (hw _ (List.mem_of_getElem? (i := 72) rfl))) (mvT hZ (hw _ (List.mem_of_getElem? (i := 73) rfl))) (notFace_of_selects (args := #[]) (mvT hZ (hw _ (List.mem_of_getElem? (i := 75) rfl)))) (mvT hZ (hw _ (List.mem_of_getElem? (i := 75) rfl))) (mvT hZ (hw _ (List.mem_of_getElem? (i := 74) rfl))) (by decide) (backOf (W := 0) (rm13 l Z a0 hw [] a2 zcs t1 k1 ln bs h0 n0 Z0 O0 SCompact (hCS : ¬ zcs = 0) P10 P11 P12 P13) hZ (hw _ (List.mem_of_getElem? (i := 76) rfl)) (hw _ (List.mem_of_getElem? (i := 7) rfl)) (by decide) (by decide)) q1a q1c (g := (mkF m 10 #[oR a1, oR a2, oU] [(.ref a2)])) rfl (by rw [hml]; rfl) (Steps.refl _) (argsL := []) (rest := []) (lenOf pd_7 rfl) rfl (by show 2 * 0 + _ ≤ _; exact Nat.le_of_eq rfl) (hb hby d12_10) (fun _ _ => ⟨rfl, e0, (by decide : 0 + 0 ≤ _), (by decide : 0 + 0 ≤ _)⟩)
  dsimp only [Pt.U, Pt.locs, Pt.cells, Pt.slots] at X1 l1 y1 z1 st1 hQ1
  subst l1 y1 z1
  obtain ⟨rfl, Nq1, e1⟩ := hQ1
  have N1 := Fr.app N0 Nq1
  refine Wp.tr (S' := T1.setTop (mkF m 13 #[oR a1, oR a2, oU] [(.int ln)])) st1 ?_
  refine Wp.st (S' := T1.setTop (mkF m 14 #[oR a1, oR a2, oI ln] [])) (fun tt_ kk_ => XS.istoreN X1.here hx rfl (hb hby d12_13) rfl (l' := #[oR a1, oR a2, oI ln]) rfl kk_) ?_
  refine Wp.st (S' := T1.setTop (mkF m 15 #[oR a1, oR a2, oI ln] [(.ref a1)])) (fun tt_ kk_ => XS.aloadN X1.here hx rfl (hb hby d12_14) rfl rfl kk_) ?_
  refine Wp.st (S' := T1.setTop (mkF m 16 #[oR a1, oR a2, oI ln] [(.ref a1), (.ref a1)])) (fun tt_ kk_ => XS.aloadN X1.here hx rfl (hb hby d12_15) rfl rfl kk_) ?_
  obtain ⟨T2, X2, e2, st2⟩ := getF X1 hx hZ hown (host := "") (Or.inl (hw _ (List.mem_of_getElem? (i := 82) rfl))) Via.refl e1 P7 (g := (mkF m 16 #[oR a1, oR a2, oI ln] [(.ref a1), (.ref a1)])) rfl rfl (hb hby d12_16)
  refine Wp.st (S' := T2.setTop (mkF m 19 #[oR a1, oR a2, oI ln] [(.int ct), (.ref a1)])) st2 ?_
  refine Wp.st (S' := T2.setTop (mkF m 20 #[oR a1, oR a2, oI ln] [(.int ln), (.int ct), (.ref a1)])) (fun tt_ kk_ => XS.iloadN X2.here hx rfl (hb hby d12_19) rfl  kk_) ?_
  refine Wp.st (S' := T2.setTop (mkF m 21 #[oR a1, oR a2, oI ln] [(.int (ct + ln)), (.ref a1)])) (fun tt_ kk_ => XS.iadd X2.here hx rfl (hb hby d12_20) rfl kk_) ?_
  obtain ⟨cq3, q3, q3'⟩ := (P5).cell
  obtain ⟨vv3, _, ⟨T3, L3, k3, n3⟩, -, X3, ⟨Lc3, hQ3, l3, y3, z3⟩, st3⟩ := X2.privateBack hx (y := (⟨"java/lang/AbstractStringBuilder", "ensureCapacityInternal", "(I)V"⟩ : MethodName)) hown (mvT hZ (hw _ (List.mem_of_getElem? (i := 84) rfl))) (mvT hZ (hw _ (List.mem_of_getElem? (i := 85) rfl))) (mvT hZ (own_selP (hw _ (List.mem_of_getElem? (i := 87) rfl)) (hw _ (List.mem_of_getElem? (i := 85) rfl)) (hw _ (List.mem_of_getElem? (i := 86) rfl)))) (Cond.privateMethod_at (mvP hZ (hw _ (List.mem_of_getElem? (i := 86) rfl)) (args := #[]))) (mvT hZ (hw _ (List.mem_of_getElem? (i := 88) rfl))) (by decide) (backOf (W := 0) (rmEnG l Z a0 hw [] a1 (ct + ln) ct va kd vd h0 n0 Z0 g_a1 P5 P6 P8 P7 P9 ((by assumption) : (ct + ln) = (34 : Int32) ∨ (ct + ln) = (35 : Int32) ∨ (ct + ln) = (36 : Int32) ∨ (ct + ln) = (37 : Int32)) (n1 : a1 ≠ va)) hZ (hw _ (List.mem_of_getElem? (i := 88) rfl)) (hw _ (List.mem_of_getElem? (i := 53) rfl)) (by decide) (by decide)) (g := (mkF m 21 #[oR a1, oR a2, oI ln] [(.int (ct + ln)), (.ref a1)])) rfl (by rw [hml]; rfl) (Steps.refl _) (a := a1) (by rw [e2]; exact q3) q3' (argsL := [(.int (ct + ln))]) (rest := []) (lenOf pd_8 rfl) rfl (by show 2 * 0 + _ ≤ _; exact Nat.le_of_eq rfl) (hb hby d12_21) (fun _ _ => ⟨rfl, e2, (by decide : 0 + 1 ≤ _), (by decide : 0 + 37 ≤ _)⟩)
  dsimp only [Pt.U, Pt.locs, Pt.cells, Pt.slots] at X3 l3 y3 z3 st3 hQ3
  subst l3 y3 z3
  obtain ⟨b4, c5, rfl, Nq3, K3, P3_0, P3_1, P3_2, P3_3, P3_4, P3_5⟩ := hQ3
  have N3 := Fr.app N1 Nq3
  have z6 := K3.1
  have g7 : n0 ≤ b4 := Nat.le_trans (Nat.le_trans Z0 (Nat.le_refl _)) P3_0
  have e3 : T3.heap = T3.heap := rfl
  refine Wp.tr (S' := T3.setTop (mkF m 24 #[oR a1, oR a2, oI ln] [])) st3 ?_
  refine Wp.st (S' := T3.setTop (mkF m 25 #[oR a1, oR a2, oI ln] [(.ref a1)])) (fun tt_ kk_ => XS.aloadN X3.here hx rfl (hb hby d12_24) rfl rfl kk_) ?_
  refine Wp.st (S' := T3.setTop (mkF m 26 #[oR a1, oR a2, oI ln] [(.ref a1), (.ref a1)])) (fun tt_ kk_ => XS.aloadN X3.here hx rfl (hb hby d12_25) rfl rfl kk_) ?_
  obtain ⟨T8, X8, e8, st8⟩ := getF X3 hx hZ hown (host := "") (Or.inl (hw _ (List.mem_of_getElem? (i := 82) rfl))) Via.refl e3 P3_4 (g := (mkF m 26 #[oR a1, oR a2, oI ln] [(.ref a1), (.ref a1)])) rfl rfl (hb hby d12_26)
  refine Wp.st (S' := T8.setTop (mkF m 29 #[oR a1, oR a2, oI ln] [(.int ct), (.ref a1)])) st8 ?_
  refine Wp.st (S' := T8.setTop (mkF m 30 #[oR a1, oR a2, oI ln] [(.ref a2), (.int ct), (.ref a1)])) (fun tt_ kk_ => XS.aloadN X8.here hx rfl (hb hby d12_29) rfl rfl kk_) ?_
  have O10 := O0.keep K3 (allS g_a1 all0)
  have F11 := P5.keep K3
  have F12 := P10.keep K3
  have F13 := P11.keep K3 (ninS (Ne.symm n2) nin0)
  have F14 := P12.keep K3 (ninS (Ne.symm n2) nin0)
  have F15 := P13.keep K3 (ninS (Ne.symm n3) nin0)
  obtain ⟨cq9, q9, q9'⟩ := (F11).cell
  obtain ⟨vv9, _, ⟨T9, L9, k9, n9⟩, -, X9, ⟨Lc9, hQ9, l9, y9, z9⟩, st9⟩ := X8.privateBack hx (y := (⟨"java/lang/AbstractStringBuilder", "putStringAt", "(ILjava/lang/String;)V"⟩ : MethodName)) hown (mvT hZ (hw _ (List.mem_of_getElem? (i := 89) rfl))) (mvT hZ (hw _ (List.mem_of_getElem? (i := 90) rfl))) (mvT hZ (own_selP (hw _ (List.mem_of_getElem? (i := 87) rfl)) (hw _ (List.mem_of_getElem? (i := 90) rfl)) (hw _ (List.mem_of_getElem? (i := 91) rfl)))) (Cond.privateMethod_at (mvP hZ (hw _ (List.mem_of_getElem? (i := 91) rfl)) (args := #[]))) (mvT hZ (hw _ (List.mem_of_getElem? (i := 93) rfl))) (by decide) (backOf (W := 0) (rm16 l Z a0 hw [] a1 ct a2 zcs b4 c5 (ct + ln) (own_cp own_z64 vd (0 : Int32) (16 : Int32)) t1 k1 ln bs T3.heap n0 (Nat.le_trans Z0 z6) g7 O10 SCompact (hCS : ¬ zcs = 0) F11 P3_2 P3_3 P3_5 F12 F13 F14 F15 ((by assumption) : ¬ ct < 0) ((by assumption) : ¬ ln < 0) ((by assumption) : ct.toNatClampNeg + ln.toNatClampNeg ≤ (ct + ln).toNatClampNeg) ((by assumption) : ct.toNatClampNeg + ln.toNatClampNeg ≤ (own_cp own_z64 vd (0 : Int32) (16 : Int32)).length)) hZ (hw _ (List.mem_of_getElem? (i := 93) rfl)) (hw _ (List.mem_of_getElem? (i := 53) rfl)) (by decide) (by decide)) (g := (mkF m 30 #[oR a1, oR a2, oI ln] [(.ref a2), (.int ct), (.ref a1)])) rfl (by rw [hml]; rfl) (Steps.refl _) (a := a1) (by rw [e8]; exact q9) q9' (argsL := [(.int ct), (.ref a2)]) (rest := []) (lenOf pd_9 rfl) rfl (by show 2 * 0 + _ ≤ _; exact Nat.le_of_eq rfl) (hb hby d12_30) (fun _ _ => ⟨rfl, e8, (by decide : 1 + 0 ≤ _), (by decide : 37 + 0 ≤ _)⟩)
  dsimp only [Pt.U, Pt.locs, Pt.cells, Pt.slots] at X9 l9 y9 z9 st9 hQ9
  subst l9 y9 z9
  obtain ⟨rfl, Nq9, K9, P9_0⟩ := hQ9
  have N9 := Fr.app N3 Nq9
  have z16 := K9.1
  have e9 : T9.heap = T9.heap := rfl
  refine Wp.tr (S' := T9.setTop (mkF m 33 #[oR a1, oR a2, oI ln] [])) st9 ?_
  refine Wp.st (S' := T9.setTop (mkF m 34 #[oR a1, oR a2, oI ln] [(.ref a1)])) (fun tt_ kk_ => XS.aloadN X9.here hx rfl (hb hby d12_33) rfl rfl kk_) ?_
  refine Wp.st (S' := T9.setTop (mkF m 35 #[oR a1, oR a2, oI ln] [(.ref a1), (.ref a1)])) (fun tt_ kk_ => XS.dup X9.here hx rfl (hb hby d12_34) rfl rfl kk_) ?_
  have F17 := P3_4.keep K9 (ninS (Nat.ne_of_lt (Nat.lt_of_lt_of_le P5.lt (Nat.le_trans (Nat.le_refl _) P3_0))) nin0)
  obtain ⟨T18, X18, e18, st18⟩ := getF X9 hx hZ hown (host := "") (Or.inl (hw _ (List.mem_of_getElem? (i := 82) rfl))) Via.refl e9 F17 (g := (mkF m 35 #[oR a1, oR a2, oI ln] [(.ref a1), (.ref a1)])) rfl rfl (hb hby d12_35)
  refine Wp.st (S' := T18.setTop (mkF m 38 #[oR a1, oR a2, oI ln] [(.int ct), (.ref a1)])) st18 ?_
  refine Wp.st (S' := T18.setTop (mkF m 39 #[oR a1, oR a2, oI ln] [(.int ln), (.int ct), (.ref a1)])) (fun tt_ kk_ => XS.iloadN X18.here hx rfl (hb hby d12_38) rfl  kk_) ?_
  refine Wp.st (S' := T18.setTop (mkF m 40 #[oR a1, oR a2, oI ln] [(.int (ct + ln)), (.ref a1)])) (fun tt_ kk_ => XS.iadd X18.here hx rfl (hb hby d12_39) rfl kk_) ?_
  have F20 := F11.keep K9
  obtain ⟨T19, h19, X19, e19, W19, st19⟩ := putF X18 hx hZ hown (host := "") (Or.inl (hw _ (List.mem_of_getElem? (i := 82) rfl))) Via.refl e18 F17 F20 (Or.inl (hw _ (List.mem_of_getElem? (i := 83) rfl))) (hw _ (List.mem_of_getElem? (i := 44) rfl)) (ty := .int) (by decide) rfl rfl (g := (mkF m 40 #[oR a1, oR a2, oI ln] [(.int (ct + ln)), (.ref a1)])) rfl rfl (hb hby d12_40)
  have z21 := Nat.le_of_eq W19.size.symm
  have Fw19 : Fld Z h19 a1 "java/lang/AbstractStringBuilder" "count" "I" (.int (ct + ln)) := F17.same W19
  have N19 := Fr.snoc X19 N9 g_a1
  refine Wp.st (S' := T19.setTop (mkF m 43 #[oR a1, oR a2, oI ln] [])) st19 ?_
  refine Wp.st (S' := T19.setTop (mkF m 44 #[oR a1, oR a2, oI ln] [(.ref a1)])) (fun tt_ kk_ => XS.aloadN X19.here hx rfl (hb hby d12_43) rfl rfl kk_) ?_
  have K22 := Keep.refl h0 [a1]
  have K23 := K22.trans K3 (allS (Or.inl (List.mem_of_getElem? (i := 0) rfl)) all0)
  have K24 := K23.trans K9 (allS (Or.inr (Nat.le_trans (Nat.le_refl _) P3_0)) all0)
  have K25 := K24.wr W19 (Or.inl (List.mem_of_getElem? (i := 0) rfl))
  have F26 := P3_1.keep K9
  have F27 := F26.wr W19
  have F28 := P3_2.keep K9 (ninS (Nat.ne_of_lt (Nat.lt_of_lt_of_le P5.lt (Nat.le_trans (Nat.le_refl _) P3_0))) nin0)
  have F29 := F28.other W19 (Or.inr (slot_ne (Or.inl (hw _ (List.mem_of_getElem? (i := 58) rfl))) (Or.inl (hw _ (List.mem_of_getElem? (i := 83) rfl))) (by decide) (t := (.array .byte)) (t' := .int) (by decide) (by decide)))
  have F30 := P3_3.keep K9 (ninS (Nat.ne_of_lt (Nat.lt_of_lt_of_le P5.lt (Nat.le_trans (Nat.le_refl _) P3_0))) nin0)
  have F31 := F30.other W19 (Or.inr (slot_ne (Or.inl (hw _ (List.mem_of_getElem? (i := 60) rfl))) (Or.inl (hw _ (List.mem_of_getElem? (i := 83) rfl))) (by decide) (t := .byte) (t' := .int) (by decide) (by decide)))
  have F32 := P9_0.other W19 (Ne.symm (Nat.ne_of_lt (Nat.lt_of_lt_of_le P5.lt (Nat.le_trans (Nat.le_refl _) P3_0))))
  exact Wp.ret X19 hlk (v := (some (.ref a1))) (fun h => by rw [Bd.returns] at h; cases h) (fun fs hr => retOut X19 hx Bd.returns rfl (Or.inr (Or.inr (Or.inr (Or.inr ⟨rfl, rfl, rfl⟩)))) (hb hby d12_44) hr) (by decide) (by decide) (show Q_rmApAG Z a1 a2 zcs va ct kd vd t1 k1 ln bs h0 n0 _ T19.heap _ by rw [e19]; exact ⟨b4, c5, rfl, N19, K25, (Nat.le_trans (Nat.le_refl _) P3_0), F27, F29, Fw19, F31, F32⟩)
theorem ef_rmApSG (m : MethodId) (a1 : Addr) (a2 : Addr) : entryFrame m #[(.ref a1), (.ref a2)] 2 = mkF m 0 #[oR a1, oR a2] [] := by first | (simp [entryFrame, mkF, argsToLocals, Value.category]; done) | rfl
def Q_rmApSG (Z : State) (a1 : Addr) (a2 : Addr) (zcs : Int32) (va : Addr) (ct : Int32) (kd : ClassId) (vd : List Value) (t1 : Addr) (k1 : ClassId) (ln : Int32) (bs : List Value) (h0 : Heap) (n0 : Nat) (v : Option Value) (h : Heap) (L : List Loc) : Prop := ∃ b : Addr, ∃ kb : ClassId, (v = some (.ref a1)) ∧ (Fr n0 L) ∧ (Keep h0 h [a1]) ∧ (h0.size ≤ b) ∧ (Exa Z h b "[B") ∧ (Fld Z h a1 "java/lang/AbstractStringBuilder" "value" "[B" (.ref b)) ∧ (Fld Z h a1 "java/lang/AbstractStringBuilder" "count" "I" (.int (ct + ln))) ∧ (Fld Z h a1 "java/lang/AbstractStringBuilder" "coder" "B" (.int (0 : Int32))) ∧ (Arv Z h b kb .byte (ct + ln) (own_cp (own_cp own_z64 vd (0 : Int32) (16 : Int32)) bs ct ln) (.int (0 : Int32)))
set_option maxRecDepth 65536 in
set_option maxHeartbeats 40000000 in
theorem rmApSG (l : Launch) (Z : State) (a0 : Array Value) (hw : ∀ d ∈ tables_1, d.before a0 Z = true) (ws : List Jvm.Cond) (a1 : Addr) (a2 : Addr) (zcs : Int32) (va : Addr) (ct : Int32) (kd : ClassId) (vd : List Value) (t1 : Addr) (k1 : ClassId) (ln : Int32) (bs : List Value) (h0 : Heap) (n0 : Nat) (Z0 : n0 ≤ h0.size) (g_a1 : n0 ≤ a1) (g_va : n0 ≤ va) (O0 : Jvm.RoadKit.Old Z n0 h0) (SCompact : Sta Z Z.heap "java/lang/String" "COMPACT_STRINGS" "Z" (.int zcs)) (hCS : ¬ zcs = 0) (P5 : Exa Z h0 a1 "java/lang/StringBuilder") (P6 : Fld Z h0 a1 "java/lang/AbstractStringBuilder" "value" "[B" (.ref va)) (P7 : Fld Z h0 a1 "java/lang/AbstractStringBuilder" "count" "I" (.int ct)) (P8 : Fld Z h0 a1 "java/lang/AbstractStringBuilder" "coder" "B" (.int (0 : Int32))) (P9 : Arv Z h0 va kd .byte (16 : Int32) vd (.int (0 : Int32))) (P10 : Exa Z h0 a2 "java/lang/String") (P11 : Fld Z h0 a2 "java/lang/String" "value" "[B" (.ref t1)) (P12 : Fld Z h0 a2 "java/lang/String" "coder" "B" (.int (0 : Int32))) (P13 : Arv Z h0 t1 k1 .byte ln bs (.int (0 : Int32))) (n1 : a1 ≠ va) (n2 : a1 ≠ a2) (n3 : a1 ≠ t1) (n4 : va ≠ t1) (hp2 : (ct + ln) = (34 : Int32) ∨ (ct + ln) = (35 : Int32) ∨ (ct + ln) = (36 : Int32) ∨ (ct + ln) = (37 : Int32)) (f1 : ¬ ct < 0) (f2 : ¬ ln < 0) (f3 : ct.toNatClampNeg + ln.toNatClampNeg ≤ (ct + ln).toNatClampNeg) (f4 : ct.toNatClampNeg + ln.toNatClampNeg ≤ (own_cp own_z64 vd (0 : Int32) (16 : Int32)).length) :
    MetFree l (⟨"java/lang/StringBuilder", "append", "(Ljava/lang/String;)Ljava/lang/StringBuilder;"⟩ : MethodName) (head1 (Jvm.Cond.code (⟨"java/lang/StringBuilder", "append", "(Ljava/lang/String;)Ljava/lang/StringBuilder;"⟩ : MethodName) jdk_67_method_7_code 2 (some (.object "java/lang/StringBuilder")) :: ws) ({ frames := 5, cells := 1, slots := 37, locals := 76 } : Room)) (fun a U => a = #[(.ref a1), (.ref a2)] ∧ Z.Warmed39 U.vm ∧ U.heap = h0) (fun _ _ _ _ _ => True) (fun _ U o U' => ∃ v L, o = .returned v ∧ Q_rmApSG Z a1 a2 zcs va ct kd vd t1 k1 ln bs h0 n0 v U'.heap L ∧ FrameEnd U o U' L ({ frames := 5, cells := 1, slots := 37, locals := 76 } : Room).cells ({ frames := 5, cells := 1, slots := 37, locals := 76 } : Room).slots) := by
  refine MetFree.of_bodySF (plainFor_of_name pn_11) hisR ?_
  intro p e s m args below meth c s₁ Bd hml0 hP hK
  obtain ⟨rfl, hZ, hh⟩ := hP
  have hx := Bd.exec
  have hby := Bd.bytes
  have hml : c.maxLocals = 2 := hml0
  have hown : s.vm.findClass "java/lang/StringBuilder" = some m.cls := findClass_of_methodNamed Bd.named
  have hnm := (name_of_methodNamed Bd.named Bd.method).1
  have hlk := Bd.notSynchronized
  have X0 : Stand p l e ({ frames := 5, cells := 1, slots := 37, locals := 76 } : Room) s m #[(.ref a1), (.ref a2)] below meth c s₁ [] 0 0 := Stand.of_body Bd
  have e0 : s₁.heap = h0 := by rw [← hh, Bd.state]; rfl
  have N0 := Fr.nil n0
  refine Wp.goal (Post := (fun o U' => ∃ v L, o = .returned v ∧ Q_rmApSG Z a1 a2 zcs va ct kd vd t1 k1 ln bs h0 n0 v U'.heap L ∧ FrameEnd s o U' L ({ frames := 5, cells := 1, slots := 37, locals := 76 } : Room).cells ({ frames := 5, cells := 1, slots := 37, locals := 76 } : Room).slots)) (Wp.st (S' := s₁.setTop (mkF m 0 #[oR a1, oR a2] [])) (fun tt_ kk_ => castTop (ef_rmApSG m a1 a2 ) kk_) ?_)
  refine Wp.st (S' := s₁.setTop (mkF m 1 #[oR a1, oR a2] [(.ref a1)])) (fun tt_ kk_ => XS.aloadN X0.here hx rfl (hb hby d11_0) rfl rfl kk_) ?_
  refine Wp.st (S' := s₁.setTop (mkF m 2 #[oR a1, oR a2] [(.ref a2), (.ref a1)])) (fun tt_ kk_ => XS.aloadN X0.here hx rfl (hb hby d11_1) rfl rfl kk_) ?_
  obtain ⟨vv1, _, ⟨T1, L1, k1, n1⟩, -, X1, ⟨Lc1, hQ1, l1, y1, z1⟩, st1⟩ := superBack X0 hx hZ (y := (⟨"java/lang/AbstractStringBuilder", "append", "(Ljava/lang/String;)Ljava/lang/AbstractStringBuilder;"⟩ : MethodName)) hown (hw _ (List.mem_of_getElem? (i := 67) rfl)) (own_same (hw _ (List.mem_of_getElem? (i := 87) rfl)) (hw _ (List.mem_of_getElem? (i := 68) rfl))) (hw _ (List.mem_of_getElem? (i := 68) rfl)) (hw _ (List.mem_of_getElem? (i := 69) rfl)) (by decide) (backOf (W := 0) (rmApAG l Z a0 hw [] a1 a2 zcs va ct kd vd t1 k1 ln bs h0 n0 Z0 g_a1 g_va O0 SCompact (hCS : ¬ zcs = 0) P5 P6 P7 P8 P9 P10 P11 P12 P13 (n1 : a1 ≠ va) (n2 : a1 ≠ a2) (n3 : a1 ≠ t1) (n4 : va ≠ t1) ((by assumption) : (ct + ln) = (34 : Int32) ∨ (ct + ln) = (35 : Int32) ∨ (ct + ln) = (36 : Int32) ∨ (ct + ln) = (37 : Int32)) ((by assumption) : ¬ ct < 0) ((by assumption) : ¬ ln < 0) ((by assumption) : ct.toNatClampNeg + ln.toNatClampNeg ≤ (ct + ln).toNatClampNeg) ((by assumption) : ct.toNatClampNeg + ln.toNatClampNeg ≤ (own_cp own_z64 vd (0 : Int32) (16 : Int32)).length)) hZ (hw _ (List.mem_of_getElem? (i := 71) rfl)) (hw _ (List.mem_of_getElem? (i := 53) rfl)) (by decide) (by decide)) e0 (Ins.self P5) (g := (mkF m 2 #[oR a1, oR a2] [(.ref a2), (.ref a1)])) rfl (by rw [hml]; rfl) (hw _ (List.mem_of_getElem? (i := 71) rfl)) (argsL := [(.ref a2)]) (rest := []) (lenOf pd_10 rfl) rfl (by show 2 * 0 + _ ≤ _; exact Nat.le_of_eq rfl) (hb hby d11_2) (fun _ _ => ⟨rfl, e0, (by decide : 0 + 1 ≤ _), (by decide : 0 + 37 ≤ _)⟩)
  dsimp only [Pt.U, Pt.locs, Pt.cells, Pt.slots] at X1 l1 y1 z1 st1 hQ1
  subst l1 y1 z1
  obtain ⟨b2, c3, rfl, Nq1, K1, P1_0, P1_1, P1_2, P1_3, P1_4, P1_5⟩ := hQ1
  have N1 := Fr.app N0 Nq1
  have z4 := K1.1
  have g5 : n0 ≤ b2 := Nat.le_trans (Nat.le_trans Z0 (Nat.le_refl _)) P1_0
  have e1 : T1.heap = T1.heap := rfl
  refine Wp.tr (S' := T1.setTop (mkF m 5 #[oR a1, oR a2] [(.ref a1)])) st1 ?_
  refine Wp.st (S' := T1.setTop (mkF m 6 #[oR a1, oR a2] [])) (fun tt_ kk_ => XS.pop X1.here hx rfl (hb hby d11_5) rfl rfl kk_) ?_
  refine Wp.st (S' := T1.setTop (mkF m 7 #[oR a1, oR a2] [(.ref a1)])) (fun tt_ kk_ => XS.aloadN X1.here hx rfl (hb hby d11_6) rfl rfl kk_) ?_
  have K6 := Keep.refl h0 [a1]
  have K7 := K6.trans K1 (allS (Or.inl (List.mem_of_getElem? (i := 0) rfl)) all0)
  exact Wp.ret X1 hlk (v := (some (.ref a1))) (fun h => by rw [Bd.returns] at h; cases h) (fun fs hr => retOut X1 hx Bd.returns rfl (Or.inr (Or.inr (Or.inr (Or.inr ⟨rfl, rfl, rfl⟩)))) (hb hby d11_7) hr) (by decide) (by decide) (show Q_rmApSG Z a1 a2 zcs va ct kd vd t1 k1 ln bs h0 n0 _ T1.heap _ by rw [e1]; exact ⟨b2, c3, rfl, N1, K7, (Nat.le_trans (Nat.le_refl _) P1_0), P1_1, P1_2, P1_3, P1_4, P1_5⟩)
theorem pn_10 : plainName "java/lang/AbstractStringBuilder" = true := by first | (simp [plainName, overriddenIn]; done) | decide +kernel
theorem d10_0 : decode jdk_68_method_2_code 0 = .ok (.aload_n 0, 1) := by decide +kernel
theorem d10_1 : decode jdk_68_method_2_code 1 = .ok (.invokespecial 3, 3) := by decide +kernel
theorem d10_4 : decode jdk_68_method_2_code 4 = .ok (.getstatic 18, 3) := by decide +kernel
theorem d10_7 : decode jdk_68_method_2_code 7 = .ok (.ifCond .eq 18, 3) := by decide +kernel
theorem d10_10 : decode jdk_68_method_2_code 10 = .ok (.aload_n 0, 1) := by decide +kernel
theorem d10_11 : decode jdk_68_method_2_code 11 = .ok (.iload_n 1, 1) := by decide +kernel
theorem d10_12 : decode jdk_68_method_2_code 12 = .ok (.newarray .byte, 2) := by decide +kernel
theorem d10_14 : decode jdk_68_method_2_code 14 = .ok (.putfield 15, 3) := by decide +kernel
theorem d10_17 : decode jdk_68_method_2_code 17 = .ok (.aload_n 0, 1) := by decide +kernel
theorem d10_18 : decode jdk_68_method_2_code 18 = .ok (.iconst 0, 1) := by decide +kernel
theorem d10_19 : decode jdk_68_method_2_code 19 = .ok (.putfield 22, 3) := by decide +kernel
theorem d10_22 : decode jdk_68_method_2_code 22 = .ok (.goto 16, 3) := by decide +kernel
theorem d10_38 : decode jdk_68_method_2_code 38 = .ok (.return_, 1) := by decide +kernel
theorem ef_rm10 (m : MethodId) (a1 : Addr) : entryFrame m #[(.ref a1), (.int (16 : Int32))] 2 = mkF m 0 #[oR a1, oI (16 : Int32)] [] := by first | (simp [entryFrame, mkF, argsToLocals, Value.category]; done) | rfl
def Q_rm10 (Z : State) (a1 : Addr) (zcs : Int32) (h0 : Heap) (n0 : Nat) (v : Option Value) (h : Heap) (L : List Loc) : Prop := ∃ b : Addr, ∃ kb : ClassId, (v = none) ∧ (Fr n0 L) ∧ (Keep h0 h [a1]) ∧ (h0.size ≤ b) ∧ (Exa Z h a1 "java/lang/StringBuilder") ∧ (Fld Z h a1 "java/lang/AbstractStringBuilder" "value" "[B" (.ref b)) ∧ (Fld Z h a1 "java/lang/AbstractStringBuilder" "count" "I" (.int (0 : Int32))) ∧ (Fld Z h a1 "java/lang/AbstractStringBuilder" "coder" "B" (.int (0 : Int32))) ∧ (Arv Z h b kb .byte (16 : Int32) own_z16 (.int (0 : Int32)))
set_option maxRecDepth 65536 in
set_option maxHeartbeats 40000000 in
theorem rm10 (l : Launch) (Z : State) (a0 : Array Value) (hw : ∀ d ∈ tables_1, d.before a0 Z = true) (ws : List Jvm.Cond) (a1 : Addr) (zcs : Int32) (h0 : Heap) (n0 : Nat) (Z0 : n0 ≤ h0.size) (g_a1 : n0 ≤ a1) (O0 : Jvm.RoadKit.Old Z n0 h0) (SCompact : Sta Z Z.heap "java/lang/String" "COMPACT_STRINGS" "Z" (.int zcs)) (hCS : ¬ zcs = 0) (P4 : Exa Z h0 a1 "java/lang/StringBuilder") (P5 : Fld Z h0 a1 "java/lang/AbstractStringBuilder" "value" "[B" .null) (P6 : Fld Z h0 a1 "java/lang/AbstractStringBuilder" "coder" "B" (.int (0 : Int32))) (P7 : Fld Z h0 a1 "java/lang/AbstractStringBuilder" "count" "I" (.int (0 : Int32))) :
    MetFree l (⟨"java/lang/AbstractStringBuilder", "<init>", "(I)V"⟩ : MethodName) (head1 (Jvm.Cond.code (⟨"java/lang/AbstractStringBuilder", "<init>", "(I)V"⟩ : MethodName) jdk_68_method_2_code 2 none :: ws) ({ frames := 1, cells := 1, slots := 16, locals := 12 } : Room)) (fun a U => a = #[(.ref a1), (.int (16 : Int32))] ∧ Z.Warmed39 U.vm ∧ U.heap = h0) (fun _ _ _ _ _ => True) (fun _ U o U' => ∃ v L, o = .returned v ∧ Q_rm10 Z a1 zcs h0 n0 v U'.heap L ∧ FrameEnd U o U' L ({ frames := 1, cells := 1, slots := 16, locals := 12 } : Room).cells ({ frames := 1, cells := 1, slots := 16, locals := 12 } : Room).slots) := by
  refine MetFree.of_bodySF (plainFor_of_name pn_10) hisR ?_
  intro p e s m args below meth c s₁ Bd hml0 hP hK
  obtain ⟨rfl, hZ, hh⟩ := hP
  have hx := Bd.exec
  have hby := Bd.bytes
  have hml : c.maxLocals = 2 := hml0
  have hown : s.vm.findClass "java/lang/AbstractStringBuilder" = some m.cls := findClass_of_methodNamed Bd.named
  have hnm := (name_of_methodNamed Bd.named Bd.method).1
  have hlk := Bd.notSynchronized
  have X0 : Stand p l e ({ frames := 1, cells := 1, slots := 16, locals := 12 } : Room) s m #[(.ref a1), (.int (16 : Int32))] below meth c s₁ [] 0 0 := Stand.of_body Bd
  have e0 : s₁.heap = h0 := by rw [← hh, Bd.state]; rfl
  have N0 := Fr.nil n0
  refine Wp.goal (Post := (fun o U' => ∃ v L, o = .returned v ∧ Q_rm10 Z a1 zcs h0 n0 v U'.heap L ∧ FrameEnd s o U' L ({ frames := 1, cells := 1, slots := 16, locals := 12 } : Room).cells ({ frames := 1, cells := 1, slots := 16, locals := 12 } : Room).slots)) (Wp.st (S' := s₁.setTop (mkF m 0 #[oR a1, oI (16 : Int32)] [])) (fun tt_ kk_ => castTop (ef_rm10 m a1 ) kk_) ?_)
  refine Wp.st (S' := s₁.setTop (mkF m 1 #[oR a1, oI (16 : Int32)] [(.ref a1)])) (fun tt_ kk_ => XS.aloadN X0.here hx rfl (hb hby d10_0) rfl rfl kk_) ?_
  obtain ⟨T1, X1, e1, st1⟩ := initO X0 hx hZ hown (hw _ (List.mem_of_getElem? (i := 55) rfl)) (hw _ (List.mem_of_getElem? (i := 16) rfl)) (hw _ (List.mem_of_getElem? (i := 17) rfl)) e0 (g := (mkF m 1 #[oR a1, oI (16 : Int32)] [(.ref a1)])) rfl (by rw [hml]; rfl) rfl (hb hby d10_1) (by decide) (W := 0) (by show 2 * 0 + _ ≤ _; exact Nat.le_of_eq rfl) (by decide)
  refine Wp.st (S' := T1.setTop (mkF m 4 #[oR a1, oI (16 : Int32)] [])) st1 ?_
  obtain ⟨T2, X2, e2, st2⟩ := getS2 X1 hx hZ hown (host := "") (Or.inl (hw _ (List.mem_of_getElem? (i := 56) rfl))) Via.refl e1 (SCompact.ext O0.2) (g := (mkF m 4 #[oR a1, oI (16 : Int32)] [])) rfl (hb hby d10_4)
  refine Wp.st (S' := T2.setTop (mkF m 7 #[oR a1, oI (16 : Int32)] [(.int zcs)])) st2 ?_
  refine Wp.st (S' := T2.setTop (mkF m 10 #[oR a1, oI (16 : Int32)] [])) (fun tt_ kk_ => XS.ifNo X2.here hx rfl (hb hby d10_7) rfl ((if0 _ _).trans (feq (hCS : ¬ (zcs = (0 : Int32)))).1) kk_) ?_
  refine Wp.st (S' := T2.setTop (mkF m 11 #[oR a1, oI (16 : Int32)] [(.ref a1)])) (fun tt_ kk_ => XS.aloadN X2.here hx rfl (hb hby d10_10) rfl rfl kk_) ?_
  refine Wp.st (S' := T2.setTop (mkF m 12 #[oR a1, oI (16 : Int32)] [(.int (16 : Int32)), (.ref a1)])) (fun tt_ kk_ => XS.iloadN X2.here hx rfl (hb hby d10_11) rfl  kk_) ?_
  obtain ⟨T3, h3, k3, X3, e3, E3, A3, st3⟩ := newP X2 hx hZ (hw _ (List.mem_of_getElem? (i := 19) rfl)) e2 (g := (mkF m 12 #[oR a1, oI (16 : Int32)] [(.int (16 : Int32)), (.ref a1)])) rfl (hb hby d10_12) rfl (by decide) (cap := 16) (by decide) (by decide) (by decide) (by decide)
  obtain ⟨b3, g3⟩ : ∃ z, z = h0.size := ⟨_, rfl⟩
  rw [← g3] at A3 st3
  have z4 := E3.1
  have V3 : Arv Z h3 b3 k3 .byte (16 : Int32) [(.int (0 : Int32)), (.int (0 : Int32)), (.int (0 : Int32)), (.int (0 : Int32)), (.int (0 : Int32)), (.int (0 : Int32)), (.int (0 : Int32)), (.int (0 : Int32)), (.int (0 : Int32)), (.int (0 : Int32)), (.int (0 : Int32)), (.int (0 : Int32)), (.int (0 : Int32)), (.int (0 : Int32)), (.int (0 : Int32)), (.int (0 : Int32))] (.int (0 : Int32)) := (Arv.new A3 (by decide)).pad (pad_rep [] (.int (0 : Int32)) 16)
  have g5 : n0 ≤ b3 := Nat.le_trans (Nat.le_trans Z0 (Nat.le_refl _)) (Nat.le_of_eq g3.symm)
  refine Wp.st (S' := T3.setTop (mkF m 14 #[oR a1, oI (16 : Int32)] [(.ref b3), (.ref a1)])) st3 ?_
  have Vz6 : Arv Z h3 b3 k3 .byte (16 : Int32) own_z16 (.int (0 : Int32)) := V3
  have F8 := P5.ext E3
  have F9 := P4.ext E3
  obtain ⟨T7, h7, X7, e7, W7, st7⟩ := putF X3 hx hZ hown (host := "") (Or.inl (hw _ (List.mem_of_getElem? (i := 57) rfl))) Via.refl e3 F8 F9 (Or.inl (hw _ (List.mem_of_getElem? (i := 58) rfl))) (hw _ (List.mem_of_getElem? (i := 44) rfl)) (ty := (.array .byte)) (by decide) rfl rfl (g := (mkF m 14 #[oR a1, oI (16 : Int32)] [(.ref b3), (.ref a1)])) rfl rfl (hb hby d10_14)
  have z10 := Nat.le_of_eq W7.size.symm
  have Fw7 : Fld Z h7 a1 "java/lang/AbstractStringBuilder" "value" "[B" (.ref b3) := F8.same W7
  have N7 := Fr.snoc X7 N0 g_a1
  refine Wp.st (S' := T7.setTop (mkF m 17 #[oR a1, oI (16 : Int32)] [])) st7 ?_
  refine Wp.st (S' := T7.setTop (mkF m 18 #[oR a1, oI (16 : Int32)] [(.ref a1)])) (fun tt_ kk_ => XS.aloadN X7.here hx rfl (hb hby d10_17) rfl rfl kk_) ?_
  refine Wp.st (S' := T7.setTop (mkF m 19 #[oR a1, oI (16 : Int32)] [(.int (0 : Int32)), (.ref a1)])) (fun tt_ kk_ => XS.iconst X7.here hx rfl (hb hby d10_18) kk_) ?_
  have F12 := P6.ext E3
  have F13 := F12.other W7 (Or.inr (slot_ne (Or.inl (hw _ (List.mem_of_getElem? (i := 60) rfl))) (Or.inl (hw _ (List.mem_of_getElem? (i := 58) rfl))) (by decide) (t := .byte) (t' := (.array .byte)) (by decide) (by decide)))
  have F14 := F9.wr W7
  obtain ⟨T11, h11, X11, e11, W11, st11⟩ := putFN X7 hx hZ hown (hw _ (List.mem_of_getElem? (i := 59) rfl)) Via.refl e7 F13 F14 (Or.inl (hw _ (List.mem_of_getElem? (i := 60) rfl))) (hw _ (List.mem_of_getElem? (i := 44) rfl)) (ty := .byte) (v' := (.int (0 : Int32))) (by decide) rfl rfl (g := (mkF m 19 #[oR a1, oI (16 : Int32)] [(.int (0 : Int32)), (.ref a1)])) rfl rfl (hb hby d10_19)
  have z15 := Nat.le_of_eq W11.size.symm
  have Fw11 : Fld Z h11 a1 "java/lang/AbstractStringBuilder" "coder" "B" (.int (0 : Int32)) := F13.same W11
  have N11 := Fr.snoc X11 N7 g_a1
  refine Wp.st (S' := T11.setTop (mkF m 22 #[oR a1, oI (16 : Int32)] [])) st11 ?_
  refine Wp.st (S' := T11.setTop (mkF m 38 #[oR a1, oI (16 : Int32)] [])) (fun tt_ kk_ => XS.goto X11.here hx rfl (pc0 := 22) (pc' := 38) rfl (hb hby d10_22) (by decide) (by decide) kk_) ?_
  have K16 := Keep.refl h0 [a1]
  have K17 := K16.ext E3
  have K18 := K17.wr W7 (Or.inl (List.mem_of_getElem? (i := 0) rfl))
  have K19 := K18.wr W11 (Or.inl (List.mem_of_getElem? (i := 0) rfl))
  have F20 := F14.wr W11
  have F21 := Fw7.other W11 (Or.inr (slot_ne (Or.inl (hw _ (List.mem_of_getElem? (i := 58) rfl))) (Or.inl (hw _ (List.mem_of_getElem? (i := 60) rfl))) (by decide) (t := (.array .byte)) (t' := .byte) (by decide) (by decide)))
  have F22 := P7.ext E3
  have F23 := F22.other W7 (Or.inr (slot_ne (Or.inl (hw _ (List.mem_of_getElem? (i := 83) rfl))) (Or.inl (hw _ (List.mem_of_getElem? (i := 58) rfl))) (by decide) (t := .int) (t' := (.array .byte)) (by decide) (by decide)))
  have F24 := F23.other W11 (Or.inr (slot_ne (Or.inl (hw _ (List.mem_of_getElem? (i := 83) rfl))) (Or.inl (hw _ (List.mem_of_getElem? (i := 60) rfl))) (by decide) (t := .int) (t' := .byte) (by decide) (by decide)))
  have F25 := Vz6.other W7 (Ne.symm (Nat.ne_of_lt (Nat.lt_of_lt_of_le P4.lt (Nat.le_trans (Nat.le_refl _) (Nat.le_of_eq g3.symm)))))
  have F26 := F25.other W11 (Ne.symm (Nat.ne_of_lt (Nat.lt_of_lt_of_le P4.lt (Nat.le_trans (Nat.le_refl _) (Nat.le_of_eq g3.symm)))))
  exact Wp.ret X11 hlk (v := none) (fun _ => rfl) (fun fs hr => X11.returnOut hx Bd.returns (hb hby d10_38) hr) (by decide) (by decide) (show Q_rm10 Z a1 zcs h0 n0 _ T11.heap _ by rw [e11]; exact ⟨b3, k3, rfl, N11, K19, (Nat.le_trans (Nat.le_refl _) (Nat.le_of_eq g3.symm)), F20, F21, F24, Fw11, F26⟩)
theorem pn_9 : plainName "java/lang/StringBuilder" = true := by first | (simp [plainName, overriddenIn]; done) | decide +kernel
theorem d9_0 : decode jdk_67_method_1_code 0 = .ok (.aload_n 0, 1) := by decide +kernel
theorem d9_1 : decode jdk_67_method_1_code 1 = .ok (.bipush 16, 2) := by decide +kernel
theorem d9_3 : decode jdk_67_method_1_code 3 = .ok (.invokespecial 1, 3) := by decide +kernel
theorem d9_6 : decode jdk_67_method_1_code 6 = .ok (.return_, 1) := by decide +kernel
theorem ef_rm9 (m : MethodId) (a1 : Addr) : entryFrame m #[(.ref a1)] 1 = mkF m 0 #[oR a1] [] := by first | (simp [entryFrame, mkF, argsToLocals, Value.category]; done) | rfl
def Q_rm9 (Z : State) (a1 : Addr) (zcs : Int32) (h0 : Heap) (n0 : Nat) (v : Option Value) (h : Heap) (L : List Loc) : Prop := ∃ b : Addr, ∃ kb : ClassId, (v = none) ∧ (Fr n0 L) ∧ (Keep h0 h [a1]) ∧ (h0.size ≤ b) ∧ (Exa Z h a1 "java/lang/StringBuilder") ∧ (Fld Z h a1 "java/lang/AbstractStringBuilder" "value" "[B" (.ref b)) ∧ (Fld Z h a1 "java/lang/AbstractStringBuilder" "count" "I" (.int (0 : Int32))) ∧ (Fld Z h a1 "java/lang/AbstractStringBuilder" "coder" "B" (.int (0 : Int32))) ∧ (Arv Z h b kb .byte (16 : Int32) own_z16 (.int (0 : Int32)))
set_option maxRecDepth 65536 in
set_option maxHeartbeats 40000000 in
theorem rm9 (l : Launch) (Z : State) (a0 : Array Value) (hw : ∀ d ∈ tables_1, d.before a0 Z = true) (ws : List Jvm.Cond) (a1 : Addr) (zcs : Int32) (h0 : Heap) (n0 : Nat) (Z0 : n0 ≤ h0.size) (g_a1 : n0 ≤ a1) (O0 : Jvm.RoadKit.Old Z n0 h0) (SCompact : Sta Z Z.heap "java/lang/String" "COMPACT_STRINGS" "Z" (.int zcs)) (hCS : ¬ zcs = 0) (P4 : Exa Z h0 a1 "java/lang/StringBuilder") (P5 : Fld Z h0 a1 "java/lang/AbstractStringBuilder" "value" "[B" .null) (P6 : Fld Z h0 a1 "java/lang/AbstractStringBuilder" "coder" "B" (.int (0 : Int32))) (P7 : Fld Z h0 a1 "java/lang/AbstractStringBuilder" "count" "I" (.int (0 : Int32))) :
    MetFree l (⟨"java/lang/StringBuilder", "<init>", "()V"⟩ : MethodName) (head1 (Jvm.Cond.code (⟨"java/lang/StringBuilder", "<init>", "()V"⟩ : MethodName) jdk_67_method_1_code 1 none :: ws) ({ frames := 2, cells := 1, slots := 16, locals := 25 } : Room)) (fun a U => a = #[(.ref a1)] ∧ Z.Warmed39 U.vm ∧ U.heap = h0) (fun _ _ _ _ _ => True) (fun _ U o U' => ∃ v L, o = .returned v ∧ Q_rm9 Z a1 zcs h0 n0 v U'.heap L ∧ FrameEnd U o U' L ({ frames := 2, cells := 1, slots := 16, locals := 25 } : Room).cells ({ frames := 2, cells := 1, slots := 16, locals := 25 } : Room).slots) := by
  refine MetFree.of_bodySF (plainFor_of_name pn_9) hisR ?_
  intro p e s m args below meth c s₁ Bd hml0 hP hK
  obtain ⟨rfl, hZ, hh⟩ := hP
  have hx := Bd.exec
  have hby := Bd.bytes
  have hml : c.maxLocals = 1 := hml0
  have hown : s.vm.findClass "java/lang/StringBuilder" = some m.cls := findClass_of_methodNamed Bd.named
  have hnm := (name_of_methodNamed Bd.named Bd.method).1
  have hlk := Bd.notSynchronized
  have X0 : Stand p l e ({ frames := 2, cells := 1, slots := 16, locals := 25 } : Room) s m #[(.ref a1)] below meth c s₁ [] 0 0 := Stand.of_body Bd
  have e0 : s₁.heap = h0 := by rw [← hh, Bd.state]; rfl
  have N0 := Fr.nil n0
  refine Wp.goal (Post := (fun o U' => ∃ v L, o = .returned v ∧ Q_rm9 Z a1 zcs h0 n0 v U'.heap L ∧ FrameEnd s o U' L ({ frames := 2, cells := 1, slots := 16, locals := 25 } : Room).cells ({ frames := 2, cells := 1, slots := 16, locals := 25 } : Room).slots)) (Wp.st (S' := s₁.setTop (mkF m 0 #[oR a1] [])) (fun tt_ kk_ => castTop (ef_rm9 m a1 ) kk_) ?_)
  refine Wp.st (S' := s₁.setTop (mkF m 1 #[oR a1] [(.ref a1)])) (fun tt_ kk_ => XS.aloadN X0.here hx rfl (hb hby d9_0) rfl rfl kk_) ?_
  refine Wp.st (S' := s₁.setTop (mkF m 3 #[oR a1] [(.int (16 : Int32)), (.ref a1)])) (fun tt_ kk_ => XS.bipush X0.here hx rfl (hb hby d9_1) kk_) ?_
  obtain ⟨vv1, _, ⟨T1, L1, k1, n1⟩, -, X1, ⟨Lc1, hQ1, l1, y1, z1⟩, st1⟩ := X0.specialBack hx (y := (⟨"java/lang/AbstractStringBuilder", "<init>", "(I)V"⟩ : MethodName)) rfl hown (mvT hZ (hw _ (List.mem_of_getElem? (i := 49) rfl))) (mvT hZ (hw _ (List.mem_of_getElem? (i := 50) rfl))) (mvT hZ (hw _ (List.mem_of_getElem? (i := 54) rfl))) (by decide) (backOf (W := 0) (rm10 l Z a0 hw [] a1 zcs h0 n0 Z0 g_a1 O0 SCompact (hCS : ¬ zcs = 0) P4 P5 P6 P7) hZ (hw _ (List.mem_of_getElem? (i := 54) rfl)) (hw _ (List.mem_of_getElem? (i := 53) rfl)) (by decide) (by decide)) (g := (mkF m 3 #[oR a1] [(.int (16 : Int32)), (.ref a1)])) rfl (by rw [hml]; rfl) (Steps.refl _) (a := a1) (argsL := [(.int (16 : Int32))]) (rest := []) (lenOf pd_8 rfl) rfl (by show 2 * 0 + _ ≤ _; exact Nat.le_of_eq rfl) (hb hby d9_3) (fun _ _ => ⟨rfl, e0, (by decide : 0 + 1 ≤ _), (by decide : 0 + 16 ≤ _)⟩)
  dsimp only [Pt.U, Pt.locs, Pt.cells, Pt.slots] at X1 l1 y1 z1 st1 hQ1
  subst l1 y1 z1
  obtain ⟨b2, c3, rfl, Nq1, K1, P1_0, P1_1, P1_2, P1_3, P1_4, P1_5⟩ := hQ1
  have N1 := Fr.app N0 Nq1
  have z4 := K1.1
  have g5 : n0 ≤ b2 := Nat.le_trans (Nat.le_trans Z0 (Nat.le_refl _)) P1_0
  have e1 : T1.heap = T1.heap := rfl
  refine Wp.tr (S' := T1.setTop (mkF m 6 #[oR a1] [])) st1 ?_
  have K6 := Keep.refl h0 [a1]
  have K7 := K6.trans K1 (allS (Or.inl (List.mem_of_getElem? (i := 0) rfl)) all0)
  exact Wp.ret X1 hlk (v := none) (fun _ => rfl) (fun fs hr => X1.returnOut hx Bd.returns (hb hby d9_6) hr) (by decide) (by decide) (show Q_rm9 Z a1 zcs h0 n0 _ T1.heap _ by rw [e1]; exact ⟨b2, c3, rfl, N1, K7, (Nat.le_trans (Nat.le_refl _) P1_0), P1_1, P1_2, P1_3, P1_4, P1_5⟩)
theorem pn_27 : plainName "java/lang/AbstractStringBuilder" = true := by first | (simp [plainName, overriddenIn]; done) | decide +kernel
theorem d27_0 : decode jdk_68_method_64_code 0 = .ok (.aload_n 0, 1) := by decide +kernel
theorem d27_1 : decode jdk_68_method_64_code 1 = .ok (.getfield 15, 3) := by decide +kernel
theorem d27_4 : decode jdk_68_method_64_code 4 = .ok (.areturn, 1) := by decide +kernel
theorem ef_rm27 (m : MethodId) (a1 : Addr) : entryFrame m #[(.ref a1)] 1 = mkF m 0 #[oR a1] [] := by first | (simp [entryFrame, mkF, argsToLocals, Value.category]; done) | rfl
def Q_rm27 (Z : State) (a1 : Addr) (va : Addr) (h0 : Heap) (n0 : Nat) (v : Option Value) (h : Heap) (L : List Loc) : Prop := (v = some (.ref va)) ∧ (Fr n0 L) ∧ (h = h0)
set_option maxRecDepth 65536 in
set_option maxHeartbeats 40000000 in
theorem rm27 (l : Launch) (Z : State) (a0 : Array Value) (hw : ∀ d ∈ tables_1, d.before a0 Z = true) (ws : List Jvm.Cond) (a1 : Addr) (va : Addr) (h0 : Heap) (n0 : Nat) (Z0 : n0 ≤ h0.size) (P0 : Fld Z h0 a1 "java/lang/AbstractStringBuilder" "value" "[B" (.ref va)) :
    MetFree l (⟨"java/lang/AbstractStringBuilder", "getValue", "()[B"⟩ : MethodName) (head1 (Jvm.Cond.code (⟨"java/lang/AbstractStringBuilder", "getValue", "()[B"⟩ : MethodName) jdk_68_method_64_code 1 (some (.array .byte)) :: ws) ({ frames := 0, cells := 0, slots := 0, locals := 0 } : Room)) (fun a U => a = #[(.ref a1)] ∧ Z.Warmed39 U.vm ∧ U.heap = h0) (fun _ _ _ _ _ => True) (fun _ U o U' => ∃ v L, o = .returned v ∧ Q_rm27 Z a1 va h0 n0 v U'.heap L ∧ FrameEnd U o U' L ({ frames := 0, cells := 0, slots := 0, locals := 0 } : Room).cells ({ frames := 0, cells := 0, slots := 0, locals := 0 } : Room).slots) := by
  refine MetFree.of_bodySF (plainFor_of_name pn_27) hisR ?_
  intro p e s m args below meth c s₁ Bd hml0 hP hK
  obtain ⟨rfl, hZ, hh⟩ := hP
  have hx := Bd.exec
  have hby := Bd.bytes
  have hml : c.maxLocals = 1 := hml0
  have hown : s.vm.findClass "java/lang/AbstractStringBuilder" = some m.cls := findClass_of_methodNamed Bd.named
  have hnm := (name_of_methodNamed Bd.named Bd.method).1
  have hlk := Bd.notSynchronized
  have X0 : Stand p l e ({ frames := 0, cells := 0, slots := 0, locals := 0 } : Room) s m #[(.ref a1)] below meth c s₁ [] 0 0 := Stand.of_body Bd
  have e0 : s₁.heap = h0 := by rw [← hh, Bd.state]; rfl
  have N0 := Fr.nil n0
  refine Wp.goal (Post := (fun o U' => ∃ v L, o = .returned v ∧ Q_rm27 Z a1 va h0 n0 v U'.heap L ∧ FrameEnd s o U' L ({ frames := 0, cells := 0, slots := 0, locals := 0 } : Room).cells ({ frames := 0, cells := 0, slots := 0, locals := 0 } : Room).slots)) (Wp.st (S' := s₁.setTop (mkF m 0 #[oR a1] [])) (fun tt_ kk_ => castTop (ef_rm27 m a1 ) kk_) ?_)
  refine Wp.st (S' := s₁.setTop (mkF m 1 #[oR a1] [(.ref a1)])) (fun tt_ kk_ => XS.aloadN X0.here hx rfl (hb hby d27_0) rfl rfl kk_) ?_
  obtain ⟨T1, X1, e1, st1⟩ := getF X0 hx hZ hown (host := "") (Or.inl (hw _ (List.mem_of_getElem? (i := 57) rfl))) Via.refl e0 P0 (g := (mkF m 1 #[oR a1] [(.ref a1)])) rfl rfl (hb hby d27_1)
  refine Wp.st (S' := T1.setTop (mkF m 4 #[oR a1] [(.ref va)])) st1 ?_
  exact Wp.ret X1 hlk (v := (some (.ref va))) (fun h => by rw [Bd.returns] at h; cases h) (fun fs hr => retOut X1 hx Bd.returns rfl (Or.inr (Or.inr (Or.inr (Or.inr ⟨rfl, rfl, rfl⟩)))) (hb hby d27_4) hr) (by decide) (by decide) (show Q_rm27 Z a1 va h0 n0 _ T1.heap _ by rw [e1]; exact ⟨rfl, N0, rfl⟩)
theorem pn_29 : plainName "java/lang/AbstractStringBuilder" = true := by first | (simp [plainName, overriddenIn]; done) | decide +kernel
theorem d29_0 : decode jdk_68_method_6_code 0 = .ok (.aload_n 0, 1) := by decide +kernel
theorem d29_1 : decode jdk_68_method_6_code 1 = .ok (.getfield 79, 3) := by decide +kernel
theorem d29_4 : decode jdk_68_method_6_code 4 = .ok (.ireturn, 1) := by decide +kernel
theorem ef_rm29 (m : MethodId) (a1 : Addr) : entryFrame m #[(.ref a1)] 1 = mkF m 0 #[oR a1] [] := by first | (simp [entryFrame, mkF, argsToLocals, Value.category]; done) | rfl
def Q_rm29 (Z : State) (a1 : Addr) (ct : Int32) (h0 : Heap) (n0 : Nat) (v : Option Value) (h : Heap) (L : List Loc) : Prop := (v = some (.int ct)) ∧ (Fr n0 L) ∧ (h = h0)
set_option maxRecDepth 65536 in
set_option maxHeartbeats 40000000 in
theorem rm29 (l : Launch) (Z : State) (a0 : Array Value) (hw : ∀ d ∈ tables_1, d.before a0 Z = true) (ws : List Jvm.Cond) (a1 : Addr) (ct : Int32) (h0 : Heap) (n0 : Nat) (Z0 : n0 ≤ h0.size) (P0 : Fld Z h0 a1 "java/lang/AbstractStringBuilder" "count" "I" (.int ct)) :
    MetFree l (⟨"java/lang/AbstractStringBuilder", "length", "()I"⟩ : MethodName) (head1 (Jvm.Cond.code (⟨"java/lang/AbstractStringBuilder", "length", "()I"⟩ : MethodName) jdk_68_method_6_code 1 (some .int) :: ws) ({ frames := 0, cells := 0, slots := 0, locals := 0 } : Room)) (fun a U => a = #[(.ref a1)] ∧ Z.Warmed39 U.vm ∧ U.heap = h0) (fun _ _ _ _ _ => True) (fun _ U o U' => ∃ v L, o = .returned v ∧ Q_rm29 Z a1 ct h0 n0 v U'.heap L ∧ FrameEnd U o U' L ({ frames := 0, cells := 0, slots := 0, locals := 0 } : Room).cells ({ frames := 0, cells := 0, slots := 0, locals := 0 } : Room).slots) := by
  refine MetFree.of_bodySF (plainFor_of_name pn_29) hisR ?_
  intro p e s m args below meth c s₁ Bd hml0 hP hK
  obtain ⟨rfl, hZ, hh⟩ := hP
  have hx := Bd.exec
  have hby := Bd.bytes
  have hml : c.maxLocals = 1 := hml0
  have hown : s.vm.findClass "java/lang/AbstractStringBuilder" = some m.cls := findClass_of_methodNamed Bd.named
  have hnm := (name_of_methodNamed Bd.named Bd.method).1
  have hlk := Bd.notSynchronized
  have X0 : Stand p l e ({ frames := 0, cells := 0, slots := 0, locals := 0 } : Room) s m #[(.ref a1)] below meth c s₁ [] 0 0 := Stand.of_body Bd
  have e0 : s₁.heap = h0 := by rw [← hh, Bd.state]; rfl
  have N0 := Fr.nil n0
  refine Wp.goal (Post := (fun o U' => ∃ v L, o = .returned v ∧ Q_rm29 Z a1 ct h0 n0 v U'.heap L ∧ FrameEnd s o U' L ({ frames := 0, cells := 0, slots := 0, locals := 0 } : Room).cells ({ frames := 0, cells := 0, slots := 0, locals := 0 } : Room).slots)) (Wp.st (S' := s₁.setTop (mkF m 0 #[oR a1] [])) (fun tt_ kk_ => castTop (ef_rm29 m a1 ) kk_) ?_)
  refine Wp.st (S' := s₁.setTop (mkF m 1 #[oR a1] [(.ref a1)])) (fun tt_ kk_ => XS.aloadN X0.here hx rfl (hb hby d29_0) rfl rfl kk_) ?_
  obtain ⟨T1, X1, e1, st1⟩ := getF X0 hx hZ hown (host := "") (Or.inl (hw _ (List.mem_of_getElem? (i := 82) rfl))) Via.refl e0 P0 (g := (mkF m 1 #[oR a1] [(.ref a1)])) rfl rfl (hb hby d29_1)
  refine Wp.st (S' := T1.setTop (mkF m 4 #[oR a1] [(.int ct)])) st1 ?_
  exact Wp.ret X1 hlk (v := (some (.int ct))) (fun h => by rw [Bd.returns] at h; cases h) (fun fs hr => retI X1 hx Bd.returns (hb hby d29_4) hr) (by decide) (by decide) (show Q_rm29 Z a1 ct h0 n0 _ T1.heap _ by rw [e1]; exact ⟨rfl, N0, rfl⟩)
theorem pn_28 : plainName "java/lang/StringBuilder" = true := by first | (simp [plainName, overriddenIn]; done) | decide +kernel
theorem d28_0 : decode jdk_67_method_93_code 0 = .ok (.aload_n 0, 1) := by decide +kernel
theorem d28_1 : decode jdk_67_method_93_code 1 = .ok (.invokespecial 343, 3) := by decide +kernel
theorem d28_4 : decode jdk_67_method_93_code 4 = .ok (.ireturn, 1) := by decide +kernel
theorem ef_rm28 (m : MethodId) (a1 : Addr) : entryFrame m #[(.ref a1)] 1 = mkF m 0 #[oR a1] [] := by first | (simp [entryFrame, mkF, argsToLocals, Value.category]; done) | rfl
def Q_rm28 (Z : State) (a1 : Addr) (ct : Int32) (h0 : Heap) (n0 : Nat) (v : Option Value) (h : Heap) (L : List Loc) : Prop := (v = some (.int ct)) ∧ (Fr n0 L) ∧ (h = h0)
set_option maxRecDepth 65536 in
set_option maxHeartbeats 40000000 in
theorem rm28 (l : Launch) (Z : State) (a0 : Array Value) (hw : ∀ d ∈ tables_1, d.before a0 Z = true) (ws : List Jvm.Cond) (a1 : Addr) (ct : Int32) (h0 : Heap) (n0 : Nat) (Z0 : n0 ≤ h0.size) (P0 : Exa Z h0 a1 "java/lang/StringBuilder") (P1 : Fld Z h0 a1 "java/lang/AbstractStringBuilder" "count" "I" (.int ct)) :
    MetFree l (⟨"java/lang/StringBuilder", "length", "()I"⟩ : MethodName) (head1 (Jvm.Cond.code (⟨"java/lang/StringBuilder", "length", "()I"⟩ : MethodName) jdk_67_method_93_code 1 (some .int) :: ws) ({ frames := 1, cells := 0, slots := 0, locals := 12 } : Room)) (fun a U => a = #[(.ref a1)] ∧ Z.Warmed39 U.vm ∧ U.heap = h0) (fun _ _ _ _ _ => True) (fun _ U o U' => ∃ v L, o = .returned v ∧ Q_rm28 Z a1 ct h0 n0 v U'.heap L ∧ FrameEnd U o U' L ({ frames := 1, cells := 0, slots := 0, locals := 12 } : Room).cells ({ frames := 1, cells := 0, slots := 0, locals := 12 } : Room).slots) := by
  refine MetFree.of_bodySF (plainFor_of_name pn_28) hisR ?_
  intro p e s m args below meth c s₁ Bd hml0 hP hK
  obtain ⟨rfl, hZ, hh⟩ := hP
  have hx := Bd.exec
  have hby := Bd.bytes
  have hml : c.maxLocals = 1 := hml0
  have hown : s.vm.findClass "java/lang/StringBuilder" = some m.cls := findClass_of_methodNamed Bd.named
  have hnm := (name_of_methodNamed Bd.named Bd.method).1
  have hlk := Bd.notSynchronized
  have X0 : Stand p l e ({ frames := 1, cells := 0, slots := 0, locals := 12 } : Room) s m #[(.ref a1)] below meth c s₁ [] 0 0 := Stand.of_body Bd
  have e0 : s₁.heap = h0 := by rw [← hh, Bd.state]; rfl
  have N0 := Fr.nil n0
  refine Wp.goal (Post := (fun o U' => ∃ v L, o = .returned v ∧ Q_rm28 Z a1 ct h0 n0 v U'.heap L ∧ FrameEnd s o U' L ({ frames := 1, cells := 0, slots := 0, locals := 12 } : Room).cells ({ frames := 1, cells := 0, slots := 0, locals := 12 } : Room).slots)) (Wp.st (S' := s₁.setTop (mkF m 0 #[oR a1] [])) (fun tt_ kk_ => castTop (ef_rm28 m a1 ) kk_) ?_)
  refine Wp.st (S' := s₁.setTop (mkF m 1 #[oR a1] [(.ref a1)])) (fun tt_ kk_ => XS.aloadN X0.here hx rfl (hb hby d28_0) rfl rfl kk_) ?_
  obtain ⟨vv1, _, ⟨T1, L1, k1, n1⟩, -, X1, ⟨Lc1, hQ1, l1, y1, z1⟩, st1⟩ := superBack X0 hx hZ (y := (⟨"java/lang/AbstractStringBuilder", "length", "()I"⟩ : MethodName)) hown (hw _ (List.mem_of_getElem? (i := 156) rfl)) (own_same (hw _ (List.mem_of_getElem? (i := 87) rfl)) (hw _ (List.mem_of_getElem? (i := 152) rfl))) (hw _ (List.mem_of_getElem? (i := 152) rfl)) (hw _ (List.mem_of_getElem? (i := 69) rfl)) (by decide) (backOf (W := 0) (rm29 l Z a0 hw [] a1 ct h0 n0 Z0 P1) hZ (hw _ (List.mem_of_getElem? (i := 157) rfl)) (hw _ (List.mem_of_getElem? (i := 53) rfl)) (by decide) (by decide)) e0 (Ins.self P0) (g := (mkF m 1 #[oR a1] [(.ref a1)])) rfl (by rw [hml]; rfl) (hw _ (List.mem_of_getElem? (i := 157) rfl)) (argsL := []) (rest := []) (lenOf pd_7 rfl) rfl (by show 2 * 0 + _ ≤ _; exact Nat.le_of_eq rfl) (hb hby d28_1) (fun _ _ => ⟨rfl, e0, (by decide : 0 + 0 ≤ _), (by decide : 0 + 0 ≤ _)⟩)
  dsimp only [Pt.U, Pt.locs, Pt.cells, Pt.slots] at X1 l1 y1 z1 st1 hQ1
  subst l1 y1 z1
  obtain ⟨rfl, Nq1, e1⟩ := hQ1
  have N1 := Fr.app N0 Nq1
  refine Wp.tr (S' := T1.setTop (mkF m 4 #[oR a1] [(.int ct)])) st1 ?_
  exact Wp.ret X1 hlk (v := (some (.int ct))) (fun h => by rw [Bd.returns] at h; cases h) (fun fs hr => retI X1 hx Bd.returns (hb hby d28_4) hr) (by decide) (by decide) (show Q_rm28 Z a1 ct h0 n0 _ T1.heap _ by rw [e1]; exact ⟨rfl, N1, rfl⟩)
theorem pn_30 : plainName "java/lang/AbstractStringBuilder" = true := by first | (simp [plainName, overriddenIn]; done) | decide +kernel
theorem d30_0 : decode jdk_68_method_68_code 0 = .ok (.getstatic 18, 3) := by decide +kernel
theorem d30_3 : decode jdk_68_method_68_code 3 = .ok (.ifCond .eq 14, 3) := by decide +kernel
theorem d30_6 : decode jdk_68_method_68_code 6 = .ok (.aload_n 0, 1) := by decide +kernel
theorem d30_7 : decode jdk_68_method_68_code 7 = .ok (.getfield 22, 3) := by decide +kernel
theorem d30_10 : decode jdk_68_method_68_code 10 = .ok (.ifCond .ne 7, 3) := by decide +kernel
theorem d30_13 : decode jdk_68_method_68_code 13 = .ok (.iconst 1, 1) := by decide +kernel
theorem d30_14 : decode jdk_68_method_68_code 14 = .ok (.goto 4, 3) := by decide +kernel
theorem d30_18 : decode jdk_68_method_68_code 18 = .ok (.ireturn, 1) := by decide +kernel
theorem ef_rm30 (m : MethodId) (a1 : Addr) : entryFrame m #[(.ref a1)] 1 = mkF m 0 #[oR a1] [] := by first | (simp [entryFrame, mkF, argsToLocals, Value.category]; done) | rfl
def Q_rm30 (Z : State) (a1 : Addr) (zcs : Int32) (h0 : Heap) (n0 : Nat) (v : Option Value) (h : Heap) (L : List Loc) : Prop := (v = some (.int (1 : Int32))) ∧ (Fr n0 L) ∧ (h = h0)
set_option maxRecDepth 65536 in
set_option maxHeartbeats 40000000 in
theorem rm30 (l : Launch) (Z : State) (a0 : Array Value) (hw : ∀ d ∈ tables_1, d.before a0 Z = true) (ws : List Jvm.Cond) (a1 : Addr) (zcs : Int32) (h0 : Heap) (n0 : Nat) (Z0 : n0 ≤ h0.size) (O0 : Jvm.RoadKit.Old Z n0 h0) (SCompact : Sta Z Z.heap "java/lang/String" "COMPACT_STRINGS" "Z" (.int zcs)) (hCS : ¬ zcs = 0) (P3 : Fld Z h0 a1 "java/lang/AbstractStringBuilder" "coder" "B" (.int (0 : Int32))) :
    MetFree l (⟨"java/lang/AbstractStringBuilder", "isLatin1", "()Z"⟩ : MethodName) (head1 (Jvm.Cond.code (⟨"java/lang/AbstractStringBuilder", "isLatin1", "()Z"⟩ : MethodName) jdk_68_method_68_code 1 (some .boolean) :: ws) ({ frames := 0, cells := 0, slots := 0, locals := 0 } : Room)) (fun a U => a = #[(.ref a1)] ∧ Z.Warmed39 U.vm ∧ U.heap = h0) (fun _ _ _ _ _ => True) (fun _ U o U' => ∃ v L, o = .returned v ∧ Q_rm30 Z a1 zcs h0 n0 v U'.heap L ∧ FrameEnd U o U' L ({ frames := 0, cells := 0, slots := 0, locals := 0 } : Room).cells ({ frames := 0, cells := 0, slots := 0, locals := 0 } : Room).slots) := by
  refine MetFree.of_bodySF (plainFor_of_name pn_30) hisR ?_
  intro p e s m args below meth c s₁ Bd hml0 hP hK
  obtain ⟨rfl, hZ, hh⟩ := hP
  have hx := Bd.exec
  have hby := Bd.bytes
  have hml : c.maxLocals = 1 := hml0
  have hown : s.vm.findClass "java/lang/AbstractStringBuilder" = some m.cls := findClass_of_methodNamed Bd.named
  have hnm := (name_of_methodNamed Bd.named Bd.method).1
  have hlk := Bd.notSynchronized
  have X0 : Stand p l e ({ frames := 0, cells := 0, slots := 0, locals := 0 } : Room) s m #[(.ref a1)] below meth c s₁ [] 0 0 := Stand.of_body Bd
  have e0 : s₁.heap = h0 := by rw [← hh, Bd.state]; rfl
  have N0 := Fr.nil n0
  refine Wp.goal (Post := (fun o U' => ∃ v L, o = .returned v ∧ Q_rm30 Z a1 zcs h0 n0 v U'.heap L ∧ FrameEnd s o U' L ({ frames := 0, cells := 0, slots := 0, locals := 0 } : Room).cells ({ frames := 0, cells := 0, slots := 0, locals := 0 } : Room).slots)) (Wp.st (S' := s₁.setTop (mkF m 0 #[oR a1] [])) (fun tt_ kk_ => castTop (ef_rm30 m a1 ) kk_) ?_)
  obtain ⟨T1, X1, e1, st1⟩ := getS2 X0 hx hZ hown (host := "") (Or.inl (hw _ (List.mem_of_getElem? (i := 56) rfl))) Via.refl e0 (SCompact.ext O0.2) (g := (mkF m 0 #[oR a1] [])) rfl (hb hby d30_0)
  refine Wp.st (S' := T1.setTop (mkF m 3 #[oR a1] [(.int zcs)])) st1 ?_
  refine Wp.st (S' := T1.setTop (mkF m 6 #[oR a1] [])) (fun tt_ kk_ => XS.ifNo X1.here hx rfl (hb hby d30_3) rfl ((if0 _ _).trans (feq (hCS : ¬ (zcs = (0 : Int32)))).1) kk_) ?_
  refine Wp.st (S' := T1.setTop (mkF m 7 #[oR a1] [(.ref a1)])) (fun tt_ kk_ => XS.aloadN X1.here hx rfl (hb hby d30_6) rfl rfl kk_) ?_
  obtain ⟨T2, X2, e2, st2⟩ := getF X1 hx hZ hown (host := "") (Or.inl (hw _ (List.mem_of_getElem? (i := 59) rfl))) Via.refl e1 P3 (g := (mkF m 7 #[oR a1] [(.ref a1)])) rfl rfl (hb hby d30_7)
  refine Wp.st (S' := T2.setTop (mkF m 10 #[oR a1] [(.int (0 : Int32))])) st2 ?_
  refine Wp.st (S' := T2.setTop (mkF m 13 #[oR a1] [])) (fun tt_ kk_ => XS.ifNo X2.here hx rfl (hb hby d30_10) rfl ((if0 _ _).trans (teq ((by decide) : (0 : Int32) = (0 : Int32))).2) kk_) ?_
  refine Wp.st (S' := T2.setTop (mkF m 14 #[oR a1] [(.int (1 : Int32))])) (fun tt_ kk_ => XS.iconst X2.here hx rfl (hb hby d30_13) kk_) ?_
  refine Wp.st (S' := T2.setTop (mkF m 18 #[oR a1] [(.int (1 : Int32))])) (fun tt_ kk_ => XS.goto X2.here hx rfl (pc0 := 14) (pc' := 18) rfl (hb hby d30_14) (by decide) (by decide) kk_) ?_
  exact Wp.ret X2 hlk (v := (some (.int (1 : Int32)))) (fun h => by rw [Bd.returns] at h; cases h) (fun fs hr => retN (z := (1 : Int32)) X2 hx (t := .boolean) Bd.returns (by simp) (hb hby d30_18) hr) (by decide) (by decide) (show Q_rm30 Z a1 zcs h0 n0 _ T2.heap _ by rw [e2]; exact ⟨rfl, N0, rfl⟩)
theorem pn_31 : plainName "java/util/Arrays" = true := by first | (simp [plainName, overriddenIn]; done) | decide +kernel
theorem d31_0 : decode jdk_65_method_132_code 0 = .ok (.iload_n 1, 1) := by decide +kernel
theorem d31_1 : decode jdk_65_method_132_code 1 = .ok (.ifCond .ne 9, 3) := by decide +kernel
theorem d31_4 : decode jdk_65_method_132_code 4 = .ok (.iload_n 2, 1) := by decide +kernel
theorem d31_5 : decode jdk_65_method_132_code 5 = .ok (.aload_n 0, 1) := by decide +kernel
theorem d31_6 : decode jdk_65_method_132_code 6 = .ok (.arraylength, 1) := by decide +kernel
theorem d31_7 : decode jdk_65_method_132_code 7 = .ok (.if_icmp .eq 10, 3) := by decide +kernel
theorem d31_17 : decode jdk_65_method_132_code 17 = .ok (.aload_n 0, 1) := by decide +kernel
theorem d31_18 : decode jdk_65_method_132_code 18 = .ok (.invokevirtual 310, 3) := by decide +kernel
theorem d31_21 : decode jdk_65_method_132_code 21 = .ok (.checkcast 311, 3) := by decide +kernel
theorem d31_24 : decode jdk_65_method_132_code 24 = .ok (.areturn, 1) := by decide +kernel
theorem ef_rm31 (m : MethodId) (a1 : Addr) (ct : Int32) : entryFrame m #[(.ref a1), (.int (0 : Int32)), (.int ct)] 3 = mkF m 0 #[oR a1, oI (0 : Int32), oI ct] [] := by first | (simp [entryFrame, mkF, argsToLocals, Value.category]; done) | rfl
def Q_rm31 (Z : State) (a1 : Addr) (ct : Int32) (kd : ClassId) (vd : List Value) (h0 : Heap) (n0 : Nat) (v : Option Value) (h : Heap) (L : List Loc) : Prop := ∃ b : Addr, (v = some (.ref b)) ∧ (Fr n0 L) ∧ (Keep h0 h []) ∧ (h0.size ≤ b) ∧ (Arv Z h b kd .byte ct vd (.int (0 : Int32)))
set_option maxRecDepth 65536 in
set_option maxHeartbeats 40000000 in
theorem rm31 (l : Launch) (Z : State) (a0 : Array Value) (hw : ∀ d ∈ tables_1, d.before a0 Z = true) (ws : List Jvm.Cond) (a1 : Addr) (ct : Int32) (kd : ClassId) (vd : List Value) (h0 : Heap) (n0 : Nat) (Z0 : n0 ≤ h0.size) (P0 : Exa Z h0 a1 "[B") (P1 : Arv Z h0 a1 kd .byte ct vd (.int (0 : Int32))) (hct : ct = (34 : Int32) ∨ ct = (35 : Int32) ∨ ct = (36 : Int32) ∨ ct = (37 : Int32)) :
    MetFree l (⟨"java/util/Arrays", "copyOfRange", "([BII)[B"⟩ : MethodName) (head1 (Jvm.Cond.code (⟨"java/util/Arrays", "copyOfRange", "([BII)[B"⟩ : MethodName) jdk_65_method_132_code 3 (some (.array .byte)) :: ws) ({ frames := 1, cells := 1, slots := 37, locals := 14 } : Room)) (fun a U => a = #[(.ref a1), (.int (0 : Int32)), (.int ct)] ∧ Z.Warmed39 U.vm ∧ U.heap = h0) (fun _ _ _ _ _ => True) (fun _ U o U' => ∃ v L, o = .returned v ∧ Q_rm31 Z a1 ct kd vd h0 n0 v U'.heap L ∧ FrameEnd U o U' L ({ frames := 1, cells := 1, slots := 37, locals := 14 } : Room).cells ({ frames := 1, cells := 1, slots := 37, locals := 14 } : Room).slots) := by
  refine MetFree.of_bodySF (plainFor_of_name pn_31) hisR ?_
  intro p e s m args below meth c s₁ Bd hml0 hP hK
  obtain ⟨rfl, hZ, hh⟩ := hP
  have hx := Bd.exec
  have hby := Bd.bytes
  have hml : c.maxLocals = 3 := hml0
  have hown : s.vm.findClass "java/util/Arrays" = some m.cls := findClass_of_methodNamed Bd.named
  have hnm := (name_of_methodNamed Bd.named Bd.method).1
  have hlk := Bd.notSynchronized
  have X0 : Stand p l e ({ frames := 1, cells := 1, slots := 37, locals := 14 } : Room) s m #[(.ref a1), (.int (0 : Int32)), (.int ct)] below meth c s₁ [] 0 0 := Stand.of_body Bd
  have e0 : s₁.heap = h0 := by rw [← hh, Bd.state]; rfl
  have N0 := Fr.nil n0
  refine Wp.goal (Post := (fun o U' => ∃ v L, o = .returned v ∧ Q_rm31 Z a1 ct kd vd h0 n0 v U'.heap L ∧ FrameEnd s o U' L ({ frames := 1, cells := 1, slots := 37, locals := 14 } : Room).cells ({ frames := 1, cells := 1, slots := 37, locals := 14 } : Room).slots)) (Wp.st (S' := s₁.setTop (mkF m 0 #[oR a1, oI (0 : Int32), oI ct] [])) (fun tt_ kk_ => castTop (ef_rm31 m a1 ct ) kk_) ?_)
  refine Wp.st (S' := s₁.setTop (mkF m 1 #[oR a1, oI (0 : Int32), oI ct] [(.int (0 : Int32))])) (fun tt_ kk_ => XS.iloadN X0.here hx rfl (hb hby d31_0) rfl  kk_) ?_
  refine Wp.st (S' := s₁.setTop (mkF m 4 #[oR a1, oI (0 : Int32), oI ct] [])) (fun tt_ kk_ => XS.ifNo X0.here hx rfl (hb hby d31_1) rfl ((if0 _ _).trans (teq ((by decide) : (0 : Int32) = (0 : Int32))).2) kk_) ?_
  refine Wp.st (S' := s₁.setTop (mkF m 5 #[oR a1, oI (0 : Int32), oI ct] [(.int ct)])) (fun tt_ kk_ => XS.iloadN X0.here hx rfl (hb hby d31_4) rfl  kk_) ?_
  refine Wp.st (S' := s₁.setTop (mkF m 6 #[oR a1, oI (0 : Int32), oI ct] [(.ref a1), (.int ct)])) (fun tt_ kk_ => XS.aloadN X0.here hx rfl (hb hby d31_5) rfl rfl kk_) ?_
  obtain ⟨cl1, Ar1, q1, S1, N1, H1, G1⟩ := id P1
  refine Wp.st (S' := s₁.setTop (mkF m 7 #[oR a1, oI (0 : Int32), oI ct] [(.int ct), (.int ct)])) (fun tt_ kk_ => X0.arraylength hx (by rw [e0]; exact Ar1.1) (State.isArrayOf_alike hZ.alike Ar1.2.1) (g := (mkF m 6 #[oR a1, oI (0 : Int32), oI ct] [(.ref a1), (.int ct)])) rfl rfl (hb hby d31_6) tt_ (by rw [len_of S1 N1]; exact kk_)) ?_
  refine Wp.st (S' := s₁.setTop (mkF m 17 #[oR a1, oI (0 : Int32), oI ct] [])) (fun tt_ kk_ => XS.icmpYes X0.here hx rfl (pc0 := 7) (pc' := 17) rfl (hb hby d31_7) rfl (teq (rfl : ct = ct)).1 (by decide) (by decide) kk_) ?_
  refine Wp.st (S' := s₁.setTop (mkF m 18 #[oR a1, oI (0 : Int32), oI ct] [(.ref a1)])) (fun tt_ kk_ => XS.aloadN X0.here hx rfl (hb hby d31_17) rfl rfl kk_) ?_
  obtain ⟨T2, h2, X2, e2, E2, A2, Ea2, st2⟩ := cloneH X0 hx hZ hown (hw _ (List.mem_of_getElem? (i := 166) rfl)) (hw _ (List.mem_of_getElem? (i := 167) rfl)) (hw _ (List.mem_of_getElem? (i := 171) rfl)) (hw _ (List.mem_of_getElem? (i := 169) rfl)) (hw _ (List.mem_of_getElem? (i := 170) rfl)) (hw _ (List.mem_of_getElem? (i := 172) rfl)) e0 (show Arh Z _ _ _ _ _ [] _ _ from P1) P0 (g := (mkF m 18 #[oR a1, oI (0 : Int32), oI ct] [(.ref a1)])) rfl (by rw [hml]; rfl) rfl (hb hby d31_18) (by decide) (W := 0) (cap := 37) (by show 2 * 0 + _ ≤ _; exact Nat.le_of_eq rfl) (by decide) (by rcases hct with rfl | rfl | rfl | rfl <;> decide) (by decide) (by decide)
  obtain ⟨b2, g2⟩ : ∃ z, z = h0.size := ⟨_, rfl⟩
  rw [← g2] at A2 Ea2 st2
  have z3 := E2.1
  have V2 : Arv Z h2 b2 kd .byte ct vd (.int (0 : Int32)) := A2
  have g4 : n0 ≤ b2 := Nat.le_trans (Nat.le_trans Z0 (Nat.le_refl _)) (Nat.le_of_eq g2.symm)
  refine Wp.st (S' := T2.setTop (mkF m 21 #[oR a1, oI (0 : Int32), oI ct] [(.ref b2)])) st2 ?_
  obtain ⟨T5, X5, e5, st5⟩ := castY X2 hx hZ hown (hw _ (List.mem_of_getElem? (i := 173) rfl)) e2 (Ins.self Ea2) (g := (mkF m 21 #[oR a1, oI (0 : Int32), oI ct] [(.ref b2)])) rfl rfl (hb hby d31_21)
  refine Wp.st (S' := T5.setTop (mkF m 24 #[oR a1, oI (0 : Int32), oI ct] [(.ref b2)])) st5 ?_
  have K6 := Keep.refl h0 []
  have K7 := K6.ext E2
  exact Wp.ret X5 hlk (v := (some (.ref b2))) (fun h => by rw [Bd.returns] at h; cases h) (fun fs hr => retOut X5 hx Bd.returns rfl (Or.inr (Or.inr (Or.inr (Or.inr ⟨rfl, rfl, rfl⟩)))) (hb hby d31_24) hr) (by decide) (by decide) (show Q_rm31 Z a1 ct kd vd h0 n0 _ T5.heap _ by rw [e5]; exact ⟨b2, rfl, N0, K7, (Nat.le_trans (Nat.le_refl _) (Nat.le_of_eq g2.symm)), V2⟩)
theorem pn_26 : plainName "java/lang/String" = true := by first | (simp [plainName, overriddenIn]; done) | decide +kernel
theorem d26_0 : decode jdk_42_method_150_code 0 = .ok (.aload_n 0, 1) := by decide +kernel
theorem d26_1 : decode jdk_42_method_150_code 1 = .ok (.invokespecial 1, 3) := by decide +kernel
theorem d26_4 : decode jdk_42_method_150_code 4 = .ok (.aload_n 1, 1) := by decide +kernel
theorem d26_5 : decode jdk_42_method_150_code 5 = .ok (.invokevirtual 552, 3) := by decide +kernel
theorem pd_11 : parseMethodDescriptor "()[B" = some ⟨[], some (.array .byte)⟩ := by decide +kernel
theorem d26_8 : decode jdk_42_method_150_code 8 = .ok (.astore_n 3, 1) := by decide +kernel
theorem d26_9 : decode jdk_42_method_150_code 9 = .ok (.aload_n 1, 1) := by decide +kernel
theorem d26_10 : decode jdk_42_method_150_code 10 = .ok (.invokevirtual 549, 3) := by decide +kernel
theorem d26_13 : decode jdk_42_method_150_code 13 = .ok (.istore 4, 2) := by decide +kernel
theorem d26_15 : decode jdk_42_method_150_code 15 = .ok (.aload_n 1, 1) := by decide +kernel
theorem d26_16 : decode jdk_42_method_150_code 16 = .ok (.invokevirtual 1047, 3) := by decide +kernel
theorem pd_12 : parseMethodDescriptor "()Z" = some ⟨[], some .boolean⟩ := by decide +kernel
theorem d26_19 : decode jdk_42_method_150_code 19 = .ok (.ifCond .eq 22, 3) := by decide +kernel
theorem d26_22 : decode jdk_42_method_150_code 22 = .ok (.aload_n 0, 1) := by decide +kernel
theorem d26_23 : decode jdk_42_method_150_code 23 = .ok (.iconst 0, 1) := by decide +kernel
theorem d26_24 : decode jdk_42_method_150_code 24 = .ok (.putfield 15, 3) := by decide +kernel
theorem d26_27 : decode jdk_42_method_150_code 27 = .ok (.aload_n 0, 1) := by decide +kernel
theorem d26_28 : decode jdk_42_method_150_code 28 = .ok (.aload_n 3, 1) := by decide +kernel
theorem d26_29 : decode jdk_42_method_150_code 29 = .ok (.iconst 0, 1) := by decide +kernel
theorem d26_30 : decode jdk_42_method_150_code 30 = .ok (.iload 4, 2) := by decide +kernel
theorem d26_32 : decode jdk_42_method_150_code 32 = .ok (.invokestatic 54, 3) := by decide +kernel
theorem pd_13 : parseMethodDescriptor "([BII)[B" = some ⟨[(.array .byte), .int, .int], some (.array .byte)⟩ := by decide +kernel
theorem d26_35 : decode jdk_42_method_150_code 35 = .ok (.putfield 9, 3) := by decide +kernel
theorem d26_38 : decode jdk_42_method_150_code 38 = .ok (.goto 59, 3) := by decide +kernel
theorem d26_97 : decode jdk_42_method_150_code 97 = .ok (.return_, 1) := by decide +kernel
theorem ef_rm26 (m : MethodId) (a1 : Addr) (a2 : Addr) : entryFrame m #[(.ref a1), (.ref a2), .null] 5 = mkF m 0 #[oR a1, oR a2, .val .null, oU, oU] [] := by first | (simp [entryFrame, mkF, argsToLocals, Value.category]; done) | rfl
def Q_rm26 (Z : State) (a1 : Addr) (a2 : Addr) (zcs : Int32) (va : Addr) (ct : Int32) (kd : ClassId) (vd : List Value) (h0 : Heap) (n0 : Nat) (v : Option Value) (h : Heap) (L : List Loc) : Prop := ∃ tb : Addr, (v = none) ∧ (Fr n0 L) ∧ (Keep h0 h [a1]) ∧ (h0.size ≤ tb) ∧ (Exa Z h a1 "java/lang/String") ∧ (Fld Z h a1 "java/lang/String" "value" "[B" (.ref tb)) ∧ (Fld Z h a1 "java/lang/String" "coder" "B" (.int (0 : Int32))) ∧ (Arv Z h tb kd .byte ct vd (.int (0 : Int32)))
set_option maxRecDepth 65536 in
set_option maxHeartbeats 40000000 in
theorem rm26 (l : Launch) (Z : State) (a0 : Array Value) (hw : ∀ d ∈ tables_1, d.before a0 Z = true) (ws : List Jvm.Cond) (a1 : Addr) (a2 : Addr) (zcs : Int32) (va : Addr) (ct : Int32) (kd : ClassId) (vd : List Value) (h0 : Heap) (n0 : Nat) (Z0 : n0 ≤ h0.size) (g_a1 : n0 ≤ a1) (P1 : Exa Z h0 a1 "java/lang/String") (P2 : Fld Z h0 a1 "java/lang/String" "value" "[B" .null) (P3 : Fld Z h0 a1 "java/lang/String" "coder" "B" (.int (0 : Int32))) (O0 : Jvm.RoadKit.Old Z n0 h0) (SCompact : Sta Z Z.heap "java/lang/String" "COMPACT_STRINGS" "Z" (.int zcs)) (hCS : ¬ zcs = 0) (P7 : Exa Z h0 a2 "java/lang/StringBuilder") (P8 : Fld Z h0 a2 "java/lang/AbstractStringBuilder" "value" "[B" (.ref va)) (P9 : Fld Z h0 a2 "java/lang/AbstractStringBuilder" "count" "I" (.int ct)) (P10 : Fld Z h0 a2 "java/lang/AbstractStringBuilder" "coder" "B" (.int (0 : Int32))) (P11 : Arv Z h0 va kd .byte ct vd (.int (0 : Int32))) (P12 : Exa Z h0 va "[B") (hct : ct = (34 : Int32) ∨ ct = (35 : Int32) ∨ ct = (36 : Int32) ∨ ct = (37 : Int32)) (m1 : a1 ≠ a2) (m2 : a1 ≠ va) :
    MetFree l (⟨"java/lang/String", "<init>", "(Ljava/lang/AbstractStringBuilder;Ljava/lang/Void;)V"⟩ : MethodName) (head1 (Jvm.Cond.code (⟨"java/lang/String", "<init>", "(Ljava/lang/AbstractStringBuilder;Ljava/lang/Void;)V"⟩ : MethodName) jdk_42_method_150_code 5 none :: ws) ({ frames := 2, cells := 1, slots := 37, locals := 29 } : Room)) (fun a U => a = #[(.ref a1), (.ref a2), .null] ∧ Z.Warmed39 U.vm ∧ U.heap = h0) (fun _ _ _ _ _ => True) (fun _ U o U' => ∃ v L, o = .returned v ∧ Q_rm26 Z a1 a2 zcs va ct kd vd h0 n0 v U'.heap L ∧ FrameEnd U o U' L ({ frames := 2, cells := 1, slots := 37, locals := 29 } : Room).cells ({ frames := 2, cells := 1, slots := 37, locals := 29 } : Room).slots) := by
  refine MetFree.of_bodySF (plainFor_of_name pn_26) hisR ?_
  intro p e s m args below meth c s₁ Bd hml0 hP hK
  obtain ⟨rfl, hZ, hh⟩ := hP
  have hx := Bd.exec
  have hby := Bd.bytes
  have hml : c.maxLocals = 5 := hml0
  have hown : s.vm.findClass "java/lang/String" = some m.cls := findClass_of_methodNamed Bd.named
  have hnm := (name_of_methodNamed Bd.named Bd.method).1
  have hlk := Bd.notSynchronized
  have X0 : Stand p l e ({ frames := 2, cells := 1, slots := 37, locals := 29 } : Room) s m #[(.ref a1), (.ref a2), .null] below meth c s₁ [] 0 0 := Stand.of_body Bd
  have e0 : s₁.heap = h0 := by rw [← hh, Bd.state]; rfl
  have N0 := Fr.nil n0
  refine Wp.goal (Post := (fun o U' => ∃ v L, o = .returned v ∧ Q_rm26 Z a1 a2 zcs va ct kd vd h0 n0 v U'.heap L ∧ FrameEnd s o U' L ({ frames := 2, cells := 1, slots := 37, locals := 29 } : Room).cells ({ frames := 2, cells := 1, slots := 37, locals := 29 } : Room).slots)) (Wp.st (S' := s₁.setTop (mkF m 0 #[oR a1, oR a2, .val .null, oU, oU] [])) (fun tt_ kk_ => castTop (ef_rm26 m a1 a2 ) kk_) ?_)
  refine Wp.st (S' := s₁.setTop (mkF m 1 #[oR a1, oR a2, .val .null, oU, oU] [(.ref a1)])) (fun tt_ kk_ => XS.aloadN X0.here hx rfl (hb hby d26_0) rfl rfl kk_) ?_
  obtain ⟨T1, X1, e1, st1⟩ := initO X0 hx hZ hown (hw _ (List.mem_of_getElem? (i := 15) rfl)) (hw _ (List.mem_of_getElem? (i := 16) rfl)) (hw _ (List.mem_of_getElem? (i := 17) rfl)) e0 (g := (mkF m 1 #[oR a1, oR a2, .val .null, oU, oU] [(.ref a1)])) rfl (by rw [hml]; rfl) rfl (hb hby d26_1) (by decide) (W := 0) (by show 2 * 0 + _ ≤ _; exact Nat.le_of_eq rfl) (by decide)
  refine Wp.st (S' := T1.setTop (mkF m 4 #[oR a1, oR a2, .val .null, oU, oU] [])) st1 ?_
  refine Wp.st (S' := T1.setTop (mkF m 5 #[oR a1, oR a2, .val .null, oU, oU] [(.ref a2)])) (fun tt_ kk_ => XS.aloadN X1.here hx rfl (hb hby d26_4) rfl rfl kk_) ?_
  obtain ⟨cq2, kq2, q2a, q2b, q2c⟩ := isOf hZ e1 P7
  obtain ⟨vv2, _, ⟨T2, L2, k2, n2⟩, -, X2, ⟨Lc2, hQ2, l2, y2, z2⟩, st2⟩ := X1.virtualBack hx (y := (⟨"java/lang/AbstractStringBuilder", "getValue", "()[B"⟩ : MethodName)) (z := (⟨"java/lang/AbstractStringBuilder", "getValue", "()[B"⟩ : MethodName)) hown (mvT hZ (hw _ (List.mem_of_getElem? (i := 145) rfl))) (mvT hZ (hw _ (List.mem_of_getElem? (i := 146) rfl))) (notFace_of_selects (args := #[]) (mvT hZ (hw _ (List.mem_of_getElem? (i := 148) rfl)))) (mvT hZ (hw _ (List.mem_of_getElem? (i := 148) rfl))) (mvT hZ (hw _ (List.mem_of_getElem? (i := 147) rfl))) (by decide) (backOf (W := 0) (rm27 l Z a0 hw [] a2 va h0 n0 Z0 P8) hZ (hw _ (List.mem_of_getElem? (i := 149) rfl)) (hw _ (List.mem_of_getElem? (i := 53) rfl)) (by decide) (by decide)) q2a q2c (g := (mkF m 5 #[oR a1, oR a2, .val .null, oU, oU] [(.ref a2)])) rfl (by rw [hml]; rfl) (Steps.refl _) (argsL := []) (rest := []) (lenOf pd_11 rfl) rfl (by show 2 * 0 + _ ≤ _; exact Nat.le_of_eq rfl) (hb hby d26_5) (fun _ _ => ⟨rfl, e1, (by decide : 0 + 0 ≤ _), (by decide : 0 + 0 ≤ _)⟩)
  dsimp only [Pt.U, Pt.locs, Pt.cells, Pt.slots] at X2 l2 y2 z2 st2 hQ2
  subst l2 y2 z2
  obtain ⟨rfl, Nq2, e2⟩ := hQ2
  have N2 := Fr.app N0 Nq2
  refine Wp.tr (S' := T2.setTop (mkF m 8 #[oR a1, oR a2, .val .null, oU, oU] [(.ref va)])) st2 ?_
  refine Wp.st (S' := T2.setTop (mkF m 9 #[oR a1, oR a2, .val .null, oR va, oU] [])) (fun tt_ kk_ => XS.astoreN X2.here hx rfl (hb hby d26_8) rfl rfl (l' := #[oR a1, oR a2, .val .null, oR va, oU]) rfl kk_) ?_
  refine Wp.st (S' := T2.setTop (mkF m 10 #[oR a1, oR a2, .val .null, oR va, oU] [(.ref a2)])) (fun tt_ kk_ => XS.aloadN X2.here hx rfl (hb hby d26_9) rfl rfl kk_) ?_
  obtain ⟨cq3, kq3, q3a, q3b, q3c⟩ := isOf hZ e2 P7
  obtain ⟨vv3, _, ⟨T3, L3, k3, n3⟩, -, X3, ⟨Lc3, hQ3, l3, y3, z3⟩, st3⟩ := X2.virtualBack hx (y := (⟨"java/lang/AbstractStringBuilder", "length", "()I"⟩ : MethodName)) (z := (⟨"java/lang/StringBuilder", "length", "()I"⟩ : MethodName)) hown (mvT hZ (hw _ (List.mem_of_getElem? (i := 150) rfl))) (mvT hZ (hw _ (List.mem_of_getElem? (i := 151) rfl))) (own_nf (args := #[]) (mvT hZ (hw _ (List.mem_of_getElem? (i := 87) rfl)))) (mvT hZ (hw _ (List.mem_of_getElem? (i := 153) rfl))) (mvT hZ (hw _ (List.mem_of_getElem? (i := 154) rfl))) (by decide) (backOf (W := 0) (rm28 l Z a0 hw [] a2 ct h0 n0 Z0 P7 P9) hZ (hw _ (List.mem_of_getElem? (i := 155) rfl)) (hw _ (List.mem_of_getElem? (i := 45) rfl)) (by decide) (by decide)) q3a q3c (g := (mkF m 10 #[oR a1, oR a2, .val .null, oR va, oU] [(.ref a2)])) rfl (by rw [hml]; rfl) (Steps.refl _) (argsL := []) (rest := []) (lenOf pd_7 rfl) rfl (by show 2 * 0 + _ ≤ _; exact Nat.le_of_eq rfl) (hb hby d26_10) (fun _ _ => ⟨rfl, e2, (by decide : 0 + 0 ≤ _), (by decide : 0 + 0 ≤ _)⟩)
  dsimp only [Pt.U, Pt.locs, Pt.cells, Pt.slots] at X3 l3 y3 z3 st3 hQ3
  subst l3 y3 z3
  obtain ⟨rfl, Nq3, e3⟩ := hQ3
  have N3 := Fr.app N2 Nq3
  refine Wp.tr (S' := T3.setTop (mkF m 13 #[oR a1, oR a2, .val .null, oR va, oU] [(.int ct)])) st3 ?_
  refine Wp.st (S' := T3.setTop (mkF m 15 #[oR a1, oR a2, .val .null, oR va, oI ct] [])) (fun tt_ kk_ => XS.istore X3.here hx rfl (hb hby d26_13) rfl (l' := #[oR a1, oR a2, .val .null, oR va, oI ct]) rfl kk_) ?_
  refine Wp.st (S' := T3.setTop (mkF m 16 #[oR a1, oR a2, .val .null, oR va, oI ct] [(.ref a2)])) (fun tt_ kk_ => XS.aloadN X3.here hx rfl (hb hby d26_15) rfl rfl kk_) ?_
  obtain ⟨cq4, kq4, q4a, q4b, q4c⟩ := isOf hZ e3 P7
  obtain ⟨vv4, _, ⟨T4, L4, k4, n4⟩, -, X4, ⟨Lc4, hQ4, l4, y4, z4⟩, st4⟩ := X3.virtualBack hx (y := (⟨"java/lang/AbstractStringBuilder", "isLatin1", "()Z"⟩ : MethodName)) (z := (⟨"java/lang/AbstractStringBuilder", "isLatin1", "()Z"⟩ : MethodName)) hown (mvT hZ (hw _ (List.mem_of_getElem? (i := 158) rfl))) (mvT hZ (hw _ (List.mem_of_getElem? (i := 159) rfl))) (notFace_of_selects (args := #[]) (mvT hZ (hw _ (List.mem_of_getElem? (i := 161) rfl)))) (mvT hZ (hw _ (List.mem_of_getElem? (i := 161) rfl))) (mvT hZ (hw _ (List.mem_of_getElem? (i := 160) rfl))) (by decide) (backOf (W := 0) (rm30 l Z a0 hw [] a2 zcs h0 n0 Z0 O0 SCompact (hCS : ¬ zcs = 0) P10) hZ (hw _ (List.mem_of_getElem? (i := 162) rfl)) (hw _ (List.mem_of_getElem? (i := 53) rfl)) (by decide) (by decide)) q4a q4c (g := (mkF m 16 #[oR a1, oR a2, .val .null, oR va, oI ct] [(.ref a2)])) rfl (by rw [hml]; rfl) (Steps.refl _) (argsL := []) (rest := []) (lenOf pd_12 rfl) rfl (by show 2 * 0 + _ ≤ _; exact Nat.le_of_eq rfl) (hb hby d26_16) (fun _ _ => ⟨rfl, e3, (by decide : 0 + 0 ≤ _), (by decide : 0 + 0 ≤ _)⟩)
  dsimp only [Pt.U, Pt.locs, Pt.cells, Pt.slots] at X4 l4 y4 z4 st4 hQ4
  subst l4 y4 z4
  obtain ⟨rfl, Nq4, e4⟩ := hQ4
  have N4 := Fr.app N3 Nq4
  refine Wp.tr (S' := T4.setTop (mkF m 19 #[oR a1, oR a2, .val .null, oR va, oI ct] [(.int (1 : Int32))])) st4 ?_
  refine Wp.st (S' := T4.setTop (mkF m 22 #[oR a1, oR a2, .val .null, oR va, oI ct] [])) (fun tt_ kk_ => XS.ifNo X4.here hx rfl (hb hby d26_19) rfl ((if0 _ _).trans (feq ((by decide) : ¬ ((1 : Int32) = (0 : Int32)))).1) kk_) ?_
  refine Wp.st (S' := T4.setTop (mkF m 23 #[oR a1, oR a2, .val .null, oR va, oI ct] [(.ref a1)])) (fun tt_ kk_ => XS.aloadN X4.here hx rfl (hb hby d26_22) rfl rfl kk_) ?_
  refine Wp.st (S' := T4.setTop (mkF m 24 #[oR a1, oR a2, .val .null, oR va, oI ct] [(.int (0 : Int32)), (.ref a1)])) (fun tt_ kk_ => XS.iconst X4.here hx rfl (hb hby d26_23) kk_) ?_
  obtain ⟨T5, h5, X5, e5, W5, st5⟩ := putFN X4 hx hZ hown (hw _ (List.mem_of_getElem? (i := 25) rfl)) Via.refl e4 P3 P1 (Or.inr ⟨(hw _ (List.mem_of_getElem? (i := 21) rfl)), rfl, hnm⟩) (hw _ (List.mem_of_getElem? (i := 6) rfl)) (ty := .byte) (v' := (.int (0 : Int32))) (by decide) rfl rfl (g := (mkF m 24 #[oR a1, oR a2, .val .null, oR va, oI ct] [(.int (0 : Int32)), (.ref a1)])) rfl rfl (hb hby d26_24)
  have z6 := Nat.le_of_eq W5.size.symm
  have Fw5 : Fld Z h5 a1 "java/lang/String" "coder" "B" (.int (0 : Int32)) := P3.same W5
  have N5 := Fr.snoc X5 N4 g_a1
  refine Wp.st (S' := T5.setTop (mkF m 27 #[oR a1, oR a2, .val .null, oR va, oI ct] [])) st5 ?_
  refine Wp.st (S' := T5.setTop (mkF m 28 #[oR a1, oR a2, .val .null, oR va, oI ct] [(.ref a1)])) (fun tt_ kk_ => XS.aloadN X5.here hx rfl (hb hby d26_27) rfl rfl kk_) ?_
  refine Wp.st (S' := T5.setTop (mkF m 29 #[oR a1, oR a2, .val .null, oR va, oI ct] [(.ref va), (.ref a1)])) (fun tt_ kk_ => XS.aloadN X5.here hx rfl (hb hby d26_28) rfl rfl kk_) ?_
  refine Wp.st (S' := T5.setTop (mkF m 30 #[oR a1, oR a2, .val .null, oR va, oI ct] [(.int (0 : Int32)), (.ref va), (.ref a1)])) (fun tt_ kk_ => XS.iconst X5.here hx rfl (hb hby d26_29) kk_) ?_
  refine Wp.st (S' := T5.setTop (mkF m 32 #[oR a1, oR a2, .val .null, oR va, oI ct] [(.int ct), (.int (0 : Int32)), (.ref va), (.ref a1)])) (fun tt_ kk_ => XS.iload X5.here hx rfl (hb hby d26_30) rfl  kk_) ?_
  have F8 := P12.wr W5
  have F9 := P11.other W5 (Ne.symm m2)
  obtain ⟨vv7, _, ⟨T7, L7, k7, n7⟩, -, X7, ⟨Lc7, hQ7, l7, y7, z7⟩, st7⟩ := Jvm.LawKit.callS X5 hx (y := (⟨"java/util/Arrays", "copyOfRange", "([BII)[B"⟩ : MethodName)) hown (mvT hZ (hw _ (List.mem_of_getElem? (i := 163) rfl))) (mvT hZ (hw _ (List.mem_of_getElem? (i := 164) rfl))) (mvT hZ (hw _ (List.mem_of_getElem? (i := 127) rfl))) (mvT hZ (hw _ (List.mem_of_getElem? (i := 165) rfl))) (by decide) (backOf (W := 1) (rm31 l Z a0 hw [] va ct kd vd h5 n0 (Nat.le_trans Z0 z6) F8 F9 ((by assumption) : ct = (34 : Int32) ∨ ct = (35 : Int32) ∨ ct = (36 : Int32) ∨ ct = (37 : Int32))) hZ (hw _ (List.mem_of_getElem? (i := 165) rfl)) (hw _ (List.mem_of_getElem? (i := 127) rfl)) (by decide) (by decide)) (g := (mkF m 32 #[oR a1, oR a2, .val .null, oR va, oI ct] [(.int ct), (.int (0 : Int32)), (.ref va), (.ref a1)])) rfl (by rw [hml]; rfl) (argsL := [(.ref va), (.int (0 : Int32)), (.int ct)]) (rest := [(.ref a1)]) (lenOf pd_13 rfl) rfl (by show 2 * 0 + _ ≤ _; exact Nat.le_of_eq rfl) (hb hby d26_32) (fun _ _ => ⟨rfl, e5, (by decide : 0 + 1 ≤ _), (by decide : 0 + 37 ≤ _)⟩)
  dsimp only [Pt.U, Pt.locs, Pt.cells, Pt.slots] at X7 l7 y7 z7 st7 hQ7
  subst l7 y7 z7
  obtain ⟨b10, rfl, Nq7, K7, P7_0, P7_1⟩ := hQ7
  have N7 := Fr.app N5 Nq7
  have z11 := K7.1
  have g12 : n0 ≤ b10 := Nat.le_trans (Nat.le_trans Z0 z6) P7_0
  have e7 : T7.heap = T7.heap := rfl
  refine Wp.st (S' := T7.setTop (mkF m 35 #[oR a1, oR a2, .val .null, oR va, oI ct] [(.ref b10), (.ref a1)])) st7 ?_
  have F14 := P2.other W5 (Or.inr (slot_ne (Or.inr (hw _ (List.mem_of_getElem? (i := 20) rfl))) (Or.inr (hw _ (List.mem_of_getElem? (i := 21) rfl))) (by decide) (t := (.array .byte)) (t' := .byte) (by decide) (by decide)))
  have F15 := F14.keep K7 nin0
  have F16 := P1.wr W5
  have F17 := F16.keep K7
  obtain ⟨T13, h13, X13, e13, W13, st13⟩ := putF X7 hx hZ hown (host := "") (Or.inl (hw _ (List.mem_of_getElem? (i := 24) rfl))) Via.refl e7 F15 F17 (Or.inr ⟨(hw _ (List.mem_of_getElem? (i := 20) rfl)), rfl, hnm⟩) (hw _ (List.mem_of_getElem? (i := 6) rfl)) (ty := (.array .byte)) (by decide) rfl rfl (g := (mkF m 35 #[oR a1, oR a2, .val .null, oR va, oI ct] [(.ref b10), (.ref a1)])) rfl rfl (hb hby d26_35)
  have z18 := Nat.le_of_eq W13.size.symm
  have Fw13 : Fld Z h13 a1 "java/lang/String" "value" "[B" (.ref b10) := F15.same W13
  have N13 := Fr.snoc X13 N7 g_a1
  refine Wp.st (S' := T13.setTop (mkF m 38 #[oR a1, oR a2, .val .null, oR va, oI ct] [])) st13 ?_
  refine Wp.st (S' := T13.setTop (mkF m 97 #[oR a1, oR a2, .val .null, oR va, oI ct] [])) (fun tt_ kk_ => XS.goto X13.here hx rfl (pc0 := 38) (pc' := 97) rfl (hb hby d26_38) (by decide) (by decide) kk_) ?_
  have K19 := Keep.refl h0 [a1]
  have K20 := K19.wr W5 (Or.inl (List.mem_of_getElem? (i := 0) rfl))
  have K21 := K20.trans K7 all0
  have K22 := K21.wr W13 (Or.inl (List.mem_of_getElem? (i := 0) rfl))
  have F23 := F17.wr W13
  have F24 := Fw5.keep K7 nin0
  have F25 := F24.other W13 (Or.inr (slot_ne (Or.inr (hw _ (List.mem_of_getElem? (i := 21) rfl))) (Or.inr (hw _ (List.mem_of_getElem? (i := 20) rfl))) (by decide) (t := .byte) (t' := (.array .byte)) (by decide) (by decide)))
  have F26 := P7_1.other W13 (Ne.symm (Nat.ne_of_lt (Nat.lt_of_lt_of_le P1.lt (Nat.le_trans z6 P7_0))))
  exact Wp.ret X13 hlk (v := none) (fun _ => rfl) (fun fs hr => X13.returnOut hx Bd.returns (hb hby d26_97) hr) (by decide) (by decide) (show Q_rm26 Z a1 a2 zcs va ct kd vd h0 n0 _ T13.heap _ by rw [e13]; exact ⟨b10, rfl, N13, K22, (Nat.le_trans z6 P7_0), F23, Fw13, F25, F26⟩)
theorem pn_25 : plainName "java/lang/String" = true := by first | (simp [plainName, overriddenIn]; done) | decide +kernel
theorem d25_0 : decode jdk_42_method_53_code 0 = .ok (.aload_n 0, 1) := by decide +kernel
theorem d25_1 : decode jdk_42_method_53_code 1 = .ok (.aload_n 1, 1) := by decide +kernel
theorem d25_2 : decode jdk_42_method_53_code 2 = .ok (.aconst_null, 1) := by decide +kernel
theorem d25_3 : decode jdk_42_method_53_code 3 = .ok (.invokespecial 489, 3) := by decide +kernel
theorem pd_14 : parseMethodDescriptor "(Ljava/lang/AbstractStringBuilder;Ljava/lang/Void;)V" = some ⟨[(.object "java/lang/AbstractStringBuilder"), (.object "java/lang/Void")], none⟩ := by decide +kernel
theorem d25_6 : decode jdk_42_method_53_code 6 = .ok (.return_, 1) := by decide +kernel
theorem ef_rm25 (m : MethodId) (a1 : Addr) (a2 : Addr) : entryFrame m #[(.ref a1), (.ref a2)] 2 = mkF m 0 #[oR a1, oR a2] [] := by first | (simp [entryFrame, mkF, argsToLocals, Value.category]; done) | rfl
def Q_rm25 (Z : State) (a1 : Addr) (a2 : Addr) (zcs : Int32) (va : Addr) (ct : Int32) (kd : ClassId) (vd : List Value) (h0 : Heap) (n0 : Nat) (v : Option Value) (h : Heap) (L : List Loc) : Prop := ∃ tb : Addr, (v = none) ∧ (Fr n0 L) ∧ (Keep h0 h [a1]) ∧ (h0.size ≤ tb) ∧ (Exa Z h a1 "java/lang/String") ∧ (Fld Z h a1 "java/lang/String" "value" "[B" (.ref tb)) ∧ (Fld Z h a1 "java/lang/String" "coder" "B" (.int (0 : Int32))) ∧ (Arv Z h tb kd .byte ct vd (.int (0 : Int32)))
set_option maxRecDepth 65536 in
set_option maxHeartbeats 40000000 in
theorem rm25 (l : Launch) (Z : State) (a0 : Array Value) (hw : ∀ d ∈ tables_1, d.before a0 Z = true) (ws : List Jvm.Cond) (a1 : Addr) (a2 : Addr) (zcs : Int32) (va : Addr) (ct : Int32) (kd : ClassId) (vd : List Value) (h0 : Heap) (n0 : Nat) (Z0 : n0 ≤ h0.size) (g_a1 : n0 ≤ a1) (P1 : Exa Z h0 a1 "java/lang/String") (P2 : Fld Z h0 a1 "java/lang/String" "value" "[B" .null) (P3 : Fld Z h0 a1 "java/lang/String" "coder" "B" (.int (0 : Int32))) (O0 : Jvm.RoadKit.Old Z n0 h0) (SCompact : Sta Z Z.heap "java/lang/String" "COMPACT_STRINGS" "Z" (.int zcs)) (hCS : ¬ zcs = 0) (P7 : Exa Z h0 a2 "java/lang/StringBuilder") (P8 : Fld Z h0 a2 "java/lang/AbstractStringBuilder" "value" "[B" (.ref va)) (P9 : Fld Z h0 a2 "java/lang/AbstractStringBuilder" "count" "I" (.int ct)) (P10 : Fld Z h0 a2 "java/lang/AbstractStringBuilder" "coder" "B" (.int (0 : Int32))) (P11 : Arv Z h0 va kd .byte ct vd (.int (0 : Int32))) (P12 : Exa Z h0 va "[B") (hct : ct = (34 : Int32) ∨ ct = (35 : Int32) ∨ ct = (36 : Int32) ∨ ct = (37 : Int32)) (m1 : a1 ≠ a2) (m2 : a1 ≠ va) :
    MetFree l (⟨"java/lang/String", "<init>", "(Ljava/lang/StringBuilder;)V"⟩ : MethodName) (head1 (Jvm.Cond.code (⟨"java/lang/String", "<init>", "(Ljava/lang/StringBuilder;)V"⟩ : MethodName) jdk_42_method_53_code 2 none :: ws) ({ frames := 3, cells := 1, slots := 37, locals := 45 } : Room)) (fun a U => a = #[(.ref a1), (.ref a2)] ∧ Z.Warmed39 U.vm ∧ U.heap = h0) (fun _ _ _ _ _ => True) (fun _ U o U' => ∃ v L, o = .returned v ∧ Q_rm25 Z a1 a2 zcs va ct kd vd h0 n0 v U'.heap L ∧ FrameEnd U o U' L ({ frames := 3, cells := 1, slots := 37, locals := 45 } : Room).cells ({ frames := 3, cells := 1, slots := 37, locals := 45 } : Room).slots) := by
  refine MetFree.of_bodySF (plainFor_of_name pn_25) hisR ?_
  intro p e s m args below meth c s₁ Bd hml0 hP hK
  obtain ⟨rfl, hZ, hh⟩ := hP
  have hx := Bd.exec
  have hby := Bd.bytes
  have hml : c.maxLocals = 2 := hml0
  have hown : s.vm.findClass "java/lang/String" = some m.cls := findClass_of_methodNamed Bd.named
  have hnm := (name_of_methodNamed Bd.named Bd.method).1
  have hlk := Bd.notSynchronized
  have X0 : Stand p l e ({ frames := 3, cells := 1, slots := 37, locals := 45 } : Room) s m #[(.ref a1), (.ref a2)] below meth c s₁ [] 0 0 := Stand.of_body Bd
  have e0 : s₁.heap = h0 := by rw [← hh, Bd.state]; rfl
  have N0 := Fr.nil n0
  refine Wp.goal (Post := (fun o U' => ∃ v L, o = .returned v ∧ Q_rm25 Z a1 a2 zcs va ct kd vd h0 n0 v U'.heap L ∧ FrameEnd s o U' L ({ frames := 3, cells := 1, slots := 37, locals := 45 } : Room).cells ({ frames := 3, cells := 1, slots := 37, locals := 45 } : Room).slots)) (Wp.st (S' := s₁.setTop (mkF m 0 #[oR a1, oR a2] [])) (fun tt_ kk_ => castTop (ef_rm25 m a1 a2 ) kk_) ?_)
  refine Wp.st (S' := s₁.setTop (mkF m 1 #[oR a1, oR a2] [(.ref a1)])) (fun tt_ kk_ => XS.aloadN X0.here hx rfl (hb hby d25_0) rfl rfl kk_) ?_
  refine Wp.st (S' := s₁.setTop (mkF m 2 #[oR a1, oR a2] [(.ref a2), (.ref a1)])) (fun tt_ kk_ => XS.aloadN X0.here hx rfl (hb hby d25_1) rfl rfl kk_) ?_
  refine Wp.st (S' := s₁.setTop (mkF m 3 #[oR a1, oR a2] [.null, (.ref a2), (.ref a1)])) (fun tt_ kk_ => XS.aconstNull X0.here hx rfl (hb hby d25_2) kk_) ?_
  obtain ⟨vv1, _, ⟨T1, L1, k1, n1⟩, -, X1, ⟨Lc1, hQ1, l1, y1, z1⟩, st1⟩ := X0.specialBack hx (y := (⟨"java/lang/String", "<init>", "(Ljava/lang/AbstractStringBuilder;Ljava/lang/Void;)V"⟩ : MethodName)) rfl hown (mvT hZ (hw _ (List.mem_of_getElem? (i := 142) rfl))) (mvT hZ (hw _ (List.mem_of_getElem? (i := 143) rfl))) (mvT hZ (hw _ (List.mem_of_getElem? (i := 144) rfl))) (by decide) (backOf (W := 0) (rm26 l Z a0 hw [] a1 a2 zcs va ct kd vd h0 n0 Z0 g_a1 P1 P2 P3 O0 SCompact (hCS : ¬ zcs = 0) P7 P8 P9 P10 P11 P12 ((by assumption) : ct = (34 : Int32) ∨ ct = (35 : Int32) ∨ ct = (36 : Int32) ∨ ct = (37 : Int32)) (m1 : a1 ≠ a2) (m2 : a1 ≠ va)) hZ (hw _ (List.mem_of_getElem? (i := 144) rfl)) (hw _ (List.mem_of_getElem? (i := 7) rfl)) (by decide) (by decide)) (g := (mkF m 3 #[oR a1, oR a2] [.null, (.ref a2), (.ref a1)])) rfl (by rw [hml]; rfl) (Steps.refl _) (a := a1) (argsL := [(.ref a2), .null]) (rest := []) (lenOf pd_14 rfl) rfl (by show 2 * 0 + _ ≤ _; exact Nat.le_of_eq rfl) (hb hby d25_3) (fun _ _ => ⟨rfl, e0, (by decide : 0 + 1 ≤ _), (by decide : 0 + 37 ≤ _)⟩)
  dsimp only [Pt.U, Pt.locs, Pt.cells, Pt.slots] at X1 l1 y1 z1 st1 hQ1
  subst l1 y1 z1
  obtain ⟨b2, rfl, Nq1, K1, P1_0, P1_1, P1_2, P1_3, P1_4⟩ := hQ1
  have N1 := Fr.app N0 Nq1
  have z3 := K1.1
  have g4 : n0 ≤ b2 := Nat.le_trans (Nat.le_trans Z0 (Nat.le_refl _)) P1_0
  have e1 : T1.heap = T1.heap := rfl
  refine Wp.tr (S' := T1.setTop (mkF m 6 #[oR a1, oR a2] [])) st1 ?_
  have K5 := Keep.refl h0 [a1]
  have K6 := K5.trans K1 (allS (Or.inl (List.mem_of_getElem? (i := 0) rfl)) all0)
  exact Wp.ret X1 hlk (v := none) (fun _ => rfl) (fun fs hr => X1.returnOut hx Bd.returns (hb hby d25_6) hr) (by decide) (by decide) (show Q_rm25 Z a1 a2 zcs va ct kd vd h0 n0 _ T1.heap _ by rw [e1]; exact ⟨b2, rfl, N1, K6, (Nat.le_trans (Nat.le_refl _) P1_0), P1_1, P1_2, P1_3, P1_4⟩)
theorem pn_24 : plainName "java/lang/StringBuilder" = true := by first | (simp [plainName, overriddenIn]; done) | decide +kernel
theorem d24_0 : decode jdk_67_method_42_code 0 = .ok (.new 18, 3) := by decide +kernel
theorem d24_3 : decode jdk_67_method_42_code 3 = .ok (.dup, 1) := by decide +kernel
theorem d24_4 : decode jdk_67_method_42_code 4 = .ok (.aload_n 0, 1) := by decide +kernel
theorem d24_5 : decode jdk_67_method_42_code 5 = .ok (.invokespecial 137, 3) := by decide +kernel
theorem pd_15 : parseMethodDescriptor "(Ljava/lang/StringBuilder;)V" = some ⟨[(.object "java/lang/StringBuilder")], none⟩ := by decide +kernel
theorem d24_8 : decode jdk_67_method_42_code 8 = .ok (.areturn, 1) := by decide +kernel
theorem ef_rm24 (m : MethodId) (a2 : Addr) : entryFrame m #[(.ref a2)] 1 = mkF m 0 #[oR a2] [] := by first | (simp [entryFrame, mkF, argsToLocals, Value.category]; done) | rfl
def Q_rm24 (Z : State) (a2 : Addr) (zcs : Int32) (va : Addr) (ct : Int32) (kd : ClassId) (vd : List Value) (h0 : Heap) (n0 : Nat) (v : Option Value) (h : Heap) (L : List Loc) : Prop := ∃ b : Addr, ∃ tb : Addr, (v = some (.ref b)) ∧ (Fr n0 L) ∧ (Keep h0 h []) ∧ (h0.size ≤ b) ∧ (h0.size ≤ tb) ∧ (Exa Z h b "java/lang/String") ∧ (Fld Z h b "java/lang/String" "value" "[B" (.ref tb)) ∧ (Fld Z h b "java/lang/String" "coder" "B" (.int (0 : Int32))) ∧ (Arv Z h tb kd .byte ct vd (.int (0 : Int32)))
set_option maxRecDepth 65536 in
set_option maxHeartbeats 40000000 in
theorem rm24 (l : Launch) (Z : State) (a0 : Array Value) (hw : ∀ d ∈ tables_1, d.before a0 Z = true) (ws : List Jvm.Cond) (a2 : Addr) (zcs : Int32) (va : Addr) (ct : Int32) (kd : ClassId) (vd : List Value) (h0 : Heap) (n0 : Nat) (Z0 : n0 ≤ h0.size) (O0 : Jvm.RoadKit.Old Z n0 h0) (SCompact : Sta Z Z.heap "java/lang/String" "COMPACT_STRINGS" "Z" (.int zcs)) (hCS : ¬ zcs = 0) (P3 : Exa Z h0 a2 "java/lang/StringBuilder") (P4 : Fld Z h0 a2 "java/lang/AbstractStringBuilder" "value" "[B" (.ref va)) (P5 : Fld Z h0 a2 "java/lang/AbstractStringBuilder" "count" "I" (.int ct)) (P6 : Fld Z h0 a2 "java/lang/AbstractStringBuilder" "coder" "B" (.int (0 : Int32))) (P7 : Arv Z h0 va kd .byte ct vd (.int (0 : Int32))) (P8 : Exa Z h0 va "[B") (hct : ct = (34 : Int32) ∨ ct = (35 : Int32) ∨ ct = (36 : Int32) ∨ ct = (37 : Int32)) :
    MetFree l (⟨"java/lang/StringBuilder", "toString", "()Ljava/lang/String;"⟩ : MethodName) (head1 (Jvm.Cond.code (⟨"java/lang/StringBuilder", "toString", "()Ljava/lang/String;"⟩ : MethodName) jdk_67_method_42_code 1 (some (.object "java/lang/String")) :: ws) ({ frames := 4, cells := 2, slots := 41, locals := 59 } : Room)) (fun a U => a = #[(.ref a2)] ∧ Z.Warmed39 U.vm ∧ U.heap = h0) (fun _ _ _ _ _ => True) (fun _ U o U' => ∃ v L, o = .returned v ∧ Q_rm24 Z a2 zcs va ct kd vd h0 n0 v U'.heap L ∧ FrameEnd U o U' L ({ frames := 4, cells := 2, slots := 41, locals := 59 } : Room).cells ({ frames := 4, cells := 2, slots := 41, locals := 59 } : Room).slots) := by
  refine MetFree.of_bodySF (plainFor_of_name pn_24) hisR ?_
  intro p e s m args below meth c s₁ Bd hml0 hP hK
  obtain ⟨rfl, hZ, hh⟩ := hP
  have hx := Bd.exec
  have hby := Bd.bytes
  have hml : c.maxLocals = 1 := hml0
  have hown : s.vm.findClass "java/lang/StringBuilder" = some m.cls := findClass_of_methodNamed Bd.named
  have hnm := (name_of_methodNamed Bd.named Bd.method).1
  have hlk := Bd.notSynchronized
  have X0 : Stand p l e ({ frames := 4, cells := 2, slots := 41, locals := 59 } : Room) s m #[(.ref a2)] below meth c s₁ [] 0 0 := Stand.of_body Bd
  have e0 : s₁.heap = h0 := by rw [← hh, Bd.state]; rfl
  have N0 := Fr.nil n0
  refine Wp.goal (Post := (fun o U' => ∃ v L, o = .returned v ∧ Q_rm24 Z a2 zcs va ct kd vd h0 n0 v U'.heap L ∧ FrameEnd s o U' L ({ frames := 4, cells := 2, slots := 41, locals := 59 } : Room).cells ({ frames := 4, cells := 2, slots := 41, locals := 59 } : Room).slots)) (Wp.st (S' := s₁.setTop (mkF m 0 #[oR a2] [])) (fun tt_ kk_ => castTop (ef_rm24 m a2 ) kk_) ?_)
  obtain ⟨T1, h1, X1, e1, E1, A1, D1, U1, st1⟩ := newO X0 hx hZ hown (hw _ (List.mem_of_getElem? (i := 138) rfl)) (hw _ (List.mem_of_getElem? (i := 6) rfl)) (hw _ (List.mem_of_getElem? (i := 7) rfl)) e0 (g := (mkF m 0 #[oR a2] [])) rfl (hb hby d24_0) (by decide) (by decide)
  obtain ⟨b1, g1⟩ : ∃ z, z = h0.size := ⟨_, rfl⟩
  rw [← g1] at A1 D1 U1 st1
  have z2 := E1.1
  have g3 : n0 ≤ b1 := Nat.le_trans (Nat.le_trans Z0 (Nat.le_refl _)) (Nat.le_of_eq g1.symm)
  have F4 : Fld Z h1 b1 "java/lang/String" "value" "[B" .null := D1 (Or.inr (hw _ (List.mem_of_getElem? (i := 20) rfl))) (ty := (.array .byte)) (by decide)
  have F5 : Fld Z h1 b1 "java/lang/String" "coder" "B" (.int (0 : Int32)) := D1 (Or.inr (hw _ (List.mem_of_getElem? (i := 21) rfl))) (ty := .byte) (by decide)
  refine Wp.st (S' := T1.setTop (mkF m 3 #[oR a2] [(.ref b1)])) st1 ?_
  refine Wp.st (S' := T1.setTop (mkF m 4 #[oR a2] [(.ref b1), (.ref b1)])) (fun tt_ kk_ => XS.dup X1.here hx rfl (hb hby d24_3) rfl rfl kk_) ?_
  refine Wp.st (S' := T1.setTop (mkF m 5 #[oR a2] [(.ref a2), (.ref b1), (.ref b1)])) (fun tt_ kk_ => XS.aloadN X1.here hx rfl (hb hby d24_4) rfl rfl kk_) ?_
  have O7 := O0.ext E1
  have F8 := P3.ext E1
  have F9 := P4.ext E1
  have F10 := P5.ext E1
  have F11 := P6.ext E1
  have F12 := P7.ext E1
  have F13 := P8.ext E1
  obtain ⟨vv6, _, ⟨T6, L6, k6, n6⟩, -, X6, ⟨Lc6, hQ6, l6, y6, z6⟩, st6⟩ := X1.specialBack hx (y := (⟨"java/lang/String", "<init>", "(Ljava/lang/StringBuilder;)V"⟩ : MethodName)) rfl hown (mvT hZ (hw _ (List.mem_of_getElem? (i := 139) rfl))) (mvT hZ (hw _ (List.mem_of_getElem? (i := 140) rfl))) (mvT hZ (hw _ (List.mem_of_getElem? (i := 141) rfl))) (by decide) (backOf (W := 1) (rm25 l Z a0 hw [] b1 a2 zcs va ct kd vd h1 n0 (Nat.le_trans Z0 z2) g3 A1 F4 F5 O7 SCompact (hCS : ¬ zcs = 0) F8 F9 F10 F11 F12 F13 ((by assumption) : ct = (34 : Int32) ∨ ct = (35 : Int32) ∨ ct = (36 : Int32) ∨ ct = (37 : Int32)) ((Ne.symm (Nat.ne_of_lt (Nat.lt_of_lt_of_le P3.lt (Nat.le_trans (Nat.le_refl _) (Nat.le_of_eq g1.symm))))) : b1 ≠ a2) ((Ne.symm (Nat.ne_of_lt (Nat.lt_of_lt_of_le P7.lt (Nat.le_trans (Nat.le_refl _) (Nat.le_of_eq g1.symm))))) : b1 ≠ va)) hZ (hw _ (List.mem_of_getElem? (i := 141) rfl)) (hw _ (List.mem_of_getElem? (i := 7) rfl)) (by decide) (by decide)) (g := (mkF m 5 #[oR a2] [(.ref a2), (.ref b1), (.ref b1)])) rfl (by rw [hml]; rfl) (Steps.refl _) (a := b1) (argsL := [(.ref a2)]) (rest := [(.ref b1)]) (lenOf pd_15 rfl) rfl (by show 2 * 0 + _ ≤ _; exact Nat.le_of_eq rfl) (hb hby d24_5) (fun _ _ => ⟨rfl, e1, (by decide : 1 + 1 ≤ _), (by decide : 4 + 37 ≤ _)⟩)
  dsimp only [Pt.U, Pt.locs, Pt.cells, Pt.slots] at X6 l6 y6 z6 st6 hQ6
  subst l6 y6 z6
  obtain ⟨b14, rfl, Nq6, K6, P6_0, P6_1, P6_2, P6_3, P6_4⟩ := hQ6
  have N6 := Fr.app N0 Nq6
  have z15 := K6.1
  have g16 : n0 ≤ b14 := Nat.le_trans (Nat.le_trans Z0 z2) P6_0
  have e6 : T6.heap = T6.heap := rfl
  refine Wp.tr (S' := T6.setTop (mkF m 8 #[oR a2] [(.ref b1)])) st6 ?_
  have K17 := Keep.refl h0 []
  have K18 := K17.ext E1
  have K19 := K18.trans K6 (allS (Or.inr (Nat.le_trans (Nat.le_refl _) (Nat.le_of_eq g1.symm))) all0)
  exact Wp.ret X6 hlk (v := (some (.ref b1))) (fun h => by rw [Bd.returns] at h; cases h) (fun fs hr => retOut X6 hx Bd.returns rfl (Or.inr (Or.inr (Or.inr (Or.inr ⟨rfl, rfl, rfl⟩)))) (hb hby d24_8) hr) (by decide) (by decide) (show Q_rm24 Z a2 zcs va ct kd vd h0 n0 _ T6.heap _ by rw [e6]; exact ⟨b1, b14, rfl, N6, K19, (Nat.le_trans (Nat.le_refl _) (Nat.le_of_eq g1.symm)), (Nat.le_trans z2 P6_0), P6_1, P6_2, P6_3, P6_4⟩)
def own_thw (rc : String) : List Cond := [.initialized tN, .superclass tN "java/lang/Object", .instanceMethod tFill, .codeSync tFill LibCode.Throwable.Fill.code 1 (some (.object tN)), .instanceMethod tFill0, .native tFill0, .instanceMethod oInit, .code oInit ⟨#[0xb1]⟩ 1 none,
  .methodLink tN 1 oInit, .methodLink tN 27 tFill, .methodLink tN 202 tFill0, .fieldLink tN 7 tN "cause" "Ljava/lang/Throwable;", .lays rc tN "cause" "Ljava/lang/Throwable;", .fieldLink tN 17 tN "stackTrace" steD, .lays rc tN "stackTrace" steD,
  .fieldLink tN 24 tN "suppressedExceptions" listD, .lays rc tN "suppressedExceptions" listD, .fieldLink tN 13 tN "UNASSIGNED_STACK" steD, .laysStatic tN "UNASSIGNED_STACK" steD, .fieldLink tN 20 tN "SUPPRESSED_SENTINEL" listD, .laysStatic tN "SUPPRESSED_SENTINEL" listD,
  .fieldLink tN 31 tN "detailMessage" "Ljava/lang/String;", .lays rc tN "detailMessage" "Ljava/lang/String;", .fieldLink tN 198 tN "backtrace" "Ljava/lang/Object;", .lays rc tN "backtrace" "Ljava/lang/Object;", .lays rc tN "depth" "I",
  .arrayOver (.object "java/lang/Object"), .soleField tN "backtrace", .soleField tN "depth", .declares tFill, .selects rc tFill0 tFill0, .selects rc tFill tFill]
/-- Throwable's parts, out of the words that speak of an object of rc -/
theorem own_links {args : Array Value} {s : State} {pl : Platform} {rc : String} {cX : ClassId} {kX : Class} (howns : pl.frameOwnsMonitors = true) (hfin : pl.finalization = false) (hpl : pl.magicAccessors = ({} : Platform).magicAccessors)
    (hcX : s.vm.findClass rc = some cX) (hkX : s.vm.classes[cX]? = some kX) (w : ∀ d ∈ own_thw rc, d.before args s = true) :
    ∃ T : ThrowableC, T.Links pl s ∧ s.vm.findClass tN = some T.cT ∧ s.methodNamed? tFill = some T.fill ∧ s.methodNamed? tFill0 = some T.fill0 ∧ s.fieldFound? tN "stackTrace" steD = some (T.cT, T.kT, T.i17, T.fStack) ∧
      s.fieldFound? tN "UNASSIGNED_STACK" steD = some (T.cT, T.kT, T.i13, T.fUnassigned) ∧ T.fStack.type = .array (.object "java/lang/StackTraceElement") ∧ T.fStack.name = "stackTrace" := by
  have q : ∀ i (hi : i < (own_thw rc).length), ((own_thw rc)[i]).holds args s none s [] = true := fun i hi => w _ (List.getElem_mem hi)
  obtain ⟨⟨c, i0⟩, n0, a1, a2, a3, a4, a5, a6⟩ := Cond.native_spec (q 5 (Nat.le_of_ble_eq_true rfl))
  have hc : s.vm.findClass tN = some c := findClass_of_methodNamed a1
  obtain ⟨k, hk, hkn⟩ := Vm.findClass_spec hc
  obtain ⟨-, k', -, -, b1, -, -, b2, -, b3⟩ := Cond.superclass_spec hc (q 1 (Nat.le_of_ble_eq_true rfl))
  obtain rfl : k = k' := Option.some.inj (hk.symm.trans b1)
  obtain ⟨iF, mF, f1, f2, f3, f4, f5, -, -⟩ := Cond.ownMethod (x := tFill) hc hk (q 2 (Nat.le_of_ble_eq_true rfl))
  obtain ⟨mF', cF, g1, g2, g3, g4, g5, g6, -, g7⟩ := Cond.codeSync_spec f1 (q 3 (Nat.le_of_ble_eq_true rfl))
  obtain rfl : mF = mF' := Option.some.inj (f2.symm.trans g1)
  obtain ⟨j0, n0', t1, t2, t3, t4, t5, t6, t7⟩ := Cond.ownMethod (x := tFill0) hc hk (q 4 (Nat.le_of_ble_eq_true rfl))
  obtain rfl : i0 = j0 := congrArg MethodId.idx (Option.some.inj (a1.symm.trans t1))
  obtain rfl : n0 = n0' := Option.some.inj (a2.symm.trans t2)
  obtain ⟨mO, nO, o1, o2, o3, o4⟩ := Cond.instanceMethod_spec (q 6 (Nat.le_of_ble_eq_true rfl))
  obtain ⟨nO', cO, p1, p2, p3, -, -, p6, -, p7⟩ := Cond.code_spec o1 (q 7 (Nat.le_of_ble_eq_true rfl))
  obtain rfl : nO = nO' := Option.some.inj (o2.symm.trans p1)
  obtain ⟨kO, r1, r2⟩ := Vm.findClass_spec (findClass_of_methodNamed o1)
  obtain ⟨r3, r4⟩ := name_of_methodNamed o1 o2
  obtain ⟨c1, d1, cf, l1, l2, l3, l4⟩ := Cond.linkedMethod hc hk o1 (q 8 (Nat.le_of_ble_eq_true rfl)) pl hpl
  obtain ⟨c27, d27, cf', l5, l6, l7, l8⟩ := Cond.linkedMethod hc hk f1 (q 9 (Nat.le_of_ble_eq_true rfl)) pl hpl
  obtain rfl : cf = cf' := Option.some.inj (l3.symm.trans l7)
  obtain ⟨c202, d202, cf'', l9, l10, l11, l12⟩ := Cond.linkedMethod hc hk a1 (q 10 (Nat.le_of_ble_eq_true rfl)) pl hpl
  obtain rfl : cf = cf'' := Option.some.inj (l3.symm.trans l11)
  obtain ⟨e7, i7, f7, x1, x2, x3, x4, x5, -, -, -⟩ := Cond.ownField (t := .object tN) hc hk (by decide +kernel) (q 11 (Nat.le_of_ble_eq_true rfl)) (q 12 (Nat.le_of_ble_eq_true rfl)) pl hpl
  obtain ⟨e17, i17, f17, y1, y2, y3, y4, y5, y6, y7, y8⟩ := Cond.ownField (t := .array (.object "java/lang/StackTraceElement")) hc hk (by decide +kernel) (q 13 (Nat.le_of_ble_eq_true rfl)) (q 14 (Nat.le_of_ble_eq_true rfl)) pl hpl
  obtain ⟨e24, i24, f24, z1, z2, z3, z4, z5, z6, -, z8⟩ := Cond.ownField (t := .object "java/util/List") hc hk (by decide +kernel) (q 15 (Nat.le_of_ble_eq_true rfl)) (q 16 (Nat.le_of_ble_eq_true rfl)) pl hpl
  obtain ⟨e13, i13, f13, aS, cS, u1, u2, u3, u4, -, -, u7, -, -, -, -, u12⟩ := Cond.ownStatic (t := .array (.object "java/lang/StackTraceElement")) hc hk (by decide +kernel) (q 17 (Nat.le_of_ble_eq_true rfl)) (q 18 (Nat.le_of_ble_eq_true rfl)) pl hpl
  obtain ⟨e20, i20, f20, -, -, v1, v2, v3, v4, -⟩ := Cond.ownStatic (t := .object "java/util/List") hc hk (by decide +kernel) (q 19 (Nat.le_of_ble_eq_true rfl)) (q 20 (Nat.le_of_ble_eq_true rfl)) pl hpl
  obtain ⟨-, -, fM, -, -, -, m4, m5, -, -, -⟩ := Cond.ownField (t := .object "java/lang/String") hc hk (by decide +kernel) (q 21 (Nat.le_of_ble_eq_true rfl)) (q 22 (Nat.le_of_ble_eq_true rfl)) pl hpl
  have hap : f17.slot ≠ f24.slot := by
    obtain ⟨-, dS, s1, s2⟩ := Cond.laysAt hcX hkX y8 (q 14 (Nat.le_of_ble_eq_true rfl))
    obtain ⟨-, dP, s3, s4⟩ := Cond.laysAt hcX hkX z8 (q 16 (Nat.le_of_ble_eq_true rfl))
    exact Cond.laysApart s1 s3 s2 s4 (by rw [y6, z6]; decide)
  have pF : mF.sig.parameters = [] := by
    have z : (parseMethodDescriptor tFill.desc).map (·.parameters) = some [] := by decide +kernel
    rw [g7] at z; exact Option.some.inj z
  have p0 : n0.sig.parameters = [.int] := by
    have z : (parseMethodDescriptor tFill0.desc).map (·.parameters) = some [.int] := by decide +kernel
    rw [a6] at z; exact Option.some.inj z
  have pO : nO.sig.parameters.length = 0 := by
    have z : (parseMethodDescriptor oInit.desc).map (·.parameters) = some [] := by decide +kernel
    rw [p7] at z; rw [show nO.sig.parameters = [] from Option.some.inj z]; rfl
  refine ⟨{ cT := c, kT := k, cO := c, aS := aS, fillIdx := iF, fill0Idx := i0, initSIdx := iF, obj := mO, kObj := kO, methFill := mF, methFill0 := n0, methInitS := mF, methObj := nO, codeFill := cF, codeInitS := cF, codeObj := cO, fBack := f7, fDepth := f7, fStack := f17, fCause := f7, fSupp := f24, fMsg := fM, fUnassigned := f13, fSentinel := f20, cfT := cf, ci1 := c1, n1 := d1, ci27 := c27, n27 := d27, ci202 := c202, n202 := d202, ci7 := e7, i7 := i7, ci13 := e13, i13 := i13, ci17 := e17, i17 := i17, ci20 := e20, i20 := i20, ci24 := e24, i24 := i24 }, ?_, hc, f1, a1, y8, u12, y7, y6⟩
  constructor <;> first | assumption | exact Vm.findClass_boot hc hk | exact Cond.initialized_spec hc hk (q 0 (Nat.le_of_ble_eq_true rfl)) | (rw [r4]; exact lookupSpecial_of_named o1 o2 o3)
section Fill
variable {p : Program} {l : Launch} {e : Env} {R : Room} {s : State} {m : MethodId} {args : Array Value} {below : List Frame} {meth : Method} {c : Code} {T : State} {locs : List Loc} {cells slots : Nat} {Z : State} {a0 : Array Value} {h h0 : Heap}
theorem own_other (X : Stand p l e R s m args below meth c T locs cells slots) {a y : Addr} {cy : Cell} (hL : ∀ x ∈ locs, x.base = a) (hy : y ≠ a) (hc : s.heap[y]? = some cy) : T.heap[y]? = some cy := by
  obtain ⟨c', q1, q2, q3, q4⟩ := X.same.2.2.2.2.2 y cy hc
  have e1 : c'.slots = cy.slots := Array.ext_getElem? fun i => q4 i fun z => hy (hL _ z)
  rw [e1] at q2
  have e2 : c' = cy := q2
  rw [← e2]; exact q1
theorem own_at (X : Stand p l e R s m args below meth c T locs cells slots) {a : Addr} (hh : s.heap = h0) (N : Unt h0 a) : Unt T.heap a := by
  obtain ⟨c0, u1, u2, u3⟩ := N
  obtain ⟨c', q1, q2, -, -⟩ := X.same.2.2.2.2.2 a c0 (by rw [hh]; exact u1)
  refine ⟨c', q1, ?_, ?_⟩
  · rw [q2]; exact u2
  · rw [q2]; exact u3
theorem own_ff (hZ : Z.Warmed39 s.vm) {n d : String} {cf i : Nat} {k : Class} {f : Field} (q : Z.fieldFound? tN n d = some (cf, k, i, f)) : ∃ k', s.fieldFound? tN n d = some (cf, k', i, f) ∧ k'.statics = k.statics := by
  obtain ⟨k', q1, q2⟩ := State.fieldFound?_setVm (s := Z) hZ.alike q
  exact ⟨k', q1, by rw [q2]⟩
set_option maxHeartbeats 4000000 in
theorem own_fill (X : Stand p l e R s m args below meth c T locs 0 0) (hx : p.tables.exec = Jvm.exec) (hl : l.stackTraces = true) (hZ : Z.Warmed39 s.vm) {rc : String} {k6 : Nat} (hown : s.vm.findClass tN = some m.cls) (w : ∀ d ∈ own_thw rc, d.before args s = true) (wi : (Cond.instantiable rc k6).before a0 Z = true)
    (hTK : s.vm.MethodsKnown) (hBelow : s.vm.FramesKnown below) (eT : T.heap = h) {a : Addr} (hL : ∀ x ∈ locs, x.base = a) (hh : s.heap = h0) (N0 : Unt h0 a) (E : Exa Z h a rc) {vu : Value} (hvu : vu.isRef = true)
    (FS : Fld Z h a tN "stackTrace" steD vu) (FB : Fld Z h a tN "backtrace" "Ljava/lang/Object;" .null) (SU : Sta Z h tN "UNASSIGNED_STACK" steD vu) {g : JFrame} (hg : g.method = m) (hsize : g.locals.size = c.maxLocals) (hs : g.stack = [.ref a])
    (hd : decode c.code g.pc = .ok (.invokevirtual 27, 3)) (hf : 3 ≤ R.frames) (hlo : 2 * g.monitorRoom + 42 ≤ R.locals) (hc : 1 ≤ R.cells) (hsl : 2752 ≤ R.slots) :
    ∃ T' h' L, Stand p l e R s m args below meth c T' L 1 2752 ∧ T'.heap = h' ∧ (∀ x ∈ L, x.base = a) ∧ Keep h h' [a] ∧ Exa Z h' a rc ∧ Unt h' a ∧
      (∀ {n d : String} {t : FieldType} {v : Value}, (Cond.lays rc tN n d).before args s = true → parseFieldDescriptor d = some t → n ≠ "backtrace" → n ≠ "depth" → n ≠ "stackTrace" → Fld Z h a tN n d v → Fld Z h' a tN n d v) ∧
      Steps p.tables e below (T.setTop g) (T'.setTop { g with pc := g.pc + 3, stack := [.ref a] }) := by
  have q : ∀ i (hi : i < (own_thw rc).length), ((own_thw rc)[i]).before args s = true := fun i hi => w _ (List.getElem_mem hi)
  obtain ⟨C, kC, e1, e2, e3, e4, e5⟩ := E
  have hal := hZ.alike
  have hfound : s.vm.findClass rc = some C.cls := by rw [hal.findClass]; exact e2
  obtain ⟨kX, hkX, hek⟩ := hal.2.2 _ _ e3
  obtain ⟨cI, kI, i1, i2, i3, -⟩ := Cond.instantiable_spec wi
  cases e2.symm.trans i1
  cases e3.symm.trans i2
  have hord : kX.kind = .ordinary := by rw [hek]; exact i3
  have hsz : C.slots.size = kX.instanceTypes.size := by rw [hek]; exact e5 i3
  have N := own_at X hh N0
  rw [eT] at N
  obtain ⟨C1, u1, u2, u3⟩ := N
  cases e1.symm.trans u1
  have htr : e.platform.stackTraces = true := by rw [X.admits.platform]; exact hl
  have howns : e.platform.frameOwnsMonitors = true := by rw [X.admits.platform]
  have hfin : e.platform.finalization = false := by rw [X.admits.platform]
  have hpl : e.platform.magicAccessors = ({} : Platform).magicAccessors := by rw [X.admits.platform]
  obtain ⟨TT, LL, hT, hF1, hF0, hSt, hUn, hTy, hNm⟩ := own_links howns hfin hpl hfound hkX w
  have hD : T.heap[a]? = some C := by rw [eT]; exact e1
  obtain ⟨C2, cf2, kf2, if2, fS, s1, s2, -, -, -, -, s7⟩ := FS
  cases e1.symm.trans s1
  obtain ⟨kf2', s8, -⟩ := own_ff hZ s2
  have es := s8.symm.trans hSt
  simp only [Option.some.injEq, Prod.mk.injEq] at es
  obtain ⟨-, -, -, rfl⟩ := es
  obtain ⟨cfU, iU, kU, fU, st, cS, v1, -, -, v4, v5, v6, v7⟩ := SU
  obtain ⟨kU', v8, v9⟩ := own_ff hZ v1
  have eu := v8.symm.trans hUn
  simp only [Option.some.injEq, Prod.mk.injEq] at eu
  obtain ⟨-, rfl, -, rfl⟩ := eu
  have est : TT.aS = st := Option.some.inj (LL.statics.symm.trans (v9.trans v4))
  subst est
  have hne : TT.aS ≠ a := fun z => by
    rw [z, e1] at v5
    rw [← Option.some.inj v5, u2] at v6
    cases v6
  have hkS : cS.vm ≠ .unknown := fun z => by rw [z] at v6; cases v6
  obtain ⟨e198, j198, fB, b1, b2, b3, b4, -, b6, b7, b8⟩ := Cond.ownField (t := .object "java/lang/Object") hT LL.cls (by decide +kernel) (q 23 (Nat.le_of_ble_eq_true rfl)) (q 24 (Nat.le_of_ble_eq_true rfl)) e.platform hpl
  obtain ⟨cD1, kD1, cD, kD, iD, fD, -, -, d3, d4, -⟩ := Cond.lays_spec (q 25 (Nat.le_of_ble_eq_true rfl))
  obtain rfl : TT.cT = cD := Option.some.inj (hT.symm.trans (Cond.lays_declared (q 25 (Nat.le_of_ble_eq_true rfl)) d3))
  obtain ⟨d6, d7⟩ := State.fieldFound?_spec d3
  obtain rfl : TT.kT = kD := Option.some.inj (LL.cls.symm.trans d6)
  obtain ⟨d8, d9⟩ := State.fieldFound?_type d3 (t := .int) (by decide +kernel)
  have hfb := Cond.soleField_find hT LL.cls (q 27 (Nat.le_of_ble_eq_true rfl)) b3 b6 b4
  have hfd := Cond.soleField_find hT LL.cls (q 28 (Nat.le_of_ble_eq_true rfl)) d7 d8 d4
  obtain ⟨comp, cO, kO, -, -, o1, o2, o3⟩ := Cond.arrayOver_spec (q 26 (Nat.le_of_ble_eq_true rfl))
  obtain ⟨tS, dS, hdS, hnS⟩ := Cond.laysAt hfound hkX hSt (q 14 (Nat.le_of_ble_eq_true rfl))
  obtain ⟨tB, dB, hdB, hnB⟩ := Cond.laysAt hfound hkX b8 (q 24 (Nat.le_of_ble_eq_true rfl))
  obtain ⟨tD, dD, hdD, hnD⟩ := Cond.laysAt hfound hkX d3 (q 25 (Nat.le_of_ble_eq_true rfl))
  obtain ⟨C3, cf3, kf3, if3, fb3, m1, m2, -, -, -, -, m7⟩ := FB
  cases e1.symm.trans m1
  obtain ⟨kf3', m8, -⟩ := own_ff hZ m2
  have em := m8.symm.trans b8
  simp only [Option.some.injEq, Prod.mk.injEq] at em
  obtain ⟨-, -, -, rfl⟩ := em
  have tk : ∀ {f : Field} {v : Value}, kX.instanceTypes[f.slot]? = some f.type → fits f.type v = true → Jvm.Takes s C f v := fun {f v} t1 t2 => by
    obtain ⟨z1, z2⟩ := Takes.of_laid (v := v) hkX hord t1 t2
    exact ⟨by rw [hsz]; simpa using z1, by rw [u2]; exact z2⟩
  have hsel : selectMethod e.platform s.vm C.cls TT.fill0 = .method TT.fill0 := by
    obtain ⟨x1, x2, x3, y1, y2, y3, y4, -⟩ := Cond.selects_spec (q 30 (Nat.le_of_ble_eq_true rfl))
    cases Option.some.inj (y1.symm.trans hfound)
    cases Option.some.inj (y2.symm.trans (State.methodFound?_of_named hF0 (by decide)))
    cases Option.some.inj (y3.symm.trans hF0)
    rw [Launch.admits_selectMethod X.admits]; exact y4
  have hSE := q 31 (Nat.le_of_ble_eq_true rfl)
  have hS2 : T.heap[TT.aS]? = some cS := by rw [eT]; exact v5
  obtain ⟨v6', vm6, ⟨T6, L6, c6, n6⟩, -, X6, ⟨hv, C6, n, hn, hD6, q1, q2, q3, q4, hL6, hc6, hn6⟩, st6⟩ := X.virtualBack hx (own := tN) (C := rc) (index := 27) (y := tFill) (z := tFill) hown (q 9 (Nat.le_of_ble_eq_true rfl)) (q 29 (Nat.le_of_ble_eq_true rfl)) (notFace_of_selects hSE) hSE (q 2 (Nat.le_of_ble_eq_true rfl)) (by decide)
    (Jvm.Free.Exc.fillPaysAny (l := l) (W := 2 * g.monitorRoom) hx htr TT LL hF1 (u0 := ⟨vu, hvu⟩) (self := a) (cell := C) (cellS := cS) (fun _ => by rw [u2]; simp) (by rw [u2]; simp) (by rw [u3]) (by rw [u3]) s7 hsel hne hkS v7 (tk tS (by rw [hTy]; exact fits_refV_array _ ⟨vu, hvu⟩))
      ⟨{ ci198 := e198, i198 := j198, fBack := fb3 }, ⟨b1, b2, b3, b4⟩, m7⟩ hTK hBelow hT o3 o1 o2 hfb hfd (fun x => tk tB (by rw [b7]; rfl)) (fun x => tk tD (by rw [d9]; rfl)) (by omega) hlo)
    (b := a) (cB := C.cls) hfound ⟨C, hD, rfl, e4⟩ (g := g) hg hsize (Steps.refl _) (argsL := []) (rest := [])
    (fun sig z => by rw [show parseMethodDescriptor tFill.desc = some ⟨[], some (.object tN)⟩ from by decide +kernel] at z; rw [← Option.some.inj z]; rfl) hs (Nat.le_refl _) hd
    (fun vmx hWx => ⟨rfl, by show 0 + 1 ≤ R.cells; omega, by show 0 + 2752 ≤ R.slots; omega, hD, hS2⟩)
  dsimp only [Pt.U, Pt.locs, Pt.cells, Pt.slots] at X6 hD6 hL6 hc6 hn6 st6
  subst hv hL6 hc6 hn6
  have hL' : ∀ x ∈ locs ++ [(⟨a, fb3.slot⟩ : Loc), ⟨a, fD.slot⟩, ⟨a, TT.fStack.slot⟩], x.base = a := fun x hx' => by
    rcases List.mem_append.mp hx' with z | z
    · exact hL x z
    · simp only [List.mem_cons, List.not_mem_nil, or_false] at z
      rcases z with rfl | rfl | rfl <;> rfl
  have big : ∀ {y : Addr} {cy : Cell}, h[y]? = some cy → ∃ c0, s.heap[y]? = some c0 := fun {y cy} z => by
    have z1 := (Array.getElem?_eq_some_iff.mp z).1
    have z2 := X.same.2.2.1
    have z3 : T.heap.size ≤ s.heap.size + 0 := z2
    rw [eT] at z3
    exact ⟨_, Array.getElem?_eq_getElem (by omega)⟩
  have oth : ∀ {y : Addr} {cy : Cell}, y ≠ a → h[y]? = some cy → T6.heap[y]? = some cy := fun {y cy} hy z => by
    obtain ⟨c0, z1⟩ := big z
    have z2 := own_other X hL hy z1
    rw [eT, z] at z2
    rw [Option.some.inj z2]; exact own_other X6 hL' hy z1
  refine ⟨T6, T6.heap, _, X6.more (Nat.le_refl _) (by omega), rfl, hL', ⟨?_, fun y cy z r => oth (by simpa using r) z, fun y cy z => ?_⟩, ⟨C6, kC, hD6, by rw [q1]; exact e2, by rw [q1]; exact e3, by rw [q2]; exact e4, fun z => by rw [q3]; exact e5 z⟩, own_at X6 hh N0, ?_, st6⟩
  · have z1 : T.heap.size ≤ s.heap.size + 0 := X.same.2.2.1
    have z2 : s.heap.size ≤ T6.heap.size := X6.same.2.1
    rw [eT] at z1; omega
  · by_cases hy : y = a
    · subst hy
      cases e1.symm.trans z
      exact ⟨C6, hD6, q1, q2, q3⟩
    · exact ⟨cy, oth hy z, rfl, rfl, rfl⟩
  · intro nn dd t v wl ht n1 n2 n3 F
    obtain ⟨Cf, cf, kf, jf, f, g1, g2, g3, g4, g5, g6, g7⟩ := F
    cases e1.symm.trans g1
    obtain ⟨kf', g8, -⟩ := own_ff hZ g2
    obtain ⟨-, dF, hdF, hnF⟩ := Cond.laysAt hfound hkX g8 wl
    have nmF := (State.fieldFound?_type g8 (t := t) ht).1
    refine ⟨C6, cf, kf, jf, f, hD6, g2, g3, by rw [q2]; exact g4, by rw [q2]; exact g5, by rw [q1]; exact g6, ?_⟩
    rw [q4 _ (Cond.laysApart hdF hdB hnF hnB (by rw [nmF, b6]; exact n1)) (Cond.laysApart hdF hdD hnF hnD (by rw [nmF, d8]; exact n2)) (Cond.laysApart hdF hdS hnF hnS (by rw [nmF, hNm]; exact n3))]
    exact g7
end Fill
abbrev own_rc : String := "com/example/mortise_lock/mortiselock/redis/RedisCallException"
theorem own_ws {Z s : State} {a0 args : Array Value} (hT : ThS Z s.heap) (hZ : Z.Warmed39 s.vm) (hw : ∀ d ∈ tables_1, d.before a0 Z = true) : ∀ d ∈ own_thw own_rc, d.before args s = true := fun d hd => mvX hT hZ (List.all_eq_true.mp (by decide +kernel : (own_thw own_rc).all xOk = true) d hd) (hw d ((by decide +kernel : ∀ d ∈ own_thw own_rc, d ∈ tables_1) d hd))
theorem own_fitsA {v : Value} {t : FieldType} (h : v.isRef = true) : fits (.array t) v = true := by rcases ref_cases h with rfl | ⟨a, rfl⟩ <;> rfl
theorem own_narrowA {v : Value} {t : FieldType} (h : v.isRef = true) : narrow (.array t) v = v := by rcases ref_cases h with rfl | ⟨a, rfl⟩ <;> rfl
theorem pn_35 : plainName "java/lang/Throwable" = true := by first | (simp [plainName, overriddenIn]; done) | decide +kernel
theorem d35_0 : decode jdk_78_method_3_code 0 = .ok (.aload_n 0, 1) := by decide +kernel
theorem d35_1 : decode jdk_78_method_3_code 1 = .ok (.invokespecial 1, 3) := by decide +kernel
theorem d35_4 : decode jdk_78_method_3_code 4 = .ok (.aload_n 0, 1) := by decide +kernel
theorem d35_5 : decode jdk_78_method_3_code 5 = .ok (.aload_n 0, 1) := by decide +kernel
theorem d35_6 : decode jdk_78_method_3_code 6 = .ok (.putfield 7, 3) := by decide +kernel
theorem d35_9 : decode jdk_78_method_3_code 9 = .ok (.aload_n 0, 1) := by decide +kernel
theorem d35_10 : decode jdk_78_method_3_code 10 = .ok (.getstatic 13, 3) := by decide +kernel
theorem d35_13 : decode jdk_78_method_3_code 13 = .ok (.putfield 17, 3) := by decide +kernel
theorem d35_16 : decode jdk_78_method_3_code 16 = .ok (.aload_n 0, 1) := by decide +kernel
theorem d35_17 : decode jdk_78_method_3_code 17 = .ok (.getstatic 20, 3) := by decide +kernel
theorem d35_20 : decode jdk_78_method_3_code 20 = .ok (.putfield 24, 3) := by decide +kernel
theorem d35_23 : decode jdk_78_method_3_code 23 = .ok (.aload_n 0, 1) := by decide +kernel
theorem d35_24 : decode jdk_78_method_3_code 24 = .ok (.invokevirtual 27, 3) := by decide +kernel
theorem d35_27 : decode jdk_78_method_3_code 27 = .ok (.pop, 1) := by decide +kernel
theorem d35_28 : decode jdk_78_method_3_code 28 = .ok (.aload_n 0, 1) := by decide +kernel
theorem d35_29 : decode jdk_78_method_3_code 29 = .ok (.aload_n 1, 1) := by decide +kernel
theorem d35_30 : decode jdk_78_method_3_code 30 = .ok (.putfield 31, 3) := by decide +kernel
theorem d35_33 : decode jdk_78_method_3_code 33 = .ok (.aload_n 0, 1) := by decide +kernel
theorem d35_34 : decode jdk_78_method_3_code 34 = .ok (.aload_n 2, 1) := by decide +kernel
theorem d35_35 : decode jdk_78_method_3_code 35 = .ok (.putfield 7, 3) := by decide +kernel
theorem d35_38 : decode jdk_78_method_3_code 38 = .ok (.return_, 1) := by decide +kernel
theorem ef_rm35 (m : MethodId) (a1 : Addr) (a2 : Addr) : entryFrame m #[(.ref a1), (.ref a2), .null] 3 = mkF m 0 #[oR a1, oR a2, .val .null] [] := by first | (simp [entryFrame, mkF, argsToLocals, Value.category]; done) | rfl
def Q_rm35 (Z : State) (a1 : Addr) (a2 : Addr) (vu : Value) (vs : Value) (h0 : Heap) (n0 : Nat) (v : Option Value) (h : Heap) (L : List Loc) : Prop := (v = none) ∧ (Fr n0 L) ∧ (Keep h0 h [a1]) ∧ (Exa Z h a1 "com/example/mortise_lock/mortiselock/redis/RedisCallException") ∧ (Unt h a1) ∧ (ThS Z h) ∧ (Fld Z h a1 "java/lang/Throwable" "detailMessage" "Ljava/lang/String;" (.ref a2)) ∧ (Fld Z h a1 "java/lang/Throwable" "cause" "Ljava/lang/Throwable;" .null)
set_option maxRecDepth 65536 in
set_option maxHeartbeats 40000000 in
theorem rm35 (l : Launch) (Z : State) (a0 : Array Value) (hw : ∀ d ∈ tables_1, d.before a0 Z = true) (ws : List Jvm.Cond) (a1 : Addr) (a2 : Addr) (vu : Value) (vs : Value) (h0 : Heap) (n0 : Nat) (Z0 : n0 ≤ h0.size) (g_a1 : n0 ≤ a1) (O0 : Jvm.RoadKit.Old Z n0 h0) (P2 : Exa Z h0 a1 "com/example/mortise_lock/mortiselock/redis/RedisCallException") (PU : Unt h0 a1) (PT : ThS Z h0) (hTR : ∀ d ∈ Jvm.RoadKit.twoRefs, d.before a0 Z = true) (hl : l.stackTraces = true) (SUn : Sta Z Z.heap "java/lang/Throwable" "UNASSIGNED_STACK" "[Ljava/lang/StackTraceElement;" vu) (SSe : Sta Z Z.heap "java/lang/Throwable" "SUPPRESSED_SENTINEL" "Ljava/util/List;" vs) (hvu : Value.isRef vu = true) (hvs : Value.isRef vs = true) (P11 : Fld Z h0 a1 "java/lang/Throwable" "detailMessage" "Ljava/lang/String;" .null) (P12 : Fld Z h0 a1 "java/lang/Throwable" "cause" "Ljava/lang/Throwable;" .null) (P13 : Fld Z h0 a1 "java/lang/Throwable" "stackTrace" "[Ljava/lang/StackTraceElement;" .null) (P14 : Fld Z h0 a1 "java/lang/Throwable" "suppressedExceptions" "Ljava/util/List;" .null) (P15 : Fld Z h0 a1 "java/lang/Throwable" "backtrace" "Ljava/lang/Object;" .null) :
    MetFree l (⟨"java/lang/Throwable", "<init>", "(Ljava/lang/String;Ljava/lang/Throwable;)V"⟩ : MethodName) (head1 (Jvm.Cond.code (⟨"java/lang/Throwable", "<init>", "(Ljava/lang/String;Ljava/lang/Throwable;)V"⟩ : MethodName) jdk_78_method_3_code 3 none :: ws) ({ frames := 3, cells := 1, slots := 2752, locals := 42 } : Room)) (fun a U => a = #[(.ref a1), (.ref a2), .null] ∧ Z.Warmed39 U.vm ∧ U.heap = h0) (fun _ _ bl s _ => s.vm.MethodsKnown ∧ s.vm.FramesKnown bl) (fun _ U o U' => ∃ v L, o = .returned v ∧ Q_rm35 Z a1 a2 vu vs h0 n0 v U'.heap L ∧ FrameEnd U o U' L ({ frames := 3, cells := 1, slots := 2752, locals := 42 } : Room).cells ({ frames := 3, cells := 1, slots := 2752, locals := 42 } : Room).slots) := by
  refine MetFree.of_bodySF (plainFor_of_name pn_35) hisR ?_
  intro p e s m args below meth c s₁ Bd hml0 hP hK
  obtain ⟨rfl, hZ, hh⟩ := hP
  have hx := Bd.exec
  have hby := Bd.bytes
  have hml : c.maxLocals = 3 := hml0
  have hown : s.vm.findClass "java/lang/Throwable" = some m.cls := findClass_of_methodNamed Bd.named
  have hnm := (name_of_methodNamed Bd.named Bd.method).1
  have hlk := Bd.notSynchronized
  have X0 : Stand p l e ({ frames := 3, cells := 1, slots := 2752, locals := 42 } : Room) s m #[(.ref a1), (.ref a2), .null] below meth c s₁ [] 0 0 := Stand.of_body Bd
  have e0 : s₁.heap = h0 := by rw [← hh, Bd.state]; rfl
  have N0 := Fr.nil n0
  refine Wp.goal (Post := (fun o U' => ∃ v L, o = .returned v ∧ Q_rm35 Z a1 a2 vu vs h0 n0 v U'.heap L ∧ FrameEnd s o U' L ({ frames := 3, cells := 1, slots := 2752, locals := 42 } : Room).cells ({ frames := 3, cells := 1, slots := 2752, locals := 42 } : Room).slots)) (Wp.st (S' := s₁.setTop (mkF m 0 #[oR a1, oR a2, .val .null] [])) (fun tt_ kk_ => castTop (ef_rm35 m a1 a2 ) kk_) ?_)
  refine Wp.st (S' := s₁.setTop (mkF m 1 #[oR a1, oR a2, .val .null] [(.ref a1)])) (fun tt_ kk_ => XS.aloadN X0.here hx rfl (hb hby d35_0) rfl rfl kk_) ?_
  obtain ⟨T1, X1, e1, st1⟩ := initO X0 hx hZ hown (hw _ (List.mem_of_getElem? (i := 195) rfl)) (hw _ (List.mem_of_getElem? (i := 16) rfl)) (hw _ (List.mem_of_getElem? (i := 17) rfl)) e0 (g := (mkF m 1 #[oR a1, oR a2, .val .null] [(.ref a1)])) rfl (by rw [hml]; rfl) rfl (hb hby d35_1) (by decide) (W := 0) (by show 2 * 0 + _ ≤ _; exact Nat.le_of_eq rfl) (by decide)
  refine Wp.st (S' := T1.setTop (mkF m 4 #[oR a1, oR a2, .val .null] [])) st1 ?_
  refine Wp.st (S' := T1.setTop (mkF m 5 #[oR a1, oR a2, .val .null] [(.ref a1)])) (fun tt_ kk_ => XS.aloadN X1.here hx rfl (hb hby d35_4) rfl rfl kk_) ?_
  refine Wp.st (S' := T1.setTop (mkF m 6 #[oR a1, oR a2, .val .null] [(.ref a1), (.ref a1)])) (fun tt_ kk_ => XS.aloadN X1.here hx rfl (hb hby d35_5) rfl rfl kk_) ?_
  obtain ⟨T2, h2, X2, e2, W2, st2⟩ := putF X1 hx hZ hown (host := "") (Or.inl (hw _ (List.mem_of_getElem? (i := 196) rfl))) Via.refl e1 P12 P2 (Or.inl (hw _ (List.mem_of_getElem? (i := 197) rfl))) (hw _ (List.mem_of_getElem? (i := 42) rfl)) (ty := (.object "java/lang/Throwable")) (by decide) rfl rfl (g := (mkF m 6 #[oR a1, oR a2, .val .null] [(.ref a1), (.ref a1)])) rfl rfl (hb hby d35_6)
  have z3 := Nat.le_of_eq W2.size.symm
  have Fw2 : Fld Z h2 a1 "java/lang/Throwable" "cause" "Ljava/lang/Throwable;" (.ref a1) := P12.same W2
  have N2 := Fr.snoc X2 N0 g_a1
  refine Wp.st (S' := T2.setTop (mkF m 9 #[oR a1, oR a2, .val .null] [])) st2 ?_
  refine Wp.st (S' := T2.setTop (mkF m 10 #[oR a1, oR a2, .val .null] [(.ref a1)])) (fun tt_ kk_ => XS.aloadN X2.here hx rfl (hb hby d35_9) rfl rfl kk_) ?_
  have O4 := O0.wr W2 g_a1
  obtain ⟨T5, X5, e5, st5⟩ := getS2 X2 hx hZ hown (host := "") (Or.inl (hw _ (List.mem_of_getElem? (i := 198) rfl))) Via.refl e2 (SUn.ext O4.2) (g := (mkF m 10 #[oR a1, oR a2, .val .null] [(.ref a1)])) rfl (hb hby d35_10)
  refine Wp.st (S' := T5.setTop (mkF m 13 #[oR a1, oR a2, .val .null] [vu, (.ref a1)])) st5 ?_
  have F7 := P13.other W2 (Or.inr (slot_ne (Or.inl (hw _ (List.mem_of_getElem? (i := 200) rfl))) (Or.inl (hw _ (List.mem_of_getElem? (i := 197) rfl))) (by decide) (t := (.array (.object "java/lang/StackTraceElement"))) (t' := (.object "java/lang/Throwable")) (by decide) (by decide)))
  have F8 := P2.wr W2
  obtain ⟨T6, h6, X6, e6, W6, st6⟩ := putF X5 hx hZ hown (host := "") (Or.inl (hw _ (List.mem_of_getElem? (i := 199) rfl))) Via.refl e5 F7 F8 (Or.inl (hw _ (List.mem_of_getElem? (i := 200) rfl))) (hw _ (List.mem_of_getElem? (i := 42) rfl)) (ty := (.array (.object "java/lang/StackTraceElement"))) (by decide) (own_narrowA hvu) (own_fitsA hvu) (g := (mkF m 13 #[oR a1, oR a2, .val .null] [vu, (.ref a1)])) rfl rfl (hb hby d35_13)
  have z9 := Nat.le_of_eq W6.size.symm
  have Fw6 : Fld Z h6 a1 "java/lang/Throwable" "stackTrace" "[Ljava/lang/StackTraceElement;" vu := F7.same W6
  have N6 := Fr.snoc X6 N2 g_a1
  refine Wp.st (S' := T6.setTop (mkF m 16 #[oR a1, oR a2, .val .null] [])) st6 ?_
  refine Wp.st (S' := T6.setTop (mkF m 17 #[oR a1, oR a2, .val .null] [(.ref a1)])) (fun tt_ kk_ => XS.aloadN X6.here hx rfl (hb hby d35_16) rfl rfl kk_) ?_
  have O10 := O4.wr W6 g_a1
  obtain ⟨T11, X11, e11, st11⟩ := getS2 X6 hx hZ hown (host := "") (Or.inl (hw _ (List.mem_of_getElem? (i := 201) rfl))) Via.refl e6 (SSe.ext O10.2) (g := (mkF m 17 #[oR a1, oR a2, .val .null] [(.ref a1)])) rfl (hb hby d35_17)
  refine Wp.st (S' := T11.setTop (mkF m 20 #[oR a1, oR a2, .val .null] [vs, (.ref a1)])) st11 ?_
  have F13 := P14.other W2 (Or.inr (slot_ne (Or.inl (hw _ (List.mem_of_getElem? (i := 203) rfl))) (Or.inl (hw _ (List.mem_of_getElem? (i := 197) rfl))) (by decide) (t := (.object "java/util/List")) (t' := (.object "java/lang/Throwable")) (by decide) (by decide)))
  have F14 := F13.other W6 (Or.inr (slot_ne (Or.inl (hw _ (List.mem_of_getElem? (i := 203) rfl))) (Or.inl (hw _ (List.mem_of_getElem? (i := 200) rfl))) (by decide) (t := (.object "java/util/List")) (t' := (.array (.object "java/lang/StackTraceElement"))) (by decide) (by decide)))
  have F15 := F8.wr W6
  obtain ⟨T12, h12, X12, e12, W12, st12⟩ := putF X11 hx hZ hown (host := "") (Or.inl (hw _ (List.mem_of_getElem? (i := 202) rfl))) Via.refl e11 F14 F15 (Or.inl (hw _ (List.mem_of_getElem? (i := 203) rfl))) (hw _ (List.mem_of_getElem? (i := 42) rfl)) (ty := (.object "java/util/List")) (by decide) (own_narrow hvs) (own_fits hvs) (g := (mkF m 20 #[oR a1, oR a2, .val .null] [vs, (.ref a1)])) rfl rfl (hb hby d35_20)
  have z16 := Nat.le_of_eq W12.size.symm
  have Fw12 : Fld Z h12 a1 "java/lang/Throwable" "suppressedExceptions" "Ljava/util/List;" vs := F14.same W12
  have N12 := Fr.snoc X12 N6 g_a1
  refine Wp.st (S' := T12.setTop (mkF m 23 #[oR a1, oR a2, .val .null] [])) st12 ?_
  refine Wp.st (S' := T12.setTop (mkF m 24 #[oR a1, oR a2, .val .null] [(.ref a1)])) (fun tt_ kk_ => XS.aloadN X12.here hx rfl (hb hby d35_23) rfl rfl kk_) ?_
  have hT0 : ThS Z s.heap := by rw [hh]; exact PT
  have wq : ∀ d ∈ own_thw own_rc, d.before #[(.ref a1), (.ref a2), .null] s = true := own_ws hT0 hZ hw
  have F18 := F15.wr W12
  have F19 := Fw6.other W12 (Or.inr (slot_ne (Or.inl (hw _ (List.mem_of_getElem? (i := 200) rfl))) (Or.inl (hw _ (List.mem_of_getElem? (i := 203) rfl))) (by decide) (t := (.array (.object "java/lang/StackTraceElement"))) (t' := (.object "java/util/List")) (by decide) (by decide)))
  have F20 := P15.other W2 (Or.inr (slot_ne (Or.inl (hw _ (List.mem_of_getElem? (i := 228) rfl))) (Or.inl (hw _ (List.mem_of_getElem? (i := 197) rfl))) (by decide) (t := (.object "java/lang/Object")) (t' := (.object "java/lang/Throwable")) (by decide) (by decide)))
  have F21 := F20.other W6 (Or.inr (slot_ne (Or.inl (hw _ (List.mem_of_getElem? (i := 228) rfl))) (Or.inl (hw _ (List.mem_of_getElem? (i := 200) rfl))) (by decide) (t := (.object "java/lang/Object")) (t' := (.array (.object "java/lang/StackTraceElement"))) (by decide) (by decide)))
  have F22 := F21.other W12 (Or.inr (slot_ne (Or.inl (hw _ (List.mem_of_getElem? (i := 228) rfl))) (Or.inl (hw _ (List.mem_of_getElem? (i := 203) rfl))) (by decide) (t := (.object "java/lang/Object")) (t' := (.object "java/util/List")) (by decide) (by decide)))
  have O23 := O10.wr W12 g_a1
  have F24 := P11.other W2 (Or.inr (slot_ne (Or.inl (hw _ (List.mem_of_getElem? (i := 227) rfl))) (Or.inl (hw _ (List.mem_of_getElem? (i := 197) rfl))) (by decide) (t := (.object "java/lang/String")) (t' := (.object "java/lang/Throwable")) (by decide) (by decide)))
  have F25 := F24.other W6 (Or.inr (slot_ne (Or.inl (hw _ (List.mem_of_getElem? (i := 227) rfl))) (Or.inl (hw _ (List.mem_of_getElem? (i := 200) rfl))) (by decide) (t := (.object "java/lang/String")) (t' := (.array (.object "java/lang/StackTraceElement"))) (by decide) (by decide)))
  have F26 := F25.other W12 (Or.inr (slot_ne (Or.inl (hw _ (List.mem_of_getElem? (i := 227) rfl))) (Or.inl (hw _ (List.mem_of_getElem? (i := 203) rfl))) (by decide) (t := (.object "java/lang/String")) (t' := (.object "java/util/List")) (by decide) (by decide)))
  have F27 := Fw2.other W6 (Or.inr (slot_ne (Or.inl (hw _ (List.mem_of_getElem? (i := 197) rfl))) (Or.inl (hw _ (List.mem_of_getElem? (i := 200) rfl))) (by decide) (t := (.object "java/lang/Throwable")) (t' := (.array (.object "java/lang/StackTraceElement"))) (by decide) (by decide)))
  have F28 := F27.other W12 (Or.inr (slot_ne (Or.inl (hw _ (List.mem_of_getElem? (i := 197) rfl))) (Or.inl (hw _ (List.mem_of_getElem? (i := 203) rfl))) (by decide) (t := (.object "java/lang/Throwable")) (t' := (.object "java/util/List")) (by decide) (by decide)))
  obtain ⟨T17, h17, L17, X17, e17, Lb17, K17, Ex17, Un17, ff17, st17⟩ := own_fill X12 hx hl hZ (rc := own_rc) (k6 := 6) hown wq (hw _ (List.mem_of_getElem? (i := 42) rfl)) hK.1 hK.2 e12 (a := a1) (by intro x hx'; simp only [List.nil_append, List.cons_append, List.mem_cons, List.not_mem_nil, or_false] at hx'; rcases hx' with rfl | rfl | rfl <;> rfl) hh PU F18 hvu F19 F22 (SUn.ext O23.2) (g := (mkF m 24 #[oR a1, oR a2, .val .null] [(.ref a1)])) rfl (by rw [hml]; rfl) rfl (hb hby d35_24) (by decide) (Nat.le_of_ble_eq_true rfl) (by decide) (by decide)
  have N17 : Fr n0 L17 := fun y hy => by rw [Lb17 y hy]; exact g_a1
  have F29 := ThS.wr W2 PT
  have F30 := ThS.wr W6 F29
  have F31 := ThS.wr W12 F30
  have Th32 := ThS.keep K17 (nsS (Exa.nostat F18) ns0) F31
  have z33 := K17.1
  have Ff17_12 := ff17 (wq _ (List.mem_of_getElem? (i := 12) rfl)) (t := (.object "java/lang/Throwable")) (by decide +kernel) (by decide) (by decide) (by decide) F28
  have Ff17_22 := ff17 (wq _ (List.mem_of_getElem? (i := 22) rfl)) (t := (.object "java/lang/String")) (by decide +kernel) (by decide) (by decide) (by decide) F26
  refine Wp.tr (S' := T17.setTop (mkF m 27 #[oR a1, oR a2, .val .null] [(.ref a1)])) st17 ?_
  refine Wp.st (S' := T17.setTop (mkF m 28 #[oR a1, oR a2, .val .null] [])) (fun tt_ kk_ => XS.pop X17.here hx rfl (hb hby d35_27) rfl rfl kk_) ?_
  refine Wp.st (S' := T17.setTop (mkF m 29 #[oR a1, oR a2, .val .null] [(.ref a1)])) (fun tt_ kk_ => XS.aloadN X17.here hx rfl (hb hby d35_28) rfl rfl kk_) ?_
  refine Wp.st (S' := T17.setTop (mkF m 30 #[oR a1, oR a2, .val .null] [(.ref a2), (.ref a1)])) (fun tt_ kk_ => XS.aloadN X17.here hx rfl (hb hby d35_29) rfl rfl kk_) ?_
  obtain ⟨T34, h34, X34, e34, W34, st34⟩ := putF X17 hx hZ hown (host := "") (Or.inl (hw _ (List.mem_of_getElem? (i := 231) rfl))) Via.refl e17 Ff17_22 Ex17 (Or.inl (hw _ (List.mem_of_getElem? (i := 227) rfl))) (hw _ (List.mem_of_getElem? (i := 42) rfl)) (ty := (.object "java/lang/String")) (by decide) rfl rfl (g := (mkF m 30 #[oR a1, oR a2, .val .null] [(.ref a2), (.ref a1)])) rfl rfl (hb hby d35_30)
  have z35 := Nat.le_of_eq W34.size.symm
  have Fw34 : Fld Z h34 a1 "java/lang/Throwable" "detailMessage" "Ljava/lang/String;" (.ref a2) := Ff17_22.same W34
  have N34 := Fr.snoc X34 N17 g_a1
  refine Wp.st (S' := T34.setTop (mkF m 33 #[oR a1, oR a2, .val .null] [])) st34 ?_
  refine Wp.st (S' := T34.setTop (mkF m 34 #[oR a1, oR a2, .val .null] [(.ref a1)])) (fun tt_ kk_ => XS.aloadN X34.here hx rfl (hb hby d35_33) rfl rfl kk_) ?_
  refine Wp.st (S' := T34.setTop (mkF m 35 #[oR a1, oR a2, .val .null] [.null, (.ref a1)])) (fun tt_ kk_ => XS.aloadN X34.here hx rfl (hb hby d35_34) rfl rfl kk_) ?_
  have F37 := Ff17_12.other W34 (Or.inr (slot_ne (Or.inl (hw _ (List.mem_of_getElem? (i := 197) rfl))) (Or.inl (hw _ (List.mem_of_getElem? (i := 227) rfl))) (by decide) (t := (.object "java/lang/Throwable")) (t' := (.object "java/lang/String")) (by decide) (by decide)))
  have F38 := Ex17.wr W34
  obtain ⟨T36, h36, X36, e36, W36, st36⟩ := putF X34 hx hZ hown (host := "") (Or.inl (hw _ (List.mem_of_getElem? (i := 196) rfl))) Via.refl e34 F37 F38 (Or.inl (hw _ (List.mem_of_getElem? (i := 197) rfl))) (hw _ (List.mem_of_getElem? (i := 42) rfl)) (ty := (.object "java/lang/Throwable")) (by decide) rfl rfl (g := (mkF m 35 #[oR a1, oR a2, .val .null] [.null, (.ref a1)])) rfl rfl (hb hby d35_35)
  have z39 := Nat.le_of_eq W36.size.symm
  have Fw36 : Fld Z h36 a1 "java/lang/Throwable" "cause" "Ljava/lang/Throwable;" .null := F37.same W36
  have N36 := Fr.snoc X36 N34 g_a1
  refine Wp.st (S' := T36.setTop (mkF m 38 #[oR a1, oR a2, .val .null] [])) st36 ?_
  have K40 := Keep.refl h0 [a1]
  have K41 := K40.wr W2 (Or.inl (List.mem_of_getElem? (i := 0) rfl))
  have K42 := K41.wr W6 (Or.inl (List.mem_of_getElem? (i := 0) rfl))
  have K43 := K42.wr W12 (Or.inl (List.mem_of_getElem? (i := 0) rfl))
  have K44 := K43.trans K17 (allS (Or.inl (List.mem_of_getElem? (i := 0) rfl)) all0)
  have K45 := K44.wr W34 (Or.inl (List.mem_of_getElem? (i := 0) rfl))
  have K46 := K45.wr W36 (Or.inl (List.mem_of_getElem? (i := 0) rfl))
  have F47 := F38.wr W36
  have F48 := Unt.wr W34 Un17
  have F49 := Unt.wr W36 F48
  have F50 := ThS.wr W34 Th32
  have F51 := ThS.wr W36 F50
  have F52 := Fw34.other W36 (Or.inr (slot_ne (Or.inl (hw _ (List.mem_of_getElem? (i := 227) rfl))) (Or.inl (hw _ (List.mem_of_getElem? (i := 197) rfl))) (by decide) (t := (.object "java/lang/String")) (t' := (.object "java/lang/Throwable")) (by decide) (by decide)))
  exact Wp.ret X36 hlk (v := none) (fun _ => rfl) (fun fs hr => X36.returnOut hx Bd.returns (hb hby d35_38) hr) (by decide) (by decide) (show Q_rm35 Z a1 a2 vu vs h0 n0 _ T36.heap _ by rw [e36]; exact ⟨rfl, N36, K46, F47, F49, F51, F52, Fw36⟩)
theorem pn_34 : plainName "java/lang/Exception" = true := by first | (simp [plainName, overriddenIn]; done) | decide +kernel
theorem d34_0 : decode jdk_59_method_3_code 0 = .ok (.aload_n 0, 1) := by decide +kernel
theorem d34_1 : decode jdk_59_method_3_code 1 = .ok (.aload_n 1, 1) := by decide +kernel
theorem d34_2 : decode jdk_59_method_3_code 2 = .ok (.aload_n 2, 1) := by decide +kernel
theorem d34_3 : decode jdk_59_method_3_code 3 = .ok (.invokespecial 10, 3) := by decide +kernel
theorem pd_16 : parseMethodDescriptor "(Ljava/lang/String;Ljava/lang/Throwable;)V" = some ⟨[(.object "java/lang/String"), (.object "java/lang/Throwable")], none⟩ := by decide +kernel
theorem d34_6 : decode jdk_59_method_3_code 6 = .ok (.return_, 1) := by decide +kernel
theorem ef_rm34 (m : MethodId) (a1 : Addr) (a2 : Addr) : entryFrame m #[(.ref a1), (.ref a2), .null] 3 = mkF m 0 #[oR a1, oR a2, .val .null] [] := by first | (simp [entryFrame, mkF, argsToLocals, Value.category]; done) | rfl
def Q_rm34 (Z : State) (a1 : Addr) (a2 : Addr) (vu : Value) (vs : Value) (h0 : Heap) (n0 : Nat) (v : Option Value) (h : Heap) (L : List Loc) : Prop := (v = none) ∧ (Fr n0 L) ∧ (Keep h0 h [a1]) ∧ (Exa Z h a1 "com/example/mortise_lock/mortiselock/redis/RedisCallException") ∧ (Unt h a1) ∧ (ThS Z h) ∧ (Fld Z h a1 "java/lang/Throwable" "detailMessage" "Ljava/lang/String;" (.ref a2)) ∧ (Fld Z h a1 "java/lang/Throwable" "cause" "Ljava/lang/Throwable;" .null)
set_option maxRecDepth 65536 in
set_option maxHeartbeats 40000000 in
theorem rm34 (l : Launch) (Z : State) (a0 : Array Value) (hw : ∀ d ∈ tables_1, d.before a0 Z = true) (ws : List Jvm.Cond) (a1 : Addr) (a2 : Addr) (vu : Value) (vs : Value) (h0 : Heap) (n0 : Nat) (Z0 : n0 ≤ h0.size) (g_a1 : n0 ≤ a1) (O0 : Jvm.RoadKit.Old Z n0 h0) (P2 : Exa Z h0 a1 "com/example/mortise_lock/mortiselock/redis/RedisCallException") (PU : Unt h0 a1) (PT : ThS Z h0) (hTR : ∀ d ∈ Jvm.RoadKit.twoRefs, d.before a0 Z = true) (hl : l.stackTraces = true) (SUn : Sta Z Z.heap "java/lang/Throwable" "UNASSIGNED_STACK" "[Ljava/lang/StackTraceElement;" vu) (SSe : Sta Z Z.heap "java/lang/Throwable" "SUPPRESSED_SENTINEL" "Ljava/util/List;" vs) (hvu : Value.isRef vu = true) (hvs : Value.isRef vs = true) (P11 : Fld Z h0 a1 "java/lang/Throwable" "detailMessage" "Ljava/lang/String;" .null) (P12 : Fld Z h0 a1 "java/lang/Throwable" "cause" "Ljava/lang/Throwable;" .null) (P13 : Fld Z h0 a1 "java/lang/Throwable" "stackTrace" "[Ljava/lang/StackTraceElement;" .null) (P14 : Fld Z h0 a1 "java/lang/Throwable" "suppressedExceptions" "Ljava/util/List;" .null) (P15 : Fld Z h0 a1 "java/lang/Throwable" "backtrace" "Ljava/lang/Object;" .null) :
    MetFree l (⟨"java/lang/Exception", "<init>", "(Ljava/lang/String;Ljava/lang/Throwable;)V"⟩ : MethodName) (head1 (Jvm.Cond.code (⟨"java/lang/Exception", "<init>", "(Ljava/lang/String;Ljava/lang/Throwable;)V"⟩ : MethodName) jdk_59_method_3_code 3 none :: ws) ({ frames := 4, cells := 1, slots := 2752, locals := 56 } : Room)) (fun a U => a = #[(.ref a1), (.ref a2), .null] ∧ Z.Warmed39 U.vm ∧ U.heap = h0) (fun _ _ bl s _ => s.vm.MethodsKnown ∧ s.vm.FramesKnown bl) (fun _ U o U' => ∃ v L, o = .returned v ∧ Q_rm34 Z a1 a2 vu vs h0 n0 v U'.heap L ∧ FrameEnd U o U' L ({ frames := 4, cells := 1, slots := 2752, locals := 56 } : Room).cells ({ frames := 4, cells := 1, slots := 2752, locals := 56 } : Room).slots) := by
  refine MetFree.of_bodySF (plainFor_of_name pn_34) hisR ?_
  intro p e s m args below meth c s₁ Bd hml0 hP hK
  obtain ⟨rfl, hZ, hh⟩ := hP
  have hx := Bd.exec
  have hby := Bd.bytes
  have hml : c.maxLocals = 3 := hml0
  have hown : s.vm.findClass "java/lang/Exception" = some m.cls := findClass_of_methodNamed Bd.named
  have hnm := (name_of_methodNamed Bd.named Bd.method).1
  have hlk := Bd.notSynchronized
  have X0 : Stand p l e ({ frames := 4, cells := 1, slots := 2752, locals := 56 } : Room) s m #[(.ref a1), (.ref a2), .null] below meth c s₁ [] 0 0 := Stand.of_body Bd
  have e0 : s₁.heap = h0 := by rw [← hh, Bd.state]; rfl
  have N0 := Fr.nil n0
  refine Wp.goal (Post := (fun o U' => ∃ v L, o = .returned v ∧ Q_rm34 Z a1 a2 vu vs h0 n0 v U'.heap L ∧ FrameEnd s o U' L ({ frames := 4, cells := 1, slots := 2752, locals := 56 } : Room).cells ({ frames := 4, cells := 1, slots := 2752, locals := 56 } : Room).slots)) (Wp.st (S' := s₁.setTop (mkF m 0 #[oR a1, oR a2, .val .null] [])) (fun tt_ kk_ => castTop (ef_rm34 m a1 a2 ) kk_) ?_)
  refine Wp.st (S' := s₁.setTop (mkF m 1 #[oR a1, oR a2, .val .null] [(.ref a1)])) (fun tt_ kk_ => XS.aloadN X0.here hx rfl (hb hby d34_0) rfl rfl kk_) ?_
  refine Wp.st (S' := s₁.setTop (mkF m 2 #[oR a1, oR a2, .val .null] [(.ref a2), (.ref a1)])) (fun tt_ kk_ => XS.aloadN X0.here hx rfl (hb hby d34_1) rfl rfl kk_) ?_
  refine Wp.st (S' := s₁.setTop (mkF m 3 #[oR a1, oR a2, .val .null] [.null, (.ref a2), (.ref a1)])) (fun tt_ kk_ => XS.aloadN X0.here hx rfl (hb hby d34_2) rfl rfl kk_) ?_
  obtain ⟨vv1, _, ⟨T1, L1, k1, n1⟩, -, X1, ⟨Lc1, hQ1, l1, y1, z1⟩, st1⟩ := X0.specialBack hx (y := (⟨"java/lang/Throwable", "<init>", "(Ljava/lang/String;Ljava/lang/Throwable;)V"⟩ : MethodName)) rfl hown (mvT hZ (hw _ (List.mem_of_getElem? (i := 189) rfl))) (mvT hZ (hw _ (List.mem_of_getElem? (i := 190) rfl))) (mvT hZ (hw _ (List.mem_of_getElem? (i := 194) rfl))) (by decide) (backOfKL (W := 0) (rm35 l Z a0 hw [] a1 a2 vu vs h0 n0 Z0 g_a1 O0 P2 PU PT ((by assumption) : ∀ d ∈ Jvm.RoadKit.twoRefs, d.before a0 Z = true) ((by assumption) : l.stackTraces = true) SUn SSe hvu hvs P11 P12 P13 P14 P15) hZ (hw _ (List.mem_of_getElem? (i := 194) rfl)) (hw _ (List.mem_of_getElem? (i := 193) rfl)) (by decide) (by decide) hK.1 hK.2) (g := (mkF m 3 #[oR a1, oR a2, .val .null] [.null, (.ref a2), (.ref a1)])) rfl (by rw [hml]; rfl) (Steps.refl _) (a := a1) (argsL := [(.ref a2), .null]) (rest := []) (lenOf pd_16 rfl) rfl (by show 2 * 0 + _ ≤ _; exact Nat.le_of_eq rfl) (hb hby d34_3) (fun _ _ => ⟨rfl, e0, (by decide : 0 + 1 ≤ _), (by decide : 0 + 2752 ≤ _)⟩)
  dsimp only [Pt.U, Pt.locs, Pt.cells, Pt.slots] at X1 l1 y1 z1 st1 hQ1
  subst l1 y1 z1
  obtain ⟨rfl, Nq1, K1, P1_0, P1_1, P1_2, P1_3, P1_4⟩ := hQ1
  have N1 := Fr.app N0 Nq1
  have Th2 := ThS.keep K1 (nsS (Exa.nostat P2) ns0) PT
  have z3 := K1.1
  have e1 : T1.heap = T1.heap := rfl
  refine Wp.tr (S' := T1.setTop (mkF m 6 #[oR a1, oR a2, .val .null] [])) st1 ?_
  have K4 := Keep.refl h0 [a1]
  have K5 := K4.trans K1 (allS (Or.inl (List.mem_of_getElem? (i := 0) rfl)) all0)
  exact Wp.ret X1 hlk (v := none) (fun _ => rfl) (fun fs hr => X1.returnOut hx Bd.returns (hb hby d34_6) hr) (by decide) (by decide) (show Q_rm34 Z a1 a2 vu vs h0 n0 _ T1.heap _ by rw [e1]; exact ⟨rfl, N1, K5, P1_0, P1_1, P1_2, P1_3, P1_4⟩)
theorem pn_33 : plainName "java/lang/RuntimeException" = true := by first | (simp [plainName, overriddenIn]; done) | decide +kernel
theorem d33_0 : decode jdk_58_method_3_code 0 = .ok (.aload_n 0, 1) := by decide +kernel
theorem d33_1 : decode jdk_58_method_3_code 1 = .ok (.aload_n 1, 1) := by decide +kernel
theorem d33_2 : decode jdk_58_method_3_code 2 = .ok (.aload_n 2, 1) := by decide +kernel
theorem d33_3 : decode jdk_58_method_3_code 3 = .ok (.invokespecial 10, 3) := by decide +kernel
theorem d33_6 : decode jdk_58_method_3_code 6 = .ok (.return_, 1) := by decide +kernel
theorem ef_rm33 (m : MethodId) (a1 : Addr) (a2 : Addr) : entryFrame m #[(.ref a1), (.ref a2), .null] 3 = mkF m 0 #[oR a1, oR a2, .val .null] [] := by first | (simp [entryFrame, mkF, argsToLocals, Value.category]; done) | rfl
def Q_rm33 (Z : State) (a1 : Addr) (a2 : Addr) (vu : Value) (vs : Value) (h0 : Heap) (n0 : Nat) (v : Option Value) (h : Heap) (L : List Loc) : Prop := (v = none) ∧ (Fr n0 L) ∧ (Keep h0 h [a1]) ∧ (Exa Z h a1 "com/example/mortise_lock/mortiselock/redis/RedisCallException") ∧ (Unt h a1) ∧ (ThS Z h) ∧ (Fld Z h a1 "java/lang/Throwable" "detailMessage" "Ljava/lang/String;" (.ref a2)) ∧ (Fld Z h a1 "java/lang/Throwable" "cause" "Ljava/lang/Throwable;" .null)
set_option maxRecDepth 65536 in
set_option maxHeartbeats 40000000 in
theorem rm33 (l : Launch) (Z : State) (a0 : Array Value) (hw : ∀ d ∈ tables_1, d.before a0 Z = true) (ws : List Jvm.Cond) (a1 : Addr) (a2 : Addr) (vu : Value) (vs : Value) (h0 : Heap) (n0 : Nat) (Z0 : n0 ≤ h0.size) (g_a1 : n0 ≤ a1) (O0 : Jvm.RoadKit.Old Z n0 h0) (P2 : Exa Z h0 a1 "com/example/mortise_lock/mortiselock/redis/RedisCallException") (PU : Unt h0 a1) (PT : ThS Z h0) (hTR : ∀ d ∈ Jvm.RoadKit.twoRefs, d.before a0 Z = true) (hl : l.stackTraces = true) (SUn : Sta Z Z.heap "java/lang/Throwable" "UNASSIGNED_STACK" "[Ljava/lang/StackTraceElement;" vu) (SSe : Sta Z Z.heap "java/lang/Throwable" "SUPPRESSED_SENTINEL" "Ljava/util/List;" vs) (hvu : Value.isRef vu = true) (hvs : Value.isRef vs = true) (P11 : Fld Z h0 a1 "java/lang/Throwable" "detailMessage" "Ljava/lang/String;" .null) (P12 : Fld Z h0 a1 "java/lang/Throwable" "cause" "Ljava/lang/Throwable;" .null) (P13 : Fld Z h0 a1 "java/lang/Throwable" "stackTrace" "[Ljava/lang/StackTraceElement;" .null) (P14 : Fld Z h0 a1 "java/lang/Throwable" "suppressedExceptions" "Ljava/util/List;" .null) (P15 : Fld Z h0 a1 "java/lang/Throwable" "backtrace" "Ljava/lang/Object;" .null) :
    MetFree l (⟨"java/lang/RuntimeException", "<init>", "(Ljava/lang/String;Ljava/lang/Throwable;)V"⟩ : MethodName) (head1 (Jvm.Cond.code (⟨"java/lang/RuntimeException", "<init>", "(Ljava/lang/String;Ljava/lang/Throwable;)V"⟩ : MethodName) jdk_58_method_3_code 3 none :: ws) ({ frames := 5, cells := 1, slots := 2752, locals := 70 } : Room)) (fun a U => a = #[(.ref a1), (.ref a2), .null] ∧ Z.Warmed39 U.vm ∧ U.heap = h0) (fun _ _ bl s _ => s.vm.MethodsKnown ∧ s.vm.FramesKnown bl) (fun _ U o U' => ∃ v L, o = .returned v ∧ Q_rm33 Z a1 a2 vu vs h0 n0 v U'.heap L ∧ FrameEnd U o U' L ({ frames := 5, cells := 1, slots := 2752, locals := 70 } : Room).cells ({ frames := 5, cells := 1, slots := 2752, locals := 70 } : Room).slots) := by
  refine MetFree.of_bodySF (plainFor_of_name pn_33) hisR ?_
  intro p e s m args below meth c s₁ Bd hml0 hP hK
  obtain ⟨rfl, hZ, hh⟩ := hP
  have hx := Bd.exec
  have hby := Bd.bytes
  have hml : c.maxLocals = 3 := hml0
  have hown : s.vm.findClass "java/lang/RuntimeException" = some m.cls := findClass_of_methodNamed Bd.named
  have hnm := (name_of_methodNamed Bd.named Bd.method).1
  have hlk := Bd.notSynchronized
  have X0 : Stand p l e ({ frames := 5, cells := 1, slots := 2752, locals := 70 } : Room) s m #[(.ref a1), (.ref a2), .null] below meth c s₁ [] 0 0 := Stand.of_body Bd
  have e0 : s₁.heap = h0 := by rw [← hh, Bd.state]; rfl
  have N0 := Fr.nil n0
  refine Wp.goal (Post := (fun o U' => ∃ v L, o = .returned v ∧ Q_rm33 Z a1 a2 vu vs h0 n0 v U'.heap L ∧ FrameEnd s o U' L ({ frames := 5, cells := 1, slots := 2752, locals := 70 } : Room).cells ({ frames := 5, cells := 1, slots := 2752, locals := 70 } : Room).slots)) (Wp.st (S' := s₁.setTop (mkF m 0 #[oR a1, oR a2, .val .null] [])) (fun tt_ kk_ => castTop (ef_rm33 m a1 a2 ) kk_) ?_)
  refine Wp.st (S' := s₁.setTop (mkF m 1 #[oR a1, oR a2, .val .null] [(.ref a1)])) (fun tt_ kk_ => XS.aloadN X0.here hx rfl (hb hby d33_0) rfl rfl kk_) ?_
  refine Wp.st (S' := s₁.setTop (mkF m 2 #[oR a1, oR a2, .val .null] [(.ref a2), (.ref a1)])) (fun tt_ kk_ => XS.aloadN X0.here hx rfl (hb hby d33_1) rfl rfl kk_) ?_
  refine Wp.st (S' := s₁.setTop (mkF m 3 #[oR a1, oR a2, .val .null] [.null, (.ref a2), (.ref a1)])) (fun tt_ kk_ => XS.aloadN X0.here hx rfl (hb hby d33_2) rfl rfl kk_) ?_
  obtain ⟨vv1, _, ⟨T1, L1, k1, n1⟩, -, X1, ⟨Lc1, hQ1, l1, y1, z1⟩, st1⟩ := X0.specialBack hx (y := (⟨"java/lang/Exception", "<init>", "(Ljava/lang/String;Ljava/lang/Throwable;)V"⟩ : MethodName)) rfl hown (mvT hZ (hw _ (List.mem_of_getElem? (i := 183) rfl))) (mvT hZ (hw _ (List.mem_of_getElem? (i := 184) rfl))) (mvT hZ (hw _ (List.mem_of_getElem? (i := 188) rfl))) (by decide) (backOfKL (W := 0) (rm34 l Z a0 hw [] a1 a2 vu vs h0 n0 Z0 g_a1 O0 P2 PU PT ((by assumption) : ∀ d ∈ Jvm.RoadKit.twoRefs, d.before a0 Z = true) ((by assumption) : l.stackTraces = true) SUn SSe hvu hvs P11 P12 P13 P14 P15) hZ (hw _ (List.mem_of_getElem? (i := 188) rfl)) (hw _ (List.mem_of_getElem? (i := 187) rfl)) (by decide) (by decide) hK.1 hK.2) (g := (mkF m 3 #[oR a1, oR a2, .val .null] [.null, (.ref a2), (.ref a1)])) rfl (by rw [hml]; rfl) (Steps.refl _) (a := a1) (argsL := [(.ref a2), .null]) (rest := []) (lenOf pd_16 rfl) rfl (by show 2 * 0 + _ ≤ _; exact Nat.le_of_eq rfl) (hb hby d33_3) (fun _ _ => ⟨rfl, e0, (by decide : 0 + 1 ≤ _), (by decide : 0 + 2752 ≤ _)⟩)
  dsimp only [Pt.U, Pt.locs, Pt.cells, Pt.slots] at X1 l1 y1 z1 st1 hQ1
  subst l1 y1 z1
  obtain ⟨rfl, Nq1, K1, P1_0, P1_1, P1_2, P1_3, P1_4⟩ := hQ1
  have N1 := Fr.app N0 Nq1
  have Th2 := ThS.keep K1 (nsS (Exa.nostat P2) ns0) PT
  have z3 := K1.1
  have e1 : T1.heap = T1.heap := rfl
  refine Wp.tr (S' := T1.setTop (mkF m 6 #[oR a1, oR a2, .val .null] [])) st1 ?_
  have K4 := Keep.refl h0 [a1]
  have K5 := K4.trans K1 (allS (Or.inl (List.mem_of_getElem? (i := 0) rfl)) all0)
  exact Wp.ret X1 hlk (v := none) (fun _ => rfl) (fun fs hr => X1.returnOut hx Bd.returns (hb hby d33_6) hr) (by decide) (by decide) (show Q_rm33 Z a1 a2 vu vs h0 n0 _ T1.heap _ by rw [e1]; exact ⟨rfl, N1, K5, P1_0, P1_1, P1_2, P1_3, P1_4⟩)
theorem pn_32 : plainName "com/example/mortise_lock/mortiselock/redis/RedisCallException" = true := by first | (simp [plainName, overriddenIn]; done) | decide +kernel
theorem d32_0 : decode prog_10_method_1_code 0 = .ok (.aload_n 0, 1) := by decide +kernel
theorem d32_1 : decode prog_10_method_1_code 1 = .ok (.aload_n 1, 1) := by decide +kernel
theorem d32_2 : decode prog_10_method_1_code 2 = .ok (.aload_n 2, 1) := by decide +kernel
theorem d32_3 : decode prog_10_method_1_code 3 = .ok (.invokespecial 1, 3) := by decide +kernel
theorem d32_6 : decode prog_10_method_1_code 6 = .ok (.return_, 1) := by decide +kernel
theorem ef_rm32 (m : MethodId) (a1 : Addr) (a2 : Addr) : entryFrame m #[(.ref a1), (.ref a2), .null] 3 = mkF m 0 #[oR a1, oR a2, .val .null] [] := by first | (simp [entryFrame, mkF, argsToLocals, Value.category]; done) | rfl
def Q_rm32 (Z : State) (a1 : Addr) (a2 : Addr) (vu : Value) (vs : Value) (h0 : Heap) (n0 : Nat) (v : Option Value) (h : Heap) (L : List Loc) : Prop := (v = none) ∧ (Fr n0 L) ∧ (Keep h0 h [a1]) ∧ (Exa Z h a1 "com/example/mortise_lock/mortiselock/redis/RedisCallException") ∧ (Unt h a1) ∧ (ThS Z h) ∧ (Fld Z h a1 "java/lang/Throwable" "detailMessage" "Ljava/lang/String;" (.ref a2)) ∧ (Fld Z h a1 "java/lang/Throwable" "cause" "Ljava/lang/Throwable;" .null)
set_option maxRecDepth 65536 in
set_option maxHeartbeats 40000000 in
theorem rm32 (l : Launch) (Z : State) (a0 : Array Value) (hw : ∀ d ∈ tables_1, d.before a0 Z = true) (ws : List Jvm.Cond) (a1 : Addr) (a2 : Addr) (vu : Value) (vs : Value) (h0 : Heap) (n0 : Nat) (Z0 : n0 ≤ h0.size) (g_a1 : n0 ≤ a1) (O0 : Jvm.RoadKit.Old Z n0 h0) (P2 : Exa Z h0 a1 "com/example/mortise_lock/mortiselock/redis/RedisCallException") (PU : Unt h0 a1) (PT : ThS Z h0) (hTR : ∀ d ∈ Jvm.RoadKit.twoRefs, d.before a0 Z = true) (hl : l.stackTraces = true) (SUn : Sta Z Z.heap "java/lang/Throwable" "UNASSIGNED_STACK" "[Ljava/lang/StackTraceElement;" vu) (SSe : Sta Z Z.heap "java/lang/Throwable" "SUPPRESSED_SENTINEL" "Ljava/util/List;" vs) (hvu : Value.isRef vu = true) (hvs : Value.isRef vs = true) (P11 : Fld Z h0 a1 "java/lang/Throwable" "detailMessage" "Ljava/lang/String;" .null) (P12 : Fld Z h0 a1 "java/lang/Throwable" "cause" "Ljava/lang/Throwable;" .null) (P13 : Fld Z h0 a1 "java/lang/Throwable" "stackTrace" "[Ljava/lang/StackTraceElement;" .null) (P14 : Fld Z h0 a1 "java/lang/Throwable" "suppressedExceptions" "Ljava/util/List;" .null) (P15 : Fld Z h0 a1 "java/lang/Throwable" "backtrace" "Ljava/lang/Object;" .null) :
    MetFree l (⟨"com/example/mortise_lock/mortiselock/redis/RedisCallException", "<init>", "(Ljava/lang/String;Ljava/lang/Throwable;)V"⟩ : MethodName) (head1 (Jvm.Cond.code (⟨"com/example/mortise_lock/mortiselock/redis/RedisCallException", "<init>", "(Ljava/lang/String;Ljava/lang/Throwable;)V"⟩ : MethodName) prog_10_method_1_code 3 none :: ws) ({ frames := 6, cells := 1, slots := 2752, locals := 84 } : Room)) (fun a U => a = #[(.ref a1), (.ref a2), .null] ∧ Z.Warmed39 U.vm ∧ U.heap = h0) (fun _ _ bl s _ => s.vm.MethodsKnown ∧ s.vm.FramesKnown bl) (fun _ U o U' => ∃ v L, o = .returned v ∧ Q_rm32 Z a1 a2 vu vs h0 n0 v U'.heap L ∧ FrameEnd U o U' L ({ frames := 6, cells := 1, slots := 2752, locals := 84 } : Room).cells ({ frames := 6, cells := 1, slots := 2752, locals := 84 } : Room).slots) := by
  refine MetFree.of_bodySF (plainFor_of_name pn_32) hisR ?_
  intro p e s m args below meth c s₁ Bd hml0 hP hK
  obtain ⟨rfl, hZ, hh⟩ := hP
  have hx := Bd.exec
  have hby := Bd.bytes
  have hml : c.maxLocals = 3 := hml0
  have hown : s.vm.findClass "com/example/mortise_lock/mortiselock/redis/RedisCallException" = some m.cls := findClass_of_methodNamed Bd.named
  have hnm := (name_of_methodNamed Bd.named Bd.method).1
  have hlk := Bd.notSynchronized
  have X0 : Stand p l e ({ frames := 6, cells := 1, slots := 2752, locals := 84 } : Room) s m #[(.ref a1), (.ref a2), .null] below meth c s₁ [] 0 0 := Stand.of_body Bd
  have e0 : s₁.heap = h0 := by rw [← hh, Bd.state]; rfl
  have N0 := Fr.nil n0
  refine Wp.goal (Post := (fun o U' => ∃ v L, o = .returned v ∧ Q_rm32 Z a1 a2 vu vs h0 n0 v U'.heap L ∧ FrameEnd s o U' L ({ frames := 6, cells := 1, slots := 2752, locals := 84 } : Room).cells ({ frames := 6, cells := 1, slots := 2752, locals := 84 } : Room).slots)) (Wp.st (S' := s₁.setTop (mkF m 0 #[oR a1, oR a2, .val .null] [])) (fun tt_ kk_ => castTop (ef_rm32 m a1 a2 ) kk_) ?_)
  refine Wp.st (S' := s₁.setTop (mkF m 1 #[oR a1, oR a2, .val .null] [(.ref a1)])) (fun tt_ kk_ => XS.aloadN X0.here hx rfl (hb hby d32_0) rfl rfl kk_) ?_
  refine Wp.st (S' := s₁.setTop (mkF m 2 #[oR a1, oR a2, .val .null] [(.ref a2), (.ref a1)])) (fun tt_ kk_ => XS.aloadN X0.here hx rfl (hb hby d32_1) rfl rfl kk_) ?_
  refine Wp.st (S' := s₁.setTop (mkF m 3 #[oR a1, oR a2, .val .null] [.null, (.ref a2), (.ref a1)])) (fun tt_ kk_ => XS.aloadN X0.here hx rfl (hb hby d32_2) rfl rfl kk_) ?_
  obtain ⟨vv1, _, ⟨T1, L1, k1, n1⟩, -, X1, ⟨Lc1, hQ1, l1, y1, z1⟩, st1⟩ := X0.specialBack hx (y := (⟨"java/lang/RuntimeException", "<init>", "(Ljava/lang/String;Ljava/lang/Throwable;)V"⟩ : MethodName)) rfl hown (mvT hZ (hw _ (List.mem_of_getElem? (i := 178) rfl))) (mvT hZ (hw _ (List.mem_of_getElem? (i := 179) rfl))) (mvT hZ (hw _ (List.mem_of_getElem? (i := 182) rfl))) (by decide) (backOfKL (W := 0) (rm33 l Z a0 hw [] a1 a2 vu vs h0 n0 Z0 g_a1 O0 P2 PU PT ((by assumption) : ∀ d ∈ Jvm.RoadKit.twoRefs, d.before a0 Z = true) ((by assumption) : l.stackTraces = true) SUn SSe hvu hvs P11 P12 P13 P14 P15) hZ (hw _ (List.mem_of_getElem? (i := 182) rfl)) (hw _ (List.mem_of_getElem? (i := 181) rfl)) (by decide) (by decide) hK.1 hK.2) (g := (mkF m 3 #[oR a1, oR a2, .val .null] [.null, (.ref a2), (.ref a1)])) rfl (by rw [hml]; rfl) (Steps.refl _) (a := a1) (argsL := [(.ref a2), .null]) (rest := []) (lenOf pd_16 rfl) rfl (by show 2 * 0 + _ ≤ _; exact Nat.le_of_eq rfl) (hb hby d32_3) (fun _ _ => ⟨rfl, e0, (by decide : 0 + 1 ≤ _), (by decide : 0 + 2752 ≤ _)⟩)
  dsimp only [Pt.U, Pt.locs, Pt.cells, Pt.slots] at X1 l1 y1 z1 st1 hQ1
  subst l1 y1 z1
  obtain ⟨rfl, Nq1, K1, P1_0, P1_1, P1_2, P1_3, P1_4⟩ := hQ1
  have N1 := Fr.app N0 Nq1
  have Th2 := ThS.keep K1 (nsS (Exa.nostat P2) ns0) PT
  have z3 := K1.1
  have e1 : T1.heap = T1.heap := rfl
  refine Wp.tr (S' := T1.setTop (mkF m 6 #[oR a1, oR a2, .val .null] [])) st1 ?_
  have K4 := Keep.refl h0 [a1]
  have K5 := K4.trans K1 (allS (Or.inl (List.mem_of_getElem? (i := 0) rfl)) all0)
  exact Wp.ret X1 hlk (v := none) (fun _ => rfl) (fun fs hr => X1.returnOut hx Bd.returns (hb hby d32_6) hr) (by decide) (by decide) (show Q_rm32 Z a1 a2 vu vs h0 n0 _ T1.heap _ by rw [e1]; exact ⟨rfl, N1, K5, P1_0, P1_1, P1_2, P1_3, P1_4⟩)
theorem pn_39 : plainName "java/lang/Throwable" = true := by first | (simp [plainName, overriddenIn]; done) | decide +kernel
theorem d39_0 : decode jdk_78_method_6_code 0 = .ok (.aload_n 0, 1) := by decide +kernel
theorem d39_1 : decode jdk_78_method_6_code 1 = .ok (.getfield 31, 3) := by decide +kernel
theorem d39_4 : decode jdk_78_method_6_code 4 = .ok (.areturn, 1) := by decide +kernel
theorem ef_rm39 (m : MethodId) (a1 : Addr) : entryFrame m #[(.ref a1)] 1 = mkF m 0 #[oR a1] [] := by first | (simp [entryFrame, mkF, argsToLocals, Value.category]; done) | rfl
def Q_rm39 (Z : State) (a1 : Addr) (a2 : Addr) (h0 : Heap) (n0 : Nat) (v : Option Value) (h : Heap) (L : List Loc) : Prop := (v = some (.ref a2)) ∧ (Fr n0 L) ∧ (h = h0)
set_option maxRecDepth 65536 in
set_option maxHeartbeats 40000000 in
theorem rm39 (l : Launch) (Z : State) (a0 : Array Value) (hw : ∀ d ∈ tables_1, d.before a0 Z = true) (ws : List Jvm.Cond) (a1 : Addr) (a2 : Addr) (h0 : Heap) (n0 : Nat) (Z0 : n0 ≤ h0.size) (P0 : Fld Z h0 a1 "java/lang/Throwable" "detailMessage" "Ljava/lang/String;" (.ref a2)) :
    MetFree l (⟨"java/lang/Throwable", "getMessage", "()Ljava/lang/String;"⟩ : MethodName) (head1 (Jvm.Cond.code (⟨"java/lang/Throwable", "getMessage", "()Ljava/lang/String;"⟩ : MethodName) jdk_78_method_6_code 1 (some (.object "java/lang/String")) :: ws) ({ frames := 0, cells := 0, slots := 0, locals := 0 } : Room)) (fun a U => a = #[(.ref a1)] ∧ Z.Warmed39 U.vm ∧ U.heap = h0) (fun _ _ _ _ _ => True) (fun _ U o U' => ∃ v L, o = .returned v ∧ Q_rm39 Z a1 a2 h0 n0 v U'.heap L ∧ FrameEnd U o U' L ({ frames := 0, cells := 0, slots := 0, locals := 0 } : Room).cells ({ frames := 0, cells := 0, slots := 0, locals := 0 } : Room).slots) := by
  refine MetFree.of_bodySF (plainFor_of_name pn_39) hisR ?_
  intro p e s m args below meth c s₁ Bd hml0 hP hK
  obtain ⟨rfl, hZ, hh⟩ := hP
  have hx := Bd.exec
  have hby := Bd.bytes
  have hml : c.maxLocals = 1 := hml0
  have hown : s.vm.findClass "java/lang/Throwable" = some m.cls := findClass_of_methodNamed Bd.named
  have hnm := (name_of_methodNamed Bd.named Bd.method).1
  have hlk := Bd.notSynchronized
  have X0 : Stand p l e ({ frames := 0, cells := 0, slots := 0, locals := 0 } : Room) s m #[(.ref a1)] below meth c s₁ [] 0 0 := Stand.of_body Bd
  have e0 : s₁.heap = h0 := by rw [← hh, Bd.state]; rfl
  have N0 := Fr.nil n0
  refine Wp.goal (Post := (fun o U' => ∃ v L, o = .returned v ∧ Q_rm39 Z a1 a2 h0 n0 v U'.heap L ∧ FrameEnd s o U' L ({ frames := 0, cells := 0, slots := 0, locals := 0 } : Room).cells ({ frames := 0, cells := 0, slots := 0, locals := 0 } : Room).slots)) (Wp.st (S' := s₁.setTop (mkF m 0 #[oR a1] [])) (fun tt_ kk_ => castTop (ef_rm39 m a1 ) kk_) ?_)
  refine Wp.st (S' := s₁.setTop (mkF m 1 #[oR a1] [(.ref a1)])) (fun tt_ kk_ => XS.aloadN X0.here hx rfl (hb hby d39_0) rfl rfl kk_) ?_
  obtain ⟨T1, X1, e1, st1⟩ := getF X0 hx hZ hown (host := "") (Or.inl (hw _ (List.mem_of_getElem? (i := 231) rfl))) Via.refl e0 P0 (g := (mkF m 1 #[oR a1] [(.ref a1)])) rfl rfl (hb hby d39_1)
  refine Wp.st (S' := T1.setTop (mkF m 4 #[oR a1] [(.ref a2)])) st1 ?_
  exact Wp.ret X1 hlk (v := (some (.ref a2))) (fun h => by rw [Bd.returns] at h; cases h) (fun fs hr => retOut X1 hx Bd.returns rfl (Or.inr (Or.inr (Or.inr (Or.inr ⟨rfl, rfl, rfl⟩)))) (hb hby d39_4) hr) (by decide) (by decide) (show Q_rm39 Z a1 a2 h0 n0 _ T1.heap _ by rw [e1]; exact ⟨rfl, N0, rfl⟩)
theorem pn_8 : plainName "com/example/mortise_lock/mortiselock/redis/RedisCallException" = true := by first | (simp [plainName, overriddenIn]; done) | decide +kernel
theorem d8_0 : decode prog_10_method_2_code 0 = .ok (.new 7, 3) := by decide +kernel
theorem d8_3 : decode prog_10_method_2_code 3 = .ok (.dup, 1) := by decide +kernel
theorem d8_4 : decode prog_10_method_2_code 4 = .ok (.new 9, 3) := by decide +kernel
theorem d8_7 : decode prog_10_method_2_code 7 = .ok (.dup, 1) := by decide +kernel
theorem d8_8 : decode prog_10_method_2_code 8 = .ok (.invokespecial 11, 3) := by decide +kernel
theorem pd_17 : parseMethodDescriptor "()V" = some ⟨[], none⟩ := by decide +kernel
theorem d8_11 : decode prog_10_method_2_code 11 = .ok (.ldc 14, 2) := by decide +kernel
theorem d8_13 : decode prog_10_method_2_code 13 = .ok (.invokevirtual 16, 3) := by decide +kernel
theorem pd_18 : parseMethodDescriptor "(Ljava/lang/String;)Ljava/lang/StringBuilder;" = some ⟨[(.object "java/lang/String")], some (.object "java/lang/StringBuilder")⟩ := by decide +kernel
theorem d8_16 : decode prog_10_method_2_code 16 = .ok (.aload_n 0, 1) := by decide +kernel
theorem d8_17 : decode prog_10_method_2_code 17 = .ok (.invokevirtual 16, 3) := by decide +kernel
theorem d8_20 : decode prog_10_method_2_code 20 = .ok (.ldc 20, 2) := by decide +kernel
theorem d8_22 : decode prog_10_method_2_code 22 = .ok (.invokevirtual 16, 3) := by decide +kernel
theorem d8_25 : decode prog_10_method_2_code 25 = .ok (.invokevirtual 22, 3) := by decide +kernel
theorem pd_19 : parseMethodDescriptor "()Ljava/lang/String;" = some ⟨[], some (.object "java/lang/String")⟩ := by decide +kernel
theorem d8_28 : decode prog_10_method_2_code 28 = .ok (.aconst_null, 1) := by decide +kernel
theorem d8_29 : decode prog_10_method_2_code 29 = .ok (.invokespecial 26, 3) := by decide +kernel
theorem d8_32 : decode prog_10_method_2_code 32 = .ok (.areturn, 1) := by decide +kernel
theorem ef_rm8 (m : MethodId) (a1 : Addr) : entryFrame m #[(.ref a1)] 1 = mkF m 0 #[oR a1] [] := by first | (simp [entryFrame, mkF, argsToLocals, Value.category]; done) | rfl
def Q_rm8 (Z : State) (a1 : Addr) (zcs : Int32) (t1 : Addr) (k1 : ClassId) (ln : Int32) (bs : List Value) (vu : Value) (vs : Value) (h0 : Heap) (n0 : Nat) (v : Option Value) (h : Heap) (L : List Loc) : Prop := ∃ b : Addr, ∃ ms : Addr, ∃ tm : Addr, ∃ km : ClassId, (v = some (.ref b)) ∧ (Fr n0 L) ∧ (Keep h0 h []) ∧ (Exa Z h b "com/example/mortise_lock/mortiselock/redis/RedisCallException") ∧ (Unt h b) ∧ (Fld Z h b "java/lang/Throwable" "detailMessage" "Ljava/lang/String;" (.ref ms)) ∧ (Fld Z h b "java/lang/Throwable" "cause" "Ljava/lang/Throwable;" .null) ∧ (Exa Z h ms "java/lang/String") ∧ (Fld Z h ms "java/lang/String" "value" "[B" (.ref tm)) ∧ (Fld Z h ms "java/lang/String" "coder" "B" (.int (0 : Int32))) ∧ (Arv Z h tm km .byte (((6 : Int32) + ln) + (28 : Int32)) (own_msg bs ln) (.int (0 : Int32)))
set_option maxRecDepth 65536 in
set_option maxHeartbeats 40000000 in
theorem rm8 (l : Launch) (Z : State) (a0 : Array Value) (hw : ∀ d ∈ tables_1, d.before a0 Z = true) (ws : List Jvm.Cond) (a1 : Addr) (zcs : Int32) (t1 : Addr) (k1 : ClassId) (ln : Int32) (bs : List Value) (vu : Value) (vs : Value) (h0 : Heap) (n0 : Nat) (Z0 : n0 ≤ h0.size) (O0 : Jvm.RoadKit.Old Z n0 h0) (SCompact : Sta Z Z.heap "java/lang/String" "COMPACT_STRINGS" "Z" (.int zcs)) (hCS : ¬ zcs = 0) (PT : ThS Z h0) (hTR : ∀ d ∈ Jvm.RoadKit.twoRefs, d.before a0 Z = true) (hl : l.stackTraces = true) (SUn : Sta Z Z.heap "java/lang/Throwable" "UNASSIGNED_STACK" "[Ljava/lang/StackTraceElement;" vu) (SSe : Sta Z Z.heap "java/lang/Throwable" "SUPPRESSED_SENTINEL" "Ljava/util/List;" vs) (hvu : Value.isRef vu = true) (hvs : Value.isRef vs = true) (P10 : Exa Z h0 a1 "java/lang/String") (P11 : Fld Z h0 a1 "java/lang/String" "value" "[B" (.ref t1)) (P12 : Fld Z h0 a1 "java/lang/String" "coder" "B" (.int (0 : Int32))) (P13 : Arv Z h0 t1 k1 .byte ln bs (.int (0 : Int32))) (hln : ln = (0 : Int32) ∨ ln = (1 : Int32) ∨ ln = (2 : Int32) ∨ ln = (3 : Int32)) :
    MetFree l (⟨"com/example/mortise_lock/mortiselock/redis/RedisCallException", "closed", "(Ljava/lang/String;)Lcom/example/mortise_lock/mortiselock/redis/RedisCallException;"⟩ : MethodName) (head1 (Jvm.Cond.code (⟨"com/example/mortise_lock/mortiselock/redis/RedisCallException", "closed", "(Ljava/lang/String;)Lcom/example/mortise_lock/mortiselock/redis/RedisCallException;"⟩ : MethodName) prog_10_method_2_code 1 (some (.object "com/example/mortise_lock/mortiselock/redis/RedisCallException")) :: ws) ({ frames := 7, cells := 11, slots := 3000, locals := 99 } : Room)) (fun a U => a = #[(.ref a1)] ∧ Z.Warmed39 U.vm ∧ U.heap = h0 ∧ CHv Z own_EL U.vm h0) (fun _ _ bl s _ => s.vm.MethodsKnown ∧ s.vm.FramesKnown bl) (fun _ U o U' => ∃ v L, o = .returned v ∧ Q_rm8 Z a1 zcs t1 k1 ln bs vu vs h0 n0 v U'.heap L ∧ CHr Z own_EL U.vm U.heap U'.vm U'.heap ∧ ReturnedEndW U o U' L ({ frames := 7, cells := 11, slots := 3000, locals := 99 } : Room).cells ({ frames := 7, cells := 11, slots := 3000, locals := 99 } : Room).slots) := by
  refine MetFree.of_bodySF (plainFor_of_name pn_8) hisR ?_
  intro p e s m args below meth c s₁ Bd hml0 hP hK
  obtain ⟨rfl, hZ, hh, CH0⟩ := hP
  have hx := Bd.exec
  have hby := Bd.bytes
  have hml : c.maxLocals = 1 := hml0
  have hown : s.vm.findClass "com/example/mortise_lock/mortiselock/redis/RedisCallException" = some m.cls := findClass_of_methodNamed Bd.named
  have hnm := (name_of_methodNamed Bd.named Bd.method).1
  have hlk := Bd.notSynchronized
  have X0 : Stand p l e ({ frames := 7, cells := 11, slots := 3000, locals := 99 } : Room) (s.setVm s.vm) m #[(.ref a1)] below meth c s₁ [] 0 0 := Stand.of_body Bd
  have e0 : s₁.heap = h0 := by rw [← hh, Bd.state]; rfl
  have N0 := Fr.nil n0
  refine Wp.goal (Post := (fun o U' => ∃ v L, o = .returned v ∧ Q_rm8 Z a1 zcs t1 k1 ln bs vu vs h0 n0 v U'.heap L ∧ CHr Z own_EL s.vm s.heap U'.vm U'.heap ∧ ReturnedEndW s o U' L ({ frames := 7, cells := 11, slots := 3000, locals := 99 } : Room).cells ({ frames := 7, cells := 11, slots := 3000, locals := 99 } : Room).slots)) (Wp.st (S' := s₁.setTop (mkF m 0 #[oR a1] [])) (fun tt_ kk_ => castTop (ef_rm8 m a1 ) kk_) ?_)
  have hS0 : s.Since s.vm h0.size := (State.WarmedH.refl s).since _
  have wS : ∀ d ∈ Bundle.stringAtoms, d.before a0 Z = true := fun d hd => hw d ((by decide +kernel : ∀ d ∈ Bundle.stringAtoms, d ∈ tables_1) d hd)
  have hEL := own_EW hw
  have CC0 := CHr.refl CH0
  obtain ⟨T1, h1, X1, e1, E1, A1, D1, U1, st1⟩ := newO X0 hx hZ hown (hw _ (List.mem_of_getElem? (i := 41) rfl)) (hw _ (List.mem_of_getElem? (i := 42) rfl)) (hw _ (List.mem_of_getElem? (i := 39) rfl)) e0 (g := (mkF m 0 #[oR a1] [])) rfl (hb hby d8_0) (by decide) (by decide)
  obtain ⟨b1, g1⟩ : ∃ z, z = h0.size := ⟨_, rfl⟩
  rw [← g1] at A1 D1 U1 st1
  have z2 := E1.1
  have CC3 := CC0.trans (CHr.ext E1 CC0.1)
  have g4 : n0 ≤ b1 := Nat.le_trans (Nat.le_trans Z0 (Nat.le_refl _)) (Nat.le_of_eq g1.symm)
  have Sf5 := Safe.ext E1 CC0.1 (Safe.new (x := b1) (Nat.le_of_eq g1.symm))
  have F6 : Fld Z h1 b1 "java/lang/Throwable" "cause" "Ljava/lang/Throwable;" .null := D1 (Or.inl (hw _ (List.mem_of_getElem? (i := 197) rfl))) (ty := (.object "java/lang/Throwable")) (by decide)
  have F7 : Fld Z h1 b1 "java/lang/Throwable" "stackTrace" "[Ljava/lang/StackTraceElement;" .null := D1 (Or.inl (hw _ (List.mem_of_getElem? (i := 200) rfl))) (ty := (.array (.object "java/lang/StackTraceElement"))) (by decide)
  have F8 : Fld Z h1 b1 "java/lang/Throwable" "suppressedExceptions" "Ljava/util/List;" .null := D1 (Or.inl (hw _ (List.mem_of_getElem? (i := 203) rfl))) (ty := (.object "java/util/List")) (by decide)
  have F9 : Fld Z h1 b1 "java/lang/Throwable" "detailMessage" "Ljava/lang/String;" .null := D1 (Or.inl (hw _ (List.mem_of_getElem? (i := 227) rfl))) (ty := (.object "java/lang/String")) (by decide)
  have F10 : Fld Z h1 b1 "java/lang/Throwable" "backtrace" "Ljava/lang/Object;" .null := D1 (Or.inl (hw _ (List.mem_of_getElem? (i := 228) rfl))) (ty := (.object "java/lang/Object")) (by decide)
  have F11 : Fld Z h1 b1 "java/lang/Throwable" "depth" "I" (.int (0 : Int32)) := D1 (Or.inl (hw _ (List.mem_of_getElem? (i := 229) rfl))) (ty := .int) (by decide)
  refine Wp.st (S' := T1.setTop (mkF m 3 #[oR a1] [(.ref b1)])) st1 ?_
  refine Wp.st (S' := T1.setTop (mkF m 4 #[oR a1] [(.ref b1), (.ref b1)])) (fun tt_ kk_ => XS.dup X1.here hx rfl (hb hby d8_3) rfl rfl kk_) ?_
  obtain ⟨T12, h12, X12, e12, E12, A12, D12, U12, st12⟩ := newO X1 hx hZ hown (hw _ (List.mem_of_getElem? (i := 43) rfl)) (hw _ (List.mem_of_getElem? (i := 44) rfl)) (hw _ (List.mem_of_getElem? (i := 45) rfl)) e1 (g := (mkF m 4 #[oR a1] [(.ref b1), (.ref b1)])) rfl (hb hby d8_4) (by decide) (by decide)
  obtain ⟨b12, g12⟩ : ∃ z, z = h1.size := ⟨_, rfl⟩
  rw [← g12] at A12 D12 U12 st12
  have z13 := E12.1
  have Sf14 := Safe.ext E12 CC3.1 Sf5
  have CC15 := CC3.trans (CHr.ext E12 CC3.1)
  have g16 : n0 ≤ b12 := Nat.le_trans (Nat.le_trans Z0 z2) (Nat.le_of_eq g12.symm)
  have Sf17 := Safe.ext E12 CC3.1 (Safe.new (x := b12) (Nat.le_of_eq g12.symm))
  have F18 : Fld Z h12 b12 "java/lang/AbstractStringBuilder" "value" "[B" .null := D12 (Or.inl (hw _ (List.mem_of_getElem? (i := 58) rfl))) (ty := (.array .byte)) (by decide)
  have F19 : Fld Z h12 b12 "java/lang/AbstractStringBuilder" "coder" "B" (.int (0 : Int32)) := D12 (Or.inl (hw _ (List.mem_of_getElem? (i := 60) rfl))) (ty := .byte) (by decide)
  have F20 : Fld Z h12 b12 "java/lang/AbstractStringBuilder" "count" "I" (.int (0 : Int32)) := D12 (Or.inl (hw _ (List.mem_of_getElem? (i := 83) rfl))) (ty := .int) (by decide)
  refine Wp.st (S' := T12.setTop (mkF m 7 #[oR a1] [(.ref b12), (.ref b1), (.ref b1)])) st12 ?_
  refine Wp.st (S' := T12.setTop (mkF m 8 #[oR a1] [(.ref b12), (.ref b12), (.ref b1), (.ref b1)])) (fun tt_ kk_ => XS.dup X12.here hx rfl (hb hby d8_7) rfl rfl kk_) ?_
  have O22 := O0.ext E1
  have O23 := O22.ext E12
  obtain ⟨vv21, _, ⟨T21, L21, k21, n21⟩, -, X21, ⟨Lc21, hQ21, l21, y21, z21⟩, st21⟩ := X12.specialBack hx (y := (⟨"java/lang/StringBuilder", "<init>", "()V"⟩ : MethodName)) rfl hown (mvT hZ (hw _ (List.mem_of_getElem? (i := 46) rfl))) (mvT hZ (hw _ (List.mem_of_getElem? (i := 47) rfl))) (mvT hZ (hw _ (List.mem_of_getElem? (i := 48) rfl))) (by decide) (backOf (W := 3) (rm9 l Z a0 hw [] b12 zcs h12 n0 (Nat.le_trans Z0 (Nat.le_trans z2 z13)) g16 O23 SCompact (hCS : ¬ zcs = 0) A12 F18 F19 F20) hZ (hw _ (List.mem_of_getElem? (i := 48) rfl)) (hw _ (List.mem_of_getElem? (i := 45) rfl)) (by decide) (by decide)) (g := (mkF m 8 #[oR a1] [(.ref b12), (.ref b12), (.ref b1), (.ref b1)])) rfl (by rw [hml]; rfl) (Steps.refl _) (a := b12) (argsL := []) (rest := [(.ref b12), (.ref b1), (.ref b1)]) (lenOf pd_17 rfl) rfl (by show 2 * 0 + _ ≤ _; exact Nat.le_of_eq rfl) (hb hby d8_8) (fun _ _ => ⟨rfl, e12, (by decide : 2 + 1 ≤ _), (by decide : 10 + 16 ≤ _)⟩)
  dsimp only [Pt.U, Pt.locs, Pt.cells, Pt.slots] at X21 l21 y21 z21 st21 hQ21
  subst l21 y21 z21
  obtain ⟨b24, c25, rfl, Nq21, K21, P21_0, P21_1, P21_2, P21_3, P21_4, P21_5⟩ := hQ21
  have N21 := Fr.app N0 Nq21
  have F26 := ThS.ext E1 PT
  have F27 := ThS.ext E12 F26
  have Th28 := ThS.keep K21 (nsS (Exa.nostat A12) ns0) F27
  have z29 := K21.1
  have Sf30 := Safe.keep K21 (sfS (Safe.exa hZ.alike A12 (by decide) (by decide)) sf0) CC15.1 Sf14
  have Sf31 := Safe.keep K21 (sfS (Safe.exa hZ.alike A12 (by decide) (by decide)) sf0) CC15.1 Sf17
  have CC32 := CC15.trans (CHr.keep K21 (sfS (Safe.exa hZ.alike A12 (by decide) (by decide)) sf0) CC15.1)
  have g33 : n0 ≤ b24 := Nat.le_trans (Nat.le_trans Z0 (Nat.le_trans z2 z13)) P21_0
  have Sf34 := Safe.keep K21 (sfS (Safe.exa hZ.alike A12 (by decide) (by decide)) sf0) CC15.1 (Safe.new (x := b24) P21_0)
  have e21 : T21.heap = T21.heap := rfl
  refine Wp.tr (S' := T21.setTop (mkF m 11 #[oR a1] [(.ref b12), (.ref b1), (.ref b1)])) st21 ?_
  obtain ⟨a35, T35, h35, k35, b35, kb35, X35, e35, E35, hS35, hk35, hZ35, how35, Ex35, Co35, Va35, Av35, la35, lb35, cr35, li35, sn35, st35⟩ := ldcCH X21 hx hZ hown (hw _ (List.mem_of_getElem? (i := 61) rfl)) wS e21 hS0 (Nat.le_trans (Nat.le_refl _) (Nat.le_trans (Nat.le_trans z2 z13) z29)) hEL (by decide) CC32.1 (vs := [(.int (108 : Int32)), (.int (111 : Int32)), (.int (99 : Int32)), (.int (107 : Int32)), (.int (32 : Int32)), (.int (39 : Int32))]) (z := (6 : Int32)) ⟨by decide, by decide⟩ (by decide) rfl (g := (mkF m 11 #[oR a1] [(.ref b12), (.ref b1), (.ref b1)])) rfl (hb hby d8_11) (n := 24) (by decide +kernel) (by decide) (by decide) (by decide)
  have z36 := E35.1
  have Sf37 := cr35.safe (Nat.lt_of_lt_of_le A1.lt (Nat.le_trans z13 z29)) Sf30
  have Sf38 := cr35.safe (Nat.lt_of_lt_of_le A12.lt z29) Sf31
  have Sf39 := cr35.safe P21_5.lt Sf34
  have CC40 := CC32.trans cr35
  have ne41 := sn35 _ Sf37
  have ne42 := sn35 _ Sf38
  have ne43 := sn35 _ Sf39
  refine Wp.st (S' := T35.setTop (mkF m 13 #[oR a1] [(.ref a35), (.ref b12), (.ref b1), (.ref b1)])) st35 ?_
  have Vp : Arv Z h35 b35 kb35 .byte (6 : Int32) (own_P.map Value.int) (.int (0 : Int32)) := Av35
  have O45 := O23.keep K21 (allS g16 all0)
  have O46 := O45.ext E35
  have F47 := P21_1.ext E35
  have F48 := P21_2.ext E35
  have F49 := P21_3.ext E35
  have F50 := P21_4.ext E35
  have F51 := P21_5.ext E35
  obtain ⟨cq44, kq44, q44a, q44b, q44c⟩ := isOf hZ35 e35 F47
  obtain ⟨vv44, _, ⟨T44, L44, k44, n44⟩, -, X44, ⟨Lc44, hQ44, l44, y44, z44⟩, st44⟩ := X35.virtualBack hx (y := (⟨"java/lang/StringBuilder", "append", "(Ljava/lang/String;)Ljava/lang/StringBuilder;"⟩ : MethodName)) (z := (⟨"java/lang/StringBuilder", "append", "(Ljava/lang/String;)Ljava/lang/StringBuilder;"⟩ : MethodName)) how35 (mvT hZ35 (hw _ (List.mem_of_getElem? (i := 62) rfl))) (mvT hZ35 (hw _ (List.mem_of_getElem? (i := 63) rfl))) (notFace_of_selects (args := #[]) (mvT hZ35 (hw _ (List.mem_of_getElem? (i := 65) rfl)))) (mvT hZ35 (hw _ (List.mem_of_getElem? (i := 65) rfl))) (mvT hZ35 (hw _ (List.mem_of_getElem? (i := 64) rfl))) (by decide) (backOf (W := 2) (rmApSN l Z a0 hw [] b12 a35 zcs b24 (0 : Int32) c25 own_z16 b35 kb35 (6 : Int32) (own_P.map Value.int) h35 n0 (Nat.le_trans Z0 (Nat.le_trans (Nat.le_trans (Nat.le_trans z2 z13) z29) z36)) g16 g33 O46 SCompact (hCS : ¬ zcs = 0) F47 F48 F49 F50 F51 Ex35 Va35 Co35 Vp ((Nat.ne_of_lt (Nat.lt_of_lt_of_le A12.lt (Nat.le_trans (Nat.le_refl _) P21_0))) : b12 ≠ b24) (ne42.1 : b12 ≠ a35) (ne42.2 : b12 ≠ b35) (ne43.2 : b24 ≠ b35) ((by decide +kernel) : ¬ (0 : Int32) < (((0 : Int32) + (6 : Int32)) - (16 : Int32))) ((by decide +kernel) : ¬ (0 : Int32) < 0) ((by decide +kernel) : ¬ (6 : Int32) < 0) ((by decide +kernel) : (0 : Int32).toNatClampNeg + (6 : Int32).toNatClampNeg ≤ (16 : Int32).toNatClampNeg) ((by decide +kernel) : (0 : Int32).toNatClampNeg + (6 : Int32).toNatClampNeg ≤ own_z16.length)) hZ35 (hw _ (List.mem_of_getElem? (i := 66) rfl)) (hw _ (List.mem_of_getElem? (i := 45) rfl)) (by decide) (by decide)) q44a q44c (g := (mkF m 13 #[oR a1] [(.ref a35), (.ref b12), (.ref b1), (.ref b1)])) rfl (by rw [hml]; rfl) (Steps.refl _) (argsL := [(.ref a35)]) (rest := [(.ref b1), (.ref b1)]) (lenOf pd_18 rfl) rfl (by show 2 * 0 + _ ≤ _; exact Nat.le_of_eq rfl) (hb hby d8_13) (fun _ _ => ⟨rfl, e35, (by decide : 5 + 0 ≤ _), (by decide : 54 + 0 ≤ _)⟩)
  dsimp only [Pt.U, Pt.locs, Pt.cells, Pt.slots] at X44 l44 y44 z44 st44 hQ44
  subst l44 y44 z44
  obtain ⟨rfl, Nq44, K44, P44_0, P44_1, P44_2, P44_3⟩ := hQ44
  have N44 := Fr.app N21 Nq44
  have F52 := ThS.ext E35 Th28
  have Th53 := ThS.keep K44 (nsS (Exa.nostat F47) (nsS (Arv.nostat F51) ns0)) F52
  have z54 := K44.1
  have Sf55 := Safe.keep K44 (sfS (Safe.exa hZ35.alike F47 (by decide) (by decide)) (sfS Sf39 sf0)) CC40.1 Sf37
  have Sf56 := Safe.keep K44 (sfS (Safe.exa hZ35.alike F47 (by decide) (by decide)) (sfS Sf39 sf0)) CC40.1 Sf38
  have Sf57 := Safe.keep K44 (sfS (Safe.exa hZ35.alike F47 (by decide) (by decide)) (sfS Sf39 sf0)) CC40.1 Sf39
  have CC58 := CC40.trans (CHr.keep K44 (sfS (Safe.exa hZ35.alike F47 (by decide) (by decide)) (sfS Sf39 sf0)) CC40.1)
  have e44 : T44.heap = T44.heap := rfl
  refine Wp.tr (S' := T44.setTop (mkF m 16 #[oR a1] [(.ref b12), (.ref b1), (.ref b1)])) st44 ?_
  refine Wp.st (S' := T44.setTop (mkF m 17 #[oR a1] [(.ref a1), (.ref b12), (.ref b1), (.ref b1)])) (fun tt_ kk_ => XS.aloadN X44.here hx rfl (hb hby d8_16) rfl rfl kk_) ?_
  have O60 := O46.keep K44 (allS g16 (allS g33 all0))
  have F61 := F47.keep K44
  have F62 := P10.ext E1
  have F63 := F62.ext E12
  have F64 := F63.keep K21
  have F65 := F64.ext E35
  have F66 := F65.keep K44
  have F67 := P11.ext E1
  have F68 := F67.ext E12
  have F69 := F68.keep K21 (ninS (Nat.ne_of_lt (Nat.lt_of_lt_of_le P10.lt (Nat.le_trans z2 (Nat.le_of_eq g12.symm)))) nin0)
  have F70 := F69.ext E35
  have F71 := F70.keep K44 (ninS (Nat.ne_of_lt (Nat.lt_of_lt_of_le P10.lt (Nat.le_trans z2 (Nat.le_of_eq g12.symm)))) (ninS (Nat.ne_of_lt (Nat.lt_of_lt_of_le P10.lt (Nat.le_trans (Nat.le_trans z2 z13) P21_0))) nin0))
  have F72 := P12.ext E1
  have F73 := F72.ext E12
  have F74 := F73.keep K21 (ninS (Nat.ne_of_lt (Nat.lt_of_lt_of_le P10.lt (Nat.le_trans z2 (Nat.le_of_eq g12.symm)))) nin0)
  have F75 := F74.ext E35
  have F76 := F75.keep K44 (ninS (Nat.ne_of_lt (Nat.lt_of_lt_of_le P10.lt (Nat.le_trans z2 (Nat.le_of_eq g12.symm)))) (ninS (Nat.ne_of_lt (Nat.lt_of_lt_of_le P10.lt (Nat.le_trans (Nat.le_trans z2 z13) P21_0))) nin0))
  have F77 := P13.ext E1
  have F78 := F77.ext E12
  have F79 := F78.keep K21 (ninS (Nat.ne_of_lt (Nat.lt_of_lt_of_le P13.lt (Nat.le_trans z2 (Nat.le_of_eq g12.symm)))) nin0)
  have F80 := F79.ext E35
  have F81 := F80.keep K44 (ninS (Nat.ne_of_lt (Nat.lt_of_lt_of_le P13.lt (Nat.le_trans z2 (Nat.le_of_eq g12.symm)))) (ninS (Nat.ne_of_lt (Nat.lt_of_lt_of_le P13.lt (Nat.le_trans (Nat.le_trans z2 z13) P21_0))) nin0))
  obtain ⟨cq59, kq59, q59a, q59b, q59c⟩ := isOf hZ35 e44 F61
  obtain ⟨vv59, _, ⟨T59, L59, k59, n59⟩, -, X59, ⟨Lc59, hQ59, l59, y59, z59⟩, st59⟩ := X44.virtualBack hx (y := (⟨"java/lang/StringBuilder", "append", "(Ljava/lang/String;)Ljava/lang/StringBuilder;"⟩ : MethodName)) (z := (⟨"java/lang/StringBuilder", "append", "(Ljava/lang/String;)Ljava/lang/StringBuilder;"⟩ : MethodName)) how35 (mvT hZ35 (hw _ (List.mem_of_getElem? (i := 62) rfl))) (mvT hZ35 (hw _ (List.mem_of_getElem? (i := 63) rfl))) (notFace_of_selects (args := #[]) (mvT hZ35 (hw _ (List.mem_of_getElem? (i := 65) rfl)))) (mvT hZ35 (hw _ (List.mem_of_getElem? (i := 65) rfl))) (mvT hZ35 (hw _ (List.mem_of_getElem? (i := 64) rfl))) (by decide) (backOf (W := 2) (rmApSN l Z a0 hw [] b12 a1 zcs b24 ((0 : Int32) + (6 : Int32)) c25 (own_cp own_z16 (own_P.map Value.int) (0 : Int32) (6 : Int32)) t1 k1 ln bs T44.heap n0 (Nat.le_trans Z0 (Nat.le_trans (Nat.le_trans (Nat.le_trans (Nat.le_trans z2 z13) z29) z36) z54)) g16 g33 O60 SCompact (hCS : ¬ zcs = 0) F61 P44_0 P44_1 P44_2 P44_3 F66 F71 F76 F81 ((Nat.ne_of_lt (Nat.lt_of_lt_of_le A12.lt (Nat.le_trans (Nat.le_refl _) P21_0))) : b12 ≠ b24) ((Ne.symm (Nat.ne_of_lt (Nat.lt_of_lt_of_le P10.lt (Nat.le_trans z2 (Nat.le_of_eq g12.symm))))) : b12 ≠ a1) ((Ne.symm (Nat.ne_of_lt (Nat.lt_of_lt_of_le P13.lt (Nat.le_trans z2 (Nat.le_of_eq g12.symm))))) : b12 ≠ t1) ((Ne.symm (Nat.ne_of_lt (Nat.lt_of_lt_of_le P13.lt (Nat.le_trans (Nat.le_trans z2 z13) P21_0)))) : b24 ≠ t1) ((by rcases hln with rfl | rfl | rfl | rfl <;> decide +kernel) : ¬ (0 : Int32) < ((((0 : Int32) + (6 : Int32)) + ln) - (16 : Int32))) ((by decide) : ¬ ((0 : Int32) + (6 : Int32)) < 0) ((by rcases hln with rfl | rfl | rfl | rfl <;> decide +kernel) : ¬ ln < 0) ((by rcases hln with rfl | rfl | rfl | rfl <;> decide +kernel) : ((0 : Int32) + (6 : Int32)).toNatClampNeg + ln.toNatClampNeg ≤ (16 : Int32).toNatClampNeg) ((by rw [own_len16]; rcases hln with rfl | rfl | rfl | rfl <;> decide +kernel) : ((0 : Int32) + (6 : Int32)).toNatClampNeg + ln.toNatClampNeg ≤ (own_cp own_z16 (own_P.map Value.int) (0 : Int32) (6 : Int32)).length)) hZ35 (hw _ (List.mem_of_getElem? (i := 66) rfl)) (hw _ (List.mem_of_getElem? (i := 45) rfl)) (by decide) (by decide)) q59a q59c (g := (mkF m 17 #[oR a1] [(.ref a1), (.ref b12), (.ref b1), (.ref b1)])) rfl (by rw [hml]; rfl) (Steps.refl _) (argsL := [(.ref a1)]) (rest := [(.ref b1), (.ref b1)]) (lenOf pd_18 rfl) rfl (by show 2 * 0 + _ ≤ _; exact Nat.le_of_eq rfl) (hb hby d8_17) (fun _ _ => ⟨rfl, e44, (by decide : 5 + 0 ≤ _), (by decide : 54 + 0 ≤ _)⟩)
  dsimp only [Pt.U, Pt.locs, Pt.cells, Pt.slots] at X59 l59 y59 z59 st59 hQ59
  subst l59 y59 z59
  obtain ⟨rfl, Nq59, K59, P59_0, P59_1, P59_2, P59_3⟩ := hQ59
  have N59 := Fr.app N44 Nq59
  have Th82 := ThS.keep K59 (nsS (Exa.nostat F61) (nsS (Arv.nostat P44_3) ns0)) Th53
  have z83 := K59.1
  have Sf84 := Safe.keep K59 (sfS (Safe.exa hZ35.alike F61 (by decide) (by decide)) (sfS Sf57 sf0)) CC58.1 Sf55
  have Sf85 := Safe.keep K59 (sfS (Safe.exa hZ35.alike F61 (by decide) (by decide)) (sfS Sf57 sf0)) CC58.1 Sf56
  have Sf86 := Safe.keep K59 (sfS (Safe.exa hZ35.alike F61 (by decide) (by decide)) (sfS Sf57 sf0)) CC58.1 Sf57
  have CC87 := CC58.trans (CHr.keep K59 (sfS (Safe.exa hZ35.alike F61 (by decide) (by decide)) (sfS Sf57 sf0)) CC58.1)
  have e59 : T59.heap = T59.heap := rfl
  refine Wp.tr (S' := T59.setTop (mkF m 20 #[oR a1] [(.ref b12), (.ref b1), (.ref b1)])) st59 ?_
  obtain ⟨a88, T88, h88, k88, b88, kb88, X88, e88, E88, hS88, hk88, hZ88, how88, Ex88, Co88, Va88, Av88, la88, lb88, cr88, li88, sn88, st88⟩ := ldcCH X59 hx hZ35 how35 (hw _ (List.mem_of_getElem? (i := 109) rfl)) wS e59 hS35 (Nat.le_trans hk35 (Nat.le_trans z54 z83)) hEL (by decide) CC87.1 (vs := [(.int (39 : Int32)), (.int (58 : Int32)), (.int (32 : Int32)), (.int (105 : Int32)), (.int (116 : Int32)), (.int (115 : Int32)), (.int (32 : Int32)), (.int (77 : Int32)), (.int (111 : Int32)), (.int (114 : Int32)), (.int (116 : Int32)), (.int (105 : Int32)), (.int (115 : Int32)), (.int (101 : Int32)), (.int (76 : Int32)), (.int (111 : Int32)), (.int (99 : Int32)), (.int (107 : Int32)), (.int (32 : Int32)), (.int (105 : Int32)), (.int (115 : Int32)), (.int (32 : Int32)), (.int (99 : Int32)), (.int (108 : Int32)), (.int (111 : Int32)), (.int (115 : Int32)), (.int (101 : Int32)), (.int (100 : Int32))]) (z := (28 : Int32)) ⟨by decide, by decide⟩ (by decide) rfl (g := (mkF m 20 #[oR a1] [(.ref b12), (.ref b1), (.ref b1)])) rfl (hb hby d8_20) (n := 112) (by decide +kernel) (by decide) (by decide) (by decide)
  have z89 := E88.1
  have Sf90 := cr88.safe (Nat.lt_of_lt_of_le A1.lt (Nat.le_trans (Nat.le_trans (Nat.le_trans (Nat.le_trans z13 z29) z36) z54) z83)) Sf84
  have Sf91 := cr88.safe (Nat.lt_of_lt_of_le A12.lt (Nat.le_trans (Nat.le_trans (Nat.le_trans z29 z36) z54) z83)) Sf85
  have Sf92 := cr88.safe (Nat.lt_of_lt_of_le P21_5.lt (Nat.le_trans (Nat.le_trans z36 z54) z83)) Sf86
  have CC93 := CC87.trans cr88
  have ne94 := sn88 _ Sf90
  have ne95 := sn88 _ Sf91
  have ne96 := sn88 _ Sf92
  refine Wp.st (S' := T88.setTop (mkF m 22 #[oR a1] [(.ref a88), (.ref b12), (.ref b1), (.ref b1)])) st88 ?_
  have Vs : Arv Z h88 b88 kb88 .byte (28 : Int32) (own_Sf.map Value.int) (.int (0 : Int32)) := Av88
  have O98 := O60.keep K59 (allS g16 (allS g33 all0))
  have O99 := O98.ext E88
  have F100 := F61.keep K59
  have F101 := F100.ext E88
  have F102 := P59_0.ext E88
  have F103 := P59_1.ext E88
  have F104 := P59_2.ext E88
  have F105 := P59_3.ext E88
  obtain ⟨cq97, kq97, q97a, q97b, q97c⟩ := isOf hZ88 e88 F101
  obtain ⟨vv97, _, ⟨T97, L97, k97, n97⟩, -, X97, ⟨Lc97, hQ97, l97, y97, z97⟩, st97⟩ := X88.virtualBack hx (y := (⟨"java/lang/StringBuilder", "append", "(Ljava/lang/String;)Ljava/lang/StringBuilder;"⟩ : MethodName)) (z := (⟨"java/lang/StringBuilder", "append", "(Ljava/lang/String;)Ljava/lang/StringBuilder;"⟩ : MethodName)) how88 (mvT hZ88 (hw _ (List.mem_of_getElem? (i := 62) rfl))) (mvT hZ88 (hw _ (List.mem_of_getElem? (i := 63) rfl))) (notFace_of_selects (args := #[]) (mvT hZ88 (hw _ (List.mem_of_getElem? (i := 65) rfl)))) (mvT hZ88 (hw _ (List.mem_of_getElem? (i := 65) rfl))) (mvT hZ88 (hw _ (List.mem_of_getElem? (i := 64) rfl))) (by decide) (backOf (W := 2) (rmApSG l Z a0 hw [] b12 a88 zcs b24 (((0 : Int32) + (6 : Int32)) + ln) c25 (own_cp (own_cp own_z16 (own_P.map Value.int) (0 : Int32) (6 : Int32)) bs ((0 : Int32) + (6 : Int32)) ln) b88 kb88 (28 : Int32) (own_Sf.map Value.int) h88 n0 (Nat.le_trans Z0 (Nat.le_trans (Nat.le_trans (Nat.le_trans (Nat.le_trans (Nat.le_trans (Nat.le_trans z2 z13) z29) z36) z54) z83) z89)) g16 g33 O99 SCompact (hCS : ¬ zcs = 0) F101 F102 F103 F104 F105 Ex88 Va88 Co88 Vs ((Nat.ne_of_lt (Nat.lt_of_lt_of_le A12.lt (Nat.le_trans (Nat.le_refl _) P21_0))) : b12 ≠ b24) (ne95.1 : b12 ≠ a88) (ne95.2 : b12 ≠ b88) (ne96.2 : b24 ≠ b88) ((by rcases hln with rfl | rfl | rfl | rfl <;> decide +kernel) : ((((0 : Int32) + (6 : Int32)) + ln) + (28 : Int32)) = (34 : Int32) ∨ ((((0 : Int32) + (6 : Int32)) + ln) + (28 : Int32)) = (35 : Int32) ∨ ((((0 : Int32) + (6 : Int32)) + ln) + (28 : Int32)) = (36 : Int32) ∨ ((((0 : Int32) + (6 : Int32)) + ln) + (28 : Int32)) = (37 : Int32)) ((by rcases hln with rfl | rfl | rfl | rfl <;> decide +kernel) : ¬ (((0 : Int32) + (6 : Int32)) + ln) < 0) ((by decide) : ¬ (28 : Int32) < 0) ((by rcases hln with rfl | rfl | rfl | rfl <;> decide +kernel) : (((0 : Int32) + (6 : Int32)) + ln).toNatClampNeg + (28 : Int32).toNatClampNeg ≤ ((((0 : Int32) + (6 : Int32)) + ln) + (28 : Int32)).toNatClampNeg) ((by rw [own_len64]; rcases hln with rfl | rfl | rfl | rfl <;> decide +kernel) : (((0 : Int32) + (6 : Int32)) + ln).toNatClampNeg + (28 : Int32).toNatClampNeg ≤ (own_cp own_z64 (own_cp (own_cp own_z16 (own_P.map Value.int) (0 : Int32) (6 : Int32)) bs ((0 : Int32) + (6 : Int32)) ln) (0 : Int32) (16 : Int32)).length)) hZ88 (hw _ (List.mem_of_getElem? (i := 66) rfl)) (hw _ (List.mem_of_getElem? (i := 45) rfl)) (by decide) (by decide)) q97a q97c (g := (mkF m 22 #[oR a1] [(.ref a88), (.ref b12), (.ref b1), (.ref b1)])) rfl (by rw [hml]; rfl) (Steps.refl _) (argsL := [(.ref a88)]) (rest := [(.ref b1), (.ref b1)]) (lenOf pd_18 rfl) rfl (by show 2 * 0 + _ ≤ _; exact Nat.le_of_eq rfl) (hb hby d8_22) (fun _ _ => ⟨rfl, e88, (by decide : 7 + 1 ≤ _), (by decide : 170 + 37 ≤ _)⟩)
  dsimp only [Pt.U, Pt.locs, Pt.cells, Pt.slots] at X97 l97 y97 z97 st97 hQ97
  subst l97 y97 z97
  obtain ⟨b106, c107, rfl, Nq97, K97, P97_0, P97_1, P97_2, P97_3, P97_4, P97_5⟩ := hQ97
  have N97 := Fr.app N59 Nq97
  have F108 := ThS.ext E88 Th82
  have Th109 := ThS.keep K97 (nsS (Exa.nostat F101) ns0) F108
  have z110 := K97.1
  have Sf111 := Safe.keep K97 (sfS (Safe.exa hZ88.alike F101 (by decide) (by decide)) sf0) CC93.1 Sf90
  have Sf112 := Safe.keep K97 (sfS (Safe.exa hZ88.alike F101 (by decide) (by decide)) sf0) CC93.1 Sf91
  have Sf113 := Safe.keep K97 (sfS (Safe.exa hZ88.alike F101 (by decide) (by decide)) sf0) CC93.1 Sf92
  have CC114 := CC93.trans (CHr.keep K97 (sfS (Safe.exa hZ88.alike F101 (by decide) (by decide)) sf0) CC93.1)
  have g115 : n0 ≤ b106 := Nat.le_trans (Nat.le_trans Z0 (Nat.le_trans (Nat.le_trans (Nat.le_trans (Nat.le_trans (Nat.le_trans (Nat.le_trans z2 z13) z29) z36) z54) z83) z89)) P97_0
  have Sf116 := Safe.keep K97 (sfS (Safe.exa hZ88.alike F101 (by decide) (by decide)) sf0) CC93.1 (Safe.new (x := b106) P97_0)
  have e97 : T97.heap = T97.heap := rfl
  refine Wp.tr (S' := T97.setTop (mkF m 25 #[oR a1] [(.ref b12), (.ref b1), (.ref b1)])) st97 ?_
  have O118 := O99.keep K97 (allS g16 all0)
  have F119 := F101.keep K97
  obtain ⟨cq117, kq117, q117a, q117b, q117c⟩ := isOf hZ88 e97 F119
  obtain ⟨vv117, _, ⟨T117, L117, k117, n117⟩, -, X117, ⟨Lc117, hQ117, l117, y117, z117⟩, st117⟩ := X97.virtualBack hx (y := (⟨"java/lang/StringBuilder", "toString", "()Ljava/lang/String;"⟩ : MethodName)) (z := (⟨"java/lang/StringBuilder", "toString", "()Ljava/lang/String;"⟩ : MethodName)) how88 (mvT hZ88 (hw _ (List.mem_of_getElem? (i := 133) rfl))) (mvT hZ88 (hw _ (List.mem_of_getElem? (i := 134) rfl))) (notFace_of_selects (args := #[]) (mvT hZ88 (hw _ (List.mem_of_getElem? (i := 136) rfl)))) (mvT hZ88 (hw _ (List.mem_of_getElem? (i := 136) rfl))) (mvT hZ88 (hw _ (List.mem_of_getElem? (i := 135) rfl))) (by decide) (backOf (W := 2) (rm24 l Z a0 hw [] b12 zcs b106 ((((0 : Int32) + (6 : Int32)) + ln) + (28 : Int32)) c107 (own_cp (own_cp own_z64 (own_cp (own_cp own_z16 (own_P.map Value.int) (0 : Int32) (6 : Int32)) bs ((0 : Int32) + (6 : Int32)) ln) (0 : Int32) (16 : Int32)) (own_Sf.map Value.int) (((0 : Int32) + (6 : Int32)) + ln) (28 : Int32)) T97.heap n0 (Nat.le_trans Z0 (Nat.le_trans (Nat.le_trans (Nat.le_trans (Nat.le_trans (Nat.le_trans (Nat.le_trans (Nat.le_trans z2 z13) z29) z36) z54) z83) z89) z110)) O118 SCompact (hCS : ¬ zcs = 0) F119 P97_2 P97_3 P97_4 P97_5 P97_1 ((by rcases hln with rfl | rfl | rfl | rfl <;> decide +kernel) : ((((0 : Int32) + (6 : Int32)) + ln) + (28 : Int32)) = (34 : Int32) ∨ ((((0 : Int32) + (6 : Int32)) + ln) + (28 : Int32)) = (35 : Int32) ∨ ((((0 : Int32) + (6 : Int32)) + ln) + (28 : Int32)) = (36 : Int32) ∨ ((((0 : Int32) + (6 : Int32)) + ln) + (28 : Int32)) = (37 : Int32))) hZ88 (hw _ (List.mem_of_getElem? (i := 137) rfl)) (hw _ (List.mem_of_getElem? (i := 45) rfl)) (by decide) (by decide)) q117a q117c (g := (mkF m 25 #[oR a1] [(.ref b12), (.ref b1), (.ref b1)])) rfl (by rw [hml]; rfl) (Steps.refl _) (argsL := []) (rest := [(.ref b1), (.ref b1)]) (lenOf pd_19 rfl) rfl (by show 2 * 0 + _ ≤ _; exact Nat.le_of_eq rfl) (hb hby d8_25) (fun _ _ => ⟨rfl, e97, (by decide : 8 + 2 ≤ _), (by decide : 207 + 41 ≤ _)⟩)
  dsimp only [Pt.U, Pt.locs, Pt.cells, Pt.slots] at X117 l117 y117 z117 st117 hQ117
  subst l117 y117 z117
  obtain ⟨b120, b121, rfl, Nq117, K117, P117_0, P117_1, P117_2, P117_3, P117_4, P117_5⟩ := hQ117
  have N117 := Fr.app N97 Nq117
  have Th122 := ThS.keep K117 ns0 Th109
  have z123 := K117.1
  have Sf124 := Safe.keep K117 sf0 CC114.1 Sf111
  have Sf125 := Safe.keep K117 sf0 CC114.1 Sf112
  have Sf126 := Safe.keep K117 sf0 CC114.1 Sf113
  have Sf127 := Safe.keep K117 sf0 CC114.1 Sf116
  have CC128 := CC114.trans (CHr.keep K117 sf0 CC114.1)
  have g129 : n0 ≤ b120 := Nat.le_trans (Nat.le_trans Z0 (Nat.le_trans (Nat.le_trans (Nat.le_trans (Nat.le_trans (Nat.le_trans (Nat.le_trans (Nat.le_trans z2 z13) z29) z36) z54) z83) z89) z110)) P117_0
  have Sf130 := Safe.keep K117 sf0 CC114.1 (Safe.new (x := b120) P117_0)
  have g131 : n0 ≤ b121 := Nat.le_trans (Nat.le_trans Z0 (Nat.le_trans (Nat.le_trans (Nat.le_trans (Nat.le_trans (Nat.le_trans (Nat.le_trans (Nat.le_trans z2 z13) z29) z36) z54) z83) z89) z110)) P117_1
  have Sf132 := Safe.keep K117 sf0 CC114.1 (Safe.new (x := b121) P117_1)
  have e117 : T117.heap = T117.heap := rfl
  refine Wp.tr (S' := T117.setTop (mkF m 28 #[oR a1] [(.ref b120), (.ref b1), (.ref b1)])) st117 ?_
  refine Wp.st (S' := T117.setTop (mkF m 29 #[oR a1] [.null, (.ref b120), (.ref b1), (.ref b1)])) (fun tt_ kk_ => XS.aconstNull X117.here hx rfl (hb hby d8_28) kk_) ?_
  have O134 := O118.keep K117 all0
  have F135 := A1.ext E12
  have F136 := F135.keep K21
  have F137 := F136.ext E35
  have F138 := F137.keep K44
  have F139 := F138.keep K59
  have F140 := F139.ext E88
  have F141 := F140.keep K97
  have F142 := F141.keep K117
  have F143 := Unt.ext E12 U1
  have F144 := Unt.keep K21 (ninS (Nat.ne_of_lt (Nat.lt_of_lt_of_le A1.lt (Nat.le_trans (Nat.le_refl _) (Nat.le_of_eq g12.symm)))) nin0) F143
  have F145 := Unt.ext E35 F144
  have F146 := Unt.keep K44 (ninS (Nat.ne_of_lt (Nat.lt_of_lt_of_le A1.lt (Nat.le_trans (Nat.le_refl _) (Nat.le_of_eq g12.symm)))) (ninS (Nat.ne_of_lt (Nat.lt_of_lt_of_le A1.lt (Nat.le_trans z13 P21_0))) nin0)) F145
  have F147 := Unt.keep K59 (ninS (Nat.ne_of_lt (Nat.lt_of_lt_of_le A1.lt (Nat.le_trans (Nat.le_refl _) (Nat.le_of_eq g12.symm)))) (ninS (Nat.ne_of_lt (Nat.lt_of_lt_of_le A1.lt (Nat.le_trans z13 P21_0))) nin0)) F146
  have F148 := Unt.ext E88 F147
  have F149 := Unt.keep K97 (ninS (Nat.ne_of_lt (Nat.lt_of_lt_of_le A1.lt (Nat.le_trans (Nat.le_refl _) (Nat.le_of_eq g12.symm)))) nin0) F148
  have F150 := Unt.keep K117 nin0 F149
  have F151 := F9.ext E12
  have F152 := F151.keep K21 (ninS (Nat.ne_of_lt (Nat.lt_of_lt_of_le A1.lt (Nat.le_trans (Nat.le_refl _) (Nat.le_of_eq g12.symm)))) nin0)
  have F153 := F152.ext E35
  have F154 := F153.keep K44 (ninS (Nat.ne_of_lt (Nat.lt_of_lt_of_le A1.lt (Nat.le_trans (Nat.le_refl _) (Nat.le_of_eq g12.symm)))) (ninS (Nat.ne_of_lt (Nat.lt_of_lt_of_le A1.lt (Nat.le_trans z13 P21_0))) nin0))
  have F155 := F154.keep K59 (ninS (Nat.ne_of_lt (Nat.lt_of_lt_of_le A1.lt (Nat.le_trans (Nat.le_refl _) (Nat.le_of_eq g12.symm)))) (ninS (Nat.ne_of_lt (Nat.lt_of_lt_of_le A1.lt (Nat.le_trans z13 P21_0))) nin0))
  have F156 := F155.ext E88
  have F157 := F156.keep K97 (ninS (Nat.ne_of_lt (Nat.lt_of_lt_of_le A1.lt (Nat.le_trans (Nat.le_refl _) (Nat.le_of_eq g12.symm)))) nin0)
  have F158 := F157.keep K117 nin0
  have F159 := F6.ext E12
  have F160 := F159.keep K21 (ninS (Nat.ne_of_lt (Nat.lt_of_lt_of_le A1.lt (Nat.le_trans (Nat.le_refl _) (Nat.le_of_eq g12.symm)))) nin0)
  have F161 := F160.ext E35
  have F162 := F161.keep K44 (ninS (Nat.ne_of_lt (Nat.lt_of_lt_of_le A1.lt (Nat.le_trans (Nat.le_refl _) (Nat.le_of_eq g12.symm)))) (ninS (Nat.ne_of_lt (Nat.lt_of_lt_of_le A1.lt (Nat.le_trans z13 P21_0))) nin0))
  have F163 := F162.keep K59 (ninS (Nat.ne_of_lt (Nat.lt_of_lt_of_le A1.lt (Nat.le_trans (Nat.le_refl _) (Nat.le_of_eq g12.symm)))) (ninS (Nat.ne_of_lt (Nat.lt_of_lt_of_le A1.lt (Nat.le_trans z13 P21_0))) nin0))
  have F164 := F163.ext E88
  have F165 := F164.keep K97 (ninS (Nat.ne_of_lt (Nat.lt_of_lt_of_le A1.lt (Nat.le_trans (Nat.le_refl _) (Nat.le_of_eq g12.symm)))) nin0)
  have F166 := F165.keep K117 nin0
  have F167 := F7.ext E12
  have F168 := F167.keep K21 (ninS (Nat.ne_of_lt (Nat.lt_of_lt_of_le A1.lt (Nat.le_trans (Nat.le_refl _) (Nat.le_of_eq g12.symm)))) nin0)
  have F169 := F168.ext E35
  have F170 := F169.keep K44 (ninS (Nat.ne_of_lt (Nat.lt_of_lt_of_le A1.lt (Nat.le_trans (Nat.le_refl _) (Nat.le_of_eq g12.symm)))) (ninS (Nat.ne_of_lt (Nat.lt_of_lt_of_le A1.lt (Nat.le_trans z13 P21_0))) nin0))
  have F171 := F170.keep K59 (ninS (Nat.ne_of_lt (Nat.lt_of_lt_of_le A1.lt (Nat.le_trans (Nat.le_refl _) (Nat.le_of_eq g12.symm)))) (ninS (Nat.ne_of_lt (Nat.lt_of_lt_of_le A1.lt (Nat.le_trans z13 P21_0))) nin0))
  have F172 := F171.ext E88
  have F173 := F172.keep K97 (ninS (Nat.ne_of_lt (Nat.lt_of_lt_of_le A1.lt (Nat.le_trans (Nat.le_refl _) (Nat.le_of_eq g12.symm)))) nin0)
  have F174 := F173.keep K117 nin0
  have F175 := F8.ext E12
  have F176 := F175.keep K21 (ninS (Nat.ne_of_lt (Nat.lt_of_lt_of_le A1.lt (Nat.le_trans (Nat.le_refl _) (Nat.le_of_eq g12.symm)))) nin0)
  have F177 := F176.ext E35
  have F178 := F177.keep K44 (ninS (Nat.ne_of_lt (Nat.lt_of_lt_of_le A1.lt (Nat.le_trans (Nat.le_refl _) (Nat.le_of_eq g12.symm)))) (ninS (Nat.ne_of_lt (Nat.lt_of_lt_of_le A1.lt (Nat.le_trans z13 P21_0))) nin0))
  have F179 := F178.keep K59 (ninS (Nat.ne_of_lt (Nat.lt_of_lt_of_le A1.lt (Nat.le_trans (Nat.le_refl _) (Nat.le_of_eq g12.symm)))) (ninS (Nat.ne_of_lt (Nat.lt_of_lt_of_le A1.lt (Nat.le_trans z13 P21_0))) nin0))
  have F180 := F179.ext E88
  have F181 := F180.keep K97 (ninS (Nat.ne_of_lt (Nat.lt_of_lt_of_le A1.lt (Nat.le_trans (Nat.le_refl _) (Nat.le_of_eq g12.symm)))) nin0)
  have F182 := F181.keep K117 nin0
  have F183 := F10.ext E12
  have F184 := F183.keep K21 (ninS (Nat.ne_of_lt (Nat.lt_of_lt_of_le A1.lt (Nat.le_trans (Nat.le_refl _) (Nat.le_of_eq g12.symm)))) nin0)
  have F185 := F184.ext E35
  have F186 := F185.keep K44 (ninS (Nat.ne_of_lt (Nat.lt_of_lt_of_le A1.lt (Nat.le_trans (Nat.le_refl _) (Nat.le_of_eq g12.symm)))) (ninS (Nat.ne_of_lt (Nat.lt_of_lt_of_le A1.lt (Nat.le_trans z13 P21_0))) nin0))
  have F187 := F186.keep K59 (ninS (Nat.ne_of_lt (Nat.lt_of_lt_of_le A1.lt (Nat.le_trans (Nat.le_refl _) (Nat.le_of_eq g12.symm)))) (ninS (Nat.ne_of_lt (Nat.lt_of_lt_of_le A1.lt (Nat.le_trans z13 P21_0))) nin0))
  have F188 := F187.ext E88
  have F189 := F188.keep K97 (ninS (Nat.ne_of_lt (Nat.lt_of_lt_of_le A1.lt (Nat.le_trans (Nat.le_refl _) (Nat.le_of_eq g12.symm)))) nin0)
  have F190 := F189.keep K117 nin0
  obtain ⟨vv133, _, ⟨T133, L133, k133, n133⟩, -, X133, ⟨Lc133, hQ133, l133, y133, z133⟩, st133⟩ := X117.specialBack hx (y := (⟨"com/example/mortise_lock/mortiselock/redis/RedisCallException", "<init>", "(Ljava/lang/String;Ljava/lang/Throwable;)V"⟩ : MethodName)) rfl how88 (mvT hZ88 (hw _ (List.mem_of_getElem? (i := 175) rfl))) (mvT hZ88 (hw _ (List.mem_of_getElem? (i := 176) rfl))) (mvT hZ88 (hw _ (List.mem_of_getElem? (i := 177) rfl))) (by decide) (backOfKL (W := 1) (rm32 l Z a0 hw [] b1 b120 vu vs T117.heap n0 (Nat.le_trans Z0 (Nat.le_trans (Nat.le_trans (Nat.le_trans (Nat.le_trans (Nat.le_trans (Nat.le_trans (Nat.le_trans (Nat.le_trans z2 z13) z29) z36) z54) z83) z89) z110) z123)) g4 O134 F142 F150 Th122 ((by assumption) : ∀ d ∈ Jvm.RoadKit.twoRefs, d.before a0 Z = true) ((by assumption) : l.stackTraces = true) SUn SSe hvu hvs F158 F166 F174 F182 F190) hZ88 (hw _ (List.mem_of_getElem? (i := 177) rfl)) (hw _ (List.mem_of_getElem? (i := 39) rfl)) (by decide) (by decide) (Jvm.Vm.MethodsKnown.alikeC (hZ.alike.symm.trans hZ88.alike) hK.1) (Jvm.Vm.FramesKnown.alikeC (hZ.alike.symm.trans hZ88.alike) hK.2)) (g := (mkF m 29 #[oR a1] [.null, (.ref b120), (.ref b1), (.ref b1)])) rfl (by rw [hml]; rfl) (Steps.refl _) (a := b1) (argsL := [(.ref b120), .null]) (rest := [(.ref b1)]) (lenOf pd_16 rfl) rfl (by show 2 * 0 + _ ≤ _; exact Nat.le_of_eq rfl) (hb hby d8_29) (fun _ _ => ⟨rfl, e117, (by decide : 10 + 1 ≤ _), (by decide : 248 + 2752 ≤ _)⟩)
  dsimp only [Pt.U, Pt.locs, Pt.cells, Pt.slots] at X133 l133 y133 z133 st133 hQ133
  subst l133 y133 z133
  obtain ⟨rfl, Nq133, K133, P133_0, P133_1, P133_2, P133_3, P133_4⟩ := hQ133
  have N133 := Fr.app N117 Nq133
  have Th191 := ThS.keep K133 (nsS (Exa.nostat F142) ns0) Th122
  have z192 := K133.1
  have Sf193 := Safe.keep K133 (sfS (Safe.exa hZ88.alike F142 (by decide) (by decide)) sf0) CC128.1 Sf124
  have Sf194 := Safe.keep K133 (sfS (Safe.exa hZ88.alike F142 (by decide) (by decide)) sf0) CC128.1 Sf125
  have Sf195 := Safe.keep K133 (sfS (Safe.exa hZ88.alike F142 (by decide) (by decide)) sf0) CC128.1 Sf126
  have Sf196 := Safe.keep K133 (sfS (Safe.exa hZ88.alike F142 (by decide) (by decide)) sf0) CC128.1 Sf127
  have Sf197 := Safe.keep K133 (sfS (Safe.exa hZ88.alike F142 (by decide) (by decide)) sf0) CC128.1 Sf130
  have Sf198 := Safe.keep K133 (sfS (Safe.exa hZ88.alike F142 (by decide) (by decide)) sf0) CC128.1 Sf132
  have CC199 := CC128.trans (CHr.keep K133 (sfS (Safe.exa hZ88.alike F142 (by decide) (by decide)) sf0) CC128.1)
  have e133 : T133.heap = T133.heap := rfl
  refine Wp.tr (S' := T133.setTop (mkF m 32 #[oR a1] [(.ref b1)])) st133 ?_
  have F200 := P117_5.keep K133 (ninS (Ne.symm (Nat.ne_of_lt (Nat.lt_of_lt_of_le A1.lt (Nat.le_trans (Nat.le_trans (Nat.le_trans (Nat.le_trans (Nat.le_trans (Nat.le_trans (Nat.le_trans z13 z29) z36) z54) z83) z89) z110) P117_1)))) nin0)
  have Vm : Arv Z T133.heap b121 c107 .byte ((((0 : Int32) + (6 : Int32)) + ln) + (28 : Int32)) (own_msg bs ln) (.int (0 : Int32)) := F200
  have K201 := Keep.refl h0 []
  have K202 := K201.ext E1
  have K203 := K202.ext E12
  have K204 := K203.trans K21 (allS (Or.inr (Nat.le_trans z2 (Nat.le_of_eq g12.symm))) all0)
  have K205 := K204.ext E35
  have K206 := K205.trans K44 (allS (Or.inr (Nat.le_trans z2 (Nat.le_of_eq g12.symm))) (allS (Or.inr (Nat.le_trans (Nat.le_trans z2 z13) P21_0)) all0))
  have K207 := K206.trans K59 (allS (Or.inr (Nat.le_trans z2 (Nat.le_of_eq g12.symm))) (allS (Or.inr (Nat.le_trans (Nat.le_trans z2 z13) P21_0)) all0))
  have K208 := K207.ext E88
  have K209 := K208.trans K97 (allS (Or.inr (Nat.le_trans z2 (Nat.le_of_eq g12.symm))) all0)
  have K210 := K209.trans K117 all0
  have K211 := K210.trans K133 (allS (Or.inr (Nat.le_trans (Nat.le_refl _) (Nat.le_of_eq g1.symm))) all0)
  have F212 := P117_2.keep K133
  have F213 := P117_3.keep K133 (ninS (Ne.symm (Nat.ne_of_lt (Nat.lt_of_lt_of_le A1.lt (Nat.le_trans (Nat.le_trans (Nat.le_trans (Nat.le_trans (Nat.le_trans (Nat.le_trans (Nat.le_trans z13 z29) z36) z54) z83) z89) z110) P117_0)))) nin0)
  have F214 := P117_4.keep K133 (ninS (Ne.symm (Nat.ne_of_lt (Nat.lt_of_lt_of_le A1.lt (Nat.le_trans (Nat.le_trans (Nat.le_trans (Nat.le_trans (Nat.le_trans (Nat.le_trans (Nat.le_trans z13 z29) z36) z54) z83) z89) z110) P117_0)))) nin0)
  exact Wp.retH X133 hlk hS88 (by rw [e133]; exact (Nat.le_trans hk88 (Nat.le_trans (Nat.le_trans z110 z123) z192))) (v := (some (.ref b1))) (fun h => by rw [Bd.returns] at h; cases h) (fun fs hr => retOut X133 hx Bd.returns rfl (Or.inr (Or.inr (Or.inr (Or.inr ⟨rfl, rfl, rfl⟩)))) (hb hby d8_32) hr) (by decide) (by decide) (show Q_rm8 Z a1 zcs t1 k1 ln bs vu vs h0 n0 _ T133.heap _ by rw [e133]; exact ⟨b1, b120, b121, c107, rfl, N133, K211, P133_0, P133_1, P133_3, P133_4, F212, F213, F214, Vm⟩) (by rw [hh, e133]; exact CC199.trans (CHv.at X133 hZ88 hEL CC199.1))
theorem own_pj {p2 : Int32} {m : Int} (ho : 0 ≤ p2.toInt ∧ p2.toInt ≤ 9 ∧ p2.toInt + 28 = m) (k : Int32) (hk : 0 ≤ k.toInt ∧ k.toInt < 28) : (p2 + k).toInt = p2.toInt + k.toInt := by
  have a := c_iadd p2 k; have b := rng32 (p2 + k); omega
theorem own_ibn {j n : Int32} (h : 0 ≤ j.toInt ∧ j.toInt < n.toInt) : ¬ j < 0 ∧ j < n := by
  have e0 : (0 : Int32).toInt = 0 := by decide
  rw [Int32.lt_iff_toInt_lt, Int32.lt_iff_toInt_lt]; omega
theorem pn_1 : plainName "com/example/mortise_lock/mortiselock/redis/RedisCallExceptionClosedPinLaw" = true := by first | (simp [plainName, overriddenIn]; done) | decide +kernel
theorem d1_0 : decode method_3_code 0 = .ok (.aload_n 0, 1) := by decide +kernel
theorem d1_1 : decode method_3_code 1 = .ok (.iload_n 1, 1) := by decide +kernel
theorem d1_2 : decode method_3_code 2 = .ok (.bipush 39, 2) := by decide +kernel
theorem d1_4 : decode method_3_code 4 = .ok (.castore, 1) := by decide +kernel
theorem d1_5 : decode method_3_code 5 = .ok (.aload_n 0, 1) := by decide +kernel
theorem d1_6 : decode method_3_code 6 = .ok (.iload_n 1, 1) := by decide +kernel
theorem d1_7 : decode method_3_code 7 = .ok (.iconst 1, 1) := by decide +kernel
theorem d1_8 : decode method_3_code 8 = .ok (.iadd, 1) := by decide +kernel
theorem d1_9 : decode method_3_code 9 = .ok (.bipush 58, 2) := by decide +kernel
theorem d1_11 : decode method_3_code 11 = .ok (.castore, 1) := by decide +kernel
theorem d1_12 : decode method_3_code 12 = .ok (.aload_n 0, 1) := by decide +kernel
theorem d1_13 : decode method_3_code 13 = .ok (.iload_n 1, 1) := by decide +kernel
theorem d1_14 : decode method_3_code 14 = .ok (.iconst 2, 1) := by decide +kernel
theorem d1_15 : decode method_3_code 15 = .ok (.iadd, 1) := by decide +kernel
theorem d1_16 : decode method_3_code 16 = .ok (.bipush 32, 2) := by decide +kernel
theorem d1_18 : decode method_3_code 18 = .ok (.castore, 1) := by decide +kernel
theorem d1_19 : decode method_3_code 19 = .ok (.aload_n 0, 1) := by decide +kernel
theorem d1_20 : decode method_3_code 20 = .ok (.iload_n 1, 1) := by decide +kernel
theorem d1_21 : decode method_3_code 21 = .ok (.iconst 3, 1) := by decide +kernel
theorem d1_22 : decode method_3_code 22 = .ok (.iadd, 1) := by decide +kernel
theorem d1_23 : decode method_3_code 23 = .ok (.bipush 105, 2) := by decide +kernel
theorem d1_25 : decode method_3_code 25 = .ok (.castore, 1) := by decide +kernel
theorem d1_26 : decode method_3_code 26 = .ok (.aload_n 0, 1) := by decide +kernel
theorem d1_27 : decode method_3_code 27 = .ok (.iload_n 1, 1) := by decide +kernel
theorem d1_28 : decode method_3_code 28 = .ok (.iconst 4, 1) := by decide +kernel
theorem d1_29 : decode method_3_code 29 = .ok (.iadd, 1) := by decide +kernel
theorem d1_30 : decode method_3_code 30 = .ok (.bipush 116, 2) := by decide +kernel
theorem d1_32 : decode method_3_code 32 = .ok (.castore, 1) := by decide +kernel
theorem d1_33 : decode method_3_code 33 = .ok (.aload_n 0, 1) := by decide +kernel
theorem d1_34 : decode method_3_code 34 = .ok (.iload_n 1, 1) := by decide +kernel
theorem d1_35 : decode method_3_code 35 = .ok (.iconst 5, 1) := by decide +kernel
theorem d1_36 : decode method_3_code 36 = .ok (.iadd, 1) := by decide +kernel
theorem d1_37 : decode method_3_code 37 = .ok (.bipush 115, 2) := by decide +kernel
theorem d1_39 : decode method_3_code 39 = .ok (.castore, 1) := by decide +kernel
theorem d1_40 : decode method_3_code 40 = .ok (.aload_n 0, 1) := by decide +kernel
theorem d1_41 : decode method_3_code 41 = .ok (.iload_n 1, 1) := by decide +kernel
theorem d1_42 : decode method_3_code 42 = .ok (.bipush 6, 2) := by decide +kernel
theorem d1_44 : decode method_3_code 44 = .ok (.iadd, 1) := by decide +kernel
theorem d1_45 : decode method_3_code 45 = .ok (.bipush 32, 2) := by decide +kernel
theorem d1_47 : decode method_3_code 47 = .ok (.castore, 1) := by decide +kernel
theorem d1_48 : decode method_3_code 48 = .ok (.aload_n 0, 1) := by decide +kernel
theorem d1_49 : decode method_3_code 49 = .ok (.iload_n 1, 1) := by decide +kernel
theorem d1_50 : decode method_3_code 50 = .ok (.bipush 7, 2) := by decide +kernel
theorem d1_52 : decode method_3_code 52 = .ok (.iadd, 1) := by decide +kernel
theorem d1_53 : decode method_3_code 53 = .ok (.bipush 77, 2) := by decide +kernel
theorem d1_55 : decode method_3_code 55 = .ok (.castore, 1) := by decide +kernel
theorem d1_56 : decode method_3_code 56 = .ok (.aload_n 0, 1) := by decide +kernel
theorem d1_57 : decode method_3_code 57 = .ok (.iload_n 1, 1) := by decide +kernel
theorem d1_58 : decode method_3_code 58 = .ok (.bipush 8, 2) := by decide +kernel
theorem d1_60 : decode method_3_code 60 = .ok (.iadd, 1) := by decide +kernel
theorem d1_61 : decode method_3_code 61 = .ok (.bipush 111, 2) := by decide +kernel
theorem d1_63 : decode method_3_code 63 = .ok (.castore, 1) := by decide +kernel
theorem d1_64 : decode method_3_code 64 = .ok (.aload_n 0, 1) := by decide +kernel
theorem d1_65 : decode method_3_code 65 = .ok (.iload_n 1, 1) := by decide +kernel
theorem d1_66 : decode method_3_code 66 = .ok (.bipush 9, 2) := by decide +kernel
theorem d1_68 : decode method_3_code 68 = .ok (.iadd, 1) := by decide +kernel
theorem d1_69 : decode method_3_code 69 = .ok (.bipush 114, 2) := by decide +kernel
theorem d1_71 : decode method_3_code 71 = .ok (.castore, 1) := by decide +kernel
theorem d1_72 : decode method_3_code 72 = .ok (.aload_n 0, 1) := by decide +kernel
theorem d1_73 : decode method_3_code 73 = .ok (.iload_n 1, 1) := by decide +kernel
theorem d1_74 : decode method_3_code 74 = .ok (.bipush 10, 2) := by decide +kernel
theorem d1_76 : decode method_3_code 76 = .ok (.iadd, 1) := by decide +kernel
theorem d1_77 : decode method_3_code 77 = .ok (.bipush 116, 2) := by decide +kernel
theorem d1_79 : decode method_3_code 79 = .ok (.castore, 1) := by decide +kernel
theorem d1_80 : decode method_3_code 80 = .ok (.aload_n 0, 1) := by decide +kernel
theorem d1_81 : decode method_3_code 81 = .ok (.iload_n 1, 1) := by decide +kernel
theorem d1_82 : decode method_3_code 82 = .ok (.bipush 11, 2) := by decide +kernel
theorem d1_84 : decode method_3_code 84 = .ok (.iadd, 1) := by decide +kernel
theorem d1_85 : decode method_3_code 85 = .ok (.bipush 105, 2) := by decide +kernel
theorem d1_87 : decode method_3_code 87 = .ok (.castore, 1) := by decide +kernel
theorem d1_88 : decode method_3_code 88 = .ok (.aload_n 0, 1) := by decide +kernel
theorem d1_89 : decode method_3_code 89 = .ok (.iload_n 1, 1) := by decide +kernel
theorem d1_90 : decode method_3_code 90 = .ok (.bipush 12, 2) := by decide +kernel
theorem d1_92 : decode method_3_code 92 = .ok (.iadd, 1) := by decide +kernel
theorem d1_93 : decode method_3_code 93 = .ok (.bipush 115, 2) := by decide +kernel
theorem d1_95 : decode method_3_code 95 = .ok (.castore, 1) := by decide +kernel
theorem d1_96 : decode method_3_code 96 = .ok (.aload_n 0, 1) := by decide +kernel
theorem d1_97 : decode method_3_code 97 = .ok (.iload_n 1, 1) := by decide +kernel
theorem d1_98 : decode method_3_code 98 = .ok (.bipush 13, 2) := by decide +kernel
theorem d1_100 : decode method_3_code 100 = .ok (.iadd, 1) := by decide +kernel
theorem d1_101 : decode method_3_code 101 = .ok (.bipush 101, 2) := by decide +kernel
theorem d1_103 : decode method_3_code 103 = .ok (.castore, 1) := by decide +kernel
theorem d1_104 : decode method_3_code 104 = .ok (.aload_n 0, 1) := by decide +kernel
theorem d1_105 : decode method_3_code 105 = .ok (.iload_n 1, 1) := by decide +kernel
theorem d1_106 : decode method_3_code 106 = .ok (.bipush 14, 2) := by decide +kernel
theorem d1_108 : decode method_3_code 108 = .ok (.iadd, 1) := by decide +kernel
theorem d1_109 : decode method_3_code 109 = .ok (.bipush 76, 2) := by decide +kernel
theorem d1_111 : decode method_3_code 111 = .ok (.castore, 1) := by decide +kernel
theorem d1_112 : decode method_3_code 112 = .ok (.aload_n 0, 1) := by decide +kernel
theorem d1_113 : decode method_3_code 113 = .ok (.iload_n 1, 1) := by decide +kernel
theorem d1_114 : decode method_3_code 114 = .ok (.bipush 15, 2) := by decide +kernel
theorem d1_116 : decode method_3_code 116 = .ok (.iadd, 1) := by decide +kernel
theorem d1_117 : decode method_3_code 117 = .ok (.bipush 111, 2) := by decide +kernel
theorem d1_119 : decode method_3_code 119 = .ok (.castore, 1) := by decide +kernel
theorem d1_120 : decode method_3_code 120 = .ok (.aload_n 0, 1) := by decide +kernel
theorem d1_121 : decode method_3_code 121 = .ok (.iload_n 1, 1) := by decide +kernel
theorem d1_122 : decode method_3_code 122 = .ok (.bipush 16, 2) := by decide +kernel
theorem d1_124 : decode method_3_code 124 = .ok (.iadd, 1) := by decide +kernel
theorem d1_125 : decode method_3_code 125 = .ok (.bipush 99, 2) := by decide +kernel
theorem d1_127 : decode method_3_code 127 = .ok (.castore, 1) := by decide +kernel
theorem d1_128 : decode method_3_code 128 = .ok (.aload_n 0, 1) := by decide +kernel
theorem d1_129 : decode method_3_code 129 = .ok (.iload_n 1, 1) := by decide +kernel
theorem d1_130 : decode method_3_code 130 = .ok (.bipush 17, 2) := by decide +kernel
theorem d1_132 : decode method_3_code 132 = .ok (.iadd, 1) := by decide +kernel
theorem d1_133 : decode method_3_code 133 = .ok (.bipush 107, 2) := by decide +kernel
theorem d1_135 : decode method_3_code 135 = .ok (.castore, 1) := by decide +kernel
theorem d1_136 : decode method_3_code 136 = .ok (.aload_n 0, 1) := by decide +kernel
theorem d1_137 : decode method_3_code 137 = .ok (.iload_n 1, 1) := by decide +kernel
theorem d1_138 : decode method_3_code 138 = .ok (.bipush 18, 2) := by decide +kernel
theorem d1_140 : decode method_3_code 140 = .ok (.iadd, 1) := by decide +kernel
theorem d1_141 : decode method_3_code 141 = .ok (.bipush 32, 2) := by decide +kernel
theorem d1_143 : decode method_3_code 143 = .ok (.castore, 1) := by decide +kernel
theorem d1_144 : decode method_3_code 144 = .ok (.aload_n 0, 1) := by decide +kernel
theorem d1_145 : decode method_3_code 145 = .ok (.iload_n 1, 1) := by decide +kernel
theorem d1_146 : decode method_3_code 146 = .ok (.bipush 19, 2) := by decide +kernel
theorem d1_148 : decode method_3_code 148 = .ok (.iadd, 1) := by decide +kernel
theorem d1_149 : decode method_3_code 149 = .ok (.bipush 105, 2) := by decide +kernel
theorem d1_151 : decode method_3_code 151 = .ok (.castore, 1) := by decide +kernel
theorem d1_152 : decode method_3_code 152 = .ok (.aload_n 0, 1) := by decide +kernel
theorem d1_153 : decode method_3_code 153 = .ok (.iload_n 1, 1) := by decide +kernel
theorem d1_154 : decode method_3_code 154 = .ok (.bipush 20, 2) := by decide +kernel
theorem d1_156 : decode method_3_code 156 = .ok (.iadd, 1) := by decide +kernel
theorem d1_157 : decode method_3_code 157 = .ok (.bipush 115, 2) := by decide +kernel
theorem d1_159 : decode method_3_code 159 = .ok (.castore, 1) := by decide +kernel
theorem d1_160 : decode method_3_code 160 = .ok (.aload_n 0, 1) := by decide +kernel
theorem d1_161 : decode method_3_code 161 = .ok (.iload_n 1, 1) := by decide +kernel
theorem d1_162 : decode method_3_code 162 = .ok (.bipush 21, 2) := by decide +kernel
theorem d1_164 : decode method_3_code 164 = .ok (.iadd, 1) := by decide +kernel
theorem d1_165 : decode method_3_code 165 = .ok (.bipush 32, 2) := by decide +kernel
theorem d1_167 : decode method_3_code 167 = .ok (.castore, 1) := by decide +kernel
theorem d1_168 : decode method_3_code 168 = .ok (.aload_n 0, 1) := by decide +kernel
theorem d1_169 : decode method_3_code 169 = .ok (.iload_n 1, 1) := by decide +kernel
theorem d1_170 : decode method_3_code 170 = .ok (.bipush 22, 2) := by decide +kernel
theorem d1_172 : decode method_3_code 172 = .ok (.iadd, 1) := by decide +kernel
theorem d1_173 : decode method_3_code 173 = .ok (.bipush 99, 2) := by decide +kernel
theorem d1_175 : decode method_3_code 175 = .ok (.castore, 1) := by decide +kernel
theorem d1_176 : decode method_3_code 176 = .ok (.aload_n 0, 1) := by decide +kernel
theorem d1_177 : decode method_3_code 177 = .ok (.iload_n 1, 1) := by decide +kernel
theorem d1_178 : decode method_3_code 178 = .ok (.bipush 23, 2) := by decide +kernel
theorem d1_180 : decode method_3_code 180 = .ok (.iadd, 1) := by decide +kernel
theorem d1_181 : decode method_3_code 181 = .ok (.bipush 108, 2) := by decide +kernel
theorem d1_183 : decode method_3_code 183 = .ok (.castore, 1) := by decide +kernel
theorem d1_184 : decode method_3_code 184 = .ok (.aload_n 0, 1) := by decide +kernel
theorem d1_185 : decode method_3_code 185 = .ok (.iload_n 1, 1) := by decide +kernel
theorem d1_186 : decode method_3_code 186 = .ok (.bipush 24, 2) := by decide +kernel
theorem d1_188 : decode method_3_code 188 = .ok (.iadd, 1) := by decide +kernel
theorem d1_189 : decode method_3_code 189 = .ok (.bipush 111, 2) := by decide +kernel
theorem d1_191 : decode method_3_code 191 = .ok (.castore, 1) := by decide +kernel
theorem d1_192 : decode method_3_code 192 = .ok (.aload_n 0, 1) := by decide +kernel
theorem d1_193 : decode method_3_code 193 = .ok (.iload_n 1, 1) := by decide +kernel
theorem d1_194 : decode method_3_code 194 = .ok (.bipush 25, 2) := by decide +kernel
theorem d1_196 : decode method_3_code 196 = .ok (.iadd, 1) := by decide +kernel
theorem d1_197 : decode method_3_code 197 = .ok (.bipush 115, 2) := by decide +kernel
theorem d1_199 : decode method_3_code 199 = .ok (.castore, 1) := by decide +kernel
theorem d1_200 : decode method_3_code 200 = .ok (.aload_n 0, 1) := by decide +kernel
theorem d1_201 : decode method_3_code 201 = .ok (.iload_n 1, 1) := by decide +kernel
theorem d1_202 : decode method_3_code 202 = .ok (.bipush 26, 2) := by decide +kernel
theorem d1_204 : decode method_3_code 204 = .ok (.iadd, 1) := by decide +kernel
theorem d1_205 : decode method_3_code 205 = .ok (.bipush 101, 2) := by decide +kernel
theorem d1_207 : decode method_3_code 207 = .ok (.castore, 1) := by decide +kernel
theorem d1_208 : decode method_3_code 208 = .ok (.aload_n 0, 1) := by decide +kernel
theorem d1_209 : decode method_3_code 209 = .ok (.iload_n 1, 1) := by decide +kernel
theorem d1_210 : decode method_3_code 210 = .ok (.bipush 27, 2) := by decide +kernel
theorem d1_212 : decode method_3_code 212 = .ok (.iadd, 1) := by decide +kernel
theorem d1_213 : decode method_3_code 213 = .ok (.bipush 100, 2) := by decide +kernel
theorem d1_215 : decode method_3_code 215 = .ok (.castore, 1) := by decide +kernel
theorem d1_216 : decode method_3_code 216 = .ok (.return_, 1) := by decide +kernel
theorem ef_rm1 (m : MethodId) (a1 : Addr) (p2 : Int32) : entryFrame m #[(.ref a1), (.int p2)] 2 = mkF m 0 #[oR a1, oI p2] [] := by first | (simp [entryFrame, mkF, argsToLocals, Value.category]; done) | rfl
def Q_rm1 (Z : State) (a1 : Addr) (p2 : Int32) (k1 : ClassId) (n : Int32) (vs : List Value) (h0 : Heap) (n0 : Nat) (v : Option Value) (h : Heap) (L : List Loc) : Prop := (v = none) ∧ (Fr n0 L) ∧ (Keep h0 h [a1]) ∧ (Arv Z h a1 k1 .char n (own_put vs p2.toNatClampNeg 28) (.int (0 : Int32)))
set_option maxRecDepth 65536 in
set_option maxHeartbeats 40000000 in
theorem rm1 (l : Launch) (Z : State) (a0 : Array Value) (hw : ∀ d ∈ tables_1, d.before a0 Z = true) (ws : List Jvm.Cond) (a1 : Addr) (p2 : Int32) (k1 : ClassId) (n : Int32) (vs : List Value) (h0 : Heap) (n0 : Nat) (Z0 : n0 ≤ h0.size) (g_a1 : n0 ≤ a1) (P1 : Arv Z h0 a1 k1 .char n vs (.int (0 : Int32))) (ho : 0 ≤ p2.toInt ∧ p2.toInt ≤ 9 ∧ p2.toInt + 28 = n.toInt) (hvl : p2.toNatClampNeg + 28 ≤ vs.length) :
    MetFree l (⟨"com/example/mortise_lock/mortiselock/redis/RedisCallExceptionClosedPinLaw", "putSuffix", "([CI)V"⟩ : MethodName) (head1 (Jvm.Cond.code (⟨"com/example/mortise_lock/mortiselock/redis/RedisCallExceptionClosedPinLaw", "putSuffix", "([CI)V"⟩ : MethodName) method_3_code 2 none :: ws) ({ frames := 0, cells := 0, slots := 0, locals := 0 } : Room)) (fun a U => a = #[(.ref a1), (.int p2)] ∧ Z.Warmed39 U.vm ∧ U.heap = h0) (fun _ _ _ _ _ => True) (fun _ U o U' => ∃ v L, o = .returned v ∧ Q_rm1 Z a1 p2 k1 n vs h0 n0 v U'.heap L ∧ FrameEnd U o U' L ({ frames := 0, cells := 0, slots := 0, locals := 0 } : Room).cells ({ frames := 0, cells := 0, slots := 0, locals := 0 } : Room).slots) := by
  refine MetFree.of_bodySF (plainFor_of_name pn_1) hisR ?_
  intro p e s m args below meth c s₁ Bd hml0 hP hK
  obtain ⟨rfl, hZ, hh⟩ := hP
  have hx := Bd.exec
  have hby := Bd.bytes
  have hml : c.maxLocals = 2 := hml0
  have hown : s.vm.findClass "com/example/mortise_lock/mortiselock/redis/RedisCallExceptionClosedPinLaw" = some m.cls := findClass_of_methodNamed Bd.named
  have hnm := (name_of_methodNamed Bd.named Bd.method).1
  have hlk := Bd.notSynchronized
  have X0 : Stand p l e ({ frames := 0, cells := 0, slots := 0, locals := 0 } : Room) s m #[(.ref a1), (.int p2)] below meth c s₁ [] 0 0 := Stand.of_body Bd
  have e0 : s₁.heap = h0 := by rw [← hh, Bd.state]; rfl
  have N0 := Fr.nil n0
  refine Wp.goal (Post := (fun o U' => ∃ v L, o = .returned v ∧ Q_rm1 Z a1 p2 k1 n vs h0 n0 v U'.heap L ∧ FrameEnd s o U' L ({ frames := 0, cells := 0, slots := 0, locals := 0 } : Room).cells ({ frames := 0, cells := 0, slots := 0, locals := 0 } : Room).slots)) (Wp.st (S' := s₁.setTop (mkF m 0 #[oR a1, oI p2] [])) (fun tt_ kk_ => castTop (ef_rm1 m a1 p2 ) kk_) ?_)
  have V0 : Arv Z h0 a1 k1 .char n (own_put vs p2.toNatClampNeg 0) (.int (0 : Int32)) := P1
  refine Wp.st (S' := s₁.setTop (mkF m 1 #[oR a1, oI p2] [(.ref a1)])) (fun tt_ kk_ => XS.aloadN X0.here hx rfl (hb hby d1_0) rfl rfl kk_) ?_
  refine Wp.st (S' := s₁.setTop (mkF m 2 #[oR a1, oI p2] [(.int p2), (.ref a1)])) (fun tt_ kk_ => XS.iloadN X0.here hx rfl (hb hby d1_1) rfl  kk_) ?_
  refine Wp.st (S' := s₁.setTop (mkF m 4 #[oR a1, oI p2] [(.int (39 : Int32)), (.int p2), (.ref a1)])) (fun tt_ kk_ => XS.bipush X0.here hx rfl (hb hby d1_2) kk_) ?_
  obtain ⟨cl1, Ar1, q1, S1, N1, H1, G1⟩ := id V0
  have hin1 := inb_of (j := p2) S1 (own_ibn (by omega))
  obtain ⟨T1, h1, X1, e1, W1, st1⟩ := stC X0 hx hZ e0 Ar1 (j := p2) hin1 (g := (mkF m 4 #[oR a1, oI p2] [(.int (39 : Int32)), (.int p2), (.ref a1)])) rfl rfl (hb hby d1_4)
  have z2 := Nat.le_of_eq W1.size.symm
  have V1 : Arv Z h1 a1 k1 .char n (own_put vs p2.toNatClampNeg 1) (.int (0 : Int32)) := own_asetC (k := 0) (k' := 1) rfl Ar1 q1 S1 N1 H1 G1 W1 (by decide +kernel) (by decide +kernel) rfl (by omega)
  have Nf1 := Fr.snoc X1 N0 g_a1
  refine Wp.st (S' := T1.setTop (mkF m 5 #[oR a1, oI p2] [])) st1 ?_
  refine Wp.st (S' := T1.setTop (mkF m 6 #[oR a1, oI p2] [(.ref a1)])) (fun tt_ kk_ => XS.aloadN X1.here hx rfl (hb hby d1_5) rfl rfl kk_) ?_
  refine Wp.st (S' := T1.setTop (mkF m 7 #[oR a1, oI p2] [(.int p2), (.ref a1)])) (fun tt_ kk_ => XS.iloadN X1.here hx rfl (hb hby d1_6) rfl  kk_) ?_
  refine Wp.st (S' := T1.setTop (mkF m 8 #[oR a1, oI p2] [(.int (1 : Int32)), (.int p2), (.ref a1)])) (fun tt_ kk_ => XS.iconst X1.here hx rfl (hb hby d1_7) kk_) ?_
  refine Wp.st (S' := T1.setTop (mkF m 9 #[oR a1, oI p2] [(.int (p2 + (1 : Int32))), (.ref a1)])) (fun tt_ kk_ => XS.iadd X1.here hx rfl (hb hby d1_8) rfl kk_) ?_
  refine Wp.st (S' := T1.setTop (mkF m 11 #[oR a1, oI p2] [(.int (58 : Int32)), (.int (p2 + (1 : Int32))), (.ref a1)])) (fun tt_ kk_ => XS.bipush X1.here hx rfl (hb hby d1_9) kk_) ?_
  have hj1 := own_pj ho (1 : Int32) (by decide)
  rw [show (1 : Int32).toInt = 1 by decide] at hj1
  obtain ⟨cl3, Ar3, q3, S3, N3, H3, G3⟩ := id V1
  have hin3 := inb_of (j := (p2 + (1 : Int32))) S3 (own_ibn (by omega))
  obtain ⟨T3, h3, X3, e3, W3, st3⟩ := stC X1 hx hZ e1 Ar3 (j := (p2 + (1 : Int32))) hin3 (g := (mkF m 11 #[oR a1, oI p2] [(.int (58 : Int32)), (.int (p2 + (1 : Int32))), (.ref a1)])) rfl rfl (hb hby d1_11)
  have z4 := Nat.le_of_eq W3.size.symm
  have V3 : Arv Z h3 a1 k1 .char n (own_put vs p2.toNatClampNeg 2) (.int (0 : Int32)) := own_asetC (k := 1) (k' := 2) rfl Ar3 q3 S3 N3 H3 G3 W3 (by decide +kernel) (by decide +kernel) (by rw [own_clamp, own_clamp]; omega) (by omega)
  have Nf3 := Fr.snoc X3 Nf1 g_a1
  refine Wp.st (S' := T3.setTop (mkF m 12 #[oR a1, oI p2] [])) st3 ?_
  clear hj1
  refine Wp.st (S' := T3.setTop (mkF m 13 #[oR a1, oI p2] [(.ref a1)])) (fun tt_ kk_ => XS.aloadN X3.here hx rfl (hb hby d1_12) rfl rfl kk_) ?_
  refine Wp.st (S' := T3.setTop (mkF m 14 #[oR a1, oI p2] [(.int p2), (.ref a1)])) (fun tt_ kk_ => XS.iloadN X3.here hx rfl (hb hby d1_13) rfl  kk_) ?_
  refine Wp.st (S' := T3.setTop (mkF m 15 #[oR a1, oI p2] [(.int (2 : Int32)), (.int p2), (.ref a1)])) (fun tt_ kk_ => XS.iconst X3.here hx rfl (hb hby d1_14) kk_) ?_
  refine Wp.st (S' := T3.setTop (mkF m 16 #[oR a1, oI p2] [(.int (p2 + (2 : Int32))), (.ref a1)])) (fun tt_ kk_ => XS.iadd X3.here hx rfl (hb hby d1_15) rfl kk_) ?_
  refine Wp.st (S' := T3.setTop (mkF m 18 #[oR a1, oI p2] [(.int (32 : Int32)), (.int (p2 + (2 : Int32))), (.ref a1)])) (fun tt_ kk_ => XS.bipush X3.here hx rfl (hb hby d1_16) kk_) ?_
  have hj2 := own_pj ho (2 : Int32) (by decide)
  rw [show (2 : Int32).toInt = 2 by decide] at hj2
  obtain ⟨cl5, Ar5, q5, S5, N5, H5, G5⟩ := id V3
  have hin5 := inb_of (j := (p2 + (2 : Int32))) S5 (own_ibn (by omega))
  obtain ⟨T5, h5, X5, e5, W5, st5⟩ := stC X3 hx hZ e3 Ar5 (j := (p2 + (2 : Int32))) hin5 (g := (mkF m 18 #[oR a1, oI p2] [(.int (32 : Int32)), (.int (p2 + (2 : Int32))), (.ref a1)])) rfl rfl (hb hby d1_18)
  have z6 := Nat.le_of_eq W5.size.symm
  have V5 : Arv Z h5 a1 k1 .char n (own_put vs p2.toNatClampNeg 3) (.int (0 : Int32)) := own_asetC (k := 2) (k' := 3) rfl Ar5 q5 S5 N5 H5 G5 W5 (by decide +kernel) (by decide +kernel) (by rw [own_clamp, own_clamp]; omega) (by omega)
  have Nf5 := Fr.snoc X5 Nf3 g_a1
  refine Wp.st (S' := T5.setTop (mkF m 19 #[oR a1, oI p2] [])) st5 ?_
  clear hj2
  refine Wp.st (S' := T5.setTop (mkF m 20 #[oR a1, oI p2] [(.ref a1)])) (fun tt_ kk_ => XS.aloadN X5.here hx rfl (hb hby d1_19) rfl rfl kk_) ?_
  refine Wp.st (S' := T5.setTop (mkF m 21 #[oR a1, oI p2] [(.int p2), (.ref a1)])) (fun tt_ kk_ => XS.iloadN X5.here hx rfl (hb hby d1_20) rfl  kk_) ?_
  refine Wp.st (S' := T5.setTop (mkF m 22 #[oR a1, oI p2] [(.int (3 : Int32)), (.int p2), (.ref a1)])) (fun tt_ kk_ => XS.iconst X5.here hx rfl (hb hby d1_21) kk_) ?_
  refine Wp.st (S' := T5.setTop (mkF m 23 #[oR a1, oI p2] [(.int (p2 + (3 : Int32))), (.ref a1)])) (fun tt_ kk_ => XS.iadd X5.here hx rfl (hb hby d1_22) rfl kk_) ?_
  refine Wp.st (S' := T5.setTop (mkF m 25 #[oR a1, oI p2] [(.int (105 : Int32)), (.int (p2 + (3 : Int32))), (.ref a1)])) (fun tt_ kk_ => XS.bipush X5.here hx rfl (hb hby d1_23) kk_) ?_
  have hj3 := own_pj ho (3 : Int32) (by decide)
  rw [show (3 : Int32).toInt = 3 by decide] at hj3
  obtain ⟨cl7, Ar7, q7, S7, N7, H7, G7⟩ := id V5
  have hin7 := inb_of (j := (p2 + (3 : Int32))) S7 (own_ibn (by omega))
  obtain ⟨T7, h7, X7, e7, W7, st7⟩ := stC X5 hx hZ e5 Ar7 (j := (p2 + (3 : Int32))) hin7 (g := (mkF m 25 #[oR a1, oI p2] [(.int (105 : Int32)), (.int (p2 + (3 : Int32))), (.ref a1)])) rfl rfl (hb hby d1_25)
  have z8 := Nat.le_of_eq W7.size.symm
  have V7 : Arv Z h7 a1 k1 .char n (own_put vs p2.toNatClampNeg 4) (.int (0 : Int32)) := own_asetC (k := 3) (k' := 4) rfl Ar7 q7 S7 N7 H7 G7 W7 (by decide +kernel) (by decide +kernel) (by rw [own_clamp, own_clamp]; omega) (by omega)
  have Nf7 := Fr.snoc X7 Nf5 g_a1
  refine Wp.st (S' := T7.setTop (mkF m 26 #[oR a1, oI p2] [])) st7 ?_
  clear hj3
  refine Wp.st (S' := T7.setTop (mkF m 27 #[oR a1, oI p2] [(.ref a1)])) (fun tt_ kk_ => XS.aloadN X7.here hx rfl (hb hby d1_26) rfl rfl kk_) ?_
  refine Wp.st (S' := T7.setTop (mkF m 28 #[oR a1, oI p2] [(.int p2), (.ref a1)])) (fun tt_ kk_ => XS.iloadN X7.here hx rfl (hb hby d1_27) rfl  kk_) ?_
  refine Wp.st (S' := T7.setTop (mkF m 29 #[oR a1, oI p2] [(.int (4 : Int32)), (.int p2), (.ref a1)])) (fun tt_ kk_ => XS.iconst X7.here hx rfl (hb hby d1_28) kk_) ?_
  refine Wp.st (S' := T7.setTop (mkF m 30 #[oR a1, oI p2] [(.int (p2 + (4 : Int32))), (.ref a1)])) (fun tt_ kk_ => XS.iadd X7.here hx rfl (hb hby d1_29) rfl kk_) ?_
  refine Wp.st (S' := T7.setTop (mkF m 32 #[oR a1, oI p2] [(.int (116 : Int32)), (.int (p2 + (4 : Int32))), (.ref a1)])) (fun tt_ kk_ => XS.bipush X7.here hx rfl (hb hby d1_30) kk_) ?_
  have hj4 := own_pj ho (4 : Int32) (by decide)
  rw [show (4 : Int32).toInt = 4 by decide] at hj4
  obtain ⟨cl9, Ar9, q9, S9, N9, H9, G9⟩ := id V7
  have hin9 := inb_of (j := (p2 + (4 : Int32))) S9 (own_ibn (by omega))
  obtain ⟨T9, h9, X9, e9, W9, st9⟩ := stC X7 hx hZ e7 Ar9 (j := (p2 + (4 : Int32))) hin9 (g := (mkF m 32 #[oR a1, oI p2] [(.int (116 : Int32)), (.int (p2 + (4 : Int32))), (.ref a1)])) rfl rfl (hb hby d1_32)
  have z10 := Nat.le_of_eq W9.size.symm
  have V9 : Arv Z h9 a1 k1 .char n (own_put vs p2.toNatClampNeg 5) (.int (0 : Int32)) := own_asetC (k := 4) (k' := 5) rfl Ar9 q9 S9 N9 H9 G9 W9 (by decide +kernel) (by decide +kernel) (by rw [own_clamp, own_clamp]; omega) (by omega)
  have Nf9 := Fr.snoc X9 Nf7 g_a1
  refine Wp.st (S' := T9.setTop (mkF m 33 #[oR a1, oI p2] [])) st9 ?_
  clear hj4
  refine Wp.st (S' := T9.setTop (mkF m 34 #[oR a1, oI p2] [(.ref a1)])) (fun tt_ kk_ => XS.aloadN X9.here hx rfl (hb hby d1_33) rfl rfl kk_) ?_
  refine Wp.st (S' := T9.setTop (mkF m 35 #[oR a1, oI p2] [(.int p2), (.ref a1)])) (fun tt_ kk_ => XS.iloadN X9.here hx rfl (hb hby d1_34) rfl  kk_) ?_
  refine Wp.st (S' := T9.setTop (mkF m 36 #[oR a1, oI p2] [(.int (5 : Int32)), (.int p2), (.ref a1)])) (fun tt_ kk_ => XS.iconst X9.here hx rfl (hb hby d1_35) kk_) ?_
  refine Wp.st (S' := T9.setTop (mkF m 37 #[oR a1, oI p2] [(.int (p2 + (5 : Int32))), (.ref a1)])) (fun tt_ kk_ => XS.iadd X9.here hx rfl (hb hby d1_36) rfl kk_) ?_
  refine Wp.st (S' := T9.setTop (mkF m 39 #[oR a1, oI p2] [(.int (115 : Int32)), (.int (p2 + (5 : Int32))), (.ref a1)])) (fun tt_ kk_ => XS.bipush X9.here hx rfl (hb hby d1_37) kk_) ?_
  have hj5 := own_pj ho (5 : Int32) (by decide)
  rw [show (5 : Int32).toInt = 5 by decide] at hj5
  obtain ⟨cl11, Ar11, q11, S11, N11, H11, G11⟩ := id V9
  have hin11 := inb_of (j := (p2 + (5 : Int32))) S11 (own_ibn (by omega))
  obtain ⟨T11, h11, X11, e11, W11, st11⟩ := stC X9 hx hZ e9 Ar11 (j := (p2 + (5 : Int32))) hin11 (g := (mkF m 39 #[oR a1, oI p2] [(.int (115 : Int32)), (.int (p2 + (5 : Int32))), (.ref a1)])) rfl rfl (hb hby d1_39)
  have z12 := Nat.le_of_eq W11.size.symm
  have V11 : Arv Z h11 a1 k1 .char n (own_put vs p2.toNatClampNeg 6) (.int (0 : Int32)) := own_asetC (k := 5) (k' := 6) rfl Ar11 q11 S11 N11 H11 G11 W11 (by decide +kernel) (by decide +kernel) (by rw [own_clamp, own_clamp]; omega) (by omega)
  have Nf11 := Fr.snoc X11 Nf9 g_a1
  refine Wp.st (S' := T11.setTop (mkF m 40 #[oR a1, oI p2] [])) st11 ?_
  clear hj5
  refine Wp.st (S' := T11.setTop (mkF m 41 #[oR a1, oI p2] [(.ref a1)])) (fun tt_ kk_ => XS.aloadN X11.here hx rfl (hb hby d1_40) rfl rfl kk_) ?_
  refine Wp.st (S' := T11.setTop (mkF m 42 #[oR a1, oI p2] [(.int p2), (.ref a1)])) (fun tt_ kk_ => XS.iloadN X11.here hx rfl (hb hby d1_41) rfl  kk_) ?_
  refine Wp.st (S' := T11.setTop (mkF m 44 #[oR a1, oI p2] [(.int (6 : Int32)), (.int p2), (.ref a1)])) (fun tt_ kk_ => XS.bipush X11.here hx rfl (hb hby d1_42) kk_) ?_
  refine Wp.st (S' := T11.setTop (mkF m 45 #[oR a1, oI p2] [(.int (p2 + (6 : Int32))), (.ref a1)])) (fun tt_ kk_ => XS.iadd X11.here hx rfl (hb hby d1_44) rfl kk_) ?_
  refine Wp.st (S' := T11.setTop (mkF m 47 #[oR a1, oI p2] [(.int (32 : Int32)), (.int (p2 + (6 : Int32))), (.ref a1)])) (fun tt_ kk_ => XS.bipush X11.here hx rfl (hb hby d1_45) kk_) ?_
  have hj6 := own_pj ho (6 : Int32) (by decide)
  rw [show (6 : Int32).toInt = 6 by decide] at hj6
  obtain ⟨cl13, Ar13, q13, S13, N13, H13, G13⟩ := id V11
  have hin13 := inb_of (j := (p2 + (6 : Int32))) S13 (own_ibn (by omega))
  obtain ⟨T13, h13, X13, e13, W13, st13⟩ := stC X11 hx hZ e11 Ar13 (j := (p2 + (6 : Int32))) hin13 (g := (mkF m 47 #[oR a1, oI p2] [(.int (32 : Int32)), (.int (p2 + (6 : Int32))), (.ref a1)])) rfl rfl (hb hby d1_47)
  have z14 := Nat.le_of_eq W13.size.symm
  have V13 : Arv Z h13 a1 k1 .char n (own_put vs p2.toNatClampNeg 7) (.int (0 : Int32)) := own_asetC (k := 6) (k' := 7) rfl Ar13 q13 S13 N13 H13 G13 W13 (by decide +kernel) (by decide +kernel) (by rw [own_clamp, own_clamp]; omega) (by omega)
  have Nf13 := Fr.snoc X13 Nf11 g_a1
  refine Wp.st (S' := T13.setTop (mkF m 48 #[oR a1, oI p2] [])) st13 ?_
  clear hj6
  refine Wp.st (S' := T13.setTop (mkF m 49 #[oR a1, oI p2] [(.ref a1)])) (fun tt_ kk_ => XS.aloadN X13.here hx rfl (hb hby d1_48) rfl rfl kk_) ?_
  refine Wp.st (S' := T13.setTop (mkF m 50 #[oR a1, oI p2] [(.int p2), (.ref a1)])) (fun tt_ kk_ => XS.iloadN X13.here hx rfl (hb hby d1_49) rfl  kk_) ?_
  refine Wp.st (S' := T13.setTop (mkF m 52 #[oR a1, oI p2] [(.int (7 : Int32)), (.int p2), (.ref a1)])) (fun tt_ kk_ => XS.bipush X13.here hx rfl (hb hby d1_50) kk_) ?_
  refine Wp.st (S' := T13.setTop (mkF m 53 #[oR a1, oI p2] [(.int (p2 + (7 : Int32))), (.ref a1)])) (fun tt_ kk_ => XS.iadd X13.here hx rfl (hb hby d1_52) rfl kk_) ?_
  refine Wp.st (S' := T13.setTop (mkF m 55 #[oR a1, oI p2] [(.int (77 : Int32)), (.int (p2 + (7 : Int32))), (.ref a1)])) (fun tt_ kk_ => XS.bipush X13.here hx rfl (hb hby d1_53) kk_) ?_
  have hj7 := own_pj ho (7 : Int32) (by decide)
  rw [show (7 : Int32).toInt = 7 by decide] at hj7
  obtain ⟨cl15, Ar15, q15, S15, N15, H15, G15⟩ := id V13
  have hin15 := inb_of (j := (p2 + (7 : Int32))) S15 (own_ibn (by omega))
  obtain ⟨T15, h15, X15, e15, W15, st15⟩ := stC X13 hx hZ e13 Ar15 (j := (p2 + (7 : Int32))) hin15 (g := (mkF m 55 #[oR a1, oI p2] [(.int (77 : Int32)), (.int (p2 + (7 : Int32))), (.ref a1)])) rfl rfl (hb hby d1_55)
  have z16 := Nat.le_of_eq W15.size.symm
  have V15 : Arv Z h15 a1 k1 .char n (own_put vs p2.toNatClampNeg 8) (.int (0 : Int32)) := own_asetC (k := 7) (k' := 8) rfl Ar15 q15 S15 N15 H15 G15 W15 (by decide +kernel) (by decide +kernel) (by rw [own_clamp, own_clamp]; omega) (by omega)
  have Nf15 := Fr.snoc X15 Nf13 g_a1
  refine Wp.st (S' := T15.setTop (mkF m 56 #[oR a1, oI p2] [])) st15 ?_
  clear hj7
  refine Wp.st (S' := T15.setTop (mkF m 57 #[oR a1, oI p2] [(.ref a1)])) (fun tt_ kk_ => XS.aloadN X15.here hx rfl (hb hby d1_56) rfl rfl kk_) ?_
  refine Wp.st (S' := T15.setTop (mkF m 58 #[oR a1, oI p2] [(.int p2), (.ref a1)])) (fun tt_ kk_ => XS.iloadN X15.here hx rfl (hb hby d1_57) rfl  kk_) ?_
  refine Wp.st (S' := T15.setTop (mkF m 60 #[oR a1, oI p2] [(.int (8 : Int32)), (.int p2), (.ref a1)])) (fun tt_ kk_ => XS.bipush X15.here hx rfl (hb hby d1_58) kk_) ?_
  refine Wp.st (S' := T15.setTop (mkF m 61 #[oR a1, oI p2] [(.int (p2 + (8 : Int32))), (.ref a1)])) (fun tt_ kk_ => XS.iadd X15.here hx rfl (hb hby d1_60) rfl kk_) ?_
  refine Wp.st (S' := T15.setTop (mkF m 63 #[oR a1, oI p2] [(.int (111 : Int32)), (.int (p2 + (8 : Int32))), (.ref a1)])) (fun tt_ kk_ => XS.bipush X15.here hx rfl (hb hby d1_61) kk_) ?_
  have hj8 := own_pj ho (8 : Int32) (by decide)
  rw [show (8 : Int32).toInt = 8 by decide] at hj8
  obtain ⟨cl17, Ar17, q17, S17, N17, H17, G17⟩ := id V15
  have hin17 := inb_of (j := (p2 + (8 : Int32))) S17 (own_ibn (by omega))
  obtain ⟨T17, h17, X17, e17, W17, st17⟩ := stC X15 hx hZ e15 Ar17 (j := (p2 + (8 : Int32))) hin17 (g := (mkF m 63 #[oR a1, oI p2] [(.int (111 : Int32)), (.int (p2 + (8 : Int32))), (.ref a1)])) rfl rfl (hb hby d1_63)
  have z18 := Nat.le_of_eq W17.size.symm
  have V17 : Arv Z h17 a1 k1 .char n (own_put vs p2.toNatClampNeg 9) (.int (0 : Int32)) := own_asetC (k := 8) (k' := 9) rfl Ar17 q17 S17 N17 H17 G17 W17 (by decide +kernel) (by decide +kernel) (by rw [own_clamp, own_clamp]; omega) (by omega)
  have Nf17 := Fr.snoc X17 Nf15 g_a1
  refine Wp.st (S' := T17.setTop (mkF m 64 #[oR a1, oI p2] [])) st17 ?_
  clear hj8
  refine Wp.st (S' := T17.setTop (mkF m 65 #[oR a1, oI p2] [(.ref a1)])) (fun tt_ kk_ => XS.aloadN X17.here hx rfl (hb hby d1_64) rfl rfl kk_) ?_
  refine Wp.st (S' := T17.setTop (mkF m 66 #[oR a1, oI p2] [(.int p2), (.ref a1)])) (fun tt_ kk_ => XS.iloadN X17.here hx rfl (hb hby d1_65) rfl  kk_) ?_
  refine Wp.st (S' := T17.setTop (mkF m 68 #[oR a1, oI p2] [(.int (9 : Int32)), (.int p2), (.ref a1)])) (fun tt_ kk_ => XS.bipush X17.here hx rfl (hb hby d1_66) kk_) ?_
  refine Wp.st (S' := T17.setTop (mkF m 69 #[oR a1, oI p2] [(.int (p2 + (9 : Int32))), (.ref a1)])) (fun tt_ kk_ => XS.iadd X17.here hx rfl (hb hby d1_68) rfl kk_) ?_
  refine Wp.st (S' := T17.setTop (mkF m 71 #[oR a1, oI p2] [(.int (114 : Int32)), (.int (p2 + (9 : Int32))), (.ref a1)])) (fun tt_ kk_ => XS.bipush X17.here hx rfl (hb hby d1_69) kk_) ?_
  have hj9 := own_pj ho (9 : Int32) (by decide)
  rw [show (9 : Int32).toInt = 9 by decide] at hj9
  obtain ⟨cl19, Ar19, q19, S19, N19, H19, G19⟩ := id V17
  have hin19 := inb_of (j := (p2 + (9 : Int32))) S19 (own_ibn (by omega))
  obtain ⟨T19, h19, X19, e19, W19, st19⟩ := stC X17 hx hZ e17 Ar19 (j := (p2 + (9 : Int32))) hin19 (g := (mkF m 71 #[oR a1, oI p2] [(.int (114 : Int32)), (.int (p2 + (9 : Int32))), (.ref a1)])) rfl rfl (hb hby d1_71)
  have z20 := Nat.le_of_eq W19.size.symm
  have V19 : Arv Z h19 a1 k1 .char n (own_put vs p2.toNatClampNeg 10) (.int (0 : Int32)) := own_asetC (k := 9) (k' := 10) rfl Ar19 q19 S19 N19 H19 G19 W19 (by decide +kernel) (by decide +kernel) (by rw [own_clamp, own_clamp]; omega) (by omega)
  have Nf19 := Fr.snoc X19 Nf17 g_a1
  refine Wp.st (S' := T19.setTop (mkF m 72 #[oR a1, oI p2] [])) st19 ?_
  clear hj9
  refine Wp.st (S' := T19.setTop (mkF m 73 #[oR a1, oI p2] [(.ref a1)])) (fun tt_ kk_ => XS.aloadN X19.here hx rfl (hb hby d1_72) rfl rfl kk_) ?_
  refine Wp.st (S' := T19.setTop (mkF m 74 #[oR a1, oI p2] [(.int p2), (.ref a1)])) (fun tt_ kk_ => XS.iloadN X19.here hx rfl (hb hby d1_73) rfl  kk_) ?_
  refine Wp.st (S' := T19.setTop (mkF m 76 #[oR a1, oI p2] [(.int (10 : Int32)), (.int p2), (.ref a1)])) (fun tt_ kk_ => XS.bipush X19.here hx rfl (hb hby d1_74) kk_) ?_
  refine Wp.st (S' := T19.setTop (mkF m 77 #[oR a1, oI p2] [(.int (p2 + (10 : Int32))), (.ref a1)])) (fun tt_ kk_ => XS.iadd X19.here hx rfl (hb hby d1_76) rfl kk_) ?_
  refine Wp.st (S' := T19.setTop (mkF m 79 #[oR a1, oI p2] [(.int (116 : Int32)), (.int (p2 + (10 : Int32))), (.ref a1)])) (fun tt_ kk_ => XS.bipush X19.here hx rfl (hb hby d1_77) kk_) ?_
  have hj10 := own_pj ho (10 : Int32) (by decide)
  rw [show (10 : Int32).toInt = 10 by decide] at hj10
  obtain ⟨cl21, Ar21, q21, S21, N21, H21, G21⟩ := id V19
  have hin21 := inb_of (j := (p2 + (10 : Int32))) S21 (own_ibn (by omega))
  obtain ⟨T21, h21, X21, e21, W21, st21⟩ := stC X19 hx hZ e19 Ar21 (j := (p2 + (10 : Int32))) hin21 (g := (mkF m 79 #[oR a1, oI p2] [(.int (116 : Int32)), (.int (p2 + (10 : Int32))), (.ref a1)])) rfl rfl (hb hby d1_79)
  have z22 := Nat.le_of_eq W21.size.symm
  have V21 : Arv Z h21 a1 k1 .char n (own_put vs p2.toNatClampNeg 11) (.int (0 : Int32)) := own_asetC (k := 10) (k' := 11) rfl Ar21 q21 S21 N21 H21 G21 W21 (by decide +kernel) (by decide +kernel) (by rw [own_clamp, own_clamp]; omega) (by omega)
  have Nf21 := Fr.snoc X21 Nf19 g_a1
  refine Wp.st (S' := T21.setTop (mkF m 80 #[oR a1, oI p2] [])) st21 ?_
  clear hj10
  refine Wp.st (S' := T21.setTop (mkF m 81 #[oR a1, oI p2] [(.ref a1)])) (fun tt_ kk_ => XS.aloadN X21.here hx rfl (hb hby d1_80) rfl rfl kk_) ?_
  refine Wp.st (S' := T21.setTop (mkF m 82 #[oR a1, oI p2] [(.int p2), (.ref a1)])) (fun tt_ kk_ => XS.iloadN X21.here hx rfl (hb hby d1_81) rfl  kk_) ?_
  refine Wp.st (S' := T21.setTop (mkF m 84 #[oR a1, oI p2] [(.int (11 : Int32)), (.int p2), (.ref a1)])) (fun tt_ kk_ => XS.bipush X21.here hx rfl (hb hby d1_82) kk_) ?_
  refine Wp.st (S' := T21.setTop (mkF m 85 #[oR a1, oI p2] [(.int (p2 + (11 : Int32))), (.ref a1)])) (fun tt_ kk_ => XS.iadd X21.here hx rfl (hb hby d1_84) rfl kk_) ?_
  refine Wp.st (S' := T21.setTop (mkF m 87 #[oR a1, oI p2] [(.int (105 : Int32)), (.int (p2 + (11 : Int32))), (.ref a1)])) (fun tt_ kk_ => XS.bipush X21.here hx rfl (hb hby d1_85) kk_) ?_
  have hj11 := own_pj ho (11 : Int32) (by decide)
  rw [show (11 : Int32).toInt = 11 by decide] at hj11
  obtain ⟨cl23, Ar23, q23, S23, N23, H23, G23⟩ := id V21
  have hin23 := inb_of (j := (p2 + (11 : Int32))) S23 (own_ibn (by omega))
  obtain ⟨T23, h23, X23, e23, W23, st23⟩ := stC X21 hx hZ e21 Ar23 (j := (p2 + (11 : Int32))) hin23 (g := (mkF m 87 #[oR a1, oI p2] [(.int (105 : Int32)), (.int (p2 + (11 : Int32))), (.ref a1)])) rfl rfl (hb hby d1_87)
  have z24 := Nat.le_of_eq W23.size.symm
  have V23 : Arv Z h23 a1 k1 .char n (own_put vs p2.toNatClampNeg 12) (.int (0 : Int32)) := own_asetC (k := 11) (k' := 12) rfl Ar23 q23 S23 N23 H23 G23 W23 (by decide +kernel) (by decide +kernel) (by rw [own_clamp, own_clamp]; omega) (by omega)
  have Nf23 := Fr.snoc X23 Nf21 g_a1
  refine Wp.st (S' := T23.setTop (mkF m 88 #[oR a1, oI p2] [])) st23 ?_
  clear hj11
  refine Wp.st (S' := T23.setTop (mkF m 89 #[oR a1, oI p2] [(.ref a1)])) (fun tt_ kk_ => XS.aloadN X23.here hx rfl (hb hby d1_88) rfl rfl kk_) ?_
  refine Wp.st (S' := T23.setTop (mkF m 90 #[oR a1, oI p2] [(.int p2), (.ref a1)])) (fun tt_ kk_ => XS.iloadN X23.here hx rfl (hb hby d1_89) rfl  kk_) ?_
  refine Wp.st (S' := T23.setTop (mkF m 92 #[oR a1, oI p2] [(.int (12 : Int32)), (.int p2), (.ref a1)])) (fun tt_ kk_ => XS.bipush X23.here hx rfl (hb hby d1_90) kk_) ?_
  refine Wp.st (S' := T23.setTop (mkF m 93 #[oR a1, oI p2] [(.int (p2 + (12 : Int32))), (.ref a1)])) (fun tt_ kk_ => XS.iadd X23.here hx rfl (hb hby d1_92) rfl kk_) ?_
  refine Wp.st (S' := T23.setTop (mkF m 95 #[oR a1, oI p2] [(.int (115 : Int32)), (.int (p2 + (12 : Int32))), (.ref a1)])) (fun tt_ kk_ => XS.bipush X23.here hx rfl (hb hby d1_93) kk_) ?_
  have hj12 := own_pj ho (12 : Int32) (by decide)
  rw [show (12 : Int32).toInt = 12 by decide] at hj12
  obtain ⟨cl25, Ar25, q25, S25, N25, H25, G25⟩ := id V23
  have hin25 := inb_of (j := (p2 + (12 : Int32))) S25 (own_ibn (by omega))
  obtain ⟨T25, h25, X25, e25, W25, st25⟩ := stC X23 hx hZ e23 Ar25 (j := (p2 + (12 : Int32))) hin25 (g := (mkF m 95 #[oR a1, oI p2] [(.int (115 : Int32)), (.int (p2 + (12 : Int32))), (.ref a1)])) rfl rfl (hb hby d1_95)
  have z26 := Nat.le_of_eq W25.size.symm
  have V25 : Arv Z h25 a1 k1 .char n (own_put vs p2.toNatClampNeg 13) (.int (0 : Int32)) := own_asetC (k := 12) (k' := 13) rfl Ar25 q25 S25 N25 H25 G25 W25 (by decide +kernel) (by decide +kernel) (by rw [own_clamp, own_clamp]; omega) (by omega)
  have Nf25 := Fr.snoc X25 Nf23 g_a1
  refine Wp.st (S' := T25.setTop (mkF m 96 #[oR a1, oI p2] [])) st25 ?_
  clear hj12
  refine Wp.st (S' := T25.setTop (mkF m 97 #[oR a1, oI p2] [(.ref a1)])) (fun tt_ kk_ => XS.aloadN X25.here hx rfl (hb hby d1_96) rfl rfl kk_) ?_
  refine Wp.st (S' := T25.setTop (mkF m 98 #[oR a1, oI p2] [(.int p2), (.ref a1)])) (fun tt_ kk_ => XS.iloadN X25.here hx rfl (hb hby d1_97) rfl  kk_) ?_
  refine Wp.st (S' := T25.setTop (mkF m 100 #[oR a1, oI p2] [(.int (13 : Int32)), (.int p2), (.ref a1)])) (fun tt_ kk_ => XS.bipush X25.here hx rfl (hb hby d1_98) kk_) ?_
  refine Wp.st (S' := T25.setTop (mkF m 101 #[oR a1, oI p2] [(.int (p2 + (13 : Int32))), (.ref a1)])) (fun tt_ kk_ => XS.iadd X25.here hx rfl (hb hby d1_100) rfl kk_) ?_
  refine Wp.st (S' := T25.setTop (mkF m 103 #[oR a1, oI p2] [(.int (101 : Int32)), (.int (p2 + (13 : Int32))), (.ref a1)])) (fun tt_ kk_ => XS.bipush X25.here hx rfl (hb hby d1_101) kk_) ?_
  have hj13 := own_pj ho (13 : Int32) (by decide)
  rw [show (13 : Int32).toInt = 13 by decide] at hj13
  obtain ⟨cl27, Ar27, q27, S27, N27, H27, G27⟩ := id V25
  have hin27 := inb_of (j := (p2 + (13 : Int32))) S27 (own_ibn (by omega))
  obtain ⟨T27, h27, X27, e27, W27, st27⟩ := stC X25 hx hZ e25 Ar27 (j := (p2 + (13 : Int32))) hin27 (g := (mkF m 103 #[oR a1, oI p2] [(.int (101 : Int32)), (.int (p2 + (13 : Int32))), (.ref a1)])) rfl rfl (hb hby d1_103)
  have z28 := Nat.le_of_eq W27.size.symm
  have V27 : Arv Z h27 a1 k1 .char n (own_put vs p2.toNatClampNeg 14) (.int (0 : Int32)) := own_asetC (k := 13) (k' := 14) rfl Ar27 q27 S27 N27 H27 G27 W27 (by decide +kernel) (by decide +kernel) (by rw [own_clamp, own_clamp]; omega) (by omega)
  have Nf27 := Fr.snoc X27 Nf25 g_a1
  refine Wp.st (S' := T27.setTop (mkF m 104 #[oR a1, oI p2] [])) st27 ?_
  clear hj13
  refine Wp.st (S' := T27.setTop (mkF m 105 #[oR a1, oI p2] [(.ref a1)])) (fun tt_ kk_ => XS.aloadN X27.here hx rfl (hb hby d1_104) rfl rfl kk_) ?_
  refine Wp.st (S' := T27.setTop (mkF m 106 #[oR a1, oI p2] [(.int p2), (.ref a1)])) (fun tt_ kk_ => XS.iloadN X27.here hx rfl (hb hby d1_105) rfl  kk_) ?_
  refine Wp.st (S' := T27.setTop (mkF m 108 #[oR a1, oI p2] [(.int (14 : Int32)), (.int p2), (.ref a1)])) (fun tt_ kk_ => XS.bipush X27.here hx rfl (hb hby d1_106) kk_) ?_
  refine Wp.st (S' := T27.setTop (mkF m 109 #[oR a1, oI p2] [(.int (p2 + (14 : Int32))), (.ref a1)])) (fun tt_ kk_ => XS.iadd X27.here hx rfl (hb hby d1_108) rfl kk_) ?_
  refine Wp.st (S' := T27.setTop (mkF m 111 #[oR a1, oI p2] [(.int (76 : Int32)), (.int (p2 + (14 : Int32))), (.ref a1)])) (fun tt_ kk_ => XS.bipush X27.here hx rfl (hb hby d1_109) kk_) ?_
  have hj14 := own_pj ho (14 : Int32) (by decide)
  rw [show (14 : Int32).toInt = 14 by decide] at hj14
  obtain ⟨cl29, Ar29, q29, S29, N29, H29, G29⟩ := id V27
  have hin29 := inb_of (j := (p2 + (14 : Int32))) S29 (own_ibn (by omega))
  obtain ⟨T29, h29, X29, e29, W29, st29⟩ := stC X27 hx hZ e27 Ar29 (j := (p2 + (14 : Int32))) hin29 (g := (mkF m 111 #[oR a1, oI p2] [(.int (76 : Int32)), (.int (p2 + (14 : Int32))), (.ref a1)])) rfl rfl (hb hby d1_111)
  have z30 := Nat.le_of_eq W29.size.symm
  have V29 : Arv Z h29 a1 k1 .char n (own_put vs p2.toNatClampNeg 15) (.int (0 : Int32)) := own_asetC (k := 14) (k' := 15) rfl Ar29 q29 S29 N29 H29 G29 W29 (by decide +kernel) (by decide +kernel) (by rw [own_clamp, own_clamp]; omega) (by omega)
  have Nf29 := Fr.snoc X29 Nf27 g_a1
  refine Wp.st (S' := T29.setTop (mkF m 112 #[oR a1, oI p2] [])) st29 ?_
  clear hj14
  refine Wp.st (S' := T29.setTop (mkF m 113 #[oR a1, oI p2] [(.ref a1)])) (fun tt_ kk_ => XS.aloadN X29.here hx rfl (hb hby d1_112) rfl rfl kk_) ?_
  refine Wp.st (S' := T29.setTop (mkF m 114 #[oR a1, oI p2] [(.int p2), (.ref a1)])) (fun tt_ kk_ => XS.iloadN X29.here hx rfl (hb hby d1_113) rfl  kk_) ?_
  refine Wp.st (S' := T29.setTop (mkF m 116 #[oR a1, oI p2] [(.int (15 : Int32)), (.int p2), (.ref a1)])) (fun tt_ kk_ => XS.bipush X29.here hx rfl (hb hby d1_114) kk_) ?_
  refine Wp.st (S' := T29.setTop (mkF m 117 #[oR a1, oI p2] [(.int (p2 + (15 : Int32))), (.ref a1)])) (fun tt_ kk_ => XS.iadd X29.here hx rfl (hb hby d1_116) rfl kk_) ?_
  refine Wp.st (S' := T29.setTop (mkF m 119 #[oR a1, oI p2] [(.int (111 : Int32)), (.int (p2 + (15 : Int32))), (.ref a1)])) (fun tt_ kk_ => XS.bipush X29.here hx rfl (hb hby d1_117) kk_) ?_
  have hj15 := own_pj ho (15 : Int32) (by decide)
  rw [show (15 : Int32).toInt = 15 by decide] at hj15
  obtain ⟨cl31, Ar31, q31, S31, N31, H31, G31⟩ := id V29
  have hin31 := inb_of (j := (p2 + (15 : Int32))) S31 (own_ibn (by omega))
  obtain ⟨T31, h31, X31, e31, W31, st31⟩ := stC X29 hx hZ e29 Ar31 (j := (p2 + (15 : Int32))) hin31 (g := (mkF m 119 #[oR a1, oI p2] [(.int (111 : Int32)), (.int (p2 + (15 : Int32))), (.ref a1)])) rfl rfl (hb hby d1_119)
  have z32 := Nat.le_of_eq W31.size.symm
  have V31 : Arv Z h31 a1 k1 .char n (own_put vs p2.toNatClampNeg 16) (.int (0 : Int32)) := own_asetC (k := 15) (k' := 16) rfl Ar31 q31 S31 N31 H31 G31 W31 (by decide +kernel) (by decide +kernel) (by rw [own_clamp, own_clamp]; omega) (by omega)
  have Nf31 := Fr.snoc X31 Nf29 g_a1
  refine Wp.st (S' := T31.setTop (mkF m 120 #[oR a1, oI p2] [])) st31 ?_
  clear hj15
  refine Wp.st (S' := T31.setTop (mkF m 121 #[oR a1, oI p2] [(.ref a1)])) (fun tt_ kk_ => XS.aloadN X31.here hx rfl (hb hby d1_120) rfl rfl kk_) ?_
  refine Wp.st (S' := T31.setTop (mkF m 122 #[oR a1, oI p2] [(.int p2), (.ref a1)])) (fun tt_ kk_ => XS.iloadN X31.here hx rfl (hb hby d1_121) rfl  kk_) ?_
  refine Wp.st (S' := T31.setTop (mkF m 124 #[oR a1, oI p2] [(.int (16 : Int32)), (.int p2), (.ref a1)])) (fun tt_ kk_ => XS.bipush X31.here hx rfl (hb hby d1_122) kk_) ?_
  refine Wp.st (S' := T31.setTop (mkF m 125 #[oR a1, oI p2] [(.int (p2 + (16 : Int32))), (.ref a1)])) (fun tt_ kk_ => XS.iadd X31.here hx rfl (hb hby d1_124) rfl kk_) ?_
  refine Wp.st (S' := T31.setTop (mkF m 127 #[oR a1, oI p2] [(.int (99 : Int32)), (.int (p2 + (16 : Int32))), (.ref a1)])) (fun tt_ kk_ => XS.bipush X31.here hx rfl (hb hby d1_125) kk_) ?_
  have hj16 := own_pj ho (16 : Int32) (by decide)
  rw [show (16 : Int32).toInt = 16 by decide] at hj16
  obtain ⟨cl33, Ar33, q33, S33, N33, H33, G33⟩ := id V31
  have hin33 := inb_of (j := (p2 + (16 : Int32))) S33 (own_ibn (by omega))
  obtain ⟨T33, h33, X33, e33, W33, st33⟩ := stC X31 hx hZ e31 Ar33 (j := (p2 + (16 : Int32))) hin33 (g := (mkF m 127 #[oR a1, oI p2] [(.int (99 : Int32)), (.int (p2 + (16 : Int32))), (.ref a1)])) rfl rfl (hb hby d1_127)
  have z34 := Nat.le_of_eq W33.size.symm
  have V33 : Arv Z h33 a1 k1 .char n (own_put vs p2.toNatClampNeg 17) (.int (0 : Int32)) := own_asetC (k := 16) (k' := 17) rfl Ar33 q33 S33 N33 H33 G33 W33 (by decide +kernel) (by decide +kernel) (by rw [own_clamp, own_clamp]; omega) (by omega)
  have Nf33 := Fr.snoc X33 Nf31 g_a1
  refine Wp.st (S' := T33.setTop (mkF m 128 #[oR a1, oI p2] [])) st33 ?_
  clear hj16
  refine Wp.st (S' := T33.setTop (mkF m 129 #[oR a1, oI p2] [(.ref a1)])) (fun tt_ kk_ => XS.aloadN X33.here hx rfl (hb hby d1_128) rfl rfl kk_) ?_
  refine Wp.st (S' := T33.setTop (mkF m 130 #[oR a1, oI p2] [(.int p2), (.ref a1)])) (fun tt_ kk_ => XS.iloadN X33.here hx rfl (hb hby d1_129) rfl  kk_) ?_
  refine Wp.st (S' := T33.setTop (mkF m 132 #[oR a1, oI p2] [(.int (17 : Int32)), (.int p2), (.ref a1)])) (fun tt_ kk_ => XS.bipush X33.here hx rfl (hb hby d1_130) kk_) ?_
  refine Wp.st (S' := T33.setTop (mkF m 133 #[oR a1, oI p2] [(.int (p2 + (17 : Int32))), (.ref a1)])) (fun tt_ kk_ => XS.iadd X33.here hx rfl (hb hby d1_132) rfl kk_) ?_
  refine Wp.st (S' := T33.setTop (mkF m 135 #[oR a1, oI p2] [(.int (107 : Int32)), (.int (p2 + (17 : Int32))), (.ref a1)])) (fun tt_ kk_ => XS.bipush X33.here hx rfl (hb hby d1_133) kk_) ?_
  have hj17 := own_pj ho (17 : Int32) (by decide)
  rw [show (17 : Int32).toInt = 17 by decide] at hj17
  obtain ⟨cl35, Ar35, q35, S35, N35, H35, G35⟩ := id V33
  have hin35 := inb_of (j := (p2 + (17 : Int32))) S35 (own_ibn (by omega))
  obtain ⟨T35, h35, X35, e35, W35, st35⟩ := stC X33 hx hZ e33 Ar35 (j := (p2 + (17 : Int32))) hin35 (g := (mkF m 135 #[oR a1, oI p2] [(.int (107 : Int32)), (.int (p2 + (17 : Int32))), (.ref a1)])) rfl rfl (hb hby d1_135)
  have z36 := Nat.le_of_eq W35.size.symm
  have V35 : Arv Z h35 a1 k1 .char n (own_put vs p2.toNatClampNeg 18) (.int (0 : Int32)) := own_asetC (k := 17) (k' := 18) rfl Ar35 q35 S35 N35 H35 G35 W35 (by decide +kernel) (by decide +kernel) (by rw [own_clamp, own_clamp]; omega) (by omega)
  have Nf35 := Fr.snoc X35 Nf33 g_a1
  refine Wp.st (S' := T35.setTop (mkF m 136 #[oR a1, oI p2] [])) st35 ?_
  clear hj17
  refine Wp.st (S' := T35.setTop (mkF m 137 #[oR a1, oI p2] [(.ref a1)])) (fun tt_ kk_ => XS.aloadN X35.here hx rfl (hb hby d1_136) rfl rfl kk_) ?_
  refine Wp.st (S' := T35.setTop (mkF m 138 #[oR a1, oI p2] [(.int p2), (.ref a1)])) (fun tt_ kk_ => XS.iloadN X35.here hx rfl (hb hby d1_137) rfl  kk_) ?_
  refine Wp.st (S' := T35.setTop (mkF m 140 #[oR a1, oI p2] [(.int (18 : Int32)), (.int p2), (.ref a1)])) (fun tt_ kk_ => XS.bipush X35.here hx rfl (hb hby d1_138) kk_) ?_
  refine Wp.st (S' := T35.setTop (mkF m 141 #[oR a1, oI p2] [(.int (p2 + (18 : Int32))), (.ref a1)])) (fun tt_ kk_ => XS.iadd X35.here hx rfl (hb hby d1_140) rfl kk_) ?_
  refine Wp.st (S' := T35.setTop (mkF m 143 #[oR a1, oI p2] [(.int (32 : Int32)), (.int (p2 + (18 : Int32))), (.ref a1)])) (fun tt_ kk_ => XS.bipush X35.here hx rfl (hb hby d1_141) kk_) ?_
  have hj18 := own_pj ho (18 : Int32) (by decide)
  rw [show (18 : Int32).toInt = 18 by decide] at hj18
  obtain ⟨cl37, Ar37, q37, S37, N37, H37, G37⟩ := id V35
  have hin37 := inb_of (j := (p2 + (18 : Int32))) S37 (own_ibn (by omega))
  obtain ⟨T37, h37, X37, e37, W37, st37⟩ := stC X35 hx hZ e35 Ar37 (j := (p2 + (18 : Int32))) hin37 (g := (mkF m 143 #[oR a1, oI p2] [(.int (32 : Int32)), (.int (p2 + (18 : Int32))), (.ref a1)])) rfl rfl (hb hby d1_143)
  have z38 := Nat.le_of_eq W37.size.symm
  have V37 : Arv Z h37 a1 k1 .char n (own_put vs p2.toNatClampNeg 19) (.int (0 : Int32)) := own_asetC (k := 18) (k' := 19) rfl Ar37 q37 S37 N37 H37 G37 W37 (by decide +kernel) (by decide +kernel) (by rw [own_clamp, own_clamp]; omega) (by omega)
  have Nf37 := Fr.snoc X37 Nf35 g_a1
  refine Wp.st (S' := T37.setTop (mkF m 144 #[oR a1, oI p2] [])) st37 ?_
  clear hj18
  refine Wp.st (S' := T37.setTop (mkF m 145 #[oR a1, oI p2] [(.ref a1)])) (fun tt_ kk_ => XS.aloadN X37.here hx rfl (hb hby d1_144) rfl rfl kk_) ?_
  refine Wp.st (S' := T37.setTop (mkF m 146 #[oR a1, oI p2] [(.int p2), (.ref a1)])) (fun tt_ kk_ => XS.iloadN X37.here hx rfl (hb hby d1_145) rfl  kk_) ?_
  refine Wp.st (S' := T37.setTop (mkF m 148 #[oR a1, oI p2] [(.int (19 : Int32)), (.int p2), (.ref a1)])) (fun tt_ kk_ => XS.bipush X37.here hx rfl (hb hby d1_146) kk_) ?_
  refine Wp.st (S' := T37.setTop (mkF m 149 #[oR a1, oI p2] [(.int (p2 + (19 : Int32))), (.ref a1)])) (fun tt_ kk_ => XS.iadd X37.here hx rfl (hb hby d1_148) rfl kk_) ?_
  refine Wp.st (S' := T37.setTop (mkF m 151 #[oR a1, oI p2] [(.int (105 : Int32)), (.int (p2 + (19 : Int32))), (.ref a1)])) (fun tt_ kk_ => XS.bipush X37.here hx rfl (hb hby d1_149) kk_) ?_
  have hj19 := own_pj ho (19 : Int32) (by decide)
  rw [show (19 : Int32).toInt = 19 by decide] at hj19
  obtain ⟨cl39, Ar39, q39, S39, N39, H39, G39⟩ := id V37
  have hin39 := inb_of (j := (p2 + (19 : Int32))) S39 (own_ibn (by omega))
  obtain ⟨T39, h39, X39, e39, W39, st39⟩ := stC X37 hx hZ e37 Ar39 (j := (p2 + (19 : Int32))) hin39 (g := (mkF m 151 #[oR a1, oI p2] [(.int (105 : Int32)), (.int (p2 + (19 : Int32))), (.ref a1)])) rfl rfl (hb hby d1_151)
  have z40 := Nat.le_of_eq W39.size.symm
  have V39 : Arv Z h39 a1 k1 .char n (own_put vs p2.toNatClampNeg 20) (.int (0 : Int32)) := own_asetC (k := 19) (k' := 20) rfl Ar39 q39 S39 N39 H39 G39 W39 (by decide +kernel) (by decide +kernel) (by rw [own_clamp, own_clamp]; omega) (by omega)
  have Nf39 := Fr.snoc X39 Nf37 g_a1
  refine Wp.st (S' := T39.setTop (mkF m 152 #[oR a1, oI p2] [])) st39 ?_
  clear hj19
  refine Wp.st (S' := T39.setTop (mkF m 153 #[oR a1, oI p2] [(.ref a1)])) (fun tt_ kk_ => XS.aloadN X39.here hx rfl (hb hby d1_152) rfl rfl kk_) ?_
  refine Wp.st (S' := T39.setTop (mkF m 154 #[oR a1, oI p2] [(.int p2), (.ref a1)])) (fun tt_ kk_ => XS.iloadN X39.here hx rfl (hb hby d1_153) rfl  kk_) ?_
  refine Wp.st (S' := T39.setTop (mkF m 156 #[oR a1, oI p2] [(.int (20 : Int32)), (.int p2), (.ref a1)])) (fun tt_ kk_ => XS.bipush X39.here hx rfl (hb hby d1_154) kk_) ?_
  refine Wp.st (S' := T39.setTop (mkF m 157 #[oR a1, oI p2] [(.int (p2 + (20 : Int32))), (.ref a1)])) (fun tt_ kk_ => XS.iadd X39.here hx rfl (hb hby d1_156) rfl kk_) ?_
  refine Wp.st (S' := T39.setTop (mkF m 159 #[oR a1, oI p2] [(.int (115 : Int32)), (.int (p2 + (20 : Int32))), (.ref a1)])) (fun tt_ kk_ => XS.bipush X39.here hx rfl (hb hby d1_157) kk_) ?_
  have hj20 := own_pj ho (20 : Int32) (by decide)
  rw [show (20 : Int32).toInt = 20 by decide] at hj20
  obtain ⟨cl41, Ar41, q41, S41, N41, H41, G41⟩ := id V39
  have hin41 := inb_of (j := (p2 + (20 : Int32))) S41 (own_ibn (by omega))
  obtain ⟨T41, h41, X41, e41, W41, st41⟩ := stC X39 hx hZ e39 Ar41 (j := (p2 + (20 : Int32))) hin41 (g := (mkF m 159 #[oR a1, oI p2] [(.int (115 : Int32)), (.int (p2 + (20 : Int32))), (.ref a1)])) rfl rfl (hb hby d1_159)
  have z42 := Nat.le_of_eq W41.size.symm
  have V41 : Arv Z h41 a1 k1 .char n (own_put vs p2.toNatClampNeg 21) (.int (0 : Int32)) := own_asetC (k := 20) (k' := 21) rfl Ar41 q41 S41 N41 H41 G41 W41 (by decide +kernel) (by decide +kernel) (by rw [own_clamp, own_clamp]; omega) (by omega)
  have Nf41 := Fr.snoc X41 Nf39 g_a1
  refine Wp.st (S' := T41.setTop (mkF m 160 #[oR a1, oI p2] [])) st41 ?_
  clear hj20
  refine Wp.st (S' := T41.setTop (mkF m 161 #[oR a1, oI p2] [(.ref a1)])) (fun tt_ kk_ => XS.aloadN X41.here hx rfl (hb hby d1_160) rfl rfl kk_) ?_
  refine Wp.st (S' := T41.setTop (mkF m 162 #[oR a1, oI p2] [(.int p2), (.ref a1)])) (fun tt_ kk_ => XS.iloadN X41.here hx rfl (hb hby d1_161) rfl  kk_) ?_
  refine Wp.st (S' := T41.setTop (mkF m 164 #[oR a1, oI p2] [(.int (21 : Int32)), (.int p2), (.ref a1)])) (fun tt_ kk_ => XS.bipush X41.here hx rfl (hb hby d1_162) kk_) ?_
  refine Wp.st (S' := T41.setTop (mkF m 165 #[oR a1, oI p2] [(.int (p2 + (21 : Int32))), (.ref a1)])) (fun tt_ kk_ => XS.iadd X41.here hx rfl (hb hby d1_164) rfl kk_) ?_
  refine Wp.st (S' := T41.setTop (mkF m 167 #[oR a1, oI p2] [(.int (32 : Int32)), (.int (p2 + (21 : Int32))), (.ref a1)])) (fun tt_ kk_ => XS.bipush X41.here hx rfl (hb hby d1_165) kk_) ?_
  have hj21 := own_pj ho (21 : Int32) (by decide)
  rw [show (21 : Int32).toInt = 21 by decide] at hj21
  obtain ⟨cl43, Ar43, q43, S43, N43, H43, G43⟩ := id V41
  have hin43 := inb_of (j := (p2 + (21 : Int32))) S43 (own_ibn (by omega))
  obtain ⟨T43, h43, X43, e43, W43, st43⟩ := stC X41 hx hZ e41 Ar43 (j := (p2 + (21 : Int32))) hin43 (g := (mkF m 167 #[oR a1, oI p2] [(.int (32 : Int32)), (.int (p2 + (21 : Int32))), (.ref a1)])) rfl rfl (hb hby d1_167)
  have z44 := Nat.le_of_eq W43.size.symm
  have V43 : Arv Z h43 a1 k1 .char n (own_put vs p2.toNatClampNeg 22) (.int (0 : Int32)) := own_asetC (k := 21) (k' := 22) rfl Ar43 q43 S43 N43 H43 G43 W43 (by decide +kernel) (by decide +kernel) (by rw [own_clamp, own_clamp]; omega) (by omega)
  have Nf43 := Fr.snoc X43 Nf41 g_a1
  refine Wp.st (S' := T43.setTop (mkF m 168 #[oR a1, oI p2] [])) st43 ?_
  clear hj21
  refine Wp.st (S' := T43.setTop (mkF m 169 #[oR a1, oI p2] [(.ref a1)])) (fun tt_ kk_ => XS.aloadN X43.here hx rfl (hb hby d1_168) rfl rfl kk_) ?_
  refine Wp.st (S' := T43.setTop (mkF m 170 #[oR a1, oI p2] [(.int p2), (.ref a1)])) (fun tt_ kk_ => XS.iloadN X43.here hx rfl (hb hby d1_169) rfl  kk_) ?_
  refine Wp.st (S' := T43.setTop (mkF m 172 #[oR a1, oI p2] [(.int (22 : Int32)), (.int p2), (.ref a1)])) (fun tt_ kk_ => XS.bipush X43.here hx rfl (hb hby d1_170) kk_) ?_
  refine Wp.st (S' := T43.setTop (mkF m 173 #[oR a1, oI p2] [(.int (p2 + (22 : Int32))), (.ref a1)])) (fun tt_ kk_ => XS.iadd X43.here hx rfl (hb hby d1_172) rfl kk_) ?_
  refine Wp.st (S' := T43.setTop (mkF m 175 #[oR a1, oI p2] [(.int (99 : Int32)), (.int (p2 + (22 : Int32))), (.ref a1)])) (fun tt_ kk_ => XS.bipush X43.here hx rfl (hb hby d1_173) kk_) ?_
  have hj22 := own_pj ho (22 : Int32) (by decide)
  rw [show (22 : Int32).toInt = 22 by decide] at hj22
  obtain ⟨cl45, Ar45, q45, S45, N45, H45, G45⟩ := id V43
  have hin45 := inb_of (j := (p2 + (22 : Int32))) S45 (own_ibn (by omega))
  obtain ⟨T45, h45, X45, e45, W45, st45⟩ := stC X43 hx hZ e43 Ar45 (j := (p2 + (22 : Int32))) hin45 (g := (mkF m 175 #[oR a1, oI p2] [(.int (99 : Int32)), (.int (p2 + (22 : Int32))), (.ref a1)])) rfl rfl (hb hby d1_175)
  have z46 := Nat.le_of_eq W45.size.symm
  have V45 : Arv Z h45 a1 k1 .char n (own_put vs p2.toNatClampNeg 23) (.int (0 : Int32)) := own_asetC (k := 22) (k' := 23) rfl Ar45 q45 S45 N45 H45 G45 W45 (by decide +kernel) (by decide +kernel) (by rw [own_clamp, own_clamp]; omega) (by omega)
  have Nf45 := Fr.snoc X45 Nf43 g_a1
  refine Wp.st (S' := T45.setTop (mkF m 176 #[oR a1, oI p2] [])) st45 ?_
  clear hj22
  refine Wp.st (S' := T45.setTop (mkF m 177 #[oR a1, oI p2] [(.ref a1)])) (fun tt_ kk_ => XS.aloadN X45.here hx rfl (hb hby d1_176) rfl rfl kk_) ?_
  refine Wp.st (S' := T45.setTop (mkF m 178 #[oR a1, oI p2] [(.int p2), (.ref a1)])) (fun tt_ kk_ => XS.iloadN X45.here hx rfl (hb hby d1_177) rfl  kk_) ?_
  refine Wp.st (S' := T45.setTop (mkF m 180 #[oR a1, oI p2] [(.int (23 : Int32)), (.int p2), (.ref a1)])) (fun tt_ kk_ => XS.bipush X45.here hx rfl (hb hby d1_178) kk_) ?_
  refine Wp.st (S' := T45.setTop (mkF m 181 #[oR a1, oI p2] [(.int (p2 + (23 : Int32))), (.ref a1)])) (fun tt_ kk_ => XS.iadd X45.here hx rfl (hb hby d1_180) rfl kk_) ?_
  refine Wp.st (S' := T45.setTop (mkF m 183 #[oR a1, oI p2] [(.int (108 : Int32)), (.int (p2 + (23 : Int32))), (.ref a1)])) (fun tt_ kk_ => XS.bipush X45.here hx rfl (hb hby d1_181) kk_) ?_
  have hj23 := own_pj ho (23 : Int32) (by decide)
  rw [show (23 : Int32).toInt = 23 by decide] at hj23
  obtain ⟨cl47, Ar47, q47, S47, N47, H47, G47⟩ := id V45
  have hin47 := inb_of (j := (p2 + (23 : Int32))) S47 (own_ibn (by omega))
  obtain ⟨T47, h47, X47, e47, W47, st47⟩ := stC X45 hx hZ e45 Ar47 (j := (p2 + (23 : Int32))) hin47 (g := (mkF m 183 #[oR a1, oI p2] [(.int (108 : Int32)), (.int (p2 + (23 : Int32))), (.ref a1)])) rfl rfl (hb hby d1_183)
  have z48 := Nat.le_of_eq W47.size.symm
  have V47 : Arv Z h47 a1 k1 .char n (own_put vs p2.toNatClampNeg 24) (.int (0 : Int32)) := own_asetC (k := 23) (k' := 24) rfl Ar47 q47 S47 N47 H47 G47 W47 (by decide +kernel) (by decide +kernel) (by rw [own_clamp, own_clamp]; omega) (by omega)
  have Nf47 := Fr.snoc X47 Nf45 g_a1
  refine Wp.st (S' := T47.setTop (mkF m 184 #[oR a1, oI p2] [])) st47 ?_
  clear hj23
  refine Wp.st (S' := T47.setTop (mkF m 185 #[oR a1, oI p2] [(.ref a1)])) (fun tt_ kk_ => XS.aloadN X47.here hx rfl (hb hby d1_184) rfl rfl kk_) ?_
  refine Wp.st (S' := T47.setTop (mkF m 186 #[oR a1, oI p2] [(.int p2), (.ref a1)])) (fun tt_ kk_ => XS.iloadN X47.here hx rfl (hb hby d1_185) rfl  kk_) ?_
  refine Wp.st (S' := T47.setTop (mkF m 188 #[oR a1, oI p2] [(.int (24 : Int32)), (.int p2), (.ref a1)])) (fun tt_ kk_ => XS.bipush X47.here hx rfl (hb hby d1_186) kk_) ?_
  refine Wp.st (S' := T47.setTop (mkF m 189 #[oR a1, oI p2] [(.int (p2 + (24 : Int32))), (.ref a1)])) (fun tt_ kk_ => XS.iadd X47.here hx rfl (hb hby d1_188) rfl kk_) ?_
  refine Wp.st (S' := T47.setTop (mkF m 191 #[oR a1, oI p2] [(.int (111 : Int32)), (.int (p2 + (24 : Int32))), (.ref a1)])) (fun tt_ kk_ => XS.bipush X47.here hx rfl (hb hby d1_189) kk_) ?_
  have hj24 := own_pj ho (24 : Int32) (by decide)
  rw [show (24 : Int32).toInt = 24 by decide] at hj24
  obtain ⟨cl49, Ar49, q49, S49, N49, H49, G49⟩ := id V47
  have hin49 := inb_of (j := (p2 + (24 : Int32))) S49 (own_ibn (by omega))
  obtain ⟨T49, h49, X49, e49, W49, st49⟩ := stC X47 hx hZ e47 Ar49 (j := (p2 + (24 : Int32))) hin49 (g := (mkF m 191 #[oR a1, oI p2] [(.int (111 : Int32)), (.int (p2 + (24 : Int32))), (.ref a1)])) rfl rfl (hb hby d1_191)
  have z50 := Nat.le_of_eq W49.size.symm
  have V49 : Arv Z h49 a1 k1 .char n (own_put vs p2.toNatClampNeg 25) (.int (0 : Int32)) := own_asetC (k := 24) (k' := 25) rfl Ar49 q49 S49 N49 H49 G49 W49 (by decide +kernel) (by decide +kernel) (by rw [own_clamp, own_clamp]; omega) (by omega)
  have Nf49 := Fr.snoc X49 Nf47 g_a1
  refine Wp.st (S' := T49.setTop (mkF m 192 #[oR a1, oI p2] [])) st49 ?_
  clear hj24
  refine Wp.st (S' := T49.setTop (mkF m 193 #[oR a1, oI p2] [(.ref a1)])) (fun tt_ kk_ => XS.aloadN X49.here hx rfl (hb hby d1_192) rfl rfl kk_) ?_
  refine Wp.st (S' := T49.setTop (mkF m 194 #[oR a1, oI p2] [(.int p2), (.ref a1)])) (fun tt_ kk_ => XS.iloadN X49.here hx rfl (hb hby d1_193) rfl  kk_) ?_
  refine Wp.st (S' := T49.setTop (mkF m 196 #[oR a1, oI p2] [(.int (25 : Int32)), (.int p2), (.ref a1)])) (fun tt_ kk_ => XS.bipush X49.here hx rfl (hb hby d1_194) kk_) ?_
  refine Wp.st (S' := T49.setTop (mkF m 197 #[oR a1, oI p2] [(.int (p2 + (25 : Int32))), (.ref a1)])) (fun tt_ kk_ => XS.iadd X49.here hx rfl (hb hby d1_196) rfl kk_) ?_
  refine Wp.st (S' := T49.setTop (mkF m 199 #[oR a1, oI p2] [(.int (115 : Int32)), (.int (p2 + (25 : Int32))), (.ref a1)])) (fun tt_ kk_ => XS.bipush X49.here hx rfl (hb hby d1_197) kk_) ?_
  have hj25 := own_pj ho (25 : Int32) (by decide)
  rw [show (25 : Int32).toInt = 25 by decide] at hj25
  obtain ⟨cl51, Ar51, q51, S51, N51, H51, G51⟩ := id V49
  have hin51 := inb_of (j := (p2 + (25 : Int32))) S51 (own_ibn (by omega))
  obtain ⟨T51, h51, X51, e51, W51, st51⟩ := stC X49 hx hZ e49 Ar51 (j := (p2 + (25 : Int32))) hin51 (g := (mkF m 199 #[oR a1, oI p2] [(.int (115 : Int32)), (.int (p2 + (25 : Int32))), (.ref a1)])) rfl rfl (hb hby d1_199)
  have z52 := Nat.le_of_eq W51.size.symm
  have V51 : Arv Z h51 a1 k1 .char n (own_put vs p2.toNatClampNeg 26) (.int (0 : Int32)) := own_asetC (k := 25) (k' := 26) rfl Ar51 q51 S51 N51 H51 G51 W51 (by decide +kernel) (by decide +kernel) (by rw [own_clamp, own_clamp]; omega) (by omega)
  have Nf51 := Fr.snoc X51 Nf49 g_a1
  refine Wp.st (S' := T51.setTop (mkF m 200 #[oR a1, oI p2] [])) st51 ?_
  clear hj25
  refine Wp.st (S' := T51.setTop (mkF m 201 #[oR a1, oI p2] [(.ref a1)])) (fun tt_ kk_ => XS.aloadN X51.here hx rfl (hb hby d1_200) rfl rfl kk_) ?_
  refine Wp.st (S' := T51.setTop (mkF m 202 #[oR a1, oI p2] [(.int p2), (.ref a1)])) (fun tt_ kk_ => XS.iloadN X51.here hx rfl (hb hby d1_201) rfl  kk_) ?_
  refine Wp.st (S' := T51.setTop (mkF m 204 #[oR a1, oI p2] [(.int (26 : Int32)), (.int p2), (.ref a1)])) (fun tt_ kk_ => XS.bipush X51.here hx rfl (hb hby d1_202) kk_) ?_
  refine Wp.st (S' := T51.setTop (mkF m 205 #[oR a1, oI p2] [(.int (p2 + (26 : Int32))), (.ref a1)])) (fun tt_ kk_ => XS.iadd X51.here hx rfl (hb hby d1_204) rfl kk_) ?_
  refine Wp.st (S' := T51.setTop (mkF m 207 #[oR a1, oI p2] [(.int (101 : Int32)), (.int (p2 + (26 : Int32))), (.ref a1)])) (fun tt_ kk_ => XS.bipush X51.here hx rfl (hb hby d1_205) kk_) ?_
  have hj26 := own_pj ho (26 : Int32) (by decide)
  rw [show (26 : Int32).toInt = 26 by decide] at hj26
  obtain ⟨cl53, Ar53, q53, S53, N53, H53, G53⟩ := id V51
  have hin53 := inb_of (j := (p2 + (26 : Int32))) S53 (own_ibn (by omega))
  obtain ⟨T53, h53, X53, e53, W53, st53⟩ := stC X51 hx hZ e51 Ar53 (j := (p2 + (26 : Int32))) hin53 (g := (mkF m 207 #[oR a1, oI p2] [(.int (101 : Int32)), (.int (p2 + (26 : Int32))), (.ref a1)])) rfl rfl (hb hby d1_207)
  have z54 := Nat.le_of_eq W53.size.symm
  have V53 : Arv Z h53 a1 k1 .char n (own_put vs p2.toNatClampNeg 27) (.int (0 : Int32)) := own_asetC (k := 26) (k' := 27) rfl Ar53 q53 S53 N53 H53 G53 W53 (by decide +kernel) (by decide +kernel) (by rw [own_clamp, own_clamp]; omega) (by omega)
  have Nf53 := Fr.snoc X53 Nf51 g_a1
  refine Wp.st (S' := T53.setTop (mkF m 208 #[oR a1, oI p2] [])) st53 ?_
  clear hj26
  refine Wp.st (S' := T53.setTop (mkF m 209 #[oR a1, oI p2] [(.ref a1)])) (fun tt_ kk_ => XS.aloadN X53.here hx rfl (hb hby d1_208) rfl rfl kk_) ?_
  refine Wp.st (S' := T53.setTop (mkF m 210 #[oR a1, oI p2] [(.int p2), (.ref a1)])) (fun tt_ kk_ => XS.iloadN X53.here hx rfl (hb hby d1_209) rfl  kk_) ?_
  refine Wp.st (S' := T53.setTop (mkF m 212 #[oR a1, oI p2] [(.int (27 : Int32)), (.int p2), (.ref a1)])) (fun tt_ kk_ => XS.bipush X53.here hx rfl (hb hby d1_210) kk_) ?_
  refine Wp.st (S' := T53.setTop (mkF m 213 #[oR a1, oI p2] [(.int (p2 + (27 : Int32))), (.ref a1)])) (fun tt_ kk_ => XS.iadd X53.here hx rfl (hb hby d1_212) rfl kk_) ?_
  refine Wp.st (S' := T53.setTop (mkF m 215 #[oR a1, oI p2] [(.int (100 : Int32)), (.int (p2 + (27 : Int32))), (.ref a1)])) (fun tt_ kk_ => XS.bipush X53.here hx rfl (hb hby d1_213) kk_) ?_
  have hj27 := own_pj ho (27 : Int32) (by decide)
  rw [show (27 : Int32).toInt = 27 by decide] at hj27
  obtain ⟨cl55, Ar55, q55, S55, N55, H55, G55⟩ := id V53
  have hin55 := inb_of (j := (p2 + (27 : Int32))) S55 (own_ibn (by omega))
  obtain ⟨T55, h55, X55, e55, W55, st55⟩ := stC X53 hx hZ e53 Ar55 (j := (p2 + (27 : Int32))) hin55 (g := (mkF m 215 #[oR a1, oI p2] [(.int (100 : Int32)), (.int (p2 + (27 : Int32))), (.ref a1)])) rfl rfl (hb hby d1_215)
  have z56 := Nat.le_of_eq W55.size.symm
  have V55 : Arv Z h55 a1 k1 .char n (own_put vs p2.toNatClampNeg 28) (.int (0 : Int32)) := own_asetC (k := 27) (k' := 28) rfl Ar55 q55 S55 N55 H55 G55 W55 (by decide +kernel) (by decide +kernel) (by rw [own_clamp, own_clamp]; omega) (by omega)
  have Nf55 := Fr.snoc X55 Nf53 g_a1
  refine Wp.st (S' := T55.setTop (mkF m 216 #[oR a1, oI p2] [])) st55 ?_
  clear hj27
  have K57 := Keep.refl h0 [a1]
  have K58 := K57.wr W1 (Or.inl (List.mem_of_getElem? (i := 0) rfl))
  have K59 := K58.wr W3 (Or.inl (List.mem_of_getElem? (i := 0) rfl))
  have K60 := K59.wr W5 (Or.inl (List.mem_of_getElem? (i := 0) rfl))
  have K61 := K60.wr W7 (Or.inl (List.mem_of_getElem? (i := 0) rfl))
  have K62 := K61.wr W9 (Or.inl (List.mem_of_getElem? (i := 0) rfl))
  have K63 := K62.wr W11 (Or.inl (List.mem_of_getElem? (i := 0) rfl))
  have K64 := K63.wr W13 (Or.inl (List.mem_of_getElem? (i := 0) rfl))
  have K65 := K64.wr W15 (Or.inl (List.mem_of_getElem? (i := 0) rfl))
  have K66 := K65.wr W17 (Or.inl (List.mem_of_getElem? (i := 0) rfl))
  have K67 := K66.wr W19 (Or.inl (List.mem_of_getElem? (i := 0) rfl))
  have K68 := K67.wr W21 (Or.inl (List.mem_of_getElem? (i := 0) rfl))
  have K69 := K68.wr W23 (Or.inl (List.mem_of_getElem? (i := 0) rfl))
  have K70 := K69.wr W25 (Or.inl (List.mem_of_getElem? (i := 0) rfl))
  have K71 := K70.wr W27 (Or.inl (List.mem_of_getElem? (i := 0) rfl))
  have K72 := K71.wr W29 (Or.inl (List.mem_of_getElem? (i := 0) rfl))
  have K73 := K72.wr W31 (Or.inl (List.mem_of_getElem? (i := 0) rfl))
  have K74 := K73.wr W33 (Or.inl (List.mem_of_getElem? (i := 0) rfl))
  have K75 := K74.wr W35 (Or.inl (List.mem_of_getElem? (i := 0) rfl))
  have K76 := K75.wr W37 (Or.inl (List.mem_of_getElem? (i := 0) rfl))
  have K77 := K76.wr W39 (Or.inl (List.mem_of_getElem? (i := 0) rfl))
  have K78 := K77.wr W41 (Or.inl (List.mem_of_getElem? (i := 0) rfl))
  have K79 := K78.wr W43 (Or.inl (List.mem_of_getElem? (i := 0) rfl))
  have K80 := K79.wr W45 (Or.inl (List.mem_of_getElem? (i := 0) rfl))
  have K81 := K80.wr W47 (Or.inl (List.mem_of_getElem? (i := 0) rfl))
  have K82 := K81.wr W49 (Or.inl (List.mem_of_getElem? (i := 0) rfl))
  have K83 := K82.wr W51 (Or.inl (List.mem_of_getElem? (i := 0) rfl))
  have K84 := K83.wr W53 (Or.inl (List.mem_of_getElem? (i := 0) rfl))
  have K85 := K84.wr W55 (Or.inl (List.mem_of_getElem? (i := 0) rfl))
  exact Wp.ret X55 hlk (v := none) (fun _ => rfl) (fun fs hr => X55.returnOut hx Bd.returns (hb hby d1_216) hr) (by decide) (by decide) (show Q_rm1 Z a1 p2 k1 n vs h0 n0 _ T55.heap _ by rw [e55]; exact ⟨rfl, Nf55, K85, V55⟩)
theorem pn_3 : plainName "java/lang/String" = true := by first | (simp [plainName, overriddenIn]; done) | decide +kernel
theorem d3_0 : decode jdk_42_method_149_code 0 = .ok (.aload_n 0, 1) := by decide +kernel
theorem d3_1 : decode jdk_42_method_149_code 1 = .ok (.invokespecial 1, 3) := by decide +kernel
theorem d3_4 : decode jdk_42_method_149_code 4 = .ok (.iload_n 3, 1) := by decide +kernel
theorem d3_5 : decode jdk_42_method_149_code 5 = .ok (.ifCond .ne 22, 3) := by decide +kernel
theorem d3_8 : decode jdk_42_method_149_code 8 = .ok (.aload_n 0, 1) := by decide +kernel
theorem d3_9 : decode jdk_42_method_149_code 9 = .ok (.ldc 7, 2) := by decide +kernel
theorem d3_11 : decode jdk_42_method_149_code 11 = .ok (.getfield 9, 3) := by decide +kernel
theorem d3_14 : decode jdk_42_method_149_code 14 = .ok (.putfield 9, 3) := by decide +kernel
theorem d3_17 : decode jdk_42_method_149_code 17 = .ok (.aload_n 0, 1) := by decide +kernel
theorem d3_18 : decode jdk_42_method_149_code 18 = .ok (.ldc 7, 2) := by decide +kernel
theorem d3_20 : decode jdk_42_method_149_code 20 = .ok (.getfield 15, 3) := by decide +kernel
theorem d3_23 : decode jdk_42_method_149_code 23 = .ok (.putfield 15, 3) := by decide +kernel
theorem d3_26 : decode jdk_42_method_149_code 26 = .ok (.return_, 1) := by decide +kernel
theorem ef_rmE4 (m : MethodId) (a1 : Addr) (a2 : Addr) : entryFrame m #[(.ref a1), (.ref a2), (.int (0 : Int32)), (.int (0 : Int32)), .null] 6 = mkF m 0 #[oR a1, oR a2, oI (0 : Int32), oI (0 : Int32), .val .null, oU] [] := by first | (simp [entryFrame, mkF, argsToLocals, Value.category]; done) | rfl
def Q_rmE4 (Z : State) (a1 : Addr) (a2 : Addr) (h0 : Heap) (n0 : Nat) (v : Option Value) (h : Heap) (L : List Loc) : Prop := ∃ tb : Addr, ∃ kb : ClassId, (v = none) ∧ (Fr n0 L) ∧ (Keep h0 h [a1]) ∧ (Exa Z h a1 "java/lang/String") ∧ (Fld Z h a1 "java/lang/String" "value" "[B" (.ref tb)) ∧ (Fld Z h a1 "java/lang/String" "coder" "B" (.int (0 : Int32))) ∧ (Arv Z h tb kb .byte (0 : Int32) [] (.int (0 : Int32)))
set_option maxRecDepth 65536 in
set_option maxHeartbeats 40000000 in
theorem rmE4 (l : Launch) (Z : State) (a0 : Array Value) (hw : ∀ d ∈ tables_1, d.before a0 Z = true) (ws : List Jvm.Cond) (a1 : Addr) (a2 : Addr) (h0 : Heap) (n0 : Nat) (Z0 : n0 ≤ h0.size) (g_a1 : n0 ≤ a1) (P1 : Exa Z h0 a1 "java/lang/String") (P2 : Fld Z h0 a1 "java/lang/String" "value" "[B" .null) (P3 : Fld Z h0 a1 "java/lang/String" "coder" "B" (.int (0 : Int32))) :
    MetFree l (⟨"java/lang/String", "<init>", "([CIILjava/lang/Void;)V"⟩ : MethodName) (head1 (Jvm.Cond.code (⟨"java/lang/String", "<init>", "([CIILjava/lang/Void;)V"⟩ : MethodName) jdk_42_method_149_code 6 none :: ws) ({ frames := 1, cells := 4, slots := 8, locals := 12 } : Room)) (fun a U => a = #[(.ref a1), (.ref a2), (.int (0 : Int32)), (.int (0 : Int32)), .null] ∧ Z.Warmed39 U.vm ∧ U.heap = h0 ∧ CHv Z own_EL U.vm h0) (fun _ _ _ _ _ => True) (fun _ U o U' => ∃ v L, o = .returned v ∧ Q_rmE4 Z a1 a2 h0 n0 v U'.heap L ∧ CHr Z own_EL U.vm U.heap U'.vm U'.heap ∧ ReturnedEndW U o U' L ({ frames := 1, cells := 4, slots := 8, locals := 12 } : Room).cells ({ frames := 1, cells := 4, slots := 8, locals := 12 } : Room).slots) := by
  refine MetFree.of_bodySF (plainFor_of_name pn_3) hisR ?_
  intro p e s m args below meth c s₁ Bd hml0 hP hK
  obtain ⟨rfl, hZ, hh, CH0⟩ := hP
  have hx := Bd.exec
  have hby := Bd.bytes
  have hml : c.maxLocals = 6 := hml0
  have hown : s.vm.findClass "java/lang/String" = some m.cls := findClass_of_methodNamed Bd.named
  have hnm := (name_of_methodNamed Bd.named Bd.method).1
  have hlk := Bd.notSynchronized
  have X0 : Stand p l e ({ frames := 1, cells := 4, slots := 8, locals := 12 } : Room) (s.setVm s.vm) m #[(.ref a1), (.ref a2), (.int (0 : Int32)), (.int (0 : Int32)), .null] below meth c s₁ [] 0 0 := Stand.of_body Bd
  have e0 : s₁.heap = h0 := by rw [← hh, Bd.state]; rfl
  have N0 := Fr.nil n0
  refine Wp.goal (Post := (fun o U' => ∃ v L, o = .returned v ∧ Q_rmE4 Z a1 a2 h0 n0 v U'.heap L ∧ CHr Z own_EL s.vm s.heap U'.vm U'.heap ∧ ReturnedEndW s o U' L ({ frames := 1, cells := 4, slots := 8, locals := 12 } : Room).cells ({ frames := 1, cells := 4, slots := 8, locals := 12 } : Room).slots)) (Wp.st (S' := s₁.setTop (mkF m 0 #[oR a1, oR a2, oI (0 : Int32), oI (0 : Int32), .val .null, oU] [])) (fun tt_ kk_ => castTop (ef_rmE4 m a1 a2 ) kk_) ?_)
  have hS0 : s.Since s.vm h0.size := (State.WarmedH.refl s).since _
  have wS : ∀ d ∈ Bundle.stringAtoms, d.before a0 Z = true := fun d hd => hw d ((by decide +kernel : ∀ d ∈ Bundle.stringAtoms, d ∈ tables_1) d hd)
  have hEL := own_EW hw
  have CC0 := CHr.refl CH0
  have Sf1 : Safe Z own_EL s.vm h0 a1 := own_safe hZ.alike P1 P2 (hw _ (List.mem_of_getElem? (i := 6) rfl))
  refine Wp.st (S' := s₁.setTop (mkF m 1 #[oR a1, oR a2, oI (0 : Int32), oI (0 : Int32), .val .null, oU] [(.ref a1)])) (fun tt_ kk_ => XS.aloadN X0.here hx rfl (hb hby d3_0) rfl rfl kk_) ?_
  obtain ⟨T2, X2, e2, st2⟩ := initO X0 hx hZ hown (hw _ (List.mem_of_getElem? (i := 15) rfl)) (hw _ (List.mem_of_getElem? (i := 16) rfl)) (hw _ (List.mem_of_getElem? (i := 17) rfl)) e0 (g := (mkF m 1 #[oR a1, oR a2, oI (0 : Int32), oI (0 : Int32), .val .null, oU] [(.ref a1)])) rfl (by rw [hml]; rfl) rfl (hb hby d3_1) (by decide) (W := 0) (by show 2 * 0 + _ ≤ _; exact Nat.le_of_eq rfl) (by decide)
  refine Wp.st (S' := T2.setTop (mkF m 4 #[oR a1, oR a2, oI (0 : Int32), oI (0 : Int32), .val .null, oU] [])) st2 ?_
  refine Wp.st (S' := T2.setTop (mkF m 5 #[oR a1, oR a2, oI (0 : Int32), oI (0 : Int32), .val .null, oU] [(.int (0 : Int32))])) (fun tt_ kk_ => XS.iloadN X2.here hx rfl (hb hby d3_4) rfl  kk_) ?_
  refine Wp.st (S' := T2.setTop (mkF m 8 #[oR a1, oR a2, oI (0 : Int32), oI (0 : Int32), .val .null, oU] [])) (fun tt_ kk_ => XS.ifNo X2.here hx rfl (hb hby d3_5) rfl ((if0 _ _).trans (teq ((by decide) : (0 : Int32) = (0 : Int32))).2) kk_) ?_
  refine Wp.st (S' := T2.setTop (mkF m 9 #[oR a1, oR a2, oI (0 : Int32), oI (0 : Int32), .val .null, oU] [(.ref a1)])) (fun tt_ kk_ => XS.aloadN X2.here hx rfl (hb hby d3_8) rfl rfl kk_) ?_
  obtain ⟨a3, T3, h3, k3, b3, kb3, X3, e3, E3, hS3, hk3, hZ3, how3, Ex3, Co3, Va3, Av3, la3, lb3, cr3, li3, sn3, st3⟩ := ldcCH X2 hx hZ hown (hw _ (List.mem_of_getElem? (i := 18) rfl)) wS e2 hS0 (Nat.le_refl _) hEL (by decide) CC0.1 (vs := []) (z := (0 : Int32)) ⟨by decide, by decide⟩ (by decide) rfl (g := (mkF m 9 #[oR a1, oR a2, oI (0 : Int32), oI (0 : Int32), .val .null, oU] [(.ref a1)])) rfl (hb hby d3_9) (n := 0) (by decide +kernel) (by decide) (by decide) (by decide)
  have z4 := E3.1
  have Sf5 := cr3.safe P1.lt Sf1
  have CC6 := CC0.trans cr3
  have ne7 := sn3 _ Sf5
  refine Wp.st (S' := T3.setTop (mkF m 11 #[oR a1, oR a2, oI (0 : Int32), oI (0 : Int32), .val .null, oU] [(.ref a3), (.ref a1)])) st3 ?_
  obtain ⟨T8, X8, e8, st8⟩ := getF X3 hx hZ3 how3 (host := "") (Or.inl (hw _ (List.mem_of_getElem? (i := 24) rfl))) Via.refl e3 Va3 (g := (mkF m 11 #[oR a1, oR a2, oI (0 : Int32), oI (0 : Int32), .val .null, oU] [(.ref a3), (.ref a1)])) rfl rfl (hb hby d3_11)
  refine Wp.st (S' := T8.setTop (mkF m 14 #[oR a1, oR a2, oI (0 : Int32), oI (0 : Int32), .val .null, oU] [(.ref b3), (.ref a1)])) st8 ?_
  have F10 := P2.ext E3
  have F11 := P1.ext E3
  obtain ⟨T9, h9, X9, e9, W9, st9⟩ := putF X8 hx hZ3 how3 (host := "") (Or.inl (hw _ (List.mem_of_getElem? (i := 24) rfl))) Via.refl e8 F10 F11 (Or.inr ⟨(hw _ (List.mem_of_getElem? (i := 20) rfl)), rfl, hnm⟩) (hw _ (List.mem_of_getElem? (i := 6) rfl)) (ty := (.array .byte)) (by decide) rfl rfl (g := (mkF m 14 #[oR a1, oR a2, oI (0 : Int32), oI (0 : Int32), .val .null, oU] [(.ref b3), (.ref a1)])) rfl rfl (hb hby d3_14)
  have z12 := Nat.le_of_eq W9.size.symm
  have Sf13 := Safe.wr W9 Sf5 CC6.1 Sf5
  have CC14 := CC6.trans (CHr.wr W9 Sf5 CC6.1)
  have Fw9 : Fld Z h9 a1 "java/lang/String" "value" "[B" (.ref b3) := F10.same W9
  have N9 := Fr.snoc X9 N0 g_a1
  refine Wp.st (S' := T9.setTop (mkF m 17 #[oR a1, oR a2, oI (0 : Int32), oI (0 : Int32), .val .null, oU] [])) st9 ?_
  refine Wp.st (S' := T9.setTop (mkF m 18 #[oR a1, oR a2, oI (0 : Int32), oI (0 : Int32), .val .null, oU] [(.ref a1)])) (fun tt_ kk_ => XS.aloadN X9.here hx rfl (hb hby d3_17) rfl rfl kk_) ?_
  obtain ⟨a15, T15, h15, k15, b15, kb15, X15, e15, E15, hS15, hk15, hZ15, how15, Ex15, Co15, Va15, Av15, la15, lb15, cr15, li15, sn15, st15⟩ := ldcCH X9 hx hZ3 how3 (hw _ (List.mem_of_getElem? (i := 18) rfl)) wS e9 hS3 (Nat.le_trans hk3 z12) hEL (by decide) CC14.1 (vs := []) (z := (0 : Int32)) ⟨by decide, by decide⟩ (by decide) rfl (g := (mkF m 18 #[oR a1, oR a2, oI (0 : Int32), oI (0 : Int32), .val .null, oU] [(.ref a1)])) rfl (hb hby d3_18) (n := 0) (by decide +kernel) (by decide) (by decide) (by decide)
  have z16 := E15.1
  have Sf17 := cr15.safe (Nat.lt_of_lt_of_le P1.lt (Nat.le_trans z4 z12)) Sf13
  have CC18 := CC14.trans cr15
  have ne19 := sn15 _ Sf17
  refine Wp.st (S' := T15.setTop (mkF m 20 #[oR a1, oR a2, oI (0 : Int32), oI (0 : Int32), .val .null, oU] [(.ref a15), (.ref a1)])) st15 ?_
  obtain ⟨T20, X20, e20, st20⟩ := getF X15 hx hZ15 how15 (host := "") (Or.inl (hw _ (List.mem_of_getElem? (i := 25) rfl))) Via.refl e15 Co15 (g := (mkF m 20 #[oR a1, oR a2, oI (0 : Int32), oI (0 : Int32), .val .null, oU] [(.ref a15), (.ref a1)])) rfl rfl (hb hby d3_20)
  refine Wp.st (S' := T20.setTop (mkF m 23 #[oR a1, oR a2, oI (0 : Int32), oI (0 : Int32), .val .null, oU] [(.int (0 : Int32)), (.ref a1)])) st20 ?_
  have F22 := P3.ext E3
  have F23 := F22.other W9 (Or.inr (slot_ne (Or.inr (hw _ (List.mem_of_getElem? (i := 21) rfl))) (Or.inr (hw _ (List.mem_of_getElem? (i := 20) rfl))) (by decide) (t := .byte) (t' := (.array .byte)) (by decide) (by decide)))
  have F24 := F23.ext E15
  have F25 := F11.wr W9
  have F26 := F25.ext E15
  obtain ⟨T21, h21, X21, e21, W21, st21⟩ := putFN X20 hx hZ15 how15 (hw _ (List.mem_of_getElem? (i := 25) rfl)) Via.refl e20 F24 F26 (Or.inr ⟨(hw _ (List.mem_of_getElem? (i := 21) rfl)), rfl, hnm⟩) (hw _ (List.mem_of_getElem? (i := 6) rfl)) (ty := .byte) (v' := (.int (0 : Int32))) (by decide) rfl rfl (g := (mkF m 23 #[oR a1, oR a2, oI (0 : Int32), oI (0 : Int32), .val .null, oU] [(.int (0 : Int32)), (.ref a1)])) rfl rfl (hb hby d3_23)
  have z27 := Nat.le_of_eq W21.size.symm
  have Sf28 := Safe.wr W21 Sf17 CC18.1 Sf17
  have CC29 := CC18.trans (CHr.wr W21 Sf17 CC18.1)
  have Fw21 : Fld Z h21 a1 "java/lang/String" "coder" "B" (.int (0 : Int32)) := F24.same W21
  have N21 := Fr.snoc X21 N9 g_a1
  refine Wp.st (S' := T21.setTop (mkF m 26 #[oR a1, oR a2, oI (0 : Int32), oI (0 : Int32), .val .null, oU] [])) st21 ?_
  have K30 := Keep.refl h0 [a1]
  have K31 := K30.ext E3
  have K32 := K31.wr W9 (Or.inl (List.mem_of_getElem? (i := 0) rfl))
  have K33 := K32.ext E15
  have K34 := K33.wr W21 (Or.inl (List.mem_of_getElem? (i := 0) rfl))
  have F35 := F26.wr W21
  have F36 := Fw9.ext E15
  have F37 := F36.other W21 (Or.inr (slot_ne (Or.inr (hw _ (List.mem_of_getElem? (i := 20) rfl))) (Or.inr (hw _ (List.mem_of_getElem? (i := 21) rfl))) (by decide) (t := (.array .byte)) (t' := .byte) (by decide) (by decide)))
  have F38 := Av3.other W9 (Ne.symm ne7.2)
  have F39 := F38.ext E15
  have F40 := F39.other W21 (Ne.symm ne7.2)
  exact Wp.retH X21 hlk hS15 (by rw [e21]; exact (Nat.le_trans hk15 z27)) (v := none) (fun _ => rfl) (fun fs hr => X21.returnOut hx Bd.returns (hb hby d3_26) hr) (by decide) (by decide) (show Q_rmE4 Z a1 a2 h0 n0 _ T21.heap _ by rw [e21]; exact ⟨b3, kb3, rfl, N21, K34, F35, F37, Fw21, F40⟩) (by rw [hh, e21]; exact CC29.trans (CHv.at X21 hZ15 hEL CC29.1))
theorem pn_2 : plainName "java/lang/String" = true := by first | (simp [plainName, overriddenIn]; done) | decide +kernel
theorem d2_0 : decode jdk_42_method_3_code 0 = .ok (.aload_n 0, 1) := by decide +kernel
theorem d2_1 : decode jdk_42_method_3_code 1 = .ok (.aload_n 1, 1) := by decide +kernel
theorem d2_2 : decode jdk_42_method_3_code 2 = .ok (.iconst 0, 1) := by decide +kernel
theorem d2_3 : decode jdk_42_method_3_code 3 = .ok (.aload_n 1, 1) := by decide +kernel
theorem d2_4 : decode jdk_42_method_3_code 4 = .ok (.arraylength, 1) := by decide +kernel
theorem d2_5 : decode jdk_42_method_3_code 5 = .ok (.aconst_null, 1) := by decide +kernel
theorem d2_6 : decode jdk_42_method_3_code 6 = .ok (.invokespecial 27, 3) := by decide +kernel
theorem pd_20 : parseMethodDescriptor "([CIILjava/lang/Void;)V" = some ⟨[(.array .char), .int, .int, (.object "java/lang/Void")], none⟩ := by decide +kernel
theorem d2_9 : decode jdk_42_method_3_code 9 = .ok (.return_, 1) := by decide +kernel
theorem ef_rmE1 (m : MethodId) (a1 : Addr) (a2 : Addr) : entryFrame m #[(.ref a1), (.ref a2)] 2 = mkF m 0 #[oR a1, oR a2] [] := by first | (simp [entryFrame, mkF, argsToLocals, Value.category]; done) | rfl
def Q_rmE1 (Z : State) (a1 : Addr) (a2 : Addr) (kc : ClassId) (h0 : Heap) (n0 : Nat) (v : Option Value) (h : Heap) (L : List Loc) : Prop := ∃ tb : Addr, ∃ kb : ClassId, (v = none) ∧ (Fr n0 L) ∧ (Keep h0 h [a1]) ∧ (Exa Z h a1 "java/lang/String") ∧ (Fld Z h a1 "java/lang/String" "value" "[B" (.ref tb)) ∧ (Fld Z h a1 "java/lang/String" "coder" "B" (.int (0 : Int32))) ∧ (Arv Z h tb kb .byte (0 : Int32) [] (.int (0 : Int32)))
set_option maxRecDepth 65536 in
set_option maxHeartbeats 40000000 in
theorem rmE1 (l : Launch) (Z : State) (a0 : Array Value) (hw : ∀ d ∈ tables_1, d.before a0 Z = true) (ws : List Jvm.Cond) (a1 : Addr) (a2 : Addr) (kc : ClassId) (h0 : Heap) (n0 : Nat) (Z0 : n0 ≤ h0.size) (g_a1 : n0 ≤ a1) (P1 : Exa Z h0 a1 "java/lang/String") (P2 : Fld Z h0 a1 "java/lang/String" "value" "[B" .null) (P3 : Fld Z h0 a1 "java/lang/String" "coder" "B" (.int (0 : Int32))) (PAr : Arv Z h0 a2 kc .char (0 : Int32) [] (.int (0 : Int32))) :
    MetFree l (⟨"java/lang/String", "<init>", "([C)V"⟩ : MethodName) (head1 (Jvm.Cond.code (⟨"java/lang/String", "<init>", "([C)V"⟩ : MethodName) jdk_42_method_3_code 2 none :: ws) ({ frames := 2, cells := 4, slots := 8, locals := 29 } : Room)) (fun a U => a = #[(.ref a1), (.ref a2)] ∧ Z.Warmed39 U.vm ∧ U.heap = h0 ∧ CHv Z own_EL U.vm h0) (fun _ _ _ _ _ => True) (fun _ U o U' => ∃ v L, o = .returned v ∧ Q_rmE1 Z a1 a2 kc h0 n0 v U'.heap L ∧ CHr Z own_EL U.vm U.heap U'.vm U'.heap ∧ ReturnedEndW U o U' L ({ frames := 2, cells := 4, slots := 8, locals := 29 } : Room).cells ({ frames := 2, cells := 4, slots := 8, locals := 29 } : Room).slots) := by
  refine MetFree.of_bodySF (plainFor_of_name pn_2) hisR ?_
  intro p e s m args below meth c s₁ Bd hml0 hP hK
  obtain ⟨rfl, hZ, hh, CH0⟩ := hP
  have hx := Bd.exec
  have hby := Bd.bytes
  have hml : c.maxLocals = 2 := hml0
  have hown : s.vm.findClass "java/lang/String" = some m.cls := findClass_of_methodNamed Bd.named
  have hnm := (name_of_methodNamed Bd.named Bd.method).1
  have hlk := Bd.notSynchronized
  have X0 : Stand p l e ({ frames := 2, cells := 4, slots := 8, locals := 29 } : Room) (s.setVm s.vm) m #[(.ref a1), (.ref a2)] below meth c s₁ [] 0 0 := Stand.of_body Bd
  have e0 : s₁.heap = h0 := by rw [← hh, Bd.state]; rfl
  have N0 := Fr.nil n0
  refine Wp.goal (Post := (fun o U' => ∃ v L, o = .returned v ∧ Q_rmE1 Z a1 a2 kc h0 n0 v U'.heap L ∧ CHr Z own_EL s.vm s.heap U'.vm U'.heap ∧ ReturnedEndW s o U' L ({ frames := 2, cells := 4, slots := 8, locals := 29 } : Room).cells ({ frames := 2, cells := 4, slots := 8, locals := 29 } : Room).slots)) (Wp.st (S' := s₁.setTop (mkF m 0 #[oR a1, oR a2] [])) (fun tt_ kk_ => castTop (ef_rmE1 m a1 a2 ) kk_) ?_)
  have hS0 : s.Since s.vm h0.size := (State.WarmedH.refl s).since _
  have wS : ∀ d ∈ Bundle.stringAtoms, d.before a0 Z = true := fun d hd => hw d ((by decide +kernel : ∀ d ∈ Bundle.stringAtoms, d ∈ tables_1) d hd)
  have hEL := own_EW hw
  have CC0 := CHr.refl CH0
  have Sf1 : Safe Z own_EL s.vm h0 a1 := own_safe hZ.alike P1 P2 (hw _ (List.mem_of_getElem? (i := 6) rfl))
  refine Wp.st (S' := s₁.setTop (mkF m 1 #[oR a1, oR a2] [(.ref a1)])) (fun tt_ kk_ => XS.aloadN X0.here hx rfl (hb hby d2_0) rfl rfl kk_) ?_
  refine Wp.st (S' := s₁.setTop (mkF m 2 #[oR a1, oR a2] [(.ref a2), (.ref a1)])) (fun tt_ kk_ => XS.aloadN X0.here hx rfl (hb hby d2_1) rfl rfl kk_) ?_
  refine Wp.st (S' := s₁.setTop (mkF m 3 #[oR a1, oR a2] [(.int (0 : Int32)), (.ref a2), (.ref a1)])) (fun tt_ kk_ => XS.iconst X0.here hx rfl (hb hby d2_2) kk_) ?_
  refine Wp.st (S' := s₁.setTop (mkF m 4 #[oR a1, oR a2] [(.ref a2), (.int (0 : Int32)), (.ref a2), (.ref a1)])) (fun tt_ kk_ => XS.aloadN X0.here hx rfl (hb hby d2_3) rfl rfl kk_) ?_
  obtain ⟨cl2, Ar2, q2, S2, N2, H2, G2⟩ := id PAr
  refine Wp.st (S' := s₁.setTop (mkF m 5 #[oR a1, oR a2] [(.int (0 : Int32)), (.int (0 : Int32)), (.ref a2), (.ref a1)])) (fun tt_ kk_ => X0.arraylength hx (by rw [e0]; exact Ar2.1) (State.isArrayOf_alike hZ.alike Ar2.2.1) (g := (mkF m 4 #[oR a1, oR a2] [(.ref a2), (.int (0 : Int32)), (.ref a2), (.ref a1)])) rfl rfl (hb hby d2_4) tt_ (by rw [len_of S2 N2]; exact kk_)) ?_
  refine Wp.st (S' := s₁.setTop (mkF m 6 #[oR a1, oR a2] [.null, (.int (0 : Int32)), (.int (0 : Int32)), (.ref a2), (.ref a1)])) (fun tt_ kk_ => XS.aconstNull X0.here hx rfl (hb hby d2_5) kk_) ?_
  obtain ⟨vv3, _, ⟨T3, L3, k3, n3⟩, -, Xq3, sn3, gr3, ⟨Lc3, hQ3, l3, y3, z3, cr3⟩, st3⟩ := X0.specialBackS hx (y := (⟨"java/lang/String", "<init>", "([CIILjava/lang/Void;)V"⟩ : MethodName)) rfl hown (mvT hZ (hw _ (List.mem_of_getElem? (i := 11) rfl))) (mvT hZ (hw _ (List.mem_of_getElem? (i := 12) rfl))) (mvT hZ (hw _ (List.mem_of_getElem? (i := 14) rfl))) (by decide) (backOfSH (W := 0) (rmE4 l Z a0 hw [] a1 a2 h0 n0 Z0 g_a1 P1 P2 P3) hZ (hw _ (List.mem_of_getElem? (i := 14) rfl)) (hw _ (List.mem_of_getElem? (i := 7) rfl)) (by decide) (by decide) hEL CC0.1) (g := (mkF m 6 #[oR a1, oR a2] [.null, (.int (0 : Int32)), (.int (0 : Int32)), (.ref a2), (.ref a1)])) rfl (by rw [hml]; rfl) (Steps.refl _) (a := a1) (argsL := [(.ref a2), (.int (0 : Int32)), (.int (0 : Int32)), .null]) (rest := []) (lenOf pd_20 rfl) rfl (by show 2 * 0 + _ ≤ _; exact Nat.le_of_eq rfl) (hb hby d2_6) (fun _ _ => ⟨rfl, e0, (by decide : 0 + 4 ≤ _), (by decide : 0 + 8 ≤ _)⟩)
  dsimp only [Pt.U, Pt.locs, Pt.cells, Pt.slots] at Xq3 sn3 gr3 l3 y3 z3 st3 hQ3 cr3
  subst l3 y3 z3
  obtain ⟨X3, hS3, hZ3, how3⟩ := rebS hS0 (by rw [e0]; exact (Nat.le_refl _)) Xq3 sn3 gr3 hZ hown
  obtain ⟨b4, c5, rfl, Nq3, K3, P3_0, P3_1, P3_2, P3_3⟩ := hQ3
  have N3 := Fr.app N0 Nq3
  have z6 := K3.1
  have Sf7 := cr3.safe P1.lt Sf1
  have CC8 := CC0.trans cr3
  have e3 : T3.heap = T3.heap := rfl
  refine Wp.tr (S' := T3.setTop (mkF m 9 #[oR a1, oR a2] [])) st3 ?_
  have K9 := Keep.refl h0 [a1]
  have K10 := K9.trans K3 (allS (Or.inl (List.mem_of_getElem? (i := 0) rfl)) all0)
  exact Wp.retH X3 hlk hS3 (by rw [e3]; exact (Nat.le_refl _)) (v := none) (fun _ => rfl) (fun fs hr => X3.returnOut hx Bd.returns (hb hby d2_9) hr) (by decide) (by decide) (show Q_rmE1 Z a1 a2 kc h0 n0 _ T3.heap _ by rw [e3]; exact ⟨b4, c5, rfl, N3, K10, P3_0, P3_1, P3_2, P3_3⟩) (by rw [hh, e3]; exact CC8.trans (CHv.at X3 hZ3 hEL CC8.1))
theorem own_arv {Z : State} {h : Heap} {a : Addr} {k : ClassId} {ty : FieldType} {n : Int32} {vs vs' : List Value} {dv : Value} (e : vs = vs') (A : Arv Z h a k ty n vs dv) : Arv Z h a k ty n vs' dv := e ▸ A
theorem own_putA (pre tl : List Value) (o : Nat) (ho : o = pre.length) : ∀ k, k ≤ 28 → k ≤ tl.length → own_put (pre ++ tl) o k = pre ++ ((own_Sf.map Value.int).take k ++ tl.drop k) := by
  intro k
  induction k with
  | zero => intro _ _; simp [own_put]
  | succ k ih =>
    intro h1 h2
    have hS : (own_Sf.map Value.int).length = 28 := by decide +kernel
    have e1 : (own_Sf.map Value.int).take (k + 1) = (own_Sf.map Value.int).take k ++ [.int (own_Sf.getD k 0)] := by
      rw [List.take_add_one, List.getElem?_map]
      have hk : k < own_Sf.length := by rw [List.length_map] at hS; omega
      rw [List.getD_eq_getElem?_getD, List.getElem?_eq_getElem hk]; rfl
    have e2 : tl.drop k = tl[k] :: tl.drop (k + 1) := List.drop_eq_getElem_cons (by omega)
    have hl : ((own_Sf.map Value.int).take k).length = k := by rw [List.length_take, hS]; omega
    show (own_put (pre ++ tl) o k).set (o + k) (.int (own_Sf.getD k 0)) = _
    rw [ih (by omega) (by omega), List.set_append_right _ _ (by omega), ho, Nat.add_sub_cancel_left, List.set_append_right _ _ (by omega), hl, Nat.sub_self, e2, e1, List.set_cons_zero, List.append_assoc]
    rfl
theorem own_em0 : own_msg [] (0 : Int32) = (own_P.map Value.int ++ [] ++ own_Sf.map Value.int) ++ List.replicate 30 (.int 0) := by decide +kernel
theorem own_pt0 : own_put [(.int (108 : Int32)), (.int (111 : Int32)), (.int (99 : Int32)), (.int (107 : Int32)), (.int (32 : Int32)), (.int (39 : Int32)), (.int (0 : Int32)), (.int (0 : Int32)), (.int (0 : Int32)), (.int (0 : Int32)), (.int (0 : Int32)), (.int (0 : Int32)), (.int (0 : Int32)), (.int (0 : Int32)), (.int (0 : Int32)), (.int (0 : Int32)), (.int (0 : Int32)), (.int (0 : Int32)), (.int (0 : Int32)), (.int (0 : Int32)), (.int (0 : Int32)), (.int (0 : Int32)), (.int (0 : Int32)), (.int (0 : Int32)), (.int (0 : Int32)), (.int (0 : Int32)), (.int (0 : Int32)), (.int (0 : Int32)), (.int (0 : Int32)), (.int (0 : Int32)), (.int (0 : Int32)), (.int (0 : Int32)), (.int (0 : Int32)), (.int (0 : Int32))] (6 : Int32).toNatClampNeg 28 = [(.int (108 : Int32)), (.int (111 : Int32)), (.int (99 : Int32)), (.int (107 : Int32)), (.int (32 : Int32)), (.int (39 : Int32)), (.int (39 : Int32)), (.int (58 : Int32)), (.int (32 : Int32)), (.int (105 : Int32)), (.int (116 : Int32)), (.int (115 : Int32)), (.int (32 : Int32)), (.int (77 : Int32)), (.int (111 : Int32)), (.int (114 : Int32)), (.int (116 : Int32)), (.int (105 : Int32)), (.int (115 : Int32)), (.int (101 : Int32)), (.int (76 : Int32)), (.int (111 : Int32)), (.int (99 : Int32)), (.int (107 : Int32)), (.int (32 : Int32)), (.int (105 : Int32)), (.int (115 : Int32)), (.int (32 : Int32)), (.int (99 : Int32)), (.int (108 : Int32)), (.int (111 : Int32)), (.int (115 : Int32)), (.int (101 : Int32)), (.int (100 : Int32))] := own_putA [(.int (108 : Int32)), (.int (111 : Int32)), (.int (99 : Int32)), (.int (107 : Int32)), (.int (32 : Int32)), (.int (39 : Int32))] [(.int (0 : Int32)), (.int (0 : Int32)), (.int (0 : Int32)), (.int (0 : Int32)), (.int (0 : Int32)), (.int (0 : Int32)), (.int (0 : Int32)), (.int (0 : Int32)), (.int (0 : Int32)), (.int (0 : Int32)), (.int (0 : Int32)), (.int (0 : Int32)), (.int (0 : Int32)), (.int (0 : Int32)), (.int (0 : Int32)), (.int (0 : Int32)), (.int (0 : Int32)), (.int (0 : Int32)), (.int (0 : Int32)), (.int (0 : Int32)), (.int (0 : Int32)), (.int (0 : Int32)), (.int (0 : Int32)), (.int (0 : Int32)), (.int (0 : Int32)), (.int (0 : Int32)), (.int (0 : Int32)), (.int (0 : Int32))] _ (by show (6 : Int32).toNatClampNeg = 6; decide) 28 (by decide) (by decide)
theorem own_em1 (a : Value) : own_msg [a] (1 : Int32) = (own_P.map Value.int ++ [a] ++ own_Sf.map Value.int) ++ List.replicate 29 (.int 0) := rfl
theorem own_pt1 (a : Value) : own_put [(.int (108 : Int32)), (.int (111 : Int32)), (.int (99 : Int32)), (.int (107 : Int32)), (.int (32 : Int32)), (.int (39 : Int32)), a, (.int (0 : Int32)), (.int (0 : Int32)), (.int (0 : Int32)), (.int (0 : Int32)), (.int (0 : Int32)), (.int (0 : Int32)), (.int (0 : Int32)), (.int (0 : Int32)), (.int (0 : Int32)), (.int (0 : Int32)), (.int (0 : Int32)), (.int (0 : Int32)), (.int (0 : Int32)), (.int (0 : Int32)), (.int (0 : Int32)), (.int (0 : Int32)), (.int (0 : Int32)), (.int (0 : Int32)), (.int (0 : Int32)), (.int (0 : Int32)), (.int (0 : Int32)), (.int (0 : Int32)), (.int (0 : Int32)), (.int (0 : Int32)), (.int (0 : Int32)), (.int (0 : Int32)), (.int (0 : Int32)), (.int (0 : Int32))] (7 : Int32).toNatClampNeg 28 = [(.int (108 : Int32)), (.int (111 : Int32)), (.int (99 : Int32)), (.int (107 : Int32)), (.int (32 : Int32)), (.int (39 : Int32)), a, (.int (39 : Int32)), (.int (58 : Int32)), (.int (32 : Int32)), (.int (105 : Int32)), (.int (116 : Int32)), (.int (115 : Int32)), (.int (32 : Int32)), (.int (77 : Int32)), (.int (111 : Int32)), (.int (114 : Int32)), (.int (116 : Int32)), (.int (105 : Int32)), (.int (115 : Int32)), (.int (101 : Int32)), (.int (76 : Int32)), (.int (111 : Int32)), (.int (99 : Int32)), (.int (107 : Int32)), (.int (32 : Int32)), (.int (105 : Int32)), (.int (115 : Int32)), (.int (32 : Int32)), (.int (99 : Int32)), (.int (108 : Int32)), (.int (111 : Int32)), (.int (115 : Int32)), (.int (101 : Int32)), (.int (100 : Int32))] := own_putA [(.int (108 : Int32)), (.int (111 : Int32)), (.int (99 : Int32)), (.int (107 : Int32)), (.int (32 : Int32)), (.int (39 : Int32)), a] [(.int (0 : Int32)), (.int (0 : Int32)), (.int (0 : Int32)), (.int (0 : Int32)), (.int (0 : Int32)), (.int (0 : Int32)), (.int (0 : Int32)), (.int (0 : Int32)), (.int (0 : Int32)), (.int (0 : Int32)), (.int (0 : Int32)), (.int (0 : Int32)), (.int (0 : Int32)), (.int (0 : Int32)), (.int (0 : Int32)), (.int (0 : Int32)), (.int (0 : Int32)), (.int (0 : Int32)), (.int (0 : Int32)), (.int (0 : Int32)), (.int (0 : Int32)), (.int (0 : Int32)), (.int (0 : Int32)), (.int (0 : Int32)), (.int (0 : Int32)), (.int (0 : Int32)), (.int (0 : Int32)), (.int (0 : Int32))] _ (by show (7 : Int32).toNatClampNeg = 7; decide) 28 (by decide) (by decide)
theorem own_em2 (a b : Value) : own_msg [a, b] (2 : Int32) = (own_P.map Value.int ++ [a, b] ++ own_Sf.map Value.int) ++ List.replicate 28 (.int 0) := rfl
theorem own_pt2 (a b : Value) : own_put [(.int (108 : Int32)), (.int (111 : Int32)), (.int (99 : Int32)), (.int (107 : Int32)), (.int (32 : Int32)), (.int (39 : Int32)), a, b, (.int (0 : Int32)), (.int (0 : Int32)), (.int (0 : Int32)), (.int (0 : Int32)), (.int (0 : Int32)), (.int (0 : Int32)), (.int (0 : Int32)), (.int (0 : Int32)), (.int (0 : Int32)), (.int (0 : Int32)), (.int (0 : Int32)), (.int (0 : Int32)), (.int (0 : Int32)), (.int (0 : Int32)), (.int (0 : Int32)), (.int (0 : Int32)), (.int (0 : Int32)), (.int (0 : Int32)), (.int (0 : Int32)), (.int (0 : Int32)), (.int (0 : Int32)), (.int (0 : Int32)), (.int (0 : Int32)), (.int (0 : Int32)), (.int (0 : Int32)), (.int (0 : Int32)), (.int (0 : Int32)), (.int (0 : Int32))] (8 : Int32).toNatClampNeg 28 = [(.int (108 : Int32)), (.int (111 : Int32)), (.int (99 : Int32)), (.int (107 : Int32)), (.int (32 : Int32)), (.int (39 : Int32)), a, b, (.int (39 : Int32)), (.int (58 : Int32)), (.int (32 : Int32)), (.int (105 : Int32)), (.int (116 : Int32)), (.int (115 : Int32)), (.int (32 : Int32)), (.int (77 : Int32)), (.int (111 : Int32)), (.int (114 : Int32)), (.int (116 : Int32)), (.int (105 : Int32)), (.int (115 : Int32)), (.int (101 : Int32)), (.int (76 : Int32)), (.int (111 : Int32)), (.int (99 : Int32)), (.int (107 : Int32)), (.int (32 : Int32)), (.int (105 : Int32)), (.int (115 : Int32)), (.int (32 : Int32)), (.int (99 : Int32)), (.int (108 : Int32)), (.int (111 : Int32)), (.int (115 : Int32)), (.int (101 : Int32)), (.int (100 : Int32))] := own_putA [(.int (108 : Int32)), (.int (111 : Int32)), (.int (99 : Int32)), (.int (107 : Int32)), (.int (32 : Int32)), (.int (39 : Int32)), a, b] [(.int (0 : Int32)), (.int (0 : Int32)), (.int (0 : Int32)), (.int (0 : Int32)), (.int (0 : Int32)), (.int (0 : Int32)), (.int (0 : Int32)), (.int (0 : Int32)), (.int (0 : Int32)), (.int (0 : Int32)), (.int (0 : Int32)), (.int (0 : Int32)), (.int (0 : Int32)), (.int (0 : Int32)), (.int (0 : Int32)), (.int (0 : Int32)), (.int (0 : Int32)), (.int (0 : Int32)), (.int (0 : Int32)), (.int (0 : Int32)), (.int (0 : Int32)), (.int (0 : Int32)), (.int (0 : Int32)), (.int (0 : Int32)), (.int (0 : Int32)), (.int (0 : Int32)), (.int (0 : Int32)), (.int (0 : Int32))] _ (by show (8 : Int32).toNatClampNeg = 8; decide) 28 (by decide) (by decide)
theorem own_em3 (a b c : Value) : own_msg [a, b, c] (3 : Int32) = (own_P.map Value.int ++ [a, b, c] ++ own_Sf.map Value.int) ++ List.replicate 27 (.int 0) := rfl
theorem own_pt3 (a b c : Value) : own_put [(.int (108 : Int32)), (.int (111 : Int32)), (.int (99 : Int32)), (.int (107 : Int32)), (.int (32 : Int32)), (.int (39 : Int32)), a, b, c, (.int (0 : Int32)), (.int (0 : Int32)), (.int (0 : Int32)), (.int (0 : Int32)), (.int (0 : Int32)), (.int (0 : Int32)), (.int (0 : Int32)), (.int (0 : Int32)), (.int (0 : Int32)), (.int (0 : Int32)), (.int (0 : Int32)), (.int (0 : Int32)), (.int (0 : Int32)), (.int (0 : Int32)), (.int (0 : Int32)), (.int (0 : Int32)), (.int (0 : Int32)), (.int (0 : Int32)), (.int (0 : Int32)), (.int (0 : Int32)), (.int (0 : Int32)), (.int (0 : Int32)), (.int (0 : Int32)), (.int (0 : Int32)), (.int (0 : Int32)), (.int (0 : Int32)), (.int (0 : Int32)), (.int (0 : Int32))] (9 : Int32).toNatClampNeg 28 = [(.int (108 : Int32)), (.int (111 : Int32)), (.int (99 : Int32)), (.int (107 : Int32)), (.int (32 : Int32)), (.int (39 : Int32)), a, b, c, (.int (39 : Int32)), (.int (58 : Int32)), (.int (32 : Int32)), (.int (105 : Int32)), (.int (116 : Int32)), (.int (115 : Int32)), (.int (32 : Int32)), (.int (77 : Int32)), (.int (111 : Int32)), (.int (114 : Int32)), (.int (116 : Int32)), (.int (105 : Int32)), (.int (115 : Int32)), (.int (101 : Int32)), (.int (76 : Int32)), (.int (111 : Int32)), (.int (99 : Int32)), (.int (107 : Int32)), (.int (32 : Int32)), (.int (105 : Int32)), (.int (115 : Int32)), (.int (32 : Int32)), (.int (99 : Int32)), (.int (108 : Int32)), (.int (111 : Int32)), (.int (115 : Int32)), (.int (101 : Int32)), (.int (100 : Int32))] := own_putA [(.int (108 : Int32)), (.int (111 : Int32)), (.int (99 : Int32)), (.int (107 : Int32)), (.int (32 : Int32)), (.int (39 : Int32)), a, b, c] [(.int (0 : Int32)), (.int (0 : Int32)), (.int (0 : Int32)), (.int (0 : Int32)), (.int (0 : Int32)), (.int (0 : Int32)), (.int (0 : Int32)), (.int (0 : Int32)), (.int (0 : Int32)), (.int (0 : Int32)), (.int (0 : Int32)), (.int (0 : Int32)), (.int (0 : Int32)), (.int (0 : Int32)), (.int (0 : Int32)), (.int (0 : Int32)), (.int (0 : Int32)), (.int (0 : Int32)), (.int (0 : Int32)), (.int (0 : Int32)), (.int (0 : Int32)), (.int (0 : Int32)), (.int (0 : Int32)), (.int (0 : Int32)), (.int (0 : Int32)), (.int (0 : Int32)), (.int (0 : Int32)), (.int (0 : Int32))] _ (by show (9 : Int32).toNatClampNeg = 9; decide) 28 (by decide) (by decide)
theorem pn_0 : plainName "com/example/mortise_lock/mortiselock/redis/RedisCallExceptionClosedPinLaw" = true := by first | (simp [plainName, overriddenIn]; done) | decide +kernel
theorem pd_21 : parseMethodDescriptor "([CI)V" = some ⟨[(.array .char), .int], none⟩ := by decide +kernel
theorem pd_22 : parseMethodDescriptor "([C)V" = some ⟨[(.array .char)], none⟩ := by decide +kernel
theorem pd_23 : parseMethodDescriptor "(Ljava/lang/String;)Lcom/example/mortise_lock/mortiselock/redis/RedisCallException;" = some ⟨[(.object "java/lang/String")], some (.object "com/example/mortise_lock/mortiselock/redis/RedisCallException")⟩ := by decide +kernel
theorem pd_24 : parseMethodDescriptor "()Ljava/lang/Throwable;" = some ⟨[], some (.object "java/lang/Throwable")⟩ := by decide +kernel
theorem pd_25 : parseMethodDescriptor "(Ljava/lang/Object;)Z" = some ⟨[(.object "java/lang/Object")], some .boolean⟩ := by decide +kernel
theorem ef_rm0 (m : MethodId) (x1 : Int32) (x2 : Int32) (x3 : Int32) (x4 : Int32) : entryFrame m #[(.int x1), (.int x2), (.int x3), (.int x4)] maxLocals = mkF m 0 #[oI x1, oI x2, oI x3, oI x4, oU, oU, oU, oU, oU, oU, oU, oU, oU, oU] [] := by first | (simp [entryFrame, mkF, argsToLocals, Value.category, maxLocals]; done) | rfl
def Q_rm0 (Z : State) (x1 : Int32) (x2 : Int32) (x3 : Int32) (x4 : Int32) (zcs : Int32) (vu : Value) (vs : Value) (h0 : Heap) (n0 : Nat) (v : Option Value) (h : Heap) (L : List Loc) : Prop := (v = some (.int (1 : Int32))) ∧ (Fr n0 L) ∧ (Keep h0 h [])
set_option maxRecDepth 65536 in
set_option maxHeartbeats 40000000 in
theorem rm0 (l : Launch) (Z : State) (a0 : Array Value) (hw : ∀ d ∈ tables_1, d.before a0 Z = true) (ws : List Jvm.Cond) (x1 : Int32) (x2 : Int32) (x3 : Int32) (x4 : Int32) (zcs : Int32) (vu : Value) (vs : Value) (h0 : Heap) (n0 : Nat) (Z0 : n0 ≤ h0.size) (OZ : Jvm.RoadKit.Old Z n0 h0) (SCompact : Sta Z Z.heap "java/lang/String" "COMPACT_STRINGS" "Z" (.int zcs)) (hCS : ¬ zcs = 0) (PT : ThS Z h0) (hTR : ∀ d ∈ Jvm.RoadKit.twoRefs, d.before a0 Z = true) (hl : l.stackTraces = true) (SUn : Sta Z Z.heap "java/lang/Throwable" "UNASSIGNED_STACK" "[Ljava/lang/StackTraceElement;" vu) (SSe : Sta Z Z.heap "java/lang/Throwable" "SUPPRESSED_SENTINEL" "Ljava/util/List;" vs) (hvu : Value.isRef vu = true) (hvs : Value.isRef vs = true) :
    MetFree l x (head1 (Jvm.Cond.code x code maxLocals ret :: ws) room_1) (fun a U => a = #[(.int x1), (.int x2), (.int x3), (.int x4)] ∧ Z.Warmed39 U.vm ∧ U.heap = h0 ∧ CHv Z own_EL U.vm h0) (fun _ _ bl s _ => s.vm.MethodsKnown ∧ s.vm.FramesKnown bl) (fun _ U o U' => ∃ v L, o = .returned v ∧ Q_rm0 Z x1 x2 x3 x4 zcs vu vs h0 n0 v U'.heap L ∧ ReturnedEndW U o U' L room_1.cells room_1.slots) := by
  refine MetFree.of_bodySF (plainFor_of_name pn_0) hisR ?_
  intro p e s m args below meth c s₁ Bd hml0 hP hK
  obtain ⟨rfl, hZ, hh, CH0⟩ := hP
  have hx := Bd.exec
  have hby := Bd.bytes
  have hml : c.maxLocals = 14 := hml0
  have hown : s.vm.findClass "com/example/mortise_lock/mortiselock/redis/RedisCallExceptionClosedPinLaw" = some m.cls := findClass_of_methodNamed Bd.named
  have hnm := (name_of_methodNamed Bd.named Bd.method).1
  have hlk := Bd.notSynchronized
  have X0 : Stand p l e room_1 (s.setVm s.vm) m #[(.int x1), (.int x2), (.int x3), (.int x4)] below meth c s₁ [] 0 0 := Stand.of_body Bd
  have e0 : s₁.heap = h0 := by rw [← hh, Bd.state]; rfl
  have N0 := Fr.nil n0
  refine Wp.goal (Post := (fun o U' => ∃ v L, o = .returned v ∧ Q_rm0 Z x1 x2 x3 x4 zcs vu vs h0 n0 v U'.heap L ∧ ReturnedEndW s o U' L room_1.cells room_1.slots)) (Wp.st (S' := s₁.setTop (mkF m 0 #[oI x1, oI x2, oI x3, oI x4, oU, oU, oU, oU, oU, oU, oU, oU, oU, oU] [])) (fun tt_ kk_ => castTop (ef_rm0 m x1 x2 x3 x4 ) kk_) ?_)
  have O0 : Jvm.RoadKit.Old Z n0 h0 := OZ
  have hS0 : s.Since s.vm h0.size := (State.WarmedH.refl s).since _
  have wS : ∀ d ∈ Bundle.stringAtoms, d.before a0 Z = true := fun d hd => hw d ((by decide +kernel : ∀ d ∈ Bundle.stringAtoms, d ∈ tables_1) d hd)
  have hEL := own_EW hw
  have CC0 := CHr.refl CH0
  refine Wp.st (S' := s₁.setTop (mkF m 1 #[oI x1, oI x2, oI x3, oI x4, oU, oU, oU, oU, oU, oU, oU, oU, oU, oU] [(.int x1)])) (fun tt_ kk_ => XS.iloadN X0.here hx rfl (hb hby at_0) rfl  kk_) ?_
  refine Wp.st (S' := s₁.setTop (mkF m 2 #[oI x1, oI x2, oI x3, oI x4, oU, oU, oU, oU, oU, oU, oU, oU, oU, oU] [(.int (3 : Int32)), (.int x1)])) (fun tt_ kk_ => XS.iconst X0.here hx rfl (hb hby at_1) kk_) ?_
  refine Wp.st (S' := s₁.setTop (mkF m 3 #[oI x1, oI x2, oI x3, oI x4, oU, oU, oU, oU, oU, oU, oU, oU, oU, oU] [(.int (x1 &&& (3 : Int32)))])) (fun tt_ kk_ => XS.iand X0.here hx rfl (hb hby at_2) rfl kk_) ?_
  refine Wp.st (S' := s₁.setTop (mkF m 5 #[oI x1, oI x2, oI x3, oI x4, oI (x1 &&& (3 : Int32)), oU, oU, oU, oU, oU, oU, oU, oU, oU] [])) (fun tt_ kk_ => XS.istore X0.here hx rfl (hb hby at_3) rfl (l' := #[oI x1, oI x2, oI x3, oI x4, oI (x1 &&& (3 : Int32)), oU, oU, oU, oU, oU, oU, oU, oU, oU]) rfl kk_) ?_
  have hn4 := own_and3 x1
  generalize hvn : (x1 &&& (3 : Int32)) = nq
  rw [hvn] at hn4
  refine Wp.st (S' := s₁.setTop (mkF m 6 #[oI x1, oI x2, oI x3, oI x4, oI nq, oU, oU, oU, oU, oU, oU, oU, oU, oU] [(.int x2)])) (fun tt_ kk_ => XS.iloadN X0.here hx rfl (hb hby at_5) rfl  kk_) ?_
  refine Wp.st (S' := s₁.setTop (mkF m 9 #[oI x1, oI x2, oI x3, oI x4, oI nq, oU, oU, oU, oU, oU, oU, oU, oU, oU] [(.int (255 : Int32)), (.int x2)])) (fun tt_ kk_ => XS.sipush X0.here hx rfl (hb hby at_6) kk_) ?_
  refine Wp.st (S' := s₁.setTop (mkF m 10 #[oI x1, oI x2, oI x3, oI x4, oI nq, oU, oU, oU, oU, oU, oU, oU, oU, oU] [(.int (x2 &&& (255 : Int32)))])) (fun tt_ kk_ => XS.iand X0.here hx rfl (hb hby at_9) rfl kk_) ?_
  refine Wp.st (S' := s₁.setTop (mkF m 11 #[oI x1, oI x2, oI x3, oI x4, oI nq, oU, oU, oU, oU, oU, oU, oU, oU, oU] [(.int ((x2 &&& (255 : Int32)).toUInt32.toUInt16.toUInt32.toInt32))])) (fun tt_ kk_ => XS.i2c X0.here hx rfl (hb hby at_10) rfl kk_) ?_
  refine Wp.st (S' := s₁.setTop (mkF m 13 #[oI x1, oI x2, oI x3, oI x4, oI nq, oI ((x2 &&& (255 : Int32)).toUInt32.toUInt16.toUInt32.toInt32), oU, oU, oU, oU, oU, oU, oU, oU] [])) (fun tt_ kk_ => XS.istore X0.here hx rfl (hb hby at_11) rfl (l' := #[oI x1, oI x2, oI x3, oI x4, oI nq, oI ((x2 &&& (255 : Int32)).toUInt32.toUInt16.toUInt32.toInt32), oU, oU, oU, oU, oU, oU, oU, oU]) rfl kk_) ?_
  refine Wp.st (S' := s₁.setTop (mkF m 14 #[oI x1, oI x2, oI x3, oI x4, oI nq, oI ((x2 &&& (255 : Int32)).toUInt32.toUInt16.toUInt32.toInt32), oU, oU, oU, oU, oU, oU, oU, oU] [(.int x3)])) (fun tt_ kk_ => XS.iloadN X0.here hx rfl (hb hby at_13) rfl  kk_) ?_
  refine Wp.st (S' := s₁.setTop (mkF m 17 #[oI x1, oI x2, oI x3, oI x4, oI nq, oI ((x2 &&& (255 : Int32)).toUInt32.toUInt16.toUInt32.toInt32), oU, oU, oU, oU, oU, oU, oU, oU] [(.int (255 : Int32)), (.int x3)])) (fun tt_ kk_ => XS.sipush X0.here hx rfl (hb hby at_14) kk_) ?_
  refine Wp.st (S' := s₁.setTop (mkF m 18 #[oI x1, oI x2, oI x3, oI x4, oI nq, oI ((x2 &&& (255 : Int32)).toUInt32.toUInt16.toUInt32.toInt32), oU, oU, oU, oU, oU, oU, oU, oU] [(.int (x3 &&& (255 : Int32)))])) (fun tt_ kk_ => XS.iand X0.here hx rfl (hb hby at_17) rfl kk_) ?_
  refine Wp.st (S' := s₁.setTop (mkF m 19 #[oI x1, oI x2, oI x3, oI x4, oI nq, oI ((x2 &&& (255 : Int32)).toUInt32.toUInt16.toUInt32.toInt32), oU, oU, oU, oU, oU, oU, oU, oU] [(.int ((x3 &&& (255 : Int32)).toUInt32.toUInt16.toUInt32.toInt32))])) (fun tt_ kk_ => XS.i2c X0.here hx rfl (hb hby at_18) rfl kk_) ?_
  refine Wp.st (S' := s₁.setTop (mkF m 21 #[oI x1, oI x2, oI x3, oI x4, oI nq, oI ((x2 &&& (255 : Int32)).toUInt32.toUInt16.toUInt32.toInt32), oI ((x3 &&& (255 : Int32)).toUInt32.toUInt16.toUInt32.toInt32), oU, oU, oU, oU, oU, oU, oU] [])) (fun tt_ kk_ => XS.istore X0.here hx rfl (hb hby at_19) rfl (l' := #[oI x1, oI x2, oI x3, oI x4, oI nq, oI ((x2 &&& (255 : Int32)).toUInt32.toUInt16.toUInt32.toInt32), oI ((x3 &&& (255 : Int32)).toUInt32.toUInt16.toUInt32.toInt32), oU, oU, oU, oU, oU, oU, oU]) rfl kk_) ?_
  refine Wp.st (S' := s₁.setTop (mkF m 22 #[oI x1, oI x2, oI x3, oI x4, oI nq, oI ((x2 &&& (255 : Int32)).toUInt32.toUInt16.toUInt32.toInt32), oI ((x3 &&& (255 : Int32)).toUInt32.toUInt16.toUInt32.toInt32), oU, oU, oU, oU, oU, oU, oU] [(.int x4)])) (fun tt_ kk_ => XS.iloadN X0.here hx rfl (hb hby at_21) rfl  kk_) ?_
  refine Wp.st (S' := s₁.setTop (mkF m 25 #[oI x1, oI x2, oI x3, oI x4, oI nq, oI ((x2 &&& (255 : Int32)).toUInt32.toUInt16.toUInt32.toInt32), oI ((x3 &&& (255 : Int32)).toUInt32.toUInt16.toUInt32.toInt32), oU, oU, oU, oU, oU, oU, oU] [(.int (255 : Int32)), (.int x4)])) (fun tt_ kk_ => XS.sipush X0.here hx rfl (hb hby at_22) kk_) ?_
  refine Wp.st (S' := s₁.setTop (mkF m 26 #[oI x1, oI x2, oI x3, oI x4, oI nq, oI ((x2 &&& (255 : Int32)).toUInt32.toUInt16.toUInt32.toInt32), oI ((x3 &&& (255 : Int32)).toUInt32.toUInt16.toUInt32.toInt32), oU, oU, oU, oU, oU, oU, oU] [(.int (x4 &&& (255 : Int32)))])) (fun tt_ kk_ => XS.iand X0.here hx rfl (hb hby at_25) rfl kk_) ?_
  refine Wp.st (S' := s₁.setTop (mkF m 27 #[oI x1, oI x2, oI x3, oI x4, oI nq, oI ((x2 &&& (255 : Int32)).toUInt32.toUInt16.toUInt32.toInt32), oI ((x3 &&& (255 : Int32)).toUInt32.toUInt16.toUInt32.toInt32), oU, oU, oU, oU, oU, oU, oU] [(.int ((x4 &&& (255 : Int32)).toUInt32.toUInt16.toUInt32.toInt32))])) (fun tt_ kk_ => XS.i2c X0.here hx rfl (hb hby at_26) rfl kk_) ?_
  refine Wp.st (S' := s₁.setTop (mkF m 29 #[oI x1, oI x2, oI x3, oI x4, oI nq, oI ((x2 &&& (255 : Int32)).toUInt32.toUInt16.toUInt32.toInt32), oI ((x3 &&& (255 : Int32)).toUInt32.toUInt16.toUInt32.toInt32), oI ((x4 &&& (255 : Int32)).toUInt32.toUInt16.toUInt32.toInt32), oU, oU, oU, oU, oU, oU] [])) (fun tt_ kk_ => XS.istore X0.here hx rfl (hb hby at_27) rfl (l' := #[oI x1, oI x2, oI x3, oI x4, oI nq, oI ((x2 &&& (255 : Int32)).toUInt32.toUInt16.toUInt32.toInt32), oI ((x3 &&& (255 : Int32)).toUInt32.toUInt16.toUInt32.toInt32), oI ((x4 &&& (255 : Int32)).toUInt32.toUInt16.toUInt32.toInt32), oU, oU, oU, oU, oU, oU]) rfl kk_) ?_
  have hc0 := own_ch255 x2
  generalize hvc0 : ((x2 &&& (255 : Int32)).toUInt32.toUInt16.toUInt32.toInt32) = ch0
  rw [hvc0] at hc0
  have hc1 := own_ch255 x3
  generalize hvc1 : ((x3 &&& (255 : Int32)).toUInt32.toUInt16.toUInt32.toInt32) = ch1
  rw [hvc1] at hc1
  have hc2 := own_ch255 x4
  generalize hvc2 : ((x4 &&& (255 : Int32)).toUInt32.toUInt16.toUInt32.toInt32) = ch2
  rw [hvc2] at hc2
  rcases hn4 with rfl | rfl | rfl | rfl
  · have _u := True.intro
    refine Wp.st (S' := s₁.setTop (mkF m 31 #[oI x1, oI x2, oI x3, oI x4, oI (0 : Int32), oI ch0, oI ch1, oI ch2, oU, oU, oU, oU, oU, oU] [(.int (0 : Int32))])) (fun tt_ kk_ => XS.iload X0.here hx rfl (hb hby at_29) rfl  kk_) ?_
    refine Wp.st (S' := s₁.setTop (mkF m 34 #[oI x1, oI x2, oI x3, oI x4, oI (0 : Int32), oI ch0, oI ch1, oI ch2, oU, oU, oU, oU, oU, oU] [])) (fun tt_ kk_ => XS.ifNo X0.here hx rfl (hb hby at_31) rfl ((if0 _ _).trans (teq ((by decide) : (0 : Int32) = (0 : Int32))).2) kk_) ?_
    refine Wp.st (S' := s₁.setTop (mkF m 35 #[oI x1, oI x2, oI x3, oI x4, oI (0 : Int32), oI ch0, oI ch1, oI ch2, oU, oU, oU, oU, oU, oU] [(.int (0 : Int32))])) (fun tt_ kk_ => XS.iconst X0.here hx rfl (hb hby at_34) kk_) ?_
    obtain ⟨T1, h1, k1, X1, e1, E1, A1, st1⟩ := newP X0 hx hZ (hw _ (List.mem_of_getElem? (i := 0) rfl)) e0 (g := (mkF m 35 #[oI x1, oI x2, oI x3, oI x4, oI (0 : Int32), oI ch0, oI ch1, oI ch2, oU, oU, oU, oU, oU, oU] [(.int (0 : Int32))])) rfl (hb hby at_35) rfl (by decide) (cap := 0) (by decide) (by decide) (by decide) (by decide)
    obtain ⟨b1, g1⟩ : ∃ z, z = h0.size := ⟨_, rfl⟩
    rw [← g1] at A1 st1
    have z2 := E1.1
    have CC3 := CC0.trans (CHr.ext E1 CC0.1)
    have V1 : Arv Z h1 b1 k1 .char (0 : Int32) [] (.int (0 : Int32)) := (Arv.new A1 (by decide)).pad (pad_rep [] (.int (0 : Int32)) 0)
    have g4 : n0 ≤ b1 := Nat.le_trans (Nat.le_trans Z0 (Nat.le_refl _)) (Nat.le_of_eq g1.symm)
    have Sf5 := Safe.ext E1 CC0.1 (Safe.new (x := b1) (Nat.le_of_eq g1.symm))
    refine Wp.st (S' := T1.setTop (mkF m 37 #[oI x1, oI x2, oI x3, oI x4, oI (0 : Int32), oI ch0, oI ch1, oI ch2, oU, oU, oU, oU, oU, oU] [(.ref b1)])) st1 ?_
    refine Wp.st (S' := T1.setTop (mkF m 67 #[oI x1, oI x2, oI x3, oI x4, oI (0 : Int32), oI ch0, oI ch1, oI ch2, oU, oU, oU, oU, oU, oU] [(.ref b1)])) (fun tt_ kk_ => XS.goto X1.here hx rfl (pc0 := 37) (pc' := 67) rfl (hb hby at_37) (by decide) (by decide) kk_) ?_
    refine Wp.st (S' := T1.setTop (mkF m 69 #[oI x1, oI x2, oI x3, oI x4, oI (0 : Int32), oI ch0, oI ch1, oI ch2, oR b1, oU, oU, oU, oU, oU] [])) (fun tt_ kk_ => XS.astore X1.here hx rfl (hb hby at_67) rfl rfl (l' := #[oI x1, oI x2, oI x3, oI x4, oI (0 : Int32), oI ch0, oI ch1, oI ch2, oR b1, oU, oU, oU, oU, oU]) rfl kk_) ?_
    refine Wp.st (S' := T1.setTop (mkF m 71 #[oI x1, oI x2, oI x3, oI x4, oI (0 : Int32), oI ch0, oI ch1, oI ch2, oR b1, oU, oU, oU, oU, oU] [(.int (0 : Int32))])) (fun tt_ kk_ => XS.iload X1.here hx rfl (hb hby at_69) rfl  kk_) ?_
    refine Wp.st (S' := T1.setTop (mkF m 74 #[oI x1, oI x2, oI x3, oI x4, oI (0 : Int32), oI ch0, oI ch1, oI ch2, oR b1, oU, oU, oU, oU, oU] [])) (fun tt_ kk_ => XS.ifNo X1.here hx rfl (hb hby at_71) rfl ((if0 _ _).trans (teq ((by decide) : (0 : Int32) = (0 : Int32))).2) kk_) ?_
    refine Wp.st (S' := T1.setTop (mkF m 76 #[oI x1, oI x2, oI x3, oI x4, oI (0 : Int32), oI ch0, oI ch1, oI ch2, oR b1, oU, oU, oU, oU, oU] [(.int (34 : Int32))])) (fun tt_ kk_ => XS.bipush X1.here hx rfl (hb hby at_74) kk_) ?_
    obtain ⟨T6, h6, k6, X6, e6, E6, A6, st6⟩ := newP X1 hx hZ (hw _ (List.mem_of_getElem? (i := 0) rfl)) e1 (g := (mkF m 76 #[oI x1, oI x2, oI x3, oI x4, oI (0 : Int32), oI ch0, oI ch1, oI ch2, oR b1, oU, oU, oU, oU, oU] [(.int (34 : Int32))])) rfl (hb hby at_76) rfl (by decide) (cap := 34) (by decide) (by decide) (by decide) (by decide)
    obtain ⟨b6, g6⟩ : ∃ z, z = h1.size := ⟨_, rfl⟩
    rw [← g6] at A6 st6
    have z7 := E6.1
    have Sf8 := Safe.ext E6 CC3.1 Sf5
    have CC9 := CC3.trans (CHr.ext E6 CC3.1)
    have V6 : Arv Z h6 b6 k6 .char (34 : Int32) [(.int (0 : Int32)), (.int (0 : Int32)), (.int (0 : Int32)), (.int (0 : Int32)), (.int (0 : Int32)), (.int (0 : Int32)), (.int (0 : Int32)), (.int (0 : Int32)), (.int (0 : Int32)), (.int (0 : Int32)), (.int (0 : Int32)), (.int (0 : Int32)), (.int (0 : Int32)), (.int (0 : Int32)), (.int (0 : Int32)), (.int (0 : Int32)), (.int (0 : Int32)), (.int (0 : Int32)), (.int (0 : Int32)), (.int (0 : Int32)), (.int (0 : Int32)), (.int (0 : Int32)), (.int (0 : Int32)), (.int (0 : Int32)), (.int (0 : Int32)), (.int (0 : Int32)), (.int (0 : Int32)), (.int (0 : Int32)), (.int (0 : Int32)), (.int (0 : Int32)), (.int (0 : Int32)), (.int (0 : Int32)), (.int (0 : Int32)), (.int (0 : Int32))] (.int (0 : Int32)) := (Arv.new A6 (by decide)).pad (pad_rep [] (.int (0 : Int32)) 34)
    have g10 : n0 ≤ b6 := Nat.le_trans (Nat.le_trans Z0 z2) (Nat.le_of_eq g6.symm)
    have Sf11 := Safe.ext E6 CC3.1 (Safe.new (x := b6) (Nat.le_of_eq g6.symm))
    refine Wp.st (S' := T6.setTop (mkF m 78 #[oI x1, oI x2, oI x3, oI x4, oI (0 : Int32), oI ch0, oI ch1, oI ch2, oR b1, oU, oU, oU, oU, oU] [(.ref b6)])) st6 ?_
    refine Wp.st (S' := T6.setTop (mkF m 111 #[oI x1, oI x2, oI x3, oI x4, oI (0 : Int32), oI ch0, oI ch1, oI ch2, oR b1, oU, oU, oU, oU, oU] [(.ref b6)])) (fun tt_ kk_ => XS.goto X6.here hx rfl (pc0 := 78) (pc' := 111) rfl (hb hby at_78) (by decide) (by decide) kk_) ?_
    refine Wp.st (S' := T6.setTop (mkF m 113 #[oI x1, oI x2, oI x3, oI x4, oI (0 : Int32), oI ch0, oI ch1, oI ch2, oR b1, oR b6, oU, oU, oU, oU] [])) (fun tt_ kk_ => XS.astore X6.here hx rfl (hb hby at_111) rfl rfl (l' := #[oI x1, oI x2, oI x3, oI x4, oI (0 : Int32), oI ch0, oI ch1, oI ch2, oR b1, oR b6, oU, oU, oU, oU]) rfl kk_) ?_
    refine Wp.st (S' := T6.setTop (mkF m 115 #[oI x1, oI x2, oI x3, oI x4, oI (0 : Int32), oI ch0, oI ch1, oI ch2, oR b1, oR b6, oU, oU, oU, oU] [(.int (0 : Int32))])) (fun tt_ kk_ => XS.iload X6.here hx rfl (hb hby at_113) rfl  kk_) ?_
    refine Wp.st (S' := T6.setTop (mkF m 131 #[oI x1, oI x2, oI x3, oI x4, oI (0 : Int32), oI ch0, oI ch1, oI ch2, oR b1, oR b6, oU, oU, oU, oU] [])) (fun tt_ kk_ => XS.ifYes X6.here hx rfl (pc0 := 115) (pc' := 131) rfl (hb hby at_115) rfl ((if0 _ _).trans (flt ((by decide) : ¬ ((0 : Int32) < (0 : Int32)))).2.2.2) (by decide) (by decide) kk_) ?_
    refine Wp.st (S' := T6.setTop (mkF m 133 #[oI x1, oI x2, oI x3, oI x4, oI (0 : Int32), oI ch0, oI ch1, oI ch2, oR b1, oR b6, oU, oU, oU, oU] [(.int (0 : Int32))])) (fun tt_ kk_ => XS.iload X6.here hx rfl (hb hby at_131) rfl  kk_) ?_
    refine Wp.st (S' := T6.setTop (mkF m 134 #[oI x1, oI x2, oI x3, oI x4, oI (0 : Int32), oI ch0, oI ch1, oI ch2, oR b1, oR b6, oU, oU, oU, oU] [(.int (1 : Int32)), (.int (0 : Int32))])) (fun tt_ kk_ => XS.iconst X6.here hx rfl (hb hby at_133) kk_) ?_
    refine Wp.st (S' := T6.setTop (mkF m 150 #[oI x1, oI x2, oI x3, oI x4, oI (0 : Int32), oI ch0, oI ch1, oI ch2, oR b1, oR b6, oU, oU, oU, oU] [])) (fun tt_ kk_ => XS.icmpYes X6.here hx rfl (pc0 := 134) (pc' := 150) rfl (hb hby at_134) rfl (flt ((by decide) : ¬ ((1 : Int32) < (0 : Int32)))).2.2.2 (by decide) (by decide) kk_) ?_
    refine Wp.st (S' := T6.setTop (mkF m 152 #[oI x1, oI x2, oI x3, oI x4, oI (0 : Int32), oI ch0, oI ch1, oI ch2, oR b1, oR b6, oU, oU, oU, oU] [(.int (0 : Int32))])) (fun tt_ kk_ => XS.iload X6.here hx rfl (hb hby at_150) rfl  kk_) ?_
    refine Wp.st (S' := T6.setTop (mkF m 153 #[oI x1, oI x2, oI x3, oI x4, oI (0 : Int32), oI ch0, oI ch1, oI ch2, oR b1, oR b6, oU, oU, oU, oU] [(.int (2 : Int32)), (.int (0 : Int32))])) (fun tt_ kk_ => XS.iconst X6.here hx rfl (hb hby at_152) kk_) ?_
    refine Wp.st (S' := T6.setTop (mkF m 169 #[oI x1, oI x2, oI x3, oI x4, oI (0 : Int32), oI ch0, oI ch1, oI ch2, oR b1, oR b6, oU, oU, oU, oU] [])) (fun tt_ kk_ => XS.icmpYes X6.here hx rfl (pc0 := 153) (pc' := 169) rfl (hb hby at_153) rfl (flt ((by decide) : ¬ ((2 : Int32) < (0 : Int32)))).2.2.2 (by decide) (by decide) kk_) ?_
    refine Wp.st (S' := T6.setTop (mkF m 171 #[oI x1, oI x2, oI x3, oI x4, oI (0 : Int32), oI ch0, oI ch1, oI ch2, oR b1, oR b6, oU, oU, oU, oU] [(.ref b6)])) (fun tt_ kk_ => XS.aload X6.here hx rfl (hb hby at_169) rfl rfl kk_) ?_
    refine Wp.st (S' := T6.setTop (mkF m 172 #[oI x1, oI x2, oI x3, oI x4, oI (0 : Int32), oI ch0, oI ch1, oI ch2, oR b1, oR b6, oU, oU, oU, oU] [(.int (0 : Int32)), (.ref b6)])) (fun tt_ kk_ => XS.iconst X6.here hx rfl (hb hby at_171) kk_) ?_
    refine Wp.st (S' := T6.setTop (mkF m 174 #[oI x1, oI x2, oI x3, oI x4, oI (0 : Int32), oI ch0, oI ch1, oI ch2, oR b1, oR b6, oU, oU, oU, oU] [(.int (108 : Int32)), (.int (0 : Int32)), (.ref b6)])) (fun tt_ kk_ => XS.bipush X6.here hx rfl (hb hby at_172) kk_) ?_
    obtain ⟨cl12, Ar12, q12, S12, N12, H12, G12⟩ := id V6
    have hin12 := inb_of (j := (0 : Int32)) S12 ⟨by decide, by decide⟩
    obtain ⟨T12, h12, X12, e12, W12, st12⟩ := stC X6 hx hZ e6 Ar12 (j := (0 : Int32)) hin12 (g := (mkF m 174 #[oI x1, oI x2, oI x3, oI x4, oI (0 : Int32), oI ch0, oI ch1, oI ch2, oR b1, oR b6, oU, oU, oU, oU] [(.int (108 : Int32)), (.int (0 : Int32)), (.ref b6)])) rfl rfl (hb hby at_174)
    have z13 := Nat.le_of_eq W12.size.symm
    have Sf14 := Safe.wr W12 (Safe.arv hZ.alike V6 (by decide)) CC9.1 Sf8
    have Sf15 := Safe.wr W12 (Safe.arv hZ.alike V6 (by decide)) CC9.1 Sf11
    have CC16 := CC9.trans (CHr.wr W12 (Safe.arv hZ.alike V6 (by decide)) CC9.1)
    have V12 : Arv Z h12 b6 k6 .char (34 : Int32) [(.int (108 : Int32)), (.int (0 : Int32)), (.int (0 : Int32)), (.int (0 : Int32)), (.int (0 : Int32)), (.int (0 : Int32)), (.int (0 : Int32)), (.int (0 : Int32)), (.int (0 : Int32)), (.int (0 : Int32)), (.int (0 : Int32)), (.int (0 : Int32)), (.int (0 : Int32)), (.int (0 : Int32)), (.int (0 : Int32)), (.int (0 : Int32)), (.int (0 : Int32)), (.int (0 : Int32)), (.int (0 : Int32)), (.int (0 : Int32)), (.int (0 : Int32)), (.int (0 : Int32)), (.int (0 : Int32)), (.int (0 : Int32)), (.int (0 : Int32)), (.int (0 : Int32)), (.int (0 : Int32)), (.int (0 : Int32)), (.int (0 : Int32)), (.int (0 : Int32)), (.int (0 : Int32)), (.int (0 : Int32)), (.int (0 : Int32)), (.int (0 : Int32))] (.int (0 : Int32)) := Arv.set Ar12 q12 S12 N12 H12 G12 rfl W12 0 rfl (Nat.le_of_ble_eq_true rfl)
    have Nf12 := Fr.snoc X12 N0 g10
    refine Wp.st (S' := T12.setTop (mkF m 175 #[oI x1, oI x2, oI x3, oI x4, oI (0 : Int32), oI ch0, oI ch1, oI ch2, oR b1, oR b6, oU, oU, oU, oU] [])) st12 ?_
    refine Wp.st (S' := T12.setTop (mkF m 177 #[oI x1, oI x2, oI x3, oI x4, oI (0 : Int32), oI ch0, oI ch1, oI ch2, oR b1, oR b6, oU, oU, oU, oU] [(.ref b6)])) (fun tt_ kk_ => XS.aload X12.here hx rfl (hb hby at_175) rfl rfl kk_) ?_
    refine Wp.st (S' := T12.setTop (mkF m 178 #[oI x1, oI x2, oI x3, oI x4, oI (0 : Int32), oI ch0, oI ch1, oI ch2, oR b1, oR b6, oU, oU, oU, oU] [(.int (1 : Int32)), (.ref b6)])) (fun tt_ kk_ => XS.iconst X12.here hx rfl (hb hby at_177) kk_) ?_
    refine Wp.st (S' := T12.setTop (mkF m 180 #[oI x1, oI x2, oI x3, oI x4, oI (0 : Int32), oI ch0, oI ch1, oI ch2, oR b1, oR b6, oU, oU, oU, oU] [(.int (111 : Int32)), (.int (1 : Int32)), (.ref b6)])) (fun tt_ kk_ => XS.bipush X12.here hx rfl (hb hby at_178) kk_) ?_
    obtain ⟨cl17, Ar17, q17, S17, N17, H17, G17⟩ := id V12
    have hin17 := inb_of (j := (1 : Int32)) S17 ⟨by decide, by decide⟩
    obtain ⟨T17, h17, X17, e17, W17, st17⟩ := stC X12 hx hZ e12 Ar17 (j := (1 : Int32)) hin17 (g := (mkF m 180 #[oI x1, oI x2, oI x3, oI x4, oI (0 : Int32), oI ch0, oI ch1, oI ch2, oR b1, oR b6, oU, oU, oU, oU] [(.int (111 : Int32)), (.int (1 : Int32)), (.ref b6)])) rfl rfl (hb hby at_180)
    have z18 := Nat.le_of_eq W17.size.symm
    have Sf19 := Safe.wr W17 (Safe.arv hZ.alike V12 (by decide)) CC16.1 Sf14
    have Sf20 := Safe.wr W17 (Safe.arv hZ.alike V12 (by decide)) CC16.1 Sf15
    have CC21 := CC16.trans (CHr.wr W17 (Safe.arv hZ.alike V12 (by decide)) CC16.1)
    have V17 : Arv Z h17 b6 k6 .char (34 : Int32) [(.int (108 : Int32)), (.int (111 : Int32)), (.int (0 : Int32)), (.int (0 : Int32)), (.int (0 : Int32)), (.int (0 : Int32)), (.int (0 : Int32)), (.int (0 : Int32)), (.int (0 : Int32)), (.int (0 : Int32)), (.int (0 : Int32)), (.int (0 : Int32)), (.int (0 : Int32)), (.int (0 : Int32)), (.int (0 : Int32)), (.int (0 : Int32)), (.int (0 : Int32)), (.int (0 : Int32)), (.int (0 : Int32)), (.int (0 : Int32)), (.int (0 : Int32)), (.int (0 : Int32)), (.int (0 : Int32)), (.int (0 : Int32)), (.int (0 : Int32)), (.int (0 : Int32)), (.int (0 : Int32)), (.int (0 : Int32)), (.int (0 : Int32)), (.int (0 : Int32)), (.int (0 : Int32)), (.int (0 : Int32)), (.int (0 : Int32)), (.int (0 : Int32))] (.int (0 : Int32)) := Arv.set Ar17 q17 S17 N17 H17 G17 rfl W17 1 rfl (Nat.le_of_ble_eq_true rfl)
    have Nf17 := Fr.snoc X17 Nf12 g10
    refine Wp.st (S' := T17.setTop (mkF m 181 #[oI x1, oI x2, oI x3, oI x4, oI (0 : Int32), oI ch0, oI ch1, oI ch2, oR b1, oR b6, oU, oU, oU, oU] [])) st17 ?_
    refine Wp.st (S' := T17.setTop (mkF m 183 #[oI x1, oI x2, oI x3, oI x4, oI (0 : Int32), oI ch0, oI ch1, oI ch2, oR b1, oR b6, oU, oU, oU, oU] [(.ref b6)])) (fun tt_ kk_ => XS.aload X17.here hx rfl (hb hby at_181) rfl rfl kk_) ?_
    refine Wp.st (S' := T17.setTop (mkF m 184 #[oI x1, oI x2, oI x3, oI x4, oI (0 : Int32), oI ch0, oI ch1, oI ch2, oR b1, oR b6, oU, oU, oU, oU] [(.int (2 : Int32)), (.ref b6)])) (fun tt_ kk_ => XS.iconst X17.here hx rfl (hb hby at_183) kk_) ?_
    refine Wp.st (S' := T17.setTop (mkF m 186 #[oI x1, oI x2, oI x3, oI x4, oI (0 : Int32), oI ch0, oI ch1, oI ch2, oR b1, oR b6, oU, oU, oU, oU] [(.int (99 : Int32)), (.int (2 : Int32)), (.ref b6)])) (fun tt_ kk_ => XS.bipush X17.here hx rfl (hb hby at_184) kk_) ?_
    obtain ⟨cl22, Ar22, q22, S22, N22, H22, G22⟩ := id V17
    have hin22 := inb_of (j := (2 : Int32)) S22 ⟨by decide, by decide⟩
    obtain ⟨T22, h22, X22, e22, W22, st22⟩ := stC X17 hx hZ e17 Ar22 (j := (2 : Int32)) hin22 (g := (mkF m 186 #[oI x1, oI x2, oI x3, oI x4, oI (0 : Int32), oI ch0, oI ch1, oI ch2, oR b1, oR b6, oU, oU, oU, oU] [(.int (99 : Int32)), (.int (2 : Int32)), (.ref b6)])) rfl rfl (hb hby at_186)
    have z23 := Nat.le_of_eq W22.size.symm
    have Sf24 := Safe.wr W22 (Safe.arv hZ.alike V17 (by decide)) CC21.1 Sf19
    have Sf25 := Safe.wr W22 (Safe.arv hZ.alike V17 (by decide)) CC21.1 Sf20
    have CC26 := CC21.trans (CHr.wr W22 (Safe.arv hZ.alike V17 (by decide)) CC21.1)
    have V22 : Arv Z h22 b6 k6 .char (34 : Int32) [(.int (108 : Int32)), (.int (111 : Int32)), (.int (99 : Int32)), (.int (0 : Int32)), (.int (0 : Int32)), (.int (0 : Int32)), (.int (0 : Int32)), (.int (0 : Int32)), (.int (0 : Int32)), (.int (0 : Int32)), (.int (0 : Int32)), (.int (0 : Int32)), (.int (0 : Int32)), (.int (0 : Int32)), (.int (0 : Int32)), (.int (0 : Int32)), (.int (0 : Int32)), (.int (0 : Int32)), (.int (0 : Int32)), (.int (0 : Int32)), (.int (0 : Int32)), (.int (0 : Int32)), (.int (0 : Int32)), (.int (0 : Int32)), (.int (0 : Int32)), (.int (0 : Int32)), (.int (0 : Int32)), (.int (0 : Int32)), (.int (0 : Int32)), (.int (0 : Int32)), (.int (0 : Int32)), (.int (0 : Int32)), (.int (0 : Int32)), (.int (0 : Int32))] (.int (0 : Int32)) := Arv.set Ar22 q22 S22 N22 H22 G22 rfl W22 2 rfl (Nat.le_of_ble_eq_true rfl)
    have Nf22 := Fr.snoc X22 Nf17 g10
    refine Wp.st (S' := T22.setTop (mkF m 187 #[oI x1, oI x2, oI x3, oI x4, oI (0 : Int32), oI ch0, oI ch1, oI ch2, oR b1, oR b6, oU, oU, oU, oU] [])) st22 ?_
    refine Wp.st (S' := T22.setTop (mkF m 189 #[oI x1, oI x2, oI x3, oI x4, oI (0 : Int32), oI ch0, oI ch1, oI ch2, oR b1, oR b6, oU, oU, oU, oU] [(.ref b6)])) (fun tt_ kk_ => XS.aload X22.here hx rfl (hb hby at_187) rfl rfl kk_) ?_
    refine Wp.st (S' := T22.setTop (mkF m 190 #[oI x1, oI x2, oI x3, oI x4, oI (0 : Int32), oI ch0, oI ch1, oI ch2, oR b1, oR b6, oU, oU, oU, oU] [(.int (3 : Int32)), (.ref b6)])) (fun tt_ kk_ => XS.iconst X22.here hx rfl (hb hby at_189) kk_) ?_
    refine Wp.st (S' := T22.setTop (mkF m 192 #[oI x1, oI x2, oI x3, oI x4, oI (0 : Int32), oI ch0, oI ch1, oI ch2, oR b1, oR b6, oU, oU, oU, oU] [(.int (107 : Int32)), (.int (3 : Int32)), (.ref b6)])) (fun tt_ kk_ => XS.bipush X22.here hx rfl (hb hby at_190) kk_) ?_
    obtain ⟨cl27, Ar27, q27, S27, N27, H27, G27⟩ := id V22
    have hin27 := inb_of (j := (3 : Int32)) S27 ⟨by decide, by decide⟩
    obtain ⟨T27, h27, X27, e27, W27, st27⟩ := stC X22 hx hZ e22 Ar27 (j := (3 : Int32)) hin27 (g := (mkF m 192 #[oI x1, oI x2, oI x3, oI x4, oI (0 : Int32), oI ch0, oI ch1, oI ch2, oR b1, oR b6, oU, oU, oU, oU] [(.int (107 : Int32)), (.int (3 : Int32)), (.ref b6)])) rfl rfl (hb hby at_192)
    have z28 := Nat.le_of_eq W27.size.symm
    have Sf29 := Safe.wr W27 (Safe.arv hZ.alike V22 (by decide)) CC26.1 Sf24
    have Sf30 := Safe.wr W27 (Safe.arv hZ.alike V22 (by decide)) CC26.1 Sf25
    have CC31 := CC26.trans (CHr.wr W27 (Safe.arv hZ.alike V22 (by decide)) CC26.1)
    have V27 : Arv Z h27 b6 k6 .char (34 : Int32) [(.int (108 : Int32)), (.int (111 : Int32)), (.int (99 : Int32)), (.int (107 : Int32)), (.int (0 : Int32)), (.int (0 : Int32)), (.int (0 : Int32)), (.int (0 : Int32)), (.int (0 : Int32)), (.int (0 : Int32)), (.int (0 : Int32)), (.int (0 : Int32)), (.int (0 : Int32)), (.int (0 : Int32)), (.int (0 : Int32)), (.int (0 : Int32)), (.int (0 : Int32)), (.int (0 : Int32)), (.int (0 : Int32)), (.int (0 : Int32)), (.int (0 : Int32)), (.int (0 : Int32)), (.int (0 : Int32)), (.int (0 : Int32)), (.int (0 : Int32)), (.int (0 : Int32)), (.int (0 : Int32)), (.int (0 : Int32)), (.int (0 : Int32)), (.int (0 : Int32)), (.int (0 : Int32)), (.int (0 : Int32)), (.int (0 : Int32)), (.int (0 : Int32))] (.int (0 : Int32)) := Arv.set Ar27 q27 S27 N27 H27 G27 rfl W27 3 rfl (Nat.le_of_ble_eq_true rfl)
    have Nf27 := Fr.snoc X27 Nf22 g10
    refine Wp.st (S' := T27.setTop (mkF m 193 #[oI x1, oI x2, oI x3, oI x4, oI (0 : Int32), oI ch0, oI ch1, oI ch2, oR b1, oR b6, oU, oU, oU, oU] [])) st27 ?_
    refine Wp.st (S' := T27.setTop (mkF m 195 #[oI x1, oI x2, oI x3, oI x4, oI (0 : Int32), oI ch0, oI ch1, oI ch2, oR b1, oR b6, oU, oU, oU, oU] [(.ref b6)])) (fun tt_ kk_ => XS.aload X27.here hx rfl (hb hby at_193) rfl rfl kk_) ?_
    refine Wp.st (S' := T27.setTop (mkF m 196 #[oI x1, oI x2, oI x3, oI x4, oI (0 : Int32), oI ch0, oI ch1, oI ch2, oR b1, oR b6, oU, oU, oU, oU] [(.int (4 : Int32)), (.ref b6)])) (fun tt_ kk_ => XS.iconst X27.here hx rfl (hb hby at_195) kk_) ?_
    refine Wp.st (S' := T27.setTop (mkF m 198 #[oI x1, oI x2, oI x3, oI x4, oI (0 : Int32), oI ch0, oI ch1, oI ch2, oR b1, oR b6, oU, oU, oU, oU] [(.int (32 : Int32)), (.int (4 : Int32)), (.ref b6)])) (fun tt_ kk_ => XS.bipush X27.here hx rfl (hb hby at_196) kk_) ?_
    obtain ⟨cl32, Ar32, q32, S32, N32, H32, G32⟩ := id V27
    have hin32 := inb_of (j := (4 : Int32)) S32 ⟨by decide, by decide⟩
    obtain ⟨T32, h32, X32, e32, W32, st32⟩ := stC X27 hx hZ e27 Ar32 (j := (4 : Int32)) hin32 (g := (mkF m 198 #[oI x1, oI x2, oI x3, oI x4, oI (0 : Int32), oI ch0, oI ch1, oI ch2, oR b1, oR b6, oU, oU, oU, oU] [(.int (32 : Int32)), (.int (4 : Int32)), (.ref b6)])) rfl rfl (hb hby at_198)
    have z33 := Nat.le_of_eq W32.size.symm
    have Sf34 := Safe.wr W32 (Safe.arv hZ.alike V27 (by decide)) CC31.1 Sf29
    have Sf35 := Safe.wr W32 (Safe.arv hZ.alike V27 (by decide)) CC31.1 Sf30
    have CC36 := CC31.trans (CHr.wr W32 (Safe.arv hZ.alike V27 (by decide)) CC31.1)
    have V32 : Arv Z h32 b6 k6 .char (34 : Int32) [(.int (108 : Int32)), (.int (111 : Int32)), (.int (99 : Int32)), (.int (107 : Int32)), (.int (32 : Int32)), (.int (0 : Int32)), (.int (0 : Int32)), (.int (0 : Int32)), (.int (0 : Int32)), (.int (0 : Int32)), (.int (0 : Int32)), (.int (0 : Int32)), (.int (0 : Int32)), (.int (0 : Int32)), (.int (0 : Int32)), (.int (0 : Int32)), (.int (0 : Int32)), (.int (0 : Int32)), (.int (0 : Int32)), (.int (0 : Int32)), (.int (0 : Int32)), (.int (0 : Int32)), (.int (0 : Int32)), (.int (0 : Int32)), (.int (0 : Int32)), (.int (0 : Int32)), (.int (0 : Int32)), (.int (0 : Int32)), (.int (0 : Int32)), (.int (0 : Int32)), (.int (0 : Int32)), (.int (0 : Int32)), (.int (0 : Int32)), (.int (0 : Int32))] (.int (0 : Int32)) := Arv.set Ar32 q32 S32 N32 H32 G32 rfl W32 4 rfl (Nat.le_of_ble_eq_true rfl)
    have Nf32 := Fr.snoc X32 Nf27 g10
    refine Wp.st (S' := T32.setTop (mkF m 199 #[oI x1, oI x2, oI x3, oI x4, oI (0 : Int32), oI ch0, oI ch1, oI ch2, oR b1, oR b6, oU, oU, oU, oU] [])) st32 ?_
    refine Wp.st (S' := T32.setTop (mkF m 201 #[oI x1, oI x2, oI x3, oI x4, oI (0 : Int32), oI ch0, oI ch1, oI ch2, oR b1, oR b6, oU, oU, oU, oU] [(.ref b6)])) (fun tt_ kk_ => XS.aload X32.here hx rfl (hb hby at_199) rfl rfl kk_) ?_
    refine Wp.st (S' := T32.setTop (mkF m 202 #[oI x1, oI x2, oI x3, oI x4, oI (0 : Int32), oI ch0, oI ch1, oI ch2, oR b1, oR b6, oU, oU, oU, oU] [(.int (5 : Int32)), (.ref b6)])) (fun tt_ kk_ => XS.iconst X32.here hx rfl (hb hby at_201) kk_) ?_
    refine Wp.st (S' := T32.setTop (mkF m 204 #[oI x1, oI x2, oI x3, oI x4, oI (0 : Int32), oI ch0, oI ch1, oI ch2, oR b1, oR b6, oU, oU, oU, oU] [(.int (39 : Int32)), (.int (5 : Int32)), (.ref b6)])) (fun tt_ kk_ => XS.bipush X32.here hx rfl (hb hby at_202) kk_) ?_
    obtain ⟨cl37, Ar37, q37, S37, N37, H37, G37⟩ := id V32
    have hin37 := inb_of (j := (5 : Int32)) S37 ⟨by decide, by decide⟩
    obtain ⟨T37, h37, X37, e37, W37, st37⟩ := stC X32 hx hZ e32 Ar37 (j := (5 : Int32)) hin37 (g := (mkF m 204 #[oI x1, oI x2, oI x3, oI x4, oI (0 : Int32), oI ch0, oI ch1, oI ch2, oR b1, oR b6, oU, oU, oU, oU] [(.int (39 : Int32)), (.int (5 : Int32)), (.ref b6)])) rfl rfl (hb hby at_204)
    have z38 := Nat.le_of_eq W37.size.symm
    have Sf39 := Safe.wr W37 (Safe.arv hZ.alike V32 (by decide)) CC36.1 Sf34
    have Sf40 := Safe.wr W37 (Safe.arv hZ.alike V32 (by decide)) CC36.1 Sf35
    have CC41 := CC36.trans (CHr.wr W37 (Safe.arv hZ.alike V32 (by decide)) CC36.1)
    have V37 : Arv Z h37 b6 k6 .char (34 : Int32) [(.int (108 : Int32)), (.int (111 : Int32)), (.int (99 : Int32)), (.int (107 : Int32)), (.int (32 : Int32)), (.int (39 : Int32)), (.int (0 : Int32)), (.int (0 : Int32)), (.int (0 : Int32)), (.int (0 : Int32)), (.int (0 : Int32)), (.int (0 : Int32)), (.int (0 : Int32)), (.int (0 : Int32)), (.int (0 : Int32)), (.int (0 : Int32)), (.int (0 : Int32)), (.int (0 : Int32)), (.int (0 : Int32)), (.int (0 : Int32)), (.int (0 : Int32)), (.int (0 : Int32)), (.int (0 : Int32)), (.int (0 : Int32)), (.int (0 : Int32)), (.int (0 : Int32)), (.int (0 : Int32)), (.int (0 : Int32)), (.int (0 : Int32)), (.int (0 : Int32)), (.int (0 : Int32)), (.int (0 : Int32)), (.int (0 : Int32)), (.int (0 : Int32))] (.int (0 : Int32)) := Arv.set Ar37 q37 S37 N37 H37 G37 rfl W37 5 rfl (Nat.le_of_ble_eq_true rfl)
    have Nf37 := Fr.snoc X37 Nf32 g10
    refine Wp.st (S' := T37.setTop (mkF m 205 #[oI x1, oI x2, oI x3, oI x4, oI (0 : Int32), oI ch0, oI ch1, oI ch2, oR b1, oR b6, oU, oU, oU, oU] [])) st37 ?_
    refine Wp.st (S' := T37.setTop (mkF m 207 #[oI x1, oI x2, oI x3, oI x4, oI (0 : Int32), oI ch0, oI ch1, oI ch2, oR b1, oR b6, oU, oU, oU, oU] [(.ref b6)])) (fun tt_ kk_ => XS.aload X37.here hx rfl (hb hby at_205) rfl rfl kk_) ?_
    refine Wp.st (S' := T37.setTop (mkF m 209 #[oI x1, oI x2, oI x3, oI x4, oI (0 : Int32), oI ch0, oI ch1, oI ch2, oR b1, oR b6, oU, oU, oU, oU] [(.int (6 : Int32)), (.ref b6)])) (fun tt_ kk_ => XS.bipush X37.here hx rfl (hb hby at_207) kk_) ?_
    refine Wp.st (S' := T37.setTop (mkF m 211 #[oI x1, oI x2, oI x3, oI x4, oI (0 : Int32), oI ch0, oI ch1, oI ch2, oR b1, oR b6, oU, oU, oU, oU] [(.int (0 : Int32)), (.int (6 : Int32)), (.ref b6)])) (fun tt_ kk_ => XS.iload X37.here hx rfl (hb hby at_209) rfl  kk_) ?_
    refine Wp.st (S' := T37.setTop (mkF m 212 #[oI x1, oI x2, oI x3, oI x4, oI (0 : Int32), oI ch0, oI ch1, oI ch2, oR b1, oR b6, oU, oU, oU, oU] [(.int ((6 : Int32) + (0 : Int32))), (.ref b6)])) (fun tt_ kk_ => XS.iadd X37.here hx rfl (hb hby at_211) rfl kk_) ?_
    rw [(by decide : ((6 : Int32) + (0 : Int32)) = (6 : Int32))]
    obtain ⟨vv42, _, ⟨T42, L42, k42, n42⟩, -, X42, ⟨Lc42, hQ42, l42, y42, z42⟩, st42⟩ := Jvm.LawKit.callS X37 hx (y := (⟨"com/example/mortise_lock/mortiselock/redis/RedisCallExceptionClosedPinLaw", "putSuffix", "([CI)V"⟩ : MethodName)) hown (mvT hZ (hw _ (List.mem_of_getElem? (i := 1) rfl))) (mvT hZ (hw _ (List.mem_of_getElem? (i := 2) rfl))) (mvT hZ (hw _ (List.mem_of_getElem? (i := 3) rfl))) (mvT hZ (hw _ (List.mem_of_getElem? (i := 4) rfl))) (by decide) (backOf (W := 0) (rm1 l Z a0 hw [] b6 (6 : Int32) k6 (34 : Int32) [(.int (108 : Int32)), (.int (111 : Int32)), (.int (99 : Int32)), (.int (107 : Int32)), (.int (32 : Int32)), (.int (39 : Int32)), (.int (0 : Int32)), (.int (0 : Int32)), (.int (0 : Int32)), (.int (0 : Int32)), (.int (0 : Int32)), (.int (0 : Int32)), (.int (0 : Int32)), (.int (0 : Int32)), (.int (0 : Int32)), (.int (0 : Int32)), (.int (0 : Int32)), (.int (0 : Int32)), (.int (0 : Int32)), (.int (0 : Int32)), (.int (0 : Int32)), (.int (0 : Int32)), (.int (0 : Int32)), (.int (0 : Int32)), (.int (0 : Int32)), (.int (0 : Int32)), (.int (0 : Int32)), (.int (0 : Int32)), (.int (0 : Int32)), (.int (0 : Int32)), (.int (0 : Int32)), (.int (0 : Int32)), (.int (0 : Int32)), (.int (0 : Int32))] h37 n0 (Nat.le_trans Z0 (Nat.le_trans (Nat.le_trans (Nat.le_trans (Nat.le_trans (Nat.le_trans (Nat.le_trans (Nat.le_trans z2 z7) z13) z18) z23) z28) z33) z38)) g10 V37 ((by decide) : 0 ≤ (6 : Int32).toInt ∧ (6 : Int32).toInt ≤ 9 ∧ (6 : Int32).toInt + 28 = (34 : Int32).toInt) ((by show (6 : Int32).toNatClampNeg + 28 ≤ 34; decide) : (6 : Int32).toNatClampNeg + 28 ≤ [(.int (108 : Int32)), (.int (111 : Int32)), (.int (99 : Int32)), (.int (107 : Int32)), (.int (32 : Int32)), (.int (39 : Int32)), (.int (0 : Int32)), (.int (0 : Int32)), (.int (0 : Int32)), (.int (0 : Int32)), (.int (0 : Int32)), (.int (0 : Int32)), (.int (0 : Int32)), (.int (0 : Int32)), (.int (0 : Int32)), (.int (0 : Int32)), (.int (0 : Int32)), (.int (0 : Int32)), (.int (0 : Int32)), (.int (0 : Int32)), (.int (0 : Int32)), (.int (0 : Int32)), (.int (0 : Int32)), (.int (0 : Int32)), (.int (0 : Int32)), (.int (0 : Int32)), (.int (0 : Int32)), (.int (0 : Int32)), (.int (0 : Int32)), (.int (0 : Int32)), (.int (0 : Int32)), (.int (0 : Int32)), (.int (0 : Int32)), (.int (0 : Int32))].length)) hZ (hw _ (List.mem_of_getElem? (i := 4) rfl)) (hw _ (List.mem_of_getElem? (i := 3) rfl)) (by decide) (by decide)) (g := (mkF m 212 #[oI x1, oI x2, oI x3, oI x4, oI (0 : Int32), oI ch0, oI ch1, oI ch2, oR b1, oR b6, oU, oU, oU, oU] [(.int (6 : Int32)), (.ref b6)])) rfl (by rw [hml]; rfl) (argsL := [(.ref b6), (.int (6 : Int32))]) (rest := []) (lenOf pd_21 rfl) rfl (by show 2 * 0 + _ ≤ _; exact Nat.le_of_eq rfl) (hb hby at_212) (fun _ _ => ⟨rfl, e37, (by decide : 2 + 0 ≤ _), (by decide : 34 + 0 ≤ _)⟩)
    dsimp only [Pt.U, Pt.locs, Pt.cells, Pt.slots] at X42 l42 y42 z42 st42 hQ42
    subst l42 y42 z42
    obtain ⟨rfl, Nq42, K42, P42_0⟩ := hQ42
    have N42 := Fr.app Nf37 Nq42
    have F43 := ThS.ext E1 PT
    have F44 := ThS.ext E6 F43
    have F45 := ThS.wr W12 F44
    have F46 := ThS.wr W17 F45
    have F47 := ThS.wr W22 F46
    have F48 := ThS.wr W27 F47
    have F49 := ThS.wr W32 F48
    have F50 := ThS.wr W37 F49
    have Th51 := ThS.keep K42 (nsS (Arv.nostat V37) ns0) F50
    have z52 := K42.1
    have Sf53 := Safe.keep K42 (sfS (Safe.arv hZ.alike V37 (by decide)) sf0) CC41.1 Sf39
    have Sf54 := Safe.keep K42 (sfS (Safe.arv hZ.alike V37 (by decide)) sf0) CC41.1 Sf40
    have CC55 := CC41.trans (CHr.keep K42 (sfS (Safe.arv hZ.alike V37 (by decide)) sf0) CC41.1)
    have e42 : T42.heap = T42.heap := rfl
    refine Wp.st (S' := T42.setTop (mkF m 215 #[oI x1, oI x2, oI x3, oI x4, oI (0 : Int32), oI ch0, oI ch1, oI ch2, oR b1, oR b6, oU, oU, oU, oU] [])) st42 ?_
    have Ve : Arv Z T42.heap b6 k6 .char (34 : Int32) [(.int (108 : Int32)), (.int (111 : Int32)), (.int (99 : Int32)), (.int (107 : Int32)), (.int (32 : Int32)), (.int (39 : Int32)), (.int (39 : Int32)), (.int (58 : Int32)), (.int (32 : Int32)), (.int (105 : Int32)), (.int (116 : Int32)), (.int (115 : Int32)), (.int (32 : Int32)), (.int (77 : Int32)), (.int (111 : Int32)), (.int (114 : Int32)), (.int (116 : Int32)), (.int (105 : Int32)), (.int (115 : Int32)), (.int (101 : Int32)), (.int (76 : Int32)), (.int (111 : Int32)), (.int (99 : Int32)), (.int (107 : Int32)), (.int (32 : Int32)), (.int (105 : Int32)), (.int (115 : Int32)), (.int (32 : Int32)), (.int (99 : Int32)), (.int (108 : Int32)), (.int (111 : Int32)), (.int (115 : Int32)), (.int (101 : Int32)), (.int (100 : Int32))] (.int (0 : Int32)) := own_arv (own_pt0) P42_0
    obtain ⟨T56, h56, X56, e56, E56, A56, D56, U56, st56⟩ := newO X42 hx hZ hown (hw _ (List.mem_of_getElem? (i := 5) rfl)) (hw _ (List.mem_of_getElem? (i := 6) rfl)) (hw _ (List.mem_of_getElem? (i := 7) rfl)) e42 (g := (mkF m 215 #[oI x1, oI x2, oI x3, oI x4, oI (0 : Int32), oI ch0, oI ch1, oI ch2, oR b1, oR b6, oU, oU, oU, oU] [])) rfl (hb hby at_215) (by decide) (by decide)
    obtain ⟨b56, g56⟩ : ∃ z, z = T42.heap.size := ⟨_, rfl⟩
    rw [← g56] at A56 D56 U56 st56
    have z57 := E56.1
    have Sf58 := Safe.ext E56 CC55.1 Sf53
    have Sf59 := Safe.ext E56 CC55.1 Sf54
    have CC60 := CC55.trans (CHr.ext E56 CC55.1)
    have g61 : n0 ≤ b56 := Nat.le_trans (Nat.le_trans Z0 (Nat.le_trans (Nat.le_trans (Nat.le_trans (Nat.le_trans (Nat.le_trans (Nat.le_trans (Nat.le_trans (Nat.le_trans z2 z7) z13) z18) z23) z28) z33) z38) z52)) (Nat.le_of_eq g56.symm)
    have Sf62 := Safe.ext E56 CC55.1 (Safe.new (x := b56) (Nat.le_of_eq g56.symm))
    have F63 : Fld Z h56 b56 "java/lang/String" "value" "[B" .null := D56 (Or.inr (hw _ (List.mem_of_getElem? (i := 20) rfl))) (ty := (.array .byte)) (by decide)
    have F64 : Fld Z h56 b56 "java/lang/String" "coder" "B" (.int (0 : Int32)) := D56 (Or.inr (hw _ (List.mem_of_getElem? (i := 21) rfl))) (ty := .byte) (by decide)
    refine Wp.st (S' := T56.setTop (mkF m 218 #[oI x1, oI x2, oI x3, oI x4, oI (0 : Int32), oI ch0, oI ch1, oI ch2, oR b1, oR b6, oU, oU, oU, oU] [(.ref b56)])) st56 ?_
    refine Wp.st (S' := T56.setTop (mkF m 219 #[oI x1, oI x2, oI x3, oI x4, oI (0 : Int32), oI ch0, oI ch1, oI ch2, oR b1, oR b6, oU, oU, oU, oU] [(.ref b56), (.ref b56)])) (fun tt_ kk_ => XS.dup X56.here hx rfl (hb hby at_218) rfl rfl kk_) ?_
    refine Wp.st (S' := T56.setTop (mkF m 221 #[oI x1, oI x2, oI x3, oI x4, oI (0 : Int32), oI ch0, oI ch1, oI ch2, oR b1, oR b6, oU, oU, oU, oU] [(.ref b1), (.ref b56), (.ref b56)])) (fun tt_ kk_ => XS.aload X56.here hx rfl (hb hby at_219) rfl rfl kk_) ?_
    have F66 := V1.ext E6
    have F67 := F66.other W12 (Nat.ne_of_lt (Nat.lt_of_lt_of_le V1.lt (Nat.le_trans (Nat.le_refl _) (Nat.le_of_eq g6.symm))))
    have F68 := F67.other W17 (Nat.ne_of_lt (Nat.lt_of_lt_of_le V1.lt (Nat.le_trans (Nat.le_refl _) (Nat.le_of_eq g6.symm))))
    have F69 := F68.other W22 (Nat.ne_of_lt (Nat.lt_of_lt_of_le V1.lt (Nat.le_trans (Nat.le_refl _) (Nat.le_of_eq g6.symm))))
    have F70 := F69.other W27 (Nat.ne_of_lt (Nat.lt_of_lt_of_le V1.lt (Nat.le_trans (Nat.le_refl _) (Nat.le_of_eq g6.symm))))
    have F71 := F70.other W32 (Nat.ne_of_lt (Nat.lt_of_lt_of_le V1.lt (Nat.le_trans (Nat.le_refl _) (Nat.le_of_eq g6.symm))))
    have F72 := F71.other W37 (Nat.ne_of_lt (Nat.lt_of_lt_of_le V1.lt (Nat.le_trans (Nat.le_refl _) (Nat.le_of_eq g6.symm))))
    have F73 := F72.keep K42 (ninS (Nat.ne_of_lt (Nat.lt_of_lt_of_le V1.lt (Nat.le_trans (Nat.le_refl _) (Nat.le_of_eq g6.symm)))) nin0)
    have F74 := F73.ext E56
    obtain ⟨vv65, _, ⟨T65, L65, k65, n65⟩, -, Xq65, sn65, gr65, ⟨Lc65, hQ65, l65, y65, z65, cr65⟩, st65⟩ := X56.specialBackS hx (y := (⟨"java/lang/String", "<init>", "([C)V"⟩ : MethodName)) rfl hown (mvT hZ (hw _ (List.mem_of_getElem? (i := 8) rfl))) (mvT hZ (hw _ (List.mem_of_getElem? (i := 9) rfl))) (mvT hZ (hw _ (List.mem_of_getElem? (i := 10) rfl))) (by decide) (backOfSH (W := 1) (rmE1 l Z a0 hw [] b56 b1 k1 h56 n0 (Nat.le_trans Z0 (Nat.le_trans (Nat.le_trans (Nat.le_trans (Nat.le_trans (Nat.le_trans (Nat.le_trans (Nat.le_trans (Nat.le_trans (Nat.le_trans z2 z7) z13) z18) z23) z28) z33) z38) z52) z57)) g61 A56 F63 F64 F74) hZ (hw _ (List.mem_of_getElem? (i := 10) rfl)) (hw _ (List.mem_of_getElem? (i := 7) rfl)) (by decide) (by decide) hEL CC60.1) (g := (mkF m 221 #[oI x1, oI x2, oI x3, oI x4, oI (0 : Int32), oI ch0, oI ch1, oI ch2, oR b1, oR b6, oU, oU, oU, oU] [(.ref b1), (.ref b56), (.ref b56)])) rfl (by rw [hml]; rfl) (Steps.refl _) (a := b56) (argsL := [(.ref b1)]) (rest := [(.ref b56)]) (lenOf pd_22 rfl) rfl (by show 2 * 0 + _ ≤ _; exact Nat.le_of_eq rfl) (hb hby at_221) (fun _ _ => ⟨rfl, e56, (by decide : 3 + 4 ≤ _), (by decide : 38 + 8 ≤ _)⟩)
    dsimp only [Pt.U, Pt.locs, Pt.cells, Pt.slots] at Xq65 sn65 gr65 l65 y65 z65 st65 hQ65 cr65
    subst l65 y65 z65
    obtain ⟨X65, hS65, hZ65, how65⟩ := rebS hS0 (by rw [e56]; exact (Nat.le_trans (Nat.le_refl _) (Nat.le_trans (Nat.le_trans (Nat.le_trans (Nat.le_trans (Nat.le_trans (Nat.le_trans (Nat.le_trans (Nat.le_trans (Nat.le_trans z2 z7) z13) z18) z23) z28) z33) z38) z52) z57))) Xq65 sn65 gr65 hZ hown
    obtain ⟨b75, c76, rfl, Nq65, K65, P65_0, P65_1, P65_2, P65_3⟩ := hQ65
    have N65 := Fr.app N42 Nq65
    have F77 := ThS.ext E56 Th51
    have Th78 := ThS.keep K65 (nsS (Exa.nostat A56) ns0) F77
    have z79 := K65.1
    have Sf80 := cr65.safe (Nat.lt_of_lt_of_le V1.lt (Nat.le_trans (Nat.le_trans (Nat.le_trans (Nat.le_trans (Nat.le_trans (Nat.le_trans (Nat.le_trans (Nat.le_trans z7 z13) z18) z23) z28) z33) z38) z52) z57)) Sf58
    have Sf81 := cr65.safe (Nat.lt_of_lt_of_le V6.lt (Nat.le_trans (Nat.le_trans (Nat.le_trans (Nat.le_trans (Nat.le_trans (Nat.le_trans (Nat.le_trans z13 z18) z23) z28) z33) z38) z52) z57)) Sf59
    have Sf82 := cr65.safe A56.lt Sf62
    have CC83 := CC60.trans cr65
    have e65 : T65.heap = T65.heap := rfl
    refine Wp.tr (S' := T65.setTop (mkF m 224 #[oI x1, oI x2, oI x3, oI x4, oI (0 : Int32), oI ch0, oI ch1, oI ch2, oR b1, oR b6, oU, oU, oU, oU] [(.ref b56)])) st65 ?_
    refine Wp.st (S' := T65.setTop (mkF m 226 #[oI x1, oI x2, oI x3, oI x4, oI (0 : Int32), oI ch0, oI ch1, oI ch2, oR b1, oR b6, oR b56, oU, oU, oU] [])) (fun tt_ kk_ => XS.astore X65.here hx rfl (hb hby at_224) rfl rfl (l' := #[oI x1, oI x2, oI x3, oI x4, oI (0 : Int32), oI ch0, oI ch1, oI ch2, oR b1, oR b6, oR b56, oU, oU, oU]) rfl kk_) ?_
    obtain ⟨T84, h84, X84, e84, E84, A84, D84, U84, st84⟩ := newO X65 hx hZ65 how65 (hw _ (List.mem_of_getElem? (i := 5) rfl)) (hw _ (List.mem_of_getElem? (i := 6) rfl)) (hw _ (List.mem_of_getElem? (i := 7) rfl)) e65 (g := (mkF m 226 #[oI x1, oI x2, oI x3, oI x4, oI (0 : Int32), oI ch0, oI ch1, oI ch2, oR b1, oR b6, oR b56, oU, oU, oU] [])) rfl (hb hby at_226) (by decide) (by decide)
    obtain ⟨b84, g84⟩ : ∃ z, z = T65.heap.size := ⟨_, rfl⟩
    rw [← g84] at A84 D84 U84 st84
    have z85 := E84.1
    have Sf86 := Safe.ext E84 CC83.1 Sf80
    have Sf87 := Safe.ext E84 CC83.1 Sf81
    have Sf88 := Safe.ext E84 CC83.1 Sf82
    have CC89 := CC83.trans (CHr.ext E84 CC83.1)
    have g90 : n0 ≤ b84 := Nat.le_trans (Nat.le_trans Z0 (Nat.le_trans (Nat.le_trans (Nat.le_trans (Nat.le_trans (Nat.le_trans (Nat.le_trans (Nat.le_trans (Nat.le_trans (Nat.le_trans (Nat.le_trans z2 z7) z13) z18) z23) z28) z33) z38) z52) z57) z79)) (Nat.le_of_eq g84.symm)
    have Sf91 := Safe.ext E84 CC83.1 (Safe.new (x := b84) (Nat.le_of_eq g84.symm))
    have F92 : Fld Z h84 b84 "java/lang/String" "value" "[B" .null := D84 (Or.inr (hw _ (List.mem_of_getElem? (i := 20) rfl))) (ty := (.array .byte)) (by decide)
    have F93 : Fld Z h84 b84 "java/lang/String" "coder" "B" (.int (0 : Int32)) := D84 (Or.inr (hw _ (List.mem_of_getElem? (i := 21) rfl))) (ty := .byte) (by decide)
    refine Wp.st (S' := T84.setTop (mkF m 229 #[oI x1, oI x2, oI x3, oI x4, oI (0 : Int32), oI ch0, oI ch1, oI ch2, oR b1, oR b6, oR b56, oU, oU, oU] [(.ref b84)])) st84 ?_
    refine Wp.st (S' := T84.setTop (mkF m 230 #[oI x1, oI x2, oI x3, oI x4, oI (0 : Int32), oI ch0, oI ch1, oI ch2, oR b1, oR b6, oR b56, oU, oU, oU] [(.ref b84), (.ref b84)])) (fun tt_ kk_ => XS.dup X84.here hx rfl (hb hby at_229) rfl rfl kk_) ?_
    refine Wp.st (S' := T84.setTop (mkF m 232 #[oI x1, oI x2, oI x3, oI x4, oI (0 : Int32), oI ch0, oI ch1, oI ch2, oR b1, oR b6, oR b56, oU, oU, oU] [(.ref b6), (.ref b84), (.ref b84)])) (fun tt_ kk_ => XS.aload X84.here hx rfl (hb hby at_230) rfl rfl kk_) ?_
    have hp95 : ∀ c ∈ ([(108 : Int32), (111 : Int32), (99 : Int32), (107 : Int32), (32 : Int32), (39 : Int32), (39 : Int32), (58 : Int32), (32 : Int32), (105 : Int32), (116 : Int32), (115 : Int32), (32 : Int32), (77 : Int32), (111 : Int32), (114 : Int32), (116 : Int32), (105 : Int32), (115 : Int32), (101 : Int32), (76 : Int32), (111 : Int32), (99 : Int32), (107 : Int32), (32 : Int32), (105 : Int32), (115 : Int32), (32 : Int32), (99 : Int32), (108 : Int32), (111 : Int32), (115 : Int32), (101 : Int32), (100 : Int32)] : List Int32), ¬ c < 0 ∧ ¬ (255 : Int32) < c := (by
          intro c hc
          simp only [List.mem_cons, List.not_mem_nil, or_false] at hc
          rcases hc with rfl | rfl | rfl | rfl | rfl | rfl | rfl | rfl | rfl | rfl | rfl | rfl | rfl | rfl | rfl | rfl | rfl | rfl | rfl | rfl | rfl | rfl | rfl | rfl | rfl | rfl | rfl | rfl | rfl | rfl | rfl | rfl | rfl | rfl
          all_goals first | assumption | decide)
    have F96 := Ve.ext E56
    have F97 := F96.keep K65 (ninS (Nat.ne_of_lt (Nat.lt_of_lt_of_le V6.lt (Nat.le_trans (Nat.le_trans (Nat.le_trans (Nat.le_trans (Nat.le_trans (Nat.le_trans (Nat.le_trans z13 z18) z23) z28) z33) z38) z52) (Nat.le_of_eq g56.symm)))) nin0)
    have F98 := F97.ext E84
    have O99 := O0.ext E1
    have O100 := O99.ext E6
    have O101 := O100.wr W12 g10
    have O102 := O101.wr W17 g10
    have O103 := O102.wr W22 g10
    have O104 := O103.wr W27 g10
    have O105 := O104.wr W32 g10
    have O106 := O105.wr W37 g10
    have O107 := O106.keep K42 (allS g10 all0)
    have O108 := O107.ext E56
    have O109 := O108.keep K65 (allS g61 all0)
    have O110 := O109.ext E84
    obtain ⟨vv94, _, ⟨T94, L94, k94, n94⟩, -, X94, ⟨Lc94, hQ94, l94, y94, z94⟩, st94⟩ := X84.specialBack hx (y := (⟨"java/lang/String", "<init>", "([C)V"⟩ : MethodName)) rfl how65 (mvT hZ65 (hw _ (List.mem_of_getElem? (i := 8) rfl))) (mvT hZ65 (hw _ (List.mem_of_getElem? (i := 9) rfl))) (mvT hZ65 (hw _ (List.mem_of_getElem? (i := 10) rfl))) (by decide) (StrChars.Road.backV (W := 1) hZ65 (fun d hd => hw d ((by decide +kernel : ∀ d ∈ StrChars.Road.words, d ∈ tables_1) d hd)) (kI := 4) (hw _ (List.mem_of_getElem? (i := 6) rfl)) (cs := ([(108 : Int32), (111 : Int32), (99 : Int32), (107 : Int32), (32 : Int32), (39 : Int32), (39 : Int32), (58 : Int32), (32 : Int32), (105 : Int32), (116 : Int32), (115 : Int32), (32 : Int32), (77 : Int32), (111 : Int32), (114 : Int32), (116 : Int32), (105 : Int32), (115 : Int32), (101 : Int32), (76 : Int32), (111 : Int32), (99 : Int32), (107 : Int32), (32 : Int32), (105 : Int32), (115 : Int32), (32 : Int32), (99 : Int32), (108 : Int32), (111 : Int32), (115 : Int32), (101 : Int32), (100 : Int32)] : List Int32)) (bs := (([(108 : Int32), (111 : Int32), (99 : Int32), (107 : Int32), (32 : Int32), (39 : Int32), (39 : Int32), (58 : Int32), (32 : Int32), (105 : Int32), (116 : Int32), (115 : Int32), (32 : Int32), (77 : Int32), (111 : Int32), (114 : Int32), (116 : Int32), (105 : Int32), (115 : Int32), (101 : Int32), (76 : Int32), (111 : Int32), (99 : Int32), (107 : Int32), (32 : Int32), (105 : Int32), (115 : Int32), (32 : Int32), (99 : Int32), (108 : Int32), (111 : Int32), (115 : Int32), (101 : Int32), (100 : Int32)] : List Int32).map (fun c => c.toInt8.toInt32))) (n := 34) g90 (Nat.le_trans Z0 (Nat.le_trans (Nat.le_trans (Nat.le_trans (Nat.le_trans (Nat.le_trans (Nat.le_trans (Nat.le_trans (Nat.le_trans (Nat.le_trans (Nat.le_trans (Nat.le_trans z2 z7) z13) z18) z23) z28) z33) z38) z52) z57) z79) z85)) A84 F92 F93 F98 (SCompact.ext O110.2) hCS rfl rfl (by decide) (by decide) hp95 rfl (by decide) (by decide)) (g := (mkF m 232 #[oI x1, oI x2, oI x3, oI x4, oI (0 : Int32), oI ch0, oI ch1, oI ch2, oR b1, oR b6, oR b56, oU, oU, oU] [(.ref b6), (.ref b84), (.ref b84)])) rfl (by rw [hml]; rfl) (Steps.refl _) (a := b84) (argsL := [(.ref b6)]) (rest := [(.ref b84)]) (lenOf pd_22 rfl) rfl (by show 2 * 0 + _ ≤ _; exact Nat.le_of_eq rfl) (hb hby at_232) (fun _ _ => ⟨rfl, e84, (by decide : 8 + 1 ≤ _), (by decide : 50 + 34 ≤ _)⟩)
    dsimp only [Pt.U, Pt.locs, Pt.cells, Pt.slots] at X94 l94 y94 z94 st94 hQ94
    subst l94 y94 z94
    obtain ⟨rfl, Nq94, K94, Ex94, Co94, t94, kb94, ga94, gb94, gn94, Va94, Av94⟩ := hQ94
    have N94 := Fr.app N65 Nq94
    have F111 := ThS.ext E84 Th78
    have Th112 := ThS.keep K94 (nsS (Exa.nostat A84) ns0) F111
    have z113 := K94.1
    have Sf114 := Safe.keep K94 (sfS Sf91 sf0) CC89.1 Sf86
    have Sf115 := Safe.keep K94 (sfS Sf91 sf0) CC89.1 Sf87
    have Sf116 := Safe.keep K94 (sfS Sf91 sf0) CC89.1 Sf88
    have Sf117 := Safe.keep K94 (sfS Sf91 sf0) CC89.1 Sf91
    have CC118 := CC89.trans (CHr.keep K94 (sfS Sf91 sf0) CC89.1)
    have g119 : n0 ≤ t94 := Nat.le_trans (Nat.le_trans Z0 (Nat.le_trans (Nat.le_trans (Nat.le_trans (Nat.le_trans (Nat.le_trans (Nat.le_trans (Nat.le_trans (Nat.le_trans (Nat.le_trans (Nat.le_trans (Nat.le_trans z2 z7) z13) z18) z23) z28) z33) z38) z52) z57) z79) z85)) gb94
    have e94 : T94.heap = T94.heap := rfl
    refine Wp.tr (S' := T94.setTop (mkF m 235 #[oI x1, oI x2, oI x3, oI x4, oI (0 : Int32), oI ch0, oI ch1, oI ch2, oR b1, oR b6, oR b56, oU, oU, oU] [(.ref b84)])) st94 ?_
    refine Wp.st (S' := T94.setTop (mkF m 237 #[oI x1, oI x2, oI x3, oI x4, oI (0 : Int32), oI ch0, oI ch1, oI ch2, oR b1, oR b6, oR b56, oR b84, oU, oU] [])) (fun tt_ kk_ => XS.astore X94.here hx rfl (hb hby at_235) rfl rfl (l' := #[oI x1, oI x2, oI x3, oI x4, oI (0 : Int32), oI ch0, oI ch1, oI ch2, oR b1, oR b6, oR b56, oR b84, oU, oU]) rfl kk_) ?_
    refine Wp.st (S' := T94.setTop (mkF m 239 #[oI x1, oI x2, oI x3, oI x4, oI (0 : Int32), oI ch0, oI ch1, oI ch2, oR b1, oR b6, oR b56, oR b84, oU, oU] [(.ref b56)])) (fun tt_ kk_ => XS.aload X94.here hx rfl (hb hby at_237) rfl rfl kk_) ?_
    have O121 := O110.keep K94 (allS g90 all0)
    have F122 := P65_0.ext E84
    have F123 := F122.keep K94
    have F124 := P65_1.ext E84
    have F125 := F124.keep K94 (ninS (Nat.ne_of_lt (Nat.lt_of_lt_of_le A56.lt (Nat.le_trans z79 (Nat.le_of_eq g84.symm)))) nin0)
    have F126 := P65_2.ext E84
    have F127 := F126.keep K94 (ninS (Nat.ne_of_lt (Nat.lt_of_lt_of_le A56.lt (Nat.le_trans z79 (Nat.le_of_eq g84.symm)))) nin0)
    have F128 := P65_3.ext E84
    have F129 := F128.keep K94 (ninS (Nat.ne_of_lt (Nat.lt_of_lt_of_le P65_3.lt (Nat.le_trans (Nat.le_refl _) (Nat.le_of_eq g84.symm)))) nin0)
    obtain ⟨vv120, _, ⟨T120, L120, k120, n120⟩, -, Xq120, sn120, gr120, ⟨Lc120, hQ120, l120, y120, z120, cr120⟩, st120⟩ := callSS X94 hx (y := (⟨"com/example/mortise_lock/mortiselock/redis/RedisCallException", "closed", "(Ljava/lang/String;)Lcom/example/mortise_lock/mortiselock/redis/RedisCallException;"⟩ : MethodName)) how65 (mvT hZ65 (hw _ (List.mem_of_getElem? (i := 37) rfl))) (mvT hZ65 (hw _ (List.mem_of_getElem? (i := 38) rfl))) (mvT hZ65 (hw _ (List.mem_of_getElem? (i := 39) rfl))) (mvT hZ65 (hw _ (List.mem_of_getElem? (i := 40) rfl))) (by decide) (backOfSKH (W := 0) (rm8 l Z a0 hw [] b56 zcs b75 c76 (0 : Int32) [] vu vs T94.heap n0 (Nat.le_trans Z0 (Nat.le_trans (Nat.le_trans (Nat.le_trans (Nat.le_trans (Nat.le_trans (Nat.le_trans (Nat.le_trans (Nat.le_trans (Nat.le_trans (Nat.le_trans (Nat.le_trans (Nat.le_trans z2 z7) z13) z18) z23) z28) z33) z38) z52) z57) z79) z85) z113)) O121 SCompact (hCS : ¬ zcs = 0) Th112 ((by assumption) : ∀ d ∈ Jvm.RoadKit.twoRefs, d.before a0 Z = true) ((by assumption) : l.stackTraces = true) SUn SSe hvu hvs F123 F125 F127 F129 ((by simp) : (0 : Int32) = (0 : Int32) ∨ (0 : Int32) = (1 : Int32) ∨ (0 : Int32) = (2 : Int32) ∨ (0 : Int32) = (3 : Int32))) hZ65 (hw _ (List.mem_of_getElem? (i := 40) rfl)) (hw _ (List.mem_of_getElem? (i := 39) rfl)) (by decide) (by decide) hEL CC118.1 (Jvm.Vm.MethodsKnown.alikeC (hZ.alike.symm.trans hZ65.alike) hK.1) (Jvm.Vm.FramesKnown.alikeC (hZ.alike.symm.trans hZ65.alike) hK.2)) (g := (mkF m 239 #[oI x1, oI x2, oI x3, oI x4, oI (0 : Int32), oI ch0, oI ch1, oI ch2, oR b1, oR b6, oR b56, oR b84, oU, oU] [(.ref b56)])) rfl (by rw [hml]; rfl) (argsL := [(.ref b56)]) (rest := []) (lenOf pd_23 rfl) rfl (by show 2 * 0 + _ ≤ _; exact Nat.le_of_eq rfl) (hb hby at_239) (fun _ _ => ⟨rfl, e94, (by decide : 9 + 11 ≤ _), (by decide : 84 + 3000 ≤ _)⟩)
    dsimp only [Pt.U, Pt.locs, Pt.cells, Pt.slots] at Xq120 sn120 gr120 l120 y120 z120 st120 hQ120 cr120
    subst l120 y120 z120
    obtain ⟨X120, hS120, hZ120, how120⟩ := rebS hS65 (by rw [e94]; exact (Nat.le_trans (Nat.le_refl _) (Nat.le_trans z85 z113))) Xq120 sn120 gr120 hZ65 how65
    obtain ⟨b130, b131, b132, c133, rfl, Nq120, K120, P120_0, P120_1, P120_2, P120_3, P120_4, P120_5, P120_6, P120_7⟩ := hQ120
    have N120 := Fr.app N94 Nq120
    have Th134 := ThS.keep K120 ns0 Th112
    have z135 := K120.1
    have Sf136 := cr120.safe (Nat.lt_of_lt_of_le V1.lt (Nat.le_trans (Nat.le_trans (Nat.le_trans (Nat.le_trans (Nat.le_trans (Nat.le_trans (Nat.le_trans (Nat.le_trans (Nat.le_trans (Nat.le_trans (Nat.le_trans z7 z13) z18) z23) z28) z33) z38) z52) z57) z79) z85) z113)) Sf114
    have Sf137 := cr120.safe (Nat.lt_of_lt_of_le V6.lt (Nat.le_trans (Nat.le_trans (Nat.le_trans (Nat.le_trans (Nat.le_trans (Nat.le_trans (Nat.le_trans (Nat.le_trans (Nat.le_trans (Nat.le_trans z13 z18) z23) z28) z33) z38) z52) z57) z79) z85) z113)) Sf115
    have Sf138 := cr120.safe (Nat.lt_of_lt_of_le A56.lt (Nat.le_trans (Nat.le_trans z79 z85) z113)) Sf116
    have Sf139 := cr120.safe (Nat.lt_of_lt_of_le A84.lt z113) Sf117
    have CC140 := CC118.trans cr120
    have e120 : T120.heap = T120.heap := rfl
    refine Wp.tr (S' := T120.setTop (mkF m 242 #[oI x1, oI x2, oI x3, oI x4, oI (0 : Int32), oI ch0, oI ch1, oI ch2, oR b1, oR b6, oR b56, oR b84, oU, oU] [(.ref b130)])) st120 ?_
    refine Wp.st (S' := T120.setTop (mkF m 244 #[oI x1, oI x2, oI x3, oI x4, oI (0 : Int32), oI ch0, oI ch1, oI ch2, oR b1, oR b6, oR b56, oR b84, oR b130, oU] [])) (fun tt_ kk_ => XS.astore X120.here hx rfl (hb hby at_242) rfl rfl (l' := #[oI x1, oI x2, oI x3, oI x4, oI (0 : Int32), oI ch0, oI ch1, oI ch2, oR b1, oR b6, oR b56, oR b84, oR b130, oU]) rfl kk_) ?_
    refine Wp.st (S' := T120.setTop (mkF m 246 #[oI x1, oI x2, oI x3, oI x4, oI (0 : Int32), oI ch0, oI ch1, oI ch2, oR b1, oR b6, oR b56, oR b84, oR b130, oU] [(.ref b130)])) (fun tt_ kk_ => XS.aload X120.here hx rfl (hb hby at_244) rfl rfl kk_) ?_
    refine Wp.st (S' := T120.setTop (mkF m 251 #[oI x1, oI x2, oI x3, oI x4, oI (0 : Int32), oI ch0, oI ch1, oI ch2, oR b1, oR b6, oR b56, oR b84, oR b130, oU] [])) (fun tt_ kk_ => XS.ifnonnullYes X120.here hx rfl (pc0 := 246) (pc' := 251) rfl (hb hby at_246) rfl (by decide) (by decide) kk_) ?_
    refine Wp.st (S' := T120.setTop (mkF m 253 #[oI x1, oI x2, oI x3, oI x4, oI (0 : Int32), oI ch0, oI ch1, oI ch2, oR b1, oR b6, oR b56, oR b84, oR b130, oU] [(.ref b130)])) (fun tt_ kk_ => XS.aload X120.here hx rfl (hb hby at_251) rfl rfl kk_) ?_
    obtain ⟨cq141, kq141, q141a, q141b, q141c⟩ := isOf hZ120 e120 P120_0
    obtain ⟨vv141, _, ⟨T141, L141, k141, n141⟩, -, X141, ⟨Lc141, hQ141, l141, y141, z141⟩, st141⟩ := X120.virtualBackUp hx (owner := "java/lang/Throwable") (x := (⟨"com/example/mortise_lock/mortiselock/redis/RedisCallException", "getCause", "()Ljava/lang/Throwable;"⟩ : MethodName)) (y := (⟨"java/lang/Throwable", "getCause", "()Ljava/lang/Throwable;"⟩ : MethodName)) how120 (mvT hZ120 (hw _ (List.mem_of_getElem? (i := 232) rfl))) (mvT hZ120 (hw _ (List.mem_of_getElem? (i := 233) rfl))) (mvT hZ120 (hw _ (List.mem_of_getElem? (i := 234) rfl))) (by decide) (mvT hZ120 (hw _ (List.mem_of_getElem? (i := 236) rfl))) (mvT hZ120 (hw _ (List.mem_of_getElem? (i := 235) rfl))) (gcBackPure (rm := ({} : Room)) (W := 0) hZ120 (hw _ (List.mem_of_getElem? (i := 237) rfl)) (hw _ (List.mem_of_getElem? (i := 235) rfl)) (hw _ (List.mem_of_getElem? (i := 193) rfl)) (hw _ (List.mem_of_getElem? (i := 196) rfl)) P120_1 P120_3 rfl (by decide) (by decide)) q141a q141c (g := (mkF m 253 #[oI x1, oI x2, oI x3, oI x4, oI (0 : Int32), oI ch0, oI ch1, oI ch2, oR b1, oR b6, oR b56, oR b84, oR b130, oU] [(.ref b130)])) rfl (by rw [hml]; rfl) (Steps.refl _) (argsL := []) (rest := []) (lenOf pd_24 rfl) rfl (by show 2 * 0 + _ ≤ _; exact Nat.le_of_eq rfl) (hb hby at_253) (fun _ _ => ⟨rfl, e120, (by decide : 20 + 0 ≤ _), (by decide : 3084 + 0 ≤ _)⟩)
    dsimp only [Pt.U, Pt.locs, Pt.cells, Pt.slots] at X141 l141 y141 z141 st141 hQ141
    subst l141 y141 z141
    rw [gcv_null] at Lc141
    subst Lc141
    have e141 := hQ141
    refine Wp.tr (S' := T141.setTop (mkF m 256 #[oI x1, oI x2, oI x3, oI x4, oI (0 : Int32), oI ch0, oI ch1, oI ch2, oR b1, oR b6, oR b56, oR b84, oR b130, oU] [.null])) st141 ?_
    refine Wp.st (S' := T141.setTop (mkF m 261 #[oI x1, oI x2, oI x3, oI x4, oI (0 : Int32), oI ch0, oI ch1, oI ch2, oR b1, oR b6, oR b56, oR b84, oR b130, oU] [])) (fun tt_ kk_ => XS.ifnullYes X141.here hx rfl (pc0 := 256) (pc' := 261) rfl (hb hby at_256) rfl (by decide) (by decide) kk_) ?_
    refine Wp.st (S' := T141.setTop (mkF m 263 #[oI x1, oI x2, oI x3, oI x4, oI (0 : Int32), oI ch0, oI ch1, oI ch2, oR b1, oR b6, oR b56, oR b84, oR b130, oU] [(.ref b130)])) (fun tt_ kk_ => XS.aload X141.here hx rfl (hb hby at_261) rfl rfl kk_) ?_
    obtain ⟨cq142, kq142, q142a, q142b, q142c⟩ := isOf hZ120 e141 P120_0
    obtain ⟨vv142, _, ⟨T142, L142, k142, n142⟩, -, X142, ⟨Lc142, hQ142, l142, y142, z142⟩, st142⟩ := X141.virtualBackUp hx (owner := "java/lang/Throwable") (x := (⟨"com/example/mortise_lock/mortiselock/redis/RedisCallException", "getMessage", "()Ljava/lang/String;"⟩ : MethodName)) (y := (⟨"java/lang/Throwable", "getMessage", "()Ljava/lang/String;"⟩ : MethodName)) how120 (mvT hZ120 (hw _ (List.mem_of_getElem? (i := 238) rfl))) (mvT hZ120 (hw _ (List.mem_of_getElem? (i := 239) rfl))) (mvT hZ120 (hw _ (List.mem_of_getElem? (i := 240) rfl))) (by decide) (mvT hZ120 (hw _ (List.mem_of_getElem? (i := 242) rfl))) (mvT hZ120 (hw _ (List.mem_of_getElem? (i := 241) rfl))) (backOf (W := 0) (rm39 l Z a0 hw [] b130 b131 T120.heap n0 (Nat.le_trans Z0 (Nat.le_trans (Nat.le_trans (Nat.le_trans (Nat.le_trans (Nat.le_trans (Nat.le_trans (Nat.le_trans (Nat.le_trans (Nat.le_trans (Nat.le_trans (Nat.le_trans (Nat.le_trans (Nat.le_trans z2 z7) z13) z18) z23) z28) z33) z38) z52) z57) z79) z85) z113) z135)) P120_2) hZ120 (hw _ (List.mem_of_getElem? (i := 243) rfl)) (hw _ (List.mem_of_getElem? (i := 193) rfl)) (by decide) (by decide)) q142a q142c (g := (mkF m 263 #[oI x1, oI x2, oI x3, oI x4, oI (0 : Int32), oI ch0, oI ch1, oI ch2, oR b1, oR b6, oR b56, oR b84, oR b130, oU] [(.ref b130)])) rfl (by rw [hml]; rfl) (Steps.refl _) (argsL := []) (rest := []) (lenOf pd_19 rfl) rfl (by show 2 * 0 + _ ≤ _; exact Nat.le_of_eq rfl) (hb hby at_263) (fun _ _ => ⟨rfl, e141, (by decide : 20 + 0 ≤ _), (by decide : 3084 + 0 ≤ _)⟩)
    dsimp only [Pt.U, Pt.locs, Pt.cells, Pt.slots] at X142 l142 y142 z142 st142 hQ142
    subst l142 y142 z142
    obtain ⟨rfl, Nq142, e142⟩ := hQ142
    have N142 := Fr.app N120 Nq142
    refine Wp.tr (S' := T142.setTop (mkF m 266 #[oI x1, oI x2, oI x3, oI x4, oI (0 : Int32), oI ch0, oI ch1, oI ch2, oR b1, oR b6, oR b56, oR b84, oR b130, oU] [(.ref b131)])) st142 ?_
    refine Wp.st (S' := T142.setTop (mkF m 268 #[oI x1, oI x2, oI x3, oI x4, oI (0 : Int32), oI ch0, oI ch1, oI ch2, oR b1, oR b6, oR b56, oR b84, oR b130, oR b131] [])) (fun tt_ kk_ => XS.astore X142.here hx rfl (hb hby at_266) rfl rfl (l' := #[oI x1, oI x2, oI x3, oI x4, oI (0 : Int32), oI ch0, oI ch1, oI ch2, oR b1, oR b6, oR b56, oR b84, oR b130, oR b131]) rfl kk_) ?_
    refine Wp.st (S' := T142.setTop (mkF m 270 #[oI x1, oI x2, oI x3, oI x4, oI (0 : Int32), oI ch0, oI ch1, oI ch2, oR b1, oR b6, oR b56, oR b84, oR b130, oR b131] [(.ref b131)])) (fun tt_ kk_ => XS.aload X142.here hx rfl (hb hby at_268) rfl rfl kk_) ?_
    refine Wp.st (S' := T142.setTop (mkF m 275 #[oI x1, oI x2, oI x3, oI x4, oI (0 : Int32), oI ch0, oI ch1, oI ch2, oR b1, oR b6, oR b56, oR b84, oR b130, oR b131] [])) (fun tt_ kk_ => XS.ifnonnullYes X142.here hx rfl (pc0 := 270) (pc' := 275) rfl (hb hby at_270) rfl (by decide) (by decide) kk_) ?_
    have em : own_msg [] (0 : Int32) = (own_P.map Value.int ++ own_bytes [] ++ own_Sf.map Value.int) ++ List.replicate 30 (.int 0) := own_em0
    have eb : own_bytes (own_P ++ [] ++ own_Sf) = own_P.map Value.int ++ own_bytes [] ++ own_Sf.map Value.int := by unfold own_bytes; rw [List.map_append, List.map_append, List.map_append, List.map_append, show own_P.map (fun c => c.toInt8.toInt32) = own_P by decide +kernel, show own_Sf.map (fun c => c.toInt8.toInt32) = own_Sf by decide +kernel]
    have P2 : Arv Z T120.heap b132 c133 .byte (34 : Int32) (own_msg [] (0 : Int32)) (.int (0 : Int32)) := P120_7
    rw [em] at P2
    have Vmm : Arv Z T120.heap b132 c133 .byte (34 : Int32) (own_bytes (own_P ++ [] ++ own_Sf)) (.int (0 : Int32)) := Arv.pad P2 (fun i => by rw [eb]; exact own_padz _ _ i)
    have hlm : (own_P ++ [] ++ own_Sf) = ([(108 : Int32), (111 : Int32), (99 : Int32), (107 : Int32), (32 : Int32), (39 : Int32), (39 : Int32), (58 : Int32), (32 : Int32), (105 : Int32), (116 : Int32), (115 : Int32), (32 : Int32), (77 : Int32), (111 : Int32), (114 : Int32), (116 : Int32), (105 : Int32), (115 : Int32), (101 : Int32), (76 : Int32), (111 : Int32), (99 : Int32), (107 : Int32), (32 : Int32), (105 : Int32), (115 : Int32), (32 : Int32), (99 : Int32), (108 : Int32), (111 : Int32), (115 : Int32), (101 : Int32), (100 : Int32)] : List Int32) := rfl
    have hpm : ∀ c ∈ (own_P ++ [] ++ own_Sf), ¬ c < 0 ∧ ¬ (255 : Int32) < c := by rw [hlm]; exact hp95
    refine Wp.st (S' := T142.setTop (mkF m 277 #[oI x1, oI x2, oI x3, oI x4, oI (0 : Int32), oI ch0, oI ch1, oI ch2, oR b1, oR b6, oR b56, oR b84, oR b130, oR b131] [(.ref b131)])) (fun tt_ kk_ => XS.aload X142.here hx rfl (hb hby at_275) rfl rfl kk_) ?_
    have O144 := O121.keep K120 all0
    obtain ⟨cq143, kq143, q143a, q143b, q143c⟩ := isOf hZ120 e142 P120_4
    obtain ⟨vv143, _, ⟨T143, L143, k143, n143⟩, -, X143, ⟨Lc143, hQ143, l143, y143, z143⟩, st143⟩ := X142.virtualBack hx (y := (⟨"java/lang/String", "length", "()I"⟩ : MethodName)) (z := (⟨"java/lang/String", "length", "()I"⟩ : MethodName)) how120 (mvT hZ120 (hw _ (List.mem_of_getElem? (i := 244) rfl))) (mvT hZ120 (hw _ (List.mem_of_getElem? (i := 73) rfl))) (notFace_of_selects (args := #[]) (mvT hZ120 (hw _ (List.mem_of_getElem? (i := 75) rfl)))) (mvT hZ120 (hw _ (List.mem_of_getElem? (i := 75) rfl))) (mvT hZ120 (hw _ (List.mem_of_getElem? (i := 74) rfl))) (by decide) (backOf (W := 0) (rm13 l Z a0 hw [] b131 zcs b132 c133 (34 : Int32) (own_bytes (own_P ++ [] ++ own_Sf)) T120.heap n0 (Nat.le_trans Z0 (Nat.le_trans (Nat.le_trans (Nat.le_trans (Nat.le_trans (Nat.le_trans (Nat.le_trans (Nat.le_trans (Nat.le_trans (Nat.le_trans (Nat.le_trans (Nat.le_trans (Nat.le_trans (Nat.le_trans z2 z7) z13) z18) z23) z28) z33) z38) z52) z57) z79) z85) z113) z135)) O144 SCompact (hCS : ¬ zcs = 0) P120_4 P120_5 P120_6 Vmm) hZ120 (hw _ (List.mem_of_getElem? (i := 76) rfl)) (hw _ (List.mem_of_getElem? (i := 7) rfl)) (by decide) (by decide)) q143a q143c (g := (mkF m 277 #[oI x1, oI x2, oI x3, oI x4, oI (0 : Int32), oI ch0, oI ch1, oI ch2, oR b1, oR b6, oR b56, oR b84, oR b130, oR b131] [(.ref b131)])) rfl (by rw [hml]; rfl) (Steps.refl _) (argsL := []) (rest := []) (lenOf pd_7 rfl) rfl (by show 2 * 0 + _ ≤ _; exact Nat.le_of_eq rfl) (hb hby at_277) (fun _ _ => ⟨rfl, e142, (by decide : 20 + 0 ≤ _), (by decide : 3084 + 0 ≤ _)⟩)
    dsimp only [Pt.U, Pt.locs, Pt.cells, Pt.slots] at X143 l143 y143 z143 st143 hQ143
    subst l143 y143 z143
    obtain ⟨rfl, Nq143, e143⟩ := hQ143
    have N143 := Fr.app N142 Nq143
    refine Wp.tr (S' := T143.setTop (mkF m 280 #[oI x1, oI x2, oI x3, oI x4, oI (0 : Int32), oI ch0, oI ch1, oI ch2, oR b1, oR b6, oR b56, oR b84, oR b130, oR b131] [(.int (34 : Int32))])) st143 ?_
    refine Wp.st (S' := T143.setTop (mkF m 282 #[oI x1, oI x2, oI x3, oI x4, oI (0 : Int32), oI ch0, oI ch1, oI ch2, oR b1, oR b6, oR b56, oR b84, oR b130, oR b131] [(.int (34 : Int32)), (.int (34 : Int32))])) (fun tt_ kk_ => XS.bipush X143.here hx rfl (hb hby at_280) kk_) ?_
    refine Wp.st (S' := T143.setTop (mkF m 284 #[oI x1, oI x2, oI x3, oI x4, oI (0 : Int32), oI ch0, oI ch1, oI ch2, oR b1, oR b6, oR b56, oR b84, oR b130, oR b131] [(.int (0 : Int32)), (.int (34 : Int32)), (.int (34 : Int32))])) (fun tt_ kk_ => XS.iload X143.here hx rfl (hb hby at_282) rfl  kk_) ?_
    refine Wp.st (S' := T143.setTop (mkF m 285 #[oI x1, oI x2, oI x3, oI x4, oI (0 : Int32), oI ch0, oI ch1, oI ch2, oR b1, oR b6, oR b56, oR b84, oR b130, oR b131] [(.int ((34 : Int32) + (0 : Int32))), (.int (34 : Int32))])) (fun tt_ kk_ => XS.iadd X143.here hx rfl (hb hby at_284) rfl kk_) ?_
    rw [(by decide : ((34 : Int32) + (0 : Int32)) = (34 : Int32))]
    refine Wp.st (S' := T143.setTop (mkF m 288 #[oI x1, oI x2, oI x3, oI x4, oI (0 : Int32), oI ch0, oI ch1, oI ch2, oR b1, oR b6, oR b56, oR b84, oR b130, oR b131] [])) (fun tt_ kk_ => XS.icmpNo X143.here hx rfl (hb hby at_285) rfl (teq ((by decide) : (34 : Int32) = (34 : Int32))).2 kk_) ?_
    refine Wp.st (S' := T143.setTop (mkF m 290 #[oI x1, oI x2, oI x3, oI x4, oI (0 : Int32), oI ch0, oI ch1, oI ch2, oR b1, oR b6, oR b56, oR b84, oR b130, oR b131] [(.ref b131)])) (fun tt_ kk_ => XS.aload X143.here hx rfl (hb hby at_288) rfl rfl kk_) ?_
    refine Wp.st (S' := T143.setTop (mkF m 292 #[oI x1, oI x2, oI x3, oI x4, oI (0 : Int32), oI ch0, oI ch1, oI ch2, oR b1, oR b6, oR b56, oR b84, oR b130, oR b131] [(.ref b84), (.ref b131)])) (fun tt_ kk_ => XS.aload X143.here hx rfl (hb hby at_290) rfl rfl kk_) ?_
    have F146 := Ex94.keep K120
    have F147 := Va94.keep K120 nin0
    have F148 := Co94.keep K120 nin0
    have F149 := Av94.keep K120 nin0
    obtain ⟨cq145, kq145, q145a, q145b, q145c⟩ := isOf hZ120 e143 P120_4
    obtain ⟨vv145, _, ⟨T145, L145, k145, n145⟩, -, X145, ⟨Lc145, hQ145, l145, y145, z145⟩, st145⟩ := X143.virtualBack hx (y := (⟨"java/lang/String", "equals", "(Ljava/lang/Object;)Z"⟩ : MethodName)) (z := (⟨"java/lang/String", "equals", "(Ljava/lang/Object;)Z"⟩ : MethodName)) how120 (mvT hZ120 (hw _ (List.mem_of_getElem? (i := 245) rfl))) (mvT hZ120 (hw _ (List.mem_of_getElem? (i := 246) rfl))) (notFace_of_selects (args := #[]) (mvT hZ120 (hw _ (List.mem_of_getElem? (i := 248) rfl)))) (mvT hZ120 (hw _ (List.mem_of_getElem? (i := 248) rfl))) (mvT hZ120 (hw _ (List.mem_of_getElem? (i := 247) rfl))) (by decide) (StrChars.Road.eqW (W := 0) hZ120 (fun d hd => hw d ((by decide +kernel : ∀ d ∈ StrChars.Road.wordsEq, d ∈ tables_1) d hd)) (kI := 4) (hw _ (List.mem_of_getElem? (i := 6) rfl)) P120_4 P120_5 P120_6 Vmm (own_cod hpm) (own_up hpm) (Nat.le_of_ble_eq_true rfl) F146 F147 F148 F149 (own_cod hp95) (own_up hp95) (Nat.le_of_ble_eq_true rfl) (SCompact.ext O144.2) hCS (by decide) (by decide)) q145a q145c (g := (mkF m 292 #[oI x1, oI x2, oI x3, oI x4, oI (0 : Int32), oI ch0, oI ch1, oI ch2, oR b1, oR b6, oR b56, oR b84, oR b130, oR b131] [(.ref b84), (.ref b131)])) rfl (by rw [hml]; rfl) (Steps.refl _) (argsL := [(.ref b84)]) (rest := []) (lenOf pd_25 rfl) rfl (by show 2 * 0 + _ ≤ _; exact Nat.le_of_eq rfl) (hb hby at_292) (fun _ _ => ⟨rfl, e143, (by decide : 20 + 0 ≤ _), (by decide : 3084 + 0 ≤ _)⟩)
    dsimp only [Pt.U, Pt.locs, Pt.cells, Pt.slots] at X145 l145 y145 z145 st145 hQ145
    subst l145 y145 z145
    obtain ⟨hcase145, rfl, e145⟩ := hQ145
    have hv145 : vv145 = some (.int (if (own_P ++ [] ++ own_Sf) = ([(108 : Int32), (111 : Int32), (99 : Int32), (107 : Int32), (32 : Int32), (39 : Int32), (39 : Int32), (58 : Int32), (32 : Int32), (105 : Int32), (116 : Int32), (115 : Int32), (32 : Int32), (77 : Int32), (111 : Int32), (114 : Int32), (116 : Int32), (105 : Int32), (115 : Int32), (101 : Int32), (76 : Int32), (111 : Int32), (99 : Int32), (107 : Int32), (32 : Int32), (105 : Int32), (115 : Int32), (32 : Int32), (99 : Int32), (108 : Int32), (111 : Int32), (115 : Int32), (101 : Int32), (100 : Int32)] : List Int32) then (1 : Int32) else (0 : Int32))) := by
      rcases hcase145 with ⟨q, r⟩ | ⟨q, r⟩
      · rw [q, if_pos r]
      · rw [q, if_neg r]
    subst hv145
    have N145 := Fr.app N143 (Fr.nil n0)
    refine Wp.tr (S' := T145.setTop (mkF m 295 #[oI x1, oI x2, oI x3, oI x4, oI (0 : Int32), oI ch0, oI ch1, oI ch2, oR b1, oR b6, oR b56, oR b84, oR b130, oR b131] [(.int (if (own_P ++ [] ++ own_Sf) = ([(108 : Int32), (111 : Int32), (99 : Int32), (107 : Int32), (32 : Int32), (39 : Int32), (39 : Int32), (58 : Int32), (32 : Int32), (105 : Int32), (116 : Int32), (115 : Int32), (32 : Int32), (77 : Int32), (111 : Int32), (114 : Int32), (116 : Int32), (105 : Int32), (115 : Int32), (101 : Int32), (76 : Int32), (111 : Int32), (99 : Int32), (107 : Int32), (32 : Int32), (105 : Int32), (115 : Int32), (32 : Int32), (99 : Int32), (108 : Int32), (111 : Int32), (115 : Int32), (101 : Int32), (100 : Int32)] : List Int32) then (1 : Int32) else (0 : Int32)))])) st145 ?_
    rw [(if_pos hlm : (if (own_P ++ [] ++ own_Sf) = ([(108 : Int32), (111 : Int32), (99 : Int32), (107 : Int32), (32 : Int32), (39 : Int32), (39 : Int32), (58 : Int32), (32 : Int32), (105 : Int32), (116 : Int32), (115 : Int32), (32 : Int32), (77 : Int32), (111 : Int32), (114 : Int32), (116 : Int32), (105 : Int32), (115 : Int32), (101 : Int32), (76 : Int32), (111 : Int32), (99 : Int32), (107 : Int32), (32 : Int32), (105 : Int32), (115 : Int32), (32 : Int32), (99 : Int32), (108 : Int32), (111 : Int32), (115 : Int32), (101 : Int32), (100 : Int32)] : List Int32) then (1 : Int32) else (0 : Int32)) = (1 : Int32))]
    refine Wp.st (S' := T145.setTop (mkF m 298 #[oI x1, oI x2, oI x3, oI x4, oI (0 : Int32), oI ch0, oI ch1, oI ch2, oR b1, oR b6, oR b56, oR b84, oR b130, oR b131] [])) (fun tt_ kk_ => XS.ifNo X145.here hx rfl (hb hby at_295) rfl ((if0 _ _).trans (feq ((by decide) : ¬ ((1 : Int32) = (0 : Int32)))).1) kk_) ?_
    refine Wp.st (S' := T145.setTop (mkF m 299 #[oI x1, oI x2, oI x3, oI x4, oI (0 : Int32), oI ch0, oI ch1, oI ch2, oR b1, oR b6, oR b56, oR b84, oR b130, oR b131] [(.int (1 : Int32))])) (fun tt_ kk_ => XS.iconst X145.here hx rfl (hb hby at_298) kk_) ?_
    refine Wp.st (S' := T145.setTop (mkF m 303 #[oI x1, oI x2, oI x3, oI x4, oI (0 : Int32), oI ch0, oI ch1, oI ch2, oR b1, oR b6, oR b56, oR b84, oR b130, oR b131] [(.int (1 : Int32))])) (fun tt_ kk_ => XS.goto X145.here hx rfl (pc0 := 299) (pc' := 303) rfl (hb hby at_299) (by decide) (by decide) kk_) ?_
    have K150 := Keep.refl h0 []
    have K151 := K150.ext E1
    have K152 := K151.ext E6
    have K153 := K152.wr W12 (Or.inr (Nat.le_trans z2 (Nat.le_of_eq g6.symm)))
    have K154 := K153.wr W17 (Or.inr (Nat.le_trans z2 (Nat.le_of_eq g6.symm)))
    have K155 := K154.wr W22 (Or.inr (Nat.le_trans z2 (Nat.le_of_eq g6.symm)))
    have K156 := K155.wr W27 (Or.inr (Nat.le_trans z2 (Nat.le_of_eq g6.symm)))
    have K157 := K156.wr W32 (Or.inr (Nat.le_trans z2 (Nat.le_of_eq g6.symm)))
    have K158 := K157.wr W37 (Or.inr (Nat.le_trans z2 (Nat.le_of_eq g6.symm)))
    have K159 := K158.trans K42 (allS (Or.inr (Nat.le_trans z2 (Nat.le_of_eq g6.symm))) all0)
    have K160 := K159.ext E56
    have K161 := K160.trans K65 (allS (Or.inr (Nat.le_trans (Nat.le_trans (Nat.le_trans (Nat.le_trans (Nat.le_trans (Nat.le_trans (Nat.le_trans (Nat.le_trans (Nat.le_trans z2 z7) z13) z18) z23) z28) z33) z38) z52) (Nat.le_of_eq g56.symm))) all0)
    have K162 := K161.ext E84
    have K163 := K162.trans K94 (allS (Or.inr (Nat.le_trans (Nat.le_trans (Nat.le_trans (Nat.le_trans (Nat.le_trans (Nat.le_trans (Nat.le_trans (Nat.le_trans (Nat.le_trans (Nat.le_trans (Nat.le_trans z2 z7) z13) z18) z23) z28) z33) z38) z52) z57) z79) (Nat.le_of_eq g84.symm))) all0)
    have K164 := K163.trans K120 all0
    exact Wp.retW X145 hlk hS120 (by rw [e145]; exact (Nat.le_refl _)) (v := (some (.int (1 : Int32)))) (fun h => by rw [Bd.returns] at h; cases h) (fun fs hr => retN (z := (1 : Int32)) X145 hx (t := .boolean) Bd.returns (by simp) (hb hby at_303) hr) (by decide) (by decide) (show Q_rm0 Z x1 x2 x3 x4 zcs vu vs h0 n0 _ T145.heap _ by rw [e145]; exact ⟨rfl, N145, K164⟩)
  · have _u := True.intro
    refine Wp.st (S' := s₁.setTop (mkF m 31 #[oI x1, oI x2, oI x3, oI x4, oI (1 : Int32), oI ch0, oI ch1, oI ch2, oU, oU, oU, oU, oU, oU] [(.int (1 : Int32))])) (fun tt_ kk_ => XS.iload X0.here hx rfl (hb hby at_29) rfl  kk_) ?_
    refine Wp.st (S' := s₁.setTop (mkF m 40 #[oI x1, oI x2, oI x3, oI x4, oI (1 : Int32), oI ch0, oI ch1, oI ch2, oU, oU, oU, oU, oU, oU] [])) (fun tt_ kk_ => XS.ifYes X0.here hx rfl (pc0 := 31) (pc' := 40) rfl (hb hby at_31) rfl ((if0 _ _).trans (feq ((by decide) : ¬ ((1 : Int32) = (0 : Int32)))).2) (by decide) (by decide) kk_) ?_
    refine Wp.st (S' := s₁.setTop (mkF m 42 #[oI x1, oI x2, oI x3, oI x4, oI (1 : Int32), oI ch0, oI ch1, oI ch2, oU, oU, oU, oU, oU, oU] [(.int (1 : Int32))])) (fun tt_ kk_ => XS.iload X0.here hx rfl (hb hby at_40) rfl  kk_) ?_
    refine Wp.st (S' := s₁.setTop (mkF m 43 #[oI x1, oI x2, oI x3, oI x4, oI (1 : Int32), oI ch0, oI ch1, oI ch2, oU, oU, oU, oU, oU, oU] [(.int (1 : Int32)), (.int (1 : Int32))])) (fun tt_ kk_ => XS.iconst X0.here hx rfl (hb hby at_42) kk_) ?_
    refine Wp.st (S' := s₁.setTop (mkF m 46 #[oI x1, oI x2, oI x3, oI x4, oI (1 : Int32), oI ch0, oI ch1, oI ch2, oU, oU, oU, oU, oU, oU] [])) (fun tt_ kk_ => XS.icmpNo X0.here hx rfl (hb hby at_43) rfl (teq ((by decide) : (1 : Int32) = (1 : Int32))).2 kk_) ?_
    refine Wp.st (S' := s₁.setTop (mkF m 47 #[oI x1, oI x2, oI x3, oI x4, oI (1 : Int32), oI ch0, oI ch1, oI ch2, oU, oU, oU, oU, oU, oU] [(.int (1 : Int32))])) (fun tt_ kk_ => XS.iconst X0.here hx rfl (hb hby at_46) kk_) ?_
    obtain ⟨T165, h165, k165, X165, e165, E165, A165, st165⟩ := newP X0 hx hZ (hw _ (List.mem_of_getElem? (i := 0) rfl)) e0 (g := (mkF m 47 #[oI x1, oI x2, oI x3, oI x4, oI (1 : Int32), oI ch0, oI ch1, oI ch2, oU, oU, oU, oU, oU, oU] [(.int (1 : Int32))])) rfl (hb hby at_47) rfl (by decide) (cap := 1) (by decide) (by decide) (by decide) (by decide)
    obtain ⟨b165, g165⟩ : ∃ z, z = h0.size := ⟨_, rfl⟩
    rw [← g165] at A165 st165
    have z166 := E165.1
    have CC167 := CC0.trans (CHr.ext E165 CC0.1)
    have V165 : Arv Z h165 b165 k165 .char (1 : Int32) [(.int (0 : Int32))] (.int (0 : Int32)) := (Arv.new A165 (by decide)).pad (pad_rep [] (.int (0 : Int32)) 1)
    have g168 : n0 ≤ b165 := Nat.le_trans (Nat.le_trans Z0 (Nat.le_refl _)) (Nat.le_of_eq g165.symm)
    have Sf169 := Safe.ext E165 CC0.1 (Safe.new (x := b165) (Nat.le_of_eq g165.symm))
    refine Wp.st (S' := T165.setTop (mkF m 49 #[oI x1, oI x2, oI x3, oI x4, oI (1 : Int32), oI ch0, oI ch1, oI ch2, oU, oU, oU, oU, oU, oU] [(.ref b165)])) st165 ?_
    refine Wp.st (S' := T165.setTop (mkF m 67 #[oI x1, oI x2, oI x3, oI x4, oI (1 : Int32), oI ch0, oI ch1, oI ch2, oU, oU, oU, oU, oU, oU] [(.ref b165)])) (fun tt_ kk_ => XS.goto X165.here hx rfl (pc0 := 49) (pc' := 67) rfl (hb hby at_49) (by decide) (by decide) kk_) ?_
    refine Wp.st (S' := T165.setTop (mkF m 69 #[oI x1, oI x2, oI x3, oI x4, oI (1 : Int32), oI ch0, oI ch1, oI ch2, oR b165, oU, oU, oU, oU, oU] [])) (fun tt_ kk_ => XS.astore X165.here hx rfl (hb hby at_67) rfl rfl (l' := #[oI x1, oI x2, oI x3, oI x4, oI (1 : Int32), oI ch0, oI ch1, oI ch2, oR b165, oU, oU, oU, oU, oU]) rfl kk_) ?_
    refine Wp.st (S' := T165.setTop (mkF m 71 #[oI x1, oI x2, oI x3, oI x4, oI (1 : Int32), oI ch0, oI ch1, oI ch2, oR b165, oU, oU, oU, oU, oU] [(.int (1 : Int32))])) (fun tt_ kk_ => XS.iload X165.here hx rfl (hb hby at_69) rfl  kk_) ?_
    refine Wp.st (S' := T165.setTop (mkF m 81 #[oI x1, oI x2, oI x3, oI x4, oI (1 : Int32), oI ch0, oI ch1, oI ch2, oR b165, oU, oU, oU, oU, oU] [])) (fun tt_ kk_ => XS.ifYes X165.here hx rfl (pc0 := 71) (pc' := 81) rfl (hb hby at_71) rfl ((if0 _ _).trans (feq ((by decide) : ¬ ((1 : Int32) = (0 : Int32)))).2) (by decide) (by decide) kk_) ?_
    refine Wp.st (S' := T165.setTop (mkF m 83 #[oI x1, oI x2, oI x3, oI x4, oI (1 : Int32), oI ch0, oI ch1, oI ch2, oR b165, oU, oU, oU, oU, oU] [(.int (1 : Int32))])) (fun tt_ kk_ => XS.iload X165.here hx rfl (hb hby at_81) rfl  kk_) ?_
    refine Wp.st (S' := T165.setTop (mkF m 84 #[oI x1, oI x2, oI x3, oI x4, oI (1 : Int32), oI ch0, oI ch1, oI ch2, oR b165, oU, oU, oU, oU, oU] [(.int (1 : Int32)), (.int (1 : Int32))])) (fun tt_ kk_ => XS.iconst X165.here hx rfl (hb hby at_83) kk_) ?_
    refine Wp.st (S' := T165.setTop (mkF m 87 #[oI x1, oI x2, oI x3, oI x4, oI (1 : Int32), oI ch0, oI ch1, oI ch2, oR b165, oU, oU, oU, oU, oU] [])) (fun tt_ kk_ => XS.icmpNo X165.here hx rfl (hb hby at_84) rfl (teq ((by decide) : (1 : Int32) = (1 : Int32))).2 kk_) ?_
    refine Wp.st (S' := T165.setTop (mkF m 89 #[oI x1, oI x2, oI x3, oI x4, oI (1 : Int32), oI ch0, oI ch1, oI ch2, oR b165, oU, oU, oU, oU, oU] [(.int (35 : Int32))])) (fun tt_ kk_ => XS.bipush X165.here hx rfl (hb hby at_87) kk_) ?_
    obtain ⟨T170, h170, k170, X170, e170, E170, A170, st170⟩ := newP X165 hx hZ (hw _ (List.mem_of_getElem? (i := 0) rfl)) e165 (g := (mkF m 89 #[oI x1, oI x2, oI x3, oI x4, oI (1 : Int32), oI ch0, oI ch1, oI ch2, oR b165, oU, oU, oU, oU, oU] [(.int (35 : Int32))])) rfl (hb hby at_89) rfl (by decide) (cap := 35) (by decide) (by decide) (by decide) (by decide)
    obtain ⟨b170, g170⟩ : ∃ z, z = h165.size := ⟨_, rfl⟩
    rw [← g170] at A170 st170
    have z171 := E170.1
    have Sf172 := Safe.ext E170 CC167.1 Sf169
    have CC173 := CC167.trans (CHr.ext E170 CC167.1)
    have V170 : Arv Z h170 b170 k170 .char (35 : Int32) [(.int (0 : Int32)), (.int (0 : Int32)), (.int (0 : Int32)), (.int (0 : Int32)), (.int (0 : Int32)), (.int (0 : Int32)), (.int (0 : Int32)), (.int (0 : Int32)), (.int (0 : Int32)), (.int (0 : Int32)), (.int (0 : Int32)), (.int (0 : Int32)), (.int (0 : Int32)), (.int (0 : Int32)), (.int (0 : Int32)), (.int (0 : Int32)), (.int (0 : Int32)), (.int (0 : Int32)), (.int (0 : Int32)), (.int (0 : Int32)), (.int (0 : Int32)), (.int (0 : Int32)), (.int (0 : Int32)), (.int (0 : Int32)), (.int (0 : Int32)), (.int (0 : Int32)), (.int (0 : Int32)), (.int (0 : Int32)), (.int (0 : Int32)), (.int (0 : Int32)), (.int (0 : Int32)), (.int (0 : Int32)), (.int (0 : Int32)), (.int (0 : Int32)), (.int (0 : Int32))] (.int (0 : Int32)) := (Arv.new A170 (by decide)).pad (pad_rep [] (.int (0 : Int32)) 35)
    have g174 : n0 ≤ b170 := Nat.le_trans (Nat.le_trans Z0 z166) (Nat.le_of_eq g170.symm)
    have Sf175 := Safe.ext E170 CC167.1 (Safe.new (x := b170) (Nat.le_of_eq g170.symm))
    refine Wp.st (S' := T170.setTop (mkF m 91 #[oI x1, oI x2, oI x3, oI x4, oI (1 : Int32), oI ch0, oI ch1, oI ch2, oR b165, oU, oU, oU, oU, oU] [(.ref b170)])) st170 ?_
    refine Wp.st (S' := T170.setTop (mkF m 111 #[oI x1, oI x2, oI x3, oI x4, oI (1 : Int32), oI ch0, oI ch1, oI ch2, oR b165, oU, oU, oU, oU, oU] [(.ref b170)])) (fun tt_ kk_ => XS.goto X170.here hx rfl (pc0 := 91) (pc' := 111) rfl (hb hby at_91) (by decide) (by decide) kk_) ?_
    refine Wp.st (S' := T170.setTop (mkF m 113 #[oI x1, oI x2, oI x3, oI x4, oI (1 : Int32), oI ch0, oI ch1, oI ch2, oR b165, oR b170, oU, oU, oU, oU] [])) (fun tt_ kk_ => XS.astore X170.here hx rfl (hb hby at_111) rfl rfl (l' := #[oI x1, oI x2, oI x3, oI x4, oI (1 : Int32), oI ch0, oI ch1, oI ch2, oR b165, oR b170, oU, oU, oU, oU]) rfl kk_) ?_
    refine Wp.st (S' := T170.setTop (mkF m 115 #[oI x1, oI x2, oI x3, oI x4, oI (1 : Int32), oI ch0, oI ch1, oI ch2, oR b165, oR b170, oU, oU, oU, oU] [(.int (1 : Int32))])) (fun tt_ kk_ => XS.iload X170.here hx rfl (hb hby at_113) rfl  kk_) ?_
    refine Wp.st (S' := T170.setTop (mkF m 118 #[oI x1, oI x2, oI x3, oI x4, oI (1 : Int32), oI ch0, oI ch1, oI ch2, oR b165, oR b170, oU, oU, oU, oU] [])) (fun tt_ kk_ => XS.ifNo X170.here hx rfl (hb hby at_115) rfl ((if0 _ _).trans (tlt ((by decide) : (0 : Int32) < (1 : Int32))).2.2.2) kk_) ?_
    refine Wp.st (S' := T170.setTop (mkF m 120 #[oI x1, oI x2, oI x3, oI x4, oI (1 : Int32), oI ch0, oI ch1, oI ch2, oR b165, oR b170, oU, oU, oU, oU] [(.ref b165)])) (fun tt_ kk_ => XS.aload X170.here hx rfl (hb hby at_118) rfl rfl kk_) ?_
    refine Wp.st (S' := T170.setTop (mkF m 121 #[oI x1, oI x2, oI x3, oI x4, oI (1 : Int32), oI ch0, oI ch1, oI ch2, oR b165, oR b170, oU, oU, oU, oU] [(.int (0 : Int32)), (.ref b165)])) (fun tt_ kk_ => XS.iconst X170.here hx rfl (hb hby at_120) kk_) ?_
    refine Wp.st (S' := T170.setTop (mkF m 123 #[oI x1, oI x2, oI x3, oI x4, oI (1 : Int32), oI ch0, oI ch1, oI ch2, oR b165, oR b170, oU, oU, oU, oU] [(.int ch0), (.int (0 : Int32)), (.ref b165)])) (fun tt_ kk_ => XS.iload X170.here hx rfl (hb hby at_121) rfl  kk_) ?_
    have F176 := V165.ext E170
    obtain ⟨cl177, Ar177, q177, S177, N177, H177, G177⟩ := id F176
    have hin177 := inb_of (j := (0 : Int32)) S177 ⟨by decide, by decide⟩
    obtain ⟨T177, h177, X177, e177, W177, st177⟩ := stC X170 hx hZ e170 Ar177 (j := (0 : Int32)) hin177 (g := (mkF m 123 #[oI x1, oI x2, oI x3, oI x4, oI (1 : Int32), oI ch0, oI ch1, oI ch2, oR b165, oR b170, oU, oU, oU, oU] [(.int ch0), (.int (0 : Int32)), (.ref b165)])) rfl rfl (hb hby at_123)
    have z178 := Nat.le_of_eq W177.size.symm
    have Sf179 := Safe.wr W177 (Safe.arv hZ.alike F176 (by decide)) CC173.1 Sf172
    have Sf180 := Safe.wr W177 (Safe.arv hZ.alike F176 (by decide)) CC173.1 Sf175
    have CC181 := CC173.trans (CHr.wr W177 (Safe.arv hZ.alike F176 (by decide)) CC173.1)
    have V177 : Arv Z h177 b165 k165 .char (1 : Int32) [(.int (nar .char ch0))] (.int (0 : Int32)) := Arv.set Ar177 q177 S177 N177 H177 G177 (fits_nar_char _) W177 0 rfl (Nat.le_of_ble_eq_true rfl)
    have Nf177 := Fr.snoc X177 N0 g168
    refine Wp.st (S' := T177.setTop (mkF m 124 #[oI x1, oI x2, oI x3, oI x4, oI (1 : Int32), oI ch0, oI ch1, oI ch2, oR b165, oR b170, oU, oU, oU, oU] [])) st177 ?_
    refine Wp.st (S' := T177.setTop (mkF m 126 #[oI x1, oI x2, oI x3, oI x4, oI (1 : Int32), oI ch0, oI ch1, oI ch2, oR b165, oR b170, oU, oU, oU, oU] [(.ref b170)])) (fun tt_ kk_ => XS.aload X177.here hx rfl (hb hby at_124) rfl rfl kk_) ?_
    refine Wp.st (S' := T177.setTop (mkF m 128 #[oI x1, oI x2, oI x3, oI x4, oI (1 : Int32), oI ch0, oI ch1, oI ch2, oR b165, oR b170, oU, oU, oU, oU] [(.int (6 : Int32)), (.ref b170)])) (fun tt_ kk_ => XS.bipush X177.here hx rfl (hb hby at_126) kk_) ?_
    refine Wp.st (S' := T177.setTop (mkF m 130 #[oI x1, oI x2, oI x3, oI x4, oI (1 : Int32), oI ch0, oI ch1, oI ch2, oR b165, oR b170, oU, oU, oU, oU] [(.int ch0), (.int (6 : Int32)), (.ref b170)])) (fun tt_ kk_ => XS.iload X177.here hx rfl (hb hby at_128) rfl  kk_) ?_
    have F182 := V170.other W177 (Ne.symm (Nat.ne_of_lt (Nat.lt_of_lt_of_le V165.lt (Nat.le_trans (Nat.le_refl _) (Nat.le_of_eq g170.symm)))))
    obtain ⟨cl183, Ar183, q183, S183, N183, H183, G183⟩ := id F182
    have hin183 := inb_of (j := (6 : Int32)) S183 ⟨by decide, by decide⟩
    obtain ⟨T183, h183, X183, e183, W183, st183⟩ := stC X177 hx hZ e177 Ar183 (j := (6 : Int32)) hin183 (g := (mkF m 130 #[oI x1, oI x2, oI x3, oI x4, oI (1 : Int32), oI ch0, oI ch1, oI ch2, oR b165, oR b170, oU, oU, oU, oU] [(.int ch0), (.int (6 : Int32)), (.ref b170)])) rfl rfl (hb hby at_130)
    have z184 := Nat.le_of_eq W183.size.symm
    have Sf185 := Safe.wr W183 (Safe.arv hZ.alike F182 (by decide)) CC181.1 Sf179
    have Sf186 := Safe.wr W183 (Safe.arv hZ.alike F182 (by decide)) CC181.1 Sf180
    have CC187 := CC181.trans (CHr.wr W183 (Safe.arv hZ.alike F182 (by decide)) CC181.1)
    have V183 : Arv Z h183 b170 k170 .char (35 : Int32) [(.int (0 : Int32)), (.int (0 : Int32)), (.int (0 : Int32)), (.int (0 : Int32)), (.int (0 : Int32)), (.int (0 : Int32)), (.int (nar .char ch0)), (.int (0 : Int32)), (.int (0 : Int32)), (.int (0 : Int32)), (.int (0 : Int32)), (.int (0 : Int32)), (.int (0 : Int32)), (.int (0 : Int32)), (.int (0 : Int32)), (.int (0 : Int32)), (.int (0 : Int32)), (.int (0 : Int32)), (.int (0 : Int32)), (.int (0 : Int32)), (.int (0 : Int32)), (.int (0 : Int32)), (.int (0 : Int32)), (.int (0 : Int32)), (.int (0 : Int32)), (.int (0 : Int32)), (.int (0 : Int32)), (.int (0 : Int32)), (.int (0 : Int32)), (.int (0 : Int32)), (.int (0 : Int32)), (.int (0 : Int32)), (.int (0 : Int32)), (.int (0 : Int32)), (.int (0 : Int32))] (.int (0 : Int32)) := Arv.set Ar183 q183 S183 N183 H183 G183 (fits_nar_char _) W183 6 rfl (Nat.le_of_ble_eq_true rfl)
    have Nf183 := Fr.snoc X183 Nf177 g174
    refine Wp.st (S' := T183.setTop (mkF m 131 #[oI x1, oI x2, oI x3, oI x4, oI (1 : Int32), oI ch0, oI ch1, oI ch2, oR b165, oR b170, oU, oU, oU, oU] [])) st183 ?_
    refine Wp.st (S' := T183.setTop (mkF m 133 #[oI x1, oI x2, oI x3, oI x4, oI (1 : Int32), oI ch0, oI ch1, oI ch2, oR b165, oR b170, oU, oU, oU, oU] [(.int (1 : Int32))])) (fun tt_ kk_ => XS.iload X183.here hx rfl (hb hby at_131) rfl  kk_) ?_
    refine Wp.st (S' := T183.setTop (mkF m 134 #[oI x1, oI x2, oI x3, oI x4, oI (1 : Int32), oI ch0, oI ch1, oI ch2, oR b165, oR b170, oU, oU, oU, oU] [(.int (1 : Int32)), (.int (1 : Int32))])) (fun tt_ kk_ => XS.iconst X183.here hx rfl (hb hby at_133) kk_) ?_
    refine Wp.st (S' := T183.setTop (mkF m 150 #[oI x1, oI x2, oI x3, oI x4, oI (1 : Int32), oI ch0, oI ch1, oI ch2, oR b165, oR b170, oU, oU, oU, oU] [])) (fun tt_ kk_ => XS.icmpYes X183.here hx rfl (pc0 := 134) (pc' := 150) rfl (hb hby at_134) rfl (flt ((by decide) : ¬ ((1 : Int32) < (1 : Int32)))).2.2.2 (by decide) (by decide) kk_) ?_
    refine Wp.st (S' := T183.setTop (mkF m 152 #[oI x1, oI x2, oI x3, oI x4, oI (1 : Int32), oI ch0, oI ch1, oI ch2, oR b165, oR b170, oU, oU, oU, oU] [(.int (1 : Int32))])) (fun tt_ kk_ => XS.iload X183.here hx rfl (hb hby at_150) rfl  kk_) ?_
    refine Wp.st (S' := T183.setTop (mkF m 153 #[oI x1, oI x2, oI x3, oI x4, oI (1 : Int32), oI ch0, oI ch1, oI ch2, oR b165, oR b170, oU, oU, oU, oU] [(.int (2 : Int32)), (.int (1 : Int32))])) (fun tt_ kk_ => XS.iconst X183.here hx rfl (hb hby at_152) kk_) ?_
    refine Wp.st (S' := T183.setTop (mkF m 169 #[oI x1, oI x2, oI x3, oI x4, oI (1 : Int32), oI ch0, oI ch1, oI ch2, oR b165, oR b170, oU, oU, oU, oU] [])) (fun tt_ kk_ => XS.icmpYes X183.here hx rfl (pc0 := 153) (pc' := 169) rfl (hb hby at_153) rfl (flt ((by decide) : ¬ ((2 : Int32) < (1 : Int32)))).2.2.2 (by decide) (by decide) kk_) ?_
    refine Wp.st (S' := T183.setTop (mkF m 171 #[oI x1, oI x2, oI x3, oI x4, oI (1 : Int32), oI ch0, oI ch1, oI ch2, oR b165, oR b170, oU, oU, oU, oU] [(.ref b170)])) (fun tt_ kk_ => XS.aload X183.here hx rfl (hb hby at_169) rfl rfl kk_) ?_
    refine Wp.st (S' := T183.setTop (mkF m 172 #[oI x1, oI x2, oI x3, oI x4, oI (1 : Int32), oI ch0, oI ch1, oI ch2, oR b165, oR b170, oU, oU, oU, oU] [(.int (0 : Int32)), (.ref b170)])) (fun tt_ kk_ => XS.iconst X183.here hx rfl (hb hby at_171) kk_) ?_
    refine Wp.st (S' := T183.setTop (mkF m 174 #[oI x1, oI x2, oI x3, oI x4, oI (1 : Int32), oI ch0, oI ch1, oI ch2, oR b165, oR b170, oU, oU, oU, oU] [(.int (108 : Int32)), (.int (0 : Int32)), (.ref b170)])) (fun tt_ kk_ => XS.bipush X183.here hx rfl (hb hby at_172) kk_) ?_
    obtain ⟨cl188, Ar188, q188, S188, N188, H188, G188⟩ := id V183
    have hin188 := inb_of (j := (0 : Int32)) S188 ⟨by decide, by decide⟩
    obtain ⟨T188, h188, X188, e188, W188, st188⟩ := stC X183 hx hZ e183 Ar188 (j := (0 : Int32)) hin188 (g := (mkF m 174 #[oI x1, oI x2, oI x3, oI x4, oI (1 : Int32), oI ch0, oI ch1, oI ch2, oR b165, oR b170, oU, oU, oU, oU] [(.int (108 : Int32)), (.int (0 : Int32)), (.ref b170)])) rfl rfl (hb hby at_174)
    have z189 := Nat.le_of_eq W188.size.symm
    have Sf190 := Safe.wr W188 (Safe.arv hZ.alike V183 (by decide)) CC187.1 Sf185
    have Sf191 := Safe.wr W188 (Safe.arv hZ.alike V183 (by decide)) CC187.1 Sf186
    have CC192 := CC187.trans (CHr.wr W188 (Safe.arv hZ.alike V183 (by decide)) CC187.1)
    have V188 : Arv Z h188 b170 k170 .char (35 : Int32) [(.int (108 : Int32)), (.int (0 : Int32)), (.int (0 : Int32)), (.int (0 : Int32)), (.int (0 : Int32)), (.int (0 : Int32)), (.int (nar .char ch0)), (.int (0 : Int32)), (.int (0 : Int32)), (.int (0 : Int32)), (.int (0 : Int32)), (.int (0 : Int32)), (.int (0 : Int32)), (.int (0 : Int32)), (.int (0 : Int32)), (.int (0 : Int32)), (.int (0 : Int32)), (.int (0 : Int32)), (.int (0 : Int32)), (.int (0 : Int32)), (.int (0 : Int32)), (.int (0 : Int32)), (.int (0 : Int32)), (.int (0 : Int32)), (.int (0 : Int32)), (.int (0 : Int32)), (.int (0 : Int32)), (.int (0 : Int32)), (.int (0 : Int32)), (.int (0 : Int32)), (.int (0 : Int32)), (.int (0 : Int32)), (.int (0 : Int32)), (.int (0 : Int32)), (.int (0 : Int32))] (.int (0 : Int32)) := Arv.set Ar188 q188 S188 N188 H188 G188 rfl W188 0 rfl (Nat.le_of_ble_eq_true rfl)
    have Nf188 := Fr.snoc X188 Nf183 g174
    refine Wp.st (S' := T188.setTop (mkF m 175 #[oI x1, oI x2, oI x3, oI x4, oI (1 : Int32), oI ch0, oI ch1, oI ch2, oR b165, oR b170, oU, oU, oU, oU] [])) st188 ?_
    refine Wp.st (S' := T188.setTop (mkF m 177 #[oI x1, oI x2, oI x3, oI x4, oI (1 : Int32), oI ch0, oI ch1, oI ch2, oR b165, oR b170, oU, oU, oU, oU] [(.ref b170)])) (fun tt_ kk_ => XS.aload X188.here hx rfl (hb hby at_175) rfl rfl kk_) ?_
    refine Wp.st (S' := T188.setTop (mkF m 178 #[oI x1, oI x2, oI x3, oI x4, oI (1 : Int32), oI ch0, oI ch1, oI ch2, oR b165, oR b170, oU, oU, oU, oU] [(.int (1 : Int32)), (.ref b170)])) (fun tt_ kk_ => XS.iconst X188.here hx rfl (hb hby at_177) kk_) ?_
    refine Wp.st (S' := T188.setTop (mkF m 180 #[oI x1, oI x2, oI x3, oI x4, oI (1 : Int32), oI ch0, oI ch1, oI ch2, oR b165, oR b170, oU, oU, oU, oU] [(.int (111 : Int32)), (.int (1 : Int32)), (.ref b170)])) (fun tt_ kk_ => XS.bipush X188.here hx rfl (hb hby at_178) kk_) ?_
    obtain ⟨cl193, Ar193, q193, S193, N193, H193, G193⟩ := id V188
    have hin193 := inb_of (j := (1 : Int32)) S193 ⟨by decide, by decide⟩
    obtain ⟨T193, h193, X193, e193, W193, st193⟩ := stC X188 hx hZ e188 Ar193 (j := (1 : Int32)) hin193 (g := (mkF m 180 #[oI x1, oI x2, oI x3, oI x4, oI (1 : Int32), oI ch0, oI ch1, oI ch2, oR b165, oR b170, oU, oU, oU, oU] [(.int (111 : Int32)), (.int (1 : Int32)), (.ref b170)])) rfl rfl (hb hby at_180)
    have z194 := Nat.le_of_eq W193.size.symm
    have Sf195 := Safe.wr W193 (Safe.arv hZ.alike V188 (by decide)) CC192.1 Sf190
    have Sf196 := Safe.wr W193 (Safe.arv hZ.alike V188 (by decide)) CC192.1 Sf191
    have CC197 := CC192.trans (CHr.wr W193 (Safe.arv hZ.alike V188 (by decide)) CC192.1)
    have V193 : Arv Z h193 b170 k170 .char (35 : Int32) [(.int (108 : Int32)), (.int (111 : Int32)), (.int (0 : Int32)), (.int (0 : Int32)), (.int (0 : Int32)), (.int (0 : Int32)), (.int (nar .char ch0)), (.int (0 : Int32)), (.int (0 : Int32)), (.int (0 : Int32)), (.int (0 : Int32)), (.int (0 : Int32)), (.int (0 : Int32)), (.int (0 : Int32)), (.int (0 : Int32)), (.int (0 : Int32)), (.int (0 : Int32)), (.int (0 : Int32)), (.int (0 : Int32)), (.int (0 : Int32)), (.int (0 : Int32)), (.int (0 : Int32)), (.int (0 : Int32)), (.int (0 : Int32)), (.int (0 : Int32)), (.int (0 : Int32)), (.int (0 : Int32)), (.int (0 : Int32)), (.int (0 : Int32)), (.int (0 : Int32)), (.int (0 : Int32)), (.int (0 : Int32)), (.int (0 : Int32)), (.int (0 : Int32)), (.int (0 : Int32))] (.int (0 : Int32)) := Arv.set Ar193 q193 S193 N193 H193 G193 rfl W193 1 rfl (Nat.le_of_ble_eq_true rfl)
    have Nf193 := Fr.snoc X193 Nf188 g174
    refine Wp.st (S' := T193.setTop (mkF m 181 #[oI x1, oI x2, oI x3, oI x4, oI (1 : Int32), oI ch0, oI ch1, oI ch2, oR b165, oR b170, oU, oU, oU, oU] [])) st193 ?_
    refine Wp.st (S' := T193.setTop (mkF m 183 #[oI x1, oI x2, oI x3, oI x4, oI (1 : Int32), oI ch0, oI ch1, oI ch2, oR b165, oR b170, oU, oU, oU, oU] [(.ref b170)])) (fun tt_ kk_ => XS.aload X193.here hx rfl (hb hby at_181) rfl rfl kk_) ?_
    refine Wp.st (S' := T193.setTop (mkF m 184 #[oI x1, oI x2, oI x3, oI x4, oI (1 : Int32), oI ch0, oI ch1, oI ch2, oR b165, oR b170, oU, oU, oU, oU] [(.int (2 : Int32)), (.ref b170)])) (fun tt_ kk_ => XS.iconst X193.here hx rfl (hb hby at_183) kk_) ?_
    refine Wp.st (S' := T193.setTop (mkF m 186 #[oI x1, oI x2, oI x3, oI x4, oI (1 : Int32), oI ch0, oI ch1, oI ch2, oR b165, oR b170, oU, oU, oU, oU] [(.int (99 : Int32)), (.int (2 : Int32)), (.ref b170)])) (fun tt_ kk_ => XS.bipush X193.here hx rfl (hb hby at_184) kk_) ?_
    obtain ⟨cl198, Ar198, q198, S198, N198, H198, G198⟩ := id V193
    have hin198 := inb_of (j := (2 : Int32)) S198 ⟨by decide, by decide⟩
    obtain ⟨T198, h198, X198, e198, W198, st198⟩ := stC X193 hx hZ e193 Ar198 (j := (2 : Int32)) hin198 (g := (mkF m 186 #[oI x1, oI x2, oI x3, oI x4, oI (1 : Int32), oI ch0, oI ch1, oI ch2, oR b165, oR b170, oU, oU, oU, oU] [(.int (99 : Int32)), (.int (2 : Int32)), (.ref b170)])) rfl rfl (hb hby at_186)
    have z199 := Nat.le_of_eq W198.size.symm
    have Sf200 := Safe.wr W198 (Safe.arv hZ.alike V193 (by decide)) CC197.1 Sf195
    have Sf201 := Safe.wr W198 (Safe.arv hZ.alike V193 (by decide)) CC197.1 Sf196
    have CC202 := CC197.trans (CHr.wr W198 (Safe.arv hZ.alike V193 (by decide)) CC197.1)
    have V198 : Arv Z h198 b170 k170 .char (35 : Int32) [(.int (108 : Int32)), (.int (111 : Int32)), (.int (99 : Int32)), (.int (0 : Int32)), (.int (0 : Int32)), (.int (0 : Int32)), (.int (nar .char ch0)), (.int (0 : Int32)), (.int (0 : Int32)), (.int (0 : Int32)), (.int (0 : Int32)), (.int (0 : Int32)), (.int (0 : Int32)), (.int (0 : Int32)), (.int (0 : Int32)), (.int (0 : Int32)), (.int (0 : Int32)), (.int (0 : Int32)), (.int (0 : Int32)), (.int (0 : Int32)), (.int (0 : Int32)), (.int (0 : Int32)), (.int (0 : Int32)), (.int (0 : Int32)), (.int (0 : Int32)), (.int (0 : Int32)), (.int (0 : Int32)), (.int (0 : Int32)), (.int (0 : Int32)), (.int (0 : Int32)), (.int (0 : Int32)), (.int (0 : Int32)), (.int (0 : Int32)), (.int (0 : Int32)), (.int (0 : Int32))] (.int (0 : Int32)) := Arv.set Ar198 q198 S198 N198 H198 G198 rfl W198 2 rfl (Nat.le_of_ble_eq_true rfl)
    have Nf198 := Fr.snoc X198 Nf193 g174
    refine Wp.st (S' := T198.setTop (mkF m 187 #[oI x1, oI x2, oI x3, oI x4, oI (1 : Int32), oI ch0, oI ch1, oI ch2, oR b165, oR b170, oU, oU, oU, oU] [])) st198 ?_
    refine Wp.st (S' := T198.setTop (mkF m 189 #[oI x1, oI x2, oI x3, oI x4, oI (1 : Int32), oI ch0, oI ch1, oI ch2, oR b165, oR b170, oU, oU, oU, oU] [(.ref b170)])) (fun tt_ kk_ => XS.aload X198.here hx rfl (hb hby at_187) rfl rfl kk_) ?_
    refine Wp.st (S' := T198.setTop (mkF m 190 #[oI x1, oI x2, oI x3, oI x4, oI (1 : Int32), oI ch0, oI ch1, oI ch2, oR b165, oR b170, oU, oU, oU, oU] [(.int (3 : Int32)), (.ref b170)])) (fun tt_ kk_ => XS.iconst X198.here hx rfl (hb hby at_189) kk_) ?_
    refine Wp.st (S' := T198.setTop (mkF m 192 #[oI x1, oI x2, oI x3, oI x4, oI (1 : Int32), oI ch0, oI ch1, oI ch2, oR b165, oR b170, oU, oU, oU, oU] [(.int (107 : Int32)), (.int (3 : Int32)), (.ref b170)])) (fun tt_ kk_ => XS.bipush X198.here hx rfl (hb hby at_190) kk_) ?_
    obtain ⟨cl203, Ar203, q203, S203, N203, H203, G203⟩ := id V198
    have hin203 := inb_of (j := (3 : Int32)) S203 ⟨by decide, by decide⟩
    obtain ⟨T203, h203, X203, e203, W203, st203⟩ := stC X198 hx hZ e198 Ar203 (j := (3 : Int32)) hin203 (g := (mkF m 192 #[oI x1, oI x2, oI x3, oI x4, oI (1 : Int32), oI ch0, oI ch1, oI ch2, oR b165, oR b170, oU, oU, oU, oU] [(.int (107 : Int32)), (.int (3 : Int32)), (.ref b170)])) rfl rfl (hb hby at_192)
    have z204 := Nat.le_of_eq W203.size.symm
    have Sf205 := Safe.wr W203 (Safe.arv hZ.alike V198 (by decide)) CC202.1 Sf200
    have Sf206 := Safe.wr W203 (Safe.arv hZ.alike V198 (by decide)) CC202.1 Sf201
    have CC207 := CC202.trans (CHr.wr W203 (Safe.arv hZ.alike V198 (by decide)) CC202.1)
    have V203 : Arv Z h203 b170 k170 .char (35 : Int32) [(.int (108 : Int32)), (.int (111 : Int32)), (.int (99 : Int32)), (.int (107 : Int32)), (.int (0 : Int32)), (.int (0 : Int32)), (.int (nar .char ch0)), (.int (0 : Int32)), (.int (0 : Int32)), (.int (0 : Int32)), (.int (0 : Int32)), (.int (0 : Int32)), (.int (0 : Int32)), (.int (0 : Int32)), (.int (0 : Int32)), (.int (0 : Int32)), (.int (0 : Int32)), (.int (0 : Int32)), (.int (0 : Int32)), (.int (0 : Int32)), (.int (0 : Int32)), (.int (0 : Int32)), (.int (0 : Int32)), (.int (0 : Int32)), (.int (0 : Int32)), (.int (0 : Int32)), (.int (0 : Int32)), (.int (0 : Int32)), (.int (0 : Int32)), (.int (0 : Int32)), (.int (0 : Int32)), (.int (0 : Int32)), (.int (0 : Int32)), (.int (0 : Int32)), (.int (0 : Int32))] (.int (0 : Int32)) := Arv.set Ar203 q203 S203 N203 H203 G203 rfl W203 3 rfl (Nat.le_of_ble_eq_true rfl)
    have Nf203 := Fr.snoc X203 Nf198 g174
    refine Wp.st (S' := T203.setTop (mkF m 193 #[oI x1, oI x2, oI x3, oI x4, oI (1 : Int32), oI ch0, oI ch1, oI ch2, oR b165, oR b170, oU, oU, oU, oU] [])) st203 ?_
    refine Wp.st (S' := T203.setTop (mkF m 195 #[oI x1, oI x2, oI x3, oI x4, oI (1 : Int32), oI ch0, oI ch1, oI ch2, oR b165, oR b170, oU, oU, oU, oU] [(.ref b170)])) (fun tt_ kk_ => XS.aload X203.here hx rfl (hb hby at_193) rfl rfl kk_) ?_
    refine Wp.st (S' := T203.setTop (mkF m 196 #[oI x1, oI x2, oI x3, oI x4, oI (1 : Int32), oI ch0, oI ch1, oI ch2, oR b165, oR b170, oU, oU, oU, oU] [(.int (4 : Int32)), (.ref b170)])) (fun tt_ kk_ => XS.iconst X203.here hx rfl (hb hby at_195) kk_) ?_
    refine Wp.st (S' := T203.setTop (mkF m 198 #[oI x1, oI x2, oI x3, oI x4, oI (1 : Int32), oI ch0, oI ch1, oI ch2, oR b165, oR b170, oU, oU, oU, oU] [(.int (32 : Int32)), (.int (4 : Int32)), (.ref b170)])) (fun tt_ kk_ => XS.bipush X203.here hx rfl (hb hby at_196) kk_) ?_
    obtain ⟨cl208, Ar208, q208, S208, N208, H208, G208⟩ := id V203
    have hin208 := inb_of (j := (4 : Int32)) S208 ⟨by decide, by decide⟩
    obtain ⟨T208, h208, X208, e208, W208, st208⟩ := stC X203 hx hZ e203 Ar208 (j := (4 : Int32)) hin208 (g := (mkF m 198 #[oI x1, oI x2, oI x3, oI x4, oI (1 : Int32), oI ch0, oI ch1, oI ch2, oR b165, oR b170, oU, oU, oU, oU] [(.int (32 : Int32)), (.int (4 : Int32)), (.ref b170)])) rfl rfl (hb hby at_198)
    have z209 := Nat.le_of_eq W208.size.symm
    have Sf210 := Safe.wr W208 (Safe.arv hZ.alike V203 (by decide)) CC207.1 Sf205
    have Sf211 := Safe.wr W208 (Safe.arv hZ.alike V203 (by decide)) CC207.1 Sf206
    have CC212 := CC207.trans (CHr.wr W208 (Safe.arv hZ.alike V203 (by decide)) CC207.1)
    have V208 : Arv Z h208 b170 k170 .char (35 : Int32) [(.int (108 : Int32)), (.int (111 : Int32)), (.int (99 : Int32)), (.int (107 : Int32)), (.int (32 : Int32)), (.int (0 : Int32)), (.int (nar .char ch0)), (.int (0 : Int32)), (.int (0 : Int32)), (.int (0 : Int32)), (.int (0 : Int32)), (.int (0 : Int32)), (.int (0 : Int32)), (.int (0 : Int32)), (.int (0 : Int32)), (.int (0 : Int32)), (.int (0 : Int32)), (.int (0 : Int32)), (.int (0 : Int32)), (.int (0 : Int32)), (.int (0 : Int32)), (.int (0 : Int32)), (.int (0 : Int32)), (.int (0 : Int32)), (.int (0 : Int32)), (.int (0 : Int32)), (.int (0 : Int32)), (.int (0 : Int32)), (.int (0 : Int32)), (.int (0 : Int32)), (.int (0 : Int32)), (.int (0 : Int32)), (.int (0 : Int32)), (.int (0 : Int32)), (.int (0 : Int32))] (.int (0 : Int32)) := Arv.set Ar208 q208 S208 N208 H208 G208 rfl W208 4 rfl (Nat.le_of_ble_eq_true rfl)
    have Nf208 := Fr.snoc X208 Nf203 g174
    refine Wp.st (S' := T208.setTop (mkF m 199 #[oI x1, oI x2, oI x3, oI x4, oI (1 : Int32), oI ch0, oI ch1, oI ch2, oR b165, oR b170, oU, oU, oU, oU] [])) st208 ?_
    refine Wp.st (S' := T208.setTop (mkF m 201 #[oI x1, oI x2, oI x3, oI x4, oI (1 : Int32), oI ch0, oI ch1, oI ch2, oR b165, oR b170, oU, oU, oU, oU] [(.ref b170)])) (fun tt_ kk_ => XS.aload X208.here hx rfl (hb hby at_199) rfl rfl kk_) ?_
    refine Wp.st (S' := T208.setTop (mkF m 202 #[oI x1, oI x2, oI x3, oI x4, oI (1 : Int32), oI ch0, oI ch1, oI ch2, oR b165, oR b170, oU, oU, oU, oU] [(.int (5 : Int32)), (.ref b170)])) (fun tt_ kk_ => XS.iconst X208.here hx rfl (hb hby at_201) kk_) ?_
    refine Wp.st (S' := T208.setTop (mkF m 204 #[oI x1, oI x2, oI x3, oI x4, oI (1 : Int32), oI ch0, oI ch1, oI ch2, oR b165, oR b170, oU, oU, oU, oU] [(.int (39 : Int32)), (.int (5 : Int32)), (.ref b170)])) (fun tt_ kk_ => XS.bipush X208.here hx rfl (hb hby at_202) kk_) ?_
    obtain ⟨cl213, Ar213, q213, S213, N213, H213, G213⟩ := id V208
    have hin213 := inb_of (j := (5 : Int32)) S213 ⟨by decide, by decide⟩
    obtain ⟨T213, h213, X213, e213, W213, st213⟩ := stC X208 hx hZ e208 Ar213 (j := (5 : Int32)) hin213 (g := (mkF m 204 #[oI x1, oI x2, oI x3, oI x4, oI (1 : Int32), oI ch0, oI ch1, oI ch2, oR b165, oR b170, oU, oU, oU, oU] [(.int (39 : Int32)), (.int (5 : Int32)), (.ref b170)])) rfl rfl (hb hby at_204)
    have z214 := Nat.le_of_eq W213.size.symm
    have Sf215 := Safe.wr W213 (Safe.arv hZ.alike V208 (by decide)) CC212.1 Sf210
    have Sf216 := Safe.wr W213 (Safe.arv hZ.alike V208 (by decide)) CC212.1 Sf211
    have CC217 := CC212.trans (CHr.wr W213 (Safe.arv hZ.alike V208 (by decide)) CC212.1)
    have V213 : Arv Z h213 b170 k170 .char (35 : Int32) [(.int (108 : Int32)), (.int (111 : Int32)), (.int (99 : Int32)), (.int (107 : Int32)), (.int (32 : Int32)), (.int (39 : Int32)), (.int (nar .char ch0)), (.int (0 : Int32)), (.int (0 : Int32)), (.int (0 : Int32)), (.int (0 : Int32)), (.int (0 : Int32)), (.int (0 : Int32)), (.int (0 : Int32)), (.int (0 : Int32)), (.int (0 : Int32)), (.int (0 : Int32)), (.int (0 : Int32)), (.int (0 : Int32)), (.int (0 : Int32)), (.int (0 : Int32)), (.int (0 : Int32)), (.int (0 : Int32)), (.int (0 : Int32)), (.int (0 : Int32)), (.int (0 : Int32)), (.int (0 : Int32)), (.int (0 : Int32)), (.int (0 : Int32)), (.int (0 : Int32)), (.int (0 : Int32)), (.int (0 : Int32)), (.int (0 : Int32)), (.int (0 : Int32)), (.int (0 : Int32))] (.int (0 : Int32)) := Arv.set Ar213 q213 S213 N213 H213 G213 rfl W213 5 rfl (Nat.le_of_ble_eq_true rfl)
    have Nf213 := Fr.snoc X213 Nf208 g174
    refine Wp.st (S' := T213.setTop (mkF m 205 #[oI x1, oI x2, oI x3, oI x4, oI (1 : Int32), oI ch0, oI ch1, oI ch2, oR b165, oR b170, oU, oU, oU, oU] [])) st213 ?_
    refine Wp.st (S' := T213.setTop (mkF m 207 #[oI x1, oI x2, oI x3, oI x4, oI (1 : Int32), oI ch0, oI ch1, oI ch2, oR b165, oR b170, oU, oU, oU, oU] [(.ref b170)])) (fun tt_ kk_ => XS.aload X213.here hx rfl (hb hby at_205) rfl rfl kk_) ?_
    refine Wp.st (S' := T213.setTop (mkF m 209 #[oI x1, oI x2, oI x3, oI x4, oI (1 : Int32), oI ch0, oI ch1, oI ch2, oR b165, oR b170, oU, oU, oU, oU] [(.int (6 : Int32)), (.ref b170)])) (fun tt_ kk_ => XS.bipush X213.here hx rfl (hb hby at_207) kk_) ?_
    refine Wp.st (S' := T213.setTop (mkF m 211 #[oI x1, oI x2, oI x3, oI x4, oI (1 : Int32), oI ch0, oI ch1, oI ch2, oR b165, oR b170, oU, oU, oU, oU] [(.int (1 : Int32)), (.int (6 : Int32)), (.ref b170)])) (fun tt_ kk_ => XS.iload X213.here hx rfl (hb hby at_209) rfl  kk_) ?_
    refine Wp.st (S' := T213.setTop (mkF m 212 #[oI x1, oI x2, oI x3, oI x4, oI (1 : Int32), oI ch0, oI ch1, oI ch2, oR b165, oR b170, oU, oU, oU, oU] [(.int ((6 : Int32) + (1 : Int32))), (.ref b170)])) (fun tt_ kk_ => XS.iadd X213.here hx rfl (hb hby at_211) rfl kk_) ?_
    rw [(by decide : ((6 : Int32) + (1 : Int32)) = (7 : Int32))]
    obtain ⟨vv218, _, ⟨T218, L218, k218, n218⟩, -, X218, ⟨Lc218, hQ218, l218, y218, z218⟩, st218⟩ := Jvm.LawKit.callS X213 hx (y := (⟨"com/example/mortise_lock/mortiselock/redis/RedisCallExceptionClosedPinLaw", "putSuffix", "([CI)V"⟩ : MethodName)) hown (mvT hZ (hw _ (List.mem_of_getElem? (i := 1) rfl))) (mvT hZ (hw _ (List.mem_of_getElem? (i := 2) rfl))) (mvT hZ (hw _ (List.mem_of_getElem? (i := 3) rfl))) (mvT hZ (hw _ (List.mem_of_getElem? (i := 4) rfl))) (by decide) (backOf (W := 0) (rm1 l Z a0 hw [] b170 (7 : Int32) k170 (35 : Int32) [(.int (108 : Int32)), (.int (111 : Int32)), (.int (99 : Int32)), (.int (107 : Int32)), (.int (32 : Int32)), (.int (39 : Int32)), (.int (nar .char ch0)), (.int (0 : Int32)), (.int (0 : Int32)), (.int (0 : Int32)), (.int (0 : Int32)), (.int (0 : Int32)), (.int (0 : Int32)), (.int (0 : Int32)), (.int (0 : Int32)), (.int (0 : Int32)), (.int (0 : Int32)), (.int (0 : Int32)), (.int (0 : Int32)), (.int (0 : Int32)), (.int (0 : Int32)), (.int (0 : Int32)), (.int (0 : Int32)), (.int (0 : Int32)), (.int (0 : Int32)), (.int (0 : Int32)), (.int (0 : Int32)), (.int (0 : Int32)), (.int (0 : Int32)), (.int (0 : Int32)), (.int (0 : Int32)), (.int (0 : Int32)), (.int (0 : Int32)), (.int (0 : Int32)), (.int (0 : Int32))] h213 n0 (Nat.le_trans Z0 (Nat.le_trans (Nat.le_trans (Nat.le_trans (Nat.le_trans (Nat.le_trans (Nat.le_trans (Nat.le_trans (Nat.le_trans (Nat.le_trans z166 z171) z178) z184) z189) z194) z199) z204) z209) z214)) g174 V213 ((by decide) : 0 ≤ (7 : Int32).toInt ∧ (7 : Int32).toInt ≤ 9 ∧ (7 : Int32).toInt + 28 = (35 : Int32).toInt) ((by show (7 : Int32).toNatClampNeg + 28 ≤ 35; decide) : (7 : Int32).toNatClampNeg + 28 ≤ [(.int (108 : Int32)), (.int (111 : Int32)), (.int (99 : Int32)), (.int (107 : Int32)), (.int (32 : Int32)), (.int (39 : Int32)), (.int (nar .char ch0)), (.int (0 : Int32)), (.int (0 : Int32)), (.int (0 : Int32)), (.int (0 : Int32)), (.int (0 : Int32)), (.int (0 : Int32)), (.int (0 : Int32)), (.int (0 : Int32)), (.int (0 : Int32)), (.int (0 : Int32)), (.int (0 : Int32)), (.int (0 : Int32)), (.int (0 : Int32)), (.int (0 : Int32)), (.int (0 : Int32)), (.int (0 : Int32)), (.int (0 : Int32)), (.int (0 : Int32)), (.int (0 : Int32)), (.int (0 : Int32)), (.int (0 : Int32)), (.int (0 : Int32)), (.int (0 : Int32)), (.int (0 : Int32)), (.int (0 : Int32)), (.int (0 : Int32)), (.int (0 : Int32)), (.int (0 : Int32))].length)) hZ (hw _ (List.mem_of_getElem? (i := 4) rfl)) (hw _ (List.mem_of_getElem? (i := 3) rfl)) (by decide) (by decide)) (g := (mkF m 212 #[oI x1, oI x2, oI x3, oI x4, oI (1 : Int32), oI ch0, oI ch1, oI ch2, oR b165, oR b170, oU, oU, oU, oU] [(.int (7 : Int32)), (.ref b170)])) rfl (by rw [hml]; rfl) (argsL := [(.ref b170), (.int (7 : Int32))]) (rest := []) (lenOf pd_21 rfl) rfl (by show 2 * 0 + _ ≤ _; exact Nat.le_of_eq rfl) (hb hby at_212) (fun _ _ => ⟨rfl, e213, (by decide : 2 + 0 ≤ _), (by decide : 36 + 0 ≤ _)⟩)
    dsimp only [Pt.U, Pt.locs, Pt.cells, Pt.slots] at X218 l218 y218 z218 st218 hQ218
    subst l218 y218 z218
    obtain ⟨rfl, Nq218, K218, P218_0⟩ := hQ218
    have N218 := Fr.app Nf213 Nq218
    have F219 := ThS.ext E165 PT
    have F220 := ThS.ext E170 F219
    have F221 := ThS.wr W177 F220
    have F222 := ThS.wr W183 F221
    have F223 := ThS.wr W188 F222
    have F224 := ThS.wr W193 F223
    have F225 := ThS.wr W198 F224
    have F226 := ThS.wr W203 F225
    have F227 := ThS.wr W208 F226
    have F228 := ThS.wr W213 F227
    have Th229 := ThS.keep K218 (nsS (Arv.nostat V213) ns0) F228
    have z230 := K218.1
    have Sf231 := Safe.keep K218 (sfS (Safe.arv hZ.alike V213 (by decide)) sf0) CC217.1 Sf215
    have Sf232 := Safe.keep K218 (sfS (Safe.arv hZ.alike V213 (by decide)) sf0) CC217.1 Sf216
    have CC233 := CC217.trans (CHr.keep K218 (sfS (Safe.arv hZ.alike V213 (by decide)) sf0) CC217.1)
    have e218 : T218.heap = T218.heap := rfl
    refine Wp.st (S' := T218.setTop (mkF m 215 #[oI x1, oI x2, oI x3, oI x4, oI (1 : Int32), oI ch0, oI ch1, oI ch2, oR b165, oR b170, oU, oU, oU, oU] [])) st218 ?_
    have Ve : Arv Z T218.heap b170 k170 .char (35 : Int32) [(.int (108 : Int32)), (.int (111 : Int32)), (.int (99 : Int32)), (.int (107 : Int32)), (.int (32 : Int32)), (.int (39 : Int32)), (.int (nar .char ch0)), (.int (39 : Int32)), (.int (58 : Int32)), (.int (32 : Int32)), (.int (105 : Int32)), (.int (116 : Int32)), (.int (115 : Int32)), (.int (32 : Int32)), (.int (77 : Int32)), (.int (111 : Int32)), (.int (114 : Int32)), (.int (116 : Int32)), (.int (105 : Int32)), (.int (115 : Int32)), (.int (101 : Int32)), (.int (76 : Int32)), (.int (111 : Int32)), (.int (99 : Int32)), (.int (107 : Int32)), (.int (32 : Int32)), (.int (105 : Int32)), (.int (115 : Int32)), (.int (32 : Int32)), (.int (99 : Int32)), (.int (108 : Int32)), (.int (111 : Int32)), (.int (115 : Int32)), (.int (101 : Int32)), (.int (100 : Int32))] (.int (0 : Int32)) := own_arv (own_pt1 _) P218_0
    obtain ⟨T234, h234, X234, e234, E234, A234, D234, U234, st234⟩ := newO X218 hx hZ hown (hw _ (List.mem_of_getElem? (i := 5) rfl)) (hw _ (List.mem_of_getElem? (i := 6) rfl)) (hw _ (List.mem_of_getElem? (i := 7) rfl)) e218 (g := (mkF m 215 #[oI x1, oI x2, oI x3, oI x4, oI (1 : Int32), oI ch0, oI ch1, oI ch2, oR b165, oR b170, oU, oU, oU, oU] [])) rfl (hb hby at_215) (by decide) (by decide)
    obtain ⟨b234, g234⟩ : ∃ z, z = T218.heap.size := ⟨_, rfl⟩
    rw [← g234] at A234 D234 U234 st234
    have z235 := E234.1
    have Sf236 := Safe.ext E234 CC233.1 Sf231
    have Sf237 := Safe.ext E234 CC233.1 Sf232
    have CC238 := CC233.trans (CHr.ext E234 CC233.1)
    have g239 : n0 ≤ b234 := Nat.le_trans (Nat.le_trans Z0 (Nat.le_trans (Nat.le_trans (Nat.le_trans (Nat.le_trans (Nat.le_trans (Nat.le_trans (Nat.le_trans (Nat.le_trans (Nat.le_trans (Nat.le_trans z166 z171) z178) z184) z189) z194) z199) z204) z209) z214) z230)) (Nat.le_of_eq g234.symm)
    have Sf240 := Safe.ext E234 CC233.1 (Safe.new (x := b234) (Nat.le_of_eq g234.symm))
    have F241 : Fld Z h234 b234 "java/lang/String" "value" "[B" .null := D234 (Or.inr (hw _ (List.mem_of_getElem? (i := 20) rfl))) (ty := (.array .byte)) (by decide)
    have F242 : Fld Z h234 b234 "java/lang/String" "coder" "B" (.int (0 : Int32)) := D234 (Or.inr (hw _ (List.mem_of_getElem? (i := 21) rfl))) (ty := .byte) (by decide)
    refine Wp.st (S' := T234.setTop (mkF m 218 #[oI x1, oI x2, oI x3, oI x4, oI (1 : Int32), oI ch0, oI ch1, oI ch2, oR b165, oR b170, oU, oU, oU, oU] [(.ref b234)])) st234 ?_
    refine Wp.st (S' := T234.setTop (mkF m 219 #[oI x1, oI x2, oI x3, oI x4, oI (1 : Int32), oI ch0, oI ch1, oI ch2, oR b165, oR b170, oU, oU, oU, oU] [(.ref b234), (.ref b234)])) (fun tt_ kk_ => XS.dup X234.here hx rfl (hb hby at_218) rfl rfl kk_) ?_
    refine Wp.st (S' := T234.setTop (mkF m 221 #[oI x1, oI x2, oI x3, oI x4, oI (1 : Int32), oI ch0, oI ch1, oI ch2, oR b165, oR b170, oU, oU, oU, oU] [(.ref b165), (.ref b234), (.ref b234)])) (fun tt_ kk_ => XS.aload X234.here hx rfl (hb hby at_219) rfl rfl kk_) ?_
    have hp244 : ∀ c ∈ ([(nar .char ch0)] : List Int32), ¬ c < 0 ∧ ¬ (255 : Int32) < c := (by
          intro c hc
          simp only [List.mem_cons, List.not_mem_nil, or_false] at hc
          subst hc
          all_goals first | assumption | decide)
    have F245 := V177.other W183 (Nat.ne_of_lt (Nat.lt_of_lt_of_le V165.lt (Nat.le_trans (Nat.le_refl _) (Nat.le_of_eq g170.symm))))
    have F246 := F245.other W188 (Nat.ne_of_lt (Nat.lt_of_lt_of_le V165.lt (Nat.le_trans (Nat.le_refl _) (Nat.le_of_eq g170.symm))))
    have F247 := F246.other W193 (Nat.ne_of_lt (Nat.lt_of_lt_of_le V165.lt (Nat.le_trans (Nat.le_refl _) (Nat.le_of_eq g170.symm))))
    have F248 := F247.other W198 (Nat.ne_of_lt (Nat.lt_of_lt_of_le V165.lt (Nat.le_trans (Nat.le_refl _) (Nat.le_of_eq g170.symm))))
    have F249 := F248.other W203 (Nat.ne_of_lt (Nat.lt_of_lt_of_le V165.lt (Nat.le_trans (Nat.le_refl _) (Nat.le_of_eq g170.symm))))
    have F250 := F249.other W208 (Nat.ne_of_lt (Nat.lt_of_lt_of_le V165.lt (Nat.le_trans (Nat.le_refl _) (Nat.le_of_eq g170.symm))))
    have F251 := F250.other W213 (Nat.ne_of_lt (Nat.lt_of_lt_of_le V165.lt (Nat.le_trans (Nat.le_refl _) (Nat.le_of_eq g170.symm))))
    have F252 := F251.keep K218 (ninS (Nat.ne_of_lt (Nat.lt_of_lt_of_le V165.lt (Nat.le_trans (Nat.le_refl _) (Nat.le_of_eq g170.symm)))) nin0)
    have F253 := F252.ext E234
    have O254 := O0.ext E165
    have O255 := O254.ext E170
    have O256 := O255.wr W177 g168
    have O257 := O256.wr W183 g174
    have O258 := O257.wr W188 g174
    have O259 := O258.wr W193 g174
    have O260 := O259.wr W198 g174
    have O261 := O260.wr W203 g174
    have O262 := O261.wr W208 g174
    have O263 := O262.wr W213 g174
    have O264 := O263.keep K218 (allS g174 all0)
    have O265 := O264.ext E234
    obtain ⟨vv243, _, ⟨T243, L243, k243, n243⟩, -, X243, ⟨Lc243, hQ243, l243, y243, z243⟩, st243⟩ := X234.specialBack hx (y := (⟨"java/lang/String", "<init>", "([C)V"⟩ : MethodName)) rfl hown (mvT hZ (hw _ (List.mem_of_getElem? (i := 8) rfl))) (mvT hZ (hw _ (List.mem_of_getElem? (i := 9) rfl))) (mvT hZ (hw _ (List.mem_of_getElem? (i := 10) rfl))) (by decide) (StrChars.Road.backV (W := 1) hZ (fun d hd => hw d ((by decide +kernel : ∀ d ∈ StrChars.Road.words, d ∈ tables_1) d hd)) (kI := 4) (hw _ (List.mem_of_getElem? (i := 6) rfl)) (cs := ([(nar .char ch0)] : List Int32)) (bs := (([(nar .char ch0)] : List Int32).map (fun c => c.toInt8.toInt32))) (n := 1) g239 (Nat.le_trans Z0 (Nat.le_trans (Nat.le_trans (Nat.le_trans (Nat.le_trans (Nat.le_trans (Nat.le_trans (Nat.le_trans (Nat.le_trans (Nat.le_trans (Nat.le_trans (Nat.le_trans z166 z171) z178) z184) z189) z194) z199) z204) z209) z214) z230) z235)) A234 F241 F242 F253 (SCompact.ext O265.2) hCS rfl rfl (by decide) (by decide) hp244 rfl (by decide) (by decide)) (g := (mkF m 221 #[oI x1, oI x2, oI x3, oI x4, oI (1 : Int32), oI ch0, oI ch1, oI ch2, oR b165, oR b170, oU, oU, oU, oU] [(.ref b165), (.ref b234), (.ref b234)])) rfl (by rw [hml]; rfl) (Steps.refl _) (a := b234) (argsL := [(.ref b165)]) (rest := [(.ref b234)]) (lenOf pd_22 rfl) rfl (by show 2 * 0 + _ ≤ _; exact Nat.le_of_eq rfl) (hb hby at_221) (fun _ _ => ⟨rfl, e234, (by decide : 3 + 1 ≤ _), (by decide : 40 + 1 ≤ _)⟩)
    dsimp only [Pt.U, Pt.locs, Pt.cells, Pt.slots] at X243 l243 y243 z243 st243 hQ243
    subst l243 y243 z243
    obtain ⟨rfl, Nq243, K243, Ex243, Co243, t243, kb243, ga243, gb243, gn243, Va243, Av243⟩ := hQ243
    have N243 := Fr.app N218 Nq243
    have F266 := ThS.ext E234 Th229
    have Th267 := ThS.keep K243 (nsS (Exa.nostat A234) ns0) F266
    have z268 := K243.1
    have Sf269 := Safe.keep K243 (sfS Sf240 sf0) CC238.1 Sf236
    have Sf270 := Safe.keep K243 (sfS Sf240 sf0) CC238.1 Sf237
    have Sf271 := Safe.keep K243 (sfS Sf240 sf0) CC238.1 Sf240
    have CC272 := CC238.trans (CHr.keep K243 (sfS Sf240 sf0) CC238.1)
    have g273 : n0 ≤ t243 := Nat.le_trans (Nat.le_trans Z0 (Nat.le_trans (Nat.le_trans (Nat.le_trans (Nat.le_trans (Nat.le_trans (Nat.le_trans (Nat.le_trans (Nat.le_trans (Nat.le_trans (Nat.le_trans (Nat.le_trans z166 z171) z178) z184) z189) z194) z199) z204) z209) z214) z230) z235)) gb243
    have e243 : T243.heap = T243.heap := rfl
    refine Wp.tr (S' := T243.setTop (mkF m 224 #[oI x1, oI x2, oI x3, oI x4, oI (1 : Int32), oI ch0, oI ch1, oI ch2, oR b165, oR b170, oU, oU, oU, oU] [(.ref b234)])) st243 ?_
    refine Wp.st (S' := T243.setTop (mkF m 226 #[oI x1, oI x2, oI x3, oI x4, oI (1 : Int32), oI ch0, oI ch1, oI ch2, oR b165, oR b170, oR b234, oU, oU, oU] [])) (fun tt_ kk_ => XS.astore X243.here hx rfl (hb hby at_224) rfl rfl (l' := #[oI x1, oI x2, oI x3, oI x4, oI (1 : Int32), oI ch0, oI ch1, oI ch2, oR b165, oR b170, oR b234, oU, oU, oU]) rfl kk_) ?_
    obtain ⟨T274, h274, X274, e274, E274, A274, D274, U274, st274⟩ := newO X243 hx hZ hown (hw _ (List.mem_of_getElem? (i := 5) rfl)) (hw _ (List.mem_of_getElem? (i := 6) rfl)) (hw _ (List.mem_of_getElem? (i := 7) rfl)) e243 (g := (mkF m 226 #[oI x1, oI x2, oI x3, oI x4, oI (1 : Int32), oI ch0, oI ch1, oI ch2, oR b165, oR b170, oR b234, oU, oU, oU] [])) rfl (hb hby at_226) (by decide) (by decide)
    obtain ⟨b274, g274⟩ : ∃ z, z = T243.heap.size := ⟨_, rfl⟩
    rw [← g274] at A274 D274 U274 st274
    have z275 := E274.1
    have Sf276 := Safe.ext E274 CC272.1 Sf269
    have Sf277 := Safe.ext E274 CC272.1 Sf270
    have Sf278 := Safe.ext E274 CC272.1 Sf271
    have CC279 := CC272.trans (CHr.ext E274 CC272.1)
    have g280 : n0 ≤ b274 := Nat.le_trans (Nat.le_trans Z0 (Nat.le_trans (Nat.le_trans (Nat.le_trans (Nat.le_trans (Nat.le_trans (Nat.le_trans (Nat.le_trans (Nat.le_trans (Nat.le_trans (Nat.le_trans (Nat.le_trans (Nat.le_trans z166 z171) z178) z184) z189) z194) z199) z204) z209) z214) z230) z235) z268)) (Nat.le_of_eq g274.symm)
    have Sf281 := Safe.ext E274 CC272.1 (Safe.new (x := b274) (Nat.le_of_eq g274.symm))
    have F282 : Fld Z h274 b274 "java/lang/String" "value" "[B" .null := D274 (Or.inr (hw _ (List.mem_of_getElem? (i := 20) rfl))) (ty := (.array .byte)) (by decide)
    have F283 : Fld Z h274 b274 "java/lang/String" "coder" "B" (.int (0 : Int32)) := D274 (Or.inr (hw _ (List.mem_of_getElem? (i := 21) rfl))) (ty := .byte) (by decide)
    refine Wp.st (S' := T274.setTop (mkF m 229 #[oI x1, oI x2, oI x3, oI x4, oI (1 : Int32), oI ch0, oI ch1, oI ch2, oR b165, oR b170, oR b234, oU, oU, oU] [(.ref b274)])) st274 ?_
    refine Wp.st (S' := T274.setTop (mkF m 230 #[oI x1, oI x2, oI x3, oI x4, oI (1 : Int32), oI ch0, oI ch1, oI ch2, oR b165, oR b170, oR b234, oU, oU, oU] [(.ref b274), (.ref b274)])) (fun tt_ kk_ => XS.dup X274.here hx rfl (hb hby at_229) rfl rfl kk_) ?_
    refine Wp.st (S' := T274.setTop (mkF m 232 #[oI x1, oI x2, oI x3, oI x4, oI (1 : Int32), oI ch0, oI ch1, oI ch2, oR b165, oR b170, oR b234, oU, oU, oU] [(.ref b170), (.ref b274), (.ref b274)])) (fun tt_ kk_ => XS.aload X274.here hx rfl (hb hby at_230) rfl rfl kk_) ?_
    have hp285 : ∀ c ∈ ([(108 : Int32), (111 : Int32), (99 : Int32), (107 : Int32), (32 : Int32), (39 : Int32), (nar .char ch0), (39 : Int32), (58 : Int32), (32 : Int32), (105 : Int32), (116 : Int32), (115 : Int32), (32 : Int32), (77 : Int32), (111 : Int32), (114 : Int32), (116 : Int32), (105 : Int32), (115 : Int32), (101 : Int32), (76 : Int32), (111 : Int32), (99 : Int32), (107 : Int32), (32 : Int32), (105 : Int32), (115 : Int32), (32 : Int32), (99 : Int32), (108 : Int32), (111 : Int32), (115 : Int32), (101 : Int32), (100 : Int32)] : List Int32), ¬ c < 0 ∧ ¬ (255 : Int32) < c := (by
          intro c hc
          simp only [List.mem_cons, List.not_mem_nil, or_false] at hc
          rcases hc with rfl | rfl | rfl | rfl | rfl | rfl | rfl | rfl | rfl | rfl | rfl | rfl | rfl | rfl | rfl | rfl | rfl | rfl | rfl | rfl | rfl | rfl | rfl | rfl | rfl | rfl | rfl | rfl | rfl | rfl | rfl | rfl | rfl | rfl | rfl
          all_goals first | assumption | decide)
    have F286 := Ve.ext E234
    have F287 := F286.keep K243 (ninS (Nat.ne_of_lt (Nat.lt_of_lt_of_le V170.lt (Nat.le_trans (Nat.le_trans (Nat.le_trans (Nat.le_trans (Nat.le_trans (Nat.le_trans (Nat.le_trans (Nat.le_trans (Nat.le_trans z178 z184) z189) z194) z199) z204) z209) z214) z230) (Nat.le_of_eq g234.symm)))) nin0)
    have F288 := F287.ext E274
    have O289 := O265.keep K243 (allS g239 all0)
    have O290 := O289.ext E274
    obtain ⟨vv284, _, ⟨T284, L284, k284, n284⟩, -, X284, ⟨Lc284, hQ284, l284, y284, z284⟩, st284⟩ := X274.specialBack hx (y := (⟨"java/lang/String", "<init>", "([C)V"⟩ : MethodName)) rfl hown (mvT hZ (hw _ (List.mem_of_getElem? (i := 8) rfl))) (mvT hZ (hw _ (List.mem_of_getElem? (i := 9) rfl))) (mvT hZ (hw _ (List.mem_of_getElem? (i := 10) rfl))) (by decide) (StrChars.Road.backV (W := 1) hZ (fun d hd => hw d ((by decide +kernel : ∀ d ∈ StrChars.Road.words, d ∈ tables_1) d hd)) (kI := 4) (hw _ (List.mem_of_getElem? (i := 6) rfl)) (cs := ([(108 : Int32), (111 : Int32), (99 : Int32), (107 : Int32), (32 : Int32), (39 : Int32), (nar .char ch0), (39 : Int32), (58 : Int32), (32 : Int32), (105 : Int32), (116 : Int32), (115 : Int32), (32 : Int32), (77 : Int32), (111 : Int32), (114 : Int32), (116 : Int32), (105 : Int32), (115 : Int32), (101 : Int32), (76 : Int32), (111 : Int32), (99 : Int32), (107 : Int32), (32 : Int32), (105 : Int32), (115 : Int32), (32 : Int32), (99 : Int32), (108 : Int32), (111 : Int32), (115 : Int32), (101 : Int32), (100 : Int32)] : List Int32)) (bs := (([(108 : Int32), (111 : Int32), (99 : Int32), (107 : Int32), (32 : Int32), (39 : Int32), (nar .char ch0), (39 : Int32), (58 : Int32), (32 : Int32), (105 : Int32), (116 : Int32), (115 : Int32), (32 : Int32), (77 : Int32), (111 : Int32), (114 : Int32), (116 : Int32), (105 : Int32), (115 : Int32), (101 : Int32), (76 : Int32), (111 : Int32), (99 : Int32), (107 : Int32), (32 : Int32), (105 : Int32), (115 : Int32), (32 : Int32), (99 : Int32), (108 : Int32), (111 : Int32), (115 : Int32), (101 : Int32), (100 : Int32)] : List Int32).map (fun c => c.toInt8.toInt32))) (n := 35) g280 (Nat.le_trans Z0 (Nat.le_trans (Nat.le_trans (Nat.le_trans (Nat.le_trans (Nat.le_trans (Nat.le_trans (Nat.le_trans (Nat.le_trans (Nat.le_trans (Nat.le_trans (Nat.le_trans (Nat.le_trans (Nat.le_trans z166 z171) z178) z184) z189) z194) z199) z204) z209) z214) z230) z235) z268) z275)) A274 F282 F283 F288 (SCompact.ext O290.2) hCS rfl rfl (by decide) (by decide) hp285 rfl (by decide) (by decide)) (g := (mkF m 232 #[oI x1, oI x2, oI x3, oI x4, oI (1 : Int32), oI ch0, oI ch1, oI ch2, oR b165, oR b170, oR b234, oU, oU, oU] [(.ref b170), (.ref b274), (.ref b274)])) rfl (by rw [hml]; rfl) (Steps.refl _) (a := b274) (argsL := [(.ref b170)]) (rest := [(.ref b274)]) (lenOf pd_22 rfl) rfl (by show 2 * 0 + _ ≤ _; exact Nat.le_of_eq rfl) (hb hby at_232) (fun _ _ => ⟨rfl, e274, (by decide : 5 + 1 ≤ _), (by decide : 45 + 35 ≤ _)⟩)
    dsimp only [Pt.U, Pt.locs, Pt.cells, Pt.slots] at X284 l284 y284 z284 st284 hQ284
    subst l284 y284 z284
    obtain ⟨rfl, Nq284, K284, Ex284, Co284, t284, kb284, ga284, gb284, gn284, Va284, Av284⟩ := hQ284
    have N284 := Fr.app N243 Nq284
    have F291 := ThS.ext E274 Th267
    have Th292 := ThS.keep K284 (nsS (Exa.nostat A274) ns0) F291
    have z293 := K284.1
    have Sf294 := Safe.keep K284 (sfS Sf281 sf0) CC279.1 Sf276
    have Sf295 := Safe.keep K284 (sfS Sf281 sf0) CC279.1 Sf277
    have Sf296 := Safe.keep K284 (sfS Sf281 sf0) CC279.1 Sf278
    have Sf297 := Safe.keep K284 (sfS Sf281 sf0) CC279.1 Sf281
    have CC298 := CC279.trans (CHr.keep K284 (sfS Sf281 sf0) CC279.1)
    have g299 : n0 ≤ t284 := Nat.le_trans (Nat.le_trans Z0 (Nat.le_trans (Nat.le_trans (Nat.le_trans (Nat.le_trans (Nat.le_trans (Nat.le_trans (Nat.le_trans (Nat.le_trans (Nat.le_trans (Nat.le_trans (Nat.le_trans (Nat.le_trans (Nat.le_trans z166 z171) z178) z184) z189) z194) z199) z204) z209) z214) z230) z235) z268) z275)) gb284
    have e284 : T284.heap = T284.heap := rfl
    refine Wp.tr (S' := T284.setTop (mkF m 235 #[oI x1, oI x2, oI x3, oI x4, oI (1 : Int32), oI ch0, oI ch1, oI ch2, oR b165, oR b170, oR b234, oU, oU, oU] [(.ref b274)])) st284 ?_
    refine Wp.st (S' := T284.setTop (mkF m 237 #[oI x1, oI x2, oI x3, oI x4, oI (1 : Int32), oI ch0, oI ch1, oI ch2, oR b165, oR b170, oR b234, oR b274, oU, oU] [])) (fun tt_ kk_ => XS.astore X284.here hx rfl (hb hby at_235) rfl rfl (l' := #[oI x1, oI x2, oI x3, oI x4, oI (1 : Int32), oI ch0, oI ch1, oI ch2, oR b165, oR b170, oR b234, oR b274, oU, oU]) rfl kk_) ?_
    refine Wp.st (S' := T284.setTop (mkF m 239 #[oI x1, oI x2, oI x3, oI x4, oI (1 : Int32), oI ch0, oI ch1, oI ch2, oR b165, oR b170, oR b234, oR b274, oU, oU] [(.ref b234)])) (fun tt_ kk_ => XS.aload X284.here hx rfl (hb hby at_237) rfl rfl kk_) ?_
    have O301 := O290.keep K284 (allS g280 all0)
    have F302 := Ex243.ext E274
    have F303 := F302.keep K284
    have F304 := Va243.ext E274
    have F305 := F304.keep K284 (ninS (Nat.ne_of_lt (Nat.lt_of_lt_of_le A234.lt (Nat.le_trans z268 (Nat.le_of_eq g274.symm)))) nin0)
    have F306 := Co243.ext E274
    have F307 := F306.keep K284 (ninS (Nat.ne_of_lt (Nat.lt_of_lt_of_le A234.lt (Nat.le_trans z268 (Nat.le_of_eq g274.symm)))) nin0)
    have F308 := Av243.ext E274
    have F309 := F308.keep K284 (ninS (Nat.ne_of_lt (Nat.lt_of_lt_of_le Av243.lt (Nat.le_trans (Nat.le_refl _) (Nat.le_of_eq g274.symm)))) nin0)
    obtain ⟨vv300, _, ⟨T300, L300, k300, n300⟩, -, Xq300, sn300, gr300, ⟨Lc300, hQ300, l300, y300, z300, cr300⟩, st300⟩ := callSS X284 hx (y := (⟨"com/example/mortise_lock/mortiselock/redis/RedisCallException", "closed", "(Ljava/lang/String;)Lcom/example/mortise_lock/mortiselock/redis/RedisCallException;"⟩ : MethodName)) hown (mvT hZ (hw _ (List.mem_of_getElem? (i := 37) rfl))) (mvT hZ (hw _ (List.mem_of_getElem? (i := 38) rfl))) (mvT hZ (hw _ (List.mem_of_getElem? (i := 39) rfl))) (mvT hZ (hw _ (List.mem_of_getElem? (i := 40) rfl))) (by decide) (backOfSKH (W := 0) (rm8 l Z a0 hw [] b234 zcs t243 kb243 (1 : Int32) ((([(nar .char ch0)] : List Int32).map (fun c => c.toInt8.toInt32)).map Value.int) vu vs T284.heap n0 (Nat.le_trans Z0 (Nat.le_trans (Nat.le_trans (Nat.le_trans (Nat.le_trans (Nat.le_trans (Nat.le_trans (Nat.le_trans (Nat.le_trans (Nat.le_trans (Nat.le_trans (Nat.le_trans (Nat.le_trans (Nat.le_trans (Nat.le_trans z166 z171) z178) z184) z189) z194) z199) z204) z209) z214) z230) z235) z268) z275) z293)) O301 SCompact (hCS : ¬ zcs = 0) Th292 ((by assumption) : ∀ d ∈ Jvm.RoadKit.twoRefs, d.before a0 Z = true) ((by assumption) : l.stackTraces = true) SUn SSe hvu hvs F303 F305 F307 F309 ((by simp) : (1 : Int32) = (0 : Int32) ∨ (1 : Int32) = (1 : Int32) ∨ (1 : Int32) = (2 : Int32) ∨ (1 : Int32) = (3 : Int32))) hZ (hw _ (List.mem_of_getElem? (i := 40) rfl)) (hw _ (List.mem_of_getElem? (i := 39) rfl)) (by decide) (by decide) hEL CC298.1 hK.1 hK.2) (g := (mkF m 239 #[oI x1, oI x2, oI x3, oI x4, oI (1 : Int32), oI ch0, oI ch1, oI ch2, oR b165, oR b170, oR b234, oR b274, oU, oU] [(.ref b234)])) rfl (by rw [hml]; rfl) (argsL := [(.ref b234)]) (rest := []) (lenOf pd_23 rfl) rfl (by show 2 * 0 + _ ≤ _; exact Nat.le_of_eq rfl) (hb hby at_239) (fun _ _ => ⟨rfl, e284, (by decide : 6 + 11 ≤ _), (by decide : 80 + 3000 ≤ _)⟩)
    dsimp only [Pt.U, Pt.locs, Pt.cells, Pt.slots] at Xq300 sn300 gr300 l300 y300 z300 st300 hQ300 cr300
    subst l300 y300 z300
    obtain ⟨X300, hS300, hZ300, how300⟩ := rebS hS0 (by rw [e284]; exact (Nat.le_trans (Nat.le_refl _) (Nat.le_trans (Nat.le_trans (Nat.le_trans (Nat.le_trans (Nat.le_trans (Nat.le_trans (Nat.le_trans (Nat.le_trans (Nat.le_trans (Nat.le_trans (Nat.le_trans (Nat.le_trans (Nat.le_trans (Nat.le_trans z166 z171) z178) z184) z189) z194) z199) z204) z209) z214) z230) z235) z268) z275) z293))) Xq300 sn300 gr300 hZ hown
    obtain ⟨b310, b311, b312, c313, rfl, Nq300, K300, P300_0, P300_1, P300_2, P300_3, P300_4, P300_5, P300_6, P300_7⟩ := hQ300
    have N300 := Fr.app N284 Nq300
    have Th314 := ThS.keep K300 ns0 Th292
    have z315 := K300.1
    have Sf316 := cr300.safe (Nat.lt_of_lt_of_le V165.lt (Nat.le_trans (Nat.le_trans (Nat.le_trans (Nat.le_trans (Nat.le_trans (Nat.le_trans (Nat.le_trans (Nat.le_trans (Nat.le_trans (Nat.le_trans (Nat.le_trans (Nat.le_trans (Nat.le_trans z171 z178) z184) z189) z194) z199) z204) z209) z214) z230) z235) z268) z275) z293)) Sf294
    have Sf317 := cr300.safe (Nat.lt_of_lt_of_le V170.lt (Nat.le_trans (Nat.le_trans (Nat.le_trans (Nat.le_trans (Nat.le_trans (Nat.le_trans (Nat.le_trans (Nat.le_trans (Nat.le_trans (Nat.le_trans (Nat.le_trans (Nat.le_trans z178 z184) z189) z194) z199) z204) z209) z214) z230) z235) z268) z275) z293)) Sf295
    have Sf318 := cr300.safe (Nat.lt_of_lt_of_le A234.lt (Nat.le_trans (Nat.le_trans z268 z275) z293)) Sf296
    have Sf319 := cr300.safe (Nat.lt_of_lt_of_le A274.lt z293) Sf297
    have CC320 := CC298.trans cr300
    have e300 : T300.heap = T300.heap := rfl
    refine Wp.tr (S' := T300.setTop (mkF m 242 #[oI x1, oI x2, oI x3, oI x4, oI (1 : Int32), oI ch0, oI ch1, oI ch2, oR b165, oR b170, oR b234, oR b274, oU, oU] [(.ref b310)])) st300 ?_
    refine Wp.st (S' := T300.setTop (mkF m 244 #[oI x1, oI x2, oI x3, oI x4, oI (1 : Int32), oI ch0, oI ch1, oI ch2, oR b165, oR b170, oR b234, oR b274, oR b310, oU] [])) (fun tt_ kk_ => XS.astore X300.here hx rfl (hb hby at_242) rfl rfl (l' := #[oI x1, oI x2, oI x3, oI x4, oI (1 : Int32), oI ch0, oI ch1, oI ch2, oR b165, oR b170, oR b234, oR b274, oR b310, oU]) rfl kk_) ?_
    refine Wp.st (S' := T300.setTop (mkF m 246 #[oI x1, oI x2, oI x3, oI x4, oI (1 : Int32), oI ch0, oI ch1, oI ch2, oR b165, oR b170, oR b234, oR b274, oR b310, oU] [(.ref b310)])) (fun tt_ kk_ => XS.aload X300.here hx rfl (hb hby at_244) rfl rfl kk_) ?_
    refine Wp.st (S' := T300.setTop (mkF m 251 #[oI x1, oI x2, oI x3, oI x4, oI (1 : Int32), oI ch0, oI ch1, oI ch2, oR b165, oR b170, oR b234, oR b274, oR b310, oU] [])) (fun tt_ kk_ => XS.ifnonnullYes X300.here hx rfl (pc0 := 246) (pc' := 251) rfl (hb hby at_246) rfl (by decide) (by decide) kk_) ?_
    refine Wp.st (S' := T300.setTop (mkF m 253 #[oI x1, oI x2, oI x3, oI x4, oI (1 : Int32), oI ch0, oI ch1, oI ch2, oR b165, oR b170, oR b234, oR b274, oR b310, oU] [(.ref b310)])) (fun tt_ kk_ => XS.aload X300.here hx rfl (hb hby at_251) rfl rfl kk_) ?_
    obtain ⟨cq321, kq321, q321a, q321b, q321c⟩ := isOf hZ300 e300 P300_0
    obtain ⟨vv321, _, ⟨T321, L321, k321, n321⟩, -, X321, ⟨Lc321, hQ321, l321, y321, z321⟩, st321⟩ := X300.virtualBackUp hx (owner := "java/lang/Throwable") (x := (⟨"com/example/mortise_lock/mortiselock/redis/RedisCallException", "getCause", "()Ljava/lang/Throwable;"⟩ : MethodName)) (y := (⟨"java/lang/Throwable", "getCause", "()Ljava/lang/Throwable;"⟩ : MethodName)) how300 (mvT hZ300 (hw _ (List.mem_of_getElem? (i := 232) rfl))) (mvT hZ300 (hw _ (List.mem_of_getElem? (i := 233) rfl))) (mvT hZ300 (hw _ (List.mem_of_getElem? (i := 234) rfl))) (by decide) (mvT hZ300 (hw _ (List.mem_of_getElem? (i := 236) rfl))) (mvT hZ300 (hw _ (List.mem_of_getElem? (i := 235) rfl))) (gcBackPure (rm := ({} : Room)) (W := 0) hZ300 (hw _ (List.mem_of_getElem? (i := 237) rfl)) (hw _ (List.mem_of_getElem? (i := 235) rfl)) (hw _ (List.mem_of_getElem? (i := 193) rfl)) (hw _ (List.mem_of_getElem? (i := 196) rfl)) P300_1 P300_3 rfl (by decide) (by decide)) q321a q321c (g := (mkF m 253 #[oI x1, oI x2, oI x3, oI x4, oI (1 : Int32), oI ch0, oI ch1, oI ch2, oR b165, oR b170, oR b234, oR b274, oR b310, oU] [(.ref b310)])) rfl (by rw [hml]; rfl) (Steps.refl _) (argsL := []) (rest := []) (lenOf pd_24 rfl) rfl (by show 2 * 0 + _ ≤ _; exact Nat.le_of_eq rfl) (hb hby at_253) (fun _ _ => ⟨rfl, e300, (by decide : 17 + 0 ≤ _), (by decide : 3080 + 0 ≤ _)⟩)
    dsimp only [Pt.U, Pt.locs, Pt.cells, Pt.slots] at X321 l321 y321 z321 st321 hQ321
    subst l321 y321 z321
    rw [gcv_null] at Lc321
    subst Lc321
    have e321 := hQ321
    refine Wp.tr (S' := T321.setTop (mkF m 256 #[oI x1, oI x2, oI x3, oI x4, oI (1 : Int32), oI ch0, oI ch1, oI ch2, oR b165, oR b170, oR b234, oR b274, oR b310, oU] [.null])) st321 ?_
    refine Wp.st (S' := T321.setTop (mkF m 261 #[oI x1, oI x2, oI x3, oI x4, oI (1 : Int32), oI ch0, oI ch1, oI ch2, oR b165, oR b170, oR b234, oR b274, oR b310, oU] [])) (fun tt_ kk_ => XS.ifnullYes X321.here hx rfl (pc0 := 256) (pc' := 261) rfl (hb hby at_256) rfl (by decide) (by decide) kk_) ?_
    refine Wp.st (S' := T321.setTop (mkF m 263 #[oI x1, oI x2, oI x3, oI x4, oI (1 : Int32), oI ch0, oI ch1, oI ch2, oR b165, oR b170, oR b234, oR b274, oR b310, oU] [(.ref b310)])) (fun tt_ kk_ => XS.aload X321.here hx rfl (hb hby at_261) rfl rfl kk_) ?_
    obtain ⟨cq322, kq322, q322a, q322b, q322c⟩ := isOf hZ300 e321 P300_0
    obtain ⟨vv322, _, ⟨T322, L322, k322, n322⟩, -, X322, ⟨Lc322, hQ322, l322, y322, z322⟩, st322⟩ := X321.virtualBackUp hx (owner := "java/lang/Throwable") (x := (⟨"com/example/mortise_lock/mortiselock/redis/RedisCallException", "getMessage", "()Ljava/lang/String;"⟩ : MethodName)) (y := (⟨"java/lang/Throwable", "getMessage", "()Ljava/lang/String;"⟩ : MethodName)) how300 (mvT hZ300 (hw _ (List.mem_of_getElem? (i := 238) rfl))) (mvT hZ300 (hw _ (List.mem_of_getElem? (i := 239) rfl))) (mvT hZ300 (hw _ (List.mem_of_getElem? (i := 240) rfl))) (by decide) (mvT hZ300 (hw _ (List.mem_of_getElem? (i := 242) rfl))) (mvT hZ300 (hw _ (List.mem_of_getElem? (i := 241) rfl))) (backOf (W := 0) (rm39 l Z a0 hw [] b310 b311 T300.heap n0 (Nat.le_trans Z0 (Nat.le_trans (Nat.le_trans (Nat.le_trans (Nat.le_trans (Nat.le_trans (Nat.le_trans (Nat.le_trans (Nat.le_trans (Nat.le_trans (Nat.le_trans (Nat.le_trans (Nat.le_trans (Nat.le_trans (Nat.le_trans (Nat.le_trans z166 z171) z178) z184) z189) z194) z199) z204) z209) z214) z230) z235) z268) z275) z293) z315)) P300_2) hZ300 (hw _ (List.mem_of_getElem? (i := 243) rfl)) (hw _ (List.mem_of_getElem? (i := 193) rfl)) (by decide) (by decide)) q322a q322c (g := (mkF m 263 #[oI x1, oI x2, oI x3, oI x4, oI (1 : Int32), oI ch0, oI ch1, oI ch2, oR b165, oR b170, oR b234, oR b274, oR b310, oU] [(.ref b310)])) rfl (by rw [hml]; rfl) (Steps.refl _) (argsL := []) (rest := []) (lenOf pd_19 rfl) rfl (by show 2 * 0 + _ ≤ _; exact Nat.le_of_eq rfl) (hb hby at_263) (fun _ _ => ⟨rfl, e321, (by decide : 17 + 0 ≤ _), (by decide : 3080 + 0 ≤ _)⟩)
    dsimp only [Pt.U, Pt.locs, Pt.cells, Pt.slots] at X322 l322 y322 z322 st322 hQ322
    subst l322 y322 z322
    obtain ⟨rfl, Nq322, e322⟩ := hQ322
    have N322 := Fr.app N300 Nq322
    refine Wp.tr (S' := T322.setTop (mkF m 266 #[oI x1, oI x2, oI x3, oI x4, oI (1 : Int32), oI ch0, oI ch1, oI ch2, oR b165, oR b170, oR b234, oR b274, oR b310, oU] [(.ref b311)])) st322 ?_
    refine Wp.st (S' := T322.setTop (mkF m 268 #[oI x1, oI x2, oI x3, oI x4, oI (1 : Int32), oI ch0, oI ch1, oI ch2, oR b165, oR b170, oR b234, oR b274, oR b310, oR b311] [])) (fun tt_ kk_ => XS.astore X322.here hx rfl (hb hby at_266) rfl rfl (l' := #[oI x1, oI x2, oI x3, oI x4, oI (1 : Int32), oI ch0, oI ch1, oI ch2, oR b165, oR b170, oR b234, oR b274, oR b310, oR b311]) rfl kk_) ?_
    refine Wp.st (S' := T322.setTop (mkF m 270 #[oI x1, oI x2, oI x3, oI x4, oI (1 : Int32), oI ch0, oI ch1, oI ch2, oR b165, oR b170, oR b234, oR b274, oR b310, oR b311] [(.ref b311)])) (fun tt_ kk_ => XS.aload X322.here hx rfl (hb hby at_268) rfl rfl kk_) ?_
    refine Wp.st (S' := T322.setTop (mkF m 275 #[oI x1, oI x2, oI x3, oI x4, oI (1 : Int32), oI ch0, oI ch1, oI ch2, oR b165, oR b170, oR b234, oR b274, oR b310, oR b311] [])) (fun tt_ kk_ => XS.ifnonnullYes X322.here hx rfl (pc0 := 270) (pc' := 275) rfl (hb hby at_270) rfl (by decide) (by decide) kk_) ?_
    have em : own_msg ((([(nar .char ch0)] : List Int32).map (fun c => c.toInt8.toInt32)).map Value.int) (1 : Int32) = (own_P.map Value.int ++ own_bytes [(nar .char ch0)] ++ own_Sf.map Value.int) ++ List.replicate 29 (.int 0) := own_em1 _
    have eb : own_bytes (own_P ++ [(nar .char ch0)] ++ own_Sf) = own_P.map Value.int ++ own_bytes [(nar .char ch0)] ++ own_Sf.map Value.int := by unfold own_bytes; rw [List.map_append, List.map_append, List.map_append, List.map_append, show own_P.map (fun c => c.toInt8.toInt32) = own_P by decide +kernel, show own_Sf.map (fun c => c.toInt8.toInt32) = own_Sf by decide +kernel]
    have P2 : Arv Z T300.heap b312 c313 .byte (35 : Int32) (own_msg ((([(nar .char ch0)] : List Int32).map (fun c => c.toInt8.toInt32)).map Value.int) (1 : Int32)) (.int (0 : Int32)) := P300_7
    rw [em] at P2
    have Vmm : Arv Z T300.heap b312 c313 .byte (35 : Int32) (own_bytes (own_P ++ [(nar .char ch0)] ++ own_Sf)) (.int (0 : Int32)) := Arv.pad P2 (fun i => by rw [eb]; exact own_padz _ _ i)
    have hlm : (own_P ++ [(nar .char ch0)] ++ own_Sf) = ([(108 : Int32), (111 : Int32), (99 : Int32), (107 : Int32), (32 : Int32), (39 : Int32), (nar .char ch0), (39 : Int32), (58 : Int32), (32 : Int32), (105 : Int32), (116 : Int32), (115 : Int32), (32 : Int32), (77 : Int32), (111 : Int32), (114 : Int32), (116 : Int32), (105 : Int32), (115 : Int32), (101 : Int32), (76 : Int32), (111 : Int32), (99 : Int32), (107 : Int32), (32 : Int32), (105 : Int32), (115 : Int32), (32 : Int32), (99 : Int32), (108 : Int32), (111 : Int32), (115 : Int32), (101 : Int32), (100 : Int32)] : List Int32) := rfl
    have hpm : ∀ c ∈ (own_P ++ [(nar .char ch0)] ++ own_Sf), ¬ c < 0 ∧ ¬ (255 : Int32) < c := by rw [hlm]; exact hp285
    refine Wp.st (S' := T322.setTop (mkF m 277 #[oI x1, oI x2, oI x3, oI x4, oI (1 : Int32), oI ch0, oI ch1, oI ch2, oR b165, oR b170, oR b234, oR b274, oR b310, oR b311] [(.ref b311)])) (fun tt_ kk_ => XS.aload X322.here hx rfl (hb hby at_275) rfl rfl kk_) ?_
    have O324 := O301.keep K300 all0
    obtain ⟨cq323, kq323, q323a, q323b, q323c⟩ := isOf hZ300 e322 P300_4
    obtain ⟨vv323, _, ⟨T323, L323, k323, n323⟩, -, X323, ⟨Lc323, hQ323, l323, y323, z323⟩, st323⟩ := X322.virtualBack hx (y := (⟨"java/lang/String", "length", "()I"⟩ : MethodName)) (z := (⟨"java/lang/String", "length", "()I"⟩ : MethodName)) how300 (mvT hZ300 (hw _ (List.mem_of_getElem? (i := 244) rfl))) (mvT hZ300 (hw _ (List.mem_of_getElem? (i := 73) rfl))) (notFace_of_selects (args := #[]) (mvT hZ300 (hw _ (List.mem_of_getElem? (i := 75) rfl)))) (mvT hZ300 (hw _ (List.mem_of_getElem? (i := 75) rfl))) (mvT hZ300 (hw _ (List.mem_of_getElem? (i := 74) rfl))) (by decide) (backOf (W := 0) (rm13 l Z a0 hw [] b311 zcs b312 c313 (35 : Int32) (own_bytes (own_P ++ [(nar .char ch0)] ++ own_Sf)) T300.heap n0 (Nat.le_trans Z0 (Nat.le_trans (Nat.le_trans (Nat.le_trans (Nat.le_trans (Nat.le_trans (Nat.le_trans (Nat.le_trans (Nat.le_trans (Nat.le_trans (Nat.le_trans (Nat.le_trans (Nat.le_trans (Nat.le_trans (Nat.le_trans (Nat.le_trans z166 z171) z178) z184) z189) z194) z199) z204) z209) z214) z230) z235) z268) z275) z293) z315)) O324 SCompact (hCS : ¬ zcs = 0) P300_4 P300_5 P300_6 Vmm) hZ300 (hw _ (List.mem_of_getElem? (i := 76) rfl)) (hw _ (List.mem_of_getElem? (i := 7) rfl)) (by decide) (by decide)) q323a q323c (g := (mkF m 277 #[oI x1, oI x2, oI x3, oI x4, oI (1 : Int32), oI ch0, oI ch1, oI ch2, oR b165, oR b170, oR b234, oR b274, oR b310, oR b311] [(.ref b311)])) rfl (by rw [hml]; rfl) (Steps.refl _) (argsL := []) (rest := []) (lenOf pd_7 rfl) rfl (by show 2 * 0 + _ ≤ _; exact Nat.le_of_eq rfl) (hb hby at_277) (fun _ _ => ⟨rfl, e322, (by decide : 17 + 0 ≤ _), (by decide : 3080 + 0 ≤ _)⟩)
    dsimp only [Pt.U, Pt.locs, Pt.cells, Pt.slots] at X323 l323 y323 z323 st323 hQ323
    subst l323 y323 z323
    obtain ⟨rfl, Nq323, e323⟩ := hQ323
    have N323 := Fr.app N322 Nq323
    refine Wp.tr (S' := T323.setTop (mkF m 280 #[oI x1, oI x2, oI x3, oI x4, oI (1 : Int32), oI ch0, oI ch1, oI ch2, oR b165, oR b170, oR b234, oR b274, oR b310, oR b311] [(.int (35 : Int32))])) st323 ?_
    refine Wp.st (S' := T323.setTop (mkF m 282 #[oI x1, oI x2, oI x3, oI x4, oI (1 : Int32), oI ch0, oI ch1, oI ch2, oR b165, oR b170, oR b234, oR b274, oR b310, oR b311] [(.int (34 : Int32)), (.int (35 : Int32))])) (fun tt_ kk_ => XS.bipush X323.here hx rfl (hb hby at_280) kk_) ?_
    refine Wp.st (S' := T323.setTop (mkF m 284 #[oI x1, oI x2, oI x3, oI x4, oI (1 : Int32), oI ch0, oI ch1, oI ch2, oR b165, oR b170, oR b234, oR b274, oR b310, oR b311] [(.int (1 : Int32)), (.int (34 : Int32)), (.int (35 : Int32))])) (fun tt_ kk_ => XS.iload X323.here hx rfl (hb hby at_282) rfl  kk_) ?_
    refine Wp.st (S' := T323.setTop (mkF m 285 #[oI x1, oI x2, oI x3, oI x4, oI (1 : Int32), oI ch0, oI ch1, oI ch2, oR b165, oR b170, oR b234, oR b274, oR b310, oR b311] [(.int ((34 : Int32) + (1 : Int32))), (.int (35 : Int32))])) (fun tt_ kk_ => XS.iadd X323.here hx rfl (hb hby at_284) rfl kk_) ?_
    rw [(by decide : ((34 : Int32) + (1 : Int32)) = (35 : Int32))]
    refine Wp.st (S' := T323.setTop (mkF m 288 #[oI x1, oI x2, oI x3, oI x4, oI (1 : Int32), oI ch0, oI ch1, oI ch2, oR b165, oR b170, oR b234, oR b274, oR b310, oR b311] [])) (fun tt_ kk_ => XS.icmpNo X323.here hx rfl (hb hby at_285) rfl (teq ((by decide) : (35 : Int32) = (35 : Int32))).2 kk_) ?_
    refine Wp.st (S' := T323.setTop (mkF m 290 #[oI x1, oI x2, oI x3, oI x4, oI (1 : Int32), oI ch0, oI ch1, oI ch2, oR b165, oR b170, oR b234, oR b274, oR b310, oR b311] [(.ref b311)])) (fun tt_ kk_ => XS.aload X323.here hx rfl (hb hby at_288) rfl rfl kk_) ?_
    refine Wp.st (S' := T323.setTop (mkF m 292 #[oI x1, oI x2, oI x3, oI x4, oI (1 : Int32), oI ch0, oI ch1, oI ch2, oR b165, oR b170, oR b234, oR b274, oR b310, oR b311] [(.ref b274), (.ref b311)])) (fun tt_ kk_ => XS.aload X323.here hx rfl (hb hby at_290) rfl rfl kk_) ?_
    have F326 := Ex284.keep K300
    have F327 := Va284.keep K300 nin0
    have F328 := Co284.keep K300 nin0
    have F329 := Av284.keep K300 nin0
    obtain ⟨cq325, kq325, q325a, q325b, q325c⟩ := isOf hZ300 e323 P300_4
    obtain ⟨vv325, _, ⟨T325, L325, k325, n325⟩, -, X325, ⟨Lc325, hQ325, l325, y325, z325⟩, st325⟩ := X323.virtualBack hx (y := (⟨"java/lang/String", "equals", "(Ljava/lang/Object;)Z"⟩ : MethodName)) (z := (⟨"java/lang/String", "equals", "(Ljava/lang/Object;)Z"⟩ : MethodName)) how300 (mvT hZ300 (hw _ (List.mem_of_getElem? (i := 245) rfl))) (mvT hZ300 (hw _ (List.mem_of_getElem? (i := 246) rfl))) (notFace_of_selects (args := #[]) (mvT hZ300 (hw _ (List.mem_of_getElem? (i := 248) rfl)))) (mvT hZ300 (hw _ (List.mem_of_getElem? (i := 248) rfl))) (mvT hZ300 (hw _ (List.mem_of_getElem? (i := 247) rfl))) (by decide) (StrChars.Road.eqW (W := 0) hZ300 (fun d hd => hw d ((by decide +kernel : ∀ d ∈ StrChars.Road.wordsEq, d ∈ tables_1) d hd)) (kI := 4) (hw _ (List.mem_of_getElem? (i := 6) rfl)) P300_4 P300_5 P300_6 Vmm (own_cod hpm) (own_up hpm) (Nat.le_of_ble_eq_true rfl) F326 F327 F328 F329 (own_cod hp285) (own_up hp285) (Nat.le_of_ble_eq_true rfl) (SCompact.ext O324.2) hCS (by decide) (by decide)) q325a q325c (g := (mkF m 292 #[oI x1, oI x2, oI x3, oI x4, oI (1 : Int32), oI ch0, oI ch1, oI ch2, oR b165, oR b170, oR b234, oR b274, oR b310, oR b311] [(.ref b274), (.ref b311)])) rfl (by rw [hml]; rfl) (Steps.refl _) (argsL := [(.ref b274)]) (rest := []) (lenOf pd_25 rfl) rfl (by show 2 * 0 + _ ≤ _; exact Nat.le_of_eq rfl) (hb hby at_292) (fun _ _ => ⟨rfl, e323, (by decide : 17 + 0 ≤ _), (by decide : 3080 + 0 ≤ _)⟩)
    dsimp only [Pt.U, Pt.locs, Pt.cells, Pt.slots] at X325 l325 y325 z325 st325 hQ325
    subst l325 y325 z325
    obtain ⟨hcase325, rfl, e325⟩ := hQ325
    have hv325 : vv325 = some (.int (if (own_P ++ [(nar .char ch0)] ++ own_Sf) = ([(108 : Int32), (111 : Int32), (99 : Int32), (107 : Int32), (32 : Int32), (39 : Int32), (nar .char ch0), (39 : Int32), (58 : Int32), (32 : Int32), (105 : Int32), (116 : Int32), (115 : Int32), (32 : Int32), (77 : Int32), (111 : Int32), (114 : Int32), (116 : Int32), (105 : Int32), (115 : Int32), (101 : Int32), (76 : Int32), (111 : Int32), (99 : Int32), (107 : Int32), (32 : Int32), (105 : Int32), (115 : Int32), (32 : Int32), (99 : Int32), (108 : Int32), (111 : Int32), (115 : Int32), (101 : Int32), (100 : Int32)] : List Int32) then (1 : Int32) else (0 : Int32))) := by
      rcases hcase325 with ⟨q, r⟩ | ⟨q, r⟩
      · rw [q, if_pos r]
      · rw [q, if_neg r]
    subst hv325
    have N325 := Fr.app N323 (Fr.nil n0)
    refine Wp.tr (S' := T325.setTop (mkF m 295 #[oI x1, oI x2, oI x3, oI x4, oI (1 : Int32), oI ch0, oI ch1, oI ch2, oR b165, oR b170, oR b234, oR b274, oR b310, oR b311] [(.int (if (own_P ++ [(nar .char ch0)] ++ own_Sf) = ([(108 : Int32), (111 : Int32), (99 : Int32), (107 : Int32), (32 : Int32), (39 : Int32), (nar .char ch0), (39 : Int32), (58 : Int32), (32 : Int32), (105 : Int32), (116 : Int32), (115 : Int32), (32 : Int32), (77 : Int32), (111 : Int32), (114 : Int32), (116 : Int32), (105 : Int32), (115 : Int32), (101 : Int32), (76 : Int32), (111 : Int32), (99 : Int32), (107 : Int32), (32 : Int32), (105 : Int32), (115 : Int32), (32 : Int32), (99 : Int32), (108 : Int32), (111 : Int32), (115 : Int32), (101 : Int32), (100 : Int32)] : List Int32) then (1 : Int32) else (0 : Int32)))])) st325 ?_
    rw [(if_pos hlm : (if (own_P ++ [(nar .char ch0)] ++ own_Sf) = ([(108 : Int32), (111 : Int32), (99 : Int32), (107 : Int32), (32 : Int32), (39 : Int32), (nar .char ch0), (39 : Int32), (58 : Int32), (32 : Int32), (105 : Int32), (116 : Int32), (115 : Int32), (32 : Int32), (77 : Int32), (111 : Int32), (114 : Int32), (116 : Int32), (105 : Int32), (115 : Int32), (101 : Int32), (76 : Int32), (111 : Int32), (99 : Int32), (107 : Int32), (32 : Int32), (105 : Int32), (115 : Int32), (32 : Int32), (99 : Int32), (108 : Int32), (111 : Int32), (115 : Int32), (101 : Int32), (100 : Int32)] : List Int32) then (1 : Int32) else (0 : Int32)) = (1 : Int32))]
    refine Wp.st (S' := T325.setTop (mkF m 298 #[oI x1, oI x2, oI x3, oI x4, oI (1 : Int32), oI ch0, oI ch1, oI ch2, oR b165, oR b170, oR b234, oR b274, oR b310, oR b311] [])) (fun tt_ kk_ => XS.ifNo X325.here hx rfl (hb hby at_295) rfl ((if0 _ _).trans (feq ((by decide) : ¬ ((1 : Int32) = (0 : Int32)))).1) kk_) ?_
    refine Wp.st (S' := T325.setTop (mkF m 299 #[oI x1, oI x2, oI x3, oI x4, oI (1 : Int32), oI ch0, oI ch1, oI ch2, oR b165, oR b170, oR b234, oR b274, oR b310, oR b311] [(.int (1 : Int32))])) (fun tt_ kk_ => XS.iconst X325.here hx rfl (hb hby at_298) kk_) ?_
    refine Wp.st (S' := T325.setTop (mkF m 303 #[oI x1, oI x2, oI x3, oI x4, oI (1 : Int32), oI ch0, oI ch1, oI ch2, oR b165, oR b170, oR b234, oR b274, oR b310, oR b311] [(.int (1 : Int32))])) (fun tt_ kk_ => XS.goto X325.here hx rfl (pc0 := 299) (pc' := 303) rfl (hb hby at_299) (by decide) (by decide) kk_) ?_
    have K330 := Keep.refl h0 []
    have K331 := K330.ext E165
    have K332 := K331.ext E170
    have K333 := K332.wr W177 (Or.inr (Nat.le_trans (Nat.le_refl _) (Nat.le_of_eq g165.symm)))
    have K334 := K333.wr W183 (Or.inr (Nat.le_trans z166 (Nat.le_of_eq g170.symm)))
    have K335 := K334.wr W188 (Or.inr (Nat.le_trans z166 (Nat.le_of_eq g170.symm)))
    have K336 := K335.wr W193 (Or.inr (Nat.le_trans z166 (Nat.le_of_eq g170.symm)))
    have K337 := K336.wr W198 (Or.inr (Nat.le_trans z166 (Nat.le_of_eq g170.symm)))
    have K338 := K337.wr W203 (Or.inr (Nat.le_trans z166 (Nat.le_of_eq g170.symm)))
    have K339 := K338.wr W208 (Or.inr (Nat.le_trans z166 (Nat.le_of_eq g170.symm)))
    have K340 := K339.wr W213 (Or.inr (Nat.le_trans z166 (Nat.le_of_eq g170.symm)))
    have K341 := K340.trans K218 (allS (Or.inr (Nat.le_trans z166 (Nat.le_of_eq g170.symm))) all0)
    have K342 := K341.ext E234
    have K343 := K342.trans K243 (allS (Or.inr (Nat.le_trans (Nat.le_trans (Nat.le_trans (Nat.le_trans (Nat.le_trans (Nat.le_trans (Nat.le_trans (Nat.le_trans (Nat.le_trans (Nat.le_trans (Nat.le_trans z166 z171) z178) z184) z189) z194) z199) z204) z209) z214) z230) (Nat.le_of_eq g234.symm))) all0)
    have K344 := K343.ext E274
    have K345 := K344.trans K284 (allS (Or.inr (Nat.le_trans (Nat.le_trans (Nat.le_trans (Nat.le_trans (Nat.le_trans (Nat.le_trans (Nat.le_trans (Nat.le_trans (Nat.le_trans (Nat.le_trans (Nat.le_trans (Nat.le_trans (Nat.le_trans z166 z171) z178) z184) z189) z194) z199) z204) z209) z214) z230) z235) z268) (Nat.le_of_eq g274.symm))) all0)
    have K346 := K345.trans K300 all0
    exact Wp.retW X325 hlk hS300 (by rw [e325]; exact (Nat.le_refl _)) (v := (some (.int (1 : Int32)))) (fun h => by rw [Bd.returns] at h; cases h) (fun fs hr => retN (z := (1 : Int32)) X325 hx (t := .boolean) Bd.returns (by simp) (hb hby at_303) hr) (by decide) (by decide) (show Q_rm0 Z x1 x2 x3 x4 zcs vu vs h0 n0 _ T325.heap _ by rw [e325]; exact ⟨rfl, N325, K346⟩)
  · have _u := True.intro
    refine Wp.st (S' := s₁.setTop (mkF m 31 #[oI x1, oI x2, oI x3, oI x4, oI (2 : Int32), oI ch0, oI ch1, oI ch2, oU, oU, oU, oU, oU, oU] [(.int (2 : Int32))])) (fun tt_ kk_ => XS.iload X0.here hx rfl (hb hby at_29) rfl  kk_) ?_
    refine Wp.st (S' := s₁.setTop (mkF m 40 #[oI x1, oI x2, oI x3, oI x4, oI (2 : Int32), oI ch0, oI ch1, oI ch2, oU, oU, oU, oU, oU, oU] [])) (fun tt_ kk_ => XS.ifYes X0.here hx rfl (pc0 := 31) (pc' := 40) rfl (hb hby at_31) rfl ((if0 _ _).trans (feq ((by decide) : ¬ ((2 : Int32) = (0 : Int32)))).2) (by decide) (by decide) kk_) ?_
    refine Wp.st (S' := s₁.setTop (mkF m 42 #[oI x1, oI x2, oI x3, oI x4, oI (2 : Int32), oI ch0, oI ch1, oI ch2, oU, oU, oU, oU, oU, oU] [(.int (2 : Int32))])) (fun tt_ kk_ => XS.iload X0.here hx rfl (hb hby at_40) rfl  kk_) ?_
    refine Wp.st (S' := s₁.setTop (mkF m 43 #[oI x1, oI x2, oI x3, oI x4, oI (2 : Int32), oI ch0, oI ch1, oI ch2, oU, oU, oU, oU, oU, oU] [(.int (1 : Int32)), (.int (2 : Int32))])) (fun tt_ kk_ => XS.iconst X0.here hx rfl (hb hby at_42) kk_) ?_
    refine Wp.st (S' := s₁.setTop (mkF m 52 #[oI x1, oI x2, oI x3, oI x4, oI (2 : Int32), oI ch0, oI ch1, oI ch2, oU, oU, oU, oU, oU, oU] [])) (fun tt_ kk_ => XS.icmpYes X0.here hx rfl (pc0 := 43) (pc' := 52) rfl (hb hby at_43) rfl (feq ((by decide) : ¬ ((2 : Int32) = (1 : Int32)))).2 (by decide) (by decide) kk_) ?_
    refine Wp.st (S' := s₁.setTop (mkF m 54 #[oI x1, oI x2, oI x3, oI x4, oI (2 : Int32), oI ch0, oI ch1, oI ch2, oU, oU, oU, oU, oU, oU] [(.int (2 : Int32))])) (fun tt_ kk_ => XS.iload X0.here hx rfl (hb hby at_52) rfl  kk_) ?_
    refine Wp.st (S' := s₁.setTop (mkF m 55 #[oI x1, oI x2, oI x3, oI x4, oI (2 : Int32), oI ch0, oI ch1, oI ch2, oU, oU, oU, oU, oU, oU] [(.int (2 : Int32)), (.int (2 : Int32))])) (fun tt_ kk_ => XS.iconst X0.here hx rfl (hb hby at_54) kk_) ?_
    refine Wp.st (S' := s₁.setTop (mkF m 58 #[oI x1, oI x2, oI x3, oI x4, oI (2 : Int32), oI ch0, oI ch1, oI ch2, oU, oU, oU, oU, oU, oU] [])) (fun tt_ kk_ => XS.icmpNo X0.here hx rfl (hb hby at_55) rfl (teq ((by decide) : (2 : Int32) = (2 : Int32))).2 kk_) ?_
    refine Wp.st (S' := s₁.setTop (mkF m 59 #[oI x1, oI x2, oI x3, oI x4, oI (2 : Int32), oI ch0, oI ch1, oI ch2, oU, oU, oU, oU, oU, oU] [(.int (2 : Int32))])) (fun tt_ kk_ => XS.iconst X0.here hx rfl (hb hby at_58) kk_) ?_
    obtain ⟨T347, h347, k347, X347, e347, E347, A347, st347⟩ := newP X0 hx hZ (hw _ (List.mem_of_getElem? (i := 0) rfl)) e0 (g := (mkF m 59 #[oI x1, oI x2, oI x3, oI x4, oI (2 : Int32), oI ch0, oI ch1, oI ch2, oU, oU, oU, oU, oU, oU] [(.int (2 : Int32))])) rfl (hb hby at_59) rfl (by decide) (cap := 2) (by decide) (by decide) (by decide) (by decide)
    obtain ⟨b347, g347⟩ : ∃ z, z = h0.size := ⟨_, rfl⟩
    rw [← g347] at A347 st347
    have z348 := E347.1
    have CC349 := CC0.trans (CHr.ext E347 CC0.1)
    have V347 : Arv Z h347 b347 k347 .char (2 : Int32) [(.int (0 : Int32)), (.int (0 : Int32))] (.int (0 : Int32)) := (Arv.new A347 (by decide)).pad (pad_rep [] (.int (0 : Int32)) 2)
    have g350 : n0 ≤ b347 := Nat.le_trans (Nat.le_trans Z0 (Nat.le_refl _)) (Nat.le_of_eq g347.symm)
    have Sf351 := Safe.ext E347 CC0.1 (Safe.new (x := b347) (Nat.le_of_eq g347.symm))
    refine Wp.st (S' := T347.setTop (mkF m 61 #[oI x1, oI x2, oI x3, oI x4, oI (2 : Int32), oI ch0, oI ch1, oI ch2, oU, oU, oU, oU, oU, oU] [(.ref b347)])) st347 ?_
    refine Wp.st (S' := T347.setTop (mkF m 67 #[oI x1, oI x2, oI x3, oI x4, oI (2 : Int32), oI ch0, oI ch1, oI ch2, oU, oU, oU, oU, oU, oU] [(.ref b347)])) (fun tt_ kk_ => XS.goto X347.here hx rfl (pc0 := 61) (pc' := 67) rfl (hb hby at_61) (by decide) (by decide) kk_) ?_
    refine Wp.st (S' := T347.setTop (mkF m 69 #[oI x1, oI x2, oI x3, oI x4, oI (2 : Int32), oI ch0, oI ch1, oI ch2, oR b347, oU, oU, oU, oU, oU] [])) (fun tt_ kk_ => XS.astore X347.here hx rfl (hb hby at_67) rfl rfl (l' := #[oI x1, oI x2, oI x3, oI x4, oI (2 : Int32), oI ch0, oI ch1, oI ch2, oR b347, oU, oU, oU, oU, oU]) rfl kk_) ?_
    refine Wp.st (S' := T347.setTop (mkF m 71 #[oI x1, oI x2, oI x3, oI x4, oI (2 : Int32), oI ch0, oI ch1, oI ch2, oR b347, oU, oU, oU, oU, oU] [(.int (2 : Int32))])) (fun tt_ kk_ => XS.iload X347.here hx rfl (hb hby at_69) rfl  kk_) ?_
    refine Wp.st (S' := T347.setTop (mkF m 81 #[oI x1, oI x2, oI x3, oI x4, oI (2 : Int32), oI ch0, oI ch1, oI ch2, oR b347, oU, oU, oU, oU, oU] [])) (fun tt_ kk_ => XS.ifYes X347.here hx rfl (pc0 := 71) (pc' := 81) rfl (hb hby at_71) rfl ((if0 _ _).trans (feq ((by decide) : ¬ ((2 : Int32) = (0 : Int32)))).2) (by decide) (by decide) kk_) ?_
    refine Wp.st (S' := T347.setTop (mkF m 83 #[oI x1, oI x2, oI x3, oI x4, oI (2 : Int32), oI ch0, oI ch1, oI ch2, oR b347, oU, oU, oU, oU, oU] [(.int (2 : Int32))])) (fun tt_ kk_ => XS.iload X347.here hx rfl (hb hby at_81) rfl  kk_) ?_
    refine Wp.st (S' := T347.setTop (mkF m 84 #[oI x1, oI x2, oI x3, oI x4, oI (2 : Int32), oI ch0, oI ch1, oI ch2, oR b347, oU, oU, oU, oU, oU] [(.int (1 : Int32)), (.int (2 : Int32))])) (fun tt_ kk_ => XS.iconst X347.here hx rfl (hb hby at_83) kk_) ?_
    refine Wp.st (S' := T347.setTop (mkF m 94 #[oI x1, oI x2, oI x3, oI x4, oI (2 : Int32), oI ch0, oI ch1, oI ch2, oR b347, oU, oU, oU, oU, oU] [])) (fun tt_ kk_ => XS.icmpYes X347.here hx rfl (pc0 := 84) (pc' := 94) rfl (hb hby at_84) rfl (feq ((by decide) : ¬ ((2 : Int32) = (1 : Int32)))).2 (by decide) (by decide) kk_) ?_
    refine Wp.st (S' := T347.setTop (mkF m 96 #[oI x1, oI x2, oI x3, oI x4, oI (2 : Int32), oI ch0, oI ch1, oI ch2, oR b347, oU, oU, oU, oU, oU] [(.int (2 : Int32))])) (fun tt_ kk_ => XS.iload X347.here hx rfl (hb hby at_94) rfl  kk_) ?_
    refine Wp.st (S' := T347.setTop (mkF m 97 #[oI x1, oI x2, oI x3, oI x4, oI (2 : Int32), oI ch0, oI ch1, oI ch2, oR b347, oU, oU, oU, oU, oU] [(.int (2 : Int32)), (.int (2 : Int32))])) (fun tt_ kk_ => XS.iconst X347.here hx rfl (hb hby at_96) kk_) ?_
    refine Wp.st (S' := T347.setTop (mkF m 100 #[oI x1, oI x2, oI x3, oI x4, oI (2 : Int32), oI ch0, oI ch1, oI ch2, oR b347, oU, oU, oU, oU, oU] [])) (fun tt_ kk_ => XS.icmpNo X347.here hx rfl (hb hby at_97) rfl (teq ((by decide) : (2 : Int32) = (2 : Int32))).2 kk_) ?_
    refine Wp.st (S' := T347.setTop (mkF m 102 #[oI x1, oI x2, oI x3, oI x4, oI (2 : Int32), oI ch0, oI ch1, oI ch2, oR b347, oU, oU, oU, oU, oU] [(.int (36 : Int32))])) (fun tt_ kk_ => XS.bipush X347.here hx rfl (hb hby at_100) kk_) ?_
    obtain ⟨T352, h352, k352, X352, e352, E352, A352, st352⟩ := newP X347 hx hZ (hw _ (List.mem_of_getElem? (i := 0) rfl)) e347 (g := (mkF m 102 #[oI x1, oI x2, oI x3, oI x4, oI (2 : Int32), oI ch0, oI ch1, oI ch2, oR b347, oU, oU, oU, oU, oU] [(.int (36 : Int32))])) rfl (hb hby at_102) rfl (by decide) (cap := 36) (by decide) (by decide) (by decide) (by decide)
    obtain ⟨b352, g352⟩ : ∃ z, z = h347.size := ⟨_, rfl⟩
    rw [← g352] at A352 st352
    have z353 := E352.1
    have Sf354 := Safe.ext E352 CC349.1 Sf351
    have CC355 := CC349.trans (CHr.ext E352 CC349.1)
    have V352 : Arv Z h352 b352 k352 .char (36 : Int32) [(.int (0 : Int32)), (.int (0 : Int32)), (.int (0 : Int32)), (.int (0 : Int32)), (.int (0 : Int32)), (.int (0 : Int32)), (.int (0 : Int32)), (.int (0 : Int32)), (.int (0 : Int32)), (.int (0 : Int32)), (.int (0 : Int32)), (.int (0 : Int32)), (.int (0 : Int32)), (.int (0 : Int32)), (.int (0 : Int32)), (.int (0 : Int32)), (.int (0 : Int32)), (.int (0 : Int32)), (.int (0 : Int32)), (.int (0 : Int32)), (.int (0 : Int32)), (.int (0 : Int32)), (.int (0 : Int32)), (.int (0 : Int32)), (.int (0 : Int32)), (.int (0 : Int32)), (.int (0 : Int32)), (.int (0 : Int32)), (.int (0 : Int32)), (.int (0 : Int32)), (.int (0 : Int32)), (.int (0 : Int32)), (.int (0 : Int32)), (.int (0 : Int32)), (.int (0 : Int32)), (.int (0 : Int32))] (.int (0 : Int32)) := (Arv.new A352 (by decide)).pad (pad_rep [] (.int (0 : Int32)) 36)
    have g356 : n0 ≤ b352 := Nat.le_trans (Nat.le_trans Z0 z348) (Nat.le_of_eq g352.symm)
    have Sf357 := Safe.ext E352 CC349.1 (Safe.new (x := b352) (Nat.le_of_eq g352.symm))
    refine Wp.st (S' := T352.setTop (mkF m 104 #[oI x1, oI x2, oI x3, oI x4, oI (2 : Int32), oI ch0, oI ch1, oI ch2, oR b347, oU, oU, oU, oU, oU] [(.ref b352)])) st352 ?_
    refine Wp.st (S' := T352.setTop (mkF m 111 #[oI x1, oI x2, oI x3, oI x4, oI (2 : Int32), oI ch0, oI ch1, oI ch2, oR b347, oU, oU, oU, oU, oU] [(.ref b352)])) (fun tt_ kk_ => XS.goto X352.here hx rfl (pc0 := 104) (pc' := 111) rfl (hb hby at_104) (by decide) (by decide) kk_) ?_
    refine Wp.st (S' := T352.setTop (mkF m 113 #[oI x1, oI x2, oI x3, oI x4, oI (2 : Int32), oI ch0, oI ch1, oI ch2, oR b347, oR b352, oU, oU, oU, oU] [])) (fun tt_ kk_ => XS.astore X352.here hx rfl (hb hby at_111) rfl rfl (l' := #[oI x1, oI x2, oI x3, oI x4, oI (2 : Int32), oI ch0, oI ch1, oI ch2, oR b347, oR b352, oU, oU, oU, oU]) rfl kk_) ?_
    refine Wp.st (S' := T352.setTop (mkF m 115 #[oI x1, oI x2, oI x3, oI x4, oI (2 : Int32), oI ch0, oI ch1, oI ch2, oR b347, oR b352, oU, oU, oU, oU] [(.int (2 : Int32))])) (fun tt_ kk_ => XS.iload X352.here hx rfl (hb hby at_113) rfl  kk_) ?_
    refine Wp.st (S' := T352.setTop (mkF m 118 #[oI x1, oI x2, oI x3, oI x4, oI (2 : Int32), oI ch0, oI ch1, oI ch2, oR b347, oR b352, oU, oU, oU, oU] [])) (fun tt_ kk_ => XS.ifNo X352.here hx rfl (hb hby at_115) rfl ((if0 _ _).trans (tlt ((by decide) : (0 : Int32) < (2 : Int32))).2.2.2) kk_) ?_
    refine Wp.st (S' := T352.setTop (mkF m 120 #[oI x1, oI x2, oI x3, oI x4, oI (2 : Int32), oI ch0, oI ch1, oI ch2, oR b347, oR b352, oU, oU, oU, oU] [(.ref b347)])) (fun tt_ kk_ => XS.aload X352.here hx rfl (hb hby at_118) rfl rfl kk_) ?_
    refine Wp.st (S' := T352.setTop (mkF m 121 #[oI x1, oI x2, oI x3, oI x4, oI (2 : Int32), oI ch0, oI ch1, oI ch2, oR b347, oR b352, oU, oU, oU, oU] [(.int (0 : Int32)), (.ref b347)])) (fun tt_ kk_ => XS.iconst X352.here hx rfl (hb hby at_120) kk_) ?_
    refine Wp.st (S' := T352.setTop (mkF m 123 #[oI x1, oI x2, oI x3, oI x4, oI (2 : Int32), oI ch0, oI ch1, oI ch2, oR b347, oR b352, oU, oU, oU, oU] [(.int ch0), (.int (0 : Int32)), (.ref b347)])) (fun tt_ kk_ => XS.iload X352.here hx rfl (hb hby at_121) rfl  kk_) ?_
    have F358 := V347.ext E352
    obtain ⟨cl359, Ar359, q359, S359, N359, H359, G359⟩ := id F358
    have hin359 := inb_of (j := (0 : Int32)) S359 ⟨by decide, by decide⟩
    obtain ⟨T359, h359, X359, e359, W359, st359⟩ := stC X352 hx hZ e352 Ar359 (j := (0 : Int32)) hin359 (g := (mkF m 123 #[oI x1, oI x2, oI x3, oI x4, oI (2 : Int32), oI ch0, oI ch1, oI ch2, oR b347, oR b352, oU, oU, oU, oU] [(.int ch0), (.int (0 : Int32)), (.ref b347)])) rfl rfl (hb hby at_123)
    have z360 := Nat.le_of_eq W359.size.symm
    have Sf361 := Safe.wr W359 (Safe.arv hZ.alike F358 (by decide)) CC355.1 Sf354
    have Sf362 := Safe.wr W359 (Safe.arv hZ.alike F358 (by decide)) CC355.1 Sf357
    have CC363 := CC355.trans (CHr.wr W359 (Safe.arv hZ.alike F358 (by decide)) CC355.1)
    have V359 : Arv Z h359 b347 k347 .char (2 : Int32) [(.int (nar .char ch0)), (.int (0 : Int32))] (.int (0 : Int32)) := Arv.set Ar359 q359 S359 N359 H359 G359 (fits_nar_char _) W359 0 rfl (Nat.le_of_ble_eq_true rfl)
    have Nf359 := Fr.snoc X359 N0 g350
    refine Wp.st (S' := T359.setTop (mkF m 124 #[oI x1, oI x2, oI x3, oI x4, oI (2 : Int32), oI ch0, oI ch1, oI ch2, oR b347, oR b352, oU, oU, oU, oU] [])) st359 ?_
    refine Wp.st (S' := T359.setTop (mkF m 126 #[oI x1, oI x2, oI x3, oI x4, oI (2 : Int32), oI ch0, oI ch1, oI ch2, oR b347, oR b352, oU, oU, oU, oU] [(.ref b352)])) (fun tt_ kk_ => XS.aload X359.here hx rfl (hb hby at_124) rfl rfl kk_) ?_
    refine Wp.st (S' := T359.setTop (mkF m 128 #[oI x1, oI x2, oI x3, oI x4, oI (2 : Int32), oI ch0, oI ch1, oI ch2, oR b347, oR b352, oU, oU, oU, oU] [(.int (6 : Int32)), (.ref b352)])) (fun tt_ kk_ => XS.bipush X359.here hx rfl (hb hby at_126) kk_) ?_
    refine Wp.st (S' := T359.setTop (mkF m 130 #[oI x1, oI x2, oI x3, oI x4, oI (2 : Int32), oI ch0, oI ch1, oI ch2, oR b347, oR b352, oU, oU, oU, oU] [(.int ch0), (.int (6 : Int32)), (.ref b352)])) (fun tt_ kk_ => XS.iload X359.here hx rfl (hb hby at_128) rfl  kk_) ?_
    have F364 := V352.other W359 (Ne.symm (Nat.ne_of_lt (Nat.lt_of_lt_of_le V347.lt (Nat.le_trans (Nat.le_refl _) (Nat.le_of_eq g352.symm)))))
    obtain ⟨cl365, Ar365, q365, S365, N365, H365, G365⟩ := id F364
    have hin365 := inb_of (j := (6 : Int32)) S365 ⟨by decide, by decide⟩
    obtain ⟨T365, h365, X365, e365, W365, st365⟩ := stC X359 hx hZ e359 Ar365 (j := (6 : Int32)) hin365 (g := (mkF m 130 #[oI x1, oI x2, oI x3, oI x4, oI (2 : Int32), oI ch0, oI ch1, oI ch2, oR b347, oR b352, oU, oU, oU, oU] [(.int ch0), (.int (6 : Int32)), (.ref b352)])) rfl rfl (hb hby at_130)
    have z366 := Nat.le_of_eq W365.size.symm
    have Sf367 := Safe.wr W365 (Safe.arv hZ.alike F364 (by decide)) CC363.1 Sf361
    have Sf368 := Safe.wr W365 (Safe.arv hZ.alike F364 (by decide)) CC363.1 Sf362
    have CC369 := CC363.trans (CHr.wr W365 (Safe.arv hZ.alike F364 (by decide)) CC363.1)
    have V365 : Arv Z h365 b352 k352 .char (36 : Int32) [(.int (0 : Int32)), (.int (0 : Int32)), (.int (0 : Int32)), (.int (0 : Int32)), (.int (0 : Int32)), (.int (0 : Int32)), (.int (nar .char ch0)), (.int (0 : Int32)), (.int (0 : Int32)), (.int (0 : Int32)), (.int (0 : Int32)), (.int (0 : Int32)), (.int (0 : Int32)), (.int (0 : Int32)), (.int (0 : Int32)), (.int (0 : Int32)), (.int (0 : Int32)), (.int (0 : Int32)), (.int (0 : Int32)), (.int (0 : Int32)), (.int (0 : Int32)), (.int (0 : Int32)), (.int (0 : Int32)), (.int (0 : Int32)), (.int (0 : Int32)), (.int (0 : Int32)), (.int (0 : Int32)), (.int (0 : Int32)), (.int (0 : Int32)), (.int (0 : Int32)), (.int (0 : Int32)), (.int (0 : Int32)), (.int (0 : Int32)), (.int (0 : Int32)), (.int (0 : Int32)), (.int (0 : Int32))] (.int (0 : Int32)) := Arv.set Ar365 q365 S365 N365 H365 G365 (fits_nar_char _) W365 6 rfl (Nat.le_of_ble_eq_true rfl)
    have Nf365 := Fr.snoc X365 Nf359 g356
    refine Wp.st (S' := T365.setTop (mkF m 131 #[oI x1, oI x2, oI x3, oI x4, oI (2 : Int32), oI ch0, oI ch1, oI ch2, oR b347, oR b352, oU, oU, oU, oU] [])) st365 ?_
    refine Wp.st (S' := T365.setTop (mkF m 133 #[oI x1, oI x2, oI x3, oI x4, oI (2 : Int32), oI ch0, oI ch1, oI ch2, oR b347, oR b352, oU, oU, oU, oU] [(.int (2 : Int32))])) (fun tt_ kk_ => XS.iload X365.here hx rfl (hb hby at_131) rfl  kk_) ?_
    refine Wp.st (S' := T365.setTop (mkF m 134 #[oI x1, oI x2, oI x3, oI x4, oI (2 : Int32), oI ch0, oI ch1, oI ch2, oR b347, oR b352, oU, oU, oU, oU] [(.int (1 : Int32)), (.int (2 : Int32))])) (fun tt_ kk_ => XS.iconst X365.here hx rfl (hb hby at_133) kk_) ?_
    refine Wp.st (S' := T365.setTop (mkF m 137 #[oI x1, oI x2, oI x3, oI x4, oI (2 : Int32), oI ch0, oI ch1, oI ch2, oR b347, oR b352, oU, oU, oU, oU] [])) (fun tt_ kk_ => XS.icmpNo X365.here hx rfl (hb hby at_134) rfl (tlt ((by decide) : (1 : Int32) < (2 : Int32))).2.2.2 kk_) ?_
    refine Wp.st (S' := T365.setTop (mkF m 139 #[oI x1, oI x2, oI x3, oI x4, oI (2 : Int32), oI ch0, oI ch1, oI ch2, oR b347, oR b352, oU, oU, oU, oU] [(.ref b347)])) (fun tt_ kk_ => XS.aload X365.here hx rfl (hb hby at_137) rfl rfl kk_) ?_
    refine Wp.st (S' := T365.setTop (mkF m 140 #[oI x1, oI x2, oI x3, oI x4, oI (2 : Int32), oI ch0, oI ch1, oI ch2, oR b347, oR b352, oU, oU, oU, oU] [(.int (1 : Int32)), (.ref b347)])) (fun tt_ kk_ => XS.iconst X365.here hx rfl (hb hby at_139) kk_) ?_
    refine Wp.st (S' := T365.setTop (mkF m 142 #[oI x1, oI x2, oI x3, oI x4, oI (2 : Int32), oI ch0, oI ch1, oI ch2, oR b347, oR b352, oU, oU, oU, oU] [(.int ch1), (.int (1 : Int32)), (.ref b347)])) (fun tt_ kk_ => XS.iload X365.here hx rfl (hb hby at_140) rfl  kk_) ?_
    have F370 := V359.other W365 (Nat.ne_of_lt (Nat.lt_of_lt_of_le V347.lt (Nat.le_trans (Nat.le_refl _) (Nat.le_of_eq g352.symm))))
    obtain ⟨cl371, Ar371, q371, S371, N371, H371, G371⟩ := id F370
    have hin371 := inb_of (j := (1 : Int32)) S371 ⟨by decide, by decide⟩
    obtain ⟨T371, h371, X371, e371, W371, st371⟩ := stC X365 hx hZ e365 Ar371 (j := (1 : Int32)) hin371 (g := (mkF m 142 #[oI x1, oI x2, oI x3, oI x4, oI (2 : Int32), oI ch0, oI ch1, oI ch2, oR b347, oR b352, oU, oU, oU, oU] [(.int ch1), (.int (1 : Int32)), (.ref b347)])) rfl rfl (hb hby at_142)
    have z372 := Nat.le_of_eq W371.size.symm
    have Sf373 := Safe.wr W371 (Safe.arv hZ.alike F370 (by decide)) CC369.1 Sf367
    have Sf374 := Safe.wr W371 (Safe.arv hZ.alike F370 (by decide)) CC369.1 Sf368
    have CC375 := CC369.trans (CHr.wr W371 (Safe.arv hZ.alike F370 (by decide)) CC369.1)
    have V371 : Arv Z h371 b347 k347 .char (2 : Int32) [(.int (nar .char ch0)), (.int (nar .char ch1))] (.int (0 : Int32)) := Arv.set Ar371 q371 S371 N371 H371 G371 (fits_nar_char _) W371 1 rfl (Nat.le_of_ble_eq_true rfl)
    have Nf371 := Fr.snoc X371 Nf365 g350
    refine Wp.st (S' := T371.setTop (mkF m 143 #[oI x1, oI x2, oI x3, oI x4, oI (2 : Int32), oI ch0, oI ch1, oI ch2, oR b347, oR b352, oU, oU, oU, oU] [])) st371 ?_
    refine Wp.st (S' := T371.setTop (mkF m 145 #[oI x1, oI x2, oI x3, oI x4, oI (2 : Int32), oI ch0, oI ch1, oI ch2, oR b347, oR b352, oU, oU, oU, oU] [(.ref b352)])) (fun tt_ kk_ => XS.aload X371.here hx rfl (hb hby at_143) rfl rfl kk_) ?_
    refine Wp.st (S' := T371.setTop (mkF m 147 #[oI x1, oI x2, oI x3, oI x4, oI (2 : Int32), oI ch0, oI ch1, oI ch2, oR b347, oR b352, oU, oU, oU, oU] [(.int (7 : Int32)), (.ref b352)])) (fun tt_ kk_ => XS.bipush X371.here hx rfl (hb hby at_145) kk_) ?_
    refine Wp.st (S' := T371.setTop (mkF m 149 #[oI x1, oI x2, oI x3, oI x4, oI (2 : Int32), oI ch0, oI ch1, oI ch2, oR b347, oR b352, oU, oU, oU, oU] [(.int ch1), (.int (7 : Int32)), (.ref b352)])) (fun tt_ kk_ => XS.iload X371.here hx rfl (hb hby at_147) rfl  kk_) ?_
    have F376 := V365.other W371 (Ne.symm (Nat.ne_of_lt (Nat.lt_of_lt_of_le V347.lt (Nat.le_trans (Nat.le_refl _) (Nat.le_of_eq g352.symm)))))
    obtain ⟨cl377, Ar377, q377, S377, N377, H377, G377⟩ := id F376
    have hin377 := inb_of (j := (7 : Int32)) S377 ⟨by decide, by decide⟩
    obtain ⟨T377, h377, X377, e377, W377, st377⟩ := stC X371 hx hZ e371 Ar377 (j := (7 : Int32)) hin377 (g := (mkF m 149 #[oI x1, oI x2, oI x3, oI x4, oI (2 : Int32), oI ch0, oI ch1, oI ch2, oR b347, oR b352, oU, oU, oU, oU] [(.int ch1), (.int (7 : Int32)), (.ref b352)])) rfl rfl (hb hby at_149)
    have z378 := Nat.le_of_eq W377.size.symm
    have Sf379 := Safe.wr W377 (Safe.arv hZ.alike F376 (by decide)) CC375.1 Sf373
    have Sf380 := Safe.wr W377 (Safe.arv hZ.alike F376 (by decide)) CC375.1 Sf374
    have CC381 := CC375.trans (CHr.wr W377 (Safe.arv hZ.alike F376 (by decide)) CC375.1)
    have V377 : Arv Z h377 b352 k352 .char (36 : Int32) [(.int (0 : Int32)), (.int (0 : Int32)), (.int (0 : Int32)), (.int (0 : Int32)), (.int (0 : Int32)), (.int (0 : Int32)), (.int (nar .char ch0)), (.int (nar .char ch1)), (.int (0 : Int32)), (.int (0 : Int32)), (.int (0 : Int32)), (.int (0 : Int32)), (.int (0 : Int32)), (.int (0 : Int32)), (.int (0 : Int32)), (.int (0 : Int32)), (.int (0 : Int32)), (.int (0 : Int32)), (.int (0 : Int32)), (.int (0 : Int32)), (.int (0 : Int32)), (.int (0 : Int32)), (.int (0 : Int32)), (.int (0 : Int32)), (.int (0 : Int32)), (.int (0 : Int32)), (.int (0 : Int32)), (.int (0 : Int32)), (.int (0 : Int32)), (.int (0 : Int32)), (.int (0 : Int32)), (.int (0 : Int32)), (.int (0 : Int32)), (.int (0 : Int32)), (.int (0 : Int32)), (.int (0 : Int32))] (.int (0 : Int32)) := Arv.set Ar377 q377 S377 N377 H377 G377 (fits_nar_char _) W377 7 rfl (Nat.le_of_ble_eq_true rfl)
    have Nf377 := Fr.snoc X377 Nf371 g356
    refine Wp.st (S' := T377.setTop (mkF m 150 #[oI x1, oI x2, oI x3, oI x4, oI (2 : Int32), oI ch0, oI ch1, oI ch2, oR b347, oR b352, oU, oU, oU, oU] [])) st377 ?_
    refine Wp.st (S' := T377.setTop (mkF m 152 #[oI x1, oI x2, oI x3, oI x4, oI (2 : Int32), oI ch0, oI ch1, oI ch2, oR b347, oR b352, oU, oU, oU, oU] [(.int (2 : Int32))])) (fun tt_ kk_ => XS.iload X377.here hx rfl (hb hby at_150) rfl  kk_) ?_
    refine Wp.st (S' := T377.setTop (mkF m 153 #[oI x1, oI x2, oI x3, oI x4, oI (2 : Int32), oI ch0, oI ch1, oI ch2, oR b347, oR b352, oU, oU, oU, oU] [(.int (2 : Int32)), (.int (2 : Int32))])) (fun tt_ kk_ => XS.iconst X377.here hx rfl (hb hby at_152) kk_) ?_
    refine Wp.st (S' := T377.setTop (mkF m 169 #[oI x1, oI x2, oI x3, oI x4, oI (2 : Int32), oI ch0, oI ch1, oI ch2, oR b347, oR b352, oU, oU, oU, oU] [])) (fun tt_ kk_ => XS.icmpYes X377.here hx rfl (pc0 := 153) (pc' := 169) rfl (hb hby at_153) rfl (flt ((by decide) : ¬ ((2 : Int32) < (2 : Int32)))).2.2.2 (by decide) (by decide) kk_) ?_
    refine Wp.st (S' := T377.setTop (mkF m 171 #[oI x1, oI x2, oI x3, oI x4, oI (2 : Int32), oI ch0, oI ch1, oI ch2, oR b347, oR b352, oU, oU, oU, oU] [(.ref b352)])) (fun tt_ kk_ => XS.aload X377.here hx rfl (hb hby at_169) rfl rfl kk_) ?_
    refine Wp.st (S' := T377.setTop (mkF m 172 #[oI x1, oI x2, oI x3, oI x4, oI (2 : Int32), oI ch0, oI ch1, oI ch2, oR b347, oR b352, oU, oU, oU, oU] [(.int (0 : Int32)), (.ref b352)])) (fun tt_ kk_ => XS.iconst X377.here hx rfl (hb hby at_171) kk_) ?_
    refine Wp.st (S' := T377.setTop (mkF m 174 #[oI x1, oI x2, oI x3, oI x4, oI (2 : Int32), oI ch0, oI ch1, oI ch2, oR b347, oR b352, oU, oU, oU, oU] [(.int (108 : Int32)), (.int (0 : Int32)), (.ref b352)])) (fun tt_ kk_ => XS.bipush X377.here hx rfl (hb hby at_172) kk_) ?_
    obtain ⟨cl382, Ar382, q382, S382, N382, H382, G382⟩ := id V377
    have hin382 := inb_of (j := (0 : Int32)) S382 ⟨by decide, by decide⟩
    obtain ⟨T382, h382, X382, e382, W382, st382⟩ := stC X377 hx hZ e377 Ar382 (j := (0 : Int32)) hin382 (g := (mkF m 174 #[oI x1, oI x2, oI x3, oI x4, oI (2 : Int32), oI ch0, oI ch1, oI ch2, oR b347, oR b352, oU, oU, oU, oU] [(.int (108 : Int32)), (.int (0 : Int32)), (.ref b352)])) rfl rfl (hb hby at_174)
    have z383 := Nat.le_of_eq W382.size.symm
    have Sf384 := Safe.wr W382 (Safe.arv hZ.alike V377 (by decide)) CC381.1 Sf379
    have Sf385 := Safe.wr W382 (Safe.arv hZ.alike V377 (by decide)) CC381.1 Sf380
    have CC386 := CC381.trans (CHr.wr W382 (Safe.arv hZ.alike V377 (by decide)) CC381.1)
    have V382 : Arv Z h382 b352 k352 .char (36 : Int32) [(.int (108 : Int32)), (.int (0 : Int32)), (.int (0 : Int32)), (.int (0 : Int32)), (.int (0 : Int32)), (.int (0 : Int32)), (.int (nar .char ch0)), (.int (nar .char ch1)), (.int (0 : Int32)), (.int (0 : Int32)), (.int (0 : Int32)), (.int (0 : Int32)), (.int (0 : Int32)), (.int (0 : Int32)), (.int (0 : Int32)), (.int (0 : Int32)), (.int (0 : Int32)), (.int (0 : Int32)), (.int (0 : Int32)), (.int (0 : Int32)), (.int (0 : Int32)), (.int (0 : Int32)), (.int (0 : Int32)), (.int (0 : Int32)), (.int (0 : Int32)), (.int (0 : Int32)), (.int (0 : Int32)), (.int (0 : Int32)), (.int (0 : Int32)), (.int (0 : Int32)), (.int (0 : Int32)), (.int (0 : Int32)), (.int (0 : Int32)), (.int (0 : Int32)), (.int (0 : Int32)), (.int (0 : Int32))] (.int (0 : Int32)) := Arv.set Ar382 q382 S382 N382 H382 G382 rfl W382 0 rfl (Nat.le_of_ble_eq_true rfl)
    have Nf382 := Fr.snoc X382 Nf377 g356
    refine Wp.st (S' := T382.setTop (mkF m 175 #[oI x1, oI x2, oI x3, oI x4, oI (2 : Int32), oI ch0, oI ch1, oI ch2, oR b347, oR b352, oU, oU, oU, oU] [])) st382 ?_
    refine Wp.st (S' := T382.setTop (mkF m 177 #[oI x1, oI x2, oI x3, oI x4, oI (2 : Int32), oI ch0, oI ch1, oI ch2, oR b347, oR b352, oU, oU, oU, oU] [(.ref b352)])) (fun tt_ kk_ => XS.aload X382.here hx rfl (hb hby at_175) rfl rfl kk_) ?_
    refine Wp.st (S' := T382.setTop (mkF m 178 #[oI x1, oI x2, oI x3, oI x4, oI (2 : Int32), oI ch0, oI ch1, oI ch2, oR b347, oR b352, oU, oU, oU, oU] [(.int (1 : Int32)), (.ref b352)])) (fun tt_ kk_ => XS.iconst X382.here hx rfl (hb hby at_177) kk_) ?_
    refine Wp.st (S' := T382.setTop (mkF m 180 #[oI x1, oI x2, oI x3, oI x4, oI (2 : Int32), oI ch0, oI ch1, oI ch2, oR b347, oR b352, oU, oU, oU, oU] [(.int (111 : Int32)), (.int (1 : Int32)), (.ref b352)])) (fun tt_ kk_ => XS.bipush X382.here hx rfl (hb hby at_178) kk_) ?_
    obtain ⟨cl387, Ar387, q387, S387, N387, H387, G387⟩ := id V382
    have hin387 := inb_of (j := (1 : Int32)) S387 ⟨by decide, by decide⟩
    obtain ⟨T387, h387, X387, e387, W387, st387⟩ := stC X382 hx hZ e382 Ar387 (j := (1 : Int32)) hin387 (g := (mkF m 180 #[oI x1, oI x2, oI x3, oI x4, oI (2 : Int32), oI ch0, oI ch1, oI ch2, oR b347, oR b352, oU, oU, oU, oU] [(.int (111 : Int32)), (.int (1 : Int32)), (.ref b352)])) rfl rfl (hb hby at_180)
    have z388 := Nat.le_of_eq W387.size.symm
    have Sf389 := Safe.wr W387 (Safe.arv hZ.alike V382 (by decide)) CC386.1 Sf384
    have Sf390 := Safe.wr W387 (Safe.arv hZ.alike V382 (by decide)) CC386.1 Sf385
    have CC391 := CC386.trans (CHr.wr W387 (Safe.arv hZ.alike V382 (by decide)) CC386.1)
    have V387 : Arv Z h387 b352 k352 .char (36 : Int32) [(.int (108 : Int32)), (.int (111 : Int32)), (.int (0 : Int32)), (.int (0 : Int32)), (.int (0 : Int32)), (.int (0 : Int32)), (.int (nar .char ch0)), (.int (nar .char ch1)), (.int (0 : Int32)), (.int (0 : Int32)), (.int (0 : Int32)), (.int (0 : Int32)), (.int (0 : Int32)), (.int (0 : Int32)), (.int (0 : Int32)), (.int (0 : Int32)), (.int (0 : Int32)), (.int (0 : Int32)), (.int (0 : Int32)), (.int (0 : Int32)), (.int (0 : Int32)), (.int (0 : Int32)), (.int (0 : Int32)), (.int (0 : Int32)), (.int (0 : Int32)), (.int (0 : Int32)), (.int (0 : Int32)), (.int (0 : Int32)), (.int (0 : Int32)), (.int (0 : Int32)), (.int (0 : Int32)), (.int (0 : Int32)), (.int (0 : Int32)), (.int (0 : Int32)), (.int (0 : Int32)), (.int (0 : Int32))] (.int (0 : Int32)) := Arv.set Ar387 q387 S387 N387 H387 G387 rfl W387 1 rfl (Nat.le_of_ble_eq_true rfl)
    have Nf387 := Fr.snoc X387 Nf382 g356
    refine Wp.st (S' := T387.setTop (mkF m 181 #[oI x1, oI x2, oI x3, oI x4, oI (2 : Int32), oI ch0, oI ch1, oI ch2, oR b347, oR b352, oU, oU, oU, oU] [])) st387 ?_
    refine Wp.st (S' := T387.setTop (mkF m 183 #[oI x1, oI x2, oI x3, oI x4, oI (2 : Int32), oI ch0, oI ch1, oI ch2, oR b347, oR b352, oU, oU, oU, oU] [(.ref b352)])) (fun tt_ kk_ => XS.aload X387.here hx rfl (hb hby at_181) rfl rfl kk_) ?_
    refine Wp.st (S' := T387.setTop (mkF m 184 #[oI x1, oI x2, oI x3, oI x4, oI (2 : Int32), oI ch0, oI ch1, oI ch2, oR b347, oR b352, oU, oU, oU, oU] [(.int (2 : Int32)), (.ref b352)])) (fun tt_ kk_ => XS.iconst X387.here hx rfl (hb hby at_183) kk_) ?_
    refine Wp.st (S' := T387.setTop (mkF m 186 #[oI x1, oI x2, oI x3, oI x4, oI (2 : Int32), oI ch0, oI ch1, oI ch2, oR b347, oR b352, oU, oU, oU, oU] [(.int (99 : Int32)), (.int (2 : Int32)), (.ref b352)])) (fun tt_ kk_ => XS.bipush X387.here hx rfl (hb hby at_184) kk_) ?_
    obtain ⟨cl392, Ar392, q392, S392, N392, H392, G392⟩ := id V387
    have hin392 := inb_of (j := (2 : Int32)) S392 ⟨by decide, by decide⟩
    obtain ⟨T392, h392, X392, e392, W392, st392⟩ := stC X387 hx hZ e387 Ar392 (j := (2 : Int32)) hin392 (g := (mkF m 186 #[oI x1, oI x2, oI x3, oI x4, oI (2 : Int32), oI ch0, oI ch1, oI ch2, oR b347, oR b352, oU, oU, oU, oU] [(.int (99 : Int32)), (.int (2 : Int32)), (.ref b352)])) rfl rfl (hb hby at_186)
    have z393 := Nat.le_of_eq W392.size.symm
    have Sf394 := Safe.wr W392 (Safe.arv hZ.alike V387 (by decide)) CC391.1 Sf389
    have Sf395 := Safe.wr W392 (Safe.arv hZ.alike V387 (by decide)) CC391.1 Sf390
    have CC396 := CC391.trans (CHr.wr W392 (Safe.arv hZ.alike V387 (by decide)) CC391.1)
    have V392 : Arv Z h392 b352 k352 .char (36 : Int32) [(.int (108 : Int32)), (.int (111 : Int32)), (.int (99 : Int32)), (.int (0 : Int32)), (.int (0 : Int32)), (.int (0 : Int32)), (.int (nar .char ch0)), (.int (nar .char ch1)), (.int (0 : Int32)), (.int (0 : Int32)), (.int (0 : Int32)), (.int (0 : Int32)), (.int (0 : Int32)), (.int (0 : Int32)), (.int (0 : Int32)), (.int (0 : Int32)), (.int (0 : Int32)), (.int (0 : Int32)), (.int (0 : Int32)), (.int (0 : Int32)), (.int (0 : Int32)), (.int (0 : Int32)), (.int (0 : Int32)), (.int (0 : Int32)), (.int (0 : Int32)), (.int (0 : Int32)), (.int (0 : Int32)), (.int (0 : Int32)), (.int (0 : Int32)), (.int (0 : Int32)), (.int (0 : Int32)), (.int (0 : Int32)), (.int (0 : Int32)), (.int (0 : Int32)), (.int (0 : Int32)), (.int (0 : Int32))] (.int (0 : Int32)) := Arv.set Ar392 q392 S392 N392 H392 G392 rfl W392 2 rfl (Nat.le_of_ble_eq_true rfl)
    have Nf392 := Fr.snoc X392 Nf387 g356
    refine Wp.st (S' := T392.setTop (mkF m 187 #[oI x1, oI x2, oI x3, oI x4, oI (2 : Int32), oI ch0, oI ch1, oI ch2, oR b347, oR b352, oU, oU, oU, oU] [])) st392 ?_
    refine Wp.st (S' := T392.setTop (mkF m 189 #[oI x1, oI x2, oI x3, oI x4, oI (2 : Int32), oI ch0, oI ch1, oI ch2, oR b347, oR b352, oU, oU, oU, oU] [(.ref b352)])) (fun tt_ kk_ => XS.aload X392.here hx rfl (hb hby at_187) rfl rfl kk_) ?_
    refine Wp.st (S' := T392.setTop (mkF m 190 #[oI x1, oI x2, oI x3, oI x4, oI (2 : Int32), oI ch0, oI ch1, oI ch2, oR b347, oR b352, oU, oU, oU, oU] [(.int (3 : Int32)), (.ref b352)])) (fun tt_ kk_ => XS.iconst X392.here hx rfl (hb hby at_189) kk_) ?_
    refine Wp.st (S' := T392.setTop (mkF m 192 #[oI x1, oI x2, oI x3, oI x4, oI (2 : Int32), oI ch0, oI ch1, oI ch2, oR b347, oR b352, oU, oU, oU, oU] [(.int (107 : Int32)), (.int (3 : Int32)), (.ref b352)])) (fun tt_ kk_ => XS.bipush X392.here hx rfl (hb hby at_190) kk_) ?_
    obtain ⟨cl397, Ar397, q397, S397, N397, H397, G397⟩ := id V392
    have hin397 := inb_of (j := (3 : Int32)) S397 ⟨by decide, by decide⟩
    obtain ⟨T397, h397, X397, e397, W397, st397⟩ := stC X392 hx hZ e392 Ar397 (j := (3 : Int32)) hin397 (g := (mkF m 192 #[oI x1, oI x2, oI x3, oI x4, oI (2 : Int32), oI ch0, oI ch1, oI ch2, oR b347, oR b352, oU, oU, oU, oU] [(.int (107 : Int32)), (.int (3 : Int32)), (.ref b352)])) rfl rfl (hb hby at_192)
    have z398 := Nat.le_of_eq W397.size.symm
    have Sf399 := Safe.wr W397 (Safe.arv hZ.alike V392 (by decide)) CC396.1 Sf394
    have Sf400 := Safe.wr W397 (Safe.arv hZ.alike V392 (by decide)) CC396.1 Sf395
    have CC401 := CC396.trans (CHr.wr W397 (Safe.arv hZ.alike V392 (by decide)) CC396.1)
    have V397 : Arv Z h397 b352 k352 .char (36 : Int32) [(.int (108 : Int32)), (.int (111 : Int32)), (.int (99 : Int32)), (.int (107 : Int32)), (.int (0 : Int32)), (.int (0 : Int32)), (.int (nar .char ch0)), (.int (nar .char ch1)), (.int (0 : Int32)), (.int (0 : Int32)), (.int (0 : Int32)), (.int (0 : Int32)), (.int (0 : Int32)), (.int (0 : Int32)), (.int (0 : Int32)), (.int (0 : Int32)), (.int (0 : Int32)), (.int (0 : Int32)), (.int (0 : Int32)), (.int (0 : Int32)), (.int (0 : Int32)), (.int (0 : Int32)), (.int (0 : Int32)), (.int (0 : Int32)), (.int (0 : Int32)), (.int (0 : Int32)), (.int (0 : Int32)), (.int (0 : Int32)), (.int (0 : Int32)), (.int (0 : Int32)), (.int (0 : Int32)), (.int (0 : Int32)), (.int (0 : Int32)), (.int (0 : Int32)), (.int (0 : Int32)), (.int (0 : Int32))] (.int (0 : Int32)) := Arv.set Ar397 q397 S397 N397 H397 G397 rfl W397 3 rfl (Nat.le_of_ble_eq_true rfl)
    have Nf397 := Fr.snoc X397 Nf392 g356
    refine Wp.st (S' := T397.setTop (mkF m 193 #[oI x1, oI x2, oI x3, oI x4, oI (2 : Int32), oI ch0, oI ch1, oI ch2, oR b347, oR b352, oU, oU, oU, oU] [])) st397 ?_
    refine Wp.st (S' := T397.setTop (mkF m 195 #[oI x1, oI x2, oI x3, oI x4, oI (2 : Int32), oI ch0, oI ch1, oI ch2, oR b347, oR b352, oU, oU, oU, oU] [(.ref b352)])) (fun tt_ kk_ => XS.aload X397.here hx rfl (hb hby at_193) rfl rfl kk_) ?_
    refine Wp.st (S' := T397.setTop (mkF m 196 #[oI x1, oI x2, oI x3, oI x4, oI (2 : Int32), oI ch0, oI ch1, oI ch2, oR b347, oR b352, oU, oU, oU, oU] [(.int (4 : Int32)), (.ref b352)])) (fun tt_ kk_ => XS.iconst X397.here hx rfl (hb hby at_195) kk_) ?_
    refine Wp.st (S' := T397.setTop (mkF m 198 #[oI x1, oI x2, oI x3, oI x4, oI (2 : Int32), oI ch0, oI ch1, oI ch2, oR b347, oR b352, oU, oU, oU, oU] [(.int (32 : Int32)), (.int (4 : Int32)), (.ref b352)])) (fun tt_ kk_ => XS.bipush X397.here hx rfl (hb hby at_196) kk_) ?_
    obtain ⟨cl402, Ar402, q402, S402, N402, H402, G402⟩ := id V397
    have hin402 := inb_of (j := (4 : Int32)) S402 ⟨by decide, by decide⟩
    obtain ⟨T402, h402, X402, e402, W402, st402⟩ := stC X397 hx hZ e397 Ar402 (j := (4 : Int32)) hin402 (g := (mkF m 198 #[oI x1, oI x2, oI x3, oI x4, oI (2 : Int32), oI ch0, oI ch1, oI ch2, oR b347, oR b352, oU, oU, oU, oU] [(.int (32 : Int32)), (.int (4 : Int32)), (.ref b352)])) rfl rfl (hb hby at_198)
    have z403 := Nat.le_of_eq W402.size.symm
    have Sf404 := Safe.wr W402 (Safe.arv hZ.alike V397 (by decide)) CC401.1 Sf399
    have Sf405 := Safe.wr W402 (Safe.arv hZ.alike V397 (by decide)) CC401.1 Sf400
    have CC406 := CC401.trans (CHr.wr W402 (Safe.arv hZ.alike V397 (by decide)) CC401.1)
    have V402 : Arv Z h402 b352 k352 .char (36 : Int32) [(.int (108 : Int32)), (.int (111 : Int32)), (.int (99 : Int32)), (.int (107 : Int32)), (.int (32 : Int32)), (.int (0 : Int32)), (.int (nar .char ch0)), (.int (nar .char ch1)), (.int (0 : Int32)), (.int (0 : Int32)), (.int (0 : Int32)), (.int (0 : Int32)), (.int (0 : Int32)), (.int (0 : Int32)), (.int (0 : Int32)), (.int (0 : Int32)), (.int (0 : Int32)), (.int (0 : Int32)), (.int (0 : Int32)), (.int (0 : Int32)), (.int (0 : Int32)), (.int (0 : Int32)), (.int (0 : Int32)), (.int (0 : Int32)), (.int (0 : Int32)), (.int (0 : Int32)), (.int (0 : Int32)), (.int (0 : Int32)), (.int (0 : Int32)), (.int (0 : Int32)), (.int (0 : Int32)), (.int (0 : Int32)), (.int (0 : Int32)), (.int (0 : Int32)), (.int (0 : Int32)), (.int (0 : Int32))] (.int (0 : Int32)) := Arv.set Ar402 q402 S402 N402 H402 G402 rfl W402 4 rfl (Nat.le_of_ble_eq_true rfl)
    have Nf402 := Fr.snoc X402 Nf397 g356
    refine Wp.st (S' := T402.setTop (mkF m 199 #[oI x1, oI x2, oI x3, oI x4, oI (2 : Int32), oI ch0, oI ch1, oI ch2, oR b347, oR b352, oU, oU, oU, oU] [])) st402 ?_
    refine Wp.st (S' := T402.setTop (mkF m 201 #[oI x1, oI x2, oI x3, oI x4, oI (2 : Int32), oI ch0, oI ch1, oI ch2, oR b347, oR b352, oU, oU, oU, oU] [(.ref b352)])) (fun tt_ kk_ => XS.aload X402.here hx rfl (hb hby at_199) rfl rfl kk_) ?_
    refine Wp.st (S' := T402.setTop (mkF m 202 #[oI x1, oI x2, oI x3, oI x4, oI (2 : Int32), oI ch0, oI ch1, oI ch2, oR b347, oR b352, oU, oU, oU, oU] [(.int (5 : Int32)), (.ref b352)])) (fun tt_ kk_ => XS.iconst X402.here hx rfl (hb hby at_201) kk_) ?_
    refine Wp.st (S' := T402.setTop (mkF m 204 #[oI x1, oI x2, oI x3, oI x4, oI (2 : Int32), oI ch0, oI ch1, oI ch2, oR b347, oR b352, oU, oU, oU, oU] [(.int (39 : Int32)), (.int (5 : Int32)), (.ref b352)])) (fun tt_ kk_ => XS.bipush X402.here hx rfl (hb hby at_202) kk_) ?_
    obtain ⟨cl407, Ar407, q407, S407, N407, H407, G407⟩ := id V402
    have hin407 := inb_of (j := (5 : Int32)) S407 ⟨by decide, by decide⟩
    obtain ⟨T407, h407, X407, e407, W407, st407⟩ := stC X402 hx hZ e402 Ar407 (j := (5 : Int32)) hin407 (g := (mkF m 204 #[oI x1, oI x2, oI x3, oI x4, oI (2 : Int32), oI ch0, oI ch1, oI ch2, oR b347, oR b352, oU, oU, oU, oU] [(.int (39 : Int32)), (.int (5 : Int32)), (.ref b352)])) rfl rfl (hb hby at_204)
    have z408 := Nat.le_of_eq W407.size.symm
    have Sf409 := Safe.wr W407 (Safe.arv hZ.alike V402 (by decide)) CC406.1 Sf404
    have Sf410 := Safe.wr W407 (Safe.arv hZ.alike V402 (by decide)) CC406.1 Sf405
    have CC411 := CC406.trans (CHr.wr W407 (Safe.arv hZ.alike V402 (by decide)) CC406.1)
    have V407 : Arv Z h407 b352 k352 .char (36 : Int32) [(.int (108 : Int32)), (.int (111 : Int32)), (.int (99 : Int32)), (.int (107 : Int32)), (.int (32 : Int32)), (.int (39 : Int32)), (.int (nar .char ch0)), (.int (nar .char ch1)), (.int (0 : Int32)), (.int (0 : Int32)), (.int (0 : Int32)), (.int (0 : Int32)), (.int (0 : Int32)), (.int (0 : Int32)), (.int (0 : Int32)), (.int (0 : Int32)), (.int (0 : Int32)), (.int (0 : Int32)), (.int (0 : Int32)), (.int (0 : Int32)), (.int (0 : Int32)), (.int (0 : Int32)), (.int (0 : Int32)), (.int (0 : Int32)), (.int (0 : Int32)), (.int (0 : Int32)), (.int (0 : Int32)), (.int (0 : Int32)), (.int (0 : Int32)), (.int (0 : Int32)), (.int (0 : Int32)), (.int (0 : Int32)), (.int (0 : Int32)), (.int (0 : Int32)), (.int (0 : Int32)), (.int (0 : Int32))] (.int (0 : Int32)) := Arv.set Ar407 q407 S407 N407 H407 G407 rfl W407 5 rfl (Nat.le_of_ble_eq_true rfl)
    have Nf407 := Fr.snoc X407 Nf402 g356
    refine Wp.st (S' := T407.setTop (mkF m 205 #[oI x1, oI x2, oI x3, oI x4, oI (2 : Int32), oI ch0, oI ch1, oI ch2, oR b347, oR b352, oU, oU, oU, oU] [])) st407 ?_
    refine Wp.st (S' := T407.setTop (mkF m 207 #[oI x1, oI x2, oI x3, oI x4, oI (2 : Int32), oI ch0, oI ch1, oI ch2, oR b347, oR b352, oU, oU, oU, oU] [(.ref b352)])) (fun tt_ kk_ => XS.aload X407.here hx rfl (hb hby at_205) rfl rfl kk_) ?_
    refine Wp.st (S' := T407.setTop (mkF m 209 #[oI x1, oI x2, oI x3, oI x4, oI (2 : Int32), oI ch0, oI ch1, oI ch2, oR b347, oR b352, oU, oU, oU, oU] [(.int (6 : Int32)), (.ref b352)])) (fun tt_ kk_ => XS.bipush X407.here hx rfl (hb hby at_207) kk_) ?_
    refine Wp.st (S' := T407.setTop (mkF m 211 #[oI x1, oI x2, oI x3, oI x4, oI (2 : Int32), oI ch0, oI ch1, oI ch2, oR b347, oR b352, oU, oU, oU, oU] [(.int (2 : Int32)), (.int (6 : Int32)), (.ref b352)])) (fun tt_ kk_ => XS.iload X407.here hx rfl (hb hby at_209) rfl  kk_) ?_
    refine Wp.st (S' := T407.setTop (mkF m 212 #[oI x1, oI x2, oI x3, oI x4, oI (2 : Int32), oI ch0, oI ch1, oI ch2, oR b347, oR b352, oU, oU, oU, oU] [(.int ((6 : Int32) + (2 : Int32))), (.ref b352)])) (fun tt_ kk_ => XS.iadd X407.here hx rfl (hb hby at_211) rfl kk_) ?_
    rw [(by decide : ((6 : Int32) + (2 : Int32)) = (8 : Int32))]
    obtain ⟨vv412, _, ⟨T412, L412, k412, n412⟩, -, X412, ⟨Lc412, hQ412, l412, y412, z412⟩, st412⟩ := Jvm.LawKit.callS X407 hx (y := (⟨"com/example/mortise_lock/mortiselock/redis/RedisCallExceptionClosedPinLaw", "putSuffix", "([CI)V"⟩ : MethodName)) hown (mvT hZ (hw _ (List.mem_of_getElem? (i := 1) rfl))) (mvT hZ (hw _ (List.mem_of_getElem? (i := 2) rfl))) (mvT hZ (hw _ (List.mem_of_getElem? (i := 3) rfl))) (mvT hZ (hw _ (List.mem_of_getElem? (i := 4) rfl))) (by decide) (backOf (W := 0) (rm1 l Z a0 hw [] b352 (8 : Int32) k352 (36 : Int32) [(.int (108 : Int32)), (.int (111 : Int32)), (.int (99 : Int32)), (.int (107 : Int32)), (.int (32 : Int32)), (.int (39 : Int32)), (.int (nar .char ch0)), (.int (nar .char ch1)), (.int (0 : Int32)), (.int (0 : Int32)), (.int (0 : Int32)), (.int (0 : Int32)), (.int (0 : Int32)), (.int (0 : Int32)), (.int (0 : Int32)), (.int (0 : Int32)), (.int (0 : Int32)), (.int (0 : Int32)), (.int (0 : Int32)), (.int (0 : Int32)), (.int (0 : Int32)), (.int (0 : Int32)), (.int (0 : Int32)), (.int (0 : Int32)), (.int (0 : Int32)), (.int (0 : Int32)), (.int (0 : Int32)), (.int (0 : Int32)), (.int (0 : Int32)), (.int (0 : Int32)), (.int (0 : Int32)), (.int (0 : Int32)), (.int (0 : Int32)), (.int (0 : Int32)), (.int (0 : Int32)), (.int (0 : Int32))] h407 n0 (Nat.le_trans Z0 (Nat.le_trans (Nat.le_trans (Nat.le_trans (Nat.le_trans (Nat.le_trans (Nat.le_trans (Nat.le_trans (Nat.le_trans (Nat.le_trans (Nat.le_trans (Nat.le_trans z348 z353) z360) z366) z372) z378) z383) z388) z393) z398) z403) z408)) g356 V407 ((by decide) : 0 ≤ (8 : Int32).toInt ∧ (8 : Int32).toInt ≤ 9 ∧ (8 : Int32).toInt + 28 = (36 : Int32).toInt) ((by show (8 : Int32).toNatClampNeg + 28 ≤ 36; decide) : (8 : Int32).toNatClampNeg + 28 ≤ [(.int (108 : Int32)), (.int (111 : Int32)), (.int (99 : Int32)), (.int (107 : Int32)), (.int (32 : Int32)), (.int (39 : Int32)), (.int (nar .char ch0)), (.int (nar .char ch1)), (.int (0 : Int32)), (.int (0 : Int32)), (.int (0 : Int32)), (.int (0 : Int32)), (.int (0 : Int32)), (.int (0 : Int32)), (.int (0 : Int32)), (.int (0 : Int32)), (.int (0 : Int32)), (.int (0 : Int32)), (.int (0 : Int32)), (.int (0 : Int32)), (.int (0 : Int32)), (.int (0 : Int32)), (.int (0 : Int32)), (.int (0 : Int32)), (.int (0 : Int32)), (.int (0 : Int32)), (.int (0 : Int32)), (.int (0 : Int32)), (.int (0 : Int32)), (.int (0 : Int32)), (.int (0 : Int32)), (.int (0 : Int32)), (.int (0 : Int32)), (.int (0 : Int32)), (.int (0 : Int32)), (.int (0 : Int32))].length)) hZ (hw _ (List.mem_of_getElem? (i := 4) rfl)) (hw _ (List.mem_of_getElem? (i := 3) rfl)) (by decide) (by decide)) (g := (mkF m 212 #[oI x1, oI x2, oI x3, oI x4, oI (2 : Int32), oI ch0, oI ch1, oI ch2, oR b347, oR b352, oU, oU, oU, oU] [(.int (8 : Int32)), (.ref b352)])) rfl (by rw [hml]; rfl) (argsL := [(.ref b352), (.int (8 : Int32))]) (rest := []) (lenOf pd_21 rfl) rfl (by show 2 * 0 + _ ≤ _; exact Nat.le_of_eq rfl) (hb hby at_212) (fun _ _ => ⟨rfl, e407, (by decide : 2 + 0 ≤ _), (by decide : 38 + 0 ≤ _)⟩)
    dsimp only [Pt.U, Pt.locs, Pt.cells, Pt.slots] at X412 l412 y412 z412 st412 hQ412
    subst l412 y412 z412
    obtain ⟨rfl, Nq412, K412, P412_0⟩ := hQ412
    have N412 := Fr.app Nf407 Nq412
    have F413 := ThS.ext E347 PT
    have F414 := ThS.ext E352 F413
    have F415 := ThS.wr W359 F414
    have F416 := ThS.wr W365 F415
    have F417 := ThS.wr W371 F416
    have F418 := ThS.wr W377 F417
    have F419 := ThS.wr W382 F418
    have F420 := ThS.wr W387 F419
    have F421 := ThS.wr W392 F420
    have F422 := ThS.wr W397 F421
    have F423 := ThS.wr W402 F422
    have F424 := ThS.wr W407 F423
    have Th425 := ThS.keep K412 (nsS (Arv.nostat V407) ns0) F424
    have z426 := K412.1
    have Sf427 := Safe.keep K412 (sfS (Safe.arv hZ.alike V407 (by decide)) sf0) CC411.1 Sf409
    have Sf428 := Safe.keep K412 (sfS (Safe.arv hZ.alike V407 (by decide)) sf0) CC411.1 Sf410
    have CC429 := CC411.trans (CHr.keep K412 (sfS (Safe.arv hZ.alike V407 (by decide)) sf0) CC411.1)
    have e412 : T412.heap = T412.heap := rfl
    refine Wp.st (S' := T412.setTop (mkF m 215 #[oI x1, oI x2, oI x3, oI x4, oI (2 : Int32), oI ch0, oI ch1, oI ch2, oR b347, oR b352, oU, oU, oU, oU] [])) st412 ?_
    have Ve : Arv Z T412.heap b352 k352 .char (36 : Int32) [(.int (108 : Int32)), (.int (111 : Int32)), (.int (99 : Int32)), (.int (107 : Int32)), (.int (32 : Int32)), (.int (39 : Int32)), (.int (nar .char ch0)), (.int (nar .char ch1)), (.int (39 : Int32)), (.int (58 : Int32)), (.int (32 : Int32)), (.int (105 : Int32)), (.int (116 : Int32)), (.int (115 : Int32)), (.int (32 : Int32)), (.int (77 : Int32)), (.int (111 : Int32)), (.int (114 : Int32)), (.int (116 : Int32)), (.int (105 : Int32)), (.int (115 : Int32)), (.int (101 : Int32)), (.int (76 : Int32)), (.int (111 : Int32)), (.int (99 : Int32)), (.int (107 : Int32)), (.int (32 : Int32)), (.int (105 : Int32)), (.int (115 : Int32)), (.int (32 : Int32)), (.int (99 : Int32)), (.int (108 : Int32)), (.int (111 : Int32)), (.int (115 : Int32)), (.int (101 : Int32)), (.int (100 : Int32))] (.int (0 : Int32)) := own_arv (own_pt2 _ _) P412_0
    obtain ⟨T430, h430, X430, e430, E430, A430, D430, U430, st430⟩ := newO X412 hx hZ hown (hw _ (List.mem_of_getElem? (i := 5) rfl)) (hw _ (List.mem_of_getElem? (i := 6) rfl)) (hw _ (List.mem_of_getElem? (i := 7) rfl)) e412 (g := (mkF m 215 #[oI x1, oI x2, oI x3, oI x4, oI (2 : Int32), oI ch0, oI ch1, oI ch2, oR b347, oR b352, oU, oU, oU, oU] [])) rfl (hb hby at_215) (by decide) (by decide)
    obtain ⟨b430, g430⟩ : ∃ z, z = T412.heap.size := ⟨_, rfl⟩
    rw [← g430] at A430 D430 U430 st430
    have z431 := E430.1
    have Sf432 := Safe.ext E430 CC429.1 Sf427
    have Sf433 := Safe.ext E430 CC429.1 Sf428
    have CC434 := CC429.trans (CHr.ext E430 CC429.1)
    have g435 : n0 ≤ b430 := Nat.le_trans (Nat.le_trans Z0 (Nat.le_trans (Nat.le_trans (Nat.le_trans (Nat.le_trans (Nat.le_trans (Nat.le_trans (Nat.le_trans (Nat.le_trans (Nat.le_trans (Nat.le_trans (Nat.le_trans (Nat.le_trans z348 z353) z360) z366) z372) z378) z383) z388) z393) z398) z403) z408) z426)) (Nat.le_of_eq g430.symm)
    have Sf436 := Safe.ext E430 CC429.1 (Safe.new (x := b430) (Nat.le_of_eq g430.symm))
    have F437 : Fld Z h430 b430 "java/lang/String" "value" "[B" .null := D430 (Or.inr (hw _ (List.mem_of_getElem? (i := 20) rfl))) (ty := (.array .byte)) (by decide)
    have F438 : Fld Z h430 b430 "java/lang/String" "coder" "B" (.int (0 : Int32)) := D430 (Or.inr (hw _ (List.mem_of_getElem? (i := 21) rfl))) (ty := .byte) (by decide)
    refine Wp.st (S' := T430.setTop (mkF m 218 #[oI x1, oI x2, oI x3, oI x4, oI (2 : Int32), oI ch0, oI ch1, oI ch2, oR b347, oR b352, oU, oU, oU, oU] [(.ref b430)])) st430 ?_
    refine Wp.st (S' := T430.setTop (mkF m 219 #[oI x1, oI x2, oI x3, oI x4, oI (2 : Int32), oI ch0, oI ch1, oI ch2, oR b347, oR b352, oU, oU, oU, oU] [(.ref b430), (.ref b430)])) (fun tt_ kk_ => XS.dup X430.here hx rfl (hb hby at_218) rfl rfl kk_) ?_
    refine Wp.st (S' := T430.setTop (mkF m 221 #[oI x1, oI x2, oI x3, oI x4, oI (2 : Int32), oI ch0, oI ch1, oI ch2, oR b347, oR b352, oU, oU, oU, oU] [(.ref b347), (.ref b430), (.ref b430)])) (fun tt_ kk_ => XS.aload X430.here hx rfl (hb hby at_219) rfl rfl kk_) ?_
    have hp440 : ∀ c ∈ ([(nar .char ch0), (nar .char ch1)] : List Int32), ¬ c < 0 ∧ ¬ (255 : Int32) < c := (by
          intro c hc
          simp only [List.mem_cons, List.not_mem_nil, or_false] at hc
          rcases hc with rfl | rfl
          all_goals first | assumption | decide)
    have F441 := V371.other W377 (Nat.ne_of_lt (Nat.lt_of_lt_of_le V347.lt (Nat.le_trans (Nat.le_refl _) (Nat.le_of_eq g352.symm))))
    have F442 := F441.other W382 (Nat.ne_of_lt (Nat.lt_of_lt_of_le V347.lt (Nat.le_trans (Nat.le_refl _) (Nat.le_of_eq g352.symm))))
    have F443 := F442.other W387 (Nat.ne_of_lt (Nat.lt_of_lt_of_le V347.lt (Nat.le_trans (Nat.le_refl _) (Nat.le_of_eq g352.symm))))
    have F444 := F443.other W392 (Nat.ne_of_lt (Nat.lt_of_lt_of_le V347.lt (Nat.le_trans (Nat.le_refl _) (Nat.le_of_eq g352.symm))))
    have F445 := F444.other W397 (Nat.ne_of_lt (Nat.lt_of_lt_of_le V347.lt (Nat.le_trans (Nat.le_refl _) (Nat.le_of_eq g352.symm))))
    have F446 := F445.other W402 (Nat.ne_of_lt (Nat.lt_of_lt_of_le V347.lt (Nat.le_trans (Nat.le_refl _) (Nat.le_of_eq g352.symm))))
    have F447 := F446.other W407 (Nat.ne_of_lt (Nat.lt_of_lt_of_le V347.lt (Nat.le_trans (Nat.le_refl _) (Nat.le_of_eq g352.symm))))
    have F448 := F447.keep K412 (ninS (Nat.ne_of_lt (Nat.lt_of_lt_of_le V347.lt (Nat.le_trans (Nat.le_refl _) (Nat.le_of_eq g352.symm)))) nin0)
    have F449 := F448.ext E430
    have O450 := O0.ext E347
    have O451 := O450.ext E352
    have O452 := O451.wr W359 g350
    have O453 := O452.wr W365 g356
    have O454 := O453.wr W371 g350
    have O455 := O454.wr W377 g356
    have O456 := O455.wr W382 g356
    have O457 := O456.wr W387 g356
    have O458 := O457.wr W392 g356
    have O459 := O458.wr W397 g356
    have O460 := O459.wr W402 g356
    have O461 := O460.wr W407 g356
    have O462 := O461.keep K412 (allS g356 all0)
    have O463 := O462.ext E430
    obtain ⟨vv439, _, ⟨T439, L439, k439, n439⟩, -, X439, ⟨Lc439, hQ439, l439, y439, z439⟩, st439⟩ := X430.specialBack hx (y := (⟨"java/lang/String", "<init>", "([C)V"⟩ : MethodName)) rfl hown (mvT hZ (hw _ (List.mem_of_getElem? (i := 8) rfl))) (mvT hZ (hw _ (List.mem_of_getElem? (i := 9) rfl))) (mvT hZ (hw _ (List.mem_of_getElem? (i := 10) rfl))) (by decide) (StrChars.Road.backV (W := 1) hZ (fun d hd => hw d ((by decide +kernel : ∀ d ∈ StrChars.Road.words, d ∈ tables_1) d hd)) (kI := 4) (hw _ (List.mem_of_getElem? (i := 6) rfl)) (cs := ([(nar .char ch0), (nar .char ch1)] : List Int32)) (bs := (([(nar .char ch0), (nar .char ch1)] : List Int32).map (fun c => c.toInt8.toInt32))) (n := 2) g435 (Nat.le_trans Z0 (Nat.le_trans (Nat.le_trans (Nat.le_trans (Nat.le_trans (Nat.le_trans (Nat.le_trans (Nat.le_trans (Nat.le_trans (Nat.le_trans (Nat.le_trans (Nat.le_trans (Nat.le_trans (Nat.le_trans z348 z353) z360) z366) z372) z378) z383) z388) z393) z398) z403) z408) z426) z431)) A430 F437 F438 F449 (SCompact.ext O463.2) hCS rfl rfl (by decide) (by decide) hp440 rfl (by decide) (by decide)) (g := (mkF m 221 #[oI x1, oI x2, oI x3, oI x4, oI (2 : Int32), oI ch0, oI ch1, oI ch2, oR b347, oR b352, oU, oU, oU, oU] [(.ref b347), (.ref b430), (.ref b430)])) rfl (by rw [hml]; rfl) (Steps.refl _) (a := b430) (argsL := [(.ref b347)]) (rest := [(.ref b430)]) (lenOf pd_22 rfl) rfl (by show 2 * 0 + _ ≤ _; exact Nat.le_of_eq rfl) (hb hby at_221) (fun _ _ => ⟨rfl, e430, (by decide : 3 + 1 ≤ _), (by decide : 42 + 2 ≤ _)⟩)
    dsimp only [Pt.U, Pt.locs, Pt.cells, Pt.slots] at X439 l439 y439 z439 st439 hQ439
    subst l439 y439 z439
    obtain ⟨rfl, Nq439, K439, Ex439, Co439, t439, kb439, ga439, gb439, gn439, Va439, Av439⟩ := hQ439
    have N439 := Fr.app N412 Nq439
    have F464 := ThS.ext E430 Th425
    have Th465 := ThS.keep K439 (nsS (Exa.nostat A430) ns0) F464
    have z466 := K439.1
    have Sf467 := Safe.keep K439 (sfS Sf436 sf0) CC434.1 Sf432
    have Sf468 := Safe.keep K439 (sfS Sf436 sf0) CC434.1 Sf433
    have Sf469 := Safe.keep K439 (sfS Sf436 sf0) CC434.1 Sf436
    have CC470 := CC434.trans (CHr.keep K439 (sfS Sf436 sf0) CC434.1)
    have g471 : n0 ≤ t439 := Nat.le_trans (Nat.le_trans Z0 (Nat.le_trans (Nat.le_trans (Nat.le_trans (Nat.le_trans (Nat.le_trans (Nat.le_trans (Nat.le_trans (Nat.le_trans (Nat.le_trans (Nat.le_trans (Nat.le_trans (Nat.le_trans (Nat.le_trans z348 z353) z360) z366) z372) z378) z383) z388) z393) z398) z403) z408) z426) z431)) gb439
    have e439 : T439.heap = T439.heap := rfl
    refine Wp.tr (S' := T439.setTop (mkF m 224 #[oI x1, oI x2, oI x3, oI x4, oI (2 : Int32), oI ch0, oI ch1, oI ch2, oR b347, oR b352, oU, oU, oU, oU] [(.ref b430)])) st439 ?_
    refine Wp.st (S' := T439.setTop (mkF m 226 #[oI x1, oI x2, oI x3, oI x4, oI (2 : Int32), oI ch0, oI ch1, oI ch2, oR b347, oR b352, oR b430, oU, oU, oU] [])) (fun tt_ kk_ => XS.astore X439.here hx rfl (hb hby at_224) rfl rfl (l' := #[oI x1, oI x2, oI x3, oI x4, oI (2 : Int32), oI ch0, oI ch1, oI ch2, oR b347, oR b352, oR b430, oU, oU, oU]) rfl kk_) ?_
    obtain ⟨T472, h472, X472, e472, E472, A472, D472, U472, st472⟩ := newO X439 hx hZ hown (hw _ (List.mem_of_getElem? (i := 5) rfl)) (hw _ (List.mem_of_getElem? (i := 6) rfl)) (hw _ (List.mem_of_getElem? (i := 7) rfl)) e439 (g := (mkF m 226 #[oI x1, oI x2, oI x3, oI x4, oI (2 : Int32), oI ch0, oI ch1, oI ch2, oR b347, oR b352, oR b430, oU, oU, oU] [])) rfl (hb hby at_226) (by decide) (by decide)
    obtain ⟨b472, g472⟩ : ∃ z, z = T439.heap.size := ⟨_, rfl⟩
    rw [← g472] at A472 D472 U472 st472
    have z473 := E472.1
    have Sf474 := Safe.ext E472 CC470.1 Sf467
    have Sf475 := Safe.ext E472 CC470.1 Sf468
    have Sf476 := Safe.ext E472 CC470.1 Sf469
    have CC477 := CC470.trans (CHr.ext E472 CC470.1)
    have g478 : n0 ≤ b472 := Nat.le_trans (Nat.le_trans Z0 (Nat.le_trans (Nat.le_trans (Nat.le_trans (Nat.le_trans (Nat.le_trans (Nat.le_trans (Nat.le_trans (Nat.le_trans (Nat.le_trans (Nat.le_trans (Nat.le_trans (Nat.le_trans (Nat.le_trans (Nat.le_trans z348 z353) z360) z366) z372) z378) z383) z388) z393) z398) z403) z408) z426) z431) z466)) (Nat.le_of_eq g472.symm)
    have Sf479 := Safe.ext E472 CC470.1 (Safe.new (x := b472) (Nat.le_of_eq g472.symm))
    have F480 : Fld Z h472 b472 "java/lang/String" "value" "[B" .null := D472 (Or.inr (hw _ (List.mem_of_getElem? (i := 20) rfl))) (ty := (.array .byte)) (by decide)
    have F481 : Fld Z h472 b472 "java/lang/String" "coder" "B" (.int (0 : Int32)) := D472 (Or.inr (hw _ (List.mem_of_getElem? (i := 21) rfl))) (ty := .byte) (by decide)
    refine Wp.st (S' := T472.setTop (mkF m 229 #[oI x1, oI x2, oI x3, oI x4, oI (2 : Int32), oI ch0, oI ch1, oI ch2, oR b347, oR b352, oR b430, oU, oU, oU] [(.ref b472)])) st472 ?_
    refine Wp.st (S' := T472.setTop (mkF m 230 #[oI x1, oI x2, oI x3, oI x4, oI (2 : Int32), oI ch0, oI ch1, oI ch2, oR b347, oR b352, oR b430, oU, oU, oU] [(.ref b472), (.ref b472)])) (fun tt_ kk_ => XS.dup X472.here hx rfl (hb hby at_229) rfl rfl kk_) ?_
    refine Wp.st (S' := T472.setTop (mkF m 232 #[oI x1, oI x2, oI x3, oI x4, oI (2 : Int32), oI ch0, oI ch1, oI ch2, oR b347, oR b352, oR b430, oU, oU, oU] [(.ref b352), (.ref b472), (.ref b472)])) (fun tt_ kk_ => XS.aload X472.here hx rfl (hb hby at_230) rfl rfl kk_) ?_
    have hp483 : ∀ c ∈ ([(108 : Int32), (111 : Int32), (99 : Int32), (107 : Int32), (32 : Int32), (39 : Int32), (nar .char ch0), (nar .char ch1), (39 : Int32), (58 : Int32), (32 : Int32), (105 : Int32), (116 : Int32), (115 : Int32), (32 : Int32), (77 : Int32), (111 : Int32), (114 : Int32), (116 : Int32), (105 : Int32), (115 : Int32), (101 : Int32), (76 : Int32), (111 : Int32), (99 : Int32), (107 : Int32), (32 : Int32), (105 : Int32), (115 : Int32), (32 : Int32), (99 : Int32), (108 : Int32), (111 : Int32), (115 : Int32), (101 : Int32), (100 : Int32)] : List Int32), ¬ c < 0 ∧ ¬ (255 : Int32) < c := (by
          intro c hc
          simp only [List.mem_cons, List.not_mem_nil, or_false] at hc
          rcases hc with rfl | rfl | rfl | rfl | rfl | rfl | rfl | rfl | rfl | rfl | rfl | rfl | rfl | rfl | rfl | rfl | rfl | rfl | rfl | rfl | rfl | rfl | rfl | rfl | rfl | rfl | rfl | rfl | rfl | rfl | rfl | rfl | rfl | rfl | rfl | rfl
          all_goals first | assumption | decide)
    have F484 := Ve.ext E430
    have F485 := F484.keep K439 (ninS (Nat.ne_of_lt (Nat.lt_of_lt_of_le V352.lt (Nat.le_trans (Nat.le_trans (Nat.le_trans (Nat.le_trans (Nat.le_trans (Nat.le_trans (Nat.le_trans (Nat.le_trans (Nat.le_trans (Nat.le_trans (Nat.le_trans z360 z366) z372) z378) z383) z388) z393) z398) z403) z408) z426) (Nat.le_of_eq g430.symm)))) nin0)
    have F486 := F485.ext E472
    have O487 := O463.keep K439 (allS g435 all0)
    have O488 := O487.ext E472
    obtain ⟨vv482, _, ⟨T482, L482, k482, n482⟩, -, X482, ⟨Lc482, hQ482, l482, y482, z482⟩, st482⟩ := X472.specialBack hx (y := (⟨"java/lang/String", "<init>", "([C)V"⟩ : MethodName)) rfl hown (mvT hZ (hw _ (List.mem_of_getElem? (i := 8) rfl))) (mvT hZ (hw _ (List.mem_of_getElem? (i := 9) rfl))) (mvT hZ (hw _ (List.mem_of_getElem? (i := 10) rfl))) (by decide) (StrChars.Road.backV (W := 1) hZ (fun d hd => hw d ((by decide +kernel : ∀ d ∈ StrChars.Road.words, d ∈ tables_1) d hd)) (kI := 4) (hw _ (List.mem_of_getElem? (i := 6) rfl)) (cs := ([(108 : Int32), (111 : Int32), (99 : Int32), (107 : Int32), (32 : Int32), (39 : Int32), (nar .char ch0), (nar .char ch1), (39 : Int32), (58 : Int32), (32 : Int32), (105 : Int32), (116 : Int32), (115 : Int32), (32 : Int32), (77 : Int32), (111 : Int32), (114 : Int32), (116 : Int32), (105 : Int32), (115 : Int32), (101 : Int32), (76 : Int32), (111 : Int32), (99 : Int32), (107 : Int32), (32 : Int32), (105 : Int32), (115 : Int32), (32 : Int32), (99 : Int32), (108 : Int32), (111 : Int32), (115 : Int32), (101 : Int32), (100 : Int32)] : List Int32)) (bs := (([(108 : Int32), (111 : Int32), (99 : Int32), (107 : Int32), (32 : Int32), (39 : Int32), (nar .char ch0), (nar .char ch1), (39 : Int32), (58 : Int32), (32 : Int32), (105 : Int32), (116 : Int32), (115 : Int32), (32 : Int32), (77 : Int32), (111 : Int32), (114 : Int32), (116 : Int32), (105 : Int32), (115 : Int32), (101 : Int32), (76 : Int32), (111 : Int32), (99 : Int32), (107 : Int32), (32 : Int32), (105 : Int32), (115 : Int32), (32 : Int32), (99 : Int32), (108 : Int32), (111 : Int32), (115 : Int32), (101 : Int32), (100 : Int32)] : List Int32).map (fun c => c.toInt8.toInt32))) (n := 36) g478 (Nat.le_trans Z0 (Nat.le_trans (Nat.le_trans (Nat.le_trans (Nat.le_trans (Nat.le_trans (Nat.le_trans (Nat.le_trans (Nat.le_trans (Nat.le_trans (Nat.le_trans (Nat.le_trans (Nat.le_trans (Nat.le_trans (Nat.le_trans (Nat.le_trans z348 z353) z360) z366) z372) z378) z383) z388) z393) z398) z403) z408) z426) z431) z466) z473)) A472 F480 F481 F486 (SCompact.ext O488.2) hCS rfl rfl (by decide) (by decide) hp483 rfl (by decide) (by decide)) (g := (mkF m 232 #[oI x1, oI x2, oI x3, oI x4, oI (2 : Int32), oI ch0, oI ch1, oI ch2, oR b347, oR b352, oR b430, oU, oU, oU] [(.ref b352), (.ref b472), (.ref b472)])) rfl (by rw [hml]; rfl) (Steps.refl _) (a := b472) (argsL := [(.ref b352)]) (rest := [(.ref b472)]) (lenOf pd_22 rfl) rfl (by show 2 * 0 + _ ≤ _; exact Nat.le_of_eq rfl) (hb hby at_232) (fun _ _ => ⟨rfl, e472, (by decide : 5 + 1 ≤ _), (by decide : 48 + 36 ≤ _)⟩)
    dsimp only [Pt.U, Pt.locs, Pt.cells, Pt.slots] at X482 l482 y482 z482 st482 hQ482
    subst l482 y482 z482
    obtain ⟨rfl, Nq482, K482, Ex482, Co482, t482, kb482, ga482, gb482, gn482, Va482, Av482⟩ := hQ482
    have N482 := Fr.app N439 Nq482
    have F489 := ThS.ext E472 Th465
    have Th490 := ThS.keep K482 (nsS (Exa.nostat A472) ns0) F489
    have z491 := K482.1
    have Sf492 := Safe.keep K482 (sfS Sf479 sf0) CC477.1 Sf474
    have Sf493 := Safe.keep K482 (sfS Sf479 sf0) CC477.1 Sf475
    have Sf494 := Safe.keep K482 (sfS Sf479 sf0) CC477.1 Sf476
    have Sf495 := Safe.keep K482 (sfS Sf479 sf0) CC477.1 Sf479
    have CC496 := CC477.trans (CHr.keep K482 (sfS Sf479 sf0) CC477.1)
    have g497 : n0 ≤ t482 := Nat.le_trans (Nat.le_trans Z0 (Nat.le_trans (Nat.le_trans (Nat.le_trans (Nat.le_trans (Nat.le_trans (Nat.le_trans (Nat.le_trans (Nat.le_trans (Nat.le_trans (Nat.le_trans (Nat.le_trans (Nat.le_trans (Nat.le_trans (Nat.le_trans (Nat.le_trans z348 z353) z360) z366) z372) z378) z383) z388) z393) z398) z403) z408) z426) z431) z466) z473)) gb482
    have e482 : T482.heap = T482.heap := rfl
    refine Wp.tr (S' := T482.setTop (mkF m 235 #[oI x1, oI x2, oI x3, oI x4, oI (2 : Int32), oI ch0, oI ch1, oI ch2, oR b347, oR b352, oR b430, oU, oU, oU] [(.ref b472)])) st482 ?_
    refine Wp.st (S' := T482.setTop (mkF m 237 #[oI x1, oI x2, oI x3, oI x4, oI (2 : Int32), oI ch0, oI ch1, oI ch2, oR b347, oR b352, oR b430, oR b472, oU, oU] [])) (fun tt_ kk_ => XS.astore X482.here hx rfl (hb hby at_235) rfl rfl (l' := #[oI x1, oI x2, oI x3, oI x4, oI (2 : Int32), oI ch0, oI ch1, oI ch2, oR b347, oR b352, oR b430, oR b472, oU, oU]) rfl kk_) ?_
    refine Wp.st (S' := T482.setTop (mkF m 239 #[oI x1, oI x2, oI x3, oI x4, oI (2 : Int32), oI ch0, oI ch1, oI ch2, oR b347, oR b352, oR b430, oR b472, oU, oU] [(.ref b430)])) (fun tt_ kk_ => XS.aload X482.here hx rfl (hb hby at_237) rfl rfl kk_) ?_
    have O499 := O488.keep K482 (allS g478 all0)
    have F500 := Ex439.ext E472
    have F501 := F500.keep K482
    have F502 := Va439.ext E472
    have F503 := F502.keep K482 (ninS (Nat.ne_of_lt (Nat.lt_of_lt_of_le A430.lt (Nat.le_trans z466 (Nat.le_of_eq g472.symm)))) nin0)
    have F504 := Co439.ext E472
    have F505 := F504.keep K482 (ninS (Nat.ne_of_lt (Nat.lt_of_lt_of_le A430.lt (Nat.le_trans z466 (Nat.le_of_eq g472.symm)))) nin0)
    have F506 := Av439.ext E472
    have F507 := F506.keep K482 (ninS (Nat.ne_of_lt (Nat.lt_of_lt_of_le Av439.lt (Nat.le_trans (Nat.le_refl _) (Nat.le_of_eq g472.symm)))) nin0)
    obtain ⟨vv498, _, ⟨T498, L498, k498, n498⟩, -, Xq498, sn498, gr498, ⟨Lc498, hQ498, l498, y498, z498, cr498⟩, st498⟩ := callSS X482 hx (y := (⟨"com/example/mortise_lock/mortiselock/redis/RedisCallException", "closed", "(Ljava/lang/String;)Lcom/example/mortise_lock/mortiselock/redis/RedisCallException;"⟩ : MethodName)) hown (mvT hZ (hw _ (List.mem_of_getElem? (i := 37) rfl))) (mvT hZ (hw _ (List.mem_of_getElem? (i := 38) rfl))) (mvT hZ (hw _ (List.mem_of_getElem? (i := 39) rfl))) (mvT hZ (hw _ (List.mem_of_getElem? (i := 40) rfl))) (by decide) (backOfSKH (W := 0) (rm8 l Z a0 hw [] b430 zcs t439 kb439 (2 : Int32) ((([(nar .char ch0), (nar .char ch1)] : List Int32).map (fun c => c.toInt8.toInt32)).map Value.int) vu vs T482.heap n0 (Nat.le_trans Z0 (Nat.le_trans (Nat.le_trans (Nat.le_trans (Nat.le_trans (Nat.le_trans (Nat.le_trans (Nat.le_trans (Nat.le_trans (Nat.le_trans (Nat.le_trans (Nat.le_trans (Nat.le_trans (Nat.le_trans (Nat.le_trans (Nat.le_trans (Nat.le_trans z348 z353) z360) z366) z372) z378) z383) z388) z393) z398) z403) z408) z426) z431) z466) z473) z491)) O499 SCompact (hCS : ¬ zcs = 0) Th490 ((by assumption) : ∀ d ∈ Jvm.RoadKit.twoRefs, d.before a0 Z = true) ((by assumption) : l.stackTraces = true) SUn SSe hvu hvs F501 F503 F505 F507 ((by simp) : (2 : Int32) = (0 : Int32) ∨ (2 : Int32) = (1 : Int32) ∨ (2 : Int32) = (2 : Int32) ∨ (2 : Int32) = (3 : Int32))) hZ (hw _ (List.mem_of_getElem? (i := 40) rfl)) (hw _ (List.mem_of_getElem? (i := 39) rfl)) (by decide) (by decide) hEL CC496.1 hK.1 hK.2) (g := (mkF m 239 #[oI x1, oI x2, oI x3, oI x4, oI (2 : Int32), oI ch0, oI ch1, oI ch2, oR b347, oR b352, oR b430, oR b472, oU, oU] [(.ref b430)])) rfl (by rw [hml]; rfl) (argsL := [(.ref b430)]) (rest := []) (lenOf pd_23 rfl) rfl (by show 2 * 0 + _ ≤ _; exact Nat.le_of_eq rfl) (hb hby at_239) (fun _ _ => ⟨rfl, e482, (by decide : 6 + 11 ≤ _), (by decide : 84 + 3000 ≤ _)⟩)
    dsimp only [Pt.U, Pt.locs, Pt.cells, Pt.slots] at Xq498 sn498 gr498 l498 y498 z498 st498 hQ498 cr498
    subst l498 y498 z498
    obtain ⟨X498, hS498, hZ498, how498⟩ := rebS hS0 (by rw [e482]; exact (Nat.le_trans (Nat.le_refl _) (Nat.le_trans (Nat.le_trans (Nat.le_trans (Nat.le_trans (Nat.le_trans (Nat.le_trans (Nat.le_trans (Nat.le_trans (Nat.le_trans (Nat.le_trans (Nat.le_trans (Nat.le_trans (Nat.le_trans (Nat.le_trans (Nat.le_trans (Nat.le_trans z348 z353) z360) z366) z372) z378) z383) z388) z393) z398) z403) z408) z426) z431) z466) z473) z491))) Xq498 sn498 gr498 hZ hown
    obtain ⟨b508, b509, b510, c511, rfl, Nq498, K498, P498_0, P498_1, P498_2, P498_3, P498_4, P498_5, P498_6, P498_7⟩ := hQ498
    have N498 := Fr.app N482 Nq498
    have Th512 := ThS.keep K498 ns0 Th490
    have z513 := K498.1
    have Sf514 := cr498.safe (Nat.lt_of_lt_of_le V347.lt (Nat.le_trans (Nat.le_trans (Nat.le_trans (Nat.le_trans (Nat.le_trans (Nat.le_trans (Nat.le_trans (Nat.le_trans (Nat.le_trans (Nat.le_trans (Nat.le_trans (Nat.le_trans (Nat.le_trans (Nat.le_trans (Nat.le_trans z353 z360) z366) z372) z378) z383) z388) z393) z398) z403) z408) z426) z431) z466) z473) z491)) Sf492
    have Sf515 := cr498.safe (Nat.lt_of_lt_of_le V352.lt (Nat.le_trans (Nat.le_trans (Nat.le_trans (Nat.le_trans (Nat.le_trans (Nat.le_trans (Nat.le_trans (Nat.le_trans (Nat.le_trans (Nat.le_trans (Nat.le_trans (Nat.le_trans (Nat.le_trans (Nat.le_trans z360 z366) z372) z378) z383) z388) z393) z398) z403) z408) z426) z431) z466) z473) z491)) Sf493
    have Sf516 := cr498.safe (Nat.lt_of_lt_of_le A430.lt (Nat.le_trans (Nat.le_trans z466 z473) z491)) Sf494
    have Sf517 := cr498.safe (Nat.lt_of_lt_of_le A472.lt z491) Sf495
    have CC518 := CC496.trans cr498
    have e498 : T498.heap = T498.heap := rfl
    refine Wp.tr (S' := T498.setTop (mkF m 242 #[oI x1, oI x2, oI x3, oI x4, oI (2 : Int32), oI ch0, oI ch1, oI ch2, oR b347, oR b352, oR b430, oR b472, oU, oU] [(.ref b508)])) st498 ?_
    refine Wp.st (S' := T498.setTop (mkF m 244 #[oI x1, oI x2, oI x3, oI x4, oI (2 : Int32), oI ch0, oI ch1, oI ch2, oR b347, oR b352, oR b430, oR b472, oR b508, oU] [])) (fun tt_ kk_ => XS.astore X498.here hx rfl (hb hby at_242) rfl rfl (l' := #[oI x1, oI x2, oI x3, oI x4, oI (2 : Int32), oI ch0, oI ch1, oI ch2, oR b347, oR b352, oR b430, oR b472, oR b508, oU]) rfl kk_) ?_
    refine Wp.st (S' := T498.setTop (mkF m 246 #[oI x1, oI x2, oI x3, oI x4, oI (2 : Int32), oI ch0, oI ch1, oI ch2, oR b347, oR b352, oR b430, oR b472, oR b508, oU] [(.ref b508)])) (fun tt_ kk_ => XS.aload X498.here hx rfl (hb hby at_244) rfl rfl kk_) ?_
    refine Wp.st (S' := T498.setTop (mkF m 251 #[oI x1, oI x2, oI x3, oI x4, oI (2 : Int32), oI ch0, oI ch1, oI ch2, oR b347, oR b352, oR b430, oR b472, oR b508, oU] [])) (fun tt_ kk_ => XS.ifnonnullYes X498.here hx rfl (pc0 := 246) (pc' := 251) rfl (hb hby at_246) rfl (by decide) (by decide) kk_) ?_
    refine Wp.st (S' := T498.setTop (mkF m 253 #[oI x1, oI x2, oI x3, oI x4, oI (2 : Int32), oI ch0, oI ch1, oI ch2, oR b347, oR b352, oR b430, oR b472, oR b508, oU] [(.ref b508)])) (fun tt_ kk_ => XS.aload X498.here hx rfl (hb hby at_251) rfl rfl kk_) ?_
    obtain ⟨cq519, kq519, q519a, q519b, q519c⟩ := isOf hZ498 e498 P498_0
    obtain ⟨vv519, _, ⟨T519, L519, k519, n519⟩, -, X519, ⟨Lc519, hQ519, l519, y519, z519⟩, st519⟩ := X498.virtualBackUp hx (owner := "java/lang/Throwable") (x := (⟨"com/example/mortise_lock/mortiselock/redis/RedisCallException", "getCause", "()Ljava/lang/Throwable;"⟩ : MethodName)) (y := (⟨"java/lang/Throwable", "getCause", "()Ljava/lang/Throwable;"⟩ : MethodName)) how498 (mvT hZ498 (hw _ (List.mem_of_getElem? (i := 232) rfl))) (mvT hZ498 (hw _ (List.mem_of_getElem? (i := 233) rfl))) (mvT hZ498 (hw _ (List.mem_of_getElem? (i := 234) rfl))) (by decide) (mvT hZ498 (hw _ (List.mem_of_getElem? (i := 236) rfl))) (mvT hZ498 (hw _ (List.mem_of_getElem? (i := 235) rfl))) (gcBackPure (rm := ({} : Room)) (W := 0) hZ498 (hw _ (List.mem_of_getElem? (i := 237) rfl)) (hw _ (List.mem_of_getElem? (i := 235) rfl)) (hw _ (List.mem_of_getElem? (i := 193) rfl)) (hw _ (List.mem_of_getElem? (i := 196) rfl)) P498_1 P498_3 rfl (by decide) (by decide)) q519a q519c (g := (mkF m 253 #[oI x1, oI x2, oI x3, oI x4, oI (2 : Int32), oI ch0, oI ch1, oI ch2, oR b347, oR b352, oR b430, oR b472, oR b508, oU] [(.ref b508)])) rfl (by rw [hml]; rfl) (Steps.refl _) (argsL := []) (rest := []) (lenOf pd_24 rfl) rfl (by show 2 * 0 + _ ≤ _; exact Nat.le_of_eq rfl) (hb hby at_253) (fun _ _ => ⟨rfl, e498, (by decide : 17 + 0 ≤ _), (by decide : 3084 + 0 ≤ _)⟩)
    dsimp only [Pt.U, Pt.locs, Pt.cells, Pt.slots] at X519 l519 y519 z519 st519 hQ519
    subst l519 y519 z519
    rw [gcv_null] at Lc519
    subst Lc519
    have e519 := hQ519
    refine Wp.tr (S' := T519.setTop (mkF m 256 #[oI x1, oI x2, oI x3, oI x4, oI (2 : Int32), oI ch0, oI ch1, oI ch2, oR b347, oR b352, oR b430, oR b472, oR b508, oU] [.null])) st519 ?_
    refine Wp.st (S' := T519.setTop (mkF m 261 #[oI x1, oI x2, oI x3, oI x4, oI (2 : Int32), oI ch0, oI ch1, oI ch2, oR b347, oR b352, oR b430, oR b472, oR b508, oU] [])) (fun tt_ kk_ => XS.ifnullYes X519.here hx rfl (pc0 := 256) (pc' := 261) rfl (hb hby at_256) rfl (by decide) (by decide) kk_) ?_
    refine Wp.st (S' := T519.setTop (mkF m 263 #[oI x1, oI x2, oI x3, oI x4, oI (2 : Int32), oI ch0, oI ch1, oI ch2, oR b347, oR b352, oR b430, oR b472, oR b508, oU] [(.ref b508)])) (fun tt_ kk_ => XS.aload X519.here hx rfl (hb hby at_261) rfl rfl kk_) ?_
    obtain ⟨cq520, kq520, q520a, q520b, q520c⟩ := isOf hZ498 e519 P498_0
    obtain ⟨vv520, _, ⟨T520, L520, k520, n520⟩, -, X520, ⟨Lc520, hQ520, l520, y520, z520⟩, st520⟩ := X519.virtualBackUp hx (owner := "java/lang/Throwable") (x := (⟨"com/example/mortise_lock/mortiselock/redis/RedisCallException", "getMessage", "()Ljava/lang/String;"⟩ : MethodName)) (y := (⟨"java/lang/Throwable", "getMessage", "()Ljava/lang/String;"⟩ : MethodName)) how498 (mvT hZ498 (hw _ (List.mem_of_getElem? (i := 238) rfl))) (mvT hZ498 (hw _ (List.mem_of_getElem? (i := 239) rfl))) (mvT hZ498 (hw _ (List.mem_of_getElem? (i := 240) rfl))) (by decide) (mvT hZ498 (hw _ (List.mem_of_getElem? (i := 242) rfl))) (mvT hZ498 (hw _ (List.mem_of_getElem? (i := 241) rfl))) (backOf (W := 0) (rm39 l Z a0 hw [] b508 b509 T498.heap n0 (Nat.le_trans Z0 (Nat.le_trans (Nat.le_trans (Nat.le_trans (Nat.le_trans (Nat.le_trans (Nat.le_trans (Nat.le_trans (Nat.le_trans (Nat.le_trans (Nat.le_trans (Nat.le_trans (Nat.le_trans (Nat.le_trans (Nat.le_trans (Nat.le_trans (Nat.le_trans (Nat.le_trans z348 z353) z360) z366) z372) z378) z383) z388) z393) z398) z403) z408) z426) z431) z466) z473) z491) z513)) P498_2) hZ498 (hw _ (List.mem_of_getElem? (i := 243) rfl)) (hw _ (List.mem_of_getElem? (i := 193) rfl)) (by decide) (by decide)) q520a q520c (g := (mkF m 263 #[oI x1, oI x2, oI x3, oI x4, oI (2 : Int32), oI ch0, oI ch1, oI ch2, oR b347, oR b352, oR b430, oR b472, oR b508, oU] [(.ref b508)])) rfl (by rw [hml]; rfl) (Steps.refl _) (argsL := []) (rest := []) (lenOf pd_19 rfl) rfl (by show 2 * 0 + _ ≤ _; exact Nat.le_of_eq rfl) (hb hby at_263) (fun _ _ => ⟨rfl, e519, (by decide : 17 + 0 ≤ _), (by decide : 3084 + 0 ≤ _)⟩)
    dsimp only [Pt.U, Pt.locs, Pt.cells, Pt.slots] at X520 l520 y520 z520 st520 hQ520
    subst l520 y520 z520
    obtain ⟨rfl, Nq520, e520⟩ := hQ520
    have N520 := Fr.app N498 Nq520
    refine Wp.tr (S' := T520.setTop (mkF m 266 #[oI x1, oI x2, oI x3, oI x4, oI (2 : Int32), oI ch0, oI ch1, oI ch2, oR b347, oR b352, oR b430, oR b472, oR b508, oU] [(.ref b509)])) st520 ?_
    refine Wp.st (S' := T520.setTop (mkF m 268 #[oI x1, oI x2, oI x3, oI x4, oI (2 : Int32), oI ch0, oI ch1, oI ch2, oR b347, oR b352, oR b430, oR b472, oR b508, oR b509] [])) (fun tt_ kk_ => XS.astore X520.here hx rfl (hb hby at_266) rfl rfl (l' := #[oI x1, oI x2, oI x3, oI x4, oI (2 : Int32), oI ch0, oI ch1, oI ch2, oR b347, oR b352, oR b430, oR b472, oR b508, oR b509]) rfl kk_) ?_
    refine Wp.st (S' := T520.setTop (mkF m 270 #[oI x1, oI x2, oI x3, oI x4, oI (2 : Int32), oI ch0, oI ch1, oI ch2, oR b347, oR b352, oR b430, oR b472, oR b508, oR b509] [(.ref b509)])) (fun tt_ kk_ => XS.aload X520.here hx rfl (hb hby at_268) rfl rfl kk_) ?_
    refine Wp.st (S' := T520.setTop (mkF m 275 #[oI x1, oI x2, oI x3, oI x4, oI (2 : Int32), oI ch0, oI ch1, oI ch2, oR b347, oR b352, oR b430, oR b472, oR b508, oR b509] [])) (fun tt_ kk_ => XS.ifnonnullYes X520.here hx rfl (pc0 := 270) (pc' := 275) rfl (hb hby at_270) rfl (by decide) (by decide) kk_) ?_
    have em : own_msg ((([(nar .char ch0), (nar .char ch1)] : List Int32).map (fun c => c.toInt8.toInt32)).map Value.int) (2 : Int32) = (own_P.map Value.int ++ own_bytes [(nar .char ch0), (nar .char ch1)] ++ own_Sf.map Value.int) ++ List.replicate 28 (.int 0) := own_em2 _ _
    have eb : own_bytes (own_P ++ [(nar .char ch0), (nar .char ch1)] ++ own_Sf) = own_P.map Value.int ++ own_bytes [(nar .char ch0), (nar .char ch1)] ++ own_Sf.map Value.int := by unfold own_bytes; rw [List.map_append, List.map_append, List.map_append, List.map_append, show own_P.map (fun c => c.toInt8.toInt32) = own_P by decide +kernel, show own_Sf.map (fun c => c.toInt8.toInt32) = own_Sf by decide +kernel]
    have P2 : Arv Z T498.heap b510 c511 .byte (36 : Int32) (own_msg ((([(nar .char ch0), (nar .char ch1)] : List Int32).map (fun c => c.toInt8.toInt32)).map Value.int) (2 : Int32)) (.int (0 : Int32)) := P498_7
    rw [em] at P2
    have Vmm : Arv Z T498.heap b510 c511 .byte (36 : Int32) (own_bytes (own_P ++ [(nar .char ch0), (nar .char ch1)] ++ own_Sf)) (.int (0 : Int32)) := Arv.pad P2 (fun i => by rw [eb]; exact own_padz _ _ i)
    have hlm : (own_P ++ [(nar .char ch0), (nar .char ch1)] ++ own_Sf) = ([(108 : Int32), (111 : Int32), (99 : Int32), (107 : Int32), (32 : Int32), (39 : Int32), (nar .char ch0), (nar .char ch1), (39 : Int32), (58 : Int32), (32 : Int32), (105 : Int32), (116 : Int32), (115 : Int32), (32 : Int32), (77 : Int32), (111 : Int32), (114 : Int32), (116 : Int32), (105 : Int32), (115 : Int32), (101 : Int32), (76 : Int32), (111 : Int32), (99 : Int32), (107 : Int32), (32 : Int32), (105 : Int32), (115 : Int32), (32 : Int32), (99 : Int32), (108 : Int32), (111 : Int32), (115 : Int32), (101 : Int32), (100 : Int32)] : List Int32) := rfl
    have hpm : ∀ c ∈ (own_P ++ [(nar .char ch0), (nar .char ch1)] ++ own_Sf), ¬ c < 0 ∧ ¬ (255 : Int32) < c := by rw [hlm]; exact hp483
    refine Wp.st (S' := T520.setTop (mkF m 277 #[oI x1, oI x2, oI x3, oI x4, oI (2 : Int32), oI ch0, oI ch1, oI ch2, oR b347, oR b352, oR b430, oR b472, oR b508, oR b509] [(.ref b509)])) (fun tt_ kk_ => XS.aload X520.here hx rfl (hb hby at_275) rfl rfl kk_) ?_
    have O522 := O499.keep K498 all0
    obtain ⟨cq521, kq521, q521a, q521b, q521c⟩ := isOf hZ498 e520 P498_4
    obtain ⟨vv521, _, ⟨T521, L521, k521, n521⟩, -, X521, ⟨Lc521, hQ521, l521, y521, z521⟩, st521⟩ := X520.virtualBack hx (y := (⟨"java/lang/String", "length", "()I"⟩ : MethodName)) (z := (⟨"java/lang/String", "length", "()I"⟩ : MethodName)) how498 (mvT hZ498 (hw _ (List.mem_of_getElem? (i := 244) rfl))) (mvT hZ498 (hw _ (List.mem_of_getElem? (i := 73) rfl))) (notFace_of_selects (args := #[]) (mvT hZ498 (hw _ (List.mem_of_getElem? (i := 75) rfl)))) (mvT hZ498 (hw _ (List.mem_of_getElem? (i := 75) rfl))) (mvT hZ498 (hw _ (List.mem_of_getElem? (i := 74) rfl))) (by decide) (backOf (W := 0) (rm13 l Z a0 hw [] b509 zcs b510 c511 (36 : Int32) (own_bytes (own_P ++ [(nar .char ch0), (nar .char ch1)] ++ own_Sf)) T498.heap n0 (Nat.le_trans Z0 (Nat.le_trans (Nat.le_trans (Nat.le_trans (Nat.le_trans (Nat.le_trans (Nat.le_trans (Nat.le_trans (Nat.le_trans (Nat.le_trans (Nat.le_trans (Nat.le_trans (Nat.le_trans (Nat.le_trans (Nat.le_trans (Nat.le_trans (Nat.le_trans (Nat.le_trans z348 z353) z360) z366) z372) z378) z383) z388) z393) z398) z403) z408) z426) z431) z466) z473) z491) z513)) O522 SCompact (hCS : ¬ zcs = 0) P498_4 P498_5 P498_6 Vmm) hZ498 (hw _ (List.mem_of_getElem? (i := 76) rfl)) (hw _ (List.mem_of_getElem? (i := 7) rfl)) (by decide) (by decide)) q521a q521c (g := (mkF m 277 #[oI x1, oI x2, oI x3, oI x4, oI (2 : Int32), oI ch0, oI ch1, oI ch2, oR b347, oR b352, oR b430, oR b472, oR b508, oR b509] [(.ref b509)])) rfl (by rw [hml]; rfl) (Steps.refl _) (argsL := []) (rest := []) (lenOf pd_7 rfl) rfl (by show 2 * 0 + _ ≤ _; exact Nat.le_of_eq rfl) (hb hby at_277) (fun _ _ => ⟨rfl, e520, (by decide : 17 + 0 ≤ _), (by decide : 3084 + 0 ≤ _)⟩)
    dsimp only [Pt.U, Pt.locs, Pt.cells, Pt.slots] at X521 l521 y521 z521 st521 hQ521
    subst l521 y521 z521
    obtain ⟨rfl, Nq521, e521⟩ := hQ521
    have N521 := Fr.app N520 Nq521
    refine Wp.tr (S' := T521.setTop (mkF m 280 #[oI x1, oI x2, oI x3, oI x4, oI (2 : Int32), oI ch0, oI ch1, oI ch2, oR b347, oR b352, oR b430, oR b472, oR b508, oR b509] [(.int (36 : Int32))])) st521 ?_
    refine Wp.st (S' := T521.setTop (mkF m 282 #[oI x1, oI x2, oI x3, oI x4, oI (2 : Int32), oI ch0, oI ch1, oI ch2, oR b347, oR b352, oR b430, oR b472, oR b508, oR b509] [(.int (34 : Int32)), (.int (36 : Int32))])) (fun tt_ kk_ => XS.bipush X521.here hx rfl (hb hby at_280) kk_) ?_
    refine Wp.st (S' := T521.setTop (mkF m 284 #[oI x1, oI x2, oI x3, oI x4, oI (2 : Int32), oI ch0, oI ch1, oI ch2, oR b347, oR b352, oR b430, oR b472, oR b508, oR b509] [(.int (2 : Int32)), (.int (34 : Int32)), (.int (36 : Int32))])) (fun tt_ kk_ => XS.iload X521.here hx rfl (hb hby at_282) rfl  kk_) ?_
    refine Wp.st (S' := T521.setTop (mkF m 285 #[oI x1, oI x2, oI x3, oI x4, oI (2 : Int32), oI ch0, oI ch1, oI ch2, oR b347, oR b352, oR b430, oR b472, oR b508, oR b509] [(.int ((34 : Int32) + (2 : Int32))), (.int (36 : Int32))])) (fun tt_ kk_ => XS.iadd X521.here hx rfl (hb hby at_284) rfl kk_) ?_
    rw [(by decide : ((34 : Int32) + (2 : Int32)) = (36 : Int32))]
    refine Wp.st (S' := T521.setTop (mkF m 288 #[oI x1, oI x2, oI x3, oI x4, oI (2 : Int32), oI ch0, oI ch1, oI ch2, oR b347, oR b352, oR b430, oR b472, oR b508, oR b509] [])) (fun tt_ kk_ => XS.icmpNo X521.here hx rfl (hb hby at_285) rfl (teq ((by decide) : (36 : Int32) = (36 : Int32))).2 kk_) ?_
    refine Wp.st (S' := T521.setTop (mkF m 290 #[oI x1, oI x2, oI x3, oI x4, oI (2 : Int32), oI ch0, oI ch1, oI ch2, oR b347, oR b352, oR b430, oR b472, oR b508, oR b509] [(.ref b509)])) (fun tt_ kk_ => XS.aload X521.here hx rfl (hb hby at_288) rfl rfl kk_) ?_
    refine Wp.st (S' := T521.setTop (mkF m 292 #[oI x1, oI x2, oI x3, oI x4, oI (2 : Int32), oI ch0, oI ch1, oI ch2, oR b347, oR b352, oR b430, oR b472, oR b508, oR b509] [(.ref b472), (.ref b509)])) (fun tt_ kk_ => XS.aload X521.here hx rfl (hb hby at_290) rfl rfl kk_) ?_
    have F524 := Ex482.keep K498
    have F525 := Va482.keep K498 nin0
    have F526 := Co482.keep K498 nin0
    have F527 := Av482.keep K498 nin0
    obtain ⟨cq523, kq523, q523a, q523b, q523c⟩ := isOf hZ498 e521 P498_4
    obtain ⟨vv523, _, ⟨T523, L523, k523, n523⟩, -, X523, ⟨Lc523, hQ523, l523, y523, z523⟩, st523⟩ := X521.virtualBack hx (y := (⟨"java/lang/String", "equals", "(Ljava/lang/Object;)Z"⟩ : MethodName)) (z := (⟨"java/lang/String", "equals", "(Ljava/lang/Object;)Z"⟩ : MethodName)) how498 (mvT hZ498 (hw _ (List.mem_of_getElem? (i := 245) rfl))) (mvT hZ498 (hw _ (List.mem_of_getElem? (i := 246) rfl))) (notFace_of_selects (args := #[]) (mvT hZ498 (hw _ (List.mem_of_getElem? (i := 248) rfl)))) (mvT hZ498 (hw _ (List.mem_of_getElem? (i := 248) rfl))) (mvT hZ498 (hw _ (List.mem_of_getElem? (i := 247) rfl))) (by decide) (StrChars.Road.eqW (W := 0) hZ498 (fun d hd => hw d ((by decide +kernel : ∀ d ∈ StrChars.Road.wordsEq, d ∈ tables_1) d hd)) (kI := 4) (hw _ (List.mem_of_getElem? (i := 6) rfl)) P498_4 P498_5 P498_6 Vmm (own_cod hpm) (own_up hpm) (Nat.le_of_ble_eq_true rfl) F524 F525 F526 F527 (own_cod hp483) (own_up hp483) (Nat.le_of_ble_eq_true rfl) (SCompact.ext O522.2) hCS (by decide) (by decide)) q523a q523c (g := (mkF m 292 #[oI x1, oI x2, oI x3, oI x4, oI (2 : Int32), oI ch0, oI ch1, oI ch2, oR b347, oR b352, oR b430, oR b472, oR b508, oR b509] [(.ref b472), (.ref b509)])) rfl (by rw [hml]; rfl) (Steps.refl _) (argsL := [(.ref b472)]) (rest := []) (lenOf pd_25 rfl) rfl (by show 2 * 0 + _ ≤ _; exact Nat.le_of_eq rfl) (hb hby at_292) (fun _ _ => ⟨rfl, e521, (by decide : 17 + 0 ≤ _), (by decide : 3084 + 0 ≤ _)⟩)
    dsimp only [Pt.U, Pt.locs, Pt.cells, Pt.slots] at X523 l523 y523 z523 st523 hQ523
    subst l523 y523 z523
    obtain ⟨hcase523, rfl, e523⟩ := hQ523
    have hv523 : vv523 = some (.int (if (own_P ++ [(nar .char ch0), (nar .char ch1)] ++ own_Sf) = ([(108 : Int32), (111 : Int32), (99 : Int32), (107 : Int32), (32 : Int32), (39 : Int32), (nar .char ch0), (nar .char ch1), (39 : Int32), (58 : Int32), (32 : Int32), (105 : Int32), (116 : Int32), (115 : Int32), (32 : Int32), (77 : Int32), (111 : Int32), (114 : Int32), (116 : Int32), (105 : Int32), (115 : Int32), (101 : Int32), (76 : Int32), (111 : Int32), (99 : Int32), (107 : Int32), (32 : Int32), (105 : Int32), (115 : Int32), (32 : Int32), (99 : Int32), (108 : Int32), (111 : Int32), (115 : Int32), (101 : Int32), (100 : Int32)] : List Int32) then (1 : Int32) else (0 : Int32))) := by
      rcases hcase523 with ⟨q, r⟩ | ⟨q, r⟩
      · rw [q, if_pos r]
      · rw [q, if_neg r]
    subst hv523
    have N523 := Fr.app N521 (Fr.nil n0)
    refine Wp.tr (S' := T523.setTop (mkF m 295 #[oI x1, oI x2, oI x3, oI x4, oI (2 : Int32), oI ch0, oI ch1, oI ch2, oR b347, oR b352, oR b430, oR b472, oR b508, oR b509] [(.int (if (own_P ++ [(nar .char ch0), (nar .char ch1)] ++ own_Sf) = ([(108 : Int32), (111 : Int32), (99 : Int32), (107 : Int32), (32 : Int32), (39 : Int32), (nar .char ch0), (nar .char ch1), (39 : Int32), (58 : Int32), (32 : Int32), (105 : Int32), (116 : Int32), (115 : Int32), (32 : Int32), (77 : Int32), (111 : Int32), (114 : Int32), (116 : Int32), (105 : Int32), (115 : Int32), (101 : Int32), (76 : Int32), (111 : Int32), (99 : Int32), (107 : Int32), (32 : Int32), (105 : Int32), (115 : Int32), (32 : Int32), (99 : Int32), (108 : Int32), (111 : Int32), (115 : Int32), (101 : Int32), (100 : Int32)] : List Int32) then (1 : Int32) else (0 : Int32)))])) st523 ?_
    rw [(if_pos hlm : (if (own_P ++ [(nar .char ch0), (nar .char ch1)] ++ own_Sf) = ([(108 : Int32), (111 : Int32), (99 : Int32), (107 : Int32), (32 : Int32), (39 : Int32), (nar .char ch0), (nar .char ch1), (39 : Int32), (58 : Int32), (32 : Int32), (105 : Int32), (116 : Int32), (115 : Int32), (32 : Int32), (77 : Int32), (111 : Int32), (114 : Int32), (116 : Int32), (105 : Int32), (115 : Int32), (101 : Int32), (76 : Int32), (111 : Int32), (99 : Int32), (107 : Int32), (32 : Int32), (105 : Int32), (115 : Int32), (32 : Int32), (99 : Int32), (108 : Int32), (111 : Int32), (115 : Int32), (101 : Int32), (100 : Int32)] : List Int32) then (1 : Int32) else (0 : Int32)) = (1 : Int32))]
    refine Wp.st (S' := T523.setTop (mkF m 298 #[oI x1, oI x2, oI x3, oI x4, oI (2 : Int32), oI ch0, oI ch1, oI ch2, oR b347, oR b352, oR b430, oR b472, oR b508, oR b509] [])) (fun tt_ kk_ => XS.ifNo X523.here hx rfl (hb hby at_295) rfl ((if0 _ _).trans (feq ((by decide) : ¬ ((1 : Int32) = (0 : Int32)))).1) kk_) ?_
    refine Wp.st (S' := T523.setTop (mkF m 299 #[oI x1, oI x2, oI x3, oI x4, oI (2 : Int32), oI ch0, oI ch1, oI ch2, oR b347, oR b352, oR b430, oR b472, oR b508, oR b509] [(.int (1 : Int32))])) (fun tt_ kk_ => XS.iconst X523.here hx rfl (hb hby at_298) kk_) ?_
    refine Wp.st (S' := T523.setTop (mkF m 303 #[oI x1, oI x2, oI x3, oI x4, oI (2 : Int32), oI ch0, oI ch1, oI ch2, oR b347, oR b352, oR b430, oR b472, oR b508, oR b509] [(.int (1 : Int32))])) (fun tt_ kk_ => XS.goto X523.here hx rfl (pc0 := 299) (pc' := 303) rfl (hb hby at_299) (by decide) (by decide) kk_) ?_
    have K528 := Keep.refl h0 []
    have K529 := K528.ext E347
    have K530 := K529.ext E352
    have K531 := K530.wr W359 (Or.inr (Nat.le_trans (Nat.le_refl _) (Nat.le_of_eq g347.symm)))
    have K532 := K531.wr W365 (Or.inr (Nat.le_trans z348 (Nat.le_of_eq g352.symm)))
    have K533 := K532.wr W371 (Or.inr (Nat.le_trans (Nat.le_refl _) (Nat.le_of_eq g347.symm)))
    have K534 := K533.wr W377 (Or.inr (Nat.le_trans z348 (Nat.le_of_eq g352.symm)))
    have K535 := K534.wr W382 (Or.inr (Nat.le_trans z348 (Nat.le_of_eq g352.symm)))
    have K536 := K535.wr W387 (Or.inr (Nat.le_trans z348 (Nat.le_of_eq g352.symm)))
    have K537 := K536.wr W392 (Or.inr (Nat.le_trans z348 (Nat.le_of_eq g352.symm)))
    have K538 := K537.wr W397 (Or.inr (Nat.le_trans z348 (Nat.le_of_eq g352.symm)))
    have K539 := K538.wr W402 (Or.inr (Nat.le_trans z348 (Nat.le_of_eq g352.symm)))
    have K540 := K539.wr W407 (Or.inr (Nat.le_trans z348 (Nat.le_of_eq g352.symm)))
    have K541 := K540.trans K412 (allS (Or.inr (Nat.le_trans z348 (Nat.le_of_eq g352.symm))) all0)
    have K542 := K541.ext E430
    have K543 := K542.trans K439 (allS (Or.inr (Nat.le_trans (Nat.le_trans (Nat.le_trans (Nat.le_trans (Nat.le_trans (Nat.le_trans (Nat.le_trans (Nat.le_trans (Nat.le_trans (Nat.le_trans (Nat.le_trans (Nat.le_trans (Nat.le_trans z348 z353) z360) z366) z372) z378) z383) z388) z393) z398) z403) z408) z426) (Nat.le_of_eq g430.symm))) all0)
    have K544 := K543.ext E472
    have K545 := K544.trans K482 (allS (Or.inr (Nat.le_trans (Nat.le_trans (Nat.le_trans (Nat.le_trans (Nat.le_trans (Nat.le_trans (Nat.le_trans (Nat.le_trans (Nat.le_trans (Nat.le_trans (Nat.le_trans (Nat.le_trans (Nat.le_trans (Nat.le_trans (Nat.le_trans z348 z353) z360) z366) z372) z378) z383) z388) z393) z398) z403) z408) z426) z431) z466) (Nat.le_of_eq g472.symm))) all0)
    have K546 := K545.trans K498 all0
    exact Wp.retW X523 hlk hS498 (by rw [e523]; exact (Nat.le_refl _)) (v := (some (.int (1 : Int32)))) (fun h => by rw [Bd.returns] at h; cases h) (fun fs hr => retN (z := (1 : Int32)) X523 hx (t := .boolean) Bd.returns (by simp) (hb hby at_303) hr) (by decide) (by decide) (show Q_rm0 Z x1 x2 x3 x4 zcs vu vs h0 n0 _ T523.heap _ by rw [e523]; exact ⟨rfl, N523, K546⟩)
  · have _u := True.intro
    refine Wp.st (S' := s₁.setTop (mkF m 31 #[oI x1, oI x2, oI x3, oI x4, oI (3 : Int32), oI ch0, oI ch1, oI ch2, oU, oU, oU, oU, oU, oU] [(.int (3 : Int32))])) (fun tt_ kk_ => XS.iload X0.here hx rfl (hb hby at_29) rfl  kk_) ?_
    refine Wp.st (S' := s₁.setTop (mkF m 40 #[oI x1, oI x2, oI x3, oI x4, oI (3 : Int32), oI ch0, oI ch1, oI ch2, oU, oU, oU, oU, oU, oU] [])) (fun tt_ kk_ => XS.ifYes X0.here hx rfl (pc0 := 31) (pc' := 40) rfl (hb hby at_31) rfl ((if0 _ _).trans (feq ((by decide) : ¬ ((3 : Int32) = (0 : Int32)))).2) (by decide) (by decide) kk_) ?_
    refine Wp.st (S' := s₁.setTop (mkF m 42 #[oI x1, oI x2, oI x3, oI x4, oI (3 : Int32), oI ch0, oI ch1, oI ch2, oU, oU, oU, oU, oU, oU] [(.int (3 : Int32))])) (fun tt_ kk_ => XS.iload X0.here hx rfl (hb hby at_40) rfl  kk_) ?_
    refine Wp.st (S' := s₁.setTop (mkF m 43 #[oI x1, oI x2, oI x3, oI x4, oI (3 : Int32), oI ch0, oI ch1, oI ch2, oU, oU, oU, oU, oU, oU] [(.int (1 : Int32)), (.int (3 : Int32))])) (fun tt_ kk_ => XS.iconst X0.here hx rfl (hb hby at_42) kk_) ?_
    refine Wp.st (S' := s₁.setTop (mkF m 52 #[oI x1, oI x2, oI x3, oI x4, oI (3 : Int32), oI ch0, oI ch1, oI ch2, oU, oU, oU, oU, oU, oU] [])) (fun tt_ kk_ => XS.icmpYes X0.here hx rfl (pc0 := 43) (pc' := 52) rfl (hb hby at_43) rfl (feq ((by decide) : ¬ ((3 : Int32) = (1 : Int32)))).2 (by decide) (by decide) kk_) ?_
    refine Wp.st (S' := s₁.setTop (mkF m 54 #[oI x1, oI x2, oI x3, oI x4, oI (3 : Int32), oI ch0, oI ch1, oI ch2, oU, oU, oU, oU, oU, oU] [(.int (3 : Int32))])) (fun tt_ kk_ => XS.iload X0.here hx rfl (hb hby at_52) rfl  kk_) ?_
    refine Wp.st (S' := s₁.setTop (mkF m 55 #[oI x1, oI x2, oI x3, oI x4, oI (3 : Int32), oI ch0, oI ch1, oI ch2, oU, oU, oU, oU, oU, oU] [(.int (2 : Int32)), (.int (3 : Int32))])) (fun tt_ kk_ => XS.iconst X0.here hx rfl (hb hby at_54) kk_) ?_
    refine Wp.st (S' := s₁.setTop (mkF m 64 #[oI x1, oI x2, oI x3, oI x4, oI (3 : Int32), oI ch0, oI ch1, oI ch2, oU, oU, oU, oU, oU, oU] [])) (fun tt_ kk_ => XS.icmpYes X0.here hx rfl (pc0 := 55) (pc' := 64) rfl (hb hby at_55) rfl (feq ((by decide) : ¬ ((3 : Int32) = (2 : Int32)))).2 (by decide) (by decide) kk_) ?_
    refine Wp.st (S' := s₁.setTop (mkF m 65 #[oI x1, oI x2, oI x3, oI x4, oI (3 : Int32), oI ch0, oI ch1, oI ch2, oU, oU, oU, oU, oU, oU] [(.int (3 : Int32))])) (fun tt_ kk_ => XS.iconst X0.here hx rfl (hb hby at_64) kk_) ?_
    obtain ⟨T547, h547, k547, X547, e547, E547, A547, st547⟩ := newP X0 hx hZ (hw _ (List.mem_of_getElem? (i := 0) rfl)) e0 (g := (mkF m 65 #[oI x1, oI x2, oI x3, oI x4, oI (3 : Int32), oI ch0, oI ch1, oI ch2, oU, oU, oU, oU, oU, oU] [(.int (3 : Int32))])) rfl (hb hby at_65) rfl (by decide) (cap := 3) (by decide) (by decide) (by decide) (by decide)
    obtain ⟨b547, g547⟩ : ∃ z, z = h0.size := ⟨_, rfl⟩
    rw [← g547] at A547 st547
    have z548 := E547.1
    have CC549 := CC0.trans (CHr.ext E547 CC0.1)
    have V547 : Arv Z h547 b547 k547 .char (3 : Int32) [(.int (0 : Int32)), (.int (0 : Int32)), (.int (0 : Int32))] (.int (0 : Int32)) := (Arv.new A547 (by decide)).pad (pad_rep [] (.int (0 : Int32)) 3)
    have g550 : n0 ≤ b547 := Nat.le_trans (Nat.le_trans Z0 (Nat.le_refl _)) (Nat.le_of_eq g547.symm)
    have Sf551 := Safe.ext E547 CC0.1 (Safe.new (x := b547) (Nat.le_of_eq g547.symm))
    refine Wp.st (S' := T547.setTop (mkF m 67 #[oI x1, oI x2, oI x3, oI x4, oI (3 : Int32), oI ch0, oI ch1, oI ch2, oU, oU, oU, oU, oU, oU] [(.ref b547)])) st547 ?_
    refine Wp.st (S' := T547.setTop (mkF m 69 #[oI x1, oI x2, oI x3, oI x4, oI (3 : Int32), oI ch0, oI ch1, oI ch2, oR b547, oU, oU, oU, oU, oU] [])) (fun tt_ kk_ => XS.astore X547.here hx rfl (hb hby at_67) rfl rfl (l' := #[oI x1, oI x2, oI x3, oI x4, oI (3 : Int32), oI ch0, oI ch1, oI ch2, oR b547, oU, oU, oU, oU, oU]) rfl kk_) ?_
    refine Wp.st (S' := T547.setTop (mkF m 71 #[oI x1, oI x2, oI x3, oI x4, oI (3 : Int32), oI ch0, oI ch1, oI ch2, oR b547, oU, oU, oU, oU, oU] [(.int (3 : Int32))])) (fun tt_ kk_ => XS.iload X547.here hx rfl (hb hby at_69) rfl  kk_) ?_
    refine Wp.st (S' := T547.setTop (mkF m 81 #[oI x1, oI x2, oI x3, oI x4, oI (3 : Int32), oI ch0, oI ch1, oI ch2, oR b547, oU, oU, oU, oU, oU] [])) (fun tt_ kk_ => XS.ifYes X547.here hx rfl (pc0 := 71) (pc' := 81) rfl (hb hby at_71) rfl ((if0 _ _).trans (feq ((by decide) : ¬ ((3 : Int32) = (0 : Int32)))).2) (by decide) (by decide) kk_) ?_
    refine Wp.st (S' := T547.setTop (mkF m 83 #[oI x1, oI x2, oI x3, oI x4, oI (3 : Int32), oI ch0, oI ch1, oI ch2, oR b547, oU, oU, oU, oU, oU] [(.int (3 : Int32))])) (fun tt_ kk_ => XS.iload X547.here hx rfl (hb hby at_81) rfl  kk_) ?_
    refine Wp.st (S' := T547.setTop (mkF m 84 #[oI x1, oI x2, oI x3, oI x4, oI (3 : Int32), oI ch0, oI ch1, oI ch2, oR b547, oU, oU, oU, oU, oU] [(.int (1 : Int32)), (.int (3 : Int32))])) (fun tt_ kk_ => XS.iconst X547.here hx rfl (hb hby at_83) kk_) ?_
    refine Wp.st (S' := T547.setTop (mkF m 94 #[oI x1, oI x2, oI x3, oI x4, oI (3 : Int32), oI ch0, oI ch1, oI ch2, oR b547, oU, oU, oU, oU, oU] [])) (fun tt_ kk_ => XS.icmpYes X547.here hx rfl (pc0 := 84) (pc' := 94) rfl (hb hby at_84) rfl (feq ((by decide) : ¬ ((3 : Int32) = (1 : Int32)))).2 (by decide) (by decide) kk_) ?_
    refine Wp.st (S' := T547.setTop (mkF m 96 #[oI x1, oI x2, oI x3, oI x4, oI (3 : Int32), oI ch0, oI ch1, oI ch2, oR b547, oU, oU, oU, oU, oU] [(.int (3 : Int32))])) (fun tt_ kk_ => XS.iload X547.here hx rfl (hb hby at_94) rfl  kk_) ?_
    refine Wp.st (S' := T547.setTop (mkF m 97 #[oI x1, oI x2, oI x3, oI x4, oI (3 : Int32), oI ch0, oI ch1, oI ch2, oR b547, oU, oU, oU, oU, oU] [(.int (2 : Int32)), (.int (3 : Int32))])) (fun tt_ kk_ => XS.iconst X547.here hx rfl (hb hby at_96) kk_) ?_
    refine Wp.st (S' := T547.setTop (mkF m 107 #[oI x1, oI x2, oI x3, oI x4, oI (3 : Int32), oI ch0, oI ch1, oI ch2, oR b547, oU, oU, oU, oU, oU] [])) (fun tt_ kk_ => XS.icmpYes X547.here hx rfl (pc0 := 97) (pc' := 107) rfl (hb hby at_97) rfl (feq ((by decide) : ¬ ((3 : Int32) = (2 : Int32)))).2 (by decide) (by decide) kk_) ?_
    refine Wp.st (S' := T547.setTop (mkF m 109 #[oI x1, oI x2, oI x3, oI x4, oI (3 : Int32), oI ch0, oI ch1, oI ch2, oR b547, oU, oU, oU, oU, oU] [(.int (37 : Int32))])) (fun tt_ kk_ => XS.bipush X547.here hx rfl (hb hby at_107) kk_) ?_
    obtain ⟨T552, h552, k552, X552, e552, E552, A552, st552⟩ := newP X547 hx hZ (hw _ (List.mem_of_getElem? (i := 0) rfl)) e547 (g := (mkF m 109 #[oI x1, oI x2, oI x3, oI x4, oI (3 : Int32), oI ch0, oI ch1, oI ch2, oR b547, oU, oU, oU, oU, oU] [(.int (37 : Int32))])) rfl (hb hby at_109) rfl (by decide) (cap := 37) (by decide) (by decide) (by decide) (by decide)
    obtain ⟨b552, g552⟩ : ∃ z, z = h547.size := ⟨_, rfl⟩
    rw [← g552] at A552 st552
    have z553 := E552.1
    have Sf554 := Safe.ext E552 CC549.1 Sf551
    have CC555 := CC549.trans (CHr.ext E552 CC549.1)
    have V552 : Arv Z h552 b552 k552 .char (37 : Int32) [(.int (0 : Int32)), (.int (0 : Int32)), (.int (0 : Int32)), (.int (0 : Int32)), (.int (0 : Int32)), (.int (0 : Int32)), (.int (0 : Int32)), (.int (0 : Int32)), (.int (0 : Int32)), (.int (0 : Int32)), (.int (0 : Int32)), (.int (0 : Int32)), (.int (0 : Int32)), (.int (0 : Int32)), (.int (0 : Int32)), (.int (0 : Int32)), (.int (0 : Int32)), (.int (0 : Int32)), (.int (0 : Int32)), (.int (0 : Int32)), (.int (0 : Int32)), (.int (0 : Int32)), (.int (0 : Int32)), (.int (0 : Int32)), (.int (0 : Int32)), (.int (0 : Int32)), (.int (0 : Int32)), (.int (0 : Int32)), (.int (0 : Int32)), (.int (0 : Int32)), (.int (0 : Int32)), (.int (0 : Int32)), (.int (0 : Int32)), (.int (0 : Int32)), (.int (0 : Int32)), (.int (0 : Int32)), (.int (0 : Int32))] (.int (0 : Int32)) := (Arv.new A552 (by decide)).pad (pad_rep [] (.int (0 : Int32)) 37)
    have g556 : n0 ≤ b552 := Nat.le_trans (Nat.le_trans Z0 z548) (Nat.le_of_eq g552.symm)
    have Sf557 := Safe.ext E552 CC549.1 (Safe.new (x := b552) (Nat.le_of_eq g552.symm))
    refine Wp.st (S' := T552.setTop (mkF m 111 #[oI x1, oI x2, oI x3, oI x4, oI (3 : Int32), oI ch0, oI ch1, oI ch2, oR b547, oU, oU, oU, oU, oU] [(.ref b552)])) st552 ?_
    refine Wp.st (S' := T552.setTop (mkF m 113 #[oI x1, oI x2, oI x3, oI x4, oI (3 : Int32), oI ch0, oI ch1, oI ch2, oR b547, oR b552, oU, oU, oU, oU] [])) (fun tt_ kk_ => XS.astore X552.here hx rfl (hb hby at_111) rfl rfl (l' := #[oI x1, oI x2, oI x3, oI x4, oI (3 : Int32), oI ch0, oI ch1, oI ch2, oR b547, oR b552, oU, oU, oU, oU]) rfl kk_) ?_
    refine Wp.st (S' := T552.setTop (mkF m 115 #[oI x1, oI x2, oI x3, oI x4, oI (3 : Int32), oI ch0, oI ch1, oI ch2, oR b547, oR b552, oU, oU, oU, oU] [(.int (3 : Int32))])) (fun tt_ kk_ => XS.iload X552.here hx rfl (hb hby at_113) rfl  kk_) ?_
    refine Wp.st (S' := T552.setTop (mkF m 118 #[oI x1, oI x2, oI x3, oI x4, oI (3 : Int32), oI ch0, oI ch1, oI ch2, oR b547, oR b552, oU, oU, oU, oU] [])) (fun tt_ kk_ => XS.ifNo X552.here hx rfl (hb hby at_115) rfl ((if0 _ _).trans (tlt ((by decide) : (0 : Int32) < (3 : Int32))).2.2.2) kk_) ?_
    refine Wp.st (S' := T552.setTop (mkF m 120 #[oI x1, oI x2, oI x3, oI x4, oI (3 : Int32), oI ch0, oI ch1, oI ch2, oR b547, oR b552, oU, oU, oU, oU] [(.ref b547)])) (fun tt_ kk_ => XS.aload X552.here hx rfl (hb hby at_118) rfl rfl kk_) ?_
    refine Wp.st (S' := T552.setTop (mkF m 121 #[oI x1, oI x2, oI x3, oI x4, oI (3 : Int32), oI ch0, oI ch1, oI ch2, oR b547, oR b552, oU, oU, oU, oU] [(.int (0 : Int32)), (.ref b547)])) (fun tt_ kk_ => XS.iconst X552.here hx rfl (hb hby at_120) kk_) ?_
    refine Wp.st (S' := T552.setTop (mkF m 123 #[oI x1, oI x2, oI x3, oI x4, oI (3 : Int32), oI ch0, oI ch1, oI ch2, oR b547, oR b552, oU, oU, oU, oU] [(.int ch0), (.int (0 : Int32)), (.ref b547)])) (fun tt_ kk_ => XS.iload X552.here hx rfl (hb hby at_121) rfl  kk_) ?_
    have F558 := V547.ext E552
    obtain ⟨cl559, Ar559, q559, S559, N559, H559, G559⟩ := id F558
    have hin559 := inb_of (j := (0 : Int32)) S559 ⟨by decide, by decide⟩
    obtain ⟨T559, h559, X559, e559, W559, st559⟩ := stC X552 hx hZ e552 Ar559 (j := (0 : Int32)) hin559 (g := (mkF m 123 #[oI x1, oI x2, oI x3, oI x4, oI (3 : Int32), oI ch0, oI ch1, oI ch2, oR b547, oR b552, oU, oU, oU, oU] [(.int ch0), (.int (0 : Int32)), (.ref b547)])) rfl rfl (hb hby at_123)
    have z560 := Nat.le_of_eq W559.size.symm
    have Sf561 := Safe.wr W559 (Safe.arv hZ.alike F558 (by decide)) CC555.1 Sf554
    have Sf562 := Safe.wr W559 (Safe.arv hZ.alike F558 (by decide)) CC555.1 Sf557
    have CC563 := CC555.trans (CHr.wr W559 (Safe.arv hZ.alike F558 (by decide)) CC555.1)
    have V559 : Arv Z h559 b547 k547 .char (3 : Int32) [(.int (nar .char ch0)), (.int (0 : Int32)), (.int (0 : Int32))] (.int (0 : Int32)) := Arv.set Ar559 q559 S559 N559 H559 G559 (fits_nar_char _) W559 0 rfl (Nat.le_of_ble_eq_true rfl)
    have Nf559 := Fr.snoc X559 N0 g550
    refine Wp.st (S' := T559.setTop (mkF m 124 #[oI x1, oI x2, oI x3, oI x4, oI (3 : Int32), oI ch0, oI ch1, oI ch2, oR b547, oR b552, oU, oU, oU, oU] [])) st559 ?_
    refine Wp.st (S' := T559.setTop (mkF m 126 #[oI x1, oI x2, oI x3, oI x4, oI (3 : Int32), oI ch0, oI ch1, oI ch2, oR b547, oR b552, oU, oU, oU, oU] [(.ref b552)])) (fun tt_ kk_ => XS.aload X559.here hx rfl (hb hby at_124) rfl rfl kk_) ?_
    refine Wp.st (S' := T559.setTop (mkF m 128 #[oI x1, oI x2, oI x3, oI x4, oI (3 : Int32), oI ch0, oI ch1, oI ch2, oR b547, oR b552, oU, oU, oU, oU] [(.int (6 : Int32)), (.ref b552)])) (fun tt_ kk_ => XS.bipush X559.here hx rfl (hb hby at_126) kk_) ?_
    refine Wp.st (S' := T559.setTop (mkF m 130 #[oI x1, oI x2, oI x3, oI x4, oI (3 : Int32), oI ch0, oI ch1, oI ch2, oR b547, oR b552, oU, oU, oU, oU] [(.int ch0), (.int (6 : Int32)), (.ref b552)])) (fun tt_ kk_ => XS.iload X559.here hx rfl (hb hby at_128) rfl  kk_) ?_
    have F564 := V552.other W559 (Ne.symm (Nat.ne_of_lt (Nat.lt_of_lt_of_le V547.lt (Nat.le_trans (Nat.le_refl _) (Nat.le_of_eq g552.symm)))))
    obtain ⟨cl565, Ar565, q565, S565, N565, H565, G565⟩ := id F564
    have hin565 := inb_of (j := (6 : Int32)) S565 ⟨by decide, by decide⟩
    obtain ⟨T565, h565, X565, e565, W565, st565⟩ := stC X559 hx hZ e559 Ar565 (j := (6 : Int32)) hin565 (g := (mkF m 130 #[oI x1, oI x2, oI x3, oI x4, oI (3 : Int32), oI ch0, oI ch1, oI ch2, oR b547, oR b552, oU, oU, oU, oU] [(.int ch0), (.int (6 : Int32)), (.ref b552)])) rfl rfl (hb hby at_130)
    have z566 := Nat.le_of_eq W565.size.symm
    have Sf567 := Safe.wr W565 (Safe.arv hZ.alike F564 (by decide)) CC563.1 Sf561
    have Sf568 := Safe.wr W565 (Safe.arv hZ.alike F564 (by decide)) CC563.1 Sf562
    have CC569 := CC563.trans (CHr.wr W565 (Safe.arv hZ.alike F564 (by decide)) CC563.1)
    have V565 : Arv Z h565 b552 k552 .char (37 : Int32) [(.int (0 : Int32)), (.int (0 : Int32)), (.int (0 : Int32)), (.int (0 : Int32)), (.int (0 : Int32)), (.int (0 : Int32)), (.int (nar .char ch0)), (.int (0 : Int32)), (.int (0 : Int32)), (.int (0 : Int32)), (.int (0 : Int32)), (.int (0 : Int32)), (.int (0 : Int32)), (.int (0 : Int32)), (.int (0 : Int32)), (.int (0 : Int32)), (.int (0 : Int32)), (.int (0 : Int32)), (.int (0 : Int32)), (.int (0 : Int32)), (.int (0 : Int32)), (.int (0 : Int32)), (.int (0 : Int32)), (.int (0 : Int32)), (.int (0 : Int32)), (.int (0 : Int32)), (.int (0 : Int32)), (.int (0 : Int32)), (.int (0 : Int32)), (.int (0 : Int32)), (.int (0 : Int32)), (.int (0 : Int32)), (.int (0 : Int32)), (.int (0 : Int32)), (.int (0 : Int32)), (.int (0 : Int32)), (.int (0 : Int32))] (.int (0 : Int32)) := Arv.set Ar565 q565 S565 N565 H565 G565 (fits_nar_char _) W565 6 rfl (Nat.le_of_ble_eq_true rfl)
    have Nf565 := Fr.snoc X565 Nf559 g556
    refine Wp.st (S' := T565.setTop (mkF m 131 #[oI x1, oI x2, oI x3, oI x4, oI (3 : Int32), oI ch0, oI ch1, oI ch2, oR b547, oR b552, oU, oU, oU, oU] [])) st565 ?_
    refine Wp.st (S' := T565.setTop (mkF m 133 #[oI x1, oI x2, oI x3, oI x4, oI (3 : Int32), oI ch0, oI ch1, oI ch2, oR b547, oR b552, oU, oU, oU, oU] [(.int (3 : Int32))])) (fun tt_ kk_ => XS.iload X565.here hx rfl (hb hby at_131) rfl  kk_) ?_
    refine Wp.st (S' := T565.setTop (mkF m 134 #[oI x1, oI x2, oI x3, oI x4, oI (3 : Int32), oI ch0, oI ch1, oI ch2, oR b547, oR b552, oU, oU, oU, oU] [(.int (1 : Int32)), (.int (3 : Int32))])) (fun tt_ kk_ => XS.iconst X565.here hx rfl (hb hby at_133) kk_) ?_
    refine Wp.st (S' := T565.setTop (mkF m 137 #[oI x1, oI x2, oI x3, oI x4, oI (3 : Int32), oI ch0, oI ch1, oI ch2, oR b547, oR b552, oU, oU, oU, oU] [])) (fun tt_ kk_ => XS.icmpNo X565.here hx rfl (hb hby at_134) rfl (tlt ((by decide) : (1 : Int32) < (3 : Int32))).2.2.2 kk_) ?_
    refine Wp.st (S' := T565.setTop (mkF m 139 #[oI x1, oI x2, oI x3, oI x4, oI (3 : Int32), oI ch0, oI ch1, oI ch2, oR b547, oR b552, oU, oU, oU, oU] [(.ref b547)])) (fun tt_ kk_ => XS.aload X565.here hx rfl (hb hby at_137) rfl rfl kk_) ?_
    refine Wp.st (S' := T565.setTop (mkF m 140 #[oI x1, oI x2, oI x3, oI x4, oI (3 : Int32), oI ch0, oI ch1, oI ch2, oR b547, oR b552, oU, oU, oU, oU] [(.int (1 : Int32)), (.ref b547)])) (fun tt_ kk_ => XS.iconst X565.here hx rfl (hb hby at_139) kk_) ?_
    refine Wp.st (S' := T565.setTop (mkF m 142 #[oI x1, oI x2, oI x3, oI x4, oI (3 : Int32), oI ch0, oI ch1, oI ch2, oR b547, oR b552, oU, oU, oU, oU] [(.int ch1), (.int (1 : Int32)), (.ref b547)])) (fun tt_ kk_ => XS.iload X565.here hx rfl (hb hby at_140) rfl  kk_) ?_
    have F570 := V559.other W565 (Nat.ne_of_lt (Nat.lt_of_lt_of_le V547.lt (Nat.le_trans (Nat.le_refl _) (Nat.le_of_eq g552.symm))))
    obtain ⟨cl571, Ar571, q571, S571, N571, H571, G571⟩ := id F570
    have hin571 := inb_of (j := (1 : Int32)) S571 ⟨by decide, by decide⟩
    obtain ⟨T571, h571, X571, e571, W571, st571⟩ := stC X565 hx hZ e565 Ar571 (j := (1 : Int32)) hin571 (g := (mkF m 142 #[oI x1, oI x2, oI x3, oI x4, oI (3 : Int32), oI ch0, oI ch1, oI ch2, oR b547, oR b552, oU, oU, oU, oU] [(.int ch1), (.int (1 : Int32)), (.ref b547)])) rfl rfl (hb hby at_142)
    have z572 := Nat.le_of_eq W571.size.symm
    have Sf573 := Safe.wr W571 (Safe.arv hZ.alike F570 (by decide)) CC569.1 Sf567
    have Sf574 := Safe.wr W571 (Safe.arv hZ.alike F570 (by decide)) CC569.1 Sf568
    have CC575 := CC569.trans (CHr.wr W571 (Safe.arv hZ.alike F570 (by decide)) CC569.1)
    have V571 : Arv Z h571 b547 k547 .char (3 : Int32) [(.int (nar .char ch0)), (.int (nar .char ch1)), (.int (0 : Int32))] (.int (0 : Int32)) := Arv.set Ar571 q571 S571 N571 H571 G571 (fits_nar_char _) W571 1 rfl (Nat.le_of_ble_eq_true rfl)
    have Nf571 := Fr.snoc X571 Nf565 g550
    refine Wp.st (S' := T571.setTop (mkF m 143 #[oI x1, oI x2, oI x3, oI x4, oI (3 : Int32), oI ch0, oI ch1, oI ch2, oR b547, oR b552, oU, oU, oU, oU] [])) st571 ?_
    refine Wp.st (S' := T571.setTop (mkF m 145 #[oI x1, oI x2, oI x3, oI x4, oI (3 : Int32), oI ch0, oI ch1, oI ch2, oR b547, oR b552, oU, oU, oU, oU] [(.ref b552)])) (fun tt_ kk_ => XS.aload X571.here hx rfl (hb hby at_143) rfl rfl kk_) ?_
    refine Wp.st (S' := T571.setTop (mkF m 147 #[oI x1, oI x2, oI x3, oI x4, oI (3 : Int32), oI ch0, oI ch1, oI ch2, oR b547, oR b552, oU, oU, oU, oU] [(.int (7 : Int32)), (.ref b552)])) (fun tt_ kk_ => XS.bipush X571.here hx rfl (hb hby at_145) kk_) ?_
    refine Wp.st (S' := T571.setTop (mkF m 149 #[oI x1, oI x2, oI x3, oI x4, oI (3 : Int32), oI ch0, oI ch1, oI ch2, oR b547, oR b552, oU, oU, oU, oU] [(.int ch1), (.int (7 : Int32)), (.ref b552)])) (fun tt_ kk_ => XS.iload X571.here hx rfl (hb hby at_147) rfl  kk_) ?_
    have F576 := V565.other W571 (Ne.symm (Nat.ne_of_lt (Nat.lt_of_lt_of_le V547.lt (Nat.le_trans (Nat.le_refl _) (Nat.le_of_eq g552.symm)))))
    obtain ⟨cl577, Ar577, q577, S577, N577, H577, G577⟩ := id F576
    have hin577 := inb_of (j := (7 : Int32)) S577 ⟨by decide, by decide⟩
    obtain ⟨T577, h577, X577, e577, W577, st577⟩ := stC X571 hx hZ e571 Ar577 (j := (7 : Int32)) hin577 (g := (mkF m 149 #[oI x1, oI x2, oI x3, oI x4, oI (3 : Int32), oI ch0, oI ch1, oI ch2, oR b547, oR b552, oU, oU, oU, oU] [(.int ch1), (.int (7 : Int32)), (.ref b552)])) rfl rfl (hb hby at_149)
    have z578 := Nat.le_of_eq W577.size.symm
    have Sf579 := Safe.wr W577 (Safe.arv hZ.alike F576 (by decide)) CC575.1 Sf573
    have Sf580 := Safe.wr W577 (Safe.arv hZ.alike F576 (by decide)) CC575.1 Sf574
    have CC581 := CC575.trans (CHr.wr W577 (Safe.arv hZ.alike F576 (by decide)) CC575.1)
    have V577 : Arv Z h577 b552 k552 .char (37 : Int32) [(.int (0 : Int32)), (.int (0 : Int32)), (.int (0 : Int32)), (.int (0 : Int32)), (.int (0 : Int32)), (.int (0 : Int32)), (.int (nar .char ch0)), (.int (nar .char ch1)), (.int (0 : Int32)), (.int (0 : Int32)), (.int (0 : Int32)), (.int (0 : Int32)), (.int (0 : Int32)), (.int (0 : Int32)), (.int (0 : Int32)), (.int (0 : Int32)), (.int (0 : Int32)), (.int (0 : Int32)), (.int (0 : Int32)), (.int (0 : Int32)), (.int (0 : Int32)), (.int (0 : Int32)), (.int (0 : Int32)), (.int (0 : Int32)), (.int (0 : Int32)), (.int (0 : Int32)), (.int (0 : Int32)), (.int (0 : Int32)), (.int (0 : Int32)), (.int (0 : Int32)), (.int (0 : Int32)), (.int (0 : Int32)), (.int (0 : Int32)), (.int (0 : Int32)), (.int (0 : Int32)), (.int (0 : Int32)), (.int (0 : Int32))] (.int (0 : Int32)) := Arv.set Ar577 q577 S577 N577 H577 G577 (fits_nar_char _) W577 7 rfl (Nat.le_of_ble_eq_true rfl)
    have Nf577 := Fr.snoc X577 Nf571 g556
    refine Wp.st (S' := T577.setTop (mkF m 150 #[oI x1, oI x2, oI x3, oI x4, oI (3 : Int32), oI ch0, oI ch1, oI ch2, oR b547, oR b552, oU, oU, oU, oU] [])) st577 ?_
    refine Wp.st (S' := T577.setTop (mkF m 152 #[oI x1, oI x2, oI x3, oI x4, oI (3 : Int32), oI ch0, oI ch1, oI ch2, oR b547, oR b552, oU, oU, oU, oU] [(.int (3 : Int32))])) (fun tt_ kk_ => XS.iload X577.here hx rfl (hb hby at_150) rfl  kk_) ?_
    refine Wp.st (S' := T577.setTop (mkF m 153 #[oI x1, oI x2, oI x3, oI x4, oI (3 : Int32), oI ch0, oI ch1, oI ch2, oR b547, oR b552, oU, oU, oU, oU] [(.int (2 : Int32)), (.int (3 : Int32))])) (fun tt_ kk_ => XS.iconst X577.here hx rfl (hb hby at_152) kk_) ?_
    refine Wp.st (S' := T577.setTop (mkF m 156 #[oI x1, oI x2, oI x3, oI x4, oI (3 : Int32), oI ch0, oI ch1, oI ch2, oR b547, oR b552, oU, oU, oU, oU] [])) (fun tt_ kk_ => XS.icmpNo X577.here hx rfl (hb hby at_153) rfl (tlt ((by decide) : (2 : Int32) < (3 : Int32))).2.2.2 kk_) ?_
    refine Wp.st (S' := T577.setTop (mkF m 158 #[oI x1, oI x2, oI x3, oI x4, oI (3 : Int32), oI ch0, oI ch1, oI ch2, oR b547, oR b552, oU, oU, oU, oU] [(.ref b547)])) (fun tt_ kk_ => XS.aload X577.here hx rfl (hb hby at_156) rfl rfl kk_) ?_
    refine Wp.st (S' := T577.setTop (mkF m 159 #[oI x1, oI x2, oI x3, oI x4, oI (3 : Int32), oI ch0, oI ch1, oI ch2, oR b547, oR b552, oU, oU, oU, oU] [(.int (2 : Int32)), (.ref b547)])) (fun tt_ kk_ => XS.iconst X577.here hx rfl (hb hby at_158) kk_) ?_
    refine Wp.st (S' := T577.setTop (mkF m 161 #[oI x1, oI x2, oI x3, oI x4, oI (3 : Int32), oI ch0, oI ch1, oI ch2, oR b547, oR b552, oU, oU, oU, oU] [(.int ch2), (.int (2 : Int32)), (.ref b547)])) (fun tt_ kk_ => XS.iload X577.here hx rfl (hb hby at_159) rfl  kk_) ?_
    have F582 := V571.other W577 (Nat.ne_of_lt (Nat.lt_of_lt_of_le V547.lt (Nat.le_trans (Nat.le_refl _) (Nat.le_of_eq g552.symm))))
    obtain ⟨cl583, Ar583, q583, S583, N583, H583, G583⟩ := id F582
    have hin583 := inb_of (j := (2 : Int32)) S583 ⟨by decide, by decide⟩
    obtain ⟨T583, h583, X583, e583, W583, st583⟩ := stC X577 hx hZ e577 Ar583 (j := (2 : Int32)) hin583 (g := (mkF m 161 #[oI x1, oI x2, oI x3, oI x4, oI (3 : Int32), oI ch0, oI ch1, oI ch2, oR b547, oR b552, oU, oU, oU, oU] [(.int ch2), (.int (2 : Int32)), (.ref b547)])) rfl rfl (hb hby at_161)
    have z584 := Nat.le_of_eq W583.size.symm
    have Sf585 := Safe.wr W583 (Safe.arv hZ.alike F582 (by decide)) CC581.1 Sf579
    have Sf586 := Safe.wr W583 (Safe.arv hZ.alike F582 (by decide)) CC581.1 Sf580
    have CC587 := CC581.trans (CHr.wr W583 (Safe.arv hZ.alike F582 (by decide)) CC581.1)
    have V583 : Arv Z h583 b547 k547 .char (3 : Int32) [(.int (nar .char ch0)), (.int (nar .char ch1)), (.int (nar .char ch2))] (.int (0 : Int32)) := Arv.set Ar583 q583 S583 N583 H583 G583 (fits_nar_char _) W583 2 rfl (Nat.le_of_ble_eq_true rfl)
    have Nf583 := Fr.snoc X583 Nf577 g550
    refine Wp.st (S' := T583.setTop (mkF m 162 #[oI x1, oI x2, oI x3, oI x4, oI (3 : Int32), oI ch0, oI ch1, oI ch2, oR b547, oR b552, oU, oU, oU, oU] [])) st583 ?_
    refine Wp.st (S' := T583.setTop (mkF m 164 #[oI x1, oI x2, oI x3, oI x4, oI (3 : Int32), oI ch0, oI ch1, oI ch2, oR b547, oR b552, oU, oU, oU, oU] [(.ref b552)])) (fun tt_ kk_ => XS.aload X583.here hx rfl (hb hby at_162) rfl rfl kk_) ?_
    refine Wp.st (S' := T583.setTop (mkF m 166 #[oI x1, oI x2, oI x3, oI x4, oI (3 : Int32), oI ch0, oI ch1, oI ch2, oR b547, oR b552, oU, oU, oU, oU] [(.int (8 : Int32)), (.ref b552)])) (fun tt_ kk_ => XS.bipush X583.here hx rfl (hb hby at_164) kk_) ?_
    refine Wp.st (S' := T583.setTop (mkF m 168 #[oI x1, oI x2, oI x3, oI x4, oI (3 : Int32), oI ch0, oI ch1, oI ch2, oR b547, oR b552, oU, oU, oU, oU] [(.int ch2), (.int (8 : Int32)), (.ref b552)])) (fun tt_ kk_ => XS.iload X583.here hx rfl (hb hby at_166) rfl  kk_) ?_
    have F588 := V577.other W583 (Ne.symm (Nat.ne_of_lt (Nat.lt_of_lt_of_le V547.lt (Nat.le_trans (Nat.le_refl _) (Nat.le_of_eq g552.symm)))))
    obtain ⟨cl589, Ar589, q589, S589, N589, H589, G589⟩ := id F588
    have hin589 := inb_of (j := (8 : Int32)) S589 ⟨by decide, by decide⟩
    obtain ⟨T589, h589, X589, e589, W589, st589⟩ := stC X583 hx hZ e583 Ar589 (j := (8 : Int32)) hin589 (g := (mkF m 168 #[oI x1, oI x2, oI x3, oI x4, oI (3 : Int32), oI ch0, oI ch1, oI ch2, oR b547, oR b552, oU, oU, oU, oU] [(.int ch2), (.int (8 : Int32)), (.ref b552)])) rfl rfl (hb hby at_168)
    have z590 := Nat.le_of_eq W589.size.symm
    have Sf591 := Safe.wr W589 (Safe.arv hZ.alike F588 (by decide)) CC587.1 Sf585
    have Sf592 := Safe.wr W589 (Safe.arv hZ.alike F588 (by decide)) CC587.1 Sf586
    have CC593 := CC587.trans (CHr.wr W589 (Safe.arv hZ.alike F588 (by decide)) CC587.1)
    have V589 : Arv Z h589 b552 k552 .char (37 : Int32) [(.int (0 : Int32)), (.int (0 : Int32)), (.int (0 : Int32)), (.int (0 : Int32)), (.int (0 : Int32)), (.int (0 : Int32)), (.int (nar .char ch0)), (.int (nar .char ch1)), (.int (nar .char ch2)), (.int (0 : Int32)), (.int (0 : Int32)), (.int (0 : Int32)), (.int (0 : Int32)), (.int (0 : Int32)), (.int (0 : Int32)), (.int (0 : Int32)), (.int (0 : Int32)), (.int (0 : Int32)), (.int (0 : Int32)), (.int (0 : Int32)), (.int (0 : Int32)), (.int (0 : Int32)), (.int (0 : Int32)), (.int (0 : Int32)), (.int (0 : Int32)), (.int (0 : Int32)), (.int (0 : Int32)), (.int (0 : Int32)), (.int (0 : Int32)), (.int (0 : Int32)), (.int (0 : Int32)), (.int (0 : Int32)), (.int (0 : Int32)), (.int (0 : Int32)), (.int (0 : Int32)), (.int (0 : Int32)), (.int (0 : Int32))] (.int (0 : Int32)) := Arv.set Ar589 q589 S589 N589 H589 G589 (fits_nar_char _) W589 8 rfl (Nat.le_of_ble_eq_true rfl)
    have Nf589 := Fr.snoc X589 Nf583 g556
    refine Wp.st (S' := T589.setTop (mkF m 169 #[oI x1, oI x2, oI x3, oI x4, oI (3 : Int32), oI ch0, oI ch1, oI ch2, oR b547, oR b552, oU, oU, oU, oU] [])) st589 ?_
    refine Wp.st (S' := T589.setTop (mkF m 171 #[oI x1, oI x2, oI x3, oI x4, oI (3 : Int32), oI ch0, oI ch1, oI ch2, oR b547, oR b552, oU, oU, oU, oU] [(.ref b552)])) (fun tt_ kk_ => XS.aload X589.here hx rfl (hb hby at_169) rfl rfl kk_) ?_
    refine Wp.st (S' := T589.setTop (mkF m 172 #[oI x1, oI x2, oI x3, oI x4, oI (3 : Int32), oI ch0, oI ch1, oI ch2, oR b547, oR b552, oU, oU, oU, oU] [(.int (0 : Int32)), (.ref b552)])) (fun tt_ kk_ => XS.iconst X589.here hx rfl (hb hby at_171) kk_) ?_
    refine Wp.st (S' := T589.setTop (mkF m 174 #[oI x1, oI x2, oI x3, oI x4, oI (3 : Int32), oI ch0, oI ch1, oI ch2, oR b547, oR b552, oU, oU, oU, oU] [(.int (108 : Int32)), (.int (0 : Int32)), (.ref b552)])) (fun tt_ kk_ => XS.bipush X589.here hx rfl (hb hby at_172) kk_) ?_
    obtain ⟨cl594, Ar594, q594, S594, N594, H594, G594⟩ := id V589
    have hin594 := inb_of (j := (0 : Int32)) S594 ⟨by decide, by decide⟩
    obtain ⟨T594, h594, X594, e594, W594, st594⟩ := stC X589 hx hZ e589 Ar594 (j := (0 : Int32)) hin594 (g := (mkF m 174 #[oI x1, oI x2, oI x3, oI x4, oI (3 : Int32), oI ch0, oI ch1, oI ch2, oR b547, oR b552, oU, oU, oU, oU] [(.int (108 : Int32)), (.int (0 : Int32)), (.ref b552)])) rfl rfl (hb hby at_174)
    have z595 := Nat.le_of_eq W594.size.symm
    have Sf596 := Safe.wr W594 (Safe.arv hZ.alike V589 (by decide)) CC593.1 Sf591
    have Sf597 := Safe.wr W594 (Safe.arv hZ.alike V589 (by decide)) CC593.1 Sf592
    have CC598 := CC593.trans (CHr.wr W594 (Safe.arv hZ.alike V589 (by decide)) CC593.1)
    have V594 : Arv Z h594 b552 k552 .char (37 : Int32) [(.int (108 : Int32)), (.int (0 : Int32)), (.int (0 : Int32)), (.int (0 : Int32)), (.int (0 : Int32)), (.int (0 : Int32)), (.int (nar .char ch0)), (.int (nar .char ch1)), (.int (nar .char ch2)), (.int (0 : Int32)), (.int (0 : Int32)), (.int (0 : Int32)), (.int (0 : Int32)), (.int (0 : Int32)), (.int (0 : Int32)), (.int (0 : Int32)), (.int (0 : Int32)), (.int (0 : Int32)), (.int (0 : Int32)), (.int (0 : Int32)), (.int (0 : Int32)), (.int (0 : Int32)), (.int (0 : Int32)), (.int (0 : Int32)), (.int (0 : Int32)), (.int (0 : Int32)), (.int (0 : Int32)), (.int (0 : Int32)), (.int (0 : Int32)), (.int (0 : Int32)), (.int (0 : Int32)), (.int (0 : Int32)), (.int (0 : Int32)), (.int (0 : Int32)), (.int (0 : Int32)), (.int (0 : Int32)), (.int (0 : Int32))] (.int (0 : Int32)) := Arv.set Ar594 q594 S594 N594 H594 G594 rfl W594 0 rfl (Nat.le_of_ble_eq_true rfl)
    have Nf594 := Fr.snoc X594 Nf589 g556
    refine Wp.st (S' := T594.setTop (mkF m 175 #[oI x1, oI x2, oI x3, oI x4, oI (3 : Int32), oI ch0, oI ch1, oI ch2, oR b547, oR b552, oU, oU, oU, oU] [])) st594 ?_
    refine Wp.st (S' := T594.setTop (mkF m 177 #[oI x1, oI x2, oI x3, oI x4, oI (3 : Int32), oI ch0, oI ch1, oI ch2, oR b547, oR b552, oU, oU, oU, oU] [(.ref b552)])) (fun tt_ kk_ => XS.aload X594.here hx rfl (hb hby at_175) rfl rfl kk_) ?_
    refine Wp.st (S' := T594.setTop (mkF m 178 #[oI x1, oI x2, oI x3, oI x4, oI (3 : Int32), oI ch0, oI ch1, oI ch2, oR b547, oR b552, oU, oU, oU, oU] [(.int (1 : Int32)), (.ref b552)])) (fun tt_ kk_ => XS.iconst X594.here hx rfl (hb hby at_177) kk_) ?_
    refine Wp.st (S' := T594.setTop (mkF m 180 #[oI x1, oI x2, oI x3, oI x4, oI (3 : Int32), oI ch0, oI ch1, oI ch2, oR b547, oR b552, oU, oU, oU, oU] [(.int (111 : Int32)), (.int (1 : Int32)), (.ref b552)])) (fun tt_ kk_ => XS.bipush X594.here hx rfl (hb hby at_178) kk_) ?_
    obtain ⟨cl599, Ar599, q599, S599, N599, H599, G599⟩ := id V594
    have hin599 := inb_of (j := (1 : Int32)) S599 ⟨by decide, by decide⟩
    obtain ⟨T599, h599, X599, e599, W599, st599⟩ := stC X594 hx hZ e594 Ar599 (j := (1 : Int32)) hin599 (g := (mkF m 180 #[oI x1, oI x2, oI x3, oI x4, oI (3 : Int32), oI ch0, oI ch1, oI ch2, oR b547, oR b552, oU, oU, oU, oU] [(.int (111 : Int32)), (.int (1 : Int32)), (.ref b552)])) rfl rfl (hb hby at_180)
    have z600 := Nat.le_of_eq W599.size.symm
    have Sf601 := Safe.wr W599 (Safe.arv hZ.alike V594 (by decide)) CC598.1 Sf596
    have Sf602 := Safe.wr W599 (Safe.arv hZ.alike V594 (by decide)) CC598.1 Sf597
    have CC603 := CC598.trans (CHr.wr W599 (Safe.arv hZ.alike V594 (by decide)) CC598.1)
    have V599 : Arv Z h599 b552 k552 .char (37 : Int32) [(.int (108 : Int32)), (.int (111 : Int32)), (.int (0 : Int32)), (.int (0 : Int32)), (.int (0 : Int32)), (.int (0 : Int32)), (.int (nar .char ch0)), (.int (nar .char ch1)), (.int (nar .char ch2)), (.int (0 : Int32)), (.int (0 : Int32)), (.int (0 : Int32)), (.int (0 : Int32)), (.int (0 : Int32)), (.int (0 : Int32)), (.int (0 : Int32)), (.int (0 : Int32)), (.int (0 : Int32)), (.int (0 : Int32)), (.int (0 : Int32)), (.int (0 : Int32)), (.int (0 : Int32)), (.int (0 : Int32)), (.int (0 : Int32)), (.int (0 : Int32)), (.int (0 : Int32)), (.int (0 : Int32)), (.int (0 : Int32)), (.int (0 : Int32)), (.int (0 : Int32)), (.int (0 : Int32)), (.int (0 : Int32)), (.int (0 : Int32)), (.int (0 : Int32)), (.int (0 : Int32)), (.int (0 : Int32)), (.int (0 : Int32))] (.int (0 : Int32)) := Arv.set Ar599 q599 S599 N599 H599 G599 rfl W599 1 rfl (Nat.le_of_ble_eq_true rfl)
    have Nf599 := Fr.snoc X599 Nf594 g556
    refine Wp.st (S' := T599.setTop (mkF m 181 #[oI x1, oI x2, oI x3, oI x4, oI (3 : Int32), oI ch0, oI ch1, oI ch2, oR b547, oR b552, oU, oU, oU, oU] [])) st599 ?_
    refine Wp.st (S' := T599.setTop (mkF m 183 #[oI x1, oI x2, oI x3, oI x4, oI (3 : Int32), oI ch0, oI ch1, oI ch2, oR b547, oR b552, oU, oU, oU, oU] [(.ref b552)])) (fun tt_ kk_ => XS.aload X599.here hx rfl (hb hby at_181) rfl rfl kk_) ?_
    refine Wp.st (S' := T599.setTop (mkF m 184 #[oI x1, oI x2, oI x3, oI x4, oI (3 : Int32), oI ch0, oI ch1, oI ch2, oR b547, oR b552, oU, oU, oU, oU] [(.int (2 : Int32)), (.ref b552)])) (fun tt_ kk_ => XS.iconst X599.here hx rfl (hb hby at_183) kk_) ?_
    refine Wp.st (S' := T599.setTop (mkF m 186 #[oI x1, oI x2, oI x3, oI x4, oI (3 : Int32), oI ch0, oI ch1, oI ch2, oR b547, oR b552, oU, oU, oU, oU] [(.int (99 : Int32)), (.int (2 : Int32)), (.ref b552)])) (fun tt_ kk_ => XS.bipush X599.here hx rfl (hb hby at_184) kk_) ?_
    obtain ⟨cl604, Ar604, q604, S604, N604, H604, G604⟩ := id V599
    have hin604 := inb_of (j := (2 : Int32)) S604 ⟨by decide, by decide⟩
    obtain ⟨T604, h604, X604, e604, W604, st604⟩ := stC X599 hx hZ e599 Ar604 (j := (2 : Int32)) hin604 (g := (mkF m 186 #[oI x1, oI x2, oI x3, oI x4, oI (3 : Int32), oI ch0, oI ch1, oI ch2, oR b547, oR b552, oU, oU, oU, oU] [(.int (99 : Int32)), (.int (2 : Int32)), (.ref b552)])) rfl rfl (hb hby at_186)
    have z605 := Nat.le_of_eq W604.size.symm
    have Sf606 := Safe.wr W604 (Safe.arv hZ.alike V599 (by decide)) CC603.1 Sf601
    have Sf607 := Safe.wr W604 (Safe.arv hZ.alike V599 (by decide)) CC603.1 Sf602
    have CC608 := CC603.trans (CHr.wr W604 (Safe.arv hZ.alike V599 (by decide)) CC603.1)
    have V604 : Arv Z h604 b552 k552 .char (37 : Int32) [(.int (108 : Int32)), (.int (111 : Int32)), (.int (99 : Int32)), (.int (0 : Int32)), (.int (0 : Int32)), (.int (0 : Int32)), (.int (nar .char ch0)), (.int (nar .char ch1)), (.int (nar .char ch2)), (.int (0 : Int32)), (.int (0 : Int32)), (.int (0 : Int32)), (.int (0 : Int32)), (.int (0 : Int32)), (.int (0 : Int32)), (.int (0 : Int32)), (.int (0 : Int32)), (.int (0 : Int32)), (.int (0 : Int32)), (.int (0 : Int32)), (.int (0 : Int32)), (.int (0 : Int32)), (.int (0 : Int32)), (.int (0 : Int32)), (.int (0 : Int32)), (.int (0 : Int32)), (.int (0 : Int32)), (.int (0 : Int32)), (.int (0 : Int32)), (.int (0 : Int32)), (.int (0 : Int32)), (.int (0 : Int32)), (.int (0 : Int32)), (.int (0 : Int32)), (.int (0 : Int32)), (.int (0 : Int32)), (.int (0 : Int32))] (.int (0 : Int32)) := Arv.set Ar604 q604 S604 N604 H604 G604 rfl W604 2 rfl (Nat.le_of_ble_eq_true rfl)
    have Nf604 := Fr.snoc X604 Nf599 g556
    refine Wp.st (S' := T604.setTop (mkF m 187 #[oI x1, oI x2, oI x3, oI x4, oI (3 : Int32), oI ch0, oI ch1, oI ch2, oR b547, oR b552, oU, oU, oU, oU] [])) st604 ?_
    refine Wp.st (S' := T604.setTop (mkF m 189 #[oI x1, oI x2, oI x3, oI x4, oI (3 : Int32), oI ch0, oI ch1, oI ch2, oR b547, oR b552, oU, oU, oU, oU] [(.ref b552)])) (fun tt_ kk_ => XS.aload X604.here hx rfl (hb hby at_187) rfl rfl kk_) ?_
    refine Wp.st (S' := T604.setTop (mkF m 190 #[oI x1, oI x2, oI x3, oI x4, oI (3 : Int32), oI ch0, oI ch1, oI ch2, oR b547, oR b552, oU, oU, oU, oU] [(.int (3 : Int32)), (.ref b552)])) (fun tt_ kk_ => XS.iconst X604.here hx rfl (hb hby at_189) kk_) ?_
    refine Wp.st (S' := T604.setTop (mkF m 192 #[oI x1, oI x2, oI x3, oI x4, oI (3 : Int32), oI ch0, oI ch1, oI ch2, oR b547, oR b552, oU, oU, oU, oU] [(.int (107 : Int32)), (.int (3 : Int32)), (.ref b552)])) (fun tt_ kk_ => XS.bipush X604.here hx rfl (hb hby at_190) kk_) ?_
    obtain ⟨cl609, Ar609, q609, S609, N609, H609, G609⟩ := id V604
    have hin609 := inb_of (j := (3 : Int32)) S609 ⟨by decide, by decide⟩
    obtain ⟨T609, h609, X609, e609, W609, st609⟩ := stC X604 hx hZ e604 Ar609 (j := (3 : Int32)) hin609 (g := (mkF m 192 #[oI x1, oI x2, oI x3, oI x4, oI (3 : Int32), oI ch0, oI ch1, oI ch2, oR b547, oR b552, oU, oU, oU, oU] [(.int (107 : Int32)), (.int (3 : Int32)), (.ref b552)])) rfl rfl (hb hby at_192)
    have z610 := Nat.le_of_eq W609.size.symm
    have Sf611 := Safe.wr W609 (Safe.arv hZ.alike V604 (by decide)) CC608.1 Sf606
    have Sf612 := Safe.wr W609 (Safe.arv hZ.alike V604 (by decide)) CC608.1 Sf607
    have CC613 := CC608.trans (CHr.wr W609 (Safe.arv hZ.alike V604 (by decide)) CC608.1)
    have V609 : Arv Z h609 b552 k552 .char (37 : Int32) [(.int (108 : Int32)), (.int (111 : Int32)), (.int (99 : Int32)), (.int (107 : Int32)), (.int (0 : Int32)), (.int (0 : Int32)), (.int (nar .char ch0)), (.int (nar .char ch1)), (.int (nar .char ch2)), (.int (0 : Int32)), (.int (0 : Int32)), (.int (0 : Int32)), (.int (0 : Int32)), (.int (0 : Int32)), (.int (0 : Int32)), (.int (0 : Int32)), (.int (0 : Int32)), (.int (0 : Int32)), (.int (0 : Int32)), (.int (0 : Int32)), (.int (0 : Int32)), (.int (0 : Int32)), (.int (0 : Int32)), (.int (0 : Int32)), (.int (0 : Int32)), (.int (0 : Int32)), (.int (0 : Int32)), (.int (0 : Int32)), (.int (0 : Int32)), (.int (0 : Int32)), (.int (0 : Int32)), (.int (0 : Int32)), (.int (0 : Int32)), (.int (0 : Int32)), (.int (0 : Int32)), (.int (0 : Int32)), (.int (0 : Int32))] (.int (0 : Int32)) := Arv.set Ar609 q609 S609 N609 H609 G609 rfl W609 3 rfl (Nat.le_of_ble_eq_true rfl)
    have Nf609 := Fr.snoc X609 Nf604 g556
    refine Wp.st (S' := T609.setTop (mkF m 193 #[oI x1, oI x2, oI x3, oI x4, oI (3 : Int32), oI ch0, oI ch1, oI ch2, oR b547, oR b552, oU, oU, oU, oU] [])) st609 ?_
    refine Wp.st (S' := T609.setTop (mkF m 195 #[oI x1, oI x2, oI x3, oI x4, oI (3 : Int32), oI ch0, oI ch1, oI ch2, oR b547, oR b552, oU, oU, oU, oU] [(.ref b552)])) (fun tt_ kk_ => XS.aload X609.here hx rfl (hb hby at_193) rfl rfl kk_) ?_
    refine Wp.st (S' := T609.setTop (mkF m 196 #[oI x1, oI x2, oI x3, oI x4, oI (3 : Int32), oI ch0, oI ch1, oI ch2, oR b547, oR b552, oU, oU, oU, oU] [(.int (4 : Int32)), (.ref b552)])) (fun tt_ kk_ => XS.iconst X609.here hx rfl (hb hby at_195) kk_) ?_
    refine Wp.st (S' := T609.setTop (mkF m 198 #[oI x1, oI x2, oI x3, oI x4, oI (3 : Int32), oI ch0, oI ch1, oI ch2, oR b547, oR b552, oU, oU, oU, oU] [(.int (32 : Int32)), (.int (4 : Int32)), (.ref b552)])) (fun tt_ kk_ => XS.bipush X609.here hx rfl (hb hby at_196) kk_) ?_
    obtain ⟨cl614, Ar614, q614, S614, N614, H614, G614⟩ := id V609
    have hin614 := inb_of (j := (4 : Int32)) S614 ⟨by decide, by decide⟩
    obtain ⟨T614, h614, X614, e614, W614, st614⟩ := stC X609 hx hZ e609 Ar614 (j := (4 : Int32)) hin614 (g := (mkF m 198 #[oI x1, oI x2, oI x3, oI x4, oI (3 : Int32), oI ch0, oI ch1, oI ch2, oR b547, oR b552, oU, oU, oU, oU] [(.int (32 : Int32)), (.int (4 : Int32)), (.ref b552)])) rfl rfl (hb hby at_198)
    have z615 := Nat.le_of_eq W614.size.symm
    have Sf616 := Safe.wr W614 (Safe.arv hZ.alike V609 (by decide)) CC613.1 Sf611
    have Sf617 := Safe.wr W614 (Safe.arv hZ.alike V609 (by decide)) CC613.1 Sf612
    have CC618 := CC613.trans (CHr.wr W614 (Safe.arv hZ.alike V609 (by decide)) CC613.1)
    have V614 : Arv Z h614 b552 k552 .char (37 : Int32) [(.int (108 : Int32)), (.int (111 : Int32)), (.int (99 : Int32)), (.int (107 : Int32)), (.int (32 : Int32)), (.int (0 : Int32)), (.int (nar .char ch0)), (.int (nar .char ch1)), (.int (nar .char ch2)), (.int (0 : Int32)), (.int (0 : Int32)), (.int (0 : Int32)), (.int (0 : Int32)), (.int (0 : Int32)), (.int (0 : Int32)), (.int (0 : Int32)), (.int (0 : Int32)), (.int (0 : Int32)), (.int (0 : Int32)), (.int (0 : Int32)), (.int (0 : Int32)), (.int (0 : Int32)), (.int (0 : Int32)), (.int (0 : Int32)), (.int (0 : Int32)), (.int (0 : Int32)), (.int (0 : Int32)), (.int (0 : Int32)), (.int (0 : Int32)), (.int (0 : Int32)), (.int (0 : Int32)), (.int (0 : Int32)), (.int (0 : Int32)), (.int (0 : Int32)), (.int (0 : Int32)), (.int (0 : Int32)), (.int (0 : Int32))] (.int (0 : Int32)) := Arv.set Ar614 q614 S614 N614 H614 G614 rfl W614 4 rfl (Nat.le_of_ble_eq_true rfl)
    have Nf614 := Fr.snoc X614 Nf609 g556
    refine Wp.st (S' := T614.setTop (mkF m 199 #[oI x1, oI x2, oI x3, oI x4, oI (3 : Int32), oI ch0, oI ch1, oI ch2, oR b547, oR b552, oU, oU, oU, oU] [])) st614 ?_
    refine Wp.st (S' := T614.setTop (mkF m 201 #[oI x1, oI x2, oI x3, oI x4, oI (3 : Int32), oI ch0, oI ch1, oI ch2, oR b547, oR b552, oU, oU, oU, oU] [(.ref b552)])) (fun tt_ kk_ => XS.aload X614.here hx rfl (hb hby at_199) rfl rfl kk_) ?_
    refine Wp.st (S' := T614.setTop (mkF m 202 #[oI x1, oI x2, oI x3, oI x4, oI (3 : Int32), oI ch0, oI ch1, oI ch2, oR b547, oR b552, oU, oU, oU, oU] [(.int (5 : Int32)), (.ref b552)])) (fun tt_ kk_ => XS.iconst X614.here hx rfl (hb hby at_201) kk_) ?_
    refine Wp.st (S' := T614.setTop (mkF m 204 #[oI x1, oI x2, oI x3, oI x4, oI (3 : Int32), oI ch0, oI ch1, oI ch2, oR b547, oR b552, oU, oU, oU, oU] [(.int (39 : Int32)), (.int (5 : Int32)), (.ref b552)])) (fun tt_ kk_ => XS.bipush X614.here hx rfl (hb hby at_202) kk_) ?_
    obtain ⟨cl619, Ar619, q619, S619, N619, H619, G619⟩ := id V614
    have hin619 := inb_of (j := (5 : Int32)) S619 ⟨by decide, by decide⟩
    obtain ⟨T619, h619, X619, e619, W619, st619⟩ := stC X614 hx hZ e614 Ar619 (j := (5 : Int32)) hin619 (g := (mkF m 204 #[oI x1, oI x2, oI x3, oI x4, oI (3 : Int32), oI ch0, oI ch1, oI ch2, oR b547, oR b552, oU, oU, oU, oU] [(.int (39 : Int32)), (.int (5 : Int32)), (.ref b552)])) rfl rfl (hb hby at_204)
    have z620 := Nat.le_of_eq W619.size.symm
    have Sf621 := Safe.wr W619 (Safe.arv hZ.alike V614 (by decide)) CC618.1 Sf616
    have Sf622 := Safe.wr W619 (Safe.arv hZ.alike V614 (by decide)) CC618.1 Sf617
    have CC623 := CC618.trans (CHr.wr W619 (Safe.arv hZ.alike V614 (by decide)) CC618.1)
    have V619 : Arv Z h619 b552 k552 .char (37 : Int32) [(.int (108 : Int32)), (.int (111 : Int32)), (.int (99 : Int32)), (.int (107 : Int32)), (.int (32 : Int32)), (.int (39 : Int32)), (.int (nar .char ch0)), (.int (nar .char ch1)), (.int (nar .char ch2)), (.int (0 : Int32)), (.int (0 : Int32)), (.int (0 : Int32)), (.int (0 : Int32)), (.int (0 : Int32)), (.int (0 : Int32)), (.int (0 : Int32)), (.int (0 : Int32)), (.int (0 : Int32)), (.int (0 : Int32)), (.int (0 : Int32)), (.int (0 : Int32)), (.int (0 : Int32)), (.int (0 : Int32)), (.int (0 : Int32)), (.int (0 : Int32)), (.int (0 : Int32)), (.int (0 : Int32)), (.int (0 : Int32)), (.int (0 : Int32)), (.int (0 : Int32)), (.int (0 : Int32)), (.int (0 : Int32)), (.int (0 : Int32)), (.int (0 : Int32)), (.int (0 : Int32)), (.int (0 : Int32)), (.int (0 : Int32))] (.int (0 : Int32)) := Arv.set Ar619 q619 S619 N619 H619 G619 rfl W619 5 rfl (Nat.le_of_ble_eq_true rfl)
    have Nf619 := Fr.snoc X619 Nf614 g556
    refine Wp.st (S' := T619.setTop (mkF m 205 #[oI x1, oI x2, oI x3, oI x4, oI (3 : Int32), oI ch0, oI ch1, oI ch2, oR b547, oR b552, oU, oU, oU, oU] [])) st619 ?_
    refine Wp.st (S' := T619.setTop (mkF m 207 #[oI x1, oI x2, oI x3, oI x4, oI (3 : Int32), oI ch0, oI ch1, oI ch2, oR b547, oR b552, oU, oU, oU, oU] [(.ref b552)])) (fun tt_ kk_ => XS.aload X619.here hx rfl (hb hby at_205) rfl rfl kk_) ?_
    refine Wp.st (S' := T619.setTop (mkF m 209 #[oI x1, oI x2, oI x3, oI x4, oI (3 : Int32), oI ch0, oI ch1, oI ch2, oR b547, oR b552, oU, oU, oU, oU] [(.int (6 : Int32)), (.ref b552)])) (fun tt_ kk_ => XS.bipush X619.here hx rfl (hb hby at_207) kk_) ?_
    refine Wp.st (S' := T619.setTop (mkF m 211 #[oI x1, oI x2, oI x3, oI x4, oI (3 : Int32), oI ch0, oI ch1, oI ch2, oR b547, oR b552, oU, oU, oU, oU] [(.int (3 : Int32)), (.int (6 : Int32)), (.ref b552)])) (fun tt_ kk_ => XS.iload X619.here hx rfl (hb hby at_209) rfl  kk_) ?_
    refine Wp.st (S' := T619.setTop (mkF m 212 #[oI x1, oI x2, oI x3, oI x4, oI (3 : Int32), oI ch0, oI ch1, oI ch2, oR b547, oR b552, oU, oU, oU, oU] [(.int ((6 : Int32) + (3 : Int32))), (.ref b552)])) (fun tt_ kk_ => XS.iadd X619.here hx rfl (hb hby at_211) rfl kk_) ?_
    rw [(by decide : ((6 : Int32) + (3 : Int32)) = (9 : Int32))]
    obtain ⟨vv624, _, ⟨T624, L624, k624, n624⟩, -, X624, ⟨Lc624, hQ624, l624, y624, z624⟩, st624⟩ := Jvm.LawKit.callS X619 hx (y := (⟨"com/example/mortise_lock/mortiselock/redis/RedisCallExceptionClosedPinLaw", "putSuffix", "([CI)V"⟩ : MethodName)) hown (mvT hZ (hw _ (List.mem_of_getElem? (i := 1) rfl))) (mvT hZ (hw _ (List.mem_of_getElem? (i := 2) rfl))) (mvT hZ (hw _ (List.mem_of_getElem? (i := 3) rfl))) (mvT hZ (hw _ (List.mem_of_getElem? (i := 4) rfl))) (by decide) (backOf (W := 0) (rm1 l Z a0 hw [] b552 (9 : Int32) k552 (37 : Int32) [(.int (108 : Int32)), (.int (111 : Int32)), (.int (99 : Int32)), (.int (107 : Int32)), (.int (32 : Int32)), (.int (39 : Int32)), (.int (nar .char ch0)), (.int (nar .char ch1)), (.int (nar .char ch2)), (.int (0 : Int32)), (.int (0 : Int32)), (.int (0 : Int32)), (.int (0 : Int32)), (.int (0 : Int32)), (.int (0 : Int32)), (.int (0 : Int32)), (.int (0 : Int32)), (.int (0 : Int32)), (.int (0 : Int32)), (.int (0 : Int32)), (.int (0 : Int32)), (.int (0 : Int32)), (.int (0 : Int32)), (.int (0 : Int32)), (.int (0 : Int32)), (.int (0 : Int32)), (.int (0 : Int32)), (.int (0 : Int32)), (.int (0 : Int32)), (.int (0 : Int32)), (.int (0 : Int32)), (.int (0 : Int32)), (.int (0 : Int32)), (.int (0 : Int32)), (.int (0 : Int32)), (.int (0 : Int32)), (.int (0 : Int32))] h619 n0 (Nat.le_trans Z0 (Nat.le_trans (Nat.le_trans (Nat.le_trans (Nat.le_trans (Nat.le_trans (Nat.le_trans (Nat.le_trans (Nat.le_trans (Nat.le_trans (Nat.le_trans (Nat.le_trans (Nat.le_trans (Nat.le_trans z548 z553) z560) z566) z572) z578) z584) z590) z595) z600) z605) z610) z615) z620)) g556 V619 ((by decide) : 0 ≤ (9 : Int32).toInt ∧ (9 : Int32).toInt ≤ 9 ∧ (9 : Int32).toInt + 28 = (37 : Int32).toInt) ((by show (9 : Int32).toNatClampNeg + 28 ≤ 37; decide) : (9 : Int32).toNatClampNeg + 28 ≤ [(.int (108 : Int32)), (.int (111 : Int32)), (.int (99 : Int32)), (.int (107 : Int32)), (.int (32 : Int32)), (.int (39 : Int32)), (.int (nar .char ch0)), (.int (nar .char ch1)), (.int (nar .char ch2)), (.int (0 : Int32)), (.int (0 : Int32)), (.int (0 : Int32)), (.int (0 : Int32)), (.int (0 : Int32)), (.int (0 : Int32)), (.int (0 : Int32)), (.int (0 : Int32)), (.int (0 : Int32)), (.int (0 : Int32)), (.int (0 : Int32)), (.int (0 : Int32)), (.int (0 : Int32)), (.int (0 : Int32)), (.int (0 : Int32)), (.int (0 : Int32)), (.int (0 : Int32)), (.int (0 : Int32)), (.int (0 : Int32)), (.int (0 : Int32)), (.int (0 : Int32)), (.int (0 : Int32)), (.int (0 : Int32)), (.int (0 : Int32)), (.int (0 : Int32)), (.int (0 : Int32)), (.int (0 : Int32)), (.int (0 : Int32))].length)) hZ (hw _ (List.mem_of_getElem? (i := 4) rfl)) (hw _ (List.mem_of_getElem? (i := 3) rfl)) (by decide) (by decide)) (g := (mkF m 212 #[oI x1, oI x2, oI x3, oI x4, oI (3 : Int32), oI ch0, oI ch1, oI ch2, oR b547, oR b552, oU, oU, oU, oU] [(.int (9 : Int32)), (.ref b552)])) rfl (by rw [hml]; rfl) (argsL := [(.ref b552), (.int (9 : Int32))]) (rest := []) (lenOf pd_21 rfl) rfl (by show 2 * 0 + _ ≤ _; exact Nat.le_of_eq rfl) (hb hby at_212) (fun _ _ => ⟨rfl, e619, (by decide : 2 + 0 ≤ _), (by decide : 40 + 0 ≤ _)⟩)
    dsimp only [Pt.U, Pt.locs, Pt.cells, Pt.slots] at X624 l624 y624 z624 st624 hQ624
    subst l624 y624 z624
    obtain ⟨rfl, Nq624, K624, P624_0⟩ := hQ624
    have N624 := Fr.app Nf619 Nq624
    have F625 := ThS.ext E547 PT
    have F626 := ThS.ext E552 F625
    have F627 := ThS.wr W559 F626
    have F628 := ThS.wr W565 F627
    have F629 := ThS.wr W571 F628
    have F630 := ThS.wr W577 F629
    have F631 := ThS.wr W583 F630
    have F632 := ThS.wr W589 F631
    have F633 := ThS.wr W594 F632
    have F634 := ThS.wr W599 F633
    have F635 := ThS.wr W604 F634
    have F636 := ThS.wr W609 F635
    have F637 := ThS.wr W614 F636
    have F638 := ThS.wr W619 F637
    have Th639 := ThS.keep K624 (nsS (Arv.nostat V619) ns0) F638
    have z640 := K624.1
    have Sf641 := Safe.keep K624 (sfS (Safe.arv hZ.alike V619 (by decide)) sf0) CC623.1 Sf621
    have Sf642 := Safe.keep K624 (sfS (Safe.arv hZ.alike V619 (by decide)) sf0) CC623.1 Sf622
    have CC643 := CC623.trans (CHr.keep K624 (sfS (Safe.arv hZ.alike V619 (by decide)) sf0) CC623.1)
    have e624 : T624.heap = T624.heap := rfl
    refine Wp.st (S' := T624.setTop (mkF m 215 #[oI x1, oI x2, oI x3, oI x4, oI (3 : Int32), oI ch0, oI ch1, oI ch2, oR b547, oR b552, oU, oU, oU, oU] [])) st624 ?_
    have Ve : Arv Z T624.heap b552 k552 .char (37 : Int32) [(.int (108 : Int32)), (.int (111 : Int32)), (.int (99 : Int32)), (.int (107 : Int32)), (.int (32 : Int32)), (.int (39 : Int32)), (.int (nar .char ch0)), (.int (nar .char ch1)), (.int (nar .char ch2)), (.int (39 : Int32)), (.int (58 : Int32)), (.int (32 : Int32)), (.int (105 : Int32)), (.int (116 : Int32)), (.int (115 : Int32)), (.int (32 : Int32)), (.int (77 : Int32)), (.int (111 : Int32)), (.int (114 : Int32)), (.int (116 : Int32)), (.int (105 : Int32)), (.int (115 : Int32)), (.int (101 : Int32)), (.int (76 : Int32)), (.int (111 : Int32)), (.int (99 : Int32)), (.int (107 : Int32)), (.int (32 : Int32)), (.int (105 : Int32)), (.int (115 : Int32)), (.int (32 : Int32)), (.int (99 : Int32)), (.int (108 : Int32)), (.int (111 : Int32)), (.int (115 : Int32)), (.int (101 : Int32)), (.int (100 : Int32))] (.int (0 : Int32)) := own_arv (own_pt3 _ _ _) P624_0
    obtain ⟨T644, h644, X644, e644, E644, A644, D644, U644, st644⟩ := newO X624 hx hZ hown (hw _ (List.mem_of_getElem? (i := 5) rfl)) (hw _ (List.mem_of_getElem? (i := 6) rfl)) (hw _ (List.mem_of_getElem? (i := 7) rfl)) e624 (g := (mkF m 215 #[oI x1, oI x2, oI x3, oI x4, oI (3 : Int32), oI ch0, oI ch1, oI ch2, oR b547, oR b552, oU, oU, oU, oU] [])) rfl (hb hby at_215) (by decide) (by decide)
    obtain ⟨b644, g644⟩ : ∃ z, z = T624.heap.size := ⟨_, rfl⟩
    rw [← g644] at A644 D644 U644 st644
    have z645 := E644.1
    have Sf646 := Safe.ext E644 CC643.1 Sf641
    have Sf647 := Safe.ext E644 CC643.1 Sf642
    have CC648 := CC643.trans (CHr.ext E644 CC643.1)
    have g649 : n0 ≤ b644 := Nat.le_trans (Nat.le_trans Z0 (Nat.le_trans (Nat.le_trans (Nat.le_trans (Nat.le_trans (Nat.le_trans (Nat.le_trans (Nat.le_trans (Nat.le_trans (Nat.le_trans (Nat.le_trans (Nat.le_trans (Nat.le_trans (Nat.le_trans (Nat.le_trans z548 z553) z560) z566) z572) z578) z584) z590) z595) z600) z605) z610) z615) z620) z640)) (Nat.le_of_eq g644.symm)
    have Sf650 := Safe.ext E644 CC643.1 (Safe.new (x := b644) (Nat.le_of_eq g644.symm))
    have F651 : Fld Z h644 b644 "java/lang/String" "value" "[B" .null := D644 (Or.inr (hw _ (List.mem_of_getElem? (i := 20) rfl))) (ty := (.array .byte)) (by decide)
    have F652 : Fld Z h644 b644 "java/lang/String" "coder" "B" (.int (0 : Int32)) := D644 (Or.inr (hw _ (List.mem_of_getElem? (i := 21) rfl))) (ty := .byte) (by decide)
    refine Wp.st (S' := T644.setTop (mkF m 218 #[oI x1, oI x2, oI x3, oI x4, oI (3 : Int32), oI ch0, oI ch1, oI ch2, oR b547, oR b552, oU, oU, oU, oU] [(.ref b644)])) st644 ?_
    refine Wp.st (S' := T644.setTop (mkF m 219 #[oI x1, oI x2, oI x3, oI x4, oI (3 : Int32), oI ch0, oI ch1, oI ch2, oR b547, oR b552, oU, oU, oU, oU] [(.ref b644), (.ref b644)])) (fun tt_ kk_ => XS.dup X644.here hx rfl (hb hby at_218) rfl rfl kk_) ?_
    refine Wp.st (S' := T644.setTop (mkF m 221 #[oI x1, oI x2, oI x3, oI x4, oI (3 : Int32), oI ch0, oI ch1, oI ch2, oR b547, oR b552, oU, oU, oU, oU] [(.ref b547), (.ref b644), (.ref b644)])) (fun tt_ kk_ => XS.aload X644.here hx rfl (hb hby at_219) rfl rfl kk_) ?_
    have hp654 : ∀ c ∈ ([(nar .char ch0), (nar .char ch1), (nar .char ch2)] : List Int32), ¬ c < 0 ∧ ¬ (255 : Int32) < c := (by
          intro c hc
          simp only [List.mem_cons, List.not_mem_nil, or_false] at hc
          rcases hc with rfl | rfl | rfl
          all_goals first | assumption | decide)
    have F655 := V583.other W589 (Nat.ne_of_lt (Nat.lt_of_lt_of_le V547.lt (Nat.le_trans (Nat.le_refl _) (Nat.le_of_eq g552.symm))))
    have F656 := F655.other W594 (Nat.ne_of_lt (Nat.lt_of_lt_of_le V547.lt (Nat.le_trans (Nat.le_refl _) (Nat.le_of_eq g552.symm))))
    have F657 := F656.other W599 (Nat.ne_of_lt (Nat.lt_of_lt_of_le V547.lt (Nat.le_trans (Nat.le_refl _) (Nat.le_of_eq g552.symm))))
    have F658 := F657.other W604 (Nat.ne_of_lt (Nat.lt_of_lt_of_le V547.lt (Nat.le_trans (Nat.le_refl _) (Nat.le_of_eq g552.symm))))
    have F659 := F658.other W609 (Nat.ne_of_lt (Nat.lt_of_lt_of_le V547.lt (Nat.le_trans (Nat.le_refl _) (Nat.le_of_eq g552.symm))))
    have F660 := F659.other W614 (Nat.ne_of_lt (Nat.lt_of_lt_of_le V547.lt (Nat.le_trans (Nat.le_refl _) (Nat.le_of_eq g552.symm))))
    have F661 := F660.other W619 (Nat.ne_of_lt (Nat.lt_of_lt_of_le V547.lt (Nat.le_trans (Nat.le_refl _) (Nat.le_of_eq g552.symm))))
    have F662 := F661.keep K624 (ninS (Nat.ne_of_lt (Nat.lt_of_lt_of_le V547.lt (Nat.le_trans (Nat.le_refl _) (Nat.le_of_eq g552.symm)))) nin0)
    have F663 := F662.ext E644
    have O664 := O0.ext E547
    have O665 := O664.ext E552
    have O666 := O665.wr W559 g550
    have O667 := O666.wr W565 g556
    have O668 := O667.wr W571 g550
    have O669 := O668.wr W577 g556
    have O670 := O669.wr W583 g550
    have O671 := O670.wr W589 g556
    have O672 := O671.wr W594 g556
    have O673 := O672.wr W599 g556
    have O674 := O673.wr W604 g556
    have O675 := O674.wr W609 g556
    have O676 := O675.wr W614 g556
    have O677 := O676.wr W619 g556
    have O678 := O677.keep K624 (allS g556 all0)
    have O679 := O678.ext E644
    obtain ⟨vv653, _, ⟨T653, L653, k653, n653⟩, -, X653, ⟨Lc653, hQ653, l653, y653, z653⟩, st653⟩ := X644.specialBack hx (y := (⟨"java/lang/String", "<init>", "([C)V"⟩ : MethodName)) rfl hown (mvT hZ (hw _ (List.mem_of_getElem? (i := 8) rfl))) (mvT hZ (hw _ (List.mem_of_getElem? (i := 9) rfl))) (mvT hZ (hw _ (List.mem_of_getElem? (i := 10) rfl))) (by decide) (StrChars.Road.backV (W := 1) hZ (fun d hd => hw d ((by decide +kernel : ∀ d ∈ StrChars.Road.words, d ∈ tables_1) d hd)) (kI := 4) (hw _ (List.mem_of_getElem? (i := 6) rfl)) (cs := ([(nar .char ch0), (nar .char ch1), (nar .char ch2)] : List Int32)) (bs := (([(nar .char ch0), (nar .char ch1), (nar .char ch2)] : List Int32).map (fun c => c.toInt8.toInt32))) (n := 3) g649 (Nat.le_trans Z0 (Nat.le_trans (Nat.le_trans (Nat.le_trans (Nat.le_trans (Nat.le_trans (Nat.le_trans (Nat.le_trans (Nat.le_trans (Nat.le_trans (Nat.le_trans (Nat.le_trans (Nat.le_trans (Nat.le_trans (Nat.le_trans (Nat.le_trans z548 z553) z560) z566) z572) z578) z584) z590) z595) z600) z605) z610) z615) z620) z640) z645)) A644 F651 F652 F663 (SCompact.ext O679.2) hCS rfl rfl (by decide) (by decide) hp654 rfl (by decide) (by decide)) (g := (mkF m 221 #[oI x1, oI x2, oI x3, oI x4, oI (3 : Int32), oI ch0, oI ch1, oI ch2, oR b547, oR b552, oU, oU, oU, oU] [(.ref b547), (.ref b644), (.ref b644)])) rfl (by rw [hml]; rfl) (Steps.refl _) (a := b644) (argsL := [(.ref b547)]) (rest := [(.ref b644)]) (lenOf pd_22 rfl) rfl (by show 2 * 0 + _ ≤ _; exact Nat.le_of_eq rfl) (hb hby at_221) (fun _ _ => ⟨rfl, e644, (by decide : 3 + 1 ≤ _), (by decide : 44 + 3 ≤ _)⟩)
    dsimp only [Pt.U, Pt.locs, Pt.cells, Pt.slots] at X653 l653 y653 z653 st653 hQ653
    subst l653 y653 z653
    obtain ⟨rfl, Nq653, K653, Ex653, Co653, t653, kb653, ga653, gb653, gn653, Va653, Av653⟩ := hQ653
    have N653 := Fr.app N624 Nq653
    have F680 := ThS.ext E644 Th639
    have Th681 := ThS.keep K653 (nsS (Exa.nostat A644) ns0) F680
    have z682 := K653.1
    have Sf683 := Safe.keep K653 (sfS Sf650 sf0) CC648.1 Sf646
    have Sf684 := Safe.keep K653 (sfS Sf650 sf0) CC648.1 Sf647
    have Sf685 := Safe.keep K653 (sfS Sf650 sf0) CC648.1 Sf650
    have CC686 := CC648.trans (CHr.keep K653 (sfS Sf650 sf0) CC648.1)
    have g687 : n0 ≤ t653 := Nat.le_trans (Nat.le_trans Z0 (Nat.le_trans (Nat.le_trans (Nat.le_trans (Nat.le_trans (Nat.le_trans (Nat.le_trans (Nat.le_trans (Nat.le_trans (Nat.le_trans (Nat.le_trans (Nat.le_trans (Nat.le_trans (Nat.le_trans (Nat.le_trans (Nat.le_trans z548 z553) z560) z566) z572) z578) z584) z590) z595) z600) z605) z610) z615) z620) z640) z645)) gb653
    have e653 : T653.heap = T653.heap := rfl
    refine Wp.tr (S' := T653.setTop (mkF m 224 #[oI x1, oI x2, oI x3, oI x4, oI (3 : Int32), oI ch0, oI ch1, oI ch2, oR b547, oR b552, oU, oU, oU, oU] [(.ref b644)])) st653 ?_
    refine Wp.st (S' := T653.setTop (mkF m 226 #[oI x1, oI x2, oI x3, oI x4, oI (3 : Int32), oI ch0, oI ch1, oI ch2, oR b547, oR b552, oR b644, oU, oU, oU] [])) (fun tt_ kk_ => XS.astore X653.here hx rfl (hb hby at_224) rfl rfl (l' := #[oI x1, oI x2, oI x3, oI x4, oI (3 : Int32), oI ch0, oI ch1, oI ch2, oR b547, oR b552, oR b644, oU, oU, oU]) rfl kk_) ?_
    obtain ⟨T688, h688, X688, e688, E688, A688, D688, U688, st688⟩ := newO X653 hx hZ hown (hw _ (List.mem_of_getElem? (i := 5) rfl)) (hw _ (List.mem_of_getElem? (i := 6) rfl)) (hw _ (List.mem_of_getElem? (i := 7) rfl)) e653 (g := (mkF m 226 #[oI x1, oI x2, oI x3, oI x4, oI (3 : Int32), oI ch0, oI ch1, oI ch2, oR b547, oR b552, oR b644, oU, oU, oU] [])) rfl (hb hby at_226) (by decide) (by decide)
    obtain ⟨b688, g688⟩ : ∃ z, z = T653.heap.size := ⟨_, rfl⟩
    rw [← g688] at A688 D688 U688 st688
    have z689 := E688.1
    have Sf690 := Safe.ext E688 CC686.1 Sf683
    have Sf691 := Safe.ext E688 CC686.1 Sf684
    have Sf692 := Safe.ext E688 CC686.1 Sf685
    have CC693 := CC686.trans (CHr.ext E688 CC686.1)
    have g694 : n0 ≤ b688 := Nat.le_trans (Nat.le_trans Z0 (Nat.le_trans (Nat.le_trans (Nat.le_trans (Nat.le_trans (Nat.le_trans (Nat.le_trans (Nat.le_trans (Nat.le_trans (Nat.le_trans (Nat.le_trans (Nat.le_trans (Nat.le_trans (Nat.le_trans (Nat.le_trans (Nat.le_trans (Nat.le_trans z548 z553) z560) z566) z572) z578) z584) z590) z595) z600) z605) z610) z615) z620) z640) z645) z682)) (Nat.le_of_eq g688.symm)
    have Sf695 := Safe.ext E688 CC686.1 (Safe.new (x := b688) (Nat.le_of_eq g688.symm))
    have F696 : Fld Z h688 b688 "java/lang/String" "value" "[B" .null := D688 (Or.inr (hw _ (List.mem_of_getElem? (i := 20) rfl))) (ty := (.array .byte)) (by decide)
    have F697 : Fld Z h688 b688 "java/lang/String" "coder" "B" (.int (0 : Int32)) := D688 (Or.inr (hw _ (List.mem_of_getElem? (i := 21) rfl))) (ty := .byte) (by decide)
    refine Wp.st (S' := T688.setTop (mkF m 229 #[oI x1, oI x2, oI x3, oI x4, oI (3 : Int32), oI ch0, oI ch1, oI ch2, oR b547, oR b552, oR b644, oU, oU, oU] [(.ref b688)])) st688 ?_
    refine Wp.st (S' := T688.setTop (mkF m 230 #[oI x1, oI x2, oI x3, oI x4, oI (3 : Int32), oI ch0, oI ch1, oI ch2, oR b547, oR b552, oR b644, oU, oU, oU] [(.ref b688), (.ref b688)])) (fun tt_ kk_ => XS.dup X688.here hx rfl (hb hby at_229) rfl rfl kk_) ?_
    refine Wp.st (S' := T688.setTop (mkF m 232 #[oI x1, oI x2, oI x3, oI x4, oI (3 : Int32), oI ch0, oI ch1, oI ch2, oR b547, oR b552, oR b644, oU, oU, oU] [(.ref b552), (.ref b688), (.ref b688)])) (fun tt_ kk_ => XS.aload X688.here hx rfl (hb hby at_230) rfl rfl kk_) ?_
    have hp699 : ∀ c ∈ ([(108 : Int32), (111 : Int32), (99 : Int32), (107 : Int32), (32 : Int32), (39 : Int32), (nar .char ch0), (nar .char ch1), (nar .char ch2), (39 : Int32), (58 : Int32), (32 : Int32), (105 : Int32), (116 : Int32), (115 : Int32), (32 : Int32), (77 : Int32), (111 : Int32), (114 : Int32), (116 : Int32), (105 : Int32), (115 : Int32), (101 : Int32), (76 : Int32), (111 : Int32), (99 : Int32), (107 : Int32), (32 : Int32), (105 : Int32), (115 : Int32), (32 : Int32), (99 : Int32), (108 : Int32), (111 : Int32), (115 : Int32), (101 : Int32), (100 : Int32)] : List Int32), ¬ c < 0 ∧ ¬ (255 : Int32) < c := (by
          intro c hc
          simp only [List.mem_cons, List.not_mem_nil, or_false] at hc
          rcases hc with rfl | rfl | rfl | rfl | rfl | rfl | rfl | rfl | rfl | rfl | rfl | rfl | rfl | rfl | rfl | rfl | rfl | rfl | rfl | rfl | rfl | rfl | rfl | rfl | rfl | rfl | rfl | rfl | rfl | rfl | rfl | rfl | rfl | rfl | rfl | rfl | rfl
          all_goals first | assumption | decide)
    have F700 := Ve.ext E644
    have F701 := F700.keep K653 (ninS (Nat.ne_of_lt (Nat.lt_of_lt_of_le V552.lt (Nat.le_trans (Nat.le_trans (Nat.le_trans (Nat.le_trans (Nat.le_trans (Nat.le_trans (Nat.le_trans (Nat.le_trans (Nat.le_trans (Nat.le_trans (Nat.le_trans (Nat.le_trans (Nat.le_trans z560 z566) z572) z578) z584) z590) z595) z600) z605) z610) z615) z620) z640) (Nat.le_of_eq g644.symm)))) nin0)
    have F702 := F701.ext E688
    have O703 := O679.keep K653 (allS g649 all0)
    have O704 := O703.ext E688
    obtain ⟨vv698, _, ⟨T698, L698, k698, n698⟩, -, X698, ⟨Lc698, hQ698, l698, y698, z698⟩, st698⟩ := X688.specialBack hx (y := (⟨"java/lang/String", "<init>", "([C)V"⟩ : MethodName)) rfl hown (mvT hZ (hw _ (List.mem_of_getElem? (i := 8) rfl))) (mvT hZ (hw _ (List.mem_of_getElem? (i := 9) rfl))) (mvT hZ (hw _ (List.mem_of_getElem? (i := 10) rfl))) (by decide) (StrChars.Road.backV (W := 1) hZ (fun d hd => hw d ((by decide +kernel : ∀ d ∈ StrChars.Road.words, d ∈ tables_1) d hd)) (kI := 4) (hw _ (List.mem_of_getElem? (i := 6) rfl)) (cs := ([(108 : Int32), (111 : Int32), (99 : Int32), (107 : Int32), (32 : Int32), (39 : Int32), (nar .char ch0), (nar .char ch1), (nar .char ch2), (39 : Int32), (58 : Int32), (32 : Int32), (105 : Int32), (116 : Int32), (115 : Int32), (32 : Int32), (77 : Int32), (111 : Int32), (114 : Int32), (116 : Int32), (105 : Int32), (115 : Int32), (101 : Int32), (76 : Int32), (111 : Int32), (99 : Int32), (107 : Int32), (32 : Int32), (105 : Int32), (115 : Int32), (32 : Int32), (99 : Int32), (108 : Int32), (111 : Int32), (115 : Int32), (101 : Int32), (100 : Int32)] : List Int32)) (bs := (([(108 : Int32), (111 : Int32), (99 : Int32), (107 : Int32), (32 : Int32), (39 : Int32), (nar .char ch0), (nar .char ch1), (nar .char ch2), (39 : Int32), (58 : Int32), (32 : Int32), (105 : Int32), (116 : Int32), (115 : Int32), (32 : Int32), (77 : Int32), (111 : Int32), (114 : Int32), (116 : Int32), (105 : Int32), (115 : Int32), (101 : Int32), (76 : Int32), (111 : Int32), (99 : Int32), (107 : Int32), (32 : Int32), (105 : Int32), (115 : Int32), (32 : Int32), (99 : Int32), (108 : Int32), (111 : Int32), (115 : Int32), (101 : Int32), (100 : Int32)] : List Int32).map (fun c => c.toInt8.toInt32))) (n := 37) g694 (Nat.le_trans Z0 (Nat.le_trans (Nat.le_trans (Nat.le_trans (Nat.le_trans (Nat.le_trans (Nat.le_trans (Nat.le_trans (Nat.le_trans (Nat.le_trans (Nat.le_trans (Nat.le_trans (Nat.le_trans (Nat.le_trans (Nat.le_trans (Nat.le_trans (Nat.le_trans (Nat.le_trans z548 z553) z560) z566) z572) z578) z584) z590) z595) z600) z605) z610) z615) z620) z640) z645) z682) z689)) A688 F696 F697 F702 (SCompact.ext O704.2) hCS rfl rfl (by decide) (by decide) hp699 rfl (by decide) (by decide)) (g := (mkF m 232 #[oI x1, oI x2, oI x3, oI x4, oI (3 : Int32), oI ch0, oI ch1, oI ch2, oR b547, oR b552, oR b644, oU, oU, oU] [(.ref b552), (.ref b688), (.ref b688)])) rfl (by rw [hml]; rfl) (Steps.refl _) (a := b688) (argsL := [(.ref b552)]) (rest := [(.ref b688)]) (lenOf pd_22 rfl) rfl (by show 2 * 0 + _ ≤ _; exact Nat.le_of_eq rfl) (hb hby at_232) (fun _ _ => ⟨rfl, e688, (by decide : 5 + 1 ≤ _), (by decide : 51 + 37 ≤ _)⟩)
    dsimp only [Pt.U, Pt.locs, Pt.cells, Pt.slots] at X698 l698 y698 z698 st698 hQ698
    subst l698 y698 z698
    obtain ⟨rfl, Nq698, K698, Ex698, Co698, t698, kb698, ga698, gb698, gn698, Va698, Av698⟩ := hQ698
    have N698 := Fr.app N653 Nq698
    have F705 := ThS.ext E688 Th681
    have Th706 := ThS.keep K698 (nsS (Exa.nostat A688) ns0) F705
    have z707 := K698.1
    have Sf708 := Safe.keep K698 (sfS Sf695 sf0) CC693.1 Sf690
    have Sf709 := Safe.keep K698 (sfS Sf695 sf0) CC693.1 Sf691
    have Sf710 := Safe.keep K698 (sfS Sf695 sf0) CC693.1 Sf692
    have Sf711 := Safe.keep K698 (sfS Sf695 sf0) CC693.1 Sf695
    have CC712 := CC693.trans (CHr.keep K698 (sfS Sf695 sf0) CC693.1)
    have g713 : n0 ≤ t698 := Nat.le_trans (Nat.le_trans Z0 (Nat.le_trans (Nat.le_trans (Nat.le_trans (Nat.le_trans (Nat.le_trans (Nat.le_trans (Nat.le_trans (Nat.le_trans (Nat.le_trans (Nat.le_trans (Nat.le_trans (Nat.le_trans (Nat.le_trans (Nat.le_trans (Nat.le_trans (Nat.le_trans (Nat.le_trans z548 z553) z560) z566) z572) z578) z584) z590) z595) z600) z605) z610) z615) z620) z640) z645) z682) z689)) gb698
    have e698 : T698.heap = T698.heap := rfl
    refine Wp.tr (S' := T698.setTop (mkF m 235 #[oI x1, oI x2, oI x3, oI x4, oI (3 : Int32), oI ch0, oI ch1, oI ch2, oR b547, oR b552, oR b644, oU, oU, oU] [(.ref b688)])) st698 ?_
    refine Wp.st (S' := T698.setTop (mkF m 237 #[oI x1, oI x2, oI x3, oI x4, oI (3 : Int32), oI ch0, oI ch1, oI ch2, oR b547, oR b552, oR b644, oR b688, oU, oU] [])) (fun tt_ kk_ => XS.astore X698.here hx rfl (hb hby at_235) rfl rfl (l' := #[oI x1, oI x2, oI x3, oI x4, oI (3 : Int32), oI ch0, oI ch1, oI ch2, oR b547, oR b552, oR b644, oR b688, oU, oU]) rfl kk_) ?_
    refine Wp.st (S' := T698.setTop (mkF m 239 #[oI x1, oI x2, oI x3, oI x4, oI (3 : Int32), oI ch0, oI ch1, oI ch2, oR b547, oR b552, oR b644, oR b688, oU, oU] [(.ref b644)])) (fun tt_ kk_ => XS.aload X698.here hx rfl (hb hby at_237) rfl rfl kk_) ?_
    have O715 := O704.keep K698 (allS g694 all0)
    have F716 := Ex653.ext E688
    have F717 := F716.keep K698
    have F718 := Va653.ext E688
    have F719 := F718.keep K698 (ninS (Nat.ne_of_lt (Nat.lt_of_lt_of_le A644.lt (Nat.le_trans z682 (Nat.le_of_eq g688.symm)))) nin0)
    have F720 := Co653.ext E688
    have F721 := F720.keep K698 (ninS (Nat.ne_of_lt (Nat.lt_of_lt_of_le A644.lt (Nat.le_trans z682 (Nat.le_of_eq g688.symm)))) nin0)
    have F722 := Av653.ext E688
    have F723 := F722.keep K698 (ninS (Nat.ne_of_lt (Nat.lt_of_lt_of_le Av653.lt (Nat.le_trans (Nat.le_refl _) (Nat.le_of_eq g688.symm)))) nin0)
    obtain ⟨vv714, _, ⟨T714, L714, k714, n714⟩, -, Xq714, sn714, gr714, ⟨Lc714, hQ714, l714, y714, z714, cr714⟩, st714⟩ := callSS X698 hx (y := (⟨"com/example/mortise_lock/mortiselock/redis/RedisCallException", "closed", "(Ljava/lang/String;)Lcom/example/mortise_lock/mortiselock/redis/RedisCallException;"⟩ : MethodName)) hown (mvT hZ (hw _ (List.mem_of_getElem? (i := 37) rfl))) (mvT hZ (hw _ (List.mem_of_getElem? (i := 38) rfl))) (mvT hZ (hw _ (List.mem_of_getElem? (i := 39) rfl))) (mvT hZ (hw _ (List.mem_of_getElem? (i := 40) rfl))) (by decide) (backOfSKH (W := 0) (rm8 l Z a0 hw [] b644 zcs t653 kb653 (3 : Int32) ((([(nar .char ch0), (nar .char ch1), (nar .char ch2)] : List Int32).map (fun c => c.toInt8.toInt32)).map Value.int) vu vs T698.heap n0 (Nat.le_trans Z0 (Nat.le_trans (Nat.le_trans (Nat.le_trans (Nat.le_trans (Nat.le_trans (Nat.le_trans (Nat.le_trans (Nat.le_trans (Nat.le_trans (Nat.le_trans (Nat.le_trans (Nat.le_trans (Nat.le_trans (Nat.le_trans (Nat.le_trans (Nat.le_trans (Nat.le_trans (Nat.le_trans z548 z553) z560) z566) z572) z578) z584) z590) z595) z600) z605) z610) z615) z620) z640) z645) z682) z689) z707)) O715 SCompact (hCS : ¬ zcs = 0) Th706 ((by assumption) : ∀ d ∈ Jvm.RoadKit.twoRefs, d.before a0 Z = true) ((by assumption) : l.stackTraces = true) SUn SSe hvu hvs F717 F719 F721 F723 ((by simp) : (3 : Int32) = (0 : Int32) ∨ (3 : Int32) = (1 : Int32) ∨ (3 : Int32) = (2 : Int32) ∨ (3 : Int32) = (3 : Int32))) hZ (hw _ (List.mem_of_getElem? (i := 40) rfl)) (hw _ (List.mem_of_getElem? (i := 39) rfl)) (by decide) (by decide) hEL CC712.1 hK.1 hK.2) (g := (mkF m 239 #[oI x1, oI x2, oI x3, oI x4, oI (3 : Int32), oI ch0, oI ch1, oI ch2, oR b547, oR b552, oR b644, oR b688, oU, oU] [(.ref b644)])) rfl (by rw [hml]; rfl) (argsL := [(.ref b644)]) (rest := []) (lenOf pd_23 rfl) rfl (by show 2 * 0 + _ ≤ _; exact Nat.le_of_eq rfl) (hb hby at_239) (fun _ _ => ⟨rfl, e698, (by decide : 6 + 11 ≤ _), (by decide : 88 + 3000 ≤ _)⟩)
    dsimp only [Pt.U, Pt.locs, Pt.cells, Pt.slots] at Xq714 sn714 gr714 l714 y714 z714 st714 hQ714 cr714
    subst l714 y714 z714
    obtain ⟨X714, hS714, hZ714, how714⟩ := rebS hS0 (by rw [e698]; exact (Nat.le_trans (Nat.le_refl _) (Nat.le_trans (Nat.le_trans (Nat.le_trans (Nat.le_trans (Nat.le_trans (Nat.le_trans (Nat.le_trans (Nat.le_trans (Nat.le_trans (Nat.le_trans (Nat.le_trans (Nat.le_trans (Nat.le_trans (Nat.le_trans (Nat.le_trans (Nat.le_trans (Nat.le_trans (Nat.le_trans z548 z553) z560) z566) z572) z578) z584) z590) z595) z600) z605) z610) z615) z620) z640) z645) z682) z689) z707))) Xq714 sn714 gr714 hZ hown
    obtain ⟨b724, b725, b726, c727, rfl, Nq714, K714, P714_0, P714_1, P714_2, P714_3, P714_4, P714_5, P714_6, P714_7⟩ := hQ714
    have N714 := Fr.app N698 Nq714
    have Th728 := ThS.keep K714 ns0 Th706
    have z729 := K714.1
    have Sf730 := cr714.safe (Nat.lt_of_lt_of_le V547.lt (Nat.le_trans (Nat.le_trans (Nat.le_trans (Nat.le_trans (Nat.le_trans (Nat.le_trans (Nat.le_trans (Nat.le_trans (Nat.le_trans (Nat.le_trans (Nat.le_trans (Nat.le_trans (Nat.le_trans (Nat.le_trans (Nat.le_trans (Nat.le_trans (Nat.le_trans z553 z560) z566) z572) z578) z584) z590) z595) z600) z605) z610) z615) z620) z640) z645) z682) z689) z707)) Sf708
    have Sf731 := cr714.safe (Nat.lt_of_lt_of_le V552.lt (Nat.le_trans (Nat.le_trans (Nat.le_trans (Nat.le_trans (Nat.le_trans (Nat.le_trans (Nat.le_trans (Nat.le_trans (Nat.le_trans (Nat.le_trans (Nat.le_trans (Nat.le_trans (Nat.le_trans (Nat.le_trans (Nat.le_trans (Nat.le_trans z560 z566) z572) z578) z584) z590) z595) z600) z605) z610) z615) z620) z640) z645) z682) z689) z707)) Sf709
    have Sf732 := cr714.safe (Nat.lt_of_lt_of_le A644.lt (Nat.le_trans (Nat.le_trans z682 z689) z707)) Sf710
    have Sf733 := cr714.safe (Nat.lt_of_lt_of_le A688.lt z707) Sf711
    have CC734 := CC712.trans cr714
    have e714 : T714.heap = T714.heap := rfl
    refine Wp.tr (S' := T714.setTop (mkF m 242 #[oI x1, oI x2, oI x3, oI x4, oI (3 : Int32), oI ch0, oI ch1, oI ch2, oR b547, oR b552, oR b644, oR b688, oU, oU] [(.ref b724)])) st714 ?_
    refine Wp.st (S' := T714.setTop (mkF m 244 #[oI x1, oI x2, oI x3, oI x4, oI (3 : Int32), oI ch0, oI ch1, oI ch2, oR b547, oR b552, oR b644, oR b688, oR b724, oU] [])) (fun tt_ kk_ => XS.astore X714.here hx rfl (hb hby at_242) rfl rfl (l' := #[oI x1, oI x2, oI x3, oI x4, oI (3 : Int32), oI ch0, oI ch1, oI ch2, oR b547, oR b552, oR b644, oR b688, oR b724, oU]) rfl kk_) ?_
    refine Wp.st (S' := T714.setTop (mkF m 246 #[oI x1, oI x2, oI x3, oI x4, oI (3 : Int32), oI ch0, oI ch1, oI ch2, oR b547, oR b552, oR b644, oR b688, oR b724, oU] [(.ref b724)])) (fun tt_ kk_ => XS.aload X714.here hx rfl (hb hby at_244) rfl rfl kk_) ?_
    refine Wp.st (S' := T714.setTop (mkF m 251 #[oI x1, oI x2, oI x3, oI x4, oI (3 : Int32), oI ch0, oI ch1, oI ch2, oR b547, oR b552, oR b644, oR b688, oR b724, oU] [])) (fun tt_ kk_ => XS.ifnonnullYes X714.here hx rfl (pc0 := 246) (pc' := 251) rfl (hb hby at_246) rfl (by decide) (by decide) kk_) ?_
    refine Wp.st (S' := T714.setTop (mkF m 253 #[oI x1, oI x2, oI x3, oI x4, oI (3 : Int32), oI ch0, oI ch1, oI ch2, oR b547, oR b552, oR b644, oR b688, oR b724, oU] [(.ref b724)])) (fun tt_ kk_ => XS.aload X714.here hx rfl (hb hby at_251) rfl rfl kk_) ?_
    obtain ⟨cq735, kq735, q735a, q735b, q735c⟩ := isOf hZ714 e714 P714_0
    obtain ⟨vv735, _, ⟨T735, L735, k735, n735⟩, -, X735, ⟨Lc735, hQ735, l735, y735, z735⟩, st735⟩ := X714.virtualBackUp hx (owner := "java/lang/Throwable") (x := (⟨"com/example/mortise_lock/mortiselock/redis/RedisCallException", "getCause", "()Ljava/lang/Throwable;"⟩ : MethodName)) (y := (⟨"java/lang/Throwable", "getCause", "()Ljava/lang/Throwable;"⟩ : MethodName)) how714 (mvT hZ714 (hw _ (List.mem_of_getElem? (i := 232) rfl))) (mvT hZ714 (hw _ (List.mem_of_getElem? (i := 233) rfl))) (mvT hZ714 (hw _ (List.mem_of_getElem? (i := 234) rfl))) (by decide) (mvT hZ714 (hw _ (List.mem_of_getElem? (i := 236) rfl))) (mvT hZ714 (hw _ (List.mem_of_getElem? (i := 235) rfl))) (gcBackPure (rm := ({} : Room)) (W := 0) hZ714 (hw _ (List.mem_of_getElem? (i := 237) rfl)) (hw _ (List.mem_of_getElem? (i := 235) rfl)) (hw _ (List.mem_of_getElem? (i := 193) rfl)) (hw _ (List.mem_of_getElem? (i := 196) rfl)) P714_1 P714_3 rfl (by decide) (by decide)) q735a q735c (g := (mkF m 253 #[oI x1, oI x2, oI x3, oI x4, oI (3 : Int32), oI ch0, oI ch1, oI ch2, oR b547, oR b552, oR b644, oR b688, oR b724, oU] [(.ref b724)])) rfl (by rw [hml]; rfl) (Steps.refl _) (argsL := []) (rest := []) (lenOf pd_24 rfl) rfl (by show 2 * 0 + _ ≤ _; exact Nat.le_of_eq rfl) (hb hby at_253) (fun _ _ => ⟨rfl, e714, (by decide : 17 + 0 ≤ _), (by decide : 3088 + 0 ≤ _)⟩)
    dsimp only [Pt.U, Pt.locs, Pt.cells, Pt.slots] at X735 l735 y735 z735 st735 hQ735
    subst l735 y735 z735
    rw [gcv_null] at Lc735
    subst Lc735
    have e735 := hQ735
    refine Wp.tr (S' := T735.setTop (mkF m 256 #[oI x1, oI x2, oI x3, oI x4, oI (3 : Int32), oI ch0, oI ch1, oI ch2, oR b547, oR b552, oR b644, oR b688, oR b724, oU] [.null])) st735 ?_
    refine Wp.st (S' := T735.setTop (mkF m 261 #[oI x1, oI x2, oI x3, oI x4, oI (3 : Int32), oI ch0, oI ch1, oI ch2, oR b547, oR b552, oR b644, oR b688, oR b724, oU] [])) (fun tt_ kk_ => XS.ifnullYes X735.here hx rfl (pc0 := 256) (pc' := 261) rfl (hb hby at_256) rfl (by decide) (by decide) kk_) ?_
    refine Wp.st (S' := T735.setTop (mkF m 263 #[oI x1, oI x2, oI x3, oI x4, oI (3 : Int32), oI ch0, oI ch1, oI ch2, oR b547, oR b552, oR b644, oR b688, oR b724, oU] [(.ref b724)])) (fun tt_ kk_ => XS.aload X735.here hx rfl (hb hby at_261) rfl rfl kk_) ?_
    obtain ⟨cq736, kq736, q736a, q736b, q736c⟩ := isOf hZ714 e735 P714_0
    obtain ⟨vv736, _, ⟨T736, L736, k736, n736⟩, -, X736, ⟨Lc736, hQ736, l736, y736, z736⟩, st736⟩ := X735.virtualBackUp hx (owner := "java/lang/Throwable") (x := (⟨"com/example/mortise_lock/mortiselock/redis/RedisCallException", "getMessage", "()Ljava/lang/String;"⟩ : MethodName)) (y := (⟨"java/lang/Throwable", "getMessage", "()Ljava/lang/String;"⟩ : MethodName)) how714 (mvT hZ714 (hw _ (List.mem_of_getElem? (i := 238) rfl))) (mvT hZ714 (hw _ (List.mem_of_getElem? (i := 239) rfl))) (mvT hZ714 (hw _ (List.mem_of_getElem? (i := 240) rfl))) (by decide) (mvT hZ714 (hw _ (List.mem_of_getElem? (i := 242) rfl))) (mvT hZ714 (hw _ (List.mem_of_getElem? (i := 241) rfl))) (backOf (W := 0) (rm39 l Z a0 hw [] b724 b725 T714.heap n0 (Nat.le_trans Z0 (Nat.le_trans (Nat.le_trans (Nat.le_trans (Nat.le_trans (Nat.le_trans (Nat.le_trans (Nat.le_trans (Nat.le_trans (Nat.le_trans (Nat.le_trans (Nat.le_trans (Nat.le_trans (Nat.le_trans (Nat.le_trans (Nat.le_trans (Nat.le_trans (Nat.le_trans (Nat.le_trans (Nat.le_trans z548 z553) z560) z566) z572) z578) z584) z590) z595) z600) z605) z610) z615) z620) z640) z645) z682) z689) z707) z729)) P714_2) hZ714 (hw _ (List.mem_of_getElem? (i := 243) rfl)) (hw _ (List.mem_of_getElem? (i := 193) rfl)) (by decide) (by decide)) q736a q736c (g := (mkF m 263 #[oI x1, oI x2, oI x3, oI x4, oI (3 : Int32), oI ch0, oI ch1, oI ch2, oR b547, oR b552, oR b644, oR b688, oR b724, oU] [(.ref b724)])) rfl (by rw [hml]; rfl) (Steps.refl _) (argsL := []) (rest := []) (lenOf pd_19 rfl) rfl (by show 2 * 0 + _ ≤ _; exact Nat.le_of_eq rfl) (hb hby at_263) (fun _ _ => ⟨rfl, e735, (by decide : 17 + 0 ≤ _), (by decide : 3088 + 0 ≤ _)⟩)
    dsimp only [Pt.U, Pt.locs, Pt.cells, Pt.slots] at X736 l736 y736 z736 st736 hQ736
    subst l736 y736 z736
    obtain ⟨rfl, Nq736, e736⟩ := hQ736
    have N736 := Fr.app N714 Nq736
    refine Wp.tr (S' := T736.setTop (mkF m 266 #[oI x1, oI x2, oI x3, oI x4, oI (3 : Int32), oI ch0, oI ch1, oI ch2, oR b547, oR b552, oR b644, oR b688, oR b724, oU] [(.ref b725)])) st736 ?_
    refine Wp.st (S' := T736.setTop (mkF m 268 #[oI x1, oI x2, oI x3, oI x4, oI (3 : Int32), oI ch0, oI ch1, oI ch2, oR b547, oR b552, oR b644, oR b688, oR b724, oR b725] [])) (fun tt_ kk_ => XS.astore X736.here hx rfl (hb hby at_266) rfl rfl (l' := #[oI x1, oI x2, oI x3, oI x4, oI (3 : Int32), oI ch0, oI ch1, oI ch2, oR b547, oR b552, oR b644, oR b688, oR b724, oR b725]) rfl kk_) ?_
    refine Wp.st (S' := T736.setTop (mkF m 270 #[oI x1, oI x2, oI x3, oI x4, oI (3 : Int32), oI ch0, oI ch1, oI ch2, oR b547, oR b552, oR b644, oR b688, oR b724, oR b725] [(.ref b725)])) (fun tt_ kk_ => XS.aload X736.here hx rfl (hb hby at_268) rfl rfl kk_) ?_
    refine Wp.st (S' := T736.setTop (mkF m 275 #[oI x1, oI x2, oI x3, oI x4, oI (3 : Int32), oI ch0, oI ch1, oI ch2, oR b547, oR b552, oR b644, oR b688, oR b724, oR b725] [])) (fun tt_ kk_ => XS.ifnonnullYes X736.here hx rfl (pc0 := 270) (pc' := 275) rfl (hb hby at_270) rfl (by decide) (by decide) kk_) ?_
    have em : own_msg ((([(nar .char ch0), (nar .char ch1), (nar .char ch2)] : List Int32).map (fun c => c.toInt8.toInt32)).map Value.int) (3 : Int32) = (own_P.map Value.int ++ own_bytes [(nar .char ch0), (nar .char ch1), (nar .char ch2)] ++ own_Sf.map Value.int) ++ List.replicate 27 (.int 0) := own_em3 _ _ _
    have eb : own_bytes (own_P ++ [(nar .char ch0), (nar .char ch1), (nar .char ch2)] ++ own_Sf) = own_P.map Value.int ++ own_bytes [(nar .char ch0), (nar .char ch1), (nar .char ch2)] ++ own_Sf.map Value.int := by unfold own_bytes; rw [List.map_append, List.map_append, List.map_append, List.map_append, show own_P.map (fun c => c.toInt8.toInt32) = own_P by decide +kernel, show own_Sf.map (fun c => c.toInt8.toInt32) = own_Sf by decide +kernel]
    have P2 : Arv Z T714.heap b726 c727 .byte (37 : Int32) (own_msg ((([(nar .char ch0), (nar .char ch1), (nar .char ch2)] : List Int32).map (fun c => c.toInt8.toInt32)).map Value.int) (3 : Int32)) (.int (0 : Int32)) := P714_7
    rw [em] at P2
    have Vmm : Arv Z T714.heap b726 c727 .byte (37 : Int32) (own_bytes (own_P ++ [(nar .char ch0), (nar .char ch1), (nar .char ch2)] ++ own_Sf)) (.int (0 : Int32)) := Arv.pad P2 (fun i => by rw [eb]; exact own_padz _ _ i)
    have hlm : (own_P ++ [(nar .char ch0), (nar .char ch1), (nar .char ch2)] ++ own_Sf) = ([(108 : Int32), (111 : Int32), (99 : Int32), (107 : Int32), (32 : Int32), (39 : Int32), (nar .char ch0), (nar .char ch1), (nar .char ch2), (39 : Int32), (58 : Int32), (32 : Int32), (105 : Int32), (116 : Int32), (115 : Int32), (32 : Int32), (77 : Int32), (111 : Int32), (114 : Int32), (116 : Int32), (105 : Int32), (115 : Int32), (101 : Int32), (76 : Int32), (111 : Int32), (99 : Int32), (107 : Int32), (32 : Int32), (105 : Int32), (115 : Int32), (32 : Int32), (99 : Int32), (108 : Int32), (111 : Int32), (115 : Int32), (101 : Int32), (100 : Int32)] : List Int32) := rfl
    have hpm : ∀ c ∈ (own_P ++ [(nar .char ch0), (nar .char ch1), (nar .char ch2)] ++ own_Sf), ¬ c < 0 ∧ ¬ (255 : Int32) < c := by rw [hlm]; exact hp699
    refine Wp.st (S' := T736.setTop (mkF m 277 #[oI x1, oI x2, oI x3, oI x4, oI (3 : Int32), oI ch0, oI ch1, oI ch2, oR b547, oR b552, oR b644, oR b688, oR b724, oR b725] [(.ref b725)])) (fun tt_ kk_ => XS.aload X736.here hx rfl (hb hby at_275) rfl rfl kk_) ?_
    have O738 := O715.keep K714 all0
    obtain ⟨cq737, kq737, q737a, q737b, q737c⟩ := isOf hZ714 e736 P714_4
    obtain ⟨vv737, _, ⟨T737, L737, k737, n737⟩, -, X737, ⟨Lc737, hQ737, l737, y737, z737⟩, st737⟩ := X736.virtualBack hx (y := (⟨"java/lang/String", "length", "()I"⟩ : MethodName)) (z := (⟨"java/lang/String", "length", "()I"⟩ : MethodName)) how714 (mvT hZ714 (hw _ (List.mem_of_getElem? (i := 244) rfl))) (mvT hZ714 (hw _ (List.mem_of_getElem? (i := 73) rfl))) (notFace_of_selects (args := #[]) (mvT hZ714 (hw _ (List.mem_of_getElem? (i := 75) rfl)))) (mvT hZ714 (hw _ (List.mem_of_getElem? (i := 75) rfl))) (mvT hZ714 (hw _ (List.mem_of_getElem? (i := 74) rfl))) (by decide) (backOf (W := 0) (rm13 l Z a0 hw [] b725 zcs b726 c727 (37 : Int32) (own_bytes (own_P ++ [(nar .char ch0), (nar .char ch1), (nar .char ch2)] ++ own_Sf)) T714.heap n0 (Nat.le_trans Z0 (Nat.le_trans (Nat.le_trans (Nat.le_trans (Nat.le_trans (Nat.le_trans (Nat.le_trans (Nat.le_trans (Nat.le_trans (Nat.le_trans (Nat.le_trans (Nat.le_trans (Nat.le_trans (Nat.le_trans (Nat.le_trans (Nat.le_trans (Nat.le_trans (Nat.le_trans (Nat.le_trans (Nat.le_trans z548 z553) z560) z566) z572) z578) z584) z590) z595) z600) z605) z610) z615) z620) z640) z645) z682) z689) z707) z729)) O738 SCompact (hCS : ¬ zcs = 0) P714_4 P714_5 P714_6 Vmm) hZ714 (hw _ (List.mem_of_getElem? (i := 76) rfl)) (hw _ (List.mem_of_getElem? (i := 7) rfl)) (by decide) (by decide)) q737a q737c (g := (mkF m 277 #[oI x1, oI x2, oI x3, oI x4, oI (3 : Int32), oI ch0, oI ch1, oI ch2, oR b547, oR b552, oR b644, oR b688, oR b724, oR b725] [(.ref b725)])) rfl (by rw [hml]; rfl) (Steps.refl _) (argsL := []) (rest := []) (lenOf pd_7 rfl) rfl (by show 2 * 0 + _ ≤ _; exact Nat.le_of_eq rfl) (hb hby at_277) (fun _ _ => ⟨rfl, e736, (by decide : 17 + 0 ≤ _), (by decide : 3088 + 0 ≤ _)⟩)
    dsimp only [Pt.U, Pt.locs, Pt.cells, Pt.slots] at X737 l737 y737 z737 st737 hQ737
    subst l737 y737 z737
    obtain ⟨rfl, Nq737, e737⟩ := hQ737
    have N737 := Fr.app N736 Nq737
    refine Wp.tr (S' := T737.setTop (mkF m 280 #[oI x1, oI x2, oI x3, oI x4, oI (3 : Int32), oI ch0, oI ch1, oI ch2, oR b547, oR b552, oR b644, oR b688, oR b724, oR b725] [(.int (37 : Int32))])) st737 ?_
    refine Wp.st (S' := T737.setTop (mkF m 282 #[oI x1, oI x2, oI x3, oI x4, oI (3 : Int32), oI ch0, oI ch1, oI ch2, oR b547, oR b552, oR b644, oR b688, oR b724, oR b725] [(.int (34 : Int32)), (.int (37 : Int32))])) (fun tt_ kk_ => XS.bipush X737.here hx rfl (hb hby at_280) kk_) ?_
    refine Wp.st (S' := T737.setTop (mkF m 284 #[oI x1, oI x2, oI x3, oI x4, oI (3 : Int32), oI ch0, oI ch1, oI ch2, oR b547, oR b552, oR b644, oR b688, oR b724, oR b725] [(.int (3 : Int32)), (.int (34 : Int32)), (.int (37 : Int32))])) (fun tt_ kk_ => XS.iload X737.here hx rfl (hb hby at_282) rfl  kk_) ?_
    refine Wp.st (S' := T737.setTop (mkF m 285 #[oI x1, oI x2, oI x3, oI x4, oI (3 : Int32), oI ch0, oI ch1, oI ch2, oR b547, oR b552, oR b644, oR b688, oR b724, oR b725] [(.int ((34 : Int32) + (3 : Int32))), (.int (37 : Int32))])) (fun tt_ kk_ => XS.iadd X737.here hx rfl (hb hby at_284) rfl kk_) ?_
    rw [(by decide : ((34 : Int32) + (3 : Int32)) = (37 : Int32))]
    refine Wp.st (S' := T737.setTop (mkF m 288 #[oI x1, oI x2, oI x3, oI x4, oI (3 : Int32), oI ch0, oI ch1, oI ch2, oR b547, oR b552, oR b644, oR b688, oR b724, oR b725] [])) (fun tt_ kk_ => XS.icmpNo X737.here hx rfl (hb hby at_285) rfl (teq ((by decide) : (37 : Int32) = (37 : Int32))).2 kk_) ?_
    refine Wp.st (S' := T737.setTop (mkF m 290 #[oI x1, oI x2, oI x3, oI x4, oI (3 : Int32), oI ch0, oI ch1, oI ch2, oR b547, oR b552, oR b644, oR b688, oR b724, oR b725] [(.ref b725)])) (fun tt_ kk_ => XS.aload X737.here hx rfl (hb hby at_288) rfl rfl kk_) ?_
    refine Wp.st (S' := T737.setTop (mkF m 292 #[oI x1, oI x2, oI x3, oI x4, oI (3 : Int32), oI ch0, oI ch1, oI ch2, oR b547, oR b552, oR b644, oR b688, oR b724, oR b725] [(.ref b688), (.ref b725)])) (fun tt_ kk_ => XS.aload X737.here hx rfl (hb hby at_290) rfl rfl kk_) ?_
    have F740 := Ex698.keep K714
    have F741 := Va698.keep K714 nin0
    have F742 := Co698.keep K714 nin0
    have F743 := Av698.keep K714 nin0
    obtain ⟨cq739, kq739, q739a, q739b, q739c⟩ := isOf hZ714 e737 P714_4
    obtain ⟨vv739, _, ⟨T739, L739, k739, n739⟩, -, X739, ⟨Lc739, hQ739, l739, y739, z739⟩, st739⟩ := X737.virtualBack hx (y := (⟨"java/lang/String", "equals", "(Ljava/lang/Object;)Z"⟩ : MethodName)) (z := (⟨"java/lang/String", "equals", "(Ljava/lang/Object;)Z"⟩ : MethodName)) how714 (mvT hZ714 (hw _ (List.mem_of_getElem? (i := 245) rfl))) (mvT hZ714 (hw _ (List.mem_of_getElem? (i := 246) rfl))) (notFace_of_selects (args := #[]) (mvT hZ714 (hw _ (List.mem_of_getElem? (i := 248) rfl)))) (mvT hZ714 (hw _ (List.mem_of_getElem? (i := 248) rfl))) (mvT hZ714 (hw _ (List.mem_of_getElem? (i := 247) rfl))) (by decide) (StrChars.Road.eqW (W := 0) hZ714 (fun d hd => hw d ((by decide +kernel : ∀ d ∈ StrChars.Road.wordsEq, d ∈ tables_1) d hd)) (kI := 4) (hw _ (List.mem_of_getElem? (i := 6) rfl)) P714_4 P714_5 P714_6 Vmm (own_cod hpm) (own_up hpm) (Nat.le_of_ble_eq_true rfl) F740 F741 F742 F743 (own_cod hp699) (own_up hp699) (Nat.le_of_ble_eq_true rfl) (SCompact.ext O738.2) hCS (by decide) (by decide)) q739a q739c (g := (mkF m 292 #[oI x1, oI x2, oI x3, oI x4, oI (3 : Int32), oI ch0, oI ch1, oI ch2, oR b547, oR b552, oR b644, oR b688, oR b724, oR b725] [(.ref b688), (.ref b725)])) rfl (by rw [hml]; rfl) (Steps.refl _) (argsL := [(.ref b688)]) (rest := []) (lenOf pd_25 rfl) rfl (by show 2 * 0 + _ ≤ _; exact Nat.le_of_eq rfl) (hb hby at_292) (fun _ _ => ⟨rfl, e737, (by decide : 17 + 0 ≤ _), (by decide : 3088 + 0 ≤ _)⟩)
    dsimp only [Pt.U, Pt.locs, Pt.cells, Pt.slots] at X739 l739 y739 z739 st739 hQ739
    subst l739 y739 z739
    obtain ⟨hcase739, rfl, e739⟩ := hQ739
    have hv739 : vv739 = some (.int (if (own_P ++ [(nar .char ch0), (nar .char ch1), (nar .char ch2)] ++ own_Sf) = ([(108 : Int32), (111 : Int32), (99 : Int32), (107 : Int32), (32 : Int32), (39 : Int32), (nar .char ch0), (nar .char ch1), (nar .char ch2), (39 : Int32), (58 : Int32), (32 : Int32), (105 : Int32), (116 : Int32), (115 : Int32), (32 : Int32), (77 : Int32), (111 : Int32), (114 : Int32), (116 : Int32), (105 : Int32), (115 : Int32), (101 : Int32), (76 : Int32), (111 : Int32), (99 : Int32), (107 : Int32), (32 : Int32), (105 : Int32), (115 : Int32), (32 : Int32), (99 : Int32), (108 : Int32), (111 : Int32), (115 : Int32), (101 : Int32), (100 : Int32)] : List Int32) then (1 : Int32) else (0 : Int32))) := by
      rcases hcase739 with ⟨q, r⟩ | ⟨q, r⟩
      · rw [q, if_pos r]
      · rw [q, if_neg r]
    subst hv739
    have N739 := Fr.app N737 (Fr.nil n0)
    refine Wp.tr (S' := T739.setTop (mkF m 295 #[oI x1, oI x2, oI x3, oI x4, oI (3 : Int32), oI ch0, oI ch1, oI ch2, oR b547, oR b552, oR b644, oR b688, oR b724, oR b725] [(.int (if (own_P ++ [(nar .char ch0), (nar .char ch1), (nar .char ch2)] ++ own_Sf) = ([(108 : Int32), (111 : Int32), (99 : Int32), (107 : Int32), (32 : Int32), (39 : Int32), (nar .char ch0), (nar .char ch1), (nar .char ch2), (39 : Int32), (58 : Int32), (32 : Int32), (105 : Int32), (116 : Int32), (115 : Int32), (32 : Int32), (77 : Int32), (111 : Int32), (114 : Int32), (116 : Int32), (105 : Int32), (115 : Int32), (101 : Int32), (76 : Int32), (111 : Int32), (99 : Int32), (107 : Int32), (32 : Int32), (105 : Int32), (115 : Int32), (32 : Int32), (99 : Int32), (108 : Int32), (111 : Int32), (115 : Int32), (101 : Int32), (100 : Int32)] : List Int32) then (1 : Int32) else (0 : Int32)))])) st739 ?_
    rw [(if_pos hlm : (if (own_P ++ [(nar .char ch0), (nar .char ch1), (nar .char ch2)] ++ own_Sf) = ([(108 : Int32), (111 : Int32), (99 : Int32), (107 : Int32), (32 : Int32), (39 : Int32), (nar .char ch0), (nar .char ch1), (nar .char ch2), (39 : Int32), (58 : Int32), (32 : Int32), (105 : Int32), (116 : Int32), (115 : Int32), (32 : Int32), (77 : Int32), (111 : Int32), (114 : Int32), (116 : Int32), (105 : Int32), (115 : Int32), (101 : Int32), (76 : Int32), (111 : Int32), (99 : Int32), (107 : Int32), (32 : Int32), (105 : Int32), (115 : Int32), (32 : Int32), (99 : Int32), (108 : Int32), (111 : Int32), (115 : Int32), (101 : Int32), (100 : Int32)] : List Int32) then (1 : Int32) else (0 : Int32)) = (1 : Int32))]
    refine Wp.st (S' := T739.setTop (mkF m 298 #[oI x1, oI x2, oI x3, oI x4, oI (3 : Int32), oI ch0, oI ch1, oI ch2, oR b547, oR b552, oR b644, oR b688, oR b724, oR b725] [])) (fun tt_ kk_ => XS.ifNo X739.here hx rfl (hb hby at_295) rfl ((if0 _ _).trans (feq ((by decide) : ¬ ((1 : Int32) = (0 : Int32)))).1) kk_) ?_
    refine Wp.st (S' := T739.setTop (mkF m 299 #[oI x1, oI x2, oI x3, oI x4, oI (3 : Int32), oI ch0, oI ch1, oI ch2, oR b547, oR b552, oR b644, oR b688, oR b724, oR b725] [(.int (1 : Int32))])) (fun tt_ kk_ => XS.iconst X739.here hx rfl (hb hby at_298) kk_) ?_
    refine Wp.st (S' := T739.setTop (mkF m 303 #[oI x1, oI x2, oI x3, oI x4, oI (3 : Int32), oI ch0, oI ch1, oI ch2, oR b547, oR b552, oR b644, oR b688, oR b724, oR b725] [(.int (1 : Int32))])) (fun tt_ kk_ => XS.goto X739.here hx rfl (pc0 := 299) (pc' := 303) rfl (hb hby at_299) (by decide) (by decide) kk_) ?_
    have K744 := Keep.refl h0 []
    have K745 := K744.ext E547
    have K746 := K745.ext E552
    have K747 := K746.wr W559 (Or.inr (Nat.le_trans (Nat.le_refl _) (Nat.le_of_eq g547.symm)))
    have K748 := K747.wr W565 (Or.inr (Nat.le_trans z548 (Nat.le_of_eq g552.symm)))
    have K749 := K748.wr W571 (Or.inr (Nat.le_trans (Nat.le_refl _) (Nat.le_of_eq g547.symm)))
    have K750 := K749.wr W577 (Or.inr (Nat.le_trans z548 (Nat.le_of_eq g552.symm)))
    have K751 := K750.wr W583 (Or.inr (Nat.le_trans (Nat.le_refl _) (Nat.le_of_eq g547.symm)))
    have K752 := K751.wr W589 (Or.inr (Nat.le_trans z548 (Nat.le_of_eq g552.symm)))
    have K753 := K752.wr W594 (Or.inr (Nat.le_trans z548 (Nat.le_of_eq g552.symm)))
    have K754 := K753.wr W599 (Or.inr (Nat.le_trans z548 (Nat.le_of_eq g552.symm)))
    have K755 := K754.wr W604 (Or.inr (Nat.le_trans z548 (Nat.le_of_eq g552.symm)))
    have K756 := K755.wr W609 (Or.inr (Nat.le_trans z548 (Nat.le_of_eq g552.symm)))
    have K757 := K756.wr W614 (Or.inr (Nat.le_trans z548 (Nat.le_of_eq g552.symm)))
    have K758 := K757.wr W619 (Or.inr (Nat.le_trans z548 (Nat.le_of_eq g552.symm)))
    have K759 := K758.trans K624 (allS (Or.inr (Nat.le_trans z548 (Nat.le_of_eq g552.symm))) all0)
    have K760 := K759.ext E644
    have K761 := K760.trans K653 (allS (Or.inr (Nat.le_trans (Nat.le_trans (Nat.le_trans (Nat.le_trans (Nat.le_trans (Nat.le_trans (Nat.le_trans (Nat.le_trans (Nat.le_trans (Nat.le_trans (Nat.le_trans (Nat.le_trans (Nat.le_trans (Nat.le_trans (Nat.le_trans z548 z553) z560) z566) z572) z578) z584) z590) z595) z600) z605) z610) z615) z620) z640) (Nat.le_of_eq g644.symm))) all0)
    have K762 := K761.ext E688
    have K763 := K762.trans K698 (allS (Or.inr (Nat.le_trans (Nat.le_trans (Nat.le_trans (Nat.le_trans (Nat.le_trans (Nat.le_trans (Nat.le_trans (Nat.le_trans (Nat.le_trans (Nat.le_trans (Nat.le_trans (Nat.le_trans (Nat.le_trans (Nat.le_trans (Nat.le_trans (Nat.le_trans (Nat.le_trans z548 z553) z560) z566) z572) z578) z584) z590) z595) z600) z605) z610) z615) z620) z640) z645) z682) (Nat.le_of_eq g688.symm))) all0)
    have K764 := K763.trans K714 all0
    exact Wp.retW X739 hlk hS714 (by rw [e739]; exact (Nat.le_refl _)) (v := (some (.int (1 : Int32)))) (fun h => by rw [Bd.returns] at h; cases h) (fun fs hr => retN (z := (1 : Int32)) X739 hx (t := .boolean) Bd.returns (by simp) (hb hby at_303) hr) (by decide) (by decide) (show Q_rm0 Z x1 x2 x3 x4 zcs vu vs h0 n0 _ T739.heap _ by rw [e739]; exact ⟨rfl, N739, K764⟩)
set_option maxRecDepth 65536 in
set_option maxHeartbeats 40000000 in
theorem comes_1 {Post : Tables → Env → Array Value → State → Outcome → State → Prop} (hpost : ∀ tb e args s v u, (limb_1_1.after args s (.returned v) u = true ∧ limb_1_2.after args s (.returned v) u = true ∧ True) → ReturnedEndW s (.returned v) u (Jvm.fieldLocs frame_1_writes args s ++ Jvm.arrayLocs frame_1_arrays args s ++ Jvm.staticLocs frame_1_statics s) 40 9088 → Post tb e args s (.returned v) u) :
    ArmFor flags0 classFile x code maxLocals ret World_1 tables_1 room_1 Calls_1 rest_1 Pre_1 Post := by
  intro l hfl _ _ p e ha hc hk s m args below hf hA hF happ hP
  obtain ⟨hcalls, hrest, hpre⟩ := hP
  obtain ⟨-, -, -, hnamed, -, -, -, hat⟩ := (Spec.applies_iff hf).mp happ
  obtain ⟨hg, hn⟩ := and_e (Cond.before_iff.mp (show (Jvm.Cond.and given_1 narrow_1).before args s = true from hpre))
  obtain ⟨q1, q2⟩ := and_e hg
  obtain ⟨w0, w1, w2, w3, rfl⟩ : ∃ w0 w1 w2 w3 : Value, args = #[w0, w1, w2, w3] := by
    have hs : args.size = 4 := by simpa [Cond.value, given_1] using q1
    obtain ⟨L⟩ := args
    match L, hs with
    | [w0, w1, w2, w3], _ => exact ⟨w0, w1, w2, w3, rfl⟩
  obtain ⟨q3, q4⟩ := and_e q2
  obtain ⟨q5, q6⟩ := and_e q4
  obtain ⟨q7, q8⟩ := and_e q6
  have hw := fun d (hd : d ∈ tables_1) => atoms_spec (ws := Jvm.Cond.code x code maxLocals ret :: tables_1) hat d (List.mem_cons_of_mem _ hd)
  have hfit : Fit s := fun {y c} hc i hi => by
    obtain ⟨ha, rfl⟩ := Array.getElem?_eq_some_iff.mp hc
    have q := List.all_eq_true.mp ((Array.all_eq_true_iff_forall_mem.mp hF) _ (Array.getElem_mem ha)) i (List.mem_range.mpr hi)
    simpa [Array.getElem?_eq_getElem hi] using q
  obtain ⟨hsets, hown0⟩ := atoms_of _ (rest_1_c_eq ▸ (show rest_1_c.before _ s = true from hrest))
  have hr0 := Cond.before_iff.mp hown0
  obtain ⟨zcs, evcs⟩ := is_v (Cond.before_iff.mp (hsets _ (List.mem_of_getElem? (i := 1) rfl)))
  have SCompact := Sta.start evcs (Or.inl (hsets _ (List.mem_of_getElem? (i := 0) rfl)))
  have hCS := gotF (Cond.eq_ints evcs (Term.int_eval (0))) (not_v (Cond.before_iff.mp (hsets _ (List.mem_of_getElem? (i := 2) rfl))))
  have CH0 : CHv s own_EL s.vm s.heap := CHv.start (own_EW hw) (fun p hp => hcalls.2.2.1 p ((by decide : ∀ p ∈ own_EL, p ∈ consts_1) p hp)) (hsets _ (List.mem_of_getElem? (i := 2) rfl)) (hw _ (List.mem_of_getElem? (i := 19) rfl)) (hw _ (List.mem_of_getElem? (i := 6) rfl))
  have PT := ThS.start (Z := s)
  have hTR : ∀ d ∈ Jvm.RoadKit.twoRefs, d.before _ s = true := fun d hd => hsets d ((by decide +kernel : ∀ d ∈ Jvm.RoadKit.twoRefs, d ∈ jdkStatics_1) d hd)
  obtain ⟨vu, evvu, hvu⟩ := own_isref (Cond.before_iff.mp (hsets _ (List.mem_of_getElem? (i := 16) rfl)))
  have SUn := Sta.start evvu (Or.inl (hsets _ (List.mem_of_getElem? (i := 15) rfl)))
  obtain ⟨vs, evvs, hvs⟩ := own_isref (Cond.before_iff.mp (hsets _ (List.mem_of_getElem? (i := 21) rfl)))
  have SSe := Sta.start evvs (Or.inl (hsets _ (List.mem_of_getElem? (i := 20) rfl)))
  have hl : l.stackTraces = true := by unfold Launch.stackTraces; rw [hfl]; decide
  obtain ⟨i0, ei0⟩ := is_v q3
  obtain rfl : w0 = (.int i0) := Option.some.inj ei0
  obtain ⟨i1, ei1⟩ := is_v q5
  obtain rfl : w1 = (.int i1) := Option.some.inj ei1
  obtain ⟨i2, ei2⟩ := is_v q7
  obtain rfl : w2 = (.int i2) := Option.some.inj ei2
  obtain ⟨i3, ei3⟩ := is_v q8
  obtain rfl : w3 = (.int i3) := Option.some.inj ei3
  obtain ⟨n, o, h1, h2, h3, _, L, rfl, ⟨rfl, N, -⟩, hq⟩ := rm0 l s _ hw tables_1 i0 i1 i2 i3 zcs vu vs s.heap s.heap.size (Nat.le_refl _) (Old.start s) SCompact hCS PT hTR hl SUn SSe hvu hvs p e ha hc hk s m _ below hf ((Spec.applies_iff_loose hf).mp happ).1 ⟨rfl, State.Warmed39.refl s, rfl, CH0⟩ ⟨MethodsKnown_of_tablesKnown hcalls.2.1, FramesKnown_of_framesKnown hcalls.1 hf⟩
  refine ⟨n, _, h1, h2, h3, hpost _ _ _ _ _ _ ⟨Cond.after_iff.mpr rfl, Cond.after_iff.mpr (eq_i res_at (Term.int_eval (1)) rfl), trivial⟩ ⟨hq.1, hq.2.1, hq.2.2.1, (hq.2.2.2.sift fun y hy => Or.inr (N y hy)).mono (by decide) (by decide)⟩⟩
theorem main_1_1 : Claimed_1_1 := comes_1 fun _ _ _ _ _ _ h hF => ⟨h.1, hF⟩
theorem main_1_2 : Claimed_1_2 := comes_1 fun _ _ _ _ _ _ h hF => ⟨h.2.1, hF⟩
end Jvm.Pilot.@@N@@
namespace Jvm.Pilot.@@N@@
open Jvm Jvm.ClassFile Sem Op Lib Jvm.Free Jvm.Stand Jvm.Pilot.@@N@@.Jvm.D
/-! MADE BY PROGRAM (witnessworld.py) out of the Statement's table words and the real class files: 42 classes; the members and pool entries that the words name. The judged class is class 1, her method 1. -/
namespace start1
open Jvm.ClassFile
def u (s : String) : CpInfo := .utf8 (stringToUtf16 s)
/-- a pool by its gaps: so many unusable entries, then the entry; so many at the end -/
def gap : Nat → List CpInfo → List CpInfo
  | 0, r => r
  | n + 1, r => .unusable :: gap n r
def poolList (es : List (Nat × CpInfo)) (last : Nat) : List CpInfo := es.foldr (fun e r => gap e.1 (e.2 :: r)) (gap last [])
def pool (es : List (Nat × CpInfo)) (last : Nat) : Array CpInfo := ⟨poolList es last⟩
def fileOf (pool : Array CpInfo) (this : Nat) (attrs : Array Attribute := #[]) (ms : Array MethodInfo := #[]) (fl : Nat := 33) (sup : Nat := 0) (ifs : Array Nat := #[]) (fds : Array FieldInfo := #[]) : ClassFile where
  minorVersion := 0
  majorVersion := 65
  constantPool := pool
  accessFlags := fl
  thisClass := this
  superClass := sup
  interfaces := ifs
  fields := fds
  methods := ms
  attributes := attrs
def plain (name : String) (sup : Option ClassId) : Class where
  name := name
  kind := .ordinary
  loader := none
  accessFlags := 33
  super := sup
  interfaces := #[]
  cf := none
  fields := #[]
  methods := #[]
  instanceTypes := #[]
  staticTypes := #[]
  resolved := #[]
  callSites := []
  init := .initialized
  statics := none
  mirror := none

def pool0 : Array CpInfo := pool [(5, u "<init>"), (0, u "()V"), (1, .class_ 10), (1, u "java/lang/Object"), (85, u "clone"), (0, u "()Ljava/lang/Object;")] 26

def k0c0 : Code := { maxStack := 0, maxLocals := 1, code := object_method_1_code, exceptionTable := #[], attributes := #[] }
def k0m0 : Method := { name := "<init>", desc := "()V", sig := { parameters := [], returnType := none }, accessFlags := 1, code := some k0c0 }
def k0m1 : Method := { name := "clone", desc := "()Ljava/lang/Object;", sig := { parameters := [], returnType := some (.object "java/lang/Object") }, accessFlags := 260, code := none }
/-- java/lang/Object -/
def k0 : Class := { plain "java/lang/Object" none with
  accessFlags := 33
  interfaces := #[]
  cf := some (fileOf pool0 8 #[] #[{ accessFlags := 1, nameIndex := 5, descriptorIndex := 6, attributes := #[] }, { accessFlags := 260, nameIndex := 96, descriptorIndex := 97, attributes := #[] }] 33 0 #[] #[])
  fields := #[]
  methods := #[k0m0, k0m1]
  instanceTypes := #[]
  staticTypes := #[]
  resolved := Array.replicate 124 none
  statics := none }

def pool1 : Array CpInfo := pool [(2, .class_ 4), (1, u "java/lang/Object"), (0, u "<init>"), (0, u "()V"), (0, .methodref 8 9), (0, .class_ 10), (0, .nameAndType 11 12), (0, u "com/example/mortise_lock/mortiselock/redis/RedisCallExceptionClosedPinLaw"), (0, u "putSuffix"), (0, u "([CI)V"), (0, .class_ 14), (0, u "java/lang/String"), (0, .methodref 13 16), (0, .nameAndType 5 17), (0, u "([C)V"), (0, .methodref 19 20), (0, .class_ 21), (0, .nameAndType 22 23), (0, u "com/example/mortise_lock/mortiselock/redis/RedisCallException"), (0, u "closed"), (0, u "(Ljava/lang/String;)Lcom/example/mortise_lock/mortiselock/redis/RedisCallException;"), (0, .methodref 19 25), (0, .nameAndType 26 27), (0, u "getCause"), (0, u "()Ljava/lang/Throwable;"), (0, .methodref 19 29), (0, .nameAndType 30 31), (0, u "getMessage"), (0, u "()Ljava/lang/String;"), (0, .methodref 13 33), (0, .nameAndType 34 35), (0, u "length"), (0, u "()I"), (0, .methodref 13 37), (0, .nameAndType 38 39), (0, u "equals"), (0, u "(Ljava/lang/Object;)Z"), (2, u "law"), (0, u "(IIII)Z")] 5

def k1m0 : Method := { name := "<init>", desc := "()V", sig := { parameters := [], returnType := none }, accessFlags := 1, code := none }
def k1c1 : Code := { maxStack := 3, maxLocals := 14, code := code, exceptionTable := #[], attributes := #[] }
def k1m1 : Method := { name := "law", desc := "(IIII)Z", sig := { parameters := [.int, .int, .int, .int], returnType := some .boolean }, accessFlags := 9, code := some k1c1 }
def k1c2 : Code := { maxStack := 3, maxLocals := 2, code := method_3_code, exceptionTable := #[], attributes := #[] }
def k1m2 : Method := { name := "putSuffix", desc := "([CI)V", sig := { parameters := [(.array .char), .int], returnType := none }, accessFlags := 10, code := some k1c2 }
/-- com/example/mortise_lock/mortiselock/redis/RedisCallExceptionClosedPinLaw -/
def k1 : Class := { plain "com/example/mortise_lock/mortiselock/redis/RedisCallExceptionClosedPinLaw" (some 0) with
  accessFlags := 49
  interfaces := #[]
  cf := some (fileOf pool1 8 #[] #[{ accessFlags := 1, nameIndex := 5, descriptorIndex := 6, attributes := #[] }, { accessFlags := 9, nameIndex := 42, descriptorIndex := 43, attributes := #[] }, { accessFlags := 10, nameIndex := 11, descriptorIndex := 12, attributes := #[] }] 49 2 #[] #[])
  fields := #[]
  methods := #[k1m0, k1m1, k1m2]
  instanceTypes := #[]
  staticTypes := #[]
  resolved := Array.replicate 49 none
  statics := none }

def pool2 : Array CpInfo := pool [(1, .class_ 2), (0, u "java/io/Serializable"), (0, .class_ 4), (0, u "java/lang/Object")] 2

/-- java/io/Serializable -/
def k2 : Class := { plain "java/io/Serializable" (some 0) with
  accessFlags := 1537
  interfaces := #[]
  cf := some (fileOf pool2 1 #[] #[] 1537 3 #[] #[])
  fields := #[]
  methods := #[]
  instanceTypes := #[]
  staticTypes := #[]
  resolved := Array.replicate 7 none
  statics := none }

def pool3 : Array CpInfo := pool [(1, .class_ 2), (0, u "java/lang/Comparable"), (0, .class_ 4), (0, u "java/lang/Object")] 7

/-- java/lang/Comparable -/
def k3 : Class := { plain "java/lang/Comparable" (some 0) with
  accessFlags := 1537
  interfaces := #[]
  cf := some (fileOf pool3 1 #[] #[] 1537 3 #[] #[])
  fields := #[]
  methods := #[]
  instanceTypes := #[]
  staticTypes := #[]
  resolved := Array.replicate 12 none
  statics := none }

def pool4 : Array CpInfo := pool [(2, .class_ 4), (1, u "java/lang/CharSequence"), (42, .class_ 48), (0, u "java/lang/CharSequence$1CodePointIterator"), (10, .class_ 60), (0, u "java/lang/CharSequence$1CharIterator"), (5, .class_ 67), (0, u "java/lang/Object")] 63

/-- java/lang/CharSequence -/
def k4 : Class := { plain "java/lang/CharSequence" (some 0) with
  accessFlags := 1537
  interfaces := #[]
  cf := some (fileOf pool4 2 #[.nestMembers #[47, 59]] #[] 1537 66 #[] #[])
  fields := #[]
  methods := #[]
  instanceTypes := #[]
  staticTypes := #[]
  resolved := Array.replicate 131 none
  statics := none }

def pool5 : Array CpInfo := pool [(1, .class_ 2), (0, u "java/lang/constant/Constable"), (0, .class_ 4), (0, u "java/lang/Object")] 6

/-- java/lang/constant/Constable -/
def k5 : Class := { plain "java/lang/constant/Constable" (some 0) with
  accessFlags := 1537
  interfaces := #[]
  cf := some (fileOf pool5 1 #[] #[] 1537 3 #[] #[])
  fields := #[]
  methods := #[]
  instanceTypes := #[]
  staticTypes := #[]
  resolved := Array.replicate 11 none
  statics := none }

def pool6 : Array CpInfo := pool [(1, .class_ 2), (0, u "java/lang/constant/ConstantDesc"), (0, .class_ 4), (0, u "java/lang/Object")] 32

/-- java/lang/constant/ConstantDesc -/
def k6 : Class := { plain "java/lang/constant/ConstantDesc" (some 0) with
  accessFlags := 1537
  interfaces := #[]
  cf := some (fileOf pool6 1 #[] #[] 1537 3 #[] #[])
  fields := #[]
  methods := #[]
  instanceTypes := #[]
  staticTypes := #[]
  resolved := Array.replicate 37 none
  statics := none }

def pool7 : Array CpInfo := pool [(1, .methodref 2 3), (0, .class_ 4), (0, .nameAndType 5 6), (0, u "java/lang/Object"), (0, u "<init>"), (0, u "()V"), (0, .string 8), (0, u ""), (0, .fieldref 10 11), (0, .class_ 12), (0, .nameAndType 13 14), (0, u "java/lang/String"), (0, u "value"), (0, u "[B"), (0, .fieldref 10 16), (0, .nameAndType 17 18), (0, u "coder"), (0, u "B"), (2, u "hash"), (0, u "I"), (2, u "hashIsZero"), (0, u "Z"), (0, .methodref 10 28), (0, .nameAndType 5 29), (0, u "([CIILjava/lang/Void;)V"), (8, .fieldref 10 39), (0, .nameAndType 40 26), (0, u "COMPACT_STRINGS"), (1, .class_ 44), (1, u "java/lang/StringUTF16"), (0, u "compress"), (1, .methodref 42 48), (0, .nameAndType 49 50), (0, u "coderFromArrayLen"), (0, u "([BI)B"), (3, .methodref 55 56), (0, .class_ 57), (0, .nameAndType 58 59), (0, u "java/util/Arrays"), (0, u "copyOfRange"), (0, u "([BII)[B"), (47, .class_ 109), (1, u "java/lang/StringLatin1"), (32, u "()Z"), (34, .methodref 42 178), (0, .nameAndType 45 179), (0, u "([CII)[B"), (13, .class_ 195), (1, u "java/lang/System"), (16, .methodref 193 213), (0, .nameAndType 214 215), (0, u "arraycopy"), (0, u "(Ljava/lang/Object;ILjava/lang/Object;II)V"), (118, u "()I"), (0, .methodref 10 336), (0, .nameAndType 17 337), (0, u "()B"), (2, u "()[B"), (148, .methodref 10 490), (0, .nameAndType 5 491), (0, u "(Ljava/lang/AbstractStringBuilder;Ljava/lang/Void;)V"), (1, .nameAndType 494 142), (0, u "isLatin1"), (11, .nameAndType 507 334), (0, u "length"), (24, u "getBytes"), (8, .methodref 107 542), (0, .nameAndType 543 544), (0, u "equals"), (0, u "([B[B)Z"), (4, .methodref 550 506), (0, .class_ 551), (0, u "java/lang/AbstractStringBuilder"), (0, .methodref 550 553), (0, .nameAndType 554 340), (0, u "getValue"), (18, u "(Ljava/lang/Object;)Z"), (1, .class_ 576), (0, u "java/lang/CharSequence"), (22, u "CASE_INSENSITIVE_ORDER"), (0, u "Ljava/util/Comparator;"), (220, u "([BIB)V"), (188, u "([C)V"), (36, .methodref 550 493), (53, u "serialPersistentFields"), (0, u "[Ljava/io/ObjectStreamField;"), (0, .class_ 1104), (0, u "java/lang/String$CaseInsensitiveComparator"), (1, .class_ 1107), (0, u "java/io/Serializable"), (0, .class_ 1109), (0, u "java/lang/Comparable"), (0, .class_ 1111), (0, u "java/lang/constant/Constable"), (0, .class_ 1113), (0, u "java/lang/constant/ConstantDesc"), (2, u "serialVersionUID"), (0, u "J"), (3, u "REPL"), (0, u "C"), (2, u "LATIN1"), (1, u "UTF16"), (105, u "(Ljava/lang/StringBuilder;)V")] 217

def k7m0 : Method := { name := "<init>", desc := "()V", sig := { parameters := [], returnType := none }, accessFlags := 1, code := none }
def k7c1 : Code := { maxStack := 5, maxLocals := 2, code := jdk_42_method_3_code, exceptionTable := #[], attributes := #[] }
def k7m1 : Method := { name := "<init>", desc := "([C)V", sig := { parameters := [(.array .char)], returnType := none }, accessFlags := 1, code := some k7c1 }
def k7c2 : Code := { maxStack := 3, maxLocals := 2, code := jdk_42_method_53_code, exceptionTable := #[], attributes := #[] }
def k7m2 : Method := { name := "<init>", desc := "(Ljava/lang/StringBuilder;)V", sig := { parameters := [(.object "java/lang/StringBuilder")], returnType := none }, accessFlags := 1, code := some k7c2 }
def k7c3 : Code := { maxStack := 2, maxLocals := 1, code := jdk_42_method_54_code, exceptionTable := #[], attributes := #[] }
def k7m3 : Method := { name := "length", desc := "()I", sig := { parameters := [], returnType := some .int }, accessFlags := 1, code := some k7c3 }
def k7c4 : Code := { maxStack := 2, maxLocals := 3, code := jdk_42_method_66_code, exceptionTable := #[], attributes := #[] }
def k7m4 : Method := { name := "equals", desc := "(Ljava/lang/Object;)Z", sig := { parameters := [(.object "java/lang/Object")], returnType := some .boolean }, accessFlags := 1, code := some k7c4 }
def k7c5 : Code := { maxStack := 5, maxLocals := 4, code := jdk_42_method_147_code, exceptionTable := #[], attributes := #[] }
def k7m5 : Method := { name := "getBytes", desc := "([BIB)V", sig := { parameters := [(.array .byte), .int, .byte], returnType := none }, accessFlags := 0, code := some k7c5 }
def k7c6 : Code := { maxStack := 4, maxLocals := 6, code := jdk_42_method_149_code, exceptionTable := #[], attributes := #[] }
def k7m6 : Method := { name := "<init>", desc := "([CIILjava/lang/Void;)V", sig := { parameters := [(.array .char), .int, .int, (.object "java/lang/Void")], returnType := none }, accessFlags := 2, code := some k7c6 }
def k7c7 : Code := { maxStack := 5, maxLocals := 5, code := jdk_42_method_150_code, exceptionTable := #[], attributes := #[] }
def k7m7 : Method := { name := "<init>", desc := "(Ljava/lang/AbstractStringBuilder;Ljava/lang/Void;)V", sig := { parameters := [(.object "java/lang/AbstractStringBuilder"), (.object "java/lang/Void")], returnType := none }, accessFlags := 0, code := some k7c7 }
def k7c8 : Code := { maxStack := 1, maxLocals := 1, code := jdk_42_method_152_code, exceptionTable := #[], attributes := #[] }
def k7m8 : Method := { name := "coder", desc := "()B", sig := { parameters := [], returnType := some .byte }, accessFlags := 0, code := some k7c8 }
/-- java/lang/String -/
def k7 : Class := { plain "java/lang/String" (some 0) with
  accessFlags := 49
  interfaces := #[2, 3, 4, 5, 6]
  cf := some (fileOf pool7 10 #[.nestMembers #[1103]] #[{ accessFlags := 1, nameIndex := 5, descriptorIndex := 6, attributes := #[] }, { accessFlags := 1, nameIndex := 5, descriptorIndex := 1010, attributes := #[] }, { accessFlags := 1, nameIndex := 5, descriptorIndex := 1233, attributes := #[] }, { accessFlags := 1, nameIndex := 507, descriptorIndex := 334, attributes := #[] }, { accessFlags := 1, nameIndex := 543, descriptorIndex := 573, attributes := #[] }, { accessFlags := 0, nameIndex := 532, descriptorIndex := 821, attributes := #[] }, { accessFlags := 2, nameIndex := 5, descriptorIndex := 29, attributes := #[] }, { accessFlags := 0, nameIndex := 5, descriptorIndex := 491, attributes := #[] }, { accessFlags := 0, nameIndex := 17, descriptorIndex := 337, attributes := #[] }] 49 2 #[1106, 1108, 575, 1110, 1112] #[{ accessFlags := 18, nameIndex := 13, descriptorIndex := 14, attributes := #[] }, { accessFlags := 18, nameIndex := 17, descriptorIndex := 18, attributes := #[] }, { accessFlags := 2, nameIndex := 21, descriptorIndex := 22, attributes := #[] }, { accessFlags := 2, nameIndex := 25, descriptorIndex := 26, attributes := #[] }, { accessFlags := 26, nameIndex := 1116, descriptorIndex := 1117, attributes := #[] }, { accessFlags := 24, nameIndex := 40, descriptorIndex := 26, attributes := #[] }, { accessFlags := 26, nameIndex := 1101, descriptorIndex := 1102, attributes := #[] }, { accessFlags := 26, nameIndex := 1121, descriptorIndex := 1122, attributes := #[] }, { accessFlags := 25, nameIndex := 599, descriptorIndex := 600, attributes := #[] }, { accessFlags := 24, nameIndex := 1125, descriptorIndex := 18, attributes := #[] }, { accessFlags := 24, nameIndex := 1127, descriptorIndex := 18, attributes := #[] }])
  fields := #[{ name := "value", type := (.array .byte), accessFlags := 18, slot := 0, constantValue := 0 }, { name := "coder", type := .byte, accessFlags := 18, slot := 1, constantValue := 0 }, { name := "hash", type := .int, accessFlags := 2, slot := 2, constantValue := 0 }, { name := "hashIsZero", type := .boolean, accessFlags := 2, slot := 3, constantValue := 0 }, { name := "serialVersionUID", type := .long, accessFlags := 26, slot := 0, constantValue := 0 }, { name := "COMPACT_STRINGS", type := .boolean, accessFlags := 24, slot := 1, constantValue := 0 }, { name := "serialPersistentFields", type := (.array (.object "java/io/ObjectStreamField")), accessFlags := 26, slot := 2, constantValue := 0 }, { name := "REPL", type := .char, accessFlags := 26, slot := 3, constantValue := 0 }, { name := "CASE_INSENSITIVE_ORDER", type := (.object "java/util/Comparator"), accessFlags := 25, slot := 4, constantValue := 0 }, { name := "LATIN1", type := .byte, accessFlags := 24, slot := 5, constantValue := 0 }, { name := "UTF16", type := .byte, accessFlags := 24, slot := 6, constantValue := 0 }]
  methods := #[k7m0, k7m1, k7m2, k7m3, k7m4, k7m5, k7m6, k7m7, k7m8]
  instanceTypes := #[(.array .byte), .byte, .int, .boolean]
  staticTypes := #[.long, .boolean, (.array (.object "java/io/ObjectStreamField")), .char, (.object "java/util/Comparator"), .byte, .byte]
  resolved := Array.replicate 1451 none
  statics := some 0 }

def pool8 : Array CpInfo := pool [(6, .class_ 8), (1, u "java/lang/Object"), (0, u "<init>"), (0, u "()V"), (1, .class_ 14), (1, u "java/lang/StringUTF16"), (31, u "$assertionsDisabled"), (0, u "Z"), (13, u "HI_BYTE_SHIFT"), (0, u "I"), (2, u "LO_BYTE_SHIFT"), (49, .methodref 12 116), (0, .nameAndType 117 118), (0, u "compress"), (0, u "([CI[BII)I"), (3, u "([CII)[B"), (138, u "coderFromArrayLen"), (0, u "([BI)B"), (106, .class_ 371), (1, u "java/lang/StringUTF16$LinesSpliterator"), (58, u "MAX_LENGTH"), (196, .class_ 628), (0, u "java/lang/StringUTF16$CodePointsSpliterator"), (0, .class_ 630), (0, u "java/lang/StringUTF16$CharsSpliterator")] 4

def k8m0 : Method := { name := "<init>", desc := "()V", sig := { parameters := [], returnType := none }, accessFlags := 0, code := none }
def k8c1 : Code := { maxStack := 2, maxLocals := 2, code := jdk_52_method_15_code, exceptionTable := #[], attributes := #[] }
def k8m1 : Method := { name := "coderFromArrayLen", desc := "([BI)B", sig := { parameters := [(.array .byte), .int], returnType := some .byte }, accessFlags := 8, code := some k8c1 }
def k8c2 : Code := { maxStack := 5, maxLocals := 6, code := jdk_52_method_16_code, exceptionTable := #[], attributes := #[] }
def k8m2 : Method := { name := "compress", desc := "([CII)[B", sig := { parameters := [(.array .char), .int, .int], returnType := some (.array .byte) }, accessFlags := 9, code := some k8c2 }
def k8c3 : Code := { maxStack := 3, maxLocals := 7, code := jdk_52_method_21_code, exceptionTable := #[], attributes := #[] }
def k8m3 : Method := { name := "compress", desc := "([CI[BII)I", sig := { parameters := [(.array .char), .int, (.array .byte), .int, .int], returnType := some .int }, accessFlags := 9, code := some k8c3 }
/-- java/lang/StringUTF16 -/
def k8 : Class := { plain "java/lang/StringUTF16" (some 0) with
  accessFlags := 48
  interfaces := #[]
  cf := some (fileOf pool8 12 #[.nestMembers #[627, 629, 369]] #[{ accessFlags := 0, nameIndex := 9, descriptorIndex := 10, attributes := #[] }, { accessFlags := 8, nameIndex := 261, descriptorIndex := 262, attributes := #[] }, { accessFlags := 9, nameIndex := 117, descriptorIndex := 122, attributes := #[] }, { accessFlags := 9, nameIndex := 117, descriptorIndex := 118, attributes := #[] }] 48 6 #[] #[{ accessFlags := 26, nameIndex := 61, descriptorIndex := 62, attributes := #[] }, { accessFlags := 26, nameIndex := 65, descriptorIndex := 62, attributes := #[] }, { accessFlags := 24, nameIndex := 430, descriptorIndex := 62, attributes := #[] }, { accessFlags := 4120, nameIndex := 46, descriptorIndex := 47, attributes := #[] }])
  fields := #[{ name := "HI_BYTE_SHIFT", type := .int, accessFlags := 26, slot := 0, constantValue := 0 }, { name := "LO_BYTE_SHIFT", type := .int, accessFlags := 26, slot := 1, constantValue := 0 }, { name := "MAX_LENGTH", type := .int, accessFlags := 24, slot := 2, constantValue := 0 }, { name := "$assertionsDisabled", type := .boolean, accessFlags := 4120, slot := 3, constantValue := 0 }]
  methods := #[k8m0, k8m1, k8m2, k8m3]
  instanceTypes := #[]
  staticTypes := #[.int, .int, .int, .boolean]
  resolved := Array.replicate 635 none
  statics := none }

def pool9 : Array CpInfo := pool [(1, .methodref 2 3), (0, .class_ 4), (0, .nameAndType 5 6), (0, u "java/lang/Object"), (0, u "<init>"), (0, u "()V"), (0, .fieldref 8 9), (0, .class_ 10), (0, .nameAndType 11 12), (0, u "java/lang/Throwable"), (0, u "cause"), (0, u "Ljava/lang/Throwable;"), (0, .fieldref 8 14), (0, .nameAndType 15 16), (0, u "UNASSIGNED_STACK"), (0, u "[Ljava/lang/StackTraceElement;"), (0, .fieldref 8 18), (0, .nameAndType 19 16), (0, u "stackTrace"), (0, .fieldref 8 21), (0, .nameAndType 22 23), (0, u "SUPPRESSED_SENTINEL"), (0, u "Ljava/util/List;"), (0, .fieldref 8 25), (0, .nameAndType 26 23), (0, u "suppressedExceptions"), (0, .methodref 8 28), (0, .nameAndType 29 30), (0, u "fillInStackTrace"), (0, u "()Ljava/lang/Throwable;"), (0, .fieldref 8 32), (0, .nameAndType 33 34), (0, u "detailMessage"), (0, u "Ljava/lang/String;"), (3, u "()Ljava/lang/String;"), (2, u "getMessage"), (21, u "(Ljava/lang/String;Ljava/lang/Throwable;)V"), (29, .class_ 94), (0, u "java/lang/Throwable$WrappedPrintStream"), (6, .class_ 103), (1, u "java/lang/Throwable$PrintStreamOrWriter"), (54, u "getCause"), (6, u "$assertionsDisabled"), (0, u "Z"), (26, .class_ 194), (0, u "java/lang/Throwable$WrappedPrintWriter"), (3, .fieldref 8 199), (0, .nameAndType 200 201), (0, u "backtrace"), (0, u "Ljava/lang/Object;"), (0, .methodref 8 203), (0, .nameAndType 29 204), (0, u "(I)Ljava/lang/Throwable;"), (6, u "depth"), (0, u "I"), (56, .class_ 271), (1, u "java/lang/Throwable$SentinelHolder"), (32, u "EMPTY_THROWABLE_ARRAY"), (0, u "[Ljava/lang/Throwable;"), (12, .class_ 319), (0, u "java/io/Serializable"), (0, u "serialVersionUID"), (0, u "J"), (5, u "NULL_CAUSE_MESSAGE"), (0, u "SELF_SUPPRESSION_MESSAGE"), (0, u "CAUSE_CAPTION"), (0, u "SUPPRESSED_CAPTION")] 73

def k9c0 : Code := { maxStack := 2, maxLocals := 1, code := jdk_78_method_1_code, exceptionTable := #[], attributes := #[] }
def k9m0 : Method := { name := "<init>", desc := "()V", sig := { parameters := [], returnType := none }, accessFlags := 1, code := some k9c0 }
def k9c1 : Code := { maxStack := 2, maxLocals := 3, code := jdk_78_method_3_code, exceptionTable := #[], attributes := #[] }
def k9m1 : Method := { name := "<init>", desc := "(Ljava/lang/String;Ljava/lang/Throwable;)V", sig := { parameters := [(.object "java/lang/String"), (.object "java/lang/Throwable")], returnType := none }, accessFlags := 1, code := some k9c1 }
def k9c2 : Code := { maxStack := 1, maxLocals := 1, code := jdk_78_method_6_code, exceptionTable := #[], attributes := #[] }
def k9m2 : Method := { name := "getMessage", desc := "()Ljava/lang/String;", sig := { parameters := [], returnType := some (.object "java/lang/String") }, accessFlags := 1, code := some k9c2 }
def k9c3 : Code := { maxStack := 2, maxLocals := 1, code := ⟨#[0x2a, 0xb4, 0x00, 0x07, 0x2a, 0xa6, 0x00, 0x07, 0x01, 0xa7, 0x00, 0x07, 0x2a, 0xb4, 0x00, 0x07, 0xb0]⟩, exceptionTable := #[], attributes := #[] }
def k9m3 : Method := { name := "getCause", desc := "()Ljava/lang/Throwable;", sig := { parameters := [], returnType := some (.object "java/lang/Throwable") }, accessFlags := 33, code := some k9c3 }
def k9c4 : Code := { maxStack := 2, maxLocals := 1, code := ⟨#[0x2a, 0xb4, 0x00, 0x11, 0xc7, 0x00, 0x0a, 0x2a, 0xb4, 0x00, 0xc6, 0xc6, 0x00, 0x10, 0x2a, 0x03, 0xb6, 0x00, 0xca, 0x57, 0x2a, 0xb2, 0x00, 0x0d, 0xb5, 0x00, 0x11, 0x2a, 0xb0]⟩, exceptionTable := #[], attributes := #[] }
def k9m4 : Method := { name := "fillInStackTrace", desc := "()Ljava/lang/Throwable;", sig := { parameters := [], returnType := some (.object "java/lang/Throwable") }, accessFlags := 33, code := some k9c4 }
def k9m5 : Method := { name := "fillInStackTrace", desc := "(I)Ljava/lang/Throwable;", sig := { parameters := [.int], returnType := some (.object "java/lang/Throwable") }, accessFlags := 258, code := none }
/-- java/lang/Throwable -/
def k9 : Class := { plain "java/lang/Throwable" (some 0) with
  accessFlags := 33
  interfaces := #[2]
  cf := some (fileOf pool9 8 #[.nestMembers #[193, 93, 101, 269]] #[{ accessFlags := 1, nameIndex := 5, descriptorIndex := 6, attributes := #[] }, { accessFlags := 1, nameIndex := 5, descriptorIndex := 63, attributes := #[] }, { accessFlags := 1, nameIndex := 41, descriptorIndex := 38, attributes := #[] }, { accessFlags := 33, nameIndex := 158, descriptorIndex := 30, attributes := #[] }, { accessFlags := 33, nameIndex := 29, descriptorIndex := 30, attributes := #[] }, { accessFlags := 258, nameIndex := 29, descriptorIndex := 204, attributes := #[] }] 33 2 #[318] #[{ accessFlags := 26, nameIndex := 320, descriptorIndex := 321, attributes := #[] }, { accessFlags := 130, nameIndex := 200, descriptorIndex := 201, attributes := #[] }, { accessFlags := 2, nameIndex := 33, descriptorIndex := 34, attributes := #[] }, { accessFlags := 26, nameIndex := 15, descriptorIndex := 16, attributes := #[] }, { accessFlags := 2, nameIndex := 11, descriptorIndex := 12, attributes := #[] }, { accessFlags := 2, nameIndex := 19, descriptorIndex := 16, attributes := #[] }, { accessFlags := 130, nameIndex := 211, descriptorIndex := 212, attributes := #[] }, { accessFlags := 26, nameIndex := 22, descriptorIndex := 23, attributes := #[] }, { accessFlags := 2, nameIndex := 26, descriptorIndex := 23, attributes := #[] }, { accessFlags := 26, nameIndex := 327, descriptorIndex := 34, attributes := #[] }, { accessFlags := 26, nameIndex := 328, descriptorIndex := 34, attributes := #[] }, { accessFlags := 26, nameIndex := 329, descriptorIndex := 34, attributes := #[] }, { accessFlags := 26, nameIndex := 330, descriptorIndex := 34, attributes := #[] }, { accessFlags := 26, nameIndex := 304, descriptorIndex := 305, attributes := #[] }, { accessFlags := 4120, nameIndex := 165, descriptorIndex := 166, attributes := #[] }])
  fields := #[{ name := "serialVersionUID", type := .long, accessFlags := 26, slot := 0, constantValue := 0 }, { name := "backtrace", type := (.object "java/lang/Object"), accessFlags := 130, slot := 0, constantValue := 0 }, { name := "detailMessage", type := (.object "java/lang/String"), accessFlags := 2, slot := 1, constantValue := 0 }, { name := "UNASSIGNED_STACK", type := (.array (.object "java/lang/StackTraceElement")), accessFlags := 26, slot := 1, constantValue := 0 }, { name := "cause", type := (.object "java/lang/Throwable"), accessFlags := 2, slot := 2, constantValue := 0 }, { name := "stackTrace", type := (.array (.object "java/lang/StackTraceElement")), accessFlags := 2, slot := 3, constantValue := 0 }, { name := "depth", type := .int, accessFlags := 130, slot := 4, constantValue := 0 }, { name := "SUPPRESSED_SENTINEL", type := (.object "java/util/List"), accessFlags := 26, slot := 2, constantValue := 0 }, { name := "suppressedExceptions", type := (.object "java/util/List"), accessFlags := 2, slot := 5, constantValue := 0 }, { name := "NULL_CAUSE_MESSAGE", type := (.object "java/lang/String"), accessFlags := 26, slot := 3, constantValue := 0 }, { name := "SELF_SUPPRESSION_MESSAGE", type := (.object "java/lang/String"), accessFlags := 26, slot := 4, constantValue := 0 }, { name := "CAUSE_CAPTION", type := (.object "java/lang/String"), accessFlags := 26, slot := 5, constantValue := 0 }, { name := "SUPPRESSED_CAPTION", type := (.object "java/lang/String"), accessFlags := 26, slot := 6, constantValue := 0 }, { name := "EMPTY_THROWABLE_ARRAY", type := (.array (.object "java/lang/Throwable")), accessFlags := 26, slot := 7, constantValue := 0 }, { name := "$assertionsDisabled", type := .boolean, accessFlags := 4120, slot := 8, constantValue := 0 }]
  methods := #[k9m0, k9m1, k9m2, k9m3, k9m4, k9m5]
  instanceTypes := #[(.object "java/lang/Object"), (.object "java/lang/String"), (.object "java/lang/Throwable"), (.array (.object "java/lang/StackTraceElement")), .int, (.object "java/util/List")]
  staticTypes := #[.long, (.array (.object "java/lang/StackTraceElement")), (.object "java/util/List"), (.object "java/lang/String"), (.object "java/lang/String"), (.object "java/lang/String"), (.object "java/lang/String"), (.array (.object "java/lang/Throwable")), .boolean]
  resolved := Array.replicate 404 none
  statics := some 1 }

def pool10 : Array CpInfo := pool [(2, .class_ 4), (1, u "java/lang/Throwable"), (0, u "<init>"), (0, u "()V"), (3, .methodref 2 11), (0, .nameAndType 5 12), (0, u "(Ljava/lang/String;Ljava/lang/Throwable;)V"), (6, .class_ 20), (0, u "java/lang/Exception"), (0, u "serialVersionUID"), (0, u "J")] 17

def k10m0 : Method := { name := "<init>", desc := "()V", sig := { parameters := [], returnType := none }, accessFlags := 1, code := none }
def k10c1 : Code := { maxStack := 3, maxLocals := 3, code := jdk_59_method_3_code, exceptionTable := #[], attributes := #[] }
def k10m1 : Method := { name := "<init>", desc := "(Ljava/lang/String;Ljava/lang/Throwable;)V", sig := { parameters := [(.object "java/lang/String"), (.object "java/lang/Throwable")], returnType := none }, accessFlags := 1, code := some k10c1 }
/-- java/lang/Exception -/
def k10 : Class := { plain "java/lang/Exception" (some 9) with
  accessFlags := 33
  interfaces := #[]
  cf := some (fileOf pool10 19 #[] #[{ accessFlags := 1, nameIndex := 5, descriptorIndex := 6, attributes := #[] }, { accessFlags := 1, nameIndex := 5, descriptorIndex := 12, attributes := #[] }] 33 2 #[] #[{ accessFlags := 24, nameIndex := 21, descriptorIndex := 22, attributes := #[] }])
  fields := #[{ name := "serialVersionUID", type := .long, accessFlags := 24, slot := 0, constantValue := 0 }]
  methods := #[k10m0, k10m1]
  instanceTypes := #[(.object "java/lang/Object"), (.object "java/lang/String"), (.object "java/lang/Throwable"), (.array (.object "java/lang/StackTraceElement")), .int, (.object "java/util/List")]
  staticTypes := #[.long]
  resolved := Array.replicate 40 none
  statics := none }

def pool11 : Array CpInfo := pool [(2, .class_ 4), (1, u "java/lang/Exception"), (0, u "<init>"), (0, u "()V"), (3, .methodref 2 11), (0, .nameAndType 5 12), (0, u "(Ljava/lang/String;Ljava/lang/Throwable;)V"), (6, .class_ 20), (0, u "java/lang/RuntimeException"), (0, u "serialVersionUID"), (0, u "J")] 17

def k11m0 : Method := { name := "<init>", desc := "()V", sig := { parameters := [], returnType := none }, accessFlags := 1, code := none }
def k11c1 : Code := { maxStack := 3, maxLocals := 3, code := jdk_58_method_3_code, exceptionTable := #[], attributes := #[] }
def k11m1 : Method := { name := "<init>", desc := "(Ljava/lang/String;Ljava/lang/Throwable;)V", sig := { parameters := [(.object "java/lang/String"), (.object "java/lang/Throwable")], returnType := none }, accessFlags := 1, code := some k11c1 }
/-- java/lang/RuntimeException -/
def k11 : Class := { plain "java/lang/RuntimeException" (some 10) with
  accessFlags := 33
  interfaces := #[]
  cf := some (fileOf pool11 19 #[] #[{ accessFlags := 1, nameIndex := 5, descriptorIndex := 6, attributes := #[] }, { accessFlags := 1, nameIndex := 5, descriptorIndex := 12, attributes := #[] }] 33 2 #[] #[{ accessFlags := 24, nameIndex := 21, descriptorIndex := 22, attributes := #[] }])
  fields := #[{ name := "serialVersionUID", type := .long, accessFlags := 24, slot := 0, constantValue := 0 }]
  methods := #[k11m0, k11m1]
  instanceTypes := #[(.object "java/lang/Object"), (.object "java/lang/String"), (.object "java/lang/Throwable"), (.array (.object "java/lang/StackTraceElement")), .int, (.object "java/util/List")]
  staticTypes := #[.long]
  resolved := Array.replicate 40 none
  statics := none }

def pool12 : Array CpInfo := pool [(1, .methodref 2 3), (0, .class_ 4), (0, .nameAndType 5 6), (0, u "java/lang/RuntimeException"), (0, u "<init>"), (0, u "(Ljava/lang/String;Ljava/lang/Throwable;)V"), (0, .class_ 8), (0, u "com/example/mortise_lock/mortiselock/redis/RedisCallException"), (0, .class_ 10), (0, u "java/lang/StringBuilder"), (0, .methodref 9 12), (0, .nameAndType 5 13), (0, u "()V"), (0, .string 15), (0, u "lock '"), (0, .methodref 9 17), (0, .nameAndType 18 19), (0, u "append"), (0, u "(Ljava/lang/String;)Ljava/lang/StringBuilder;"), (0, .string 21), (0, u "': its MortiseLock is closed"), (0, .methodref 9 23), (0, .nameAndType 24 25), (0, u "toString"), (0, u "()Ljava/lang/String;"), (0, .methodref 7 3), (0, u "serialVersionUID"), (0, u "J"), (5, u "closed"), (0, u "(Ljava/lang/String;)Lcom/example/mortise_lock/mortiselock/redis/RedisCallException;")] 2

def k12c0 : Code := { maxStack := 3, maxLocals := 3, code := prog_10_method_1_code, exceptionTable := #[], attributes := #[] }
def k12m0 : Method := { name := "<init>", desc := "(Ljava/lang/String;Ljava/lang/Throwable;)V", sig := { parameters := [(.object "java/lang/String"), (.object "java/lang/Throwable")], returnType := none }, accessFlags := 1, code := some k12c0 }
def k12c1 : Code := { maxStack := 4, maxLocals := 1, code := prog_10_method_2_code, exceptionTable := #[], attributes := #[] }
def k12m1 : Method := { name := "closed", desc := "(Ljava/lang/String;)Lcom/example/mortise_lock/mortiselock/redis/RedisCallException;", sig := { parameters := [(.object "java/lang/String")], returnType := some (.object "com/example/mortise_lock/mortiselock/redis/RedisCallException") }, accessFlags := 9, code := some k12c1 }
/-- com/example/mortise_lock/mortiselock/redis/RedisCallException -/
def k12 : Class := { plain "com/example/mortise_lock/mortiselock/redis/RedisCallException" (some 11) with
  accessFlags := 33
  interfaces := #[]
  cf := some (fileOf pool12 7 #[] #[{ accessFlags := 1, nameIndex := 5, descriptorIndex := 6, attributes := #[] }, { accessFlags := 9, nameIndex := 34, descriptorIndex := 35, attributes := #[] }] 33 2 #[] #[{ accessFlags := 26, nameIndex := 27, descriptorIndex := 28, attributes := #[] }])
  fields := #[{ name := "serialVersionUID", type := .long, accessFlags := 26, slot := 0, constantValue := 0 }]
  methods := #[k12m0, k12m1]
  instanceTypes := #[(.object "java/lang/Object"), (.object "java/lang/String"), (.object "java/lang/Throwable"), (.array (.object "java/lang/StackTraceElement")), .int, (.object "java/util/List")]
  staticTypes := #[.long]
  resolved := Array.replicate 38 none
  statics := none }

def pool13 : Array CpInfo := pool [(1, .class_ 2), (0, u "java/lang/Appendable"), (0, .class_ 4), (0, u "java/lang/Object")] 9

/-- java/lang/Appendable -/
def k13 : Class := { plain "java/lang/Appendable" (some 0) with
  accessFlags := 1537
  interfaces := #[]
  cf := some (fileOf pool13 1 #[] #[] 1537 3 #[] #[])
  fields := #[]
  methods := #[]
  instanceTypes := #[]
  staticTypes := #[]
  resolved := Array.replicate 14 none
  statics := none }

def pool14 : Array CpInfo := pool [(1, .class_ 2), (0, u "java/lang/String"), (0, .methodref 4 5), (0, .class_ 6), (0, .nameAndType 7 8), (0, u "java/lang/Object"), (0, u "<init>"), (0, u "()V"), (1, .class_ 12), (1, u "java/lang/AbstractStringBuilder"), (0, u "EMPTYVALUE"), (0, u "[B"), (0, .fieldref 10 16), (0, .nameAndType 17 14), (0, u "value"), (0, .fieldref 1 19), (0, .nameAndType 20 21), (0, u "COMPACT_STRINGS"), (0, u "Z"), (0, .fieldref 10 23), (0, .nameAndType 24 25), (0, u "coder"), (0, u "B"), (6, .methodref 1 33), (0, .nameAndType 34 35), (0, u "length"), (0, u "()I"), (3, .integer 2147483647), (0, .methodref 1 41), (0, .nameAndType 24 42), (0, u "()B"), (2, u "append"), (0, u "(Ljava/lang/String;)Ljava/lang/AbstractStringBuilder;"), (1, .class_ 49), (0, u "java/lang/CharSequence"), (19, u "(Ljava/lang/String;)V"), (5, u "maybeLatin1"), (3, .fieldref 10 80), (0, .nameAndType 81 82), (0, u "count"), (0, u "I"), (2, u "isLatin1"), (0, u "()Z"), (13, .methodref 10 101), (0, .nameAndType 102 103), (0, u "ensureCapacityInternal"), (0, u "(I)V"), (0, .methodref 10 105), (0, .nameAndType 106 107), (0, u "newCapacity"), (0, u "(I)I"), (0, .methodref 109 110), (0, .class_ 111), (0, .nameAndType 112 113), (0, u "java/util/Arrays"), (0, u "copyOf"), (0, u "([BI)[B"), (0, .methodref 115 116), (0, .class_ 117), (0, .nameAndType 118 119), (0, u "jdk/internal/util/ArraysSupport"), (0, u "newLength"), (0, u "(III)I"), (88, .methodref 10 209), (0, .nameAndType 210 211), (0, u "putStringAt"), (0, u "(ILjava/lang/String;)V"), (5, u "inflateIfNeededFor"), (2, .nameAndType 221 222), (0, u "getBytes"), (0, u "([BIB)V"), (174, .methodref 10 398), (0, .nameAndType 217 69), (0, .methodref 1 220), (3, u "()[B"), (40, .class_ 445), (0, u "java/lang/Appendable"), (106, u "getValue")] 56

def k14m0 : Method := { name := "<init>", desc := "()V", sig := { parameters := [], returnType := none }, accessFlags := 0, code := none }
def k14c1 : Code := { maxStack := 2, maxLocals := 2, code := jdk_68_method_2_code, exceptionTable := #[], attributes := #[] }
def k14m1 : Method := { name := "<init>", desc := "(I)V", sig := { parameters := [.int], returnType := none }, accessFlags := 0, code := some k14c1 }
def k14c2 : Code := { maxStack := 1, maxLocals := 1, code := jdk_68_method_6_code, exceptionTable := #[], attributes := #[] }
def k14m2 : Method := { name := "length", desc := "()I", sig := { parameters := [], returnType := some .int }, accessFlags := 1, code := some k14c2 }
def k14c3 : Code := { maxStack := 4, maxLocals := 3, code := jdk_68_method_9_code, exceptionTable := #[], attributes := #[] }
def k14m3 : Method := { name := "ensureCapacityInternal", desc := "(I)V", sig := { parameters := [.int], returnType := none }, accessFlags := 2, code := some k14c3 }
def k14c4 : Code := { maxStack := 5, maxLocals := 6, code := jdk_68_method_10_code, exceptionTable := #[], attributes := #[] }
def k14m4 : Method := { name := "newCapacity", desc := "(I)I", sig := { parameters := [.int], returnType := some .int }, accessFlags := 2, code := some k14c4 }
def k14c5 : Code := { maxStack := 3, maxLocals := 3, code := jdk_68_method_22_code, exceptionTable := #[], attributes := #[] }
def k14m5 : Method := { name := "append", desc := "(Ljava/lang/String;)Ljava/lang/AbstractStringBuilder;", sig := { parameters := [(.object "java/lang/String")], returnType := some (.object "java/lang/AbstractStringBuilder") }, accessFlags := 1, code := some k14c5 }
def k14c6 : Code := { maxStack := 1, maxLocals := 1, code := jdk_68_method_64_code, exceptionTable := #[], attributes := #[] }
def k14m6 : Method := { name := "getValue", desc := "()[B", sig := { parameters := [], returnType := some (.array .byte) }, accessFlags := 16, code := some k14c6 }
def k14c7 : Code := { maxStack := 1, maxLocals := 1, code := jdk_68_method_68_code, exceptionTable := #[], attributes := #[] }
def k14m7 : Method := { name := "isLatin1", desc := "()Z", sig := { parameters := [], returnType := some .boolean }, accessFlags := 16, code := some k14c7 }
def k14c8 : Code := { maxStack := 2, maxLocals := 2, code := jdk_68_method_71_code, exceptionTable := #[], attributes := #[] }
def k14m8 : Method := { name := "inflateIfNeededFor", desc := "(Ljava/lang/String;)V", sig := { parameters := [(.object "java/lang/String")], returnType := none }, accessFlags := 2, code := some k14c8 }
def k14c9 : Code := { maxStack := 4, maxLocals := 3, code := jdk_68_method_73_code, exceptionTable := #[], attributes := #[] }
def k14m9 : Method := { name := "putStringAt", desc := "(ILjava/lang/String;)V", sig := { parameters := [.int, (.object "java/lang/String")], returnType := none }, accessFlags := 2, code := some k14c9 }
/-- java/lang/AbstractStringBuilder -/
def k14 : Class := { plain "java/lang/AbstractStringBuilder" (some 0) with
  accessFlags := 1056
  interfaces := #[13, 4]
  cf := some (fileOf pool14 10 #[] #[{ accessFlags := 0, nameIndex := 7, descriptorIndex := 8, attributes := #[] }, { accessFlags := 0, nameIndex := 7, descriptorIndex := 103, attributes := #[] }, { accessFlags := 1, nameIndex := 34, descriptorIndex := 35, attributes := #[] }, { accessFlags := 2, nameIndex := 102, descriptorIndex := 103, attributes := #[] }, { accessFlags := 2, nameIndex := 106, descriptorIndex := 107, attributes := #[] }, { accessFlags := 1, nameIndex := 45, descriptorIndex := 46, attributes := #[] }, { accessFlags := 16, nameIndex := 552, descriptorIndex := 403, attributes := #[] }, { accessFlags := 16, nameIndex := 85, descriptorIndex := 86, attributes := #[] }, { accessFlags := 2, nameIndex := 217, descriptorIndex := 69, attributes := #[] }, { accessFlags := 2, nameIndex := 210, descriptorIndex := 211, attributes := #[] }] 1056 4 #[444, 48] #[{ accessFlags := 0, nameIndex := 17, descriptorIndex := 14, attributes := #[] }, { accessFlags := 0, nameIndex := 24, descriptorIndex := 25, attributes := #[] }, { accessFlags := 0, nameIndex := 75, descriptorIndex := 21, attributes := #[] }, { accessFlags := 0, nameIndex := 81, descriptorIndex := 82, attributes := #[] }, { accessFlags := 26, nameIndex := 13, descriptorIndex := 14, attributes := #[] }])
  fields := #[{ name := "value", type := (.array .byte), accessFlags := 0, slot := 0, constantValue := 0 }, { name := "coder", type := .byte, accessFlags := 0, slot := 1, constantValue := 0 }, { name := "maybeLatin1", type := .boolean, accessFlags := 0, slot := 2, constantValue := 0 }, { name := "count", type := .int, accessFlags := 0, slot := 3, constantValue := 0 }, { name := "EMPTYVALUE", type := (.array .byte), accessFlags := 26, slot := 0, constantValue := 0 }]
  methods := #[k14m0, k14m1, k14m2, k14m3, k14m4, k14m5, k14m6, k14m7, k14m8, k14m9]
  instanceTypes := #[(.array .byte), .byte, .boolean, .int]
  staticTypes := #[(.array .byte)]
  resolved := Array.replicate 609 none
  statics := none }

def pool15 : Array CpInfo := pool [(1, .methodref 2 3), (0, .class_ 4), (0, .nameAndType 5 6), (0, u "java/lang/AbstractStringBuilder"), (0, u "<init>"), (0, u "(I)V"), (11, .class_ 20), (1, u "java/lang/String"), (3, .class_ 26), (1, u "java/lang/StringBuilder"), (0, u "append"), (0, u "(Ljava/lang/String;)Ljava/lang/StringBuilder;"), (0, .methodref 2 30), (0, .nameAndType 27 31), (0, u "(Ljava/lang/String;)Ljava/lang/AbstractStringBuilder;"), (105, .methodref 18 138), (0, .nameAndType 5 139), (0, u "(Ljava/lang/StringBuilder;)V"), (5, u "()V"), (10, u "()I"), (186, .methodref 2 344), (0, .nameAndType 345 156), (0, u "length"), (3, .class_ 350), (0, u "java/lang/Appendable"), (0, .class_ 352), (0, u "java/io/Serializable"), (0, .class_ 354), (0, u "java/lang/Comparable"), (0, .class_ 356), (0, u "java/lang/CharSequence"), (0, u "serialVersionUID"), (0, u "J"), (40, u "toString"), (0, u "()Ljava/lang/String;")] 21

def k15c0 : Code := { maxStack := 2, maxLocals := 1, code := jdk_67_method_1_code, exceptionTable := #[], attributes := #[] }
def k15m0 : Method := { name := "<init>", desc := "()V", sig := { parameters := [], returnType := none }, accessFlags := 1, code := some k15c0 }
def k15c1 : Code := { maxStack := 2, maxLocals := 2, code := jdk_67_method_7_code, exceptionTable := #[], attributes := #[] }
def k15m1 : Method := { name := "append", desc := "(Ljava/lang/String;)Ljava/lang/StringBuilder;", sig := { parameters := [(.object "java/lang/String")], returnType := some (.object "java/lang/StringBuilder") }, accessFlags := 1, code := some k15c1 }
def k15c2 : Code := { maxStack := 3, maxLocals := 1, code := jdk_67_method_42_code, exceptionTable := #[], attributes := #[] }
def k15m2 : Method := { name := "toString", desc := "()Ljava/lang/String;", sig := { parameters := [], returnType := some (.object "java/lang/String") }, accessFlags := 1, code := some k15c2 }
def k15c3 : Code := { maxStack := 1, maxLocals := 1, code := jdk_67_method_93_code, exceptionTable := #[], attributes := #[] }
def k15m3 : Method := { name := "length", desc := "()I", sig := { parameters := [], returnType := some .int }, accessFlags := 4161, code := some k15c3 }
/-- java/lang/StringBuilder -/
def k15 : Class := { plain "java/lang/StringBuilder" (some 14) with
  accessFlags := 49
  interfaces := #[13, 2, 3, 4]
  cf := some (fileOf pool15 24 #[] #[{ accessFlags := 1, nameIndex := 5, descriptorIndex := 145, attributes := #[] }, { accessFlags := 1, nameIndex := 27, descriptorIndex := 28, attributes := #[] }, { accessFlags := 1, nameIndex := 399, descriptorIndex := 400, attributes := #[] }, { accessFlags := 4161, nameIndex := 345, descriptorIndex := 156, attributes := #[] }] 49 2 #[349, 351, 353, 355] #[{ accessFlags := 24, nameIndex := 357, descriptorIndex := 358, attributes := #[] }])
  fields := #[{ name := "serialVersionUID", type := .long, accessFlags := 24, slot := 0, constantValue := 0 }]
  methods := #[k15m0, k15m1, k15m2, k15m3]
  instanceTypes := #[(.array .byte), .byte, .boolean, .int]
  staticTypes := #[.long]
  resolved := Array.replicate 422 none
  statics := none }

def pool16 : Array CpInfo := pool [(2, .class_ 4), (1, u "java/lang/Object"), (0, u "<init>"), (0, u "()V"), (1, .class_ 10), (1, u "java/lang/System"), (0, u "allowSecurityManager"), (0, u "I"), (16, u "cons"), (0, u "Ljava/io/Console;"), (77, .class_ 110), (1, u "java/lang/System$CallersHolder"), (43, u "initialErrStream"), (0, u "Ljava/io/PrintStream;"), (19, u "security"), (0, u "Ljava/lang/SecurityManager;"), (31, .class_ 209), (0, u "java/lang/System$1"), (7, u "props"), (0, u "Ljava/util/Properties;"), (2, u "lineSeparator"), (0, u "Ljava/lang/String;"), (96, .class_ 321), (1, u "java/lang/System$LoggerFinder"), (5, .class_ 328), (0, u "java/lang/System$Logger"), (67, u "err"), (2, u "out"), (91, u "notSupportedJnuEncoding"), (15, u "in"), (17, u "initialIn"), (0, u "Ljava/io/InputStream;"), (35, u "bootLayer"), (0, u "Ljava/lang/ModuleLayer;"), (99, .class_ 664), (0, u "java/lang/System$2"), (9, u "NEVER"), (2, u "MAYBE"), (49, u "arraycopy"), (0, u "(Ljava/lang/Object;ILjava/lang/Object;II)V"), (72, .class_ 802), (0, u "java/lang/System$Logger$Level")] 31

def k16m0 : Method := { name := "<init>", desc := "()V", sig := { parameters := [], returnType := none }, accessFlags := 2, code := none }
def k16m1 : Method := { name := "arraycopy", desc := "(Ljava/lang/Object;ILjava/lang/Object;II)V", sig := { parameters := [(.object "java/lang/Object"), .int, (.object "java/lang/Object"), .int, .int], returnType := none }, accessFlags := 265, code := none }
/-- java/lang/System -/
def k16 : Class := { plain "java/lang/System" (some 0) with
  accessFlags := 49
  interfaces := #[]
  cf := some (fileOf pool16 8 #[.nestMembers #[319, 327, 801, 108, 663, 208]] #[{ accessFlags := 2, nameIndex := 5, descriptorIndex := 6, attributes := #[] }, { accessFlags := 265, nameIndex := 727, descriptorIndex := 728, attributes := #[] }] 49 2 #[] #[{ accessFlags := 25, nameIndex := 507, descriptorIndex := 526, attributes := #[] }, { accessFlags := 25, nameIndex := 399, descriptorIndex := 155, attributes := #[] }, { accessFlags := 25, nameIndex := 396, descriptorIndex := 155, attributes := #[] }, { accessFlags := 10, nameIndex := 525, descriptorIndex := 526, attributes := #[] }, { accessFlags := 26, nameIndex := 674, descriptorIndex := 12, attributes := #[] }, { accessFlags := 26, nameIndex := 677, descriptorIndex := 12, attributes := #[] }, { accessFlags := 10, nameIndex := 11, descriptorIndex := 12, attributes := #[] }, { accessFlags := 74, nameIndex := 175, descriptorIndex := 176, attributes := #[] }, { accessFlags := 10, nameIndex := 491, descriptorIndex := 222, attributes := #[] }, { accessFlags := 74, nameIndex := 29, descriptorIndex := 30, attributes := #[] }, { accessFlags := 74, nameIndex := 154, descriptorIndex := 155, attributes := #[] }, { accessFlags := 10, nameIndex := 217, descriptorIndex := 218, attributes := #[] }, { accessFlags := 10, nameIndex := 221, descriptorIndex := 222, attributes := #[] }, { accessFlags := 8, nameIndex := 562, descriptorIndex := 563, attributes := #[] }])
  fields := #[{ name := "in", type := (.object "java/io/InputStream"), accessFlags := 25, slot := 0, constantValue := 0 }, { name := "out", type := (.object "java/io/PrintStream"), accessFlags := 25, slot := 1, constantValue := 0 }, { name := "err", type := (.object "java/io/PrintStream"), accessFlags := 25, slot := 2, constantValue := 0 }, { name := "initialIn", type := (.object "java/io/InputStream"), accessFlags := 10, slot := 3, constantValue := 0 }, { name := "NEVER", type := .int, accessFlags := 26, slot := 4, constantValue := 0 }, { name := "MAYBE", type := .int, accessFlags := 26, slot := 5, constantValue := 0 }, { name := "allowSecurityManager", type := .int, accessFlags := 10, slot := 6, constantValue := 0 }, { name := "security", type := (.object "java/lang/SecurityManager"), accessFlags := 74, slot := 7, constantValue := 0 }, { name := "notSupportedJnuEncoding", type := (.object "java/lang/String"), accessFlags := 10, slot := 8, constantValue := 0 }, { name := "cons", type := (.object "java/io/Console"), accessFlags := 74, slot := 9, constantValue := 0 }, { name := "initialErrStream", type := (.object "java/io/PrintStream"), accessFlags := 74, slot := 10, constantValue := 0 }, { name := "props", type := (.object "java/util/Properties"), accessFlags := 10, slot := 11, constantValue := 0 }, { name := "lineSeparator", type := (.object "java/lang/String"), accessFlags := 10, slot := 12, constantValue := 0 }, { name := "bootLayer", type := (.object "java/lang/ModuleLayer"), accessFlags := 8, slot := 13, constantValue := 0 }]
  methods := #[k16m0, k16m1]
  instanceTypes := #[]
  staticTypes := #[(.object "java/io/InputStream"), (.object "java/io/PrintStream"), (.object "java/io/PrintStream"), (.object "java/io/InputStream"), .int, .int, .int, (.object "java/lang/SecurityManager"), (.object "java/lang/String"), (.object "java/io/Console"), (.object "java/io/PrintStream"), (.object "java/util/Properties"), (.object "java/lang/String"), (.object "java/lang/ModuleLayer")]
  resolved := Array.replicate 834 none
  statics := none }

def pool17 : Array CpInfo := pool [(9, u "<init>"), (6, .class_ 18), (1, u "java/lang/Object"), (0, u "()V"), (1, .class_ 23), (1, u "jdk/internal/util/ArraysSupport"), (0, u "LOG2_ARRAY_LONG_INDEX_SCALE"), (0, u "I"), (2, u "U"), (0, u "Ljdk/internal/misc/Unsafe;"), (8, u "BIG_ENDIAN"), (0, u "Z"), (8, u "LOG2_BYTE_BIT_SIZE"), (4, u "LOG2_ARRAY_INT_INDEX_SCALE"), (54, u "JLA"), (0, u "Ljdk/internal/access/JavaLangAccess;"), (11, u "LOG2_ARRAY_BOOLEAN_INDEX_SCALE"), (9, u "LOG2_ARRAY_BYTE_INDEX_SCALE"), (5, u "LOG2_ARRAY_CHAR_INDEX_SCALE"), (5, u "LOG2_ARRAY_SHORT_INDEX_SCALE"), (18, u "LOG2_ARRAY_FLOAT_INDEX_SCALE"), (24, u "LOG2_ARRAY_DOUBLE_INDEX_SCALE"), (6, .methodref 195 196), (0, .class_ 197), (0, .nameAndType 198 199), (0, u "java/lang/Math"), (0, u "max"), (0, u "(II)I"), (0, .integer 2147483639), (76, u "T_BOOLEAN"), (2, u "T_CHAR"), (1, u "T_FLOAT"), (1, u "T_DOUBLE"), (1, u "T_BYTE"), (1, u "T_SHORT"), (1, u "T_INT"), (1, u "T_LONG"), (1, u "SOFT_MAX_ARRAY_LENGTH"), (56, u "newLength"), (0, u "(III)I")] 25

def k17m0 : Method := { name := "<init>", desc := "()V", sig := { parameters := [], returnType := none }, accessFlags := 2, code := none }
def k17c1 : Code := { maxStack := 3, maxLocals := 4, code := jdk_48_method_27_code, exceptionTable := #[], attributes := #[] }
def k17m1 : Method := { name := "newLength", desc := "(III)I", sig := { parameters := [.int, .int, .int], returnType := some .int }, accessFlags := 9, code := some k17c1 }
/-- jdk/internal/util/ArraysSupport -/
def k17 : Class := { plain "jdk/internal/util/ArraysSupport" (some 0) with
  accessFlags := 33
  interfaces := #[]
  cf := some (fileOf pool17 21 #[] #[{ accessFlags := 2, nameIndex := 9, descriptorIndex := 19, attributes := #[] }, { accessFlags := 9, nameIndex := 351, descriptorIndex := 352, attributes := #[] }] 33 16 #[] #[{ accessFlags := 24, nameIndex := 28, descriptorIndex := 29, attributes := #[] }, { accessFlags := 26, nameIndex := 38, descriptorIndex := 39, attributes := #[] }, { accessFlags := 25, nameIndex := 121, descriptorIndex := 25, attributes := #[] }, { accessFlags := 25, nameIndex := 131, descriptorIndex := 25, attributes := #[] }, { accessFlags := 25, nameIndex := 137, descriptorIndex := 25, attributes := #[] }, { accessFlags := 25, nameIndex := 143, descriptorIndex := 25, attributes := #[] }, { accessFlags := 25, nameIndex := 53, descriptorIndex := 25, attributes := #[] }, { accessFlags := 25, nameIndex := 24, descriptorIndex := 25, attributes := #[] }, { accessFlags := 25, nameIndex := 162, descriptorIndex := 25, attributes := #[] }, { accessFlags := 25, nameIndex := 187, descriptorIndex := 25, attributes := #[] }, { accessFlags := 26, nameIndex := 48, descriptorIndex := 25, attributes := #[] }, { accessFlags := 25, nameIndex := 277, descriptorIndex := 25, attributes := #[] }, { accessFlags := 25, nameIndex := 280, descriptorIndex := 25, attributes := #[] }, { accessFlags := 25, nameIndex := 282, descriptorIndex := 25, attributes := #[] }, { accessFlags := 25, nameIndex := 284, descriptorIndex := 25, attributes := #[] }, { accessFlags := 25, nameIndex := 286, descriptorIndex := 25, attributes := #[] }, { accessFlags := 25, nameIndex := 288, descriptorIndex := 25, attributes := #[] }, { accessFlags := 25, nameIndex := 290, descriptorIndex := 25, attributes := #[] }, { accessFlags := 25, nameIndex := 292, descriptorIndex := 25, attributes := #[] }, { accessFlags := 26, nameIndex := 108, descriptorIndex := 109, attributes := #[] }, { accessFlags := 25, nameIndex := 294, descriptorIndex := 25, attributes := #[] }])
  fields := #[{ name := "U", type := (.object "jdk/internal/misc/Unsafe"), accessFlags := 24, slot := 0, constantValue := 0 }, { name := "BIG_ENDIAN", type := .boolean, accessFlags := 26, slot := 1, constantValue := 0 }, { name := "LOG2_ARRAY_BOOLEAN_INDEX_SCALE", type := .int, accessFlags := 25, slot := 2, constantValue := 0 }, { name := "LOG2_ARRAY_BYTE_INDEX_SCALE", type := .int, accessFlags := 25, slot := 3, constantValue := 0 }, { name := "LOG2_ARRAY_CHAR_INDEX_SCALE", type := .int, accessFlags := 25, slot := 4, constantValue := 0 }, { name := "LOG2_ARRAY_SHORT_INDEX_SCALE", type := .int, accessFlags := 25, slot := 5, constantValue := 0 }, { name := "LOG2_ARRAY_INT_INDEX_SCALE", type := .int, accessFlags := 25, slot := 6, constantValue := 0 }, { name := "LOG2_ARRAY_LONG_INDEX_SCALE", type := .int, accessFlags := 25, slot := 7, constantValue := 0 }, { name := "LOG2_ARRAY_FLOAT_INDEX_SCALE", type := .int, accessFlags := 25, slot := 8, constantValue := 0 }, { name := "LOG2_ARRAY_DOUBLE_INDEX_SCALE", type := .int, accessFlags := 25, slot := 9, constantValue := 0 }, { name := "LOG2_BYTE_BIT_SIZE", type := .int, accessFlags := 26, slot := 10, constantValue := 0 }, { name := "T_BOOLEAN", type := .int, accessFlags := 25, slot := 11, constantValue := 0 }, { name := "T_CHAR", type := .int, accessFlags := 25, slot := 12, constantValue := 0 }, { name := "T_FLOAT", type := .int, accessFlags := 25, slot := 13, constantValue := 0 }, { name := "T_DOUBLE", type := .int, accessFlags := 25, slot := 14, constantValue := 0 }, { name := "T_BYTE", type := .int, accessFlags := 25, slot := 15, constantValue := 0 }, { name := "T_SHORT", type := .int, accessFlags := 25, slot := 16, constantValue := 0 }, { name := "T_INT", type := .int, accessFlags := 25, slot := 17, constantValue := 0 }, { name := "T_LONG", type := .int, accessFlags := 25, slot := 18, constantValue := 0 }, { name := "JLA", type := (.object "jdk/internal/access/JavaLangAccess"), accessFlags := 26, slot := 19, constantValue := 0 }, { name := "SOFT_MAX_ARRAY_LENGTH", type := .int, accessFlags := 25, slot := 20, constantValue := 0 }]
  methods := #[k17m0, k17m1]
  instanceTypes := #[]
  staticTypes := #[(.object "jdk/internal/misc/Unsafe"), .boolean, .int, .int, .int, .int, .int, .int, .int, .int, .int, .int, .int, .int, .int, .int, .int, .int, .int, (.object "jdk/internal/access/JavaLangAccess"), .int]
  resolved := Array.replicate 378 none
  statics := none }

def pool18 : Array CpInfo := pool [(1, .class_ 2), (0, u "java/lang/Math"), (1, .class_ 6), (1, u "java/lang/Object"), (0, u "<init>"), (0, u "()V"), (89, .class_ 100), (1, u "java/lang/Math$RandomNumberGeneratorHolder"), (71, u "negativeZeroFloatBits"), (0, u "J"), (2, u "negativeZeroDoubleBits"), (21, u "max"), (2, u "min"), (43, u "$assertionsDisabled"), (0, u "Z"), (88, u "(II)I"), (2, u "twoToTheDoubleScaleDown"), (0, u "D"), (4, u "twoToTheDoubleScaleUp"), (9, u "E"), (3, u "PI"), (2, u "TAU"), (2, u "DEGREES_TO_RADIANS"), (0, u "RADIANS_TO_DEGREES")] 94

def k18m0 : Method := { name := "<init>", desc := "()V", sig := { parameters := [], returnType := none }, accessFlags := 2, code := none }
def k18c1 : Code := { maxStack := 2, maxLocals := 2, code := jdk_29_method_65_code, exceptionTable := #[], attributes := #[] }
def k18m1 : Method := { name := "max", desc := "(II)I", sig := { parameters := [.int, .int], returnType := some .int }, accessFlags := 9, code := some k18c1 }
def k18c2 : Code := { maxStack := 2, maxLocals := 2, code := jdk_29_method_69_code, exceptionTable := #[], attributes := #[] }
def k18m2 : Method := { name := "min", desc := "(II)I", sig := { parameters := [.int, .int], returnType := some .int }, accessFlags := 9, code := some k18c2 }
/-- java/lang/Math -/
def k18 : Class := { plain "java/lang/Math" (some 0) with
  accessFlags := 49
  interfaces := #[]
  cf := some (fileOf pool18 1 #[.nestMembers #[98]] #[{ accessFlags := 2, nameIndex := 7, descriptorIndex := 8, attributes := #[] }, { accessFlags := 9, nameIndex := 198, descriptorIndex := 335, attributes := #[] }, { accessFlags := 9, nameIndex := 201, descriptorIndex := 335, attributes := #[] }] 49 4 #[] #[{ accessFlags := 25, nameIndex := 354, descriptorIndex := 339, attributes := #[] }, { accessFlags := 25, nameIndex := 358, descriptorIndex := 339, attributes := #[] }, { accessFlags := 25, nameIndex := 361, descriptorIndex := 339, attributes := #[] }, { accessFlags := 26, nameIndex := 364, descriptorIndex := 339, attributes := #[] }, { accessFlags := 26, nameIndex := 365, descriptorIndex := 339, attributes := #[] }, { accessFlags := 26, nameIndex := 172, descriptorIndex := 173, attributes := #[] }, { accessFlags := 26, nameIndex := 176, descriptorIndex := 173, attributes := #[] }, { accessFlags := 8, nameIndex := 344, descriptorIndex := 339, attributes := #[] }, { accessFlags := 8, nameIndex := 338, descriptorIndex := 339, attributes := #[] }, { accessFlags := 4120, nameIndex := 245, descriptorIndex := 246, attributes := #[] }])
  fields := #[{ name := "E", type := .double, accessFlags := 25, slot := 0, constantValue := 0 }, { name := "PI", type := .double, accessFlags := 25, slot := 1, constantValue := 0 }, { name := "TAU", type := .double, accessFlags := 25, slot := 2, constantValue := 0 }, { name := "DEGREES_TO_RADIANS", type := .double, accessFlags := 26, slot := 3, constantValue := 0 }, { name := "RADIANS_TO_DEGREES", type := .double, accessFlags := 26, slot := 4, constantValue := 0 }, { name := "negativeZeroFloatBits", type := .long, accessFlags := 26, slot := 5, constantValue := 0 }, { name := "negativeZeroDoubleBits", type := .long, accessFlags := 26, slot := 6, constantValue := 0 }, { name := "twoToTheDoubleScaleUp", type := .double, accessFlags := 8, slot := 7, constantValue := 0 }, { name := "twoToTheDoubleScaleDown", type := .double, accessFlags := 8, slot := 8, constantValue := 0 }, { name := "$assertionsDisabled", type := .boolean, accessFlags := 4120, slot := 9, constantValue := 0 }]
  methods := #[k18m0, k18m1, k18m2]
  instanceTypes := #[]
  staticTypes := #[.double, .double, .double, .double, .double, .long, .long, .double, .double, .boolean]
  resolved := Array.replicate 460 none
  statics := none }

def pool19 : Array CpInfo := pool [(2, .class_ 4), (1, u "java/lang/Object"), (0, u "<init>"), (0, u "()V"), (7, .class_ 16), (1, u "java/util/Arrays"), (57, .class_ 76), (1, u "java/util/Arrays$NaturalOrder"), (32, u "()Ljava/lang/Object;"), (3, .class_ 115), (1, u "java/util/Arrays$LegacyMergeSort"), (1, u "Z"), (10, .nameAndType 129 109), (0, u "clone"), (9, u "copyOfRange"), (10, .methodref 151 152), (0, .class_ 153), (0, .nameAndType 154 155), (0, u "java/lang/System"), (0, u "arraycopy"), (0, u "(Ljava/lang/Object;ILjava/lang/Object;II)V"), (146, u "copyOf"), (1, .methodref 305 306), (0, .class_ 307), (0, .nameAndType 308 309), (0, u "java/lang/Math"), (0, u "min"), (0, u "(II)I"), (0, .methodref 311 128), (0, .class_ 312), (0, u "[B"), (29, u "([BII)[B"), (32, .class_ 376), (0, u "java/util/Arrays$ArrayList"), (68, u "$assertionsDisabled"), (269, u "MIN_ARRAY_SORT_GRAN"), (0, u "I"), (2, u "INSERTIONSORT_THRESHOLD"), (149, u "([BI)[B"), (105, .class_ 976), (0, u "java/util/Arrays$ArrayItr")] 52

def k19m0 : Method := { name := "<init>", desc := "()V", sig := { parameters := [], returnType := none }, accessFlags := 2, code := none }
def k19c1 : Code := { maxStack := 6, maxLocals := 3, code := jdk_65_method_121_code, exceptionTable := #[], attributes := #[] }
def k19m1 : Method := { name := "copyOf", desc := "([BI)[B", sig := { parameters := [(.array .byte), .int], returnType := some (.array .byte) }, accessFlags := 9, code := some k19c1 }
def k19c2 : Code := { maxStack := 3, maxLocals := 3, code := jdk_65_method_132_code, exceptionTable := #[], attributes := #[] }
def k19m2 : Method := { name := "copyOfRange", desc := "([BII)[B", sig := { parameters := [(.array .byte), .int, .int], returnType := some (.array .byte) }, accessFlags := 9, code := some k19c2 }
/-- java/util/Arrays -/
def k19 : Class := { plain "java/util/Arrays" (some 0) with
  accessFlags := 49
  interfaces := #[]
  cf := some (fileOf pool19 14 #[.nestMembers #[975, 375, 113, 74]] #[{ accessFlags := 2, nameIndex := 5, descriptorIndex := 6, attributes := #[] }, { accessFlags := 9, nameIndex := 302, descriptorIndex := 869, attributes := #[] }, { accessFlags := 9, nameIndex := 139, descriptorIndex := 342, attributes := #[] }] 49 2 #[] #[{ accessFlags := 26, nameIndex := 715, descriptorIndex := 716, attributes := #[] }, { accessFlags := 26, nameIndex := 719, descriptorIndex := 716, attributes := #[] }, { accessFlags := 4120, nameIndex := 445, descriptorIndex := 117, attributes := #[] }])
  fields := #[{ name := "MIN_ARRAY_SORT_GRAN", type := .int, accessFlags := 26, slot := 0, constantValue := 0 }, { name := "INSERTIONSORT_THRESHOLD", type := .int, accessFlags := 26, slot := 1, constantValue := 0 }, { name := "$assertionsDisabled", type := .boolean, accessFlags := 4120, slot := 2, constantValue := 0 }]
  methods := #[k19m0, k19m1, k19m2]
  instanceTypes := #[]
  staticTypes := #[.int, .int, .boolean]
  resolved := Array.replicate 1029 none
  statics := none }

def pool20 : Array CpInfo := pool [(1, .class_ 2), (0, u "java/lang/Cloneable"), (0, .class_ 4), (0, u "java/lang/Object")] 2

/-- java/lang/Cloneable -/
def k20 : Class := { plain "java/lang/Cloneable" (some 0) with
  accessFlags := 1537
  interfaces := #[]
  cf := some (fileOf pool20 1 #[] #[] 1537 3 #[] #[])
  fields := #[]
  methods := #[]
  instanceTypes := #[]
  staticTypes := #[]
  resolved := Array.replicate 7 none
  statics := none }

def pool21 : Array CpInfo := pool [(4, .class_ 6), (1, u "java/lang/Object"), (0, u "<init>"), (0, u "()V"), (5, .class_ 16), (1, u "java/lang/StringLatin1"), (104, u "$assertionsDisabled"), (0, u "Z"), (98, .class_ 223), (1, u "java/lang/StringLatin1$LinesSpliterator"), (57, u "equals"), (0, u "([B[B)Z"), (107, .class_ 391), (0, u "java/lang/StringLatin1$CharsSpliterator")] 3

def k21m0 : Method := { name := "<init>", desc := "()V", sig := { parameters := [], returnType := none }, accessFlags := 0, code := none }
def k21c1 : Code := { maxStack := 3, maxLocals := 3, code := jdk_43_method_13_code, exceptionTable := #[], attributes := #[] }
def k21m1 : Method := { name := "equals", desc := "([B[B)Z", sig := { parameters := [(.array .byte), (.array .byte)], returnType := some .boolean }, accessFlags := 9, code := some k21c1 }
/-- java/lang/StringLatin1 -/
def k21 : Class := { plain "java/lang/StringLatin1" (some 0) with
  accessFlags := 48
  interfaces := #[]
  cf := some (fileOf pool21 14 #[.nestMembers #[390, 221]] #[{ accessFlags := 0, nameIndex := 7, descriptorIndex := 8, attributes := #[] }, { accessFlags := 9, nameIndex := 281, descriptorIndex := 282, attributes := #[] }] 48 4 #[] #[{ accessFlags := 4120, nameIndex := 121, descriptorIndex := 122, attributes := #[] }])
  fields := #[{ name := "$assertionsDisabled", type := .boolean, accessFlags := 4120, slot := 0, constantValue := 0 }]
  methods := #[k21m0, k21m1]
  instanceTypes := #[]
  staticTypes := #[.boolean]
  resolved := Array.replicate 395 none
  statics := none }

def pool22 : Array CpInfo := pool [(2, .class_ 4), (1, u "java/lang/Object"), (0, u "<init>"), (0, u "()V"), (17, .class_ 26), (1, u "jdk/internal/util/Preconditions"), (28, .class_ 56), (0, u "jdk/internal/util/Preconditions$4"), (57, .class_ 115), (0, u "jdk/internal/util/Preconditions$1"), (7, u "SIOOBE_FORMATTER"), (0, u "Ljava/util/function/BiFunction;"), (0, .class_ 126), (0, u "jdk/internal/util/Preconditions$2"), (3, u "AIOOBE_FORMATTER"), (0, .class_ 132), (0, u "jdk/internal/util/Preconditions$3"), (3, u "IOOBE_FORMATTER")] 57

def k22m0 : Method := { name := "<init>", desc := "()V", sig := { parameters := [], returnType := none }, accessFlags := 1, code := none }
/-- jdk/internal/util/Preconditions -/
def k22 : Class := { plain "jdk/internal/util/Preconditions" (some 0) with
  accessFlags := 33
  interfaces := #[]
  cf := some (fileOf pool22 24 #[.nestMembers #[55, 131, 125, 114]] #[{ accessFlags := 1, nameIndex := 5, descriptorIndex := 6, attributes := #[] }] 33 2 #[] #[{ accessFlags := 25, nameIndex := 123, descriptorIndex := 124, attributes := #[] }, { accessFlags := 25, nameIndex := 130, descriptorIndex := 124, attributes := #[] }, { accessFlags := 25, nameIndex := 136, descriptorIndex := 124, attributes := #[] }])
  fields := #[{ name := "SIOOBE_FORMATTER", type := (.object "java/util/function/BiFunction"), accessFlags := 25, slot := 0, constantValue := 0 }, { name := "AIOOBE_FORMATTER", type := (.object "java/util/function/BiFunction"), accessFlags := 25, slot := 1, constantValue := 0 }, { name := "IOOBE_FORMATTER", type := (.object "java/util/function/BiFunction"), accessFlags := 25, slot := 2, constantValue := 0 }]
  methods := #[k22m0]
  instanceTypes := #[]
  staticTypes := #[(.object "java/util/function/BiFunction"), (.object "java/util/function/BiFunction"), (.object "java/util/function/BiFunction")]
  resolved := Array.replicate 194 none
  statics := some 2 }

def pool23 : Array CpInfo := pool [(2, .class_ 4), (1, u "java/lang/Object"), (0, u "<init>"), (0, u "()V"), (12, .class_ 20), (0, u "java/util/Collections"), (63, u "r"), (0, u "Ljava/util/Random;"), (80, .class_ 167), (0, u "java/util/Collections$UnmodifiableCollection"), (6, .class_ 175), (0, u "java/util/Collections$UnmodifiableSequencedCollection"), (6, .class_ 183), (0, u "java/util/Collections$UnmodifiableSet"), (6, .class_ 191), (0, u "java/util/Collections$UnmodifiableSequencedSet"), (6, .class_ 199), (0, u "java/util/Collections$UnmodifiableSortedSet"), (6, .class_ 207), (0, u "java/util/Collections$UnmodifiableNavigableSet"), (4, .class_ 213), (0, u "java/util/Collections$UnmodifiableList"), (1, .class_ 216), (0, u "java/util/Collections$UnmodifiableRandomAccessList"), (6, .class_ 224), (0, u "java/util/Collections$UnmodifiableMap"), (6, .class_ 232), (0, u "java/util/Collections$UnmodifiableSequencedMap"), (4, .class_ 238), (0, u "java/util/Collections$UnmodifiableSortedMap"), (6, .class_ 246), (0, u "java/util/Collections$UnmodifiableNavigableMap"), (3, .class_ 251), (0, u "java/util/Collections$SynchronizedCollection"), (4, .class_ 257), (0, u "java/util/Collections$SynchronizedSet"), (4, .class_ 263), (0, u "java/util/Collections$SynchronizedSortedSet"), (1, .class_ 266), (0, u "java/util/Collections$SynchronizedNavigableSet"), (1, .class_ 269), (0, u "java/util/Collections$SynchronizedRandomAccessList"), (1, .class_ 272), (0, u "java/util/Collections$SynchronizedList"), (5, .class_ 279), (0, u "java/util/Collections$SynchronizedMap"), (1, .class_ 282), (0, u "java/util/Collections$SynchronizedSortedMap"), (1, .class_ 285), (0, u "java/util/Collections$SynchronizedNavigableMap"), (1, .class_ 288), (0, u "java/util/Collections$CheckedCollection"), (11, .class_ 301), (0, u "java/util/Collections$CheckedQueue"), (3, .class_ 306), (0, u "java/util/Collections$CheckedSet"), (3, .class_ 311), (0, u "java/util/Collections$CheckedSortedSet"), (3, .class_ 316), (0, u "java/util/Collections$CheckedNavigableSet"), (3, .class_ 321), (0, u "java/util/Collections$CheckedRandomAccessList"), (3, .class_ 326), (0, u "java/util/Collections$CheckedList"), (1, .class_ 329), (0, u "java/util/Collections$CheckedMap"), (3, .class_ 334), (0, u "java/util/Collections$CheckedSortedMap"), (3, .class_ 339), (0, u "java/util/Collections$CheckedNavigableMap"), (4, .class_ 346), (1, u "java/util/Collections$EmptyIterator"), (3, .class_ 352), (1, u "java/util/Collections$EmptyListIterator"), (2, .class_ 357), (1, u "java/util/Collections$EmptyEnumeration"), (4, u "EMPTY_SET"), (0, u "Ljava/util/Set;"), (6, u "EMPTY_LIST"), (0, u "Ljava/util/List;"), (2, u "EMPTY_MAP"), (0, u "Ljava/util/Map;"), (4, .class_ 381), (0, u "java/util/Collections$SingletonSet"), (2, .class_ 385), (0, u "java/util/Collections$1"), (1, .class_ 388), (0, u "java/util/Collections$2"), (1, .class_ 391), (0, u "java/util/Collections$SingletonList"), (1, .class_ 394), (0, u "java/util/Collections$SingletonMap"), (22, .class_ 418), (0, u "java/util/Collections$CopiesList"), (4, .class_ 425), (1, u "java/util/Collections$ReverseComparator"), (8, .class_ 435), (0, u "java/util/Collections$ReverseComparator2"), (6, .class_ 443), (0, u "java/util/Collections$3"), (25, .class_ 470), (0, u "java/util/Collections$SetFromMap"), (2, .class_ 474), (0, u "java/util/Collections$SequencedSetFromMap"), (3, .class_ 479), (0, u "java/util/Collections$AsLIFOQueue"), (11, .class_ 492), (0, u "java/util/Collections$EmptySet"), (1, .class_ 495), (0, u "java/util/Collections$EmptyList"), (1, .class_ 498), (0, u "java/util/Collections$EmptyMap"), (1, u "BINARYSEARCH_THRESHOLD"), (0, u "I"), (2, u "REVERSE_THRESHOLD"), (1, u "SHUFFLE_THRESHOLD"), (1, u "FILL_THRESHOLD"), (1, u "ROTATE_THRESHOLD"), (1, u "COPY_THRESHOLD"), (1, u "REPLACEALL_THRESHOLD"), (1, u "INDEXOFSUBLIST_THRESHOLD"), (333, .class_ 851), (0, u "java/util/Collections$CheckedMap$CheckedEntrySet"), (0, .class_ 853), (0, u "java/util/Collections$CheckedMap$CheckedEntrySet$CheckedEntry"), (0, .class_ 855), (0, u "java/util/Collections$CheckedMap$CheckedEntrySet$1"), (0, .class_ 857), (0, u "java/util/Collections$CheckedList$1"), (0, .class_ 859), (0, u "java/util/Collections$CheckedCollection$1"), (0, .class_ 861), (0, u "java/util/Collections$UnmodifiableNavigableMap$EmptyNavigableMap"), (0, .class_ 863), (0, u "java/util/Collections$UnmodifiableMap$UnmodifiableEntrySet"), (0, .class_ 865), (0, u "java/util/Collections$UnmodifiableMap$UnmodifiableEntrySet$UnmodifiableEntry"), (0, .class_ 867), (0, u "java/util/Collections$UnmodifiableMap$UnmodifiableEntrySet$UnmodifiableEntrySetSpliterator"), (0, .class_ 869), (0, u "java/util/Collections$UnmodifiableMap$UnmodifiableEntrySet$1"), (0, .class_ 871), (0, u "java/util/Collections$UnmodifiableList$1"), (0, .class_ 873), (0, u "java/util/Collections$UnmodifiableNavigableSet$EmptyNavigableSet"), (0, .class_ 875), (0, u "java/util/Collections$UnmodifiableCollection$1")] 57

def k23m0 : Method := { name := "<init>", desc := "()V", sig := { parameters := [], returnType := none }, accessFlags := 2, code := none }
/-- java/util/Collections -/
def k23 : Class := { plain "java/util/Collections" (some 0) with
  accessFlags := 33
  interfaces := #[]
  cf := some (fileOf pool23 19 #[.nestMembers #[478, 473, 469, 434, 423, 417, 393, 390, 380, 497, 494, 491, 355, 350, 344, 338, 333, 328, 850, 852, 854, 320, 325, 856, 315, 310, 305, 300, 287, 858, 284, 281, 278, 268, 271, 265, 262, 256, 250, 245, 860, 237, 231, 223, 862, 864, 866, 868, 215, 212, 870, 206, 872, 198, 190, 182, 174, 166, 874, 442, 387, 384]] #[{ accessFlags := 2, nameIndex := 5, descriptorIndex := 6, attributes := #[] }] 33 2 #[] #[{ accessFlags := 26, nameIndex := 500, descriptorIndex := 501, attributes := #[] }, { accessFlags := 26, nameIndex := 504, descriptorIndex := 501, attributes := #[] }, { accessFlags := 26, nameIndex := 506, descriptorIndex := 501, attributes := #[] }, { accessFlags := 26, nameIndex := 508, descriptorIndex := 501, attributes := #[] }, { accessFlags := 26, nameIndex := 510, descriptorIndex := 501, attributes := #[] }, { accessFlags := 26, nameIndex := 512, descriptorIndex := 501, attributes := #[] }, { accessFlags := 26, nameIndex := 514, descriptorIndex := 501, attributes := #[] }, { accessFlags := 26, nameIndex := 516, descriptorIndex := 501, attributes := #[] }, { accessFlags := 10, nameIndex := 84, descriptorIndex := 85, attributes := #[] }, { accessFlags := 25, nameIndex := 362, descriptorIndex := 363, attributes := #[] }, { accessFlags := 25, nameIndex := 370, descriptorIndex := 371, attributes := #[] }, { accessFlags := 25, nameIndex := 374, descriptorIndex := 375, attributes := #[] }])
  fields := #[{ name := "BINARYSEARCH_THRESHOLD", type := .int, accessFlags := 26, slot := 0, constantValue := 0 }, { name := "REVERSE_THRESHOLD", type := .int, accessFlags := 26, slot := 1, constantValue := 0 }, { name := "SHUFFLE_THRESHOLD", type := .int, accessFlags := 26, slot := 2, constantValue := 0 }, { name := "FILL_THRESHOLD", type := .int, accessFlags := 26, slot := 3, constantValue := 0 }, { name := "ROTATE_THRESHOLD", type := .int, accessFlags := 26, slot := 4, constantValue := 0 }, { name := "COPY_THRESHOLD", type := .int, accessFlags := 26, slot := 5, constantValue := 0 }, { name := "REPLACEALL_THRESHOLD", type := .int, accessFlags := 26, slot := 6, constantValue := 0 }, { name := "INDEXOFSUBLIST_THRESHOLD", type := .int, accessFlags := 26, slot := 7, constantValue := 0 }, { name := "r", type := (.object "java/util/Random"), accessFlags := 10, slot := 8, constantValue := 0 }, { name := "EMPTY_SET", type := (.object "java/util/Set"), accessFlags := 25, slot := 9, constantValue := 0 }, { name := "EMPTY_LIST", type := (.object "java/util/List"), accessFlags := 25, slot := 10, constantValue := 0 }, { name := "EMPTY_MAP", type := (.object "java/util/Map"), accessFlags := 25, slot := 11, constantValue := 0 }]
  methods := #[k23m0]
  instanceTypes := #[]
  staticTypes := #[.int, .int, .int, .int, .int, .int, .int, .int, (.object "java/util/Random"), (.object "java/util/Set"), (.object "java/util/List"), (.object "java/util/Map")]
  resolved := Array.replicate 933 none
  statics := some 3 }

def pool24 : Array CpInfo := pool [(8, .class_ 10), (1, u "java/lang/Iterable"), (24, .class_ 36), (0, u "java/lang/Object")] 25

/-- java/lang/Iterable -/
def k24 : Class := { plain "java/lang/Iterable" (some 0) with
  accessFlags := 1537
  interfaces := #[]
  cf := some (fileOf pool24 8 #[] #[] 1537 35 #[] #[])
  fields := #[]
  methods := #[]
  instanceTypes := #[]
  staticTypes := #[]
  resolved := Array.replicate 62 none
  statics := none }

def pool25 : Array CpInfo := pool [(10, .class_ 12), (1, u "java/util/Collection"), (47, .class_ 61), (0, u "java/lang/Object"), (0, .class_ 63), (0, u "java/lang/Iterable")] 51

/-- java/util/Collection -/
def k25 : Class := { plain "java/util/Collection" (some 0) with
  accessFlags := 1537
  interfaces := #[24]
  cf := some (fileOf pool25 10 #[] #[] 1537 60 #[62] #[])
  fields := #[]
  methods := #[]
  instanceTypes := #[]
  staticTypes := #[]
  resolved := Array.replicate 115 none
  statics := none }

def pool26 : Array CpInfo := pool [(2, .class_ 4), (1, u "java/lang/Object"), (0, u "<init>"), (0, u "()V"), (1, .class_ 10), (1, u "java/util/AbstractCollection"), (66, .class_ 78), (0, u "java/util/Collection")] 81

def k26m0 : Method := { name := "<init>", desc := "()V", sig := { parameters := [], returnType := none }, accessFlags := 4, code := none }
/-- java/util/AbstractCollection -/
def k26 : Class := { plain "java/util/AbstractCollection" (some 0) with
  accessFlags := 1057
  interfaces := #[25]
  cf := some (fileOf pool26 8 #[] #[{ accessFlags := 4, nameIndex := 5, descriptorIndex := 6, attributes := #[] }] 1057 2 #[77] #[])
  fields := #[]
  methods := #[k26m0]
  instanceTypes := #[]
  staticTypes := #[]
  resolved := Array.replicate 160 none
  statics := none }

def pool27 : Array CpInfo := pool [(8, .class_ 10), (1, u "java/util/SequencedCollection"), (15, .class_ 27), (0, u "java/lang/Object"), (0, .class_ 29), (0, u "java/util/Collection")] 27

/-- java/util/SequencedCollection -/
def k27 : Class := { plain "java/util/SequencedCollection" (some 0) with
  accessFlags := 1537
  interfaces := #[25]
  cf := some (fileOf pool27 8 #[] #[] 1537 26 #[28] #[])
  fields := #[]
  methods := #[]
  instanceTypes := #[]
  staticTypes := #[]
  resolved := Array.replicate 57 none
  statics := none }

def pool28 : Array CpInfo := pool [(8, .class_ 10), (1, u "java/util/List"), (92, .class_ 104), (0, u "java/lang/Object"), (15, .class_ 121), (0, u "java/util/SequencedCollection")] 129

/-- java/util/List -/
def k28 : Class := { plain "java/util/List" (some 0) with
  accessFlags := 1537
  interfaces := #[27]
  cf := some (fileOf pool28 8 #[] #[] 1537 103 #[120] #[])
  fields := #[]
  methods := #[]
  instanceTypes := #[]
  staticTypes := #[]
  resolved := Array.replicate 251 none
  statics := none }

def pool29 : Array CpInfo := pool [(2, .class_ 4), (1, u "java/util/AbstractCollection"), (0, u "<init>"), (0, u "()V"), (1, .class_ 10), (1, u "java/util/AbstractList"), (0, u "modCount"), (0, u "I"), (64, .class_ 78), (0, u "java/util/AbstractList$Itr"), (3, .class_ 83), (0, u "java/util/AbstractList$ListItr"), (9, .class_ 94), (0, u "java/util/AbstractList$RandomAccessSubList"), (3, .class_ 99), (0, u "java/util/AbstractList$SubList"), (33, .class_ 134), (0, u "java/util/List"), (73, .class_ 209), (0, u "java/util/AbstractList$SubList$1"), (0, .class_ 211), (0, u "java/util/AbstractList$RandomAccessSpliterator")] 6

def k29m0 : Method := { name := "<init>", desc := "()V", sig := { parameters := [], returnType := none }, accessFlags := 4, code := none }
/-- java/util/AbstractList -/
def k29 : Class := { plain "java/util/AbstractList" (some 26) with
  accessFlags := 1057
  interfaces := #[28]
  cf := some (fileOf pool29 8 #[.nestMembers #[93, 98, 208, 210, 82, 77]] #[{ accessFlags := 4, nameIndex := 5, descriptorIndex := 6, attributes := #[] }] 1057 2 #[133] #[{ accessFlags := 132, nameIndex := 11, descriptorIndex := 12, attributes := #[] }])
  fields := #[{ name := "modCount", type := .int, accessFlags := 132, slot := 0, constantValue := 0 }]
  methods := #[k29m0]
  instanceTypes := #[.int]
  staticTypes := #[]
  resolved := Array.replicate 218 none
  statics := none }

def pool30 : Array CpInfo := pool [(1, .class_ 2), (0, u "java/util/RandomAccess"), (0, .class_ 4), (0, u "java/lang/Object")] 2

/-- java/util/RandomAccess -/
def k30 : Class := { plain "java/util/RandomAccess" (some 0) with
  accessFlags := 1537
  interfaces := #[]
  cf := some (fileOf pool30 1 #[] #[] 1537 3 #[] #[])
  fields := #[]
  methods := #[]
  instanceTypes := #[]
  staticTypes := #[]
  resolved := Array.replicate 7 none
  statics := none }

def pool31 : Array CpInfo := pool [(2, .class_ 4), (1, u "java/util/AbstractList"), (0, u "<init>"), (0, u "()V"), (1, .class_ 10), (1, u "java/util/Collections"), (54, .class_ 66), (0, u "java/util/Collections$EmptyList"), (0, .class_ 68), (0, u "java/util/RandomAccess"), (0, .class_ 70), (0, u "java/io/Serializable"), (0, u "serialVersionUID"), (0, u "J")] 77

def k31m0 : Method := { name := "<init>", desc := "()V", sig := { parameters := [], returnType := none }, accessFlags := 2, code := none }
/-- java/util/Collections$EmptyList -/
def k31 : Class := { plain "java/util/Collections$EmptyList" (some 29) with
  accessFlags := 32
  interfaces := #[30, 2]
  cf := some (fileOf pool31 65 #[.nestHost 8] #[{ accessFlags := 2, nameIndex := 5, descriptorIndex := 6, attributes := #[] }] 32 2 #[67, 69] #[{ accessFlags := 26, nameIndex := 71, descriptorIndex := 72, attributes := #[] }])
  fields := #[{ name := "serialVersionUID", type := .long, accessFlags := 26, slot := 0, constantValue := 0 }]
  methods := #[k31m0]
  instanceTypes := #[.int]
  staticTypes := #[.long]
  resolved := Array.replicate 150 none
  statics := none }

def pool32 : Array CpInfo := pool [(2, .class_ 4), (1, u "java/lang/StackTraceElement"), (0, u "<init>"), (2, .class_ 10), (1, u "java/lang/Object"), (0, u "()V"), (2, u "format"), (0, u "B"), (2, u "classLoaderName"), (0, u "Ljava/lang/String;"), (2, u "moduleName"), (2, u "moduleVersion"), (12, u "declaringClass"), (4, u "methodName"), (2, u "fileName"), (2, u "lineNumber"), (0, u "I"), (65, u "declaringClassObject"), (0, u "Ljava/lang/Class;"), (33, .class_ 153), (1, u "java/lang/StackTraceElement$HashedModules"), (17, .class_ 172), (0, u "java/io/Serializable"), (0, u "NATIVE_METHOD"), (1, u "UNKNOWN_SOURCE"), (2, u "BUILTIN_CLASS_LOADER"), (1, u "JDK_NON_UPGRADEABLE_MODULE"), (1, u "serialVersionUID"), (0, u "J")] 51

def k32m0 : Method := { name := "<init>", desc := "()V", sig := { parameters := [], returnType := none }, accessFlags := 2, code := none }
/-- java/lang/StackTraceElement -/
def k32 : Class := { plain "java/lang/StackTraceElement" (some 0) with
  accessFlags := 49
  interfaces := #[2]
  cf := some (fileOf pool32 2 #[.nestMembers #[151]] #[{ accessFlags := 2, nameIndex := 5, descriptorIndex := 11, attributes := #[] }] 49 8 #[171] #[{ accessFlags := 26, nameIndex := 173, descriptorIndex := 19, attributes := #[] }, { accessFlags := 26, nameIndex := 175, descriptorIndex := 19, attributes := #[] }, { accessFlags := 130, nameIndex := 116, descriptorIndex := 117, attributes := #[] }, { accessFlags := 2, nameIndex := 18, descriptorIndex := 19, attributes := #[] }, { accessFlags := 2, nameIndex := 22, descriptorIndex := 19, attributes := #[] }, { accessFlags := 2, nameIndex := 25, descriptorIndex := 19, attributes := #[] }, { accessFlags := 2, nameIndex := 38, descriptorIndex := 19, attributes := #[] }, { accessFlags := 2, nameIndex := 43, descriptorIndex := 19, attributes := #[] }, { accessFlags := 2, nameIndex := 46, descriptorIndex := 19, attributes := #[] }, { accessFlags := 2, nameIndex := 49, descriptorIndex := 50, attributes := #[] }, { accessFlags := 2, nameIndex := 14, descriptorIndex := 15, attributes := #[] }, { accessFlags := 26, nameIndex := 178, descriptorIndex := 15, attributes := #[] }, { accessFlags := 26, nameIndex := 180, descriptorIndex := 15, attributes := #[] }, { accessFlags := 26, nameIndex := 182, descriptorIndex := 183, attributes := #[] }])
  fields := #[{ name := "NATIVE_METHOD", type := (.object "java/lang/String"), accessFlags := 26, slot := 0, constantValue := 0 }, { name := "UNKNOWN_SOURCE", type := (.object "java/lang/String"), accessFlags := 26, slot := 1, constantValue := 0 }, { name := "declaringClassObject", type := (.object "java/lang/Class"), accessFlags := 130, slot := 0, constantValue := 0 }, { name := "classLoaderName", type := (.object "java/lang/String"), accessFlags := 2, slot := 1, constantValue := 0 }, { name := "moduleName", type := (.object "java/lang/String"), accessFlags := 2, slot := 2, constantValue := 0 }, { name := "moduleVersion", type := (.object "java/lang/String"), accessFlags := 2, slot := 3, constantValue := 0 }, { name := "declaringClass", type := (.object "java/lang/String"), accessFlags := 2, slot := 4, constantValue := 0 }, { name := "methodName", type := (.object "java/lang/String"), accessFlags := 2, slot := 5, constantValue := 0 }, { name := "fileName", type := (.object "java/lang/String"), accessFlags := 2, slot := 6, constantValue := 0 }, { name := "lineNumber", type := .int, accessFlags := 2, slot := 7, constantValue := 0 }, { name := "format", type := .byte, accessFlags := 2, slot := 8, constantValue := 0 }, { name := "BUILTIN_CLASS_LOADER", type := .byte, accessFlags := 26, slot := 2, constantValue := 0 }, { name := "JDK_NON_UPGRADEABLE_MODULE", type := .byte, accessFlags := 26, slot := 3, constantValue := 0 }, { name := "serialVersionUID", type := .long, accessFlags := 26, slot := 4, constantValue := 0 }]
  methods := #[k32m0]
  instanceTypes := #[(.object "java/lang/Class"), (.object "java/lang/String"), (.object "java/lang/String"), (.object "java/lang/String"), (.object "java/lang/String"), (.object "java/lang/String"), (.object "java/lang/String"), .int, .byte]
  staticTypes := #[(.object "java/lang/String"), (.object "java/lang/String"), .byte, .byte, .long]
  resolved := Array.replicate 235 none
  statics := none }

/-- the primitive byte -/
def k33 : Class := { plain "byte" none with kind := .primitive 'B', accessFlags := 0x411 }
/-- [B -/
def k34 : Class := { plain "[B" (some 0) with kind := .array 33 .byte, interfaces := #[20, 2], accessFlags := 1041 }

/-- the primitive char -/
def k35 : Class := { plain "char" none with kind := .primitive 'C', accessFlags := 0x411 }
/-- [C -/
def k36 : Class := { plain "[C" (some 0) with kind := .array 35 .char, interfaces := #[20, 2], accessFlags := 1041 }

/-- the primitive int -/
def k37 : Class := { plain "int" none with kind := .primitive 'I', accessFlags := 0x411 }
/-- [I -/
def k38 : Class := { plain "[I" (some 0) with kind := .array 37 .int, interfaces := #[20, 2], accessFlags := 1041 }

/-- [Ljava/lang/Object; -/
def k39 : Class := { plain "[Ljava/lang/Object;" (some 0) with kind := .array 0 (.object "java/lang/Object"), interfaces := #[20, 2], accessFlags := 1041 }

/-- [Ljava/lang/StackTraceElement; -/
def k40 : Class := { plain "[Ljava/lang/StackTraceElement;" (some 0) with kind := .array 32 (.object "java/lang/StackTraceElement"), interfaces := #[20, 2], accessFlags := 1041 }

/-- [Ljava/lang/Throwable; -/
def k41 : Class := { plain "[Ljava/lang/Throwable;" (some 0) with kind := .array 9 (.object "java/lang/Throwable"), interfaces := #[20, 2], accessFlags := 1041 }

def heap : Heap := #[{ cls := 7, slots := #[.long 0, .int 1, .null, .int 0, .null, .int 0, .int 0], vm := .statics 7 },
  { cls := 9, slots := #[.long 0, .ref 4, .ref 5, .null, .null, .null, .null, .ref 6, .int 1], vm := .statics 9 },
  { cls := 22, slots := #[.null, .null, .null], vm := .statics 22 },
  { cls := 23, slots := #[.int 0, .int 0, .int 0, .int 0, .int 0, .int 0, .int 0, .int 0, .null, .null, .ref 5, .null], vm := .statics 23 },
  { cls := 40, slots := #[], vm := .none },
  { cls := 31, slots := #[.int 0], vm := .none },
  { cls := 41, slots := #[], vm := .none }]
def classes : Array Class := #[k0, k1, k2, k3, k4, k5, k6, k7, k8, k9, k10, k11, k12, k13, k14, k15, k16, k17, k18, k19, k20, k21, k22, k23, k24, k25, k26, k27, k28, k29, k30, k31, k32, k33, k34, k35, k36, k37, k38, k39, k40, k41]
def interned : List (Array UInt16 × Addr) := []
def slotsUsed : Nat := 32
def theMethod : MethodId := ⟨1, 1⟩
def args0 : Array Value := #[.int 1, .int 7, .int 3, .int 9]
def aboutOver (below : List Frame) : State where
  vm := { classes := classes, interned := interned.toArray }
  heap := heap
  slotsUsed := slotsUsed
  threads := #[{ frames := .invoking theMethod args0 :: below }]
def below0 : List Frame := [.native { method := ⟨0, 0⟩, args := #[] }]
def about1 : State := aboutOver below0
def p0 : Program := .bare "" "" ""
def e0 : Env := launch0.env 0 0 0
theorem w_frames : about1.frames = Frame.invoking theMethod args0 :: below0 := rfl
set_option maxRecDepth 65536 in
theorem w_args : argsFit about1.vm theMethod args0 = true := by decide +kernel
set_option maxRecDepth 65536 in
theorem w_heap : heapFits about1 = true := by decide +kernel
set_option maxRecDepth 65536 in
theorem w_runnable : about1.curStatus? = some .runnable := by decide +kernel
set_option maxRecDepth 65536 in
theorem w_alone : about1.alone = true := by decide +kernel
set_option maxRecDepth 65536 in
theorem w_named : about1.methodNamed? x = some theMethod := by decide +kernel
set_option maxRecDepth 65536 in
theorem w_hears : about1.hears theMethod below0 = true := by decide +kernel
set_option maxRecDepth 65536 in
theorem w_ripe : about1.ripe theMethod args0 below0 = true := by decide +kernel
theorem w_running : about1.status = .running := rfl
set_option maxRecDepth 65536 in
theorem w_room : about1.hasRoom e0.platform room_1 = true :=
  launch0.hasRoom_least _ room_1 (by decide +kernel) (by decide +kernel) (by decide +kernel) (by decide +kernel) (by decide +kernel) (by decide +kernel)
theorem allAtoms_all (ts : List Jvm.Cond) (a : Array Jvm.Value) (st : Jvm.State) : (allAtoms ts).before a st = ts.all (fun c => c.before a st) := by
  induction ts with
  | nil => rfl
  | cons c t ih =>
    show (Jvm.Cond.and c (allAtoms t)).before a st = _
    rw [Jvm.Cond.before_and, ih, List.all_cons]
def words1 : List Jvm.Cond := Jvm.Cond.code x code maxLocals ret :: tables_1
/-- a 'code' word, met by the world's own term for the bytes: nothing is compared byte by byte -/
theorem code_word {y : MethodName} {bytes : ByteArray} {mx : Nat} {rt : Option FieldType} {a : Array Value} {s : State} {m : MethodId} {meth : Method} {c : Code} (h1 : s.methodNamed? y = some m) (h2 : s.vm.method? m = some meth) (h3 : meth.code = some c) (h4 : c.code = bytes)
    (h5 : (c.maxLocals == mx && c.exceptionTable.isEmpty && decide (c.maxStack ≤ mostOperands) && decide (meth.sig.returnType = rt) && !meth.locks && decide (parseMethodDescriptor y.desc = some meth.sig)) = true) : (Jvm.Cond.code y bytes mx rt).before a s = true := by
  simp only [Bool.and_eq_true, beq_iff_eq, Bool.not_eq_true', decide_eq_true_eq] at h5
  obtain ⟨⟨⟨⟨⟨g1, g2⟩, g3⟩, g4⟩, g5⟩, g6⟩ := h5
  simp [Cond.before, Cond.holds, Cond.value, h1, h2, h3, h4, g1, g2, g3, g4, g5, g6]
def isCode : Jvm.Cond → Bool
  | .code _ _ _ _ => true
  | _ => false
theorem all_split {L : List Jvm.Cond} {P : Jvm.Cond → Bool} (h1 : L.all (fun c => isCode c || P c) = true) (h2 : ∀ c ∈ L.filter isCode, P c = true) : L.all P = true := by
  refine List.all_eq_true.mpr fun c hc => ?_
  have h := List.all_eq_true.mp h1 c hc
  rcases Bool.eq_false_or_eq_true (isCode c) with hi | hi
  · exact h2 c (List.mem_filter.mpr ⟨hc, hi⟩)
  · simpa [hi] using h
set_option maxRecDepth 65536 in
theorem w_c0 : (Jvm.Cond.code x code maxLocals ret).before args0 about1 = true := code_word (m := ⟨1, 1⟩) (meth := k1m1) (c := k1c1) (by decide +kernel) rfl rfl rfl (by decide +kernel)
set_option maxRecDepth 65536 in
theorem w_c1 : (Jvm.Cond.code ({ cls := "com/example/mortise_lock/mortiselock/redis/RedisCallExceptionClosedPinLaw", name := "putSuffix", desc := "([CI)V" } : Jvm.MethodName) method_3_code (2 : Nat) (Option.none : Option Jvm.ClassFile.FieldType)).before args0 about1 = true := code_word (m := ⟨1, 2⟩) (meth := k1m2) (c := k1c2) (by decide +kernel) rfl rfl rfl (by decide +kernel)
set_option maxRecDepth 65536 in
theorem w_c2 : (Jvm.Cond.code ({ cls := "java/lang/String", name := "<init>", desc := "([C)V" } : Jvm.MethodName) jdk_42_method_3_code (2 : Nat) (Option.none : Option Jvm.ClassFile.FieldType)).before args0 about1 = true := code_word (m := ⟨7, 1⟩) (meth := k7m1) (c := k7c1) (by decide +kernel) rfl rfl rfl (by decide +kernel)
set_option maxRecDepth 65536 in
theorem w_c3 : (Jvm.Cond.code ({ cls := "java/lang/String", name := "<init>", desc := "([CIILjava/lang/Void;)V" } : Jvm.MethodName) jdk_42_method_149_code (6 : Nat) (Option.none : Option Jvm.ClassFile.FieldType)).before args0 about1 = true := code_word (m := ⟨7, 6⟩) (meth := k7m6) (c := k7c6) (by decide +kernel) rfl rfl rfl (by decide +kernel)
set_option maxRecDepth 65536 in
theorem w_c4 : (Jvm.Cond.code ({ cls := "java/lang/Object", name := "<init>", desc := "()V" } : Jvm.MethodName) object_method_1_code (1 : Nat) (Option.none : Option Jvm.ClassFile.FieldType)).before args0 about1 = true := code_word (m := ⟨0, 0⟩) (meth := k0m0) (c := k0c0) (by decide +kernel) rfl rfl rfl (by decide +kernel)
set_option maxRecDepth 65536 in
theorem w_c5 : (Jvm.Cond.code ({ cls := "java/lang/StringUTF16", name := "compress", desc := "([CII)[B" } : Jvm.MethodName) jdk_52_method_16_code (6 : Nat) (Option.some (Jvm.ClassFile.FieldType.array Jvm.ClassFile.FieldType.byte))).before args0 about1 = true := code_word (m := ⟨8, 2⟩) (meth := k8m2) (c := k8c2) (by decide +kernel) rfl rfl rfl (by decide +kernel)
set_option maxRecDepth 65536 in
theorem w_c6 : (Jvm.Cond.code ({ cls := "java/lang/StringUTF16", name := "compress", desc := "([CI[BII)I" } : Jvm.MethodName) jdk_52_method_21_code (7 : Nat) (Option.some Jvm.ClassFile.FieldType.int)).before args0 about1 = true := code_word (m := ⟨8, 3⟩) (meth := k8m3) (c := k8c3) (by decide +kernel) rfl rfl rfl (by decide +kernel)
set_option maxRecDepth 65536 in
theorem w_c7 : (Jvm.Cond.code ({ cls := "java/lang/StringUTF16", name := "coderFromArrayLen", desc := "([BI)B" } : Jvm.MethodName) jdk_52_method_15_code (2 : Nat) (Option.some Jvm.ClassFile.FieldType.byte)).before args0 about1 = true := code_word (m := ⟨8, 1⟩) (meth := k8m1) (c := k8c1) (by decide +kernel) rfl rfl rfl (by decide +kernel)
set_option maxRecDepth 65536 in
theorem w_c8 : (Jvm.Cond.code ({ cls := "com/example/mortise_lock/mortiselock/redis/RedisCallException", name := "closed", desc := "(Ljava/lang/String;)Lcom/example/mortise_lock/mortiselock/redis/RedisCallException;" } : Jvm.MethodName) prog_10_method_2_code (1 : Nat) (Option.some (Jvm.ClassFile.FieldType.object "com/example/mortise_lock/mortiselock/redis/RedisCallException"))).before args0 about1 = true := code_word (m := ⟨12, 1⟩) (meth := k12m1) (c := k12c1) (by decide +kernel) rfl rfl rfl (by decide +kernel)
set_option maxRecDepth 65536 in
theorem w_c9 : (Jvm.Cond.code ({ cls := "java/lang/StringBuilder", name := "<init>", desc := "()V" } : Jvm.MethodName) jdk_67_method_1_code (1 : Nat) (Option.none : Option Jvm.ClassFile.FieldType)).before args0 about1 = true := code_word (m := ⟨15, 0⟩) (meth := k15m0) (c := k15c0) (by decide +kernel) rfl rfl rfl (by decide +kernel)
set_option maxRecDepth 65536 in
theorem w_c10 : (Jvm.Cond.code ({ cls := "java/lang/AbstractStringBuilder", name := "<init>", desc := "(I)V" } : Jvm.MethodName) jdk_68_method_2_code (2 : Nat) (Option.none : Option Jvm.ClassFile.FieldType)).before args0 about1 = true := code_word (m := ⟨14, 1⟩) (meth := k14m1) (c := k14c1) (by decide +kernel) rfl rfl rfl (by decide +kernel)
set_option maxRecDepth 65536 in
theorem w_c11 : (Jvm.Cond.code ({ cls := "java/lang/StringBuilder", name := "append", desc := "(Ljava/lang/String;)Ljava/lang/StringBuilder;" } : Jvm.MethodName) jdk_67_method_7_code (2 : Nat) (Option.some (Jvm.ClassFile.FieldType.object "java/lang/StringBuilder"))).before args0 about1 = true := code_word (m := ⟨15, 1⟩) (meth := k15m1) (c := k15c1) (by decide +kernel) rfl rfl rfl (by decide +kernel)
set_option maxRecDepth 65536 in
theorem w_c12 : (Jvm.Cond.code ({ cls := "java/lang/AbstractStringBuilder", name := "append", desc := "(Ljava/lang/String;)Ljava/lang/AbstractStringBuilder;" } : Jvm.MethodName) jdk_68_method_22_code (3 : Nat) (Option.some (Jvm.ClassFile.FieldType.object "java/lang/AbstractStringBuilder"))).before args0 about1 = true := code_word (m := ⟨14, 5⟩) (meth := k14m5) (c := k14c5) (by decide +kernel) rfl rfl rfl (by decide +kernel)
set_option maxRecDepth 65536 in
theorem w_c13 : (Jvm.Cond.code ({ cls := "java/lang/String", name := "length", desc := "()I" } : Jvm.MethodName) jdk_42_method_54_code (1 : Nat) (Option.some Jvm.ClassFile.FieldType.int)).before args0 about1 = true := code_word (m := ⟨7, 3⟩) (meth := k7m3) (c := k7c3) (by decide +kernel) rfl rfl rfl (by decide +kernel)
set_option maxRecDepth 65536 in
theorem w_c14 : (Jvm.Cond.code ({ cls := "java/lang/String", name := "coder", desc := "()B" } : Jvm.MethodName) jdk_42_method_152_code (1 : Nat) (Option.some Jvm.ClassFile.FieldType.byte)).before args0 about1 = true := code_word (m := ⟨7, 8⟩) (meth := k7m8) (c := k7c8) (by decide +kernel) rfl rfl rfl (by decide +kernel)
set_option maxRecDepth 65536 in
theorem w_c15 : (Jvm.Cond.code ({ cls := "java/lang/AbstractStringBuilder", name := "ensureCapacityInternal", desc := "(I)V" } : Jvm.MethodName) jdk_68_method_9_code (3 : Nat) (Option.none : Option Jvm.ClassFile.FieldType)).before args0 about1 = true := code_word (m := ⟨14, 3⟩) (meth := k14m3) (c := k14c3) (by decide +kernel) rfl rfl rfl (by decide +kernel)
set_option maxRecDepth 65536 in
theorem w_c16 : (Jvm.Cond.code ({ cls := "java/lang/AbstractStringBuilder", name := "putStringAt", desc := "(ILjava/lang/String;)V" } : Jvm.MethodName) jdk_68_method_73_code (3 : Nat) (Option.none : Option Jvm.ClassFile.FieldType)).before args0 about1 = true := code_word (m := ⟨14, 9⟩) (meth := k14m9) (c := k14c9) (by decide +kernel) rfl rfl rfl (by decide +kernel)
set_option maxRecDepth 65536 in
theorem w_c17 : (Jvm.Cond.code ({ cls := "java/lang/AbstractStringBuilder", name := "inflateIfNeededFor", desc := "(Ljava/lang/String;)V" } : Jvm.MethodName) jdk_68_method_71_code (2 : Nat) (Option.none : Option Jvm.ClassFile.FieldType)).before args0 about1 = true := code_word (m := ⟨14, 8⟩) (meth := k14m8) (c := k14c8) (by decide +kernel) rfl rfl rfl (by decide +kernel)
set_option maxRecDepth 65536 in
theorem w_c18 : (Jvm.Cond.code ({ cls := "java/lang/String", name := "getBytes", desc := "([BIB)V" } : Jvm.MethodName) jdk_42_method_147_code (4 : Nat) (Option.none : Option Jvm.ClassFile.FieldType)).before args0 about1 = true := code_word (m := ⟨7, 5⟩) (meth := k7m5) (c := k7c5) (by decide +kernel) rfl rfl rfl (by decide +kernel)
set_option maxRecDepth 65536 in
theorem w_c19 : (Jvm.Cond.code ({ cls := "java/lang/AbstractStringBuilder", name := "newCapacity", desc := "(I)I" } : Jvm.MethodName) jdk_68_method_10_code (6 : Nat) (Option.some Jvm.ClassFile.FieldType.int)).before args0 about1 = true := code_word (m := ⟨14, 4⟩) (meth := k14m4) (c := k14c4) (by decide +kernel) rfl rfl rfl (by decide +kernel)
set_option maxRecDepth 65536 in
theorem w_c20 : (Jvm.Cond.code ({ cls := "jdk/internal/util/ArraysSupport", name := "newLength", desc := "(III)I" } : Jvm.MethodName) jdk_48_method_27_code (4 : Nat) (Option.some Jvm.ClassFile.FieldType.int)).before args0 about1 = true := code_word (m := ⟨17, 1⟩) (meth := k17m1) (c := k17c1) (by decide +kernel) rfl rfl rfl (by decide +kernel)
set_option maxRecDepth 65536 in
theorem w_c21 : (Jvm.Cond.code ({ cls := "java/lang/Math", name := "max", desc := "(II)I" } : Jvm.MethodName) jdk_29_method_65_code (2 : Nat) (Option.some Jvm.ClassFile.FieldType.int)).before args0 about1 = true := code_word (m := ⟨18, 1⟩) (meth := k18m1) (c := k18c1) (by decide +kernel) rfl rfl rfl (by decide +kernel)
set_option maxRecDepth 65536 in
theorem w_c22 : (Jvm.Cond.code ({ cls := "java/util/Arrays", name := "copyOf", desc := "([BI)[B" } : Jvm.MethodName) jdk_65_method_121_code (3 : Nat) (Option.some (Jvm.ClassFile.FieldType.array Jvm.ClassFile.FieldType.byte))).before args0 about1 = true := code_word (m := ⟨19, 1⟩) (meth := k19m1) (c := k19c1) (by decide +kernel) rfl rfl rfl (by decide +kernel)
set_option maxRecDepth 65536 in
theorem w_c23 : (Jvm.Cond.code ({ cls := "java/lang/Math", name := "min", desc := "(II)I" } : Jvm.MethodName) jdk_29_method_69_code (2 : Nat) (Option.some Jvm.ClassFile.FieldType.int)).before args0 about1 = true := code_word (m := ⟨18, 2⟩) (meth := k18m2) (c := k18c2) (by decide +kernel) rfl rfl rfl (by decide +kernel)
set_option maxRecDepth 65536 in
theorem w_c24 : (Jvm.Cond.code ({ cls := "java/lang/StringBuilder", name := "toString", desc := "()Ljava/lang/String;" } : Jvm.MethodName) jdk_67_method_42_code (1 : Nat) (Option.some (Jvm.ClassFile.FieldType.object "java/lang/String"))).before args0 about1 = true := code_word (m := ⟨15, 2⟩) (meth := k15m2) (c := k15c2) (by decide +kernel) rfl rfl rfl (by decide +kernel)
set_option maxRecDepth 65536 in
theorem w_c25 : (Jvm.Cond.code ({ cls := "java/lang/String", name := "<init>", desc := "(Ljava/lang/StringBuilder;)V" } : Jvm.MethodName) jdk_42_method_53_code (2 : Nat) (Option.none : Option Jvm.ClassFile.FieldType)).before args0 about1 = true := code_word (m := ⟨7, 2⟩) (meth := k7m2) (c := k7c2) (by decide +kernel) rfl rfl rfl (by decide +kernel)
set_option maxRecDepth 65536 in
theorem w_c26 : (Jvm.Cond.code ({ cls := "java/lang/String", name := "<init>", desc := "(Ljava/lang/AbstractStringBuilder;Ljava/lang/Void;)V" } : Jvm.MethodName) jdk_42_method_150_code (5 : Nat) (Option.none : Option Jvm.ClassFile.FieldType)).before args0 about1 = true := code_word (m := ⟨7, 7⟩) (meth := k7m7) (c := k7c7) (by decide +kernel) rfl rfl rfl (by decide +kernel)
set_option maxRecDepth 65536 in
theorem w_c27 : (Jvm.Cond.code ({ cls := "java/lang/AbstractStringBuilder", name := "getValue", desc := "()[B" } : Jvm.MethodName) jdk_68_method_64_code (1 : Nat) (Option.some (Jvm.ClassFile.FieldType.array Jvm.ClassFile.FieldType.byte))).before args0 about1 = true := code_word (m := ⟨14, 6⟩) (meth := k14m6) (c := k14c6) (by decide +kernel) rfl rfl rfl (by decide +kernel)
set_option maxRecDepth 65536 in
theorem w_c28 : (Jvm.Cond.code ({ cls := "java/lang/StringBuilder", name := "length", desc := "()I" } : Jvm.MethodName) jdk_67_method_93_code (1 : Nat) (Option.some Jvm.ClassFile.FieldType.int)).before args0 about1 = true := code_word (m := ⟨15, 3⟩) (meth := k15m3) (c := k15c3) (by decide +kernel) rfl rfl rfl (by decide +kernel)
set_option maxRecDepth 65536 in
theorem w_c29 : (Jvm.Cond.code ({ cls := "java/lang/AbstractStringBuilder", name := "length", desc := "()I" } : Jvm.MethodName) jdk_68_method_6_code (1 : Nat) (Option.some Jvm.ClassFile.FieldType.int)).before args0 about1 = true := code_word (m := ⟨14, 2⟩) (meth := k14m2) (c := k14c2) (by decide +kernel) rfl rfl rfl (by decide +kernel)
set_option maxRecDepth 65536 in
theorem w_c30 : (Jvm.Cond.code ({ cls := "java/lang/AbstractStringBuilder", name := "isLatin1", desc := "()Z" } : Jvm.MethodName) jdk_68_method_68_code (1 : Nat) (Option.some Jvm.ClassFile.FieldType.boolean)).before args0 about1 = true := code_word (m := ⟨14, 7⟩) (meth := k14m7) (c := k14c7) (by decide +kernel) rfl rfl rfl (by decide +kernel)
set_option maxRecDepth 65536 in
theorem w_c31 : (Jvm.Cond.code ({ cls := "java/util/Arrays", name := "copyOfRange", desc := "([BII)[B" } : Jvm.MethodName) jdk_65_method_132_code (3 : Nat) (Option.some (Jvm.ClassFile.FieldType.array Jvm.ClassFile.FieldType.byte))).before args0 about1 = true := code_word (m := ⟨19, 2⟩) (meth := k19m2) (c := k19c2) (by decide +kernel) rfl rfl rfl (by decide +kernel)
set_option maxRecDepth 65536 in
theorem w_c32 : (Jvm.Cond.code ({ cls := "com/example/mortise_lock/mortiselock/redis/RedisCallException", name := "<init>", desc := "(Ljava/lang/String;Ljava/lang/Throwable;)V" } : Jvm.MethodName) prog_10_method_1_code (3 : Nat) (Option.none : Option Jvm.ClassFile.FieldType)).before args0 about1 = true := code_word (m := ⟨12, 0⟩) (meth := k12m0) (c := k12c0) (by decide +kernel) rfl rfl rfl (by decide +kernel)
set_option maxRecDepth 65536 in
theorem w_c33 : (Jvm.Cond.code ({ cls := "java/lang/RuntimeException", name := "<init>", desc := "(Ljava/lang/String;Ljava/lang/Throwable;)V" } : Jvm.MethodName) jdk_58_method_3_code (3 : Nat) (Option.none : Option Jvm.ClassFile.FieldType)).before args0 about1 = true := code_word (m := ⟨11, 1⟩) (meth := k11m1) (c := k11c1) (by decide +kernel) rfl rfl rfl (by decide +kernel)
set_option maxRecDepth 65536 in
theorem w_c34 : (Jvm.Cond.code ({ cls := "java/lang/Exception", name := "<init>", desc := "(Ljava/lang/String;Ljava/lang/Throwable;)V" } : Jvm.MethodName) jdk_59_method_3_code (3 : Nat) (Option.none : Option Jvm.ClassFile.FieldType)).before args0 about1 = true := code_word (m := ⟨10, 1⟩) (meth := k10m1) (c := k10c1) (by decide +kernel) rfl rfl rfl (by decide +kernel)
set_option maxRecDepth 65536 in
theorem w_c35 : (Jvm.Cond.code ({ cls := "java/lang/Throwable", name := "<init>", desc := "(Ljava/lang/String;Ljava/lang/Throwable;)V" } : Jvm.MethodName) jdk_78_method_3_code (3 : Nat) (Option.none : Option Jvm.ClassFile.FieldType)).before args0 about1 = true := code_word (m := ⟨9, 1⟩) (meth := k9m1) (c := k9c1) (by decide +kernel) rfl rfl rfl (by decide +kernel)
set_option maxRecDepth 65536 in
theorem w_c36 : (Jvm.Cond.code ({ cls := "java/lang/Throwable", name := "<init>", desc := "()V" } : Jvm.MethodName) jdk_78_method_1_code (1 : Nat) (Option.none : Option Jvm.ClassFile.FieldType)).before args0 about1 = true := code_word (m := ⟨9, 0⟩) (meth := k9m0) (c := k9c0) (by decide +kernel) rfl rfl rfl (by decide +kernel)
set_option maxRecDepth 65536 in
theorem w_c37 : (Jvm.Cond.code ({ cls := "java/lang/Throwable", name := "getMessage", desc := "()Ljava/lang/String;" } : Jvm.MethodName) jdk_78_method_6_code (1 : Nat) (Option.some (Jvm.ClassFile.FieldType.object "java/lang/String"))).before args0 about1 = true := code_word (m := ⟨9, 2⟩) (meth := k9m2) (c := k9c2) (by decide +kernel) rfl rfl rfl (by decide +kernel)
set_option maxRecDepth 65536 in
theorem w_c38 : (Jvm.Cond.code ({ cls := "java/lang/String", name := "equals", desc := "(Ljava/lang/Object;)Z" } : Jvm.MethodName) jdk_42_method_66_code (3 : Nat) (Option.some Jvm.ClassFile.FieldType.boolean)).before args0 about1 = true := code_word (m := ⟨7, 4⟩) (meth := k7m4) (c := k7c4) (by decide +kernel) rfl rfl rfl (by decide +kernel)
set_option maxRecDepth 65536 in
theorem w_c39 : (Jvm.Cond.code ({ cls := "java/lang/StringLatin1", name := "equals", desc := "([B[B)Z" } : Jvm.MethodName) jdk_43_method_13_code (3 : Nat) (Option.some Jvm.ClassFile.FieldType.boolean)).before args0 about1 = true := code_word (m := ⟨21, 1⟩) (meth := k21m1) (c := k21c1) (by decide +kernel) rfl rfl rfl (by decide +kernel)
def codes1 : List Jvm.Cond := [Jvm.Cond.code x code maxLocals ret, Jvm.Cond.code ({ cls := "com/example/mortise_lock/mortiselock/redis/RedisCallExceptionClosedPinLaw", name := "putSuffix", desc := "([CI)V" } : Jvm.MethodName) method_3_code (2 : Nat) (Option.none : Option Jvm.ClassFile.FieldType), Jvm.Cond.code ({ cls := "java/lang/String", name := "<init>", desc := "([C)V" } : Jvm.MethodName) jdk_42_method_3_code (2 : Nat) (Option.none : Option Jvm.ClassFile.FieldType), Jvm.Cond.code ({ cls := "java/lang/String", name := "<init>", desc := "([CIILjava/lang/Void;)V" } : Jvm.MethodName) jdk_42_method_149_code (6 : Nat) (Option.none : Option Jvm.ClassFile.FieldType), Jvm.Cond.code ({ cls := "java/lang/Object", name := "<init>", desc := "()V" } : Jvm.MethodName) object_method_1_code (1 : Nat) (Option.none : Option Jvm.ClassFile.FieldType), Jvm.Cond.code ({ cls := "java/lang/StringUTF16", name := "compress", desc := "([CII)[B" } : Jvm.MethodName) jdk_52_method_16_code (6 : Nat) (Option.some (Jvm.ClassFile.FieldType.array Jvm.ClassFile.FieldType.byte)), Jvm.Cond.code ({ cls := "java/lang/StringUTF16", name := "compress", desc := "([CI[BII)I" } : Jvm.MethodName) jdk_52_method_21_code (7 : Nat) (Option.some Jvm.ClassFile.FieldType.int), Jvm.Cond.code ({ cls := "java/lang/StringUTF16", name := "coderFromArrayLen", desc := "([BI)B" } : Jvm.MethodName) jdk_52_method_15_code (2 : Nat) (Option.some Jvm.ClassFile.FieldType.byte), Jvm.Cond.code ({ cls := "com/example/mortise_lock/mortiselock/redis/RedisCallException", name := "closed", desc := "(Ljava/lang/String;)Lcom/example/mortise_lock/mortiselock/redis/RedisCallException;" } : Jvm.MethodName) prog_10_method_2_code (1 : Nat) (Option.some (Jvm.ClassFile.FieldType.object "com/example/mortise_lock/mortiselock/redis/RedisCallException")), Jvm.Cond.code ({ cls := "java/lang/StringBuilder", name := "<init>", desc := "()V" } : Jvm.MethodName) jdk_67_method_1_code (1 : Nat) (Option.none : Option Jvm.ClassFile.FieldType), Jvm.Cond.code ({ cls := "java/lang/AbstractStringBuilder", name := "<init>", desc := "(I)V" } : Jvm.MethodName) jdk_68_method_2_code (2 : Nat) (Option.none : Option Jvm.ClassFile.FieldType), Jvm.Cond.code ({ cls := "java/lang/StringBuilder", name := "append", desc := "(Ljava/lang/String;)Ljava/lang/StringBuilder;" } : Jvm.MethodName) jdk_67_method_7_code (2 : Nat) (Option.some (Jvm.ClassFile.FieldType.object "java/lang/StringBuilder")), Jvm.Cond.code ({ cls := "java/lang/AbstractStringBuilder", name := "append", desc := "(Ljava/lang/String;)Ljava/lang/AbstractStringBuilder;" } : Jvm.MethodName) jdk_68_method_22_code (3 : Nat) (Option.some (Jvm.ClassFile.FieldType.object "java/lang/AbstractStringBuilder")), Jvm.Cond.code ({ cls := "java/lang/String", name := "length", desc := "()I" } : Jvm.MethodName) jdk_42_method_54_code (1 : Nat) (Option.some Jvm.ClassFile.FieldType.int), Jvm.Cond.code ({ cls := "java/lang/String", name := "coder", desc := "()B" } : Jvm.MethodName) jdk_42_method_152_code (1 : Nat) (Option.some Jvm.ClassFile.FieldType.byte), Jvm.Cond.code ({ cls := "java/lang/AbstractStringBuilder", name := "ensureCapacityInternal", desc := "(I)V" } : Jvm.MethodName) jdk_68_method_9_code (3 : Nat) (Option.none : Option Jvm.ClassFile.FieldType), Jvm.Cond.code ({ cls := "java/lang/AbstractStringBuilder", name := "putStringAt", desc := "(ILjava/lang/String;)V" } : Jvm.MethodName) jdk_68_method_73_code (3 : Nat) (Option.none : Option Jvm.ClassFile.FieldType), Jvm.Cond.code ({ cls := "java/lang/AbstractStringBuilder", name := "inflateIfNeededFor", desc := "(Ljava/lang/String;)V" } : Jvm.MethodName) jdk_68_method_71_code (2 : Nat) (Option.none : Option Jvm.ClassFile.FieldType), Jvm.Cond.code ({ cls := "java/lang/String", name := "getBytes", desc := "([BIB)V" } : Jvm.MethodName) jdk_42_method_147_code (4 : Nat) (Option.none : Option Jvm.ClassFile.FieldType), Jvm.Cond.code ({ cls := "java/lang/AbstractStringBuilder", name := "newCapacity", desc := "(I)I" } : Jvm.MethodName) jdk_68_method_10_code (6 : Nat) (Option.some Jvm.ClassFile.FieldType.int), Jvm.Cond.code ({ cls := "jdk/internal/util/ArraysSupport", name := "newLength", desc := "(III)I" } : Jvm.MethodName) jdk_48_method_27_code (4 : Nat) (Option.some Jvm.ClassFile.FieldType.int), Jvm.Cond.code ({ cls := "java/lang/Math", name := "max", desc := "(II)I" } : Jvm.MethodName) jdk_29_method_65_code (2 : Nat) (Option.some Jvm.ClassFile.FieldType.int), Jvm.Cond.code ({ cls := "java/util/Arrays", name := "copyOf", desc := "([BI)[B" } : Jvm.MethodName) jdk_65_method_121_code (3 : Nat) (Option.some (Jvm.ClassFile.FieldType.array Jvm.ClassFile.FieldType.byte)), Jvm.Cond.code ({ cls := "java/lang/Math", name := "min", desc := "(II)I" } : Jvm.MethodName) jdk_29_method_69_code (2 : Nat) (Option.some Jvm.ClassFile.FieldType.int), Jvm.Cond.code ({ cls := "java/lang/StringBuilder", name := "toString", desc := "()Ljava/lang/String;" } : Jvm.MethodName) jdk_67_method_42_code (1 : Nat) (Option.some (Jvm.ClassFile.FieldType.object "java/lang/String")), Jvm.Cond.code ({ cls := "java/lang/String", name := "<init>", desc := "(Ljava/lang/StringBuilder;)V" } : Jvm.MethodName) jdk_42_method_53_code (2 : Nat) (Option.none : Option Jvm.ClassFile.FieldType), Jvm.Cond.code ({ cls := "java/lang/String", name := "<init>", desc := "(Ljava/lang/AbstractStringBuilder;Ljava/lang/Void;)V" } : Jvm.MethodName) jdk_42_method_150_code (5 : Nat) (Option.none : Option Jvm.ClassFile.FieldType), Jvm.Cond.code ({ cls := "java/lang/AbstractStringBuilder", name := "getValue", desc := "()[B" } : Jvm.MethodName) jdk_68_method_64_code (1 : Nat) (Option.some (Jvm.ClassFile.FieldType.array Jvm.ClassFile.FieldType.byte)), Jvm.Cond.code ({ cls := "java/lang/StringBuilder", name := "length", desc := "()I" } : Jvm.MethodName) jdk_67_method_93_code (1 : Nat) (Option.some Jvm.ClassFile.FieldType.int), Jvm.Cond.code ({ cls := "java/lang/AbstractStringBuilder", name := "length", desc := "()I" } : Jvm.MethodName) jdk_68_method_6_code (1 : Nat) (Option.some Jvm.ClassFile.FieldType.int), Jvm.Cond.code ({ cls := "java/lang/AbstractStringBuilder", name := "isLatin1", desc := "()Z" } : Jvm.MethodName) jdk_68_method_68_code (1 : Nat) (Option.some Jvm.ClassFile.FieldType.boolean), Jvm.Cond.code ({ cls := "java/util/Arrays", name := "copyOfRange", desc := "([BII)[B" } : Jvm.MethodName) jdk_65_method_132_code (3 : Nat) (Option.some (Jvm.ClassFile.FieldType.array Jvm.ClassFile.FieldType.byte)), Jvm.Cond.code ({ cls := "com/example/mortise_lock/mortiselock/redis/RedisCallException", name := "<init>", desc := "(Ljava/lang/String;Ljava/lang/Throwable;)V" } : Jvm.MethodName) prog_10_method_1_code (3 : Nat) (Option.none : Option Jvm.ClassFile.FieldType), Jvm.Cond.code ({ cls := "java/lang/RuntimeException", name := "<init>", desc := "(Ljava/lang/String;Ljava/lang/Throwable;)V" } : Jvm.MethodName) jdk_58_method_3_code (3 : Nat) (Option.none : Option Jvm.ClassFile.FieldType), Jvm.Cond.code ({ cls := "java/lang/Exception", name := "<init>", desc := "(Ljava/lang/String;Ljava/lang/Throwable;)V" } : Jvm.MethodName) jdk_59_method_3_code (3 : Nat) (Option.none : Option Jvm.ClassFile.FieldType), Jvm.Cond.code ({ cls := "java/lang/Throwable", name := "<init>", desc := "(Ljava/lang/String;Ljava/lang/Throwable;)V" } : Jvm.MethodName) jdk_78_method_3_code (3 : Nat) (Option.none : Option Jvm.ClassFile.FieldType), Jvm.Cond.code ({ cls := "java/lang/Throwable", name := "<init>", desc := "()V" } : Jvm.MethodName) jdk_78_method_1_code (1 : Nat) (Option.none : Option Jvm.ClassFile.FieldType), Jvm.Cond.code ({ cls := "java/lang/Throwable", name := "getMessage", desc := "()Ljava/lang/String;" } : Jvm.MethodName) jdk_78_method_6_code (1 : Nat) (Option.some (Jvm.ClassFile.FieldType.object "java/lang/String")), Jvm.Cond.code ({ cls := "java/lang/String", name := "equals", desc := "(Ljava/lang/Object;)Z" } : Jvm.MethodName) jdk_42_method_66_code (3 : Nat) (Option.some Jvm.ClassFile.FieldType.boolean), Jvm.Cond.code ({ cls := "java/lang/StringLatin1", name := "equals", desc := "([B[B)Z" } : Jvm.MethodName) jdk_43_method_13_code (3 : Nat) (Option.some Jvm.ClassFile.FieldType.boolean)]
set_option maxRecDepth 65536 in
theorem codes_eq : words1.filter isCode = codes1 := rfl
theorem w_codes : ∀ c ∈ words1.filter isCode, c.before args0 about1 = true := by
  rw [codes_eq]
  intro c hc
  simp only [codes1, List.mem_cons, List.not_mem_nil, or_false] at hc
  rcases hc with rfl | rfl | rfl | rfl | rfl | rfl | rfl | rfl | rfl | rfl | rfl | rfl | rfl | rfl | rfl | rfl | rfl | rfl | rfl | rfl | rfl | rfl | rfl | rfl | rfl | rfl | rfl | rfl | rfl | rfl | rfl | rfl | rfl | rfl | rfl | rfl | rfl | rfl | rfl | rfl
  · exact w_c0
  · exact w_c1
  · exact w_c2
  · exact w_c3
  · exact w_c4
  · exact w_c5
  · exact w_c6
  · exact w_c7
  · exact w_c8
  · exact w_c9
  · exact w_c10
  · exact w_c11
  · exact w_c12
  · exact w_c13
  · exact w_c14
  · exact w_c15
  · exact w_c16
  · exact w_c17
  · exact w_c18
  · exact w_c19
  · exact w_c20
  · exact w_c21
  · exact w_c22
  · exact w_c23
  · exact w_c24
  · exact w_c25
  · exact w_c26
  · exact w_c27
  · exact w_c28
  · exact w_c29
  · exact w_c30
  · exact w_c31
  · exact w_c32
  · exact w_c33
  · exact w_c34
  · exact w_c35
  · exact w_c36
  · exact w_c37
  · exact w_c38
  · exact w_c39
set_option maxRecDepth 65536 in
theorem w_t1 : (words1.take 24).all (fun c => isCode c || c.before args0 about1) = true := by decide +kernel
set_option maxRecDepth 65536 in
theorem w_t2 : ((words1.drop 24).take 24).all (fun c => isCode c || c.before args0 about1) = true := by decide +kernel
set_option maxRecDepth 65536 in
theorem w_t3 : (((words1.drop 24).drop 24).take 24).all (fun c => isCode c || c.before args0 about1) = true := by decide +kernel
set_option maxRecDepth 65536 in
theorem w_t4 : ((((words1.drop 24).drop 24).drop 24).take 24).all (fun c => isCode c || c.before args0 about1) = true := by decide +kernel
set_option maxRecDepth 65536 in
theorem w_t5 : (((((words1.drop 24).drop 24).drop 24).drop 24).take 24).all (fun c => isCode c || c.before args0 about1) = true := by decide +kernel
set_option maxRecDepth 65536 in
theorem w_t6 : ((((((words1.drop 24).drop 24).drop 24).drop 24).drop 24).take 24).all (fun c => isCode c || c.before args0 about1) = true := by decide +kernel
set_option maxRecDepth 65536 in
theorem w_t7 : (((((((words1.drop 24).drop 24).drop 24).drop 24).drop 24).drop 24).take 24).all (fun c => isCode c || c.before args0 about1) = true := by decide +kernel
set_option maxRecDepth 65536 in
theorem w_t8 : ((((((((words1.drop 24).drop 24).drop 24).drop 24).drop 24).drop 24).drop 24).take 24).all (fun c => isCode c || c.before args0 about1) = true := by decide +kernel
set_option maxRecDepth 65536 in
theorem w_t9 : (((((((((words1.drop 24).drop 24).drop 24).drop 24).drop 24).drop 24).drop 24).drop 24).take 24).all (fun c => isCode c || c.before args0 about1) = true := by decide +kernel
set_option maxRecDepth 65536 in
theorem w_t10 : ((((((((((words1.drop 24).drop 24).drop 24).drop 24).drop 24).drop 24).drop 24).drop 24).drop 24).take 24).all (fun c => isCode c || c.before args0 about1) = true := by decide +kernel
set_option maxRecDepth 65536 in
theorem w_t11 : ((((((((((words1.drop 24).drop 24).drop 24).drop 24).drop 24).drop 24).drop 24).drop 24).drop 24).drop 24).all (fun c => isCode c || c.before args0 about1) = true := by decide +kernel
theorem w_tables : (allAtoms (Jvm.Cond.code x code maxLocals ret :: tables_1)).before args0 about1 = true := by
  rw [allAtoms_all]
  show words1.all (fun c => c.before args0 about1) = true
  refine all_split ?_ w_codes
  rw [← List.take_append_drop 24 words1, List.all_append, w_t1, ← List.take_append_drop 24 (words1.drop 24), List.all_append, w_t2, ← List.take_append_drop 24 ((words1.drop 24).drop 24), List.all_append, w_t3, ← List.take_append_drop 24 (((words1.drop 24).drop 24).drop 24), List.all_append, w_t4, ← List.take_append_drop 24 ((((words1.drop 24).drop 24).drop 24).drop 24), List.all_append, w_t5, ← List.take_append_drop 24 (((((words1.drop 24).drop 24).drop 24).drop 24).drop 24), List.all_append, w_t6, ← List.take_append_drop 24 ((((((words1.drop 24).drop 24).drop 24).drop 24).drop 24).drop 24), List.all_append, w_t7, ← List.take_append_drop 24 (((((((words1.drop 24).drop 24).drop 24).drop 24).drop 24).drop 24).drop 24), List.all_append, w_t8, ← List.take_append_drop 24 ((((((((words1.drop 24).drop 24).drop 24).drop 24).drop 24).drop 24).drop 24).drop 24), List.all_append, w_t9, ← List.take_append_drop 24 (((((((((words1.drop 24).drop 24).drop 24).drop 24).drop 24).drop 24).drop 24).drop 24).drop 24), List.all_append, w_t10, w_t11]
  rfl
set_option maxRecDepth 65536 in
theorem w_rest : rest_1_c.before args0 about1 = true := by decide +kernel
set_option maxRecDepth 65536 in
theorem w_case : (Jvm.Cond.and given_1 narrow_1).before args0 about1 = true := by decide +kernel
set_option maxRecDepth 65536 in
theorem w_consts : constsHeld consts_1 about1 := Jvm.Lit.constsHeldB_iff.mp (by decide +kernel)
theorem w_applies : (headSpec (Jvm.Cond.code x code maxLocals ret :: tables_1) room_1).applies x e0.platform about1 = true :=
  (Spec.applies_iff w_frames).mpr ⟨w_running, w_runnable, w_alone, w_named, w_hears, w_ripe, w_room, w_tables⟩
theorem atStart : AtStart classFile x code maxLocals ret World_1 tables_1 room_1 Calls_1 rest_1 Pre_1 launch0 p0 e0 about1 theMethod args0 below0 :=
  ⟨lists_1, trivial, launch0.admits_env _ _ _, launch0.least_env, fairChoices_fair.cas, fairChoices_fair.clock, w_frames, w_args, w_heap, w_applies, ⟨(by decide +kernel : framesKnown about1 = true), ⟨(by decide +kernel : tablesKnown about1 = true), ⟨w_consts, trivial⟩⟩⟩, w_rest, w_case⟩
end start1
theorem witness_1 : WitnessClaimed_1 := ⟨start1.p0, start1.e0, start1.about1, start1.theMethod, start1.args0, start1.below0, start1.atStart⟩
end Jvm.Pilot.@@N@@
