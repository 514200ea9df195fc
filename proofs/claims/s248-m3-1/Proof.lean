import JvmDerived
import JvmDerived.Pilot.@@N@@Statement
import JvmDerived.Pilot.@@N@@Code
set_option linter.unusedVariables false
set_option linter.unusedSimpArgs false
namespace Jvm.RoadKit
open Sem ClassFile Op Lib Jvm.Stand Jvm.Free Jvm.LawKit
section New
variable {p : Program} {l : Launch} {e : Env} {R : Room} {s : State} {m : MethodId} {args : Array Value} {below : List Frame} {meth : Method} {c : Code} {T : State} {locs : List Loc} {cells slots : Nat}
theorem retI (X : Stand p l e R s m args below meth c T locs cells slots) (hx : p.tables.exec = Jvm.exec) {pc : Nat} {Ls : Array Slot} {z : Int32} {rest : List Value} (hret : meth.sig.returnType = some .int) (hd : decode c.code pc = .ok (.ireturn, 1)) {fs : List Frame}
    (hl : ∀ (f : JFrame) (acts : List Action), f.method = m → f.locked = none → f.entered = [] → (doReturn e (T.setTop f) acts (some (.int z))).1 = T.setFrames fs) : Steps p.tables e below (T.setTop (mkF m pc Ls (.int z :: rest))) (T.setFrames fs) := by
  have hm' : T.vm.method? m = some meth := X.method'
  have hn : narrow .int (.int z) = .int z := rfl
  show Steps p.tables e below (T.setTop { method := m, pc := pc, locals := Ls, stack := _ :: rest, locked := none }) _
  jvm_step X.here [X.here.top, hx, hd, hm', hret, hn]
  first | (intro acts; rw [hl _ acts rfl rfl rfl]) | rw [hl _ _ rfl rfl rfl]
  exact Steps.refl _
end New
end Jvm.RoadKit
/- laws to paste: Road.backV (cut by pick.py; bodies as the Statement names them) -/
namespace Jvm.Pilot.@@N@@
namespace StrChars
open Jvm Sem ClassFile Op Lib Jvm.Stand Jvm.Free.XT Jvm.Free.ALB Jvm.Free.JM Jvm.Free
open Jvm.Lib.Cold (StaticIs)
/-- a char array whose places are chars -/
def Ch (a : Addr) (A : Cell) (U : State) : Prop := Arr .char a A U ∧ Typed .char A
theorem Ch.mv {a : Addr} {A : Cell} {U U' : State} (h : Ch a A U) (hal : U.vm.Alike U'.vm) (hh : U'.heap = U.heap) : Ch a A U' := ⟨h.1.mv hal hh, h.2⟩
theorem Ch.keep {a : Addr} {A : Cell} {U U' : State} (h : Ch a A U) (hal : U.vm.Alike U'.vm) (hk : U'.heap[a]? = some A) : Ch a A U' := ⟨h.1.keep hal hk, h.2⟩
/-- what place i of a char[]'s cell holds -/
def cv (A : Cell) (i : Nat) : Int32 := match A.slots[i]? with | some (.int x) => x | _ => 0
theorem Ch.get {a : Addr} {A : Cell} {U : State} (h : Ch a A U) {i : Nat} (hi : i < A.slots.size) : A.slots[i]? = some (.int (cv A i)) := by
  have e := Array.getElem?_eq_getElem hi
  have f := h.2 i _ e
  unfold cv; rw [e]
  generalize A.slots[i] = v at f
  cases v <;> simp [fits] at f ⊢
/-- the byte that i2b leaves of a char -/
def lo8 (x : Int32) : Int32 := x.toInt8.toInt32
theorem fits_lo8 (y : Int32) : fits .byte (.int (lo8 y)) = true := by
  have h1 := y.toInt8.le_toInt
  have h2 := y.toInt8.toInt_lt
  simp only [lo8, fits, Bool.and_eq_true, decide_eq_true_eq, Int32.le_iff_toInt_le, Int8.toInt_toInt32, show (-128 : Int32).toInt = -128 from by decide, show (127 : Int32).toInt = 127 from by decide]
  omega
/-- A' is A but that each place j of lo .. hi - 1 holds f j -/
def Laid (A A' : Cell) (lo hi : Nat) (f : Nat → Value) : Prop := A'.cls = A.cls ∧ A'.vm = A.vm ∧ A'.slots.size = A.slots.size ∧ ∀ i, A'.slots[i]? = if lo ≤ i ∧ i < hi then some (f i) else A.slots[i]?
theorem Laid.zero (A : Cell) (lo : Nat) (f : Nat → Value) : Laid A A lo (lo + 0) f := ⟨rfl, rfl, rfl, fun i => by rw [if_neg (by omega)]⟩
theorem Laid.step {A Ak : Cell} {lo k : Nat} {f : Nat → Value} {v : Value} (h : Laid A Ak lo k f) (hlo : lo ≤ k) (hk : k < Ak.slots.size) (hv : v = f k) : Laid A (Ak.setSlot k v) lo (k + 1) f := by
  refine ⟨h.1, h.2.1, by simpa [Cell.setSlot] using h.2.2.1, fun i => ?_⟩
  by_cases e : k = i
  · subst e; rw [Cell.slots_setSlot_self v hk, if_pos (by omega), hv]
  · rw [Cell.slots_setSlot_ne v e, h.2.2.2 i]
    by_cases q : lo ≤ i ∧ i < k
    · rw [if_pos q, if_pos (by omega)]
    · rw [if_neg q, if_neg (by omega)]
def U16 : String := "java/lang/StringUTF16"
namespace Cmp5
def yN : MethodName := ⟨"java/lang/StringUTF16", "compress", "([CI[BII)I"⟩
abbrev yB : ByteArray := jdk_52_method_21_code
theorem d0 : decode yB 0 = .ok (.iconst 0, 1) := by decide +kernel
theorem d1 : decode yB 1 = .ok (.istore 5, 2) := by decide +kernel
theorem d3 : decode yB 3 = .ok (.iload 5, 2) := by decide +kernel
theorem d5 : decode yB 5 = .ok (.iload 4, 2) := by decide +kernel
theorem d7 : decode yB 7 = .ok (.if_icmp (.ge) 37, 3) := by decide +kernel
theorem d10 : decode yB 10 = .ok (.aload_n 0, 1) := by decide +kernel
theorem d11 : decode yB 11 = .ok (.iload_n 1, 1) := by decide +kernel
theorem d12 : decode yB 12 = .ok (.caload, 1) := by decide +kernel
theorem d13 : decode yB 13 = .ok (.istore 6, 2) := by decide +kernel
theorem d15 : decode yB 15 = .ok (.iload 6, 2) := by decide +kernel
theorem d17 : decode yB 17 = .ok (.sipush 255, 3) := by decide +kernel
theorem d20 : decode yB 20 = .ok (.if_icmp (.le) 6, 3) := by decide +kernel
theorem d26 : decode yB 26 = .ok (.aload_n 2, 1) := by decide +kernel
theorem d27 : decode yB 27 = .ok (.iload_n 3, 1) := by decide +kernel
theorem d28 : decode yB 28 = .ok (.iload 6, 2) := by decide +kernel
theorem d30 : decode yB 30 = .ok (.i2b, 1) := by decide +kernel
theorem d31 : decode yB 31 = .ok (.bastore, 1) := by decide +kernel
theorem d32 : decode yB 32 = .ok (.iinc 1 1, 3) := by decide +kernel
theorem d35 : decode yB 35 = .ok (.iinc 3 1, 3) := by decide +kernel
theorem d38 : decode yB 38 = .ok (.iinc 5 1, 3) := by decide +kernel
theorem d41 : decode yB 41 = .ok (.goto (-38), 3) := by decide +kernel
theorem d44 : decode yB 44 = .ok (.iload 4, 2) := by decide +kernel
theorem d46 : decode yB 46 = .ok (.ireturn, 1) := by decide +kernel
def site : List Cond := []
def tab : Cond := tabOf yN yB 7 (some .int) site
def P (b : Addr) (A : Cell) (d : Addr) (B : Cell) (o q len : Nat) (args : Array Value) (s : State) : Prop := args = #[.ref b, .int (Int32.ofNat o), .ref d, .int (Int32.ofNat q), .int (Int32.ofNat len)] ∧ Ch b A s ∧ Arr .byte d B s ∧ b ≠ d ∧ o + len ≤ A.slots.size ∧ q + len ≤ B.slots.size ∧ ∀ i, i < len → ¬ 255 < cv A (o + i)
def E (b : Addr) (A : Cell) (d : Addr) (B : Cell) (o q len : Nat) (r : Option Value) (s u : State) : Prop := r = some (.int (Int32.ofNat len)) ∧ ∃ B', Put d B' s u ∧ Laid B B' q (q + len) (fun j => Value.int (lo8 (cv A (o + (j - q)))))
/-- no char of the range above 255: len; the places written hold each char's low byte -/
theorem law (l : Launch) (b : Addr) (A : Cell) (d : Addr) (B : Cell) (o q len : Nat) : Law l yN 5 5 0 0 yB 7 (some .int) site (P b A d B o q len) (E b A d B o q len) (copyLocs d q len) 0 0 := by
  refine Law.of_walk (plainFor_of_name (by decide +kernel)) (by decide +kernel) (by decide +kernel) (by decide) (fun _ _ h => by rw [h.1]; rfl) (fun _ U U' hal hh h => ⟨h.1, h.2.1.mv hal hh, h.2.2.1.mv hal hh, h.2.2.2⟩) (fun r U U' V V' h1 hal h2 h => ⟨h.1, h.2.elim fun B' q => ⟨B', q.1.mv h1 h2, q.2⟩⟩) ?_
  intro p e s m args below meth c s₁ X0 hexec hbytes hml hret hlk hnm hown hh0 W hP
  obtain ⟨rfl, hA, hB, hne, l1, l2, hp⟩ := hP
  have c1 : Steps p.tables e below (s₁.setTop (entryFrame m #[.ref b, .int (Int32.ofNat o), .ref d, .int (Int32.ofNat q), .int (Int32.ofNat len)] 7)) (s₁.setTop (mkF m 0 #[.val (.ref b), .val (.int (Int32.ofNat o)), .val (.ref d), .val (.int (Int32.ofNat q)), .val (.int (Int32.ofNat len)), .unset, .unset] [])) := entry rfl
  have hA0 := hA.1.mv X0.warmed.alike hh0
  have hB0 := hB.mv X0.warmed.alike hh0
  have a31 := hA.1.2.2.2
  have c2 : Steps p.tables e below (s₁.setTop (entryFrame m #[.ref b, .int (Int32.ofNat o), .ref d, .int (Int32.ofNat q), .int (Int32.ofNat len)] 7)) (s₁.setTop (mkF m 3 #[.val (.ref b), .val (.int (Int32.ofNat o)), .val (.ref d), .val (.int (Int32.ofNat q)), .val (.int (Int32.ofNat len)), .val (.int 0), .unset] [])) := c1.trans (by
    refine iconstV X0.here hexec rfl 0 (hb hbytes d0) (by decide) ?_
    refine XS.istore X0.here hexec rfl (hb hbytes d1) rfl rfl ?_
    exact Steps.refl _)
  have loop : ∀ (r i : Nat), i + r = len → ∀ (z : Slot), (z = .unset ∨ ∃ w, z = .val w ∧ w.category = 1) → ∀ (Tl : State) (Bk : Cell), Stand p l e { frames := 0, locals := 0, cells := 0, slots := 0 } s m #[.ref b, .int (Int32.ofNat o), .ref d, .int (Int32.ofNat q), .int (Int32.ofNat len)] below meth c Tl ([] ++ copyLocs d q i) 0 0 → Put d Bk s₁ Tl → Laid B Bk q (q + i) (fun j => Value.int (lo8 (cv A (o + (j - q))))) →
      Steps p.tables e below (s₁.setTop (entryFrame m #[.ref b, .int (Int32.ofNat o), .ref d, .int (Int32.ofNat q), .int (Int32.ofNat len)] 7)) (Tl.setTop (mkF m 3 #[.val (.ref b), .val (.int (Int32.ofNat (o + i))), .val (.ref d), .val (.int (Int32.ofNat (q + i))), .val (.int (Int32.ofNat len)), .val (.int (Int32.ofNat i)), z] [])) → ∃ (T' : State) (B' : Cell) (z' : Slot), Stand p l e { frames := 0, locals := 0, cells := 0, slots := 0 } s m #[.ref b, .int (Int32.ofNat o), .ref d, .int (Int32.ofNat q), .int (Int32.ofNat len)] below meth c T' ([] ++ copyLocs d q len) 0 0 ∧ Put d B' s₁ T' ∧ Laid B B' q (q + len) (fun j => Value.int (lo8 (cv A (o + (j - q))))) ∧
      Steps p.tables e below (s₁.setTop (entryFrame m #[.ref b, .int (Int32.ofNat o), .ref d, .int (Int32.ofNat q), .int (Int32.ofNat len)] 7)) (T'.setTop (mkF m 3 #[.val (.ref b), .val (.int (Int32.ofNat (o + len))), .val (.ref d), .val (.int (Int32.ofNat (q + len))), .val (.int (Int32.ofNat len)), .val (.int (Int32.ofNat len)), z'] [])) := by
    intro r
    induction r with
    | zero =>
      intro i hi z hz Tl Bk Xl pl fl cl
      have hil : i = len := by omega
      rw [hil] at Xl fl cl
      exact ⟨Tl, Bk, z, Xl, pl, fl, cl⟩
    | succ r ih =>
      intro i hi z hz Tl Bk Xl pl fl cl
      have all := X0.warmed.alike.symm.trans Xl.warmed.alike
      have hAl := hA0.keep all (pl.other hne hA0.1)
      have hBk := hB0.like all pl.1 fl.1 fl.2.1 fl.2.2.1
      have hlt : q + i < Bk.slots.size := by rw [fl.2.2.1]; omega
      have c3 : Steps p.tables e below (s₁.setTop (entryFrame m #[.ref b, .int (Int32.ofNat o), .ref d, .int (Int32.ofNat q), .int (Int32.ofNat len)] 7)) (Tl.setTop (mkF m 12 #[.val (.ref b), .val (.int (Int32.ofNat (o + i))), .val (.ref d), .val (.int (Int32.ofNat (q + i))), .val (.int (Int32.ofNat len)), .val (.int (Int32.ofNat i)), z] [.int (Int32.ofNat (o + i)), .ref b])) := cl.trans (by
        refine XS.iload Xl.here hexec rfl (hb hbytes d3) rfl ?_
        refine XS.iload Xl.here hexec rfl (hb hbytes d5) rfl ?_
        refine XS.icmpNo Xl.here hexec rfl (hb hbytes d7) rfl (ii_ge_f (lt32 (by omega) (by omega))) ?_
        refine XS.aloadN Xl.here hexec rfl (hb hbytes d10) rfl rfl ?_
        refine XS.iloadN Xl.here hexec rfl (hb hbytes d11) rfl ?_
        exact Steps.refl _)
      have c4 : Steps p.tables e below (s₁.setTop (entryFrame m #[.ref b, .int (Int32.ofNat o), .ref d, .int (Int32.ofNat q), .int (Int32.ofNat len)] 7)) (Tl.setTop (mkF m 13 #[.val (.ref b), .val (.int (Int32.ofNat (o + i))), .val (.ref d), .val (.int (Int32.ofNat (q + i))), .val (.int (Int32.ofNat len)), .val (.int (Int32.ofNat i)), z] [.int (cv A (o + i))])) := c3.trans (by
        refine Xl.aget hexec hAl rfl (hA.get (i := o + i) (by omega)) rfl rfl (hb hbytes d12) ?_
        exact Steps.refl _)
      have c5 : Steps p.tables e below (s₁.setTop (entryFrame m #[.ref b, .int (Int32.ofNat o), .ref d, .int (Int32.ofNat q), .int (Int32.ofNat len)] 7)) (Tl.setTop (mkF m 15 #[.val (.ref b), .val (.int (Int32.ofNat (o + i))), .val (.ref d), .val (.int (Int32.ofNat (q + i))), .val (.int (Int32.ofNat len)), .val (.int (Int32.ofNat i)), .val (.int (cv A (o + i)))] [])) := c4.trans (by
        refine XS.istoreS Xl.here hexec rfl (hb hbytes d13) rfl rfl hz ?_
        exact Steps.refl _)
      have c6 : Steps p.tables e below (s₁.setTop (entryFrame m #[.ref b, .int (Int32.ofNat o), .ref d, .int (Int32.ofNat q), .int (Int32.ofNat len)] 7)) (Tl.setTop (mkF m 31 #[.val (.ref b), .val (.int (Int32.ofNat (o + i))), .val (.ref d), .val (.int (Int32.ofNat (q + i))), .val (.int (Int32.ofNat len)), .val (.int (Int32.ofNat i)), .val (.int (cv A (o + i)))] [.int (lo8 (cv A (o + i))), .int (Int32.ofNat (q + i)), .ref d])) := c5.trans (by
        refine XS.iload Xl.here hexec rfl (hb hbytes d15) rfl ?_
        refine sipushV Xl.here hexec rfl 255 (hb hbytes d17) (by decide) ?_
        refine XS.icmpYes Xl.here hexec rfl (pc0 := 20) rfl (hb hbytes d20) rfl (ii_le_t (hp i (by omega))) (by decide) rfl ?_
        refine XS.aloadN Xl.here hexec rfl (hb hbytes d26) rfl rfl ?_
        refine XS.iloadN Xl.here hexec rfl (hb hbytes d27) rfl ?_
        refine XS.iload Xl.here hexec rfl (hb hbytes d28) rfl ?_
        refine i2b Xl.here hexec rfl (hb hbytes d30) rfl ?_
        exact Steps.refl _)
      obtain ⟨T7, X7, p7, st7⟩ := Xl.aput hexec hBk rfl hlt rfl (fits_lo8 (cv A (o + i))) (g := (mkF m 31 #[.val (.ref b), .val (.int (Int32.ofNat (o + i))), .val (.ref d), .val (.int (Int32.ofNat (q + i))), .val (.int (Int32.ofNat len)), .val (.int (Int32.ofNat i)), .val (.int (cv A (o + i)))] [.int (lo8 (cv A (o + i))), .int (Int32.ofNat (q + i)), .ref d])) rfl (rest := []) rfl (hb hbytes d31)
      have c8 : Steps p.tables e below (s₁.setTop (entryFrame m #[.ref b, .int (Int32.ofNat o), .ref d, .int (Int32.ofNat q), .int (Int32.ofNat len)] 7)) (T7.setTop (mkF m 32 #[.val (.ref b), .val (.int (Int32.ofNat (o + i))), .val (.ref d), .val (.int (Int32.ofNat (q + i))), .val (.int (Int32.ofNat len)), .val (.int (Int32.ofNat i)), .val (.int (cv A (o + i)))] [])) := c6.trans (st7 _ (Steps.refl _))
      have c9 : Steps p.tables e below (s₁.setTop (entryFrame m #[.ref b, .int (Int32.ofNat o), .ref d, .int (Int32.ofNat q), .int (Int32.ofNat len)] 7)) (T7.setTop (mkF m 3 #[.val (.ref b), .val (.int (Int32.ofNat (o + i) + 1)), .val (.ref d), .val (.int (Int32.ofNat (q + i) + 1)), .val (.int (Int32.ofNat len)), .val (.int (Int32.ofNat i + 1)), .val (.int (cv A (o + i)))] [])) := c8.trans (by
        refine iincV X7.here hexec rfl 1 (hb hbytes d32) (by decide) rfl rfl ?_
        refine iincV X7.here hexec rfl 1 (hb hbytes d35) (by decide) rfl rfl ?_
        refine iincV X7.here hexec rfl 1 (hb hbytes d38) (by decide) rfl rfl ?_
        refine XS.goto X7.here hexec rfl (pc0 := 41) rfl (hb hbytes d41) (by decide) rfl ?_
        exact Steps.refl _)
      have c10 : Steps p.tables e below (s₁.setTop (entryFrame m #[.ref b, .int (Int32.ofNat o), .ref d, .int (Int32.ofNat q), .int (Int32.ofNat len)] 7)) (T7.setTop (mkF m 3 #[.val (.ref b), .val (.int (Int32.ofNat (o + (i + 1)))), .val (.ref d), .val (.int (Int32.ofNat (q + (i + 1)))), .val (.int (Int32.ofNat len)), .val (.int (Int32.ofNat (i + 1))), .val (.int (cv A (o + i)))] [])) := by
        have := c9
        rw [succ32, succ32, succ32] at this
        exact this
      exact ih (i + 1) (by omega) _ (Or.inr ⟨_, rfl, rfl⟩) T7 _ (by rw [copyLocs_step, ← List.append_assoc]; exact X7) (pl.trans p7) (fl.step (by omega) hlt (by simp)) c10
  obtain ⟨T9, B9, z9, X9, p9, f9, g9⟩ := loop len 0 (by omega) .unset (Or.inl rfl) s₁ B (by simpa [copyLocs] using X0) ⟨hB0.1, fun _ _ => rfl, rfl⟩ (Laid.zero _ _ _) c2
  have c11 : Steps p.tables e below (s₁.setTop (entryFrame m #[.ref b, .int (Int32.ofNat o), .ref d, .int (Int32.ofNat q), .int (Int32.ofNat len)] 7)) (T9.setTop (mkF m 46 #[.val (.ref b), .val (.int (Int32.ofNat (o + len))), .val (.ref d), .val (.int (Int32.ofNat (q + len))), .val (.int (Int32.ofNat len)), .val (.int (Int32.ofNat len)), z9] [.int (Int32.ofNat len)])) := g9.trans (by
    refine XS.iload X9.here hexec rfl (hb hbytes d3) rfl ?_
    refine XS.iload X9.here hexec rfl (hb hbytes d5) rfl ?_
    refine XS.icmpYes X9.here hexec rfl (pc0 := 7) rfl (hb hbytes d7) rfl (ii_ge_t (nlt32 (by omega) (Nat.le_refl _))) (by decide) rfl ?_
    refine XS.iload X9.here hexec rfl (hb hbytes d44) rfl ?_
    exact Steps.refl _)
  exact ⟨T9, some (.int (Int32.ofNat len)), _, _, _, X9, by simp, rfl, rfl, (fun h => by cases h), ⟨rfl, B9, p9.from hh0, f9⟩, fun fs hl => c11.trans (X9.ireturnOut hexec hret rfl (Or.inl rfl) (hb hbytes d46) hl)⟩
end Cmp5
namespace Cmp3
def yN : MethodName := ⟨"java/lang/StringUTF16", "compress", "([CII)[B"⟩
abbrev yB : ByteArray := jdk_52_method_16_code
theorem d0 : decode yB 0 = .ok (.iload_n 2, 1) := by decide +kernel
theorem d1 : decode yB 1 = .ok (.newarray .byte, 2) := by decide +kernel
theorem d3 : decode yB 3 = .ok (.astore_n 3, 1) := by decide +kernel
theorem d4 : decode yB 4 = .ok (.aload_n 0, 1) := by decide +kernel
theorem d5 : decode yB 5 = .ok (.iload_n 1, 1) := by decide +kernel
theorem d6 : decode yB 6 = .ok (.aload_n 3, 1) := by decide +kernel
theorem d7 : decode yB 7 = .ok (.iconst 0, 1) := by decide +kernel
theorem d8 : decode yB 8 = .ok (.iload_n 2, 1) := by decide +kernel
theorem d9 : decode yB 9 = .ok (.invokestatic 115, 3) := by decide +kernel
theorem d12 : decode yB 12 = .ok (.istore 4, 2) := by decide +kernel
theorem d14 : decode yB 14 = .ok (.iload 4, 2) := by decide +kernel
theorem d16 : decode yB 16 = .ok (.iload_n 2, 1) := by decide +kernel
theorem d17 : decode yB 17 = .ok (.if_icmp (.eq) 40, 3) := by decide +kernel
theorem d57 : decode yB 57 = .ok (.aload_n 3, 1) := by decide +kernel
theorem d58 : decode yB 58 = .ok (.areturn, 1) := by decide +kernel
def site : List Cond := [.arrayClass .byte, Cmp5.tab] ++ staticW U16 115 Cmp5.yN
def tab : Cond := tabOf yN yB 6 (some (.array .byte)) site
def P (b : Addr) (A : Cell) (o len : Nat) (args : Array Value) (s : State) : Prop := args = #[.ref b, .int (Int32.ofNat o), .int (Int32.ofNat len)] ∧ Ch b A s ∧ o + len ≤ A.slots.size ∧ len ≤ 536870912 ∧ ∀ i, i < len → ¬ 255 < cv A (o + i)
def E (b : Addr) (A : Cell) (o len : Nat) (r : Option Value) (s u : State) : Prop := NewArr .byte "[B" len (fun j => .int (lo8 (cv A (o + j)))) r s u ∧ u.heap.size = s.heap.size + 1
/-- no char of the range above 255: a new byte[] of their low bytes -/
theorem law (l : Launch) (b : Addr) (A : Cell) (o len : Nat) : Law l yN 3 3 1 18 yB 6 (some (.array .byte)) site (P b A o len) (E b A o len) [] 1 len := by
  refine Law.of_walk (plainFor_of_name (by decide +kernel)) (by decide +kernel) (by decide +kernel) (by decide) (fun _ _ h => by rw [h.1]; rfl) (fun _ U U' hal hh h => ⟨h.1, h.2.1.mv hal hh, h.2.2⟩) (fun r U U' V V' h1 hal h2 h => ⟨NewArr.mv r U U' V V' h1 hal h2 h.1, by rw [h1, h2]; exact h.2⟩) ?_
  intro p e s m args below meth c s₁ X0 hexec hbytes hml hret hlk hnm hown hh0 W hP
  obtain ⟨rfl, hA, l1, l2, hp⟩ := hP
  have a31 := hA.1.2.2.2
  have c1 : Steps p.tables e below (s₁.setTop (entryFrame m #[.ref b, .int (Int32.ofNat o), .int (Int32.ofNat len)] 6)) (s₁.setTop (mkF m 0 #[.val (.ref b), .val (.int (Int32.ofNat o)), .val (.int (Int32.ofNat len)), .unset, .unset, .unset] [])) := entry rfl
  have c2 : Steps p.tables e below (s₁.setTop (entryFrame m #[.ref b, .int (Int32.ofNat o), .int (Int32.ofNat len)] 6)) (s₁.setTop (mkF m 1 #[.val (.ref b), .val (.int (Int32.ofNat o)), .val (.int (Int32.ofNat len)), .unset, .unset, .unset] [.int (Int32.ofNat len)])) := c1.trans (by
    refine XS.iloadN X0.here hexec rfl (hb hbytes d0) rfl ?_
    exact Steps.refl _)
  obtain ⟨T3, B3, X3, ba3, bs3, bv3, bh3, bf3, st3⟩ := X0.anew hexec (atype := .byte) (wk W (.arrayClass .byte)) rfl (by show len * 1 ≤ _; omega) (by omega) (g := (mkF m 1 #[.val (.ref b), .val (.int (Int32.ofNat o)), .val (.int (Int32.ofNat len)), .unset, .unset, .unset] [.int (Int32.ofNat len)])) rfl (hb hbytes d1) (rest := []) rfl (Nat.le_refl _) (by show 0 + len ≤ len; omega)
  rw [hh0] at ba3 st3
  have kp3 : XT.Kept s T3 := (XT.Kept.of_eq hh0).push bh3
  have hA3 := hA.keep X3.warmed.alike (kp3 _ _ hA.1.1)
  have hne : b ≠ s.heap.size := hA.1.ne
  have c4 : Steps p.tables e below (s₁.setTop (entryFrame m #[.ref b, .int (Int32.ofNat o), .int (Int32.ofNat len)] 6)) (T3.setTop (mkF m 3 #[.val (.ref b), .val (.int (Int32.ofNat o)), .val (.int (Int32.ofNat len)), .unset, .unset, .unset] [.ref s.heap.size])) := c2.trans (st3 _ (Steps.refl _))
  have c5 : Steps p.tables e below (s₁.setTop (entryFrame m #[.ref b, .int (Int32.ofNat o), .int (Int32.ofNat len)] 6)) (T3.setTop (mkF m 9 #[.val (.ref b), .val (.int (Int32.ofNat o)), .val (.int (Int32.ofNat len)), .val (.ref s.heap.size), .unset, .unset] [.int (Int32.ofNat len), .int 0, .ref s.heap.size, .int (Int32.ofNat o), .ref b])) := c4.trans (by
    refine XS.astoreN X3.here hexec rfl (hb hbytes d3) rfl rfl rfl ?_
    refine XS.aloadN X3.here hexec rfl (hb hbytes d4) rfl rfl ?_
    refine XS.iloadN X3.here hexec rfl (hb hbytes d5) rfl ?_
    refine XS.aloadN X3.here hexec rfl (hb hbytes d6) rfl rfl ?_
    refine iconstV X3.here hexec rfl 0 (hb hbytes d7) (by decide) ?_
    refine XS.iloadN X3.here hexec rfl (hb hbytes d8) rfl ?_
    exact Steps.refl _)
  obtain ⟨v6, T6, X6, E6, g6⟩ := X3.callS hexec (Cmp5.law l b A s.heap.size B3 o 0 len) hown (wks W (staticW U16 115 Cmp5.yN)) (wk W Cmp5.tab) (W := 0) (Nat.le_of_ble_eq_true rfl) (Nat.le_of_ble_eq_true rfl) (Nat.le_refl _) (by show 0 + len + 0 ≤ len; omega) (g := (mkF m 9 #[.val (.ref b), .val (.int (Int32.ofNat o)), .val (.int (Int32.ofNat len)), .val (.ref s.heap.size), .unset, .unset] [.int (Int32.ofNat len), .int (Int32.ofNat 0), .ref s.heap.size, .int (Int32.ofNat o), .ref b])) rfl (by rw [hml]; rfl) c5 (argsL := [.ref b, .int (Int32.ofNat o), .ref s.heap.size, .int (Int32.ofNat 0), .int (Int32.ofNat len)]) (rest := []) rfl rfl (by show 2 * 0 + 0 ≤ _; decide) (hb hbytes d9) (⟨rfl, hA3, ba3, hne, l1, by rw [bs3]; simp, hp⟩)
  obtain ⟨rfl, B6, p6, f6⟩ := E6
  have c7 : Steps p.tables e below (s₁.setTop (entryFrame m #[.ref b, .int (Int32.ofNat o), .int (Int32.ofNat len)] 6)) (T6.setTop (mkF m 12 #[.val (.ref b), .val (.int (Int32.ofNat o)), .val (.int (Int32.ofNat len)), .val (.ref s.heap.size), .unset, .unset] [.int (Int32.ofNat len)])) := g6
  have c8 : Steps p.tables e below (s₁.setTop (entryFrame m #[.ref b, .int (Int32.ofNat o), .int (Int32.ofNat len)] 6)) (T6.setTop (mkF m 58 #[.val (.ref b), .val (.int (Int32.ofNat o)), .val (.int (Int32.ofNat len)), .val (.ref s.heap.size), .val (.int (Int32.ofNat len)), .unset] [.ref s.heap.size])) := c7.trans (by
    refine XS.istore X6.here hexec rfl (hb hbytes d12) rfl rfl ?_
    refine XS.iload X6.here hexec rfl (hb hbytes d14) rfl ?_
    refine XS.iloadN X6.here hexec rfl (hb hbytes d16) rfl ?_
    refine XS.icmpYes X6.here hexec rfl (pc0 := 17) rfl (hb hbytes d17) rfl (ii_eq_t rfl) (by decide) rfl ?_
    refine XS.aloadN X6.here hexec rfl (hb hbytes d57) rfl rfl ?_
    exact Steps.refl _)
  have X8 := X6.wide (L' := []) (cells' := 1) (slots' := len) (fun x hx hlt => by
    simp only [List.nil_append, copyLocs, List.mem_map, List.mem_range] at hx
    obtain ⟨i, -, rfl⟩ := hx
    exact absurd hlt (Nat.lt_irrefl _)) (Nat.le_refl _) (by omega)
  exact ⟨T6, some (.ref s.heap.size), _, _, _, X8, rfl, rfl, rfl, (fun h => by cases h), ⟨⟨rfl, B6, ba3.like (X3.warmed.alike.symm.trans X6.warmed.alike) p6.1 f6.1 f6.2.1 f6.2.2.1, f6.2.1.trans bv3, by rw [X6.warmed.alike.findClass, f6.1]; exact bf3, by rw [f6.2.2.1, bs3]; simp, fun j hj => by rw [f6.2.2.2 j, if_pos (by omega)]; rfl, kp3.put p6 (Nat.le_refl _)⟩, by rw [p6.2.2, bh3, hh0]; simp⟩, fun fs hl => c8.trans (X8.areturnOut hexec rfl hret rfl (hb hbytes d58) hl)⟩
end Cmp3
namespace CodL
def yN : MethodName := ⟨"java/lang/StringUTF16", "coderFromArrayLen", "([BI)B"⟩
abbrev yB : ByteArray := jdk_52_method_15_code
theorem d0 : decode yB 0 = .ok (.iload_n 1, 1) := by decide +kernel
theorem d1 : decode yB 1 = .ok (.aload_n 0, 1) := by decide +kernel
theorem d2 : decode yB 2 = .ok (.arraylength, 1) := by decide +kernel
theorem d3 : decode yB 3 = .ok (.isub, 1) := by decide +kernel
theorem d4 : decode yB 4 = .ok (.bipush 31, 2) := by decide +kernel
theorem d6 : decode yB 6 = .ok (.iushr, 1) := by decide +kernel
theorem d7 : decode yB 7 = .ok (.i2b, 1) := by decide +kernel
theorem d8 : decode yB 8 = .ok (.ireturn, 1) := by decide +kernel
def site : List Cond := []
def tab : Cond := tabOf yN yB 2 (some .byte) site
def P (d : Addr) (B : Cell) (args : Array Value) (s : State) : Prop := args = #[.ref d, .int (Int32.ofNat B.slots.size)] ∧ Arr .byte d B s
def E (r : Option Value) (s u : State) : Prop := XT.PureE (some (.int 0)) r s u
/-- an array as long as the number of chars: LATIN1 -/
theorem law (l : Launch) (d : Addr) (B : Cell) : Law l yN 2 2 0 0 yB 2 (some .byte) site (P d B) E [] 0 0 := by
  refine Law.of_walk (plainFor_of_name (by decide +kernel)) (by decide +kernel) (by decide +kernel) (by decide) (fun _ _ h => by rw [h.1]; rfl) (fun _ U U' hal hh h => ⟨h.1, h.2.mv hal hh⟩) (fun r U U' V V' h1 hal h2 h => XT.PureE.mv r U U' V V' h1 hal h2 h) ?_
  intro p e s m args below meth c s₁ X0 hexec hbytes hml hret hlk hnm hown hh0 W hP
  obtain ⟨rfl, hB⟩ := hP
  have hB0 := hB.mv X0.warmed.alike hh0
  have c1 : Steps p.tables e below (s₁.setTop (entryFrame m #[.ref d, .int (Int32.ofNat B.slots.size)] 2)) (s₁.setTop (mkF m 0 #[.val (.ref d), .val (.int (Int32.ofNat B.slots.size))] [])) := entry rfl
  have c2 : Steps p.tables e below (s₁.setTop (entryFrame m #[.ref d, .int (Int32.ofNat B.slots.size)] 2)) (s₁.setTop (mkF m 2 #[.val (.ref d), .val (.int (Int32.ofNat B.slots.size))] [.ref d, .int (Int32.ofNat B.slots.size)])) := c1.trans (by
    refine XS.iloadN X0.here hexec rfl (hb hbytes d0) rfl ?_
    refine XS.aloadN X0.here hexec rfl (hb hbytes d1) rfl rfl ?_
    exact Steps.refl _)
  have c3 : Steps p.tables e below (s₁.setTop (entryFrame m #[.ref d, .int (Int32.ofNat B.slots.size)] 2)) (s₁.setTop (mkF m 8 #[.val (.ref d), .val (.int (Int32.ofNat B.slots.size))] [.int (lo8 (ushr (Int32.ofNat B.slots.size - Int32.ofNat B.slots.size) 31))])) := c2.trans (by
    refine X0.alen hexec hB0 rfl rfl (hb hbytes d2) ?_
    refine XS.isub X0.here hexec rfl (hb hbytes d3) rfl ?_
    refine bipushV X0.here hexec rfl 31 (hb hbytes d4) (by decide) ?_
    refine iushr X0.here hexec rfl (hb hbytes d6) rfl ?_
    refine i2b X0.here hexec rfl (hb hbytes d7) rfl ?_
    exact Steps.refl _)
  have e0 : lo8 (ushr (Int32.ofNat B.slots.size - Int32.ofNat B.slots.size) 31) = 0 := by rw [Int32.sub_self]; decide
  rw [e0] at c3
  exact ⟨s₁, some (.int 0), _, _, _, X0, rfl, rfl, rfl, (fun h => by cases h), ⟨rfl, hh0⟩, fun fs hl => c3.trans (X0.ireturnOut hexec hret rfl (Or.inr (Or.inr (Or.inl rfl))) (hb hbytes d8) hl)⟩
end CodL
/-- the String at a is Latin-1 over a new byte[] (the heap's one new cell): the low bytes of the len chars of A from o on; every cell but a is kept -/
def Got (a : Addr) (D : Cell) (fV fC : Field) (A : Cell) (o len : Nat) (r : Option Value) (s u : State) : Prop := r = none ∧ ∃ D' V : Cell, Blank "java/lang/String" a D' u ∧ Same D D' [fV.slot, fC.slot] ∧ D'.slots[fV.slot]? = some (.ref s.heap.size) ∧ D'.slots[fC.slot]? = some (.int 0) ∧ Arr .byte s.heap.size V u ∧ V.vm = .none ∧ u.vm.findClass "[B" = some V.cls ∧ V.slots.size = len ∧ (∀ j, j < len → V.slots[j]? = some (.int (lo8 (cv A (o + j))))) ∧ (∀ (y : Addr) (c : Cell), y ≠ a → s.heap[y]? = some c → u.heap[y]? = some c) ∧ u.heap.size = s.heap.size + 1
theorem Got.mv {a : Addr} {D A : Cell} {fV fC : Field} {o len : Nat} : ∀ r (U U' V V' : State), U'.heap = U.heap → V.vm.Alike V'.vm → V'.heap = V.heap → Got a D fV fC A o len r U V → Got a D fV fC A o len r U' V' :=
  fun r U U' V V' h1 hal h2 ⟨e0, D', X, a1, a2, a3, a4, a5, a6, a7, a8, a9, a10, a11⟩ => ⟨e0, D', X, a1.mv hal h2, a2, by rw [h1]; exact a3, a4, by rw [h1]; exact a5.mv hal h2, a6, by rw [hal.findClass]; exact a7, a8, a9, by rw [h1, h2]; exact a10, by rw [h1, h2]; exact a11⟩
namespace New4
def yN : MethodName := ⟨"java/lang/String", "<init>", "([CIILjava/lang/Void;)V"⟩
abbrev yB : ByteArray := jdk_42_method_149_code
theorem d0 : decode yB 0 = .ok (.aload_n 0, 1) := by decide +kernel
theorem d1 : decode yB 1 = .ok (.invokespecial 1, 3) := by decide +kernel
theorem d4 : decode yB 4 = .ok (.iload_n 3, 1) := by decide +kernel
theorem d5 : decode yB 5 = .ok (.ifCond (.ne) 22, 3) := by decide +kernel
theorem d27 : decode yB 27 = .ok (.getstatic 38, 3) := by decide +kernel
theorem d30 : decode yB 30 = .ok (.ifCond (.eq) 28, 3) := by decide +kernel
theorem d33 : decode yB 33 = .ok (.aload_n 1, 1) := by decide +kernel
theorem d34 : decode yB 34 = .ok (.iload_n 2, 1) := by decide +kernel
theorem d35 : decode yB 35 = .ok (.iload_n 3, 1) := by decide +kernel
theorem d36 : decode yB 36 = .ok (.invokestatic 177, 3) := by decide +kernel
theorem d39 : decode yB 39 = .ok (.astore 5, 2) := by decide +kernel
theorem d41 : decode yB 41 = .ok (.aload_n 0, 1) := by decide +kernel
theorem d42 : decode yB 42 = .ok (.aload 5, 2) := by decide +kernel
theorem d44 : decode yB 44 = .ok (.iload_n 3, 1) := by decide +kernel
theorem d45 : decode yB 45 = .ok (.invokestatic 47, 3) := by decide +kernel
theorem d48 : decode yB 48 = .ok (.putfield 15, 3) := by decide +kernel
theorem d51 : decode yB 51 = .ok (.aload_n 0, 1) := by decide +kernel
theorem d52 : decode yB 52 = .ok (.aload 5, 2) := by decide +kernel
theorem d54 : decode yB 54 = .ok (.putfield 9, 3) := by decide +kernel
theorem d57 : decode yB 57 = .ok (.return_, 1) := by decide +kernel
def site : List Cond := [.fieldLink "java/lang/String" 38 "java/lang/String" "COMPACT_STRINGS" "Z", Cmp3.tab, CodL.tab, .laysFinal "java/lang/String" "java/lang/String" "value" "[B", .fieldLink "java/lang/String" 9 "java/lang/String" "value" "[B", .laysFinal "java/lang/String" "java/lang/String" "coder" "B", .fieldLink "java/lang/String" 15 "java/lang/String" "coder" "B"] ++ objW "java/lang/String" 1 ++ staticW "java/lang/String" 177 Cmp3.yN ++ staticW "java/lang/String" 47 CodL.yN
def tab : Cond := tabOf yN yB 6 none site
def P (a : Addr) (D : Cell) (fV fC : Field) (b : Addr) (A : Cell) (z : Int32) (o len : Nat) (args : Array Value) (s : State) : Prop := args = #[.ref a, .ref b, .int (Int32.ofNat o), .int (Int32.ofNat len), .null] ∧ Blank "java/lang/String" a D s ∧ Found "java/lang/String" "value" "[B" fV s ∧ Found "java/lang/String" "coder" "B" fC s ∧ Ch b A s ∧ StaticIs s "java/lang/String" "COMPACT_STRINGS" "Z" (.int z) ∧ ¬ z = 0 ∧ 0 < len ∧ o + len ≤ A.slots.size ∧ len ≤ 536870912 ∧ ∀ i, i < len → ¬ 255 < cv A (o + i)
def E (a : Addr) (D : Cell) (fV fC : Field) (A : Cell) (o len : Nat) (r : Option Value) (s u : State) : Prop := Got a D fV fC A o len r s u
/-- len > 0, no char of the range above 255: a Latin-1 String of their low bytes -/
theorem law (l : Launch) (a : Addr) (D : Cell) (fV fC : Field) (b : Addr) (A : Cell) (z : Int32) (o len : Nat) : Law l yN 5 4 2 35 yB 6 none site (P a D fV fC b A z o len) (E a D fV fC A o len) [⟨a, fC.slot⟩, ⟨a, fV.slot⟩] 1 len := by
  refine Law.of_walk (plainFor_of_name (by decide +kernel)) (by decide +kernel) (by decide +kernel) (by decide) (fun _ _ h => by rw [h.1]; rfl) (fun _ U U' hal hh h => ⟨h.1, h.2.1.mv hal hh, h.2.2.1.al hal, h.2.2.2.1.al hal, h.2.2.2.2.1.mv hal hh, h.2.2.2.2.2.1.there hal hh, h.2.2.2.2.2.2⟩) (fun r U U' V V' h1 hal h2 h => Got.mv r U U' V V' h1 hal h2 h) ?_
  intro p e s m args below meth c s₁ X0 hexec hbytes hml hret hlk hnm hown hh0 W hP
  obtain ⟨rfl, hB, f1, f2, hA, s1, hz, l0, l1, l2, hp⟩ := hP
  have a31 := hA.1.2.2.2
  have c1 : Steps p.tables e below (s₁.setTop (entryFrame m #[.ref a, .ref b, .int (Int32.ofNat o), .int (Int32.ofNat len), .null] 6)) (s₁.setTop (mkF m 0 #[.val (.ref a), .val (.ref b), .val (.int (Int32.ofNat o)), .val (.int (Int32.ofNat len)), .val .null, .unset] [])) := entry rfl
  have c2 : Steps p.tables e below (s₁.setTop (entryFrame m #[.ref a, .ref b, .int (Int32.ofNat o), .int (Int32.ofNat len), .null] 6)) (s₁.setTop (mkF m 1 #[.val (.ref a), .val (.ref b), .val (.int (Int32.ofNat o)), .val (.int (Int32.ofNat len)), .val .null, .unset] [.ref a])) := c1.trans (by
    refine XS.aloadN X0.here hexec rfl (hb hbytes d0) rfl rfl ?_
    exact Steps.refl _)
  obtain ⟨T3, X3, q3, st3⟩ := X0.oinit hexec hown (wks W (objW "java/lang/String" 1)) (g := (mkF m 1 #[.val (.ref a), .val (.ref b), .val (.int (Int32.ofNat o)), .val (.int (Int32.ofNat len)), .val .null, .unset] [.ref a])) rfl (by rw [hml]; rfl) (rest := []) rfl (hb hbytes d1) (W := 0) (by show 2 * 0 + 0 ≤ _; decide) (Nat.le_of_ble_eq_true rfl) (Nat.le_of_ble_eq_true rfl)
  have hh3 := q3.trans hh0
  have c4 : Steps p.tables e below (s₁.setTop (entryFrame m #[.ref a, .ref b, .int (Int32.ofNat o), .int (Int32.ofNat len), .null] 6)) (T3.setTop (mkF m 27 #[.val (.ref a), .val (.ref b), .val (.int (Int32.ofNat o)), .val (.int (Int32.ofNat len)), .val .null, .unset] [])) := (c2.trans (st3 _ (Steps.refl _))).trans (by
    refine XS.iloadN X3.here hexec rfl (hb hbytes d4) rfl ?_
    refine XS.ifYes X3.here hexec rfl (pc0 := 5) rfl (hb hbytes d5) rfl (i0_ne_t (nz32 (by omega) l0)) (by decide) rfl ?_
    exact Steps.refl _)
  obtain ⟨T5, X5, q5, st5⟩ := X3.sget hexec hown (wk W (.fieldLink "java/lang/String" 38 "java/lang/String" "COMPACT_STRINGS" "Z")) s1 (fun _ _ h => by rw [hh3]; exact h) (g := (mkF m 27 #[.val (.ref a), .val (.ref b), .val (.int (Int32.ofNat o)), .val (.int (Int32.ofNat len)), .val .null, .unset] [])) rfl (hb hbytes d27)
  have hh5 := q5.trans hh3
  have c6 : Steps p.tables e below (s₁.setTop (entryFrame m #[.ref a, .ref b, .int (Int32.ofNat o), .int (Int32.ofNat len), .null] 6)) (T5.setTop (mkF m 30 #[.val (.ref a), .val (.ref b), .val (.int (Int32.ofNat o)), .val (.int (Int32.ofNat len)), .val .null, .unset] [.int z])) := c4.trans (st5 _ (Steps.refl _))
  have c7 : Steps p.tables e below (s₁.setTop (entryFrame m #[.ref a, .ref b, .int (Int32.ofNat o), .int (Int32.ofNat len), .null] 6)) (T5.setTop (mkF m 36 #[.val (.ref a), .val (.ref b), .val (.int (Int32.ofNat o)), .val (.int (Int32.ofNat len)), .val .null, .unset] [.int (Int32.ofNat len), .int (Int32.ofNat o), .ref b])) := c6.trans (by
    refine XS.ifNo X5.here hexec rfl (hb hbytes d30) rfl (i0_eq_f hz) ?_
    refine XS.aloadN X5.here hexec rfl (hb hbytes d33) rfl rfl ?_
    refine XS.iloadN X5.here hexec rfl (hb hbytes d34) rfl ?_
    refine XS.iloadN X5.here hexec rfl (hb hbytes d35) rfl ?_
    exact Steps.refl _)
  obtain ⟨v8, T8, X8, E8, g8⟩ := X5.callS hexec (Cmp3.law l b A o len) hown (wks W (staticW "java/lang/String" 177 Cmp3.yN)) (wk W Cmp3.tab) (W := 0) (Nat.le_of_ble_eq_true rfl) (Nat.le_of_ble_eq_true rfl) (Nat.le_refl _) (by show 0 + len ≤ len; omega) (g := (mkF m 36 #[.val (.ref a), .val (.ref b), .val (.int (Int32.ofNat o)), .val (.int (Int32.ofNat len)), .val .null, .unset] [.int (Int32.ofNat len), .int (Int32.ofNat o), .ref b])) rfl (by rw [hml]; rfl) c7 (argsL := [.ref b, .int (Int32.ofNat o), .int (Int32.ofNat len)]) (rest := []) rfl rfl (by show 2 * 0 + 0 ≤ _; decide) (hb hbytes d36) (⟨rfl, hA.mv X5.warmed.alike hh5, l1, l2, hp⟩)
  obtain ⟨e8, z8⟩ := E8
  obtain ⟨rfl, N, n1, n2, n3, n4, n5, n6⟩ := NewArr.mv _ T5 s _ _ hh5.symm (Vm.Alike.refl _) rfl e8
  rw [hh5] at z8
  have hB1 := hB.keep X8.warmed.alike (n6 _ _ hB.1)
  have hne : s.heap.size ≠ a := (Nat.ne_of_lt (Array.getElem?_eq_some_iff.mp hB.1).1).symm
  have c9 : Steps p.tables e below (s₁.setTop (entryFrame m #[.ref a, .ref b, .int (Int32.ofNat o), .int (Int32.ofNat len), .null] 6)) (T8.setTop (mkF m 39 #[.val (.ref a), .val (.ref b), .val (.int (Int32.ofNat o)), .val (.int (Int32.ofNat len)), .val .null, .unset] [.ref s.heap.size])) := g8
  have c10 : Steps p.tables e below (s₁.setTop (entryFrame m #[.ref a, .ref b, .int (Int32.ofNat o), .int (Int32.ofNat len), .null] 6)) (T8.setTop (mkF m 45 #[.val (.ref a), .val (.ref b), .val (.int (Int32.ofNat o)), .val (.int (Int32.ofNat len)), .val .null, .val (.ref s.heap.size)] [.int (Int32.ofNat N.slots.size), .ref s.heap.size, .ref a])) := by
    have hc : Steps p.tables e below (s₁.setTop (entryFrame m #[.ref a, .ref b, .int (Int32.ofNat o), .int (Int32.ofNat len), .null] 6)) (T8.setTop (mkF m 45 #[.val (.ref a), .val (.ref b), .val (.int (Int32.ofNat o)), .val (.int (Int32.ofNat len)), .val .null, .val (.ref s.heap.size)] [.int (Int32.ofNat len), .ref s.heap.size, .ref a])) := c9.trans (by
      refine XS.astore X8.here hexec rfl (hb hbytes d39) rfl rfl rfl ?_
      refine XS.aloadN X8.here hexec rfl (hb hbytes d41) rfl rfl ?_
      refine XS.aload X8.here hexec rfl (hb hbytes d42) rfl rfl ?_
      refine XS.iloadN X8.here hexec rfl (hb hbytes d44) rfl ?_
      exact Steps.refl _)
    rw [n4]; exact hc
  obtain ⟨v11, T11, X11, E11, g11⟩ := X8.callS hexec (CodL.law l s.heap.size N) hown (wks W (staticW "java/lang/String" 47 CodL.yN)) (wk W CodL.tab) (W := 1) (Nat.le_of_ble_eq_true rfl) (Nat.le_of_ble_eq_true rfl) (Nat.le_refl _) (by show 0 + len + 0 ≤ len; omega) (g := (mkF m 45 #[.val (.ref a), .val (.ref b), .val (.int (Int32.ofNat o)), .val (.int (Int32.ofNat len)), .val .null, .val (.ref s.heap.size)] [.int (Int32.ofNat N.slots.size), .ref s.heap.size, .ref a])) rfl (by rw [hml]; rfl) c10 (argsL := [.ref s.heap.size, .int (Int32.ofNat N.slots.size)]) (rest := [.ref a]) rfl rfl (by show 2 * 0 + (1 + 0) ≤ _; decide) (hb hbytes d45) (⟨rfl, n1⟩)
  obtain ⟨rfl, q11⟩ := E11
  have hB11 := hB1.mv (X8.warmed.alike.symm.trans X11.warmed.alike) q11
  have c12 : Steps p.tables e below (s₁.setTop (entryFrame m #[.ref a, .ref b, .int (Int32.ofNat o), .int (Int32.ofNat len), .null] 6)) (T11.setTop (mkF m 48 #[.val (.ref a), .val (.ref b), .val (.int (Int32.ofNat o)), .val (.int (Int32.ofNat len)), .val .null, .val (.ref s.heap.size)] [.int 0, .ref a])) := g11
  obtain ⟨T13, X13, p13, bl13, sl13, st13⟩ := X11.finit hexec hown (wk W (.fieldLink "java/lang/String" 15 "java/lang/String" "coder" "B")) (Or.inr ⟨_, (wk W (.laysFinal "java/lang/String" "java/lang/String" "coder" "B"))⟩) (Or.inl ⟨rfl, hnm⟩) f2 (Or.inl rfl) hB11 (t := .byte) (by decide +kernel) rfl (g := (mkF m 48 #[.val (.ref a), .val (.ref b), .val (.int (Int32.ofNat o)), .val (.int (Int32.ofNat len)), .val .null, .val (.ref s.heap.size)] [.int 0, .ref a])) rfl (rest := []) rfl (hb hbytes d48)
  have c14 : Steps p.tables e below (s₁.setTop (entryFrame m #[.ref a, .ref b, .int (Int32.ofNat o), .int (Int32.ofNat len), .null] 6)) (T13.setTop (mkF m 54 #[.val (.ref a), .val (.ref b), .val (.int (Int32.ofNat o)), .val (.int (Int32.ofNat len)), .val .null, .val (.ref s.heap.size)] [.ref s.heap.size, .ref a])) := (c12.trans (st13 _ (Steps.refl _))).trans (by
    refine XS.aloadN X13.here hexec rfl (hb hbytes d51) rfl rfl ?_
    refine XS.aload X13.here hexec rfl (hb hbytes d52) rfl rfl ?_
    exact Steps.refl _)
  obtain ⟨T15, X15, p15, bl15, sl15, st15⟩ := X13.finit hexec hown (wk W (.fieldLink "java/lang/String" 9 "java/lang/String" "value" "[B")) (Or.inr ⟨_, (wk W (.laysFinal "java/lang/String" "java/lang/String" "value" "[B"))⟩) (Or.inl ⟨rfl, hnm⟩) f1 (Or.inl rfl) bl13 (t := (.array .byte)) (by decide +kernel) rfl (g := (mkF m 54 #[.val (.ref a), .val (.ref b), .val (.int (Int32.ofNat o)), .val (.int (Int32.ofNat len)), .val .null, .val (.ref s.heap.size)] [.ref s.heap.size, .ref a])) rfl (rest := []) rfl (hb hbytes d54)
  have c16 : Steps p.tables e below (s₁.setTop (entryFrame m #[.ref a, .ref b, .int (Int32.ofNat o), .int (Int32.ofNat len), .null] 6)) (T15.setTop (mkF m 57 #[.val (.ref a), .val (.ref b), .val (.int (Int32.ofNat o)), .val (.int (Int32.ofNat len)), .val .null, .val (.ref s.heap.size)] [])) := c14.trans (st15 _ (Steps.refl _))
  have ap := apart (Or.inr ⟨_, (wk W (.laysFinal "java/lang/String" "java/lang/String" "value" "[B"))⟩) (Or.inr ⟨_, (wk W (.laysFinal "java/lang/String" "java/lang/String" "coder" "B"))⟩) f1 f2 (t₁ := .array .byte) (t₂ := .byte) (by decide +kernel) (by decide +kernel) (by decide)
  have al := X8.warmed.alike.symm.trans X15.warmed.alike
  have n7 : T11.heap[s.heap.size]? = some N := by rw [q11]; exact n1.1
  exact ⟨T15, none, _, _, _, X15, by simp, rfl, by omega, (fun _ => rfl), ⟨rfl, _, N, bl15, ((Same.refl D _).set _ (by simp)).set _ (by simp), sl15, (Cell.slots_setSlot_ne _ ap).trans sl13, n1.keep al (p15.other hne (p13.other hne n7)), n2, by rw [al.findClass]; exact n3, n4, n5, fun y c h1 h2 => p15.other h1 (p13.other h1 (by rw [q11]; exact n6 y c h2)), by rw [p15.2.2, p13.2.2, q11]; exact z8⟩, fun fs hl => c16.trans (X15.returnOut hexec hret (hb hbytes d57) hl)⟩
end New4
namespace New1
def yN : MethodName := ⟨"java/lang/String", "<init>", "([C)V"⟩
abbrev yB : ByteArray := jdk_42_method_3_code
theorem d0 : decode yB 0 = .ok (.aload_n 0, 1) := by decide +kernel
theorem d1 : decode yB 1 = .ok (.aload_n 1, 1) := by decide +kernel
theorem d2 : decode yB 2 = .ok (.iconst 0, 1) := by decide +kernel
theorem d3 : decode yB 3 = .ok (.aload_n 1, 1) := by decide +kernel
theorem d4 : decode yB 4 = .ok (.arraylength, 1) := by decide +kernel
theorem d5 : decode yB 5 = .ok (.aconst_null, 1) := by decide +kernel
theorem d6 : decode yB 6 = .ok (.invokespecial 27, 3) := by decide +kernel
theorem d9 : decode yB 9 = .ok (.return_, 1) := by decide +kernel
def site : List Cond := [New4.tab] ++ initW "java/lang/String" 27 New4.yN
def tab : Cond := tabOf yN yB 2 none site
def P (a : Addr) (D : Cell) (fV fC : Field) (b : Addr) (A : Cell) (z : Int32) (args : Array Value) (s : State) : Prop := args = #[.ref a, .ref b] ∧ Blank "java/lang/String" a D s ∧ Found "java/lang/String" "value" "[B" fV s ∧ Found "java/lang/String" "coder" "B" fC s ∧ Ch b A s ∧ StaticIs s "java/lang/String" "COMPACT_STRINGS" "Z" (.int z) ∧ ¬ z = 0 ∧ 0 < A.slots.size ∧ A.slots.size ≤ 536870912 ∧ ∀ i, i < A.slots.size → ¬ 255 < cv A i
def E (a : Addr) (D : Cell) (fV fC : Field) (A : Cell) (r : Option Value) (s u : State) : Prop := Got a D fV fC A 0 A.slots.size r s u
/-- new String(chars), not empty, no char above 255: a Latin-1 String of their low bytes -/
theorem law (l : Launch) (a : Addr) (D : Cell) (fV fC : Field) (b : Addr) (A : Cell) (z : Int32) : Law l yN 2 1 3 52 yB 2 none site (P a D fV fC b A z) (E a D fV fC A) [⟨a, fC.slot⟩, ⟨a, fV.slot⟩] 1 A.slots.size := by
  refine Law.of_walk (plainFor_of_name (by decide +kernel)) (by decide +kernel) (by decide +kernel) (by decide) (fun _ _ h => by rw [h.1]; rfl) (fun _ U U' hal hh h => ⟨h.1, h.2.1.mv hal hh, h.2.2.1.al hal, h.2.2.2.1.al hal, h.2.2.2.2.1.mv hal hh, h.2.2.2.2.2.1.there hal hh, h.2.2.2.2.2.2⟩) (fun r U U' V V' h1 hal h2 h => Got.mv r U U' V V' h1 hal h2 h) ?_
  intro p e s m args below meth c s₁ X0 hexec hbytes hml hret hlk hnm hown hh0 W hP
  obtain ⟨rfl, hB, f1, f2, hA, s1, hz, l0, l2, hp⟩ := hP
  have c1 : Steps p.tables e below (s₁.setTop (entryFrame m #[.ref a, .ref b] 2)) (s₁.setTop (mkF m 0 #[.val (.ref a), .val (.ref b)] [])) := entry rfl
  have c2 : Steps p.tables e below (s₁.setTop (entryFrame m #[.ref a, .ref b] 2)) (s₁.setTop (mkF m 6 #[.val (.ref a), .val (.ref b)] [.null, .int (Int32.ofNat A.slots.size), .int 0, .ref b, .ref a])) := c1.trans (by
    refine XS.aloadN X0.here hexec rfl (hb hbytes d0) rfl rfl ?_
    refine XS.aloadN X0.here hexec rfl (hb hbytes d1) rfl rfl ?_
    refine iconstV X0.here hexec rfl 0 (hb hbytes d2) (by decide) ?_
    refine XS.aloadN X0.here hexec rfl (hb hbytes d3) rfl rfl ?_
    refine X0.alen hexec (hA.1.mv X0.warmed.alike hh0) rfl rfl (hb hbytes d4) ?_
    refine XS.aconstNull X0.here hexec rfl (hb hbytes d5) ?_
    exact Steps.refl _)
  obtain ⟨v3, T3, X3, E3, g3⟩ := X0.callN hexec (New4.law l a D fV fC b A z 0 A.slots.size) rfl hown (wks W (initW "java/lang/String" 27 New4.yN)) (W New4.tab (by simp only [site, List.mem_cons, List.mem_append, true_or, or_true])) (W := 0) (Nat.le_of_ble_eq_true rfl) (Nat.le_of_ble_eq_true rfl) (Nat.le_refl _) (by show 0 + A.slots.size ≤ A.slots.size; omega) (g := (mkF m 6 #[.val (.ref a), .val (.ref b)] [.null, .int (Int32.ofNat A.slots.size), .int (Int32.ofNat 0), .ref b, .ref a])) rfl (by rw [hml]; rfl) c2 (argsL := [.ref b, .int (Int32.ofNat 0), .int (Int32.ofNat A.slots.size), .null]) (rest := []) rfl rfl (by show 2 * 0 + 0 ≤ _; decide) (hb hbytes d6) (⟨rfl, hB.mv X0.warmed.alike hh0, f1.al X0.warmed.alike, f2.al X0.warmed.alike, hA.mv X0.warmed.alike hh0, s1.there X0.warmed.alike hh0, hz, l0, by omega, l2, fun i hi => by rw [Nat.zero_add]; exact hp i hi⟩)
  have e0 := Got.mv _ s₁ s _ _ hh0.symm (Vm.Alike.refl _) rfl E3
  obtain rfl := e0.1
  have c4 : Steps p.tables e below (s₁.setTop (entryFrame m #[.ref a, .ref b] 2)) (T3.setTop (mkF m 9 #[.val (.ref a), .val (.ref b)] [])) := g3
  exact ⟨T3, none, _, _, _, X3, by simp, rfl, by omega, (fun _ => rfl), e0, fun fs hl => c4.trans (X3.returnOut hexec hret (hb hbytes d9) hl)⟩
theorem pays {l : Launch} {R : Room} {p : Program} {e : Env} {below : List Frame} {s : State} {sargs : Array Value} {len W : Nat} (a : Addr) (D : Cell) (fV fC : Field) (b : Addr) (A : Cell) (z : Int32) (htab : tab.before sargs s = true) (hfr : 4 ≤ R.frames) (hlo : W + 65 ≤ R.locals) :
    Back l R p e below s sargs yN len W (fun A₁ a₁ => A₁.cells + 1 ≤ R.cells ∧ A₁.slots + A.slots.size ≤ R.slots ∧ P a D fV fC b A z a₁ A₁.U) (fun A₁ _ v₁ B₁ => E a D fV fC A v₁ A₁.U B₁.U ∧ B₁.locs = A₁.locs ++ [⟨a, fC.slot⟩, ⟨a, fV.slot⟩] ∧ B₁.cells = A₁.cells + 1 ∧ B₁.slots = A₁.slots + A.slots.size) :=
  (law l a D fV fC b A z).pays htab hfr (by omega)
end New1
end StrChars
namespace StrChars.Road
open Jvm Sem ClassFile Op Lib Jvm.Stand Jvm.Free Jvm.Free.XT
open Jvm.Lib.Cold (StaticIs)
abbrev ST : String := "java/lang/String"
/-- every table word that New1's law asks, flat -/
abbrev words : List Jvm.Cond := [.code New1.yN New1.yB 2 none, .initialized ST, .methodLink ST 27 New4.yN, .instanceMethod New4.yN,
  .code New4.yN New4.yB 6 none, .fieldLink ST 38 ST "COMPACT_STRINGS" "Z", .laysFinal ST ST "value" "[B", .fieldLink ST 9 ST "value" "[B", .laysFinal ST ST "coder" "B", .fieldLink ST 15 ST "coder" "B",
  .methodLink ST 1 Lib.objectInit, .instanceMethod Lib.objectInit, .code Lib.objectInit ⟨#[0xb1]⟩ 1 none, .methodLink ST 177 Cmp3.yN, .static Cmp3.yN, .methodLink ST 47 CodL.yN, .static CodL.yN,
  .code Cmp3.yN Cmp3.yB 6 (some (.array .byte)), .initialized U16, .arrayClass .byte, .methodLink U16 115 Cmp5.yN, .static Cmp5.yN, .code Cmp5.yN Cmp5.yB 7 (some .int), .code CodL.yN CodL.yB 2 (some .byte)]
theorem tab_of {a : Array Value} {s : State} (h : ∀ w ∈ words, w.before a s = true) : New1.tab.before a s = true := by
  have h5 : Cmp5.tab.before a s = true := unparts (wk h (.code Cmp5.yN Cmp5.yB 7 (some .int))) (wks h (.initialized Cmp5.yN.cls :: Cmp5.site))
  have hc : CodL.tab.before a s = true := unparts (wk h (.code CodL.yN CodL.yB 2 (some .byte))) (wks h (.initialized CodL.yN.cls :: CodL.site))
  have q5 : ∀ w ∈ Cmp5.tab :: words, w.before a s = true := fun w hw => (List.mem_cons.mp hw).elim (fun e => e ▸ h5) (h w)
  have h3 : Cmp3.tab.before a s = true := unparts (wk q5 (.code Cmp3.yN Cmp3.yB 6 (some (.array .byte)))) (wks q5 (.initialized Cmp3.yN.cls :: Cmp3.site))
  have q3 : ∀ w ∈ Cmp3.tab :: CodL.tab :: words, w.before a s = true := fun w hw => (List.mem_cons.mp hw).elim (fun e => e ▸ h3) fun hw => (List.mem_cons.mp hw).elim (fun e => e ▸ hc) (h w)
  have h4 : New4.tab.before a s = true := unparts (wk q3 (.code New4.yN New4.yB 6 none)) (wks q3 (.initialized New4.yN.cls :: New4.site))
  have q4 : ∀ w ∈ New4.tab :: words, w.before a s = true := fun w hw => (List.mem_cons.mp hw).elim (fun e => e ▸ h4) (h w)
  exact unparts (wk q4 (.code New1.yN New1.yB 2 none)) (wks q4 (.initialized New1.yN.cls :: New1.site))
/-- the words ride from the start Z to the walk's own state -/
theorem moved {Z s : State} {a0 args : Array Value} (hZ : Z.Warmed39 s.vm) (hw : ∀ d ∈ words, d.before a0 Z = true) : ∀ d ∈ words, d.before args s = true := fun d hd => by
  have q := hw d hd
  have t : ∀ d ∈ words, d = .arrayClass .byte ∨ (d.onTables && d.keepsFace) = true := by decide +kernel
  rcases t d hd with rfl | t
  · exact RoadKit.mvA hZ q
  · exact RoadKit.mv hZ q t
/-- WHAT COMES BACK, over the tables of the start Z: h the heap at the call, h' behind it -/
def Q (Z : State) (x : Addr) (A : Cell) (h : Heap) (v : Option Value) (h' : Heap) (L : List Loc) : Prop := v = none ∧ (∀ y ∈ L, y.base = x) ∧ RoadKit.Keep h h' [x] ∧ h'.size = h.size + 1 ∧ RoadKit.Exa Z h' x ST ∧ RoadKit.Fld Z h' x ST "value" "[B" (.ref h.size) ∧ RoadKit.Fld Z h' x ST "coder" "B" (.int 0) ∧
  (∃ V : Cell, RoadKit.Arr Z h' h.size V .byte ∧ V.vm = .none ∧ Z.vm.findClass "[B" = some V.cls ∧ V.slots.size = A.slots.size ∧ ∀ j, j < A.slots.size → V.slots[j]? = some (.int (lo8 (cv A j)))) ∧
  ∀ (O n d : String) (w : Value), RoadKit.Fld Z h x O n d w → RoadKit.slotOf Z O n d ≠ RoadKit.slotOf Z ST "value" "[B" → RoadKit.slotOf Z O n d ≠ RoadKit.slotOf Z ST "coder" "B" → RoadKit.Fld Z h' x O n d w
/-- **new String(chars) AT A CALL, IN THE ROAD'S FORM**: for specialBack behind newO: x the fresh String, b the char[] with the cell A -/
theorem back {p : Program} {l : Launch} {e : Env} {R : Room} {s : State} {args : Array Value} {below : List Frame} {len W : Nat} {Z : State} {a0 : Array Value} {h : Heap} (hZ : Z.Warmed39 s.vm) (hw : ∀ d ∈ words, d.before a0 Z = true) {kI : Nat} (wi : (Jvm.Cond.instantiable ST kI).before a0 Z = true)
    {x b : Addr} {A : Cell} {z : Int32} {v0 c0 : Value} (E : RoadKit.Exa Z h x ST) (V : RoadKit.Fld Z h x ST "value" "[B" v0) (C : RoadKit.Fld Z h x ST "coder" "B" c0) (K : RoadKit.Arr Z h b A .char) (hty : Typed .char A) (S : RoadKit.Sta Z h ST "COMPACT_STRINGS" "Z" (.int z)) (hz : ¬ z = 0)
    (l0 : 0 < A.slots.size) (l2 : A.slots.size ≤ 536870912) (hp : ∀ i, i < A.slots.size → ¬ 255 < cv A i) (hfr : 4 ≤ R.frames) (hlo : W + 65 ≤ R.locals) :
    Back l R p e below s args New1.yN len W (fun P a => a = #[.ref x, .ref b] ∧ P.U.heap = h ∧ P.cells + 1 ≤ R.cells ∧ P.slots + A.slots.size ≤ R.slots)
      (fun P _ v B => ∃ L, Q Z x A h v B.U.heap L ∧ B.locs = P.locs ++ L ∧ B.cells = P.cells + 1 ∧ B.slots = P.slots + A.slots.size) := by
  intro m meth c P g ig mk a X hg hsize hdg hW hn hp'
  obtain ⟨rfl, rfl, r1, r2⟩ := hp'
  have al : Z.vm.Alike P.U.vm := hZ.alike.trans X.warmed.alike
  obtain ⟨D, cfV, kV, iV, fV, hD, gV, stV, knV, obV, asV, slV⟩ := id V
  obtain ⟨D', cfC, kC, iC, fC, hD', gC, stC, -, -, asC, slC⟩ := id C
  cases hD.symm.trans hD'
  obtain ⟨D2, kD, e1, e2, e3, e4, e5⟩ := id E
  cases hD.symm.trans e1
  obtain ⟨c2, k2, i1, i2, i3, -⟩ := Cond.instantiable_spec wi
  cases e2.symm.trans i1
  cases e3.symm.trans i2
  obtain ⟨kU, u1, u2⟩ := al.2.2 _ _ e3
  have hB : Blank ST x D P.U := ⟨hD, ⟨knV, fun q hq => by rw [hq] at obV; cases obV⟩, by rw [al.findClass]; exact e2, kU, u1, by rw [u2]; exact i3, by rw [u2]; exact e5 i3⟩
  have F1 : Found ST "value" "[B" fV P.U := ⟨SBG.found_only al ⟨cfV, kV, iV, gV⟩, stV⟩
  have F2 : Found ST "coder" "B" fC P.U := ⟨SBG.found_only al ⟨cfC, kC, iC, gC⟩, stC⟩
  have hA : Ch b A P.U := ⟨⟨K.1, State.isArrayOf_alike al K.2.1, K.2.2, by omega⟩, hty⟩
  have hS : StaticIs P.U ST "COMPACT_STRINGS" "Z" (.int z) := by
    obtain ⟨cfS, iS, kS, fS, st, cS, t1, t2, t3, t4, t5, t6, t7⟩ := S
    exact StaticIs.there (s := { Z with heap := P.U.heap }) ⟨cfS, iS, kS, fS, st, cS, t1, t2, t3, t4, t5, (fun q => by rw [q] at t6; cases t6), t7⟩ al rfl
  obtain ⟨v, B, X', ⟨⟨hv, E', V', q1, q2, q3, q4, q5, q6, q7, q8, q9, q10, q11⟩, hl, hc, hs⟩, st⟩ := New1.pays x D fV fC b A z (tab_of (moved hZ hw)) hfr hlo m meth c P g ig mk _ X hg hsize hdg hW hn ⟨r1, r2, rfl, hB, F1, F2, hA, hS, hz, l0, l2, hp⟩
  have al' : Z.vm.Alike B.U.vm := hZ.alike.trans X'.warmed.alike
  have hsz : E'.slots.size = D.slots.size := by
    obtain ⟨-, -, -, kB, w1, w2, w3⟩ := q1
    obtain ⟨kB', y1, y2⟩ := al'.2.2 _ _ e3
    rw [q2.2.1] at w1
    cases w1.symm.trans y1
    rw [w3, e5 i3, y2]
  refine ⟨v, B, X', ⟨_, ⟨hv, ?_, ⟨by omega, fun y cy hy hn' => q10 y cy (by simpa using hn') hy, fun y cy hy => ?_⟩, q11, ⟨E', _, q1.1, by rw [q2.2.1]; exact e2, by rw [q2.2.1]; exact e3, by rw [q2.1]; exact obV, fun _ => by rw [hsz]; exact e5 i3⟩,
    ⟨E', cfV, kV, iV, fV, q1.1, gV, stV, by rw [q2.1]; exact knV, by rw [q2.1]; exact obV, by rw [q2.2.1]; exact asV, q3⟩, ⟨E', cfC, kC, iC, fC, q1.1, gC, stC, by rw [q2.1]; exact knV, by rw [q2.1]; exact obV, by rw [q2.2.1]; exact asC, q4⟩,
    ⟨V', ⟨q5.1, State.isArrayOf_alike al'.symm q5.2.1, q5.2.2.1⟩, q6, by rw [← al'.findClass]; exact q7, q8, fun j hj => by have := q9 j hj; rwa [Nat.zero_add] at this⟩, fun O n d w F n1 n2 => ?_⟩, hl, hc, hs⟩, st⟩
  · intro y hy
    simp only [List.mem_cons, List.not_mem_nil, or_false] at hy
    rcases hy with rfl | rfl <;> rfl
  · by_cases q : y = x
    · subst q
      cases hD.symm.trans hy
      exact ⟨E', q1.1, q2.2.1, q2.1, hsz⟩
    · exact ⟨cy, q10 y cy q hy, rfl, rfl, rfl⟩
  · obtain ⟨D3, cf, k, i, f, g1, g2, g3, g4, g5, g6, g7⟩ := F
    cases hD.symm.trans g1
    simp only [RoadKit.slotOf, g2, gV, gC, Option.map_some, Option.getD_some] at n1 n2
    exact ⟨E', cf, k, i, f, q1.1, g2, g3, by rw [q2.1]; exact g4, by rw [q2.1]; exact g5, by rw [q2.2.1]; exact g6, by rw [q2.2.2 f.slot (by simp [n1, n2])]; exact g7⟩
end StrChars.Road
namespace StrChars.Road
open Jvm Sem ClassFile Op Lib Jvm.Stand Jvm.Free Jvm.Free.XT
/-- WHAT COMES BACK, the byte[] as a list of values -/
def QA (Z : State) (x : Addr) (zn : Int32) (cs : List Int32) (h : Heap) (v : Option Value) (h' : Heap) (L : List Loc) : Prop := v = none ∧ (∀ y ∈ L, y.base = x) ∧ RoadKit.Keep h h' [x] ∧ h'.size = h.size + 1 ∧ RoadKit.Exa Z h' x ST ∧ RoadKit.Fld Z h' x ST "value" "[B" (.ref h.size) ∧ RoadKit.Fld Z h' x ST "coder" "B" (.int 0) ∧
  (∃ kb, Z.vm.findClass "[B" = some kb ∧ RoadKit.Arv Z h' h.size kb .byte zn (cs.map fun c => .int (lo8 c)) (.int 0)) ∧
  ∀ (O n d : String) (w : Value), RoadKit.Fld Z h x O n d w → RoadKit.slotOf Z O n d ≠ RoadKit.slotOf Z ST "value" "[B" → RoadKit.slotOf Z O n d ≠ RoadKit.slotOf Z ST "coder" "B" → RoadKit.Fld Z h' x O n d w
/-- **new String(chars) AT A CALL, THE ARRAYS AS LISTS**: the char[] at b holds cs, not empty, no char above 255 -/
theorem backArv {p : Program} {l : Launch} {e : Env} {R : Room} {s : State} {args : Array Value} {below : List Frame} {len W : Nat} {Z : State} {a0 : Array Value} {h : Heap} (hZ : Z.Warmed39 s.vm) (hw : ∀ d ∈ words, d.before a0 Z = true) {kI : Nat} (wi : (Jvm.Cond.instantiable ST kI).before a0 Z = true)
    {x b : Addr} {k : ClassId} {zn z : Int32} {cs : List Int32} {dv v0 c0 : Value} (E : RoadKit.Exa Z h x ST) (V : RoadKit.Fld Z h x ST "value" "[B" v0) (C : RoadKit.Fld Z h x ST "coder" "B" c0) (K : RoadKit.Arv Z h b k .char zn (cs.map Value.int) dv) (S : RoadKit.Sta Z h ST "COMPACT_STRINGS" "Z" (.int z)) (hz : ¬ z = 0)
    (hlen : zn.toNatClampNeg = cs.length) (h0 : 0 < cs.length) (hbig : cs.length ≤ 536870912) (hall : ∀ c ∈ cs, ¬ 255 < c) (hfr : 4 ≤ R.frames) (hlo : W + 65 ≤ R.locals) :
    Back l R p e below s args New1.yN len W (fun P a => a = #[.ref x, .ref b] ∧ P.U.heap = h ∧ P.cells + 1 ≤ R.cells ∧ P.slots + cs.length ≤ R.slots)
      (fun P _ v B => ∃ L, QA Z x zn cs h v B.U.heap L ∧ B.locs = P.locs ++ L ∧ B.cells = P.cells + 1 ∧ B.slots = P.slots + cs.length) := by
  obtain ⟨A, K1, K2, K3, K4, K5, K6⟩ := K
  have e : A.slots.size = cs.length := K3.trans hlen
  have hat : ∀ (i : Nat) (hi : i < cs.length), A.slots[i]? = some (.int cs[i]) := fun i hi => by rw [K5 i (by omega)]; simp [List.getD_eq_getElem?_getD, hi]
  have hcv : ∀ (i : Nat) (hi : i < cs.length), cv A i = cs[i] := fun i hi => by unfold cv; rw [hat i hi]
  have hty : Typed .char A := fun i v hv => by
    have hi : i < A.slots.size := (Array.getElem?_eq_some_iff.mp hv).1
    have q := K5 i hi
    rw [hv] at q
    rw [Option.some.inj q]
    exact K6 i hi
  refine Back.mono (back hZ hw wi E V C K1 hty S hz (by omega) (by omega) (fun i hi => by rw [hcv i (by omega)]; exact hall _ (List.getElem_mem _)) hfr hlo) (fun P a hp => ⟨hp.1, hp.2.1, hp.2.2.1, by rw [e]; exact hp.2.2.2⟩) (fun P a v B hp hq => ?_)
  obtain ⟨L, ⟨q1, q2, q3, q4, q5, q6, q7, ⟨V', v1, v2, v3, v4, v5⟩, q9⟩, hl, hc, hs⟩ := hq
  refine ⟨L, ⟨q1, q2, q3, q4, q5, q6, q7, ⟨V'.cls, v3, V', v1, rfl, by rw [v4, e, hlen], K4, fun i hi => ?_, fun i hi => ?_⟩, q9⟩, hl, hc, by rw [hs, e]⟩
  · have hi' : i < cs.length := by omega
    rw [v5 i (by omega), hcv i hi']; simp [List.getD_eq_getElem?_getD, hi']
  · have hi' : i < cs.length := by omega
    simp only [List.getD_eq_getElem?_getD, List.getElem?_map, List.getElem?_eq_getElem hi', Option.map_some, Option.getD_some]
    exact fits_lo8 _
end StrChars.Road
namespace StrChars.Road
open Jvm Sem ClassFile Op Lib Jvm.Stand Jvm.Free Jvm.Free.XT
/-- WHAT COMES BACK, in the writer's own shape -/
def QV (Z : State) (x : Addr) (N : Int32) (bs : List Int32) (h : Heap) (n0 : Nat) (v : Option Value) (h' : Heap) (L : List Loc) : Prop := v = none ∧ RoadKit.Fr n0 L ∧ RoadKit.Keep h h' [x] ∧ RoadKit.Exa Z h' x ST ∧ RoadKit.Fld Z h' x ST "coder" "B" (.int 0) ∧
  ∃ (t : Addr) (kb : ClassId), n0 ≤ t ∧ h.size ≤ t ∧ ¬ t = x ∧ RoadKit.Fld Z h' x ST "value" "[B" (.ref t) ∧ RoadKit.Arv Z h' t kb .byte N (bs.map Value.int) (.int 0)
/-- **new String(chars) AT A CALL, FOR THE WRITER**: a char[] of n known ints, each 0 to 255 -/
theorem backV {p : Program} {l : Launch} {e : Env} {R : Room} {s : State} {args : Array Value} {below : List Frame} {len W : Nat} {Z : State} {a0 : Array Value} {h : Heap} (hZ : Z.Warmed39 s.vm) (hw : ∀ d ∈ words, d.before a0 Z = true) {kI : Nat} (wi : (Jvm.Cond.instantiable ST kI).before a0 Z = true)
    {x b : Addr} {kC : ClassId} {cs bs : List Int32} {d v0 c0 : Value} {z N : Int32} {n n0 : Nat} (hx0 : n0 ≤ x) (hh0 : n0 ≤ h.size) (E : RoadKit.Exa Z h x ST) (V : RoadKit.Fld Z h x ST "value" "[B" v0) (C : RoadKit.Fld Z h x ST "coder" "B" c0) (K : RoadKit.Arv Z h b kC .char N (cs.map Value.int) d) (S : RoadKit.Sta Z h ST "COMPACT_STRINGS" "Z" (.int z)) (hz : ¬ z = 0)
    (hn : cs.length = n) (hN : N = Int32.ofNat n) (l0 : 0 < n) (l2 : n ≤ 4000) (hp : ∀ c ∈ cs, ¬ c < 0 ∧ ¬ (255 : Int32) < c) (hb : bs = cs.map (fun c => c.toInt8.toInt32)) (hfr : 4 ≤ R.frames) (hlo : W + 65 ≤ R.locals) :
    Back l R p e below s args (⟨"java/lang/String", "<init>", "([C)V"⟩ : MethodName) len W (fun P a => a = #[.ref x, .ref b] ∧ P.U.heap = h ∧ P.cells + 1 ≤ R.cells ∧ P.slots + n ≤ R.slots)
      (fun P _ v B => ∃ L, QV Z x N bs h n0 v B.U.heap L ∧ B.locs = P.locs ++ L ∧ B.cells = P.cells + 1 ∧ B.slots = P.slots + n) := by
  subst hn hN hb
  refine Back.mono (backArv hZ hw wi E V C K S hz (n32 (by omega)) l0 (by omega) (fun c hc => (hp c hc).2) hfr hlo) (fun P a hp => hp) (fun P a v B hp hq => ?_)
  obtain ⟨L, ⟨q1, q2, q3, q4, q5, q6, q7, ⟨kb, v1, v2⟩, q9⟩, hl, hc, hs⟩ := hq
  exact ⟨L, ⟨q1, fun y hy => by rw [q2 y hy]; exact hx0, q3, q5, q7, h.size, kb, hh0, Nat.le_refl _, Nat.ne_of_gt E.lt, q6, by rw [List.map_map]; exact v2⟩, hl, hc, hs⟩
end StrChars.Road
end Jvm.Pilot.@@N@@
namespace Jvm.Pilot.@@N@@
open Jvm Jvm.ClassFile Sem Op Lib Jvm.Free Jvm.Stand Jvm.LawKit Jvm.RoadKit Bundle Jvm.Pilot.@@N@@.Jvm.D
section Own
variable {p : Program} {l : Launch} {e : Env} {R : Room} {s : State} {m : MethodId} {args : Array Value} {below : List Frame} {meth : Method} {c : Code} {T : State} {locs : List Loc} {cells slots : Nat}
/-- from here the method ends as Post says -/
def Wp (p : Program) (e : Env) (below : List Frame) (Post : Outcome → State → Prop) (S : State) : Prop := ∃ s₂ o, Steps p.tables e below S s₂ ∧ s₂.status = .running ∧ Ended s₂ below o ∧ Post o s₂
theorem Wp.goal {Post : Outcome → State → Prop} {S : State} (w : Wp p e below Post S) : ∃ s₂ o, Steps p.tables e below S s₂ ∧ s₂.status = .running ∧ Ended s₂ below o ∧ Post o s₂ := w
theorem Wp.st {Post : Outcome → State → Prop} {S S' : State} (h : ∀ t, Steps p.tables e below S' t → Steps p.tables e below S t) (w : Wp p e below Post S') : Wp p e below Post S := by
  obtain ⟨t, o, h1, h2⟩ := w
  exact ⟨t, o, h t h1, h2⟩
theorem Wp.tr {Post : Outcome → State → Prop} {S S' : State} (h : Steps p.tables e below S S') (w : Wp p e below Post S') : Wp p e below Post S := by
  obtain ⟨t, o, h1, h2⟩ := w
  exact ⟨t, o, h.trans h1, h2⟩
theorem Wp.ret (X : Stand p l e R s m args below meth c T locs cells slots) (hlk : meth.locks = false) {v : Option Value} (hv : meth.sig.returnType = none → v = none) {g : JFrame}
    (hst : ∀ fs, (∀ (f : JFrame) (acts : List Action), f.method = m → f.locked = none → f.entered = [] → (doReturn e (T.setTop f) acts v).1 = T.setFrames fs) → Steps p.tables e below (T.setTop g) (T.setFrames fs))
    {Q : Option Value → Heap → List Loc → Prop} {k n : Nat} (hk : cells ≤ k) (hn : slots ≤ n) (q : Q v T.heap locs) :
    Wp p e below (fun o U' => ∃ v L, o = .returned v ∧ Q v U'.heap L ∧ FrameEnd s o U' L k n) (T.setTop g) := by
  obtain ⟨fs, hr, hrun, hended, hW, hsame⟩ := X.leave (v := v) hv
  exact ⟨_, _, hst fs hr, hrun, hended, v, locs, rfl, q, ⟨v, rfl⟩, hW, hsame.mono hk hn⟩
theorem Wp.retW {vm₁ : Vm} (X : Stand p l e R (s.setVm vm₁) m args below meth c T locs cells slots) (hlk : meth.locks = false) {k0 : Nat} (hS : s.Since vm₁ k0) (hk0 : k0 ≤ T.heap.size) {v : Option Value} (hv : meth.sig.returnType = none → v = none) {g : JFrame}
    (hst : ∀ fs, (∀ (f : JFrame) (acts : List Action), f.method = m → f.locked = none → f.entered = [] → (doReturn e (T.setTop f) acts v).1 = T.setFrames fs) → Steps p.tables e below (T.setTop g) (T.setFrames fs))
    {Q : Option Value → Heap → List Loc → Prop} {k n : Nat} (hk : cells ≤ k) (hn : slots ≤ n) (q : Q v T.heap locs) :
    Wp p e below (fun o U' => ∃ v L, o = .returned v ∧ Q v U'.heap L ∧ ReturnedEndW s o U' L k n) (T.setTop g) := by
  obtain ⟨fs, hr, hrun, hended, ⟨h1, h2, h3, h4⟩⟩ := X.leaveW hS hk0 (v := v) hv
  exact ⟨_, _, hst fs hr, hrun, hended, v, locs, rfl, q, h1, h2, h3, h4.mono hk hn⟩
theorem Wp.retH {vm₁ : Vm} (X : Stand p l e R (s.setVm vm₁) m args below meth c T locs cells slots) (hlk : meth.locks = false) {k0 : Nat} (hS : s.Since vm₁ k0) (hk0 : k0 ≤ T.heap.size) {v : Option Value} (hv : meth.sig.returnType = none → v = none) {g : JFrame}
    (hst : ∀ fs, (∀ (f : JFrame) (acts : List Action), f.method = m → f.locked = none → f.entered = [] → (doReturn e (T.setTop f) acts v).1 = T.setFrames fs) → Steps p.tables e below (T.setTop g) (T.setFrames fs))
    {Q : Option Value → Heap → List Loc → Prop} {Z : State} {EL : List (String × Nat)} {k n : Nat} (hk : cells ≤ k) (hn : slots ≤ n) (q : Q v T.heap locs) (cr : CHr Z EL s.vm s.heap T.vm T.heap) :
    Wp p e below (fun o U' => ∃ v L, o = .returned v ∧ Q v U'.heap L ∧ CHr Z EL s.vm s.heap U'.vm U'.heap ∧ ReturnedEndW s o U' L k n) (T.setTop g) := by
  obtain ⟨fs, hr, hrun, hended, ⟨h1, h2, h3, h4⟩⟩ := X.leaveW hS hk0 (v := v) hv
  exact ⟨_, _, hst fs hr, hrun, hended, v, locs, rfl, q, cr, h1, h2, h3, h4.mono hk hn⟩
theorem own_narZ {q : Int32} (h : nar .boolean q = q) : narrow .boolean (.int q) = .int q := by show Value.int (nar .boolean q) = _; rw [h]
theorem own_fitZ {q : Int32} (h : nar .boolean q = q) : fits .boolean (.int q) = true := by rw [← h]; exact fits_nar_bool q
theorem own_nn {v : Value} (h : v.isRef = true) (h' : ¬ v = .null) : ∃ a, v = .ref a := (ref_cases h).resolve_left h'
theorem own_cat1 {v : Value} (h : v.isRef = true) : v.category = 1 := by rcases ref_cases h with rfl | ⟨a, rfl⟩ <;> rfl
theorem own_iteR {c : Prop} [Decidable c] {v w : Value} (hv : v.isRef = true) (hw : w.isRef = true) : (if c then v else w).isRef = true := by by_cases h : c <;> simp [h, hv, hw]
theorem own_fits {v : Value} {C : String} (h : v.isRef = true) : fits (.object C) v = true := by rcases ref_cases h with rfl | ⟨a, rfl⟩ <;> rfl
theorem own_narrow {v : Value} {C : String} (h : v.isRef = true) : narrow (.object C) v = v := by rcases ref_cases h with rfl | ⟨a, rfl⟩ <;> rfl
end Own
theorem own_ch255 (x : Int32) : ¬ nar .char ((x &&& (255 : Int32)).toUInt32.toUInt16.toUInt32.toInt32) < 0 ∧ ¬ (255 : Int32) < nar .char ((x &&& (255 : Int32)).toUInt32.toUInt16.toUInt32.toInt32) := by
  have t : ∀ k : Fin 256, ¬ nar .char ((Int32.ofNat k.val).toUInt32.toUInt16.toUInt32.toInt32) < 0 ∧ ¬ (255 : Int32) < nar .char ((Int32.ofNat k.val).toUInt32.toUInt16.toUInt32.toInt32) := by decide +kernel
  have h : (x &&& 255).toBitVec.toNat < 256 := by
    simp only [Int32.toBitVec_and, BitVec.toNat_and]
    exact Nat.lt_succ_of_le Nat.and_le_right
  have e : (x &&& 255) = Int32.ofNat (x &&& 255).toBitVec.toNat := by
    apply Int32.toBitVec_inj.mp
    show _ = BitVec.ofNat 32 _
    rw [BitVec.ofNat_toNat]; simp
  rw [e]
  exact t ⟨_, h⟩
theorem own_days (x : Int32) : ¬ ((1 : Int32) + (x &&& (2147483647 : Int32)) % (146000 : Int32) < (1 : Int32)) ∧ ¬ ((146000 : Int32) < (1 : Int32) + (x &&& (2147483647 : Int32)) % (146000 : Int32)) := by
  have h := (c_and x 2147483647 (by decide)).1
  have g := ((c_iremV (x &&& 2147483647) 146000).1 h (by decide))
  have e : (146000 : Int32).toInt = 146000 := by decide
  rw [e] at g
  generalize (x &&& 2147483647) % 146000 = y at *
  have a := c_iadd 1 y
  have r := rng32 (1 + y)
  have e1 : (1 : Int32).toInt = 1 := by decide
  simp only [Int32.lt_iff_toInt_lt, e, e1] at *
  omega
def own_EL : List (String × Nat) := [("java/lang/String", 7)]
theorem own_EW {Z : State} {a0 : Array Value} (hw : ∀ d ∈ tables_1, d.before a0 Z = true) : EW Z a0 own_EL := (EW.cons (hw _ (List.mem_of_getElem? (i := 103) rfl)) (by decide) EW.nil)
theorem own_fld_fun {Z : State} {h : Heap} {a : Addr} {C n d : String} {v w : Value} (F : Fld Z h a C n d v) (G : Fld Z h a C n d w) : v = w := by
  by_cases q : v = w
  · exact q
  · exact absurd rfl (Fld.ne F G q)
theorem own_safe {Z : State} {EL : List (String × Nat)} {vm : Vm} {h : Heap} {x : Addr} {a0 : Array Value} (hal : Z.vm.Alike vm) (E : Exa Z h x "java/lang/String") (F : Fld Z h x "java/lang/String" "value" "[B" .null) (wi : (Jvm.Cond.instantiable "java/lang/String" 4).before a0 Z = true) : Safe Z EL vm h x := fun B => by
  obtain ⟨p, -, u, a, -, q, -, S, hq⟩ := B
  have ha := S.ha
  have hd := S.hd
  obtain ⟨cS, ⟨⟨s1, s2, s3, ⟨c1, k1, i1, f1, f1'⟩, s5, s6, s7, s8, s9, s10, s11, s12, s13, s14, s15, s16⟩, hfS, hcS⟩, -⟩ := S
  rcases hq with rfl | rfl
  · obtain ⟨cell, cf, k, i, f, h1, h2, -, -, -, -, h7⟩ := F
    obtain ⟨k3, e3, -⟩ := State.fieldFound?_setVm (s := Z) hal h2
    have e4 := (show (Z.setVm vm).fieldFound? _ _ _ = _ from f1).symm.trans e3
    simp only [Option.some.injEq, Prod.mk.injEq] at e4
    cases h1.symm.trans ha
    rw [← e4.2.2.2] at h7
    rw [h7] at s8
    cases s8
  · obtain ⟨cell, k, e1, e2, e3, -, -⟩ := E
    cases e1.symm.trans hd
    obtain ⟨c2, k2, i1, i2, i3, -⟩ := Cond.instantiable_spec wi
    cases e2.symm.trans i1
    obtain ⟨-, kk, hk, comp, hkind⟩ := s11
    obtain ⟨k', hk', ek⟩ := hal.2.2 _ _ i2
    cases (show vm.classes[_]? = some kk from hk).symm.trans hk'
    rw [ek, i3] at hkind; cases hkind
theorem pn_2 : plainName "java/lang/String" = true := by first | (simp [plainName, overriddenIn]; done) | decide +kernel
theorem d2_0 : decode jdk_42_method_149_code 0 = .ok (.aload_n 0, 1) := by decide +kernel
theorem d2_1 : decode jdk_42_method_149_code 1 = .ok (.invokespecial 1, 3) := by decide +kernel
theorem d2_4 : decode jdk_42_method_149_code 4 = .ok (.iload_n 3, 1) := by decide +kernel
theorem d2_5 : decode jdk_42_method_149_code 5 = .ok (.ifCond .ne 22, 3) := by decide +kernel
theorem d2_8 : decode jdk_42_method_149_code 8 = .ok (.aload_n 0, 1) := by decide +kernel
theorem d2_9 : decode jdk_42_method_149_code 9 = .ok (.ldc 7, 2) := by decide +kernel
theorem d2_11 : decode jdk_42_method_149_code 11 = .ok (.getfield 9, 3) := by decide +kernel
theorem d2_14 : decode jdk_42_method_149_code 14 = .ok (.putfield 9, 3) := by decide +kernel
theorem d2_17 : decode jdk_42_method_149_code 17 = .ok (.aload_n 0, 1) := by decide +kernel
theorem d2_18 : decode jdk_42_method_149_code 18 = .ok (.ldc 7, 2) := by decide +kernel
theorem d2_20 : decode jdk_42_method_149_code 20 = .ok (.getfield 15, 3) := by decide +kernel
theorem d2_23 : decode jdk_42_method_149_code 23 = .ok (.putfield 15, 3) := by decide +kernel
theorem d2_26 : decode jdk_42_method_149_code 26 = .ok (.return_, 1) := by decide +kernel
theorem ef_rmE4 (m : MethodId) (a1 : Addr) (a2 : Addr) : entryFrame m #[(.ref a1), (.ref a2), (.int (0 : Int32)), (.int (0 : Int32)), .null] 6 = mkF m 0 #[.val (.ref a1), .val (.ref a2), .val (.int (0 : Int32)), .val (.int (0 : Int32)), .val .null, .unset] [] := by first | (simp [entryFrame, mkF, argsToLocals, Value.category]; done) | rfl
def Q_rmE4 (Z : State) (a1 : Addr) (a2 : Addr) (h0 : Heap) (n0 : Nat) (v : Option Value) (h : Heap) (L : List Loc) : Prop := ∃ tb : Addr, ∃ kb : ClassId, (v = none) ∧ (Fr n0 L) ∧ (Keep h0 h [a1]) ∧ (Exa Z h a1 "java/lang/String") ∧ (Fld Z h a1 "java/lang/String" "value" "[B" (.ref tb)) ∧ (Fld Z h a1 "java/lang/String" "coder" "B" (.int (0 : Int32))) ∧ (Arv Z h tb kb .byte (0 : Int32) [] (.int (0 : Int32)))
set_option maxRecDepth 65536 in
set_option maxHeartbeats 40000000 in
theorem rmE4 (l : Launch) (Z : State) (a0 : Array Value) (hw : ∀ d ∈ tables_1, d.before a0 Z = true) (ws : List Jvm.Cond) (a1 : Addr) (a2 : Addr) (h0 : Heap) (n0 : Nat) (Z0 : n0 ≤ h0.size) (g_a1 : n0 ≤ a1) (P1 : Exa Z h0 a1 "java/lang/String") (P2 : Fld Z h0 a1 "java/lang/String" "value" "[B" .null) (P3 : Fld Z h0 a1 "java/lang/String" "coder" "B" (.int (0 : Int32))) :
    MetFree l (⟨"java/lang/String", "<init>", "([CIILjava/lang/Void;)V"⟩ : MethodName) (head1 (Jvm.Cond.code (⟨"java/lang/String", "<init>", "([CIILjava/lang/Void;)V"⟩ : MethodName) jdk_42_method_149_code 6 none :: ws) ({ frames := 1, cells := 4, slots := 8, locals := 12 } : Room)) (fun a U => a = #[(.ref a1), (.ref a2), (.int (0 : Int32)), (.int (0 : Int32)), .null] ∧ Z.Warmed39 U.vm ∧ U.heap = h0 ∧ CHv Z own_EL U.vm h0) (fun _ _ _ _ _ => True) (fun _ U o U' => ∃ v L, o = .returned v ∧ Q_rmE4 Z a1 a2 h0 n0 v U'.heap L ∧ CHr Z own_EL U.vm U.heap U'.vm U'.heap ∧ ReturnedEndW U o U' L ({ frames := 1, cells := 4, slots := 8, locals := 12 } : Room).cells ({ frames := 1, cells := 4, slots := 8, locals := 12 } : Room).slots) := by
  refine MetFree.of_bodySF (plainFor_of_name pn_2) hisR ?_
  intro p e s m args below meth c s₁ Bd hml0 hP hK
  obtain ⟨rfl, hZ, hh, CH0⟩ := hP
  have hx := Bd.exec
  have hby := Bd.bytes
  have hml : c.maxLocals = 6 := hml0
  have hown : s.vm.findClass "java/lang/String" = some m.cls := findClass_of_methodNamed Bd.named
  have hnm := (name_of_methodNamed Bd.named Bd.method).1
  have hlk := Bd.notSynchronized
  have X0 : Stand p l e ({ frames := 1, cells := 4, slots := 8, locals := 12 } : Room) (s.setVm s.vm) m #[(.ref a1), (.ref a2), (.int (0 : Int32)), (.int (0 : Int32)), .null] below meth c s₁ [] 0 0 := Stand.of_body Bd
  have e0 : s₁.heap = h0 := by rw [← hh, Bd.state]; rfl
  have N0 := Fr.nil n0
  refine Wp.goal (Post := (fun o U' => ∃ v L, o = .returned v ∧ Q_rmE4 Z a1 a2 h0 n0 v U'.heap L ∧ CHr Z own_EL s.vm s.heap U'.vm U'.heap ∧ ReturnedEndW s o U' L ({ frames := 1, cells := 4, slots := 8, locals := 12 } : Room).cells ({ frames := 1, cells := 4, slots := 8, locals := 12 } : Room).slots)) (Wp.st (S' := s₁.setTop (mkF m 0 #[.val (.ref a1), .val (.ref a2), .val (.int (0 : Int32)), .val (.int (0 : Int32)), .val .null, .unset] [])) (fun tt_ kk_ => castTop (ef_rmE4 m a1 a2 ) kk_) ?_)
  have hS0 : s.Since s.vm h0.size := (State.WarmedH.refl s).since _
  have wS : ∀ d ∈ Bundle.stringAtoms, d.before a0 Z = true := fun d hd => hw d ((by decide +kernel : ∀ d ∈ Bundle.stringAtoms, d ∈ tables_1) d hd)
  have hEL := own_EW hw
  have CC0 := CHr.refl CH0
  have Sf1 : Safe Z own_EL s.vm h0 a1 := own_safe hZ.alike P1 P2 (hw _ (List.mem_of_getElem? (i := 1) rfl))
  refine Wp.st (S' := s₁.setTop (mkF m 1 #[.val (.ref a1), .val (.ref a2), .val (.int (0 : Int32)), .val (.int (0 : Int32)), .val .null, .unset] [(.ref a1)])) (fun tt_ kk_ => XS.aloadN X0.here hx rfl (hb hby d2_0) rfl rfl kk_) ?_
  obtain ⟨T2, X2, e2, st2⟩ := initO X0 hx hZ hown (hw _ (List.mem_of_getElem? (i := 11) rfl)) (hw _ (List.mem_of_getElem? (i := 12) rfl)) (hw _ (List.mem_of_getElem? (i := 13) rfl)) e0 (g := (mkF m 1 #[.val (.ref a1), .val (.ref a2), .val (.int (0 : Int32)), .val (.int (0 : Int32)), .val .null, .unset] [(.ref a1)])) rfl (by rw [hml]; rfl) rfl (hb hby d2_1) (by decide) (W := 0) (by show 2 * 0 + _ ≤ _; exact Nat.le_of_eq rfl) (by decide)
  refine Wp.st (S' := T2.setTop (mkF m 4 #[.val (.ref a1), .val (.ref a2), .val (.int (0 : Int32)), .val (.int (0 : Int32)), .val .null, .unset] [])) st2 ?_
  refine Wp.st (S' := T2.setTop (mkF m 5 #[.val (.ref a1), .val (.ref a2), .val (.int (0 : Int32)), .val (.int (0 : Int32)), .val .null, .unset] [(.int (0 : Int32))])) (fun tt_ kk_ => XS.iloadN X2.here hx rfl (hb hby d2_4) rfl  kk_) ?_
  refine Wp.st (S' := T2.setTop (mkF m 8 #[.val (.ref a1), .val (.ref a2), .val (.int (0 : Int32)), .val (.int (0 : Int32)), .val .null, .unset] [])) (fun tt_ kk_ => XS.ifNo X2.here hx rfl (hb hby d2_5) rfl ((if0 _ _).trans (teq ((by decide) : (0 : Int32) = (0 : Int32))).2) kk_) ?_
  refine Wp.st (S' := T2.setTop (mkF m 9 #[.val (.ref a1), .val (.ref a2), .val (.int (0 : Int32)), .val (.int (0 : Int32)), .val .null, .unset] [(.ref a1)])) (fun tt_ kk_ => XS.aloadN X2.here hx rfl (hb hby d2_8) rfl rfl kk_) ?_
  obtain ⟨a3, T3, h3, k3, b3, kb3, X3, e3, E3, hS3, hk3, hZ3, how3, Ex3, Co3, Va3, Av3, la3, lb3, cr3, li3, sn3, st3⟩ := ldcCH X2 hx hZ hown (hw _ (List.mem_of_getElem? (i := 103) rfl)) wS e2 hS0 (Nat.le_refl _) hEL (by decide) CC0.1 (vs := []) (z := (0 : Int32)) ⟨by decide, by decide⟩ (by decide) rfl (g := (mkF m 9 #[.val (.ref a1), .val (.ref a2), .val (.int (0 : Int32)), .val (.int (0 : Int32)), .val .null, .unset] [(.ref a1)])) rfl (hb hby d2_9) (n := 0) (by decide +kernel) (by decide) (by decide) (by decide)
  have z4 := E3.1
  have Sf5 := cr3.safe P1.lt Sf1
  have CC6 := CC0.trans cr3
  have ne7 := sn3 _ Sf5
  refine Wp.st (S' := T3.setTop (mkF m 11 #[.val (.ref a1), .val (.ref a2), .val (.int (0 : Int32)), .val (.int (0 : Int32)), .val .null, .unset] [(.ref a3), (.ref a1)])) st3 ?_
  obtain ⟨T8, X8, e8, st8⟩ := getF X3 hx hZ3 how3 (host := "") (Or.inl (hw _ (List.mem_of_getElem? (i := 28) rfl))) Via.refl e3 Va3 (g := (mkF m 11 #[.val (.ref a1), .val (.ref a2), .val (.int (0 : Int32)), .val (.int (0 : Int32)), .val .null, .unset] [(.ref a3), (.ref a1)])) rfl rfl (hb hby d2_11)
  refine Wp.st (S' := T8.setTop (mkF m 14 #[.val (.ref a1), .val (.ref a2), .val (.int (0 : Int32)), .val (.int (0 : Int32)), .val .null, .unset] [(.ref b3), (.ref a1)])) st8 ?_
  have F10 := P2.ext E3
  have F11 := P1.ext E3
  obtain ⟨T9, h9, X9, e9, W9, st9⟩ := putF X8 hx hZ3 how3 (host := "") (Or.inl (hw _ (List.mem_of_getElem? (i := 28) rfl))) Via.refl e8 F10 F11 (Or.inr ⟨(hw _ (List.mem_of_getElem? (i := 29) rfl)), rfl, hnm⟩) (hw _ (List.mem_of_getElem? (i := 1) rfl)) (ty := (.array .byte)) (by decide) rfl rfl (g := (mkF m 14 #[.val (.ref a1), .val (.ref a2), .val (.int (0 : Int32)), .val (.int (0 : Int32)), .val .null, .unset] [(.ref b3), (.ref a1)])) rfl rfl (hb hby d2_14)
  have z12 := Nat.le_of_eq W9.size.symm
  have Sf13 := Safe.wr W9 Sf5 CC6.1 Sf5
  have CC14 := CC6.trans (CHr.wr W9 Sf5 CC6.1)
  have Fw9 : Fld Z h9 a1 "java/lang/String" "value" "[B" (.ref b3) := F10.same W9
  have N9 := Fr.snoc X9 N0 g_a1
  refine Wp.st (S' := T9.setTop (mkF m 17 #[.val (.ref a1), .val (.ref a2), .val (.int (0 : Int32)), .val (.int (0 : Int32)), .val .null, .unset] [])) st9 ?_
  refine Wp.st (S' := T9.setTop (mkF m 18 #[.val (.ref a1), .val (.ref a2), .val (.int (0 : Int32)), .val (.int (0 : Int32)), .val .null, .unset] [(.ref a1)])) (fun tt_ kk_ => XS.aloadN X9.here hx rfl (hb hby d2_17) rfl rfl kk_) ?_
  obtain ⟨a15, T15, h15, k15, b15, kb15, X15, e15, E15, hS15, hk15, hZ15, how15, Ex15, Co15, Va15, Av15, la15, lb15, cr15, li15, sn15, st15⟩ := ldcCH X9 hx hZ3 how3 (hw _ (List.mem_of_getElem? (i := 103) rfl)) wS e9 hS3 (Nat.le_trans hk3 z12) hEL (by decide) CC14.1 (vs := []) (z := (0 : Int32)) ⟨by decide, by decide⟩ (by decide) rfl (g := (mkF m 18 #[.val (.ref a1), .val (.ref a2), .val (.int (0 : Int32)), .val (.int (0 : Int32)), .val .null, .unset] [(.ref a1)])) rfl (hb hby d2_18) (n := 0) (by decide +kernel) (by decide) (by decide) (by decide)
  have z16 := E15.1
  have Sf17 := cr15.safe (Nat.lt_of_lt_of_le P1.lt (Nat.le_trans z4 z12)) Sf13
  have CC18 := CC14.trans cr15
  have ne19 := sn15 _ Sf17
  refine Wp.st (S' := T15.setTop (mkF m 20 #[.val (.ref a1), .val (.ref a2), .val (.int (0 : Int32)), .val (.int (0 : Int32)), .val .null, .unset] [(.ref a15), (.ref a1)])) st15 ?_
  obtain ⟨T20, X20, e20, st20⟩ := getF X15 hx hZ15 how15 (host := "") (Or.inl (hw _ (List.mem_of_getElem? (i := 26) rfl))) Via.refl e15 Co15 (g := (mkF m 20 #[.val (.ref a1), .val (.ref a2), .val (.int (0 : Int32)), .val (.int (0 : Int32)), .val .null, .unset] [(.ref a15), (.ref a1)])) rfl rfl (hb hby d2_20)
  refine Wp.st (S' := T20.setTop (mkF m 23 #[.val (.ref a1), .val (.ref a2), .val (.int (0 : Int32)), .val (.int (0 : Int32)), .val .null, .unset] [(.int (0 : Int32)), (.ref a1)])) st20 ?_
  have F22 := P3.ext E3
  have F23 := F22.other W9 (Or.inr (slot_ne (Or.inr (hw _ (List.mem_of_getElem? (i := 27) rfl))) (Or.inr (hw _ (List.mem_of_getElem? (i := 29) rfl))) (by decide) (t := .byte) (t' := (.array .byte)) (by decide) (by decide)))
  have F24 := F23.ext E15
  have F25 := F11.wr W9
  have F26 := F25.ext E15
  obtain ⟨T21, h21, X21, e21, W21, st21⟩ := putFN X20 hx hZ15 how15 (hw _ (List.mem_of_getElem? (i := 26) rfl)) Via.refl e20 F24 F26 (Or.inr ⟨(hw _ (List.mem_of_getElem? (i := 27) rfl)), rfl, hnm⟩) (hw _ (List.mem_of_getElem? (i := 1) rfl)) (ty := .byte) (v' := (.int (0 : Int32))) (by decide) rfl rfl (g := (mkF m 23 #[.val (.ref a1), .val (.ref a2), .val (.int (0 : Int32)), .val (.int (0 : Int32)), .val .null, .unset] [(.int (0 : Int32)), (.ref a1)])) rfl rfl (hb hby d2_23)
  have z27 := Nat.le_of_eq W21.size.symm
  have Sf28 := Safe.wr W21 Sf17 CC18.1 Sf17
  have CC29 := CC18.trans (CHr.wr W21 Sf17 CC18.1)
  have Fw21 : Fld Z h21 a1 "java/lang/String" "coder" "B" (.int (0 : Int32)) := F24.same W21
  have N21 := Fr.snoc X21 N9 g_a1
  refine Wp.st (S' := T21.setTop (mkF m 26 #[.val (.ref a1), .val (.ref a2), .val (.int (0 : Int32)), .val (.int (0 : Int32)), .val .null, .unset] [])) st21 ?_
  have K30 := Keep.refl h0 [a1]
  have K31 := K30.ext E3
  have K32 := K31.wr W9 (Or.inl (List.mem_of_getElem? (i := 0) rfl))
  have K33 := K32.ext E15
  have K34 := K33.wr W21 (Or.inl (List.mem_of_getElem? (i := 0) rfl))
  have F35 := F26.wr W21
  have F36 := Fw9.ext E15
  have F37 := F36.other W21 (Or.inr (slot_ne (Or.inr (hw _ (List.mem_of_getElem? (i := 29) rfl))) (Or.inr (hw _ (List.mem_of_getElem? (i := 27) rfl))) (by decide) (t := (.array .byte)) (t' := .byte) (by decide) (by decide)))
  have F38 := Av3.other W9 (Ne.symm ne7.2)
  have F39 := F38.ext E15
  have F40 := F39.other W21 (Ne.symm ne7.2)
  exact Wp.retH X21 hlk hS15 (by rw [e21]; exact (Nat.le_trans hk15 z27)) (v := none) (fun _ => rfl) (fun fs hr => X21.returnOut hx Bd.returns (hb hby d2_26) hr) (by decide) (by decide) (show Q_rmE4 Z a1 a2 h0 n0 _ T21.heap _ by rw [e21]; exact ⟨b3, kb3, rfl, N21, K34, F35, F37, Fw21, F40⟩) (by rw [hh, e21]; exact CC29.trans (CHv.at X21 hZ15 hEL CC29.1))
theorem pn_1 : plainName "java/lang/String" = true := by first | (simp [plainName, overriddenIn]; done) | decide +kernel
theorem d1_0 : decode jdk_42_method_3_code 0 = .ok (.aload_n 0, 1) := by decide +kernel
theorem d1_1 : decode jdk_42_method_3_code 1 = .ok (.aload_n 1, 1) := by decide +kernel
theorem d1_2 : decode jdk_42_method_3_code 2 = .ok (.iconst 0, 1) := by decide +kernel
theorem d1_3 : decode jdk_42_method_3_code 3 = .ok (.aload_n 1, 1) := by decide +kernel
theorem d1_4 : decode jdk_42_method_3_code 4 = .ok (.arraylength, 1) := by decide +kernel
theorem d1_5 : decode jdk_42_method_3_code 5 = .ok (.aconst_null, 1) := by decide +kernel
theorem d1_6 : decode jdk_42_method_3_code 6 = .ok (.invokespecial 27, 3) := by decide +kernel
theorem pd_0 : parseMethodDescriptor "([CIILjava/lang/Void;)V" = some ⟨[(.array .char), .int, .int, (.object "java/lang/Void")], none⟩ := by decide +kernel
theorem d1_9 : decode jdk_42_method_3_code 9 = .ok (.return_, 1) := by decide +kernel
theorem ef_rmE1 (m : MethodId) (a1 : Addr) (a2 : Addr) : entryFrame m #[(.ref a1), (.ref a2)] 2 = mkF m 0 #[.val (.ref a1), .val (.ref a2)] [] := by first | (simp [entryFrame, mkF, argsToLocals, Value.category]; done) | rfl
def Q_rmE1 (Z : State) (a1 : Addr) (a2 : Addr) (kc : ClassId) (h0 : Heap) (n0 : Nat) (v : Option Value) (h : Heap) (L : List Loc) : Prop := ∃ tb : Addr, ∃ kb : ClassId, (v = none) ∧ (Fr n0 L) ∧ (Keep h0 h [a1]) ∧ (Exa Z h a1 "java/lang/String") ∧ (Fld Z h a1 "java/lang/String" "value" "[B" (.ref tb)) ∧ (Fld Z h a1 "java/lang/String" "coder" "B" (.int (0 : Int32))) ∧ (Arv Z h tb kb .byte (0 : Int32) [] (.int (0 : Int32)))
set_option maxRecDepth 65536 in
set_option maxHeartbeats 40000000 in
theorem rmE1 (l : Launch) (Z : State) (a0 : Array Value) (hw : ∀ d ∈ tables_1, d.before a0 Z = true) (ws : List Jvm.Cond) (a1 : Addr) (a2 : Addr) (kc : ClassId) (h0 : Heap) (n0 : Nat) (Z0 : n0 ≤ h0.size) (g_a1 : n0 ≤ a1) (P1 : Exa Z h0 a1 "java/lang/String") (P2 : Fld Z h0 a1 "java/lang/String" "value" "[B" .null) (P3 : Fld Z h0 a1 "java/lang/String" "coder" "B" (.int (0 : Int32))) (PAr : Arv Z h0 a2 kc .char (0 : Int32) [] (.int (0 : Int32))) :
    MetFree l (⟨"java/lang/String", "<init>", "([C)V"⟩ : MethodName) (head1 (Jvm.Cond.code (⟨"java/lang/String", "<init>", "([C)V"⟩ : MethodName) jdk_42_method_3_code 2 none :: ws) ({ frames := 2, cells := 4, slots := 8, locals := 29 } : Room)) (fun a U => a = #[(.ref a1), (.ref a2)] ∧ Z.Warmed39 U.vm ∧ U.heap = h0 ∧ CHv Z own_EL U.vm h0) (fun _ _ _ _ _ => True) (fun _ U o U' => ∃ v L, o = .returned v ∧ Q_rmE1 Z a1 a2 kc h0 n0 v U'.heap L ∧ CHr Z own_EL U.vm U.heap U'.vm U'.heap ∧ ReturnedEndW U o U' L ({ frames := 2, cells := 4, slots := 8, locals := 29 } : Room).cells ({ frames := 2, cells := 4, slots := 8, locals := 29 } : Room).slots) := by
  refine MetFree.of_bodySF (plainFor_of_name pn_1) hisR ?_
  intro p e s m args below meth c s₁ Bd hml0 hP hK
  obtain ⟨rfl, hZ, hh, CH0⟩ := hP
  have hx := Bd.exec
  have hby := Bd.bytes
  have hml : c.maxLocals = 2 := hml0
  have hown : s.vm.findClass "java/lang/String" = some m.cls := findClass_of_methodNamed Bd.named
  have hnm := (name_of_methodNamed Bd.named Bd.method).1
  have hlk := Bd.notSynchronized
  have X0 : Stand p l e ({ frames := 2, cells := 4, slots := 8, locals := 29 } : Room) (s.setVm s.vm) m #[(.ref a1), (.ref a2)] below meth c s₁ [] 0 0 := Stand.of_body Bd
  have e0 : s₁.heap = h0 := by rw [← hh, Bd.state]; rfl
  have N0 := Fr.nil n0
  refine Wp.goal (Post := (fun o U' => ∃ v L, o = .returned v ∧ Q_rmE1 Z a1 a2 kc h0 n0 v U'.heap L ∧ CHr Z own_EL s.vm s.heap U'.vm U'.heap ∧ ReturnedEndW s o U' L ({ frames := 2, cells := 4, slots := 8, locals := 29 } : Room).cells ({ frames := 2, cells := 4, slots := 8, locals := 29 } : Room).slots)) (Wp.st (S' := s₁.setTop (mkF m 0 #[.val (.ref a1), .val (.ref a2)] [])) (fun tt_ kk_ => castTop (ef_rmE1 m a1 a2 ) kk_) ?_)
  have hS0 : s.Since s.vm h0.size := (State.WarmedH.refl s).since _
  have wS : ∀ d ∈ Bundle.stringAtoms, d.before a0 Z = true := fun d hd => hw d ((by decide +kernel : ∀ d ∈ Bundle.stringAtoms, d ∈ tables_1) d hd)
  have hEL := own_EW hw
  have CC0 := CHr.refl CH0
  have Sf1 : Safe Z own_EL s.vm h0 a1 := own_safe hZ.alike P1 P2 (hw _ (List.mem_of_getElem? (i := 1) rfl))
  refine Wp.st (S' := s₁.setTop (mkF m 1 #[.val (.ref a1), .val (.ref a2)] [(.ref a1)])) (fun tt_ kk_ => XS.aloadN X0.here hx rfl (hb hby d1_0) rfl rfl kk_) ?_
  refine Wp.st (S' := s₁.setTop (mkF m 2 #[.val (.ref a1), .val (.ref a2)] [(.ref a2), (.ref a1)])) (fun tt_ kk_ => XS.aloadN X0.here hx rfl (hb hby d1_1) rfl rfl kk_) ?_
  refine Wp.st (S' := s₁.setTop (mkF m 3 #[.val (.ref a1), .val (.ref a2)] [(.int (0 : Int32)), (.ref a2), (.ref a1)])) (fun tt_ kk_ => XS.iconst X0.here hx rfl (hb hby d1_2) kk_) ?_
  refine Wp.st (S' := s₁.setTop (mkF m 4 #[.val (.ref a1), .val (.ref a2)] [(.ref a2), (.int (0 : Int32)), (.ref a2), (.ref a1)])) (fun tt_ kk_ => XS.aloadN X0.here hx rfl (hb hby d1_3) rfl rfl kk_) ?_
  obtain ⟨cl2, Ar2, q2, S2, N2, H2, G2⟩ := id PAr
  refine Wp.st (S' := s₁.setTop (mkF m 5 #[.val (.ref a1), .val (.ref a2)] [(.int (0 : Int32)), (.int (0 : Int32)), (.ref a2), (.ref a1)])) (fun tt_ kk_ => X0.arraylength hx (by rw [e0]; exact Ar2.1) (State.isArrayOf_alike hZ.alike Ar2.2.1) (g := (mkF m 4 #[.val (.ref a1), .val (.ref a2)] [(.ref a2), (.int (0 : Int32)), (.ref a2), (.ref a1)])) rfl rfl (hb hby d1_4) tt_ (by rw [len_of S2 N2]; exact kk_)) ?_
  refine Wp.st (S' := s₁.setTop (mkF m 6 #[.val (.ref a1), .val (.ref a2)] [.null, (.int (0 : Int32)), (.int (0 : Int32)), (.ref a2), (.ref a1)])) (fun tt_ kk_ => XS.aconstNull X0.here hx rfl (hb hby d1_5) kk_) ?_
  obtain ⟨vv3, _, ⟨T3, L3, k3, n3⟩, -, Xq3, sn3, gr3, ⟨Lc3, hQ3, l3, y3, z3, cr3⟩, st3⟩ := X0.specialBackS hx (y := (⟨"java/lang/String", "<init>", "([CIILjava/lang/Void;)V"⟩ : MethodName)) rfl hown (mvT hZ (hw _ (List.mem_of_getElem? (i := 7) rfl))) (mvT hZ (hw _ (List.mem_of_getElem? (i := 8) rfl))) (mvT hZ (hw _ (List.mem_of_getElem? (i := 10) rfl))) (by decide) (backOfSH (W := 0) (rmE4 l Z a0 hw [] a1 a2 h0 n0 Z0 g_a1 P1 P2 P3) hZ (hw _ (List.mem_of_getElem? (i := 10) rfl)) (hw _ (List.mem_of_getElem? (i := 2) rfl)) (by decide) (by decide) hEL CC0.1) (g := (mkF m 6 #[.val (.ref a1), .val (.ref a2)] [.null, (.int (0 : Int32)), (.int (0 : Int32)), (.ref a2), (.ref a1)])) rfl (by rw [hml]; rfl) (Steps.refl _) (a := a1) (argsL := [(.ref a2), (.int (0 : Int32)), (.int (0 : Int32)), .null]) (rest := []) (lenOf pd_0 rfl) rfl (by show 2 * 0 + _ ≤ _; exact Nat.le_of_eq rfl) (hb hby d1_6) (fun _ _ => ⟨rfl, e0, (by decide : 0 + 4 ≤ _), (by decide : 0 + 8 ≤ _)⟩)
  dsimp only [Pt.U, Pt.locs, Pt.cells, Pt.slots] at Xq3 sn3 gr3 l3 y3 z3 st3 hQ3 cr3
  subst l3 y3 z3
  obtain ⟨X3, hS3, hZ3, how3⟩ := rebS hS0 (by rw [e0]; exact (Nat.le_refl _)) Xq3 sn3 gr3 hZ hown
  obtain ⟨b4, c5, rfl, Nq3, K3, P3_0, P3_1, P3_2, P3_3⟩ := hQ3
  have N3 := Fr.app N0 Nq3
  have z6 := K3.1
  have Sf7 := cr3.safe P1.lt Sf1
  have CC8 := CC0.trans cr3
  have e3 : T3.heap = T3.heap := rfl
  refine Wp.tr (S' := T3.setTop (mkF m 9 #[.val (.ref a1), .val (.ref a2)] [])) st3 ?_
  have K9 := Keep.refl h0 [a1]
  have K10 := K9.trans K3 (allS (Or.inl (List.mem_of_getElem? (i := 0) rfl)) all0)
  exact Wp.retH X3 hlk hS3 (by rw [e3]; exact (Nat.le_refl _)) (v := none) (fun _ => rfl) (fun fs hr => X3.returnOut hx Bd.returns (hb hby d1_9) hr) (by decide) (by decide) (show Q_rmE1 Z a1 a2 kc h0 n0 _ T3.heap _ by rw [e3]; exact ⟨b4, c5, rfl, N3, K10, P3_0, P3_1, P3_2, P3_3⟩) (by rw [hh, e3]; exact CC8.trans (CHv.at X3 hZ3 hEL CC8.1))
theorem pn_8 : plainName "java/util/Objects" = true := by first | (simp [plainName, overriddenIn]; done) | decide +kernel
theorem d8_0 : decode jdk_31_method_10_code 0 = .ok (.aload_n 0, 1) := by decide +kernel
theorem d8_1 : decode jdk_31_method_10_code 1 = .ok (.ifnonnull 11, 3) := by decide +kernel
theorem d8_12 : decode jdk_31_method_10_code 12 = .ok (.aload_n 0, 1) := by decide +kernel
theorem d8_13 : decode jdk_31_method_10_code 13 = .ok (.areturn, 1) := by decide +kernel
theorem ef_rm8 (m : MethodId) (a1 : Addr) : entryFrame m #[(.ref a1)] 1 = mkF m 0 #[.val (.ref a1)] [] := by first | (simp [entryFrame, mkF, argsToLocals, Value.category]; done) | rfl
def Q_rm8 (Z : State) (a1 : Addr) (h0 : Heap) (n0 : Nat) (v : Option Value) (h : Heap) (L : List Loc) : Prop := (v = some (.ref a1)) ∧ (Fr n0 L) ∧ (h = h0)
set_option maxRecDepth 65536 in
set_option maxHeartbeats 40000000 in
theorem rm8 (l : Launch) (Z : State) (a0 : Array Value) (hw : ∀ d ∈ tables_1, d.before a0 Z = true) (ws : List Jvm.Cond) (a1 : Addr) (h0 : Heap) (n0 : Nat) (Z0 : n0 ≤ h0.size)  :
    MetFree l (⟨"java/util/Objects", "requireNonNull", "(Ljava/lang/Object;)Ljava/lang/Object;"⟩ : MethodName) (head1 (Jvm.Cond.code (⟨"java/util/Objects", "requireNonNull", "(Ljava/lang/Object;)Ljava/lang/Object;"⟩ : MethodName) jdk_31_method_10_code 1 (some (.object "java/lang/Object")) :: ws) ({ frames := 0, cells := 0, slots := 0, locals := 0 } : Room)) (fun a U => a = #[(.ref a1)] ∧ Z.Warmed39 U.vm ∧ U.heap = h0) (fun _ _ _ _ _ => True) (fun _ U o U' => ∃ v L, o = .returned v ∧ Q_rm8 Z a1 h0 n0 v U'.heap L ∧ FrameEnd U o U' L ({ frames := 0, cells := 0, slots := 0, locals := 0 } : Room).cells ({ frames := 0, cells := 0, slots := 0, locals := 0 } : Room).slots) := by
  refine MetFree.of_bodySF (plainFor_of_name pn_8) hisR ?_
  intro p e s m args below meth c s₁ Bd hml0 hP hK
  obtain ⟨rfl, hZ, hh⟩ := hP
  have hx := Bd.exec
  have hby := Bd.bytes
  have hml : c.maxLocals = 1 := hml0
  have hown : s.vm.findClass "java/util/Objects" = some m.cls := findClass_of_methodNamed Bd.named
  have hnm := (name_of_methodNamed Bd.named Bd.method).1
  have hlk := Bd.notSynchronized
  have X0 : Stand p l e ({ frames := 0, cells := 0, slots := 0, locals := 0 } : Room) s m #[(.ref a1)] below meth c s₁ [] 0 0 := Stand.of_body Bd
  have e0 : s₁.heap = h0 := by rw [← hh, Bd.state]; rfl
  have N0 := Fr.nil n0
  refine Wp.goal (Post := (fun o U' => ∃ v L, o = .returned v ∧ Q_rm8 Z a1 h0 n0 v U'.heap L ∧ FrameEnd s o U' L ({ frames := 0, cells := 0, slots := 0, locals := 0 } : Room).cells ({ frames := 0, cells := 0, slots := 0, locals := 0 } : Room).slots)) (Wp.st (S' := s₁.setTop (mkF m 0 #[.val (.ref a1)] [])) (fun tt_ kk_ => castTop (ef_rm8 m a1 ) kk_) ?_)
  refine Wp.st (S' := s₁.setTop (mkF m 1 #[.val (.ref a1)] [(.ref a1)])) (fun tt_ kk_ => XS.aloadN X0.here hx rfl (hb hby d8_0) rfl rfl kk_) ?_
  refine Wp.st (S' := s₁.setTop (mkF m 12 #[.val (.ref a1)] [])) (fun tt_ kk_ => XS.ifnonnullYes X0.here hx rfl (pc0 := 1) (pc' := 12) rfl (hb hby d8_1) rfl (by decide) (by decide) kk_) ?_
  refine Wp.st (S' := s₁.setTop (mkF m 13 #[.val (.ref a1)] [(.ref a1)])) (fun tt_ kk_ => XS.aloadN X0.here hx rfl (hb hby d8_12) rfl rfl kk_) ?_
  exact Wp.ret X0 hlk (v := (some (.ref a1))) (fun h => by rw [Bd.returns] at h; cases h) (fun fs hr => retOut X0 hx Bd.returns rfl (Or.inr (Or.inr (Or.inr (Or.inr ⟨rfl, rfl, rfl⟩)))) (hb hby d8_13) hr) (by decide) (by decide) (show Q_rm8 Z a1 h0 n0 _ s₁.heap _ by rw [e0]; exact ⟨rfl, N0, rfl⟩)
theorem pn_7 : plainName "com/example/amberhold/amberhold/store/DefaultPolicy" = true := by first | (simp [plainName, overriddenIn]; done) | decide +kernel
theorem d7_0 : decode prog_38_method_1_code 0 = .ok (.aload_n 0, 1) := by decide +kernel
theorem d7_1 : decode prog_38_method_1_code 1 = .ok (.invokespecial 1, 3) := by decide +kernel
theorem d7_4 : decode prog_38_method_1_code 4 = .ok (.iload_n 1, 1) := by decide +kernel
theorem d7_5 : decode prog_38_method_1_code 5 = .ok (.iconst 1, 1) := by decide +kernel
theorem d7_6 : decode prog_38_method_1_code 6 = .ok (.if_icmp .lt 9, 3) := by decide +kernel
theorem d7_9 : decode prog_38_method_1_code 9 = .ok (.iload_n 1, 1) := by decide +kernel
theorem d7_10 : decode prog_38_method_1_code 10 = .ok (.ldc 9, 2) := by decide +kernel
theorem d7_12 : decode prog_38_method_1_code 12 = .ok (.if_icmp .le 13, 3) := by decide +kernel
theorem d7_25 : decode prog_38_method_1_code 25 = .ok (.aload_n 0, 1) := by decide +kernel
theorem d7_26 : decode prog_38_method_1_code 26 = .ok (.iload_n 1, 1) := by decide +kernel
theorem d7_27 : decode prog_38_method_1_code 27 = .ok (.putfield 17, 3) := by decide +kernel
theorem d7_30 : decode prog_38_method_1_code 30 = .ok (.aload_n 0, 1) := by decide +kernel
theorem d7_31 : decode prog_38_method_1_code 31 = .ok (.aload_n 2, 1) := by decide +kernel
theorem d7_32 : decode prog_38_method_1_code 32 = .ok (.invokestatic 21, 3) := by decide +kernel
theorem pd_1 : parseMethodDescriptor "(Ljava/lang/Object;)Ljava/lang/Object;" = some ⟨[(.object "java/lang/Object")], some (.object "java/lang/Object")⟩ := by decide +kernel
theorem d7_35 : decode prog_38_method_1_code 35 = .ok (.checkcast 27, 3) := by decide +kernel
theorem d7_38 : decode prog_38_method_1_code 38 = .ok (.putfield 29, 3) := by decide +kernel
theorem d7_41 : decode prog_38_method_1_code 41 = .ok (.return_, 1) := by decide +kernel
theorem ef_rm7 (m : MethodId) (a1 : Addr) (p2 : Int32) (a3 : Addr) : entryFrame m #[(.ref a1), (.int p2), (.ref a3)] 3 = mkF m 0 #[.val (.ref a1), .val (.int p2), .val (.ref a3)] [] := by first | (simp [entryFrame, mkF, argsToLocals, Value.category]; done) | rfl
def Q_rm7 (Z : State) (a1 : Addr) (p2 : Int32) (a3 : Addr) (h0 : Heap) (n0 : Nat) (v : Option Value) (h : Heap) (L : List Loc) : Prop := (v = none) ∧ (Fr n0 L) ∧ (Keep h0 h [a1]) ∧ (Exa Z h a1 "com/example/amberhold/amberhold/store/DefaultPolicy")
set_option maxRecDepth 65536 in
set_option maxHeartbeats 40000000 in
theorem rm7 (l : Launch) (Z : State) (a0 : Array Value) (hw : ∀ d ∈ tables_1, d.before a0 Z = true) (ws : List Jvm.Cond) (a1 : Addr) (p2 : Int32) (a3 : Addr) (h0 : Heap) (n0 : Nat) (Z0 : n0 ≤ h0.size) (O0 : Jvm.RoadKit.Old Z n0 h0) (g_a1 : n0 ≤ a1) (P2 : Exa Z h0 a1 "com/example/amberhold/amberhold/store/DefaultPolicy") (P3 : Fld Z h0 a1 "com/example/amberhold/amberhold/store/DefaultPolicy" "days" "I" (.int (0 : Int32))) (P4 : Fld Z h0 a1 "com/example/amberhold/amberhold/store/DefaultPolicy" "mode" "Lcom/example/amberhold/amberhold/store/RetentionPolicy$Mode;" .null) (EM : Exa Z Z.heap a3 "com/example/amberhold/amberhold/store/RetentionPolicy$Mode") (hd1 : ¬ (p2 < (1 : Int32))) (hd2 : ¬ ((146000 : Int32) < p2)) :
    MetFree l (⟨"com/example/amberhold/amberhold/store/DefaultPolicy", "<init>", "(ILcom/example/amberhold/amberhold/store/RetentionPolicy$Mode;)V"⟩ : MethodName) (head1 (Jvm.Cond.code (⟨"com/example/amberhold/amberhold/store/DefaultPolicy", "<init>", "(ILcom/example/amberhold/amberhold/store/RetentionPolicy$Mode;)V"⟩ : MethodName) prog_38_method_1_code 3 none :: ws) ({ frames := 1, cells := 0, slots := 0, locals := 13 } : Room)) (fun a U => a = #[(.ref a1), (.int p2), (.ref a3)] ∧ Z.Warmed39 U.vm ∧ U.heap = h0) (fun _ _ _ _ _ => True) (fun _ U o U' => ∃ v L, o = .returned v ∧ Q_rm7 Z a1 p2 a3 h0 n0 v U'.heap L ∧ FrameEnd U o U' L ({ frames := 1, cells := 0, slots := 0, locals := 13 } : Room).cells ({ frames := 1, cells := 0, slots := 0, locals := 13 } : Room).slots) := by
  refine MetFree.of_bodySF (plainFor_of_name pn_7) hisR ?_
  intro p e s m args below meth c s₁ Bd hml0 hP hK
  obtain ⟨rfl, hZ, hh⟩ := hP
  have hx := Bd.exec
  have hby := Bd.bytes
  have hml : c.maxLocals = 3 := hml0
  have hown : s.vm.findClass "com/example/amberhold/amberhold/store/DefaultPolicy" = some m.cls := findClass_of_methodNamed Bd.named
  have hnm := (name_of_methodNamed Bd.named Bd.method).1
  have hlk := Bd.notSynchronized
  have X0 : Stand p l e ({ frames := 1, cells := 0, slots := 0, locals := 13 } : Room) s m #[(.ref a1), (.int p2), (.ref a3)] below meth c s₁ [] 0 0 := Stand.of_body Bd
  have e0 : s₁.heap = h0 := by rw [← hh, Bd.state]; rfl
  have N0 := Fr.nil n0
  refine Wp.goal (Post := (fun o U' => ∃ v L, o = .returned v ∧ Q_rm7 Z a1 p2 a3 h0 n0 v U'.heap L ∧ FrameEnd s o U' L ({ frames := 1, cells := 0, slots := 0, locals := 13 } : Room).cells ({ frames := 1, cells := 0, slots := 0, locals := 13 } : Room).slots)) (Wp.st (S' := s₁.setTop (mkF m 0 #[.val (.ref a1), .val (.int p2), .val (.ref a3)] [])) (fun tt_ kk_ => castTop (ef_rm7 m a1 p2 a3 ) kk_) ?_)
  refine Wp.st (S' := s₁.setTop (mkF m 1 #[.val (.ref a1), .val (.int p2), .val (.ref a3)] [(.ref a1)])) (fun tt_ kk_ => XS.aloadN X0.here hx rfl (hb hby d7_0) rfl rfl kk_) ?_
  obtain ⟨T1, X1, e1, st1⟩ := initO X0 hx hZ hown (hw _ (List.mem_of_getElem? (i := 41) rfl)) (hw _ (List.mem_of_getElem? (i := 12) rfl)) (hw _ (List.mem_of_getElem? (i := 13) rfl)) e0 (g := (mkF m 1 #[.val (.ref a1), .val (.int p2), .val (.ref a3)] [(.ref a1)])) rfl (by rw [hml]; rfl) rfl (hb hby d7_1) (by decide) (W := 0) (by show 2 * 0 + _ ≤ _; exact Nat.le_of_eq rfl) (by decide)
  refine Wp.st (S' := T1.setTop (mkF m 4 #[.val (.ref a1), .val (.int p2), .val (.ref a3)] [])) st1 ?_
  refine Wp.st (S' := T1.setTop (mkF m 5 #[.val (.ref a1), .val (.int p2), .val (.ref a3)] [(.int p2)])) (fun tt_ kk_ => XS.iloadN X1.here hx rfl (hb hby d7_4) rfl  kk_) ?_
  refine Wp.st (S' := T1.setTop (mkF m 6 #[.val (.ref a1), .val (.int p2), .val (.ref a3)] [(.int (1 : Int32)), (.int p2)])) (fun tt_ kk_ => XS.iconst X1.here hx rfl (hb hby d7_5) kk_) ?_
  refine Wp.st (S' := T1.setTop (mkF m 9 #[.val (.ref a1), .val (.int p2), .val (.ref a3)] [])) (fun tt_ kk_ => XS.icmpNo X1.here hx rfl (hb hby d7_6) rfl (flt (hd1 : ¬ (p2 < (1 : Int32)))).1 kk_) ?_
  refine Wp.st (S' := T1.setTop (mkF m 10 #[.val (.ref a1), .val (.int p2), .val (.ref a3)] [(.int p2)])) (fun tt_ kk_ => XS.iloadN X1.here hx rfl (hb hby d7_9) rfl  kk_) ?_
  refine Wp.st (S' := T1.setTop (mkF m 12 #[.val (.ref a1), .val (.int p2), .val (.ref a3)] [(.int (146000 : Int32)), (.int p2)])) (fun tt_ kk_ => X1.ldcInt hx hown (mvT hZ (hw _ (List.mem_of_getElem? (i := 42) rfl))) (g := (mkF m 10 #[.val (.ref a1), .val (.int p2), .val (.ref a3)] [(.int p2)])) rfl (hb hby d7_10) tt_ kk_) ?_
  refine Wp.st (S' := T1.setTop (mkF m 25 #[.val (.ref a1), .val (.int p2), .val (.ref a3)] [])) (fun tt_ kk_ => XS.icmpYes X1.here hx rfl (pc0 := 12) (pc' := 25) rfl (hb hby d7_12) rfl (flt (hd2 : ¬ ((146000 : Int32) < p2))).2.2.2 (by decide) (by decide) kk_) ?_
  refine Wp.st (S' := T1.setTop (mkF m 26 #[.val (.ref a1), .val (.int p2), .val (.ref a3)] [(.ref a1)])) (fun tt_ kk_ => XS.aloadN X1.here hx rfl (hb hby d7_25) rfl rfl kk_) ?_
  refine Wp.st (S' := T1.setTop (mkF m 27 #[.val (.ref a1), .val (.int p2), .val (.ref a3)] [(.int p2), (.ref a1)])) (fun tt_ kk_ => XS.iloadN X1.here hx rfl (hb hby d7_26) rfl  kk_) ?_
  obtain ⟨T2, h2, X2, e2, W2, st2⟩ := putF X1 hx hZ hown (host := "") (Or.inl (hw _ (List.mem_of_getElem? (i := 43) rfl))) Via.refl e1 P3 P2 (Or.inr ⟨(hw _ (List.mem_of_getElem? (i := 44) rfl)), rfl, hnm⟩) (hw _ (List.mem_of_getElem? (i := 34) rfl)) (ty := .int) (by decide) rfl rfl (g := (mkF m 27 #[.val (.ref a1), .val (.int p2), .val (.ref a3)] [(.int p2), (.ref a1)])) rfl rfl (hb hby d7_27)
  have z3 := Nat.le_of_eq W2.size.symm
  have Fw2 : Fld Z h2 a1 "com/example/amberhold/amberhold/store/DefaultPolicy" "days" "I" (.int p2) := P3.same W2
  have N2 := Fr.snoc X2 N0 g_a1
  refine Wp.st (S' := T2.setTop (mkF m 30 #[.val (.ref a1), .val (.int p2), .val (.ref a3)] [])) st2 ?_
  refine Wp.st (S' := T2.setTop (mkF m 31 #[.val (.ref a1), .val (.int p2), .val (.ref a3)] [(.ref a1)])) (fun tt_ kk_ => XS.aloadN X2.here hx rfl (hb hby d7_30) rfl rfl kk_) ?_
  refine Wp.st (S' := T2.setTop (mkF m 32 #[.val (.ref a1), .val (.int p2), .val (.ref a3)] [(.ref a3), (.ref a1)])) (fun tt_ kk_ => XS.aloadN X2.here hx rfl (hb hby d7_31) rfl rfl kk_) ?_
  obtain ⟨vv4, _, ⟨T4, L4, k4, n4⟩, -, X4, ⟨Lc4, hQ4, l4, y4, z4⟩, st4⟩ := Jvm.LawKit.callS X2 hx (y := (⟨"java/util/Objects", "requireNonNull", "(Ljava/lang/Object;)Ljava/lang/Object;"⟩ : MethodName)) hown (mvT hZ (hw _ (List.mem_of_getElem? (i := 45) rfl))) (mvT hZ (hw _ (List.mem_of_getElem? (i := 46) rfl))) (mvT hZ (hw _ (List.mem_of_getElem? (i := 47) rfl))) (mvT hZ (hw _ (List.mem_of_getElem? (i := 48) rfl))) (by decide) (backOf (W := 1) (rm8 l Z a0 hw [] a3 h2 n0 (Nat.le_trans Z0 z3) ) hZ (hw _ (List.mem_of_getElem? (i := 48) rfl)) (hw _ (List.mem_of_getElem? (i := 47) rfl)) (by decide) (by decide)) (g := (mkF m 32 #[.val (.ref a1), .val (.int p2), .val (.ref a3)] [(.ref a3), (.ref a1)])) rfl (by rw [hml]; rfl) (argsL := [(.ref a3)]) (rest := [(.ref a1)]) (lenOf pd_1 rfl) rfl (by show 2 * 0 + _ ≤ _; exact Nat.le_of_eq rfl) (hb hby d7_32) (fun _ _ => ⟨rfl, e2, (by decide : 0 + 0 ≤ _), (by decide : 0 + 0 ≤ _)⟩)
  dsimp only [Pt.U, Pt.locs, Pt.cells, Pt.slots] at X4 l4 y4 z4 st4 hQ4
  subst l4 y4 z4
  obtain ⟨rfl, Nq4, e4⟩ := hQ4
  have N4 := Fr.app N2 Nq4
  refine Wp.st (S' := T4.setTop (mkF m 35 #[.val (.ref a1), .val (.int p2), .val (.ref a3)] [(.ref a3), (.ref a1)])) st4 ?_
  have O6 := O0.wr W2 g_a1
  obtain ⟨T5, X5, e5, st5⟩ := castY X4 hx hZ hown (hw _ (List.mem_of_getElem? (i := 49) rfl)) e4 (Ins.self (EM.ext O6.2)) (g := (mkF m 35 #[.val (.ref a1), .val (.int p2), .val (.ref a3)] [(.ref a3), (.ref a1)])) rfl rfl (hb hby d7_35)
  refine Wp.st (S' := T5.setTop (mkF m 38 #[.val (.ref a1), .val (.int p2), .val (.ref a3)] [(.ref a3), (.ref a1)])) st5 ?_
  have F8 := P4.other W2 (Or.inr (slot_ne (Or.inr (hw _ (List.mem_of_getElem? (i := 52) rfl))) (Or.inr (hw _ (List.mem_of_getElem? (i := 44) rfl))) (by decide) (t := (.object "com/example/amberhold/amberhold/store/RetentionPolicy$Mode")) (t' := .int) (by decide) (by decide)))
  have F9 := P2.wr W2
  obtain ⟨T7, h7, X7, e7, W7, st7⟩ := putF X5 hx hZ hown (host := "") (Or.inl (hw _ (List.mem_of_getElem? (i := 51) rfl))) Via.refl e5 F8 F9 (Or.inr ⟨(hw _ (List.mem_of_getElem? (i := 52) rfl)), rfl, hnm⟩) (hw _ (List.mem_of_getElem? (i := 34) rfl)) (ty := (.object "com/example/amberhold/amberhold/store/RetentionPolicy$Mode")) (by decide) rfl rfl (g := (mkF m 38 #[.val (.ref a1), .val (.int p2), .val (.ref a3)] [(.ref a3), (.ref a1)])) rfl rfl (hb hby d7_38)
  have z10 := Nat.le_of_eq W7.size.symm
  have Fw7 : Fld Z h7 a1 "com/example/amberhold/amberhold/store/DefaultPolicy" "mode" "Lcom/example/amberhold/amberhold/store/RetentionPolicy$Mode;" (.ref a3) := F8.same W7
  have N7 := Fr.snoc X7 N4 g_a1
  refine Wp.st (S' := T7.setTop (mkF m 41 #[.val (.ref a1), .val (.int p2), .val (.ref a3)] [])) st7 ?_
  have K11 := Keep.refl h0 [a1]
  have K12 := K11.wr W2 (Or.inl (List.mem_of_getElem? (i := 0) rfl))
  have K13 := K12.wr W7 (Or.inl (List.mem_of_getElem? (i := 0) rfl))
  have F14 := F9.wr W7
  exact Wp.ret X7 hlk (v := none) (fun _ => rfl) (fun fs hr => X7.returnOut hx Bd.returns (hb hby d7_41) hr) (by decide) (by decide) (show Q_rm7 Z a1 p2 a3 h0 n0 _ T7.heap _ by rw [e7]; exact ⟨rfl, N7, K13, F14⟩)
theorem pn_10 : plainName "com/example/amberhold/amberhold/store/SettingsRecord" = true := by first | (simp [plainName, overriddenIn]; done) | decide +kernel
theorem d10_0 : decode prog_50_method_1_code 0 = .ok (.aload_n 0, 1) := by decide +kernel
theorem d10_1 : decode prog_50_method_1_code 1 = .ok (.invokespecial 1, 3) := by decide +kernel
theorem d10_4 : decode prog_50_method_1_code 4 = .ok (.aload_n 0, 1) := by decide +kernel
theorem d10_5 : decode prog_50_method_1_code 5 = .ok (.aload_n 1, 1) := by decide +kernel
theorem d10_6 : decode prog_50_method_1_code 6 = .ok (.putfield 7, 3) := by decide +kernel
theorem d10_9 : decode prog_50_method_1_code 9 = .ok (.aload_n 0, 1) := by decide +kernel
theorem d10_10 : decode prog_50_method_1_code 10 = .ok (.iload_n 2, 1) := by decide +kernel
theorem d10_11 : decode prog_50_method_1_code 11 = .ok (.putfield 13, 3) := by decide +kernel
theorem d10_14 : decode prog_50_method_1_code 14 = .ok (.aload_n 0, 1) := by decide +kernel
theorem d10_15 : decode prog_50_method_1_code 15 = .ok (.aload_n 3, 1) := by decide +kernel
theorem d10_16 : decode prog_50_method_1_code 16 = .ok (.putfield 17, 3) := by decide +kernel
theorem d10_19 : decode prog_50_method_1_code 19 = .ok (.return_, 1) := by decide +kernel
theorem ef_rm10 (m : MethodId) (a1 : Addr) (a2 : Addr) (p3 : Int32) (v4 : Value) (hv4 : v4.isRef = true) : entryFrame m #[(.ref a1), (.ref a2), (.int p3), v4] 4 = mkF m 0 #[.val (.ref a1), .val (.ref a2), .val (.int p3), .val v4] [] := by
  rcases ref_cases hv4 with rfl | ⟨_, rfl⟩
  all_goals first | (simp [entryFrame, mkF, argsToLocals, Value.category]; done) | rfl
def Q_rm10 (Z : State) (a1 : Addr) (a2 : Addr) (p3 : Int32) (v4 : Value) (h0 : Heap) (n0 : Nat) (v : Option Value) (h : Heap) (L : List Loc) : Prop := (v = none) ∧ (Fr n0 L) ∧ (Keep h0 h [a1]) ∧ (Exa Z h a1 "com/example/amberhold/amberhold/store/ContainerRecord") ∧ (Fld Z h a1 "com/example/amberhold/amberhold/store/SettingsRecord" "name" "Ljava/lang/String;" (.ref a2)) ∧ (Fld Z h a1 "com/example/amberhold/amberhold/store/SettingsRecord" "versionLevelWorm" "Z" (.int p3)) ∧ (Fld Z h a1 "com/example/amberhold/amberhold/store/SettingsRecord" "defaultPolicy" "Lcom/example/amberhold/amberhold/store/DefaultPolicy;" v4)
set_option maxRecDepth 65536 in
set_option maxHeartbeats 40000000 in
theorem rm10 (l : Launch) (Z : State) (a0 : Array Value) (hw : ∀ d ∈ tables_1, d.before a0 Z = true) (ws : List Jvm.Cond) (a1 : Addr) (a2 : Addr) (p3 : Int32) (v4 : Value) (h0 : Heap) (n0 : Nat) (Z0 : n0 ≤ h0.size) (hv4 : Value.isRef v4 = true) (hk : nar .boolean p3 = p3) (g_a1 : n0 ≤ a1) (P3 : Exa Z h0 a1 "com/example/amberhold/amberhold/store/ContainerRecord") (P4 : Fld Z h0 a1 "com/example/amberhold/amberhold/store/SettingsRecord" "name" "Ljava/lang/String;" .null) (P5 : Fld Z h0 a1 "com/example/amberhold/amberhold/store/SettingsRecord" "versionLevelWorm" "Z" (.int (0 : Int32))) (P6 : Fld Z h0 a1 "com/example/amberhold/amberhold/store/SettingsRecord" "defaultPolicy" "Lcom/example/amberhold/amberhold/store/DefaultPolicy;" .null) :
    MetFree l (⟨"com/example/amberhold/amberhold/store/SettingsRecord", "<init>", "(Ljava/lang/String;ZLcom/example/amberhold/amberhold/store/DefaultPolicy;)V"⟩ : MethodName) (head1 (Jvm.Cond.code (⟨"com/example/amberhold/amberhold/store/SettingsRecord", "<init>", "(Ljava/lang/String;ZLcom/example/amberhold/amberhold/store/DefaultPolicy;)V"⟩ : MethodName) prog_50_method_1_code 4 none :: ws) ({ frames := 1, cells := 0, slots := 0, locals := 12 } : Room)) (fun a U => a = #[(.ref a1), (.ref a2), (.int p3), v4] ∧ Z.Warmed39 U.vm ∧ U.heap = h0) (fun _ _ _ _ _ => True) (fun _ U o U' => ∃ v L, o = .returned v ∧ Q_rm10 Z a1 a2 p3 v4 h0 n0 v U'.heap L ∧ FrameEnd U o U' L ({ frames := 1, cells := 0, slots := 0, locals := 12 } : Room).cells ({ frames := 1, cells := 0, slots := 0, locals := 12 } : Room).slots) := by
  refine MetFree.of_bodySF (plainFor_of_name pn_10) hisR ?_
  intro p e s m args below meth c s₁ Bd hml0 hP hK
  obtain ⟨rfl, hZ, hh⟩ := hP
  have hx := Bd.exec
  have hby := Bd.bytes
  have hml : c.maxLocals = 4 := hml0
  have hown : s.vm.findClass "com/example/amberhold/amberhold/store/SettingsRecord" = some m.cls := findClass_of_methodNamed Bd.named
  have hnm := (name_of_methodNamed Bd.named Bd.method).1
  have hlk := Bd.notSynchronized
  have X0 : Stand p l e ({ frames := 1, cells := 0, slots := 0, locals := 12 } : Room) s m #[(.ref a1), (.ref a2), (.int p3), v4] below meth c s₁ [] 0 0 := Stand.of_body Bd
  have e0 : s₁.heap = h0 := by rw [← hh, Bd.state]; rfl
  have N0 := Fr.nil n0
  refine Wp.goal (Post := (fun o U' => ∃ v L, o = .returned v ∧ Q_rm10 Z a1 a2 p3 v4 h0 n0 v U'.heap L ∧ FrameEnd s o U' L ({ frames := 1, cells := 0, slots := 0, locals := 12 } : Room).cells ({ frames := 1, cells := 0, slots := 0, locals := 12 } : Room).slots)) (Wp.st (S' := s₁.setTop (mkF m 0 #[.val (.ref a1), .val (.ref a2), .val (.int p3), .val v4] [])) (fun tt_ kk_ => castTop (ef_rm10 m a1 a2 p3 v4 hv4) kk_) ?_)
  refine Wp.st (S' := s₁.setTop (mkF m 1 #[.val (.ref a1), .val (.ref a2), .val (.int p3), .val v4] [(.ref a1)])) (fun tt_ kk_ => XS.aloadN X0.here hx rfl (hb hby d10_0) rfl rfl kk_) ?_
  obtain ⟨T1, X1, e1, st1⟩ := initO X0 hx hZ hown (hw _ (List.mem_of_getElem? (i := 64) rfl)) (hw _ (List.mem_of_getElem? (i := 12) rfl)) (hw _ (List.mem_of_getElem? (i := 13) rfl)) e0 (g := (mkF m 1 #[.val (.ref a1), .val (.ref a2), .val (.int p3), .val v4] [(.ref a1)])) rfl (by rw [hml]; rfl) rfl (hb hby d10_1) (by decide) (W := 0) (by show 2 * 0 + _ ≤ _; exact Nat.le_of_eq rfl) (by decide)
  refine Wp.st (S' := T1.setTop (mkF m 4 #[.val (.ref a1), .val (.ref a2), .val (.int p3), .val v4] [])) st1 ?_
  refine Wp.st (S' := T1.setTop (mkF m 5 #[.val (.ref a1), .val (.ref a2), .val (.int p3), .val v4] [(.ref a1)])) (fun tt_ kk_ => XS.aloadN X1.here hx rfl (hb hby d10_4) rfl rfl kk_) ?_
  refine Wp.st (S' := T1.setTop (mkF m 6 #[.val (.ref a1), .val (.ref a2), .val (.int p3), .val v4] [(.ref a2), (.ref a1)])) (fun tt_ kk_ => XS.aloadN X1.here hx rfl (hb hby d10_5) rfl rfl kk_) ?_
  obtain ⟨T2, h2, X2, e2, W2, st2⟩ := putF X1 hx hZ hown (host := "") (Or.inl (hw _ (List.mem_of_getElem? (i := 65) rfl))) Via.refl e1 P4 P3 (Or.inr ⟨(hw _ (List.mem_of_getElem? (i := 66) rfl)), rfl, hnm⟩) (hw _ (List.mem_of_getElem? (i := 54) rfl)) (ty := (.object "java/lang/String")) (by decide) rfl rfl (g := (mkF m 6 #[.val (.ref a1), .val (.ref a2), .val (.int p3), .val v4] [(.ref a2), (.ref a1)])) rfl rfl (hb hby d10_6)
  have z3 := Nat.le_of_eq W2.size.symm
  have Fw2 : Fld Z h2 a1 "com/example/amberhold/amberhold/store/SettingsRecord" "name" "Ljava/lang/String;" (.ref a2) := P4.same W2
  have N2 := Fr.snoc X2 N0 g_a1
  refine Wp.st (S' := T2.setTop (mkF m 9 #[.val (.ref a1), .val (.ref a2), .val (.int p3), .val v4] [])) st2 ?_
  refine Wp.st (S' := T2.setTop (mkF m 10 #[.val (.ref a1), .val (.ref a2), .val (.int p3), .val v4] [(.ref a1)])) (fun tt_ kk_ => XS.aloadN X2.here hx rfl (hb hby d10_9) rfl rfl kk_) ?_
  refine Wp.st (S' := T2.setTop (mkF m 11 #[.val (.ref a1), .val (.ref a2), .val (.int p3), .val v4] [(.int p3), (.ref a1)])) (fun tt_ kk_ => XS.iloadN X2.here hx rfl (hb hby d10_10) rfl  kk_) ?_
  have F5 := P5.other W2 (Or.inr (slot_ne (Or.inr (hw _ (List.mem_of_getElem? (i := 68) rfl))) (Or.inr (hw _ (List.mem_of_getElem? (i := 66) rfl))) (by decide) (t := .boolean) (t' := (.object "java/lang/String")) (by decide) (by decide)))
  have F6 := P3.wr W2
  obtain ⟨T4, h4, X4, e4, W4, st4⟩ := putFN X2 hx hZ hown (hw _ (List.mem_of_getElem? (i := 67) rfl)) Via.refl e2 F5 F6 (Or.inr ⟨(hw _ (List.mem_of_getElem? (i := 68) rfl)), rfl, hnm⟩) (hw _ (List.mem_of_getElem? (i := 54) rfl)) (ty := .boolean) (v' := (.int p3)) (by decide) (own_narZ hk) (own_fitZ hk) (g := (mkF m 11 #[.val (.ref a1), .val (.ref a2), .val (.int p3), .val v4] [(.int p3), (.ref a1)])) rfl rfl (hb hby d10_11)
  have z7 := Nat.le_of_eq W4.size.symm
  have Fw4 : Fld Z h4 a1 "com/example/amberhold/amberhold/store/SettingsRecord" "versionLevelWorm" "Z" (.int p3) := F5.same W4
  have N4 := Fr.snoc X4 N2 g_a1
  refine Wp.st (S' := T4.setTop (mkF m 14 #[.val (.ref a1), .val (.ref a2), .val (.int p3), .val v4] [])) st4 ?_
  refine Wp.st (S' := T4.setTop (mkF m 15 #[.val (.ref a1), .val (.ref a2), .val (.int p3), .val v4] [(.ref a1)])) (fun tt_ kk_ => XS.aloadN X4.here hx rfl (hb hby d10_14) rfl rfl kk_) ?_
  refine Wp.st (S' := T4.setTop (mkF m 16 #[.val (.ref a1), .val (.ref a2), .val (.int p3), .val v4] [v4, (.ref a1)])) (fun tt_ kk_ => XS.aloadN X4.here hx rfl (hb hby d10_15) rfl hv4 kk_) ?_
  have F9 := P6.other W2 (Or.inr (slot_ne (Or.inr (hw _ (List.mem_of_getElem? (i := 70) rfl))) (Or.inr (hw _ (List.mem_of_getElem? (i := 66) rfl))) (by decide) (t := (.object "com/example/amberhold/amberhold/store/DefaultPolicy")) (t' := (.object "java/lang/String")) (by decide) (by decide)))
  have F10 := F9.other W4 (Or.inr (slot_ne (Or.inr (hw _ (List.mem_of_getElem? (i := 70) rfl))) (Or.inr (hw _ (List.mem_of_getElem? (i := 68) rfl))) (by decide) (t := (.object "com/example/amberhold/amberhold/store/DefaultPolicy")) (t' := .boolean) (by decide) (by decide)))
  have F11 := F6.wr W4
  obtain ⟨T8, h8, X8, e8, W8, st8⟩ := putF X4 hx hZ hown (host := "") (Or.inl (hw _ (List.mem_of_getElem? (i := 69) rfl))) Via.refl e4 F10 F11 (Or.inr ⟨(hw _ (List.mem_of_getElem? (i := 70) rfl)), rfl, hnm⟩) (hw _ (List.mem_of_getElem? (i := 54) rfl)) (ty := (.object "com/example/amberhold/amberhold/store/DefaultPolicy")) (by decide) (own_narrow hv4) (own_fits hv4) (g := (mkF m 16 #[.val (.ref a1), .val (.ref a2), .val (.int p3), .val v4] [v4, (.ref a1)])) rfl rfl (hb hby d10_16)
  have z12 := Nat.le_of_eq W8.size.symm
  have Fw8 : Fld Z h8 a1 "com/example/amberhold/amberhold/store/SettingsRecord" "defaultPolicy" "Lcom/example/amberhold/amberhold/store/DefaultPolicy;" v4 := F10.same W8
  have N8 := Fr.snoc X8 N4 g_a1
  refine Wp.st (S' := T8.setTop (mkF m 19 #[.val (.ref a1), .val (.ref a2), .val (.int p3), .val v4] [])) st8 ?_
  have K13 := Keep.refl h0 [a1]
  have K14 := K13.wr W2 (Or.inl (List.mem_of_getElem? (i := 0) rfl))
  have K15 := K14.wr W4 (Or.inl (List.mem_of_getElem? (i := 0) rfl))
  have K16 := K15.wr W8 (Or.inl (List.mem_of_getElem? (i := 0) rfl))
  have F17 := F11.wr W8
  have F18 := Fw2.other W4 (Or.inr (slot_ne (Or.inr (hw _ (List.mem_of_getElem? (i := 66) rfl))) (Or.inr (hw _ (List.mem_of_getElem? (i := 68) rfl))) (by decide) (t := (.object "java/lang/String")) (t' := .boolean) (by decide) (by decide)))
  have F19 := F18.other W8 (Or.inr (slot_ne (Or.inr (hw _ (List.mem_of_getElem? (i := 66) rfl))) (Or.inr (hw _ (List.mem_of_getElem? (i := 70) rfl))) (by decide) (t := (.object "java/lang/String")) (t' := (.object "com/example/amberhold/amberhold/store/DefaultPolicy")) (by decide) (by decide)))
  have F20 := Fw4.other W8 (Or.inr (slot_ne (Or.inr (hw _ (List.mem_of_getElem? (i := 68) rfl))) (Or.inr (hw _ (List.mem_of_getElem? (i := 70) rfl))) (by decide) (t := .boolean) (t' := (.object "com/example/amberhold/amberhold/store/DefaultPolicy")) (by decide) (by decide)))
  exact Wp.ret X8 hlk (v := none) (fun _ => rfl) (fun fs hr => X8.returnOut hx Bd.returns (hb hby d10_19) hr) (by decide) (by decide) (show Q_rm10 Z a1 a2 p3 v4 h0 n0 _ T8.heap _ by rw [e8]; exact ⟨rfl, N8, K16, F17, F19, F20, Fw8⟩)
theorem pn_9 : plainName "com/example/amberhold/amberhold/store/ContainerRecord" = true := by first | (simp [plainName, overriddenIn]; done) | decide +kernel
theorem d9_0 : decode prog_36_method_1_code 0 = .ok (.aload_n 0, 1) := by decide +kernel
theorem d9_1 : decode prog_36_method_1_code 1 = .ok (.aload_n 1, 1) := by decide +kernel
theorem d9_2 : decode prog_36_method_1_code 2 = .ok (.iload_n 2, 1) := by decide +kernel
theorem d9_3 : decode prog_36_method_1_code 3 = .ok (.aload_n 3, 1) := by decide +kernel
theorem d9_4 : decode prog_36_method_1_code 4 = .ok (.invokespecial 1, 3) := by decide +kernel
theorem pd_2 : parseMethodDescriptor "(Ljava/lang/String;ZLcom/example/amberhold/amberhold/store/DefaultPolicy;)V" = some ⟨[(.object "java/lang/String"), .boolean, (.object "com/example/amberhold/amberhold/store/DefaultPolicy")], none⟩ := by decide +kernel
theorem d9_7 : decode prog_36_method_1_code 7 = .ok (.return_, 1) := by decide +kernel
theorem ef_rm9 (m : MethodId) (a1 : Addr) (a2 : Addr) (p3 : Int32) (v4 : Value) (hv4 : v4.isRef = true) : entryFrame m #[(.ref a1), (.ref a2), (.int p3), v4] 4 = mkF m 0 #[.val (.ref a1), .val (.ref a2), .val (.int p3), .val v4] [] := by
  rcases ref_cases hv4 with rfl | ⟨_, rfl⟩
  all_goals first | (simp [entryFrame, mkF, argsToLocals, Value.category]; done) | rfl
def Q_rm9 (Z : State) (a1 : Addr) (a2 : Addr) (p3 : Int32) (v4 : Value) (h0 : Heap) (n0 : Nat) (v : Option Value) (h : Heap) (L : List Loc) : Prop := (v = none) ∧ (Fr n0 L) ∧ (Keep h0 h [a1]) ∧ (Exa Z h a1 "com/example/amberhold/amberhold/store/ContainerRecord") ∧ (Fld Z h a1 "com/example/amberhold/amberhold/store/SettingsRecord" "name" "Ljava/lang/String;" (.ref a2)) ∧ (Fld Z h a1 "com/example/amberhold/amberhold/store/SettingsRecord" "versionLevelWorm" "Z" (.int p3)) ∧ (Fld Z h a1 "com/example/amberhold/amberhold/store/SettingsRecord" "defaultPolicy" "Lcom/example/amberhold/amberhold/store/DefaultPolicy;" v4)
set_option maxRecDepth 65536 in
set_option maxHeartbeats 40000000 in
theorem rm9 (l : Launch) (Z : State) (a0 : Array Value) (hw : ∀ d ∈ tables_1, d.before a0 Z = true) (ws : List Jvm.Cond) (a1 : Addr) (a2 : Addr) (p3 : Int32) (v4 : Value) (h0 : Heap) (n0 : Nat) (Z0 : n0 ≤ h0.size) (hv4 : Value.isRef v4 = true) (hk : nar .boolean p3 = p3) (g_a1 : n0 ≤ a1) (P3 : Exa Z h0 a1 "com/example/amberhold/amberhold/store/ContainerRecord") (P4 : Fld Z h0 a1 "com/example/amberhold/amberhold/store/SettingsRecord" "name" "Ljava/lang/String;" .null) (P5 : Fld Z h0 a1 "com/example/amberhold/amberhold/store/SettingsRecord" "versionLevelWorm" "Z" (.int (0 : Int32))) (P6 : Fld Z h0 a1 "com/example/amberhold/amberhold/store/SettingsRecord" "defaultPolicy" "Lcom/example/amberhold/amberhold/store/DefaultPolicy;" .null) :
    MetFree l (⟨"com/example/amberhold/amberhold/store/ContainerRecord", "<init>", "(Ljava/lang/String;ZLcom/example/amberhold/amberhold/store/DefaultPolicy;)V"⟩ : MethodName) (head1 (Jvm.Cond.code (⟨"com/example/amberhold/amberhold/store/ContainerRecord", "<init>", "(Ljava/lang/String;ZLcom/example/amberhold/amberhold/store/DefaultPolicy;)V"⟩ : MethodName) prog_36_method_1_code 4 none :: ws) ({ frames := 2, cells := 0, slots := 0, locals := 27 } : Room)) (fun a U => a = #[(.ref a1), (.ref a2), (.int p3), v4] ∧ Z.Warmed39 U.vm ∧ U.heap = h0) (fun _ _ _ _ _ => True) (fun _ U o U' => ∃ v L, o = .returned v ∧ Q_rm9 Z a1 a2 p3 v4 h0 n0 v U'.heap L ∧ FrameEnd U o U' L ({ frames := 2, cells := 0, slots := 0, locals := 27 } : Room).cells ({ frames := 2, cells := 0, slots := 0, locals := 27 } : Room).slots) := by
  refine MetFree.of_bodySF (plainFor_of_name pn_9) hisR ?_
  intro p e s m args below meth c s₁ Bd hml0 hP hK
  obtain ⟨rfl, hZ, hh⟩ := hP
  have hx := Bd.exec
  have hby := Bd.bytes
  have hml : c.maxLocals = 4 := hml0
  have hown : s.vm.findClass "com/example/amberhold/amberhold/store/ContainerRecord" = some m.cls := findClass_of_methodNamed Bd.named
  have hnm := (name_of_methodNamed Bd.named Bd.method).1
  have hlk := Bd.notSynchronized
  have X0 : Stand p l e ({ frames := 2, cells := 0, slots := 0, locals := 27 } : Room) s m #[(.ref a1), (.ref a2), (.int p3), v4] below meth c s₁ [] 0 0 := Stand.of_body Bd
  have e0 : s₁.heap = h0 := by rw [← hh, Bd.state]; rfl
  have N0 := Fr.nil n0
  refine Wp.goal (Post := (fun o U' => ∃ v L, o = .returned v ∧ Q_rm9 Z a1 a2 p3 v4 h0 n0 v U'.heap L ∧ FrameEnd s o U' L ({ frames := 2, cells := 0, slots := 0, locals := 27 } : Room).cells ({ frames := 2, cells := 0, slots := 0, locals := 27 } : Room).slots)) (Wp.st (S' := s₁.setTop (mkF m 0 #[.val (.ref a1), .val (.ref a2), .val (.int p3), .val v4] [])) (fun tt_ kk_ => castTop (ef_rm9 m a1 a2 p3 v4 hv4) kk_) ?_)
  refine Wp.st (S' := s₁.setTop (mkF m 1 #[.val (.ref a1), .val (.ref a2), .val (.int p3), .val v4] [(.ref a1)])) (fun tt_ kk_ => XS.aloadN X0.here hx rfl (hb hby d9_0) rfl rfl kk_) ?_
  refine Wp.st (S' := s₁.setTop (mkF m 2 #[.val (.ref a1), .val (.ref a2), .val (.int p3), .val v4] [(.ref a2), (.ref a1)])) (fun tt_ kk_ => XS.aloadN X0.here hx rfl (hb hby d9_1) rfl rfl kk_) ?_
  refine Wp.st (S' := s₁.setTop (mkF m 3 #[.val (.ref a1), .val (.ref a2), .val (.int p3), .val v4] [(.int p3), (.ref a2), (.ref a1)])) (fun tt_ kk_ => XS.iloadN X0.here hx rfl (hb hby d9_2) rfl  kk_) ?_
  refine Wp.st (S' := s₁.setTop (mkF m 4 #[.val (.ref a1), .val (.ref a2), .val (.int p3), .val v4] [v4, (.int p3), (.ref a2), (.ref a1)])) (fun tt_ kk_ => XS.aloadN X0.here hx rfl (hb hby d9_3) rfl hv4 kk_) ?_
  obtain ⟨vv1, _, ⟨T1, L1, k1, n1⟩, -, X1, ⟨Lc1, hQ1, l1, y1, z1⟩, st1⟩ := X0.specialBack hx (y := (⟨"com/example/amberhold/amberhold/store/SettingsRecord", "<init>", "(Ljava/lang/String;ZLcom/example/amberhold/amberhold/store/DefaultPolicy;)V"⟩ : MethodName)) rfl hown (mvT hZ (hw _ (List.mem_of_getElem? (i := 59) rfl))) (mvT hZ (hw _ (List.mem_of_getElem? (i := 60) rfl))) (mvT hZ (hw _ (List.mem_of_getElem? (i := 63) rfl))) (by decide) (backOf (W := 0) (rm10 l Z a0 hw [] a1 a2 p3 v4 h0 n0 Z0 hv4 ((by first | assumption | rfl) : nar .boolean p3 = p3) g_a1 P3 P4 P5 P6) hZ (hw _ (List.mem_of_getElem? (i := 63) rfl)) (hw _ (List.mem_of_getElem? (i := 62) rfl)) (by decide) (by decide)) (g := (mkF m 4 #[.val (.ref a1), .val (.ref a2), .val (.int p3), .val v4] [v4, (.int p3), (.ref a2), (.ref a1)])) rfl (by rw [hml]; rfl) (Steps.refl _) (a := a1) (argsL := [(.ref a2), (.int p3), v4]) (rest := []) (lenOf pd_2 rfl) rfl (by show 2 * 0 + _ ≤ _; exact Nat.le_of_eq rfl) (hb hby d9_4) (fun _ _ => ⟨rfl, e0, (by decide : 0 + 0 ≤ _), (by decide : 0 + 0 ≤ _)⟩)
  dsimp only [Pt.U, Pt.locs, Pt.cells, Pt.slots] at X1 l1 y1 z1 st1 hQ1
  subst l1 y1 z1
  obtain ⟨rfl, Nq1, K1, P1_0, P1_1, P1_2, P1_3⟩ := hQ1
  have N1 := Fr.app N0 Nq1
  have z2 := K1.1
  have e1 : T1.heap = T1.heap := rfl
  refine Wp.tr (S' := T1.setTop (mkF m 7 #[.val (.ref a1), .val (.ref a2), .val (.int p3), .val v4] [])) st1 ?_
  have K3 := Keep.refl h0 [a1]
  have K4 := K3.trans K1 (allS (Or.inl (List.mem_of_getElem? (i := 0) rfl)) all0)
  exact Wp.ret X1 hlk (v := none) (fun _ => rfl) (fun fs hr => X1.returnOut hx Bd.returns (hb hby d9_7) hr) (by decide) (by decide) (show Q_rm9 Z a1 a2 p3 v4 h0 n0 _ T1.heap _ by rw [e1]; exact ⟨rfl, N1, K4, P1_0, P1_1, P1_2, P1_3⟩)
theorem pn_12 : plainName "com/example/amberhold/amberhold/store/SettingsRecord" = true := by first | (simp [plainName, overriddenIn]; done) | decide +kernel
theorem d12_0 : decode prog_50_method_3_code 0 = .ok (.aload_n 0, 1) := by decide +kernel
theorem d12_1 : decode prog_50_method_3_code 1 = .ok (.getfield 7, 3) := by decide +kernel
theorem d12_4 : decode prog_50_method_3_code 4 = .ok (.areturn, 1) := by decide +kernel
theorem ef_rm12 (m : MethodId) (a1 : Addr) : entryFrame m #[(.ref a1)] 1 = mkF m 0 #[.val (.ref a1)] [] := by first | (simp [entryFrame, mkF, argsToLocals, Value.category]; done) | rfl
def Q_rm12 (Z : State) (a1 : Addr) (a2 : Addr) (h0 : Heap) (n0 : Nat) (v : Option Value) (h : Heap) (L : List Loc) : Prop := (v = some (.ref a2)) ∧ (Fr n0 L) ∧ (h = h0)
set_option maxRecDepth 65536 in
set_option maxHeartbeats 40000000 in
theorem rm12 (l : Launch) (Z : State) (a0 : Array Value) (hw : ∀ d ∈ tables_1, d.before a0 Z = true) (ws : List Jvm.Cond) (a1 : Addr) (a2 : Addr) (h0 : Heap) (n0 : Nat) (Z0 : n0 ≤ h0.size) (P0 : Fld Z h0 a1 "com/example/amberhold/amberhold/store/SettingsRecord" "name" "Ljava/lang/String;" (.ref a2)) :
    MetFree l (⟨"com/example/amberhold/amberhold/store/SettingsRecord", "name", "()Ljava/lang/String;"⟩ : MethodName) (head1 (Jvm.Cond.code (⟨"com/example/amberhold/amberhold/store/SettingsRecord", "name", "()Ljava/lang/String;"⟩ : MethodName) prog_50_method_3_code 1 (some (.object "java/lang/String")) :: ws) ({ frames := 0, cells := 0, slots := 0, locals := 0 } : Room)) (fun a U => a = #[(.ref a1)] ∧ Z.Warmed39 U.vm ∧ U.heap = h0) (fun _ _ _ _ _ => True) (fun _ U o U' => ∃ v L, o = .returned v ∧ Q_rm12 Z a1 a2 h0 n0 v U'.heap L ∧ FrameEnd U o U' L ({ frames := 0, cells := 0, slots := 0, locals := 0 } : Room).cells ({ frames := 0, cells := 0, slots := 0, locals := 0 } : Room).slots) := by
  refine MetFree.of_bodySF (plainFor_of_name pn_12) hisR ?_
  intro p e s m args below meth c s₁ Bd hml0 hP hK
  obtain ⟨rfl, hZ, hh⟩ := hP
  have hx := Bd.exec
  have hby := Bd.bytes
  have hml : c.maxLocals = 1 := hml0
  have hown : s.vm.findClass "com/example/amberhold/amberhold/store/SettingsRecord" = some m.cls := findClass_of_methodNamed Bd.named
  have hnm := (name_of_methodNamed Bd.named Bd.method).1
  have hlk := Bd.notSynchronized
  have X0 : Stand p l e ({ frames := 0, cells := 0, slots := 0, locals := 0 } : Room) s m #[(.ref a1)] below meth c s₁ [] 0 0 := Stand.of_body Bd
  have e0 : s₁.heap = h0 := by rw [← hh, Bd.state]; rfl
  have N0 := Fr.nil n0
  refine Wp.goal (Post := (fun o U' => ∃ v L, o = .returned v ∧ Q_rm12 Z a1 a2 h0 n0 v U'.heap L ∧ FrameEnd s o U' L ({ frames := 0, cells := 0, slots := 0, locals := 0 } : Room).cells ({ frames := 0, cells := 0, slots := 0, locals := 0 } : Room).slots)) (Wp.st (S' := s₁.setTop (mkF m 0 #[.val (.ref a1)] [])) (fun tt_ kk_ => castTop (ef_rm12 m a1 ) kk_) ?_)
  refine Wp.st (S' := s₁.setTop (mkF m 1 #[.val (.ref a1)] [(.ref a1)])) (fun tt_ kk_ => XS.aloadN X0.here hx rfl (hb hby d12_0) rfl rfl kk_) ?_
  obtain ⟨T1, X1, e1, st1⟩ := getF X0 hx hZ hown (host := "") (Or.inl (hw _ (List.mem_of_getElem? (i := 65) rfl))) Via.refl e0 P0 (g := (mkF m 1 #[.val (.ref a1)] [(.ref a1)])) rfl rfl (hb hby d12_1)
  refine Wp.st (S' := T1.setTop (mkF m 4 #[.val (.ref a1)] [(.ref a2)])) st1 ?_
  exact Wp.ret X1 hlk (v := (some (.ref a2))) (fun h => by rw [Bd.returns] at h; cases h) (fun fs hr => retOut X1 hx Bd.returns rfl (Or.inr (Or.inr (Or.inr (Or.inr ⟨rfl, rfl, rfl⟩)))) (hb hby d12_4) hr) (by decide) (by decide) (show Q_rm12 Z a1 a2 h0 n0 _ T1.heap _ by rw [e1]; exact ⟨rfl, N0, rfl⟩)
theorem pn_13 : plainName "com/example/amberhold/amberhold/store/SettingsRecord" = true := by first | (simp [plainName, overriddenIn]; done) | decide +kernel
theorem d13_0 : decode prog_50_method_4_code 0 = .ok (.aload_n 0, 1) := by decide +kernel
theorem d13_1 : decode prog_50_method_4_code 1 = .ok (.getfield 13, 3) := by decide +kernel
theorem d13_4 : decode prog_50_method_4_code 4 = .ok (.ireturn, 1) := by decide +kernel
theorem ef_rm13 (m : MethodId) (a1 : Addr) : entryFrame m #[(.ref a1)] 1 = mkF m 0 #[.val (.ref a1)] [] := by first | (simp [entryFrame, mkF, argsToLocals, Value.category]; done) | rfl
def Q_rm13 (Z : State) (a1 : Addr) (p3 : Int32) (h0 : Heap) (n0 : Nat) (v : Option Value) (h : Heap) (L : List Loc) : Prop := (v = some (.int p3)) ∧ (Fr n0 L) ∧ (h = h0)
set_option maxRecDepth 65536 in
set_option maxHeartbeats 40000000 in
theorem rm13 (l : Launch) (Z : State) (a0 : Array Value) (hw : ∀ d ∈ tables_1, d.before a0 Z = true) (ws : List Jvm.Cond) (a1 : Addr) (p3 : Int32) (h0 : Heap) (n0 : Nat) (Z0 : n0 ≤ h0.size) (P0 : Fld Z h0 a1 "com/example/amberhold/amberhold/store/SettingsRecord" "versionLevelWorm" "Z" (.int p3)) (hk : nar .boolean p3 = p3) :
    MetFree l (⟨"com/example/amberhold/amberhold/store/SettingsRecord", "versionLevelWorm", "()Z"⟩ : MethodName) (head1 (Jvm.Cond.code (⟨"com/example/amberhold/amberhold/store/SettingsRecord", "versionLevelWorm", "()Z"⟩ : MethodName) prog_50_method_4_code 1 (some .boolean) :: ws) ({ frames := 0, cells := 0, slots := 0, locals := 0 } : Room)) (fun a U => a = #[(.ref a1)] ∧ Z.Warmed39 U.vm ∧ U.heap = h0) (fun _ _ _ _ _ => True) (fun _ U o U' => ∃ v L, o = .returned v ∧ Q_rm13 Z a1 p3 h0 n0 v U'.heap L ∧ FrameEnd U o U' L ({ frames := 0, cells := 0, slots := 0, locals := 0 } : Room).cells ({ frames := 0, cells := 0, slots := 0, locals := 0 } : Room).slots) := by
  refine MetFree.of_bodySF (plainFor_of_name pn_13) hisR ?_
  intro p e s m args below meth c s₁ Bd hml0 hP hK
  obtain ⟨rfl, hZ, hh⟩ := hP
  have hx := Bd.exec
  have hby := Bd.bytes
  have hml : c.maxLocals = 1 := hml0
  have hown : s.vm.findClass "com/example/amberhold/amberhold/store/SettingsRecord" = some m.cls := findClass_of_methodNamed Bd.named
  have hnm := (name_of_methodNamed Bd.named Bd.method).1
  have hlk := Bd.notSynchronized
  have X0 : Stand p l e ({ frames := 0, cells := 0, slots := 0, locals := 0 } : Room) s m #[(.ref a1)] below meth c s₁ [] 0 0 := Stand.of_body Bd
  have e0 : s₁.heap = h0 := by rw [← hh, Bd.state]; rfl
  have N0 := Fr.nil n0
  refine Wp.goal (Post := (fun o U' => ∃ v L, o = .returned v ∧ Q_rm13 Z a1 p3 h0 n0 v U'.heap L ∧ FrameEnd s o U' L ({ frames := 0, cells := 0, slots := 0, locals := 0 } : Room).cells ({ frames := 0, cells := 0, slots := 0, locals := 0 } : Room).slots)) (Wp.st (S' := s₁.setTop (mkF m 0 #[.val (.ref a1)] [])) (fun tt_ kk_ => castTop (ef_rm13 m a1 ) kk_) ?_)
  refine Wp.st (S' := s₁.setTop (mkF m 1 #[.val (.ref a1)] [(.ref a1)])) (fun tt_ kk_ => XS.aloadN X0.here hx rfl (hb hby d13_0) rfl rfl kk_) ?_
  obtain ⟨T1, X1, e1, st1⟩ := getF X0 hx hZ hown (host := "") (Or.inl (hw _ (List.mem_of_getElem? (i := 67) rfl))) Via.refl e0 P0 (g := (mkF m 1 #[.val (.ref a1)] [(.ref a1)])) rfl rfl (hb hby d13_1)
  refine Wp.st (S' := T1.setTop (mkF m 4 #[.val (.ref a1)] [(.int p3)])) st1 ?_
  exact Wp.ret X1 hlk (v := (some (.int (nar .boolean p3)))) (fun h => by rw [Bd.returns] at h; cases h) (fun fs hr => retN (z := p3) X1 hx (t := .boolean) Bd.returns (by simp) (hb hby d13_4) hr) (by decide) (by decide) (show Q_rm13 Z a1 p3 h0 n0 _ T1.heap _ by rw [e1]; exact ⟨(by rw [hk]), N0, rfl⟩)
theorem pn_15 : plainName "com/example/amberhold/amberhold/store/SettingsRecord" = true := by first | (simp [plainName, overriddenIn]; done) | decide +kernel
theorem d15_0 : decode prog_50_method_5_code 0 = .ok (.aload_n 0, 1) := by decide +kernel
theorem d15_1 : decode prog_50_method_5_code 1 = .ok (.getfield 17, 3) := by decide +kernel
theorem d15_4 : decode prog_50_method_5_code 4 = .ok (.areturn, 1) := by decide +kernel
theorem ef_rm15 (m : MethodId) (a1 : Addr) : entryFrame m #[(.ref a1)] 1 = mkF m 0 #[.val (.ref a1)] [] := by first | (simp [entryFrame, mkF, argsToLocals, Value.category]; done) | rfl
def Q_rm15 (Z : State) (a1 : Addr) (v4 : Value) (h0 : Heap) (n0 : Nat) (v : Option Value) (h : Heap) (L : List Loc) : Prop := (v = some v4) ∧ (Fr n0 L) ∧ (h = h0)
set_option maxRecDepth 65536 in
set_option maxHeartbeats 40000000 in
theorem rm15 (l : Launch) (Z : State) (a0 : Array Value) (hw : ∀ d ∈ tables_1, d.before a0 Z = true) (ws : List Jvm.Cond) (a1 : Addr) (v4 : Value) (h0 : Heap) (n0 : Nat) (Z0 : n0 ≤ h0.size) (hv4 : Value.isRef v4 = true) (P1 : Fld Z h0 a1 "com/example/amberhold/amberhold/store/SettingsRecord" "defaultPolicy" "Lcom/example/amberhold/amberhold/store/DefaultPolicy;" v4) :
    MetFree l (⟨"com/example/amberhold/amberhold/store/SettingsRecord", "defaultPolicy", "()Lcom/example/amberhold/amberhold/store/DefaultPolicy;"⟩ : MethodName) (head1 (Jvm.Cond.code (⟨"com/example/amberhold/amberhold/store/SettingsRecord", "defaultPolicy", "()Lcom/example/amberhold/amberhold/store/DefaultPolicy;"⟩ : MethodName) prog_50_method_5_code 1 (some (.object "com/example/amberhold/amberhold/store/DefaultPolicy")) :: ws) ({ frames := 0, cells := 0, slots := 0, locals := 0 } : Room)) (fun a U => a = #[(.ref a1)] ∧ Z.Warmed39 U.vm ∧ U.heap = h0) (fun _ _ _ _ _ => True) (fun _ U o U' => ∃ v L, o = .returned v ∧ Q_rm15 Z a1 v4 h0 n0 v U'.heap L ∧ FrameEnd U o U' L ({ frames := 0, cells := 0, slots := 0, locals := 0 } : Room).cells ({ frames := 0, cells := 0, slots := 0, locals := 0 } : Room).slots) := by
  refine MetFree.of_bodySF (plainFor_of_name pn_15) hisR ?_
  intro p e s m args below meth c s₁ Bd hml0 hP hK
  obtain ⟨rfl, hZ, hh⟩ := hP
  have hx := Bd.exec
  have hby := Bd.bytes
  have hml : c.maxLocals = 1 := hml0
  have hown : s.vm.findClass "com/example/amberhold/amberhold/store/SettingsRecord" = some m.cls := findClass_of_methodNamed Bd.named
  have hnm := (name_of_methodNamed Bd.named Bd.method).1
  have hlk := Bd.notSynchronized
  have X0 : Stand p l e ({ frames := 0, cells := 0, slots := 0, locals := 0 } : Room) s m #[(.ref a1)] below meth c s₁ [] 0 0 := Stand.of_body Bd
  have e0 : s₁.heap = h0 := by rw [← hh, Bd.state]; rfl
  have N0 := Fr.nil n0
  refine Wp.goal (Post := (fun o U' => ∃ v L, o = .returned v ∧ Q_rm15 Z a1 v4 h0 n0 v U'.heap L ∧ FrameEnd s o U' L ({ frames := 0, cells := 0, slots := 0, locals := 0 } : Room).cells ({ frames := 0, cells := 0, slots := 0, locals := 0 } : Room).slots)) (Wp.st (S' := s₁.setTop (mkF m 0 #[.val (.ref a1)] [])) (fun tt_ kk_ => castTop (ef_rm15 m a1 ) kk_) ?_)
  refine Wp.st (S' := s₁.setTop (mkF m 1 #[.val (.ref a1)] [(.ref a1)])) (fun tt_ kk_ => XS.aloadN X0.here hx rfl (hb hby d15_0) rfl rfl kk_) ?_
  obtain ⟨T1, X1, e1, st1⟩ := getF X0 hx hZ hown (host := "") (Or.inl (hw _ (List.mem_of_getElem? (i := 69) rfl))) Via.refl e0 P1 (g := (mkF m 1 #[.val (.ref a1)] [(.ref a1)])) rfl rfl (hb hby d15_1)
  refine Wp.st (S' := T1.setTop (mkF m 4 #[.val (.ref a1)] [v4])) st1 ?_
  exact Wp.ret X1 hlk (v := (some v4)) (fun h => by rw [Bd.returns] at h; cases h) (fun fs hr => retOut X1 hx Bd.returns (own_narrow hv4) (Or.inr (Or.inr (Or.inr (Or.inr ⟨rfl, rfl, hv4⟩)))) (hb hby d15_4) hr) (by decide) (by decide) (show Q_rm15 Z a1 v4 h0 n0 _ T1.heap _ by rw [e1]; exact ⟨rfl, N0, rfl⟩)
theorem pn_14 : plainName "java/lang/String" = true := by first | (simp [plainName, overriddenIn]; done) | decide +kernel
theorem d14_0 : decode jdk_42_method_66_code 0 = .ok (.aload_n 0, 1) := by decide +kernel
theorem d14_1 : decode jdk_42_method_66_code 1 = .ok (.aload_n 1, 1) := by decide +kernel
theorem d14_2 : decode jdk_42_method_66_code 2 = .ok (.if_acmp .ne 5, 3) := by decide +kernel
theorem d14_5 : decode jdk_42_method_66_code 5 = .ok (.iconst 1, 1) := by decide +kernel
theorem d14_6 : decode jdk_42_method_66_code 6 = .ok (.ireturn, 1) := by decide +kernel
theorem ef_rm14 (m : MethodId) (a1 : Addr) (a1 : Addr) : entryFrame m #[(.ref a1), (.ref a1)] 3 = mkF m 0 #[.val (.ref a1), .val (.ref a1), .unset] [] := by first | (simp [entryFrame, mkF, argsToLocals, Value.category]; done) | rfl
def Q_rm14 (Z : State) (a1 : Addr) (h0 : Heap) (n0 : Nat) (v : Option Value) (h : Heap) (L : List Loc) : Prop := (v = some (.int (1 : Int32))) ∧ (Fr n0 L) ∧ (h = h0)
set_option maxRecDepth 65536 in
set_option maxHeartbeats 40000000 in
theorem rm14 (l : Launch) (Z : State) (a0 : Array Value) (hw : ∀ d ∈ tables_1, d.before a0 Z = true) (ws : List Jvm.Cond) (a1 : Addr) (h0 : Heap) (n0 : Nat) (Z0 : n0 ≤ h0.size)  :
    MetFree l (⟨"java/lang/String", "equals", "(Ljava/lang/Object;)Z"⟩ : MethodName) (head1 (Jvm.Cond.code (⟨"java/lang/String", "equals", "(Ljava/lang/Object;)Z"⟩ : MethodName) jdk_42_method_66_code 3 (some .boolean) :: ws) ({ frames := 0, cells := 0, slots := 0, locals := 0 } : Room)) (fun a U => a = #[(.ref a1), (.ref a1)] ∧ Z.Warmed39 U.vm ∧ U.heap = h0) (fun _ _ _ _ _ => True) (fun _ U o U' => ∃ v L, o = .returned v ∧ Q_rm14 Z a1 h0 n0 v U'.heap L ∧ FrameEnd U o U' L ({ frames := 0, cells := 0, slots := 0, locals := 0 } : Room).cells ({ frames := 0, cells := 0, slots := 0, locals := 0 } : Room).slots) := by
  refine MetFree.of_bodySF (plainFor_of_name pn_14) hisR ?_
  intro p e s m args below meth c s₁ Bd hml0 hP hK
  obtain ⟨rfl, hZ, hh⟩ := hP
  have hx := Bd.exec
  have hby := Bd.bytes
  have hml : c.maxLocals = 3 := hml0
  have hown : s.vm.findClass "java/lang/String" = some m.cls := findClass_of_methodNamed Bd.named
  have hnm := (name_of_methodNamed Bd.named Bd.method).1
  have hlk := Bd.notSynchronized
  have X0 : Stand p l e ({ frames := 0, cells := 0, slots := 0, locals := 0 } : Room) s m #[(.ref a1), (.ref a1)] below meth c s₁ [] 0 0 := Stand.of_body Bd
  have e0 : s₁.heap = h0 := by rw [← hh, Bd.state]; rfl
  have N0 := Fr.nil n0
  refine Wp.goal (Post := (fun o U' => ∃ v L, o = .returned v ∧ Q_rm14 Z a1 h0 n0 v U'.heap L ∧ FrameEnd s o U' L ({ frames := 0, cells := 0, slots := 0, locals := 0 } : Room).cells ({ frames := 0, cells := 0, slots := 0, locals := 0 } : Room).slots)) (Wp.st (S' := s₁.setTop (mkF m 0 #[.val (.ref a1), .val (.ref a1), .unset] [])) (fun tt_ kk_ => castTop (ef_rm14 m a1 a1 ) kk_) ?_)
  refine Wp.st (S' := s₁.setTop (mkF m 1 #[.val (.ref a1), .val (.ref a1), .unset] [(.ref a1)])) (fun tt_ kk_ => XS.aloadN X0.here hx rfl (hb hby d14_0) rfl rfl kk_) ?_
  refine Wp.st (S' := s₁.setTop (mkF m 2 #[.val (.ref a1), .val (.ref a1), .unset] [(.ref a1), (.ref a1)])) (fun tt_ kk_ => XS.aloadN X0.here hx rfl (hb hby d14_1) rfl rfl kk_) ?_
  refine Wp.st (S' := s₁.setTop (mkF m 5 #[.val (.ref a1), .val (.ref a1), .unset] [])) (fun tt_ kk_ => Jvm.RoadKit.acmp (g := (mkF m 2 #[.val (.ref a1), .val (.ref a1), .unset] [(.ref a1), (.ref a1)])) X0 hx rfl rfl rfl (pc0 := 2) (pc' := 5) (same := true) rfl (hb hby d14_2) rfl (decide_eq_true rfl) (by decide) (by decide) kk_) ?_
  refine Wp.st (S' := s₁.setTop (mkF m 6 #[.val (.ref a1), .val (.ref a1), .unset] [(.int (1 : Int32))])) (fun tt_ kk_ => XS.iconst X0.here hx rfl (hb hby d14_5) kk_) ?_
  exact Wp.ret X0 hlk (v := (some (.int (1 : Int32)))) (fun h => by rw [Bd.returns] at h; cases h) (fun fs hr => retN (z := (1 : Int32)) X0 hx (t := .boolean) Bd.returns (by simp) (hb hby d14_6) hr) (by decide) (by decide) (show Q_rm14 Z a1 h0 n0 _ s₁.heap _ by rw [e0]; exact ⟨rfl, N0, rfl⟩)
theorem pn_11 : plainName "com/example/amberhold/amberhold/store/ContainerRecord" = true := by first | (simp [plainName, overriddenIn]; done) | decide +kernel
theorem d11_0 : decode prog_36_method_4_code 0 = .ok (.new 12, 3) := by decide +kernel
theorem d11_3 : decode prog_36_method_4_code 3 = .ok (.dup, 1) := by decide +kernel
theorem d11_4 : decode prog_36_method_4_code 4 = .ok (.aload_n 0, 1) := by decide +kernel
theorem d11_5 : decode prog_36_method_4_code 5 = .ok (.invokevirtual 14, 3) := by decide +kernel
theorem pd_3 : parseMethodDescriptor "()Ljava/lang/String;" = some ⟨[], some (.object "java/lang/String")⟩ := by decide +kernel
theorem d11_8 : decode prog_36_method_4_code 8 = .ok (.aload_n 0, 1) := by decide +kernel
theorem d11_9 : decode prog_36_method_4_code 9 = .ok (.invokevirtual 18, 3) := by decide +kernel
theorem pd_4 : parseMethodDescriptor "()Z" = some ⟨[], some .boolean⟩ := by decide +kernel
theorem d11_12 : decode prog_36_method_4_code 12 = .ok (.aload_n 1, 1) := by decide +kernel
theorem d11_13 : decode prog_36_method_4_code 13 = .ok (.invokespecial 22, 3) := by decide +kernel
theorem d11_16 : decode prog_36_method_4_code 16 = .ok (.areturn, 1) := by decide +kernel
theorem ef_rm11 (m : MethodId) (a1 : Addr) (v4 : Value) (hv4 : v4.isRef = true) : entryFrame m #[(.ref a1), v4] 2 = mkF m 0 #[.val (.ref a1), .val v4] [] := by
  rcases ref_cases hv4 with rfl | ⟨_, rfl⟩
  all_goals first | (simp [entryFrame, mkF, argsToLocals, Value.category]; done) | rfl
def Q_rm11 (Z : State) (a1 : Addr) (v4 : Value) (a2 : Addr) (p3 : Int32) (v5 : Value) (h0 : Heap) (n0 : Nat) (v : Option Value) (h : Heap) (L : List Loc) : Prop := ∃ b : Addr, (v = some (.ref b)) ∧ (Fr n0 L) ∧ (Keep h0 h []) ∧ (h0.size ≤ b) ∧ (Exa Z h b "com/example/amberhold/amberhold/store/ContainerRecord") ∧ (Fld Z h b "com/example/amberhold/amberhold/store/SettingsRecord" "name" "Ljava/lang/String;" (.ref a2)) ∧ (Fld Z h b "com/example/amberhold/amberhold/store/SettingsRecord" "versionLevelWorm" "Z" (.int p3)) ∧ (Fld Z h b "com/example/amberhold/amberhold/store/SettingsRecord" "defaultPolicy" "Lcom/example/amberhold/amberhold/store/DefaultPolicy;" v4)
set_option maxRecDepth 65536 in
set_option maxHeartbeats 40000000 in
theorem rm11 (l : Launch) (Z : State) (a0 : Array Value) (hw : ∀ d ∈ tables_1, d.before a0 Z = true) (ws : List Jvm.Cond) (a1 : Addr) (v4 : Value) (a2 : Addr) (p3 : Int32) (v5 : Value) (h0 : Heap) (n0 : Nat) (Z0 : n0 ≤ h0.size) (hv4 : Value.isRef v4 = true) (hk : nar .boolean p3 = p3) (P2 : Exa Z h0 a1 "com/example/amberhold/amberhold/store/ContainerRecord") (P3 : Fld Z h0 a1 "com/example/amberhold/amberhold/store/SettingsRecord" "name" "Ljava/lang/String;" (.ref a2)) (P4 : Fld Z h0 a1 "com/example/amberhold/amberhold/store/SettingsRecord" "versionLevelWorm" "Z" (.int p3)) (P5 : Fld Z h0 a1 "com/example/amberhold/amberhold/store/SettingsRecord" "defaultPolicy" "Lcom/example/amberhold/amberhold/store/DefaultPolicy;" v5) :
    MetFree l (⟨"com/example/amberhold/amberhold/store/ContainerRecord", "withDefaultPolicy", "(Lcom/example/amberhold/amberhold/store/DefaultPolicy;)Lcom/example/amberhold/amberhold/store/ContainerRecord;"⟩ : MethodName) (head1 (Jvm.Cond.code (⟨"com/example/amberhold/amberhold/store/ContainerRecord", "withDefaultPolicy", "(Lcom/example/amberhold/amberhold/store/DefaultPolicy;)Lcom/example/amberhold/amberhold/store/ContainerRecord;"⟩ : MethodName) prog_36_method_4_code 2 (some (.object "com/example/amberhold/amberhold/store/ContainerRecord")) :: ws) ({ frames := 3, cells := 1, slots := 3, locals := 43 } : Room)) (fun a U => a = #[(.ref a1), v4] ∧ Z.Warmed39 U.vm ∧ U.heap = h0) (fun _ _ _ _ _ => True) (fun _ U o U' => ∃ v L, o = .returned v ∧ Q_rm11 Z a1 v4 a2 p3 v5 h0 n0 v U'.heap L ∧ FrameEnd U o U' L ({ frames := 3, cells := 1, slots := 3, locals := 43 } : Room).cells ({ frames := 3, cells := 1, slots := 3, locals := 43 } : Room).slots) := by
  refine MetFree.of_bodySF (plainFor_of_name pn_11) hisR ?_
  intro p e s m args below meth c s₁ Bd hml0 hP hK
  obtain ⟨rfl, hZ, hh⟩ := hP
  have hx := Bd.exec
  have hby := Bd.bytes
  have hml : c.maxLocals = 2 := hml0
  have hown : s.vm.findClass "com/example/amberhold/amberhold/store/ContainerRecord" = some m.cls := findClass_of_methodNamed Bd.named
  have hnm := (name_of_methodNamed Bd.named Bd.method).1
  have hlk := Bd.notSynchronized
  have X0 : Stand p l e ({ frames := 3, cells := 1, slots := 3, locals := 43 } : Room) s m #[(.ref a1), v4] below meth c s₁ [] 0 0 := Stand.of_body Bd
  have e0 : s₁.heap = h0 := by rw [← hh, Bd.state]; rfl
  have N0 := Fr.nil n0
  refine Wp.goal (Post := (fun o U' => ∃ v L, o = .returned v ∧ Q_rm11 Z a1 v4 a2 p3 v5 h0 n0 v U'.heap L ∧ FrameEnd s o U' L ({ frames := 3, cells := 1, slots := 3, locals := 43 } : Room).cells ({ frames := 3, cells := 1, slots := 3, locals := 43 } : Room).slots)) (Wp.st (S' := s₁.setTop (mkF m 0 #[.val (.ref a1), .val v4] [])) (fun tt_ kk_ => castTop (ef_rm11 m a1 v4 hv4) kk_) ?_)
  obtain ⟨T1, h1, X1, e1, E1, A1, D1, U1, st1⟩ := newO X0 hx hZ hown (hw _ (List.mem_of_getElem? (i := 76) rfl)) (hw _ (List.mem_of_getElem? (i := 54) rfl)) (hw _ (List.mem_of_getElem? (i := 55) rfl)) e0 (g := (mkF m 0 #[.val (.ref a1), .val v4] [])) rfl (hb hby d11_0) (by decide) (by decide)
  obtain ⟨b1, g1⟩ : ∃ z, z = h0.size := ⟨_, rfl⟩
  rw [← g1] at A1 D1 U1 st1
  have z2 := E1.1
  have g3 : n0 ≤ b1 := Nat.le_trans (Nat.le_trans Z0 (Nat.le_refl _)) (Nat.le_of_eq g1.symm)
  have F4 : Fld Z h1 b1 "com/example/amberhold/amberhold/store/SettingsRecord" "name" "Ljava/lang/String;" .null := D1 (Or.inr (hw _ (List.mem_of_getElem? (i := 66) rfl))) (ty := (.object "java/lang/String")) (by decide)
  have F5 : Fld Z h1 b1 "com/example/amberhold/amberhold/store/SettingsRecord" "versionLevelWorm" "Z" (.int (0 : Int32)) := D1 (Or.inr (hw _ (List.mem_of_getElem? (i := 68) rfl))) (ty := .boolean) (by decide)
  have F6 : Fld Z h1 b1 "com/example/amberhold/amberhold/store/SettingsRecord" "defaultPolicy" "Lcom/example/amberhold/amberhold/store/DefaultPolicy;" .null := D1 (Or.inr (hw _ (List.mem_of_getElem? (i := 70) rfl))) (ty := (.object "com/example/amberhold/amberhold/store/DefaultPolicy")) (by decide)
  refine Wp.st (S' := T1.setTop (mkF m 3 #[.val (.ref a1), .val v4] [(.ref b1)])) st1 ?_
  refine Wp.st (S' := T1.setTop (mkF m 4 #[.val (.ref a1), .val v4] [(.ref b1), (.ref b1)])) (fun tt_ kk_ => XS.dup X1.here hx rfl (hb hby d11_3) rfl rfl kk_) ?_
  refine Wp.st (S' := T1.setTop (mkF m 5 #[.val (.ref a1), .val v4] [(.ref a1), (.ref b1), (.ref b1)])) (fun tt_ kk_ => XS.aloadN X1.here hx rfl (hb hby d11_4) rfl rfl kk_) ?_
  have F8 := P3.ext E1
  have F9 := P2.ext E1
  obtain ⟨cq7, kq7, q7a, q7b, q7c⟩ := isOf hZ e1 F9
  obtain ⟨vv7, _, ⟨T7, L7, k7, n7⟩, -, X7, ⟨Lc7, hQ7, l7, y7, z7⟩, st7⟩ := X1.virtualBackUp hx (owner := "com/example/amberhold/amberhold/store/SettingsRecord") (x := (⟨"com/example/amberhold/amberhold/store/ContainerRecord", "name", "()Ljava/lang/String;"⟩ : MethodName)) (y := (⟨"com/example/amberhold/amberhold/store/SettingsRecord", "name", "()Ljava/lang/String;"⟩ : MethodName)) hown (mvT hZ (hw _ (List.mem_of_getElem? (i := 77) rfl))) (mvT hZ (hw _ (List.mem_of_getElem? (i := 78) rfl))) (mvT hZ (hw _ (List.mem_of_getElem? (i := 79) rfl))) (by decide) (mvT hZ (hw _ (List.mem_of_getElem? (i := 81) rfl))) (mvT hZ (hw _ (List.mem_of_getElem? (i := 80) rfl))) (backOf (W := 2) (rm12 l Z a0 hw [] a1 a2 h1 n0 (Nat.le_trans Z0 z2) F8) hZ (hw _ (List.mem_of_getElem? (i := 82) rfl)) (hw _ (List.mem_of_getElem? (i := 62) rfl)) (by decide) (by decide)) q7a q7c (g := (mkF m 5 #[.val (.ref a1), .val v4] [(.ref a1), (.ref b1), (.ref b1)])) rfl (by rw [hml]; rfl) (Steps.refl _) (argsL := []) (rest := [(.ref b1), (.ref b1)]) (lenOf pd_3 rfl) rfl (by show 2 * 0 + _ ≤ _; exact Nat.le_of_eq rfl) (hb hby d11_5) (fun _ _ => ⟨rfl, e1, (by decide : 1 + 0 ≤ _), (by decide : 3 + 0 ≤ _)⟩)
  dsimp only [Pt.U, Pt.locs, Pt.cells, Pt.slots] at X7 l7 y7 z7 st7 hQ7
  subst l7 y7 z7
  obtain ⟨rfl, Nq7, e7⟩ := hQ7
  have N7 := Fr.app N0 Nq7
  refine Wp.tr (S' := T7.setTop (mkF m 8 #[.val (.ref a1), .val v4] [(.ref a2), (.ref b1), (.ref b1)])) st7 ?_
  refine Wp.st (S' := T7.setTop (mkF m 9 #[.val (.ref a1), .val v4] [(.ref a1), (.ref a2), (.ref b1), (.ref b1)])) (fun tt_ kk_ => XS.aloadN X7.here hx rfl (hb hby d11_8) rfl rfl kk_) ?_
  have F11 := P4.ext E1
  obtain ⟨cq10, kq10, q10a, q10b, q10c⟩ := isOf hZ e7 F9
  obtain ⟨vv10, _, ⟨T10, L10, k10, n10⟩, -, X10, ⟨Lc10, hQ10, l10, y10, z10⟩, st10⟩ := X7.virtualBackUp hx (owner := "com/example/amberhold/amberhold/store/SettingsRecord") (x := (⟨"com/example/amberhold/amberhold/store/ContainerRecord", "versionLevelWorm", "()Z"⟩ : MethodName)) (y := (⟨"com/example/amberhold/amberhold/store/SettingsRecord", "versionLevelWorm", "()Z"⟩ : MethodName)) hown (mvT hZ (hw _ (List.mem_of_getElem? (i := 83) rfl))) (mvT hZ (hw _ (List.mem_of_getElem? (i := 84) rfl))) (mvT hZ (hw _ (List.mem_of_getElem? (i := 85) rfl))) (by decide) (mvT hZ (hw _ (List.mem_of_getElem? (i := 87) rfl))) (mvT hZ (hw _ (List.mem_of_getElem? (i := 86) rfl))) (backOf (W := 3) (rm13 l Z a0 hw [] a1 p3 h1 n0 (Nat.le_trans Z0 z2) F11 ((by first | assumption | rfl) : nar .boolean p3 = p3)) hZ (hw _ (List.mem_of_getElem? (i := 88) rfl)) (hw _ (List.mem_of_getElem? (i := 62) rfl)) (by decide) (by decide)) q10a q10c (g := (mkF m 9 #[.val (.ref a1), .val v4] [(.ref a1), (.ref a2), (.ref b1), (.ref b1)])) rfl (by rw [hml]; rfl) (Steps.refl _) (argsL := []) (rest := [(.ref a2), (.ref b1), (.ref b1)]) (lenOf pd_4 rfl) rfl (by show 2 * 0 + _ ≤ _; exact Nat.le_of_eq rfl) (hb hby d11_9) (fun _ _ => ⟨rfl, e7, (by decide : 1 + 0 ≤ _), (by decide : 3 + 0 ≤ _)⟩)
  dsimp only [Pt.U, Pt.locs, Pt.cells, Pt.slots] at X10 l10 y10 z10 st10 hQ10
  subst l10 y10 z10
  obtain ⟨rfl, Nq10, e10⟩ := hQ10
  have N10 := Fr.app N7 Nq10
  refine Wp.tr (S' := T10.setTop (mkF m 12 #[.val (.ref a1), .val v4] [(.int p3), (.ref a2), (.ref b1), (.ref b1)])) st10 ?_
  refine Wp.st (S' := T10.setTop (mkF m 13 #[.val (.ref a1), .val v4] [v4, (.int p3), (.ref a2), (.ref b1), (.ref b1)])) (fun tt_ kk_ => XS.aloadN X10.here hx rfl (hb hby d11_12) rfl hv4 kk_) ?_
  obtain ⟨vv12, _, ⟨T12, L12, k12, n12⟩, -, X12, ⟨Lc12, hQ12, l12, y12, z12⟩, st12⟩ := X10.specialBack hx (y := (⟨"com/example/amberhold/amberhold/store/ContainerRecord", "<init>", "(Ljava/lang/String;ZLcom/example/amberhold/amberhold/store/DefaultPolicy;)V"⟩ : MethodName)) rfl hown (mvT hZ (hw _ (List.mem_of_getElem? (i := 89) rfl))) (mvT hZ (hw _ (List.mem_of_getElem? (i := 57) rfl))) (mvT hZ (hw _ (List.mem_of_getElem? (i := 58) rfl))) (by decide) (backOf (W := 1) (rm9 l Z a0 hw [] b1 a2 p3 v4 h1 n0 (Nat.le_trans Z0 z2) hv4 ((by first | assumption | rfl) : nar .boolean p3 = p3) g3 A1 F4 F5 F6) hZ (hw _ (List.mem_of_getElem? (i := 58) rfl)) (hw _ (List.mem_of_getElem? (i := 55) rfl)) (by decide) (by decide)) (g := (mkF m 13 #[.val (.ref a1), .val v4] [v4, (.int p3), (.ref a2), (.ref b1), (.ref b1)])) rfl (by rw [hml]; rfl) (Steps.refl _) (a := b1) (argsL := [(.ref a2), (.int p3), v4]) (rest := [(.ref b1)]) (lenOf pd_2 rfl) rfl (by show 2 * 0 + _ ≤ _; exact Nat.le_of_eq rfl) (hb hby d11_13) (fun _ _ => ⟨rfl, e10, (by decide : 1 + 0 ≤ _), (by decide : 3 + 0 ≤ _)⟩)
  dsimp only [Pt.U, Pt.locs, Pt.cells, Pt.slots] at X12 l12 y12 z12 st12 hQ12
  subst l12 y12 z12
  obtain ⟨rfl, Nq12, K12, P12_0, P12_1, P12_2, P12_3⟩ := hQ12
  have N12 := Fr.app N10 Nq12
  have z13 := K12.1
  have e12 : T12.heap = T12.heap := rfl
  refine Wp.tr (S' := T12.setTop (mkF m 16 #[.val (.ref a1), .val v4] [(.ref b1)])) st12 ?_
  have K14 := Keep.refl h0 []
  have K15 := K14.ext E1
  have K16 := K15.trans K12 (allS (Or.inr (Nat.le_trans (Nat.le_refl _) (Nat.le_of_eq g1.symm))) all0)
  exact Wp.ret X12 hlk (v := (some (.ref b1))) (fun h => by rw [Bd.returns] at h; cases h) (fun fs hr => retOut X12 hx Bd.returns rfl (Or.inr (Or.inr (Or.inr (Or.inr ⟨rfl, rfl, rfl⟩)))) (hb hby d11_16) hr) (by decide) (by decide) (show Q_rm11 Z a1 v4 a2 p3 v5 h0 n0 _ T12.heap _ by rw [e12]; exact ⟨b1, rfl, N12, K16, (Nat.le_trans (Nat.le_refl _) (Nat.le_of_eq g1.symm)), P12_0, P12_1, P12_2, P12_3⟩)
theorem pn_0 : plainName "com/example/amberhold/amberhold/store/ContainerRecordWithDefaultPolicyPinLaw" = true := by first | (simp [plainName, overriddenIn]; done) | decide +kernel
theorem pd_5 : parseMethodDescriptor "(ILcom/example/amberhold/amberhold/store/RetentionPolicy$Mode;)V" = some ⟨[.int, (.object "com/example/amberhold/amberhold/store/RetentionPolicy$Mode")], none⟩ := by decide +kernel
theorem pd_6 : parseMethodDescriptor "(Lcom/example/amberhold/amberhold/store/DefaultPolicy;)Lcom/example/amberhold/amberhold/store/ContainerRecord;" = some ⟨[(.object "com/example/amberhold/amberhold/store/DefaultPolicy")], some (.object "com/example/amberhold/amberhold/store/ContainerRecord")⟩ := by decide +kernel
theorem pd_7 : parseMethodDescriptor "(Ljava/lang/Object;)Z" = some ⟨[(.object "java/lang/Object")], some .boolean⟩ := by decide +kernel
theorem pd_8 : parseMethodDescriptor "()Lcom/example/amberhold/amberhold/store/DefaultPolicy;" = some ⟨[], some (.object "com/example/amberhold/amberhold/store/DefaultPolicy")⟩ := by decide +kernel
theorem pd_9 : parseMethodDescriptor "([C)V" = some ⟨[(.array .char)], none⟩ := by decide +kernel
theorem ef_rm0 (m : MethodId) (x1 : Int32) (x2 : Int32) (x3 : Int32) (x4 : Int32) : entryFrame m #[(.int x1), (.int x2), (.int x3), (.int x4)] maxLocals = mkF m 0 #[.val (.int x1), .val (.int x2), .val (.int x3), .val (.int x4), .unset, .unset, .unset, .unset, .unset, .unset, .unset, .unset, .unset, .unset, .unset, .unset, .unset] [] := by first | (simp [entryFrame, mkF, argsToLocals, Value.category, maxLocals]; done) | rfl
def Q_rm0 (Z : State) (x1 : Int32) (x2 : Int32) (x3 : Int32) (x4 : Int32) (w_UNLOCKED : Addr) (w_LOCKED : Addr) (zcs : Int32) (h0 : Heap) (n0 : Nat) (v : Option Value) (h : Heap) (L : List Loc) : Prop := (v = some (.int (1 : Int32))) ∧ (Fr n0 L) ∧ (Keep h0 h [])
set_option maxRecDepth 65536 in
set_option maxHeartbeats 40000000 in
theorem rm0 (l : Launch) (Z : State) (a0 : Array Value) (hw : ∀ d ∈ tables_1, d.before a0 Z = true) (ws : List Jvm.Cond) (x1 : Int32) (x2 : Int32) (x3 : Int32) (x4 : Int32) (w_UNLOCKED : Addr) (w_LOCKED : Addr) (zcs : Int32) (h0 : Heap) (n0 : Nat) (Z0 : n0 ≤ h0.size) (OZ : Jvm.RoadKit.Old Z n0 h0) (PE_UNLOCKED : Exa Z Z.heap w_UNLOCKED "com/example/amberhold/amberhold/store/RetentionPolicy$Mode") (PS_UNLOCKED : Sta Z Z.heap "com/example/amberhold/amberhold/store/RetentionPolicy$Mode" "UNLOCKED" "Lcom/example/amberhold/amberhold/store/RetentionPolicy$Mode;" (.ref w_UNLOCKED)) (PE_LOCKED : Exa Z Z.heap w_LOCKED "com/example/amberhold/amberhold/store/RetentionPolicy$Mode") (PS_LOCKED : Sta Z Z.heap "com/example/amberhold/amberhold/store/RetentionPolicy$Mode" "LOCKED" "Lcom/example/amberhold/amberhold/store/RetentionPolicy$Mode;" (.ref w_LOCKED)) (SCompact : Sta Z Z.heap "java/lang/String" "COMPACT_STRINGS" "Z" (.int zcs)) (hCS : ¬ zcs = 0) :
    MetFree l x (head1 (Jvm.Cond.code x code maxLocals ret :: ws) room_1) (fun a U => a = #[(.int x1), (.int x2), (.int x3), (.int x4)] ∧ Z.Warmed39 U.vm ∧ U.heap = h0 ∧ CHv Z own_EL U.vm h0) (fun _ _ _ _ _ => True) (fun _ U o U' => ∃ v L, o = .returned v ∧ Q_rm0 Z x1 x2 x3 x4 w_UNLOCKED w_LOCKED zcs h0 n0 v U'.heap L ∧ ReturnedEndW U o U' L room_1.cells room_1.slots) := by
  refine MetFree.of_bodySF (plainFor_of_name pn_0) hisR ?_
  intro p e s m args below meth c s₁ Bd hml0 hP hK
  obtain ⟨rfl, hZ, hh, CH0⟩ := hP
  have hx := Bd.exec
  have hby := Bd.bytes
  have hml : c.maxLocals = 17 := hml0
  have hown : s.vm.findClass "com/example/amberhold/amberhold/store/ContainerRecordWithDefaultPolicyPinLaw" = some m.cls := findClass_of_methodNamed Bd.named
  have hnm := (name_of_methodNamed Bd.named Bd.method).1
  have hlk := Bd.notSynchronized
  have X0 : Stand p l e room_1 (s.setVm s.vm) m #[(.int x1), (.int x2), (.int x3), (.int x4)] below meth c s₁ [] 0 0 := Stand.of_body Bd
  have e0 : s₁.heap = h0 := by rw [← hh, Bd.state]; rfl
  have N0 := Fr.nil n0
  refine Wp.goal (Post := (fun o U' => ∃ v L, o = .returned v ∧ Q_rm0 Z x1 x2 x3 x4 w_UNLOCKED w_LOCKED zcs h0 n0 v U'.heap L ∧ ReturnedEndW s o U' L room_1.cells room_1.slots)) (Wp.st (S' := s₁.setTop (mkF m 0 #[.val (.int x1), .val (.int x2), .val (.int x3), .val (.int x4), .unset, .unset, .unset, .unset, .unset, .unset, .unset, .unset, .unset, .unset, .unset, .unset, .unset] [])) (fun tt_ kk_ => castTop (ef_rm0 m x1 x2 x3 x4 ) kk_) ?_)
  have O0 : Jvm.RoadKit.Old Z n0 h0 := OZ
  have hS0 : s.Since s.vm h0.size := (State.WarmedH.refl s).since _
  have wS : ∀ d ∈ Bundle.stringAtoms, d.before a0 Z = true := fun d hd => hw d ((by decide +kernel : ∀ d ∈ Bundle.stringAtoms, d ∈ tables_1) d hd)
  have hEL := own_EW hw
  have CC0 := CHr.refl CH0
  refine Wp.st (S' := s₁.setTop (mkF m 1 #[.val (.int x1), .val (.int x2), .val (.int x3), .val (.int x4), .unset, .unset, .unset, .unset, .unset, .unset, .unset, .unset, .unset, .unset, .unset, .unset, .unset] [(.int x1)])) (fun tt_ kk_ => XS.iloadN X0.here hx rfl (hb hby at_0) rfl  kk_) ?_
  refine Wp.st (S' := s₁.setTop (mkF m 4 #[.val (.int x1), .val (.int x2), .val (.int x3), .val (.int x4), .unset, .unset, .unset, .unset, .unset, .unset, .unset, .unset, .unset, .unset, .unset, .unset, .unset] [(.int (255 : Int32)), (.int x1)])) (fun tt_ kk_ => XS.sipush X0.here hx rfl (hb hby at_1) kk_) ?_
  refine Wp.st (S' := s₁.setTop (mkF m 5 #[.val (.int x1), .val (.int x2), .val (.int x3), .val (.int x4), .unset, .unset, .unset, .unset, .unset, .unset, .unset, .unset, .unset, .unset, .unset, .unset, .unset] [(.int (x1 &&& (255 : Int32)))])) (fun tt_ kk_ => XS.iand X0.here hx rfl (hb hby at_4) rfl kk_) ?_
  refine Wp.st (S' := s₁.setTop (mkF m 6 #[.val (.int x1), .val (.int x2), .val (.int x3), .val (.int x4), .unset, .unset, .unset, .unset, .unset, .unset, .unset, .unset, .unset, .unset, .unset, .unset, .unset] [(.int ((x1 &&& (255 : Int32)).toUInt32.toUInt16.toUInt32.toInt32))])) (fun tt_ kk_ => XS.i2c X0.here hx rfl (hb hby at_5) rfl kk_) ?_
  refine Wp.st (S' := s₁.setTop (mkF m 8 #[.val (.int x1), .val (.int x2), .val (.int x3), .val (.int x4), .val (.int ((x1 &&& (255 : Int32)).toUInt32.toUInt16.toUInt32.toInt32)), .unset, .unset, .unset, .unset, .unset, .unset, .unset, .unset, .unset, .unset, .unset, .unset] [])) (fun tt_ kk_ => XS.istore X0.here hx rfl (hb hby at_6) rfl (l' := #[.val (.int x1), .val (.int x2), .val (.int x3), .val (.int x4), .val (.int ((x1 &&& (255 : Int32)).toUInt32.toUInt16.toUInt32.toInt32)), .unset, .unset, .unset, .unset, .unset, .unset, .unset, .unset, .unset, .unset, .unset, .unset]) rfl kk_) ?_
  refine Wp.st (S' := s₁.setTop (mkF m 9 #[.val (.int x1), .val (.int x2), .val (.int x3), .val (.int x4), .val (.int ((x1 &&& (255 : Int32)).toUInt32.toUInt16.toUInt32.toInt32)), .unset, .unset, .unset, .unset, .unset, .unset, .unset, .unset, .unset, .unset, .unset, .unset] [(.int x1)])) (fun tt_ kk_ => XS.iloadN X0.here hx rfl (hb hby at_8) rfl  kk_) ?_
  refine Wp.st (S' := s₁.setTop (mkF m 11 #[.val (.int x1), .val (.int x2), .val (.int x3), .val (.int x4), .val (.int ((x1 &&& (255 : Int32)).toUInt32.toUInt16.toUInt32.toInt32)), .unset, .unset, .unset, .unset, .unset, .unset, .unset, .unset, .unset, .unset, .unset, .unset] [(.int (8 : Int32)), (.int x1)])) (fun tt_ kk_ => XS.bipush X0.here hx rfl (hb hby at_9) kk_) ?_
  refine Wp.st (S' := s₁.setTop (mkF m 12 #[.val (.int x1), .val (.int x2), .val (.int x3), .val (.int x4), .val (.int ((x1 &&& (255 : Int32)).toUInt32.toUInt16.toUInt32.toInt32)), .unset, .unset, .unset, .unset, .unset, .unset, .unset, .unset, .unset, .unset, .unset, .unset] [(.int ((x1.toUInt32 >>> ((8 : Int32) &&& 31).toUInt32).toInt32))])) (fun tt_ kk_ => XS.iushr X0.here hx rfl (hb hby at_11) rfl kk_) ?_
  refine Wp.st (S' := s₁.setTop (mkF m 15 #[.val (.int x1), .val (.int x2), .val (.int x3), .val (.int x4), .val (.int ((x1 &&& (255 : Int32)).toUInt32.toUInt16.toUInt32.toInt32)), .unset, .unset, .unset, .unset, .unset, .unset, .unset, .unset, .unset, .unset, .unset, .unset] [(.int (255 : Int32)), (.int ((x1.toUInt32 >>> ((8 : Int32) &&& 31).toUInt32).toInt32))])) (fun tt_ kk_ => XS.sipush X0.here hx rfl (hb hby at_12) kk_) ?_
  refine Wp.st (S' := s₁.setTop (mkF m 16 #[.val (.int x1), .val (.int x2), .val (.int x3), .val (.int x4), .val (.int ((x1 &&& (255 : Int32)).toUInt32.toUInt16.toUInt32.toInt32)), .unset, .unset, .unset, .unset, .unset, .unset, .unset, .unset, .unset, .unset, .unset, .unset] [(.int (((x1.toUInt32 >>> ((8 : Int32) &&& 31).toUInt32).toInt32) &&& (255 : Int32)))])) (fun tt_ kk_ => XS.iand X0.here hx rfl (hb hby at_15) rfl kk_) ?_
  refine Wp.st (S' := s₁.setTop (mkF m 17 #[.val (.int x1), .val (.int x2), .val (.int x3), .val (.int x4), .val (.int ((x1 &&& (255 : Int32)).toUInt32.toUInt16.toUInt32.toInt32)), .unset, .unset, .unset, .unset, .unset, .unset, .unset, .unset, .unset, .unset, .unset, .unset] [(.int ((((x1.toUInt32 >>> ((8 : Int32) &&& 31).toUInt32).toInt32) &&& (255 : Int32)).toUInt32.toUInt16.toUInt32.toInt32))])) (fun tt_ kk_ => XS.i2c X0.here hx rfl (hb hby at_16) rfl kk_) ?_
  refine Wp.st (S' := s₁.setTop (mkF m 19 #[.val (.int x1), .val (.int x2), .val (.int x3), .val (.int x4), .val (.int ((x1 &&& (255 : Int32)).toUInt32.toUInt16.toUInt32.toInt32)), .val (.int ((((x1.toUInt32 >>> ((8 : Int32) &&& 31).toUInt32).toInt32) &&& (255 : Int32)).toUInt32.toUInt16.toUInt32.toInt32)), .unset, .unset, .unset, .unset, .unset, .unset, .unset, .unset, .unset, .unset, .unset] [])) (fun tt_ kk_ => XS.istore X0.here hx rfl (hb hby at_17) rfl (l' := #[.val (.int x1), .val (.int x2), .val (.int x3), .val (.int x4), .val (.int ((x1 &&& (255 : Int32)).toUInt32.toUInt16.toUInt32.toInt32)), .val (.int ((((x1.toUInt32 >>> ((8 : Int32) &&& 31).toUInt32).toInt32) &&& (255 : Int32)).toUInt32.toUInt16.toUInt32.toInt32)), .unset, .unset, .unset, .unset, .unset, .unset, .unset, .unset, .unset, .unset, .unset]) rfl kk_) ?_
  refine Wp.st (S' := s₁.setTop (mkF m 20 #[.val (.int x1), .val (.int x2), .val (.int x3), .val (.int x4), .val (.int ((x1 &&& (255 : Int32)).toUInt32.toUInt16.toUInt32.toInt32)), .val (.int ((((x1.toUInt32 >>> ((8 : Int32) &&& 31).toUInt32).toInt32) &&& (255 : Int32)).toUInt32.toUInt16.toUInt32.toInt32)), .unset, .unset, .unset, .unset, .unset, .unset, .unset, .unset, .unset, .unset, .unset] [(.int x2)])) (fun tt_ kk_ => XS.iloadN X0.here hx rfl (hb hby at_19) rfl  kk_) ?_
  refine Wp.st (S' := s₁.setTop (mkF m 21 #[.val (.int x1), .val (.int x2), .val (.int x3), .val (.int x4), .val (.int ((x1 &&& (255 : Int32)).toUInt32.toUInt16.toUInt32.toInt32)), .val (.int ((((x1.toUInt32 >>> ((8 : Int32) &&& 31).toUInt32).toInt32) &&& (255 : Int32)).toUInt32.toUInt16.toUInt32.toInt32)), .unset, .unset, .unset, .unset, .unset, .unset, .unset, .unset, .unset, .unset, .unset] [(.int (1 : Int32)), (.int x2)])) (fun tt_ kk_ => XS.iconst X0.here hx rfl (hb hby at_20) kk_) ?_
  refine Wp.st (S' := s₁.setTop (mkF m 22 #[.val (.int x1), .val (.int x2), .val (.int x3), .val (.int x4), .val (.int ((x1 &&& (255 : Int32)).toUInt32.toUInt16.toUInt32.toInt32)), .val (.int ((((x1.toUInt32 >>> ((8 : Int32) &&& 31).toUInt32).toInt32) &&& (255 : Int32)).toUInt32.toUInt16.toUInt32.toInt32)), .unset, .unset, .unset, .unset, .unset, .unset, .unset, .unset, .unset, .unset, .unset] [(.int ((x2.toUInt32 >>> ((1 : Int32) &&& 31).toUInt32).toInt32))])) (fun tt_ kk_ => XS.iushr X0.here hx rfl (hb hby at_21) rfl kk_) ?_
  refine Wp.st (S' := s₁.setTop (mkF m 23 #[.val (.int x1), .val (.int x2), .val (.int x3), .val (.int x4), .val (.int ((x1 &&& (255 : Int32)).toUInt32.toUInt16.toUInt32.toInt32)), .val (.int ((((x1.toUInt32 >>> ((8 : Int32) &&& 31).toUInt32).toInt32) &&& (255 : Int32)).toUInt32.toUInt16.toUInt32.toInt32)), .unset, .unset, .unset, .unset, .unset, .unset, .unset, .unset, .unset, .unset, .unset] [(.int (3 : Int32)), (.int ((x2.toUInt32 >>> ((1 : Int32) &&& 31).toUInt32).toInt32))])) (fun tt_ kk_ => XS.iconst X0.here hx rfl (hb hby at_22) kk_) ?_
  refine Wp.st (S' := s₁.setTop (mkF m 24 #[.val (.int x1), .val (.int x2), .val (.int x3), .val (.int x4), .val (.int ((x1 &&& (255 : Int32)).toUInt32.toUInt16.toUInt32.toInt32)), .val (.int ((((x1.toUInt32 >>> ((8 : Int32) &&& 31).toUInt32).toInt32) &&& (255 : Int32)).toUInt32.toUInt16.toUInt32.toInt32)), .unset, .unset, .unset, .unset, .unset, .unset, .unset, .unset, .unset, .unset, .unset] [(.int (((x2.toUInt32 >>> ((1 : Int32) &&& 31).toUInt32).toInt32) &&& (3 : Int32)))])) (fun tt_ kk_ => XS.iand X0.here hx rfl (hb hby at_23) rfl kk_) ?_
  refine Wp.st (S' := s₁.setTop (mkF m 25 #[.val (.int x1), .val (.int x2), .val (.int x3), .val (.int x4), .val (.int ((x1 &&& (255 : Int32)).toUInt32.toUInt16.toUInt32.toInt32)), .val (.int ((((x1.toUInt32 >>> ((8 : Int32) &&& 31).toUInt32).toInt32) &&& (255 : Int32)).toUInt32.toUInt16.toUInt32.toInt32)), .unset, .unset, .unset, .unset, .unset, .unset, .unset, .unset, .unset, .unset, .unset] [(.int (3 : Int32)), (.int (((x2.toUInt32 >>> ((1 : Int32) &&& 31).toUInt32).toInt32) &&& (3 : Int32)))])) (fun tt_ kk_ => XS.iconst X0.here hx rfl (hb hby at_24) kk_) ?_
  refine Wp.st (S' := s₁.setTop (mkF m 26 #[.val (.int x1), .val (.int x2), .val (.int x3), .val (.int x4), .val (.int ((x1 &&& (255 : Int32)).toUInt32.toUInt16.toUInt32.toInt32)), .val (.int ((((x1.toUInt32 >>> ((8 : Int32) &&& 31).toUInt32).toInt32) &&& (255 : Int32)).toUInt32.toUInt16.toUInt32.toInt32)), .unset, .unset, .unset, .unset, .unset, .unset, .unset, .unset, .unset, .unset, .unset] [(.int ((((x2.toUInt32 >>> ((1 : Int32) &&& 31).toUInt32).toInt32) &&& (3 : Int32)) % (3 : Int32)))])) (fun tt_ kk_ => iremM X0 hx rfl (hb hby at_25) rfl (by decide) kk_) ?_
  refine Wp.st (S' := s₁.setTop (mkF m 28 #[.val (.int x1), .val (.int x2), .val (.int x3), .val (.int x4), .val (.int ((x1 &&& (255 : Int32)).toUInt32.toUInt16.toUInt32.toInt32)), .val (.int ((((x1.toUInt32 >>> ((8 : Int32) &&& 31).toUInt32).toInt32) &&& (255 : Int32)).toUInt32.toUInt16.toUInt32.toInt32)), .val (.int ((((x2.toUInt32 >>> ((1 : Int32) &&& 31).toUInt32).toInt32) &&& (3 : Int32)) % (3 : Int32))), .unset, .unset, .unset, .unset, .unset, .unset, .unset, .unset, .unset, .unset] [])) (fun tt_ kk_ => XS.istore X0.here hx rfl (hb hby at_26) rfl (l' := #[.val (.int x1), .val (.int x2), .val (.int x3), .val (.int x4), .val (.int ((x1 &&& (255 : Int32)).toUInt32.toUInt16.toUInt32.toInt32)), .val (.int ((((x1.toUInt32 >>> ((8 : Int32) &&& 31).toUInt32).toInt32) &&& (255 : Int32)).toUInt32.toUInt16.toUInt32.toInt32)), .val (.int ((((x2.toUInt32 >>> ((1 : Int32) &&& 31).toUInt32).toInt32) &&& (3 : Int32)) % (3 : Int32))), .unset, .unset, .unset, .unset, .unset, .unset, .unset, .unset, .unset, .unset]) rfl kk_) ?_
  generalize hln : ((((x2.toUInt32 >>> ((1 : Int32) &&& 31).toUInt32).toInt32) &&& (3 : Int32)) % (3 : Int32)) = ln
  have J1 : ∀ (TJ1 : State) (loJ1 : List Loc) (hJ1 : Heap) (nm : Addr) (vmJ1 : Vm) (kJ1 : Nat) (hSJ1 : s.Since vmJ1 kJ1) (hkJ1 : kJ1 ≤ hJ1.size) (hZJ1 : Z.Warmed39 (s.setVm vmJ1).vm) (howJ1 : (s.setVm vmJ1).vm.findClass "com/example/amberhold/amberhold/store/ContainerRecordWithDefaultPolicyPinLaw" = some m.cls) (NJ1 : Fr n0 loJ1) (XJ1 : Stand p l e room_1 (s.setVm vmJ1) m #[(.int x1), (.int x2), (.int x3), (.int x4)] below meth c TJ1 loJ1 8 16) (eJ1 : TJ1.heap = hJ1) (KJ1 : Keep h0 hJ1 []) (J1_f0 : Exa Z hJ1 nm "java/lang/String"), Wp p e below (fun o U' => ∃ v L, o = .returned v ∧ Q_rm0 Z x1 x2 x3 x4 w_UNLOCKED w_LOCKED zcs h0 n0 v U'.heap L ∧ ReturnedEndW s o U' L room_1.cells room_1.slots) (TJ1.setTop (mkF m 90 #[.val (.int x1), .val (.int x2), .val (.int x3), .val (.int x4), .val (.int ((x1 &&& (255 : Int32)).toUInt32.toUInt16.toUInt32.toInt32)), .val (.int ((((x1.toUInt32 >>> ((8 : Int32) &&& 31).toUInt32).toInt32) &&& (255 : Int32)).toUInt32.toUInt16.toUInt32.toInt32)), .val (.int ln), .unset, .unset, .unset, .unset, .unset, .unset, .unset, .unset, .unset, .unset] [(.ref nm)])) := by
    intro TJ1 loJ1 hJ1 nm vmJ1 kJ1 hSJ1 hkJ1 hZJ1 howJ1 NJ1 XJ1 eJ1 KJ1 J1_f0
    have z2 := KJ1.1
    refine Wp.st (S' := TJ1.setTop (mkF m 92 #[.val (.int x1), .val (.int x2), .val (.int x3), .val (.int x4), .val (.int ((x1 &&& (255 : Int32)).toUInt32.toUInt16.toUInt32.toInt32)), .val (.int ((((x1.toUInt32 >>> ((8 : Int32) &&& 31).toUInt32).toInt32) &&& (255 : Int32)).toUInt32.toUInt16.toUInt32.toInt32)), .val (.int ln), .val (.ref nm), .unset, .unset, .unset, .unset, .unset, .unset, .unset, .unset, .unset] [])) (fun tt_ kk_ => XS.astore XJ1.here hx rfl (hb hby at_90) rfl rfl (l' := #[.val (.int x1), .val (.int x2), .val (.int x3), .val (.int x4), .val (.int ((x1 &&& (255 : Int32)).toUInt32.toUInt16.toUInt32.toInt32)), .val (.int ((((x1.toUInt32 >>> ((8 : Int32) &&& 31).toUInt32).toInt32) &&& (255 : Int32)).toUInt32.toUInt16.toUInt32.toInt32)), .val (.int ln), .val (.ref nm), .unset, .unset, .unset, .unset, .unset, .unset, .unset, .unset, .unset]) rfl kk_) ?_
    have J3 : ∀ (TJ3 : State) (loJ3 : List Loc) (wm : Int32) (NJ3 : Fr n0 loJ3) (XJ3 : Stand p l e room_1 (s.setVm vmJ1) m #[(.int x1), (.int x2), (.int x3), (.int x4)] below meth c TJ3 loJ3 8 16) (eJ3 : TJ3.heap = hJ1) (hwm : nar .boolean wm = wm), Wp p e below (fun o U' => ∃ v L, o = .returned v ∧ Q_rm0 Z x1 x2 x3 x4 w_UNLOCKED w_LOCKED zcs h0 n0 v U'.heap L ∧ ReturnedEndW s o U' L room_1.cells room_1.slots) (TJ3.setTop (mkF m 103 #[.val (.int x1), .val (.int x2), .val (.int x3), .val (.int x4), .val (.int ((x1 &&& (255 : Int32)).toUInt32.toUInt16.toUInt32.toInt32)), .val (.int ((((x1.toUInt32 >>> ((8 : Int32) &&& 31).toUInt32).toInt32) &&& (255 : Int32)).toUInt32.toUInt16.toUInt32.toInt32)), .val (.int ln), .val (.ref nm), .unset, .unset, .unset, .unset, .unset, .unset, .unset, .unset, .unset] [(.int wm)])) := by
      intro TJ3 loJ3 wm NJ3 XJ3 eJ3 hwm
      refine Wp.st (S' := TJ3.setTop (mkF m 105 #[.val (.int x1), .val (.int x2), .val (.int x3), .val (.int x4), .val (.int ((x1 &&& (255 : Int32)).toUInt32.toUInt16.toUInt32.toInt32)), .val (.int ((((x1.toUInt32 >>> ((8 : Int32) &&& 31).toUInt32).toInt32) &&& (255 : Int32)).toUInt32.toUInt16.toUInt32.toInt32)), .val (.int ln), .val (.ref nm), .val (.int wm), .unset, .unset, .unset, .unset, .unset, .unset, .unset, .unset] [])) (fun tt_ kk_ => XS.istore XJ3.here hx rfl (hb hby at_103) rfl (l' := #[.val (.int x1), .val (.int x2), .val (.int x3), .val (.int x4), .val (.int ((x1 &&& (255 : Int32)).toUInt32.toUInt16.toUInt32.toInt32)), .val (.int ((((x1.toUInt32 >>> ((8 : Int32) &&& 31).toUInt32).toInt32) &&& (255 : Int32)).toUInt32.toUInt16.toUInt32.toInt32)), .val (.int ln), .val (.ref nm), .val (.int wm), .unset, .unset, .unset, .unset, .unset, .unset, .unset, .unset]) rfl kk_) ?_
      have J4 : ∀ (TJ4 : State) (loJ4 : List Loc) (ma : Addr) (NJ4 : Fr n0 loJ4) (XJ4 : Stand p l e room_1 (s.setVm vmJ1) m #[(.int x1), (.int x2), (.int x3), (.int x4)] below meth c TJ4 loJ4 8 16) (eJ4 : TJ4.heap = hJ1) (E_ma : Exa Z Z.heap ma "com/example/amberhold/amberhold/store/RetentionPolicy$Mode"), Wp p e below (fun o U' => ∃ v L, o = .returned v ∧ Q_rm0 Z x1 x2 x3 x4 w_UNLOCKED w_LOCKED zcs h0 n0 v U'.heap L ∧ ReturnedEndW s o U' L room_1.cells room_1.slots) (TJ4.setTop (mkF m 121 #[.val (.int x1), .val (.int x2), .val (.int x3), .val (.int x4), .val (.int ((x1 &&& (255 : Int32)).toUInt32.toUInt16.toUInt32.toInt32)), .val (.int ((((x1.toUInt32 >>> ((8 : Int32) &&& 31).toUInt32).toInt32) &&& (255 : Int32)).toUInt32.toUInt16.toUInt32.toInt32)), .val (.int ln), .val (.ref nm), .val (.int wm), .unset, .unset, .unset, .unset, .unset, .unset, .unset, .unset] [(.ref ma)])) := by
        intro TJ4 loJ4 ma NJ4 XJ4 eJ4 E_ma
        refine Wp.st (S' := TJ4.setTop (mkF m 123 #[.val (.int x1), .val (.int x2), .val (.int x3), .val (.int x4), .val (.int ((x1 &&& (255 : Int32)).toUInt32.toUInt16.toUInt32.toInt32)), .val (.int ((((x1.toUInt32 >>> ((8 : Int32) &&& 31).toUInt32).toInt32) &&& (255 : Int32)).toUInt32.toUInt16.toUInt32.toInt32)), .val (.int ln), .val (.ref nm), .val (.int wm), .val (.ref ma), .unset, .unset, .unset, .unset, .unset, .unset, .unset] [])) (fun tt_ kk_ => XS.astore XJ4.here hx rfl (hb hby at_121) rfl rfl (l' := #[.val (.int x1), .val (.int x2), .val (.int x3), .val (.int x4), .val (.int ((x1 &&& (255 : Int32)).toUInt32.toUInt16.toUInt32.toInt32)), .val (.int ((((x1.toUInt32 >>> ((8 : Int32) &&& 31).toUInt32).toInt32) &&& (255 : Int32)).toUInt32.toUInt16.toUInt32.toInt32)), .val (.int ln), .val (.ref nm), .val (.int wm), .val (.ref ma), .unset, .unset, .unset, .unset, .unset, .unset, .unset]) rfl kk_) ?_
        have J5 : ∀ (TJ5 : State) (loJ5 : List Loc) (mb : Addr) (NJ5 : Fr n0 loJ5) (XJ5 : Stand p l e room_1 (s.setVm vmJ1) m #[(.int x1), (.int x2), (.int x3), (.int x4)] below meth c TJ5 loJ5 8 16) (eJ5 : TJ5.heap = hJ1) (E_mb : Exa Z Z.heap mb "com/example/amberhold/amberhold/store/RetentionPolicy$Mode"), Wp p e below (fun o U' => ∃ v L, o = .returned v ∧ Q_rm0 Z x1 x2 x3 x4 w_UNLOCKED w_LOCKED zcs h0 n0 v U'.heap L ∧ ReturnedEndW s o U' L room_1.cells room_1.slots) (TJ5.setTop (mkF m 139 #[.val (.int x1), .val (.int x2), .val (.int x3), .val (.int x4), .val (.int ((x1 &&& (255 : Int32)).toUInt32.toUInt16.toUInt32.toInt32)), .val (.int ((((x1.toUInt32 >>> ((8 : Int32) &&& 31).toUInt32).toInt32) &&& (255 : Int32)).toUInt32.toUInt16.toUInt32.toInt32)), .val (.int ln), .val (.ref nm), .val (.int wm), .val (.ref ma), .unset, .unset, .unset, .unset, .unset, .unset, .unset] [(.ref mb)])) := by
          intro TJ5 loJ5 mb NJ5 XJ5 eJ5 E_mb
          refine Wp.st (S' := TJ5.setTop (mkF m 141 #[.val (.int x1), .val (.int x2), .val (.int x3), .val (.int x4), .val (.int ((x1 &&& (255 : Int32)).toUInt32.toUInt16.toUInt32.toInt32)), .val (.int ((((x1.toUInt32 >>> ((8 : Int32) &&& 31).toUInt32).toInt32) &&& (255 : Int32)).toUInt32.toUInt16.toUInt32.toInt32)), .val (.int ln), .val (.ref nm), .val (.int wm), .val (.ref ma), .val (.ref mb), .unset, .unset, .unset, .unset, .unset, .unset] [])) (fun tt_ kk_ => XS.astore XJ5.here hx rfl (hb hby at_139) rfl rfl (l' := #[.val (.int x1), .val (.int x2), .val (.int x3), .val (.int x4), .val (.int ((x1 &&& (255 : Int32)).toUInt32.toUInt16.toUInt32.toInt32)), .val (.int ((((x1.toUInt32 >>> ((8 : Int32) &&& 31).toUInt32).toInt32) &&& (255 : Int32)).toUInt32.toUInt16.toUInt32.toInt32)), .val (.int ln), .val (.ref nm), .val (.int wm), .val (.ref ma), .val (.ref mb), .unset, .unset, .unset, .unset, .unset, .unset]) rfl kk_) ?_
          obtain ⟨T6, h6, X6, e6, E6, A6, D6, U6, st6⟩ := newO XJ5 hx hZJ1 howJ1 (hw _ (List.mem_of_getElem? (i := 33) rfl)) (hw _ (List.mem_of_getElem? (i := 34) rfl)) (hw _ (List.mem_of_getElem? (i := 35) rfl)) eJ5 (g := (mkF m 141 #[.val (.int x1), .val (.int x2), .val (.int x3), .val (.int x4), .val (.int ((x1 &&& (255 : Int32)).toUInt32.toUInt16.toUInt32.toInt32)), .val (.int ((((x1.toUInt32 >>> ((8 : Int32) &&& 31).toUInt32).toInt32) &&& (255 : Int32)).toUInt32.toUInt16.toUInt32.toInt32)), .val (.int ln), .val (.ref nm), .val (.int wm), .val (.ref ma), .val (.ref mb), .unset, .unset, .unset, .unset, .unset, .unset] [])) rfl (hb hby at_141) (by decide) (by decide)
          obtain ⟨b6, g6⟩ : ∃ z, z = hJ1.size := ⟨_, rfl⟩
          rw [← g6] at A6 D6 U6 st6
          have z7 := E6.1
          have g8 : n0 ≤ b6 := Nat.le_trans (Nat.le_trans Z0 z2) (Nat.le_of_eq g6.symm)
          have F9 : Fld Z h6 b6 "com/example/amberhold/amberhold/store/DefaultPolicy" "days" "I" (.int (0 : Int32)) := D6 (Or.inr (hw _ (List.mem_of_getElem? (i := 44) rfl))) (ty := .int) (by decide)
          have F10 : Fld Z h6 b6 "com/example/amberhold/amberhold/store/DefaultPolicy" "mode" "Lcom/example/amberhold/amberhold/store/RetentionPolicy$Mode;" .null := D6 (Or.inr (hw _ (List.mem_of_getElem? (i := 52) rfl))) (ty := (.object "com/example/amberhold/amberhold/store/RetentionPolicy$Mode")) (by decide)
          refine Wp.st (S' := T6.setTop (mkF m 144 #[.val (.int x1), .val (.int x2), .val (.int x3), .val (.int x4), .val (.int ((x1 &&& (255 : Int32)).toUInt32.toUInt16.toUInt32.toInt32)), .val (.int ((((x1.toUInt32 >>> ((8 : Int32) &&& 31).toUInt32).toInt32) &&& (255 : Int32)).toUInt32.toUInt16.toUInt32.toInt32)), .val (.int ln), .val (.ref nm), .val (.int wm), .val (.ref ma), .val (.ref mb), .unset, .unset, .unset, .unset, .unset, .unset] [(.ref b6)])) st6 ?_
          refine Wp.st (S' := T6.setTop (mkF m 145 #[.val (.int x1), .val (.int x2), .val (.int x3), .val (.int x4), .val (.int ((x1 &&& (255 : Int32)).toUInt32.toUInt16.toUInt32.toInt32)), .val (.int ((((x1.toUInt32 >>> ((8 : Int32) &&& 31).toUInt32).toInt32) &&& (255 : Int32)).toUInt32.toUInt16.toUInt32.toInt32)), .val (.int ln), .val (.ref nm), .val (.int wm), .val (.ref ma), .val (.ref mb), .unset, .unset, .unset, .unset, .unset, .unset] [(.ref b6), (.ref b6)])) (fun tt_ kk_ => XS.dup X6.here hx rfl (hb hby at_144) rfl rfl kk_) ?_
          refine Wp.st (S' := T6.setTop (mkF m 146 #[.val (.int x1), .val (.int x2), .val (.int x3), .val (.int x4), .val (.int ((x1 &&& (255 : Int32)).toUInt32.toUInt16.toUInt32.toInt32)), .val (.int ((((x1.toUInt32 >>> ((8 : Int32) &&& 31).toUInt32).toInt32) &&& (255 : Int32)).toUInt32.toUInt16.toUInt32.toInt32)), .val (.int ln), .val (.ref nm), .val (.int wm), .val (.ref ma), .val (.ref mb), .unset, .unset, .unset, .unset, .unset, .unset] [(.int (1 : Int32)), (.ref b6), (.ref b6)])) (fun tt_ kk_ => XS.iconst X6.here hx rfl (hb hby at_145) kk_) ?_
          refine Wp.st (S' := T6.setTop (mkF m 147 #[.val (.int x1), .val (.int x2), .val (.int x3), .val (.int x4), .val (.int ((x1 &&& (255 : Int32)).toUInt32.toUInt16.toUInt32.toInt32)), .val (.int ((((x1.toUInt32 >>> ((8 : Int32) &&& 31).toUInt32).toInt32) &&& (255 : Int32)).toUInt32.toUInt16.toUInt32.toInt32)), .val (.int ln), .val (.ref nm), .val (.int wm), .val (.ref ma), .val (.ref mb), .unset, .unset, .unset, .unset, .unset, .unset] [(.int x3), (.int (1 : Int32)), (.ref b6), (.ref b6)])) (fun tt_ kk_ => XS.iloadN X6.here hx rfl (hb hby at_146) rfl  kk_) ?_
          refine Wp.st (S' := T6.setTop (mkF m 149 #[.val (.int x1), .val (.int x2), .val (.int x3), .val (.int x4), .val (.int ((x1 &&& (255 : Int32)).toUInt32.toUInt16.toUInt32.toInt32)), .val (.int ((((x1.toUInt32 >>> ((8 : Int32) &&& 31).toUInt32).toInt32) &&& (255 : Int32)).toUInt32.toUInt16.toUInt32.toInt32)), .val (.int ln), .val (.ref nm), .val (.int wm), .val (.ref ma), .val (.ref mb), .unset, .unset, .unset, .unset, .unset, .unset] [(.int (2147483647 : Int32)), (.int x3), (.int (1 : Int32)), (.ref b6), (.ref b6)])) (fun tt_ kk_ => X6.ldcInt hx howJ1 (mvT hZJ1 (hw _ (List.mem_of_getElem? (i := 36) rfl))) (g := (mkF m 147 #[.val (.int x1), .val (.int x2), .val (.int x3), .val (.int x4), .val (.int ((x1 &&& (255 : Int32)).toUInt32.toUInt16.toUInt32.toInt32)), .val (.int ((((x1.toUInt32 >>> ((8 : Int32) &&& 31).toUInt32).toInt32) &&& (255 : Int32)).toUInt32.toUInt16.toUInt32.toInt32)), .val (.int ln), .val (.ref nm), .val (.int wm), .val (.ref ma), .val (.ref mb), .unset, .unset, .unset, .unset, .unset, .unset] [(.int x3), (.int (1 : Int32)), (.ref b6), (.ref b6)])) rfl (hb hby at_147) tt_ kk_) ?_
          refine Wp.st (S' := T6.setTop (mkF m 150 #[.val (.int x1), .val (.int x2), .val (.int x3), .val (.int x4), .val (.int ((x1 &&& (255 : Int32)).toUInt32.toUInt16.toUInt32.toInt32)), .val (.int ((((x1.toUInt32 >>> ((8 : Int32) &&& 31).toUInt32).toInt32) &&& (255 : Int32)).toUInt32.toUInt16.toUInt32.toInt32)), .val (.int ln), .val (.ref nm), .val (.int wm), .val (.ref ma), .val (.ref mb), .unset, .unset, .unset, .unset, .unset, .unset] [(.int (x3 &&& (2147483647 : Int32))), (.int (1 : Int32)), (.ref b6), (.ref b6)])) (fun tt_ kk_ => XS.iand X6.here hx rfl (hb hby at_149) rfl kk_) ?_
          refine Wp.st (S' := T6.setTop (mkF m 152 #[.val (.int x1), .val (.int x2), .val (.int x3), .val (.int x4), .val (.int ((x1 &&& (255 : Int32)).toUInt32.toUInt16.toUInt32.toInt32)), .val (.int ((((x1.toUInt32 >>> ((8 : Int32) &&& 31).toUInt32).toInt32) &&& (255 : Int32)).toUInt32.toUInt16.toUInt32.toInt32)), .val (.int ln), .val (.ref nm), .val (.int wm), .val (.ref ma), .val (.ref mb), .unset, .unset, .unset, .unset, .unset, .unset] [(.int (146000 : Int32)), (.int (x3 &&& (2147483647 : Int32))), (.int (1 : Int32)), (.ref b6), (.ref b6)])) (fun tt_ kk_ => X6.ldcInt hx howJ1 (mvT hZJ1 (hw _ (List.mem_of_getElem? (i := 37) rfl))) (g := (mkF m 150 #[.val (.int x1), .val (.int x2), .val (.int x3), .val (.int x4), .val (.int ((x1 &&& (255 : Int32)).toUInt32.toUInt16.toUInt32.toInt32)), .val (.int ((((x1.toUInt32 >>> ((8 : Int32) &&& 31).toUInt32).toInt32) &&& (255 : Int32)).toUInt32.toUInt16.toUInt32.toInt32)), .val (.int ln), .val (.ref nm), .val (.int wm), .val (.ref ma), .val (.ref mb), .unset, .unset, .unset, .unset, .unset, .unset] [(.int (x3 &&& (2147483647 : Int32))), (.int (1 : Int32)), (.ref b6), (.ref b6)])) rfl (hb hby at_150) tt_ kk_) ?_
          refine Wp.st (S' := T6.setTop (mkF m 153 #[.val (.int x1), .val (.int x2), .val (.int x3), .val (.int x4), .val (.int ((x1 &&& (255 : Int32)).toUInt32.toUInt16.toUInt32.toInt32)), .val (.int ((((x1.toUInt32 >>> ((8 : Int32) &&& 31).toUInt32).toInt32) &&& (255 : Int32)).toUInt32.toUInt16.toUInt32.toInt32)), .val (.int ln), .val (.ref nm), .val (.int wm), .val (.ref ma), .val (.ref mb), .unset, .unset, .unset, .unset, .unset, .unset] [(.int ((x3 &&& (2147483647 : Int32)) % (146000 : Int32))), (.int (1 : Int32)), (.ref b6), (.ref b6)])) (fun tt_ kk_ => iremM X6 hx rfl (hb hby at_152) rfl (by decide) kk_) ?_
          refine Wp.st (S' := T6.setTop (mkF m 154 #[.val (.int x1), .val (.int x2), .val (.int x3), .val (.int x4), .val (.int ((x1 &&& (255 : Int32)).toUInt32.toUInt16.toUInt32.toInt32)), .val (.int ((((x1.toUInt32 >>> ((8 : Int32) &&& 31).toUInt32).toInt32) &&& (255 : Int32)).toUInt32.toUInt16.toUInt32.toInt32)), .val (.int ln), .val (.ref nm), .val (.int wm), .val (.ref ma), .val (.ref mb), .unset, .unset, .unset, .unset, .unset, .unset] [(.int ((1 : Int32) + ((x3 &&& (2147483647 : Int32)) % (146000 : Int32)))), (.ref b6), (.ref b6)])) (fun tt_ kk_ => XS.iadd X6.here hx rfl (hb hby at_153) rfl kk_) ?_
          refine Wp.st (S' := T6.setTop (mkF m 156 #[.val (.int x1), .val (.int x2), .val (.int x3), .val (.int x4), .val (.int ((x1 &&& (255 : Int32)).toUInt32.toUInt16.toUInt32.toInt32)), .val (.int ((((x1.toUInt32 >>> ((8 : Int32) &&& 31).toUInt32).toInt32) &&& (255 : Int32)).toUInt32.toUInt16.toUInt32.toInt32)), .val (.int ln), .val (.ref nm), .val (.int wm), .val (.ref ma), .val (.ref mb), .unset, .unset, .unset, .unset, .unset, .unset] [(.ref ma), (.int ((1 : Int32) + ((x3 &&& (2147483647 : Int32)) % (146000 : Int32)))), (.ref b6), (.ref b6)])) (fun tt_ kk_ => XS.aload X6.here hx rfl (hb hby at_154) rfl rfl kk_) ?_
          have O12 := O0.keep KJ1 all0
          have O13 := O12.ext E6
          obtain ⟨vv11, _, ⟨T11, L11, k11, n11⟩, -, X11, ⟨Lc11, hQ11, l11, y11, z11⟩, st11⟩ := X6.specialBack hx (y := (⟨"com/example/amberhold/amberhold/store/DefaultPolicy", "<init>", "(ILcom/example/amberhold/amberhold/store/RetentionPolicy$Mode;)V"⟩ : MethodName)) rfl howJ1 (mvT hZJ1 (hw _ (List.mem_of_getElem? (i := 38) rfl))) (mvT hZJ1 (hw _ (List.mem_of_getElem? (i := 39) rfl))) (mvT hZJ1 (hw _ (List.mem_of_getElem? (i := 40) rfl))) (by decide) (backOf (W := 1) (rm7 l Z a0 hw [] b6 ((1 : Int32) + ((x3 &&& (2147483647 : Int32)) % (146000 : Int32))) ma h6 n0 (Nat.le_trans Z0 (Nat.le_trans z2 z7)) O13 g8 A6 F9 F10 E_ma ((own_days _).1 : ¬ (((1 : Int32) + ((x3 &&& (2147483647 : Int32)) % (146000 : Int32))) < (1 : Int32))) ((own_days _).2 : ¬ ((146000 : Int32) < ((1 : Int32) + ((x3 &&& (2147483647 : Int32)) % (146000 : Int32)))))) hZJ1 (hw _ (List.mem_of_getElem? (i := 40) rfl)) (hw _ (List.mem_of_getElem? (i := 35) rfl)) (by decide) (by decide)) (g := (mkF m 156 #[.val (.int x1), .val (.int x2), .val (.int x3), .val (.int x4), .val (.int ((x1 &&& (255 : Int32)).toUInt32.toUInt16.toUInt32.toInt32)), .val (.int ((((x1.toUInt32 >>> ((8 : Int32) &&& 31).toUInt32).toInt32) &&& (255 : Int32)).toUInt32.toUInt16.toUInt32.toInt32)), .val (.int ln), .val (.ref nm), .val (.int wm), .val (.ref ma), .val (.ref mb), .unset, .unset, .unset, .unset, .unset, .unset] [(.ref ma), (.int ((1 : Int32) + ((x3 &&& (2147483647 : Int32)) % (146000 : Int32)))), (.ref b6), (.ref b6)])) rfl (by rw [hml]; rfl) (Steps.refl _) (a := b6) (argsL := [(.int ((1 : Int32) + ((x3 &&& (2147483647 : Int32)) % (146000 : Int32)))), (.ref ma)]) (rest := [(.ref b6)]) (lenOf pd_5 rfl) rfl (by show 2 * 0 + _ ≤ _; exact Nat.le_of_eq rfl) (hb hby at_156) (fun _ _ => ⟨rfl, e6, (by decide : 9 + 0 ≤ _), (by decide : 18 + 0 ≤ _)⟩)
          dsimp only [Pt.U, Pt.locs, Pt.cells, Pt.slots] at X11 l11 y11 z11 st11 hQ11
          subst l11 y11 z11
          obtain ⟨rfl, Nq11, K11, P11_0⟩ := hQ11
          have N11 := Fr.app NJ5 Nq11
          have z14 := K11.1
          have e11 : T11.heap = T11.heap := rfl
          refine Wp.tr (S' := T11.setTop (mkF m 159 #[.val (.int x1), .val (.int x2), .val (.int x3), .val (.int x4), .val (.int ((x1 &&& (255 : Int32)).toUInt32.toUInt16.toUInt32.toInt32)), .val (.int ((((x1.toUInt32 >>> ((8 : Int32) &&& 31).toUInt32).toInt32) &&& (255 : Int32)).toUInt32.toUInt16.toUInt32.toInt32)), .val (.int ln), .val (.ref nm), .val (.int wm), .val (.ref ma), .val (.ref mb), .unset, .unset, .unset, .unset, .unset, .unset] [(.ref b6)])) st11 ?_
          refine Wp.st (S' := T11.setTop (mkF m 161 #[.val (.int x1), .val (.int x2), .val (.int x3), .val (.int x4), .val (.int ((x1 &&& (255 : Int32)).toUInt32.toUInt16.toUInt32.toInt32)), .val (.int ((((x1.toUInt32 >>> ((8 : Int32) &&& 31).toUInt32).toInt32) &&& (255 : Int32)).toUInt32.toUInt16.toUInt32.toInt32)), .val (.int ln), .val (.ref nm), .val (.int wm), .val (.ref ma), .val (.ref mb), .val (.ref b6), .unset, .unset, .unset, .unset, .unset] [])) (fun tt_ kk_ => XS.astore X11.here hx rfl (hb hby at_159) rfl rfl (l' := #[.val (.int x1), .val (.int x2), .val (.int x3), .val (.int x4), .val (.int ((x1 &&& (255 : Int32)).toUInt32.toUInt16.toUInt32.toInt32)), .val (.int ((((x1.toUInt32 >>> ((8 : Int32) &&& 31).toUInt32).toInt32) &&& (255 : Int32)).toUInt32.toUInt16.toUInt32.toInt32)), .val (.int ln), .val (.ref nm), .val (.int wm), .val (.ref ma), .val (.ref mb), .val (.ref b6), .unset, .unset, .unset, .unset, .unset]) rfl kk_) ?_
          obtain ⟨T15, h15, X15, e15, E15, A15, D15, U15, st15⟩ := newO X11 hx hZJ1 howJ1 (hw _ (List.mem_of_getElem? (i := 33) rfl)) (hw _ (List.mem_of_getElem? (i := 34) rfl)) (hw _ (List.mem_of_getElem? (i := 35) rfl)) e11 (g := (mkF m 161 #[.val (.int x1), .val (.int x2), .val (.int x3), .val (.int x4), .val (.int ((x1 &&& (255 : Int32)).toUInt32.toUInt16.toUInt32.toInt32)), .val (.int ((((x1.toUInt32 >>> ((8 : Int32) &&& 31).toUInt32).toInt32) &&& (255 : Int32)).toUInt32.toUInt16.toUInt32.toInt32)), .val (.int ln), .val (.ref nm), .val (.int wm), .val (.ref ma), .val (.ref mb), .val (.ref b6), .unset, .unset, .unset, .unset, .unset] [])) rfl (hb hby at_161) (by decide) (by decide)
          obtain ⟨b15, g15⟩ : ∃ z, z = T11.heap.size := ⟨_, rfl⟩
          rw [← g15] at A15 D15 U15 st15
          have z16 := E15.1
          have g17 : n0 ≤ b15 := Nat.le_trans (Nat.le_trans Z0 (Nat.le_trans (Nat.le_trans z2 z7) z14)) (Nat.le_of_eq g15.symm)
          have F18 : Fld Z h15 b15 "com/example/amberhold/amberhold/store/DefaultPolicy" "days" "I" (.int (0 : Int32)) := D15 (Or.inr (hw _ (List.mem_of_getElem? (i := 44) rfl))) (ty := .int) (by decide)
          have F19 : Fld Z h15 b15 "com/example/amberhold/amberhold/store/DefaultPolicy" "mode" "Lcom/example/amberhold/amberhold/store/RetentionPolicy$Mode;" .null := D15 (Or.inr (hw _ (List.mem_of_getElem? (i := 52) rfl))) (ty := (.object "com/example/amberhold/amberhold/store/RetentionPolicy$Mode")) (by decide)
          refine Wp.st (S' := T15.setTop (mkF m 164 #[.val (.int x1), .val (.int x2), .val (.int x3), .val (.int x4), .val (.int ((x1 &&& (255 : Int32)).toUInt32.toUInt16.toUInt32.toInt32)), .val (.int ((((x1.toUInt32 >>> ((8 : Int32) &&& 31).toUInt32).toInt32) &&& (255 : Int32)).toUInt32.toUInt16.toUInt32.toInt32)), .val (.int ln), .val (.ref nm), .val (.int wm), .val (.ref ma), .val (.ref mb), .val (.ref b6), .unset, .unset, .unset, .unset, .unset] [(.ref b15)])) st15 ?_
          refine Wp.st (S' := T15.setTop (mkF m 165 #[.val (.int x1), .val (.int x2), .val (.int x3), .val (.int x4), .val (.int ((x1 &&& (255 : Int32)).toUInt32.toUInt16.toUInt32.toInt32)), .val (.int ((((x1.toUInt32 >>> ((8 : Int32) &&& 31).toUInt32).toInt32) &&& (255 : Int32)).toUInt32.toUInt16.toUInt32.toInt32)), .val (.int ln), .val (.ref nm), .val (.int wm), .val (.ref ma), .val (.ref mb), .val (.ref b6), .unset, .unset, .unset, .unset, .unset] [(.ref b15), (.ref b15)])) (fun tt_ kk_ => XS.dup X15.here hx rfl (hb hby at_164) rfl rfl kk_) ?_
          refine Wp.st (S' := T15.setTop (mkF m 166 #[.val (.int x1), .val (.int x2), .val (.int x3), .val (.int x4), .val (.int ((x1 &&& (255 : Int32)).toUInt32.toUInt16.toUInt32.toInt32)), .val (.int ((((x1.toUInt32 >>> ((8 : Int32) &&& 31).toUInt32).toInt32) &&& (255 : Int32)).toUInt32.toUInt16.toUInt32.toInt32)), .val (.int ln), .val (.ref nm), .val (.int wm), .val (.ref ma), .val (.ref mb), .val (.ref b6), .unset, .unset, .unset, .unset, .unset] [(.int (1 : Int32)), (.ref b15), (.ref b15)])) (fun tt_ kk_ => XS.iconst X15.here hx rfl (hb hby at_165) kk_) ?_
          refine Wp.st (S' := T15.setTop (mkF m 167 #[.val (.int x1), .val (.int x2), .val (.int x3), .val (.int x4), .val (.int ((x1 &&& (255 : Int32)).toUInt32.toUInt16.toUInt32.toInt32)), .val (.int ((((x1.toUInt32 >>> ((8 : Int32) &&& 31).toUInt32).toInt32) &&& (255 : Int32)).toUInt32.toUInt16.toUInt32.toInt32)), .val (.int ln), .val (.ref nm), .val (.int wm), .val (.ref ma), .val (.ref mb), .val (.ref b6), .unset, .unset, .unset, .unset, .unset] [(.int x4), (.int (1 : Int32)), (.ref b15), (.ref b15)])) (fun tt_ kk_ => XS.iloadN X15.here hx rfl (hb hby at_166) rfl  kk_) ?_
          refine Wp.st (S' := T15.setTop (mkF m 169 #[.val (.int x1), .val (.int x2), .val (.int x3), .val (.int x4), .val (.int ((x1 &&& (255 : Int32)).toUInt32.toUInt16.toUInt32.toInt32)), .val (.int ((((x1.toUInt32 >>> ((8 : Int32) &&& 31).toUInt32).toInt32) &&& (255 : Int32)).toUInt32.toUInt16.toUInt32.toInt32)), .val (.int ln), .val (.ref nm), .val (.int wm), .val (.ref ma), .val (.ref mb), .val (.ref b6), .unset, .unset, .unset, .unset, .unset] [(.int (2147483647 : Int32)), (.int x4), (.int (1 : Int32)), (.ref b15), (.ref b15)])) (fun tt_ kk_ => X15.ldcInt hx howJ1 (mvT hZJ1 (hw _ (List.mem_of_getElem? (i := 36) rfl))) (g := (mkF m 167 #[.val (.int x1), .val (.int x2), .val (.int x3), .val (.int x4), .val (.int ((x1 &&& (255 : Int32)).toUInt32.toUInt16.toUInt32.toInt32)), .val (.int ((((x1.toUInt32 >>> ((8 : Int32) &&& 31).toUInt32).toInt32) &&& (255 : Int32)).toUInt32.toUInt16.toUInt32.toInt32)), .val (.int ln), .val (.ref nm), .val (.int wm), .val (.ref ma), .val (.ref mb), .val (.ref b6), .unset, .unset, .unset, .unset, .unset] [(.int x4), (.int (1 : Int32)), (.ref b15), (.ref b15)])) rfl (hb hby at_167) tt_ kk_) ?_
          refine Wp.st (S' := T15.setTop (mkF m 170 #[.val (.int x1), .val (.int x2), .val (.int x3), .val (.int x4), .val (.int ((x1 &&& (255 : Int32)).toUInt32.toUInt16.toUInt32.toInt32)), .val (.int ((((x1.toUInt32 >>> ((8 : Int32) &&& 31).toUInt32).toInt32) &&& (255 : Int32)).toUInt32.toUInt16.toUInt32.toInt32)), .val (.int ln), .val (.ref nm), .val (.int wm), .val (.ref ma), .val (.ref mb), .val (.ref b6), .unset, .unset, .unset, .unset, .unset] [(.int (x4 &&& (2147483647 : Int32))), (.int (1 : Int32)), (.ref b15), (.ref b15)])) (fun tt_ kk_ => XS.iand X15.here hx rfl (hb hby at_169) rfl kk_) ?_
          refine Wp.st (S' := T15.setTop (mkF m 172 #[.val (.int x1), .val (.int x2), .val (.int x3), .val (.int x4), .val (.int ((x1 &&& (255 : Int32)).toUInt32.toUInt16.toUInt32.toInt32)), .val (.int ((((x1.toUInt32 >>> ((8 : Int32) &&& 31).toUInt32).toInt32) &&& (255 : Int32)).toUInt32.toUInt16.toUInt32.toInt32)), .val (.int ln), .val (.ref nm), .val (.int wm), .val (.ref ma), .val (.ref mb), .val (.ref b6), .unset, .unset, .unset, .unset, .unset] [(.int (146000 : Int32)), (.int (x4 &&& (2147483647 : Int32))), (.int (1 : Int32)), (.ref b15), (.ref b15)])) (fun tt_ kk_ => X15.ldcInt hx howJ1 (mvT hZJ1 (hw _ (List.mem_of_getElem? (i := 37) rfl))) (g := (mkF m 170 #[.val (.int x1), .val (.int x2), .val (.int x3), .val (.int x4), .val (.int ((x1 &&& (255 : Int32)).toUInt32.toUInt16.toUInt32.toInt32)), .val (.int ((((x1.toUInt32 >>> ((8 : Int32) &&& 31).toUInt32).toInt32) &&& (255 : Int32)).toUInt32.toUInt16.toUInt32.toInt32)), .val (.int ln), .val (.ref nm), .val (.int wm), .val (.ref ma), .val (.ref mb), .val (.ref b6), .unset, .unset, .unset, .unset, .unset] [(.int (x4 &&& (2147483647 : Int32))), (.int (1 : Int32)), (.ref b15), (.ref b15)])) rfl (hb hby at_170) tt_ kk_) ?_
          refine Wp.st (S' := T15.setTop (mkF m 173 #[.val (.int x1), .val (.int x2), .val (.int x3), .val (.int x4), .val (.int ((x1 &&& (255 : Int32)).toUInt32.toUInt16.toUInt32.toInt32)), .val (.int ((((x1.toUInt32 >>> ((8 : Int32) &&& 31).toUInt32).toInt32) &&& (255 : Int32)).toUInt32.toUInt16.toUInt32.toInt32)), .val (.int ln), .val (.ref nm), .val (.int wm), .val (.ref ma), .val (.ref mb), .val (.ref b6), .unset, .unset, .unset, .unset, .unset] [(.int ((x4 &&& (2147483647 : Int32)) % (146000 : Int32))), (.int (1 : Int32)), (.ref b15), (.ref b15)])) (fun tt_ kk_ => iremM X15 hx rfl (hb hby at_172) rfl (by decide) kk_) ?_
          refine Wp.st (S' := T15.setTop (mkF m 174 #[.val (.int x1), .val (.int x2), .val (.int x3), .val (.int x4), .val (.int ((x1 &&& (255 : Int32)).toUInt32.toUInt16.toUInt32.toInt32)), .val (.int ((((x1.toUInt32 >>> ((8 : Int32) &&& 31).toUInt32).toInt32) &&& (255 : Int32)).toUInt32.toUInt16.toUInt32.toInt32)), .val (.int ln), .val (.ref nm), .val (.int wm), .val (.ref ma), .val (.ref mb), .val (.ref b6), .unset, .unset, .unset, .unset, .unset] [(.int ((1 : Int32) + ((x4 &&& (2147483647 : Int32)) % (146000 : Int32)))), (.ref b15), (.ref b15)])) (fun tt_ kk_ => XS.iadd X15.here hx rfl (hb hby at_173) rfl kk_) ?_
          refine Wp.st (S' := T15.setTop (mkF m 176 #[.val (.int x1), .val (.int x2), .val (.int x3), .val (.int x4), .val (.int ((x1 &&& (255 : Int32)).toUInt32.toUInt16.toUInt32.toInt32)), .val (.int ((((x1.toUInt32 >>> ((8 : Int32) &&& 31).toUInt32).toInt32) &&& (255 : Int32)).toUInt32.toUInt16.toUInt32.toInt32)), .val (.int ln), .val (.ref nm), .val (.int wm), .val (.ref ma), .val (.ref mb), .val (.ref b6), .unset, .unset, .unset, .unset, .unset] [(.ref mb), (.int ((1 : Int32) + ((x4 &&& (2147483647 : Int32)) % (146000 : Int32)))), (.ref b15), (.ref b15)])) (fun tt_ kk_ => XS.aload X15.here hx rfl (hb hby at_174) rfl rfl kk_) ?_
          have O21 := O13.keep K11 (allS g8 all0)
          have O22 := O21.ext E15
          obtain ⟨vv20, _, ⟨T20, L20, k20, n20⟩, -, X20, ⟨Lc20, hQ20, l20, y20, z20⟩, st20⟩ := X15.specialBack hx (y := (⟨"com/example/amberhold/amberhold/store/DefaultPolicy", "<init>", "(ILcom/example/amberhold/amberhold/store/RetentionPolicy$Mode;)V"⟩ : MethodName)) rfl howJ1 (mvT hZJ1 (hw _ (List.mem_of_getElem? (i := 38) rfl))) (mvT hZJ1 (hw _ (List.mem_of_getElem? (i := 39) rfl))) (mvT hZJ1 (hw _ (List.mem_of_getElem? (i := 40) rfl))) (by decide) (backOf (W := 1) (rm7 l Z a0 hw [] b15 ((1 : Int32) + ((x4 &&& (2147483647 : Int32)) % (146000 : Int32))) mb h15 n0 (Nat.le_trans Z0 (Nat.le_trans (Nat.le_trans (Nat.le_trans z2 z7) z14) z16)) O22 g17 A15 F18 F19 E_mb ((own_days _).1 : ¬ (((1 : Int32) + ((x4 &&& (2147483647 : Int32)) % (146000 : Int32))) < (1 : Int32))) ((own_days _).2 : ¬ ((146000 : Int32) < ((1 : Int32) + ((x4 &&& (2147483647 : Int32)) % (146000 : Int32)))))) hZJ1 (hw _ (List.mem_of_getElem? (i := 40) rfl)) (hw _ (List.mem_of_getElem? (i := 35) rfl)) (by decide) (by decide)) (g := (mkF m 176 #[.val (.int x1), .val (.int x2), .val (.int x3), .val (.int x4), .val (.int ((x1 &&& (255 : Int32)).toUInt32.toUInt16.toUInt32.toInt32)), .val (.int ((((x1.toUInt32 >>> ((8 : Int32) &&& 31).toUInt32).toInt32) &&& (255 : Int32)).toUInt32.toUInt16.toUInt32.toInt32)), .val (.int ln), .val (.ref nm), .val (.int wm), .val (.ref ma), .val (.ref mb), .val (.ref b6), .unset, .unset, .unset, .unset, .unset] [(.ref mb), (.int ((1 : Int32) + ((x4 &&& (2147483647 : Int32)) % (146000 : Int32)))), (.ref b15), (.ref b15)])) rfl (by rw [hml]; rfl) (Steps.refl _) (a := b15) (argsL := [(.int ((1 : Int32) + ((x4 &&& (2147483647 : Int32)) % (146000 : Int32)))), (.ref mb)]) (rest := [(.ref b15)]) (lenOf pd_5 rfl) rfl (by show 2 * 0 + _ ≤ _; exact Nat.le_of_eq rfl) (hb hby at_176) (fun _ _ => ⟨rfl, e15, (by decide : 10 + 0 ≤ _), (by decide : 20 + 0 ≤ _)⟩)
          dsimp only [Pt.U, Pt.locs, Pt.cells, Pt.slots] at X20 l20 y20 z20 st20 hQ20
          subst l20 y20 z20
          obtain ⟨rfl, Nq20, K20, P20_0⟩ := hQ20
          have N20 := Fr.app N11 Nq20
          have z23 := K20.1
          have e20 : T20.heap = T20.heap := rfl
          refine Wp.tr (S' := T20.setTop (mkF m 179 #[.val (.int x1), .val (.int x2), .val (.int x3), .val (.int x4), .val (.int ((x1 &&& (255 : Int32)).toUInt32.toUInt16.toUInt32.toInt32)), .val (.int ((((x1.toUInt32 >>> ((8 : Int32) &&& 31).toUInt32).toInt32) &&& (255 : Int32)).toUInt32.toUInt16.toUInt32.toInt32)), .val (.int ln), .val (.ref nm), .val (.int wm), .val (.ref ma), .val (.ref mb), .val (.ref b6), .unset, .unset, .unset, .unset, .unset] [(.ref b15)])) st20 ?_
          refine Wp.st (S' := T20.setTop (mkF m 181 #[.val (.int x1), .val (.int x2), .val (.int x3), .val (.int x4), .val (.int ((x1 &&& (255 : Int32)).toUInt32.toUInt16.toUInt32.toInt32)), .val (.int ((((x1.toUInt32 >>> ((8 : Int32) &&& 31).toUInt32).toInt32) &&& (255 : Int32)).toUInt32.toUInt16.toUInt32.toInt32)), .val (.int ln), .val (.ref nm), .val (.int wm), .val (.ref ma), .val (.ref mb), .val (.ref b6), .val (.ref b15), .unset, .unset, .unset, .unset] [])) (fun tt_ kk_ => XS.astore X20.here hx rfl (hb hby at_179) rfl rfl (l' := #[.val (.int x1), .val (.int x2), .val (.int x3), .val (.int x4), .val (.int ((x1 &&& (255 : Int32)).toUInt32.toUInt16.toUInt32.toInt32)), .val (.int ((((x1.toUInt32 >>> ((8 : Int32) &&& 31).toUInt32).toInt32) &&& (255 : Int32)).toUInt32.toUInt16.toUInt32.toInt32)), .val (.int ln), .val (.ref nm), .val (.int wm), .val (.ref ma), .val (.ref mb), .val (.ref b6), .val (.ref b15), .unset, .unset, .unset, .unset]) rfl kk_) ?_
          have J24 : ∀ (TJ24 : State) (loJ24 : List Loc) (vo : Value) (NJ24 : Fr n0 loJ24) (XJ24 : Stand p l e room_1 (s.setVm vmJ1) m #[(.int x1), (.int x2), (.int x3), (.int x4)] below meth c TJ24 loJ24 10 20) (eJ24 : TJ24.heap = T20.heap) (hvo : Value.isRef vo = true), Wp p e below (fun o U' => ∃ v L, o = .returned v ∧ Q_rm0 Z x1 x2 x3 x4 w_UNLOCKED w_LOCKED zcs h0 n0 v U'.heap L ∧ ReturnedEndW s o U' L room_1.cells room_1.slots) (TJ24.setTop (mkF m 194 #[.val (.int x1), .val (.int x2), .val (.int x3), .val (.int x4), .val (.int ((x1 &&& (255 : Int32)).toUInt32.toUInt16.toUInt32.toInt32)), .val (.int ((((x1.toUInt32 >>> ((8 : Int32) &&& 31).toUInt32).toInt32) &&& (255 : Int32)).toUInt32.toUInt16.toUInt32.toInt32)), .val (.int ln), .val (.ref nm), .val (.int wm), .val (.ref ma), .val (.ref mb), .val (.ref b6), .val (.ref b15), .unset, .unset, .unset, .unset] [vo])) := by
            intro TJ24 loJ24 vo NJ24 XJ24 eJ24 hvo
            refine Wp.st (S' := TJ24.setTop (mkF m 196 #[.val (.int x1), .val (.int x2), .val (.int x3), .val (.int x4), .val (.int ((x1 &&& (255 : Int32)).toUInt32.toUInt16.toUInt32.toInt32)), .val (.int ((((x1.toUInt32 >>> ((8 : Int32) &&& 31).toUInt32).toInt32) &&& (255 : Int32)).toUInt32.toUInt16.toUInt32.toInt32)), .val (.int ln), .val (.ref nm), .val (.int wm), .val (.ref ma), .val (.ref mb), .val (.ref b6), .val (.ref b15), .val vo, .unset, .unset, .unset] [])) (fun tt_ kk_ => XS.astoreS XJ24.here hx rfl (hb hby at_194) rfl hvo (own_cat1 hvo) rfl (Or.inl rfl) kk_) ?_
            have J25 : ∀ (TJ25 : State) (loJ25 : List Loc) (vn : Value) (NJ25 : Fr n0 loJ25) (XJ25 : Stand p l e room_1 (s.setVm vmJ1) m #[(.int x1), (.int x2), (.int x3), (.int x4)] below meth c TJ25 loJ25 10 20) (eJ25 : TJ25.heap = T20.heap) (hvn : Value.isRef vn = true), Wp p e below (fun o U' => ∃ v L, o = .returned v ∧ Q_rm0 Z x1 x2 x3 x4 w_UNLOCKED w_LOCKED zcs h0 n0 v U'.heap L ∧ ReturnedEndW s o U' L room_1.cells room_1.slots) (TJ25.setTop (mkF m 209 #[.val (.int x1), .val (.int x2), .val (.int x3), .val (.int x4), .val (.int ((x1 &&& (255 : Int32)).toUInt32.toUInt16.toUInt32.toInt32)), .val (.int ((((x1.toUInt32 >>> ((8 : Int32) &&& 31).toUInt32).toInt32) &&& (255 : Int32)).toUInt32.toUInt16.toUInt32.toInt32)), .val (.int ln), .val (.ref nm), .val (.int wm), .val (.ref ma), .val (.ref mb), .val (.ref b6), .val (.ref b15), .val vo, .unset, .unset, .unset] [vn])) := by
              intro TJ25 loJ25 vn NJ25 XJ25 eJ25 hvn
              refine Wp.st (S' := TJ25.setTop (mkF m 211 #[.val (.int x1), .val (.int x2), .val (.int x3), .val (.int x4), .val (.int ((x1 &&& (255 : Int32)).toUInt32.toUInt16.toUInt32.toInt32)), .val (.int ((((x1.toUInt32 >>> ((8 : Int32) &&& 31).toUInt32).toInt32) &&& (255 : Int32)).toUInt32.toUInt16.toUInt32.toInt32)), .val (.int ln), .val (.ref nm), .val (.int wm), .val (.ref ma), .val (.ref mb), .val (.ref b6), .val (.ref b15), .val vo, .val vn, .unset, .unset] [])) (fun tt_ kk_ => XS.astoreS XJ25.here hx rfl (hb hby at_209) rfl hvn (own_cat1 hvn) rfl (Or.inl rfl) kk_) ?_
              obtain ⟨T26, h26, X26, e26, E26, A26, D26, U26, st26⟩ := newO XJ25 hx hZJ1 howJ1 (hw _ (List.mem_of_getElem? (i := 53) rfl)) (hw _ (List.mem_of_getElem? (i := 54) rfl)) (hw _ (List.mem_of_getElem? (i := 55) rfl)) eJ25 (g := (mkF m 211 #[.val (.int x1), .val (.int x2), .val (.int x3), .val (.int x4), .val (.int ((x1 &&& (255 : Int32)).toUInt32.toUInt16.toUInt32.toInt32)), .val (.int ((((x1.toUInt32 >>> ((8 : Int32) &&& 31).toUInt32).toInt32) &&& (255 : Int32)).toUInt32.toUInt16.toUInt32.toInt32)), .val (.int ln), .val (.ref nm), .val (.int wm), .val (.ref ma), .val (.ref mb), .val (.ref b6), .val (.ref b15), .val vo, .val vn, .unset, .unset] [])) rfl (hb hby at_211) (by decide) (by decide)
              obtain ⟨b26, g26⟩ : ∃ z, z = T20.heap.size := ⟨_, rfl⟩
              rw [← g26] at A26 D26 U26 st26
              have z27 := E26.1
              have g28 : n0 ≤ b26 := Nat.le_trans (Nat.le_trans Z0 (Nat.le_trans (Nat.le_trans (Nat.le_trans (Nat.le_trans z2 z7) z14) z16) z23)) (Nat.le_of_eq g26.symm)
              have F29 : Fld Z h26 b26 "com/example/amberhold/amberhold/store/SettingsRecord" "name" "Ljava/lang/String;" .null := D26 (Or.inr (hw _ (List.mem_of_getElem? (i := 66) rfl))) (ty := (.object "java/lang/String")) (by decide)
              have F30 : Fld Z h26 b26 "com/example/amberhold/amberhold/store/SettingsRecord" "versionLevelWorm" "Z" (.int (0 : Int32)) := D26 (Or.inr (hw _ (List.mem_of_getElem? (i := 68) rfl))) (ty := .boolean) (by decide)
              have F31 : Fld Z h26 b26 "com/example/amberhold/amberhold/store/SettingsRecord" "defaultPolicy" "Lcom/example/amberhold/amberhold/store/DefaultPolicy;" .null := D26 (Or.inr (hw _ (List.mem_of_getElem? (i := 70) rfl))) (ty := (.object "com/example/amberhold/amberhold/store/DefaultPolicy")) (by decide)
              refine Wp.st (S' := T26.setTop (mkF m 214 #[.val (.int x1), .val (.int x2), .val (.int x3), .val (.int x4), .val (.int ((x1 &&& (255 : Int32)).toUInt32.toUInt16.toUInt32.toInt32)), .val (.int ((((x1.toUInt32 >>> ((8 : Int32) &&& 31).toUInt32).toInt32) &&& (255 : Int32)).toUInt32.toUInt16.toUInt32.toInt32)), .val (.int ln), .val (.ref nm), .val (.int wm), .val (.ref ma), .val (.ref mb), .val (.ref b6), .val (.ref b15), .val vo, .val vn, .unset, .unset] [(.ref b26)])) st26 ?_
              refine Wp.st (S' := T26.setTop (mkF m 215 #[.val (.int x1), .val (.int x2), .val (.int x3), .val (.int x4), .val (.int ((x1 &&& (255 : Int32)).toUInt32.toUInt16.toUInt32.toInt32)), .val (.int ((((x1.toUInt32 >>> ((8 : Int32) &&& 31).toUInt32).toInt32) &&& (255 : Int32)).toUInt32.toUInt16.toUInt32.toInt32)), .val (.int ln), .val (.ref nm), .val (.int wm), .val (.ref ma), .val (.ref mb), .val (.ref b6), .val (.ref b15), .val vo, .val vn, .unset, .unset] [(.ref b26), (.ref b26)])) (fun tt_ kk_ => XS.dup X26.here hx rfl (hb hby at_214) rfl rfl kk_) ?_
              refine Wp.st (S' := T26.setTop (mkF m 217 #[.val (.int x1), .val (.int x2), .val (.int x3), .val (.int x4), .val (.int ((x1 &&& (255 : Int32)).toUInt32.toUInt16.toUInt32.toInt32)), .val (.int ((((x1.toUInt32 >>> ((8 : Int32) &&& 31).toUInt32).toInt32) &&& (255 : Int32)).toUInt32.toUInt16.toUInt32.toInt32)), .val (.int ln), .val (.ref nm), .val (.int wm), .val (.ref ma), .val (.ref mb), .val (.ref b6), .val (.ref b15), .val vo, .val vn, .unset, .unset] [(.ref nm), (.ref b26), (.ref b26)])) (fun tt_ kk_ => XS.aload X26.here hx rfl (hb hby at_215) rfl rfl kk_) ?_
              refine Wp.st (S' := T26.setTop (mkF m 219 #[.val (.int x1), .val (.int x2), .val (.int x3), .val (.int x4), .val (.int ((x1 &&& (255 : Int32)).toUInt32.toUInt16.toUInt32.toInt32)), .val (.int ((((x1.toUInt32 >>> ((8 : Int32) &&& 31).toUInt32).toInt32) &&& (255 : Int32)).toUInt32.toUInt16.toUInt32.toInt32)), .val (.int ln), .val (.ref nm), .val (.int wm), .val (.ref ma), .val (.ref mb), .val (.ref b6), .val (.ref b15), .val vo, .val vn, .unset, .unset] [(.int wm), (.ref nm), (.ref b26), (.ref b26)])) (fun tt_ kk_ => XS.iload X26.here hx rfl (hb hby at_217) rfl  kk_) ?_
              refine Wp.st (S' := T26.setTop (mkF m 221 #[.val (.int x1), .val (.int x2), .val (.int x3), .val (.int x4), .val (.int ((x1 &&& (255 : Int32)).toUInt32.toUInt16.toUInt32.toInt32)), .val (.int ((((x1.toUInt32 >>> ((8 : Int32) &&& 31).toUInt32).toInt32) &&& (255 : Int32)).toUInt32.toUInt16.toUInt32.toInt32)), .val (.int ln), .val (.ref nm), .val (.int wm), .val (.ref ma), .val (.ref mb), .val (.ref b6), .val (.ref b15), .val vo, .val vn, .unset, .unset] [vo, (.int wm), (.ref nm), (.ref b26), (.ref b26)])) (fun tt_ kk_ => XS.aload X26.here hx rfl (hb hby at_219) rfl hvo kk_) ?_
              obtain ⟨vv32, _, ⟨T32, L32, k32, n32⟩, -, X32, ⟨Lc32, hQ32, l32, y32, z32⟩, st32⟩ := X26.specialBack hx (y := (⟨"com/example/amberhold/amberhold/store/ContainerRecord", "<init>", "(Ljava/lang/String;ZLcom/example/amberhold/amberhold/store/DefaultPolicy;)V"⟩ : MethodName)) rfl howJ1 (mvT hZJ1 (hw _ (List.mem_of_getElem? (i := 56) rfl))) (mvT hZJ1 (hw _ (List.mem_of_getElem? (i := 57) rfl))) (mvT hZJ1 (hw _ (List.mem_of_getElem? (i := 58) rfl))) (by decide) (backOf (W := 1) (rm9 l Z a0 hw [] b26 nm wm vo h26 n0 (Nat.le_trans Z0 (Nat.le_trans (Nat.le_trans (Nat.le_trans (Nat.le_trans (Nat.le_trans z2 z7) z14) z16) z23) z27)) hvo ((by first | assumption | rfl) : nar .boolean wm = wm) g28 A26 F29 F30 F31) hZJ1 (hw _ (List.mem_of_getElem? (i := 58) rfl)) (hw _ (List.mem_of_getElem? (i := 55) rfl)) (by decide) (by decide)) (g := (mkF m 221 #[.val (.int x1), .val (.int x2), .val (.int x3), .val (.int x4), .val (.int ((x1 &&& (255 : Int32)).toUInt32.toUInt16.toUInt32.toInt32)), .val (.int ((((x1.toUInt32 >>> ((8 : Int32) &&& 31).toUInt32).toInt32) &&& (255 : Int32)).toUInt32.toUInt16.toUInt32.toInt32)), .val (.int ln), .val (.ref nm), .val (.int wm), .val (.ref ma), .val (.ref mb), .val (.ref b6), .val (.ref b15), .val vo, .val vn, .unset, .unset] [vo, (.int wm), (.ref nm), (.ref b26), (.ref b26)])) rfl (by rw [hml]; rfl) (Steps.refl _) (a := b26) (argsL := [(.ref nm), (.int wm), vo]) (rest := [(.ref b26)]) (lenOf pd_2 rfl) rfl (by show 2 * 0 + _ ≤ _; exact Nat.le_of_eq rfl) (hb hby at_221) (fun _ _ => ⟨rfl, e26, (by decide : 11 + 0 ≤ _), (by decide : 23 + 0 ≤ _)⟩)
              dsimp only [Pt.U, Pt.locs, Pt.cells, Pt.slots] at X32 l32 y32 z32 st32 hQ32
              subst l32 y32 z32
              obtain ⟨rfl, Nq32, K32, P32_0, P32_1, P32_2, P32_3⟩ := hQ32
              have N32 := Fr.app NJ25 Nq32
              have z33 := K32.1
              have e32 : T32.heap = T32.heap := rfl
              refine Wp.tr (S' := T32.setTop (mkF m 224 #[.val (.int x1), .val (.int x2), .val (.int x3), .val (.int x4), .val (.int ((x1 &&& (255 : Int32)).toUInt32.toUInt16.toUInt32.toInt32)), .val (.int ((((x1.toUInt32 >>> ((8 : Int32) &&& 31).toUInt32).toInt32) &&& (255 : Int32)).toUInt32.toUInt16.toUInt32.toInt32)), .val (.int ln), .val (.ref nm), .val (.int wm), .val (.ref ma), .val (.ref mb), .val (.ref b6), .val (.ref b15), .val vo, .val vn, .unset, .unset] [(.ref b26)])) st32 ?_
              refine Wp.st (S' := T32.setTop (mkF m 226 #[.val (.int x1), .val (.int x2), .val (.int x3), .val (.int x4), .val (.int ((x1 &&& (255 : Int32)).toUInt32.toUInt16.toUInt32.toInt32)), .val (.int ((((x1.toUInt32 >>> ((8 : Int32) &&& 31).toUInt32).toInt32) &&& (255 : Int32)).toUInt32.toUInt16.toUInt32.toInt32)), .val (.int ln), .val (.ref nm), .val (.int wm), .val (.ref ma), .val (.ref mb), .val (.ref b6), .val (.ref b15), .val vo, .val vn, .val (.ref b26), .unset] [])) (fun tt_ kk_ => XS.astore X32.here hx rfl (hb hby at_224) rfl rfl (l' := #[.val (.int x1), .val (.int x2), .val (.int x3), .val (.int x4), .val (.int ((x1 &&& (255 : Int32)).toUInt32.toUInt16.toUInt32.toInt32)), .val (.int ((((x1.toUInt32 >>> ((8 : Int32) &&& 31).toUInt32).toInt32) &&& (255 : Int32)).toUInt32.toUInt16.toUInt32.toInt32)), .val (.int ln), .val (.ref nm), .val (.int wm), .val (.ref ma), .val (.ref mb), .val (.ref b6), .val (.ref b15), .val vo, .val vn, .val (.ref b26), .unset]) rfl kk_) ?_
              refine Wp.st (S' := T32.setTop (mkF m 228 #[.val (.int x1), .val (.int x2), .val (.int x3), .val (.int x4), .val (.int ((x1 &&& (255 : Int32)).toUInt32.toUInt16.toUInt32.toInt32)), .val (.int ((((x1.toUInt32 >>> ((8 : Int32) &&& 31).toUInt32).toInt32) &&& (255 : Int32)).toUInt32.toUInt16.toUInt32.toInt32)), .val (.int ln), .val (.ref nm), .val (.int wm), .val (.ref ma), .val (.ref mb), .val (.ref b6), .val (.ref b15), .val vo, .val vn, .val (.ref b26), .unset] [(.ref b26)])) (fun tt_ kk_ => XS.aload X32.here hx rfl (hb hby at_226) rfl rfl kk_) ?_
              refine Wp.st (S' := T32.setTop (mkF m 230 #[.val (.int x1), .val (.int x2), .val (.int x3), .val (.int x4), .val (.int ((x1 &&& (255 : Int32)).toUInt32.toUInt16.toUInt32.toInt32)), .val (.int ((((x1.toUInt32 >>> ((8 : Int32) &&& 31).toUInt32).toInt32) &&& (255 : Int32)).toUInt32.toUInt16.toUInt32.toInt32)), .val (.int ln), .val (.ref nm), .val (.int wm), .val (.ref ma), .val (.ref mb), .val (.ref b6), .val (.ref b15), .val vo, .val vn, .val (.ref b26), .unset] [vn, (.ref b26)])) (fun tt_ kk_ => XS.aload X32.here hx rfl (hb hby at_228) rfl hvn kk_) ?_
              obtain ⟨cq34, kq34, q34a, q34b, q34c⟩ := isOf hZJ1 e32 P32_0
              obtain ⟨vv34, _, ⟨T34, L34, k34, n34⟩, -, X34, ⟨Lc34, hQ34, l34, y34, z34⟩, st34⟩ := X32.virtualBack hx (y := (⟨"com/example/amberhold/amberhold/store/ContainerRecord", "withDefaultPolicy", "(Lcom/example/amberhold/amberhold/store/DefaultPolicy;)Lcom/example/amberhold/amberhold/store/ContainerRecord;"⟩ : MethodName)) (z := (⟨"com/example/amberhold/amberhold/store/ContainerRecord", "withDefaultPolicy", "(Lcom/example/amberhold/amberhold/store/DefaultPolicy;)Lcom/example/amberhold/amberhold/store/ContainerRecord;"⟩ : MethodName)) howJ1 (mvT hZJ1 (hw _ (List.mem_of_getElem? (i := 71) rfl))) (mvT hZJ1 (hw _ (List.mem_of_getElem? (i := 72) rfl))) (notFace_of_selects (args := #[]) (mvT hZJ1 (hw _ (List.mem_of_getElem? (i := 74) rfl)))) (mvT hZJ1 (hw _ (List.mem_of_getElem? (i := 74) rfl))) (mvT hZJ1 (hw _ (List.mem_of_getElem? (i := 73) rfl))) (by decide) (backOf (W := 0) (rm11 l Z a0 hw [] b26 vn nm wm vo T32.heap n0 (Nat.le_trans Z0 (Nat.le_trans (Nat.le_trans (Nat.le_trans (Nat.le_trans (Nat.le_trans (Nat.le_trans z2 z7) z14) z16) z23) z27) z33)) hvn ((by first | assumption | rfl) : nar .boolean wm = wm) P32_0 P32_1 P32_2 P32_3) hZJ1 (hw _ (List.mem_of_getElem? (i := 75) rfl)) (hw _ (List.mem_of_getElem? (i := 55) rfl)) (by decide) (by decide)) q34a q34c (g := (mkF m 230 #[.val (.int x1), .val (.int x2), .val (.int x3), .val (.int x4), .val (.int ((x1 &&& (255 : Int32)).toUInt32.toUInt16.toUInt32.toInt32)), .val (.int ((((x1.toUInt32 >>> ((8 : Int32) &&& 31).toUInt32).toInt32) &&& (255 : Int32)).toUInt32.toUInt16.toUInt32.toInt32)), .val (.int ln), .val (.ref nm), .val (.int wm), .val (.ref ma), .val (.ref mb), .val (.ref b6), .val (.ref b15), .val vo, .val vn, .val (.ref b26), .unset] [vn, (.ref b26)])) rfl (by rw [hml]; rfl) (Steps.refl _) (argsL := [vn]) (rest := []) (lenOf pd_6 rfl) rfl (by show 2 * 0 + _ ≤ _; exact Nat.le_of_eq rfl) (hb hby at_230) (fun _ _ => ⟨rfl, e32, (by decide : 11 + 1 ≤ _), (by decide : 23 + 3 ≤ _)⟩)
              dsimp only [Pt.U, Pt.locs, Pt.cells, Pt.slots] at X34 l34 y34 z34 st34 hQ34
              subst l34 y34 z34
              obtain ⟨b35, rfl, Nq34, K34, P34_0, P34_1, P34_2, P34_3, P34_4⟩ := hQ34
              have N34 := Fr.app N32 Nq34
              have z36 := K34.1
              have g37 : n0 ≤ b35 := Nat.le_trans (Nat.le_trans Z0 (Nat.le_trans (Nat.le_trans (Nat.le_trans (Nat.le_trans (Nat.le_trans (Nat.le_trans z2 z7) z14) z16) z23) z27) z33)) P34_0
              have e34 : T34.heap = T34.heap := rfl
              refine Wp.tr (S' := T34.setTop (mkF m 233 #[.val (.int x1), .val (.int x2), .val (.int x3), .val (.int x4), .val (.int ((x1 &&& (255 : Int32)).toUInt32.toUInt16.toUInt32.toInt32)), .val (.int ((((x1.toUInt32 >>> ((8 : Int32) &&& 31).toUInt32).toInt32) &&& (255 : Int32)).toUInt32.toUInt16.toUInt32.toInt32)), .val (.int ln), .val (.ref nm), .val (.int wm), .val (.ref ma), .val (.ref mb), .val (.ref b6), .val (.ref b15), .val vo, .val vn, .val (.ref b26), .unset] [(.ref b35)])) st34 ?_
              refine Wp.st (S' := T34.setTop (mkF m 235 #[.val (.int x1), .val (.int x2), .val (.int x3), .val (.int x4), .val (.int ((x1 &&& (255 : Int32)).toUInt32.toUInt16.toUInt32.toInt32)), .val (.int ((((x1.toUInt32 >>> ((8 : Int32) &&& 31).toUInt32).toInt32) &&& (255 : Int32)).toUInt32.toUInt16.toUInt32.toInt32)), .val (.int ln), .val (.ref nm), .val (.int wm), .val (.ref ma), .val (.ref mb), .val (.ref b6), .val (.ref b15), .val vo, .val vn, .val (.ref b26), .val (.ref b35)] [])) (fun tt_ kk_ => XS.astore X34.here hx rfl (hb hby at_233) rfl rfl (l' := #[.val (.int x1), .val (.int x2), .val (.int x3), .val (.int x4), .val (.int ((x1 &&& (255 : Int32)).toUInt32.toUInt16.toUInt32.toInt32)), .val (.int ((((x1.toUInt32 >>> ((8 : Int32) &&& 31).toUInt32).toInt32) &&& (255 : Int32)).toUInt32.toUInt16.toUInt32.toInt32)), .val (.int ln), .val (.ref nm), .val (.int wm), .val (.ref ma), .val (.ref mb), .val (.ref b6), .val (.ref b15), .val vo, .val vn, .val (.ref b26), .val (.ref b35)]) rfl kk_) ?_
              refine Wp.st (S' := T34.setTop (mkF m 237 #[.val (.int x1), .val (.int x2), .val (.int x3), .val (.int x4), .val (.int ((x1 &&& (255 : Int32)).toUInt32.toUInt16.toUInt32.toInt32)), .val (.int ((((x1.toUInt32 >>> ((8 : Int32) &&& 31).toUInt32).toInt32) &&& (255 : Int32)).toUInt32.toUInt16.toUInt32.toInt32)), .val (.int ln), .val (.ref nm), .val (.int wm), .val (.ref ma), .val (.ref mb), .val (.ref b6), .val (.ref b15), .val vo, .val vn, .val (.ref b26), .val (.ref b35)] [(.ref b35)])) (fun tt_ kk_ => XS.aload X34.here hx rfl (hb hby at_235) rfl rfl kk_) ?_
              refine Wp.st (S' := T34.setTop (mkF m 242 #[.val (.int x1), .val (.int x2), .val (.int x3), .val (.int x4), .val (.int ((x1 &&& (255 : Int32)).toUInt32.toUInt16.toUInt32.toInt32)), .val (.int ((((x1.toUInt32 >>> ((8 : Int32) &&& 31).toUInt32).toInt32) &&& (255 : Int32)).toUInt32.toUInt16.toUInt32.toInt32)), .val (.int ln), .val (.ref nm), .val (.int wm), .val (.ref ma), .val (.ref mb), .val (.ref b6), .val (.ref b15), .val vo, .val vn, .val (.ref b26), .val (.ref b35)] [])) (fun tt_ kk_ => XS.ifnonnullYes X34.here hx rfl (pc0 := 237) (pc' := 242) rfl (hb hby at_237) rfl (by decide) (by decide) kk_) ?_
              refine Wp.st (S' := T34.setTop (mkF m 244 #[.val (.int x1), .val (.int x2), .val (.int x3), .val (.int x4), .val (.int ((x1 &&& (255 : Int32)).toUInt32.toUInt16.toUInt32.toInt32)), .val (.int ((((x1.toUInt32 >>> ((8 : Int32) &&& 31).toUInt32).toInt32) &&& (255 : Int32)).toUInt32.toUInt16.toUInt32.toInt32)), .val (.int ln), .val (.ref nm), .val (.int wm), .val (.ref ma), .val (.ref mb), .val (.ref b6), .val (.ref b15), .val vo, .val vn, .val (.ref b26), .val (.ref b35)] [(.ref b35)])) (fun tt_ kk_ => XS.aload X34.here hx rfl (hb hby at_242) rfl rfl kk_) ?_
              obtain ⟨cq38, kq38, q38a, q38b, q38c⟩ := isOf hZJ1 e34 P34_1
              obtain ⟨vv38, _, ⟨T38, L38, k38, n38⟩, -, X38, ⟨Lc38, hQ38, l38, y38, z38⟩, st38⟩ := X34.virtualBackUp hx (owner := "com/example/amberhold/amberhold/store/SettingsRecord") (x := (⟨"com/example/amberhold/amberhold/store/ContainerRecord", "name", "()Ljava/lang/String;"⟩ : MethodName)) (y := (⟨"com/example/amberhold/amberhold/store/SettingsRecord", "name", "()Ljava/lang/String;"⟩ : MethodName)) howJ1 (mvT hZJ1 (hw _ (List.mem_of_getElem? (i := 90) rfl))) (mvT hZJ1 (hw _ (List.mem_of_getElem? (i := 78) rfl))) (mvT hZJ1 (hw _ (List.mem_of_getElem? (i := 79) rfl))) (by decide) (mvT hZJ1 (hw _ (List.mem_of_getElem? (i := 81) rfl))) (mvT hZJ1 (hw _ (List.mem_of_getElem? (i := 80) rfl))) (backOf (W := 0) (rm12 l Z a0 hw [] b35 nm T34.heap n0 (Nat.le_trans Z0 (Nat.le_trans (Nat.le_trans (Nat.le_trans (Nat.le_trans (Nat.le_trans (Nat.le_trans (Nat.le_trans z2 z7) z14) z16) z23) z27) z33) z36)) P34_2) hZJ1 (hw _ (List.mem_of_getElem? (i := 82) rfl)) (hw _ (List.mem_of_getElem? (i := 62) rfl)) (by decide) (by decide)) q38a q38c (g := (mkF m 244 #[.val (.int x1), .val (.int x2), .val (.int x3), .val (.int x4), .val (.int ((x1 &&& (255 : Int32)).toUInt32.toUInt16.toUInt32.toInt32)), .val (.int ((((x1.toUInt32 >>> ((8 : Int32) &&& 31).toUInt32).toInt32) &&& (255 : Int32)).toUInt32.toUInt16.toUInt32.toInt32)), .val (.int ln), .val (.ref nm), .val (.int wm), .val (.ref ma), .val (.ref mb), .val (.ref b6), .val (.ref b15), .val vo, .val vn, .val (.ref b26), .val (.ref b35)] [(.ref b35)])) rfl (by rw [hml]; rfl) (Steps.refl _) (argsL := []) (rest := []) (lenOf pd_3 rfl) rfl (by show 2 * 0 + _ ≤ _; exact Nat.le_of_eq rfl) (hb hby at_244) (fun _ _ => ⟨rfl, e34, (by decide : 12 + 0 ≤ _), (by decide : 26 + 0 ≤ _)⟩)
              dsimp only [Pt.U, Pt.locs, Pt.cells, Pt.slots] at X38 l38 y38 z38 st38 hQ38
              subst l38 y38 z38
              obtain ⟨rfl, Nq38, e38⟩ := hQ38
              have N38 := Fr.app N34 Nq38
              refine Wp.tr (S' := T38.setTop (mkF m 247 #[.val (.int x1), .val (.int x2), .val (.int x3), .val (.int x4), .val (.int ((x1 &&& (255 : Int32)).toUInt32.toUInt16.toUInt32.toInt32)), .val (.int ((((x1.toUInt32 >>> ((8 : Int32) &&& 31).toUInt32).toInt32) &&& (255 : Int32)).toUInt32.toUInt16.toUInt32.toInt32)), .val (.int ln), .val (.ref nm), .val (.int wm), .val (.ref ma), .val (.ref mb), .val (.ref b6), .val (.ref b15), .val vo, .val vn, .val (.ref b26), .val (.ref b35)] [(.ref nm)])) st38 ?_
              refine Wp.st (S' := T38.setTop (mkF m 249 #[.val (.int x1), .val (.int x2), .val (.int x3), .val (.int x4), .val (.int ((x1 &&& (255 : Int32)).toUInt32.toUInt16.toUInt32.toInt32)), .val (.int ((((x1.toUInt32 >>> ((8 : Int32) &&& 31).toUInt32).toInt32) &&& (255 : Int32)).toUInt32.toUInt16.toUInt32.toInt32)), .val (.int ln), .val (.ref nm), .val (.int wm), .val (.ref ma), .val (.ref mb), .val (.ref b6), .val (.ref b15), .val vo, .val vn, .val (.ref b26), .val (.ref b35)] [(.ref nm), (.ref nm)])) (fun tt_ kk_ => XS.aload X38.here hx rfl (hb hby at_247) rfl rfl kk_) ?_
              have F40 := J1_f0.ext E6
              have F41 := F40.keep K11
              have F42 := F41.ext E15
              have F43 := F42.keep K20
              have F44 := F43.ext E26
              have F45 := F44.keep K32
              have F46 := F45.keep K34
              obtain ⟨cq39, kq39, q39a, q39b, q39c⟩ := isOf hZJ1 e38 F46
              obtain ⟨vv39, _, ⟨T39, L39, k39, n39⟩, -, X39, ⟨Lc39, hQ39, l39, y39, z39⟩, st39⟩ := X38.virtualBack hx (y := (⟨"java/lang/String", "equals", "(Ljava/lang/Object;)Z"⟩ : MethodName)) (z := (⟨"java/lang/String", "equals", "(Ljava/lang/Object;)Z"⟩ : MethodName)) howJ1 (mvT hZJ1 (hw _ (List.mem_of_getElem? (i := 91) rfl))) (mvT hZJ1 (hw _ (List.mem_of_getElem? (i := 92) rfl))) (notFace_of_selects (args := #[]) (mvT hZJ1 (hw _ (List.mem_of_getElem? (i := 94) rfl)))) (mvT hZJ1 (hw _ (List.mem_of_getElem? (i := 94) rfl))) (mvT hZJ1 (hw _ (List.mem_of_getElem? (i := 93) rfl))) (by decide) (backOf (W := 0) (rm14 l Z a0 hw [] nm T34.heap n0 (Nat.le_trans Z0 (Nat.le_trans (Nat.le_trans (Nat.le_trans (Nat.le_trans (Nat.le_trans (Nat.le_trans (Nat.le_trans z2 z7) z14) z16) z23) z27) z33) z36)) ) hZJ1 (hw _ (List.mem_of_getElem? (i := 95) rfl)) (hw _ (List.mem_of_getElem? (i := 2) rfl)) (by decide) (by decide)) q39a q39c (g := (mkF m 249 #[.val (.int x1), .val (.int x2), .val (.int x3), .val (.int x4), .val (.int ((x1 &&& (255 : Int32)).toUInt32.toUInt16.toUInt32.toInt32)), .val (.int ((((x1.toUInt32 >>> ((8 : Int32) &&& 31).toUInt32).toInt32) &&& (255 : Int32)).toUInt32.toUInt16.toUInt32.toInt32)), .val (.int ln), .val (.ref nm), .val (.int wm), .val (.ref ma), .val (.ref mb), .val (.ref b6), .val (.ref b15), .val vo, .val vn, .val (.ref b26), .val (.ref b35)] [(.ref nm), (.ref nm)])) rfl (by rw [hml]; rfl) (Steps.refl _) (argsL := [(.ref nm)]) (rest := []) (lenOf pd_7 rfl) rfl (by show 2 * 0 + _ ≤ _; exact Nat.le_of_eq rfl) (hb hby at_249) (fun _ _ => ⟨rfl, e38, (by decide : 12 + 0 ≤ _), (by decide : 26 + 0 ≤ _)⟩)
              dsimp only [Pt.U, Pt.locs, Pt.cells, Pt.slots] at X39 l39 y39 z39 st39 hQ39
              subst l39 y39 z39
              obtain ⟨rfl, Nq39, e39⟩ := hQ39
              have N39 := Fr.app N38 Nq39
              refine Wp.tr (S' := T39.setTop (mkF m 252 #[.val (.int x1), .val (.int x2), .val (.int x3), .val (.int x4), .val (.int ((x1 &&& (255 : Int32)).toUInt32.toUInt16.toUInt32.toInt32)), .val (.int ((((x1.toUInt32 >>> ((8 : Int32) &&& 31).toUInt32).toInt32) &&& (255 : Int32)).toUInt32.toUInt16.toUInt32.toInt32)), .val (.int ln), .val (.ref nm), .val (.int wm), .val (.ref ma), .val (.ref mb), .val (.ref b6), .val (.ref b15), .val vo, .val vn, .val (.ref b26), .val (.ref b35)] [(.int (1 : Int32))])) st39 ?_
              refine Wp.st (S' := T39.setTop (mkF m 255 #[.val (.int x1), .val (.int x2), .val (.int x3), .val (.int x4), .val (.int ((x1 &&& (255 : Int32)).toUInt32.toUInt16.toUInt32.toInt32)), .val (.int ((((x1.toUInt32 >>> ((8 : Int32) &&& 31).toUInt32).toInt32) &&& (255 : Int32)).toUInt32.toUInt16.toUInt32.toInt32)), .val (.int ln), .val (.ref nm), .val (.int wm), .val (.ref ma), .val (.ref mb), .val (.ref b6), .val (.ref b15), .val vo, .val vn, .val (.ref b26), .val (.ref b35)] [])) (fun tt_ kk_ => XS.ifNo X39.here hx rfl (hb hby at_252) rfl ((if0 _ _).trans (feq ((by decide) : ¬ ((1 : Int32) = (0 : Int32)))).1) kk_) ?_
              refine Wp.st (S' := T39.setTop (mkF m 257 #[.val (.int x1), .val (.int x2), .val (.int x3), .val (.int x4), .val (.int ((x1 &&& (255 : Int32)).toUInt32.toUInt16.toUInt32.toInt32)), .val (.int ((((x1.toUInt32 >>> ((8 : Int32) &&& 31).toUInt32).toInt32) &&& (255 : Int32)).toUInt32.toUInt16.toUInt32.toInt32)), .val (.int ln), .val (.ref nm), .val (.int wm), .val (.ref ma), .val (.ref mb), .val (.ref b6), .val (.ref b15), .val vo, .val vn, .val (.ref b26), .val (.ref b35)] [(.ref b35)])) (fun tt_ kk_ => XS.aload X39.here hx rfl (hb hby at_255) rfl rfl kk_) ?_
              obtain ⟨cq47, kq47, q47a, q47b, q47c⟩ := isOf hZJ1 e39 P34_1
              obtain ⟨vv47, _, ⟨T47, L47, k47, n47⟩, -, X47, ⟨Lc47, hQ47, l47, y47, z47⟩, st47⟩ := X39.virtualBackUp hx (owner := "com/example/amberhold/amberhold/store/SettingsRecord") (x := (⟨"com/example/amberhold/amberhold/store/ContainerRecord", "versionLevelWorm", "()Z"⟩ : MethodName)) (y := (⟨"com/example/amberhold/amberhold/store/SettingsRecord", "versionLevelWorm", "()Z"⟩ : MethodName)) howJ1 (mvT hZJ1 (hw _ (List.mem_of_getElem? (i := 96) rfl))) (mvT hZJ1 (hw _ (List.mem_of_getElem? (i := 84) rfl))) (mvT hZJ1 (hw _ (List.mem_of_getElem? (i := 85) rfl))) (by decide) (mvT hZJ1 (hw _ (List.mem_of_getElem? (i := 87) rfl))) (mvT hZJ1 (hw _ (List.mem_of_getElem? (i := 86) rfl))) (backOf (W := 0) (rm13 l Z a0 hw [] b35 wm T34.heap n0 (Nat.le_trans Z0 (Nat.le_trans (Nat.le_trans (Nat.le_trans (Nat.le_trans (Nat.le_trans (Nat.le_trans (Nat.le_trans z2 z7) z14) z16) z23) z27) z33) z36)) P34_3 ((by first | assumption | rfl) : nar .boolean wm = wm)) hZJ1 (hw _ (List.mem_of_getElem? (i := 88) rfl)) (hw _ (List.mem_of_getElem? (i := 62) rfl)) (by decide) (by decide)) q47a q47c (g := (mkF m 257 #[.val (.int x1), .val (.int x2), .val (.int x3), .val (.int x4), .val (.int ((x1 &&& (255 : Int32)).toUInt32.toUInt16.toUInt32.toInt32)), .val (.int ((((x1.toUInt32 >>> ((8 : Int32) &&& 31).toUInt32).toInt32) &&& (255 : Int32)).toUInt32.toUInt16.toUInt32.toInt32)), .val (.int ln), .val (.ref nm), .val (.int wm), .val (.ref ma), .val (.ref mb), .val (.ref b6), .val (.ref b15), .val vo, .val vn, .val (.ref b26), .val (.ref b35)] [(.ref b35)])) rfl (by rw [hml]; rfl) (Steps.refl _) (argsL := []) (rest := []) (lenOf pd_4 rfl) rfl (by show 2 * 0 + _ ≤ _; exact Nat.le_of_eq rfl) (hb hby at_257) (fun _ _ => ⟨rfl, e39, (by decide : 12 + 0 ≤ _), (by decide : 26 + 0 ≤ _)⟩)
              dsimp only [Pt.U, Pt.locs, Pt.cells, Pt.slots] at X47 l47 y47 z47 st47 hQ47
              subst l47 y47 z47
              obtain ⟨rfl, Nq47, e47⟩ := hQ47
              have N47 := Fr.app N39 Nq47
              refine Wp.tr (S' := T47.setTop (mkF m 260 #[.val (.int x1), .val (.int x2), .val (.int x3), .val (.int x4), .val (.int ((x1 &&& (255 : Int32)).toUInt32.toUInt16.toUInt32.toInt32)), .val (.int ((((x1.toUInt32 >>> ((8 : Int32) &&& 31).toUInt32).toInt32) &&& (255 : Int32)).toUInt32.toUInt16.toUInt32.toInt32)), .val (.int ln), .val (.ref nm), .val (.int wm), .val (.ref ma), .val (.ref mb), .val (.ref b6), .val (.ref b15), .val vo, .val vn, .val (.ref b26), .val (.ref b35)] [(.int wm)])) st47 ?_
              refine Wp.st (S' := T47.setTop (mkF m 262 #[.val (.int x1), .val (.int x2), .val (.int x3), .val (.int x4), .val (.int ((x1 &&& (255 : Int32)).toUInt32.toUInt16.toUInt32.toInt32)), .val (.int ((((x1.toUInt32 >>> ((8 : Int32) &&& 31).toUInt32).toInt32) &&& (255 : Int32)).toUInt32.toUInt16.toUInt32.toInt32)), .val (.int ln), .val (.ref nm), .val (.int wm), .val (.ref ma), .val (.ref mb), .val (.ref b6), .val (.ref b15), .val vo, .val vn, .val (.ref b26), .val (.ref b35)] [(.int wm), (.int wm)])) (fun tt_ kk_ => XS.iload X47.here hx rfl (hb hby at_260) rfl  kk_) ?_
              refine Wp.st (S' := T47.setTop (mkF m 265 #[.val (.int x1), .val (.int x2), .val (.int x3), .val (.int x4), .val (.int ((x1 &&& (255 : Int32)).toUInt32.toUInt16.toUInt32.toInt32)), .val (.int ((((x1.toUInt32 >>> ((8 : Int32) &&& 31).toUInt32).toInt32) &&& (255 : Int32)).toUInt32.toUInt16.toUInt32.toInt32)), .val (.int ln), .val (.ref nm), .val (.int wm), .val (.ref ma), .val (.ref mb), .val (.ref b6), .val (.ref b15), .val vo, .val vn, .val (.ref b26), .val (.ref b35)] [])) (fun tt_ kk_ => XS.icmpNo X47.here hx rfl (hb hby at_262) rfl (teq (rfl : wm = wm)).2 kk_) ?_
              refine Wp.st (S' := T47.setTop (mkF m 267 #[.val (.int x1), .val (.int x2), .val (.int x3), .val (.int x4), .val (.int ((x1 &&& (255 : Int32)).toUInt32.toUInt16.toUInt32.toInt32)), .val (.int ((((x1.toUInt32 >>> ((8 : Int32) &&& 31).toUInt32).toInt32) &&& (255 : Int32)).toUInt32.toUInt16.toUInt32.toInt32)), .val (.int ln), .val (.ref nm), .val (.int wm), .val (.ref ma), .val (.ref mb), .val (.ref b6), .val (.ref b15), .val vo, .val vn, .val (.ref b26), .val (.ref b35)] [(.ref b35)])) (fun tt_ kk_ => XS.aload X47.here hx rfl (hb hby at_265) rfl rfl kk_) ?_
              obtain ⟨cq48, kq48, q48a, q48b, q48c⟩ := isOf hZJ1 e47 P34_1
              obtain ⟨vv48, _, ⟨T48, L48, k48, n48⟩, -, X48, ⟨Lc48, hQ48, l48, y48, z48⟩, st48⟩ := X47.virtualBackUp hx (owner := "com/example/amberhold/amberhold/store/SettingsRecord") (x := (⟨"com/example/amberhold/amberhold/store/ContainerRecord", "defaultPolicy", "()Lcom/example/amberhold/amberhold/store/DefaultPolicy;"⟩ : MethodName)) (y := (⟨"com/example/amberhold/amberhold/store/SettingsRecord", "defaultPolicy", "()Lcom/example/amberhold/amberhold/store/DefaultPolicy;"⟩ : MethodName)) howJ1 (mvT hZJ1 (hw _ (List.mem_of_getElem? (i := 97) rfl))) (mvT hZJ1 (hw _ (List.mem_of_getElem? (i := 98) rfl))) (mvT hZJ1 (hw _ (List.mem_of_getElem? (i := 99) rfl))) (by decide) (mvT hZJ1 (hw _ (List.mem_of_getElem? (i := 101) rfl))) (mvT hZJ1 (hw _ (List.mem_of_getElem? (i := 100) rfl))) (backOf (W := 0) (rm15 l Z a0 hw [] b35 vn T34.heap n0 (Nat.le_trans Z0 (Nat.le_trans (Nat.le_trans (Nat.le_trans (Nat.le_trans (Nat.le_trans (Nat.le_trans (Nat.le_trans z2 z7) z14) z16) z23) z27) z33) z36)) hvn P34_4) hZJ1 (hw _ (List.mem_of_getElem? (i := 102) rfl)) (hw _ (List.mem_of_getElem? (i := 62) rfl)) (by decide) (by decide)) q48a q48c (g := (mkF m 267 #[.val (.int x1), .val (.int x2), .val (.int x3), .val (.int x4), .val (.int ((x1 &&& (255 : Int32)).toUInt32.toUInt16.toUInt32.toInt32)), .val (.int ((((x1.toUInt32 >>> ((8 : Int32) &&& 31).toUInt32).toInt32) &&& (255 : Int32)).toUInt32.toUInt16.toUInt32.toInt32)), .val (.int ln), .val (.ref nm), .val (.int wm), .val (.ref ma), .val (.ref mb), .val (.ref b6), .val (.ref b15), .val vo, .val vn, .val (.ref b26), .val (.ref b35)] [(.ref b35)])) rfl (by rw [hml]; rfl) (Steps.refl _) (argsL := []) (rest := []) (lenOf pd_8 rfl) rfl (by show 2 * 0 + _ ≤ _; exact Nat.le_of_eq rfl) (hb hby at_267) (fun _ _ => ⟨rfl, e47, (by decide : 12 + 0 ≤ _), (by decide : 26 + 0 ≤ _)⟩)
              dsimp only [Pt.U, Pt.locs, Pt.cells, Pt.slots] at X48 l48 y48 z48 st48 hQ48
              subst l48 y48 z48
              obtain ⟨rfl, Nq48, e48⟩ := hQ48
              have N48 := Fr.app N47 Nq48
              refine Wp.tr (S' := T48.setTop (mkF m 270 #[.val (.int x1), .val (.int x2), .val (.int x3), .val (.int x4), .val (.int ((x1 &&& (255 : Int32)).toUInt32.toUInt16.toUInt32.toInt32)), .val (.int ((((x1.toUInt32 >>> ((8 : Int32) &&& 31).toUInt32).toInt32) &&& (255 : Int32)).toUInt32.toUInt16.toUInt32.toInt32)), .val (.int ln), .val (.ref nm), .val (.int wm), .val (.ref ma), .val (.ref mb), .val (.ref b6), .val (.ref b15), .val vo, .val vn, .val (.ref b26), .val (.ref b35)] [vn])) st48 ?_
              refine Wp.st (S' := T48.setTop (mkF m 272 #[.val (.int x1), .val (.int x2), .val (.int x3), .val (.int x4), .val (.int ((x1 &&& (255 : Int32)).toUInt32.toUInt16.toUInt32.toInt32)), .val (.int ((((x1.toUInt32 >>> ((8 : Int32) &&& 31).toUInt32).toInt32) &&& (255 : Int32)).toUInt32.toUInt16.toUInt32.toInt32)), .val (.int ln), .val (.ref nm), .val (.int wm), .val (.ref ma), .val (.ref mb), .val (.ref b6), .val (.ref b15), .val vo, .val vn, .val (.ref b26), .val (.ref b35)] [vn, vn])) (fun tt_ kk_ => XS.aload X48.here hx rfl (hb hby at_270) rfl hvn kk_) ?_
              refine Wp.st (S' := T48.setTop (mkF m 275 #[.val (.int x1), .val (.int x2), .val (.int x3), .val (.int x4), .val (.int ((x1 &&& (255 : Int32)).toUInt32.toUInt16.toUInt32.toInt32)), .val (.int ((((x1.toUInt32 >>> ((8 : Int32) &&& 31).toUInt32).toInt32) &&& (255 : Int32)).toUInt32.toUInt16.toUInt32.toInt32)), .val (.int ln), .val (.ref nm), .val (.int wm), .val (.ref ma), .val (.ref mb), .val (.ref b6), .val (.ref b15), .val vo, .val vn, .val (.ref b26), .val (.ref b35)] [])) (fun tt_ kk_ => Jvm.RoadKit.acmp (g := (mkF m 272 #[.val (.int x1), .val (.int x2), .val (.int x3), .val (.int x4), .val (.int ((x1 &&& (255 : Int32)).toUInt32.toUInt16.toUInt32.toInt32)), .val (.int ((((x1.toUInt32 >>> ((8 : Int32) &&& 31).toUInt32).toInt32) &&& (255 : Int32)).toUInt32.toUInt16.toUInt32.toInt32)), .val (.int ln), .val (.ref nm), .val (.int wm), .val (.ref ma), .val (.ref mb), .val (.ref b6), .val (.ref b15), .val vo, .val vn, .val (.ref b26), .val (.ref b35)] [vn, vn])) X48 hx rfl hvn hvn (pc0 := 272) (pc' := 275) (same := true) rfl (hb hby at_272) rfl (decide_eq_true rfl) (by decide) (by decide) kk_) ?_
              refine Wp.st (S' := T48.setTop (mkF m 277 #[.val (.int x1), .val (.int x2), .val (.int x3), .val (.int x4), .val (.int ((x1 &&& (255 : Int32)).toUInt32.toUInt16.toUInt32.toInt32)), .val (.int ((((x1.toUInt32 >>> ((8 : Int32) &&& 31).toUInt32).toInt32) &&& (255 : Int32)).toUInt32.toUInt16.toUInt32.toInt32)), .val (.int ln), .val (.ref nm), .val (.int wm), .val (.ref ma), .val (.ref mb), .val (.ref b6), .val (.ref b15), .val vo, .val vn, .val (.ref b26), .val (.ref b35)] [(.ref b26)])) (fun tt_ kk_ => XS.aload X48.here hx rfl (hb hby at_275) rfl rfl kk_) ?_
              have F50 := P32_1.keep K34 nin0
              have F51 := P32_0.keep K34
              obtain ⟨cq49, kq49, q49a, q49b, q49c⟩ := isOf hZJ1 e48 F51
              obtain ⟨vv49, _, ⟨T49, L49, k49, n49⟩, -, X49, ⟨Lc49, hQ49, l49, y49, z49⟩, st49⟩ := X48.virtualBackUp hx (owner := "com/example/amberhold/amberhold/store/SettingsRecord") (x := (⟨"com/example/amberhold/amberhold/store/ContainerRecord", "name", "()Ljava/lang/String;"⟩ : MethodName)) (y := (⟨"com/example/amberhold/amberhold/store/SettingsRecord", "name", "()Ljava/lang/String;"⟩ : MethodName)) howJ1 (mvT hZJ1 (hw _ (List.mem_of_getElem? (i := 90) rfl))) (mvT hZJ1 (hw _ (List.mem_of_getElem? (i := 78) rfl))) (mvT hZJ1 (hw _ (List.mem_of_getElem? (i := 79) rfl))) (by decide) (mvT hZJ1 (hw _ (List.mem_of_getElem? (i := 81) rfl))) (mvT hZJ1 (hw _ (List.mem_of_getElem? (i := 80) rfl))) (backOf (W := 0) (rm12 l Z a0 hw [] b26 nm T34.heap n0 (Nat.le_trans Z0 (Nat.le_trans (Nat.le_trans (Nat.le_trans (Nat.le_trans (Nat.le_trans (Nat.le_trans (Nat.le_trans z2 z7) z14) z16) z23) z27) z33) z36)) F50) hZJ1 (hw _ (List.mem_of_getElem? (i := 82) rfl)) (hw _ (List.mem_of_getElem? (i := 62) rfl)) (by decide) (by decide)) q49a q49c (g := (mkF m 277 #[.val (.int x1), .val (.int x2), .val (.int x3), .val (.int x4), .val (.int ((x1 &&& (255 : Int32)).toUInt32.toUInt16.toUInt32.toInt32)), .val (.int ((((x1.toUInt32 >>> ((8 : Int32) &&& 31).toUInt32).toInt32) &&& (255 : Int32)).toUInt32.toUInt16.toUInt32.toInt32)), .val (.int ln), .val (.ref nm), .val (.int wm), .val (.ref ma), .val (.ref mb), .val (.ref b6), .val (.ref b15), .val vo, .val vn, .val (.ref b26), .val (.ref b35)] [(.ref b26)])) rfl (by rw [hml]; rfl) (Steps.refl _) (argsL := []) (rest := []) (lenOf pd_3 rfl) rfl (by show 2 * 0 + _ ≤ _; exact Nat.le_of_eq rfl) (hb hby at_277) (fun _ _ => ⟨rfl, e48, (by decide : 12 + 0 ≤ _), (by decide : 26 + 0 ≤ _)⟩)
              dsimp only [Pt.U, Pt.locs, Pt.cells, Pt.slots] at X49 l49 y49 z49 st49 hQ49
              subst l49 y49 z49
              obtain ⟨rfl, Nq49, e49⟩ := hQ49
              have N49 := Fr.app N48 Nq49
              refine Wp.tr (S' := T49.setTop (mkF m 280 #[.val (.int x1), .val (.int x2), .val (.int x3), .val (.int x4), .val (.int ((x1 &&& (255 : Int32)).toUInt32.toUInt16.toUInt32.toInt32)), .val (.int ((((x1.toUInt32 >>> ((8 : Int32) &&& 31).toUInt32).toInt32) &&& (255 : Int32)).toUInt32.toUInt16.toUInt32.toInt32)), .val (.int ln), .val (.ref nm), .val (.int wm), .val (.ref ma), .val (.ref mb), .val (.ref b6), .val (.ref b15), .val vo, .val vn, .val (.ref b26), .val (.ref b35)] [(.ref nm)])) st49 ?_
              refine Wp.st (S' := T49.setTop (mkF m 282 #[.val (.int x1), .val (.int x2), .val (.int x3), .val (.int x4), .val (.int ((x1 &&& (255 : Int32)).toUInt32.toUInt16.toUInt32.toInt32)), .val (.int ((((x1.toUInt32 >>> ((8 : Int32) &&& 31).toUInt32).toInt32) &&& (255 : Int32)).toUInt32.toUInt16.toUInt32.toInt32)), .val (.int ln), .val (.ref nm), .val (.int wm), .val (.ref ma), .val (.ref mb), .val (.ref b6), .val (.ref b15), .val vo, .val vn, .val (.ref b26), .val (.ref b35)] [(.ref nm), (.ref nm)])) (fun tt_ kk_ => XS.aload X49.here hx rfl (hb hby at_280) rfl rfl kk_) ?_
              obtain ⟨cq52, kq52, q52a, q52b, q52c⟩ := isOf hZJ1 e49 F46
              obtain ⟨vv52, _, ⟨T52, L52, k52, n52⟩, -, X52, ⟨Lc52, hQ52, l52, y52, z52⟩, st52⟩ := X49.virtualBack hx (y := (⟨"java/lang/String", "equals", "(Ljava/lang/Object;)Z"⟩ : MethodName)) (z := (⟨"java/lang/String", "equals", "(Ljava/lang/Object;)Z"⟩ : MethodName)) howJ1 (mvT hZJ1 (hw _ (List.mem_of_getElem? (i := 91) rfl))) (mvT hZJ1 (hw _ (List.mem_of_getElem? (i := 92) rfl))) (notFace_of_selects (args := #[]) (mvT hZJ1 (hw _ (List.mem_of_getElem? (i := 94) rfl)))) (mvT hZJ1 (hw _ (List.mem_of_getElem? (i := 94) rfl))) (mvT hZJ1 (hw _ (List.mem_of_getElem? (i := 93) rfl))) (by decide) (backOf (W := 0) (rm14 l Z a0 hw [] nm T34.heap n0 (Nat.le_trans Z0 (Nat.le_trans (Nat.le_trans (Nat.le_trans (Nat.le_trans (Nat.le_trans (Nat.le_trans (Nat.le_trans z2 z7) z14) z16) z23) z27) z33) z36)) ) hZJ1 (hw _ (List.mem_of_getElem? (i := 95) rfl)) (hw _ (List.mem_of_getElem? (i := 2) rfl)) (by decide) (by decide)) q52a q52c (g := (mkF m 282 #[.val (.int x1), .val (.int x2), .val (.int x3), .val (.int x4), .val (.int ((x1 &&& (255 : Int32)).toUInt32.toUInt16.toUInt32.toInt32)), .val (.int ((((x1.toUInt32 >>> ((8 : Int32) &&& 31).toUInt32).toInt32) &&& (255 : Int32)).toUInt32.toUInt16.toUInt32.toInt32)), .val (.int ln), .val (.ref nm), .val (.int wm), .val (.ref ma), .val (.ref mb), .val (.ref b6), .val (.ref b15), .val vo, .val vn, .val (.ref b26), .val (.ref b35)] [(.ref nm), (.ref nm)])) rfl (by rw [hml]; rfl) (Steps.refl _) (argsL := [(.ref nm)]) (rest := []) (lenOf pd_7 rfl) rfl (by show 2 * 0 + _ ≤ _; exact Nat.le_of_eq rfl) (hb hby at_282) (fun _ _ => ⟨rfl, e49, (by decide : 12 + 0 ≤ _), (by decide : 26 + 0 ≤ _)⟩)
              dsimp only [Pt.U, Pt.locs, Pt.cells, Pt.slots] at X52 l52 y52 z52 st52 hQ52
              subst l52 y52 z52
              obtain ⟨rfl, Nq52, e52⟩ := hQ52
              have N52 := Fr.app N49 Nq52
              refine Wp.tr (S' := T52.setTop (mkF m 285 #[.val (.int x1), .val (.int x2), .val (.int x3), .val (.int x4), .val (.int ((x1 &&& (255 : Int32)).toUInt32.toUInt16.toUInt32.toInt32)), .val (.int ((((x1.toUInt32 >>> ((8 : Int32) &&& 31).toUInt32).toInt32) &&& (255 : Int32)).toUInt32.toUInt16.toUInt32.toInt32)), .val (.int ln), .val (.ref nm), .val (.int wm), .val (.ref ma), .val (.ref mb), .val (.ref b6), .val (.ref b15), .val vo, .val vn, .val (.ref b26), .val (.ref b35)] [(.int (1 : Int32))])) st52 ?_
              refine Wp.st (S' := T52.setTop (mkF m 288 #[.val (.int x1), .val (.int x2), .val (.int x3), .val (.int x4), .val (.int ((x1 &&& (255 : Int32)).toUInt32.toUInt16.toUInt32.toInt32)), .val (.int ((((x1.toUInt32 >>> ((8 : Int32) &&& 31).toUInt32).toInt32) &&& (255 : Int32)).toUInt32.toUInt16.toUInt32.toInt32)), .val (.int ln), .val (.ref nm), .val (.int wm), .val (.ref ma), .val (.ref mb), .val (.ref b6), .val (.ref b15), .val vo, .val vn, .val (.ref b26), .val (.ref b35)] [])) (fun tt_ kk_ => XS.ifNo X52.here hx rfl (hb hby at_285) rfl ((if0 _ _).trans (feq ((by decide) : ¬ ((1 : Int32) = (0 : Int32)))).1) kk_) ?_
              refine Wp.st (S' := T52.setTop (mkF m 290 #[.val (.int x1), .val (.int x2), .val (.int x3), .val (.int x4), .val (.int ((x1 &&& (255 : Int32)).toUInt32.toUInt16.toUInt32.toInt32)), .val (.int ((((x1.toUInt32 >>> ((8 : Int32) &&& 31).toUInt32).toInt32) &&& (255 : Int32)).toUInt32.toUInt16.toUInt32.toInt32)), .val (.int ln), .val (.ref nm), .val (.int wm), .val (.ref ma), .val (.ref mb), .val (.ref b6), .val (.ref b15), .val vo, .val vn, .val (.ref b26), .val (.ref b35)] [(.ref b26)])) (fun tt_ kk_ => XS.aload X52.here hx rfl (hb hby at_288) rfl rfl kk_) ?_
              have F54 := P32_2.keep K34 nin0
              obtain ⟨cq53, kq53, q53a, q53b, q53c⟩ := isOf hZJ1 e52 F51
              obtain ⟨vv53, _, ⟨T53, L53, k53, n53⟩, -, X53, ⟨Lc53, hQ53, l53, y53, z53⟩, st53⟩ := X52.virtualBackUp hx (owner := "com/example/amberhold/amberhold/store/SettingsRecord") (x := (⟨"com/example/amberhold/amberhold/store/ContainerRecord", "versionLevelWorm", "()Z"⟩ : MethodName)) (y := (⟨"com/example/amberhold/amberhold/store/SettingsRecord", "versionLevelWorm", "()Z"⟩ : MethodName)) howJ1 (mvT hZJ1 (hw _ (List.mem_of_getElem? (i := 96) rfl))) (mvT hZJ1 (hw _ (List.mem_of_getElem? (i := 84) rfl))) (mvT hZJ1 (hw _ (List.mem_of_getElem? (i := 85) rfl))) (by decide) (mvT hZJ1 (hw _ (List.mem_of_getElem? (i := 87) rfl))) (mvT hZJ1 (hw _ (List.mem_of_getElem? (i := 86) rfl))) (backOf (W := 0) (rm13 l Z a0 hw [] b26 wm T34.heap n0 (Nat.le_trans Z0 (Nat.le_trans (Nat.le_trans (Nat.le_trans (Nat.le_trans (Nat.le_trans (Nat.le_trans (Nat.le_trans z2 z7) z14) z16) z23) z27) z33) z36)) F54 ((by first | assumption | rfl) : nar .boolean wm = wm)) hZJ1 (hw _ (List.mem_of_getElem? (i := 88) rfl)) (hw _ (List.mem_of_getElem? (i := 62) rfl)) (by decide) (by decide)) q53a q53c (g := (mkF m 290 #[.val (.int x1), .val (.int x2), .val (.int x3), .val (.int x4), .val (.int ((x1 &&& (255 : Int32)).toUInt32.toUInt16.toUInt32.toInt32)), .val (.int ((((x1.toUInt32 >>> ((8 : Int32) &&& 31).toUInt32).toInt32) &&& (255 : Int32)).toUInt32.toUInt16.toUInt32.toInt32)), .val (.int ln), .val (.ref nm), .val (.int wm), .val (.ref ma), .val (.ref mb), .val (.ref b6), .val (.ref b15), .val vo, .val vn, .val (.ref b26), .val (.ref b35)] [(.ref b26)])) rfl (by rw [hml]; rfl) (Steps.refl _) (argsL := []) (rest := []) (lenOf pd_4 rfl) rfl (by show 2 * 0 + _ ≤ _; exact Nat.le_of_eq rfl) (hb hby at_290) (fun _ _ => ⟨rfl, e52, (by decide : 12 + 0 ≤ _), (by decide : 26 + 0 ≤ _)⟩)
              dsimp only [Pt.U, Pt.locs, Pt.cells, Pt.slots] at X53 l53 y53 z53 st53 hQ53
              subst l53 y53 z53
              obtain ⟨rfl, Nq53, e53⟩ := hQ53
              have N53 := Fr.app N52 Nq53
              refine Wp.tr (S' := T53.setTop (mkF m 293 #[.val (.int x1), .val (.int x2), .val (.int x3), .val (.int x4), .val (.int ((x1 &&& (255 : Int32)).toUInt32.toUInt16.toUInt32.toInt32)), .val (.int ((((x1.toUInt32 >>> ((8 : Int32) &&& 31).toUInt32).toInt32) &&& (255 : Int32)).toUInt32.toUInt16.toUInt32.toInt32)), .val (.int ln), .val (.ref nm), .val (.int wm), .val (.ref ma), .val (.ref mb), .val (.ref b6), .val (.ref b15), .val vo, .val vn, .val (.ref b26), .val (.ref b35)] [(.int wm)])) st53 ?_
              refine Wp.st (S' := T53.setTop (mkF m 295 #[.val (.int x1), .val (.int x2), .val (.int x3), .val (.int x4), .val (.int ((x1 &&& (255 : Int32)).toUInt32.toUInt16.toUInt32.toInt32)), .val (.int ((((x1.toUInt32 >>> ((8 : Int32) &&& 31).toUInt32).toInt32) &&& (255 : Int32)).toUInt32.toUInt16.toUInt32.toInt32)), .val (.int ln), .val (.ref nm), .val (.int wm), .val (.ref ma), .val (.ref mb), .val (.ref b6), .val (.ref b15), .val vo, .val vn, .val (.ref b26), .val (.ref b35)] [(.int wm), (.int wm)])) (fun tt_ kk_ => XS.iload X53.here hx rfl (hb hby at_293) rfl  kk_) ?_
              refine Wp.st (S' := T53.setTop (mkF m 298 #[.val (.int x1), .val (.int x2), .val (.int x3), .val (.int x4), .val (.int ((x1 &&& (255 : Int32)).toUInt32.toUInt16.toUInt32.toInt32)), .val (.int ((((x1.toUInt32 >>> ((8 : Int32) &&& 31).toUInt32).toInt32) &&& (255 : Int32)).toUInt32.toUInt16.toUInt32.toInt32)), .val (.int ln), .val (.ref nm), .val (.int wm), .val (.ref ma), .val (.ref mb), .val (.ref b6), .val (.ref b15), .val vo, .val vn, .val (.ref b26), .val (.ref b35)] [])) (fun tt_ kk_ => XS.icmpNo X53.here hx rfl (hb hby at_295) rfl (teq (rfl : wm = wm)).2 kk_) ?_
              refine Wp.st (S' := T53.setTop (mkF m 300 #[.val (.int x1), .val (.int x2), .val (.int x3), .val (.int x4), .val (.int ((x1 &&& (255 : Int32)).toUInt32.toUInt16.toUInt32.toInt32)), .val (.int ((((x1.toUInt32 >>> ((8 : Int32) &&& 31).toUInt32).toInt32) &&& (255 : Int32)).toUInt32.toUInt16.toUInt32.toInt32)), .val (.int ln), .val (.ref nm), .val (.int wm), .val (.ref ma), .val (.ref mb), .val (.ref b6), .val (.ref b15), .val vo, .val vn, .val (.ref b26), .val (.ref b35)] [(.ref b26)])) (fun tt_ kk_ => XS.aload X53.here hx rfl (hb hby at_298) rfl rfl kk_) ?_
              have F56 := P32_3.keep K34 nin0
              obtain ⟨cq55, kq55, q55a, q55b, q55c⟩ := isOf hZJ1 e53 F51
              obtain ⟨vv55, _, ⟨T55, L55, k55, n55⟩, -, X55, ⟨Lc55, hQ55, l55, y55, z55⟩, st55⟩ := X53.virtualBackUp hx (owner := "com/example/amberhold/amberhold/store/SettingsRecord") (x := (⟨"com/example/amberhold/amberhold/store/ContainerRecord", "defaultPolicy", "()Lcom/example/amberhold/amberhold/store/DefaultPolicy;"⟩ : MethodName)) (y := (⟨"com/example/amberhold/amberhold/store/SettingsRecord", "defaultPolicy", "()Lcom/example/amberhold/amberhold/store/DefaultPolicy;"⟩ : MethodName)) howJ1 (mvT hZJ1 (hw _ (List.mem_of_getElem? (i := 97) rfl))) (mvT hZJ1 (hw _ (List.mem_of_getElem? (i := 98) rfl))) (mvT hZJ1 (hw _ (List.mem_of_getElem? (i := 99) rfl))) (by decide) (mvT hZJ1 (hw _ (List.mem_of_getElem? (i := 101) rfl))) (mvT hZJ1 (hw _ (List.mem_of_getElem? (i := 100) rfl))) (backOf (W := 0) (rm15 l Z a0 hw [] b26 vo T34.heap n0 (Nat.le_trans Z0 (Nat.le_trans (Nat.le_trans (Nat.le_trans (Nat.le_trans (Nat.le_trans (Nat.le_trans (Nat.le_trans z2 z7) z14) z16) z23) z27) z33) z36)) hvo F56) hZJ1 (hw _ (List.mem_of_getElem? (i := 102) rfl)) (hw _ (List.mem_of_getElem? (i := 62) rfl)) (by decide) (by decide)) q55a q55c (g := (mkF m 300 #[.val (.int x1), .val (.int x2), .val (.int x3), .val (.int x4), .val (.int ((x1 &&& (255 : Int32)).toUInt32.toUInt16.toUInt32.toInt32)), .val (.int ((((x1.toUInt32 >>> ((8 : Int32) &&& 31).toUInt32).toInt32) &&& (255 : Int32)).toUInt32.toUInt16.toUInt32.toInt32)), .val (.int ln), .val (.ref nm), .val (.int wm), .val (.ref ma), .val (.ref mb), .val (.ref b6), .val (.ref b15), .val vo, .val vn, .val (.ref b26), .val (.ref b35)] [(.ref b26)])) rfl (by rw [hml]; rfl) (Steps.refl _) (argsL := []) (rest := []) (lenOf pd_8 rfl) rfl (by show 2 * 0 + _ ≤ _; exact Nat.le_of_eq rfl) (hb hby at_300) (fun _ _ => ⟨rfl, e53, (by decide : 12 + 0 ≤ _), (by decide : 26 + 0 ≤ _)⟩)
              dsimp only [Pt.U, Pt.locs, Pt.cells, Pt.slots] at X55 l55 y55 z55 st55 hQ55
              subst l55 y55 z55
              obtain ⟨rfl, Nq55, e55⟩ := hQ55
              have N55 := Fr.app N53 Nq55
              refine Wp.tr (S' := T55.setTop (mkF m 303 #[.val (.int x1), .val (.int x2), .val (.int x3), .val (.int x4), .val (.int ((x1 &&& (255 : Int32)).toUInt32.toUInt16.toUInt32.toInt32)), .val (.int ((((x1.toUInt32 >>> ((8 : Int32) &&& 31).toUInt32).toInt32) &&& (255 : Int32)).toUInt32.toUInt16.toUInt32.toInt32)), .val (.int ln), .val (.ref nm), .val (.int wm), .val (.ref ma), .val (.ref mb), .val (.ref b6), .val (.ref b15), .val vo, .val vn, .val (.ref b26), .val (.ref b35)] [vo])) st55 ?_
              refine Wp.st (S' := T55.setTop (mkF m 305 #[.val (.int x1), .val (.int x2), .val (.int x3), .val (.int x4), .val (.int ((x1 &&& (255 : Int32)).toUInt32.toUInt16.toUInt32.toInt32)), .val (.int ((((x1.toUInt32 >>> ((8 : Int32) &&& 31).toUInt32).toInt32) &&& (255 : Int32)).toUInt32.toUInt16.toUInt32.toInt32)), .val (.int ln), .val (.ref nm), .val (.int wm), .val (.ref ma), .val (.ref mb), .val (.ref b6), .val (.ref b15), .val vo, .val vn, .val (.ref b26), .val (.ref b35)] [vo, vo])) (fun tt_ kk_ => XS.aload X55.here hx rfl (hb hby at_303) rfl hvo kk_) ?_
              refine Wp.st (S' := T55.setTop (mkF m 308 #[.val (.int x1), .val (.int x2), .val (.int x3), .val (.int x4), .val (.int ((x1 &&& (255 : Int32)).toUInt32.toUInt16.toUInt32.toInt32)), .val (.int ((((x1.toUInt32 >>> ((8 : Int32) &&& 31).toUInt32).toInt32) &&& (255 : Int32)).toUInt32.toUInt16.toUInt32.toInt32)), .val (.int ln), .val (.ref nm), .val (.int wm), .val (.ref ma), .val (.ref mb), .val (.ref b6), .val (.ref b15), .val vo, .val vn, .val (.ref b26), .val (.ref b35)] [])) (fun tt_ kk_ => Jvm.RoadKit.acmp (g := (mkF m 305 #[.val (.int x1), .val (.int x2), .val (.int x3), .val (.int x4), .val (.int ((x1 &&& (255 : Int32)).toUInt32.toUInt16.toUInt32.toInt32)), .val (.int ((((x1.toUInt32 >>> ((8 : Int32) &&& 31).toUInt32).toInt32) &&& (255 : Int32)).toUInt32.toUInt16.toUInt32.toInt32)), .val (.int ln), .val (.ref nm), .val (.int wm), .val (.ref ma), .val (.ref mb), .val (.ref b6), .val (.ref b15), .val vo, .val vn, .val (.ref b26), .val (.ref b35)] [vo, vo])) X55 hx rfl hvo hvo (pc0 := 305) (pc' := 308) (same := true) rfl (hb hby at_305) rfl (decide_eq_true rfl) (by decide) (by decide) kk_) ?_
              refine Wp.st (S' := T55.setTop (mkF m 309 #[.val (.int x1), .val (.int x2), .val (.int x3), .val (.int x4), .val (.int ((x1 &&& (255 : Int32)).toUInt32.toUInt16.toUInt32.toInt32)), .val (.int ((((x1.toUInt32 >>> ((8 : Int32) &&& 31).toUInt32).toInt32) &&& (255 : Int32)).toUInt32.toUInt16.toUInt32.toInt32)), .val (.int ln), .val (.ref nm), .val (.int wm), .val (.ref ma), .val (.ref mb), .val (.ref b6), .val (.ref b15), .val vo, .val vn, .val (.ref b26), .val (.ref b35)] [(.int (1 : Int32))])) (fun tt_ kk_ => XS.iconst X55.here hx rfl (hb hby at_308) kk_) ?_
              refine Wp.st (S' := T55.setTop (mkF m 313 #[.val (.int x1), .val (.int x2), .val (.int x3), .val (.int x4), .val (.int ((x1 &&& (255 : Int32)).toUInt32.toUInt16.toUInt32.toInt32)), .val (.int ((((x1.toUInt32 >>> ((8 : Int32) &&& 31).toUInt32).toInt32) &&& (255 : Int32)).toUInt32.toUInt16.toUInt32.toInt32)), .val (.int ln), .val (.ref nm), .val (.int wm), .val (.ref ma), .val (.ref mb), .val (.ref b6), .val (.ref b15), .val vo, .val vn, .val (.ref b26), .val (.ref b35)] [(.int (1 : Int32))])) (fun tt_ kk_ => XS.goto X55.here hx rfl (pc0 := 309) (pc' := 313) rfl (hb hby at_309) (by decide) (by decide) kk_) ?_
              have K57 := Keep.refl h0 []
              have K58 := K57.trans KJ1 all0
              have K59 := K58.ext E6
              have K60 := K59.trans K11 (allS (Or.inr (Nat.le_trans z2 (Nat.le_of_eq g6.symm))) all0)
              have K61 := K60.ext E15
              have K62 := K61.trans K20 (allS (Or.inr (Nat.le_trans (Nat.le_trans (Nat.le_trans z2 z7) z14) (Nat.le_of_eq g15.symm))) all0)
              have K63 := K62.ext E26
              have K64 := K63.trans K32 (allS (Or.inr (Nat.le_trans (Nat.le_trans (Nat.le_trans (Nat.le_trans (Nat.le_trans z2 z7) z14) z16) z23) (Nat.le_of_eq g26.symm))) all0)
              have K65 := K64.trans K34 all0
              exact Wp.retW X55 hlk hSJ1 (by rw [e55]; exact (Nat.le_trans hkJ1 (Nat.le_trans (Nat.le_trans (Nat.le_trans (Nat.le_trans (Nat.le_trans (Nat.le_trans z7 z14) z16) z23) z27) z33) z36))) (v := (some (.int (1 : Int32)))) (fun h => by rw [Bd.returns] at h; cases h) (fun fs hr => retN (z := (1 : Int32)) X55 hx (t := .boolean) Bd.returns (by simp) (hb hby at_313) hr) (by decide) (by decide) (show Q_rm0 Z x1 x2 x3 x4 w_UNLOCKED w_LOCKED zcs h0 n0 _ T55.heap _ by rw [e55]; exact ⟨rfl, N55, K65⟩)
            refine Wp.st (S' := TJ24.setTop (mkF m 197 #[.val (.int x1), .val (.int x2), .val (.int x3), .val (.int x4), .val (.int ((x1 &&& (255 : Int32)).toUInt32.toUInt16.toUInt32.toInt32)), .val (.int ((((x1.toUInt32 >>> ((8 : Int32) &&& 31).toUInt32).toInt32) &&& (255 : Int32)).toUInt32.toUInt16.toUInt32.toInt32)), .val (.int ln), .val (.ref nm), .val (.int wm), .val (.ref ma), .val (.ref mb), .val (.ref b6), .val (.ref b15), .val vo, .unset, .unset, .unset] [(.int x2)])) (fun tt_ kk_ => XS.iloadN XJ24.here hx rfl (hb hby at_196) rfl  kk_) ?_
            refine Wp.st (S' := TJ24.setTop (mkF m 199 #[.val (.int x1), .val (.int x2), .val (.int x3), .val (.int x4), .val (.int ((x1 &&& (255 : Int32)).toUInt32.toUInt16.toUInt32.toInt32)), .val (.int ((((x1.toUInt32 >>> ((8 : Int32) &&& 31).toUInt32).toInt32) &&& (255 : Int32)).toUInt32.toUInt16.toUInt32.toInt32)), .val (.int ln), .val (.ref nm), .val (.int wm), .val (.ref ma), .val (.ref mb), .val (.ref b6), .val (.ref b15), .val vo, .unset, .unset, .unset] [(.int (64 : Int32)), (.int x2)])) (fun tt_ kk_ => XS.bipush XJ24.here hx rfl (hb hby at_197) kk_) ?_
            refine Wp.st (S' := TJ24.setTop (mkF m 200 #[.val (.int x1), .val (.int x2), .val (.int x3), .val (.int x4), .val (.int ((x1 &&& (255 : Int32)).toUInt32.toUInt16.toUInt32.toInt32)), .val (.int ((((x1.toUInt32 >>> ((8 : Int32) &&& 31).toUInt32).toInt32) &&& (255 : Int32)).toUInt32.toUInt16.toUInt32.toInt32)), .val (.int ln), .val (.ref nm), .val (.int wm), .val (.ref ma), .val (.ref mb), .val (.ref b6), .val (.ref b15), .val vo, .unset, .unset, .unset] [(.int (x2 &&& (64 : Int32)))])) (fun tt_ kk_ => XS.iand XJ24.here hx rfl (hb hby at_199) rfl kk_) ?_
            by_cases hc66 : (x2 &&& (64 : Int32)) = (0 : Int32)
            case pos =>
              refine Wp.st (S' := TJ24.setTop (mkF m 208 #[.val (.int x1), .val (.int x2), .val (.int x3), .val (.int x4), .val (.int ((x1 &&& (255 : Int32)).toUInt32.toUInt16.toUInt32.toInt32)), .val (.int ((((x1.toUInt32 >>> ((8 : Int32) &&& 31).toUInt32).toInt32) &&& (255 : Int32)).toUInt32.toUInt16.toUInt32.toInt32)), .val (.int ln), .val (.ref nm), .val (.int wm), .val (.ref ma), .val (.ref mb), .val (.ref b6), .val (.ref b15), .val vo, .unset, .unset, .unset] [])) (fun tt_ kk_ => XS.ifYes XJ24.here hx rfl (pc0 := 200) (pc' := 208) rfl (hb hby at_200) rfl ((if0 _ _).trans (teq (hc66 : (x2 &&& (64 : Int32)) = (0 : Int32))).1) (by decide) (by decide) kk_) ?_
              refine Wp.st (S' := TJ24.setTop (mkF m 209 #[.val (.int x1), .val (.int x2), .val (.int x3), .val (.int x4), .val (.int ((x1 &&& (255 : Int32)).toUInt32.toUInt16.toUInt32.toInt32)), .val (.int ((((x1.toUInt32 >>> ((8 : Int32) &&& 31).toUInt32).toInt32) &&& (255 : Int32)).toUInt32.toUInt16.toUInt32.toInt32)), .val (.int ln), .val (.ref nm), .val (.int wm), .val (.ref ma), .val (.ref mb), .val (.ref b6), .val (.ref b15), .val vo, .unset, .unset, .unset] [.null])) (fun tt_ kk_ => XS.aconstNull XJ24.here hx rfl (hb hby at_208) kk_) ?_
              exact J25 _ _ .null NJ24 XJ24 eJ24 rfl
            case neg =>
              refine Wp.st (S' := TJ24.setTop (mkF m 203 #[.val (.int x1), .val (.int x2), .val (.int x3), .val (.int x4), .val (.int ((x1 &&& (255 : Int32)).toUInt32.toUInt16.toUInt32.toInt32)), .val (.int ((((x1.toUInt32 >>> ((8 : Int32) &&& 31).toUInt32).toInt32) &&& (255 : Int32)).toUInt32.toUInt16.toUInt32.toInt32)), .val (.int ln), .val (.ref nm), .val (.int wm), .val (.ref ma), .val (.ref mb), .val (.ref b6), .val (.ref b15), .val vo, .unset, .unset, .unset] [])) (fun tt_ kk_ => XS.ifNo XJ24.here hx rfl (hb hby at_200) rfl ((if0 _ _).trans (feq (hc66 : ¬ ((x2 &&& (64 : Int32)) = (0 : Int32)))).1) kk_) ?_
              refine Wp.st (S' := TJ24.setTop (mkF m 205 #[.val (.int x1), .val (.int x2), .val (.int x3), .val (.int x4), .val (.int ((x1 &&& (255 : Int32)).toUInt32.toUInt16.toUInt32.toInt32)), .val (.int ((((x1.toUInt32 >>> ((8 : Int32) &&& 31).toUInt32).toInt32) &&& (255 : Int32)).toUInt32.toUInt16.toUInt32.toInt32)), .val (.int ln), .val (.ref nm), .val (.int wm), .val (.ref ma), .val (.ref mb), .val (.ref b6), .val (.ref b15), .val vo, .unset, .unset, .unset] [(.ref b15)])) (fun tt_ kk_ => XS.aload XJ24.here hx rfl (hb hby at_203) rfl rfl kk_) ?_
              refine Wp.st (S' := TJ24.setTop (mkF m 209 #[.val (.int x1), .val (.int x2), .val (.int x3), .val (.int x4), .val (.int ((x1 &&& (255 : Int32)).toUInt32.toUInt16.toUInt32.toInt32)), .val (.int ((((x1.toUInt32 >>> ((8 : Int32) &&& 31).toUInt32).toInt32) &&& (255 : Int32)).toUInt32.toUInt16.toUInt32.toInt32)), .val (.int ln), .val (.ref nm), .val (.int wm), .val (.ref ma), .val (.ref mb), .val (.ref b6), .val (.ref b15), .val vo, .unset, .unset, .unset] [(.ref b15)])) (fun tt_ kk_ => XS.goto XJ24.here hx rfl (pc0 := 205) (pc' := 209) rfl (hb hby at_205) (by decide) (by decide) kk_) ?_
              exact J25 _ _ (.ref b15) NJ24 XJ24 eJ24 rfl
          refine Wp.st (S' := T20.setTop (mkF m 182 #[.val (.int x1), .val (.int x2), .val (.int x3), .val (.int x4), .val (.int ((x1 &&& (255 : Int32)).toUInt32.toUInt16.toUInt32.toInt32)), .val (.int ((((x1.toUInt32 >>> ((8 : Int32) &&& 31).toUInt32).toInt32) &&& (255 : Int32)).toUInt32.toUInt16.toUInt32.toInt32)), .val (.int ln), .val (.ref nm), .val (.int wm), .val (.ref ma), .val (.ref mb), .val (.ref b6), .val (.ref b15), .unset, .unset, .unset, .unset] [(.int x2)])) (fun tt_ kk_ => XS.iloadN X20.here hx rfl (hb hby at_181) rfl  kk_) ?_
          refine Wp.st (S' := T20.setTop (mkF m 184 #[.val (.int x1), .val (.int x2), .val (.int x3), .val (.int x4), .val (.int ((x1 &&& (255 : Int32)).toUInt32.toUInt16.toUInt32.toInt32)), .val (.int ((((x1.toUInt32 >>> ((8 : Int32) &&& 31).toUInt32).toInt32) &&& (255 : Int32)).toUInt32.toUInt16.toUInt32.toInt32)), .val (.int ln), .val (.ref nm), .val (.int wm), .val (.ref ma), .val (.ref mb), .val (.ref b6), .val (.ref b15), .unset, .unset, .unset, .unset] [(.int (32 : Int32)), (.int x2)])) (fun tt_ kk_ => XS.bipush X20.here hx rfl (hb hby at_182) kk_) ?_
          refine Wp.st (S' := T20.setTop (mkF m 185 #[.val (.int x1), .val (.int x2), .val (.int x3), .val (.int x4), .val (.int ((x1 &&& (255 : Int32)).toUInt32.toUInt16.toUInt32.toInt32)), .val (.int ((((x1.toUInt32 >>> ((8 : Int32) &&& 31).toUInt32).toInt32) &&& (255 : Int32)).toUInt32.toUInt16.toUInt32.toInt32)), .val (.int ln), .val (.ref nm), .val (.int wm), .val (.ref ma), .val (.ref mb), .val (.ref b6), .val (.ref b15), .unset, .unset, .unset, .unset] [(.int (x2 &&& (32 : Int32)))])) (fun tt_ kk_ => XS.iand X20.here hx rfl (hb hby at_184) rfl kk_) ?_
          by_cases hc67 : (x2 &&& (32 : Int32)) = (0 : Int32)
          case pos =>
            refine Wp.st (S' := T20.setTop (mkF m 193 #[.val (.int x1), .val (.int x2), .val (.int x3), .val (.int x4), .val (.int ((x1 &&& (255 : Int32)).toUInt32.toUInt16.toUInt32.toInt32)), .val (.int ((((x1.toUInt32 >>> ((8 : Int32) &&& 31).toUInt32).toInt32) &&& (255 : Int32)).toUInt32.toUInt16.toUInt32.toInt32)), .val (.int ln), .val (.ref nm), .val (.int wm), .val (.ref ma), .val (.ref mb), .val (.ref b6), .val (.ref b15), .unset, .unset, .unset, .unset] [])) (fun tt_ kk_ => XS.ifYes X20.here hx rfl (pc0 := 185) (pc' := 193) rfl (hb hby at_185) rfl ((if0 _ _).trans (teq (hc67 : (x2 &&& (32 : Int32)) = (0 : Int32))).1) (by decide) (by decide) kk_) ?_
            refine Wp.st (S' := T20.setTop (mkF m 194 #[.val (.int x1), .val (.int x2), .val (.int x3), .val (.int x4), .val (.int ((x1 &&& (255 : Int32)).toUInt32.toUInt16.toUInt32.toInt32)), .val (.int ((((x1.toUInt32 >>> ((8 : Int32) &&& 31).toUInt32).toInt32) &&& (255 : Int32)).toUInt32.toUInt16.toUInt32.toInt32)), .val (.int ln), .val (.ref nm), .val (.int wm), .val (.ref ma), .val (.ref mb), .val (.ref b6), .val (.ref b15), .unset, .unset, .unset, .unset] [.null])) (fun tt_ kk_ => XS.aconstNull X20.here hx rfl (hb hby at_193) kk_) ?_
            exact J24 _ _ .null N20 X20 e20 rfl
          case neg =>
            refine Wp.st (S' := T20.setTop (mkF m 188 #[.val (.int x1), .val (.int x2), .val (.int x3), .val (.int x4), .val (.int ((x1 &&& (255 : Int32)).toUInt32.toUInt16.toUInt32.toInt32)), .val (.int ((((x1.toUInt32 >>> ((8 : Int32) &&& 31).toUInt32).toInt32) &&& (255 : Int32)).toUInt32.toUInt16.toUInt32.toInt32)), .val (.int ln), .val (.ref nm), .val (.int wm), .val (.ref ma), .val (.ref mb), .val (.ref b6), .val (.ref b15), .unset, .unset, .unset, .unset] [])) (fun tt_ kk_ => XS.ifNo X20.here hx rfl (hb hby at_185) rfl ((if0 _ _).trans (feq (hc67 : ¬ ((x2 &&& (32 : Int32)) = (0 : Int32)))).1) kk_) ?_
            refine Wp.st (S' := T20.setTop (mkF m 190 #[.val (.int x1), .val (.int x2), .val (.int x3), .val (.int x4), .val (.int ((x1 &&& (255 : Int32)).toUInt32.toUInt16.toUInt32.toInt32)), .val (.int ((((x1.toUInt32 >>> ((8 : Int32) &&& 31).toUInt32).toInt32) &&& (255 : Int32)).toUInt32.toUInt16.toUInt32.toInt32)), .val (.int ln), .val (.ref nm), .val (.int wm), .val (.ref ma), .val (.ref mb), .val (.ref b6), .val (.ref b15), .unset, .unset, .unset, .unset] [(.ref b6)])) (fun tt_ kk_ => XS.aload X20.here hx rfl (hb hby at_188) rfl rfl kk_) ?_
            refine Wp.st (S' := T20.setTop (mkF m 194 #[.val (.int x1), .val (.int x2), .val (.int x3), .val (.int x4), .val (.int ((x1 &&& (255 : Int32)).toUInt32.toUInt16.toUInt32.toInt32)), .val (.int ((((x1.toUInt32 >>> ((8 : Int32) &&& 31).toUInt32).toInt32) &&& (255 : Int32)).toUInt32.toUInt16.toUInt32.toInt32)), .val (.int ln), .val (.ref nm), .val (.int wm), .val (.ref ma), .val (.ref mb), .val (.ref b6), .val (.ref b15), .unset, .unset, .unset, .unset] [(.ref b6)])) (fun tt_ kk_ => XS.goto X20.here hx rfl (pc0 := 190) (pc' := 194) rfl (hb hby at_190) (by decide) (by decide) kk_) ?_
            exact J24 _ _ (.ref b6) N20 X20 e20 rfl
        refine Wp.st (S' := TJ4.setTop (mkF m 124 #[.val (.int x1), .val (.int x2), .val (.int x3), .val (.int x4), .val (.int ((x1 &&& (255 : Int32)).toUInt32.toUInt16.toUInt32.toInt32)), .val (.int ((((x1.toUInt32 >>> ((8 : Int32) &&& 31).toUInt32).toInt32) &&& (255 : Int32)).toUInt32.toUInt16.toUInt32.toInt32)), .val (.int ln), .val (.ref nm), .val (.int wm), .val (.ref ma), .unset, .unset, .unset, .unset, .unset, .unset, .unset] [(.int x2)])) (fun tt_ kk_ => XS.iloadN XJ4.here hx rfl (hb hby at_123) rfl  kk_) ?_
        refine Wp.st (S' := TJ4.setTop (mkF m 126 #[.val (.int x1), .val (.int x2), .val (.int x3), .val (.int x4), .val (.int ((x1 &&& (255 : Int32)).toUInt32.toUInt16.toUInt32.toInt32)), .val (.int ((((x1.toUInt32 >>> ((8 : Int32) &&& 31).toUInt32).toInt32) &&& (255 : Int32)).toUInt32.toUInt16.toUInt32.toInt32)), .val (.int ln), .val (.ref nm), .val (.int wm), .val (.ref ma), .unset, .unset, .unset, .unset, .unset, .unset, .unset] [(.int (16 : Int32)), (.int x2)])) (fun tt_ kk_ => XS.bipush XJ4.here hx rfl (hb hby at_124) kk_) ?_
        refine Wp.st (S' := TJ4.setTop (mkF m 127 #[.val (.int x1), .val (.int x2), .val (.int x3), .val (.int x4), .val (.int ((x1 &&& (255 : Int32)).toUInt32.toUInt16.toUInt32.toInt32)), .val (.int ((((x1.toUInt32 >>> ((8 : Int32) &&& 31).toUInt32).toInt32) &&& (255 : Int32)).toUInt32.toUInt16.toUInt32.toInt32)), .val (.int ln), .val (.ref nm), .val (.int wm), .val (.ref ma), .unset, .unset, .unset, .unset, .unset, .unset, .unset] [(.int (x2 &&& (16 : Int32)))])) (fun tt_ kk_ => XS.iand XJ4.here hx rfl (hb hby at_126) rfl kk_) ?_
        by_cases hc68 : (x2 &&& (16 : Int32)) = (0 : Int32)
        case pos =>
          refine Wp.st (S' := TJ4.setTop (mkF m 136 #[.val (.int x1), .val (.int x2), .val (.int x3), .val (.int x4), .val (.int ((x1 &&& (255 : Int32)).toUInt32.toUInt16.toUInt32.toInt32)), .val (.int ((((x1.toUInt32 >>> ((8 : Int32) &&& 31).toUInt32).toInt32) &&& (255 : Int32)).toUInt32.toUInt16.toUInt32.toInt32)), .val (.int ln), .val (.ref nm), .val (.int wm), .val (.ref ma), .unset, .unset, .unset, .unset, .unset, .unset, .unset] [])) (fun tt_ kk_ => XS.ifYes XJ4.here hx rfl (pc0 := 127) (pc' := 136) rfl (hb hby at_127) rfl ((if0 _ _).trans (teq (hc68 : (x2 &&& (16 : Int32)) = (0 : Int32))).1) (by decide) (by decide) kk_) ?_
          have O69 := O0.keep KJ1 all0
          obtain ⟨T70, X70, e70, st70⟩ := getS2 XJ4 hx hZJ1 howJ1 (host := "") (Or.inl (hw _ (List.mem_of_getElem? (i := 30) rfl))) Via.refl eJ4 (PS_UNLOCKED.ext O69.2) (g := (mkF m 136 #[.val (.int x1), .val (.int x2), .val (.int x3), .val (.int x4), .val (.int ((x1 &&& (255 : Int32)).toUInt32.toUInt16.toUInt32.toInt32)), .val (.int ((((x1.toUInt32 >>> ((8 : Int32) &&& 31).toUInt32).toInt32) &&& (255 : Int32)).toUInt32.toUInt16.toUInt32.toInt32)), .val (.int ln), .val (.ref nm), .val (.int wm), .val (.ref ma), .unset, .unset, .unset, .unset, .unset, .unset, .unset] [])) rfl (hb hby at_136)
          refine Wp.st (S' := T70.setTop (mkF m 139 #[.val (.int x1), .val (.int x2), .val (.int x3), .val (.int x4), .val (.int ((x1 &&& (255 : Int32)).toUInt32.toUInt16.toUInt32.toInt32)), .val (.int ((((x1.toUInt32 >>> ((8 : Int32) &&& 31).toUInt32).toInt32) &&& (255 : Int32)).toUInt32.toUInt16.toUInt32.toInt32)), .val (.int ln), .val (.ref nm), .val (.int wm), .val (.ref ma), .unset, .unset, .unset, .unset, .unset, .unset, .unset] [(.ref w_UNLOCKED)])) st70 ?_
          exact J5 _ _ w_UNLOCKED NJ4 X70 e70 PE_UNLOCKED
        case neg =>
          refine Wp.st (S' := TJ4.setTop (mkF m 130 #[.val (.int x1), .val (.int x2), .val (.int x3), .val (.int x4), .val (.int ((x1 &&& (255 : Int32)).toUInt32.toUInt16.toUInt32.toInt32)), .val (.int ((((x1.toUInt32 >>> ((8 : Int32) &&& 31).toUInt32).toInt32) &&& (255 : Int32)).toUInt32.toUInt16.toUInt32.toInt32)), .val (.int ln), .val (.ref nm), .val (.int wm), .val (.ref ma), .unset, .unset, .unset, .unset, .unset, .unset, .unset] [])) (fun tt_ kk_ => XS.ifNo XJ4.here hx rfl (hb hby at_127) rfl ((if0 _ _).trans (feq (hc68 : ¬ ((x2 &&& (16 : Int32)) = (0 : Int32)))).1) kk_) ?_
          have O71 := O0.keep KJ1 all0
          obtain ⟨T72, X72, e72, st72⟩ := getS2 XJ4 hx hZJ1 howJ1 (host := "") (Or.inl (hw _ (List.mem_of_getElem? (i := 106) rfl))) Via.refl eJ4 (PS_LOCKED.ext O71.2) (g := (mkF m 130 #[.val (.int x1), .val (.int x2), .val (.int x3), .val (.int x4), .val (.int ((x1 &&& (255 : Int32)).toUInt32.toUInt16.toUInt32.toInt32)), .val (.int ((((x1.toUInt32 >>> ((8 : Int32) &&& 31).toUInt32).toInt32) &&& (255 : Int32)).toUInt32.toUInt16.toUInt32.toInt32)), .val (.int ln), .val (.ref nm), .val (.int wm), .val (.ref ma), .unset, .unset, .unset, .unset, .unset, .unset, .unset] [])) rfl (hb hby at_130)
          refine Wp.st (S' := T72.setTop (mkF m 133 #[.val (.int x1), .val (.int x2), .val (.int x3), .val (.int x4), .val (.int ((x1 &&& (255 : Int32)).toUInt32.toUInt16.toUInt32.toInt32)), .val (.int ((((x1.toUInt32 >>> ((8 : Int32) &&& 31).toUInt32).toInt32) &&& (255 : Int32)).toUInt32.toUInt16.toUInt32.toInt32)), .val (.int ln), .val (.ref nm), .val (.int wm), .val (.ref ma), .unset, .unset, .unset, .unset, .unset, .unset, .unset] [(.ref w_LOCKED)])) st72 ?_
          refine Wp.st (S' := T72.setTop (mkF m 139 #[.val (.int x1), .val (.int x2), .val (.int x3), .val (.int x4), .val (.int ((x1 &&& (255 : Int32)).toUInt32.toUInt16.toUInt32.toInt32)), .val (.int ((((x1.toUInt32 >>> ((8 : Int32) &&& 31).toUInt32).toInt32) &&& (255 : Int32)).toUInt32.toUInt16.toUInt32.toInt32)), .val (.int ln), .val (.ref nm), .val (.int wm), .val (.ref ma), .unset, .unset, .unset, .unset, .unset, .unset, .unset] [(.ref w_LOCKED)])) (fun tt_ kk_ => XS.goto X72.here hx rfl (pc0 := 133) (pc' := 139) rfl (hb hby at_133) (by decide) (by decide) kk_) ?_
          exact J5 _ _ w_LOCKED NJ4 X72 e72 PE_LOCKED
      refine Wp.st (S' := TJ3.setTop (mkF m 106 #[.val (.int x1), .val (.int x2), .val (.int x3), .val (.int x4), .val (.int ((x1 &&& (255 : Int32)).toUInt32.toUInt16.toUInt32.toInt32)), .val (.int ((((x1.toUInt32 >>> ((8 : Int32) &&& 31).toUInt32).toInt32) &&& (255 : Int32)).toUInt32.toUInt16.toUInt32.toInt32)), .val (.int ln), .val (.ref nm), .val (.int wm), .unset, .unset, .unset, .unset, .unset, .unset, .unset, .unset] [(.int x2)])) (fun tt_ kk_ => XS.iloadN XJ3.here hx rfl (hb hby at_105) rfl  kk_) ?_
      refine Wp.st (S' := TJ3.setTop (mkF m 108 #[.val (.int x1), .val (.int x2), .val (.int x3), .val (.int x4), .val (.int ((x1 &&& (255 : Int32)).toUInt32.toUInt16.toUInt32.toInt32)), .val (.int ((((x1.toUInt32 >>> ((8 : Int32) &&& 31).toUInt32).toInt32) &&& (255 : Int32)).toUInt32.toUInt16.toUInt32.toInt32)), .val (.int ln), .val (.ref nm), .val (.int wm), .unset, .unset, .unset, .unset, .unset, .unset, .unset, .unset] [(.int (8 : Int32)), (.int x2)])) (fun tt_ kk_ => XS.bipush XJ3.here hx rfl (hb hby at_106) kk_) ?_
      refine Wp.st (S' := TJ3.setTop (mkF m 109 #[.val (.int x1), .val (.int x2), .val (.int x3), .val (.int x4), .val (.int ((x1 &&& (255 : Int32)).toUInt32.toUInt16.toUInt32.toInt32)), .val (.int ((((x1.toUInt32 >>> ((8 : Int32) &&& 31).toUInt32).toInt32) &&& (255 : Int32)).toUInt32.toUInt16.toUInt32.toInt32)), .val (.int ln), .val (.ref nm), .val (.int wm), .unset, .unset, .unset, .unset, .unset, .unset, .unset, .unset] [(.int (x2 &&& (8 : Int32)))])) (fun tt_ kk_ => XS.iand XJ3.here hx rfl (hb hby at_108) rfl kk_) ?_
      by_cases hc73 : (x2 &&& (8 : Int32)) = (0 : Int32)
      case pos =>
        refine Wp.st (S' := TJ3.setTop (mkF m 118 #[.val (.int x1), .val (.int x2), .val (.int x3), .val (.int x4), .val (.int ((x1 &&& (255 : Int32)).toUInt32.toUInt16.toUInt32.toInt32)), .val (.int ((((x1.toUInt32 >>> ((8 : Int32) &&& 31).toUInt32).toInt32) &&& (255 : Int32)).toUInt32.toUInt16.toUInt32.toInt32)), .val (.int ln), .val (.ref nm), .val (.int wm), .unset, .unset, .unset, .unset, .unset, .unset, .unset, .unset] [])) (fun tt_ kk_ => XS.ifYes XJ3.here hx rfl (pc0 := 109) (pc' := 118) rfl (hb hby at_109) rfl ((if0 _ _).trans (teq (hc73 : (x2 &&& (8 : Int32)) = (0 : Int32))).1) (by decide) (by decide) kk_) ?_
        have O74 := O0.keep KJ1 all0
        obtain ⟨T75, X75, e75, st75⟩ := getS2 XJ3 hx hZJ1 howJ1 (host := "") (Or.inl (hw _ (List.mem_of_getElem? (i := 30) rfl))) Via.refl eJ3 (PS_UNLOCKED.ext O74.2) (g := (mkF m 118 #[.val (.int x1), .val (.int x2), .val (.int x3), .val (.int x4), .val (.int ((x1 &&& (255 : Int32)).toUInt32.toUInt16.toUInt32.toInt32)), .val (.int ((((x1.toUInt32 >>> ((8 : Int32) &&& 31).toUInt32).toInt32) &&& (255 : Int32)).toUInt32.toUInt16.toUInt32.toInt32)), .val (.int ln), .val (.ref nm), .val (.int wm), .unset, .unset, .unset, .unset, .unset, .unset, .unset, .unset] [])) rfl (hb hby at_118)
        refine Wp.st (S' := T75.setTop (mkF m 121 #[.val (.int x1), .val (.int x2), .val (.int x3), .val (.int x4), .val (.int ((x1 &&& (255 : Int32)).toUInt32.toUInt16.toUInt32.toInt32)), .val (.int ((((x1.toUInt32 >>> ((8 : Int32) &&& 31).toUInt32).toInt32) &&& (255 : Int32)).toUInt32.toUInt16.toUInt32.toInt32)), .val (.int ln), .val (.ref nm), .val (.int wm), .unset, .unset, .unset, .unset, .unset, .unset, .unset, .unset] [(.ref w_UNLOCKED)])) st75 ?_
        exact J4 _ _ w_UNLOCKED NJ3 X75 e75 PE_UNLOCKED
      case neg =>
        refine Wp.st (S' := TJ3.setTop (mkF m 112 #[.val (.int x1), .val (.int x2), .val (.int x3), .val (.int x4), .val (.int ((x1 &&& (255 : Int32)).toUInt32.toUInt16.toUInt32.toInt32)), .val (.int ((((x1.toUInt32 >>> ((8 : Int32) &&& 31).toUInt32).toInt32) &&& (255 : Int32)).toUInt32.toUInt16.toUInt32.toInt32)), .val (.int ln), .val (.ref nm), .val (.int wm), .unset, .unset, .unset, .unset, .unset, .unset, .unset, .unset] [])) (fun tt_ kk_ => XS.ifNo XJ3.here hx rfl (hb hby at_109) rfl ((if0 _ _).trans (feq (hc73 : ¬ ((x2 &&& (8 : Int32)) = (0 : Int32)))).1) kk_) ?_
        have O76 := O0.keep KJ1 all0
        obtain ⟨T77, X77, e77, st77⟩ := getS2 XJ3 hx hZJ1 howJ1 (host := "") (Or.inl (hw _ (List.mem_of_getElem? (i := 106) rfl))) Via.refl eJ3 (PS_LOCKED.ext O76.2) (g := (mkF m 112 #[.val (.int x1), .val (.int x2), .val (.int x3), .val (.int x4), .val (.int ((x1 &&& (255 : Int32)).toUInt32.toUInt16.toUInt32.toInt32)), .val (.int ((((x1.toUInt32 >>> ((8 : Int32) &&& 31).toUInt32).toInt32) &&& (255 : Int32)).toUInt32.toUInt16.toUInt32.toInt32)), .val (.int ln), .val (.ref nm), .val (.int wm), .unset, .unset, .unset, .unset, .unset, .unset, .unset, .unset] [])) rfl (hb hby at_112)
        refine Wp.st (S' := T77.setTop (mkF m 115 #[.val (.int x1), .val (.int x2), .val (.int x3), .val (.int x4), .val (.int ((x1 &&& (255 : Int32)).toUInt32.toUInt16.toUInt32.toInt32)), .val (.int ((((x1.toUInt32 >>> ((8 : Int32) &&& 31).toUInt32).toInt32) &&& (255 : Int32)).toUInt32.toUInt16.toUInt32.toInt32)), .val (.int ln), .val (.ref nm), .val (.int wm), .unset, .unset, .unset, .unset, .unset, .unset, .unset, .unset] [(.ref w_LOCKED)])) st77 ?_
        refine Wp.st (S' := T77.setTop (mkF m 121 #[.val (.int x1), .val (.int x2), .val (.int x3), .val (.int x4), .val (.int ((x1 &&& (255 : Int32)).toUInt32.toUInt16.toUInt32.toInt32)), .val (.int ((((x1.toUInt32 >>> ((8 : Int32) &&& 31).toUInt32).toInt32) &&& (255 : Int32)).toUInt32.toUInt16.toUInt32.toInt32)), .val (.int ln), .val (.ref nm), .val (.int wm), .unset, .unset, .unset, .unset, .unset, .unset, .unset, .unset] [(.ref w_LOCKED)])) (fun tt_ kk_ => XS.goto X77.here hx rfl (pc0 := 115) (pc' := 121) rfl (hb hby at_115) (by decide) (by decide) kk_) ?_
        exact J4 _ _ w_LOCKED NJ3 X77 e77 PE_LOCKED
    refine Wp.st (S' := TJ1.setTop (mkF m 93 #[.val (.int x1), .val (.int x2), .val (.int x3), .val (.int x4), .val (.int ((x1 &&& (255 : Int32)).toUInt32.toUInt16.toUInt32.toInt32)), .val (.int ((((x1.toUInt32 >>> ((8 : Int32) &&& 31).toUInt32).toInt32) &&& (255 : Int32)).toUInt32.toUInt16.toUInt32.toInt32)), .val (.int ln), .val (.ref nm), .unset, .unset, .unset, .unset, .unset, .unset, .unset, .unset, .unset] [(.int x2)])) (fun tt_ kk_ => XS.iloadN XJ1.here hx rfl (hb hby at_92) rfl  kk_) ?_
    refine Wp.st (S' := TJ1.setTop (mkF m 94 #[.val (.int x1), .val (.int x2), .val (.int x3), .val (.int x4), .val (.int ((x1 &&& (255 : Int32)).toUInt32.toUInt16.toUInt32.toInt32)), .val (.int ((((x1.toUInt32 >>> ((8 : Int32) &&& 31).toUInt32).toInt32) &&& (255 : Int32)).toUInt32.toUInt16.toUInt32.toInt32)), .val (.int ln), .val (.ref nm), .unset, .unset, .unset, .unset, .unset, .unset, .unset, .unset, .unset] [(.int (1 : Int32)), (.int x2)])) (fun tt_ kk_ => XS.iconst XJ1.here hx rfl (hb hby at_93) kk_) ?_
    refine Wp.st (S' := TJ1.setTop (mkF m 95 #[.val (.int x1), .val (.int x2), .val (.int x3), .val (.int x4), .val (.int ((x1 &&& (255 : Int32)).toUInt32.toUInt16.toUInt32.toInt32)), .val (.int ((((x1.toUInt32 >>> ((8 : Int32) &&& 31).toUInt32).toInt32) &&& (255 : Int32)).toUInt32.toUInt16.toUInt32.toInt32)), .val (.int ln), .val (.ref nm), .unset, .unset, .unset, .unset, .unset, .unset, .unset, .unset, .unset] [(.int (x2 &&& (1 : Int32)))])) (fun tt_ kk_ => XS.iand XJ1.here hx rfl (hb hby at_94) rfl kk_) ?_
    by_cases hc78 : (x2 &&& (1 : Int32)) = (0 : Int32)
    case pos =>
      refine Wp.st (S' := TJ1.setTop (mkF m 102 #[.val (.int x1), .val (.int x2), .val (.int x3), .val (.int x4), .val (.int ((x1 &&& (255 : Int32)).toUInt32.toUInt16.toUInt32.toInt32)), .val (.int ((((x1.toUInt32 >>> ((8 : Int32) &&& 31).toUInt32).toInt32) &&& (255 : Int32)).toUInt32.toUInt16.toUInt32.toInt32)), .val (.int ln), .val (.ref nm), .unset, .unset, .unset, .unset, .unset, .unset, .unset, .unset, .unset] [])) (fun tt_ kk_ => XS.ifYes XJ1.here hx rfl (pc0 := 95) (pc' := 102) rfl (hb hby at_95) rfl ((if0 _ _).trans (teq (hc78 : (x2 &&& (1 : Int32)) = (0 : Int32))).1) (by decide) (by decide) kk_) ?_
      refine Wp.st (S' := TJ1.setTop (mkF m 103 #[.val (.int x1), .val (.int x2), .val (.int x3), .val (.int x4), .val (.int ((x1 &&& (255 : Int32)).toUInt32.toUInt16.toUInt32.toInt32)), .val (.int ((((x1.toUInt32 >>> ((8 : Int32) &&& 31).toUInt32).toInt32) &&& (255 : Int32)).toUInt32.toUInt16.toUInt32.toInt32)), .val (.int ln), .val (.ref nm), .unset, .unset, .unset, .unset, .unset, .unset, .unset, .unset, .unset] [(.int (0 : Int32))])) (fun tt_ kk_ => XS.iconst XJ1.here hx rfl (hb hby at_102) kk_) ?_
      exact J3 _ _ (0 : Int32) NJ1 XJ1 eJ1 rfl
    case neg =>
      refine Wp.st (S' := TJ1.setTop (mkF m 98 #[.val (.int x1), .val (.int x2), .val (.int x3), .val (.int x4), .val (.int ((x1 &&& (255 : Int32)).toUInt32.toUInt16.toUInt32.toInt32)), .val (.int ((((x1.toUInt32 >>> ((8 : Int32) &&& 31).toUInt32).toInt32) &&& (255 : Int32)).toUInt32.toUInt16.toUInt32.toInt32)), .val (.int ln), .val (.ref nm), .unset, .unset, .unset, .unset, .unset, .unset, .unset, .unset, .unset] [])) (fun tt_ kk_ => XS.ifNo XJ1.here hx rfl (hb hby at_95) rfl ((if0 _ _).trans (feq (hc78 : ¬ ((x2 &&& (1 : Int32)) = (0 : Int32)))).1) kk_) ?_
      refine Wp.st (S' := TJ1.setTop (mkF m 99 #[.val (.int x1), .val (.int x2), .val (.int x3), .val (.int x4), .val (.int ((x1 &&& (255 : Int32)).toUInt32.toUInt16.toUInt32.toInt32)), .val (.int ((((x1.toUInt32 >>> ((8 : Int32) &&& 31).toUInt32).toInt32) &&& (255 : Int32)).toUInt32.toUInt16.toUInt32.toInt32)), .val (.int ln), .val (.ref nm), .unset, .unset, .unset, .unset, .unset, .unset, .unset, .unset, .unset] [(.int (1 : Int32))])) (fun tt_ kk_ => XS.iconst XJ1.here hx rfl (hb hby at_98) kk_) ?_
      refine Wp.st (S' := TJ1.setTop (mkF m 103 #[.val (.int x1), .val (.int x2), .val (.int x3), .val (.int x4), .val (.int ((x1 &&& (255 : Int32)).toUInt32.toUInt16.toUInt32.toInt32)), .val (.int ((((x1.toUInt32 >>> ((8 : Int32) &&& 31).toUInt32).toInt32) &&& (255 : Int32)).toUInt32.toUInt16.toUInt32.toInt32)), .val (.int ln), .val (.ref nm), .unset, .unset, .unset, .unset, .unset, .unset, .unset, .unset, .unset] [(.int (1 : Int32))])) (fun tt_ kk_ => XS.goto XJ1.here hx rfl (pc0 := 99) (pc' := 103) rfl (hb hby at_99) (by decide) (by decide) kk_) ?_
      exact J3 _ _ (1 : Int32) NJ1 XJ1 eJ1 rfl
  refine Wp.st (S' := s₁.setTop (mkF m 30 #[.val (.int x1), .val (.int x2), .val (.int x3), .val (.int x4), .val (.int ((x1 &&& (255 : Int32)).toUInt32.toUInt16.toUInt32.toInt32)), .val (.int ((((x1.toUInt32 >>> ((8 : Int32) &&& 31).toUInt32).toInt32) &&& (255 : Int32)).toUInt32.toUInt16.toUInt32.toInt32)), .val (.int ln), .unset, .unset, .unset, .unset, .unset, .unset, .unset, .unset, .unset, .unset] [(.int ln)])) (fun tt_ kk_ => XS.iload X0.here hx rfl (hb hby at_28) rfl  kk_) ?_
  by_cases h0_ : ln = (0 : Int32)
  case pos =>
    refine Wp.st (S' := s₁.setTop (mkF m 33 #[.val (.int x1), .val (.int x2), .val (.int x3), .val (.int x4), .val (.int ((x1 &&& (255 : Int32)).toUInt32.toUInt16.toUInt32.toInt32)), .val (.int ((((x1.toUInt32 >>> ((8 : Int32) &&& 31).toUInt32).toInt32) &&& (255 : Int32)).toUInt32.toUInt16.toUInt32.toInt32)), .val (.int ln), .unset, .unset, .unset, .unset, .unset, .unset, .unset, .unset, .unset, .unset] [])) (fun tt_ kk_ => XS.ifNo X0.here hx rfl (hb hby at_30) rfl ((if0 _ _).trans (teq (h0_ : ln = (0 : Int32))).2) kk_) ?_
    obtain ⟨T79, h79, X79, e79, E79, A79, D79, U79, st79⟩ := newO X0 hx hZ hown (hw _ (List.mem_of_getElem? (i := 0) rfl)) (hw _ (List.mem_of_getElem? (i := 1) rfl)) (hw _ (List.mem_of_getElem? (i := 2) rfl)) e0 (g := (mkF m 33 #[.val (.int x1), .val (.int x2), .val (.int x3), .val (.int x4), .val (.int ((x1 &&& (255 : Int32)).toUInt32.toUInt16.toUInt32.toInt32)), .val (.int ((((x1.toUInt32 >>> ((8 : Int32) &&& 31).toUInt32).toInt32) &&& (255 : Int32)).toUInt32.toUInt16.toUInt32.toInt32)), .val (.int ln), .unset, .unset, .unset, .unset, .unset, .unset, .unset, .unset, .unset, .unset] [])) rfl (hb hby at_33) (by decide) (by decide)
    obtain ⟨b79, g79⟩ : ∃ z, z = h0.size := ⟨_, rfl⟩
    rw [← g79] at A79 D79 U79 st79
    have z80 := E79.1
    have CC81 := CC0.trans (CHr.ext E79 CC0.1)
    have g82 : n0 ≤ b79 := Nat.le_trans (Nat.le_trans Z0 (Nat.le_refl _)) (Nat.le_of_eq g79.symm)
    have Sf83 := Safe.ext E79 CC0.1 (Safe.new (x := b79) (Nat.le_of_eq g79.symm))
    have F84 : Fld Z h79 b79 "java/lang/String" "coder" "B" (.int (0 : Int32)) := D79 (Or.inr (hw _ (List.mem_of_getElem? (i := 27) rfl))) (ty := .byte) (by decide)
    have F85 : Fld Z h79 b79 "java/lang/String" "value" "[B" .null := D79 (Or.inr (hw _ (List.mem_of_getElem? (i := 29) rfl))) (ty := (.array .byte)) (by decide)
    refine Wp.st (S' := T79.setTop (mkF m 36 #[.val (.int x1), .val (.int x2), .val (.int x3), .val (.int x4), .val (.int ((x1 &&& (255 : Int32)).toUInt32.toUInt16.toUInt32.toInt32)), .val (.int ((((x1.toUInt32 >>> ((8 : Int32) &&& 31).toUInt32).toInt32) &&& (255 : Int32)).toUInt32.toUInt16.toUInt32.toInt32)), .val (.int ln), .unset, .unset, .unset, .unset, .unset, .unset, .unset, .unset, .unset, .unset] [(.ref b79)])) st79 ?_
    refine Wp.st (S' := T79.setTop (mkF m 37 #[.val (.int x1), .val (.int x2), .val (.int x3), .val (.int x4), .val (.int ((x1 &&& (255 : Int32)).toUInt32.toUInt16.toUInt32.toInt32)), .val (.int ((((x1.toUInt32 >>> ((8 : Int32) &&& 31).toUInt32).toInt32) &&& (255 : Int32)).toUInt32.toUInt16.toUInt32.toInt32)), .val (.int ln), .unset, .unset, .unset, .unset, .unset, .unset, .unset, .unset, .unset, .unset] [(.ref b79), (.ref b79)])) (fun tt_ kk_ => XS.dup X79.here hx rfl (hb hby at_36) rfl rfl kk_) ?_
    refine Wp.st (S' := T79.setTop (mkF m 38 #[.val (.int x1), .val (.int x2), .val (.int x3), .val (.int x4), .val (.int ((x1 &&& (255 : Int32)).toUInt32.toUInt16.toUInt32.toInt32)), .val (.int ((((x1.toUInt32 >>> ((8 : Int32) &&& 31).toUInt32).toInt32) &&& (255 : Int32)).toUInt32.toUInt16.toUInt32.toInt32)), .val (.int ln), .unset, .unset, .unset, .unset, .unset, .unset, .unset, .unset, .unset, .unset] [(.int (0 : Int32)), (.ref b79), (.ref b79)])) (fun tt_ kk_ => XS.iconst X79.here hx rfl (hb hby at_37) kk_) ?_
    obtain ⟨T86, h86, k86, X86, e86, E86, A86, st86⟩ := newP X79 hx hZ (hw _ (List.mem_of_getElem? (i := 3) rfl)) e79 (g := (mkF m 38 #[.val (.int x1), .val (.int x2), .val (.int x3), .val (.int x4), .val (.int ((x1 &&& (255 : Int32)).toUInt32.toUInt16.toUInt32.toInt32)), .val (.int ((((x1.toUInt32 >>> ((8 : Int32) &&& 31).toUInt32).toInt32) &&& (255 : Int32)).toUInt32.toUInt16.toUInt32.toInt32)), .val (.int ln), .unset, .unset, .unset, .unset, .unset, .unset, .unset, .unset, .unset, .unset] [(.int (0 : Int32)), (.ref b79), (.ref b79)])) rfl (hb hby at_38) rfl (by decide) (cap := 0) (by decide) (by decide) (by decide) (by decide)
    obtain ⟨b86, g86⟩ : ∃ z, z = h79.size := ⟨_, rfl⟩
    rw [← g86] at A86 st86
    have z87 := E86.1
    have Sf88 := Safe.ext E86 CC81.1 Sf83
    have CC89 := CC81.trans (CHr.ext E86 CC81.1)
    have V86 : Arv Z h86 b86 k86 .char (0 : Int32) [] (.int (0 : Int32)) := (Arv.new A86 (by decide)).pad (pad_rep [] (.int (0 : Int32)) 0)
    have g90 : n0 ≤ b86 := Nat.le_trans (Nat.le_trans Z0 z80) (Nat.le_of_eq g86.symm)
    have Sf91 := Safe.ext E86 CC81.1 (Safe.new (x := b86) (Nat.le_of_eq g86.symm))
    refine Wp.st (S' := T86.setTop (mkF m 40 #[.val (.int x1), .val (.int x2), .val (.int x3), .val (.int x4), .val (.int ((x1 &&& (255 : Int32)).toUInt32.toUInt16.toUInt32.toInt32)), .val (.int ((((x1.toUInt32 >>> ((8 : Int32) &&& 31).toUInt32).toInt32) &&& (255 : Int32)).toUInt32.toUInt16.toUInt32.toInt32)), .val (.int ln), .unset, .unset, .unset, .unset, .unset, .unset, .unset, .unset, .unset, .unset] [(.ref b86), (.ref b79), (.ref b79)])) st86 ?_
    have F93 := A79.ext E86
    have F94 := F85.ext E86
    have F95 := F84.ext E86
    obtain ⟨vv92, _, ⟨T92, L92, k92, n92⟩, -, Xq92, sn92, gr92, ⟨Lc92, hQ92, l92, y92, z92, cr92⟩, st92⟩ := X86.specialBackS hx (y := (⟨"java/lang/String", "<init>", "([C)V"⟩ : MethodName)) rfl hown (mvT hZ (hw _ (List.mem_of_getElem? (i := 4) rfl))) (mvT hZ (hw _ (List.mem_of_getElem? (i := 5) rfl))) (mvT hZ (hw _ (List.mem_of_getElem? (i := 6) rfl))) (by decide) (backOfSH (W := 1) (rmE1 l Z a0 hw [] b79 b86 k86 h86 n0 (Nat.le_trans Z0 (Nat.le_trans z80 z87)) g82 F93 F94 F95 V86) hZ (hw _ (List.mem_of_getElem? (i := 6) rfl)) (hw _ (List.mem_of_getElem? (i := 2) rfl)) (by decide) (by decide) hEL CC89.1) (g := (mkF m 40 #[.val (.int x1), .val (.int x2), .val (.int x3), .val (.int x4), .val (.int ((x1 &&& (255 : Int32)).toUInt32.toUInt16.toUInt32.toInt32)), .val (.int ((((x1.toUInt32 >>> ((8 : Int32) &&& 31).toUInt32).toInt32) &&& (255 : Int32)).toUInt32.toUInt16.toUInt32.toInt32)), .val (.int ln), .unset, .unset, .unset, .unset, .unset, .unset, .unset, .unset, .unset, .unset] [(.ref b86), (.ref b79), (.ref b79)])) rfl (by rw [hml]; rfl) (Steps.refl _) (a := b79) (argsL := [(.ref b86)]) (rest := [(.ref b79)]) (lenOf pd_9 rfl) rfl (by show 2 * 0 + _ ≤ _; exact Nat.le_of_eq rfl) (hb hby at_40) (fun _ _ => ⟨rfl, e86, (by decide : 2 + 4 ≤ _), (by decide : 4 + 8 ≤ _)⟩)
    dsimp only [Pt.U, Pt.locs, Pt.cells, Pt.slots] at Xq92 sn92 gr92 l92 y92 z92 st92 hQ92 cr92
    subst l92 y92 z92
    obtain ⟨X92, hS92, hZ92, how92⟩ := rebS hS0 (by rw [e86]; exact (Nat.le_trans (Nat.le_refl _) (Nat.le_trans z80 z87))) Xq92 sn92 gr92 hZ hown
    obtain ⟨b96, c97, rfl, Nq92, K92, P92_0, P92_1, P92_2, P92_3⟩ := hQ92
    have N92 := Fr.app N0 Nq92
    have z98 := K92.1
    have Sf99 := cr92.safe (Nat.lt_of_lt_of_le A79.lt z87) Sf88
    have Sf100 := cr92.safe V86.lt Sf91
    have CC101 := CC89.trans cr92
    have e92 : T92.heap = T92.heap := rfl
    refine Wp.tr (S' := T92.setTop (mkF m 43 #[.val (.int x1), .val (.int x2), .val (.int x3), .val (.int x4), .val (.int ((x1 &&& (255 : Int32)).toUInt32.toUInt16.toUInt32.toInt32)), .val (.int ((((x1.toUInt32 >>> ((8 : Int32) &&& 31).toUInt32).toInt32) &&& (255 : Int32)).toUInt32.toUInt16.toUInt32.toInt32)), .val (.int ln), .unset, .unset, .unset, .unset, .unset, .unset, .unset, .unset, .unset, .unset] [(.ref b79)])) st92 ?_
    refine Wp.st (S' := T92.setTop (mkF m 90 #[.val (.int x1), .val (.int x2), .val (.int x3), .val (.int x4), .val (.int ((x1 &&& (255 : Int32)).toUInt32.toUInt16.toUInt32.toInt32)), .val (.int ((((x1.toUInt32 >>> ((8 : Int32) &&& 31).toUInt32).toInt32) &&& (255 : Int32)).toUInt32.toUInt16.toUInt32.toInt32)), .val (.int ln), .unset, .unset, .unset, .unset, .unset, .unset, .unset, .unset, .unset, .unset] [(.ref b79)])) (fun tt_ kk_ => XS.goto X92.here hx rfl (pc0 := 43) (pc' := 90) rfl (hb hby at_43) (by decide) (by decide) kk_) ?_
    have K102 := Keep.refl h0 []
    have K103 := K102.ext E79
    have K104 := K103.ext E86
    have K105 := K104.trans K92 (allS (Or.inr (Nat.le_trans (Nat.le_refl _) (Nat.le_of_eq g79.symm))) all0)
    exact J1 _ _ _ b79 _ _ hS92 (by first | exact (Nat.le_refl _) | (rw [e92]; exact (Nat.le_refl _))) hZ92 how92 N92 (X92.more (by decide) (by decide)) e92 K105 P92_0 
  case neg =>
    refine Wp.st (S' := s₁.setTop (mkF m 46 #[.val (.int x1), .val (.int x2), .val (.int x3), .val (.int x4), .val (.int ((x1 &&& (255 : Int32)).toUInt32.toUInt16.toUInt32.toInt32)), .val (.int ((((x1.toUInt32 >>> ((8 : Int32) &&& 31).toUInt32).toInt32) &&& (255 : Int32)).toUInt32.toUInt16.toUInt32.toInt32)), .val (.int ln), .unset, .unset, .unset, .unset, .unset, .unset, .unset, .unset, .unset, .unset] [])) (fun tt_ kk_ => XS.ifYes X0.here hx rfl (pc0 := 30) (pc' := 46) rfl (hb hby at_30) rfl ((if0 _ _).trans (feq (h0_ : ¬ (ln = (0 : Int32)))).2) (by decide) (by decide) kk_) ?_
    refine Wp.st (S' := s₁.setTop (mkF m 48 #[.val (.int x1), .val (.int x2), .val (.int x3), .val (.int x4), .val (.int ((x1 &&& (255 : Int32)).toUInt32.toUInt16.toUInt32.toInt32)), .val (.int ((((x1.toUInt32 >>> ((8 : Int32) &&& 31).toUInt32).toInt32) &&& (255 : Int32)).toUInt32.toUInt16.toUInt32.toInt32)), .val (.int ln), .unset, .unset, .unset, .unset, .unset, .unset, .unset, .unset, .unset, .unset] [(.int ln)])) (fun tt_ kk_ => XS.iload X0.here hx rfl (hb hby at_46) rfl  kk_) ?_
    refine Wp.st (S' := s₁.setTop (mkF m 49 #[.val (.int x1), .val (.int x2), .val (.int x3), .val (.int x4), .val (.int ((x1 &&& (255 : Int32)).toUInt32.toUInt16.toUInt32.toInt32)), .val (.int ((((x1.toUInt32 >>> ((8 : Int32) &&& 31).toUInt32).toInt32) &&& (255 : Int32)).toUInt32.toUInt16.toUInt32.toInt32)), .val (.int ln), .unset, .unset, .unset, .unset, .unset, .unset, .unset, .unset, .unset, .unset] [(.int (1 : Int32)), (.int ln)])) (fun tt_ kk_ => XS.iconst X0.here hx rfl (hb hby at_48) kk_) ?_
    by_cases h1_ : ln = (1 : Int32)
    case pos =>
      refine Wp.st (S' := s₁.setTop (mkF m 52 #[.val (.int x1), .val (.int x2), .val (.int x3), .val (.int x4), .val (.int ((x1 &&& (255 : Int32)).toUInt32.toUInt16.toUInt32.toInt32)), .val (.int ((((x1.toUInt32 >>> ((8 : Int32) &&& 31).toUInt32).toInt32) &&& (255 : Int32)).toUInt32.toUInt16.toUInt32.toInt32)), .val (.int ln), .unset, .unset, .unset, .unset, .unset, .unset, .unset, .unset, .unset, .unset] [])) (fun tt_ kk_ => XS.icmpNo X0.here hx rfl (hb hby at_49) rfl (teq (h1_ : ln = (1 : Int32))).2 kk_) ?_
      obtain ⟨T106, h106, X106, e106, E106, A106, D106, U106, st106⟩ := newO X0 hx hZ hown (hw _ (List.mem_of_getElem? (i := 0) rfl)) (hw _ (List.mem_of_getElem? (i := 1) rfl)) (hw _ (List.mem_of_getElem? (i := 2) rfl)) e0 (g := (mkF m 52 #[.val (.int x1), .val (.int x2), .val (.int x3), .val (.int x4), .val (.int ((x1 &&& (255 : Int32)).toUInt32.toUInt16.toUInt32.toInt32)), .val (.int ((((x1.toUInt32 >>> ((8 : Int32) &&& 31).toUInt32).toInt32) &&& (255 : Int32)).toUInt32.toUInt16.toUInt32.toInt32)), .val (.int ln), .unset, .unset, .unset, .unset, .unset, .unset, .unset, .unset, .unset, .unset] [])) rfl (hb hby at_52) (by decide) (by decide)
      obtain ⟨b106, g106⟩ : ∃ z, z = h0.size := ⟨_, rfl⟩
      rw [← g106] at A106 D106 U106 st106
      have z107 := E106.1
      have CC108 := CC0.trans (CHr.ext E106 CC0.1)
      have g109 : n0 ≤ b106 := Nat.le_trans (Nat.le_trans Z0 (Nat.le_refl _)) (Nat.le_of_eq g106.symm)
      have Sf110 := Safe.ext E106 CC0.1 (Safe.new (x := b106) (Nat.le_of_eq g106.symm))
      have F111 : Fld Z h106 b106 "java/lang/String" "coder" "B" (.int (0 : Int32)) := D106 (Or.inr (hw _ (List.mem_of_getElem? (i := 27) rfl))) (ty := .byte) (by decide)
      have F112 : Fld Z h106 b106 "java/lang/String" "value" "[B" .null := D106 (Or.inr (hw _ (List.mem_of_getElem? (i := 29) rfl))) (ty := (.array .byte)) (by decide)
      refine Wp.st (S' := T106.setTop (mkF m 55 #[.val (.int x1), .val (.int x2), .val (.int x3), .val (.int x4), .val (.int ((x1 &&& (255 : Int32)).toUInt32.toUInt16.toUInt32.toInt32)), .val (.int ((((x1.toUInt32 >>> ((8 : Int32) &&& 31).toUInt32).toInt32) &&& (255 : Int32)).toUInt32.toUInt16.toUInt32.toInt32)), .val (.int ln), .unset, .unset, .unset, .unset, .unset, .unset, .unset, .unset, .unset, .unset] [(.ref b106)])) st106 ?_
      refine Wp.st (S' := T106.setTop (mkF m 56 #[.val (.int x1), .val (.int x2), .val (.int x3), .val (.int x4), .val (.int ((x1 &&& (255 : Int32)).toUInt32.toUInt16.toUInt32.toInt32)), .val (.int ((((x1.toUInt32 >>> ((8 : Int32) &&& 31).toUInt32).toInt32) &&& (255 : Int32)).toUInt32.toUInt16.toUInt32.toInt32)), .val (.int ln), .unset, .unset, .unset, .unset, .unset, .unset, .unset, .unset, .unset, .unset] [(.ref b106), (.ref b106)])) (fun tt_ kk_ => XS.dup X106.here hx rfl (hb hby at_55) rfl rfl kk_) ?_
      refine Wp.st (S' := T106.setTop (mkF m 57 #[.val (.int x1), .val (.int x2), .val (.int x3), .val (.int x4), .val (.int ((x1 &&& (255 : Int32)).toUInt32.toUInt16.toUInt32.toInt32)), .val (.int ((((x1.toUInt32 >>> ((8 : Int32) &&& 31).toUInt32).toInt32) &&& (255 : Int32)).toUInt32.toUInt16.toUInt32.toInt32)), .val (.int ln), .unset, .unset, .unset, .unset, .unset, .unset, .unset, .unset, .unset, .unset] [(.int (1 : Int32)), (.ref b106), (.ref b106)])) (fun tt_ kk_ => XS.iconst X106.here hx rfl (hb hby at_56) kk_) ?_
      obtain ⟨T113, h113, k113, X113, e113, E113, A113, st113⟩ := newP X106 hx hZ (hw _ (List.mem_of_getElem? (i := 3) rfl)) e106 (g := (mkF m 57 #[.val (.int x1), .val (.int x2), .val (.int x3), .val (.int x4), .val (.int ((x1 &&& (255 : Int32)).toUInt32.toUInt16.toUInt32.toInt32)), .val (.int ((((x1.toUInt32 >>> ((8 : Int32) &&& 31).toUInt32).toInt32) &&& (255 : Int32)).toUInt32.toUInt16.toUInt32.toInt32)), .val (.int ln), .unset, .unset, .unset, .unset, .unset, .unset, .unset, .unset, .unset, .unset] [(.int (1 : Int32)), (.ref b106), (.ref b106)])) rfl (hb hby at_57) rfl (by decide) (cap := 1) (by decide) (by decide) (by decide) (by decide)
      obtain ⟨b113, g113⟩ : ∃ z, z = h106.size := ⟨_, rfl⟩
      rw [← g113] at A113 st113
      have z114 := E113.1
      have Sf115 := Safe.ext E113 CC108.1 Sf110
      have CC116 := CC108.trans (CHr.ext E113 CC108.1)
      have V113 : Arv Z h113 b113 k113 .char (1 : Int32) [(.int (0 : Int32))] (.int (0 : Int32)) := (Arv.new A113 (by decide)).pad (pad_rep [] (.int (0 : Int32)) 1)
      have g117 : n0 ≤ b113 := Nat.le_trans (Nat.le_trans Z0 z107) (Nat.le_of_eq g113.symm)
      have Sf118 := Safe.ext E113 CC108.1 (Safe.new (x := b113) (Nat.le_of_eq g113.symm))
      refine Wp.st (S' := T113.setTop (mkF m 59 #[.val (.int x1), .val (.int x2), .val (.int x3), .val (.int x4), .val (.int ((x1 &&& (255 : Int32)).toUInt32.toUInt16.toUInt32.toInt32)), .val (.int ((((x1.toUInt32 >>> ((8 : Int32) &&& 31).toUInt32).toInt32) &&& (255 : Int32)).toUInt32.toUInt16.toUInt32.toInt32)), .val (.int ln), .unset, .unset, .unset, .unset, .unset, .unset, .unset, .unset, .unset, .unset] [(.ref b113), (.ref b106), (.ref b106)])) st113 ?_
      refine Wp.st (S' := T113.setTop (mkF m 60 #[.val (.int x1), .val (.int x2), .val (.int x3), .val (.int x4), .val (.int ((x1 &&& (255 : Int32)).toUInt32.toUInt16.toUInt32.toInt32)), .val (.int ((((x1.toUInt32 >>> ((8 : Int32) &&& 31).toUInt32).toInt32) &&& (255 : Int32)).toUInt32.toUInt16.toUInt32.toInt32)), .val (.int ln), .unset, .unset, .unset, .unset, .unset, .unset, .unset, .unset, .unset, .unset] [(.ref b113), (.ref b113), (.ref b106), (.ref b106)])) (fun tt_ kk_ => XS.dup X113.here hx rfl (hb hby at_59) rfl rfl kk_) ?_
      refine Wp.st (S' := T113.setTop (mkF m 61 #[.val (.int x1), .val (.int x2), .val (.int x3), .val (.int x4), .val (.int ((x1 &&& (255 : Int32)).toUInt32.toUInt16.toUInt32.toInt32)), .val (.int ((((x1.toUInt32 >>> ((8 : Int32) &&& 31).toUInt32).toInt32) &&& (255 : Int32)).toUInt32.toUInt16.toUInt32.toInt32)), .val (.int ln), .unset, .unset, .unset, .unset, .unset, .unset, .unset, .unset, .unset, .unset] [(.int (0 : Int32)), (.ref b113), (.ref b113), (.ref b106), (.ref b106)])) (fun tt_ kk_ => XS.iconst X113.here hx rfl (hb hby at_60) kk_) ?_
      refine Wp.st (S' := T113.setTop (mkF m 63 #[.val (.int x1), .val (.int x2), .val (.int x3), .val (.int x4), .val (.int ((x1 &&& (255 : Int32)).toUInt32.toUInt16.toUInt32.toInt32)), .val (.int ((((x1.toUInt32 >>> ((8 : Int32) &&& 31).toUInt32).toInt32) &&& (255 : Int32)).toUInt32.toUInt16.toUInt32.toInt32)), .val (.int ln), .unset, .unset, .unset, .unset, .unset, .unset, .unset, .unset, .unset, .unset] [(.int ((x1 &&& (255 : Int32)).toUInt32.toUInt16.toUInt32.toInt32)), (.int (0 : Int32)), (.ref b113), (.ref b113), (.ref b106), (.ref b106)])) (fun tt_ kk_ => XS.iload X113.here hx rfl (hb hby at_61) rfl  kk_) ?_
      obtain ⟨cl119, Ar119, q119, S119, N119, H119, G119⟩ := id V113
      have hin119 := inb_of (j := (0 : Int32)) S119 ⟨by decide, by decide⟩
      obtain ⟨T119, h119, X119, e119, W119, st119⟩ := stC X113 hx hZ e113 Ar119 (j := (0 : Int32)) hin119 (g := (mkF m 63 #[.val (.int x1), .val (.int x2), .val (.int x3), .val (.int x4), .val (.int ((x1 &&& (255 : Int32)).toUInt32.toUInt16.toUInt32.toInt32)), .val (.int ((((x1.toUInt32 >>> ((8 : Int32) &&& 31).toUInt32).toInt32) &&& (255 : Int32)).toUInt32.toUInt16.toUInt32.toInt32)), .val (.int ln), .unset, .unset, .unset, .unset, .unset, .unset, .unset, .unset, .unset, .unset] [(.int ((x1 &&& (255 : Int32)).toUInt32.toUInt16.toUInt32.toInt32)), (.int (0 : Int32)), (.ref b113), (.ref b113), (.ref b106), (.ref b106)])) rfl rfl (hb hby at_63)
      have z120 := Nat.le_of_eq W119.size.symm
      have Sf121 := Safe.wr W119 (Safe.arv hZ.alike V113 (by decide)) CC116.1 Sf115
      have Sf122 := Safe.wr W119 (Safe.arv hZ.alike V113 (by decide)) CC116.1 Sf118
      have CC123 := CC116.trans (CHr.wr W119 (Safe.arv hZ.alike V113 (by decide)) CC116.1)
      have V119 : Arv Z h119 b113 k113 .char (1 : Int32) [(.int (nar .char ((x1 &&& (255 : Int32)).toUInt32.toUInt16.toUInt32.toInt32)))] (.int (0 : Int32)) := Arv.set Ar119 q119 S119 N119 H119 G119 (fits_nar_char _) W119 0 rfl (Nat.le_of_ble_eq_true rfl)
      have Nf119 := Fr.snoc X119 N0 g117
      refine Wp.st (S' := T119.setTop (mkF m 64 #[.val (.int x1), .val (.int x2), .val (.int x3), .val (.int x4), .val (.int ((x1 &&& (255 : Int32)).toUInt32.toUInt16.toUInt32.toInt32)), .val (.int ((((x1.toUInt32 >>> ((8 : Int32) &&& 31).toUInt32).toInt32) &&& (255 : Int32)).toUInt32.toUInt16.toUInt32.toInt32)), .val (.int ln), .unset, .unset, .unset, .unset, .unset, .unset, .unset, .unset, .unset, .unset] [(.ref b113), (.ref b106), (.ref b106)])) st119 ?_
      have hp125 : ∀ c ∈ ([(nar .char ((x1 &&& (255 : Int32)).toUInt32.toUInt16.toUInt32.toInt32))] : List Int32), ¬ c < 0 ∧ ¬ (255 : Int32) < c := (by
              intro c hc
              simp only [List.mem_cons, List.not_mem_nil, or_false] at hc
              subst hc
              all_goals first | exact own_ch255 _ | decide)
      have F126 := A106.ext E113
      have F127 := F126.wr W119
      have F128 := F112.ext E113
      have F129 := F128.other W119 (Or.inl (Nat.ne_of_lt (Nat.lt_of_lt_of_le A106.lt (Nat.le_trans (Nat.le_refl _) (Nat.le_of_eq g113.symm)))))
      have F130 := F111.ext E113
      have F131 := F130.other W119 (Or.inl (Nat.ne_of_lt (Nat.lt_of_lt_of_le A106.lt (Nat.le_trans (Nat.le_refl _) (Nat.le_of_eq g113.symm)))))
      have O132 := O0.ext E106
      have O133 := O132.ext E113
      have O134 := O133.wr W119 g117
      obtain ⟨vv124, _, ⟨T124, L124, k124, n124⟩, -, X124, ⟨Lc124, hQ124, l124, y124, z124⟩, st124⟩ := X119.specialBack hx (y := (⟨"java/lang/String", "<init>", "([C)V"⟩ : MethodName)) rfl hown (mvT hZ (hw _ (List.mem_of_getElem? (i := 4) rfl))) (mvT hZ (hw _ (List.mem_of_getElem? (i := 5) rfl))) (mvT hZ (hw _ (List.mem_of_getElem? (i := 6) rfl))) (by decide) (StrChars.Road.backV (W := 1) hZ (fun d hd => hw d ((by decide +kernel : ∀ d ∈ StrChars.Road.words, d ∈ tables_1) d hd)) (kI := 4) (hw _ (List.mem_of_getElem? (i := 1) rfl)) (cs := ([(nar .char ((x1 &&& (255 : Int32)).toUInt32.toUInt16.toUInt32.toInt32))] : List Int32)) (bs := (([(nar .char ((x1 &&& (255 : Int32)).toUInt32.toUInt16.toUInt32.toInt32))] : List Int32).map (fun c => c.toInt8.toInt32))) (n := 1) g109 (Nat.le_trans Z0 (Nat.le_trans (Nat.le_trans z107 z114) z120)) F127 F129 F131 V119 (SCompact.ext O134.2) hCS rfl rfl (by decide) (by decide) hp125 rfl (by decide) (by decide)) (g := (mkF m 64 #[.val (.int x1), .val (.int x2), .val (.int x3), .val (.int x4), .val (.int ((x1 &&& (255 : Int32)).toUInt32.toUInt16.toUInt32.toInt32)), .val (.int ((((x1.toUInt32 >>> ((8 : Int32) &&& 31).toUInt32).toInt32) &&& (255 : Int32)).toUInt32.toUInt16.toUInt32.toInt32)), .val (.int ln), .unset, .unset, .unset, .unset, .unset, .unset, .unset, .unset, .unset, .unset] [(.ref b113), (.ref b106), (.ref b106)])) rfl (by rw [hml]; rfl) (Steps.refl _) (a := b106) (argsL := [(.ref b113)]) (rest := [(.ref b106)]) (lenOf pd_9 rfl) rfl (by show 2 * 0 + _ ≤ _; exact Nat.le_of_eq rfl) (hb hby at_64) (fun _ _ => ⟨rfl, e119, (by decide : 2 + 1 ≤ _), (by decide : 5 + 1 ≤ _)⟩)
      dsimp only [Pt.U, Pt.locs, Pt.cells, Pt.slots] at X124 l124 y124 z124 st124 hQ124
      subst l124 y124 z124
      obtain ⟨rfl, Nq124, K124, Ex124, Co124, t124, kb124, ga124, gb124, gn124, Va124, Av124⟩ := hQ124
      have N124 := Fr.app Nf119 Nq124
      have z135 := K124.1
      have Sf136 := Safe.keep K124 (sfS Sf121 sf0) CC123.1 Sf121
      have Sf137 := Safe.keep K124 (sfS Sf121 sf0) CC123.1 Sf122
      have CC138 := CC123.trans (CHr.keep K124 (sfS Sf121 sf0) CC123.1)
      have g139 : n0 ≤ t124 := Nat.le_trans (Nat.le_trans Z0 (Nat.le_trans (Nat.le_trans z107 z114) z120)) gb124
      have e124 : T124.heap = T124.heap := rfl
      refine Wp.tr (S' := T124.setTop (mkF m 67 #[.val (.int x1), .val (.int x2), .val (.int x3), .val (.int x4), .val (.int ((x1 &&& (255 : Int32)).toUInt32.toUInt16.toUInt32.toInt32)), .val (.int ((((x1.toUInt32 >>> ((8 : Int32) &&& 31).toUInt32).toInt32) &&& (255 : Int32)).toUInt32.toUInt16.toUInt32.toInt32)), .val (.int ln), .unset, .unset, .unset, .unset, .unset, .unset, .unset, .unset, .unset, .unset] [(.ref b106)])) st124 ?_
      refine Wp.st (S' := T124.setTop (mkF m 90 #[.val (.int x1), .val (.int x2), .val (.int x3), .val (.int x4), .val (.int ((x1 &&& (255 : Int32)).toUInt32.toUInt16.toUInt32.toInt32)), .val (.int ((((x1.toUInt32 >>> ((8 : Int32) &&& 31).toUInt32).toInt32) &&& (255 : Int32)).toUInt32.toUInt16.toUInt32.toInt32)), .val (.int ln), .unset, .unset, .unset, .unset, .unset, .unset, .unset, .unset, .unset, .unset] [(.ref b106)])) (fun tt_ kk_ => XS.goto X124.here hx rfl (pc0 := 67) (pc' := 90) rfl (hb hby at_67) (by decide) (by decide) kk_) ?_
      have K140 := Keep.refl h0 []
      have K141 := K140.ext E106
      have K142 := K141.ext E113
      have K143 := K142.wr W119 (Or.inr (Nat.le_trans z107 (Nat.le_of_eq g113.symm)))
      have K144 := K143.trans K124 (allS (Or.inr (Nat.le_trans (Nat.le_refl _) (Nat.le_of_eq g106.symm))) all0)
      exact J1 _ _ _ b106 _ _ hS0 (by first | exact (Nat.le_trans (Nat.le_refl _) (Nat.le_trans (Nat.le_trans (Nat.le_trans z107 z114) z120) z135)) | (rw [e124]; exact (Nat.le_trans (Nat.le_refl _) (Nat.le_trans (Nat.le_trans (Nat.le_trans z107 z114) z120) z135)))) hZ hown N124 (X124.more (by decide) (by decide)) e124 K144 Ex124 
    case neg =>
      refine Wp.st (S' := s₁.setTop (mkF m 70 #[.val (.int x1), .val (.int x2), .val (.int x3), .val (.int x4), .val (.int ((x1 &&& (255 : Int32)).toUInt32.toUInt16.toUInt32.toInt32)), .val (.int ((((x1.toUInt32 >>> ((8 : Int32) &&& 31).toUInt32).toInt32) &&& (255 : Int32)).toUInt32.toUInt16.toUInt32.toInt32)), .val (.int ln), .unset, .unset, .unset, .unset, .unset, .unset, .unset, .unset, .unset, .unset] [])) (fun tt_ kk_ => XS.icmpYes X0.here hx rfl (pc0 := 49) (pc' := 70) rfl (hb hby at_49) rfl (feq (h1_ : ¬ (ln = (1 : Int32)))).2 (by decide) (by decide) kk_) ?_
      obtain ⟨T145, h145, X145, e145, E145, A145, D145, U145, st145⟩ := newO X0 hx hZ hown (hw _ (List.mem_of_getElem? (i := 0) rfl)) (hw _ (List.mem_of_getElem? (i := 1) rfl)) (hw _ (List.mem_of_getElem? (i := 2) rfl)) e0 (g := (mkF m 70 #[.val (.int x1), .val (.int x2), .val (.int x3), .val (.int x4), .val (.int ((x1 &&& (255 : Int32)).toUInt32.toUInt16.toUInt32.toInt32)), .val (.int ((((x1.toUInt32 >>> ((8 : Int32) &&& 31).toUInt32).toInt32) &&& (255 : Int32)).toUInt32.toUInt16.toUInt32.toInt32)), .val (.int ln), .unset, .unset, .unset, .unset, .unset, .unset, .unset, .unset, .unset, .unset] [])) rfl (hb hby at_70) (by decide) (by decide)
      obtain ⟨b145, g145⟩ : ∃ z, z = h0.size := ⟨_, rfl⟩
      rw [← g145] at A145 D145 U145 st145
      have z146 := E145.1
      have CC147 := CC0.trans (CHr.ext E145 CC0.1)
      have g148 : n0 ≤ b145 := Nat.le_trans (Nat.le_trans Z0 (Nat.le_refl _)) (Nat.le_of_eq g145.symm)
      have Sf149 := Safe.ext E145 CC0.1 (Safe.new (x := b145) (Nat.le_of_eq g145.symm))
      have F150 : Fld Z h145 b145 "java/lang/String" "coder" "B" (.int (0 : Int32)) := D145 (Or.inr (hw _ (List.mem_of_getElem? (i := 27) rfl))) (ty := .byte) (by decide)
      have F151 : Fld Z h145 b145 "java/lang/String" "value" "[B" .null := D145 (Or.inr (hw _ (List.mem_of_getElem? (i := 29) rfl))) (ty := (.array .byte)) (by decide)
      refine Wp.st (S' := T145.setTop (mkF m 73 #[.val (.int x1), .val (.int x2), .val (.int x3), .val (.int x4), .val (.int ((x1 &&& (255 : Int32)).toUInt32.toUInt16.toUInt32.toInt32)), .val (.int ((((x1.toUInt32 >>> ((8 : Int32) &&& 31).toUInt32).toInt32) &&& (255 : Int32)).toUInt32.toUInt16.toUInt32.toInt32)), .val (.int ln), .unset, .unset, .unset, .unset, .unset, .unset, .unset, .unset, .unset, .unset] [(.ref b145)])) st145 ?_
      refine Wp.st (S' := T145.setTop (mkF m 74 #[.val (.int x1), .val (.int x2), .val (.int x3), .val (.int x4), .val (.int ((x1 &&& (255 : Int32)).toUInt32.toUInt16.toUInt32.toInt32)), .val (.int ((((x1.toUInt32 >>> ((8 : Int32) &&& 31).toUInt32).toInt32) &&& (255 : Int32)).toUInt32.toUInt16.toUInt32.toInt32)), .val (.int ln), .unset, .unset, .unset, .unset, .unset, .unset, .unset, .unset, .unset, .unset] [(.ref b145), (.ref b145)])) (fun tt_ kk_ => XS.dup X145.here hx rfl (hb hby at_73) rfl rfl kk_) ?_
      refine Wp.st (S' := T145.setTop (mkF m 75 #[.val (.int x1), .val (.int x2), .val (.int x3), .val (.int x4), .val (.int ((x1 &&& (255 : Int32)).toUInt32.toUInt16.toUInt32.toInt32)), .val (.int ((((x1.toUInt32 >>> ((8 : Int32) &&& 31).toUInt32).toInt32) &&& (255 : Int32)).toUInt32.toUInt16.toUInt32.toInt32)), .val (.int ln), .unset, .unset, .unset, .unset, .unset, .unset, .unset, .unset, .unset, .unset] [(.int (2 : Int32)), (.ref b145), (.ref b145)])) (fun tt_ kk_ => XS.iconst X145.here hx rfl (hb hby at_74) kk_) ?_
      obtain ⟨T152, h152, k152, X152, e152, E152, A152, st152⟩ := newP X145 hx hZ (hw _ (List.mem_of_getElem? (i := 3) rfl)) e145 (g := (mkF m 75 #[.val (.int x1), .val (.int x2), .val (.int x3), .val (.int x4), .val (.int ((x1 &&& (255 : Int32)).toUInt32.toUInt16.toUInt32.toInt32)), .val (.int ((((x1.toUInt32 >>> ((8 : Int32) &&& 31).toUInt32).toInt32) &&& (255 : Int32)).toUInt32.toUInt16.toUInt32.toInt32)), .val (.int ln), .unset, .unset, .unset, .unset, .unset, .unset, .unset, .unset, .unset, .unset] [(.int (2 : Int32)), (.ref b145), (.ref b145)])) rfl (hb hby at_75) rfl (by decide) (cap := 2) (by decide) (by decide) (by decide) (by decide)
      obtain ⟨b152, g152⟩ : ∃ z, z = h145.size := ⟨_, rfl⟩
      rw [← g152] at A152 st152
      have z153 := E152.1
      have Sf154 := Safe.ext E152 CC147.1 Sf149
      have CC155 := CC147.trans (CHr.ext E152 CC147.1)
      have V152 : Arv Z h152 b152 k152 .char (2 : Int32) [(.int (0 : Int32)), (.int (0 : Int32))] (.int (0 : Int32)) := (Arv.new A152 (by decide)).pad (pad_rep [] (.int (0 : Int32)) 2)
      have g156 : n0 ≤ b152 := Nat.le_trans (Nat.le_trans Z0 z146) (Nat.le_of_eq g152.symm)
      have Sf157 := Safe.ext E152 CC147.1 (Safe.new (x := b152) (Nat.le_of_eq g152.symm))
      refine Wp.st (S' := T152.setTop (mkF m 77 #[.val (.int x1), .val (.int x2), .val (.int x3), .val (.int x4), .val (.int ((x1 &&& (255 : Int32)).toUInt32.toUInt16.toUInt32.toInt32)), .val (.int ((((x1.toUInt32 >>> ((8 : Int32) &&& 31).toUInt32).toInt32) &&& (255 : Int32)).toUInt32.toUInt16.toUInt32.toInt32)), .val (.int ln), .unset, .unset, .unset, .unset, .unset, .unset, .unset, .unset, .unset, .unset] [(.ref b152), (.ref b145), (.ref b145)])) st152 ?_
      refine Wp.st (S' := T152.setTop (mkF m 78 #[.val (.int x1), .val (.int x2), .val (.int x3), .val (.int x4), .val (.int ((x1 &&& (255 : Int32)).toUInt32.toUInt16.toUInt32.toInt32)), .val (.int ((((x1.toUInt32 >>> ((8 : Int32) &&& 31).toUInt32).toInt32) &&& (255 : Int32)).toUInt32.toUInt16.toUInt32.toInt32)), .val (.int ln), .unset, .unset, .unset, .unset, .unset, .unset, .unset, .unset, .unset, .unset] [(.ref b152), (.ref b152), (.ref b145), (.ref b145)])) (fun tt_ kk_ => XS.dup X152.here hx rfl (hb hby at_77) rfl rfl kk_) ?_
      refine Wp.st (S' := T152.setTop (mkF m 79 #[.val (.int x1), .val (.int x2), .val (.int x3), .val (.int x4), .val (.int ((x1 &&& (255 : Int32)).toUInt32.toUInt16.toUInt32.toInt32)), .val (.int ((((x1.toUInt32 >>> ((8 : Int32) &&& 31).toUInt32).toInt32) &&& (255 : Int32)).toUInt32.toUInt16.toUInt32.toInt32)), .val (.int ln), .unset, .unset, .unset, .unset, .unset, .unset, .unset, .unset, .unset, .unset] [(.int (0 : Int32)), (.ref b152), (.ref b152), (.ref b145), (.ref b145)])) (fun tt_ kk_ => XS.iconst X152.here hx rfl (hb hby at_78) kk_) ?_
      refine Wp.st (S' := T152.setTop (mkF m 81 #[.val (.int x1), .val (.int x2), .val (.int x3), .val (.int x4), .val (.int ((x1 &&& (255 : Int32)).toUInt32.toUInt16.toUInt32.toInt32)), .val (.int ((((x1.toUInt32 >>> ((8 : Int32) &&& 31).toUInt32).toInt32) &&& (255 : Int32)).toUInt32.toUInt16.toUInt32.toInt32)), .val (.int ln), .unset, .unset, .unset, .unset, .unset, .unset, .unset, .unset, .unset, .unset] [(.int ((x1 &&& (255 : Int32)).toUInt32.toUInt16.toUInt32.toInt32)), (.int (0 : Int32)), (.ref b152), (.ref b152), (.ref b145), (.ref b145)])) (fun tt_ kk_ => XS.iload X152.here hx rfl (hb hby at_79) rfl  kk_) ?_
      obtain ⟨cl158, Ar158, q158, S158, N158, H158, G158⟩ := id V152
      have hin158 := inb_of (j := (0 : Int32)) S158 ⟨by decide, by decide⟩
      obtain ⟨T158, h158, X158, e158, W158, st158⟩ := stC X152 hx hZ e152 Ar158 (j := (0 : Int32)) hin158 (g := (mkF m 81 #[.val (.int x1), .val (.int x2), .val (.int x3), .val (.int x4), .val (.int ((x1 &&& (255 : Int32)).toUInt32.toUInt16.toUInt32.toInt32)), .val (.int ((((x1.toUInt32 >>> ((8 : Int32) &&& 31).toUInt32).toInt32) &&& (255 : Int32)).toUInt32.toUInt16.toUInt32.toInt32)), .val (.int ln), .unset, .unset, .unset, .unset, .unset, .unset, .unset, .unset, .unset, .unset] [(.int ((x1 &&& (255 : Int32)).toUInt32.toUInt16.toUInt32.toInt32)), (.int (0 : Int32)), (.ref b152), (.ref b152), (.ref b145), (.ref b145)])) rfl rfl (hb hby at_81)
      have z159 := Nat.le_of_eq W158.size.symm
      have Sf160 := Safe.wr W158 (Safe.arv hZ.alike V152 (by decide)) CC155.1 Sf154
      have Sf161 := Safe.wr W158 (Safe.arv hZ.alike V152 (by decide)) CC155.1 Sf157
      have CC162 := CC155.trans (CHr.wr W158 (Safe.arv hZ.alike V152 (by decide)) CC155.1)
      have V158 : Arv Z h158 b152 k152 .char (2 : Int32) [(.int (nar .char ((x1 &&& (255 : Int32)).toUInt32.toUInt16.toUInt32.toInt32))), (.int (0 : Int32))] (.int (0 : Int32)) := Arv.set Ar158 q158 S158 N158 H158 G158 (fits_nar_char _) W158 0 rfl (Nat.le_of_ble_eq_true rfl)
      have Nf158 := Fr.snoc X158 N0 g156
      refine Wp.st (S' := T158.setTop (mkF m 82 #[.val (.int x1), .val (.int x2), .val (.int x3), .val (.int x4), .val (.int ((x1 &&& (255 : Int32)).toUInt32.toUInt16.toUInt32.toInt32)), .val (.int ((((x1.toUInt32 >>> ((8 : Int32) &&& 31).toUInt32).toInt32) &&& (255 : Int32)).toUInt32.toUInt16.toUInt32.toInt32)), .val (.int ln), .unset, .unset, .unset, .unset, .unset, .unset, .unset, .unset, .unset, .unset] [(.ref b152), (.ref b145), (.ref b145)])) st158 ?_
      refine Wp.st (S' := T158.setTop (mkF m 83 #[.val (.int x1), .val (.int x2), .val (.int x3), .val (.int x4), .val (.int ((x1 &&& (255 : Int32)).toUInt32.toUInt16.toUInt32.toInt32)), .val (.int ((((x1.toUInt32 >>> ((8 : Int32) &&& 31).toUInt32).toInt32) &&& (255 : Int32)).toUInt32.toUInt16.toUInt32.toInt32)), .val (.int ln), .unset, .unset, .unset, .unset, .unset, .unset, .unset, .unset, .unset, .unset] [(.ref b152), (.ref b152), (.ref b145), (.ref b145)])) (fun tt_ kk_ => XS.dup X158.here hx rfl (hb hby at_82) rfl rfl kk_) ?_
      refine Wp.st (S' := T158.setTop (mkF m 84 #[.val (.int x1), .val (.int x2), .val (.int x3), .val (.int x4), .val (.int ((x1 &&& (255 : Int32)).toUInt32.toUInt16.toUInt32.toInt32)), .val (.int ((((x1.toUInt32 >>> ((8 : Int32) &&& 31).toUInt32).toInt32) &&& (255 : Int32)).toUInt32.toUInt16.toUInt32.toInt32)), .val (.int ln), .unset, .unset, .unset, .unset, .unset, .unset, .unset, .unset, .unset, .unset] [(.int (1 : Int32)), (.ref b152), (.ref b152), (.ref b145), (.ref b145)])) (fun tt_ kk_ => XS.iconst X158.here hx rfl (hb hby at_83) kk_) ?_
      refine Wp.st (S' := T158.setTop (mkF m 86 #[.val (.int x1), .val (.int x2), .val (.int x3), .val (.int x4), .val (.int ((x1 &&& (255 : Int32)).toUInt32.toUInt16.toUInt32.toInt32)), .val (.int ((((x1.toUInt32 >>> ((8 : Int32) &&& 31).toUInt32).toInt32) &&& (255 : Int32)).toUInt32.toUInt16.toUInt32.toInt32)), .val (.int ln), .unset, .unset, .unset, .unset, .unset, .unset, .unset, .unset, .unset, .unset] [(.int ((((x1.toUInt32 >>> ((8 : Int32) &&& 31).toUInt32).toInt32) &&& (255 : Int32)).toUInt32.toUInt16.toUInt32.toInt32)), (.int (1 : Int32)), (.ref b152), (.ref b152), (.ref b145), (.ref b145)])) (fun tt_ kk_ => XS.iload X158.here hx rfl (hb hby at_84) rfl  kk_) ?_
      obtain ⟨cl163, Ar163, q163, S163, N163, H163, G163⟩ := id V158
      have hin163 := inb_of (j := (1 : Int32)) S163 ⟨by decide, by decide⟩
      obtain ⟨T163, h163, X163, e163, W163, st163⟩ := stC X158 hx hZ e158 Ar163 (j := (1 : Int32)) hin163 (g := (mkF m 86 #[.val (.int x1), .val (.int x2), .val (.int x3), .val (.int x4), .val (.int ((x1 &&& (255 : Int32)).toUInt32.toUInt16.toUInt32.toInt32)), .val (.int ((((x1.toUInt32 >>> ((8 : Int32) &&& 31).toUInt32).toInt32) &&& (255 : Int32)).toUInt32.toUInt16.toUInt32.toInt32)), .val (.int ln), .unset, .unset, .unset, .unset, .unset, .unset, .unset, .unset, .unset, .unset] [(.int ((((x1.toUInt32 >>> ((8 : Int32) &&& 31).toUInt32).toInt32) &&& (255 : Int32)).toUInt32.toUInt16.toUInt32.toInt32)), (.int (1 : Int32)), (.ref b152), (.ref b152), (.ref b145), (.ref b145)])) rfl rfl (hb hby at_86)
      have z164 := Nat.le_of_eq W163.size.symm
      have Sf165 := Safe.wr W163 (Safe.arv hZ.alike V158 (by decide)) CC162.1 Sf160
      have Sf166 := Safe.wr W163 (Safe.arv hZ.alike V158 (by decide)) CC162.1 Sf161
      have CC167 := CC162.trans (CHr.wr W163 (Safe.arv hZ.alike V158 (by decide)) CC162.1)
      have V163 : Arv Z h163 b152 k152 .char (2 : Int32) [(.int (nar .char ((x1 &&& (255 : Int32)).toUInt32.toUInt16.toUInt32.toInt32))), (.int (nar .char ((((x1.toUInt32 >>> ((8 : Int32) &&& 31).toUInt32).toInt32) &&& (255 : Int32)).toUInt32.toUInt16.toUInt32.toInt32)))] (.int (0 : Int32)) := Arv.set Ar163 q163 S163 N163 H163 G163 (fits_nar_char _) W163 1 rfl (Nat.le_of_ble_eq_true rfl)
      have Nf163 := Fr.snoc X163 Nf158 g156
      refine Wp.st (S' := T163.setTop (mkF m 87 #[.val (.int x1), .val (.int x2), .val (.int x3), .val (.int x4), .val (.int ((x1 &&& (255 : Int32)).toUInt32.toUInt16.toUInt32.toInt32)), .val (.int ((((x1.toUInt32 >>> ((8 : Int32) &&& 31).toUInt32).toInt32) &&& (255 : Int32)).toUInt32.toUInt16.toUInt32.toInt32)), .val (.int ln), .unset, .unset, .unset, .unset, .unset, .unset, .unset, .unset, .unset, .unset] [(.ref b152), (.ref b145), (.ref b145)])) st163 ?_
      have hp169 : ∀ c ∈ ([(nar .char ((x1 &&& (255 : Int32)).toUInt32.toUInt16.toUInt32.toInt32)), (nar .char ((((x1.toUInt32 >>> ((8 : Int32) &&& 31).toUInt32).toInt32) &&& (255 : Int32)).toUInt32.toUInt16.toUInt32.toInt32))] : List Int32), ¬ c < 0 ∧ ¬ (255 : Int32) < c := (by
              intro c hc
              simp only [List.mem_cons, List.not_mem_nil, or_false] at hc
              rcases hc with rfl | rfl
              all_goals first | exact own_ch255 _ | decide)
      have F170 := A145.ext E152
      have F171 := F170.wr W158
      have F172 := F171.wr W163
      have F173 := F151.ext E152
      have F174 := F173.other W158 (Or.inl (Nat.ne_of_lt (Nat.lt_of_lt_of_le A145.lt (Nat.le_trans (Nat.le_refl _) (Nat.le_of_eq g152.symm)))))
      have F175 := F174.other W163 (Or.inl (Nat.ne_of_lt (Nat.lt_of_lt_of_le A145.lt (Nat.le_trans (Nat.le_refl _) (Nat.le_of_eq g152.symm)))))
      have F176 := F150.ext E152
      have F177 := F176.other W158 (Or.inl (Nat.ne_of_lt (Nat.lt_of_lt_of_le A145.lt (Nat.le_trans (Nat.le_refl _) (Nat.le_of_eq g152.symm)))))
      have F178 := F177.other W163 (Or.inl (Nat.ne_of_lt (Nat.lt_of_lt_of_le A145.lt (Nat.le_trans (Nat.le_refl _) (Nat.le_of_eq g152.symm)))))
      have O179 := O0.ext E145
      have O180 := O179.ext E152
      have O181 := O180.wr W158 g156
      have O182 := O181.wr W163 g156
      obtain ⟨vv168, _, ⟨T168, L168, k168, n168⟩, -, X168, ⟨Lc168, hQ168, l168, y168, z168⟩, st168⟩ := X163.specialBack hx (y := (⟨"java/lang/String", "<init>", "([C)V"⟩ : MethodName)) rfl hown (mvT hZ (hw _ (List.mem_of_getElem? (i := 4) rfl))) (mvT hZ (hw _ (List.mem_of_getElem? (i := 5) rfl))) (mvT hZ (hw _ (List.mem_of_getElem? (i := 6) rfl))) (by decide) (StrChars.Road.backV (W := 1) hZ (fun d hd => hw d ((by decide +kernel : ∀ d ∈ StrChars.Road.words, d ∈ tables_1) d hd)) (kI := 4) (hw _ (List.mem_of_getElem? (i := 1) rfl)) (cs := ([(nar .char ((x1 &&& (255 : Int32)).toUInt32.toUInt16.toUInt32.toInt32)), (nar .char ((((x1.toUInt32 >>> ((8 : Int32) &&& 31).toUInt32).toInt32) &&& (255 : Int32)).toUInt32.toUInt16.toUInt32.toInt32))] : List Int32)) (bs := (([(nar .char ((x1 &&& (255 : Int32)).toUInt32.toUInt16.toUInt32.toInt32)), (nar .char ((((x1.toUInt32 >>> ((8 : Int32) &&& 31).toUInt32).toInt32) &&& (255 : Int32)).toUInt32.toUInt16.toUInt32.toInt32))] : List Int32).map (fun c => c.toInt8.toInt32))) (n := 2) g148 (Nat.le_trans Z0 (Nat.le_trans (Nat.le_trans (Nat.le_trans z146 z153) z159) z164)) F172 F175 F178 V163 (SCompact.ext O182.2) hCS rfl rfl (by decide) (by decide) hp169 rfl (by decide) (by decide)) (g := (mkF m 87 #[.val (.int x1), .val (.int x2), .val (.int x3), .val (.int x4), .val (.int ((x1 &&& (255 : Int32)).toUInt32.toUInt16.toUInt32.toInt32)), .val (.int ((((x1.toUInt32 >>> ((8 : Int32) &&& 31).toUInt32).toInt32) &&& (255 : Int32)).toUInt32.toUInt16.toUInt32.toInt32)), .val (.int ln), .unset, .unset, .unset, .unset, .unset, .unset, .unset, .unset, .unset, .unset] [(.ref b152), (.ref b145), (.ref b145)])) rfl (by rw [hml]; rfl) (Steps.refl _) (a := b145) (argsL := [(.ref b152)]) (rest := [(.ref b145)]) (lenOf pd_9 rfl) rfl (by show 2 * 0 + _ ≤ _; exact Nat.le_of_eq rfl) (hb hby at_87) (fun _ _ => ⟨rfl, e163, (by decide : 2 + 1 ≤ _), (by decide : 6 + 2 ≤ _)⟩)
      dsimp only [Pt.U, Pt.locs, Pt.cells, Pt.slots] at X168 l168 y168 z168 st168 hQ168
      subst l168 y168 z168
      obtain ⟨rfl, Nq168, K168, Ex168, Co168, t168, kb168, ga168, gb168, gn168, Va168, Av168⟩ := hQ168
      have N168 := Fr.app Nf163 Nq168
      have z183 := K168.1
      have Sf184 := Safe.keep K168 (sfS Sf165 sf0) CC167.1 Sf165
      have Sf185 := Safe.keep K168 (sfS Sf165 sf0) CC167.1 Sf166
      have CC186 := CC167.trans (CHr.keep K168 (sfS Sf165 sf0) CC167.1)
      have g187 : n0 ≤ t168 := Nat.le_trans (Nat.le_trans Z0 (Nat.le_trans (Nat.le_trans (Nat.le_trans z146 z153) z159) z164)) gb168
      have e168 : T168.heap = T168.heap := rfl
      refine Wp.tr (S' := T168.setTop (mkF m 90 #[.val (.int x1), .val (.int x2), .val (.int x3), .val (.int x4), .val (.int ((x1 &&& (255 : Int32)).toUInt32.toUInt16.toUInt32.toInt32)), .val (.int ((((x1.toUInt32 >>> ((8 : Int32) &&& 31).toUInt32).toInt32) &&& (255 : Int32)).toUInt32.toUInt16.toUInt32.toInt32)), .val (.int ln), .unset, .unset, .unset, .unset, .unset, .unset, .unset, .unset, .unset, .unset] [(.ref b145)])) st168 ?_
      have K188 := Keep.refl h0 []
      have K189 := K188.ext E145
      have K190 := K189.ext E152
      have K191 := K190.wr W158 (Or.inr (Nat.le_trans z146 (Nat.le_of_eq g152.symm)))
      have K192 := K191.wr W163 (Or.inr (Nat.le_trans z146 (Nat.le_of_eq g152.symm)))
      have K193 := K192.trans K168 (allS (Or.inr (Nat.le_trans (Nat.le_refl _) (Nat.le_of_eq g145.symm))) all0)
      exact J1 _ _ _ b145 _ _ hS0 (by first | exact (Nat.le_trans (Nat.le_refl _) (Nat.le_trans (Nat.le_trans (Nat.le_trans (Nat.le_trans z146 z153) z159) z164) z183)) | (rw [e168]; exact (Nat.le_trans (Nat.le_refl _) (Nat.le_trans (Nat.le_trans (Nat.le_trans (Nat.le_trans z146 z153) z159) z164) z183)))) hZ hown N168 (X168.more (by decide) (by decide)) e168 K193 Ex168 
set_option maxRecDepth 65536 in
set_option maxHeartbeats 40000000 in
theorem comes_1 {Post : Tables → Env → Array Value → State → Outcome → State → Prop} (hpost : ∀ tb e args s v u, (limb_1_1.after args s (.returned v) u = true ∧ limb_1_2.after args s (.returned v) u = true ∧ True) → ReturnedEndW s (.returned v) u (Jvm.fieldLocs frame_1_writes args s ++ Jvm.arrayLocs frame_1_arrays args s ++ Jvm.staticLocs frame_1_statics s) 24 1152 → Post tb e args s (.returned v) u) :
    ArmFor flags0 classFile x code maxLocals ret World_1 tables_1 room_1 Calls_1 rest_1 Pre_1 Post := by
  intro l hfl _ _ p e ha hc hk s m args below hf hA hF happ hP
  obtain ⟨hcalls, hrest, hpre⟩ := hP
  obtain ⟨-, -, -, hnamed, -, -, -, hat⟩ := (Spec.applies_iff hf).mp happ
  obtain ⟨hg, hn⟩ := and_e (Cond.before_iff.mp (show (Jvm.Cond.and given_1 narrow_1).before args s = true from hpre))
  obtain ⟨q1, q2⟩ := and_e hg
  obtain ⟨w0, w1, w2, w3, rfl⟩ : ∃ w0 w1 w2 w3 : Value, args = #[w0, w1, w2, w3] := by
    have hs : args.size = 4 := by simpa [Cond.value, given_1] using q1
    obtain ⟨L⟩ := args
    match L, hs with
    | [w0, w1, w2, w3], _ => exact ⟨w0, w1, w2, w3, rfl⟩
  obtain ⟨q3, q4⟩ := and_e q2
  obtain ⟨q5, q6⟩ := and_e q4
  obtain ⟨q7, q8⟩ := and_e q6
  have hw := fun d (hd : d ∈ tables_1) => atoms_spec (ws := Jvm.Cond.code x code maxLocals ret :: tables_1) hat d (List.mem_cons_of_mem _ hd)
  have hfit : Fit s := fun {y c} hc i hi => by
    obtain ⟨ha, rfl⟩ := Array.getElem?_eq_some_iff.mp hc
    have q := List.all_eq_true.mp ((Array.all_eq_true_iff_forall_mem.mp hF) _ (Array.getElem_mem ha)) i (List.mem_range.mpr hi)
    simpa [Array.getElem?_eq_getElem hi] using q
  obtain ⟨q9, q10⟩ := and_e hn
  obtain ⟨w_UNLOCKED, ev_UNLOCKED⟩ := exa_v q9
  have PE_UNLOCKED := Exa.start ev_UNLOCKED q9
  have PS_UNLOCKED := Sta.start ev_UNLOCKED (Or.inr ⟨(hw _ (List.mem_of_getElem? (i := 31) rfl)), (hw _ (List.mem_of_getElem? (i := 32) rfl))⟩)
  obtain ⟨w_LOCKED, ev_LOCKED⟩ := exa_v q10
  have PE_LOCKED := Exa.start ev_LOCKED q10
  have PS_LOCKED := Sta.start ev_LOCKED (Or.inr ⟨(hw _ (List.mem_of_getElem? (i := 31) rfl)), (hw _ (List.mem_of_getElem? (i := 107) rfl))⟩)
  obtain ⟨hsets, hown0⟩ := atoms_of _ (rest_1_c_eq ▸ (show rest_1_c.before _ s = true from hrest))
  have hr0 := Cond.before_iff.mp hown0
  obtain ⟨zcs, evcs⟩ := is_v (Cond.before_iff.mp (hsets _ (List.mem_of_getElem? (i := 1) rfl)))
  have SCompact := Sta.start evcs (Or.inl (hsets _ (List.mem_of_getElem? (i := 0) rfl)))
  have hCS := gotF (Cond.eq_ints evcs (Term.int_eval (0))) (not_v (Cond.before_iff.mp (hsets _ (List.mem_of_getElem? (i := 2) rfl))))
  have CH0 : CHv s own_EL s.vm s.heap := CHv.start (own_EW hw) (fun p hp => hcalls.1 p ((by decide : ∀ p ∈ own_EL, p ∈ consts_1) p hp)) (hsets _ (List.mem_of_getElem? (i := 2) rfl)) (hw _ (List.mem_of_getElem? (i := 19) rfl)) (hw _ (List.mem_of_getElem? (i := 1) rfl))
  obtain ⟨i0, ei0⟩ := is_v q3
  obtain rfl : w0 = (.int i0) := Option.some.inj ei0
  obtain ⟨i1, ei1⟩ := is_v q5
  obtain rfl : w1 = (.int i1) := Option.some.inj ei1
  obtain ⟨i2, ei2⟩ := is_v q7
  obtain rfl : w2 = (.int i2) := Option.some.inj ei2
  obtain ⟨i3, ei3⟩ := is_v q8
  obtain rfl : w3 = (.int i3) := Option.some.inj ei3
  obtain ⟨n, o, h1, h2, h3, _, L, rfl, ⟨rfl, N, -⟩, hq⟩ := rm0 l s _ hw tables_1 i0 i1 i2 i3 w_UNLOCKED w_LOCKED zcs s.heap s.heap.size (Nat.le_refl _) (Old.start s) PE_UNLOCKED PS_UNLOCKED PE_LOCKED PS_LOCKED SCompact hCS p e ha hc hk s m _ below hf ((Spec.applies_iff_loose hf).mp happ).1 ⟨rfl, State.Warmed39.refl s, rfl, CH0⟩ trivial
  refine ⟨n, _, h1, h2, h3, hpost _ _ _ _ _ _ ⟨Cond.after_iff.mpr rfl, Cond.after_iff.mpr (eq_i res_at (Term.int_eval (1)) rfl), trivial⟩ ⟨hq.1, hq.2.1, hq.2.2.1, (hq.2.2.2.sift fun y hy => Or.inr (N y hy)).mono (by decide) (by decide)⟩⟩
theorem main_1_1 : Claimed_1_1 := comes_1 fun _ _ _ _ _ _ h hF => ⟨h.1, hF⟩
theorem main_1_2 : Claimed_1_2 := comes_1 fun _ _ _ _ _ _ h hF => ⟨h.2.1, hF⟩
end Jvm.Pilot.@@N@@
namespace Jvm.Pilot.@@N@@
open Jvm Jvm.ClassFile Sem Op Lib Jvm.Free Jvm.Stand Jvm.Pilot.@@N@@.Jvm.D
/-! MADE BY PROGRAM (witnessworld.py) out of the Statement's table words and the real class files: 26 classes; the members and pool entries that the words name. The judged class is class 1, her method 1. -/
namespace start1
open Jvm.ClassFile
def u (s : String) : CpInfo := .utf8 (stringToUtf16 s)
/-- a pool by its gaps: so many unusable entries, then the entry; so many at the end -/
def gap : Nat → List CpInfo → List CpInfo
  | 0, r => r
  | n + 1, r => .unusable :: gap n r
def poolList (es : List (Nat × CpInfo)) (last : Nat) : List CpInfo := es.foldr (fun e r => gap e.1 (e.2 :: r)) (gap last [])
def pool (es : List (Nat × CpInfo)) (last : Nat) : Array CpInfo := ⟨poolList es last⟩
def fileOf (pool : Array CpInfo) (this : Nat) (attrs : Array Attribute := #[]) (ms : Array MethodInfo := #[]) (fl : Nat := 33) (sup : Nat := 0) (ifs : Array Nat := #[]) (fds : Array FieldInfo := #[]) : ClassFile where
  minorVersion := 0
  majorVersion := 65
  constantPool := pool
  accessFlags := fl
  thisClass := this
  superClass := sup
  interfaces := ifs
  fields := fds
  methods := ms
  attributes := attrs
def plain (name : String) (sup : Option ClassId) : Class where
  name := name
  kind := .ordinary
  loader := none
  accessFlags := 33
  super := sup
  interfaces := #[]
  cf := none
  fields := #[]
  methods := #[]
  instanceTypes := #[]
  staticTypes := #[]
  resolved := #[]
  callSites := []
  init := .initialized
  statics := none
  mirror := none

def pool0 : Array CpInfo := pool [(5, u "<init>"), (0, u "()V"), (1, .class_ 10), (1, u "java/lang/Object")] 113

def k0c0 : Code := { maxStack := 0, maxLocals := 1, code := object_method_1_code, exceptionTable := #[], attributes := #[] }
def k0m0 : Method := { name := "<init>", desc := "()V", sig := { parameters := [], returnType := none }, accessFlags := 1, code := some k0c0 }
/-- java/lang/Object -/
def k0 : Class := { plain "java/lang/Object" none with
  accessFlags := 33
  interfaces := #[]
  cf := some (fileOf pool0 8 #[] #[{ accessFlags := 1, nameIndex := 5, descriptorIndex := 6, attributes := #[] }] 33 0 #[] #[])
  fields := #[]
  methods := #[k0m0]
  instanceTypes := #[]
  staticTypes := #[]
  resolved := Array.replicate 124 none
  statics := none }

def pool1 : Array CpInfo := pool [(2, .class_ 4), (1, u "java/lang/Object"), (0, u "<init>"), (0, u "()V"), (0, .class_ 8), (0, u "java/lang/String"), (0, .methodref 7 10), (0, .nameAndType 5 11), (0, u "([C)V"), (0, .fieldref 13 14), (0, .class_ 15), (0, .nameAndType 16 17), (0, u "com/example/amberhold/amberhold/store/RetentionPolicy$Mode"), (0, u "LOCKED"), (0, u "Lcom/example/amberhold/amberhold/store/RetentionPolicy$Mode;"), (0, .fieldref 13 19), (0, .nameAndType 20 17), (0, u "UNLOCKED"), (0, .class_ 22), (0, u "com/example/amberhold/amberhold/store/DefaultPolicy"), (0, .integer 2147483647), (0, .integer 146000), (0, .methodref 21 26), (0, .nameAndType 5 27), (0, u "(ILcom/example/amberhold/amberhold/store/RetentionPolicy$Mode;)V"), (0, .class_ 29), (0, u "com/example/amberhold/amberhold/store/ContainerRecord"), (0, .methodref 28 31), (0, .nameAndType 5 32), (0, u "(Ljava/lang/String;ZLcom/example/amberhold/amberhold/store/DefaultPolicy;)V"), (0, .methodref 28 34), (0, .nameAndType 35 36), (0, u "withDefaultPolicy"), (0, u "(Lcom/example/amberhold/amberhold/store/DefaultPolicy;)Lcom/example/amberhold/amberhold/store/ContainerRecord;"), (0, .methodref 28 38), (0, .nameAndType 39 40), (0, u "name"), (0, u "()Ljava/lang/String;"), (0, .methodref 7 42), (0, .nameAndType 43 44), (0, u "equals"), (0, u "(Ljava/lang/Object;)Z"), (0, .methodref 28 46), (0, .nameAndType 47 48), (0, u "versionLevelWorm"), (0, u "()Z"), (0, .methodref 28 50), (0, .nameAndType 51 52), (0, u "defaultPolicy"), (0, u "()Lcom/example/amberhold/amberhold/store/DefaultPolicy;"), (0, .class_ 54), (0, u "com/example/amberhold/amberhold/store/ContainerRecordWithDefaultPolicyPinLaw"), (2, u "law"), (0, u "(IIII)Z")] 7

def k1m0 : Method := { name := "<init>", desc := "()V", sig := { parameters := [], returnType := none }, accessFlags := 1, code := none }
def k1c1 : Code := { maxStack := 6, maxLocals := 17, code := code, exceptionTable := #[], attributes := #[] }
def k1m1 : Method := { name := "law", desc := "(IIII)Z", sig := { parameters := [.int, .int, .int, .int], returnType := some .boolean }, accessFlags := 9, code := some k1c1 }
/-- com/example/amberhold/amberhold/store/ContainerRecordWithDefaultPolicyPinLaw -/
def k1 : Class := { plain "com/example/amberhold/amberhold/store/ContainerRecordWithDefaultPolicyPinLaw" (some 0) with
  accessFlags := 49
  interfaces := #[]
  cf := some (fileOf pool1 53 #[] #[{ accessFlags := 1, nameIndex := 5, descriptorIndex := 6, attributes := #[] }, { accessFlags := 9, nameIndex := 57, descriptorIndex := 58, attributes := #[] }] 49 2 #[] #[])
  fields := #[]
  methods := #[k1m0, k1m1]
  instanceTypes := #[]
  staticTypes := #[]
  resolved := Array.replicate 66 none
  statics := none }

def pool2 : Array CpInfo := pool [(1, .class_ 2), (0, u "java/io/Serializable"), (0, .class_ 4), (0, u "java/lang/Object")] 2

/-- java/io/Serializable -/
def k2 : Class := { plain "java/io/Serializable" (some 0) with
  accessFlags := 1537
  interfaces := #[]
  cf := some (fileOf pool2 1 #[] #[] 1537 3 #[] #[])
  fields := #[]
  methods := #[]
  instanceTypes := #[]
  staticTypes := #[]
  resolved := Array.replicate 7 none
  statics := none }

def pool3 : Array CpInfo := pool [(1, .class_ 2), (0, u "java/lang/Comparable"), (0, .class_ 4), (0, u "java/lang/Object")] 7

/-- java/lang/Comparable -/
def k3 : Class := { plain "java/lang/Comparable" (some 0) with
  accessFlags := 1537
  interfaces := #[]
  cf := some (fileOf pool3 1 #[] #[] 1537 3 #[] #[])
  fields := #[]
  methods := #[]
  instanceTypes := #[]
  staticTypes := #[]
  resolved := Array.replicate 12 none
  statics := none }

def pool4 : Array CpInfo := pool [(2, .class_ 4), (1, u "java/lang/CharSequence"), (42, .class_ 48), (0, u "java/lang/CharSequence$1CodePointIterator"), (10, .class_ 60), (0, u "java/lang/CharSequence$1CharIterator"), (5, .class_ 67), (0, u "java/lang/Object")] 63

/-- java/lang/CharSequence -/
def k4 : Class := { plain "java/lang/CharSequence" (some 0) with
  accessFlags := 1537
  interfaces := #[]
  cf := some (fileOf pool4 2 #[.nestMembers #[47, 59]] #[] 1537 66 #[] #[])
  fields := #[]
  methods := #[]
  instanceTypes := #[]
  staticTypes := #[]
  resolved := Array.replicate 131 none
  statics := none }

def pool5 : Array CpInfo := pool [(1, .class_ 2), (0, u "java/lang/constant/Constable"), (0, .class_ 4), (0, u "java/lang/Object")] 6

/-- java/lang/constant/Constable -/
def k5 : Class := { plain "java/lang/constant/Constable" (some 0) with
  accessFlags := 1537
  interfaces := #[]
  cf := some (fileOf pool5 1 #[] #[] 1537 3 #[] #[])
  fields := #[]
  methods := #[]
  instanceTypes := #[]
  staticTypes := #[]
  resolved := Array.replicate 11 none
  statics := none }

def pool6 : Array CpInfo := pool [(1, .class_ 2), (0, u "java/lang/constant/ConstantDesc"), (0, .class_ 4), (0, u "java/lang/Object")] 32

/-- java/lang/constant/ConstantDesc -/
def k6 : Class := { plain "java/lang/constant/ConstantDesc" (some 0) with
  accessFlags := 1537
  interfaces := #[]
  cf := some (fileOf pool6 1 #[] #[] 1537 3 #[] #[])
  fields := #[]
  methods := #[]
  instanceTypes := #[]
  staticTypes := #[]
  resolved := Array.replicate 37 none
  statics := none }

def pool7 : Array CpInfo := pool [(1, .methodref 2 3), (0, .class_ 4), (0, .nameAndType 5 6), (0, u "java/lang/Object"), (0, u "<init>"), (0, u "()V"), (0, .string 8), (0, u ""), (0, .fieldref 10 11), (0, .class_ 12), (0, .nameAndType 13 14), (0, u "java/lang/String"), (0, u "value"), (0, u "[B"), (0, .fieldref 10 16), (0, .nameAndType 17 18), (0, u "coder"), (0, u "B"), (2, u "hash"), (0, u "I"), (2, u "hashIsZero"), (0, u "Z"), (0, .methodref 10 28), (0, .nameAndType 5 29), (0, u "([CIILjava/lang/Void;)V"), (8, .fieldref 10 39), (0, .nameAndType 40 26), (0, u "COMPACT_STRINGS"), (1, .class_ 44), (1, u "java/lang/StringUTF16"), (0, u "compress"), (1, .methodref 42 48), (0, .nameAndType 49 50), (0, u "coderFromArrayLen"), (0, u "([BI)B"), (126, .methodref 42 178), (0, .nameAndType 45 179), (0, u "([CII)[B"), (363, u "equals"), (29, u "(Ljava/lang/Object;)Z"), (1, .class_ 576), (0, u "java/lang/CharSequence"), (22, u "CASE_INSENSITIVE_ORDER"), (0, u "Ljava/util/Comparator;"), (409, u "([C)V"), (90, u "serialPersistentFields"), (0, u "[Ljava/io/ObjectStreamField;"), (0, .class_ 1104), (0, u "java/lang/String$CaseInsensitiveComparator"), (1, .class_ 1107), (0, u "java/io/Serializable"), (0, .class_ 1109), (0, u "java/lang/Comparable"), (0, .class_ 1111), (0, u "java/lang/constant/Constable"), (0, .class_ 1113), (0, u "java/lang/constant/ConstantDesc"), (2, u "serialVersionUID"), (0, u "J"), (3, u "REPL"), (0, u "C"), (2, u "LATIN1"), (1, u "UTF16")] 323

def k7m0 : Method := { name := "<init>", desc := "()V", sig := { parameters := [], returnType := none }, accessFlags := 1, code := none }
def k7c1 : Code := { maxStack := 5, maxLocals := 2, code := jdk_42_method_3_code, exceptionTable := #[], attributes := #[] }
def k7m1 : Method := { name := "<init>", desc := "([C)V", sig := { parameters := [(.array .char)], returnType := none }, accessFlags := 1, code := some k7c1 }
def k7c2 : Code := { maxStack := 2, maxLocals := 3, code := jdk_42_method_66_code, exceptionTable := #[], attributes := #[] }
def k7m2 : Method := { name := "equals", desc := "(Ljava/lang/Object;)Z", sig := { parameters := [(.object "java/lang/Object")], returnType := some .boolean }, accessFlags := 1, code := some k7c2 }
def k7c3 : Code := { maxStack := 4, maxLocals := 6, code := jdk_42_method_149_code, exceptionTable := #[], attributes := #[] }
def k7m3 : Method := { name := "<init>", desc := "([CIILjava/lang/Void;)V", sig := { parameters := [(.array .char), .int, .int, (.object "java/lang/Void")], returnType := none }, accessFlags := 2, code := some k7c3 }
/-- java/lang/String -/
def k7 : Class := { plain "java/lang/String" (some 0) with
  accessFlags := 49
  interfaces := #[2, 3, 4, 5, 6]
  cf := some (fileOf pool7 10 #[.nestMembers #[1103]] #[{ accessFlags := 1, nameIndex := 5, descriptorIndex := 6, attributes := #[] }, { accessFlags := 1, nameIndex := 5, descriptorIndex := 1010, attributes := #[] }, { accessFlags := 1, nameIndex := 543, descriptorIndex := 573, attributes := #[] }, { accessFlags := 2, nameIndex := 5, descriptorIndex := 29, attributes := #[] }] 49 2 #[1106, 1108, 575, 1110, 1112] #[{ accessFlags := 18, nameIndex := 13, descriptorIndex := 14, attributes := #[] }, { accessFlags := 18, nameIndex := 17, descriptorIndex := 18, attributes := #[] }, { accessFlags := 2, nameIndex := 21, descriptorIndex := 22, attributes := #[] }, { accessFlags := 2, nameIndex := 25, descriptorIndex := 26, attributes := #[] }, { accessFlags := 26, nameIndex := 1116, descriptorIndex := 1117, attributes := #[] }, { accessFlags := 24, nameIndex := 40, descriptorIndex := 26, attributes := #[] }, { accessFlags := 26, nameIndex := 1101, descriptorIndex := 1102, attributes := #[] }, { accessFlags := 26, nameIndex := 1121, descriptorIndex := 1122, attributes := #[] }, { accessFlags := 25, nameIndex := 599, descriptorIndex := 600, attributes := #[] }, { accessFlags := 24, nameIndex := 1125, descriptorIndex := 18, attributes := #[] }, { accessFlags := 24, nameIndex := 1127, descriptorIndex := 18, attributes := #[] }])
  fields := #[{ name := "value", type := (.array .byte), accessFlags := 18, slot := 0, constantValue := 0 }, { name := "coder", type := .byte, accessFlags := 18, slot := 1, constantValue := 0 }, { name := "hash", type := .int, accessFlags := 2, slot := 2, constantValue := 0 }, { name := "hashIsZero", type := .boolean, accessFlags := 2, slot := 3, constantValue := 0 }, { name := "serialVersionUID", type := .long, accessFlags := 26, slot := 0, constantValue := 0 }, { name := "COMPACT_STRINGS", type := .boolean, accessFlags := 24, slot := 1, constantValue := 0 }, { name := "serialPersistentFields", type := (.array (.object "java/io/ObjectStreamField")), accessFlags := 26, slot := 2, constantValue := 0 }, { name := "REPL", type := .char, accessFlags := 26, slot := 3, constantValue := 0 }, { name := "CASE_INSENSITIVE_ORDER", type := (.object "java/util/Comparator"), accessFlags := 25, slot := 4, constantValue := 0 }, { name := "LATIN1", type := .byte, accessFlags := 24, slot := 5, constantValue := 0 }, { name := "UTF16", type := .byte, accessFlags := 24, slot := 6, constantValue := 0 }]
  methods := #[k7m0, k7m1, k7m2, k7m3]
  instanceTypes := #[(.array .byte), .byte, .int, .boolean]
  staticTypes := #[.long, .boolean, (.array (.object "java/io/ObjectStreamField")), .char, (.object "java/util/Comparator"), .byte, .byte]
  resolved := Array.replicate 1451 none
  statics := some 0 }

def pool8 : Array CpInfo := pool [(6, .class_ 8), (1, u "java/lang/Object"), (0, u "<init>"), (0, u "()V"), (1, .class_ 14), (1, u "java/lang/StringUTF16"), (31, u "$assertionsDisabled"), (0, u "Z"), (13, u "HI_BYTE_SHIFT"), (0, u "I"), (2, u "LO_BYTE_SHIFT"), (49, .methodref 12 116), (0, .nameAndType 117 118), (0, u "compress"), (0, u "([CI[BII)I"), (3, u "([CII)[B"), (138, u "coderFromArrayLen"), (0, u "([BI)B"), (106, .class_ 371), (1, u "java/lang/StringUTF16$LinesSpliterator"), (58, u "MAX_LENGTH"), (196, .class_ 628), (0, u "java/lang/StringUTF16$CodePointsSpliterator"), (0, .class_ 630), (0, u "java/lang/StringUTF16$CharsSpliterator")] 4

def k8m0 : Method := { name := "<init>", desc := "()V", sig := { parameters := [], returnType := none }, accessFlags := 0, code := none }
def k8c1 : Code := { maxStack := 2, maxLocals := 2, code := jdk_52_method_15_code, exceptionTable := #[], attributes := #[] }
def k8m1 : Method := { name := "coderFromArrayLen", desc := "([BI)B", sig := { parameters := [(.array .byte), .int], returnType := some .byte }, accessFlags := 8, code := some k8c1 }
def k8c2 : Code := { maxStack := 5, maxLocals := 6, code := jdk_52_method_16_code, exceptionTable := #[], attributes := #[] }
def k8m2 : Method := { name := "compress", desc := "([CII)[B", sig := { parameters := [(.array .char), .int, .int], returnType := some (.array .byte) }, accessFlags := 9, code := some k8c2 }
def k8c3 : Code := { maxStack := 3, maxLocals := 7, code := jdk_52_method_21_code, exceptionTable := #[], attributes := #[] }
def k8m3 : Method := { name := "compress", desc := "([CI[BII)I", sig := { parameters := [(.array .char), .int, (.array .byte), .int, .int], returnType := some .int }, accessFlags := 9, code := some k8c3 }
/-- java/lang/StringUTF16 -/
def k8 : Class := { plain "java/lang/StringUTF16" (some 0) with
  accessFlags := 48
  interfaces := #[]
  cf := some (fileOf pool8 12 #[.nestMembers #[627, 629, 369]] #[{ accessFlags := 0, nameIndex := 9, descriptorIndex := 10, attributes := #[] }, { accessFlags := 8, nameIndex := 261, descriptorIndex := 262, attributes := #[] }, { accessFlags := 9, nameIndex := 117, descriptorIndex := 122, attributes := #[] }, { accessFlags := 9, nameIndex := 117, descriptorIndex := 118, attributes := #[] }] 48 6 #[] #[{ accessFlags := 26, nameIndex := 61, descriptorIndex := 62, attributes := #[] }, { accessFlags := 26, nameIndex := 65, descriptorIndex := 62, attributes := #[] }, { accessFlags := 24, nameIndex := 430, descriptorIndex := 62, attributes := #[] }, { accessFlags := 4120, nameIndex := 46, descriptorIndex := 47, attributes := #[] }])
  fields := #[{ name := "HI_BYTE_SHIFT", type := .int, accessFlags := 26, slot := 0, constantValue := 0 }, { name := "LO_BYTE_SHIFT", type := .int, accessFlags := 26, slot := 1, constantValue := 0 }, { name := "MAX_LENGTH", type := .int, accessFlags := 24, slot := 2, constantValue := 0 }, { name := "$assertionsDisabled", type := .boolean, accessFlags := 4120, slot := 3, constantValue := 0 }]
  methods := #[k8m0, k8m1, k8m2, k8m3]
  instanceTypes := #[]
  staticTypes := #[.int, .int, .int, .boolean]
  resolved := Array.replicate 635 none
  statics := none }

def pool9 : Array CpInfo := pool [(2, .class_ 4), (1, u "java/lang/Enum"), (0, u "name"), (0, u "Ljava/lang/String;"), (2, u "ordinal"), (0, u "I"), (1, .class_ 14), (1, u "java/lang/Object"), (4, u "hash"), (86, .class_ 108), (1, u "java/lang/Enum$EnumDesc"), (2, .class_ 112), (0, u "java/lang/constant/Constable"), (0, .class_ 114), (0, u "java/lang/Comparable"), (0, .class_ 116), (0, u "java/io/Serializable")] 87

/-- java/lang/Enum -/
def k9 : Class := { plain "java/lang/Enum" (some 0) with
  accessFlags := 1057
  interfaces := #[5, 3, 2]
  cf := some (fileOf pool9 2 #[.nestMembers #[106]] #[] 1057 12 #[111, 113, 115] #[{ accessFlags := 18, nameIndex := 5, descriptorIndex := 6, attributes := #[] }, { accessFlags := 18, nameIndex := 9, descriptorIndex := 10, attributes := #[] }, { accessFlags := 2, nameIndex := 19, descriptorIndex := 10, attributes := #[] }])
  fields := #[{ name := "name", type := (.object "java/lang/String"), accessFlags := 18, slot := 0, constantValue := 0 }, { name := "ordinal", type := .int, accessFlags := 18, slot := 1, constantValue := 0 }, { name := "hash", type := .int, accessFlags := 2, slot := 2, constantValue := 0 }]
  methods := #[]
  instanceTypes := #[(.object "java/lang/String"), .int, .int]
  staticTypes := #[]
  resolved := Array.replicate 204 none
  statics := none }

def pool10 : Array CpInfo := pool [(1, .class_ 2), (0, u "com/example/amberhold/amberhold/store/RetentionPolicy$Mode"), (2, u "UNLOCKED"), (0, u "Lcom/example/amberhold/amberhold/store/RetentionPolicy$Mode;"), (2, u "LOCKED"), (2, u "$VALUES"), (0, u "[Lcom/example/amberhold/amberhold/store/RetentionPolicy$Mode;"), (6, .class_ 22), (1, u "java/lang/Enum"), (25, .class_ 49), (0, u "com/example/amberhold/amberhold/store/RetentionPolicy")] 2

/-- com/example/amberhold/amberhold/store/RetentionPolicy$Mode -/
def k10 : Class := { plain "com/example/amberhold/amberhold/store/RetentionPolicy$Mode" (some 9) with
  accessFlags := 16433
  interfaces := #[]
  cf := some (fileOf pool10 1 #[.nestHost 48] #[] 16433 20 #[] #[{ accessFlags := 16409, nameIndex := 5, descriptorIndex := 6, attributes := #[] }, { accessFlags := 16409, nameIndex := 9, descriptorIndex := 6, attributes := #[] }, { accessFlags := 4122, nameIndex := 12, descriptorIndex := 13, attributes := #[] }])
  fields := #[{ name := "UNLOCKED", type := (.object "com/example/amberhold/amberhold/store/RetentionPolicy$Mode"), accessFlags := 16409, slot := 0, constantValue := 0 }, { name := "LOCKED", type := (.object "com/example/amberhold/amberhold/store/RetentionPolicy$Mode"), accessFlags := 16409, slot := 1, constantValue := 0 }, { name := "$VALUES", type := (.array (.object "com/example/amberhold/amberhold/store/RetentionPolicy$Mode")), accessFlags := 4122, slot := 2, constantValue := 0 }]
  methods := #[]
  instanceTypes := #[(.object "java/lang/String"), .int, .int]
  staticTypes := #[(.object "com/example/amberhold/amberhold/store/RetentionPolicy$Mode"), (.object "com/example/amberhold/amberhold/store/RetentionPolicy$Mode"), (.array (.object "com/example/amberhold/amberhold/store/RetentionPolicy$Mode"))]
  resolved := Array.replicate 52 none
  statics := some 1 }

def pool11 : Array CpInfo := pool [(1, .class_ 2), (0, u "com/example/amberhold/amberhold/store/LockablePolicy"), (0, .class_ 4), (0, u "java/lang/Object")] 18

/-- com/example/amberhold/amberhold/store/LockablePolicy -/
def k11 : Class := { plain "com/example/amberhold/amberhold/store/LockablePolicy" (some 0) with
  accessFlags := 1536
  interfaces := #[]
  cf := some (fileOf pool11 1 #[] #[] 1536 3 #[] #[])
  fields := #[]
  methods := #[]
  instanceTypes := #[]
  staticTypes := #[]
  resolved := Array.replicate 23 none
  statics := none }

def pool12 : Array CpInfo := pool [(1, .methodref 2 3), (0, .class_ 4), (0, .nameAndType 5 6), (0, u "java/lang/Object"), (0, u "<init>"), (0, u "()V"), (0, .class_ 8), (0, u "com/example/amberhold/amberhold/store/DefaultPolicy"), (0, .integer 146000), (7, .fieldref 7 18), (0, .nameAndType 19 20), (0, u "days"), (0, u "I"), (0, .methodref 22 23), (0, .class_ 24), (0, .nameAndType 25 26), (0, u "java/util/Objects"), (0, u "requireNonNull"), (0, u "(Ljava/lang/Object;)Ljava/lang/Object;"), (0, .class_ 28), (0, u "com/example/amberhold/amberhold/store/RetentionPolicy$Mode"), (0, .fieldref 7 30), (0, .nameAndType 31 32), (0, u "mode"), (0, u "Lcom/example/amberhold/amberhold/store/RetentionPolicy$Mode;"), (67, u "(ILcom/example/amberhold/amberhold/store/RetentionPolicy$Mode;)V"), (11, .class_ 113), (0, u "com/example/amberhold/amberhold/store/LockablePolicy"), (0, u "MIN_DAYS"), (2, u "MAX_DAYS"), (0, u "SECONDS_PER_DAY"), (0, u "J"), (0, u "DAYS"), (0, u "Ljava/lang/String;"), (0, u "MODE")] 42

def k12c0 : Code := { maxStack := 3, maxLocals := 3, code := prog_38_method_1_code, exceptionTable := #[], attributes := #[] }
def k12m0 : Method := { name := "<init>", desc := "(ILcom/example/amberhold/amberhold/store/RetentionPolicy$Mode;)V", sig := { parameters := [.int, (.object "com/example/amberhold/amberhold/store/RetentionPolicy$Mode")], returnType := none }, accessFlags := 1, code := some k12c0 }
/-- com/example/amberhold/amberhold/store/DefaultPolicy -/
def k12 : Class := { plain "com/example/amberhold/amberhold/store/DefaultPolicy" (some 0) with
  accessFlags := 49
  interfaces := #[11]
  cf := some (fileOf pool12 7 #[] #[{ accessFlags := 1, nameIndex := 5, descriptorIndex := 100, attributes := #[] }] 49 2 #[112] #[{ accessFlags := 25, nameIndex := 114, descriptorIndex := 20, attributes := #[] }, { accessFlags := 25, nameIndex := 117, descriptorIndex := 20, attributes := #[] }, { accessFlags := 26, nameIndex := 118, descriptorIndex := 119, attributes := #[] }, { accessFlags := 26, nameIndex := 120, descriptorIndex := 121, attributes := #[] }, { accessFlags := 26, nameIndex := 122, descriptorIndex := 121, attributes := #[] }, { accessFlags := 18, nameIndex := 19, descriptorIndex := 20, attributes := #[] }, { accessFlags := 18, nameIndex := 31, descriptorIndex := 32, attributes := #[] }])
  fields := #[{ name := "MIN_DAYS", type := .int, accessFlags := 25, slot := 0, constantValue := 0 }, { name := "MAX_DAYS", type := .int, accessFlags := 25, slot := 1, constantValue := 0 }, { name := "SECONDS_PER_DAY", type := .long, accessFlags := 26, slot := 2, constantValue := 0 }, { name := "DAYS", type := (.object "java/lang/String"), accessFlags := 26, slot := 3, constantValue := 0 }, { name := "MODE", type := (.object "java/lang/String"), accessFlags := 26, slot := 4, constantValue := 0 }, { name := "days", type := .int, accessFlags := 18, slot := 0, constantValue := 0 }, { name := "mode", type := (.object "com/example/amberhold/amberhold/store/RetentionPolicy$Mode"), accessFlags := 18, slot := 1, constantValue := 0 }]
  methods := #[k12m0]
  instanceTypes := #[.int, (.object "com/example/amberhold/amberhold/store/RetentionPolicy$Mode")]
  staticTypes := #[.int, .int, .long, (.object "java/lang/String"), (.object "java/lang/String")]
  resolved := Array.replicate 165 none
  statics := none }

def pool13 : Array CpInfo := pool [(2, .class_ 4), (1, u "java/lang/Object"), (0, u "<init>"), (0, u "()V"), (35, .class_ 44), (1, u "java/util/Objects"), (0, u "requireNonNull"), (0, u "(Ljava/lang/Object;)Ljava/lang/Object;")] 137

def k13m0 : Method := { name := "<init>", desc := "()V", sig := { parameters := [], returnType := none }, accessFlags := 2, code := none }
def k13c1 : Code := { maxStack := 2, maxLocals := 1, code := jdk_31_method_10_code, exceptionTable := #[], attributes := #[] }
def k13m1 : Method := { name := "requireNonNull", desc := "(Ljava/lang/Object;)Ljava/lang/Object;", sig := { parameters := [(.object "java/lang/Object")], returnType := some (.object "java/lang/Object") }, accessFlags := 9, code := some k13c1 }
/-- java/util/Objects -/
def k13 : Class := { plain "java/util/Objects" (some 0) with
  accessFlags := 49
  interfaces := #[]
  cf := some (fileOf pool13 42 #[] #[{ accessFlags := 2, nameIndex := 5, descriptorIndex := 6, attributes := #[] }, { accessFlags := 9, nameIndex := 45, descriptorIndex := 46, attributes := #[] }] 49 2 #[] #[])
  fields := #[]
  methods := #[k13m0, k13m1]
  instanceTypes := #[]
  staticTypes := #[]
  resolved := Array.replicate 184 none
  statics := none }

def pool14 : Array CpInfo := pool [(1, .methodref 2 3), (0, .class_ 4), (0, .nameAndType 5 6), (0, u "java/lang/Object"), (0, u "<init>"), (0, u "()V"), (0, .fieldref 8 9), (0, .class_ 10), (0, .nameAndType 11 12), (0, u "com/example/amberhold/amberhold/store/SettingsRecord"), (0, u "name"), (0, u "Ljava/lang/String;"), (0, .fieldref 8 14), (0, .nameAndType 15 16), (0, u "versionLevelWorm"), (0, u "Z"), (0, .fieldref 8 18), (0, .nameAndType 19 20), (0, u "defaultPolicy"), (0, u "Lcom/example/amberhold/amberhold/store/DefaultPolicy;"), (15, u "(Ljava/lang/String;ZLcom/example/amberhold/amberhold/store/DefaultPolicy;)V"), (17, u "VERSION_LEVEL_WORM"), (7, u "()Ljava/lang/String;"), (0, u "()Z"), (0, u "()Lcom/example/amberhold/amberhold/store/DefaultPolicy;")] 8

def k14c0 : Code := { maxStack := 2, maxLocals := 4, code := prog_50_method_1_code, exceptionTable := #[], attributes := #[] }
def k14m0 : Method := { name := "<init>", desc := "(Ljava/lang/String;ZLcom/example/amberhold/amberhold/store/DefaultPolicy;)V", sig := { parameters := [(.object "java/lang/String"), .boolean, (.object "com/example/amberhold/amberhold/store/DefaultPolicy")], returnType := none }, accessFlags := 0, code := some k14c0 }
def k14c1 : Code := { maxStack := 1, maxLocals := 1, code := prog_50_method_3_code, exceptionTable := #[], attributes := #[] }
def k14m1 : Method := { name := "name", desc := "()Ljava/lang/String;", sig := { parameters := [], returnType := some (.object "java/lang/String") }, accessFlags := 1, code := some k14c1 }
def k14c2 : Code := { maxStack := 1, maxLocals := 1, code := prog_50_method_4_code, exceptionTable := #[], attributes := #[] }
def k14m2 : Method := { name := "versionLevelWorm", desc := "()Z", sig := { parameters := [], returnType := some .boolean }, accessFlags := 1, code := some k14c2 }
def k14c3 : Code := { maxStack := 1, maxLocals := 1, code := prog_50_method_5_code, exceptionTable := #[], attributes := #[] }
def k14m3 : Method := { name := "defaultPolicy", desc := "()Lcom/example/amberhold/amberhold/store/DefaultPolicy;", sig := { parameters := [], returnType := some (.object "com/example/amberhold/amberhold/store/DefaultPolicy") }, accessFlags := 1, code := some k14c3 }
/-- com/example/amberhold/amberhold/store/SettingsRecord -/
def k14 : Class := { plain "com/example/amberhold/amberhold/store/SettingsRecord" (some 0) with
  accessFlags := 1057
  interfaces := #[]
  cf := some (fileOf pool14 8 #[] #[{ accessFlags := 0, nameIndex := 5, descriptorIndex := 36, attributes := #[] }, { accessFlags := 1, nameIndex := 11, descriptorIndex := 62, attributes := #[] }, { accessFlags := 1, nameIndex := 15, descriptorIndex := 63, attributes := #[] }, { accessFlags := 1, nameIndex := 19, descriptorIndex := 64, attributes := #[] }] 1057 2 #[] #[{ accessFlags := 26, nameIndex := 54, descriptorIndex := 12, attributes := #[] }, { accessFlags := 18, nameIndex := 11, descriptorIndex := 12, attributes := #[] }, { accessFlags := 18, nameIndex := 15, descriptorIndex := 16, attributes := #[] }, { accessFlags := 18, nameIndex := 19, descriptorIndex := 20, attributes := #[] }])
  fields := #[{ name := "VERSION_LEVEL_WORM", type := (.object "java/lang/String"), accessFlags := 26, slot := 0, constantValue := 0 }, { name := "name", type := (.object "java/lang/String"), accessFlags := 18, slot := 0, constantValue := 0 }, { name := "versionLevelWorm", type := .boolean, accessFlags := 18, slot := 1, constantValue := 0 }, { name := "defaultPolicy", type := (.object "com/example/amberhold/amberhold/store/DefaultPolicy"), accessFlags := 18, slot := 2, constantValue := 0 }]
  methods := #[k14m0, k14m1, k14m2, k14m3]
  instanceTypes := #[(.object "java/lang/String"), .boolean, (.object "com/example/amberhold/amberhold/store/DefaultPolicy")]
  staticTypes := #[(.object "java/lang/String")]
  resolved := Array.replicate 73 none
  statics := none }

def pool15 : Array CpInfo := pool [(1, .methodref 2 3), (0, .class_ 4), (0, .nameAndType 5 6), (0, u "com/example/amberhold/amberhold/store/SettingsRecord"), (0, u "<init>"), (0, u "(Ljava/lang/String;ZLcom/example/amberhold/amberhold/store/DefaultPolicy;)V"), (5, .class_ 13), (0, u "com/example/amberhold/amberhold/store/ContainerRecord"), (0, .methodref 12 15), (0, .nameAndType 16 17), (0, u "name"), (0, u "()Ljava/lang/String;"), (0, .methodref 12 19), (0, .nameAndType 20 21), (0, u "versionLevelWorm"), (0, u "()Z"), (0, .methodref 12 3), (3, u "withDefaultPolicy"), (0, u "(Lcom/example/amberhold/amberhold/store/DefaultPolicy;)Lcom/example/amberhold/amberhold/store/ContainerRecord;")] 12

def k15c0 : Code := { maxStack := 4, maxLocals := 4, code := prog_36_method_1_code, exceptionTable := #[], attributes := #[] }
def k15m0 : Method := { name := "<init>", desc := "(Ljava/lang/String;ZLcom/example/amberhold/amberhold/store/DefaultPolicy;)V", sig := { parameters := [(.object "java/lang/String"), .boolean, (.object "com/example/amberhold/amberhold/store/DefaultPolicy")], returnType := none }, accessFlags := 0, code := some k15c0 }
def k15c1 : Code := { maxStack := 5, maxLocals := 2, code := prog_36_method_4_code, exceptionTable := #[], attributes := #[] }
def k15m1 : Method := { name := "withDefaultPolicy", desc := "(Lcom/example/amberhold/amberhold/store/DefaultPolicy;)Lcom/example/amberhold/amberhold/store/ContainerRecord;", sig := { parameters := [(.object "com/example/amberhold/amberhold/store/DefaultPolicy")], returnType := some (.object "com/example/amberhold/amberhold/store/ContainerRecord") }, accessFlags := 0, code := some k15c1 }
/-- com/example/amberhold/amberhold/store/ContainerRecord -/
def k15 : Class := { plain "com/example/amberhold/amberhold/store/ContainerRecord" (some 14) with
  accessFlags := 49
  interfaces := #[]
  cf := some (fileOf pool15 12 #[] #[{ accessFlags := 0, nameIndex := 5, descriptorIndex := 6, attributes := #[] }, { accessFlags := 0, nameIndex := 26, descriptorIndex := 27, attributes := #[] }] 49 2 #[] #[])
  fields := #[]
  methods := #[k15m0, k15m1]
  instanceTypes := #[(.object "java/lang/String"), .boolean, (.object "com/example/amberhold/amberhold/store/DefaultPolicy")]
  staticTypes := #[]
  resolved := Array.replicate 40 none
  statics := none }

def pool16 : Array CpInfo := pool [(4, .class_ 6), (1, u "java/lang/Object"), (0, u "<init>"), (0, u "()V"), (5, .class_ 16), (1, u "java/lang/StringLatin1"), (104, u "$assertionsDisabled"), (0, u "Z"), (98, .class_ 223), (1, u "java/lang/StringLatin1$LinesSpliterator"), (166, .class_ 391), (0, u "java/lang/StringLatin1$CharsSpliterator")] 3

def k16m0 : Method := { name := "<init>", desc := "()V", sig := { parameters := [], returnType := none }, accessFlags := 0, code := none }
/-- java/lang/StringLatin1 -/
def k16 : Class := { plain "java/lang/StringLatin1" (some 0) with
  accessFlags := 48
  interfaces := #[]
  cf := some (fileOf pool16 14 #[.nestMembers #[390, 221]] #[{ accessFlags := 0, nameIndex := 7, descriptorIndex := 8, attributes := #[] }] 48 4 #[] #[{ accessFlags := 4120, nameIndex := 121, descriptorIndex := 122, attributes := #[] }])
  fields := #[{ name := "$assertionsDisabled", type := .boolean, accessFlags := 4120, slot := 0, constantValue := 0 }]
  methods := #[k16m0]
  instanceTypes := #[]
  staticTypes := #[.boolean]
  resolved := Array.replicate 395 none
  statics := none }

def pool17 : Array CpInfo := pool [(2, .class_ 4), (1, u "java/lang/Object"), (0, u "<init>"), (0, u "()V"), (17, .class_ 26), (1, u "jdk/internal/util/Preconditions"), (28, .class_ 56), (0, u "jdk/internal/util/Preconditions$4"), (57, .class_ 115), (0, u "jdk/internal/util/Preconditions$1"), (7, u "SIOOBE_FORMATTER"), (0, u "Ljava/util/function/BiFunction;"), (0, .class_ 126), (0, u "jdk/internal/util/Preconditions$2"), (3, u "AIOOBE_FORMATTER"), (0, .class_ 132), (0, u "jdk/internal/util/Preconditions$3"), (3, u "IOOBE_FORMATTER")] 57

def k17m0 : Method := { name := "<init>", desc := "()V", sig := { parameters := [], returnType := none }, accessFlags := 1, code := none }
/-- jdk/internal/util/Preconditions -/
def k17 : Class := { plain "jdk/internal/util/Preconditions" (some 0) with
  accessFlags := 33
  interfaces := #[]
  cf := some (fileOf pool17 24 #[.nestMembers #[55, 131, 125, 114]] #[{ accessFlags := 1, nameIndex := 5, descriptorIndex := 6, attributes := #[] }] 33 2 #[] #[{ accessFlags := 25, nameIndex := 123, descriptorIndex := 124, attributes := #[] }, { accessFlags := 25, nameIndex := 130, descriptorIndex := 124, attributes := #[] }, { accessFlags := 25, nameIndex := 136, descriptorIndex := 124, attributes := #[] }])
  fields := #[{ name := "SIOOBE_FORMATTER", type := (.object "java/util/function/BiFunction"), accessFlags := 25, slot := 0, constantValue := 0 }, { name := "AIOOBE_FORMATTER", type := (.object "java/util/function/BiFunction"), accessFlags := 25, slot := 1, constantValue := 0 }, { name := "IOOBE_FORMATTER", type := (.object "java/util/function/BiFunction"), accessFlags := 25, slot := 2, constantValue := 0 }]
  methods := #[k17m0]
  instanceTypes := #[]
  staticTypes := #[(.object "java/util/function/BiFunction"), (.object "java/util/function/BiFunction"), (.object "java/util/function/BiFunction")]
  resolved := Array.replicate 194 none
  statics := some 2 }

def pool18 : Array CpInfo := pool [(9, u "<init>"), (6, .class_ 18), (1, u "java/lang/Object"), (0, u "()V"), (1, .class_ 23), (1, u "jdk/internal/util/ArraysSupport"), (0, u "LOG2_ARRAY_LONG_INDEX_SCALE"), (0, u "I"), (2, u "U"), (0, u "Ljdk/internal/misc/Unsafe;"), (8, u "BIG_ENDIAN"), (0, u "Z"), (8, u "LOG2_BYTE_BIT_SIZE"), (4, u "LOG2_ARRAY_INT_INDEX_SCALE"), (54, u "JLA"), (0, u "Ljdk/internal/access/JavaLangAccess;"), (11, u "LOG2_ARRAY_BOOLEAN_INDEX_SCALE"), (9, u "LOG2_ARRAY_BYTE_INDEX_SCALE"), (5, u "LOG2_ARRAY_CHAR_INDEX_SCALE"), (5, u "LOG2_ARRAY_SHORT_INDEX_SCALE"), (18, u "LOG2_ARRAY_FLOAT_INDEX_SCALE"), (24, u "LOG2_ARRAY_DOUBLE_INDEX_SCALE"), (89, u "T_BOOLEAN"), (2, u "T_CHAR"), (1, u "T_FLOAT"), (1, u "T_DOUBLE"), (1, u "T_BYTE"), (1, u "T_SHORT"), (1, u "T_INT"), (1, u "T_LONG"), (1, u "SOFT_MAX_ARRAY_LENGTH")] 83

def k18m0 : Method := { name := "<init>", desc := "()V", sig := { parameters := [], returnType := none }, accessFlags := 2, code := none }
/-- jdk/internal/util/ArraysSupport -/
def k18 : Class := { plain "jdk/internal/util/ArraysSupport" (some 0) with
  accessFlags := 33
  interfaces := #[]
  cf := some (fileOf pool18 21 #[] #[{ accessFlags := 2, nameIndex := 9, descriptorIndex := 19, attributes := #[] }] 33 16 #[] #[{ accessFlags := 24, nameIndex := 28, descriptorIndex := 29, attributes := #[] }, { accessFlags := 26, nameIndex := 38, descriptorIndex := 39, attributes := #[] }, { accessFlags := 25, nameIndex := 121, descriptorIndex := 25, attributes := #[] }, { accessFlags := 25, nameIndex := 131, descriptorIndex := 25, attributes := #[] }, { accessFlags := 25, nameIndex := 137, descriptorIndex := 25, attributes := #[] }, { accessFlags := 25, nameIndex := 143, descriptorIndex := 25, attributes := #[] }, { accessFlags := 25, nameIndex := 53, descriptorIndex := 25, attributes := #[] }, { accessFlags := 25, nameIndex := 24, descriptorIndex := 25, attributes := #[] }, { accessFlags := 25, nameIndex := 162, descriptorIndex := 25, attributes := #[] }, { accessFlags := 25, nameIndex := 187, descriptorIndex := 25, attributes := #[] }, { accessFlags := 26, nameIndex := 48, descriptorIndex := 25, attributes := #[] }, { accessFlags := 25, nameIndex := 277, descriptorIndex := 25, attributes := #[] }, { accessFlags := 25, nameIndex := 280, descriptorIndex := 25, attributes := #[] }, { accessFlags := 25, nameIndex := 282, descriptorIndex := 25, attributes := #[] }, { accessFlags := 25, nameIndex := 284, descriptorIndex := 25, attributes := #[] }, { accessFlags := 25, nameIndex := 286, descriptorIndex := 25, attributes := #[] }, { accessFlags := 25, nameIndex := 288, descriptorIndex := 25, attributes := #[] }, { accessFlags := 25, nameIndex := 290, descriptorIndex := 25, attributes := #[] }, { accessFlags := 25, nameIndex := 292, descriptorIndex := 25, attributes := #[] }, { accessFlags := 26, nameIndex := 108, descriptorIndex := 109, attributes := #[] }, { accessFlags := 25, nameIndex := 294, descriptorIndex := 25, attributes := #[] }])
  fields := #[{ name := "U", type := (.object "jdk/internal/misc/Unsafe"), accessFlags := 24, slot := 0, constantValue := 0 }, { name := "BIG_ENDIAN", type := .boolean, accessFlags := 26, slot := 1, constantValue := 0 }, { name := "LOG2_ARRAY_BOOLEAN_INDEX_SCALE", type := .int, accessFlags := 25, slot := 2, constantValue := 0 }, { name := "LOG2_ARRAY_BYTE_INDEX_SCALE", type := .int, accessFlags := 25, slot := 3, constantValue := 0 }, { name := "LOG2_ARRAY_CHAR_INDEX_SCALE", type := .int, accessFlags := 25, slot := 4, constantValue := 0 }, { name := "LOG2_ARRAY_SHORT_INDEX_SCALE", type := .int, accessFlags := 25, slot := 5, constantValue := 0 }, { name := "LOG2_ARRAY_INT_INDEX_SCALE", type := .int, accessFlags := 25, slot := 6, constantValue := 0 }, { name := "LOG2_ARRAY_LONG_INDEX_SCALE", type := .int, accessFlags := 25, slot := 7, constantValue := 0 }, { name := "LOG2_ARRAY_FLOAT_INDEX_SCALE", type := .int, accessFlags := 25, slot := 8, constantValue := 0 }, { name := "LOG2_ARRAY_DOUBLE_INDEX_SCALE", type := .int, accessFlags := 25, slot := 9, constantValue := 0 }, { name := "LOG2_BYTE_BIT_SIZE", type := .int, accessFlags := 26, slot := 10, constantValue := 0 }, { name := "T_BOOLEAN", type := .int, accessFlags := 25, slot := 11, constantValue := 0 }, { name := "T_CHAR", type := .int, accessFlags := 25, slot := 12, constantValue := 0 }, { name := "T_FLOAT", type := .int, accessFlags := 25, slot := 13, constantValue := 0 }, { name := "T_DOUBLE", type := .int, accessFlags := 25, slot := 14, constantValue := 0 }, { name := "T_BYTE", type := .int, accessFlags := 25, slot := 15, constantValue := 0 }, { name := "T_SHORT", type := .int, accessFlags := 25, slot := 16, constantValue := 0 }, { name := "T_INT", type := .int, accessFlags := 25, slot := 17, constantValue := 0 }, { name := "T_LONG", type := .int, accessFlags := 25, slot := 18, constantValue := 0 }, { name := "JLA", type := (.object "jdk/internal/access/JavaLangAccess"), accessFlags := 26, slot := 19, constantValue := 0 }, { name := "SOFT_MAX_ARRAY_LENGTH", type := .int, accessFlags := 25, slot := 20, constantValue := 0 }]
  methods := #[k18m0]
  instanceTypes := #[]
  staticTypes := #[(.object "jdk/internal/misc/Unsafe"), .boolean, .int, .int, .int, .int, .int, .int, .int, .int, .int, .int, .int, .int, .int, .int, .int, .int, .int, (.object "jdk/internal/access/JavaLangAccess"), .int]
  resolved := Array.replicate 378 none
  statics := none }

def pool19 : Array CpInfo := pool [(1, u "java/lang/Cloneable"), (0, .class_ 1), (0, u "java/lang/Object"), (0, .class_ 3)] 3

/-- java/lang/Cloneable -/
def k19 : Class := { plain "java/lang/Cloneable" (some 0) with
  accessFlags := 1537
  interfaces := #[]
  cf := some (fileOf pool19 2 #[] #[] 1537 4 #[] #[])
  fields := #[]
  methods := #[]
  instanceTypes := #[]
  staticTypes := #[]
  resolved := Array.replicate 8 none
  statics := none }

/-- the primitive byte -/
def k20 : Class := { plain "byte" none with kind := .primitive 'B', accessFlags := 0x411 }
/-- [B -/
def k21 : Class := { plain "[B" (some 0) with kind := .array 20 .byte, interfaces := #[19, 2], accessFlags := 1041 }

/-- the primitive char -/
def k22 : Class := { plain "char" none with kind := .primitive 'C', accessFlags := 0x411 }
/-- [C -/
def k23 : Class := { plain "[C" (some 0) with kind := .array 22 .char, interfaces := #[19, 2], accessFlags := 1041 }

/-- the primitive int -/
def k24 : Class := { plain "int" none with kind := .primitive 'I', accessFlags := 0x411 }
/-- [I -/
def k25 : Class := { plain "[I" (some 0) with kind := .array 24 .int, interfaces := #[19, 2], accessFlags := 1041 }

def heap : Heap := #[{ cls := 7, slots := #[.long 0, .int 1, .null, .int 0, .null, .int 0, .int 0], vm := .statics 7 },
  { cls := 10, slots := #[.ref 3, .ref 4, .null], vm := .statics 10 },
  { cls := 17, slots := #[.null, .null, .null], vm := .statics 17 },
  { cls := 10, slots := #[.null, .int 0, .int 0], vm := .none },
  { cls := 10, slots := #[.null, .int 0, .int 0], vm := .none }]
def classes : Array Class := #[k0, k1, k2, k3, k4, k5, k6, k7, k8, k9, k10, k11, k12, k13, k14, k15, k16, k17, k18, k19, k20, k21, k22, k23, k24, k25]
def interned : List (Array UInt16 × Addr) := []
def slotsUsed : Nat := 19
def theMethod : MethodId := ⟨1, 1⟩
def args0 : Array Value := #[.int 5, .int 7, .int 3, .int 9]
def aboutOver (below : List Frame) : State where
  vm := { classes := classes, interned := interned.toArray }
  heap := heap
  slotsUsed := slotsUsed
  threads := #[{ frames := .invoking theMethod args0 :: below }]
def below0 : List Frame := [.native { method := ⟨0, 0⟩, args := #[] }]
def about1 : State := aboutOver below0
def p0 : Program := .bare "" "" ""
def e0 : Env := launch0.env 0 0 0
theorem w_frames : about1.frames = Frame.invoking theMethod args0 :: below0 := rfl
set_option maxRecDepth 65536 in
theorem w_args : argsFit about1.vm theMethod args0 = true := by decide +kernel
set_option maxRecDepth 65536 in
theorem w_heap : heapFits about1 = true := by decide +kernel
set_option maxRecDepth 65536 in
theorem w_runnable : about1.curStatus? = some .runnable := by decide +kernel
set_option maxRecDepth 65536 in
theorem w_alone : about1.alone = true := by decide +kernel
set_option maxRecDepth 65536 in
theorem w_named : about1.methodNamed? x = some theMethod := by decide +kernel
set_option maxRecDepth 65536 in
theorem w_hears : about1.hears theMethod below0 = true := by decide +kernel
set_option maxRecDepth 65536 in
theorem w_ripe : about1.ripe theMethod args0 below0 = true := by decide +kernel
theorem w_running : about1.status = .running := rfl
set_option maxRecDepth 65536 in
theorem w_room : about1.hasRoom e0.platform room_1 = true :=
  launch0.hasRoom_least _ room_1 (by decide +kernel) (by decide +kernel) (by decide +kernel) (by decide +kernel) (by decide +kernel) (by decide +kernel)
theorem allAtoms_all (ts : List Jvm.Cond) (a : Array Jvm.Value) (st : Jvm.State) : (allAtoms ts).before a st = ts.all (fun c => c.before a st) := by
  induction ts with
  | nil => rfl
  | cons c t ih =>
    show (Jvm.Cond.and c (allAtoms t)).before a st = _
    rw [Jvm.Cond.before_and, ih, List.all_cons]
def words1 : List Jvm.Cond := Jvm.Cond.code x code maxLocals ret :: tables_1
/-- a 'code' word, met by the world's own term for the bytes: nothing is compared byte by byte -/
theorem code_word {y : MethodName} {bytes : ByteArray} {mx : Nat} {rt : Option FieldType} {a : Array Value} {s : State} {m : MethodId} {meth : Method} {c : Code} (h1 : s.methodNamed? y = some m) (h2 : s.vm.method? m = some meth) (h3 : meth.code = some c) (h4 : c.code = bytes)
    (h5 : (c.maxLocals == mx && c.exceptionTable.isEmpty && decide (c.maxStack ≤ mostOperands) && decide (meth.sig.returnType = rt) && !meth.locks && decide (parseMethodDescriptor y.desc = some meth.sig)) = true) : (Jvm.Cond.code y bytes mx rt).before a s = true := by
  simp only [Bool.and_eq_true, beq_iff_eq, Bool.not_eq_true', decide_eq_true_eq] at h5
  obtain ⟨⟨⟨⟨⟨g1, g2⟩, g3⟩, g4⟩, g5⟩, g6⟩ := h5
  simp [Cond.before, Cond.holds, Cond.value, h1, h2, h3, h4, g1, g2, g3, g4, g5, g6]
def isCode : Jvm.Cond → Bool
  | .code _ _ _ _ => true
  | _ => false
theorem all_split {L : List Jvm.Cond} {P : Jvm.Cond → Bool} (h1 : L.all (fun c => isCode c || P c) = true) (h2 : ∀ c ∈ L.filter isCode, P c = true) : L.all P = true := by
  refine List.all_eq_true.mpr fun c hc => ?_
  have h := List.all_eq_true.mp h1 c hc
  rcases Bool.eq_false_or_eq_true (isCode c) with hi | hi
  · exact h2 c (List.mem_filter.mpr ⟨hc, hi⟩)
  · simpa [hi] using h
set_option maxRecDepth 65536 in
theorem w_c0 : (Jvm.Cond.code x code maxLocals ret).before args0 about1 = true := code_word (m := ⟨1, 1⟩) (meth := k1m1) (c := k1c1) (by decide +kernel) rfl rfl rfl (by decide +kernel)
set_option maxRecDepth 65536 in
theorem w_c1 : (Jvm.Cond.code ({ cls := "java/lang/String", name := "<init>", desc := "([C)V" } : Jvm.MethodName) jdk_42_method_3_code (2 : Nat) (Option.none : Option Jvm.ClassFile.FieldType)).before args0 about1 = true := code_word (m := ⟨7, 1⟩) (meth := k7m1) (c := k7c1) (by decide +kernel) rfl rfl rfl (by decide +kernel)
set_option maxRecDepth 65536 in
theorem w_c2 : (Jvm.Cond.code ({ cls := "java/lang/String", name := "<init>", desc := "([CIILjava/lang/Void;)V" } : Jvm.MethodName) jdk_42_method_149_code (6 : Nat) (Option.none : Option Jvm.ClassFile.FieldType)).before args0 about1 = true := code_word (m := ⟨7, 3⟩) (meth := k7m3) (c := k7c3) (by decide +kernel) rfl rfl rfl (by decide +kernel)
set_option maxRecDepth 65536 in
theorem w_c3 : (Jvm.Cond.code ({ cls := "java/lang/Object", name := "<init>", desc := "()V" } : Jvm.MethodName) object_method_1_code (1 : Nat) (Option.none : Option Jvm.ClassFile.FieldType)).before args0 about1 = true := code_word (m := ⟨0, 0⟩) (meth := k0m0) (c := k0c0) (by decide +kernel) rfl rfl rfl (by decide +kernel)
set_option maxRecDepth 65536 in
theorem w_c4 : (Jvm.Cond.code ({ cls := "java/lang/StringUTF16", name := "compress", desc := "([CII)[B" } : Jvm.MethodName) jdk_52_method_16_code (6 : Nat) (Option.some (Jvm.ClassFile.FieldType.array Jvm.ClassFile.FieldType.byte))).before args0 about1 = true := code_word (m := ⟨8, 2⟩) (meth := k8m2) (c := k8c2) (by decide +kernel) rfl rfl rfl (by decide +kernel)
set_option maxRecDepth 65536 in
theorem w_c5 : (Jvm.Cond.code ({ cls := "java/lang/StringUTF16", name := "compress", desc := "([CI[BII)I" } : Jvm.MethodName) jdk_52_method_21_code (7 : Nat) (Option.some Jvm.ClassFile.FieldType.int)).before args0 about1 = true := code_word (m := ⟨8, 3⟩) (meth := k8m3) (c := k8c3) (by decide +kernel) rfl rfl rfl (by decide +kernel)
set_option maxRecDepth 65536 in
theorem w_c6 : (Jvm.Cond.code ({ cls := "java/lang/StringUTF16", name := "coderFromArrayLen", desc := "([BI)B" } : Jvm.MethodName) jdk_52_method_15_code (2 : Nat) (Option.some Jvm.ClassFile.FieldType.byte)).before args0 about1 = true := code_word (m := ⟨8, 1⟩) (meth := k8m1) (c := k8c1) (by decide +kernel) rfl rfl rfl (by decide +kernel)
set_option maxRecDepth 65536 in
theorem w_c7 : (Jvm.Cond.code ({ cls := "com/example/amberhold/amberhold/store/DefaultPolicy", name := "<init>", desc := "(ILcom/example/amberhold/amberhold/store/RetentionPolicy$Mode;)V" } : Jvm.MethodName) prog_38_method_1_code (3 : Nat) (Option.none : Option Jvm.ClassFile.FieldType)).before args0 about1 = true := code_word (m := ⟨12, 0⟩) (meth := k12m0) (c := k12c0) (by decide +kernel) rfl rfl rfl (by decide +kernel)
set_option maxRecDepth 65536 in
theorem w_c8 : (Jvm.Cond.code ({ cls := "java/util/Objects", name := "requireNonNull", desc := "(Ljava/lang/Object;)Ljava/lang/Object;" } : Jvm.MethodName) jdk_31_method_10_code (1 : Nat) (Option.some (Jvm.ClassFile.FieldType.object "java/lang/Object"))).before args0 about1 = true := code_word (m := ⟨13, 1⟩) (meth := k13m1) (c := k13c1) (by decide +kernel) rfl rfl rfl (by decide +kernel)
set_option maxRecDepth 65536 in
theorem w_c9 : (Jvm.Cond.code ({ cls := "com/example/amberhold/amberhold/store/ContainerRecord", name := "<init>", desc := "(Ljava/lang/String;ZLcom/example/amberhold/amberhold/store/DefaultPolicy;)V" } : Jvm.MethodName) prog_36_method_1_code (4 : Nat) (Option.none : Option Jvm.ClassFile.FieldType)).before args0 about1 = true := code_word (m := ⟨15, 0⟩) (meth := k15m0) (c := k15c0) (by decide +kernel) rfl rfl rfl (by decide +kernel)
set_option maxRecDepth 65536 in
theorem w_c10 : (Jvm.Cond.code ({ cls := "com/example/amberhold/amberhold/store/SettingsRecord", name := "<init>", desc := "(Ljava/lang/String;ZLcom/example/amberhold/amberhold/store/DefaultPolicy;)V" } : Jvm.MethodName) prog_50_method_1_code (4 : Nat) (Option.none : Option Jvm.ClassFile.FieldType)).before args0 about1 = true := code_word (m := ⟨14, 0⟩) (meth := k14m0) (c := k14c0) (by decide +kernel) rfl rfl rfl (by decide +kernel)
set_option maxRecDepth 65536 in
theorem w_c11 : (Jvm.Cond.code ({ cls := "com/example/amberhold/amberhold/store/ContainerRecord", name := "withDefaultPolicy", desc := "(Lcom/example/amberhold/amberhold/store/DefaultPolicy;)Lcom/example/amberhold/amberhold/store/ContainerRecord;" } : Jvm.MethodName) prog_36_method_4_code (2 : Nat) (Option.some (Jvm.ClassFile.FieldType.object "com/example/amberhold/amberhold/store/ContainerRecord"))).before args0 about1 = true := code_word (m := ⟨15, 1⟩) (meth := k15m1) (c := k15c1) (by decide +kernel) rfl rfl rfl (by decide +kernel)
set_option maxRecDepth 65536 in
theorem w_c12 : (Jvm.Cond.code ({ cls := "com/example/amberhold/amberhold/store/SettingsRecord", name := "name", desc := "()Ljava/lang/String;" } : Jvm.MethodName) prog_50_method_3_code (1 : Nat) (Option.some (Jvm.ClassFile.FieldType.object "java/lang/String"))).before args0 about1 = true := code_word (m := ⟨14, 1⟩) (meth := k14m1) (c := k14c1) (by decide +kernel) rfl rfl rfl (by decide +kernel)
set_option maxRecDepth 65536 in
theorem w_c13 : (Jvm.Cond.code ({ cls := "com/example/amberhold/amberhold/store/SettingsRecord", name := "versionLevelWorm", desc := "()Z" } : Jvm.MethodName) prog_50_method_4_code (1 : Nat) (Option.some Jvm.ClassFile.FieldType.boolean)).before args0 about1 = true := code_word (m := ⟨14, 2⟩) (meth := k14m2) (c := k14c2) (by decide +kernel) rfl rfl rfl (by decide +kernel)
set_option maxRecDepth 65536 in
theorem w_c14 : (Jvm.Cond.code ({ cls := "java/lang/String", name := "equals", desc := "(Ljava/lang/Object;)Z" } : Jvm.MethodName) jdk_42_method_66_code (3 : Nat) (Option.some Jvm.ClassFile.FieldType.boolean)).before args0 about1 = true := code_word (m := ⟨7, 2⟩) (meth := k7m2) (c := k7c2) (by decide +kernel) rfl rfl rfl (by decide +kernel)
set_option maxRecDepth 65536 in
theorem w_c15 : (Jvm.Cond.code ({ cls := "com/example/amberhold/amberhold/store/SettingsRecord", name := "defaultPolicy", desc := "()Lcom/example/amberhold/amberhold/store/DefaultPolicy;" } : Jvm.MethodName) prog_50_method_5_code (1 : Nat) (Option.some (Jvm.ClassFile.FieldType.object "com/example/amberhold/amberhold/store/DefaultPolicy"))).before args0 about1 = true := code_word (m := ⟨14, 3⟩) (meth := k14m3) (c := k14c3) (by decide +kernel) rfl rfl rfl (by decide +kernel)
def codes1 : List Jvm.Cond := [Jvm.Cond.code x code maxLocals ret, Jvm.Cond.code ({ cls := "java/lang/String", name := "<init>", desc := "([C)V" } : Jvm.MethodName) jdk_42_method_3_code (2 : Nat) (Option.none : Option Jvm.ClassFile.FieldType), Jvm.Cond.code ({ cls := "java/lang/String", name := "<init>", desc := "([CIILjava/lang/Void;)V" } : Jvm.MethodName) jdk_42_method_149_code (6 : Nat) (Option.none : Option Jvm.ClassFile.FieldType), Jvm.Cond.code ({ cls := "java/lang/Object", name := "<init>", desc := "()V" } : Jvm.MethodName) object_method_1_code (1 : Nat) (Option.none : Option Jvm.ClassFile.FieldType), Jvm.Cond.code ({ cls := "java/lang/StringUTF16", name := "compress", desc := "([CII)[B" } : Jvm.MethodName) jdk_52_method_16_code (6 : Nat) (Option.some (Jvm.ClassFile.FieldType.array Jvm.ClassFile.FieldType.byte)), Jvm.Cond.code ({ cls := "java/lang/StringUTF16", name := "compress", desc := "([CI[BII)I" } : Jvm.MethodName) jdk_52_method_21_code (7 : Nat) (Option.some Jvm.ClassFile.FieldType.int), Jvm.Cond.code ({ cls := "java/lang/StringUTF16", name := "coderFromArrayLen", desc := "([BI)B" } : Jvm.MethodName) jdk_52_method_15_code (2 : Nat) (Option.some Jvm.ClassFile.FieldType.byte), Jvm.Cond.code ({ cls := "com/example/amberhold/amberhold/store/DefaultPolicy", name := "<init>", desc := "(ILcom/example/amberhold/amberhold/store/RetentionPolicy$Mode;)V" } : Jvm.MethodName) prog_38_method_1_code (3 : Nat) (Option.none : Option Jvm.ClassFile.FieldType), Jvm.Cond.code ({ cls := "java/util/Objects", name := "requireNonNull", desc := "(Ljava/lang/Object;)Ljava/lang/Object;" } : Jvm.MethodName) jdk_31_method_10_code (1 : Nat) (Option.some (Jvm.ClassFile.FieldType.object "java/lang/Object")), Jvm.Cond.code ({ cls := "com/example/amberhold/amberhold/store/ContainerRecord", name := "<init>", desc := "(Ljava/lang/String;ZLcom/example/amberhold/amberhold/store/DefaultPolicy;)V" } : Jvm.MethodName) prog_36_method_1_code (4 : Nat) (Option.none : Option Jvm.ClassFile.FieldType), Jvm.Cond.code ({ cls := "com/example/amberhold/amberhold/store/SettingsRecord", name := "<init>", desc := "(Ljava/lang/String;ZLcom/example/amberhold/amberhold/store/DefaultPolicy;)V" } : Jvm.MethodName) prog_50_method_1_code (4 : Nat) (Option.none : Option Jvm.ClassFile.FieldType), Jvm.Cond.code ({ cls := "com/example/amberhold/amberhold/store/ContainerRecord", name := "withDefaultPolicy", desc := "(Lcom/example/amberhold/amberhold/store/DefaultPolicy;)Lcom/example/amberhold/amberhold/store/ContainerRecord;" } : Jvm.MethodName) prog_36_method_4_code (2 : Nat) (Option.some (Jvm.ClassFile.FieldType.object "com/example/amberhold/amberhold/store/ContainerRecord")), Jvm.Cond.code ({ cls := "com/example/amberhold/amberhold/store/SettingsRecord", name := "name", desc := "()Ljava/lang/String;" } : Jvm.MethodName) prog_50_method_3_code (1 : Nat) (Option.some (Jvm.ClassFile.FieldType.object "java/lang/String")), Jvm.Cond.code ({ cls := "com/example/amberhold/amberhold/store/SettingsRecord", name := "versionLevelWorm", desc := "()Z" } : Jvm.MethodName) prog_50_method_4_code (1 : Nat) (Option.some Jvm.ClassFile.FieldType.boolean), Jvm.Cond.code ({ cls := "java/lang/String", name := "equals", desc := "(Ljava/lang/Object;)Z" } : Jvm.MethodName) jdk_42_method_66_code (3 : Nat) (Option.some Jvm.ClassFile.FieldType.boolean), Jvm.Cond.code ({ cls := "com/example/amberhold/amberhold/store/SettingsRecord", name := "defaultPolicy", desc := "()Lcom/example/amberhold/amberhold/store/DefaultPolicy;" } : Jvm.MethodName) prog_50_method_5_code (1 : Nat) (Option.some (Jvm.ClassFile.FieldType.object "com/example/amberhold/amberhold/store/DefaultPolicy"))]
set_option maxRecDepth 65536 in
theorem codes_eq : words1.filter isCode = codes1 := rfl
theorem w_codes : ∀ c ∈ words1.filter isCode, c.before args0 about1 = true := by
  rw [codes_eq]
  intro c hc
  simp only [codes1, List.mem_cons, List.not_mem_nil, or_false] at hc
  rcases hc with rfl | rfl | rfl | rfl | rfl | rfl | rfl | rfl | rfl | rfl | rfl | rfl | rfl | rfl | rfl | rfl
  · exact w_c0
  · exact w_c1
  · exact w_c2
  · exact w_c3
  · exact w_c4
  · exact w_c5
  · exact w_c6
  · exact w_c7
  · exact w_c8
  · exact w_c9
  · exact w_c10
  · exact w_c11
  · exact w_c12
  · exact w_c13
  · exact w_c14
  · exact w_c15
set_option maxRecDepth 65536 in
theorem w_t1 : (words1.take 24).all (fun c => isCode c || c.before args0 about1) = true := by decide +kernel
set_option maxRecDepth 65536 in
theorem w_t2 : ((words1.drop 24).take 24).all (fun c => isCode c || c.before args0 about1) = true := by decide +kernel
set_option maxRecDepth 65536 in
theorem w_t3 : (((words1.drop 24).drop 24).take 24).all (fun c => isCode c || c.before args0 about1) = true := by decide +kernel
set_option maxRecDepth 65536 in
theorem w_t4 : ((((words1.drop 24).drop 24).drop 24).take 24).all (fun c => isCode c || c.before args0 about1) = true := by decide +kernel
set_option maxRecDepth 65536 in
theorem w_t5 : ((((words1.drop 24).drop 24).drop 24).drop 24).all (fun c => isCode c || c.before args0 about1) = true := by decide +kernel
theorem w_tables : (allAtoms (Jvm.Cond.code x code maxLocals ret :: tables_1)).before args0 about1 = true := by
  rw [allAtoms_all]
  show words1.all (fun c => c.before args0 about1) = true
  refine all_split ?_ w_codes
  rw [← List.take_append_drop 24 words1, List.all_append, w_t1, ← List.take_append_drop 24 (words1.drop 24), List.all_append, w_t2, ← List.take_append_drop 24 ((words1.drop 24).drop 24), List.all_append, w_t3, ← List.take_append_drop 24 (((words1.drop 24).drop 24).drop 24), List.all_append, w_t4, w_t5]
  rfl
set_option maxRecDepth 65536 in
theorem w_rest : rest_1_c.before args0 about1 = true := by decide +kernel
set_option maxRecDepth 65536 in
theorem w_case : (Jvm.Cond.and given_1 narrow_1).before args0 about1 = true := by decide +kernel
set_option maxRecDepth 65536 in
theorem w_consts : constsHeld consts_1 about1 := Jvm.Lit.constsHeldB_iff.mp (by decide +kernel)
theorem w_applies : (headSpec (Jvm.Cond.code x code maxLocals ret :: tables_1) room_1).applies x e0.platform about1 = true :=
  (Spec.applies_iff w_frames).mpr ⟨w_running, w_runnable, w_alone, w_named, w_hears, w_ripe, w_room, w_tables⟩
theorem atStart : AtStart classFile x code maxLocals ret World_1 tables_1 room_1 Calls_1 rest_1 Pre_1 launch0 p0 e0 about1 theMethod args0 below0 :=
  ⟨lists_1, trivial, launch0.admits_env _ _ _, launch0.least_env, fairChoices_fair.cas, fairChoices_fair.clock, w_frames, w_args, w_heap, w_applies, ⟨w_consts, trivial⟩, w_rest, w_case⟩
end start1
theorem witness_1 : WitnessClaimed_1 := ⟨start1.p0, start1.e0, start1.about1, start1.theMethod, start1.args0, start1.below0, start1.atStart⟩
end Jvm.Pilot.@@N@@
