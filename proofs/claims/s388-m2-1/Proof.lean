import JvmDerived
import JvmDerived.Pilot.@@N@@Statement
import JvmDerived.Pilot.@@N@@Code
set_option linter.unusedVariables false
set_option linter.unusedSimpArgs false
namespace Jvm.RoadKit
open Sem ClassFile Op Lib Jvm.Stand Jvm.Free Jvm.LawKit
section New
variable {p : Program} {l : Launch} {e : Env} {R : Room} {s : State} {m : MethodId} {args : Array Value} {below : List Frame} {meth : Method} {c : Code} {T : State} {locs : List Loc} {cells slots : Nat}
theorem retI (X : Stand p l e R s m args below meth c T locs cells slots) (hx : p.tables.exec = Jvm.exec) {pc : Nat} {Ls : Array Slot} {z : Int32} {rest : List Value} (hret : meth.sig.returnType = some .int) (hd : decode c.code pc = .ok (.ireturn, 1)) {fs : List Frame}
    (hl : ∀ (f : JFrame) (acts : List Action), f.method = m → f.locked = none → f.entered = [] → (doReturn e (T.setTop f) acts (some (.int z))).1 = T.setFrames fs) : Steps p.tables e below (T.setTop (mkF m pc Ls (.int z :: rest))) (T.setFrames fs) := by
  have hm' : T.vm.method? m = some meth := X.method'
  have hn : narrow .int (.int z) = .int z := rfl
  show Steps p.tables e below (T.setTop { method := m, pc := pc, locals := Ls, stack := _ :: rest, locked := none }) _
  jvm_step X.here [X.here.top, hx, hd, hm', hret, hn]
  first | (intro acts; rw [hl _ acts rfl rfl rfl]) | rw [hl _ _ rfl rfl rfl]
  exact Steps.refl _
end New
end Jvm.RoadKit
/- laws to paste: Road.backV (cut by pick.py; bodies as the Statement names them) -/
namespace Jvm.Pilot.@@N@@
namespace StrChars
open Jvm Sem ClassFile Op Lib Jvm.Stand Jvm.Free.XT Jvm.Free.ALB Jvm.Free.JM Jvm.Free
open Jvm.Lib.Cold (StaticIs)
/-- a char array whose places are chars -/
def Ch (a : Addr) (A : Cell) (U : State) : Prop := Arr .char a A U ∧ Typed .char A
theorem Ch.mv {a : Addr} {A : Cell} {U U' : State} (h : Ch a A U) (hal : U.vm.Alike U'.vm) (hh : U'.heap = U.heap) : Ch a A U' := ⟨h.1.mv hal hh, h.2⟩
theorem Ch.keep {a : Addr} {A : Cell} {U U' : State} (h : Ch a A U) (hal : U.vm.Alike U'.vm) (hk : U'.heap[a]? = some A) : Ch a A U' := ⟨h.1.keep hal hk, h.2⟩
/-- what place i of a char[]'s cell holds -/
def cv (A : Cell) (i : Nat) : Int32 := match A.slots[i]? with | some (.int x) => x | _ => 0
theorem Ch.get {a : Addr} {A : Cell} {U : State} (h : Ch a A U) {i : Nat} (hi : i < A.slots.size) : A.slots[i]? = some (.int (cv A i)) := by
  have e := Array.getElem?_eq_getElem hi
  have f := h.2 i _ e
  unfold cv; rw [e]
  generalize A.slots[i] = v at f
  cases v <;> simp [fits] at f ⊢
/-- the byte that i2b leaves of a char -/
def lo8 (x : Int32) : Int32 := x.toInt8.toInt32
theorem fits_lo8 (y : Int32) : fits .byte (.int (lo8 y)) = true := by
  have h1 := y.toInt8.le_toInt
  have h2 := y.toInt8.toInt_lt
  simp only [lo8, fits, Bool.and_eq_true, decide_eq_true_eq, Int32.le_iff_toInt_le, Int8.toInt_toInt32, show (-128 : Int32).toInt = -128 from by decide, show (127 : Int32).toInt = 127 from by decide]
  omega
/-- A' is A but that each place j of lo .. hi - 1 holds f j -/
def Laid (A A' : Cell) (lo hi : Nat) (f : Nat → Value) : Prop := A'.cls = A.cls ∧ A'.vm = A.vm ∧ A'.slots.size = A.slots.size ∧ ∀ i, A'.slots[i]? = if lo ≤ i ∧ i < hi then some (f i) else A.slots[i]?
theorem Laid.zero (A : Cell) (lo : Nat) (f : Nat → Value) : Laid A A lo (lo + 0) f := ⟨rfl, rfl, rfl, fun i => by rw [if_neg (by omega)]⟩
theorem Laid.step {A Ak : Cell} {lo k : Nat} {f : Nat → Value} {v : Value} (h : Laid A Ak lo k f) (hlo : lo ≤ k) (hk : k < Ak.slots.size) (hv : v = f k) : Laid A (Ak.setSlot k v) lo (k + 1) f := by
  refine ⟨h.1, h.2.1, by simpa [Cell.setSlot] using h.2.2.1, fun i => ?_⟩
  by_cases e : k = i
  · subst e; rw [Cell.slots_setSlot_self v hk, if_pos (by omega), hv]
  · rw [Cell.slots_setSlot_ne v e, h.2.2.2 i]
    by_cases q : lo ≤ i ∧ i < k
    · rw [if_pos q, if_pos (by omega)]
    · rw [if_neg q, if_neg (by omega)]
def U16 : String := "java/lang/StringUTF16"
namespace Cmp5
def yN : MethodName := ⟨"java/lang/StringUTF16", "compress", "([CI[BII)I"⟩
abbrev yB : ByteArray := jdk_52_method_21_code
theorem d0 : decode yB 0 = .ok (.iconst 0, 1) := by decide +kernel
theorem d1 : decode yB 1 = .ok (.istore 5, 2) := by decide +kernel
theorem d3 : decode yB 3 = .ok (.iload 5, 2) := by decide +kernel
theorem d5 : decode yB 5 = .ok (.iload 4, 2) := by decide +kernel
theorem d7 : decode yB 7 = .ok (.if_icmp (.ge) 37, 3) := by decide +kernel
theorem d10 : decode yB 10 = .ok (.aload_n 0, 1) := by decide +kernel
theorem d11 : decode yB 11 = .ok (.iload_n 1, 1) := by decide +kernel
theorem d12 : decode yB 12 = .ok (.caload, 1) := by decide +kernel
theorem d13 : decode yB 13 = .ok (.istore 6, 2) := by decide +kernel
theorem d15 : decode yB 15 = .ok (.iload 6, 2) := by decide +kernel
theorem d17 : decode yB 17 = .ok (.sipush 255, 3) := by decide +kernel
theorem d20 : decode yB 20 = .ok (.if_icmp (.le) 6, 3) := by decide +kernel
theorem d26 : decode yB 26 = .ok (.aload_n 2, 1) := by decide +kernel
theorem d27 : decode yB 27 = .ok (.iload_n 3, 1) := by decide +kernel
theorem d28 : decode yB 28 = .ok (.iload 6, 2) := by decide +kernel
theorem d30 : decode yB 30 = .ok (.i2b, 1) := by decide +kernel
theorem d31 : decode yB 31 = .ok (.bastore, 1) := by decide +kernel
theorem d32 : decode yB 32 = .ok (.iinc 1 1, 3) := by decide +kernel
theorem d35 : decode yB 35 = .ok (.iinc 3 1, 3) := by decide +kernel
theorem d38 : decode yB 38 = .ok (.iinc 5 1, 3) := by decide +kernel
theorem d41 : decode yB 41 = .ok (.goto (-38), 3) := by decide +kernel
theorem d44 : decode yB 44 = .ok (.iload 4, 2) := by decide +kernel
theorem d46 : decode yB 46 = .ok (.ireturn, 1) := by decide +kernel
def site : List Cond := []
def tab : Cond := tabOf yN yB 7 (some .int) site
def P (b : Addr) (A : Cell) (d : Addr) (B : Cell) (o q len : Nat) (args : Array Value) (s : State) : Prop := args = #[.ref b, .int (Int32.ofNat o), .ref d, .int (Int32.ofNat q), .int (Int32.ofNat len)] ∧ Ch b A s ∧ Arr .byte d B s ∧ b ≠ d ∧ o + len ≤ A.slots.size ∧ q + len ≤ B.slots.size ∧ ∀ i, i < len → ¬ 255 < cv A (o + i)
def E (b : Addr) (A : Cell) (d : Addr) (B : Cell) (o q len : Nat) (r : Option Value) (s u : State) : Prop := r = some (.int (Int32.ofNat len)) ∧ ∃ B', Put d B' s u ∧ Laid B B' q (q + len) (fun j => Value.int (lo8 (cv A (o + (j - q)))))
/-- no char of the range above 255: len; the places written hold each char's low byte -/
theorem law (l : Launch) (b : Addr) (A : Cell) (d : Addr) (B : Cell) (o q len : Nat) : Law l yN 5 5 0 0 yB 7 (some .int) site (P b A d B o q len) (E b A d B o q len) (copyLocs d q len) 0 0 := by
  refine Law.of_walk (plainFor_of_name (by decide +kernel)) (by decide +kernel) (by decide +kernel) (by decide) (fun _ _ h => by rw [h.1]; rfl) (fun _ U U' hal hh h => ⟨h.1, h.2.1.mv hal hh, h.2.2.1.mv hal hh, h.2.2.2⟩) (fun r U U' V V' h1 hal h2 h => ⟨h.1, h.2.elim fun B' q => ⟨B', q.1.mv h1 h2, q.2⟩⟩) ?_
  intro p e s m args below meth c s₁ X0 hexec hbytes hml hret hlk hnm hown hh0 W hP
  obtain ⟨rfl, hA, hB, hne, l1, l2, hp⟩ := hP
  have c1 : Steps p.tables e below (s₁.setTop (entryFrame m #[.ref b, .int (Int32.ofNat o), .ref d, .int (Int32.ofNat q), .int (Int32.ofNat len)] 7)) (s₁.setTop (mkF m 0 #[.val (.ref b), .val (.int (Int32.ofNat o)), .val (.ref d), .val (.int (Int32.ofNat q)), .val (.int (Int32.ofNat len)), .unset, .unset] [])) := entry rfl
  have hA0 := hA.1.mv X0.warmed.alike hh0
  have hB0 := hB.mv X0.warmed.alike hh0
  have a31 := hA.1.2.2.2
  have c2 : Steps p.tables e below (s₁.setTop (entryFrame m #[.ref b, .int (Int32.ofNat o), .ref d, .int (Int32.ofNat q), .int (Int32.ofNat len)] 7)) (s₁.setTop (mkF m 3 #[.val (.ref b), .val (.int (Int32.ofNat o)), .val (.ref d), .val (.int (Int32.ofNat q)), .val (.int (Int32.ofNat len)), .val (.int 0), .unset] [])) := c1.trans (by
    refine iconstV X0.here hexec rfl 0 (hb hbytes d0) (by decide) ?_
    refine XS.istore X0.here hexec rfl (hb hbytes d1) rfl rfl ?_
    exact Steps.refl _)
  have loop : ∀ (r i : Nat), i + r = len → ∀ (z : Slot), (z = .unset ∨ ∃ w, z = .val w ∧ w.category = 1) → ∀ (Tl : State) (Bk : Cell), Stand p l e { frames := 0, locals := 0, cells := 0, slots := 0 } s m #[.ref b, .int (Int32.ofNat o), .ref d, .int (Int32.ofNat q), .int (Int32.ofNat len)] below meth c Tl ([] ++ copyLocs d q i) 0 0 → Put d Bk s₁ Tl → Laid B Bk q (q + i) (fun j => Value.int (lo8 (cv A (o + (j - q))))) →
      Steps p.tables e below (s₁.setTop (entryFrame m #[.ref b, .int (Int32.ofNat o), .ref d, .int (Int32.ofNat q), .int (Int32.ofNat len)] 7)) (Tl.setTop (mkF m 3 #[.val (.ref b), .val (.int (Int32.ofNat (o + i))), .val (.ref d), .val (.int (Int32.ofNat (q + i))), .val (.int (Int32.ofNat len)), .val (.int (Int32.ofNat i)), z] [])) → ∃ (T' : State) (B' : Cell) (z' : Slot), Stand p l e { frames := 0, locals := 0, cells := 0, slots := 0 } s m #[.ref b, .int (Int32.ofNat o), .ref d, .int (Int32.ofNat q), .int (Int32.ofNat len)] below meth c T' ([] ++ copyLocs d q len) 0 0 ∧ Put d B' s₁ T' ∧ Laid B B' q (q + len) (fun j => Value.int (lo8 (cv A (o + (j - q))))) ∧
      Steps p.tables e below (s₁.setTop (entryFrame m #[.ref b, .int (Int32.ofNat o), .ref d, .int (Int32.ofNat q), .int (Int32.ofNat len)] 7)) (T'.setTop (mkF m 3 #[.val (.ref b), .val (.int (Int32.ofNat (o + len))), .val (.ref d), .val (.int (Int32.ofNat (q + len))), .val (.int (Int32.ofNat len)), .val (.int (Int32.ofNat len)), z'] [])) := by
    intro r
    induction r with
    | zero =>
      intro i hi z hz Tl Bk Xl pl fl cl
      have hil : i = len := by omega
      rw [hil] at Xl fl cl
      exact ⟨Tl, Bk, z, Xl, pl, fl, cl⟩
    | succ r ih =>
      intro i hi z hz Tl Bk Xl pl fl cl
      have all := X0.warmed.alike.symm.trans Xl.warmed.alike
      have hAl := hA0.keep all (pl.other hne hA0.1)
      have hBk := hB0.like all pl.1 fl.1 fl.2.1 fl.2.2.1
      have hlt : q + i < Bk.slots.size := by rw [fl.2.2.1]; omega
      have c3 : Steps p.tables e below (s₁.setTop (entryFrame m #[.ref b, .int (Int32.ofNat o), .ref d, .int (Int32.ofNat q), .int (Int32.ofNat len)] 7)) (Tl.setTop (mkF m 12 #[.val (.ref b), .val (.int (Int32.ofNat (o + i))), .val (.ref d), .val (.int (Int32.ofNat (q + i))), .val (.int (Int32.ofNat len)), .val (.int (Int32.ofNat i)), z] [.int (Int32.ofNat (o + i)), .ref b])) := cl.trans (by
        refine XS.iload Xl.here hexec rfl (hb hbytes d3) rfl ?_
        refine XS.iload Xl.here hexec rfl (hb hbytes d5) rfl ?_
        refine XS.icmpNo Xl.here hexec rfl (hb hbytes d7) rfl (ii_ge_f (lt32 (by omega) (by omega))) ?_
        refine XS.aloadN Xl.here hexec rfl (hb hbytes d10) rfl rfl ?_
        refine XS.iloadN Xl.here hexec rfl (hb hbytes d11) rfl ?_
        exact Steps.refl _)
      have c4 : Steps p.tables e below (s₁.setTop (entryFrame m #[.ref b, .int (Int32.ofNat o), .ref d, .int (Int32.ofNat q), .int (Int32.ofNat len)] 7)) (Tl.setTop (mkF m 13 #[.val (.ref b), .val (.int (Int32.ofNat (o + i))), .val (.ref d), .val (.int (Int32.ofNat (q + i))), .val (.int (Int32.ofNat len)), .val (.int (Int32.ofNat i)), z] [.int (cv A (o + i))])) := c3.trans (by
        refine Xl.aget hexec hAl rfl (hA.get (i := o + i) (by omega)) rfl rfl (hb hbytes d12) ?_
        exact Steps.refl _)
      have c5 : Steps p.tables e below (s₁.setTop (entryFrame m #[.ref b, .int (Int32.ofNat o), .ref d, .int (Int32.ofNat q), .int (Int32.ofNat len)] 7)) (Tl.setTop (mkF m 15 #[.val (.ref b), .val (.int (Int32.ofNat (o + i))), .val (.ref d), .val (.int (Int32.ofNat (q + i))), .val (.int (Int32.ofNat len)), .val (.int (Int32.ofNat i)), .val (.int (cv A (o + i)))] [])) := c4.trans (by
        refine XS.istoreS Xl.here hexec rfl (hb hbytes d13) rfl rfl hz ?_
        exact Steps.refl _)
      have c6 : Steps p.tables e below (s₁.setTop (entryFrame m #[.ref b, .int (Int32.ofNat o), .ref d, .int (Int32.ofNat q), .int (Int32.ofNat len)] 7)) (Tl.setTop (mkF m 31 #[.val (.ref b), .val (.int (Int32.ofNat (o + i))), .val (.ref d), .val (.int (Int32.ofNat (q + i))), .val (.int (Int32.ofNat len)), .val (.int (Int32.ofNat i)), .val (.int (cv A (o + i)))] [.int (lo8 (cv A (o + i))), .int (Int32.ofNat (q + i)), .ref d])) := c5.trans (by
        refine XS.iload Xl.here hexec rfl (hb hbytes d15) rfl ?_
        refine sipushV Xl.here hexec rfl 255 (hb hbytes d17) (by decide) ?_
        refine XS.icmpYes Xl.here hexec rfl (pc0 := 20) rfl (hb hbytes d20) rfl (ii_le_t (hp i (by omega))) (by decide) rfl ?_
        refine XS.aloadN Xl.here hexec rfl (hb hbytes d26) rfl rfl ?_
        refine XS.iloadN Xl.here hexec rfl (hb hbytes d27) rfl ?_
        refine XS.iload Xl.here hexec rfl (hb hbytes d28) rfl ?_
        refine i2b Xl.here hexec rfl (hb hbytes d30) rfl ?_
        exact Steps.refl _)
      obtain ⟨T7, X7, p7, st7⟩ := Xl.aput hexec hBk rfl hlt rfl (fits_lo8 (cv A (o + i))) (g := (mkF m 31 #[.val (.ref b), .val (.int (Int32.ofNat (o + i))), .val (.ref d), .val (.int (Int32.ofNat (q + i))), .val (.int (Int32.ofNat len)), .val (.int (Int32.ofNat i)), .val (.int (cv A (o + i)))] [.int (lo8 (cv A (o + i))), .int (Int32.ofNat (q + i)), .ref d])) rfl (rest := []) rfl (hb hbytes d31)
      have c8 : Steps p.tables e below (s₁.setTop (entryFrame m #[.ref b, .int (Int32.ofNat o), .ref d, .int (Int32.ofNat q), .int (Int32.ofNat len)] 7)) (T7.setTop (mkF m 32 #[.val (.ref b), .val (.int (Int32.ofNat (o + i))), .val (.ref d), .val (.int (Int32.ofNat (q + i))), .val (.int (Int32.ofNat len)), .val (.int (Int32.ofNat i)), .val (.int (cv A (o + i)))] [])) := c6.trans (st7 _ (Steps.refl _))
      have c9 : Steps p.tables e below (s₁.setTop (entryFrame m #[.ref b, .int (Int32.ofNat o), .ref d, .int (Int32.ofNat q), .int (Int32.ofNat len)] 7)) (T7.setTop (mkF m 3 #[.val (.ref b), .val (.int (Int32.ofNat (o + i) + 1)), .val (.ref d), .val (.int (Int32.ofNat (q + i) + 1)), .val (.int (Int32.ofNat len)), .val (.int (Int32.ofNat i + 1)), .val (.int (cv A (o + i)))] [])) := c8.trans (by
        refine iincV X7.here hexec rfl 1 (hb hbytes d32) (by decide) rfl rfl ?_
        refine iincV X7.here hexec rfl 1 (hb hbytes d35) (by decide) rfl rfl ?_
        refine iincV X7.here hexec rfl 1 (hb hbytes d38) (by decide) rfl rfl ?_
        refine XS.goto X7.here hexec rfl (pc0 := 41) rfl (hb hbytes d41) (by decide) rfl ?_
        exact Steps.refl _)
      have c10 : Steps p.tables e below (s₁.setTop (entryFrame m #[.ref b, .int (Int32.ofNat o), .ref d, .int (Int32.ofNat q), .int (Int32.ofNat len)] 7)) (T7.setTop (mkF m 3 #[.val (.ref b), .val (.int (Int32.ofNat (o + (i + 1)))), .val (.ref d), .val (.int (Int32.ofNat (q + (i + 1)))), .val (.int (Int32.ofNat len)), .val (.int (Int32.ofNat (i + 1))), .val (.int (cv A (o + i)))] [])) := by
        have := c9
        rw [succ32, succ32, succ32] at this
        exact this
      exact ih (i + 1) (by omega) _ (Or.inr ⟨_, rfl, rfl⟩) T7 _ (by rw [copyLocs_step, ← List.append_assoc]; exact X7) (pl.trans p7) (fl.step (by omega) hlt (by simp)) c10
  obtain ⟨T9, B9, z9, X9, p9, f9, g9⟩ := loop len 0 (by omega) .unset (Or.inl rfl) s₁ B (by simpa [copyLocs] using X0) ⟨hB0.1, fun _ _ => rfl, rfl⟩ (Laid.zero _ _ _) c2
  have c11 : Steps p.tables e below (s₁.setTop (entryFrame m #[.ref b, .int (Int32.ofNat o), .ref d, .int (Int32.ofNat q), .int (Int32.ofNat len)] 7)) (T9.setTop (mkF m 46 #[.val (.ref b), .val (.int (Int32.ofNat (o + len))), .val (.ref d), .val (.int (Int32.ofNat (q + len))), .val (.int (Int32.ofNat len)), .val (.int (Int32.ofNat len)), z9] [.int (Int32.ofNat len)])) := g9.trans (by
    refine XS.iload X9.here hexec rfl (hb hbytes d3) rfl ?_
    refine XS.iload X9.here hexec rfl (hb hbytes d5) rfl ?_
    refine XS.icmpYes X9.here hexec rfl (pc0 := 7) rfl (hb hbytes d7) rfl (ii_ge_t (nlt32 (by omega) (Nat.le_refl _))) (by decide) rfl ?_
    refine XS.iload X9.here hexec rfl (hb hbytes d44) rfl ?_
    exact Steps.refl _)
  exact ⟨T9, some (.int (Int32.ofNat len)), _, _, _, X9, by simp, rfl, rfl, (fun h => by cases h), ⟨rfl, B9, p9.from hh0, f9⟩, fun fs hl => c11.trans (X9.ireturnOut hexec hret rfl (Or.inl rfl) (hb hbytes d46) hl)⟩
end Cmp5
namespace Cmp3
def yN : MethodName := ⟨"java/lang/StringUTF16", "compress", "([CII)[B"⟩
abbrev yB : ByteArray := jdk_52_method_16_code
theorem d0 : decode yB 0 = .ok (.iload_n 2, 1) := by decide +kernel
theorem d1 : decode yB 1 = .ok (.newarray .byte, 2) := by decide +kernel
theorem d3 : decode yB 3 = .ok (.astore_n 3, 1) := by decide +kernel
theorem d4 : decode yB 4 = .ok (.aload_n 0, 1) := by decide +kernel
theorem d5 : decode yB 5 = .ok (.iload_n 1, 1) := by decide +kernel
theorem d6 : decode yB 6 = .ok (.aload_n 3, 1) := by decide +kernel
theorem d7 : decode yB 7 = .ok (.iconst 0, 1) := by decide +kernel
theorem d8 : decode yB 8 = .ok (.iload_n 2, 1) := by decide +kernel
theorem d9 : decode yB 9 = .ok (.invokestatic 115, 3) := by decide +kernel
theorem d12 : decode yB 12 = .ok (.istore 4, 2) := by decide +kernel
theorem d14 : decode yB 14 = .ok (.iload 4, 2) := by decide +kernel
theorem d16 : decode yB 16 = .ok (.iload_n 2, 1) := by decide +kernel
theorem d17 : decode yB 17 = .ok (.if_icmp (.eq) 40, 3) := by decide +kernel
theorem d57 : decode yB 57 = .ok (.aload_n 3, 1) := by decide +kernel
theorem d58 : decode yB 58 = .ok (.areturn, 1) := by decide +kernel
def site : List Cond := [.arrayClass .byte, Cmp5.tab] ++ staticW U16 115 Cmp5.yN
def tab : Cond := tabOf yN yB 6 (some (.array .byte)) site
def P (b : Addr) (A : Cell) (o len : Nat) (args : Array Value) (s : State) : Prop := args = #[.ref b, .int (Int32.ofNat o), .int (Int32.ofNat len)] ∧ Ch b A s ∧ o + len ≤ A.slots.size ∧ len ≤ 536870912 ∧ ∀ i, i < len → ¬ 255 < cv A (o + i)
def E (b : Addr) (A : Cell) (o len : Nat) (r : Option Value) (s u : State) : Prop := NewArr .byte "[B" len (fun j => .int (lo8 (cv A (o + j)))) r s u ∧ u.heap.size = s.heap.size + 1
/-- no char of the range above 255: a new byte[] of their low bytes -/
theorem law (l : Launch) (b : Addr) (A : Cell) (o len : Nat) : Law l yN 3 3 1 18 yB 6 (some (.array .byte)) site (P b A o len) (E b A o len) [] 1 len := by
  refine Law.of_walk (plainFor_of_name (by decide +kernel)) (by decide +kernel) (by decide +kernel) (by decide) (fun _ _ h => by rw [h.1]; rfl) (fun _ U U' hal hh h => ⟨h.1, h.2.1.mv hal hh, h.2.2⟩) (fun r U U' V V' h1 hal h2 h => ⟨NewArr.mv r U U' V V' h1 hal h2 h.1, by rw [h1, h2]; exact h.2⟩) ?_
  intro p e s m args below meth c s₁ X0 hexec hbytes hml hret hlk hnm hown hh0 W hP
  obtain ⟨rfl, hA, l1, l2, hp⟩ := hP
  have a31 := hA.1.2.2.2
  have c1 : Steps p.tables e below (s₁.setTop (entryFrame m #[.ref b, .int (Int32.ofNat o), .int (Int32.ofNat len)] 6)) (s₁.setTop (mkF m 0 #[.val (.ref b), .val (.int (Int32.ofNat o)), .val (.int (Int32.ofNat len)), .unset, .unset, .unset] [])) := entry rfl
  have c2 : Steps p.tables e below (s₁.setTop (entryFrame m #[.ref b, .int (Int32.ofNat o), .int (Int32.ofNat len)] 6)) (s₁.setTop (mkF m 1 #[.val (.ref b), .val (.int (Int32.ofNat o)), .val (.int (Int32.ofNat len)), .unset, .unset, .unset] [.int (Int32.ofNat len)])) := c1.trans (by
    refine XS.iloadN X0.here hexec rfl (hb hbytes d0) rfl ?_
    exact Steps.refl _)
  obtain ⟨T3, B3, X3, ba3, bs3, bv3, bh3, bf3, st3⟩ := X0.anew hexec (atype := .byte) (wk W (.arrayClass .byte)) rfl (by show len * 1 ≤ _; omega) (by omega) (g := (mkF m 1 #[.val (.ref b), .val (.int (Int32.ofNat o)), .val (.int (Int32.ofNat len)), .unset, .unset, .unset] [.int (Int32.ofNat len)])) rfl (hb hbytes d1) (rest := []) rfl (Nat.le_refl _) (by show 0 + len ≤ len; omega)
  rw [hh0] at ba3 st3
  have kp3 : XT.Kept s T3 := (XT.Kept.of_eq hh0).push bh3
  have hA3 := hA.keep X3.warmed.alike (kp3 _ _ hA.1.1)
  have hne : b ≠ s.heap.size := hA.1.ne
  have c4 : Steps p.tables e below (s₁.setTop (entryFrame m #[.ref b, .int (Int32.ofNat o), .int (Int32.ofNat len)] 6)) (T3.setTop (mkF m 3 #[.val (.ref b), .val (.int (Int32.ofNat o)), .val (.int (Int32.ofNat len)), .unset, .unset, .unset] [.ref s.heap.size])) := c2.trans (st3 _ (Steps.refl _))
  have c5 : Steps p.tables e below (s₁.setTop (entryFrame m #[.ref b, .int (Int32.ofNat o), .int (Int32.ofNat len)] 6)) (T3.setTop (mkF m 9 #[.val (.ref b), .val (.int (Int32.ofNat o)), .val (.int (Int32.ofNat len)), .val (.ref s.heap.size), .unset, .unset] [.int (Int32.ofNat len), .int 0, .ref s.heap.size, .int (Int32.ofNat o), .ref b])) := c4.trans (by
    refine XS.astoreN X3.here hexec rfl (hb hbytes d3) rfl rfl rfl ?_
    refine XS.aloadN X3.here hexec rfl (hb hbytes d4) rfl rfl ?_
    refine XS.iloadN X3.here hexec rfl (hb hbytes d5) rfl ?_
    refine XS.aloadN X3.here hexec rfl (hb hbytes d6) rfl rfl ?_
    refine iconstV X3.here hexec rfl 0 (hb hbytes d7) (by decide) ?_
    refine XS.iloadN X3.here hexec rfl (hb hbytes d8) rfl ?_
    exact Steps.refl _)
  obtain ⟨v6, T6, X6, E6, g6⟩ := X3.callS hexec (Cmp5.law l b A s.heap.size B3 o 0 len) hown (wks W (staticW U16 115 Cmp5.yN)) (wk W Cmp5.tab) (W := 0) (Nat.le_of_ble_eq_true rfl) (Nat.le_of_ble_eq_true rfl) (Nat.le_refl _) (by show 0 + len + 0 ≤ len; omega) (g := (mkF m 9 #[.val (.ref b), .val (.int (Int32.ofNat o)), .val (.int (Int32.ofNat len)), .val (.ref s.heap.size), .unset, .unset] [.int (Int32.ofNat len), .int (Int32.ofNat 0), .ref s.heap.size, .int (Int32.ofNat o), .ref b])) rfl (by rw [hml]; rfl) c5 (argsL := [.ref b, .int (Int32.ofNat o), .ref s.heap.size, .int (Int32.ofNat 0), .int (Int32.ofNat len)]) (rest := []) rfl rfl (by show 2 * 0 + 0 ≤ _; decide) (hb hbytes d9) (⟨rfl, hA3, ba3, hne, l1, by rw [bs3]; simp, hp⟩)
  obtain ⟨rfl, B6, p6, f6⟩ := E6
  have c7 : Steps p.tables e below (s₁.setTop (entryFrame m #[.ref b, .int (Int32.ofNat o), .int (Int32.ofNat len)] 6)) (T6.setTop (mkF m 12 #[.val (.ref b), .val (.int (Int32.ofNat o)), .val (.int (Int32.ofNat len)), .val (.ref s.heap.size), .unset, .unset] [.int (Int32.ofNat len)])) := g6
  have c8 : Steps p.tables e below (s₁.setTop (entryFrame m #[.ref b, .int (Int32.ofNat o), .int (Int32.ofNat len)] 6)) (T6.setTop (mkF m 58 #[.val (.ref b), .val (.int (Int32.ofNat o)), .val (.int (Int32.ofNat len)), .val (.ref s.heap.size), .val (.int (Int32.ofNat len)), .unset] [.ref s.heap.size])) := c7.trans (by
    refine XS.istore X6.here hexec rfl (hb hbytes d12) rfl rfl ?_
    refine XS.iload X6.here hexec rfl (hb hbytes d14) rfl ?_
    refine XS.iloadN X6.here hexec rfl (hb hbytes d16) rfl ?_
    refine XS.icmpYes X6.here hexec rfl (pc0 := 17) rfl (hb hbytes d17) rfl (ii_eq_t rfl) (by decide) rfl ?_
    refine XS.aloadN X6.here hexec rfl (hb hbytes d57) rfl rfl ?_
    exact Steps.refl _)
  have X8 := X6.wide (L' := []) (cells' := 1) (slots' := len) (fun x hx hlt => by
    simp only [List.nil_append, copyLocs, List.mem_map, List.mem_range] at hx
    obtain ⟨i, -, rfl⟩ := hx
    exact absurd hlt (Nat.lt_irrefl _)) (Nat.le_refl _) (by omega)
  exact ⟨T6, some (.ref s.heap.size), _, _, _, X8, rfl, rfl, rfl, (fun h => by cases h), ⟨⟨rfl, B6, ba3.like (X3.warmed.alike.symm.trans X6.warmed.alike) p6.1 f6.1 f6.2.1 f6.2.2.1, f6.2.1.trans bv3, by rw [X6.warmed.alike.findClass, f6.1]; exact bf3, by rw [f6.2.2.1, bs3]; simp, fun j hj => by rw [f6.2.2.2 j, if_pos (by omega)]; rfl, kp3.put p6 (Nat.le_refl _)⟩, by rw [p6.2.2, bh3, hh0]; simp⟩, fun fs hl => c8.trans (X8.areturnOut hexec rfl hret rfl (hb hbytes d58) hl)⟩
end Cmp3
namespace CodL
def yN : MethodName := ⟨"java/lang/StringUTF16", "coderFromArrayLen", "([BI)B"⟩
abbrev yB : ByteArray := jdk_52_method_15_code
theorem d0 : decode yB 0 = .ok (.iload_n 1, 1) := by decide +kernel
theorem d1 : decode yB 1 = .ok (.aload_n 0, 1) := by decide +kernel
theorem d2 : decode yB 2 = .ok (.arraylength, 1) := by decide +kernel
theorem d3 : decode yB 3 = .ok (.isub, 1) := by decide +kernel
theorem d4 : decode yB 4 = .ok (.bipush 31, 2) := by decide +kernel
theorem d6 : decode yB 6 = .ok (.iushr, 1) := by decide +kernel
theorem d7 : decode yB 7 = .ok (.i2b, 1) := by decide +kernel
theorem d8 : decode yB 8 = .ok (.ireturn, 1) := by decide +kernel
def site : List Cond := []
def tab : Cond := tabOf yN yB 2 (some .byte) site
def P (d : Addr) (B : Cell) (args : Array Value) (s : State) : Prop := args = #[.ref d, .int (Int32.ofNat B.slots.size)] ∧ Arr .byte d B s
def E (r : Option Value) (s u : State) : Prop := XT.PureE (some (.int 0)) r s u
/-- an array as long as the number of chars: LATIN1 -/
theorem law (l : Launch) (d : Addr) (B : Cell) : Law l yN 2 2 0 0 yB 2 (some .byte) site (P d B) E [] 0 0 := by
  refine Law.of_walk (plainFor_of_name (by decide +kernel)) (by decide +kernel) (by decide +kernel) (by decide) (fun _ _ h => by rw [h.1]; rfl) (fun _ U U' hal hh h => ⟨h.1, h.2.mv hal hh⟩) (fun r U U' V V' h1 hal h2 h => XT.PureE.mv r U U' V V' h1 hal h2 h) ?_
  intro p e s m args below meth c s₁ X0 hexec hbytes hml hret hlk hnm hown hh0 W hP
  obtain ⟨rfl, hB⟩ := hP
  have hB0 := hB.mv X0.warmed.alike hh0
  have c1 : Steps p.tables e below (s₁.setTop (entryFrame m #[.ref d, .int (Int32.ofNat B.slots.size)] 2)) (s₁.setTop (mkF m 0 #[.val (.ref d), .val (.int (Int32.ofNat B.slots.size))] [])) := entry rfl
  have c2 : Steps p.tables e below (s₁.setTop (entryFrame m #[.ref d, .int (Int32.ofNat B.slots.size)] 2)) (s₁.setTop (mkF m 2 #[.val (.ref d), .val (.int (Int32.ofNat B.slots.size))] [.ref d, .int (Int32.ofNat B.slots.size)])) := c1.trans (by
    refine XS.iloadN X0.here hexec rfl (hb hbytes d0) rfl ?_
    refine XS.aloadN X0.here hexec rfl (hb hbytes d1) rfl rfl ?_
    exact Steps.refl _)
  have c3 : Steps p.tables e below (s₁.setTop (entryFrame m #[.ref d, .int (Int32.ofNat B.slots.size)] 2)) (s₁.setTop (mkF m 8 #[.val (.ref d), .val (.int (Int32.ofNat B.slots.size))] [.int (lo8 (ushr (Int32.ofNat B.slots.size - Int32.ofNat B.slots.size) 31))])) := c2.trans (by
    refine X0.alen hexec hB0 rfl rfl (hb hbytes d2) ?_
    refine XS.isub X0.here hexec rfl (hb hbytes d3) rfl ?_
    refine bipushV X0.here hexec rfl 31 (hb hbytes d4) (by decide) ?_
    refine iushr X0.here hexec rfl (hb hbytes d6) rfl ?_
    refine i2b X0.here hexec rfl (hb hbytes d7) rfl ?_
    exact Steps.refl _)
  have e0 : lo8 (ushr (Int32.ofNat B.slots.size - Int32.ofNat B.slots.size) 31) = 0 := by rw [Int32.sub_self]; decide
  rw [e0] at c3
  exact ⟨s₁, some (.int 0), _, _, _, X0, rfl, rfl, rfl, (fun h => by cases h), ⟨rfl, hh0⟩, fun fs hl => c3.trans (X0.ireturnOut hexec hret rfl (Or.inr (Or.inr (Or.inl rfl))) (hb hbytes d8) hl)⟩
end CodL
/-- the String at a is Latin-1 over a new byte[] (the heap's one new cell): the low bytes of the len chars of A from o on; every cell but a is kept -/
def Got (a : Addr) (D : Cell) (fV fC : Field) (A : Cell) (o len : Nat) (r : Option Value) (s u : State) : Prop := r = none ∧ ∃ D' V : Cell, Blank "java/lang/String" a D' u ∧ Same D D' [fV.slot, fC.slot] ∧ D'.slots[fV.slot]? = some (.ref s.heap.size) ∧ D'.slots[fC.slot]? = some (.int 0) ∧ Arr .byte s.heap.size V u ∧ V.vm = .none ∧ u.vm.findClass "[B" = some V.cls ∧ V.slots.size = len ∧ (∀ j, j < len → V.slots[j]? = some (.int (lo8 (cv A (o + j))))) ∧ (∀ (y : Addr) (c : Cell), y ≠ a → s.heap[y]? = some c → u.heap[y]? = some c) ∧ u.heap.size = s.heap.size + 1
theorem Got.mv {a : Addr} {D A : Cell} {fV fC : Field} {o len : Nat} : ∀ r (U U' V V' : State), U'.heap = U.heap → V.vm.Alike V'.vm → V'.heap = V.heap → Got a D fV fC A o len r U V → Got a D fV fC A o len r U' V' :=
  fun r U U' V V' h1 hal h2 ⟨e0, D', X, a1, a2, a3, a4, a5, a6, a7, a8, a9, a10, a11⟩ => ⟨e0, D', X, a1.mv hal h2, a2, by rw [h1]; exact a3, a4, by rw [h1]; exact a5.mv hal h2, a6, by rw [hal.findClass]; exact a7, a8, a9, by rw [h1, h2]; exact a10, by rw [h1, h2]; exact a11⟩
namespace New4
def yN : MethodName := ⟨"java/lang/String", "<init>", "([CIILjava/lang/Void;)V"⟩
abbrev yB : ByteArray := jdk_42_method_149_code
theorem d0 : decode yB 0 = .ok (.aload_n 0, 1) := by decide +kernel
theorem d1 : decode yB 1 = .ok (.invokespecial 1, 3) := by decide +kernel
theorem d4 : decode yB 4 = .ok (.iload_n 3, 1) := by decide +kernel
theorem d5 : decode yB 5 = .ok (.ifCond (.ne) 22, 3) := by decide +kernel
theorem d27 : decode yB 27 = .ok (.getstatic 38, 3) := by decide +kernel
theorem d30 : decode yB 30 = .ok (.ifCond (.eq) 28, 3) := by decide +kernel
theorem d33 : decode yB 33 = .ok (.aload_n 1, 1) := by decide +kernel
theorem d34 : decode yB 34 = .ok (.iload_n 2, 1) := by decide +kernel
theorem d35 : decode yB 35 = .ok (.iload_n 3, 1) := by decide +kernel
theorem d36 : decode yB 36 = .ok (.invokestatic 177, 3) := by decide +kernel
theorem d39 : decode yB 39 = .ok (.astore 5, 2) := by decide +kernel
theorem d41 : decode yB 41 = .ok (.aload_n 0, 1) := by decide +kernel
theorem d42 : decode yB 42 = .ok (.aload 5, 2) := by decide +kernel
theorem d44 : decode yB 44 = .ok (.iload_n 3, 1) := by decide +kernel
theorem d45 : decode yB 45 = .ok (.invokestatic 47, 3) := by decide +kernel
theorem d48 : decode yB 48 = .ok (.putfield 15, 3) := by decide +kernel
theorem d51 : decode yB 51 = .ok (.aload_n 0, 1) := by decide +kernel
theorem d52 : decode yB 52 = .ok (.aload 5, 2) := by decide +kernel
theorem d54 : decode yB 54 = .ok (.putfield 9, 3) := by decide +kernel
theorem d57 : decode yB 57 = .ok (.return_, 1) := by decide +kernel
def site : List Cond := [.fieldLink "java/lang/String" 38 "java/lang/String" "COMPACT_STRINGS" "Z", Cmp3.tab, CodL.tab, .laysFinal "java/lang/String" "java/lang/String" "value" "[B", .fieldLink "java/lang/String" 9 "java/lang/String" "value" "[B", .laysFinal "java/lang/String" "java/lang/String" "coder" "B", .fieldLink "java/lang/String" 15 "java/lang/String" "coder" "B"] ++ objW "java/lang/String" 1 ++ staticW "java/lang/String" 177 Cmp3.yN ++ staticW "java/lang/String" 47 CodL.yN
def tab : Cond := tabOf yN yB 6 none site
def P (a : Addr) (D : Cell) (fV fC : Field) (b : Addr) (A : Cell) (z : Int32) (o len : Nat) (args : Array Value) (s : State) : Prop := args = #[.ref a, .ref b, .int (Int32.ofNat o), .int (Int32.ofNat len), .null] ∧ Blank "java/lang/String" a D s ∧ Found "java/lang/String" "value" "[B" fV s ∧ Found "java/lang/String" "coder" "B" fC s ∧ Ch b A s ∧ StaticIs s "java/lang/String" "COMPACT_STRINGS" "Z" (.int z) ∧ ¬ z = 0 ∧ 0 < len ∧ o + len ≤ A.slots.size ∧ len ≤ 536870912 ∧ ∀ i, i < len → ¬ 255 < cv A (o + i)
def E (a : Addr) (D : Cell) (fV fC : Field) (A : Cell) (o len : Nat) (r : Option Value) (s u : State) : Prop := Got a D fV fC A o len r s u
/-- len > 0, no char of the range above 255: a Latin-1 String of their low bytes -/
theorem law (l : Launch) (a : Addr) (D : Cell) (fV fC : Field) (b : Addr) (A : Cell) (z : Int32) (o len : Nat) : Law l yN 5 4 2 35 yB 6 none site (P a D fV fC b A z o len) (E a D fV fC A o len) [⟨a, fC.slot⟩, ⟨a, fV.slot⟩] 1 len := by
  refine Law.of_walk (plainFor_of_name (by decide +kernel)) (by decide +kernel) (by decide +kernel) (by decide) (fun _ _ h => by rw [h.1]; rfl) (fun _ U U' hal hh h => ⟨h.1, h.2.1.mv hal hh, h.2.2.1.al hal, h.2.2.2.1.al hal, h.2.2.2.2.1.mv hal hh, h.2.2.2.2.2.1.there hal hh, h.2.2.2.2.2.2⟩) (fun r U U' V V' h1 hal h2 h => Got.mv r U U' V V' h1 hal h2 h) ?_
  intro p e s m args below meth c s₁ X0 hexec hbytes hml hret hlk hnm hown hh0 W hP
  obtain ⟨rfl, hB, f1, f2, hA, s1, hz, l0, l1, l2, hp⟩ := hP
  have a31 := hA.1.2.2.2
  have c1 : Steps p.tables e below (s₁.setTop (entryFrame m #[.ref a, .ref b, .int (Int32.ofNat o), .int (Int32.ofNat len), .null] 6)) (s₁.setTop (mkF m 0 #[.val (.ref a), .val (.ref b), .val (.int (Int32.ofNat o)), .val (.int (Int32.ofNat len)), .val .null, .unset] [])) := entry rfl
  have c2 : Steps p.tables e below (s₁.setTop (entryFrame m #[.ref a, .ref b, .int (Int32.ofNat o), .int (Int32.ofNat len), .null] 6)) (s₁.setTop (mkF m 1 #[.val (.ref a), .val (.ref b), .val (.int (Int32.ofNat o)), .val (.int (Int32.ofNat len)), .val .null, .unset] [.ref a])) := c1.trans (by
    refine XS.aloadN X0.here hexec rfl (hb hbytes d0) rfl rfl ?_
    exact Steps.refl _)
  obtain ⟨T3, X3, q3, st3⟩ := X0.oinit hexec hown (wks W (objW "java/lang/String" 1)) (g := (mkF m 1 #[.val (.ref a), .val (.ref b), .val (.int (Int32.ofNat o)), .val (.int (Int32.ofNat len)), .val .null, .unset] [.ref a])) rfl (by rw [hml]; rfl) (rest := []) rfl (hb hbytes d1) (W := 0) (by show 2 * 0 + 0 ≤ _; decide) (Nat.le_of_ble_eq_true rfl) (Nat.le_of_ble_eq_true rfl)
  have hh3 := q3.trans hh0
  have c4 : Steps p.tables e below (s₁.setTop (entryFrame m #[.ref a, .ref b, .int (Int32.ofNat o), .int (Int32.ofNat len), .null] 6)) (T3.setTop (mkF m 27 #[.val (.ref a), .val (.ref b), .val (.int (Int32.ofNat o)), .val (.int (Int32.ofNat len)), .val .null, .unset] [])) := (c2.trans (st3 _ (Steps.refl _))).trans (by
    refine XS.iloadN X3.here hexec rfl (hb hbytes d4) rfl ?_
    refine XS.ifYes X3.here hexec rfl (pc0 := 5) rfl (hb hbytes d5) rfl (i0_ne_t (nz32 (by omega) l0)) (by decide) rfl ?_
    exact Steps.refl _)
  obtain ⟨T5, X5, q5, st5⟩ := X3.sget hexec hown (wk W (.fieldLink "java/lang/String" 38 "java/lang/String" "COMPACT_STRINGS" "Z")) s1 (fun _ _ h => by rw [hh3]; exact h) (g := (mkF m 27 #[.val (.ref a), .val (.ref b), .val (.int (Int32.ofNat o)), .val (.int (Int32.ofNat len)), .val .null, .unset] [])) rfl (hb hbytes d27)
  have hh5 := q5.trans hh3
  have c6 : Steps p.tables e below (s₁.setTop (entryFrame m #[.ref a, .ref b, .int (Int32.ofNat o), .int (Int32.ofNat len), .null] 6)) (T5.setTop (mkF m 30 #[.val (.ref a), .val (.ref b), .val (.int (Int32.ofNat o)), .val (.int (Int32.ofNat len)), .val .null, .unset] [.int z])) := c4.trans (st5 _ (Steps.refl _))
  have c7 : Steps p.tables e below (s₁.setTop (entryFrame m #[.ref a, .ref b, .int (Int32.ofNat o), .int (Int32.ofNat len), .null] 6)) (T5.setTop (mkF m 36 #[.val (.ref a), .val (.ref b), .val (.int (Int32.ofNat o)), .val (.int (Int32.ofNat len)), .val .null, .unset] [.int (Int32.ofNat len), .int (Int32.ofNat o), .ref b])) := c6.trans (by
    refine XS.ifNo X5.here hexec rfl (hb hbytes d30) rfl (i0_eq_f hz) ?_
    refine XS.aloadN X5.here hexec rfl (hb hbytes d33) rfl rfl ?_
    refine XS.iloadN X5.here hexec rfl (hb hbytes d34) rfl ?_
    refine XS.iloadN X5.here hexec rfl (hb hbytes d35) rfl ?_
    exact Steps.refl _)
  obtain ⟨v8, T8, X8, E8, g8⟩ := X5.callS hexec (Cmp3.law l b A o len) hown (wks W (staticW "java/lang/String" 177 Cmp3.yN)) (wk W Cmp3.tab) (W := 0) (Nat.le_of_ble_eq_true rfl) (Nat.le_of_ble_eq_true rfl) (Nat.le_refl _) (by show 0 + len ≤ len; omega) (g := (mkF m 36 #[.val (.ref a), .val (.ref b), .val (.int (Int32.ofNat o)), .val (.int (Int32.ofNat len)), .val .null, .unset] [.int (Int32.ofNat len), .int (Int32.ofNat o), .ref b])) rfl (by rw [hml]; rfl) c7 (argsL := [.ref b, .int (Int32.ofNat o), .int (Int32.ofNat len)]) (rest := []) rfl rfl (by show 2 * 0 + 0 ≤ _; decide) (hb hbytes d36) (⟨rfl, hA.mv X5.warmed.alike hh5, l1, l2, hp⟩)
  obtain ⟨e8, z8⟩ := E8
  obtain ⟨rfl, N, n1, n2, n3, n4, n5, n6⟩ := NewArr.mv _ T5 s _ _ hh5.symm (Vm.Alike.refl _) rfl e8
  rw [hh5] at z8
  have hB1 := hB.keep X8.warmed.alike (n6 _ _ hB.1)
  have hne : s.heap.size ≠ a := (Nat.ne_of_lt (Array.getElem?_eq_some_iff.mp hB.1).1).symm
  have c9 : Steps p.tables e below (s₁.setTop (entryFrame m #[.ref a, .ref b, .int (Int32.ofNat o), .int (Int32.ofNat len), .null] 6)) (T8.setTop (mkF m 39 #[.val (.ref a), .val (.ref b), .val (.int (Int32.ofNat o)), .val (.int (Int32.ofNat len)), .val .null, .unset] [.ref s.heap.size])) := g8
  have c10 : Steps p.tables e below (s₁.setTop (entryFrame m #[.ref a, .ref b, .int (Int32.ofNat o), .int (Int32.ofNat len), .null] 6)) (T8.setTop (mkF m 45 #[.val (.ref a), .val (.ref b), .val (.int (Int32.ofNat o)), .val (.int (Int32.ofNat len)), .val .null, .val (.ref s.heap.size)] [.int (Int32.ofNat N.slots.size), .ref s.heap.size, .ref a])) := by
    have hc : Steps p.tables e below (s₁.setTop (entryFrame m #[.ref a, .ref b, .int (Int32.ofNat o), .int (Int32.ofNat len), .null] 6)) (T8.setTop (mkF m 45 #[.val (.ref a), .val (.ref b), .val (.int (Int32.ofNat o)), .val (.int (Int32.ofNat len)), .val .null, .val (.ref s.heap.size)] [.int (Int32.ofNat len), .ref s.heap.size, .ref a])) := c9.trans (by
      refine XS.astore X8.here hexec rfl (hb hbytes d39) rfl rfl rfl ?_
      refine XS.aloadN X8.here hexec rfl (hb hbytes d41) rfl rfl ?_
      refine XS.aload X8.here hexec rfl (hb hbytes d42) rfl rfl ?_
      refine XS.iloadN X8.here hexec rfl (hb hbytes d44) rfl ?_
      exact Steps.refl _)
    rw [n4]; exact hc
  obtain ⟨v11, T11, X11, E11, g11⟩ := X8.callS hexec (CodL.law l s.heap.size N) hown (wks W (staticW "java/lang/String" 47 CodL.yN)) (wk W CodL.tab) (W := 1) (Nat.le_of_ble_eq_true rfl) (Nat.le_of_ble_eq_true rfl) (Nat.le_refl _) (by show 0 + len + 0 ≤ len; omega) (g := (mkF m 45 #[.val (.ref a), .val (.ref b), .val (.int (Int32.ofNat o)), .val (.int (Int32.ofNat len)), .val .null, .val (.ref s.heap.size)] [.int (Int32.ofNat N.slots.size), .ref s.heap.size, .ref a])) rfl (by rw [hml]; rfl) c10 (argsL := [.ref s.heap.size, .int (Int32.ofNat N.slots.size)]) (rest := [.ref a]) rfl rfl (by show 2 * 0 + (1 + 0) ≤ _; decide) (hb hbytes d45) (⟨rfl, n1⟩)
  obtain ⟨rfl, q11⟩ := E11
  have hB11 := hB1.mv (X8.warmed.alike.symm.trans X11.warmed.alike) q11
  have c12 : Steps p.tables e below (s₁.setTop (entryFrame m #[.ref a, .ref b, .int (Int32.ofNat o), .int (Int32.ofNat len), .null] 6)) (T11.setTop (mkF m 48 #[.val (.ref a), .val (.ref b), .val (.int (Int32.ofNat o)), .val (.int (Int32.ofNat len)), .val .null, .val (.ref s.heap.size)] [.int 0, .ref a])) := g11
  obtain ⟨T13, X13, p13, bl13, sl13, st13⟩ := X11.finit hexec hown (wk W (.fieldLink "java/lang/String" 15 "java/lang/String" "coder" "B")) (Or.inr ⟨_, (wk W (.laysFinal "java/lang/String" "java/lang/String" "coder" "B"))⟩) (Or.inl ⟨rfl, hnm⟩) f2 (Or.inl rfl) hB11 (t := .byte) (by decide +kernel) rfl (g := (mkF m 48 #[.val (.ref a), .val (.ref b), .val (.int (Int32.ofNat o)), .val (.int (Int32.ofNat len)), .val .null, .val (.ref s.heap.size)] [.int 0, .ref a])) rfl (rest := []) rfl (hb hbytes d48)
  have c14 : Steps p.tables e below (s₁.setTop (entryFrame m #[.ref a, .ref b, .int (Int32.ofNat o), .int (Int32.ofNat len), .null] 6)) (T13.setTop (mkF m 54 #[.val (.ref a), .val (.ref b), .val (.int (Int32.ofNat o)), .val (.int (Int32.ofNat len)), .val .null, .val (.ref s.heap.size)] [.ref s.heap.size, .ref a])) := (c12.trans (st13 _ (Steps.refl _))).trans (by
    refine XS.aloadN X13.here hexec rfl (hb hbytes d51) rfl rfl ?_
    refine XS.aload X13.here hexec rfl (hb hbytes d52) rfl rfl ?_
    exact Steps.refl _)
  obtain ⟨T15, X15, p15, bl15, sl15, st15⟩ := X13.finit hexec hown (wk W (.fieldLink "java/lang/String" 9 "java/lang/String" "value" "[B")) (Or.inr ⟨_, (wk W (.laysFinal "java/lang/String" "java/lang/String" "value" "[B"))⟩) (Or.inl ⟨rfl, hnm⟩) f1 (Or.inl rfl) bl13 (t := (.array .byte)) (by decide +kernel) rfl (g := (mkF m 54 #[.val (.ref a), .val (.ref b), .val (.int (Int32.ofNat o)), .val (.int (Int32.ofNat len)), .val .null, .val (.ref s.heap.size)] [.ref s.heap.size, .ref a])) rfl (rest := []) rfl (hb hbytes d54)
  have c16 : Steps p.tables e below (s₁.setTop (entryFrame m #[.ref a, .ref b, .int (Int32.ofNat o), .int (Int32.ofNat len), .null] 6)) (T15.setTop (mkF m 57 #[.val (.ref a), .val (.ref b), .val (.int (Int32.ofNat o)), .val (.int (Int32.ofNat len)), .val .null, .val (.ref s.heap.size)] [])) := c14.trans (st15 _ (Steps.refl _))
  have ap := apart (Or.inr ⟨_, (wk W (.laysFinal "java/lang/String" "java/lang/String" "value" "[B"))⟩) (Or.inr ⟨_, (wk W (.laysFinal "java/lang/String" "java/lang/String" "coder" "B"))⟩) f1 f2 (t₁ := .array .byte) (t₂ := .byte) (by decide +kernel) (by decide +kernel) (by decide)
  have al := X8.warmed.alike.symm.trans X15.warmed.alike
  have n7 : T11.heap[s.heap.size]? = some N := by rw [q11]; exact n1.1
  exact ⟨T15, none, _, _, _, X15, by simp, rfl, by omega, (fun _ => rfl), ⟨rfl, _, N, bl15, ((Same.refl D _).set _ (by simp)).set _ (by simp), sl15, (Cell.slots_setSlot_ne _ ap).trans sl13, n1.keep al (p15.other hne (p13.other hne n7)), n2, by rw [al.findClass]; exact n3, n4, n5, fun y c h1 h2 => p15.other h1 (p13.other h1 (by rw [q11]; exact n6 y c h2)), by rw [p15.2.2, p13.2.2, q11]; exact z8⟩, fun fs hl => c16.trans (X15.returnOut hexec hret (hb hbytes d57) hl)⟩
end New4
namespace New1
def yN : MethodName := ⟨"java/lang/String", "<init>", "([C)V"⟩
abbrev yB : ByteArray := jdk_42_method_3_code
theorem d0 : decode yB 0 = .ok (.aload_n 0, 1) := by decide +kernel
theorem d1 : decode yB 1 = .ok (.aload_n 1, 1) := by decide +kernel
theorem d2 : decode yB 2 = .ok (.iconst 0, 1) := by decide +kernel
theorem d3 : decode yB 3 = .ok (.aload_n 1, 1) := by decide +kernel
theorem d4 : decode yB 4 = .ok (.arraylength, 1) := by decide +kernel
theorem d5 : decode yB 5 = .ok (.aconst_null, 1) := by decide +kernel
theorem d6 : decode yB 6 = .ok (.invokespecial 27, 3) := by decide +kernel
theorem d9 : decode yB 9 = .ok (.return_, 1) := by decide +kernel
def site : List Cond := [New4.tab] ++ initW "java/lang/String" 27 New4.yN
def tab : Cond := tabOf yN yB 2 none site
def P (a : Addr) (D : Cell) (fV fC : Field) (b : Addr) (A : Cell) (z : Int32) (args : Array Value) (s : State) : Prop := args = #[.ref a, .ref b] ∧ Blank "java/lang/String" a D s ∧ Found "java/lang/String" "value" "[B" fV s ∧ Found "java/lang/String" "coder" "B" fC s ∧ Ch b A s ∧ StaticIs s "java/lang/String" "COMPACT_STRINGS" "Z" (.int z) ∧ ¬ z = 0 ∧ 0 < A.slots.size ∧ A.slots.size ≤ 536870912 ∧ ∀ i, i < A.slots.size → ¬ 255 < cv A i
def E (a : Addr) (D : Cell) (fV fC : Field) (A : Cell) (r : Option Value) (s u : State) : Prop := Got a D fV fC A 0 A.slots.size r s u
/-- new String(chars), not empty, no char above 255: a Latin-1 String of their low bytes -/
theorem law (l : Launch) (a : Addr) (D : Cell) (fV fC : Field) (b : Addr) (A : Cell) (z : Int32) : Law l yN 2 1 3 52 yB 2 none site (P a D fV fC b A z) (E a D fV fC A) [⟨a, fC.slot⟩, ⟨a, fV.slot⟩] 1 A.slots.size := by
  refine Law.of_walk (plainFor_of_name (by decide +kernel)) (by decide +kernel) (by decide +kernel) (by decide) (fun _ _ h => by rw [h.1]; rfl) (fun _ U U' hal hh h => ⟨h.1, h.2.1.mv hal hh, h.2.2.1.al hal, h.2.2.2.1.al hal, h.2.2.2.2.1.mv hal hh, h.2.2.2.2.2.1.there hal hh, h.2.2.2.2.2.2⟩) (fun r U U' V V' h1 hal h2 h => Got.mv r U U' V V' h1 hal h2 h) ?_
  intro p e s m args below meth c s₁ X0 hexec hbytes hml hret hlk hnm hown hh0 W hP
  obtain ⟨rfl, hB, f1, f2, hA, s1, hz, l0, l2, hp⟩ := hP
  have c1 : Steps p.tables e below (s₁.setTop (entryFrame m #[.ref a, .ref b] 2)) (s₁.setTop (mkF m 0 #[.val (.ref a), .val (.ref b)] [])) := entry rfl
  have c2 : Steps p.tables e below (s₁.setTop (entryFrame m #[.ref a, .ref b] 2)) (s₁.setTop (mkF m 6 #[.val (.ref a), .val (.ref b)] [.null, .int (Int32.ofNat A.slots.size), .int 0, .ref b, .ref a])) := c1.trans (by
    refine XS.aloadN X0.here hexec rfl (hb hbytes d0) rfl rfl ?_
    refine XS.aloadN X0.here hexec rfl (hb hbytes d1) rfl rfl ?_
    refine iconstV X0.here hexec rfl 0 (hb hbytes d2) (by decide) ?_
    refine XS.aloadN X0.here hexec rfl (hb hbytes d3) rfl rfl ?_
    refine X0.alen hexec (hA.1.mv X0.warmed.alike hh0) rfl rfl (hb hbytes d4) ?_
    refine XS.aconstNull X0.here hexec rfl (hb hbytes d5) ?_
    exact Steps.refl _)
  obtain ⟨v3, T3, X3, E3, g3⟩ := X0.callN hexec (New4.law l a D fV fC b A z 0 A.slots.size) rfl hown (wks W (initW "java/lang/String" 27 New4.yN)) (W New4.tab (by simp only [site, List.mem_cons, List.mem_append, true_or, or_true])) (W := 0) (Nat.le_of_ble_eq_true rfl) (Nat.le_of_ble_eq_true rfl) (Nat.le_refl _) (by show 0 + A.slots.size ≤ A.slots.size; omega) (g := (mkF m 6 #[.val (.ref a), .val (.ref b)] [.null, .int (Int32.ofNat A.slots.size), .int (Int32.ofNat 0), .ref b, .ref a])) rfl (by rw [hml]; rfl) c2 (argsL := [.ref b, .int (Int32.ofNat 0), .int (Int32.ofNat A.slots.size), .null]) (rest := []) rfl rfl (by show 2 * 0 + 0 ≤ _; decide) (hb hbytes d6) (⟨rfl, hB.mv X0.warmed.alike hh0, f1.al X0.warmed.alike, f2.al X0.warmed.alike, hA.mv X0.warmed.alike hh0, s1.there X0.warmed.alike hh0, hz, l0, by omega, l2, fun i hi => by rw [Nat.zero_add]; exact hp i hi⟩)
  have e0 := Got.mv _ s₁ s _ _ hh0.symm (Vm.Alike.refl _) rfl E3
  obtain rfl := e0.1
  have c4 : Steps p.tables e below (s₁.setTop (entryFrame m #[.ref a, .ref b] 2)) (T3.setTop (mkF m 9 #[.val (.ref a), .val (.ref b)] [])) := g3
  exact ⟨T3, none, _, _, _, X3, by simp, rfl, by omega, (fun _ => rfl), e0, fun fs hl => c4.trans (X3.returnOut hexec hret (hb hbytes d9) hl)⟩
theorem pays {l : Launch} {R : Room} {p : Program} {e : Env} {below : List Frame} {s : State} {sargs : Array Value} {len W : Nat} (a : Addr) (D : Cell) (fV fC : Field) (b : Addr) (A : Cell) (z : Int32) (htab : tab.before sargs s = true) (hfr : 4 ≤ R.frames) (hlo : W + 65 ≤ R.locals) :
    Back l R p e below s sargs yN len W (fun A₁ a₁ => A₁.cells + 1 ≤ R.cells ∧ A₁.slots + A.slots.size ≤ R.slots ∧ P a D fV fC b A z a₁ A₁.U) (fun A₁ _ v₁ B₁ => E a D fV fC A v₁ A₁.U B₁.U ∧ B₁.locs = A₁.locs ++ [⟨a, fC.slot⟩, ⟨a, fV.slot⟩] ∧ B₁.cells = A₁.cells + 1 ∧ B₁.slots = A₁.slots + A.slots.size) :=
  (law l a D fV fC b A z).pays htab hfr (by omega)
end New1
end StrChars
namespace StrChars.Road
open Jvm Sem ClassFile Op Lib Jvm.Stand Jvm.Free Jvm.Free.XT
open Jvm.Lib.Cold (StaticIs)
abbrev ST : String := "java/lang/String"
/-- every table word that New1's law asks, flat -/
abbrev words : List Jvm.Cond := [.code New1.yN New1.yB 2 none, .initialized ST, .methodLink ST 27 New4.yN, .instanceMethod New4.yN,
  .code New4.yN New4.yB 6 none, .fieldLink ST 38 ST "COMPACT_STRINGS" "Z", .laysFinal ST ST "value" "[B", .fieldLink ST 9 ST "value" "[B", .laysFinal ST ST "coder" "B", .fieldLink ST 15 ST "coder" "B",
  .methodLink ST 1 Lib.objectInit, .instanceMethod Lib.objectInit, .code Lib.objectInit ⟨#[0xb1]⟩ 1 none, .methodLink ST 177 Cmp3.yN, .static Cmp3.yN, .methodLink ST 47 CodL.yN, .static CodL.yN,
  .code Cmp3.yN Cmp3.yB 6 (some (.array .byte)), .initialized U16, .arrayClass .byte, .methodLink U16 115 Cmp5.yN, .static Cmp5.yN, .code Cmp5.yN Cmp5.yB 7 (some .int), .code CodL.yN CodL.yB 2 (some .byte)]
theorem tab_of {a : Array Value} {s : State} (h : ∀ w ∈ words, w.before a s = true) : New1.tab.before a s = true := by
  have h5 : Cmp5.tab.before a s = true := unparts (wk h (.code Cmp5.yN Cmp5.yB 7 (some .int))) (wks h (.initialized Cmp5.yN.cls :: Cmp5.site))
  have hc : CodL.tab.before a s = true := unparts (wk h (.code CodL.yN CodL.yB 2 (some .byte))) (wks h (.initialized CodL.yN.cls :: CodL.site))
  have q5 : ∀ w ∈ Cmp5.tab :: words, w.before a s = true := fun w hw => (List.mem_cons.mp hw).elim (fun e => e ▸ h5) (h w)
  have h3 : Cmp3.tab.before a s = true := unparts (wk q5 (.code Cmp3.yN Cmp3.yB 6 (some (.array .byte)))) (wks q5 (.initialized Cmp3.yN.cls :: Cmp3.site))
  have q3 : ∀ w ∈ Cmp3.tab :: CodL.tab :: words, w.before a s = true := fun w hw => (List.mem_cons.mp hw).elim (fun e => e ▸ h3) fun hw => (List.mem_cons.mp hw).elim (fun e => e ▸ hc) (h w)
  have h4 : New4.tab.before a s = true := unparts (wk q3 (.code New4.yN New4.yB 6 none)) (wks q3 (.initialized New4.yN.cls :: New4.site))
  have q4 : ∀ w ∈ New4.tab :: words, w.before a s = true := fun w hw => (List.mem_cons.mp hw).elim (fun e => e ▸ h4) (h w)
  exact unparts (wk q4 (.code New1.yN New1.yB 2 none)) (wks q4 (.initialized New1.yN.cls :: New1.site))
/-- the words ride from the start Z to the walk's own state -/
theorem moved {Z s : State} {a0 args : Array Value} (hZ : Z.Warmed39 s.vm) (hw : ∀ d ∈ words, d.before a0 Z = true) : ∀ d ∈ words, d.before args s = true := fun d hd => by
  have q := hw d hd
  have t : ∀ d ∈ words, d = .arrayClass .byte ∨ (d.onTables && d.keepsFace) = true := by decide +kernel
  rcases t d hd with rfl | t
  · exact RoadKit.mvA hZ q
  · exact RoadKit.mv hZ q t
/-- WHAT COMES BACK, over the tables of the start Z: h the heap at the call, h' behind it -/
def Q (Z : State) (x : Addr) (A : Cell) (h : Heap) (v : Option Value) (h' : Heap) (L : List Loc) : Prop := v = none ∧ (∀ y ∈ L, y.base = x) ∧ RoadKit.Keep h h' [x] ∧ h'.size = h.size + 1 ∧ RoadKit.Exa Z h' x ST ∧ RoadKit.Fld Z h' x ST "value" "[B" (.ref h.size) ∧ RoadKit.Fld Z h' x ST "coder" "B" (.int 0) ∧
  (∃ V : Cell, RoadKit.Arr Z h' h.size V .byte ∧ V.vm = .none ∧ Z.vm.findClass "[B" = some V.cls ∧ V.slots.size = A.slots.size ∧ ∀ j, j < A.slots.size → V.slots[j]? = some (.int (lo8 (cv A j)))) ∧
  ∀ (O n d : String) (w : Value), RoadKit.Fld Z h x O n d w → RoadKit.slotOf Z O n d ≠ RoadKit.slotOf Z ST "value" "[B" → RoadKit.slotOf Z O n d ≠ RoadKit.slotOf Z ST "coder" "B" → RoadKit.Fld Z h' x O n d w
/-- **new String(chars) AT A CALL, IN THE ROAD'S FORM**: for specialBack behind newO: x the fresh String, b the char[] with the cell A -/
theorem back {p : Program} {l : Launch} {e : Env} {R : Room} {s : State} {args : Array Value} {below : List Frame} {len W : Nat} {Z : State} {a0 : Array Value} {h : Heap} (hZ : Z.Warmed39 s.vm) (hw : ∀ d ∈ words, d.before a0 Z = true) {kI : Nat} (wi : (Jvm.Cond.instantiable ST kI).before a0 Z = true)
    {x b : Addr} {A : Cell} {z : Int32} {v0 c0 : Value} (E : RoadKit.Exa Z h x ST) (V : RoadKit.Fld Z h x ST "value" "[B" v0) (C : RoadKit.Fld Z h x ST "coder" "B" c0) (K : RoadKit.Arr Z h b A .char) (hty : Typed .char A) (S : RoadKit.Sta Z h ST "COMPACT_STRINGS" "Z" (.int z)) (hz : ¬ z = 0)
    (l0 : 0 < A.slots.size) (l2 : A.slots.size ≤ 536870912) (hp : ∀ i, i < A.slots.size → ¬ 255 < cv A i) (hfr : 4 ≤ R.frames) (hlo : W + 65 ≤ R.locals) :
    Back l R p e below s args New1.yN len W (fun P a => a = #[.ref x, .ref b] ∧ P.U.heap = h ∧ P.cells + 1 ≤ R.cells ∧ P.slots + A.slots.size ≤ R.slots)
      (fun P _ v B => ∃ L, Q Z x A h v B.U.heap L ∧ B.locs = P.locs ++ L ∧ B.cells = P.cells + 1 ∧ B.slots = P.slots + A.slots.size) := by
  intro m meth c P g ig mk a X hg hsize hdg hW hn hp'
  obtain ⟨rfl, rfl, r1, r2⟩ := hp'
  have al : Z.vm.Alike P.U.vm := hZ.alike.trans X.warmed.alike
  obtain ⟨D, cfV, kV, iV, fV, hD, gV, stV, knV, obV, asV, slV⟩ := id V
  obtain ⟨D', cfC, kC, iC, fC, hD', gC, stC, -, -, asC, slC⟩ := id C
  cases hD.symm.trans hD'
  obtain ⟨D2, kD, e1, e2, e3, e4, e5⟩ := id E
  cases hD.symm.trans e1
  obtain ⟨c2, k2, i1, i2, i3, -⟩ := Cond.instantiable_spec wi
  cases e2.symm.trans i1
  cases e3.symm.trans i2
  obtain ⟨kU, u1, u2⟩ := al.2.2 _ _ e3
  have hB : Blank ST x D P.U := ⟨hD, ⟨knV, fun q hq => by rw [hq] at obV; cases obV⟩, by rw [al.findClass]; exact e2, kU, u1, by rw [u2]; exact i3, by rw [u2]; exact e5 i3⟩
  have F1 : Found ST "value" "[B" fV P.U := ⟨SBG.found_only al ⟨cfV, kV, iV, gV⟩, stV⟩
  have F2 : Found ST "coder" "B" fC P.U := ⟨SBG.found_only al ⟨cfC, kC, iC, gC⟩, stC⟩
  have hA : Ch b A P.U := ⟨⟨K.1, State.isArrayOf_alike al K.2.1, K.2.2, by omega⟩, hty⟩
  have hS : StaticIs P.U ST "COMPACT_STRINGS" "Z" (.int z) := by
    obtain ⟨cfS, iS, kS, fS, st, cS, t1, t2, t3, t4, t5, t6, t7⟩ := S
    exact StaticIs.there (s := { Z with heap := P.U.heap }) ⟨cfS, iS, kS, fS, st, cS, t1, t2, t3, t4, t5, (fun q => by rw [q] at t6; cases t6), t7⟩ al rfl
  obtain ⟨v, B, X', ⟨⟨hv, E', V', q1, q2, q3, q4, q5, q6, q7, q8, q9, q10, q11⟩, hl, hc, hs⟩, st⟩ := New1.pays x D fV fC b A z (tab_of (moved hZ hw)) hfr hlo m meth c P g ig mk _ X hg hsize hdg hW hn ⟨r1, r2, rfl, hB, F1, F2, hA, hS, hz, l0, l2, hp⟩
  have al' : Z.vm.Alike B.U.vm := hZ.alike.trans X'.warmed.alike
  have hsz : E'.slots.size = D.slots.size := by
    obtain ⟨-, -, -, kB, w1, w2, w3⟩ := q1
    obtain ⟨kB', y1, y2⟩ := al'.2.2 _ _ e3
    rw [q2.2.1] at w1
    cases w1.symm.trans y1
    rw [w3, e5 i3, y2]
  refine ⟨v, B, X', ⟨_, ⟨hv, ?_, ⟨by omega, fun y cy hy hn' => q10 y cy (by simpa using hn') hy, fun y cy hy => ?_⟩, q11, ⟨E', _, q1.1, by rw [q2.2.1]; exact e2, by rw [q2.2.1]; exact e3, by rw [q2.1]; exact obV, fun _ => by rw [hsz]; exact e5 i3⟩,
    ⟨E', cfV, kV, iV, fV, q1.1, gV, stV, by rw [q2.1]; exact knV, by rw [q2.1]; exact obV, by rw [q2.2.1]; exact asV, q3⟩, ⟨E', cfC, kC, iC, fC, q1.1, gC, stC, by rw [q2.1]; exact knV, by rw [q2.1]; exact obV, by rw [q2.2.1]; exact asC, q4⟩,
    ⟨V', ⟨q5.1, State.isArrayOf_alike al'.symm q5.2.1, q5.2.2.1⟩, q6, by rw [← al'.findClass]; exact q7, q8, fun j hj => by have := q9 j hj; rwa [Nat.zero_add] at this⟩, fun O n d w F n1 n2 => ?_⟩, hl, hc, hs⟩, st⟩
  · intro y hy
    simp only [List.mem_cons, List.not_mem_nil, or_false] at hy
    rcases hy with rfl | rfl <;> rfl
  · by_cases q : y = x
    · subst q
      cases hD.symm.trans hy
      exact ⟨E', q1.1, q2.2.1, q2.1, hsz⟩
    · exact ⟨cy, q10 y cy q hy, rfl, rfl, rfl⟩
  · obtain ⟨D3, cf, k, i, f, g1, g2, g3, g4, g5, g6, g7⟩ := F
    cases hD.symm.trans g1
    simp only [RoadKit.slotOf, g2, gV, gC, Option.map_some, Option.getD_some] at n1 n2
    exact ⟨E', cf, k, i, f, q1.1, g2, g3, by rw [q2.1]; exact g4, by rw [q2.1]; exact g5, by rw [q2.2.1]; exact g6, by rw [q2.2.2 f.slot (by simp [n1, n2])]; exact g7⟩
end StrChars.Road
namespace StrChars.Road
open Jvm Sem ClassFile Op Lib Jvm.Stand Jvm.Free Jvm.Free.XT
/-- WHAT COMES BACK, the byte[] as a list of values -/
def QA (Z : State) (x : Addr) (zn : Int32) (cs : List Int32) (h : Heap) (v : Option Value) (h' : Heap) (L : List Loc) : Prop := v = none ∧ (∀ y ∈ L, y.base = x) ∧ RoadKit.Keep h h' [x] ∧ h'.size = h.size + 1 ∧ RoadKit.Exa Z h' x ST ∧ RoadKit.Fld Z h' x ST "value" "[B" (.ref h.size) ∧ RoadKit.Fld Z h' x ST "coder" "B" (.int 0) ∧
  (∃ kb, Z.vm.findClass "[B" = some kb ∧ RoadKit.Arv Z h' h.size kb .byte zn (cs.map fun c => .int (lo8 c)) (.int 0)) ∧
  ∀ (O n d : String) (w : Value), RoadKit.Fld Z h x O n d w → RoadKit.slotOf Z O n d ≠ RoadKit.slotOf Z ST "value" "[B" → RoadKit.slotOf Z O n d ≠ RoadKit.slotOf Z ST "coder" "B" → RoadKit.Fld Z h' x O n d w
/-- **new String(chars) AT A CALL, THE ARRAYS AS LISTS**: the char[] at b holds cs, not empty, no char above 255 -/
theorem backArv {p : Program} {l : Launch} {e : Env} {R : Room} {s : State} {args : Array Value} {below : List Frame} {len W : Nat} {Z : State} {a0 : Array Value} {h : Heap} (hZ : Z.Warmed39 s.vm) (hw : ∀ d ∈ words, d.before a0 Z = true) {kI : Nat} (wi : (Jvm.Cond.instantiable ST kI).before a0 Z = true)
    {x b : Addr} {k : ClassId} {zn z : Int32} {cs : List Int32} {dv v0 c0 : Value} (E : RoadKit.Exa Z h x ST) (V : RoadKit.Fld Z h x ST "value" "[B" v0) (C : RoadKit.Fld Z h x ST "coder" "B" c0) (K : RoadKit.Arv Z h b k .char zn (cs.map Value.int) dv) (S : RoadKit.Sta Z h ST "COMPACT_STRINGS" "Z" (.int z)) (hz : ¬ z = 0)
    (hlen : zn.toNatClampNeg = cs.length) (h0 : 0 < cs.length) (hbig : cs.length ≤ 536870912) (hall : ∀ c ∈ cs, ¬ 255 < c) (hfr : 4 ≤ R.frames) (hlo : W + 65 ≤ R.locals) :
    Back l R p e below s args New1.yN len W (fun P a => a = #[.ref x, .ref b] ∧ P.U.heap = h ∧ P.cells + 1 ≤ R.cells ∧ P.slots + cs.length ≤ R.slots)
      (fun P _ v B => ∃ L, QA Z x zn cs h v B.U.heap L ∧ B.locs = P.locs ++ L ∧ B.cells = P.cells + 1 ∧ B.slots = P.slots + cs.length) := by
  obtain ⟨A, K1, K2, K3, K4, K5, K6⟩ := K
  have e : A.slots.size = cs.length := K3.trans hlen
  have hat : ∀ (i : Nat) (hi : i < cs.length), A.slots[i]? = some (.int cs[i]) := fun i hi => by rw [K5 i (by omega)]; simp [List.getD_eq_getElem?_getD, hi]
  have hcv : ∀ (i : Nat) (hi : i < cs.length), cv A i = cs[i] := fun i hi => by unfold cv; rw [hat i hi]
  have hty : Typed .char A := fun i v hv => by
    have hi : i < A.slots.size := (Array.getElem?_eq_some_iff.mp hv).1
    have q := K5 i hi
    rw [hv] at q
    rw [Option.some.inj q]
    exact K6 i hi
  refine Back.mono (back hZ hw wi E V C K1 hty S hz (by omega) (by omega) (fun i hi => by rw [hcv i (by omega)]; exact hall _ (List.getElem_mem _)) hfr hlo) (fun P a hp => ⟨hp.1, hp.2.1, hp.2.2.1, by rw [e]; exact hp.2.2.2⟩) (fun P a v B hp hq => ?_)
  obtain ⟨L, ⟨q1, q2, q3, q4, q5, q6, q7, ⟨V', v1, v2, v3, v4, v5⟩, q9⟩, hl, hc, hs⟩ := hq
  refine ⟨L, ⟨q1, q2, q3, q4, q5, q6, q7, ⟨V'.cls, v3, V', v1, rfl, by rw [v4, e, hlen], K4, fun i hi => ?_, fun i hi => ?_⟩, q9⟩, hl, hc, by rw [hs, e]⟩
  · have hi' : i < cs.length := by omega
    rw [v5 i (by omega), hcv i hi']; simp [List.getD_eq_getElem?_getD, hi']
  · have hi' : i < cs.length := by omega
    simp only [List.getD_eq_getElem?_getD, List.getElem?_map, List.getElem?_eq_getElem hi', Option.map_some, Option.getD_some]
    exact fits_lo8 _
end StrChars.Road
namespace StrChars.Road
open Jvm Sem ClassFile Op Lib Jvm.Stand Jvm.Free Jvm.Free.XT
/-- WHAT COMES BACK, in the writer's own shape -/
def QV (Z : State) (x : Addr) (N : Int32) (bs : List Int32) (h : Heap) (n0 : Nat) (v : Option Value) (h' : Heap) (L : List Loc) : Prop := v = none ∧ RoadKit.Fr n0 L ∧ RoadKit.Keep h h' [x] ∧ RoadKit.Exa Z h' x ST ∧ RoadKit.Fld Z h' x ST "coder" "B" (.int 0) ∧
  ∃ (t : Addr) (kb : ClassId), n0 ≤ t ∧ h.size ≤ t ∧ ¬ t = x ∧ RoadKit.Fld Z h' x ST "value" "[B" (.ref t) ∧ RoadKit.Arv Z h' t kb .byte N (bs.map Value.int) (.int 0)
/-- **new String(chars) AT A CALL, FOR THE WRITER**: a char[] of n known ints, each 0 to 255 -/
theorem backV {p : Program} {l : Launch} {e : Env} {R : Room} {s : State} {args : Array Value} {below : List Frame} {len W : Nat} {Z : State} {a0 : Array Value} {h : Heap} (hZ : Z.Warmed39 s.vm) (hw : ∀ d ∈ words, d.before a0 Z = true) {kI : Nat} (wi : (Jvm.Cond.instantiable ST kI).before a0 Z = true)
    {x b : Addr} {kC : ClassId} {cs bs : List Int32} {d v0 c0 : Value} {z N : Int32} {n n0 : Nat} (hx0 : n0 ≤ x) (hh0 : n0 ≤ h.size) (E : RoadKit.Exa Z h x ST) (V : RoadKit.Fld Z h x ST "value" "[B" v0) (C : RoadKit.Fld Z h x ST "coder" "B" c0) (K : RoadKit.Arv Z h b kC .char N (cs.map Value.int) d) (S : RoadKit.Sta Z h ST "COMPACT_STRINGS" "Z" (.int z)) (hz : ¬ z = 0)
    (hn : cs.length = n) (hN : N = Int32.ofNat n) (l0 : 0 < n) (l2 : n ≤ 4000) (hp : ∀ c ∈ cs, ¬ c < 0 ∧ ¬ (255 : Int32) < c) (hb : bs = cs.map (fun c => c.toInt8.toInt32)) (hfr : 4 ≤ R.frames) (hlo : W + 65 ≤ R.locals) :
    Back l R p e below s args (⟨"java/lang/String", "<init>", "([C)V"⟩ : MethodName) len W (fun P a => a = #[.ref x, .ref b] ∧ P.U.heap = h ∧ P.cells + 1 ≤ R.cells ∧ P.slots + n ≤ R.slots)
      (fun P _ v B => ∃ L, QV Z x N bs h n0 v B.U.heap L ∧ B.locs = P.locs ++ L ∧ B.cells = P.cells + 1 ∧ B.slots = P.slots + n) := by
  subst hn hN hb
  refine Back.mono (backArv hZ hw wi E V C K S hz (n32 (by omega)) l0 (by omega) (fun c hc => (hp c hc).2) hfr hlo) (fun P a hp => hp) (fun P a v B hp hq => ?_)
  obtain ⟨L, ⟨q1, q2, q3, q4, q5, q6, q7, ⟨kb, v1, v2⟩, q9⟩, hl, hc, hs⟩ := hq
  exact ⟨L, ⟨q1, fun y hy => by rw [q2 y hy]; exact hx0, q3, q5, q7, h.size, kb, hh0, Nat.le_refl _, Nat.ne_of_gt E.lt, q6, by rw [List.map_map]; exact v2⟩, hl, hc, hs⟩
end StrChars.Road
end Jvm.Pilot.@@N@@
namespace Jvm.Pilot.@@N@@
open Jvm Jvm.ClassFile Sem Op Lib Jvm.Free Jvm.Stand Jvm.LawKit Jvm.RoadKit Bundle Jvm.Pilot.@@N@@.Jvm.D
section Own
variable {p : Program} {l : Launch} {e : Env} {R : Room} {s : State} {m : MethodId} {args : Array Value} {below : List Frame} {meth : Method} {c : Code} {T : State} {locs : List Loc} {cells slots : Nat}
/-- from here the method ends as Post says -/
def Wp (p : Program) (e : Env) (below : List Frame) (Post : Outcome → State → Prop) (S : State) : Prop := ∃ s₂ o, Steps p.tables e below S s₂ ∧ s₂.status = .running ∧ Ended s₂ below o ∧ Post o s₂
theorem Wp.goal {Post : Outcome → State → Prop} {S : State} (w : Wp p e below Post S) : ∃ s₂ o, Steps p.tables e below S s₂ ∧ s₂.status = .running ∧ Ended s₂ below o ∧ Post o s₂ := w
theorem Wp.st {Post : Outcome → State → Prop} {S S' : State} (h : ∀ t, Steps p.tables e below S' t → Steps p.tables e below S t) (w : Wp p e below Post S') : Wp p e below Post S := by
  obtain ⟨t, o, h1, h2⟩ := w
  exact ⟨t, o, h t h1, h2⟩
theorem Wp.tr {Post : Outcome → State → Prop} {S S' : State} (h : Steps p.tables e below S S') (w : Wp p e below Post S') : Wp p e below Post S := by
  obtain ⟨t, o, h1, h2⟩ := w
  exact ⟨t, o, h.trans h1, h2⟩
theorem Wp.ret (X : Stand p l e R s m args below meth c T locs cells slots) (hlk : meth.locks = false) {v : Option Value} (hv : meth.sig.returnType = none → v = none) {g : JFrame}
    (hst : ∀ fs, (∀ (f : JFrame) (acts : List Action), f.method = m → f.locked = none → f.entered = [] → (doReturn e (T.setTop f) acts v).1 = T.setFrames fs) → Steps p.tables e below (T.setTop g) (T.setFrames fs))
    {Q : Option Value → Heap → List Loc → Prop} {k n : Nat} (hk : cells ≤ k) (hn : slots ≤ n) (q : Q v T.heap locs) :
    Wp p e below (fun o U' => ∃ v L, o = .returned v ∧ Q v U'.heap L ∧ FrameEnd s o U' L k n) (T.setTop g) := by
  obtain ⟨fs, hr, hrun, hended, hW, hsame⟩ := X.leave (v := v) hv
  exact ⟨_, _, hst fs hr, hrun, hended, v, locs, rfl, q, ⟨v, rfl⟩, hW, hsame.mono hk hn⟩
theorem Wp.retW {vm₁ : Vm} (X : Stand p l e R (s.setVm vm₁) m args below meth c T locs cells slots) (hlk : meth.locks = false) {k0 : Nat} (hS : s.Since vm₁ k0) (hk0 : k0 ≤ T.heap.size) {v : Option Value} (hv : meth.sig.returnType = none → v = none) {g : JFrame}
    (hst : ∀ fs, (∀ (f : JFrame) (acts : List Action), f.method = m → f.locked = none → f.entered = [] → (doReturn e (T.setTop f) acts v).1 = T.setFrames fs) → Steps p.tables e below (T.setTop g) (T.setFrames fs))
    {Q : Option Value → Heap → List Loc → Prop} {k n : Nat} (hk : cells ≤ k) (hn : slots ≤ n) (q : Q v T.heap locs) :
    Wp p e below (fun o U' => ∃ v L, o = .returned v ∧ Q v U'.heap L ∧ ReturnedEndW s o U' L k n) (T.setTop g) := by
  obtain ⟨fs, hr, hrun, hended, ⟨h1, h2, h3, h4⟩⟩ := X.leaveW hS hk0 (v := v) hv
  exact ⟨_, _, hst fs hr, hrun, hended, v, locs, rfl, q, h1, h2, h3, h4.mono hk hn⟩
theorem Wp.retH {vm₁ : Vm} (X : Stand p l e R (s.setVm vm₁) m args below meth c T locs cells slots) (hlk : meth.locks = false) {k0 : Nat} (hS : s.Since vm₁ k0) (hk0 : k0 ≤ T.heap.size) {v : Option Value} (hv : meth.sig.returnType = none → v = none) {g : JFrame}
    (hst : ∀ fs, (∀ (f : JFrame) (acts : List Action), f.method = m → f.locked = none → f.entered = [] → (doReturn e (T.setTop f) acts v).1 = T.setFrames fs) → Steps p.tables e below (T.setTop g) (T.setFrames fs))
    {Q : Option Value → Heap → List Loc → Prop} {Z : State} {EL : List (String × Nat)} {k n : Nat} (hk : cells ≤ k) (hn : slots ≤ n) (q : Q v T.heap locs) (cr : CHr Z EL s.vm s.heap T.vm T.heap) :
    Wp p e below (fun o U' => ∃ v L, o = .returned v ∧ Q v U'.heap L ∧ CHr Z EL s.vm s.heap U'.vm U'.heap ∧ ReturnedEndW s o U' L k n) (T.setTop g) := by
  obtain ⟨fs, hr, hrun, hended, ⟨h1, h2, h3, h4⟩⟩ := X.leaveW hS hk0 (v := v) hv
  exact ⟨_, _, hst fs hr, hrun, hended, v, locs, rfl, q, cr, h1, h2, h3, h4.mono hk hn⟩
theorem own_narZ {q : Int32} (h : nar .boolean q = q) : narrow .boolean (.int q) = .int q := by show Value.int (nar .boolean q) = _; rw [h]
theorem own_fitZ {q : Int32} (h : nar .boolean q = q) : fits .boolean (.int q) = true := by rw [← h]; exact fits_nar_bool q
theorem own_nn {v : Value} (h : v.isRef = true) (h' : ¬ v = .null) : ∃ a, v = .ref a := (ref_cases h).resolve_left h'
theorem own_cat1 {v : Value} (h : v.isRef = true) : v.category = 1 := by rcases ref_cases h with rfl | ⟨a, rfl⟩ <;> rfl
theorem own_iteR {c : Prop} [Decidable c] {v w : Value} (hv : v.isRef = true) (hw : w.isRef = true) : (if c then v else w).isRef = true := by by_cases h : c <;> simp [h, hv, hw]
theorem own_fits {v : Value} {C : String} (h : v.isRef = true) : fits (.object C) v = true := by rcases ref_cases h with rfl | ⟨a, rfl⟩ <;> rfl
theorem own_narrow {v : Value} {C : String} (h : v.isRef = true) : narrow (.object C) v = v := by rcases ref_cases h with rfl | ⟨a, rfl⟩ <;> rfl
end Own
theorem own_ch255 (x : Int32) : ¬ nar .char ((x &&& (255 : Int32)).toUInt32.toUInt16.toUInt32.toInt32) < 0 ∧ ¬ (255 : Int32) < nar .char ((x &&& (255 : Int32)).toUInt32.toUInt16.toUInt32.toInt32) := by
  have t : ∀ k : Fin 256, ¬ nar .char ((Int32.ofNat k.val).toUInt32.toUInt16.toUInt32.toInt32) < 0 ∧ ¬ (255 : Int32) < nar .char ((Int32.ofNat k.val).toUInt32.toUInt16.toUInt32.toInt32) := by decide +kernel
  have h : (x &&& 255).toBitVec.toNat < 256 := by
    simp only [Int32.toBitVec_and, BitVec.toNat_and]
    exact Nat.lt_succ_of_le Nat.and_le_right
  have e : (x &&& 255) = Int32.ofNat (x &&& 255).toBitVec.toNat := by
    apply Int32.toBitVec_inj.mp
    show _ = BitVec.ofNat 32 _
    rw [BitVec.ofNat_toNat]; simp
  rw [e]
  exact t ⟨_, h⟩
def own_kind (w_IDENTIFIER : Addr) (w_STRING : Addr) (w_LEFT_BRACE : Addr) (w_RIGHT_BRACE : Addr) (w_LEFT_BRACKET : Addr) (w_RIGHT_BRACKET : Addr) (w_LESS : Addr) (w_GREATER : Addr) (w_COMMA : Addr) (w_SEMICOLON : Addr) (w_COLON : Addr) (w_EQUALS : Addr) (w_AT : Addr) (w_LEFT_PAREN : Addr) (w_RIGHT_PAREN : Addr) (w_QUESTION : Addr) (w_DOUBLE_COLON : Addr) (w_END : Addr) (i : Int32) : Value := if i = (0 : Int32) then .ref w_IDENTIFIER else (if i = (1 : Int32) then .ref w_STRING else (if i = (2 : Int32) then .ref w_LEFT_BRACE else (if i = (3 : Int32) then .ref w_RIGHT_BRACE else (if i = (4 : Int32) then .ref w_LEFT_BRACKET else (if i = (5 : Int32) then .ref w_RIGHT_BRACKET else (if i = (6 : Int32) then .ref w_LESS else (if i = (7 : Int32) then .ref w_GREATER else (if i = (8 : Int32) then .ref w_COMMA else (if i = (9 : Int32) then .ref w_SEMICOLON else (if i = (10 : Int32) then .ref w_COLON else (if i = (11 : Int32) then .ref w_EQUALS else (if i = (12 : Int32) then .ref w_AT else (if i = (13 : Int32) then .ref w_LEFT_PAREN else (if i = (14 : Int32) then .ref w_RIGHT_PAREN else (if i = (15 : Int32) then .ref w_QUESTION else (if i = (16 : Int32) then .ref w_DOUBLE_COLON else (if i = (17 : Int32) then .ref w_END else (.null))))))))))))))))))
theorem own_kind_ref (w_IDENTIFIER : Addr) (w_STRING : Addr) (w_LEFT_BRACE : Addr) (w_RIGHT_BRACE : Addr) (w_LEFT_BRACKET : Addr) (w_RIGHT_BRACKET : Addr) (w_LESS : Addr) (w_GREATER : Addr) (w_COMMA : Addr) (w_SEMICOLON : Addr) (w_COLON : Addr) (w_EQUALS : Addr) (w_AT : Addr) (w_LEFT_PAREN : Addr) (w_RIGHT_PAREN : Addr) (w_QUESTION : Addr) (w_DOUBLE_COLON : Addr) (w_END : Addr) (i : Int32) : Value.isRef (own_kind w_IDENTIFIER w_STRING w_LEFT_BRACE w_RIGHT_BRACE w_LEFT_BRACKET w_RIGHT_BRACKET w_LESS w_GREATER w_COMMA w_SEMICOLON w_COLON w_EQUALS w_AT w_LEFT_PAREN w_RIGHT_PAREN w_QUESTION w_DOUBLE_COLON w_END i) = true := by
  unfold own_kind
  repeat (refine own_iteR rfl ?_)
  rfl
theorem own_at (i : Int32) {j : Int32} {a b : Value} (h : i = j) : (if i = j then a else b) = a := if_pos h
theorem own_kind_ord (Z : State) (w_IDENTIFIER : Addr) (w_STRING : Addr) (w_LEFT_BRACE : Addr) (w_RIGHT_BRACE : Addr) (w_LEFT_BRACKET : Addr) (w_RIGHT_BRACKET : Addr) (w_LESS : Addr) (w_GREATER : Addr) (w_COMMA : Addr) (w_SEMICOLON : Addr) (w_COLON : Addr) (w_EQUALS : Addr) (w_AT : Addr) (w_LEFT_PAREN : Addr) (w_RIGHT_PAREN : Addr) (w_QUESTION : Addr) (w_DOUBLE_COLON : Addr) (w_END : Addr) (i : Int32) (f0 : Fld Z Z.heap w_IDENTIFIER "java/lang/Enum" "ordinal" "I" (.int (0 : Int32))) (f1 : Fld Z Z.heap w_STRING "java/lang/Enum" "ordinal" "I" (.int (1 : Int32))) (f2 : Fld Z Z.heap w_LEFT_BRACE "java/lang/Enum" "ordinal" "I" (.int (2 : Int32))) (f3 : Fld Z Z.heap w_RIGHT_BRACE "java/lang/Enum" "ordinal" "I" (.int (3 : Int32))) (f4 : Fld Z Z.heap w_LEFT_BRACKET "java/lang/Enum" "ordinal" "I" (.int (4 : Int32))) (f5 : Fld Z Z.heap w_RIGHT_BRACKET "java/lang/Enum" "ordinal" "I" (.int (5 : Int32))) (f6 : Fld Z Z.heap w_LESS "java/lang/Enum" "ordinal" "I" (.int (6 : Int32))) (f7 : Fld Z Z.heap w_GREATER "java/lang/Enum" "ordinal" "I" (.int (7 : Int32))) (f8 : Fld Z Z.heap w_COMMA "java/lang/Enum" "ordinal" "I" (.int (8 : Int32))) (f9 : Fld Z Z.heap w_SEMICOLON "java/lang/Enum" "ordinal" "I" (.int (9 : Int32))) (f10 : Fld Z Z.heap w_COLON "java/lang/Enum" "ordinal" "I" (.int (10 : Int32))) (f11 : Fld Z Z.heap w_EQUALS "java/lang/Enum" "ordinal" "I" (.int (11 : Int32))) (f12 : Fld Z Z.heap w_AT "java/lang/Enum" "ordinal" "I" (.int (12 : Int32))) (f13 : Fld Z Z.heap w_LEFT_PAREN "java/lang/Enum" "ordinal" "I" (.int (13 : Int32))) (f14 : Fld Z Z.heap w_RIGHT_PAREN "java/lang/Enum" "ordinal" "I" (.int (14 : Int32))) (f15 : Fld Z Z.heap w_QUESTION "java/lang/Enum" "ordinal" "I" (.int (15 : Int32))) (f16 : Fld Z Z.heap w_DOUBLE_COLON "java/lang/Enum" "ordinal" "I" (.int (16 : Int32))) (f17 : Fld Z Z.heap w_END "java/lang/Enum" "ordinal" "I" (.int (17 : Int32))) (h : i = (0 : Int32) ∨ i = (1 : Int32) ∨ i = (2 : Int32) ∨ i = (3 : Int32) ∨ i = (4 : Int32) ∨ i = (5 : Int32) ∨ i = (6 : Int32) ∨ i = (7 : Int32) ∨ i = (8 : Int32) ∨ i = (9 : Int32) ∨ i = (10 : Int32) ∨ i = (11 : Int32) ∨ i = (12 : Int32) ∨ i = (13 : Int32) ∨ i = (14 : Int32) ∨ i = (15 : Int32) ∨ i = (16 : Int32) ∨ i = (17 : Int32)) : ∃ w, own_kind w_IDENTIFIER w_STRING w_LEFT_BRACE w_RIGHT_BRACE w_LEFT_BRACKET w_RIGHT_BRACKET w_LESS w_GREATER w_COMMA w_SEMICOLON w_COLON w_EQUALS w_AT w_LEFT_PAREN w_RIGHT_PAREN w_QUESTION w_DOUBLE_COLON w_END i = .ref w ∧ Fld Z Z.heap w "java/lang/Enum" "ordinal" "I" (.int i) := by
  rcases h with rfl | rfl | rfl | rfl | rfl | rfl | rfl | rfl | rfl | rfl | rfl | rfl | rfl | rfl | rfl | rfl | rfl | rfl
  · exact ⟨_, rfl, f0⟩
  · exact ⟨_, rfl, f1⟩
  · exact ⟨_, rfl, f2⟩
  · exact ⟨_, rfl, f3⟩
  · exact ⟨_, rfl, f4⟩
  · exact ⟨_, rfl, f5⟩
  · exact ⟨_, rfl, f6⟩
  · exact ⟨_, rfl, f7⟩
  · exact ⟨_, rfl, f8⟩
  · exact ⟨_, rfl, f9⟩
  · exact ⟨_, rfl, f10⟩
  · exact ⟨_, rfl, f11⟩
  · exact ⟨_, rfl, f12⟩
  · exact ⟨_, rfl, f13⟩
  · exact ⟨_, rfl, f14⟩
  · exact ⟨_, rfl, f15⟩
  · exact ⟨_, rfl, f16⟩
  · exact ⟨_, rfl, f17⟩
theorem own_fld_fun {Z : State} {h : Heap} {a : Addr} {C n d : String} {v w : Value} (F : Fld Z h a C n d v) (G : Fld Z h a C n d w) : v = w := by
  by_cases q : v = w
  · exact q
  · exact absurd rfl (Fld.ne F G q)
theorem own_same (Z : State) (w_IDENTIFIER : Addr) (w_STRING : Addr) (w_LEFT_BRACE : Addr) (w_RIGHT_BRACE : Addr) (w_LEFT_BRACKET : Addr) (w_RIGHT_BRACKET : Addr) (w_LESS : Addr) (w_GREATER : Addr) (w_COMMA : Addr) (w_SEMICOLON : Addr) (w_COLON : Addr) (w_EQUALS : Addr) (w_AT : Addr) (w_LEFT_PAREN : Addr) (w_RIGHT_PAREN : Addr) (w_QUESTION : Addr) (w_DOUBLE_COLON : Addr) (w_END : Addr) (i j : Int32) (f0 : Fld Z Z.heap w_IDENTIFIER "java/lang/Enum" "ordinal" "I" (.int (0 : Int32))) (f1 : Fld Z Z.heap w_STRING "java/lang/Enum" "ordinal" "I" (.int (1 : Int32))) (f2 : Fld Z Z.heap w_LEFT_BRACE "java/lang/Enum" "ordinal" "I" (.int (2 : Int32))) (f3 : Fld Z Z.heap w_RIGHT_BRACE "java/lang/Enum" "ordinal" "I" (.int (3 : Int32))) (f4 : Fld Z Z.heap w_LEFT_BRACKET "java/lang/Enum" "ordinal" "I" (.int (4 : Int32))) (f5 : Fld Z Z.heap w_RIGHT_BRACKET "java/lang/Enum" "ordinal" "I" (.int (5 : Int32))) (f6 : Fld Z Z.heap w_LESS "java/lang/Enum" "ordinal" "I" (.int (6 : Int32))) (f7 : Fld Z Z.heap w_GREATER "java/lang/Enum" "ordinal" "I" (.int (7 : Int32))) (f8 : Fld Z Z.heap w_COMMA "java/lang/Enum" "ordinal" "I" (.int (8 : Int32))) (f9 : Fld Z Z.heap w_SEMICOLON "java/lang/Enum" "ordinal" "I" (.int (9 : Int32))) (f10 : Fld Z Z.heap w_COLON "java/lang/Enum" "ordinal" "I" (.int (10 : Int32))) (f11 : Fld Z Z.heap w_EQUALS "java/lang/Enum" "ordinal" "I" (.int (11 : Int32))) (f12 : Fld Z Z.heap w_AT "java/lang/Enum" "ordinal" "I" (.int (12 : Int32))) (f13 : Fld Z Z.heap w_LEFT_PAREN "java/lang/Enum" "ordinal" "I" (.int (13 : Int32))) (f14 : Fld Z Z.heap w_RIGHT_PAREN "java/lang/Enum" "ordinal" "I" (.int (14 : Int32))) (f15 : Fld Z Z.heap w_QUESTION "java/lang/Enum" "ordinal" "I" (.int (15 : Int32))) (f16 : Fld Z Z.heap w_DOUBLE_COLON "java/lang/Enum" "ordinal" "I" (.int (16 : Int32))) (f17 : Fld Z Z.heap w_END "java/lang/Enum" "ordinal" "I" (.int (17 : Int32))) (h : i = (0 : Int32) ∨ i = (1 : Int32) ∨ i = (2 : Int32) ∨ i = (3 : Int32) ∨ i = (4 : Int32) ∨ i = (5 : Int32) ∨ i = (6 : Int32) ∨ i = (7 : Int32) ∨ i = (8 : Int32) ∨ i = (9 : Int32) ∨ i = (10 : Int32) ∨ i = (11 : Int32) ∨ i = (12 : Int32) ∨ i = (13 : Int32) ∨ i = (14 : Int32) ∨ i = (15 : Int32) ∨ i = (16 : Int32) ∨ i = (17 : Int32)) (g : j = (0 : Int32) ∨ j = (1 : Int32) ∨ j = (2 : Int32) ∨ j = (3 : Int32) ∨ j = (4 : Int32) ∨ j = (5 : Int32) ∨ j = (6 : Int32) ∨ j = (7 : Int32) ∨ j = (8 : Int32) ∨ j = (9 : Int32) ∨ j = (10 : Int32) ∨ j = (11 : Int32) ∨ j = (12 : Int32) ∨ j = (13 : Int32) ∨ j = (14 : Int32) ∨ j = (15 : Int32) ∨ j = (16 : Int32) ∨ j = (17 : Int32) ∨ j = (18 : Int32)) : own_kind w_IDENTIFIER w_STRING w_LEFT_BRACE w_RIGHT_BRACE w_LEFT_BRACKET w_RIGHT_BRACKET w_LESS w_GREATER w_COMMA w_SEMICOLON w_COLON w_EQUALS w_AT w_LEFT_PAREN w_RIGHT_PAREN w_QUESTION w_DOUBLE_COLON w_END i = own_kind w_IDENTIFIER w_STRING w_LEFT_BRACE w_RIGHT_BRACE w_LEFT_BRACKET w_RIGHT_BRACKET w_LESS w_GREATER w_COMMA w_SEMICOLON w_COLON w_EQUALS w_AT w_LEFT_PAREN w_RIGHT_PAREN w_QUESTION w_DOUBLE_COLON w_END j ↔ i = j := by
  constructor
  · intro e
    obtain ⟨w, e1, F⟩ := own_kind_ord Z w_IDENTIFIER w_STRING w_LEFT_BRACE w_RIGHT_BRACE w_LEFT_BRACKET w_RIGHT_BRACKET w_LESS w_GREATER w_COMMA w_SEMICOLON w_COLON w_EQUALS w_AT w_LEFT_PAREN w_RIGHT_PAREN w_QUESTION w_DOUBLE_COLON w_END i f0 f1 f2 f3 f4 f5 f6 f7 f8 f9 f10 f11 f12 f13 f14 f15 f16 f17 h
    rw [e1] at e
    have g' : j = (18 : Int32) ∨ (j = (0 : Int32) ∨ j = (1 : Int32) ∨ j = (2 : Int32) ∨ j = (3 : Int32) ∨ j = (4 : Int32) ∨ j = (5 : Int32) ∨ j = (6 : Int32) ∨ j = (7 : Int32) ∨ j = (8 : Int32) ∨ j = (9 : Int32) ∨ j = (10 : Int32) ∨ j = (11 : Int32) ∨ j = (12 : Int32) ∨ j = (13 : Int32) ∨ j = (14 : Int32) ∨ j = (15 : Int32) ∨ j = (16 : Int32) ∨ j = (17 : Int32)) := by
      rcases g with g | g | g | g | g | g | g | g | g | g | g | g | g | g | g | g | g | g | g
      · exact Or.inr (Or.inl g)
      · exact Or.inr (Or.inr (Or.inl g))
      · exact Or.inr (Or.inr (Or.inr (Or.inl g)))
      · exact Or.inr (Or.inr (Or.inr (Or.inr (Or.inl g))))
      · exact Or.inr (Or.inr (Or.inr (Or.inr (Or.inr (Or.inl g)))))
      · exact Or.inr (Or.inr (Or.inr (Or.inr (Or.inr (Or.inr (Or.inl g))))))
      · exact Or.inr (Or.inr (Or.inr (Or.inr (Or.inr (Or.inr (Or.inr (Or.inl g)))))))
      · exact Or.inr (Or.inr (Or.inr (Or.inr (Or.inr (Or.inr (Or.inr (Or.inr (Or.inl g))))))))
      · exact Or.inr (Or.inr (Or.inr (Or.inr (Or.inr (Or.inr (Or.inr (Or.inr (Or.inr (Or.inl g)))))))))
      · exact Or.inr (Or.inr (Or.inr (Or.inr (Or.inr (Or.inr (Or.inr (Or.inr (Or.inr (Or.inr (Or.inl g))))))))))
      · exact Or.inr (Or.inr (Or.inr (Or.inr (Or.inr (Or.inr (Or.inr (Or.inr (Or.inr (Or.inr (Or.inr (Or.inl g)))))))))))
      · exact Or.inr (Or.inr (Or.inr (Or.inr (Or.inr (Or.inr (Or.inr (Or.inr (Or.inr (Or.inr (Or.inr (Or.inr (Or.inl g))))))))))))
      · exact Or.inr (Or.inr (Or.inr (Or.inr (Or.inr (Or.inr (Or.inr (Or.inr (Or.inr (Or.inr (Or.inr (Or.inr (Or.inr (Or.inl g)))))))))))))
      · exact Or.inr (Or.inr (Or.inr (Or.inr (Or.inr (Or.inr (Or.inr (Or.inr (Or.inr (Or.inr (Or.inr (Or.inr (Or.inr (Or.inr (Or.inl g))))))))))))))
      · exact Or.inr (Or.inr (Or.inr (Or.inr (Or.inr (Or.inr (Or.inr (Or.inr (Or.inr (Or.inr (Or.inr (Or.inr (Or.inr (Or.inr (Or.inr (Or.inl g)))))))))))))))
      · exact Or.inr (Or.inr (Or.inr (Or.inr (Or.inr (Or.inr (Or.inr (Or.inr (Or.inr (Or.inr (Or.inr (Or.inr (Or.inr (Or.inr (Or.inr (Or.inr (Or.inl g))))))))))))))))
      · exact Or.inr (Or.inr (Or.inr (Or.inr (Or.inr (Or.inr (Or.inr (Or.inr (Or.inr (Or.inr (Or.inr (Or.inr (Or.inr (Or.inr (Or.inr (Or.inr (Or.inr (Or.inl g)))))))))))))))))
      · exact Or.inr (Or.inr (Or.inr (Or.inr (Or.inr (Or.inr (Or.inr (Or.inr (Or.inr (Or.inr (Or.inr (Or.inr (Or.inr (Or.inr (Or.inr (Or.inr (Or.inr (Or.inr (g))))))))))))))))))
      · exact Or.inl g
    rcases g' with rfl | g'
    · exact absurd e (by intro q; cases q)
    · obtain ⟨w', e2, F'⟩ := own_kind_ord Z w_IDENTIFIER w_STRING w_LEFT_BRACE w_RIGHT_BRACE w_LEFT_BRACKET w_RIGHT_BRACKET w_LESS w_GREATER w_COMMA w_SEMICOLON w_COLON w_EQUALS w_AT w_LEFT_PAREN w_RIGHT_PAREN w_QUESTION w_DOUBLE_COLON w_END j f0 f1 f2 f3 f4 f5 f6 f7 f8 f9 f10 f11 f12 f13 f14 f15 f16 f17 g'
      rw [e2] at e
      cases e
      exact Value.int.inj (own_fld_fun F F')
  · intro e; rw [e]
theorem own_rem (x : Int32) (n : Int32) (hn : 0 < n.toInt) : 0 ≤ ((x &&& (2147483647 : Int32)) % n).toInt ∧ ((x &&& (2147483647 : Int32)) % n).toInt < n.toInt := by
  have h := (c_and x 2147483647 (by decide)).1
  have g := ((c_iremV (x &&& 2147483647) n).1 h hn)
  exact ⟨g.1, g.2.1⟩
theorem own_in18 {y : Int32} (h : 0 ≤ y.toInt ∧ y.toInt < (18 : Int32).toInt) : y = (0 : Int32) ∨ y = (1 : Int32) ∨ y = (2 : Int32) ∨ y = (3 : Int32) ∨ y = (4 : Int32) ∨ y = (5 : Int32) ∨ y = (6 : Int32) ∨ y = (7 : Int32) ∨ y = (8 : Int32) ∨ y = (9 : Int32) ∨ y = (10 : Int32) ∨ y = (11 : Int32) ∨ y = (12 : Int32) ∨ y = (13 : Int32) ∨ y = (14 : Int32) ∨ y = (15 : Int32) ∨ y = (16 : Int32) ∨ y = (17 : Int32) := by
  have e : (18 : Int32).toInt = 18 := by decide
  rw [e] at h
  have q : ∀ n : Int32, y.toInt = n.toInt → y = n := fun n hn => Int32.toInt_inj.mp hn
  have c : y.toInt = 0 ∨ y.toInt = 1 ∨ y.toInt = 2 ∨ y.toInt = 3 ∨ y.toInt = 4 ∨ y.toInt = 5 ∨ y.toInt = 6 ∨ y.toInt = 7 ∨ y.toInt = 8 ∨ y.toInt = 9 ∨ y.toInt = 10 ∨ y.toInt = 11 ∨ y.toInt = 12 ∨ y.toInt = 13 ∨ y.toInt = 14 ∨ y.toInt = 15 ∨ y.toInt = 16 ∨ y.toInt = 17 := by omega
  rcases c with h | h | h | h | h | h | h | h | h | h | h | h | h | h | h | h | h | h
  · exact Or.inl (q 0 h)
  · exact Or.inr (Or.inl (q 1 h))
  · exact Or.inr (Or.inr (Or.inl (q 2 h)))
  · exact Or.inr (Or.inr (Or.inr (Or.inl (q 3 h))))
  · exact Or.inr (Or.inr (Or.inr (Or.inr (Or.inl (q 4 h)))))
  · exact Or.inr (Or.inr (Or.inr (Or.inr (Or.inr (Or.inl (q 5 h))))))
  · exact Or.inr (Or.inr (Or.inr (Or.inr (Or.inr (Or.inr (Or.inl (q 6 h)))))))
  · exact Or.inr (Or.inr (Or.inr (Or.inr (Or.inr (Or.inr (Or.inr (Or.inl (q 7 h))))))))
  · exact Or.inr (Or.inr (Or.inr (Or.inr (Or.inr (Or.inr (Or.inr (Or.inr (Or.inl (q 8 h)))))))))
  · exact Or.inr (Or.inr (Or.inr (Or.inr (Or.inr (Or.inr (Or.inr (Or.inr (Or.inr (Or.inl (q 9 h))))))))))
  · exact Or.inr (Or.inr (Or.inr (Or.inr (Or.inr (Or.inr (Or.inr (Or.inr (Or.inr (Or.inr (Or.inl (q 10 h)))))))))))
  · exact Or.inr (Or.inr (Or.inr (Or.inr (Or.inr (Or.inr (Or.inr (Or.inr (Or.inr (Or.inr (Or.inr (Or.inl (q 11 h))))))))))))
  · exact Or.inr (Or.inr (Or.inr (Or.inr (Or.inr (Or.inr (Or.inr (Or.inr (Or.inr (Or.inr (Or.inr (Or.inr (Or.inl (q 12 h)))))))))))))
  · exact Or.inr (Or.inr (Or.inr (Or.inr (Or.inr (Or.inr (Or.inr (Or.inr (Or.inr (Or.inr (Or.inr (Or.inr (Or.inr (Or.inl (q 13 h))))))))))))))
  · exact Or.inr (Or.inr (Or.inr (Or.inr (Or.inr (Or.inr (Or.inr (Or.inr (Or.inr (Or.inr (Or.inr (Or.inr (Or.inr (Or.inr (Or.inl (q 14 h)))))))))))))))
  · exact Or.inr (Or.inr (Or.inr (Or.inr (Or.inr (Or.inr (Or.inr (Or.inr (Or.inr (Or.inr (Or.inr (Or.inr (Or.inr (Or.inr (Or.inr (Or.inl (q 15 h))))))))))))))))
  · exact Or.inr (Or.inr (Or.inr (Or.inr (Or.inr (Or.inr (Or.inr (Or.inr (Or.inr (Or.inr (Or.inr (Or.inr (Or.inr (Or.inr (Or.inr (Or.inr (Or.inl (q 16 h)))))))))))))))))
  · exact Or.inr (Or.inr (Or.inr (Or.inr (Or.inr (Or.inr (Or.inr (Or.inr (Or.inr (Or.inr (Or.inr (Or.inr (Or.inr (Or.inr (Or.inr (Or.inr (Or.inr (q 17 h)))))))))))))))))
theorem own_in19 {y : Int32} (h : 0 ≤ y.toInt ∧ y.toInt < (19 : Int32).toInt) : y = (0 : Int32) ∨ y = (1 : Int32) ∨ y = (2 : Int32) ∨ y = (3 : Int32) ∨ y = (4 : Int32) ∨ y = (5 : Int32) ∨ y = (6 : Int32) ∨ y = (7 : Int32) ∨ y = (8 : Int32) ∨ y = (9 : Int32) ∨ y = (10 : Int32) ∨ y = (11 : Int32) ∨ y = (12 : Int32) ∨ y = (13 : Int32) ∨ y = (14 : Int32) ∨ y = (15 : Int32) ∨ y = (16 : Int32) ∨ y = (17 : Int32) ∨ y = (18 : Int32) := by
  have e : (19 : Int32).toInt = 19 := by decide
  rw [e] at h
  have q : ∀ n : Int32, y.toInt = n.toInt → y = n := fun n hn => Int32.toInt_inj.mp hn
  have c : y.toInt = 0 ∨ y.toInt = 1 ∨ y.toInt = 2 ∨ y.toInt = 3 ∨ y.toInt = 4 ∨ y.toInt = 5 ∨ y.toInt = 6 ∨ y.toInt = 7 ∨ y.toInt = 8 ∨ y.toInt = 9 ∨ y.toInt = 10 ∨ y.toInt = 11 ∨ y.toInt = 12 ∨ y.toInt = 13 ∨ y.toInt = 14 ∨ y.toInt = 15 ∨ y.toInt = 16 ∨ y.toInt = 17 ∨ y.toInt = 18 := by omega
  rcases c with h | h | h | h | h | h | h | h | h | h | h | h | h | h | h | h | h | h | h
  · exact Or.inl (q 0 h)
  · exact Or.inr (Or.inl (q 1 h))
  · exact Or.inr (Or.inr (Or.inl (q 2 h)))
  · exact Or.inr (Or.inr (Or.inr (Or.inl (q 3 h))))
  · exact Or.inr (Or.inr (Or.inr (Or.inr (Or.inl (q 4 h)))))
  · exact Or.inr (Or.inr (Or.inr (Or.inr (Or.inr (Or.inl (q 5 h))))))
  · exact Or.inr (Or.inr (Or.inr (Or.inr (Or.inr (Or.inr (Or.inl (q 6 h)))))))
  · exact Or.inr (Or.inr (Or.inr (Or.inr (Or.inr (Or.inr (Or.inr (Or.inl (q 7 h))))))))
  · exact Or.inr (Or.inr (Or.inr (Or.inr (Or.inr (Or.inr (Or.inr (Or.inr (Or.inl (q 8 h)))))))))
  · exact Or.inr (Or.inr (Or.inr (Or.inr (Or.inr (Or.inr (Or.inr (Or.inr (Or.inr (Or.inl (q 9 h))))))))))
  · exact Or.inr (Or.inr (Or.inr (Or.inr (Or.inr (Or.inr (Or.inr (Or.inr (Or.inr (Or.inr (Or.inl (q 10 h)))))))))))
  · exact Or.inr (Or.inr (Or.inr (Or.inr (Or.inr (Or.inr (Or.inr (Or.inr (Or.inr (Or.inr (Or.inr (Or.inl (q 11 h))))))))))))
  · exact Or.inr (Or.inr (Or.inr (Or.inr (Or.inr (Or.inr (Or.inr (Or.inr (Or.inr (Or.inr (Or.inr (Or.inr (Or.inl (q 12 h)))))))))))))
  · exact Or.inr (Or.inr (Or.inr (Or.inr (Or.inr (Or.inr (Or.inr (Or.inr (Or.inr (Or.inr (Or.inr (Or.inr (Or.inr (Or.inl (q 13 h))))))))))))))
  · exact Or.inr (Or.inr (Or.inr (Or.inr (Or.inr (Or.inr (Or.inr (Or.inr (Or.inr (Or.inr (Or.inr (Or.inr (Or.inr (Or.inr (Or.inl (q 14 h)))))))))))))))
  · exact Or.inr (Or.inr (Or.inr (Or.inr (Or.inr (Or.inr (Or.inr (Or.inr (Or.inr (Or.inr (Or.inr (Or.inr (Or.inr (Or.inr (Or.inr (Or.inl (q 15 h))))))))))))))))
  · exact Or.inr (Or.inr (Or.inr (Or.inr (Or.inr (Or.inr (Or.inr (Or.inr (Or.inr (Or.inr (Or.inr (Or.inr (Or.inr (Or.inr (Or.inr (Or.inr (Or.inl (q 16 h)))))))))))))))))
  · exact Or.inr (Or.inr (Or.inr (Or.inr (Or.inr (Or.inr (Or.inr (Or.inr (Or.inr (Or.inr (Or.inr (Or.inr (Or.inr (Or.inr (Or.inr (Or.inr (Or.inr (Or.inl (q 17 h))))))))))))))))))
  · exact Or.inr (Or.inr (Or.inr (Or.inr (Or.inr (Or.inr (Or.inr (Or.inr (Or.inr (Or.inr (Or.inr (Or.inr (Or.inr (Or.inr (Or.inr (Or.inr (Or.inr (Or.inr (q 18 h))))))))))))))))))
theorem pn_1 : plainName "com/example/trusswork/trusswork/schema/TokenIsPinLaw" = true := by first | (simp [plainName, overriddenIn]; done) | decide +kernel
theorem d1_0 : decode method_2_code 0 = .ok (.iload_n 0, 1) := by decide +kernel
theorem d1_1 : decode method_2_code 1 = .ok (.ifCond .ne 7, 3) := by decide +kernel
theorem d1_4 : decode method_2_code 4 = .ok (.getstatic 7, 3) := by decide +kernel
theorem d1_7 : decode method_2_code 7 = .ok (.areturn, 1) := by decide +kernel
theorem d1_8 : decode method_2_code 8 = .ok (.iload_n 0, 1) := by decide +kernel
theorem d1_9 : decode method_2_code 9 = .ok (.iconst 1, 1) := by decide +kernel
theorem d1_10 : decode method_2_code 10 = .ok (.if_icmp .ne 7, 3) := by decide +kernel
theorem d1_13 : decode method_2_code 13 = .ok (.getstatic 13, 3) := by decide +kernel
theorem d1_16 : decode method_2_code 16 = .ok (.areturn, 1) := by decide +kernel
theorem d1_17 : decode method_2_code 17 = .ok (.iload_n 0, 1) := by decide +kernel
theorem d1_18 : decode method_2_code 18 = .ok (.iconst 2, 1) := by decide +kernel
theorem d1_19 : decode method_2_code 19 = .ok (.if_icmp .ne 7, 3) := by decide +kernel
theorem d1_22 : decode method_2_code 22 = .ok (.getstatic 16, 3) := by decide +kernel
theorem d1_25 : decode method_2_code 25 = .ok (.areturn, 1) := by decide +kernel
theorem d1_26 : decode method_2_code 26 = .ok (.iload_n 0, 1) := by decide +kernel
theorem d1_27 : decode method_2_code 27 = .ok (.iconst 3, 1) := by decide +kernel
theorem d1_28 : decode method_2_code 28 = .ok (.if_icmp .ne 7, 3) := by decide +kernel
theorem d1_31 : decode method_2_code 31 = .ok (.getstatic 19, 3) := by decide +kernel
theorem d1_34 : decode method_2_code 34 = .ok (.areturn, 1) := by decide +kernel
theorem d1_35 : decode method_2_code 35 = .ok (.iload_n 0, 1) := by decide +kernel
theorem d1_36 : decode method_2_code 36 = .ok (.iconst 4, 1) := by decide +kernel
theorem d1_37 : decode method_2_code 37 = .ok (.if_icmp .ne 7, 3) := by decide +kernel
theorem d1_40 : decode method_2_code 40 = .ok (.getstatic 22, 3) := by decide +kernel
theorem d1_43 : decode method_2_code 43 = .ok (.areturn, 1) := by decide +kernel
theorem d1_44 : decode method_2_code 44 = .ok (.iload_n 0, 1) := by decide +kernel
theorem d1_45 : decode method_2_code 45 = .ok (.iconst 5, 1) := by decide +kernel
theorem d1_46 : decode method_2_code 46 = .ok (.if_icmp .ne 7, 3) := by decide +kernel
theorem d1_49 : decode method_2_code 49 = .ok (.getstatic 25, 3) := by decide +kernel
theorem d1_52 : decode method_2_code 52 = .ok (.areturn, 1) := by decide +kernel
theorem d1_53 : decode method_2_code 53 = .ok (.iload_n 0, 1) := by decide +kernel
theorem d1_54 : decode method_2_code 54 = .ok (.bipush 6, 2) := by decide +kernel
theorem d1_56 : decode method_2_code 56 = .ok (.if_icmp .ne 7, 3) := by decide +kernel
theorem d1_59 : decode method_2_code 59 = .ok (.getstatic 28, 3) := by decide +kernel
theorem d1_62 : decode method_2_code 62 = .ok (.areturn, 1) := by decide +kernel
theorem d1_63 : decode method_2_code 63 = .ok (.iload_n 0, 1) := by decide +kernel
theorem d1_64 : decode method_2_code 64 = .ok (.bipush 7, 2) := by decide +kernel
theorem d1_66 : decode method_2_code 66 = .ok (.if_icmp .ne 7, 3) := by decide +kernel
theorem d1_69 : decode method_2_code 69 = .ok (.getstatic 31, 3) := by decide +kernel
theorem d1_72 : decode method_2_code 72 = .ok (.areturn, 1) := by decide +kernel
theorem d1_73 : decode method_2_code 73 = .ok (.iload_n 0, 1) := by decide +kernel
theorem d1_74 : decode method_2_code 74 = .ok (.bipush 8, 2) := by decide +kernel
theorem d1_76 : decode method_2_code 76 = .ok (.if_icmp .ne 7, 3) := by decide +kernel
theorem d1_79 : decode method_2_code 79 = .ok (.getstatic 34, 3) := by decide +kernel
theorem d1_82 : decode method_2_code 82 = .ok (.areturn, 1) := by decide +kernel
theorem d1_83 : decode method_2_code 83 = .ok (.iload_n 0, 1) := by decide +kernel
theorem d1_84 : decode method_2_code 84 = .ok (.bipush 9, 2) := by decide +kernel
theorem d1_86 : decode method_2_code 86 = .ok (.if_icmp .ne 7, 3) := by decide +kernel
theorem d1_89 : decode method_2_code 89 = .ok (.getstatic 37, 3) := by decide +kernel
theorem d1_92 : decode method_2_code 92 = .ok (.areturn, 1) := by decide +kernel
theorem d1_93 : decode method_2_code 93 = .ok (.iload_n 0, 1) := by decide +kernel
theorem d1_94 : decode method_2_code 94 = .ok (.bipush 10, 2) := by decide +kernel
theorem d1_96 : decode method_2_code 96 = .ok (.if_icmp .ne 7, 3) := by decide +kernel
theorem d1_99 : decode method_2_code 99 = .ok (.getstatic 40, 3) := by decide +kernel
theorem d1_102 : decode method_2_code 102 = .ok (.areturn, 1) := by decide +kernel
theorem d1_103 : decode method_2_code 103 = .ok (.iload_n 0, 1) := by decide +kernel
theorem d1_104 : decode method_2_code 104 = .ok (.bipush 11, 2) := by decide +kernel
theorem d1_106 : decode method_2_code 106 = .ok (.if_icmp .ne 7, 3) := by decide +kernel
theorem d1_109 : decode method_2_code 109 = .ok (.getstatic 43, 3) := by decide +kernel
theorem d1_112 : decode method_2_code 112 = .ok (.areturn, 1) := by decide +kernel
theorem d1_113 : decode method_2_code 113 = .ok (.iload_n 0, 1) := by decide +kernel
theorem d1_114 : decode method_2_code 114 = .ok (.bipush 12, 2) := by decide +kernel
theorem d1_116 : decode method_2_code 116 = .ok (.if_icmp .ne 7, 3) := by decide +kernel
theorem d1_119 : decode method_2_code 119 = .ok (.getstatic 46, 3) := by decide +kernel
theorem d1_122 : decode method_2_code 122 = .ok (.areturn, 1) := by decide +kernel
theorem d1_123 : decode method_2_code 123 = .ok (.iload_n 0, 1) := by decide +kernel
theorem d1_124 : decode method_2_code 124 = .ok (.bipush 13, 2) := by decide +kernel
theorem d1_126 : decode method_2_code 126 = .ok (.if_icmp .ne 7, 3) := by decide +kernel
theorem d1_129 : decode method_2_code 129 = .ok (.getstatic 49, 3) := by decide +kernel
theorem d1_132 : decode method_2_code 132 = .ok (.areturn, 1) := by decide +kernel
theorem d1_133 : decode method_2_code 133 = .ok (.iload_n 0, 1) := by decide +kernel
theorem d1_134 : decode method_2_code 134 = .ok (.bipush 14, 2) := by decide +kernel
theorem d1_136 : decode method_2_code 136 = .ok (.if_icmp .ne 7, 3) := by decide +kernel
theorem d1_139 : decode method_2_code 139 = .ok (.getstatic 52, 3) := by decide +kernel
theorem d1_142 : decode method_2_code 142 = .ok (.areturn, 1) := by decide +kernel
theorem d1_143 : decode method_2_code 143 = .ok (.iload_n 0, 1) := by decide +kernel
theorem d1_144 : decode method_2_code 144 = .ok (.bipush 15, 2) := by decide +kernel
theorem d1_146 : decode method_2_code 146 = .ok (.if_icmp .ne 7, 3) := by decide +kernel
theorem d1_149 : decode method_2_code 149 = .ok (.getstatic 55, 3) := by decide +kernel
theorem d1_152 : decode method_2_code 152 = .ok (.areturn, 1) := by decide +kernel
theorem d1_153 : decode method_2_code 153 = .ok (.iload_n 0, 1) := by decide +kernel
theorem d1_154 : decode method_2_code 154 = .ok (.bipush 16, 2) := by decide +kernel
theorem d1_156 : decode method_2_code 156 = .ok (.if_icmp .ne 7, 3) := by decide +kernel
theorem d1_159 : decode method_2_code 159 = .ok (.getstatic 58, 3) := by decide +kernel
theorem d1_162 : decode method_2_code 162 = .ok (.areturn, 1) := by decide +kernel
theorem d1_163 : decode method_2_code 163 = .ok (.iload_n 0, 1) := by decide +kernel
theorem d1_164 : decode method_2_code 164 = .ok (.bipush 17, 2) := by decide +kernel
theorem d1_166 : decode method_2_code 166 = .ok (.if_icmp .ne 7, 3) := by decide +kernel
theorem d1_169 : decode method_2_code 169 = .ok (.getstatic 61, 3) := by decide +kernel
theorem d1_172 : decode method_2_code 172 = .ok (.areturn, 1) := by decide +kernel
theorem d1_173 : decode method_2_code 173 = .ok (.aconst_null, 1) := by decide +kernel
theorem d1_174 : decode method_2_code 174 = .ok (.areturn, 1) := by decide +kernel
theorem ef_rm1 (m : MethodId) (p1 : Int32) : entryFrame m #[(.int p1)] 1 = mkF m 0 #[.val (.int p1)] [] := by first | (simp [entryFrame, mkF, argsToLocals, Value.category]; done) | rfl
def Q_rm1 (Z : State) (p1 : Int32) (w_IDENTIFIER : Addr) (w_STRING : Addr) (w_LEFT_BRACE : Addr) (w_RIGHT_BRACE : Addr) (w_LEFT_BRACKET : Addr) (w_RIGHT_BRACKET : Addr) (w_LESS : Addr) (w_GREATER : Addr) (w_COMMA : Addr) (w_SEMICOLON : Addr) (w_COLON : Addr) (w_EQUALS : Addr) (w_AT : Addr) (w_LEFT_PAREN : Addr) (w_RIGHT_PAREN : Addr) (w_QUESTION : Addr) (w_DOUBLE_COLON : Addr) (w_END : Addr) (h0 : Heap) (n0 : Nat) (v : Option Value) (h : Heap) (L : List Loc) : Prop := (v = some (own_kind w_IDENTIFIER w_STRING w_LEFT_BRACE w_RIGHT_BRACE w_LEFT_BRACKET w_RIGHT_BRACKET w_LESS w_GREATER w_COMMA w_SEMICOLON w_COLON w_EQUALS w_AT w_LEFT_PAREN w_RIGHT_PAREN w_QUESTION w_DOUBLE_COLON w_END p1)) ∧ (Fr n0 L) ∧ (h = h0)
set_option maxRecDepth 65536 in
set_option maxHeartbeats 40000000 in
theorem rm1 (l : Launch) (Z : State) (a0 : Array Value) (hw : ∀ d ∈ tables_1, d.before a0 Z = true) (ws : List Jvm.Cond) (p1 : Int32) (w_IDENTIFIER : Addr) (w_STRING : Addr) (w_LEFT_BRACE : Addr) (w_RIGHT_BRACE : Addr) (w_LEFT_BRACKET : Addr) (w_RIGHT_BRACKET : Addr) (w_LESS : Addr) (w_GREATER : Addr) (w_COMMA : Addr) (w_SEMICOLON : Addr) (w_COLON : Addr) (w_EQUALS : Addr) (w_AT : Addr) (w_LEFT_PAREN : Addr) (w_RIGHT_PAREN : Addr) (w_QUESTION : Addr) (w_DOUBLE_COLON : Addr) (w_END : Addr) (h0 : Heap) (n0 : Nat) (Z0 : n0 ≤ h0.size) (O0 : Jvm.RoadKit.Old Z n0 h0) (S_IDENTIFIER : Sta Z Z.heap "com/example/trusswork/trusswork/schema/Token$Kind" "IDENTIFIER" "Lcom/example/trusswork/trusswork/schema/Token$Kind;" (.ref w_IDENTIFIER)) (S_STRING : Sta Z Z.heap "com/example/trusswork/trusswork/schema/Token$Kind" "STRING" "Lcom/example/trusswork/trusswork/schema/Token$Kind;" (.ref w_STRING)) (S_LEFT_BRACE : Sta Z Z.heap "com/example/trusswork/trusswork/schema/Token$Kind" "LEFT_BRACE" "Lcom/example/trusswork/trusswork/schema/Token$Kind;" (.ref w_LEFT_BRACE)) (S_RIGHT_BRACE : Sta Z Z.heap "com/example/trusswork/trusswork/schema/Token$Kind" "RIGHT_BRACE" "Lcom/example/trusswork/trusswork/schema/Token$Kind;" (.ref w_RIGHT_BRACE)) (S_LEFT_BRACKET : Sta Z Z.heap "com/example/trusswork/trusswork/schema/Token$Kind" "LEFT_BRACKET" "Lcom/example/trusswork/trusswork/schema/Token$Kind;" (.ref w_LEFT_BRACKET)) (S_RIGHT_BRACKET : Sta Z Z.heap "com/example/trusswork/trusswork/schema/Token$Kind" "RIGHT_BRACKET" "Lcom/example/trusswork/trusswork/schema/Token$Kind;" (.ref w_RIGHT_BRACKET)) (S_LESS : Sta Z Z.heap "com/example/trusswork/trusswork/schema/Token$Kind" "LESS" "Lcom/example/trusswork/trusswork/schema/Token$Kind;" (.ref w_LESS)) (S_GREATER : Sta Z Z.heap "com/example/trusswork/trusswork/schema/Token$Kind" "GREATER" "Lcom/example/trusswork/trusswork/schema/Token$Kind;" (.ref w_GREATER)) (S_COMMA : Sta Z Z.heap "com/example/trusswork/trusswork/schema/Token$Kind" "COMMA" "Lcom/example/trusswork/trusswork/schema/Token$Kind;" (.ref w_COMMA)) (S_SEMICOLON : Sta Z Z.heap "com/example/trusswork/trusswork/schema/Token$Kind" "SEMICOLON" "Lcom/example/trusswork/trusswork/schema/Token$Kind;" (.ref w_SEMICOLON)) (S_COLON : Sta Z Z.heap "com/example/trusswork/trusswork/schema/Token$Kind" "COLON" "Lcom/example/trusswork/trusswork/schema/Token$Kind;" (.ref w_COLON)) (S_EQUALS : Sta Z Z.heap "com/example/trusswork/trusswork/schema/Token$Kind" "EQUALS" "Lcom/example/trusswork/trusswork/schema/Token$Kind;" (.ref w_EQUALS)) (S_AT : Sta Z Z.heap "com/example/trusswork/trusswork/schema/Token$Kind" "AT" "Lcom/example/trusswork/trusswork/schema/Token$Kind;" (.ref w_AT)) (S_LEFT_PAREN : Sta Z Z.heap "com/example/trusswork/trusswork/schema/Token$Kind" "LEFT_PAREN" "Lcom/example/trusswork/trusswork/schema/Token$Kind;" (.ref w_LEFT_PAREN)) (S_RIGHT_PAREN : Sta Z Z.heap "com/example/trusswork/trusswork/schema/Token$Kind" "RIGHT_PAREN" "Lcom/example/trusswork/trusswork/schema/Token$Kind;" (.ref w_RIGHT_PAREN)) (S_QUESTION : Sta Z Z.heap "com/example/trusswork/trusswork/schema/Token$Kind" "QUESTION" "Lcom/example/trusswork/trusswork/schema/Token$Kind;" (.ref w_QUESTION)) (S_DOUBLE_COLON : Sta Z Z.heap "com/example/trusswork/trusswork/schema/Token$Kind" "DOUBLE_COLON" "Lcom/example/trusswork/trusswork/schema/Token$Kind;" (.ref w_DOUBLE_COLON)) (S_END : Sta Z Z.heap "com/example/trusswork/trusswork/schema/Token$Kind" "END" "Lcom/example/trusswork/trusswork/schema/Token$Kind;" (.ref w_END)) :
    MetFree l (⟨"com/example/trusswork/trusswork/schema/TokenIsPinLaw", "kindOf", "(I)Lcom/example/trusswork/trusswork/schema/Token$Kind;"⟩ : MethodName) (head1 (Jvm.Cond.code (⟨"com/example/trusswork/trusswork/schema/TokenIsPinLaw", "kindOf", "(I)Lcom/example/trusswork/trusswork/schema/Token$Kind;"⟩ : MethodName) method_2_code 1 (some (.object "com/example/trusswork/trusswork/schema/Token$Kind")) :: ws) ({ frames := 0, cells := 0, slots := 0, locals := 0 } : Room)) (fun a U => a = #[(.int p1)] ∧ Z.Warmed39 U.vm ∧ U.heap = h0) (fun _ _ _ _ _ => True) (fun _ U o U' => ∃ v L, o = .returned v ∧ Q_rm1 Z p1 w_IDENTIFIER w_STRING w_LEFT_BRACE w_RIGHT_BRACE w_LEFT_BRACKET w_RIGHT_BRACKET w_LESS w_GREATER w_COMMA w_SEMICOLON w_COLON w_EQUALS w_AT w_LEFT_PAREN w_RIGHT_PAREN w_QUESTION w_DOUBLE_COLON w_END h0 n0 v U'.heap L ∧ FrameEnd U o U' L ({ frames := 0, cells := 0, slots := 0, locals := 0 } : Room).cells ({ frames := 0, cells := 0, slots := 0, locals := 0 } : Room).slots) := by
  refine MetFree.of_bodySF (plainFor_of_name pn_1) hisR ?_
  intro p e s m args below meth c s₁ Bd hml0 hP hK
  obtain ⟨rfl, hZ, hh⟩ := hP
  have hx := Bd.exec
  have hby := Bd.bytes
  have hml : c.maxLocals = 1 := hml0
  have hown : s.vm.findClass "com/example/trusswork/trusswork/schema/TokenIsPinLaw" = some m.cls := findClass_of_methodNamed Bd.named
  have hnm := (name_of_methodNamed Bd.named Bd.method).1
  have hlk := Bd.notSynchronized
  have X0 : Stand p l e ({ frames := 0, cells := 0, slots := 0, locals := 0 } : Room) s m #[(.int p1)] below meth c s₁ [] 0 0 := Stand.of_body Bd
  have e0 : s₁.heap = h0 := by rw [← hh, Bd.state]; rfl
  have N0 := Fr.nil n0
  refine Wp.goal (Post := (fun o U' => ∃ v L, o = .returned v ∧ Q_rm1 Z p1 w_IDENTIFIER w_STRING w_LEFT_BRACE w_RIGHT_BRACE w_LEFT_BRACKET w_RIGHT_BRACKET w_LESS w_GREATER w_COMMA w_SEMICOLON w_COLON w_EQUALS w_AT w_LEFT_PAREN w_RIGHT_PAREN w_QUESTION w_DOUBLE_COLON w_END h0 n0 v U'.heap L ∧ FrameEnd s o U' L ({ frames := 0, cells := 0, slots := 0, locals := 0 } : Room).cells ({ frames := 0, cells := 0, slots := 0, locals := 0 } : Room).slots)) (Wp.st (S' := s₁.setTop (mkF m 0 #[.val (.int p1)] [])) (fun tt_ kk_ => castTop (ef_rm1 m p1 ) kk_) ?_)
  refine Wp.st (S' := s₁.setTop (mkF m 1 #[.val (.int p1)] [(.int p1)])) (fun tt_ kk_ => XS.iloadN X0.here hx rfl (hb hby d1_0) rfl  kk_) ?_
  by_cases ih0 : p1 = (0 : Int32)
  case pos =>
    refine Wp.st (S' := s₁.setTop (mkF m 4 #[.val (.int p1)] [])) (fun tt_ kk_ => XS.ifNo X0.here hx rfl (hb hby d1_1) rfl ((if0 _ _).trans (teq (ih0 : p1 = (0 : Int32))).2) kk_) ?_
    obtain ⟨T1, X1, e1, st1⟩ := getS2 X0 hx hZ hown (host := "") (Or.inl (hw _ (List.mem_of_getElem? (i := 5) rfl))) Via.refl e0 (S_IDENTIFIER.ext O0.2) (g := (mkF m 4 #[.val (.int p1)] [])) rfl (hb hby d1_4)
    refine Wp.st (S' := T1.setTop (mkF m 7 #[.val (.int p1)] [(.ref w_IDENTIFIER)])) st1 ?_
    exact Wp.ret X1 hlk (v := (some (.ref w_IDENTIFIER))) (fun h => by rw [Bd.returns] at h; cases h) (fun fs hr => retOut X1 hx Bd.returns rfl (Or.inr (Or.inr (Or.inr (Or.inr ⟨rfl, rfl, rfl⟩)))) (hb hby d1_7) hr) (by decide) (by decide) (show Q_rm1 Z p1 w_IDENTIFIER w_STRING w_LEFT_BRACE w_RIGHT_BRACE w_LEFT_BRACKET w_RIGHT_BRACKET w_LESS w_GREATER w_COMMA w_SEMICOLON w_COLON w_EQUALS w_AT w_LEFT_PAREN w_RIGHT_PAREN w_QUESTION w_DOUBLE_COLON w_END h0 n0 _ T1.heap _ by rw [e1]; exact ⟨(by unfold own_kind; rw [if_pos ih0]), N0, rfl⟩)
  case neg =>
    refine Wp.st (S' := s₁.setTop (mkF m 8 #[.val (.int p1)] [])) (fun tt_ kk_ => XS.ifYes X0.here hx rfl (pc0 := 1) (pc' := 8) rfl (hb hby d1_1) rfl ((if0 _ _).trans (feq (ih0 : ¬ (p1 = (0 : Int32)))).2) (by decide) (by decide) kk_) ?_
    refine Wp.st (S' := s₁.setTop (mkF m 9 #[.val (.int p1)] [(.int p1)])) (fun tt_ kk_ => XS.iloadN X0.here hx rfl (hb hby d1_8) rfl  kk_) ?_
    refine Wp.st (S' := s₁.setTop (mkF m 10 #[.val (.int p1)] [(.int (1 : Int32)), (.int p1)])) (fun tt_ kk_ => XS.iconst X0.here hx rfl (hb hby d1_9) kk_) ?_
    by_cases ih1 : p1 = (1 : Int32)
    case pos =>
      refine Wp.st (S' := s₁.setTop (mkF m 13 #[.val (.int p1)] [])) (fun tt_ kk_ => XS.icmpNo X0.here hx rfl (hb hby d1_10) rfl (teq (ih1 : p1 = (1 : Int32))).2 kk_) ?_
      obtain ⟨T2, X2, e2, st2⟩ := getS2 X0 hx hZ hown (host := "") (Or.inl (hw _ (List.mem_of_getElem? (i := 89) rfl))) Via.refl e0 (S_STRING.ext O0.2) (g := (mkF m 13 #[.val (.int p1)] [])) rfl (hb hby d1_13)
      refine Wp.st (S' := T2.setTop (mkF m 16 #[.val (.int p1)] [(.ref w_STRING)])) st2 ?_
      exact Wp.ret X2 hlk (v := (some (.ref w_STRING))) (fun h => by rw [Bd.returns] at h; cases h) (fun fs hr => retOut X2 hx Bd.returns rfl (Or.inr (Or.inr (Or.inr (Or.inr ⟨rfl, rfl, rfl⟩)))) (hb hby d1_16) hr) (by decide) (by decide) (show Q_rm1 Z p1 w_IDENTIFIER w_STRING w_LEFT_BRACE w_RIGHT_BRACE w_LEFT_BRACKET w_RIGHT_BRACKET w_LESS w_GREATER w_COMMA w_SEMICOLON w_COLON w_EQUALS w_AT w_LEFT_PAREN w_RIGHT_PAREN w_QUESTION w_DOUBLE_COLON w_END h0 n0 _ T2.heap _ by rw [e2]; exact ⟨(by unfold own_kind; rw [if_neg ih0, if_pos ih1]), N0, rfl⟩)
    case neg =>
      refine Wp.st (S' := s₁.setTop (mkF m 17 #[.val (.int p1)] [])) (fun tt_ kk_ => XS.icmpYes X0.here hx rfl (pc0 := 10) (pc' := 17) rfl (hb hby d1_10) rfl (feq (ih1 : ¬ (p1 = (1 : Int32)))).2 (by decide) (by decide) kk_) ?_
      refine Wp.st (S' := s₁.setTop (mkF m 18 #[.val (.int p1)] [(.int p1)])) (fun tt_ kk_ => XS.iloadN X0.here hx rfl (hb hby d1_17) rfl  kk_) ?_
      refine Wp.st (S' := s₁.setTop (mkF m 19 #[.val (.int p1)] [(.int (2 : Int32)), (.int p1)])) (fun tt_ kk_ => XS.iconst X0.here hx rfl (hb hby d1_18) kk_) ?_
      by_cases ih2 : p1 = (2 : Int32)
      case pos =>
        refine Wp.st (S' := s₁.setTop (mkF m 22 #[.val (.int p1)] [])) (fun tt_ kk_ => XS.icmpNo X0.here hx rfl (hb hby d1_19) rfl (teq (ih2 : p1 = (2 : Int32))).2 kk_) ?_
        obtain ⟨T3, X3, e3, st3⟩ := getS2 X0 hx hZ hown (host := "") (Or.inl (hw _ (List.mem_of_getElem? (i := 69) rfl))) Via.refl e0 (S_LEFT_BRACE.ext O0.2) (g := (mkF m 22 #[.val (.int p1)] [])) rfl (hb hby d1_22)
        refine Wp.st (S' := T3.setTop (mkF m 25 #[.val (.int p1)] [(.ref w_LEFT_BRACE)])) st3 ?_
        exact Wp.ret X3 hlk (v := (some (.ref w_LEFT_BRACE))) (fun h => by rw [Bd.returns] at h; cases h) (fun fs hr => retOut X3 hx Bd.returns rfl (Or.inr (Or.inr (Or.inr (Or.inr ⟨rfl, rfl, rfl⟩)))) (hb hby d1_25) hr) (by decide) (by decide) (show Q_rm1 Z p1 w_IDENTIFIER w_STRING w_LEFT_BRACE w_RIGHT_BRACE w_LEFT_BRACKET w_RIGHT_BRACKET w_LESS w_GREATER w_COMMA w_SEMICOLON w_COLON w_EQUALS w_AT w_LEFT_PAREN w_RIGHT_PAREN w_QUESTION w_DOUBLE_COLON w_END h0 n0 _ T3.heap _ by rw [e3]; exact ⟨(by unfold own_kind; rw [if_neg ih0, if_neg ih1, if_pos ih2]), N0, rfl⟩)
      case neg =>
        refine Wp.st (S' := s₁.setTop (mkF m 26 #[.val (.int p1)] [])) (fun tt_ kk_ => XS.icmpYes X0.here hx rfl (pc0 := 19) (pc' := 26) rfl (hb hby d1_19) rfl (feq (ih2 : ¬ (p1 = (2 : Int32)))).2 (by decide) (by decide) kk_) ?_
        refine Wp.st (S' := s₁.setTop (mkF m 27 #[.val (.int p1)] [(.int p1)])) (fun tt_ kk_ => XS.iloadN X0.here hx rfl (hb hby d1_26) rfl  kk_) ?_
        refine Wp.st (S' := s₁.setTop (mkF m 28 #[.val (.int p1)] [(.int (3 : Int32)), (.int p1)])) (fun tt_ kk_ => XS.iconst X0.here hx rfl (hb hby d1_27) kk_) ?_
        by_cases ih3 : p1 = (3 : Int32)
        case pos =>
          refine Wp.st (S' := s₁.setTop (mkF m 31 #[.val (.int p1)] [])) (fun tt_ kk_ => XS.icmpNo X0.here hx rfl (hb hby d1_28) rfl (teq (ih3 : p1 = (3 : Int32))).2 kk_) ?_
          obtain ⟨T4, X4, e4, st4⟩ := getS2 X0 hx hZ hown (host := "") (Or.inl (hw _ (List.mem_of_getElem? (i := 8) rfl))) Via.refl e0 (S_RIGHT_BRACE.ext O0.2) (g := (mkF m 31 #[.val (.int p1)] [])) rfl (hb hby d1_31)
          refine Wp.st (S' := T4.setTop (mkF m 34 #[.val (.int p1)] [(.ref w_RIGHT_BRACE)])) st4 ?_
          exact Wp.ret X4 hlk (v := (some (.ref w_RIGHT_BRACE))) (fun h => by rw [Bd.returns] at h; cases h) (fun fs hr => retOut X4 hx Bd.returns rfl (Or.inr (Or.inr (Or.inr (Or.inr ⟨rfl, rfl, rfl⟩)))) (hb hby d1_34) hr) (by decide) (by decide) (show Q_rm1 Z p1 w_IDENTIFIER w_STRING w_LEFT_BRACE w_RIGHT_BRACE w_LEFT_BRACKET w_RIGHT_BRACKET w_LESS w_GREATER w_COMMA w_SEMICOLON w_COLON w_EQUALS w_AT w_LEFT_PAREN w_RIGHT_PAREN w_QUESTION w_DOUBLE_COLON w_END h0 n0 _ T4.heap _ by rw [e4]; exact ⟨(by unfold own_kind; rw [if_neg ih0, if_neg ih1, if_neg ih2, if_pos ih3]), N0, rfl⟩)
        case neg =>
          refine Wp.st (S' := s₁.setTop (mkF m 35 #[.val (.int p1)] [])) (fun tt_ kk_ => XS.icmpYes X0.here hx rfl (pc0 := 28) (pc' := 35) rfl (hb hby d1_28) rfl (feq (ih3 : ¬ (p1 = (3 : Int32)))).2 (by decide) (by decide) kk_) ?_
          refine Wp.st (S' := s₁.setTop (mkF m 36 #[.val (.int p1)] [(.int p1)])) (fun tt_ kk_ => XS.iloadN X0.here hx rfl (hb hby d1_35) rfl  kk_) ?_
          refine Wp.st (S' := s₁.setTop (mkF m 37 #[.val (.int p1)] [(.int (4 : Int32)), (.int p1)])) (fun tt_ kk_ => XS.iconst X0.here hx rfl (hb hby d1_36) kk_) ?_
          by_cases ih4 : p1 = (4 : Int32)
          case pos =>
            refine Wp.st (S' := s₁.setTop (mkF m 40 #[.val (.int p1)] [])) (fun tt_ kk_ => XS.icmpNo X0.here hx rfl (hb hby d1_37) rfl (teq (ih4 : p1 = (4 : Int32))).2 kk_) ?_
            obtain ⟨T5, X5, e5, st5⟩ := getS2 X0 hx hZ hown (host := "") (Or.inl (hw _ (List.mem_of_getElem? (i := 65) rfl))) Via.refl e0 (S_LEFT_BRACKET.ext O0.2) (g := (mkF m 40 #[.val (.int p1)] [])) rfl (hb hby d1_40)
            refine Wp.st (S' := T5.setTop (mkF m 43 #[.val (.int p1)] [(.ref w_LEFT_BRACKET)])) st5 ?_
            exact Wp.ret X5 hlk (v := (some (.ref w_LEFT_BRACKET))) (fun h => by rw [Bd.returns] at h; cases h) (fun fs hr => retOut X5 hx Bd.returns rfl (Or.inr (Or.inr (Or.inr (Or.inr ⟨rfl, rfl, rfl⟩)))) (hb hby d1_43) hr) (by decide) (by decide) (show Q_rm1 Z p1 w_IDENTIFIER w_STRING w_LEFT_BRACE w_RIGHT_BRACE w_LEFT_BRACKET w_RIGHT_BRACKET w_LESS w_GREATER w_COMMA w_SEMICOLON w_COLON w_EQUALS w_AT w_LEFT_PAREN w_RIGHT_PAREN w_QUESTION w_DOUBLE_COLON w_END h0 n0 _ T5.heap _ by rw [e5]; exact ⟨(by unfold own_kind; rw [if_neg ih0, if_neg ih1, if_neg ih2, if_neg ih3, if_pos ih4]), N0, rfl⟩)
          case neg =>
            refine Wp.st (S' := s₁.setTop (mkF m 44 #[.val (.int p1)] [])) (fun tt_ kk_ => XS.icmpYes X0.here hx rfl (pc0 := 37) (pc' := 44) rfl (hb hby d1_37) rfl (feq (ih4 : ¬ (p1 = (4 : Int32)))).2 (by decide) (by decide) kk_) ?_
            refine Wp.st (S' := s₁.setTop (mkF m 45 #[.val (.int p1)] [(.int p1)])) (fun tt_ kk_ => XS.iloadN X0.here hx rfl (hb hby d1_44) rfl  kk_) ?_
            refine Wp.st (S' := s₁.setTop (mkF m 46 #[.val (.int p1)] [(.int (5 : Int32)), (.int p1)])) (fun tt_ kk_ => XS.iconst X0.here hx rfl (hb hby d1_45) kk_) ?_
            by_cases ih5 : p1 = (5 : Int32)
            case pos =>
              refine Wp.st (S' := s₁.setTop (mkF m 49 #[.val (.int p1)] [])) (fun tt_ kk_ => XS.icmpNo X0.here hx rfl (hb hby d1_46) rfl (teq (ih5 : p1 = (5 : Int32))).2 kk_) ?_
              obtain ⟨T6, X6, e6, st6⟩ := getS2 X0 hx hZ hown (host := "") (Or.inl (hw _ (List.mem_of_getElem? (i := 85) rfl))) Via.refl e0 (S_RIGHT_BRACKET.ext O0.2) (g := (mkF m 49 #[.val (.int p1)] [])) rfl (hb hby d1_49)
              refine Wp.st (S' := T6.setTop (mkF m 52 #[.val (.int p1)] [(.ref w_RIGHT_BRACKET)])) st6 ?_
              exact Wp.ret X6 hlk (v := (some (.ref w_RIGHT_BRACKET))) (fun h => by rw [Bd.returns] at h; cases h) (fun fs hr => retOut X6 hx Bd.returns rfl (Or.inr (Or.inr (Or.inr (Or.inr ⟨rfl, rfl, rfl⟩)))) (hb hby d1_52) hr) (by decide) (by decide) (show Q_rm1 Z p1 w_IDENTIFIER w_STRING w_LEFT_BRACE w_RIGHT_BRACE w_LEFT_BRACKET w_RIGHT_BRACKET w_LESS w_GREATER w_COMMA w_SEMICOLON w_COLON w_EQUALS w_AT w_LEFT_PAREN w_RIGHT_PAREN w_QUESTION w_DOUBLE_COLON w_END h0 n0 _ T6.heap _ by rw [e6]; exact ⟨(by unfold own_kind; rw [if_neg ih0, if_neg ih1, if_neg ih2, if_neg ih3, if_neg ih4, if_pos ih5]), N0, rfl⟩)
            case neg =>
              refine Wp.st (S' := s₁.setTop (mkF m 53 #[.val (.int p1)] [])) (fun tt_ kk_ => XS.icmpYes X0.here hx rfl (pc0 := 46) (pc' := 53) rfl (hb hby d1_46) rfl (feq (ih5 : ¬ (p1 = (5 : Int32)))).2 (by decide) (by decide) kk_) ?_
              refine Wp.st (S' := s₁.setTop (mkF m 54 #[.val (.int p1)] [(.int p1)])) (fun tt_ kk_ => XS.iloadN X0.here hx rfl (hb hby d1_53) rfl  kk_) ?_
              refine Wp.st (S' := s₁.setTop (mkF m 56 #[.val (.int p1)] [(.int (6 : Int32)), (.int p1)])) (fun tt_ kk_ => XS.bipush X0.here hx rfl (hb hby d1_54) kk_) ?_
              by_cases ih6 : p1 = (6 : Int32)
              case pos =>
                refine Wp.st (S' := s₁.setTop (mkF m 59 #[.val (.int p1)] [])) (fun tt_ kk_ => XS.icmpNo X0.here hx rfl (hb hby d1_56) rfl (teq (ih6 : p1 = (6 : Int32))).2 kk_) ?_
                obtain ⟨T7, X7, e7, st7⟩ := getS2 X0 hx hZ hown (host := "") (Or.inl (hw _ (List.mem_of_getElem? (i := 71) rfl))) Via.refl e0 (S_LESS.ext O0.2) (g := (mkF m 59 #[.val (.int p1)] [])) rfl (hb hby d1_59)
                refine Wp.st (S' := T7.setTop (mkF m 62 #[.val (.int p1)] [(.ref w_LESS)])) st7 ?_
                exact Wp.ret X7 hlk (v := (some (.ref w_LESS))) (fun h => by rw [Bd.returns] at h; cases h) (fun fs hr => retOut X7 hx Bd.returns rfl (Or.inr (Or.inr (Or.inr (Or.inr ⟨rfl, rfl, rfl⟩)))) (hb hby d1_62) hr) (by decide) (by decide) (show Q_rm1 Z p1 w_IDENTIFIER w_STRING w_LEFT_BRACE w_RIGHT_BRACE w_LEFT_BRACKET w_RIGHT_BRACKET w_LESS w_GREATER w_COMMA w_SEMICOLON w_COLON w_EQUALS w_AT w_LEFT_PAREN w_RIGHT_PAREN w_QUESTION w_DOUBLE_COLON w_END h0 n0 _ T7.heap _ by rw [e7]; exact ⟨(by unfold own_kind; rw [if_neg ih0, if_neg ih1, if_neg ih2, if_neg ih3, if_neg ih4, if_neg ih5, if_pos ih6]), N0, rfl⟩)
              case neg =>
                refine Wp.st (S' := s₁.setTop (mkF m 63 #[.val (.int p1)] [])) (fun tt_ kk_ => XS.icmpYes X0.here hx rfl (pc0 := 56) (pc' := 63) rfl (hb hby d1_56) rfl (feq (ih6 : ¬ (p1 = (6 : Int32)))).2 (by decide) (by decide) kk_) ?_
                refine Wp.st (S' := s₁.setTop (mkF m 64 #[.val (.int p1)] [(.int p1)])) (fun tt_ kk_ => XS.iloadN X0.here hx rfl (hb hby d1_63) rfl  kk_) ?_
                refine Wp.st (S' := s₁.setTop (mkF m 66 #[.val (.int p1)] [(.int (7 : Int32)), (.int p1)])) (fun tt_ kk_ => XS.bipush X0.here hx rfl (hb hby d1_64) kk_) ?_
                by_cases ih7 : p1 = (7 : Int32)
                case pos =>
                  refine Wp.st (S' := s₁.setTop (mkF m 69 #[.val (.int p1)] [])) (fun tt_ kk_ => XS.icmpNo X0.here hx rfl (hb hby d1_66) rfl (teq (ih7 : p1 = (7 : Int32))).2 kk_) ?_
                  obtain ⟨T8, X8, e8, st8⟩ := getS2 X0 hx hZ hown (host := "") (Or.inl (hw _ (List.mem_of_getElem? (i := 91) rfl))) Via.refl e0 (S_GREATER.ext O0.2) (g := (mkF m 69 #[.val (.int p1)] [])) rfl (hb hby d1_69)
                  refine Wp.st (S' := T8.setTop (mkF m 72 #[.val (.int p1)] [(.ref w_GREATER)])) st8 ?_
                  exact Wp.ret X8 hlk (v := (some (.ref w_GREATER))) (fun h => by rw [Bd.returns] at h; cases h) (fun fs hr => retOut X8 hx Bd.returns rfl (Or.inr (Or.inr (Or.inr (Or.inr ⟨rfl, rfl, rfl⟩)))) (hb hby d1_72) hr) (by decide) (by decide) (show Q_rm1 Z p1 w_IDENTIFIER w_STRING w_LEFT_BRACE w_RIGHT_BRACE w_LEFT_BRACKET w_RIGHT_BRACKET w_LESS w_GREATER w_COMMA w_SEMICOLON w_COLON w_EQUALS w_AT w_LEFT_PAREN w_RIGHT_PAREN w_QUESTION w_DOUBLE_COLON w_END h0 n0 _ T8.heap _ by rw [e8]; exact ⟨(by unfold own_kind; rw [if_neg ih0, if_neg ih1, if_neg ih2, if_neg ih3, if_neg ih4, if_neg ih5, if_neg ih6, if_pos ih7]), N0, rfl⟩)
                case neg =>
                  refine Wp.st (S' := s₁.setTop (mkF m 73 #[.val (.int p1)] [])) (fun tt_ kk_ => XS.icmpYes X0.here hx rfl (pc0 := 66) (pc' := 73) rfl (hb hby d1_66) rfl (feq (ih7 : ¬ (p1 = (7 : Int32)))).2 (by decide) (by decide) kk_) ?_
                  refine Wp.st (S' := s₁.setTop (mkF m 74 #[.val (.int p1)] [(.int p1)])) (fun tt_ kk_ => XS.iloadN X0.here hx rfl (hb hby d1_73) rfl  kk_) ?_
                  refine Wp.st (S' := s₁.setTop (mkF m 76 #[.val (.int p1)] [(.int (8 : Int32)), (.int p1)])) (fun tt_ kk_ => XS.bipush X0.here hx rfl (hb hby d1_74) kk_) ?_
                  by_cases ih8 : p1 = (8 : Int32)
                  case pos =>
                    refine Wp.st (S' := s₁.setTop (mkF m 79 #[.val (.int p1)] [])) (fun tt_ kk_ => XS.icmpNo X0.here hx rfl (hb hby d1_76) rfl (teq (ih8 : p1 = (8 : Int32))).2 kk_) ?_
                    obtain ⟨T9, X9, e9, st9⟩ := getS2 X0 hx hZ hown (host := "") (Or.inl (hw _ (List.mem_of_getElem? (i := 77) rfl))) Via.refl e0 (S_COMMA.ext O0.2) (g := (mkF m 79 #[.val (.int p1)] [])) rfl (hb hby d1_79)
                    refine Wp.st (S' := T9.setTop (mkF m 82 #[.val (.int p1)] [(.ref w_COMMA)])) st9 ?_
                    exact Wp.ret X9 hlk (v := (some (.ref w_COMMA))) (fun h => by rw [Bd.returns] at h; cases h) (fun fs hr => retOut X9 hx Bd.returns rfl (Or.inr (Or.inr (Or.inr (Or.inr ⟨rfl, rfl, rfl⟩)))) (hb hby d1_82) hr) (by decide) (by decide) (show Q_rm1 Z p1 w_IDENTIFIER w_STRING w_LEFT_BRACE w_RIGHT_BRACE w_LEFT_BRACKET w_RIGHT_BRACKET w_LESS w_GREATER w_COMMA w_SEMICOLON w_COLON w_EQUALS w_AT w_LEFT_PAREN w_RIGHT_PAREN w_QUESTION w_DOUBLE_COLON w_END h0 n0 _ T9.heap _ by rw [e9]; exact ⟨(by unfold own_kind; rw [if_neg ih0, if_neg ih1, if_neg ih2, if_neg ih3, if_neg ih4, if_neg ih5, if_neg ih6, if_neg ih7, if_pos ih8]), N0, rfl⟩)
                  case neg =>
                    refine Wp.st (S' := s₁.setTop (mkF m 83 #[.val (.int p1)] [])) (fun tt_ kk_ => XS.icmpYes X0.here hx rfl (pc0 := 76) (pc' := 83) rfl (hb hby d1_76) rfl (feq (ih8 : ¬ (p1 = (8 : Int32)))).2 (by decide) (by decide) kk_) ?_
                    refine Wp.st (S' := s₁.setTop (mkF m 84 #[.val (.int p1)] [(.int p1)])) (fun tt_ kk_ => XS.iloadN X0.here hx rfl (hb hby d1_83) rfl  kk_) ?_
                    refine Wp.st (S' := s₁.setTop (mkF m 86 #[.val (.int p1)] [(.int (9 : Int32)), (.int p1)])) (fun tt_ kk_ => XS.bipush X0.here hx rfl (hb hby d1_84) kk_) ?_
                    by_cases ih9 : p1 = (9 : Int32)
                    case pos =>
                      refine Wp.st (S' := s₁.setTop (mkF m 89 #[.val (.int p1)] [])) (fun tt_ kk_ => XS.icmpNo X0.here hx rfl (hb hby d1_86) rfl (teq (ih9 : p1 = (9 : Int32))).2 kk_) ?_
                      obtain ⟨T10, X10, e10, st10⟩ := getS2 X0 hx hZ hown (host := "") (Or.inl (hw _ (List.mem_of_getElem? (i := 83) rfl))) Via.refl e0 (S_SEMICOLON.ext O0.2) (g := (mkF m 89 #[.val (.int p1)] [])) rfl (hb hby d1_89)
                      refine Wp.st (S' := T10.setTop (mkF m 92 #[.val (.int p1)] [(.ref w_SEMICOLON)])) st10 ?_
                      exact Wp.ret X10 hlk (v := (some (.ref w_SEMICOLON))) (fun h => by rw [Bd.returns] at h; cases h) (fun fs hr => retOut X10 hx Bd.returns rfl (Or.inr (Or.inr (Or.inr (Or.inr ⟨rfl, rfl, rfl⟩)))) (hb hby d1_92) hr) (by decide) (by decide) (show Q_rm1 Z p1 w_IDENTIFIER w_STRING w_LEFT_BRACE w_RIGHT_BRACE w_LEFT_BRACKET w_RIGHT_BRACKET w_LESS w_GREATER w_COMMA w_SEMICOLON w_COLON w_EQUALS w_AT w_LEFT_PAREN w_RIGHT_PAREN w_QUESTION w_DOUBLE_COLON w_END h0 n0 _ T10.heap _ by rw [e10]; exact ⟨(by unfold own_kind; rw [if_neg ih0, if_neg ih1, if_neg ih2, if_neg ih3, if_neg ih4, if_neg ih5, if_neg ih6, if_neg ih7, if_neg ih8, if_pos ih9]), N0, rfl⟩)
                    case neg =>
                      refine Wp.st (S' := s₁.setTop (mkF m 93 #[.val (.int p1)] [])) (fun tt_ kk_ => XS.icmpYes X0.here hx rfl (pc0 := 86) (pc' := 93) rfl (hb hby d1_86) rfl (feq (ih9 : ¬ (p1 = (9 : Int32)))).2 (by decide) (by decide) kk_) ?_
                      refine Wp.st (S' := s₁.setTop (mkF m 94 #[.val (.int p1)] [(.int p1)])) (fun tt_ kk_ => XS.iloadN X0.here hx rfl (hb hby d1_93) rfl  kk_) ?_
                      refine Wp.st (S' := s₁.setTop (mkF m 96 #[.val (.int p1)] [(.int (10 : Int32)), (.int p1)])) (fun tt_ kk_ => XS.bipush X0.here hx rfl (hb hby d1_94) kk_) ?_
                      by_cases ih10 : p1 = (10 : Int32)
                      case pos =>
                        refine Wp.st (S' := s₁.setTop (mkF m 99 #[.val (.int p1)] [])) (fun tt_ kk_ => XS.icmpNo X0.here hx rfl (hb hby d1_96) rfl (teq (ih10 : p1 = (10 : Int32))).2 kk_) ?_
                        obtain ⟨T11, X11, e11, st11⟩ := getS2 X0 hx hZ hown (host := "") (Or.inl (hw _ (List.mem_of_getElem? (i := 67) rfl))) Via.refl e0 (S_COLON.ext O0.2) (g := (mkF m 99 #[.val (.int p1)] [])) rfl (hb hby d1_99)
                        refine Wp.st (S' := T11.setTop (mkF m 102 #[.val (.int p1)] [(.ref w_COLON)])) st11 ?_
                        exact Wp.ret X11 hlk (v := (some (.ref w_COLON))) (fun h => by rw [Bd.returns] at h; cases h) (fun fs hr => retOut X11 hx Bd.returns rfl (Or.inr (Or.inr (Or.inr (Or.inr ⟨rfl, rfl, rfl⟩)))) (hb hby d1_102) hr) (by decide) (by decide) (show Q_rm1 Z p1 w_IDENTIFIER w_STRING w_LEFT_BRACE w_RIGHT_BRACE w_LEFT_BRACKET w_RIGHT_BRACKET w_LESS w_GREATER w_COMMA w_SEMICOLON w_COLON w_EQUALS w_AT w_LEFT_PAREN w_RIGHT_PAREN w_QUESTION w_DOUBLE_COLON w_END h0 n0 _ T11.heap _ by rw [e11]; exact ⟨(by unfold own_kind; rw [if_neg ih0, if_neg ih1, if_neg ih2, if_neg ih3, if_neg ih4, if_neg ih5, if_neg ih6, if_neg ih7, if_neg ih8, if_neg ih9, if_pos ih10]), N0, rfl⟩)
                      case neg =>
                        refine Wp.st (S' := s₁.setTop (mkF m 103 #[.val (.int p1)] [])) (fun tt_ kk_ => XS.icmpYes X0.here hx rfl (pc0 := 96) (pc' := 103) rfl (hb hby d1_96) rfl (feq (ih10 : ¬ (p1 = (10 : Int32)))).2 (by decide) (by decide) kk_) ?_
                        refine Wp.st (S' := s₁.setTop (mkF m 104 #[.val (.int p1)] [(.int p1)])) (fun tt_ kk_ => XS.iloadN X0.here hx rfl (hb hby d1_103) rfl  kk_) ?_
                        refine Wp.st (S' := s₁.setTop (mkF m 106 #[.val (.int p1)] [(.int (11 : Int32)), (.int p1)])) (fun tt_ kk_ => XS.bipush X0.here hx rfl (hb hby d1_104) kk_) ?_
                        by_cases ih11 : p1 = (11 : Int32)
                        case pos =>
                          refine Wp.st (S' := s₁.setTop (mkF m 109 #[.val (.int p1)] [])) (fun tt_ kk_ => XS.icmpNo X0.here hx rfl (hb hby d1_106) rfl (teq (ih11 : p1 = (11 : Int32))).2 kk_) ?_
                          obtain ⟨T12, X12, e12, st12⟩ := getS2 X0 hx hZ hown (host := "") (Or.inl (hw _ (List.mem_of_getElem? (i := 93) rfl))) Via.refl e0 (S_EQUALS.ext O0.2) (g := (mkF m 109 #[.val (.int p1)] [])) rfl (hb hby d1_109)
                          refine Wp.st (S' := T12.setTop (mkF m 112 #[.val (.int p1)] [(.ref w_EQUALS)])) st12 ?_
                          exact Wp.ret X12 hlk (v := (some (.ref w_EQUALS))) (fun h => by rw [Bd.returns] at h; cases h) (fun fs hr => retOut X12 hx Bd.returns rfl (Or.inr (Or.inr (Or.inr (Or.inr ⟨rfl, rfl, rfl⟩)))) (hb hby d1_112) hr) (by decide) (by decide) (show Q_rm1 Z p1 w_IDENTIFIER w_STRING w_LEFT_BRACE w_RIGHT_BRACE w_LEFT_BRACKET w_RIGHT_BRACKET w_LESS w_GREATER w_COMMA w_SEMICOLON w_COLON w_EQUALS w_AT w_LEFT_PAREN w_RIGHT_PAREN w_QUESTION w_DOUBLE_COLON w_END h0 n0 _ T12.heap _ by rw [e12]; exact ⟨(by unfold own_kind; rw [if_neg ih0, if_neg ih1, if_neg ih2, if_neg ih3, if_neg ih4, if_neg ih5, if_neg ih6, if_neg ih7, if_neg ih8, if_neg ih9, if_neg ih10, if_pos ih11]), N0, rfl⟩)
                        case neg =>
                          refine Wp.st (S' := s₁.setTop (mkF m 113 #[.val (.int p1)] [])) (fun tt_ kk_ => XS.icmpYes X0.here hx rfl (pc0 := 106) (pc' := 113) rfl (hb hby d1_106) rfl (feq (ih11 : ¬ (p1 = (11 : Int32)))).2 (by decide) (by decide) kk_) ?_
                          refine Wp.st (S' := s₁.setTop (mkF m 114 #[.val (.int p1)] [(.int p1)])) (fun tt_ kk_ => XS.iloadN X0.here hx rfl (hb hby d1_113) rfl  kk_) ?_
                          refine Wp.st (S' := s₁.setTop (mkF m 116 #[.val (.int p1)] [(.int (12 : Int32)), (.int p1)])) (fun tt_ kk_ => XS.bipush X0.here hx rfl (hb hby d1_114) kk_) ?_
                          by_cases ih12 : p1 = (12 : Int32)
                          case pos =>
                            refine Wp.st (S' := s₁.setTop (mkF m 119 #[.val (.int p1)] [])) (fun tt_ kk_ => XS.icmpNo X0.here hx rfl (hb hby d1_116) rfl (teq (ih12 : p1 = (12 : Int32))).2 kk_) ?_
                            obtain ⟨T13, X13, e13, st13⟩ := getS2 X0 hx hZ hown (host := "") (Or.inl (hw _ (List.mem_of_getElem? (i := 79) rfl))) Via.refl e0 (S_AT.ext O0.2) (g := (mkF m 119 #[.val (.int p1)] [])) rfl (hb hby d1_119)
                            refine Wp.st (S' := T13.setTop (mkF m 122 #[.val (.int p1)] [(.ref w_AT)])) st13 ?_
                            exact Wp.ret X13 hlk (v := (some (.ref w_AT))) (fun h => by rw [Bd.returns] at h; cases h) (fun fs hr => retOut X13 hx Bd.returns rfl (Or.inr (Or.inr (Or.inr (Or.inr ⟨rfl, rfl, rfl⟩)))) (hb hby d1_122) hr) (by decide) (by decide) (show Q_rm1 Z p1 w_IDENTIFIER w_STRING w_LEFT_BRACE w_RIGHT_BRACE w_LEFT_BRACKET w_RIGHT_BRACKET w_LESS w_GREATER w_COMMA w_SEMICOLON w_COLON w_EQUALS w_AT w_LEFT_PAREN w_RIGHT_PAREN w_QUESTION w_DOUBLE_COLON w_END h0 n0 _ T13.heap _ by rw [e13]; exact ⟨(by unfold own_kind; rw [if_neg ih0, if_neg ih1, if_neg ih2, if_neg ih3, if_neg ih4, if_neg ih5, if_neg ih6, if_neg ih7, if_neg ih8, if_neg ih9, if_neg ih10, if_neg ih11, if_pos ih12]), N0, rfl⟩)
                          case neg =>
                            refine Wp.st (S' := s₁.setTop (mkF m 123 #[.val (.int p1)] [])) (fun tt_ kk_ => XS.icmpYes X0.here hx rfl (pc0 := 116) (pc' := 123) rfl (hb hby d1_116) rfl (feq (ih12 : ¬ (p1 = (12 : Int32)))).2 (by decide) (by decide) kk_) ?_
                            refine Wp.st (S' := s₁.setTop (mkF m 124 #[.val (.int p1)] [(.int p1)])) (fun tt_ kk_ => XS.iloadN X0.here hx rfl (hb hby d1_123) rfl  kk_) ?_
                            refine Wp.st (S' := s₁.setTop (mkF m 126 #[.val (.int p1)] [(.int (13 : Int32)), (.int p1)])) (fun tt_ kk_ => XS.bipush X0.here hx rfl (hb hby d1_124) kk_) ?_
                            by_cases ih13 : p1 = (13 : Int32)
                            case pos =>
                              refine Wp.st (S' := s₁.setTop (mkF m 129 #[.val (.int p1)] [])) (fun tt_ kk_ => XS.icmpNo X0.here hx rfl (hb hby d1_126) rfl (teq (ih13 : p1 = (13 : Int32))).2 kk_) ?_
                              obtain ⟨T14, X14, e14, st14⟩ := getS2 X0 hx hZ hown (host := "") (Or.inl (hw _ (List.mem_of_getElem? (i := 75) rfl))) Via.refl e0 (S_LEFT_PAREN.ext O0.2) (g := (mkF m 129 #[.val (.int p1)] [])) rfl (hb hby d1_129)
                              refine Wp.st (S' := T14.setTop (mkF m 132 #[.val (.int p1)] [(.ref w_LEFT_PAREN)])) st14 ?_
                              exact Wp.ret X14 hlk (v := (some (.ref w_LEFT_PAREN))) (fun h => by rw [Bd.returns] at h; cases h) (fun fs hr => retOut X14 hx Bd.returns rfl (Or.inr (Or.inr (Or.inr (Or.inr ⟨rfl, rfl, rfl⟩)))) (hb hby d1_132) hr) (by decide) (by decide) (show Q_rm1 Z p1 w_IDENTIFIER w_STRING w_LEFT_BRACE w_RIGHT_BRACE w_LEFT_BRACKET w_RIGHT_BRACKET w_LESS w_GREATER w_COMMA w_SEMICOLON w_COLON w_EQUALS w_AT w_LEFT_PAREN w_RIGHT_PAREN w_QUESTION w_DOUBLE_COLON w_END h0 n0 _ T14.heap _ by rw [e14]; exact ⟨(by unfold own_kind; rw [if_neg ih0, if_neg ih1, if_neg ih2, if_neg ih3, if_neg ih4, if_neg ih5, if_neg ih6, if_neg ih7, if_neg ih8, if_neg ih9, if_neg ih10, if_neg ih11, if_neg ih12, if_pos ih13]), N0, rfl⟩)
                            case neg =>
                              refine Wp.st (S' := s₁.setTop (mkF m 133 #[.val (.int p1)] [])) (fun tt_ kk_ => XS.icmpYes X0.here hx rfl (pc0 := 126) (pc' := 133) rfl (hb hby d1_126) rfl (feq (ih13 : ¬ (p1 = (13 : Int32)))).2 (by decide) (by decide) kk_) ?_
                              refine Wp.st (S' := s₁.setTop (mkF m 134 #[.val (.int p1)] [(.int p1)])) (fun tt_ kk_ => XS.iloadN X0.here hx rfl (hb hby d1_133) rfl  kk_) ?_
                              refine Wp.st (S' := s₁.setTop (mkF m 136 #[.val (.int p1)] [(.int (14 : Int32)), (.int p1)])) (fun tt_ kk_ => XS.bipush X0.here hx rfl (hb hby d1_134) kk_) ?_
                              by_cases ih14 : p1 = (14 : Int32)
                              case pos =>
                                refine Wp.st (S' := s₁.setTop (mkF m 139 #[.val (.int p1)] [])) (fun tt_ kk_ => XS.icmpNo X0.here hx rfl (hb hby d1_136) rfl (teq (ih14 : p1 = (14 : Int32))).2 kk_) ?_
                                obtain ⟨T15, X15, e15, st15⟩ := getS2 X0 hx hZ hown (host := "") (Or.inl (hw _ (List.mem_of_getElem? (i := 73) rfl))) Via.refl e0 (S_RIGHT_PAREN.ext O0.2) (g := (mkF m 139 #[.val (.int p1)] [])) rfl (hb hby d1_139)
                                refine Wp.st (S' := T15.setTop (mkF m 142 #[.val (.int p1)] [(.ref w_RIGHT_PAREN)])) st15 ?_
                                exact Wp.ret X15 hlk (v := (some (.ref w_RIGHT_PAREN))) (fun h => by rw [Bd.returns] at h; cases h) (fun fs hr => retOut X15 hx Bd.returns rfl (Or.inr (Or.inr (Or.inr (Or.inr ⟨rfl, rfl, rfl⟩)))) (hb hby d1_142) hr) (by decide) (by decide) (show Q_rm1 Z p1 w_IDENTIFIER w_STRING w_LEFT_BRACE w_RIGHT_BRACE w_LEFT_BRACKET w_RIGHT_BRACKET w_LESS w_GREATER w_COMMA w_SEMICOLON w_COLON w_EQUALS w_AT w_LEFT_PAREN w_RIGHT_PAREN w_QUESTION w_DOUBLE_COLON w_END h0 n0 _ T15.heap _ by rw [e15]; exact ⟨(by unfold own_kind; rw [if_neg ih0, if_neg ih1, if_neg ih2, if_neg ih3, if_neg ih4, if_neg ih5, if_neg ih6, if_neg ih7, if_neg ih8, if_neg ih9, if_neg ih10, if_neg ih11, if_neg ih12, if_neg ih13, if_pos ih14]), N0, rfl⟩)
                              case neg =>
                                refine Wp.st (S' := s₁.setTop (mkF m 143 #[.val (.int p1)] [])) (fun tt_ kk_ => XS.icmpYes X0.here hx rfl (pc0 := 136) (pc' := 143) rfl (hb hby d1_136) rfl (feq (ih14 : ¬ (p1 = (14 : Int32)))).2 (by decide) (by decide) kk_) ?_
                                refine Wp.st (S' := s₁.setTop (mkF m 144 #[.val (.int p1)] [(.int p1)])) (fun tt_ kk_ => XS.iloadN X0.here hx rfl (hb hby d1_143) rfl  kk_) ?_
                                refine Wp.st (S' := s₁.setTop (mkF m 146 #[.val (.int p1)] [(.int (15 : Int32)), (.int p1)])) (fun tt_ kk_ => XS.bipush X0.here hx rfl (hb hby d1_144) kk_) ?_
                                by_cases ih15 : p1 = (15 : Int32)
                                case pos =>
                                  refine Wp.st (S' := s₁.setTop (mkF m 149 #[.val (.int p1)] [])) (fun tt_ kk_ => XS.icmpNo X0.here hx rfl (hb hby d1_146) rfl (teq (ih15 : p1 = (15 : Int32))).2 kk_) ?_
                                  obtain ⟨T16, X16, e16, st16⟩ := getS2 X0 hx hZ hown (host := "") (Or.inl (hw _ (List.mem_of_getElem? (i := 87) rfl))) Via.refl e0 (S_QUESTION.ext O0.2) (g := (mkF m 149 #[.val (.int p1)] [])) rfl (hb hby d1_149)
                                  refine Wp.st (S' := T16.setTop (mkF m 152 #[.val (.int p1)] [(.ref w_QUESTION)])) st16 ?_
                                  exact Wp.ret X16 hlk (v := (some (.ref w_QUESTION))) (fun h => by rw [Bd.returns] at h; cases h) (fun fs hr => retOut X16 hx Bd.returns rfl (Or.inr (Or.inr (Or.inr (Or.inr ⟨rfl, rfl, rfl⟩)))) (hb hby d1_152) hr) (by decide) (by decide) (show Q_rm1 Z p1 w_IDENTIFIER w_STRING w_LEFT_BRACE w_RIGHT_BRACE w_LEFT_BRACKET w_RIGHT_BRACKET w_LESS w_GREATER w_COMMA w_SEMICOLON w_COLON w_EQUALS w_AT w_LEFT_PAREN w_RIGHT_PAREN w_QUESTION w_DOUBLE_COLON w_END h0 n0 _ T16.heap _ by rw [e16]; exact ⟨(by unfold own_kind; rw [if_neg ih0, if_neg ih1, if_neg ih2, if_neg ih3, if_neg ih4, if_neg ih5, if_neg ih6, if_neg ih7, if_neg ih8, if_neg ih9, if_neg ih10, if_neg ih11, if_neg ih12, if_neg ih13, if_neg ih14, if_pos ih15]), N0, rfl⟩)
                                case neg =>
                                  refine Wp.st (S' := s₁.setTop (mkF m 153 #[.val (.int p1)] [])) (fun tt_ kk_ => XS.icmpYes X0.here hx rfl (pc0 := 146) (pc' := 153) rfl (hb hby d1_146) rfl (feq (ih15 : ¬ (p1 = (15 : Int32)))).2 (by decide) (by decide) kk_) ?_
                                  refine Wp.st (S' := s₁.setTop (mkF m 154 #[.val (.int p1)] [(.int p1)])) (fun tt_ kk_ => XS.iloadN X0.here hx rfl (hb hby d1_153) rfl  kk_) ?_
                                  refine Wp.st (S' := s₁.setTop (mkF m 156 #[.val (.int p1)] [(.int (16 : Int32)), (.int p1)])) (fun tt_ kk_ => XS.bipush X0.here hx rfl (hb hby d1_154) kk_) ?_
                                  by_cases ih16 : p1 = (16 : Int32)
                                  case pos =>
                                    refine Wp.st (S' := s₁.setTop (mkF m 159 #[.val (.int p1)] [])) (fun tt_ kk_ => XS.icmpNo X0.here hx rfl (hb hby d1_156) rfl (teq (ih16 : p1 = (16 : Int32))).2 kk_) ?_
                                    obtain ⟨T17, X17, e17, st17⟩ := getS2 X0 hx hZ hown (host := "") (Or.inl (hw _ (List.mem_of_getElem? (i := 81) rfl))) Via.refl e0 (S_DOUBLE_COLON.ext O0.2) (g := (mkF m 159 #[.val (.int p1)] [])) rfl (hb hby d1_159)
                                    refine Wp.st (S' := T17.setTop (mkF m 162 #[.val (.int p1)] [(.ref w_DOUBLE_COLON)])) st17 ?_
                                    exact Wp.ret X17 hlk (v := (some (.ref w_DOUBLE_COLON))) (fun h => by rw [Bd.returns] at h; cases h) (fun fs hr => retOut X17 hx Bd.returns rfl (Or.inr (Or.inr (Or.inr (Or.inr ⟨rfl, rfl, rfl⟩)))) (hb hby d1_162) hr) (by decide) (by decide) (show Q_rm1 Z p1 w_IDENTIFIER w_STRING w_LEFT_BRACE w_RIGHT_BRACE w_LEFT_BRACKET w_RIGHT_BRACKET w_LESS w_GREATER w_COMMA w_SEMICOLON w_COLON w_EQUALS w_AT w_LEFT_PAREN w_RIGHT_PAREN w_QUESTION w_DOUBLE_COLON w_END h0 n0 _ T17.heap _ by rw [e17]; exact ⟨(by unfold own_kind; rw [if_neg ih0, if_neg ih1, if_neg ih2, if_neg ih3, if_neg ih4, if_neg ih5, if_neg ih6, if_neg ih7, if_neg ih8, if_neg ih9, if_neg ih10, if_neg ih11, if_neg ih12, if_neg ih13, if_neg ih14, if_neg ih15, if_pos ih16]), N0, rfl⟩)
                                  case neg =>
                                    refine Wp.st (S' := s₁.setTop (mkF m 163 #[.val (.int p1)] [])) (fun tt_ kk_ => XS.icmpYes X0.here hx rfl (pc0 := 156) (pc' := 163) rfl (hb hby d1_156) rfl (feq (ih16 : ¬ (p1 = (16 : Int32)))).2 (by decide) (by decide) kk_) ?_
                                    refine Wp.st (S' := s₁.setTop (mkF m 164 #[.val (.int p1)] [(.int p1)])) (fun tt_ kk_ => XS.iloadN X0.here hx rfl (hb hby d1_163) rfl  kk_) ?_
                                    refine Wp.st (S' := s₁.setTop (mkF m 166 #[.val (.int p1)] [(.int (17 : Int32)), (.int p1)])) (fun tt_ kk_ => XS.bipush X0.here hx rfl (hb hby d1_164) kk_) ?_
                                    by_cases ih17 : p1 = (17 : Int32)
                                    case pos =>
                                      refine Wp.st (S' := s₁.setTop (mkF m 169 #[.val (.int p1)] [])) (fun tt_ kk_ => XS.icmpNo X0.here hx rfl (hb hby d1_166) rfl (teq (ih17 : p1 = (17 : Int32))).2 kk_) ?_
                                      obtain ⟨T18, X18, e18, st18⟩ := getS2 X0 hx hZ hown (host := "") (Or.inl (hw _ (List.mem_of_getElem? (i := 95) rfl))) Via.refl e0 (S_END.ext O0.2) (g := (mkF m 169 #[.val (.int p1)] [])) rfl (hb hby d1_169)
                                      refine Wp.st (S' := T18.setTop (mkF m 172 #[.val (.int p1)] [(.ref w_END)])) st18 ?_
                                      exact Wp.ret X18 hlk (v := (some (.ref w_END))) (fun h => by rw [Bd.returns] at h; cases h) (fun fs hr => retOut X18 hx Bd.returns rfl (Or.inr (Or.inr (Or.inr (Or.inr ⟨rfl, rfl, rfl⟩)))) (hb hby d1_172) hr) (by decide) (by decide) (show Q_rm1 Z p1 w_IDENTIFIER w_STRING w_LEFT_BRACE w_RIGHT_BRACE w_LEFT_BRACKET w_RIGHT_BRACKET w_LESS w_GREATER w_COMMA w_SEMICOLON w_COLON w_EQUALS w_AT w_LEFT_PAREN w_RIGHT_PAREN w_QUESTION w_DOUBLE_COLON w_END h0 n0 _ T18.heap _ by rw [e18]; exact ⟨(by unfold own_kind; rw [if_neg ih0, if_neg ih1, if_neg ih2, if_neg ih3, if_neg ih4, if_neg ih5, if_neg ih6, if_neg ih7, if_neg ih8, if_neg ih9, if_neg ih10, if_neg ih11, if_neg ih12, if_neg ih13, if_neg ih14, if_neg ih15, if_neg ih16, if_pos ih17]), N0, rfl⟩)
                                    case neg =>
                                      refine Wp.st (S' := s₁.setTop (mkF m 173 #[.val (.int p1)] [])) (fun tt_ kk_ => XS.icmpYes X0.here hx rfl (pc0 := 166) (pc' := 173) rfl (hb hby d1_166) rfl (feq (ih17 : ¬ (p1 = (17 : Int32)))).2 (by decide) (by decide) kk_) ?_
                                      refine Wp.st (S' := s₁.setTop (mkF m 174 #[.val (.int p1)] [.null])) (fun tt_ kk_ => XS.aconstNull X0.here hx rfl (hb hby d1_173) kk_) ?_
                                      exact Wp.ret X0 hlk (v := (some .null)) (fun h => by rw [Bd.returns] at h; cases h) (fun fs hr => retOut X0 hx Bd.returns rfl (Or.inr (Or.inr (Or.inr (Or.inr ⟨rfl, rfl, rfl⟩)))) (hb hby d1_174) hr) (by decide) (by decide) (show Q_rm1 Z p1 w_IDENTIFIER w_STRING w_LEFT_BRACE w_RIGHT_BRACE w_LEFT_BRACKET w_RIGHT_BRACKET w_LESS w_GREATER w_COMMA w_SEMICOLON w_COLON w_EQUALS w_AT w_LEFT_PAREN w_RIGHT_PAREN w_QUESTION w_DOUBLE_COLON w_END h0 n0 _ s₁.heap _ by rw [e0]; exact ⟨(by unfold own_kind; rw [if_neg ih0, if_neg ih1, if_neg ih2, if_neg ih3, if_neg ih4, if_neg ih5, if_neg ih6, if_neg ih7, if_neg ih8, if_neg ih9, if_neg ih10, if_neg ih11, if_neg ih12, if_neg ih13, if_neg ih14, if_neg ih15, if_neg ih16, if_neg ih17]), N0, rfl⟩)
theorem pn_9 : plainName "java/lang/Record" = true := by first | (simp [plainName, overriddenIn]; done) | decide +kernel
theorem d9_0 : decode jdk_30_method_1_code 0 = .ok (.aload_n 0, 1) := by decide +kernel
theorem d9_1 : decode jdk_30_method_1_code 1 = .ok (.invokespecial 1, 3) := by decide +kernel
theorem d9_4 : decode jdk_30_method_1_code 4 = .ok (.return_, 1) := by decide +kernel
theorem ef_rm9 (m : MethodId) (a1 : Addr) : entryFrame m #[(.ref a1)] 1 = mkF m 0 #[.val (.ref a1)] [] := by first | (simp [entryFrame, mkF, argsToLocals, Value.category]; done) | rfl
def Q_rm9 (Z : State) (a1 : Addr) (h0 : Heap) (n0 : Nat) (v : Option Value) (h : Heap) (L : List Loc) : Prop := (v = none) ∧ (Fr n0 L) ∧ (h = h0)
set_option maxRecDepth 65536 in
set_option maxHeartbeats 40000000 in
theorem rm9 (l : Launch) (Z : State) (a0 : Array Value) (hw : ∀ d ∈ tables_1, d.before a0 Z = true) (ws : List Jvm.Cond) (a1 : Addr) (h0 : Heap) (n0 : Nat) (Z0 : n0 ≤ h0.size)  :
    MetFree l (⟨"java/lang/Record", "<init>", "()V"⟩ : MethodName) (head1 (Jvm.Cond.code (⟨"java/lang/Record", "<init>", "()V"⟩ : MethodName) jdk_30_method_1_code 1 none :: ws) ({ frames := 1, cells := 0, slots := 0, locals := 12 } : Room)) (fun a U => a = #[(.ref a1)] ∧ Z.Warmed39 U.vm ∧ U.heap = h0) (fun _ _ _ _ _ => True) (fun _ U o U' => ∃ v L, o = .returned v ∧ Q_rm9 Z a1 h0 n0 v U'.heap L ∧ FrameEnd U o U' L ({ frames := 1, cells := 0, slots := 0, locals := 12 } : Room).cells ({ frames := 1, cells := 0, slots := 0, locals := 12 } : Room).slots) := by
  refine MetFree.of_bodySF (plainFor_of_name pn_9) hisR ?_
  intro p e s m args below meth c s₁ Bd hml0 hP hK
  obtain ⟨rfl, hZ, hh⟩ := hP
  have hx := Bd.exec
  have hby := Bd.bytes
  have hml : c.maxLocals = 1 := hml0
  have hown : s.vm.findClass "java/lang/Record" = some m.cls := findClass_of_methodNamed Bd.named
  have hnm := (name_of_methodNamed Bd.named Bd.method).1
  have hlk := Bd.notSynchronized
  have X0 : Stand p l e ({ frames := 1, cells := 0, slots := 0, locals := 12 } : Room) s m #[(.ref a1)] below meth c s₁ [] 0 0 := Stand.of_body Bd
  have e0 : s₁.heap = h0 := by rw [← hh, Bd.state]; rfl
  have N0 := Fr.nil n0
  refine Wp.goal (Post := (fun o U' => ∃ v L, o = .returned v ∧ Q_rm9 Z a1 h0 n0 v U'.heap L ∧ FrameEnd s o U' L ({ frames := 1, cells := 0, slots := 0, locals := 12 } : Room).cells ({ frames := 1, cells := 0, slots := 0, locals := 12 } : Room).slots)) (Wp.st (S' := s₁.setTop (mkF m 0 #[.val (.ref a1)] [])) (fun tt_ kk_ => castTop (ef_rm9 m a1 ) kk_) ?_)
  refine Wp.st (S' := s₁.setTop (mkF m 1 #[.val (.ref a1)] [(.ref a1)])) (fun tt_ kk_ => XS.aloadN X0.here hx rfl (hb hby d9_0) rfl rfl kk_) ?_
  obtain ⟨T1, X1, e1, st1⟩ := initO X0 hx hZ hown (hw _ (List.mem_of_getElem? (i := 51) rfl)) (hw _ (List.mem_of_getElem? (i := 25) rfl)) (hw _ (List.mem_of_getElem? (i := 26) rfl)) e0 (g := (mkF m 1 #[.val (.ref a1)] [(.ref a1)])) rfl (by rw [hml]; rfl) rfl (hb hby d9_1) (by decide) (W := 0) (by show 2 * 0 + _ ≤ _; exact Nat.le_of_eq rfl) (by decide)
  refine Wp.st (S' := T1.setTop (mkF m 4 #[.val (.ref a1)] [])) st1 ?_
  exact Wp.ret X1 hlk (v := none) (fun _ => rfl) (fun fs hr => X1.returnOut hx Bd.returns (hb hby d9_4) hr) (by decide) (by decide) (show Q_rm9 Z a1 h0 n0 _ T1.heap _ by rw [e1]; exact ⟨rfl, N0, rfl⟩)
theorem pn_8 : plainName "com/example/trusswork/trusswork/schema/Token" = true := by first | (simp [plainName, overriddenIn]; done) | decide +kernel
theorem d8_0 : decode prog_45_method_1_code 0 = .ok (.aload_n 0, 1) := by decide +kernel
theorem d8_1 : decode prog_45_method_1_code 1 = .ok (.invokespecial 1, 3) := by decide +kernel
theorem pd_0 : parseMethodDescriptor "()V" = some ⟨[], none⟩ := by decide +kernel
theorem d8_4 : decode prog_45_method_1_code 4 = .ok (.aload_n 0, 1) := by decide +kernel
theorem d8_5 : decode prog_45_method_1_code 5 = .ok (.aload_n 1, 1) := by decide +kernel
theorem d8_6 : decode prog_45_method_1_code 6 = .ok (.putfield 7, 3) := by decide +kernel
theorem d8_9 : decode prog_45_method_1_code 9 = .ok (.aload_n 0, 1) := by decide +kernel
theorem d8_10 : decode prog_45_method_1_code 10 = .ok (.aload_n 2, 1) := by decide +kernel
theorem d8_11 : decode prog_45_method_1_code 11 = .ok (.putfield 13, 3) := by decide +kernel
theorem d8_14 : decode prog_45_method_1_code 14 = .ok (.aload_n 0, 1) := by decide +kernel
theorem d8_15 : decode prog_45_method_1_code 15 = .ok (.iload_n 3, 1) := by decide +kernel
theorem d8_16 : decode prog_45_method_1_code 16 = .ok (.putfield 17, 3) := by decide +kernel
theorem d8_19 : decode prog_45_method_1_code 19 = .ok (.aload_n 0, 1) := by decide +kernel
theorem d8_20 : decode prog_45_method_1_code 20 = .ok (.iload 4, 2) := by decide +kernel
theorem d8_22 : decode prog_45_method_1_code 22 = .ok (.putfield 21, 3) := by decide +kernel
theorem d8_25 : decode prog_45_method_1_code 25 = .ok (.return_, 1) := by decide +kernel
theorem ef_rm8 (m : MethodId) (a1 : Addr) (v2 : Value) (a3 : Addr) (p4 : Int32) (p5 : Int32) (hv2 : v2.isRef = true) : entryFrame m #[(.ref a1), v2, (.ref a3), (.int p4), (.int p5)] 5 = mkF m 0 #[.val (.ref a1), .val v2, .val (.ref a3), .val (.int p4), .val (.int p5)] [] := by
  rcases ref_cases hv2 with rfl | ⟨_, rfl⟩
  all_goals first | (simp [entryFrame, mkF, argsToLocals, Value.category]; done) | rfl
def Q_rm8 (Z : State) (a1 : Addr) (v2 : Value) (a3 : Addr) (p4 : Int32) (p5 : Int32) (h0 : Heap) (n0 : Nat) (v : Option Value) (h : Heap) (L : List Loc) : Prop := (v = none) ∧ (Fr n0 L) ∧ (Keep h0 h [a1]) ∧ (Exa Z h a1 "com/example/trusswork/trusswork/schema/Token") ∧ (Fld Z h a1 "com/example/trusswork/trusswork/schema/Token" "kind" "Lcom/example/trusswork/trusswork/schema/Token$Kind;" v2)
set_option maxRecDepth 65536 in
set_option maxHeartbeats 40000000 in
theorem rm8 (l : Launch) (Z : State) (a0 : Array Value) (hw : ∀ d ∈ tables_1, d.before a0 Z = true) (ws : List Jvm.Cond) (a1 : Addr) (v2 : Value) (a3 : Addr) (p4 : Int32) (p5 : Int32) (h0 : Heap) (n0 : Nat) (Z0 : n0 ≤ h0.size) (hv2 : Value.isRef v2 = true) (g_a1 : n0 ≤ a1) (P2 : Exa Z h0 a1 "com/example/trusswork/trusswork/schema/Token") (P3 : Fld Z h0 a1 "com/example/trusswork/trusswork/schema/Token" "kind" "Lcom/example/trusswork/trusswork/schema/Token$Kind;" .null) (P4 : Fld Z h0 a1 "com/example/trusswork/trusswork/schema/Token" "text" "Ljava/lang/String;" .null) (P5 : Fld Z h0 a1 "com/example/trusswork/trusswork/schema/Token" "line" "I" (.int (0 : Int32))) (P6 : Fld Z h0 a1 "com/example/trusswork/trusswork/schema/Token" "column" "I" (.int (0 : Int32))) :
    MetFree l (⟨"com/example/trusswork/trusswork/schema/Token", "<init>", "(Lcom/example/trusswork/trusswork/schema/Token$Kind;Ljava/lang/String;II)V"⟩ : MethodName) (head1 (Jvm.Cond.code (⟨"com/example/trusswork/trusswork/schema/Token", "<init>", "(Lcom/example/trusswork/trusswork/schema/Token$Kind;Ljava/lang/String;II)V"⟩ : MethodName) prog_45_method_1_code 5 none :: ws) ({ frames := 2, cells := 0, slots := 0, locals := 24 } : Room)) (fun a U => a = #[(.ref a1), v2, (.ref a3), (.int p4), (.int p5)] ∧ Z.Warmed39 U.vm ∧ U.heap = h0) (fun _ _ _ _ _ => True) (fun _ U o U' => ∃ v L, o = .returned v ∧ Q_rm8 Z a1 v2 a3 p4 p5 h0 n0 v U'.heap L ∧ FrameEnd U o U' L ({ frames := 2, cells := 0, slots := 0, locals := 24 } : Room).cells ({ frames := 2, cells := 0, slots := 0, locals := 24 } : Room).slots) := by
  refine MetFree.of_bodySF (plainFor_of_name pn_8) hisR ?_
  intro p e s m args below meth c s₁ Bd hml0 hP hK
  obtain ⟨rfl, hZ, hh⟩ := hP
  have hx := Bd.exec
  have hby := Bd.bytes
  have hml : c.maxLocals = 5 := hml0
  have hown : s.vm.findClass "com/example/trusswork/trusswork/schema/Token" = some m.cls := findClass_of_methodNamed Bd.named
  have hnm := (name_of_methodNamed Bd.named Bd.method).1
  have hlk := Bd.notSynchronized
  have X0 : Stand p l e ({ frames := 2, cells := 0, slots := 0, locals := 24 } : Room) s m #[(.ref a1), v2, (.ref a3), (.int p4), (.int p5)] below meth c s₁ [] 0 0 := Stand.of_body Bd
  have e0 : s₁.heap = h0 := by rw [← hh, Bd.state]; rfl
  have N0 := Fr.nil n0
  refine Wp.goal (Post := (fun o U' => ∃ v L, o = .returned v ∧ Q_rm8 Z a1 v2 a3 p4 p5 h0 n0 v U'.heap L ∧ FrameEnd s o U' L ({ frames := 2, cells := 0, slots := 0, locals := 24 } : Room).cells ({ frames := 2, cells := 0, slots := 0, locals := 24 } : Room).slots)) (Wp.st (S' := s₁.setTop (mkF m 0 #[.val (.ref a1), .val v2, .val (.ref a3), .val (.int p4), .val (.int p5)] [])) (fun tt_ kk_ => castTop (ef_rm8 m a1 v2 a3 p4 p5 hv2) kk_) ?_)
  refine Wp.st (S' := s₁.setTop (mkF m 1 #[.val (.ref a1), .val v2, .val (.ref a3), .val (.int p4), .val (.int p5)] [(.ref a1)])) (fun tt_ kk_ => XS.aloadN X0.here hx rfl (hb hby d8_0) rfl rfl kk_) ?_
  obtain ⟨vv1, _, ⟨T1, L1, k1, n1⟩, -, X1, ⟨Lc1, hQ1, l1, y1, z1⟩, st1⟩ := X0.specialBack hx (y := (⟨"java/lang/Record", "<init>", "()V"⟩ : MethodName)) rfl hown (mvT hZ (hw _ (List.mem_of_getElem? (i := 46) rfl))) (mvT hZ (hw _ (List.mem_of_getElem? (i := 47) rfl))) (mvT hZ (hw _ (List.mem_of_getElem? (i := 50) rfl))) (by decide) (backOf (W := 0) (rm9 l Z a0 hw [] a1 h0 n0 Z0 ) hZ (hw _ (List.mem_of_getElem? (i := 50) rfl)) (hw _ (List.mem_of_getElem? (i := 49) rfl)) (by decide) (by decide)) (g := (mkF m 1 #[.val (.ref a1), .val v2, .val (.ref a3), .val (.int p4), .val (.int p5)] [(.ref a1)])) rfl (by rw [hml]; rfl) (Steps.refl _) (a := a1) (argsL := []) (rest := []) (lenOf pd_0 rfl) rfl (by show 2 * 0 + _ ≤ _; exact Nat.le_of_eq rfl) (hb hby d8_1) (fun _ _ => ⟨rfl, e0, (by decide : 0 + 0 ≤ _), (by decide : 0 + 0 ≤ _)⟩)
  dsimp only [Pt.U, Pt.locs, Pt.cells, Pt.slots] at X1 l1 y1 z1 st1 hQ1
  subst l1 y1 z1
  obtain ⟨rfl, Nq1, e1⟩ := hQ1
  have N1 := Fr.app N0 Nq1
  refine Wp.tr (S' := T1.setTop (mkF m 4 #[.val (.ref a1), .val v2, .val (.ref a3), .val (.int p4), .val (.int p5)] [])) st1 ?_
  refine Wp.st (S' := T1.setTop (mkF m 5 #[.val (.ref a1), .val v2, .val (.ref a3), .val (.int p4), .val (.int p5)] [(.ref a1)])) (fun tt_ kk_ => XS.aloadN X1.here hx rfl (hb hby d8_4) rfl rfl kk_) ?_
  refine Wp.st (S' := T1.setTop (mkF m 6 #[.val (.ref a1), .val v2, .val (.ref a3), .val (.int p4), .val (.int p5)] [v2, (.ref a1)])) (fun tt_ kk_ => XS.aloadN X1.here hx rfl (hb hby d8_5) rfl hv2 kk_) ?_
  obtain ⟨T2, h2, X2, e2, W2, st2⟩ := putF X1 hx hZ hown (host := "") (Or.inl (hw _ (List.mem_of_getElem? (i := 52) rfl))) Via.refl e1 P3 P2 (Or.inr ⟨(hw _ (List.mem_of_getElem? (i := 53) rfl)), rfl, hnm⟩) (hw _ (List.mem_of_getElem? (i := 12) rfl)) (ty := (.object "com/example/trusswork/trusswork/schema/Token$Kind")) (by decide) (own_narrow hv2) (own_fits hv2) (g := (mkF m 6 #[.val (.ref a1), .val v2, .val (.ref a3), .val (.int p4), .val (.int p5)] [v2, (.ref a1)])) rfl rfl (hb hby d8_6)
  have z3 := Nat.le_of_eq W2.size.symm
  have Fw2 : Fld Z h2 a1 "com/example/trusswork/trusswork/schema/Token" "kind" "Lcom/example/trusswork/trusswork/schema/Token$Kind;" v2 := P3.same W2
  have N2 := Fr.snoc X2 N1 g_a1
  refine Wp.st (S' := T2.setTop (mkF m 9 #[.val (.ref a1), .val v2, .val (.ref a3), .val (.int p4), .val (.int p5)] [])) st2 ?_
  refine Wp.st (S' := T2.setTop (mkF m 10 #[.val (.ref a1), .val v2, .val (.ref a3), .val (.int p4), .val (.int p5)] [(.ref a1)])) (fun tt_ kk_ => XS.aloadN X2.here hx rfl (hb hby d8_9) rfl rfl kk_) ?_
  refine Wp.st (S' := T2.setTop (mkF m 11 #[.val (.ref a1), .val v2, .val (.ref a3), .val (.int p4), .val (.int p5)] [(.ref a3), (.ref a1)])) (fun tt_ kk_ => XS.aloadN X2.here hx rfl (hb hby d8_10) rfl rfl kk_) ?_
  have F5 := P4.other W2 (Or.inr (slot_ne (Or.inr (hw _ (List.mem_of_getElem? (i := 55) rfl))) (Or.inr (hw _ (List.mem_of_getElem? (i := 53) rfl))) (by decide) (t := (.object "java/lang/String")) (t' := (.object "com/example/trusswork/trusswork/schema/Token$Kind")) (by decide) (by decide)))
  have F6 := P2.wr W2
  obtain ⟨T4, h4, X4, e4, W4, st4⟩ := putF X2 hx hZ hown (host := "") (Or.inl (hw _ (List.mem_of_getElem? (i := 54) rfl))) Via.refl e2 F5 F6 (Or.inr ⟨(hw _ (List.mem_of_getElem? (i := 55) rfl)), rfl, hnm⟩) (hw _ (List.mem_of_getElem? (i := 12) rfl)) (ty := (.object "java/lang/String")) (by decide) rfl rfl (g := (mkF m 11 #[.val (.ref a1), .val v2, .val (.ref a3), .val (.int p4), .val (.int p5)] [(.ref a3), (.ref a1)])) rfl rfl (hb hby d8_11)
  have z7 := Nat.le_of_eq W4.size.symm
  have Fw4 : Fld Z h4 a1 "com/example/trusswork/trusswork/schema/Token" "text" "Ljava/lang/String;" (.ref a3) := F5.same W4
  have N4 := Fr.snoc X4 N2 g_a1
  refine Wp.st (S' := T4.setTop (mkF m 14 #[.val (.ref a1), .val v2, .val (.ref a3), .val (.int p4), .val (.int p5)] [])) st4 ?_
  refine Wp.st (S' := T4.setTop (mkF m 15 #[.val (.ref a1), .val v2, .val (.ref a3), .val (.int p4), .val (.int p5)] [(.ref a1)])) (fun tt_ kk_ => XS.aloadN X4.here hx rfl (hb hby d8_14) rfl rfl kk_) ?_
  refine Wp.st (S' := T4.setTop (mkF m 16 #[.val (.ref a1), .val v2, .val (.ref a3), .val (.int p4), .val (.int p5)] [(.int p4), (.ref a1)])) (fun tt_ kk_ => XS.iloadN X4.here hx rfl (hb hby d8_15) rfl  kk_) ?_
  have F9 := P5.other W2 (Or.inr (slot_ne (Or.inr (hw _ (List.mem_of_getElem? (i := 57) rfl))) (Or.inr (hw _ (List.mem_of_getElem? (i := 53) rfl))) (by decide) (t := .int) (t' := (.object "com/example/trusswork/trusswork/schema/Token$Kind")) (by decide) (by decide)))
  have F10 := F9.other W4 (Or.inr (slot_ne (Or.inr (hw _ (List.mem_of_getElem? (i := 57) rfl))) (Or.inr (hw _ (List.mem_of_getElem? (i := 55) rfl))) (by decide) (t := .int) (t' := (.object "java/lang/String")) (by decide) (by decide)))
  have F11 := F6.wr W4
  obtain ⟨T8, h8, X8, e8, W8, st8⟩ := putF X4 hx hZ hown (host := "") (Or.inl (hw _ (List.mem_of_getElem? (i := 56) rfl))) Via.refl e4 F10 F11 (Or.inr ⟨(hw _ (List.mem_of_getElem? (i := 57) rfl)), rfl, hnm⟩) (hw _ (List.mem_of_getElem? (i := 12) rfl)) (ty := .int) (by decide) rfl rfl (g := (mkF m 16 #[.val (.ref a1), .val v2, .val (.ref a3), .val (.int p4), .val (.int p5)] [(.int p4), (.ref a1)])) rfl rfl (hb hby d8_16)
  have z12 := Nat.le_of_eq W8.size.symm
  have Fw8 : Fld Z h8 a1 "com/example/trusswork/trusswork/schema/Token" "line" "I" (.int p4) := F10.same W8
  have N8 := Fr.snoc X8 N4 g_a1
  refine Wp.st (S' := T8.setTop (mkF m 19 #[.val (.ref a1), .val v2, .val (.ref a3), .val (.int p4), .val (.int p5)] [])) st8 ?_
  refine Wp.st (S' := T8.setTop (mkF m 20 #[.val (.ref a1), .val v2, .val (.ref a3), .val (.int p4), .val (.int p5)] [(.ref a1)])) (fun tt_ kk_ => XS.aloadN X8.here hx rfl (hb hby d8_19) rfl rfl kk_) ?_
  refine Wp.st (S' := T8.setTop (mkF m 22 #[.val (.ref a1), .val v2, .val (.ref a3), .val (.int p4), .val (.int p5)] [(.int p5), (.ref a1)])) (fun tt_ kk_ => XS.iload X8.here hx rfl (hb hby d8_20) rfl  kk_) ?_
  have F14 := P6.other W2 (Or.inr (slot_ne (Or.inr (hw _ (List.mem_of_getElem? (i := 59) rfl))) (Or.inr (hw _ (List.mem_of_getElem? (i := 53) rfl))) (by decide) (t := .int) (t' := (.object "com/example/trusswork/trusswork/schema/Token$Kind")) (by decide) (by decide)))
  have F15 := F14.other W4 (Or.inr (slot_ne (Or.inr (hw _ (List.mem_of_getElem? (i := 59) rfl))) (Or.inr (hw _ (List.mem_of_getElem? (i := 55) rfl))) (by decide) (t := .int) (t' := (.object "java/lang/String")) (by decide) (by decide)))
  have F16 := F15.other W8 (Or.inr (slot_ne (Or.inr (hw _ (List.mem_of_getElem? (i := 59) rfl))) (Or.inr (hw _ (List.mem_of_getElem? (i := 57) rfl))) (by decide) (t := .int) (t' := .int) (by decide) (by decide)))
  have F17 := F11.wr W8
  obtain ⟨T13, h13, X13, e13, W13, st13⟩ := putF X8 hx hZ hown (host := "") (Or.inl (hw _ (List.mem_of_getElem? (i := 58) rfl))) Via.refl e8 F16 F17 (Or.inr ⟨(hw _ (List.mem_of_getElem? (i := 59) rfl)), rfl, hnm⟩) (hw _ (List.mem_of_getElem? (i := 12) rfl)) (ty := .int) (by decide) rfl rfl (g := (mkF m 22 #[.val (.ref a1), .val v2, .val (.ref a3), .val (.int p4), .val (.int p5)] [(.int p5), (.ref a1)])) rfl rfl (hb hby d8_22)
  have z18 := Nat.le_of_eq W13.size.symm
  have Fw13 : Fld Z h13 a1 "com/example/trusswork/trusswork/schema/Token" "column" "I" (.int p5) := F16.same W13
  have N13 := Fr.snoc X13 N8 g_a1
  refine Wp.st (S' := T13.setTop (mkF m 25 #[.val (.ref a1), .val v2, .val (.ref a3), .val (.int p4), .val (.int p5)] [])) st13 ?_
  have K19 := Keep.refl h0 [a1]
  have K20 := K19.wr W2 (Or.inl (List.mem_of_getElem? (i := 0) rfl))
  have K21 := K20.wr W4 (Or.inl (List.mem_of_getElem? (i := 0) rfl))
  have K22 := K21.wr W8 (Or.inl (List.mem_of_getElem? (i := 0) rfl))
  have K23 := K22.wr W13 (Or.inl (List.mem_of_getElem? (i := 0) rfl))
  have F24 := F17.wr W13
  have F25 := Fw2.other W4 (Or.inr (slot_ne (Or.inr (hw _ (List.mem_of_getElem? (i := 53) rfl))) (Or.inr (hw _ (List.mem_of_getElem? (i := 55) rfl))) (by decide) (t := (.object "com/example/trusswork/trusswork/schema/Token$Kind")) (t' := (.object "java/lang/String")) (by decide) (by decide)))
  have F26 := F25.other W8 (Or.inr (slot_ne (Or.inr (hw _ (List.mem_of_getElem? (i := 53) rfl))) (Or.inr (hw _ (List.mem_of_getElem? (i := 57) rfl))) (by decide) (t := (.object "com/example/trusswork/trusswork/schema/Token$Kind")) (t' := .int) (by decide) (by decide)))
  have F27 := F26.other W13 (Or.inr (slot_ne (Or.inr (hw _ (List.mem_of_getElem? (i := 53) rfl))) (Or.inr (hw _ (List.mem_of_getElem? (i := 59) rfl))) (by decide) (t := (.object "com/example/trusswork/trusswork/schema/Token$Kind")) (t' := .int) (by decide) (by decide)))
  exact Wp.ret X13 hlk (v := none) (fun _ => rfl) (fun fs hr => X13.returnOut hx Bd.returns (hb hby d8_25) hr) (by decide) (by decide) (show Q_rm8 Z a1 v2 a3 p4 p5 h0 n0 _ T13.heap _ by rw [e13]; exact ⟨rfl, N13, K23, F24, F27⟩)
theorem pn_10 : plainName "com/example/trusswork/trusswork/schema/Token" = true := by first | (simp [plainName, overriddenIn]; done) | decide +kernel
theorem d10_0 : decode prog_45_method_3_code 0 = .ok (.aload_n 0, 1) := by decide +kernel
theorem d10_1 : decode prog_45_method_3_code 1 = .ok (.getfield 7, 3) := by decide +kernel
theorem d10_4 : decode prog_45_method_3_code 4 = .ok (.aload_n 1, 1) := by decide +kernel
theorem d10_5 : decode prog_45_method_3_code 5 = .ok (.if_acmp .ne 7, 3) := by decide +kernel
theorem d10_8 : decode prog_45_method_3_code 8 = .ok (.iconst 1, 1) := by decide +kernel
theorem d10_9 : decode prog_45_method_3_code 9 = .ok (.goto 4, 3) := by decide +kernel
theorem d10_13 : decode prog_45_method_3_code 13 = .ok (.ireturn, 1) := by decide +kernel
theorem d10_12 : decode prog_45_method_3_code 12 = .ok (.iconst 0, 1) := by decide +kernel
theorem ef_rm10 (m : MethodId) (a1 : Addr) (v3 : Value) (hv3 : v3.isRef = true) : entryFrame m #[(.ref a1), v3] 2 = mkF m 0 #[.val (.ref a1), .val v3] [] := by
  rcases ref_cases hv3 with rfl | ⟨_, rfl⟩
  all_goals first | (simp [entryFrame, mkF, argsToLocals, Value.category]; done) | rfl
def Q_rm10 (Z : State) (a1 : Addr) (v3 : Value) (v2 : Value) (h0 : Heap) (n0 : Nat) (v : Option Value) (h : Heap) (L : List Loc) : Prop := (v = some (.int (if (v2 : Value) = v3 then (1 : Int32) else (0 : Int32)))) ∧ (Fr n0 L) ∧ (h = h0)
set_option maxRecDepth 65536 in
set_option maxHeartbeats 40000000 in
theorem rm10 (l : Launch) (Z : State) (a0 : Array Value) (hw : ∀ d ∈ tables_1, d.before a0 Z = true) (ws : List Jvm.Cond) (a1 : Addr) (v3 : Value) (v2 : Value) (h0 : Heap) (n0 : Nat) (Z0 : n0 ≤ h0.size) (hv3 : Value.isRef v3 = true) (P1 : Fld Z h0 a1 "com/example/trusswork/trusswork/schema/Token" "kind" "Lcom/example/trusswork/trusswork/schema/Token$Kind;" v2) (hv2 : Value.isRef v2 = true) :
    MetFree l (⟨"com/example/trusswork/trusswork/schema/Token", "is", "(Lcom/example/trusswork/trusswork/schema/Token$Kind;)Z"⟩ : MethodName) (head1 (Jvm.Cond.code (⟨"com/example/trusswork/trusswork/schema/Token", "is", "(Lcom/example/trusswork/trusswork/schema/Token$Kind;)Z"⟩ : MethodName) prog_45_method_3_code 2 (some .boolean) :: ws) ({ frames := 0, cells := 0, slots := 0, locals := 0 } : Room)) (fun a U => a = #[(.ref a1), v3] ∧ Z.Warmed39 U.vm ∧ U.heap = h0) (fun _ _ _ _ _ => True) (fun _ U o U' => ∃ v L, o = .returned v ∧ Q_rm10 Z a1 v3 v2 h0 n0 v U'.heap L ∧ FrameEnd U o U' L ({ frames := 0, cells := 0, slots := 0, locals := 0 } : Room).cells ({ frames := 0, cells := 0, slots := 0, locals := 0 } : Room).slots) := by
  refine MetFree.of_bodySF (plainFor_of_name pn_10) hisR ?_
  intro p e s m args below meth c s₁ Bd hml0 hP hK
  obtain ⟨rfl, hZ, hh⟩ := hP
  have hx := Bd.exec
  have hby := Bd.bytes
  have hml : c.maxLocals = 2 := hml0
  have hown : s.vm.findClass "com/example/trusswork/trusswork/schema/Token" = some m.cls := findClass_of_methodNamed Bd.named
  have hnm := (name_of_methodNamed Bd.named Bd.method).1
  have hlk := Bd.notSynchronized
  have X0 : Stand p l e ({ frames := 0, cells := 0, slots := 0, locals := 0 } : Room) s m #[(.ref a1), v3] below meth c s₁ [] 0 0 := Stand.of_body Bd
  have e0 : s₁.heap = h0 := by rw [← hh, Bd.state]; rfl
  have N0 := Fr.nil n0
  refine Wp.goal (Post := (fun o U' => ∃ v L, o = .returned v ∧ Q_rm10 Z a1 v3 v2 h0 n0 v U'.heap L ∧ FrameEnd s o U' L ({ frames := 0, cells := 0, slots := 0, locals := 0 } : Room).cells ({ frames := 0, cells := 0, slots := 0, locals := 0 } : Room).slots)) (Wp.st (S' := s₁.setTop (mkF m 0 #[.val (.ref a1), .val v3] [])) (fun tt_ kk_ => castTop (ef_rm10 m a1 v3 hv3) kk_) ?_)
  refine Wp.st (S' := s₁.setTop (mkF m 1 #[.val (.ref a1), .val v3] [(.ref a1)])) (fun tt_ kk_ => XS.aloadN X0.here hx rfl (hb hby d10_0) rfl rfl kk_) ?_
  obtain ⟨T1, X1, e1, st1⟩ := getF X0 hx hZ hown (host := "") (Or.inl (hw _ (List.mem_of_getElem? (i := 52) rfl))) Via.refl e0 P1 (g := (mkF m 1 #[.val (.ref a1), .val v3] [(.ref a1)])) rfl rfl (hb hby d10_1)
  refine Wp.st (S' := T1.setTop (mkF m 4 #[.val (.ref a1), .val v3] [v2])) st1 ?_
  refine Wp.st (S' := T1.setTop (mkF m 5 #[.val (.ref a1), .val v3] [v3, v2])) (fun tt_ kk_ => XS.aloadN X1.here hx rfl (hb hby d10_4) rfl hv3 kk_) ?_
  by_cases h : v2 = v3
  case pos =>
    refine Wp.st (S' := T1.setTop (mkF m 8 #[.val (.ref a1), .val v3] [])) (fun tt_ kk_ => Jvm.RoadKit.acmp (g := (mkF m 5 #[.val (.ref a1), .val v3] [v3, v2])) X1 hx rfl hv2 hv3 (pc0 := 5) (pc' := 8) (same := true) rfl (hb hby d10_5) rfl (decide_eq_true h) (by decide) (by decide) kk_) ?_
    refine Wp.st (S' := T1.setTop (mkF m 9 #[.val (.ref a1), .val v3] [(.int (1 : Int32))])) (fun tt_ kk_ => XS.iconst X1.here hx rfl (hb hby d10_8) kk_) ?_
    refine Wp.st (S' := T1.setTop (mkF m 13 #[.val (.ref a1), .val v3] [(.int (1 : Int32))])) (fun tt_ kk_ => XS.goto X1.here hx rfl (pc0 := 9) (pc' := 13) rfl (hb hby d10_9) (by decide) (by decide) kk_) ?_
    exact Wp.ret X1 hlk (v := (some (.int (1 : Int32)))) (fun h => by rw [Bd.returns] at h; cases h) (fun fs hr => retN (z := (1 : Int32)) X1 hx (t := .boolean) Bd.returns (by simp) (hb hby d10_13) hr) (by decide) (by decide) (show Q_rm10 Z a1 v3 v2 h0 n0 _ T1.heap _ by rw [e1]; exact ⟨(by rw [if_pos h]), N0, rfl⟩)
  case neg =>
    refine Wp.st (S' := T1.setTop (mkF m 12 #[.val (.ref a1), .val v3] [])) (fun tt_ kk_ => Jvm.RoadKit.acmp (g := (mkF m 5 #[.val (.ref a1), .val v3] [v3, v2])) X1 hx rfl hv2 hv3 (pc0 := 5) (pc' := 12) (same := false) rfl (hb hby d10_5) rfl (decide_eq_false h) (by decide) (by decide) kk_) ?_
    refine Wp.st (S' := T1.setTop (mkF m 13 #[.val (.ref a1), .val v3] [(.int (0 : Int32))])) (fun tt_ kk_ => XS.iconst X1.here hx rfl (hb hby d10_12) kk_) ?_
    exact Wp.ret X1 hlk (v := (some (.int (0 : Int32)))) (fun h => by rw [Bd.returns] at h; cases h) (fun fs hr => retN (z := (0 : Int32)) X1 hx (t := .boolean) Bd.returns (by simp) (hb hby d10_13) hr) (by decide) (by decide) (show Q_rm10 Z a1 v3 v2 h0 n0 _ T1.heap _ by rw [e1]; exact ⟨(by rw [if_neg h]), N0, rfl⟩)
theorem pn_0 : plainName "com/example/trusswork/trusswork/schema/TokenIsPinLaw" = true := by first | (simp [plainName, overriddenIn]; done) | decide +kernel
theorem pd_1 : parseMethodDescriptor "(I)Lcom/example/trusswork/trusswork/schema/Token$Kind;" = some ⟨[.int], some (.object "com/example/trusswork/trusswork/schema/Token$Kind")⟩ := by decide +kernel
theorem pd_2 : parseMethodDescriptor "([C)V" = some ⟨[(.array .char)], none⟩ := by decide +kernel
theorem pd_3 : parseMethodDescriptor "(Lcom/example/trusswork/trusswork/schema/Token$Kind;Ljava/lang/String;II)V" = some ⟨[(.object "com/example/trusswork/trusswork/schema/Token$Kind"), (.object "java/lang/String"), .int, .int], none⟩ := by decide +kernel
theorem pd_4 : parseMethodDescriptor "(Lcom/example/trusswork/trusswork/schema/Token$Kind;)Z" = some ⟨[(.object "com/example/trusswork/trusswork/schema/Token$Kind")], some .boolean⟩ := by decide +kernel
theorem ef_rm0 (m : MethodId) (p1 : Int32) (p2 : Int32) (p3 : Int32) (p4 : Int32) (p5 : Int32) (p6 : Int32) : entryFrame m #[(.int p1), (.int p2), (.int p3), (.int p4), (.int p5), (.int p6)] maxLocals = mkF m 0 #[.val (.int p1), .val (.int p2), .val (.int p3), .val (.int p4), .val (.int p5), .val (.int p6), .unset, .unset, .unset, .unset, .unset, .unset, .unset] [] := by first | (simp [entryFrame, mkF, argsToLocals, Value.category, maxLocals]; done) | rfl
def Q_rm0 (Z : State) (p1 : Int32) (p2 : Int32) (p3 : Int32) (p4 : Int32) (p5 : Int32) (p6 : Int32) (w_IDENTIFIER : Addr) (w_STRING : Addr) (w_LEFT_BRACE : Addr) (w_RIGHT_BRACE : Addr) (w_LEFT_BRACKET : Addr) (w_RIGHT_BRACKET : Addr) (w_LESS : Addr) (w_GREATER : Addr) (w_COMMA : Addr) (w_SEMICOLON : Addr) (w_COLON : Addr) (w_EQUALS : Addr) (w_AT : Addr) (w_LEFT_PAREN : Addr) (w_RIGHT_PAREN : Addr) (w_QUESTION : Addr) (w_DOUBLE_COLON : Addr) (w_END : Addr) (zcs : Int32) (h0 : Heap) (n0 : Nat) (v : Option Value) (h : Heap) (L : List Loc) : Prop := (v = some (.int (1 : Int32))) ∧ (Fr n0 L) ∧ (Keep h0 h [])
set_option maxRecDepth 65536 in
set_option maxHeartbeats 40000000 in
theorem rm0 (l : Launch) (Z : State) (a0 : Array Value) (hw : ∀ d ∈ tables_1, d.before a0 Z = true) (ws : List Jvm.Cond) (p1 : Int32) (p2 : Int32) (p3 : Int32) (p4 : Int32) (p5 : Int32) (p6 : Int32) (w_IDENTIFIER : Addr) (w_STRING : Addr) (w_LEFT_BRACE : Addr) (w_RIGHT_BRACE : Addr) (w_LEFT_BRACKET : Addr) (w_RIGHT_BRACKET : Addr) (w_LESS : Addr) (w_GREATER : Addr) (w_COMMA : Addr) (w_SEMICOLON : Addr) (w_COLON : Addr) (w_EQUALS : Addr) (w_AT : Addr) (w_LEFT_PAREN : Addr) (w_RIGHT_PAREN : Addr) (w_QUESTION : Addr) (w_DOUBLE_COLON : Addr) (w_END : Addr) (zcs : Int32) (h0 : Heap) (n0 : Nat) (Z0 : n0 ≤ h0.size) (OZ : Jvm.RoadKit.Old Z n0 h0) (PE_IDENTIFIER : Exa Z Z.heap w_IDENTIFIER "com/example/trusswork/trusswork/schema/Token$Kind") (PS_IDENTIFIER : Sta Z Z.heap "com/example/trusswork/trusswork/schema/Token$Kind" "IDENTIFIER" "Lcom/example/trusswork/trusswork/schema/Token$Kind;" (.ref w_IDENTIFIER)) (PE_RIGHT_BRACE : Exa Z Z.heap w_RIGHT_BRACE "com/example/trusswork/trusswork/schema/Token$Kind") (PS_RIGHT_BRACE : Sta Z Z.heap "com/example/trusswork/trusswork/schema/Token$Kind" "RIGHT_BRACE" "Lcom/example/trusswork/trusswork/schema/Token$Kind;" (.ref w_RIGHT_BRACE)) (PF_IDENTIFIER_ordinal : Fld Z Z.heap w_IDENTIFIER "java/lang/Enum" "ordinal" "I" (.int (0 : Int32))) (PF_RIGHT_BRACE_ordinal : Fld Z Z.heap w_RIGHT_BRACE "java/lang/Enum" "ordinal" "I" (.int (3 : Int32))) (PE_LEFT_BRACKET : Exa Z Z.heap w_LEFT_BRACKET "com/example/trusswork/trusswork/schema/Token$Kind") (PS_LEFT_BRACKET : Sta Z Z.heap "com/example/trusswork/trusswork/schema/Token$Kind" "LEFT_BRACKET" "Lcom/example/trusswork/trusswork/schema/Token$Kind;" (.ref w_LEFT_BRACKET)) (PE_COLON : Exa Z Z.heap w_COLON "com/example/trusswork/trusswork/schema/Token$Kind") (PS_COLON : Sta Z Z.heap "com/example/trusswork/trusswork/schema/Token$Kind" "COLON" "Lcom/example/trusswork/trusswork/schema/Token$Kind;" (.ref w_COLON)) (PF_LEFT_BRACKET_ordinal : Fld Z Z.heap w_LEFT_BRACKET "java/lang/Enum" "ordinal" "I" (.int (4 : Int32))) (PF_COLON_ordinal : Fld Z Z.heap w_COLON "java/lang/Enum" "ordinal" "I" (.int (10 : Int32))) (PE_LEFT_BRACE : Exa Z Z.heap w_LEFT_BRACE "com/example/trusswork/trusswork/schema/Token$Kind") (PS_LEFT_BRACE : Sta Z Z.heap "com/example/trusswork/trusswork/schema/Token$Kind" "LEFT_BRACE" "Lcom/example/trusswork/trusswork/schema/Token$Kind;" (.ref w_LEFT_BRACE)) (PF_LEFT_BRACE_ordinal : Fld Z Z.heap w_LEFT_BRACE "java/lang/Enum" "ordinal" "I" (.int (2 : Int32))) (PE_LESS : Exa Z Z.heap w_LESS "com/example/trusswork/trusswork/schema/Token$Kind") (PS_LESS : Sta Z Z.heap "com/example/trusswork/trusswork/schema/Token$Kind" "LESS" "Lcom/example/trusswork/trusswork/schema/Token$Kind;" (.ref w_LESS)) (PE_RIGHT_PAREN : Exa Z Z.heap w_RIGHT_PAREN "com/example/trusswork/trusswork/schema/Token$Kind") (PS_RIGHT_PAREN : Sta Z Z.heap "com/example/trusswork/trusswork/schema/Token$Kind" "RIGHT_PAREN" "Lcom/example/trusswork/trusswork/schema/Token$Kind;" (.ref w_RIGHT_PAREN)) (PF_LESS_ordinal : Fld Z Z.heap w_LESS "java/lang/Enum" "ordinal" "I" (.int (6 : Int32))) (PF_RIGHT_PAREN_ordinal : Fld Z Z.heap w_RIGHT_PAREN "java/lang/Enum" "ordinal" "I" (.int (14 : Int32))) (PE_LEFT_PAREN : Exa Z Z.heap w_LEFT_PAREN "com/example/trusswork/trusswork/schema/Token$Kind") (PS_LEFT_PAREN : Sta Z Z.heap "com/example/trusswork/trusswork/schema/Token$Kind" "LEFT_PAREN" "Lcom/example/trusswork/trusswork/schema/Token$Kind;" (.ref w_LEFT_PAREN)) (PF_LEFT_PAREN_ordinal : Fld Z Z.heap w_LEFT_PAREN "java/lang/Enum" "ordinal" "I" (.int (13 : Int32))) (PE_COMMA : Exa Z Z.heap w_COMMA "com/example/trusswork/trusswork/schema/Token$Kind") (PS_COMMA : Sta Z Z.heap "com/example/trusswork/trusswork/schema/Token$Kind" "COMMA" "Lcom/example/trusswork/trusswork/schema/Token$Kind;" (.ref w_COMMA)) (PE_AT : Exa Z Z.heap w_AT "com/example/trusswork/trusswork/schema/Token$Kind") (PS_AT : Sta Z Z.heap "com/example/trusswork/trusswork/schema/Token$Kind" "AT" "Lcom/example/trusswork/trusswork/schema/Token$Kind;" (.ref w_AT)) (PF_COMMA_ordinal : Fld Z Z.heap w_COMMA "java/lang/Enum" "ordinal" "I" (.int (8 : Int32))) (PF_AT_ordinal : Fld Z Z.heap w_AT "java/lang/Enum" "ordinal" "I" (.int (12 : Int32))) (PE_DOUBLE_COLON : Exa Z Z.heap w_DOUBLE_COLON "com/example/trusswork/trusswork/schema/Token$Kind") (PS_DOUBLE_COLON : Sta Z Z.heap "com/example/trusswork/trusswork/schema/Token$Kind" "DOUBLE_COLON" "Lcom/example/trusswork/trusswork/schema/Token$Kind;" (.ref w_DOUBLE_COLON)) (PF_DOUBLE_COLON_ordinal : Fld Z Z.heap w_DOUBLE_COLON "java/lang/Enum" "ordinal" "I" (.int (16 : Int32))) (PE_SEMICOLON : Exa Z Z.heap w_SEMICOLON "com/example/trusswork/trusswork/schema/Token$Kind") (PS_SEMICOLON : Sta Z Z.heap "com/example/trusswork/trusswork/schema/Token$Kind" "SEMICOLON" "Lcom/example/trusswork/trusswork/schema/Token$Kind;" (.ref w_SEMICOLON)) (PF_SEMICOLON_ordinal : Fld Z Z.heap w_SEMICOLON "java/lang/Enum" "ordinal" "I" (.int (9 : Int32))) (PE_RIGHT_BRACKET : Exa Z Z.heap w_RIGHT_BRACKET "com/example/trusswork/trusswork/schema/Token$Kind") (PS_RIGHT_BRACKET : Sta Z Z.heap "com/example/trusswork/trusswork/schema/Token$Kind" "RIGHT_BRACKET" "Lcom/example/trusswork/trusswork/schema/Token$Kind;" (.ref w_RIGHT_BRACKET)) (PF_RIGHT_BRACKET_ordinal : Fld Z Z.heap w_RIGHT_BRACKET "java/lang/Enum" "ordinal" "I" (.int (5 : Int32))) (PE_QUESTION : Exa Z Z.heap w_QUESTION "com/example/trusswork/trusswork/schema/Token$Kind") (PS_QUESTION : Sta Z Z.heap "com/example/trusswork/trusswork/schema/Token$Kind" "QUESTION" "Lcom/example/trusswork/trusswork/schema/Token$Kind;" (.ref w_QUESTION)) (PF_QUESTION_ordinal : Fld Z Z.heap w_QUESTION "java/lang/Enum" "ordinal" "I" (.int (15 : Int32))) (PE_STRING : Exa Z Z.heap w_STRING "com/example/trusswork/trusswork/schema/Token$Kind") (PS_STRING : Sta Z Z.heap "com/example/trusswork/trusswork/schema/Token$Kind" "STRING" "Lcom/example/trusswork/trusswork/schema/Token$Kind;" (.ref w_STRING)) (PF_STRING_ordinal : Fld Z Z.heap w_STRING "java/lang/Enum" "ordinal" "I" (.int (1 : Int32))) (PE_GREATER : Exa Z Z.heap w_GREATER "com/example/trusswork/trusswork/schema/Token$Kind") (PS_GREATER : Sta Z Z.heap "com/example/trusswork/trusswork/schema/Token$Kind" "GREATER" "Lcom/example/trusswork/trusswork/schema/Token$Kind;" (.ref w_GREATER)) (PF_GREATER_ordinal : Fld Z Z.heap w_GREATER "java/lang/Enum" "ordinal" "I" (.int (7 : Int32))) (PE_EQUALS : Exa Z Z.heap w_EQUALS "com/example/trusswork/trusswork/schema/Token$Kind") (PS_EQUALS : Sta Z Z.heap "com/example/trusswork/trusswork/schema/Token$Kind" "EQUALS" "Lcom/example/trusswork/trusswork/schema/Token$Kind;" (.ref w_EQUALS)) (PF_EQUALS_ordinal : Fld Z Z.heap w_EQUALS "java/lang/Enum" "ordinal" "I" (.int (11 : Int32))) (PE_END : Exa Z Z.heap w_END "com/example/trusswork/trusswork/schema/Token$Kind") (PS_END : Sta Z Z.heap "com/example/trusswork/trusswork/schema/Token$Kind" "END" "Lcom/example/trusswork/trusswork/schema/Token$Kind;" (.ref w_END)) (PF_END_ordinal : Fld Z Z.heap w_END "java/lang/Enum" "ordinal" "I" (.int (17 : Int32))) (SCompact : Sta Z Z.heap "java/lang/String" "COMPACT_STRINGS" "Z" (.int zcs)) (hCS : ¬ zcs = 0) :
    MetFree l x (head1 (Jvm.Cond.code x code maxLocals ret :: ws) room_1) (fun a U => a = #[(.int p1), (.int p2), (.int p3), (.int p4), (.int p5), (.int p6)] ∧ Z.Warmed39 U.vm ∧ U.heap = h0) (fun _ _ _ _ _ => True) (fun _ U o U' => ∃ v L, o = .returned v ∧ Q_rm0 Z p1 p2 p3 p4 p5 p6 w_IDENTIFIER w_STRING w_LEFT_BRACE w_RIGHT_BRACE w_LEFT_BRACKET w_RIGHT_BRACKET w_LESS w_GREATER w_COMMA w_SEMICOLON w_COLON w_EQUALS w_AT w_LEFT_PAREN w_RIGHT_PAREN w_QUESTION w_DOUBLE_COLON w_END zcs h0 n0 v U'.heap L ∧ FrameEnd U o U' L room_1.cells room_1.slots) := by
  refine MetFree.of_bodySF (plainFor_of_name pn_0) hisR ?_
  intro p e s m args below meth c s₁ Bd hml0 hP hK
  obtain ⟨rfl, hZ, hh⟩ := hP
  have hx := Bd.exec
  have hby := Bd.bytes
  have hml : c.maxLocals = 13 := hml0
  have hown : s.vm.findClass "com/example/trusswork/trusswork/schema/TokenIsPinLaw" = some m.cls := findClass_of_methodNamed Bd.named
  have hnm := (name_of_methodNamed Bd.named Bd.method).1
  have hlk := Bd.notSynchronized
  have X0 : Stand p l e room_1 s m #[(.int p1), (.int p2), (.int p3), (.int p4), (.int p5), (.int p6)] below meth c s₁ [] 0 0 := Stand.of_body Bd
  have e0 : s₁.heap = h0 := by rw [← hh, Bd.state]; rfl
  have N0 := Fr.nil n0
  refine Wp.goal (Post := (fun o U' => ∃ v L, o = .returned v ∧ Q_rm0 Z p1 p2 p3 p4 p5 p6 w_IDENTIFIER w_STRING w_LEFT_BRACE w_RIGHT_BRACE w_LEFT_BRACKET w_RIGHT_BRACKET w_LESS w_GREATER w_COMMA w_SEMICOLON w_COLON w_EQUALS w_AT w_LEFT_PAREN w_RIGHT_PAREN w_QUESTION w_DOUBLE_COLON w_END zcs h0 n0 v U'.heap L ∧ FrameEnd s o U' L room_1.cells room_1.slots)) (Wp.st (S' := s₁.setTop (mkF m 0 #[.val (.int p1), .val (.int p2), .val (.int p3), .val (.int p4), .val (.int p5), .val (.int p6), .unset, .unset, .unset, .unset, .unset, .unset, .unset] [])) (fun tt_ kk_ => castTop (ef_rm0 m p1 p2 p3 p4 p5 p6 ) kk_) ?_)
  have O0 : Jvm.RoadKit.Old Z n0 h0 := OZ
  refine Wp.st (S' := s₁.setTop (mkF m 1 #[.val (.int p1), .val (.int p2), .val (.int p3), .val (.int p4), .val (.int p5), .val (.int p6), .unset, .unset, .unset, .unset, .unset, .unset, .unset] [(.int p1)])) (fun tt_ kk_ => XS.iloadN X0.here hx rfl (hb hby at_0) rfl  kk_) ?_
  refine Wp.st (S' := s₁.setTop (mkF m 3 #[.val (.int p1), .val (.int p2), .val (.int p3), .val (.int p4), .val (.int p5), .val (.int p6), .unset, .unset, .unset, .unset, .unset, .unset, .unset] [(.int (2147483647 : Int32)), (.int p1)])) (fun tt_ kk_ => X0.ldcInt hx hown (mvT hZ (hw _ (List.mem_of_getElem? (i := 0) rfl))) (g := (mkF m 1 #[.val (.int p1), .val (.int p2), .val (.int p3), .val (.int p4), .val (.int p5), .val (.int p6), .unset, .unset, .unset, .unset, .unset, .unset, .unset] [(.int p1)])) rfl (hb hby at_1) tt_ kk_) ?_
  refine Wp.st (S' := s₁.setTop (mkF m 4 #[.val (.int p1), .val (.int p2), .val (.int p3), .val (.int p4), .val (.int p5), .val (.int p6), .unset, .unset, .unset, .unset, .unset, .unset, .unset] [(.int (p1 &&& (2147483647 : Int32)))])) (fun tt_ kk_ => XS.iand X0.here hx rfl (hb hby at_3) rfl kk_) ?_
  refine Wp.st (S' := s₁.setTop (mkF m 6 #[.val (.int p1), .val (.int p2), .val (.int p3), .val (.int p4), .val (.int p5), .val (.int p6), .unset, .unset, .unset, .unset, .unset, .unset, .unset] [(.int (18 : Int32)), (.int (p1 &&& (2147483647 : Int32)))])) (fun tt_ kk_ => XS.bipush X0.here hx rfl (hb hby at_4) kk_) ?_
  refine Wp.st (S' := s₁.setTop (mkF m 7 #[.val (.int p1), .val (.int p2), .val (.int p3), .val (.int p4), .val (.int p5), .val (.int p6), .unset, .unset, .unset, .unset, .unset, .unset, .unset] [(.int ((p1 &&& (2147483647 : Int32)) % (18 : Int32)))])) (fun tt_ kk_ => iremM X0 hx rfl (hb hby at_6) rfl (by decide) kk_) ?_
  refine Wp.st (S' := s₁.setTop (mkF m 9 #[.val (.int p1), .val (.int p2), .val (.int p3), .val (.int p4), .val (.int p5), .val (.int p6), .val (.int ((p1 &&& (2147483647 : Int32)) % (18 : Int32))), .unset, .unset, .unset, .unset, .unset, .unset] [])) (fun tt_ kk_ => XS.istore X0.here hx rfl (hb hby at_7) rfl (l' := #[.val (.int p1), .val (.int p2), .val (.int p3), .val (.int p4), .val (.int p5), .val (.int p6), .val (.int ((p1 &&& (2147483647 : Int32)) % (18 : Int32))), .unset, .unset, .unset, .unset, .unset, .unset]) rfl kk_) ?_
  have hk := own_in18 (own_rem p1 18 (by decide))
  generalize hki : ((p1 &&& (2147483647 : Int32)) % (18 : Int32)) = ki
  rw [hki] at hk
  refine Wp.st (S' := s₁.setTop (mkF m 10 #[.val (.int p1), .val (.int p2), .val (.int p3), .val (.int p4), .val (.int p5), .val (.int p6), .val (.int ki), .unset, .unset, .unset, .unset, .unset, .unset] [(.int p2)])) (fun tt_ kk_ => XS.iloadN X0.here hx rfl (hb hby at_9) rfl  kk_) ?_
  refine Wp.st (S' := s₁.setTop (mkF m 12 #[.val (.int p1), .val (.int p2), .val (.int p3), .val (.int p4), .val (.int p5), .val (.int p6), .val (.int ki), .unset, .unset, .unset, .unset, .unset, .unset] [(.int (2147483647 : Int32)), (.int p2)])) (fun tt_ kk_ => X0.ldcInt hx hown (mvT hZ (hw _ (List.mem_of_getElem? (i := 0) rfl))) (g := (mkF m 10 #[.val (.int p1), .val (.int p2), .val (.int p3), .val (.int p4), .val (.int p5), .val (.int p6), .val (.int ki), .unset, .unset, .unset, .unset, .unset, .unset] [(.int p2)])) rfl (hb hby at_10) tt_ kk_) ?_
  refine Wp.st (S' := s₁.setTop (mkF m 13 #[.val (.int p1), .val (.int p2), .val (.int p3), .val (.int p4), .val (.int p5), .val (.int p6), .val (.int ki), .unset, .unset, .unset, .unset, .unset, .unset] [(.int (p2 &&& (2147483647 : Int32)))])) (fun tt_ kk_ => XS.iand X0.here hx rfl (hb hby at_12) rfl kk_) ?_
  refine Wp.st (S' := s₁.setTop (mkF m 15 #[.val (.int p1), .val (.int p2), .val (.int p3), .val (.int p4), .val (.int p5), .val (.int p6), .val (.int ki), .unset, .unset, .unset, .unset, .unset, .unset] [(.int (19 : Int32)), (.int (p2 &&& (2147483647 : Int32)))])) (fun tt_ kk_ => XS.bipush X0.here hx rfl (hb hby at_13) kk_) ?_
  refine Wp.st (S' := s₁.setTop (mkF m 16 #[.val (.int p1), .val (.int p2), .val (.int p3), .val (.int p4), .val (.int p5), .val (.int p6), .val (.int ki), .unset, .unset, .unset, .unset, .unset, .unset] [(.int ((p2 &&& (2147483647 : Int32)) % (19 : Int32)))])) (fun tt_ kk_ => iremM X0 hx rfl (hb hby at_15) rfl (by decide) kk_) ?_
  refine Wp.st (S' := s₁.setTop (mkF m 18 #[.val (.int p1), .val (.int p2), .val (.int p3), .val (.int p4), .val (.int p5), .val (.int p6), .val (.int ki), .val (.int ((p2 &&& (2147483647 : Int32)) % (19 : Int32))), .unset, .unset, .unset, .unset, .unset] [])) (fun tt_ kk_ => XS.istore X0.here hx rfl (hb hby at_16) rfl (l' := #[.val (.int p1), .val (.int p2), .val (.int p3), .val (.int p4), .val (.int p5), .val (.int p6), .val (.int ki), .val (.int ((p2 &&& (2147483647 : Int32)) % (19 : Int32))), .unset, .unset, .unset, .unset, .unset]) rfl kk_) ?_
  have ho := own_in19 (own_rem p2 19 (by decide))
  generalize hoi : ((p2 &&& (2147483647 : Int32)) % (19 : Int32)) = oi
  rw [hoi] at ho
  have hs := own_same Z w_IDENTIFIER w_STRING w_LEFT_BRACE w_RIGHT_BRACE w_LEFT_BRACKET w_RIGHT_BRACKET w_LESS w_GREATER w_COMMA w_SEMICOLON w_COLON w_EQUALS w_AT w_LEFT_PAREN w_RIGHT_PAREN w_QUESTION w_DOUBLE_COLON w_END ki oi PF_IDENTIFIER_ordinal PF_STRING_ordinal PF_LEFT_BRACE_ordinal PF_RIGHT_BRACE_ordinal PF_LEFT_BRACKET_ordinal PF_RIGHT_BRACKET_ordinal PF_LESS_ordinal PF_GREATER_ordinal PF_COMMA_ordinal PF_SEMICOLON_ordinal PF_COLON_ordinal PF_EQUALS_ordinal PF_AT_ordinal PF_LEFT_PAREN_ordinal PF_RIGHT_PAREN_ordinal PF_QUESTION_ordinal PF_DOUBLE_COLON_ordinal PF_END_ordinal hk ho
  refine Wp.st (S' := s₁.setTop (mkF m 20 #[.val (.int p1), .val (.int p2), .val (.int p3), .val (.int p4), .val (.int p5), .val (.int p6), .val (.int ki), .val (.int oi), .unset, .unset, .unset, .unset, .unset] [(.int ki)])) (fun tt_ kk_ => XS.iload X0.here hx rfl (hb hby at_18) rfl  kk_) ?_
  obtain ⟨vv1, _, ⟨T1, L1, k1, n1⟩, -, X1, ⟨Lc1, hQ1, l1, y1, z1⟩, st1⟩ := Jvm.LawKit.callS X0 hx (y := (⟨"com/example/trusswork/trusswork/schema/TokenIsPinLaw", "kindOf", "(I)Lcom/example/trusswork/trusswork/schema/Token$Kind;"⟩ : MethodName)) hown (mvT hZ (hw _ (List.mem_of_getElem? (i := 1) rfl))) (mvT hZ (hw _ (List.mem_of_getElem? (i := 2) rfl))) (mvT hZ (hw _ (List.mem_of_getElem? (i := 3) rfl))) (mvT hZ (hw _ (List.mem_of_getElem? (i := 4) rfl))) (by decide) (backOf (W := 0) (rm1 l Z a0 hw [] ki w_IDENTIFIER w_STRING w_LEFT_BRACE w_RIGHT_BRACE w_LEFT_BRACKET w_RIGHT_BRACKET w_LESS w_GREATER w_COMMA w_SEMICOLON w_COLON w_EQUALS w_AT w_LEFT_PAREN w_RIGHT_PAREN w_QUESTION w_DOUBLE_COLON w_END h0 n0 Z0 O0 PS_IDENTIFIER PS_STRING PS_LEFT_BRACE PS_RIGHT_BRACE PS_LEFT_BRACKET PS_RIGHT_BRACKET PS_LESS PS_GREATER PS_COMMA PS_SEMICOLON PS_COLON PS_EQUALS PS_AT PS_LEFT_PAREN PS_RIGHT_PAREN PS_QUESTION PS_DOUBLE_COLON PS_END) hZ (hw _ (List.mem_of_getElem? (i := 4) rfl)) (hw _ (List.mem_of_getElem? (i := 3) rfl)) (by decide) (by decide)) (g := (mkF m 20 #[.val (.int p1), .val (.int p2), .val (.int p3), .val (.int p4), .val (.int p5), .val (.int p6), .val (.int ki), .val (.int oi), .unset, .unset, .unset, .unset, .unset] [(.int ki)])) rfl (by rw [hml]; rfl) (argsL := [(.int ki)]) (rest := []) (lenOf pd_1 rfl) rfl (by show 2 * 0 + _ ≤ _; exact Nat.le_of_eq rfl) (hb hby at_20) (fun _ _ => ⟨rfl, e0, (by decide : 0 + 0 ≤ _), (by decide : 0 + 0 ≤ _)⟩)
  dsimp only [Pt.U, Pt.locs, Pt.cells, Pt.slots] at X1 l1 y1 z1 st1 hQ1
  subst l1 y1 z1
  obtain ⟨rfl, Nq1, e1⟩ := hQ1
  have N1 := Fr.app N0 Nq1
  refine Wp.st (S' := T1.setTop (mkF m 23 #[.val (.int p1), .val (.int p2), .val (.int p3), .val (.int p4), .val (.int p5), .val (.int p6), .val (.int ki), .val (.int oi), .unset, .unset, .unset, .unset, .unset] [(own_kind w_IDENTIFIER w_STRING w_LEFT_BRACE w_RIGHT_BRACE w_LEFT_BRACKET w_RIGHT_BRACKET w_LESS w_GREATER w_COMMA w_SEMICOLON w_COLON w_EQUALS w_AT w_LEFT_PAREN w_RIGHT_PAREN w_QUESTION w_DOUBLE_COLON w_END ki)])) st1 ?_
  have hr_va := own_kind_ref w_IDENTIFIER w_STRING w_LEFT_BRACE w_RIGHT_BRACE w_LEFT_BRACKET w_RIGHT_BRACKET w_LESS w_GREATER w_COMMA w_SEMICOLON w_COLON w_EQUALS w_AT w_LEFT_PAREN w_RIGHT_PAREN w_QUESTION w_DOUBLE_COLON w_END ki
  generalize hv_va : (own_kind w_IDENTIFIER w_STRING w_LEFT_BRACE w_RIGHT_BRACE w_LEFT_BRACKET w_RIGHT_BRACKET w_LESS w_GREATER w_COMMA w_SEMICOLON w_COLON w_EQUALS w_AT w_LEFT_PAREN w_RIGHT_PAREN w_QUESTION w_DOUBLE_COLON w_END ki) = va
  rw [hv_va] at hr_va hs
  refine Wp.st (S' := T1.setTop (mkF m 25 #[.val (.int p1), .val (.int p2), .val (.int p3), .val (.int p4), .val (.int p5), .val (.int p6), .val (.int ki), .val (.int oi), .val va, .unset, .unset, .unset, .unset] [])) (fun tt_ kk_ => XS.astoreS X1.here hx rfl (hb hby at_23) rfl hr_va (own_cat1 hr_va) rfl (Or.inl rfl) kk_) ?_
  refine Wp.st (S' := T1.setTop (mkF m 27 #[.val (.int p1), .val (.int p2), .val (.int p3), .val (.int p4), .val (.int p5), .val (.int p6), .val (.int ki), .val (.int oi), .val va, .unset, .unset, .unset, .unset] [(.int oi)])) (fun tt_ kk_ => XS.iload X1.here hx rfl (hb hby at_25) rfl  kk_) ?_
  obtain ⟨vv2, _, ⟨T2, L2, k2, n2⟩, -, X2, ⟨Lc2, hQ2, l2, y2, z2⟩, st2⟩ := Jvm.LawKit.callS X1 hx (y := (⟨"com/example/trusswork/trusswork/schema/TokenIsPinLaw", "kindOf", "(I)Lcom/example/trusswork/trusswork/schema/Token$Kind;"⟩ : MethodName)) hown (mvT hZ (hw _ (List.mem_of_getElem? (i := 1) rfl))) (mvT hZ (hw _ (List.mem_of_getElem? (i := 2) rfl))) (mvT hZ (hw _ (List.mem_of_getElem? (i := 3) rfl))) (mvT hZ (hw _ (List.mem_of_getElem? (i := 4) rfl))) (by decide) (backOf (W := 0) (rm1 l Z a0 hw [] oi w_IDENTIFIER w_STRING w_LEFT_BRACE w_RIGHT_BRACE w_LEFT_BRACKET w_RIGHT_BRACKET w_LESS w_GREATER w_COMMA w_SEMICOLON w_COLON w_EQUALS w_AT w_LEFT_PAREN w_RIGHT_PAREN w_QUESTION w_DOUBLE_COLON w_END h0 n0 Z0 O0 PS_IDENTIFIER PS_STRING PS_LEFT_BRACE PS_RIGHT_BRACE PS_LEFT_BRACKET PS_RIGHT_BRACKET PS_LESS PS_GREATER PS_COMMA PS_SEMICOLON PS_COLON PS_EQUALS PS_AT PS_LEFT_PAREN PS_RIGHT_PAREN PS_QUESTION PS_DOUBLE_COLON PS_END) hZ (hw _ (List.mem_of_getElem? (i := 4) rfl)) (hw _ (List.mem_of_getElem? (i := 3) rfl)) (by decide) (by decide)) (g := (mkF m 27 #[.val (.int p1), .val (.int p2), .val (.int p3), .val (.int p4), .val (.int p5), .val (.int p6), .val (.int ki), .val (.int oi), .val va, .unset, .unset, .unset, .unset] [(.int oi)])) rfl (by rw [hml]; rfl) (argsL := [(.int oi)]) (rest := []) (lenOf pd_1 rfl) rfl (by show 2 * 0 + _ ≤ _; exact Nat.le_of_eq rfl) (hb hby at_27) (fun _ _ => ⟨rfl, e1, (by decide : 0 + 0 ≤ _), (by decide : 0 + 0 ≤ _)⟩)
  dsimp only [Pt.U, Pt.locs, Pt.cells, Pt.slots] at X2 l2 y2 z2 st2 hQ2
  subst l2 y2 z2
  obtain ⟨rfl, Nq2, e2⟩ := hQ2
  have N2 := Fr.app N1 Nq2
  refine Wp.st (S' := T2.setTop (mkF m 30 #[.val (.int p1), .val (.int p2), .val (.int p3), .val (.int p4), .val (.int p5), .val (.int p6), .val (.int ki), .val (.int oi), .val va, .unset, .unset, .unset, .unset] [(own_kind w_IDENTIFIER w_STRING w_LEFT_BRACE w_RIGHT_BRACE w_LEFT_BRACKET w_RIGHT_BRACKET w_LESS w_GREATER w_COMMA w_SEMICOLON w_COLON w_EQUALS w_AT w_LEFT_PAREN w_RIGHT_PAREN w_QUESTION w_DOUBLE_COLON w_END oi)])) st2 ?_
  have hr_vb := own_kind_ref w_IDENTIFIER w_STRING w_LEFT_BRACE w_RIGHT_BRACE w_LEFT_BRACKET w_RIGHT_BRACKET w_LESS w_GREATER w_COMMA w_SEMICOLON w_COLON w_EQUALS w_AT w_LEFT_PAREN w_RIGHT_PAREN w_QUESTION w_DOUBLE_COLON w_END oi
  generalize hv_vb : (own_kind w_IDENTIFIER w_STRING w_LEFT_BRACE w_RIGHT_BRACE w_LEFT_BRACKET w_RIGHT_BRACKET w_LESS w_GREATER w_COMMA w_SEMICOLON w_COLON w_EQUALS w_AT w_LEFT_PAREN w_RIGHT_PAREN w_QUESTION w_DOUBLE_COLON w_END oi) = vb
  rw [hv_vb] at hr_vb hs
  refine Wp.st (S' := T2.setTop (mkF m 32 #[.val (.int p1), .val (.int p2), .val (.int p3), .val (.int p4), .val (.int p5), .val (.int p6), .val (.int ki), .val (.int oi), .val va, .val vb, .unset, .unset, .unset] [])) (fun tt_ kk_ => XS.astoreS X2.here hx rfl (hb hby at_30) rfl hr_vb (own_cat1 hr_vb) rfl (Or.inl rfl) kk_) ?_
  refine Wp.st (S' := T2.setTop (mkF m 33 #[.val (.int p1), .val (.int p2), .val (.int p3), .val (.int p4), .val (.int p5), .val (.int p6), .val (.int ki), .val (.int oi), .val va, .val vb, .unset, .unset, .unset] [(.int (2 : Int32))])) (fun tt_ kk_ => XS.iconst X2.here hx rfl (hb hby at_32) kk_) ?_
  obtain ⟨T3, h3, k3, X3, e3, E3, A3, st3⟩ := newP X2 hx hZ (hw _ (List.mem_of_getElem? (i := 10) rfl)) e2 (g := (mkF m 33 #[.val (.int p1), .val (.int p2), .val (.int p3), .val (.int p4), .val (.int p5), .val (.int p6), .val (.int ki), .val (.int oi), .val va, .val vb, .unset, .unset, .unset] [(.int (2 : Int32))])) rfl (hb hby at_33) rfl (by decide) (cap := 2) (by decide) (by decide) (by decide) (by decide)
  obtain ⟨b3, g3⟩ : ∃ z, z = h0.size := ⟨_, rfl⟩
  rw [← g3] at A3 st3
  have z4 := E3.1
  have V3 : Arv Z h3 b3 k3 .char (2 : Int32) [(.int (0 : Int32)), (.int (0 : Int32))] (.int (0 : Int32)) := (Arv.new A3 (by decide)).pad (pad_rep [] (.int (0 : Int32)) 2)
  have g5 : n0 ≤ b3 := Nat.le_trans (Nat.le_trans Z0 (Nat.le_refl _)) (Nat.le_of_eq g3.symm)
  refine Wp.st (S' := T3.setTop (mkF m 35 #[.val (.int p1), .val (.int p2), .val (.int p3), .val (.int p4), .val (.int p5), .val (.int p6), .val (.int ki), .val (.int oi), .val va, .val vb, .unset, .unset, .unset] [(.ref b3)])) st3 ?_
  refine Wp.st (S' := T3.setTop (mkF m 37 #[.val (.int p1), .val (.int p2), .val (.int p3), .val (.int p4), .val (.int p5), .val (.int p6), .val (.int ki), .val (.int oi), .val va, .val vb, .val (.ref b3), .unset, .unset] [])) (fun tt_ kk_ => XS.astore X3.here hx rfl (hb hby at_35) rfl rfl (l' := #[.val (.int p1), .val (.int p2), .val (.int p3), .val (.int p4), .val (.int p5), .val (.int p6), .val (.int ki), .val (.int oi), .val va, .val vb, .val (.ref b3), .unset, .unset]) rfl kk_) ?_
  refine Wp.st (S' := T3.setTop (mkF m 39 #[.val (.int p1), .val (.int p2), .val (.int p3), .val (.int p4), .val (.int p5), .val (.int p6), .val (.int ki), .val (.int oi), .val va, .val vb, .val (.ref b3), .unset, .unset] [(.ref b3)])) (fun tt_ kk_ => XS.aload X3.here hx rfl (hb hby at_37) rfl rfl kk_) ?_
  refine Wp.st (S' := T3.setTop (mkF m 40 #[.val (.int p1), .val (.int p2), .val (.int p3), .val (.int p4), .val (.int p5), .val (.int p6), .val (.int ki), .val (.int oi), .val va, .val vb, .val (.ref b3), .unset, .unset] [(.int (0 : Int32)), (.ref b3)])) (fun tt_ kk_ => XS.iconst X3.here hx rfl (hb hby at_39) kk_) ?_
  refine Wp.st (S' := T3.setTop (mkF m 41 #[.val (.int p1), .val (.int p2), .val (.int p3), .val (.int p4), .val (.int p5), .val (.int p6), .val (.int ki), .val (.int oi), .val va, .val vb, .val (.ref b3), .unset, .unset] [(.int p3), (.int (0 : Int32)), (.ref b3)])) (fun tt_ kk_ => XS.iloadN X3.here hx rfl (hb hby at_40) rfl  kk_) ?_
  refine Wp.st (S' := T3.setTop (mkF m 44 #[.val (.int p1), .val (.int p2), .val (.int p3), .val (.int p4), .val (.int p5), .val (.int p6), .val (.int ki), .val (.int oi), .val va, .val vb, .val (.ref b3), .unset, .unset] [(.int (255 : Int32)), (.int p3), (.int (0 : Int32)), (.ref b3)])) (fun tt_ kk_ => XS.sipush X3.here hx rfl (hb hby at_41) kk_) ?_
  refine Wp.st (S' := T3.setTop (mkF m 45 #[.val (.int p1), .val (.int p2), .val (.int p3), .val (.int p4), .val (.int p5), .val (.int p6), .val (.int ki), .val (.int oi), .val va, .val vb, .val (.ref b3), .unset, .unset] [(.int (p3 &&& (255 : Int32))), (.int (0 : Int32)), (.ref b3)])) (fun tt_ kk_ => XS.iand X3.here hx rfl (hb hby at_44) rfl kk_) ?_
  refine Wp.st (S' := T3.setTop (mkF m 46 #[.val (.int p1), .val (.int p2), .val (.int p3), .val (.int p4), .val (.int p5), .val (.int p6), .val (.int ki), .val (.int oi), .val va, .val vb, .val (.ref b3), .unset, .unset] [(.int ((p3 &&& (255 : Int32)).toUInt32.toUInt16.toUInt32.toInt32)), (.int (0 : Int32)), (.ref b3)])) (fun tt_ kk_ => XS.i2c X3.here hx rfl (hb hby at_45) rfl kk_) ?_
  obtain ⟨cl6, Ar6, q6, S6, N6, H6, G6⟩ := V3
  have hin6 := inb_of (j := (0 : Int32)) S6 ⟨by decide, by decide⟩
  obtain ⟨T6, h6, X6, e6, W6, st6⟩ := stC X3 hx hZ e3 Ar6 (j := (0 : Int32)) hin6 (g := (mkF m 46 #[.val (.int p1), .val (.int p2), .val (.int p3), .val (.int p4), .val (.int p5), .val (.int p6), .val (.int ki), .val (.int oi), .val va, .val vb, .val (.ref b3), .unset, .unset] [(.int ((p3 &&& (255 : Int32)).toUInt32.toUInt16.toUInt32.toInt32)), (.int (0 : Int32)), (.ref b3)])) rfl rfl (hb hby at_46)
  have z7 := Nat.le_of_eq W6.size.symm
  have V6 : Arv Z h6 b3 k3 .char (2 : Int32) [(.int (nar .char ((p3 &&& (255 : Int32)).toUInt32.toUInt16.toUInt32.toInt32))), (.int (0 : Int32))] (.int (0 : Int32)) := Arv.set Ar6 q6 S6 N6 H6 G6 (fits_nar_char _) W6 0 rfl (Nat.le_of_ble_eq_true rfl)
  have Nf6 := Fr.snoc X6 N2 g5
  refine Wp.st (S' := T6.setTop (mkF m 47 #[.val (.int p1), .val (.int p2), .val (.int p3), .val (.int p4), .val (.int p5), .val (.int p6), .val (.int ki), .val (.int oi), .val va, .val vb, .val (.ref b3), .unset, .unset] [])) st6 ?_
  refine Wp.st (S' := T6.setTop (mkF m 49 #[.val (.int p1), .val (.int p2), .val (.int p3), .val (.int p4), .val (.int p5), .val (.int p6), .val (.int ki), .val (.int oi), .val va, .val vb, .val (.ref b3), .unset, .unset] [(.ref b3)])) (fun tt_ kk_ => XS.aload X6.here hx rfl (hb hby at_47) rfl rfl kk_) ?_
  refine Wp.st (S' := T6.setTop (mkF m 50 #[.val (.int p1), .val (.int p2), .val (.int p3), .val (.int p4), .val (.int p5), .val (.int p6), .val (.int ki), .val (.int oi), .val va, .val vb, .val (.ref b3), .unset, .unset] [(.int (1 : Int32)), (.ref b3)])) (fun tt_ kk_ => XS.iconst X6.here hx rfl (hb hby at_49) kk_) ?_
  refine Wp.st (S' := T6.setTop (mkF m 51 #[.val (.int p1), .val (.int p2), .val (.int p3), .val (.int p4), .val (.int p5), .val (.int p6), .val (.int ki), .val (.int oi), .val va, .val vb, .val (.ref b3), .unset, .unset] [(.int p4), (.int (1 : Int32)), (.ref b3)])) (fun tt_ kk_ => XS.iloadN X6.here hx rfl (hb hby at_50) rfl  kk_) ?_
  refine Wp.st (S' := T6.setTop (mkF m 54 #[.val (.int p1), .val (.int p2), .val (.int p3), .val (.int p4), .val (.int p5), .val (.int p6), .val (.int ki), .val (.int oi), .val va, .val vb, .val (.ref b3), .unset, .unset] [(.int (255 : Int32)), (.int p4), (.int (1 : Int32)), (.ref b3)])) (fun tt_ kk_ => XS.sipush X6.here hx rfl (hb hby at_51) kk_) ?_
  refine Wp.st (S' := T6.setTop (mkF m 55 #[.val (.int p1), .val (.int p2), .val (.int p3), .val (.int p4), .val (.int p5), .val (.int p6), .val (.int ki), .val (.int oi), .val va, .val vb, .val (.ref b3), .unset, .unset] [(.int (p4 &&& (255 : Int32))), (.int (1 : Int32)), (.ref b3)])) (fun tt_ kk_ => XS.iand X6.here hx rfl (hb hby at_54) rfl kk_) ?_
  refine Wp.st (S' := T6.setTop (mkF m 56 #[.val (.int p1), .val (.int p2), .val (.int p3), .val (.int p4), .val (.int p5), .val (.int p6), .val (.int ki), .val (.int oi), .val va, .val vb, .val (.ref b3), .unset, .unset] [(.int ((p4 &&& (255 : Int32)).toUInt32.toUInt16.toUInt32.toInt32)), (.int (1 : Int32)), (.ref b3)])) (fun tt_ kk_ => XS.i2c X6.here hx rfl (hb hby at_55) rfl kk_) ?_
  obtain ⟨cl8, Ar8, q8, S8, N8, H8, G8⟩ := V6
  have hin8 := inb_of (j := (1 : Int32)) S8 ⟨by decide, by decide⟩
  obtain ⟨T8, h8, X8, e8, W8, st8⟩ := stC X6 hx hZ e6 Ar8 (j := (1 : Int32)) hin8 (g := (mkF m 56 #[.val (.int p1), .val (.int p2), .val (.int p3), .val (.int p4), .val (.int p5), .val (.int p6), .val (.int ki), .val (.int oi), .val va, .val vb, .val (.ref b3), .unset, .unset] [(.int ((p4 &&& (255 : Int32)).toUInt32.toUInt16.toUInt32.toInt32)), (.int (1 : Int32)), (.ref b3)])) rfl rfl (hb hby at_56)
  have z9 := Nat.le_of_eq W8.size.symm
  have V8 : Arv Z h8 b3 k3 .char (2 : Int32) [(.int (nar .char ((p3 &&& (255 : Int32)).toUInt32.toUInt16.toUInt32.toInt32))), (.int (nar .char ((p4 &&& (255 : Int32)).toUInt32.toUInt16.toUInt32.toInt32)))] (.int (0 : Int32)) := Arv.set Ar8 q8 S8 N8 H8 G8 (fits_nar_char _) W8 1 rfl (Nat.le_of_ble_eq_true rfl)
  have Nf8 := Fr.snoc X8 Nf6 g5
  refine Wp.st (S' := T8.setTop (mkF m 57 #[.val (.int p1), .val (.int p2), .val (.int p3), .val (.int p4), .val (.int p5), .val (.int p6), .val (.int ki), .val (.int oi), .val va, .val vb, .val (.ref b3), .unset, .unset] [])) st8 ?_
  obtain ⟨T10, h10, X10, e10, E10, A10, D10, U10, st10⟩ := newO X8 hx hZ hown (hw _ (List.mem_of_getElem? (i := 11) rfl)) (hw _ (List.mem_of_getElem? (i := 12) rfl)) (hw _ (List.mem_of_getElem? (i := 13) rfl)) e8 (g := (mkF m 57 #[.val (.int p1), .val (.int p2), .val (.int p3), .val (.int p4), .val (.int p5), .val (.int p6), .val (.int ki), .val (.int oi), .val va, .val vb, .val (.ref b3), .unset, .unset] [])) rfl (hb hby at_57) (by decide) (by decide)
  obtain ⟨b10, g10⟩ : ∃ z, z = h8.size := ⟨_, rfl⟩
  rw [← g10] at A10 D10 U10 st10
  have z11 := E10.1
  have g12 : n0 ≤ b10 := Nat.le_trans (Nat.le_trans Z0 (Nat.le_trans (Nat.le_trans z4 z7) z9)) (Nat.le_of_eq g10.symm)
  have F13 : Fld Z h10 b10 "com/example/trusswork/trusswork/schema/Token" "kind" "Lcom/example/trusswork/trusswork/schema/Token$Kind;" .null := D10 (Or.inr (hw _ (List.mem_of_getElem? (i := 53) rfl))) (ty := (.object "com/example/trusswork/trusswork/schema/Token$Kind")) (by decide)
  have F14 : Fld Z h10 b10 "com/example/trusswork/trusswork/schema/Token" "text" "Ljava/lang/String;" .null := D10 (Or.inr (hw _ (List.mem_of_getElem? (i := 55) rfl))) (ty := (.object "java/lang/String")) (by decide)
  have F15 : Fld Z h10 b10 "com/example/trusswork/trusswork/schema/Token" "line" "I" (.int (0 : Int32)) := D10 (Or.inr (hw _ (List.mem_of_getElem? (i := 57) rfl))) (ty := .int) (by decide)
  have F16 : Fld Z h10 b10 "com/example/trusswork/trusswork/schema/Token" "column" "I" (.int (0 : Int32)) := D10 (Or.inr (hw _ (List.mem_of_getElem? (i := 59) rfl))) (ty := .int) (by decide)
  refine Wp.st (S' := T10.setTop (mkF m 60 #[.val (.int p1), .val (.int p2), .val (.int p3), .val (.int p4), .val (.int p5), .val (.int p6), .val (.int ki), .val (.int oi), .val va, .val vb, .val (.ref b3), .unset, .unset] [(.ref b10)])) st10 ?_
  refine Wp.st (S' := T10.setTop (mkF m 61 #[.val (.int p1), .val (.int p2), .val (.int p3), .val (.int p4), .val (.int p5), .val (.int p6), .val (.int ki), .val (.int oi), .val va, .val vb, .val (.ref b3), .unset, .unset] [(.ref b10), (.ref b10)])) (fun tt_ kk_ => XS.dup X10.here hx rfl (hb hby at_60) rfl rfl kk_) ?_
  refine Wp.st (S' := T10.setTop (mkF m 63 #[.val (.int p1), .val (.int p2), .val (.int p3), .val (.int p4), .val (.int p5), .val (.int p6), .val (.int ki), .val (.int oi), .val va, .val vb, .val (.ref b3), .unset, .unset] [va, (.ref b10), (.ref b10)])) (fun tt_ kk_ => XS.aload X10.here hx rfl (hb hby at_61) rfl hr_va kk_) ?_
  obtain ⟨T17, h17, X17, e17, E17, A17, D17, U17, st17⟩ := newO X10 hx hZ hown (hw _ (List.mem_of_getElem? (i := 14) rfl)) (hw _ (List.mem_of_getElem? (i := 15) rfl)) (hw _ (List.mem_of_getElem? (i := 16) rfl)) e10 (g := (mkF m 63 #[.val (.int p1), .val (.int p2), .val (.int p3), .val (.int p4), .val (.int p5), .val (.int p6), .val (.int ki), .val (.int oi), .val va, .val vb, .val (.ref b3), .unset, .unset] [va, (.ref b10), (.ref b10)])) rfl (hb hby at_63) (by decide) (by decide)
  obtain ⟨b17, g17⟩ : ∃ z, z = h10.size := ⟨_, rfl⟩
  rw [← g17] at A17 D17 U17 st17
  have z18 := E17.1
  have g19 : n0 ≤ b17 := Nat.le_trans (Nat.le_trans Z0 (Nat.le_trans (Nat.le_trans (Nat.le_trans z4 z7) z9) z11)) (Nat.le_of_eq g17.symm)
  have F20 : Fld Z h17 b17 "java/lang/String" "coder" "B" (.int (0 : Int32)) := D17 (Or.inr (hw _ (List.mem_of_getElem? (i := 40) rfl))) (ty := .byte) (by decide)
  have F21 : Fld Z h17 b17 "java/lang/String" "value" "[B" .null := D17 (Or.inr (hw _ (List.mem_of_getElem? (i := 42) rfl))) (ty := (.array .byte)) (by decide)
  refine Wp.st (S' := T17.setTop (mkF m 66 #[.val (.int p1), .val (.int p2), .val (.int p3), .val (.int p4), .val (.int p5), .val (.int p6), .val (.int ki), .val (.int oi), .val va, .val vb, .val (.ref b3), .unset, .unset] [(.ref b17), va, (.ref b10), (.ref b10)])) st17 ?_
  refine Wp.st (S' := T17.setTop (mkF m 67 #[.val (.int p1), .val (.int p2), .val (.int p3), .val (.int p4), .val (.int p5), .val (.int p6), .val (.int ki), .val (.int oi), .val va, .val vb, .val (.ref b3), .unset, .unset] [(.ref b17), (.ref b17), va, (.ref b10), (.ref b10)])) (fun tt_ kk_ => XS.dup X17.here hx rfl (hb hby at_66) rfl rfl kk_) ?_
  refine Wp.st (S' := T17.setTop (mkF m 69 #[.val (.int p1), .val (.int p2), .val (.int p3), .val (.int p4), .val (.int p5), .val (.int p6), .val (.int ki), .val (.int oi), .val va, .val vb, .val (.ref b3), .unset, .unset] [(.ref b3), (.ref b17), (.ref b17), va, (.ref b10), (.ref b10)])) (fun tt_ kk_ => XS.aload X17.here hx rfl (hb hby at_67) rfl rfl kk_) ?_
  have hp23 : ∀ c ∈ ([(nar .char ((p3 &&& (255 : Int32)).toUInt32.toUInt16.toUInt32.toInt32)), (nar .char ((p4 &&& (255 : Int32)).toUInt32.toUInt16.toUInt32.toInt32))] : List Int32), ¬ c < 0 ∧ ¬ (255 : Int32) < c := (by
      intro c hc
      simp only [List.mem_cons, List.not_mem_nil, or_false] at hc
      rcases hc with rfl | rfl
      all_goals first | exact own_ch255 _ | decide)
  have F24 := V8.ext E10
  have F25 := F24.ext E17
  have O26 := O0.ext E3
  have O27 := O26.wr W6 g5
  have O28 := O27.wr W8 g5
  have O29 := O28.ext E10
  have O30 := O29.ext E17
  obtain ⟨vv22, _, ⟨T22, L22, k22, n22⟩, -, X22, ⟨Lc22, hQ22, l22, y22, z22⟩, st22⟩ := X17.specialBack hx (y := (⟨"java/lang/String", "<init>", "([C)V"⟩ : MethodName)) rfl hown (mvT hZ (hw _ (List.mem_of_getElem? (i := 17) rfl))) (mvT hZ (hw _ (List.mem_of_getElem? (i := 18) rfl))) (mvT hZ (hw _ (List.mem_of_getElem? (i := 19) rfl))) (by decide) (StrChars.Road.backV (W := 4) hZ (fun d hd => hw d ((by decide +kernel : ∀ d ∈ StrChars.Road.words, d ∈ tables_1) d hd)) (kI := 4) (hw _ (List.mem_of_getElem? (i := 15) rfl)) (cs := ([(nar .char ((p3 &&& (255 : Int32)).toUInt32.toUInt16.toUInt32.toInt32)), (nar .char ((p4 &&& (255 : Int32)).toUInt32.toUInt16.toUInt32.toInt32))] : List Int32)) (bs := (([(nar .char ((p3 &&& (255 : Int32)).toUInt32.toUInt16.toUInt32.toInt32)), (nar .char ((p4 &&& (255 : Int32)).toUInt32.toUInt16.toUInt32.toInt32))] : List Int32).map (fun c => c.toInt8.toInt32))) (n := 2) g19 (Nat.le_trans Z0 (Nat.le_trans (Nat.le_trans (Nat.le_trans (Nat.le_trans z4 z7) z9) z11) z18)) A17 F21 F20 F25 (SCompact.ext O30.2) hCS rfl rfl (by decide) (by decide) hp23 rfl (by decide) (by decide)) (g := (mkF m 69 #[.val (.int p1), .val (.int p2), .val (.int p3), .val (.int p4), .val (.int p5), .val (.int p6), .val (.int ki), .val (.int oi), .val va, .val vb, .val (.ref b3), .unset, .unset] [(.ref b3), (.ref b17), (.ref b17), va, (.ref b10), (.ref b10)])) rfl (by rw [hml]; rfl) (Steps.refl _) (a := b17) (argsL := [(.ref b3)]) (rest := [(.ref b17), va, (.ref b10), (.ref b10)]) (lenOf pd_2 rfl) rfl (by show 2 * 0 + (1 + (Value.category va + (1 + (1 + (0))))) ≤ _; rw [own_cat1 hr_va]; decide) (hb hby at_69) (fun _ _ => ⟨rfl, e17, (by decide : 3 + 1 ≤ _), (by decide : 10 + 2 ≤ _)⟩)
  dsimp only [Pt.U, Pt.locs, Pt.cells, Pt.slots] at X22 l22 y22 z22 st22 hQ22
  subst l22 y22 z22
  obtain ⟨rfl, Nq22, K22, Ex22, Co22, t22, kb22, ga22, gb22, gn22, Va22, Av22⟩ := hQ22
  have N22 := Fr.app Nf8 Nq22
  have z31 := K22.1
  have g32 : n0 ≤ t22 := Nat.le_trans (Nat.le_trans Z0 (Nat.le_trans (Nat.le_trans (Nat.le_trans (Nat.le_trans z4 z7) z9) z11) z18)) gb22
  have e22 : T22.heap = T22.heap := rfl
  refine Wp.tr (S' := T22.setTop (mkF m 72 #[.val (.int p1), .val (.int p2), .val (.int p3), .val (.int p4), .val (.int p5), .val (.int p6), .val (.int ki), .val (.int oi), .val va, .val vb, .val (.ref b3), .unset, .unset] [(.ref b17), va, (.ref b10), (.ref b10)])) st22 ?_
  refine Wp.st (S' := T22.setTop (mkF m 74 #[.val (.int p1), .val (.int p2), .val (.int p3), .val (.int p4), .val (.int p5), .val (.int p6), .val (.int ki), .val (.int oi), .val va, .val vb, .val (.ref b3), .unset, .unset] [(.int p5), (.ref b17), va, (.ref b10), (.ref b10)])) (fun tt_ kk_ => XS.iload X22.here hx rfl (hb hby at_72) rfl  kk_) ?_
  refine Wp.st (S' := T22.setTop (mkF m 76 #[.val (.int p1), .val (.int p2), .val (.int p3), .val (.int p4), .val (.int p5), .val (.int p6), .val (.int ki), .val (.int oi), .val va, .val vb, .val (.ref b3), .unset, .unset] [(.int p6), (.int p5), (.ref b17), va, (.ref b10), (.ref b10)])) (fun tt_ kk_ => XS.iload X22.here hx rfl (hb hby at_74) rfl  kk_) ?_
  have F34 := A10.ext E17
  have F35 := F34.keep K22
  have F36 := F13.ext E17
  have F37 := F36.keep K22 (ninS (Nat.ne_of_lt (Nat.lt_of_lt_of_le A10.lt (Nat.le_trans (Nat.le_refl _) (Nat.le_of_eq g17.symm)))) nin0)
  have F38 := F14.ext E17
  have F39 := F38.keep K22 (ninS (Nat.ne_of_lt (Nat.lt_of_lt_of_le A10.lt (Nat.le_trans (Nat.le_refl _) (Nat.le_of_eq g17.symm)))) nin0)
  have F40 := F15.ext E17
  have F41 := F40.keep K22 (ninS (Nat.ne_of_lt (Nat.lt_of_lt_of_le A10.lt (Nat.le_trans (Nat.le_refl _) (Nat.le_of_eq g17.symm)))) nin0)
  have F42 := F16.ext E17
  have F43 := F42.keep K22 (ninS (Nat.ne_of_lt (Nat.lt_of_lt_of_le A10.lt (Nat.le_trans (Nat.le_refl _) (Nat.le_of_eq g17.symm)))) nin0)
  obtain ⟨vv33, _, ⟨T33, L33, k33, n33⟩, -, X33, ⟨Lc33, hQ33, l33, y33, z33⟩, st33⟩ := X22.specialBack hx (y := (⟨"com/example/trusswork/trusswork/schema/Token", "<init>", "(Lcom/example/trusswork/trusswork/schema/Token$Kind;Ljava/lang/String;II)V"⟩ : MethodName)) rfl hown (mvT hZ (hw _ (List.mem_of_getElem? (i := 43) rfl))) (mvT hZ (hw _ (List.mem_of_getElem? (i := 44) rfl))) (mvT hZ (hw _ (List.mem_of_getElem? (i := 45) rfl))) (by decide) (backOf (W := 1) (rm8 l Z a0 hw [] b10 va b17 p5 p6 T22.heap n0 (Nat.le_trans Z0 (Nat.le_trans (Nat.le_trans (Nat.le_trans (Nat.le_trans (Nat.le_trans z4 z7) z9) z11) z18) z31)) hr_va g12 F35 F37 F39 F41 F43) hZ (hw _ (List.mem_of_getElem? (i := 45) rfl)) (hw _ (List.mem_of_getElem? (i := 13) rfl)) (by decide) (by decide)) (g := (mkF m 76 #[.val (.int p1), .val (.int p2), .val (.int p3), .val (.int p4), .val (.int p5), .val (.int p6), .val (.int ki), .val (.int oi), .val va, .val vb, .val (.ref b3), .unset, .unset] [(.int p6), (.int p5), (.ref b17), va, (.ref b10), (.ref b10)])) rfl (by rw [hml]; rfl) (Steps.refl _) (a := b10) (argsL := [va, (.ref b17), (.int p5), (.int p6)]) (rest := [(.ref b10)]) (lenOf pd_3 rfl) rfl (by show 2 * 0 + _ ≤ _; exact Nat.le_of_eq rfl) (hb hby at_76) (fun _ _ => ⟨rfl, e22, (by decide : 4 + 0 ≤ _), (by decide : 12 + 0 ≤ _)⟩)
  dsimp only [Pt.U, Pt.locs, Pt.cells, Pt.slots] at X33 l33 y33 z33 st33 hQ33
  subst l33 y33 z33
  obtain ⟨rfl, Nq33, K33, P33_0, P33_1⟩ := hQ33
  have N33 := Fr.app N22 Nq33
  have z44 := K33.1
  have e33 : T33.heap = T33.heap := rfl
  refine Wp.tr (S' := T33.setTop (mkF m 79 #[.val (.int p1), .val (.int p2), .val (.int p3), .val (.int p4), .val (.int p5), .val (.int p6), .val (.int ki), .val (.int oi), .val va, .val vb, .val (.ref b3), .unset, .unset] [(.ref b10)])) st33 ?_
  refine Wp.st (S' := T33.setTop (mkF m 81 #[.val (.int p1), .val (.int p2), .val (.int p3), .val (.int p4), .val (.int p5), .val (.int p6), .val (.int ki), .val (.int oi), .val va, .val vb, .val (.ref b3), .val (.ref b10), .unset] [])) (fun tt_ kk_ => XS.astore X33.here hx rfl (hb hby at_79) rfl rfl (l' := #[.val (.int p1), .val (.int p2), .val (.int p3), .val (.int p4), .val (.int p5), .val (.int p6), .val (.int ki), .val (.int oi), .val va, .val vb, .val (.ref b3), .val (.ref b10), .unset]) rfl kk_) ?_
  refine Wp.st (S' := T33.setTop (mkF m 83 #[.val (.int p1), .val (.int p2), .val (.int p3), .val (.int p4), .val (.int p5), .val (.int p6), .val (.int ki), .val (.int oi), .val va, .val vb, .val (.ref b3), .val (.ref b10), .unset] [(.int ki)])) (fun tt_ kk_ => XS.iload X33.here hx rfl (hb hby at_81) rfl  kk_) ?_
  refine Wp.st (S' := T33.setTop (mkF m 85 #[.val (.int p1), .val (.int p2), .val (.int p3), .val (.int p4), .val (.int p5), .val (.int p6), .val (.int ki), .val (.int oi), .val va, .val vb, .val (.ref b3), .val (.ref b10), .unset] [(.int oi), (.int ki)])) (fun tt_ kk_ => XS.iload X33.here hx rfl (hb hby at_83) rfl  kk_) ?_
  by_cases heq : ki = oi
  case pos =>
    refine Wp.st (S' := T33.setTop (mkF m 88 #[.val (.int p1), .val (.int p2), .val (.int p3), .val (.int p4), .val (.int p5), .val (.int p6), .val (.int ki), .val (.int oi), .val va, .val vb, .val (.ref b3), .val (.ref b10), .unset] [])) (fun tt_ kk_ => XS.icmpNo X33.here hx rfl (hb hby at_85) rfl (teq (heq : ki = oi)).2 kk_) ?_
    refine Wp.st (S' := T33.setTop (mkF m 89 #[.val (.int p1), .val (.int p2), .val (.int p3), .val (.int p4), .val (.int p5), .val (.int p6), .val (.int ki), .val (.int oi), .val va, .val vb, .val (.ref b3), .val (.ref b10), .unset] [(.int (1 : Int32))])) (fun tt_ kk_ => XS.iconst X33.here hx rfl (hb hby at_88) kk_) ?_
    refine Wp.st (S' := T33.setTop (mkF m 93 #[.val (.int p1), .val (.int p2), .val (.int p3), .val (.int p4), .val (.int p5), .val (.int p6), .val (.int ki), .val (.int oi), .val va, .val vb, .val (.ref b3), .val (.ref b10), .unset] [(.int (1 : Int32))])) (fun tt_ kk_ => XS.goto X33.here hx rfl (pc0 := 89) (pc' := 93) rfl (hb hby at_89) (by decide) (by decide) kk_) ?_
    refine Wp.st (S' := T33.setTop (mkF m 95 #[.val (.int p1), .val (.int p2), .val (.int p3), .val (.int p4), .val (.int p5), .val (.int p6), .val (.int ki), .val (.int oi), .val va, .val vb, .val (.ref b3), .val (.ref b10), .val (.int (1 : Int32))] [])) (fun tt_ kk_ => XS.istore X33.here hx rfl (hb hby at_93) rfl (l' := #[.val (.int p1), .val (.int p2), .val (.int p3), .val (.int p4), .val (.int p5), .val (.int p6), .val (.int ki), .val (.int oi), .val va, .val vb, .val (.ref b3), .val (.ref b10), .val (.int (1 : Int32))]) rfl kk_) ?_
    refine Wp.st (S' := T33.setTop (mkF m 97 #[.val (.int p1), .val (.int p2), .val (.int p3), .val (.int p4), .val (.int p5), .val (.int p6), .val (.int ki), .val (.int oi), .val va, .val vb, .val (.ref b3), .val (.ref b10), .val (.int (1 : Int32))] [(.ref b10)])) (fun tt_ kk_ => XS.aload X33.here hx rfl (hb hby at_95) rfl rfl kk_) ?_
    refine Wp.st (S' := T33.setTop (mkF m 99 #[.val (.int p1), .val (.int p2), .val (.int p3), .val (.int p4), .val (.int p5), .val (.int p6), .val (.int ki), .val (.int oi), .val va, .val vb, .val (.ref b3), .val (.ref b10), .val (.int (1 : Int32))] [vb, (.ref b10)])) (fun tt_ kk_ => XS.aload X33.here hx rfl (hb hby at_97) rfl hr_vb kk_) ?_
    obtain ⟨cq45, kq45, q45a, q45b, q45c⟩ := isOf hZ e33 P33_0
    obtain ⟨vv45, _, ⟨T45, L45, k45, n45⟩, -, X45, ⟨Lc45, hQ45, l45, y45, z45⟩, st45⟩ := X33.virtualBack hx (y := (⟨"com/example/trusswork/trusswork/schema/Token", "is", "(Lcom/example/trusswork/trusswork/schema/Token$Kind;)Z"⟩ : MethodName)) (z := (⟨"com/example/trusswork/trusswork/schema/Token", "is", "(Lcom/example/trusswork/trusswork/schema/Token$Kind;)Z"⟩ : MethodName)) hown (mvT hZ (hw _ (List.mem_of_getElem? (i := 60) rfl))) (mvT hZ (hw _ (List.mem_of_getElem? (i := 61) rfl))) (notFace_of_selects (args := #[]) (mvT hZ (hw _ (List.mem_of_getElem? (i := 63) rfl)))) (mvT hZ (hw _ (List.mem_of_getElem? (i := 63) rfl))) (mvT hZ (hw _ (List.mem_of_getElem? (i := 62) rfl))) (by decide) (backOf (W := 0) (rm10 l Z a0 hw [] b10 vb va T33.heap n0 (Nat.le_trans Z0 (Nat.le_trans (Nat.le_trans (Nat.le_trans (Nat.le_trans (Nat.le_trans (Nat.le_trans z4 z7) z9) z11) z18) z31) z44)) hr_vb P33_1 hr_va) hZ (hw _ (List.mem_of_getElem? (i := 64) rfl)) (hw _ (List.mem_of_getElem? (i := 13) rfl)) (by decide) (by decide)) q45a q45c (g := (mkF m 99 #[.val (.int p1), .val (.int p2), .val (.int p3), .val (.int p4), .val (.int p5), .val (.int p6), .val (.int ki), .val (.int oi), .val va, .val vb, .val (.ref b3), .val (.ref b10), .val (.int (1 : Int32))] [vb, (.ref b10)])) rfl (by rw [hml]; rfl) (Steps.refl _) (argsL := [vb]) (rest := []) (lenOf pd_4 rfl) rfl (by show 2 * 0 + _ ≤ _; exact Nat.le_of_eq rfl) (hb hby at_99) (fun _ _ => ⟨rfl, e33, (by decide : 4 + 0 ≤ _), (by decide : 12 + 0 ≤ _)⟩)
    dsimp only [Pt.U, Pt.locs, Pt.cells, Pt.slots] at X45 l45 y45 z45 st45 hQ45
    subst l45 y45 z45
    obtain ⟨rfl, Nq45, e45⟩ := hQ45
    have N45 := Fr.app N33 Nq45
    refine Wp.tr (S' := T45.setTop (mkF m 102 #[.val (.int p1), .val (.int p2), .val (.int p3), .val (.int p4), .val (.int p5), .val (.int p6), .val (.int ki), .val (.int oi), .val va, .val vb, .val (.ref b3), .val (.ref b10), .val (.int (1 : Int32))] [(.int (if (va : Value) = vb then (1 : Int32) else (0 : Int32)))])) st45 ?_
    rw [(if_pos (hs.mpr heq) : (if (va : Value) = vb then (1 : Int32) else (0 : Int32)) = (1 : Int32))]
    refine Wp.st (S' := T45.setTop (mkF m 104 #[.val (.int p1), .val (.int p2), .val (.int p3), .val (.int p4), .val (.int p5), .val (.int p6), .val (.int ki), .val (.int oi), .val va, .val vb, .val (.ref b3), .val (.ref b10), .val (.int (1 : Int32))] [(.int (1 : Int32)), (.int (1 : Int32))])) (fun tt_ kk_ => XS.iload X45.here hx rfl (hb hby at_102) rfl  kk_) ?_
    refine Wp.st (S' := T45.setTop (mkF m 107 #[.val (.int p1), .val (.int p2), .val (.int p3), .val (.int p4), .val (.int p5), .val (.int p6), .val (.int ki), .val (.int oi), .val va, .val vb, .val (.ref b3), .val (.ref b10), .val (.int (1 : Int32))] [])) (fun tt_ kk_ => XS.icmpNo X45.here hx rfl (hb hby at_104) rfl (teq ((by decide) : (1 : Int32) = (1 : Int32))).2 kk_) ?_
    refine Wp.st (S' := T45.setTop (mkF m 109 #[.val (.int p1), .val (.int p2), .val (.int p3), .val (.int p4), .val (.int p5), .val (.int p6), .val (.int ki), .val (.int oi), .val va, .val vb, .val (.ref b3), .val (.ref b10), .val (.int (1 : Int32))] [(.ref b10)])) (fun tt_ kk_ => XS.aload X45.here hx rfl (hb hby at_107) rfl rfl kk_) ?_
    refine Wp.st (S' := T45.setTop (mkF m 111 #[.val (.int p1), .val (.int p2), .val (.int p3), .val (.int p4), .val (.int p5), .val (.int p6), .val (.int ki), .val (.int oi), .val va, .val vb, .val (.ref b3), .val (.ref b10), .val (.int (1 : Int32))] [va, (.ref b10)])) (fun tt_ kk_ => XS.aload X45.here hx rfl (hb hby at_109) rfl hr_va kk_) ?_
    obtain ⟨cq46, kq46, q46a, q46b, q46c⟩ := isOf hZ e45 P33_0
    obtain ⟨vv46, _, ⟨T46, L46, k46, n46⟩, -, X46, ⟨Lc46, hQ46, l46, y46, z46⟩, st46⟩ := X45.virtualBack hx (y := (⟨"com/example/trusswork/trusswork/schema/Token", "is", "(Lcom/example/trusswork/trusswork/schema/Token$Kind;)Z"⟩ : MethodName)) (z := (⟨"com/example/trusswork/trusswork/schema/Token", "is", "(Lcom/example/trusswork/trusswork/schema/Token$Kind;)Z"⟩ : MethodName)) hown (mvT hZ (hw _ (List.mem_of_getElem? (i := 60) rfl))) (mvT hZ (hw _ (List.mem_of_getElem? (i := 61) rfl))) (notFace_of_selects (args := #[]) (mvT hZ (hw _ (List.mem_of_getElem? (i := 63) rfl)))) (mvT hZ (hw _ (List.mem_of_getElem? (i := 63) rfl))) (mvT hZ (hw _ (List.mem_of_getElem? (i := 62) rfl))) (by decide) (backOf (W := 0) (rm10 l Z a0 hw [] b10 va va T33.heap n0 (Nat.le_trans Z0 (Nat.le_trans (Nat.le_trans (Nat.le_trans (Nat.le_trans (Nat.le_trans (Nat.le_trans z4 z7) z9) z11) z18) z31) z44)) hr_va P33_1 hr_va) hZ (hw _ (List.mem_of_getElem? (i := 64) rfl)) (hw _ (List.mem_of_getElem? (i := 13) rfl)) (by decide) (by decide)) q46a q46c (g := (mkF m 111 #[.val (.int p1), .val (.int p2), .val (.int p3), .val (.int p4), .val (.int p5), .val (.int p6), .val (.int ki), .val (.int oi), .val va, .val vb, .val (.ref b3), .val (.ref b10), .val (.int (1 : Int32))] [va, (.ref b10)])) rfl (by rw [hml]; rfl) (Steps.refl _) (argsL := [va]) (rest := []) (lenOf pd_4 rfl) rfl (by show 2 * 0 + _ ≤ _; exact Nat.le_of_eq rfl) (hb hby at_111) (fun _ _ => ⟨rfl, e45, (by decide : 4 + 0 ≤ _), (by decide : 12 + 0 ≤ _)⟩)
    dsimp only [Pt.U, Pt.locs, Pt.cells, Pt.slots] at X46 l46 y46 z46 st46 hQ46
    subst l46 y46 z46
    obtain ⟨rfl, Nq46, e46⟩ := hQ46
    have N46 := Fr.app N45 Nq46
    refine Wp.tr (S' := T46.setTop (mkF m 114 #[.val (.int p1), .val (.int p2), .val (.int p3), .val (.int p4), .val (.int p5), .val (.int p6), .val (.int ki), .val (.int oi), .val va, .val vb, .val (.ref b3), .val (.ref b10), .val (.int (1 : Int32))] [(.int (if (va : Value) = va then (1 : Int32) else (0 : Int32)))])) st46 ?_
    rw [(if_pos rfl : (if (va : Value) = va then (1 : Int32) else (0 : Int32)) = (1 : Int32))]
    refine Wp.st (S' := T46.setTop (mkF m 117 #[.val (.int p1), .val (.int p2), .val (.int p3), .val (.int p4), .val (.int p5), .val (.int p6), .val (.int ki), .val (.int oi), .val va, .val vb, .val (.ref b3), .val (.ref b10), .val (.int (1 : Int32))] [])) (fun tt_ kk_ => XS.ifNo X46.here hx rfl (hb hby at_114) rfl ((if0 _ _).trans (feq ((by decide) : ¬ ((1 : Int32) = (0 : Int32)))).1) kk_) ?_
    refine Wp.st (S' := T46.setTop (mkF m 118 #[.val (.int p1), .val (.int p2), .val (.int p3), .val (.int p4), .val (.int p5), .val (.int p6), .val (.int ki), .val (.int oi), .val va, .val vb, .val (.ref b3), .val (.ref b10), .val (.int (1 : Int32))] [(.int (1 : Int32))])) (fun tt_ kk_ => XS.iconst X46.here hx rfl (hb hby at_117) kk_) ?_
    refine Wp.st (S' := T46.setTop (mkF m 122 #[.val (.int p1), .val (.int p2), .val (.int p3), .val (.int p4), .val (.int p5), .val (.int p6), .val (.int ki), .val (.int oi), .val va, .val vb, .val (.ref b3), .val (.ref b10), .val (.int (1 : Int32))] [(.int (1 : Int32))])) (fun tt_ kk_ => XS.goto X46.here hx rfl (pc0 := 118) (pc' := 122) rfl (hb hby at_118) (by decide) (by decide) kk_) ?_
    have K47 := Keep.refl h0 []
    have K48 := K47.ext E3
    have K49 := K48.wr W6 (Or.inr (Nat.le_trans (Nat.le_refl _) (Nat.le_of_eq g3.symm)))
    have K50 := K49.wr W8 (Or.inr (Nat.le_trans (Nat.le_refl _) (Nat.le_of_eq g3.symm)))
    have K51 := K50.ext E10
    have K52 := K51.ext E17
    have K53 := K52.trans K22 (allS (Or.inr (Nat.le_trans (Nat.le_trans (Nat.le_trans (Nat.le_trans z4 z7) z9) z11) (Nat.le_of_eq g17.symm))) all0)
    have K54 := K53.trans K33 (allS (Or.inr (Nat.le_trans (Nat.le_trans (Nat.le_trans z4 z7) z9) (Nat.le_of_eq g10.symm))) all0)
    exact Wp.ret X46 hlk (v := (some (.int (1 : Int32)))) (fun h => by rw [Bd.returns] at h; cases h) (fun fs hr => retN (z := (1 : Int32)) X46 hx (t := .boolean) Bd.returns (by simp) (hb hby at_122) hr) (by decide) (by decide) (show Q_rm0 Z p1 p2 p3 p4 p5 p6 w_IDENTIFIER w_STRING w_LEFT_BRACE w_RIGHT_BRACE w_LEFT_BRACKET w_RIGHT_BRACKET w_LESS w_GREATER w_COMMA w_SEMICOLON w_COLON w_EQUALS w_AT w_LEFT_PAREN w_RIGHT_PAREN w_QUESTION w_DOUBLE_COLON w_END zcs h0 n0 _ T46.heap _ by rw [e46]; exact ⟨rfl, N46, K54⟩)
  case neg =>
    refine Wp.st (S' := T33.setTop (mkF m 92 #[.val (.int p1), .val (.int p2), .val (.int p3), .val (.int p4), .val (.int p5), .val (.int p6), .val (.int ki), .val (.int oi), .val va, .val vb, .val (.ref b3), .val (.ref b10), .unset] [])) (fun tt_ kk_ => XS.icmpYes X33.here hx rfl (pc0 := 85) (pc' := 92) rfl (hb hby at_85) rfl (feq (heq : ¬ (ki = oi))).2 (by decide) (by decide) kk_) ?_
    refine Wp.st (S' := T33.setTop (mkF m 93 #[.val (.int p1), .val (.int p2), .val (.int p3), .val (.int p4), .val (.int p5), .val (.int p6), .val (.int ki), .val (.int oi), .val va, .val vb, .val (.ref b3), .val (.ref b10), .unset] [(.int (0 : Int32))])) (fun tt_ kk_ => XS.iconst X33.here hx rfl (hb hby at_92) kk_) ?_
    refine Wp.st (S' := T33.setTop (mkF m 95 #[.val (.int p1), .val (.int p2), .val (.int p3), .val (.int p4), .val (.int p5), .val (.int p6), .val (.int ki), .val (.int oi), .val va, .val vb, .val (.ref b3), .val (.ref b10), .val (.int (0 : Int32))] [])) (fun tt_ kk_ => XS.istore X33.here hx rfl (hb hby at_93) rfl (l' := #[.val (.int p1), .val (.int p2), .val (.int p3), .val (.int p4), .val (.int p5), .val (.int p6), .val (.int ki), .val (.int oi), .val va, .val vb, .val (.ref b3), .val (.ref b10), .val (.int (0 : Int32))]) rfl kk_) ?_
    refine Wp.st (S' := T33.setTop (mkF m 97 #[.val (.int p1), .val (.int p2), .val (.int p3), .val (.int p4), .val (.int p5), .val (.int p6), .val (.int ki), .val (.int oi), .val va, .val vb, .val (.ref b3), .val (.ref b10), .val (.int (0 : Int32))] [(.ref b10)])) (fun tt_ kk_ => XS.aload X33.here hx rfl (hb hby at_95) rfl rfl kk_) ?_
    refine Wp.st (S' := T33.setTop (mkF m 99 #[.val (.int p1), .val (.int p2), .val (.int p3), .val (.int p4), .val (.int p5), .val (.int p6), .val (.int ki), .val (.int oi), .val va, .val vb, .val (.ref b3), .val (.ref b10), .val (.int (0 : Int32))] [vb, (.ref b10)])) (fun tt_ kk_ => XS.aload X33.here hx rfl (hb hby at_97) rfl hr_vb kk_) ?_
    obtain ⟨cq55, kq55, q55a, q55b, q55c⟩ := isOf hZ e33 P33_0
    obtain ⟨vv55, _, ⟨T55, L55, k55, n55⟩, -, X55, ⟨Lc55, hQ55, l55, y55, z55⟩, st55⟩ := X33.virtualBack hx (y := (⟨"com/example/trusswork/trusswork/schema/Token", "is", "(Lcom/example/trusswork/trusswork/schema/Token$Kind;)Z"⟩ : MethodName)) (z := (⟨"com/example/trusswork/trusswork/schema/Token", "is", "(Lcom/example/trusswork/trusswork/schema/Token$Kind;)Z"⟩ : MethodName)) hown (mvT hZ (hw _ (List.mem_of_getElem? (i := 60) rfl))) (mvT hZ (hw _ (List.mem_of_getElem? (i := 61) rfl))) (notFace_of_selects (args := #[]) (mvT hZ (hw _ (List.mem_of_getElem? (i := 63) rfl)))) (mvT hZ (hw _ (List.mem_of_getElem? (i := 63) rfl))) (mvT hZ (hw _ (List.mem_of_getElem? (i := 62) rfl))) (by decide) (backOf (W := 0) (rm10 l Z a0 hw [] b10 vb va T33.heap n0 (Nat.le_trans Z0 (Nat.le_trans (Nat.le_trans (Nat.le_trans (Nat.le_trans (Nat.le_trans (Nat.le_trans z4 z7) z9) z11) z18) z31) z44)) hr_vb P33_1 hr_va) hZ (hw _ (List.mem_of_getElem? (i := 64) rfl)) (hw _ (List.mem_of_getElem? (i := 13) rfl)) (by decide) (by decide)) q55a q55c (g := (mkF m 99 #[.val (.int p1), .val (.int p2), .val (.int p3), .val (.int p4), .val (.int p5), .val (.int p6), .val (.int ki), .val (.int oi), .val va, .val vb, .val (.ref b3), .val (.ref b10), .val (.int (0 : Int32))] [vb, (.ref b10)])) rfl (by rw [hml]; rfl) (Steps.refl _) (argsL := [vb]) (rest := []) (lenOf pd_4 rfl) rfl (by show 2 * 0 + _ ≤ _; exact Nat.le_of_eq rfl) (hb hby at_99) (fun _ _ => ⟨rfl, e33, (by decide : 4 + 0 ≤ _), (by decide : 12 + 0 ≤ _)⟩)
    dsimp only [Pt.U, Pt.locs, Pt.cells, Pt.slots] at X55 l55 y55 z55 st55 hQ55
    subst l55 y55 z55
    obtain ⟨rfl, Nq55, e55⟩ := hQ55
    have N55 := Fr.app N33 Nq55
    refine Wp.tr (S' := T55.setTop (mkF m 102 #[.val (.int p1), .val (.int p2), .val (.int p3), .val (.int p4), .val (.int p5), .val (.int p6), .val (.int ki), .val (.int oi), .val va, .val vb, .val (.ref b3), .val (.ref b10), .val (.int (0 : Int32))] [(.int (if (va : Value) = vb then (1 : Int32) else (0 : Int32)))])) st55 ?_
    rw [(if_neg (fun z => heq (hs.mp z)) : (if (va : Value) = vb then (1 : Int32) else (0 : Int32)) = (0 : Int32))]
    refine Wp.st (S' := T55.setTop (mkF m 104 #[.val (.int p1), .val (.int p2), .val (.int p3), .val (.int p4), .val (.int p5), .val (.int p6), .val (.int ki), .val (.int oi), .val va, .val vb, .val (.ref b3), .val (.ref b10), .val (.int (0 : Int32))] [(.int (0 : Int32)), (.int (0 : Int32))])) (fun tt_ kk_ => XS.iload X55.here hx rfl (hb hby at_102) rfl  kk_) ?_
    refine Wp.st (S' := T55.setTop (mkF m 107 #[.val (.int p1), .val (.int p2), .val (.int p3), .val (.int p4), .val (.int p5), .val (.int p6), .val (.int ki), .val (.int oi), .val va, .val vb, .val (.ref b3), .val (.ref b10), .val (.int (0 : Int32))] [])) (fun tt_ kk_ => XS.icmpNo X55.here hx rfl (hb hby at_104) rfl (teq ((by decide) : (0 : Int32) = (0 : Int32))).2 kk_) ?_
    refine Wp.st (S' := T55.setTop (mkF m 109 #[.val (.int p1), .val (.int p2), .val (.int p3), .val (.int p4), .val (.int p5), .val (.int p6), .val (.int ki), .val (.int oi), .val va, .val vb, .val (.ref b3), .val (.ref b10), .val (.int (0 : Int32))] [(.ref b10)])) (fun tt_ kk_ => XS.aload X55.here hx rfl (hb hby at_107) rfl rfl kk_) ?_
    refine Wp.st (S' := T55.setTop (mkF m 111 #[.val (.int p1), .val (.int p2), .val (.int p3), .val (.int p4), .val (.int p5), .val (.int p6), .val (.int ki), .val (.int oi), .val va, .val vb, .val (.ref b3), .val (.ref b10), .val (.int (0 : Int32))] [va, (.ref b10)])) (fun tt_ kk_ => XS.aload X55.here hx rfl (hb hby at_109) rfl hr_va kk_) ?_
    obtain ⟨cq56, kq56, q56a, q56b, q56c⟩ := isOf hZ e55 P33_0
    obtain ⟨vv56, _, ⟨T56, L56, k56, n56⟩, -, X56, ⟨Lc56, hQ56, l56, y56, z56⟩, st56⟩ := X55.virtualBack hx (y := (⟨"com/example/trusswork/trusswork/schema/Token", "is", "(Lcom/example/trusswork/trusswork/schema/Token$Kind;)Z"⟩ : MethodName)) (z := (⟨"com/example/trusswork/trusswork/schema/Token", "is", "(Lcom/example/trusswork/trusswork/schema/Token$Kind;)Z"⟩ : MethodName)) hown (mvT hZ (hw _ (List.mem_of_getElem? (i := 60) rfl))) (mvT hZ (hw _ (List.mem_of_getElem? (i := 61) rfl))) (notFace_of_selects (args := #[]) (mvT hZ (hw _ (List.mem_of_getElem? (i := 63) rfl)))) (mvT hZ (hw _ (List.mem_of_getElem? (i := 63) rfl))) (mvT hZ (hw _ (List.mem_of_getElem? (i := 62) rfl))) (by decide) (backOf (W := 0) (rm10 l Z a0 hw [] b10 va va T33.heap n0 (Nat.le_trans Z0 (Nat.le_trans (Nat.le_trans (Nat.le_trans (Nat.le_trans (Nat.le_trans (Nat.le_trans z4 z7) z9) z11) z18) z31) z44)) hr_va P33_1 hr_va) hZ (hw _ (List.mem_of_getElem? (i := 64) rfl)) (hw _ (List.mem_of_getElem? (i := 13) rfl)) (by decide) (by decide)) q56a q56c (g := (mkF m 111 #[.val (.int p1), .val (.int p2), .val (.int p3), .val (.int p4), .val (.int p5), .val (.int p6), .val (.int ki), .val (.int oi), .val va, .val vb, .val (.ref b3), .val (.ref b10), .val (.int (0 : Int32))] [va, (.ref b10)])) rfl (by rw [hml]; rfl) (Steps.refl _) (argsL := [va]) (rest := []) (lenOf pd_4 rfl) rfl (by show 2 * 0 + _ ≤ _; exact Nat.le_of_eq rfl) (hb hby at_111) (fun _ _ => ⟨rfl, e55, (by decide : 4 + 0 ≤ _), (by decide : 12 + 0 ≤ _)⟩)
    dsimp only [Pt.U, Pt.locs, Pt.cells, Pt.slots] at X56 l56 y56 z56 st56 hQ56
    subst l56 y56 z56
    obtain ⟨rfl, Nq56, e56⟩ := hQ56
    have N56 := Fr.app N55 Nq56
    refine Wp.tr (S' := T56.setTop (mkF m 114 #[.val (.int p1), .val (.int p2), .val (.int p3), .val (.int p4), .val (.int p5), .val (.int p6), .val (.int ki), .val (.int oi), .val va, .val vb, .val (.ref b3), .val (.ref b10), .val (.int (0 : Int32))] [(.int (if (va : Value) = va then (1 : Int32) else (0 : Int32)))])) st56 ?_
    rw [(if_pos rfl : (if (va : Value) = va then (1 : Int32) else (0 : Int32)) = (1 : Int32))]
    refine Wp.st (S' := T56.setTop (mkF m 117 #[.val (.int p1), .val (.int p2), .val (.int p3), .val (.int p4), .val (.int p5), .val (.int p6), .val (.int ki), .val (.int oi), .val va, .val vb, .val (.ref b3), .val (.ref b10), .val (.int (0 : Int32))] [])) (fun tt_ kk_ => XS.ifNo X56.here hx rfl (hb hby at_114) rfl ((if0 _ _).trans (feq ((by decide) : ¬ ((1 : Int32) = (0 : Int32)))).1) kk_) ?_
    refine Wp.st (S' := T56.setTop (mkF m 118 #[.val (.int p1), .val (.int p2), .val (.int p3), .val (.int p4), .val (.int p5), .val (.int p6), .val (.int ki), .val (.int oi), .val va, .val vb, .val (.ref b3), .val (.ref b10), .val (.int (0 : Int32))] [(.int (1 : Int32))])) (fun tt_ kk_ => XS.iconst X56.here hx rfl (hb hby at_117) kk_) ?_
    refine Wp.st (S' := T56.setTop (mkF m 122 #[.val (.int p1), .val (.int p2), .val (.int p3), .val (.int p4), .val (.int p5), .val (.int p6), .val (.int ki), .val (.int oi), .val va, .val vb, .val (.ref b3), .val (.ref b10), .val (.int (0 : Int32))] [(.int (1 : Int32))])) (fun tt_ kk_ => XS.goto X56.here hx rfl (pc0 := 118) (pc' := 122) rfl (hb hby at_118) (by decide) (by decide) kk_) ?_
    have K57 := Keep.refl h0 []
    have K58 := K57.ext E3
    have K59 := K58.wr W6 (Or.inr (Nat.le_trans (Nat.le_refl _) (Nat.le_of_eq g3.symm)))
    have K60 := K59.wr W8 (Or.inr (Nat.le_trans (Nat.le_refl _) (Nat.le_of_eq g3.symm)))
    have K61 := K60.ext E10
    have K62 := K61.ext E17
    have K63 := K62.trans K22 (allS (Or.inr (Nat.le_trans (Nat.le_trans (Nat.le_trans (Nat.le_trans z4 z7) z9) z11) (Nat.le_of_eq g17.symm))) all0)
    have K64 := K63.trans K33 (allS (Or.inr (Nat.le_trans (Nat.le_trans (Nat.le_trans z4 z7) z9) (Nat.le_of_eq g10.symm))) all0)
    exact Wp.ret X56 hlk (v := (some (.int (1 : Int32)))) (fun h => by rw [Bd.returns] at h; cases h) (fun fs hr => retN (z := (1 : Int32)) X56 hx (t := .boolean) Bd.returns (by simp) (hb hby at_122) hr) (by decide) (by decide) (show Q_rm0 Z p1 p2 p3 p4 p5 p6 w_IDENTIFIER w_STRING w_LEFT_BRACE w_RIGHT_BRACE w_LEFT_BRACKET w_RIGHT_BRACKET w_LESS w_GREATER w_COMMA w_SEMICOLON w_COLON w_EQUALS w_AT w_LEFT_PAREN w_RIGHT_PAREN w_QUESTION w_DOUBLE_COLON w_END zcs h0 n0 _ T56.heap _ by rw [e56]; exact ⟨rfl, N56, K64⟩)
set_option maxRecDepth 65536 in
set_option maxHeartbeats 40000000 in
theorem comes_1 {Post : Tables → Env → Array Value → State → Outcome → State → Prop} (hpost : ∀ tb e args s v u, (limb_1_1.after args s (.returned v) u = true ∧ limb_1_2.after args s (.returned v) u = true ∧ True) → FrameEnd s (.returned v) u (Jvm.fieldLocs frame_1_writes args s ++ Jvm.arrayLocs frame_1_arrays args s ++ Jvm.staticLocs frame_1_statics s) 16 128 → Post tb e args s (.returned v) u) :
    ArmFor flags0 classFile x code maxLocals ret World_1 tables_1 room_1 Calls_1 rest_1 Pre_1 Post := by
  intro l hfl _ _ p e ha hc hk s m args below hf hA hF happ hP
  obtain ⟨hcalls, hrest, hpre⟩ := hP
  obtain ⟨-, -, -, hnamed, -, -, -, hat⟩ := (Spec.applies_iff hf).mp happ
  obtain ⟨hg, hn⟩ := and_e (Cond.before_iff.mp (show (Jvm.Cond.and given_1 narrow_1).before args s = true from hpre))
  obtain ⟨q1, q2⟩ := and_e hg
  obtain ⟨w0, w1, w2, w3, w4, w5, rfl⟩ : ∃ w0 w1 w2 w3 w4 w5 : Value, args = #[w0, w1, w2, w3, w4, w5] := by
    have hs : args.size = 6 := by simpa [Cond.value, given_1] using q1
    obtain ⟨L⟩ := args
    match L, hs with
    | [w0, w1, w2, w3, w4, w5], _ => exact ⟨w0, w1, w2, w3, w4, w5, rfl⟩
  obtain ⟨q3, q4⟩ := and_e q2
  obtain ⟨q5, q6⟩ := and_e q4
  obtain ⟨q7, q8⟩ := and_e q6
  obtain ⟨q9, q10⟩ := and_e q8
  obtain ⟨q11, q12⟩ := and_e q10
  have hw := fun d (hd : d ∈ tables_1) => atoms_spec (ws := Jvm.Cond.code x code maxLocals ret :: tables_1) hat d (List.mem_cons_of_mem _ hd)
  have hfit : Fit s := fun {y c} hc i hi => by
    obtain ⟨ha, rfl⟩ := Array.getElem?_eq_some_iff.mp hc
    have q := List.all_eq_true.mp ((Array.all_eq_true_iff_forall_mem.mp hF) _ (Array.getElem_mem ha)) i (List.mem_range.mpr hi)
    simpa [Array.getElem?_eq_getElem hi] using q
  obtain ⟨q13, q14⟩ := and_e hn
  obtain ⟨w_IDENTIFIER, ev_IDENTIFIER⟩ := exa_v q13
  have PE_IDENTIFIER := Exa.start ev_IDENTIFIER q13
  have PS_IDENTIFIER := Sta.start ev_IDENTIFIER (Or.inr ⟨(hw _ (List.mem_of_getElem? (i := 6) rfl)), (hw _ (List.mem_of_getElem? (i := 7) rfl))⟩)
  obtain ⟨q15, q16⟩ := and_e q14
  obtain ⟨w_RIGHT_BRACE, ev_RIGHT_BRACE⟩ := exa_v q15
  have PE_RIGHT_BRACE := Exa.start ev_RIGHT_BRACE q15
  have PS_RIGHT_BRACE := Sta.start ev_RIGHT_BRACE (Or.inr ⟨(hw _ (List.mem_of_getElem? (i := 6) rfl)), (hw _ (List.mem_of_getElem? (i := 9) rfl))⟩)
  obtain ⟨q17, q18⟩ := and_e q16
  obtain ⟨q19, q20⟩ := and_e q18
  obtain ⟨q21, q22⟩ := and_e q20
  obtain ⟨w_LEFT_BRACKET, ev_LEFT_BRACKET⟩ := exa_v q21
  have PE_LEFT_BRACKET := Exa.start ev_LEFT_BRACKET q21
  have PS_LEFT_BRACKET := Sta.start ev_LEFT_BRACKET (Or.inr ⟨(hw _ (List.mem_of_getElem? (i := 6) rfl)), (hw _ (List.mem_of_getElem? (i := 66) rfl))⟩)
  obtain ⟨q23, q24⟩ := and_e q22
  obtain ⟨w_COLON, ev_COLON⟩ := exa_v q23
  have PE_COLON := Exa.start ev_COLON q23
  have PS_COLON := Sta.start ev_COLON (Or.inr ⟨(hw _ (List.mem_of_getElem? (i := 6) rfl)), (hw _ (List.mem_of_getElem? (i := 68) rfl))⟩)
  obtain ⟨q25, q26⟩ := and_e q24
  obtain ⟨q27, q28⟩ := and_e q26
  obtain ⟨q29, q30⟩ := and_e q28
  obtain ⟨w_LEFT_BRACE, ev_LEFT_BRACE⟩ := exa_v q29
  have PE_LEFT_BRACE := Exa.start ev_LEFT_BRACE q29
  have PS_LEFT_BRACE := Sta.start ev_LEFT_BRACE (Or.inr ⟨(hw _ (List.mem_of_getElem? (i := 6) rfl)), (hw _ (List.mem_of_getElem? (i := 70) rfl))⟩)
  obtain ⟨q31, q32⟩ := and_e q30
  obtain ⟨q33, q34⟩ := and_e q32
  obtain ⟨w_LESS, ev_LESS⟩ := exa_v q33
  have PE_LESS := Exa.start ev_LESS q33
  have PS_LESS := Sta.start ev_LESS (Or.inr ⟨(hw _ (List.mem_of_getElem? (i := 6) rfl)), (hw _ (List.mem_of_getElem? (i := 72) rfl))⟩)
  obtain ⟨q35, q36⟩ := and_e q34
  obtain ⟨w_RIGHT_PAREN, ev_RIGHT_PAREN⟩ := exa_v q35
  have PE_RIGHT_PAREN := Exa.start ev_RIGHT_PAREN q35
  have PS_RIGHT_PAREN := Sta.start ev_RIGHT_PAREN (Or.inr ⟨(hw _ (List.mem_of_getElem? (i := 6) rfl)), (hw _ (List.mem_of_getElem? (i := 74) rfl))⟩)
  obtain ⟨q37, q38⟩ := and_e q36
  obtain ⟨q39, q40⟩ := and_e q38
  obtain ⟨q41, q42⟩ := and_e q40
  obtain ⟨w_LEFT_PAREN, ev_LEFT_PAREN⟩ := exa_v q41
  have PE_LEFT_PAREN := Exa.start ev_LEFT_PAREN q41
  have PS_LEFT_PAREN := Sta.start ev_LEFT_PAREN (Or.inr ⟨(hw _ (List.mem_of_getElem? (i := 6) rfl)), (hw _ (List.mem_of_getElem? (i := 76) rfl))⟩)
  obtain ⟨q43, q44⟩ := and_e q42
  obtain ⟨q45, q46⟩ := and_e q44
  obtain ⟨w_COMMA, ev_COMMA⟩ := exa_v q45
  have PE_COMMA := Exa.start ev_COMMA q45
  have PS_COMMA := Sta.start ev_COMMA (Or.inr ⟨(hw _ (List.mem_of_getElem? (i := 6) rfl)), (hw _ (List.mem_of_getElem? (i := 78) rfl))⟩)
  obtain ⟨q47, q48⟩ := and_e q46
  obtain ⟨w_AT, ev_AT⟩ := exa_v q47
  have PE_AT := Exa.start ev_AT q47
  have PS_AT := Sta.start ev_AT (Or.inr ⟨(hw _ (List.mem_of_getElem? (i := 6) rfl)), (hw _ (List.mem_of_getElem? (i := 80) rfl))⟩)
  obtain ⟨q49, q50⟩ := and_e q48
  obtain ⟨q51, q52⟩ := and_e q50
  obtain ⟨q53, q54⟩ := and_e q52
  obtain ⟨w_DOUBLE_COLON, ev_DOUBLE_COLON⟩ := exa_v q53
  have PE_DOUBLE_COLON := Exa.start ev_DOUBLE_COLON q53
  have PS_DOUBLE_COLON := Sta.start ev_DOUBLE_COLON (Or.inr ⟨(hw _ (List.mem_of_getElem? (i := 6) rfl)), (hw _ (List.mem_of_getElem? (i := 82) rfl))⟩)
  obtain ⟨q55, q56⟩ := and_e q54
  obtain ⟨q57, q58⟩ := and_e q56
  obtain ⟨w_SEMICOLON, ev_SEMICOLON⟩ := exa_v q57
  have PE_SEMICOLON := Exa.start ev_SEMICOLON q57
  have PS_SEMICOLON := Sta.start ev_SEMICOLON (Or.inr ⟨(hw _ (List.mem_of_getElem? (i := 6) rfl)), (hw _ (List.mem_of_getElem? (i := 84) rfl))⟩)
  obtain ⟨q59, q60⟩ := and_e q58
  obtain ⟨q61, q62⟩ := and_e q60
  obtain ⟨w_RIGHT_BRACKET, ev_RIGHT_BRACKET⟩ := exa_v q61
  have PE_RIGHT_BRACKET := Exa.start ev_RIGHT_BRACKET q61
  have PS_RIGHT_BRACKET := Sta.start ev_RIGHT_BRACKET (Or.inr ⟨(hw _ (List.mem_of_getElem? (i := 6) rfl)), (hw _ (List.mem_of_getElem? (i := 86) rfl))⟩)
  obtain ⟨q63, q64⟩ := and_e q62
  obtain ⟨q65, q66⟩ := and_e q64
  obtain ⟨w_QUESTION, ev_QUESTION⟩ := exa_v q65
  have PE_QUESTION := Exa.start ev_QUESTION q65
  have PS_QUESTION := Sta.start ev_QUESTION (Or.inr ⟨(hw _ (List.mem_of_getElem? (i := 6) rfl)), (hw _ (List.mem_of_getElem? (i := 88) rfl))⟩)
  obtain ⟨q67, q68⟩ := and_e q66
  obtain ⟨q69, q70⟩ := and_e q68
  obtain ⟨w_STRING, ev_STRING⟩ := exa_v q69
  have PE_STRING := Exa.start ev_STRING q69
  have PS_STRING := Sta.start ev_STRING (Or.inr ⟨(hw _ (List.mem_of_getElem? (i := 6) rfl)), (hw _ (List.mem_of_getElem? (i := 90) rfl))⟩)
  obtain ⟨q71, q72⟩ := and_e q70
  obtain ⟨q73, q74⟩ := and_e q72
  obtain ⟨w_GREATER, ev_GREATER⟩ := exa_v q73
  have PE_GREATER := Exa.start ev_GREATER q73
  have PS_GREATER := Sta.start ev_GREATER (Or.inr ⟨(hw _ (List.mem_of_getElem? (i := 6) rfl)), (hw _ (List.mem_of_getElem? (i := 92) rfl))⟩)
  obtain ⟨q75, q76⟩ := and_e q74
  obtain ⟨q77, q78⟩ := and_e q76
  obtain ⟨w_EQUALS, ev_EQUALS⟩ := exa_v q77
  have PE_EQUALS := Exa.start ev_EQUALS q77
  have PS_EQUALS := Sta.start ev_EQUALS (Or.inr ⟨(hw _ (List.mem_of_getElem? (i := 6) rfl)), (hw _ (List.mem_of_getElem? (i := 94) rfl))⟩)
  obtain ⟨q79, q80⟩ := and_e q78
  obtain ⟨q81, q82⟩ := and_e q80
  obtain ⟨w_END, ev_END⟩ := exa_v q81
  have PE_END := Exa.start ev_END q81
  have PS_END := Sta.start ev_END (Or.inr ⟨(hw _ (List.mem_of_getElem? (i := 6) rfl)), (hw _ (List.mem_of_getElem? (i := 96) rfl))⟩)
  have PF_IDENTIFIER_ordinal := Fld.start ((fld_at ev_IDENTIFIER).symm.trans (eqv_i (Term.int_eval (0)) q17))
  have PF_RIGHT_BRACE_ordinal := Fld.start ((fld_at ev_RIGHT_BRACE).symm.trans (eqv_i (Term.int_eval (3)) q19))
  have PF_LEFT_BRACKET_ordinal := Fld.start ((fld_at ev_LEFT_BRACKET).symm.trans (eqv_i (Term.int_eval (4)) q25))
  have PF_COLON_ordinal := Fld.start ((fld_at ev_COLON).symm.trans (eqv_i (Term.int_eval (10)) q27))
  have PF_LEFT_BRACE_ordinal := Fld.start ((fld_at ev_LEFT_BRACE).symm.trans (eqv_i (Term.int_eval (2)) q31))
  have PF_LESS_ordinal := Fld.start ((fld_at ev_LESS).symm.trans (eqv_i (Term.int_eval (6)) q37))
  have PF_RIGHT_PAREN_ordinal := Fld.start ((fld_at ev_RIGHT_PAREN).symm.trans (eqv_i (Term.int_eval (14)) q39))
  have PF_LEFT_PAREN_ordinal := Fld.start ((fld_at ev_LEFT_PAREN).symm.trans (eqv_i (Term.int_eval (13)) q43))
  have PF_COMMA_ordinal := Fld.start ((fld_at ev_COMMA).symm.trans (eqv_i (Term.int_eval (8)) q49))
  have PF_AT_ordinal := Fld.start ((fld_at ev_AT).symm.trans (eqv_i (Term.int_eval (12)) q51))
  have PF_DOUBLE_COLON_ordinal := Fld.start ((fld_at ev_DOUBLE_COLON).symm.trans (eqv_i (Term.int_eval (16)) q55))
  have PF_SEMICOLON_ordinal := Fld.start ((fld_at ev_SEMICOLON).symm.trans (eqv_i (Term.int_eval (9)) q59))
  have PF_RIGHT_BRACKET_ordinal := Fld.start ((fld_at ev_RIGHT_BRACKET).symm.trans (eqv_i (Term.int_eval (5)) q63))
  have PF_QUESTION_ordinal := Fld.start ((fld_at ev_QUESTION).symm.trans (eqv_i (Term.int_eval (15)) q67))
  have PF_STRING_ordinal := Fld.start ((fld_at ev_STRING).symm.trans (eqv_i (Term.int_eval (1)) q71))
  have PF_GREATER_ordinal := Fld.start ((fld_at ev_GREATER).symm.trans (eqv_i (Term.int_eval (7)) q75))
  have PF_EQUALS_ordinal := Fld.start ((fld_at ev_EQUALS).symm.trans (eqv_i (Term.int_eval (11)) q79))
  have PF_END_ordinal := Fld.start ((fld_at ev_END).symm.trans (eqv_i (Term.int_eval (17)) q82))
  obtain ⟨hsets, hown0⟩ := atoms_of _ (rest_1_c_eq ▸ (show rest_1_c.before _ s = true from hrest))
  have hr0 := Cond.before_iff.mp hown0
  obtain ⟨zcs, evcs⟩ := is_v (Cond.before_iff.mp (hsets _ (List.mem_of_getElem? (i := 1) rfl)))
  have SCompact := Sta.start evcs (Or.inl (hsets _ (List.mem_of_getElem? (i := 0) rfl)))
  have hCS := gotF (Cond.eq_ints evcs (Term.int_eval (0))) (not_v (Cond.before_iff.mp (hsets _ (List.mem_of_getElem? (i := 2) rfl))))
  obtain ⟨i0, ei0⟩ := is_v q3
  obtain rfl : w0 = (.int i0) := Option.some.inj ei0
  obtain ⟨i1, ei1⟩ := is_v q5
  obtain rfl : w1 = (.int i1) := Option.some.inj ei1
  obtain ⟨i2, ei2⟩ := is_v q7
  obtain rfl : w2 = (.int i2) := Option.some.inj ei2
  obtain ⟨i3, ei3⟩ := is_v q9
  obtain rfl : w3 = (.int i3) := Option.some.inj ei3
  obtain ⟨i4, ei4⟩ := is_v q11
  obtain rfl : w4 = (.int i4) := Option.some.inj ei4
  obtain ⟨i5, ei5⟩ := is_v q12
  obtain rfl : w5 = (.int i5) := Option.some.inj ei5
  obtain ⟨n, o, h1, h2, h3, _, L, rfl, ⟨rfl, N, -⟩, hq⟩ := rm0 l s _ hw tables_1 i0 i1 i2 i3 i4 i5 w_IDENTIFIER w_STRING w_LEFT_BRACE w_RIGHT_BRACE w_LEFT_BRACKET w_RIGHT_BRACKET w_LESS w_GREATER w_COMMA w_SEMICOLON w_COLON w_EQUALS w_AT w_LEFT_PAREN w_RIGHT_PAREN w_QUESTION w_DOUBLE_COLON w_END zcs s.heap s.heap.size (Nat.le_refl _) (Old.start s) PE_IDENTIFIER PS_IDENTIFIER PE_RIGHT_BRACE PS_RIGHT_BRACE PF_IDENTIFIER_ordinal PF_RIGHT_BRACE_ordinal PE_LEFT_BRACKET PS_LEFT_BRACKET PE_COLON PS_COLON PF_LEFT_BRACKET_ordinal PF_COLON_ordinal PE_LEFT_BRACE PS_LEFT_BRACE PF_LEFT_BRACE_ordinal PE_LESS PS_LESS PE_RIGHT_PAREN PS_RIGHT_PAREN PF_LESS_ordinal PF_RIGHT_PAREN_ordinal PE_LEFT_PAREN PS_LEFT_PAREN PF_LEFT_PAREN_ordinal PE_COMMA PS_COMMA PE_AT PS_AT PF_COMMA_ordinal PF_AT_ordinal PE_DOUBLE_COLON PS_DOUBLE_COLON PF_DOUBLE_COLON_ordinal PE_SEMICOLON PS_SEMICOLON PF_SEMICOLON_ordinal PE_RIGHT_BRACKET PS_RIGHT_BRACKET PF_RIGHT_BRACKET_ordinal PE_QUESTION PS_QUESTION PF_QUESTION_ordinal PE_STRING PS_STRING PF_STRING_ordinal PE_GREATER PS_GREATER PF_GREATER_ordinal PE_EQUALS PS_EQUALS PF_EQUALS_ordinal PE_END PS_END PF_END_ordinal SCompact hCS p e ha hc hk s m _ below hf ((Spec.applies_iff_loose hf).mp happ).1 ⟨rfl, State.Warmed39.refl s, rfl⟩ trivial
  refine ⟨n, _, h1, h2, h3, hpost _ _ _ _ _ _ ⟨Cond.after_iff.mpr rfl, Cond.after_iff.mpr (eq_i res_at (Term.int_eval (1)) rfl), trivial⟩ ⟨hq.1, hq.2.1, (hq.2.2.sift fun y hy => Or.inr (N y hy)).mono (by decide) (by decide)⟩⟩
theorem main_1_1 : Claimed_1_1 := comes_1 fun _ _ _ _ _ _ h hF => ⟨h.1, hF⟩
theorem main_1_2 : Claimed_1_2 := comes_1 fun _ _ _ _ _ _ h hF => ⟨h.2.1, hF⟩
end Jvm.Pilot.@@N@@
namespace Jvm.Pilot.@@N@@
open Jvm Jvm.ClassFile Sem Op Lib Jvm.Free Jvm.Stand Jvm.Pilot.@@N@@.Jvm.D
/-! MADE BY PROGRAM (witnessworld.py) out of the Statement's table words and the real class files: 23 classes; the members and pool entries that the words name. The judged class is class 1, her method 2. -/
namespace start1
open Jvm.ClassFile
def u (s : String) : CpInfo := .utf8 (stringToUtf16 s)
/-- a pool by its gaps: so many unusable entries, then the entry; so many at the end -/
def gap : Nat → List CpInfo → List CpInfo
  | 0, r => r
  | n + 1, r => .unusable :: gap n r
def poolList (es : List (Nat × CpInfo)) (last : Nat) : List CpInfo := es.foldr (fun e r => gap e.1 (e.2 :: r)) (gap last [])
def pool (es : List (Nat × CpInfo)) (last : Nat) : Array CpInfo := ⟨poolList es last⟩
def fileOf (pool : Array CpInfo) (this : Nat) (attrs : Array Attribute := #[]) (ms : Array MethodInfo := #[]) (fl : Nat := 33) (sup : Nat := 0) (ifs : Array Nat := #[]) (fds : Array FieldInfo := #[]) : ClassFile where
  minorVersion := 0
  majorVersion := 65
  constantPool := pool
  accessFlags := fl
  thisClass := this
  superClass := sup
  interfaces := ifs
  fields := fds
  methods := ms
  attributes := attrs
def plain (name : String) (sup : Option ClassId) : Class where
  name := name
  kind := .ordinary
  loader := none
  accessFlags := 33
  super := sup
  interfaces := #[]
  cf := none
  fields := #[]
  methods := #[]
  instanceTypes := #[]
  staticTypes := #[]
  resolved := #[]
  callSites := []
  init := .initialized
  statics := none
  mirror := none

def pool0 : Array CpInfo := pool [(5, u "<init>"), (0, u "()V"), (1, .class_ 10), (1, u "java/lang/Object")] 113

def k0c0 : Code := { maxStack := 0, maxLocals := 1, code := object_method_1_code, exceptionTable := #[], attributes := #[] }
def k0m0 : Method := { name := "<init>", desc := "()V", sig := { parameters := [], returnType := none }, accessFlags := 1, code := some k0c0 }
/-- java/lang/Object -/
def k0 : Class := { plain "java/lang/Object" none with
  accessFlags := 33
  interfaces := #[]
  cf := some (fileOf pool0 8 #[] #[{ accessFlags := 1, nameIndex := 5, descriptorIndex := 6, attributes := #[] }] 33 0 #[] #[])
  fields := #[]
  methods := #[k0m0]
  instanceTypes := #[]
  staticTypes := #[]
  resolved := Array.replicate 124 none
  statics := none }

def pool1 : Array CpInfo := pool [(2, .class_ 4), (1, u "java/lang/Object"), (0, u "<init>"), (0, u "()V"), (0, .fieldref 8 9), (0, .class_ 10), (0, .nameAndType 11 12), (0, u "com/example/trusswork/trusswork/schema/Token$Kind"), (0, u "IDENTIFIER"), (0, u "Lcom/example/trusswork/trusswork/schema/Token$Kind;"), (0, .fieldref 8 14), (0, .nameAndType 15 12), (0, u "STRING"), (0, .fieldref 8 17), (0, .nameAndType 18 12), (0, u "LEFT_BRACE"), (0, .fieldref 8 20), (0, .nameAndType 21 12), (0, u "RIGHT_BRACE"), (0, .fieldref 8 23), (0, .nameAndType 24 12), (0, u "LEFT_BRACKET"), (0, .fieldref 8 26), (0, .nameAndType 27 12), (0, u "RIGHT_BRACKET"), (0, .fieldref 8 29), (0, .nameAndType 30 12), (0, u "LESS"), (0, .fieldref 8 32), (0, .nameAndType 33 12), (0, u "GREATER"), (0, .fieldref 8 35), (0, .nameAndType 36 12), (0, u "COMMA"), (0, .fieldref 8 38), (0, .nameAndType 39 12), (0, u "SEMICOLON"), (0, .fieldref 8 41), (0, .nameAndType 42 12), (0, u "COLON"), (0, .fieldref 8 44), (0, .nameAndType 45 12), (0, u "EQUALS"), (0, .fieldref 8 47), (0, .nameAndType 48 12), (0, u "AT"), (0, .fieldref 8 50), (0, .nameAndType 51 12), (0, u "LEFT_PAREN"), (0, .fieldref 8 53), (0, .nameAndType 54 12), (0, u "RIGHT_PAREN"), (0, .fieldref 8 56), (0, .nameAndType 57 12), (0, u "QUESTION"), (0, .fieldref 8 59), (0, .nameAndType 60 12), (0, u "DOUBLE_COLON"), (0, .fieldref 8 62), (0, .nameAndType 63 12), (0, u "END"), (0, .integer 2147483647), (0, .methodref 66 67), (0, .class_ 68), (0, .nameAndType 69 70), (0, u "com/example/trusswork/trusswork/schema/TokenIsPinLaw"), (0, u "kindOf"), (0, u "(I)Lcom/example/trusswork/trusswork/schema/Token$Kind;"), (0, .class_ 72), (0, u "com/example/trusswork/trusswork/schema/Token"), (0, .class_ 74), (0, u "java/lang/String"), (0, .methodref 73 76), (0, .nameAndType 5 77), (0, u "([C)V"), (0, .methodref 71 79), (0, .nameAndType 5 80), (0, u "(Lcom/example/trusswork/trusswork/schema/Token$Kind;Ljava/lang/String;II)V"), (0, .methodref 71 82), (0, .nameAndType 83 84), (0, u "is"), (0, u "(Lcom/example/trusswork/trusswork/schema/Token$Kind;)Z"), (3, u "law"), (0, u "(IIIIII)Z")] 6

def k1m0 : Method := { name := "<init>", desc := "()V", sig := { parameters := [], returnType := none }, accessFlags := 1, code := none }
def k1c1 : Code := { maxStack := 2, maxLocals := 1, code := method_2_code, exceptionTable := #[], attributes := #[] }
def k1m1 : Method := { name := "kindOf", desc := "(I)Lcom/example/trusswork/trusswork/schema/Token$Kind;", sig := { parameters := [.int], returnType := some (.object "com/example/trusswork/trusswork/schema/Token$Kind") }, accessFlags := 10, code := some k1c1 }
def k1c2 : Code := { maxStack := 6, maxLocals := 13, code := code, exceptionTable := #[], attributes := #[] }
def k1m2 : Method := { name := "law", desc := "(IIIIII)Z", sig := { parameters := [.int, .int, .int, .int, .int, .int], returnType := some .boolean }, accessFlags := 9, code := some k1c2 }
/-- com/example/trusswork/trusswork/schema/TokenIsPinLaw -/
def k1 : Class := { plain "com/example/trusswork/trusswork/schema/TokenIsPinLaw" (some 0) with
  accessFlags := 49
  interfaces := #[]
  cf := some (fileOf pool1 66 #[] #[{ accessFlags := 1, nameIndex := 5, descriptorIndex := 6, attributes := #[] }, { accessFlags := 10, nameIndex := 69, descriptorIndex := 70, attributes := #[] }, { accessFlags := 9, nameIndex := 88, descriptorIndex := 89, attributes := #[] }] 49 2 #[] #[])
  fields := #[]
  methods := #[k1m0, k1m1, k1m2]
  instanceTypes := #[]
  staticTypes := #[]
  resolved := Array.replicate 96 none
  statics := none }

def pool2 : Array CpInfo := pool [(1, .class_ 2), (0, u "java/lang/constant/Constable"), (0, .class_ 4), (0, u "java/lang/Object")] 6

/-- java/lang/constant/Constable -/
def k2 : Class := { plain "java/lang/constant/Constable" (some 0) with
  accessFlags := 1537
  interfaces := #[]
  cf := some (fileOf pool2 1 #[] #[] 1537 3 #[] #[])
  fields := #[]
  methods := #[]
  instanceTypes := #[]
  staticTypes := #[]
  resolved := Array.replicate 11 none
  statics := none }

def pool3 : Array CpInfo := pool [(1, .class_ 2), (0, u "java/lang/Comparable"), (0, .class_ 4), (0, u "java/lang/Object")] 7

/-- java/lang/Comparable -/
def k3 : Class := { plain "java/lang/Comparable" (some 0) with
  accessFlags := 1537
  interfaces := #[]
  cf := some (fileOf pool3 1 #[] #[] 1537 3 #[] #[])
  fields := #[]
  methods := #[]
  instanceTypes := #[]
  staticTypes := #[]
  resolved := Array.replicate 12 none
  statics := none }

def pool4 : Array CpInfo := pool [(1, .class_ 2), (0, u "java/io/Serializable"), (0, .class_ 4), (0, u "java/lang/Object")] 2

/-- java/io/Serializable -/
def k4 : Class := { plain "java/io/Serializable" (some 0) with
  accessFlags := 1537
  interfaces := #[]
  cf := some (fileOf pool4 1 #[] #[] 1537 3 #[] #[])
  fields := #[]
  methods := #[]
  instanceTypes := #[]
  staticTypes := #[]
  resolved := Array.replicate 7 none
  statics := none }

def pool5 : Array CpInfo := pool [(2, .class_ 4), (1, u "java/lang/Enum"), (0, u "name"), (0, u "Ljava/lang/String;"), (2, u "ordinal"), (0, u "I"), (1, .class_ 14), (1, u "java/lang/Object"), (4, u "hash"), (86, .class_ 108), (1, u "java/lang/Enum$EnumDesc"), (2, .class_ 112), (0, u "java/lang/constant/Constable"), (0, .class_ 114), (0, u "java/lang/Comparable"), (0, .class_ 116), (0, u "java/io/Serializable")] 87

/-- java/lang/Enum -/
def k5 : Class := { plain "java/lang/Enum" (some 0) with
  accessFlags := 1057
  interfaces := #[2, 3, 4]
  cf := some (fileOf pool5 2 #[.nestMembers #[106]] #[] 1057 12 #[111, 113, 115] #[{ accessFlags := 18, nameIndex := 5, descriptorIndex := 6, attributes := #[] }, { accessFlags := 18, nameIndex := 9, descriptorIndex := 10, attributes := #[] }, { accessFlags := 2, nameIndex := 19, descriptorIndex := 10, attributes := #[] }])
  fields := #[{ name := "name", type := (.object "java/lang/String"), accessFlags := 18, slot := 0, constantValue := 0 }, { name := "ordinal", type := .int, accessFlags := 18, slot := 1, constantValue := 0 }, { name := "hash", type := .int, accessFlags := 2, slot := 2, constantValue := 0 }]
  methods := #[]
  instanceTypes := #[(.object "java/lang/String"), .int, .int]
  staticTypes := #[]
  resolved := Array.replicate 204 none
  statics := none }

def pool6 : Array CpInfo := pool [(1, .class_ 2), (0, u "com/example/trusswork/trusswork/schema/Token$Kind"), (2, u "IDENTIFIER"), (0, u "Lcom/example/trusswork/trusswork/schema/Token$Kind;"), (2, u "STRING"), (2, u "LEFT_BRACE"), (2, u "RIGHT_BRACE"), (2, u "LEFT_BRACKET"), (2, u "RIGHT_BRACKET"), (2, u "LESS"), (2, u "GREATER"), (2, u "COMMA"), (2, u "SEMICOLON"), (2, u "COLON"), (2, u "EQUALS"), (2, u "AT"), (2, u "LEFT_PAREN"), (2, u "RIGHT_PAREN"), (2, u "QUESTION"), (2, u "DOUBLE_COLON"), (2, u "END"), (2, u "$VALUES"), (0, u "[Lcom/example/trusswork/trusswork/schema/Token$Kind;"), (6, .class_ 70), (1, u "java/lang/Enum"), (8, u "spelling"), (0, u "Ljava/lang/String;"), (102, .class_ 184), (0, u "com/example/trusswork/trusswork/schema/Token")] 16

/-- com/example/trusswork/trusswork/schema/Token$Kind -/
def k6 : Class := { plain "com/example/trusswork/trusswork/schema/Token$Kind" (some 5) with
  accessFlags := 16432
  interfaces := #[]
  cf := some (fileOf pool6 1 #[.nestHost 183] #[] 16432 68 #[] #[{ accessFlags := 16409, nameIndex := 5, descriptorIndex := 6, attributes := #[] }, { accessFlags := 16409, nameIndex := 9, descriptorIndex := 6, attributes := #[] }, { accessFlags := 16409, nameIndex := 12, descriptorIndex := 6, attributes := #[] }, { accessFlags := 16409, nameIndex := 15, descriptorIndex := 6, attributes := #[] }, { accessFlags := 16409, nameIndex := 18, descriptorIndex := 6, attributes := #[] }, { accessFlags := 16409, nameIndex := 21, descriptorIndex := 6, attributes := #[] }, { accessFlags := 16409, nameIndex := 24, descriptorIndex := 6, attributes := #[] }, { accessFlags := 16409, nameIndex := 27, descriptorIndex := 6, attributes := #[] }, { accessFlags := 16409, nameIndex := 30, descriptorIndex := 6, attributes := #[] }, { accessFlags := 16409, nameIndex := 33, descriptorIndex := 6, attributes := #[] }, { accessFlags := 16409, nameIndex := 36, descriptorIndex := 6, attributes := #[] }, { accessFlags := 16409, nameIndex := 39, descriptorIndex := 6, attributes := #[] }, { accessFlags := 16409, nameIndex := 42, descriptorIndex := 6, attributes := #[] }, { accessFlags := 16409, nameIndex := 45, descriptorIndex := 6, attributes := #[] }, { accessFlags := 16409, nameIndex := 48, descriptorIndex := 6, attributes := #[] }, { accessFlags := 16409, nameIndex := 51, descriptorIndex := 6, attributes := #[] }, { accessFlags := 16409, nameIndex := 54, descriptorIndex := 6, attributes := #[] }, { accessFlags := 16409, nameIndex := 57, descriptorIndex := 6, attributes := #[] }, { accessFlags := 18, nameIndex := 79, descriptorIndex := 80, attributes := #[] }, { accessFlags := 4122, nameIndex := 60, descriptorIndex := 61, attributes := #[] }])
  fields := #[{ name := "IDENTIFIER", type := (.object "com/example/trusswork/trusswork/schema/Token$Kind"), accessFlags := 16409, slot := 0, constantValue := 0 }, { name := "STRING", type := (.object "com/example/trusswork/trusswork/schema/Token$Kind"), accessFlags := 16409, slot := 1, constantValue := 0 }, { name := "LEFT_BRACE", type := (.object "com/example/trusswork/trusswork/schema/Token$Kind"), accessFlags := 16409, slot := 2, constantValue := 0 }, { name := "RIGHT_BRACE", type := (.object "com/example/trusswork/trusswork/schema/Token$Kind"), accessFlags := 16409, slot := 3, constantValue := 0 }, { name := "LEFT_BRACKET", type := (.object "com/example/trusswork/trusswork/schema/Token$Kind"), accessFlags := 16409, slot := 4, constantValue := 0 }, { name := "RIGHT_BRACKET", type := (.object "com/example/trusswork/trusswork/schema/Token$Kind"), accessFlags := 16409, slot := 5, constantValue := 0 }, { name := "LESS", type := (.object "com/example/trusswork/trusswork/schema/Token$Kind"), accessFlags := 16409, slot := 6, constantValue := 0 }, { name := "GREATER", type := (.object "com/example/trusswork/trusswork/schema/Token$Kind"), accessFlags := 16409, slot := 7, constantValue := 0 }, { name := "COMMA", type := (.object "com/example/trusswork/trusswork/schema/Token$Kind"), accessFlags := 16409, slot := 8, constantValue := 0 }, { name := "SEMICOLON", type := (.object "com/example/trusswork/trusswork/schema/Token$Kind"), accessFlags := 16409, slot := 9, constantValue := 0 }, { name := "COLON", type := (.object "com/example/trusswork/trusswork/schema/Token$Kind"), accessFlags := 16409, slot := 10, constantValue := 0 }, { name := "EQUALS", type := (.object "com/example/trusswork/trusswork/schema/Token$Kind"), accessFlags := 16409, slot := 11, constantValue := 0 }, { name := "AT", type := (.object "com/example/trusswork/trusswork/schema/Token$Kind"), accessFlags := 16409, slot := 12, constantValue := 0 }, { name := "LEFT_PAREN", type := (.object "com/example/trusswork/trusswork/schema/Token$Kind"), accessFlags := 16409, slot := 13, constantValue := 0 }, { name := "RIGHT_PAREN", type := (.object "com/example/trusswork/trusswork/schema/Token$Kind"), accessFlags := 16409, slot := 14, constantValue := 0 }, { name := "QUESTION", type := (.object "com/example/trusswork/trusswork/schema/Token$Kind"), accessFlags := 16409, slot := 15, constantValue := 0 }, { name := "DOUBLE_COLON", type := (.object "com/example/trusswork/trusswork/schema/Token$Kind"), accessFlags := 16409, slot := 16, constantValue := 0 }, { name := "END", type := (.object "com/example/trusswork/trusswork/schema/Token$Kind"), accessFlags := 16409, slot := 17, constantValue := 0 }, { name := "spelling", type := (.object "java/lang/String"), accessFlags := 18, slot := 3, constantValue := 0 }, { name := "$VALUES", type := (.array (.object "com/example/trusswork/trusswork/schema/Token$Kind")), accessFlags := 4122, slot := 18, constantValue := 0 }]
  methods := #[]
  instanceTypes := #[(.object "java/lang/String"), .int, .int, (.object "java/lang/String")]
  staticTypes := #[(.object "com/example/trusswork/trusswork/schema/Token$Kind"), (.object "com/example/trusswork/trusswork/schema/Token$Kind"), (.object "com/example/trusswork/trusswork/schema/Token$Kind"), (.object "com/example/trusswork/trusswork/schema/Token$Kind"), (.object "com/example/trusswork/trusswork/schema/Token$Kind"), (.object "com/example/trusswork/trusswork/schema/Token$Kind"), (.object "com/example/trusswork/trusswork/schema/Token$Kind"), (.object "com/example/trusswork/trusswork/schema/Token$Kind"), (.object "com/example/trusswork/trusswork/schema/Token$Kind"), (.object "com/example/trusswork/trusswork/schema/Token$Kind"), (.object "com/example/trusswork/trusswork/schema/Token$Kind"), (.object "com/example/trusswork/trusswork/schema/Token$Kind"), (.object "com/example/trusswork/trusswork/schema/Token$Kind"), (.object "com/example/trusswork/trusswork/schema/Token$Kind"), (.object "com/example/trusswork/trusswork/schema/Token$Kind"), (.object "com/example/trusswork/trusswork/schema/Token$Kind"), (.object "com/example/trusswork/trusswork/schema/Token$Kind"), (.object "com/example/trusswork/trusswork/schema/Token$Kind"), (.array (.object "com/example/trusswork/trusswork/schema/Token$Kind"))]
  resolved := Array.replicate 201 none
  statics := some 0 }

def pool7 : Array CpInfo := pool [(1, .methodref 2 3), (0, .class_ 4), (0, .nameAndType 5 6), (0, u "java/lang/Object"), (0, u "<init>"), (0, u "()V"), (0, .class_ 8), (0, u "java/lang/Record")] 13

def k7c0 : Code := { maxStack := 1, maxLocals := 1, code := jdk_30_method_1_code, exceptionTable := #[], attributes := #[] }
def k7m0 : Method := { name := "<init>", desc := "()V", sig := { parameters := [], returnType := none }, accessFlags := 4, code := some k7c0 }
/-- java/lang/Record -/
def k7 : Class := { plain "java/lang/Record" (some 0) with
  accessFlags := 1057
  interfaces := #[]
  cf := some (fileOf pool7 7 #[] #[{ accessFlags := 4, nameIndex := 5, descriptorIndex := 6, attributes := #[] }] 1057 2 #[] #[])
  fields := #[]
  methods := #[k7m0]
  instanceTypes := #[]
  staticTypes := #[]
  resolved := Array.replicate 22 none
  statics := none }

def pool8 : Array CpInfo := pool [(1, .methodref 2 3), (0, .class_ 4), (0, .nameAndType 5 6), (0, u "java/lang/Record"), (0, u "<init>"), (0, u "()V"), (0, .fieldref 8 9), (0, .class_ 10), (0, .nameAndType 11 12), (0, u "com/example/trusswork/trusswork/schema/Token"), (0, u "kind"), (0, u "Lcom/example/trusswork/trusswork/schema/Token$Kind;"), (0, .fieldref 8 14), (0, .nameAndType 15 16), (0, u "text"), (0, u "Ljava/lang/String;"), (0, .fieldref 8 18), (0, .nameAndType 19 20), (0, u "line"), (0, u "I"), (0, .fieldref 8 22), (0, .nameAndType 23 20), (0, u "column"), (6, .class_ 32), (1, u "com/example/trusswork/trusswork/schema/Token$Kind"), (89, u "(Lcom/example/trusswork/trusswork/schema/Token$Kind;Ljava/lang/String;II)V"), (5, u "is"), (0, u "(Lcom/example/trusswork/trusswork/schema/Token$Kind;)Z")] 58

def k8c0 : Code := { maxStack := 2, maxLocals := 5, code := prog_45_method_1_code, exceptionTable := #[], attributes := #[] }
def k8m0 : Method := { name := "<init>", desc := "(Lcom/example/trusswork/trusswork/schema/Token$Kind;Ljava/lang/String;II)V", sig := { parameters := [(.object "com/example/trusswork/trusswork/schema/Token$Kind"), (.object "java/lang/String"), .int, .int], returnType := none }, accessFlags := 0, code := some k8c0 }
def k8c1 : Code := { maxStack := 2, maxLocals := 2, code := prog_45_method_3_code, exceptionTable := #[], attributes := #[] }
def k8m1 : Method := { name := "is", desc := "(Lcom/example/trusswork/trusswork/schema/Token$Kind;)Z", sig := { parameters := [(.object "com/example/trusswork/trusswork/schema/Token$Kind")], returnType := some .boolean }, accessFlags := 0, code := some k8c1 }
/-- com/example/trusswork/trusswork/schema/Token -/
def k8 : Class := { plain "com/example/trusswork/trusswork/schema/Token" (some 7) with
  accessFlags := 48
  interfaces := #[]
  cf := some (fileOf pool8 8 #[.nestMembers #[30]] #[{ accessFlags := 0, nameIndex := 5, descriptorIndex := 122, attributes := #[] }, { accessFlags := 0, nameIndex := 128, descriptorIndex := 129, attributes := #[] }] 48 2 #[] #[{ accessFlags := 18, nameIndex := 11, descriptorIndex := 12, attributes := #[] }, { accessFlags := 18, nameIndex := 15, descriptorIndex := 16, attributes := #[] }, { accessFlags := 18, nameIndex := 19, descriptorIndex := 20, attributes := #[] }, { accessFlags := 18, nameIndex := 23, descriptorIndex := 20, attributes := #[] }])
  fields := #[{ name := "kind", type := (.object "com/example/trusswork/trusswork/schema/Token$Kind"), accessFlags := 18, slot := 0, constantValue := 0 }, { name := "text", type := (.object "java/lang/String"), accessFlags := 18, slot := 1, constantValue := 0 }, { name := "line", type := .int, accessFlags := 18, slot := 2, constantValue := 0 }, { name := "column", type := .int, accessFlags := 18, slot := 3, constantValue := 0 }]
  methods := #[k8m0, k8m1]
  instanceTypes := #[(.object "com/example/trusswork/trusswork/schema/Token$Kind"), (.object "java/lang/String"), .int, .int]
  staticTypes := #[]
  resolved := Array.replicate 188 none
  statics := none }

def pool9 : Array CpInfo := pool [(2, .class_ 4), (1, u "java/lang/CharSequence"), (42, .class_ 48), (0, u "java/lang/CharSequence$1CodePointIterator"), (10, .class_ 60), (0, u "java/lang/CharSequence$1CharIterator"), (5, .class_ 67), (0, u "java/lang/Object")] 63

/-- java/lang/CharSequence -/
def k9 : Class := { plain "java/lang/CharSequence" (some 0) with
  accessFlags := 1537
  interfaces := #[]
  cf := some (fileOf pool9 2 #[.nestMembers #[47, 59]] #[] 1537 66 #[] #[])
  fields := #[]
  methods := #[]
  instanceTypes := #[]
  staticTypes := #[]
  resolved := Array.replicate 131 none
  statics := none }

def pool10 : Array CpInfo := pool [(1, .class_ 2), (0, u "java/lang/constant/ConstantDesc"), (0, .class_ 4), (0, u "java/lang/Object")] 32

/-- java/lang/constant/ConstantDesc -/
def k10 : Class := { plain "java/lang/constant/ConstantDesc" (some 0) with
  accessFlags := 1537
  interfaces := #[]
  cf := some (fileOf pool10 1 #[] #[] 1537 3 #[] #[])
  fields := #[]
  methods := #[]
  instanceTypes := #[]
  staticTypes := #[]
  resolved := Array.replicate 37 none
  statics := none }

def pool11 : Array CpInfo := pool [(1, .methodref 2 3), (0, .class_ 4), (0, .nameAndType 5 6), (0, u "java/lang/Object"), (0, u "<init>"), (0, u "()V"), (2, .fieldref 10 11), (0, .class_ 12), (0, .nameAndType 13 14), (0, u "java/lang/String"), (0, u "value"), (0, u "[B"), (0, .fieldref 10 16), (0, .nameAndType 17 18), (0, u "coder"), (0, u "B"), (2, u "hash"), (0, u "I"), (2, u "hashIsZero"), (0, u "Z"), (0, .methodref 10 28), (0, .nameAndType 5 29), (0, u "([CIILjava/lang/Void;)V"), (8, .fieldref 10 39), (0, .nameAndType 40 26), (0, u "COMPACT_STRINGS"), (1, .class_ 44), (1, u "java/lang/StringUTF16"), (0, u "compress"), (1, .methodref 42 48), (0, .nameAndType 49 50), (0, u "coderFromArrayLen"), (0, u "([BI)B"), (126, .methodref 42 178), (0, .nameAndType 45 179), (0, u "([CII)[B"), (395, .class_ 576), (0, u "java/lang/CharSequence"), (22, u "CASE_INSENSITIVE_ORDER"), (0, u "Ljava/util/Comparator;"), (409, u "([C)V"), (90, u "serialPersistentFields"), (0, u "[Ljava/io/ObjectStreamField;"), (0, .class_ 1104), (0, u "java/lang/String$CaseInsensitiveComparator"), (1, .class_ 1107), (0, u "java/io/Serializable"), (0, .class_ 1109), (0, u "java/lang/Comparable"), (0, .class_ 1111), (0, u "java/lang/constant/Constable"), (0, .class_ 1113), (0, u "java/lang/constant/ConstantDesc"), (2, u "serialVersionUID"), (0, u "J"), (3, u "REPL"), (0, u "C"), (2, u "LATIN1"), (1, u "UTF16")] 323

def k11m0 : Method := { name := "<init>", desc := "()V", sig := { parameters := [], returnType := none }, accessFlags := 1, code := none }
def k11c1 : Code := { maxStack := 5, maxLocals := 2, code := jdk_42_method_3_code, exceptionTable := #[], attributes := #[] }
def k11m1 : Method := { name := "<init>", desc := "([C)V", sig := { parameters := [(.array .char)], returnType := none }, accessFlags := 1, code := some k11c1 }
def k11c2 : Code := { maxStack := 4, maxLocals := 6, code := jdk_42_method_149_code, exceptionTable := #[], attributes := #[] }
def k11m2 : Method := { name := "<init>", desc := "([CIILjava/lang/Void;)V", sig := { parameters := [(.array .char), .int, .int, (.object "java/lang/Void")], returnType := none }, accessFlags := 2, code := some k11c2 }
/-- java/lang/String -/
def k11 : Class := { plain "java/lang/String" (some 0) with
  accessFlags := 49
  interfaces := #[4, 3, 9, 2, 10]
  cf := some (fileOf pool11 10 #[.nestMembers #[1103]] #[{ accessFlags := 1, nameIndex := 5, descriptorIndex := 6, attributes := #[] }, { accessFlags := 1, nameIndex := 5, descriptorIndex := 1010, attributes := #[] }, { accessFlags := 2, nameIndex := 5, descriptorIndex := 29, attributes := #[] }] 49 2 #[1106, 1108, 575, 1110, 1112] #[{ accessFlags := 18, nameIndex := 13, descriptorIndex := 14, attributes := #[] }, { accessFlags := 18, nameIndex := 17, descriptorIndex := 18, attributes := #[] }, { accessFlags := 2, nameIndex := 21, descriptorIndex := 22, attributes := #[] }, { accessFlags := 2, nameIndex := 25, descriptorIndex := 26, attributes := #[] }, { accessFlags := 26, nameIndex := 1116, descriptorIndex := 1117, attributes := #[] }, { accessFlags := 24, nameIndex := 40, descriptorIndex := 26, attributes := #[] }, { accessFlags := 26, nameIndex := 1101, descriptorIndex := 1102, attributes := #[] }, { accessFlags := 26, nameIndex := 1121, descriptorIndex := 1122, attributes := #[] }, { accessFlags := 25, nameIndex := 599, descriptorIndex := 600, attributes := #[] }, { accessFlags := 24, nameIndex := 1125, descriptorIndex := 18, attributes := #[] }, { accessFlags := 24, nameIndex := 1127, descriptorIndex := 18, attributes := #[] }])
  fields := #[{ name := "value", type := (.array .byte), accessFlags := 18, slot := 0, constantValue := 0 }, { name := "coder", type := .byte, accessFlags := 18, slot := 1, constantValue := 0 }, { name := "hash", type := .int, accessFlags := 2, slot := 2, constantValue := 0 }, { name := "hashIsZero", type := .boolean, accessFlags := 2, slot := 3, constantValue := 0 }, { name := "serialVersionUID", type := .long, accessFlags := 26, slot := 0, constantValue := 0 }, { name := "COMPACT_STRINGS", type := .boolean, accessFlags := 24, slot := 1, constantValue := 0 }, { name := "serialPersistentFields", type := (.array (.object "java/io/ObjectStreamField")), accessFlags := 26, slot := 2, constantValue := 0 }, { name := "REPL", type := .char, accessFlags := 26, slot := 3, constantValue := 0 }, { name := "CASE_INSENSITIVE_ORDER", type := (.object "java/util/Comparator"), accessFlags := 25, slot := 4, constantValue := 0 }, { name := "LATIN1", type := .byte, accessFlags := 24, slot := 5, constantValue := 0 }, { name := "UTF16", type := .byte, accessFlags := 24, slot := 6, constantValue := 0 }]
  methods := #[k11m0, k11m1, k11m2]
  instanceTypes := #[(.array .byte), .byte, .int, .boolean]
  staticTypes := #[.long, .boolean, (.array (.object "java/io/ObjectStreamField")), .char, (.object "java/util/Comparator"), .byte, .byte]
  resolved := Array.replicate 1451 none
  statics := some 1 }

def pool12 : Array CpInfo := pool [(6, .class_ 8), (1, u "java/lang/Object"), (0, u "<init>"), (0, u "()V"), (1, .class_ 14), (1, u "java/lang/StringUTF16"), (31, u "$assertionsDisabled"), (0, u "Z"), (13, u "HI_BYTE_SHIFT"), (0, u "I"), (2, u "LO_BYTE_SHIFT"), (49, .methodref 12 116), (0, .nameAndType 117 118), (0, u "compress"), (0, u "([CI[BII)I"), (3, u "([CII)[B"), (138, u "coderFromArrayLen"), (0, u "([BI)B"), (106, .class_ 371), (1, u "java/lang/StringUTF16$LinesSpliterator"), (58, u "MAX_LENGTH"), (196, .class_ 628), (0, u "java/lang/StringUTF16$CodePointsSpliterator"), (0, .class_ 630), (0, u "java/lang/StringUTF16$CharsSpliterator")] 4

def k12m0 : Method := { name := "<init>", desc := "()V", sig := { parameters := [], returnType := none }, accessFlags := 0, code := none }
def k12c1 : Code := { maxStack := 2, maxLocals := 2, code := jdk_52_method_15_code, exceptionTable := #[], attributes := #[] }
def k12m1 : Method := { name := "coderFromArrayLen", desc := "([BI)B", sig := { parameters := [(.array .byte), .int], returnType := some .byte }, accessFlags := 8, code := some k12c1 }
def k12c2 : Code := { maxStack := 5, maxLocals := 6, code := jdk_52_method_16_code, exceptionTable := #[], attributes := #[] }
def k12m2 : Method := { name := "compress", desc := "([CII)[B", sig := { parameters := [(.array .char), .int, .int], returnType := some (.array .byte) }, accessFlags := 9, code := some k12c2 }
def k12c3 : Code := { maxStack := 3, maxLocals := 7, code := jdk_52_method_21_code, exceptionTable := #[], attributes := #[] }
def k12m3 : Method := { name := "compress", desc := "([CI[BII)I", sig := { parameters := [(.array .char), .int, (.array .byte), .int, .int], returnType := some .int }, accessFlags := 9, code := some k12c3 }
/-- java/lang/StringUTF16 -/
def k12 : Class := { plain "java/lang/StringUTF16" (some 0) with
  accessFlags := 48
  interfaces := #[]
  cf := some (fileOf pool12 12 #[.nestMembers #[627, 629, 369]] #[{ accessFlags := 0, nameIndex := 9, descriptorIndex := 10, attributes := #[] }, { accessFlags := 8, nameIndex := 261, descriptorIndex := 262, attributes := #[] }, { accessFlags := 9, nameIndex := 117, descriptorIndex := 122, attributes := #[] }, { accessFlags := 9, nameIndex := 117, descriptorIndex := 118, attributes := #[] }] 48 6 #[] #[{ accessFlags := 26, nameIndex := 61, descriptorIndex := 62, attributes := #[] }, { accessFlags := 26, nameIndex := 65, descriptorIndex := 62, attributes := #[] }, { accessFlags := 24, nameIndex := 430, descriptorIndex := 62, attributes := #[] }, { accessFlags := 4120, nameIndex := 46, descriptorIndex := 47, attributes := #[] }])
  fields := #[{ name := "HI_BYTE_SHIFT", type := .int, accessFlags := 26, slot := 0, constantValue := 0 }, { name := "LO_BYTE_SHIFT", type := .int, accessFlags := 26, slot := 1, constantValue := 0 }, { name := "MAX_LENGTH", type := .int, accessFlags := 24, slot := 2, constantValue := 0 }, { name := "$assertionsDisabled", type := .boolean, accessFlags := 4120, slot := 3, constantValue := 0 }]
  methods := #[k12m0, k12m1, k12m2, k12m3]
  instanceTypes := #[]
  staticTypes := #[.int, .int, .int, .boolean]
  resolved := Array.replicate 635 none
  statics := none }

def pool13 : Array CpInfo := pool [(4, .class_ 6), (1, u "java/lang/Object"), (0, u "<init>"), (0, u "()V"), (5, .class_ 16), (1, u "java/lang/StringLatin1"), (104, u "$assertionsDisabled"), (0, u "Z"), (98, .class_ 223), (1, u "java/lang/StringLatin1$LinesSpliterator"), (166, .class_ 391), (0, u "java/lang/StringLatin1$CharsSpliterator")] 3

def k13m0 : Method := { name := "<init>", desc := "()V", sig := { parameters := [], returnType := none }, accessFlags := 0, code := none }
/-- java/lang/StringLatin1 -/
def k13 : Class := { plain "java/lang/StringLatin1" (some 0) with
  accessFlags := 48
  interfaces := #[]
  cf := some (fileOf pool13 14 #[.nestMembers #[390, 221]] #[{ accessFlags := 0, nameIndex := 7, descriptorIndex := 8, attributes := #[] }] 48 4 #[] #[{ accessFlags := 4120, nameIndex := 121, descriptorIndex := 122, attributes := #[] }])
  fields := #[{ name := "$assertionsDisabled", type := .boolean, accessFlags := 4120, slot := 0, constantValue := 0 }]
  methods := #[k13m0]
  instanceTypes := #[]
  staticTypes := #[.boolean]
  resolved := Array.replicate 395 none
  statics := none }

def pool14 : Array CpInfo := pool [(2, .class_ 4), (1, u "java/lang/Object"), (0, u "<init>"), (0, u "()V"), (17, .class_ 26), (1, u "jdk/internal/util/Preconditions"), (28, .class_ 56), (0, u "jdk/internal/util/Preconditions$4"), (57, .class_ 115), (0, u "jdk/internal/util/Preconditions$1"), (7, u "SIOOBE_FORMATTER"), (0, u "Ljava/util/function/BiFunction;"), (0, .class_ 126), (0, u "jdk/internal/util/Preconditions$2"), (3, u "AIOOBE_FORMATTER"), (0, .class_ 132), (0, u "jdk/internal/util/Preconditions$3"), (3, u "IOOBE_FORMATTER")] 57

def k14m0 : Method := { name := "<init>", desc := "()V", sig := { parameters := [], returnType := none }, accessFlags := 1, code := none }
/-- jdk/internal/util/Preconditions -/
def k14 : Class := { plain "jdk/internal/util/Preconditions" (some 0) with
  accessFlags := 33
  interfaces := #[]
  cf := some (fileOf pool14 24 #[.nestMembers #[55, 131, 125, 114]] #[{ accessFlags := 1, nameIndex := 5, descriptorIndex := 6, attributes := #[] }] 33 2 #[] #[{ accessFlags := 25, nameIndex := 123, descriptorIndex := 124, attributes := #[] }, { accessFlags := 25, nameIndex := 130, descriptorIndex := 124, attributes := #[] }, { accessFlags := 25, nameIndex := 136, descriptorIndex := 124, attributes := #[] }])
  fields := #[{ name := "SIOOBE_FORMATTER", type := (.object "java/util/function/BiFunction"), accessFlags := 25, slot := 0, constantValue := 0 }, { name := "AIOOBE_FORMATTER", type := (.object "java/util/function/BiFunction"), accessFlags := 25, slot := 1, constantValue := 0 }, { name := "IOOBE_FORMATTER", type := (.object "java/util/function/BiFunction"), accessFlags := 25, slot := 2, constantValue := 0 }]
  methods := #[k14m0]
  instanceTypes := #[]
  staticTypes := #[(.object "java/util/function/BiFunction"), (.object "java/util/function/BiFunction"), (.object "java/util/function/BiFunction")]
  resolved := Array.replicate 194 none
  statics := some 2 }

def pool15 : Array CpInfo := pool [(9, u "<init>"), (6, .class_ 18), (1, u "java/lang/Object"), (0, u "()V"), (1, .class_ 23), (1, u "jdk/internal/util/ArraysSupport"), (0, u "LOG2_ARRAY_LONG_INDEX_SCALE"), (0, u "I"), (2, u "U"), (0, u "Ljdk/internal/misc/Unsafe;"), (8, u "BIG_ENDIAN"), (0, u "Z"), (8, u "LOG2_BYTE_BIT_SIZE"), (4, u "LOG2_ARRAY_INT_INDEX_SCALE"), (54, u "JLA"), (0, u "Ljdk/internal/access/JavaLangAccess;"), (11, u "LOG2_ARRAY_BOOLEAN_INDEX_SCALE"), (9, u "LOG2_ARRAY_BYTE_INDEX_SCALE"), (5, u "LOG2_ARRAY_CHAR_INDEX_SCALE"), (5, u "LOG2_ARRAY_SHORT_INDEX_SCALE"), (18, u "LOG2_ARRAY_FLOAT_INDEX_SCALE"), (24, u "LOG2_ARRAY_DOUBLE_INDEX_SCALE"), (89, u "T_BOOLEAN"), (2, u "T_CHAR"), (1, u "T_FLOAT"), (1, u "T_DOUBLE"), (1, u "T_BYTE"), (1, u "T_SHORT"), (1, u "T_INT"), (1, u "T_LONG"), (1, u "SOFT_MAX_ARRAY_LENGTH")] 83

def k15m0 : Method := { name := "<init>", desc := "()V", sig := { parameters := [], returnType := none }, accessFlags := 2, code := none }
/-- jdk/internal/util/ArraysSupport -/
def k15 : Class := { plain "jdk/internal/util/ArraysSupport" (some 0) with
  accessFlags := 33
  interfaces := #[]
  cf := some (fileOf pool15 21 #[] #[{ accessFlags := 2, nameIndex := 9, descriptorIndex := 19, attributes := #[] }] 33 16 #[] #[{ accessFlags := 24, nameIndex := 28, descriptorIndex := 29, attributes := #[] }, { accessFlags := 26, nameIndex := 38, descriptorIndex := 39, attributes := #[] }, { accessFlags := 25, nameIndex := 121, descriptorIndex := 25, attributes := #[] }, { accessFlags := 25, nameIndex := 131, descriptorIndex := 25, attributes := #[] }, { accessFlags := 25, nameIndex := 137, descriptorIndex := 25, attributes := #[] }, { accessFlags := 25, nameIndex := 143, descriptorIndex := 25, attributes := #[] }, { accessFlags := 25, nameIndex := 53, descriptorIndex := 25, attributes := #[] }, { accessFlags := 25, nameIndex := 24, descriptorIndex := 25, attributes := #[] }, { accessFlags := 25, nameIndex := 162, descriptorIndex := 25, attributes := #[] }, { accessFlags := 25, nameIndex := 187, descriptorIndex := 25, attributes := #[] }, { accessFlags := 26, nameIndex := 48, descriptorIndex := 25, attributes := #[] }, { accessFlags := 25, nameIndex := 277, descriptorIndex := 25, attributes := #[] }, { accessFlags := 25, nameIndex := 280, descriptorIndex := 25, attributes := #[] }, { accessFlags := 25, nameIndex := 282, descriptorIndex := 25, attributes := #[] }, { accessFlags := 25, nameIndex := 284, descriptorIndex := 25, attributes := #[] }, { accessFlags := 25, nameIndex := 286, descriptorIndex := 25, attributes := #[] }, { accessFlags := 25, nameIndex := 288, descriptorIndex := 25, attributes := #[] }, { accessFlags := 25, nameIndex := 290, descriptorIndex := 25, attributes := #[] }, { accessFlags := 25, nameIndex := 292, descriptorIndex := 25, attributes := #[] }, { accessFlags := 26, nameIndex := 108, descriptorIndex := 109, attributes := #[] }, { accessFlags := 25, nameIndex := 294, descriptorIndex := 25, attributes := #[] }])
  fields := #[{ name := "U", type := (.object "jdk/internal/misc/Unsafe"), accessFlags := 24, slot := 0, constantValue := 0 }, { name := "BIG_ENDIAN", type := .boolean, accessFlags := 26, slot := 1, constantValue := 0 }, { name := "LOG2_ARRAY_BOOLEAN_INDEX_SCALE", type := .int, accessFlags := 25, slot := 2, constantValue := 0 }, { name := "LOG2_ARRAY_BYTE_INDEX_SCALE", type := .int, accessFlags := 25, slot := 3, constantValue := 0 }, { name := "LOG2_ARRAY_CHAR_INDEX_SCALE", type := .int, accessFlags := 25, slot := 4, constantValue := 0 }, { name := "LOG2_ARRAY_SHORT_INDEX_SCALE", type := .int, accessFlags := 25, slot := 5, constantValue := 0 }, { name := "LOG2_ARRAY_INT_INDEX_SCALE", type := .int, accessFlags := 25, slot := 6, constantValue := 0 }, { name := "LOG2_ARRAY_LONG_INDEX_SCALE", type := .int, accessFlags := 25, slot := 7, constantValue := 0 }, { name := "LOG2_ARRAY_FLOAT_INDEX_SCALE", type := .int, accessFlags := 25, slot := 8, constantValue := 0 }, { name := "LOG2_ARRAY_DOUBLE_INDEX_SCALE", type := .int, accessFlags := 25, slot := 9, constantValue := 0 }, { name := "LOG2_BYTE_BIT_SIZE", type := .int, accessFlags := 26, slot := 10, constantValue := 0 }, { name := "T_BOOLEAN", type := .int, accessFlags := 25, slot := 11, constantValue := 0 }, { name := "T_CHAR", type := .int, accessFlags := 25, slot := 12, constantValue := 0 }, { name := "T_FLOAT", type := .int, accessFlags := 25, slot := 13, constantValue := 0 }, { name := "T_DOUBLE", type := .int, accessFlags := 25, slot := 14, constantValue := 0 }, { name := "T_BYTE", type := .int, accessFlags := 25, slot := 15, constantValue := 0 }, { name := "T_SHORT", type := .int, accessFlags := 25, slot := 16, constantValue := 0 }, { name := "T_INT", type := .int, accessFlags := 25, slot := 17, constantValue := 0 }, { name := "T_LONG", type := .int, accessFlags := 25, slot := 18, constantValue := 0 }, { name := "JLA", type := (.object "jdk/internal/access/JavaLangAccess"), accessFlags := 26, slot := 19, constantValue := 0 }, { name := "SOFT_MAX_ARRAY_LENGTH", type := .int, accessFlags := 25, slot := 20, constantValue := 0 }]
  methods := #[k15m0]
  instanceTypes := #[]
  staticTypes := #[(.object "jdk/internal/misc/Unsafe"), .boolean, .int, .int, .int, .int, .int, .int, .int, .int, .int, .int, .int, .int, .int, .int, .int, .int, .int, (.object "jdk/internal/access/JavaLangAccess"), .int]
  resolved := Array.replicate 378 none
  statics := none }

def pool16 : Array CpInfo := pool [(1, u "java/lang/Cloneable"), (0, .class_ 1), (0, u "java/lang/Object"), (0, .class_ 3)] 3

/-- java/lang/Cloneable -/
def k16 : Class := { plain "java/lang/Cloneable" (some 0) with
  accessFlags := 1537
  interfaces := #[]
  cf := some (fileOf pool16 2 #[] #[] 1537 4 #[] #[])
  fields := #[]
  methods := #[]
  instanceTypes := #[]
  staticTypes := #[]
  resolved := Array.replicate 8 none
  statics := none }

/-- the primitive byte -/
def k17 : Class := { plain "byte" none with kind := .primitive 'B', accessFlags := 0x411 }
/-- [B -/
def k18 : Class := { plain "[B" (some 0) with kind := .array 17 .byte, interfaces := #[16, 4], accessFlags := 1041 }

/-- the primitive char -/
def k19 : Class := { plain "char" none with kind := .primitive 'C', accessFlags := 0x411 }
/-- [C -/
def k20 : Class := { plain "[C" (some 0) with kind := .array 19 .char, interfaces := #[16, 4], accessFlags := 1041 }

/-- the primitive int -/
def k21 : Class := { plain "int" none with kind := .primitive 'I', accessFlags := 0x411 }
/-- [I -/
def k22 : Class := { plain "[I" (some 0) with kind := .array 21 .int, interfaces := #[16, 4], accessFlags := 1041 }

def heap : Heap := #[{ cls := 6, slots := #[.ref 3, .ref 17, .ref 7, .ref 4, .ref 5, .ref 15, .ref 8, .ref 18, .ref 11, .ref 14, .ref 6, .ref 19, .ref 12, .ref 10, .ref 9, .ref 16, .ref 13, .ref 20, .null], vm := .statics 6 },
  { cls := 11, slots := #[.long 0, .int 1, .null, .int 0, .null, .int 0, .int 0], vm := .statics 11 },
  { cls := 14, slots := #[.null, .null, .null], vm := .statics 14 },
  { cls := 6, slots := #[.null, .int 0, .int 0, .null], vm := .none },
  { cls := 6, slots := #[.null, .int 3, .int 0, .null], vm := .none },
  { cls := 6, slots := #[.null, .int 4, .int 0, .null], vm := .none },
  { cls := 6, slots := #[.null, .int 10, .int 0, .null], vm := .none },
  { cls := 6, slots := #[.null, .int 2, .int 0, .null], vm := .none },
  { cls := 6, slots := #[.null, .int 6, .int 0, .null], vm := .none },
  { cls := 6, slots := #[.null, .int 14, .int 0, .null], vm := .none },
  { cls := 6, slots := #[.null, .int 13, .int 0, .null], vm := .none },
  { cls := 6, slots := #[.null, .int 8, .int 0, .null], vm := .none },
  { cls := 6, slots := #[.null, .int 12, .int 0, .null], vm := .none },
  { cls := 6, slots := #[.null, .int 16, .int 0, .null], vm := .none },
  { cls := 6, slots := #[.null, .int 9, .int 0, .null], vm := .none },
  { cls := 6, slots := #[.null, .int 5, .int 0, .null], vm := .none },
  { cls := 6, slots := #[.null, .int 15, .int 0, .null], vm := .none },
  { cls := 6, slots := #[.null, .int 1, .int 0, .null], vm := .none },
  { cls := 6, slots := #[.null, .int 7, .int 0, .null], vm := .none },
  { cls := 6, slots := #[.null, .int 11, .int 0, .null], vm := .none },
  { cls := 6, slots := #[.null, .int 17, .int 0, .null], vm := .none }]
def classes : Array Class := #[k0, k1, k2, k3, k4, k5, k6, k7, k8, k9, k10, k11, k12, k13, k14, k15, k16, k17, k18, k19, k20, k21, k22]
def interned : List (Array UInt16 × Addr) := []
def slotsUsed : Nat := 101
def theMethod : MethodId := ⟨1, 2⟩
def args0 : Array Value := #[.int 5, .int 5, .int 5, .int 5, .int 5, .int 5]
def aboutOver (below : List Frame) : State where
  vm := { classes := classes, interned := interned.toArray }
  heap := heap
  slotsUsed := slotsUsed
  threads := #[{ frames := .invoking theMethod args0 :: below }]
def below0 : List Frame := [.native { method := ⟨0, 0⟩, args := #[] }]
def about1 : State := aboutOver below0
def p0 : Program := .bare "" "" ""
def e0 : Env := launch0.env 0 0 0
theorem w_frames : about1.frames = Frame.invoking theMethod args0 :: below0 := rfl
set_option maxRecDepth 65536 in
theorem w_args : argsFit about1.vm theMethod args0 = true := by decide +kernel
set_option maxRecDepth 65536 in
theorem w_heap : heapFits about1 = true := by decide +kernel
set_option maxRecDepth 65536 in
theorem w_runnable : about1.curStatus? = some .runnable := by decide +kernel
set_option maxRecDepth 65536 in
theorem w_alone : about1.alone = true := by decide +kernel
set_option maxRecDepth 65536 in
theorem w_named : about1.methodNamed? x = some theMethod := by decide +kernel
set_option maxRecDepth 65536 in
theorem w_hears : about1.hears theMethod below0 = true := by decide +kernel
set_option maxRecDepth 65536 in
theorem w_ripe : about1.ripe theMethod args0 below0 = true := by decide +kernel
theorem w_running : about1.status = .running := rfl
set_option maxRecDepth 65536 in
theorem w_room : about1.hasRoom e0.platform room_1 = true :=
  launch0.hasRoom_least _ room_1 (by decide +kernel) (by decide +kernel) (by decide +kernel) (by decide +kernel) (by decide +kernel) (by decide +kernel)
theorem allAtoms_all (ts : List Jvm.Cond) (a : Array Jvm.Value) (st : Jvm.State) : (allAtoms ts).before a st = ts.all (fun c => c.before a st) := by
  induction ts with
  | nil => rfl
  | cons c t ih =>
    show (Jvm.Cond.and c (allAtoms t)).before a st = _
    rw [Jvm.Cond.before_and, ih, List.all_cons]
def words1 : List Jvm.Cond := Jvm.Cond.code x code maxLocals ret :: tables_1
/-- a 'code' word, met by the world's own term for the bytes: nothing is compared byte by byte -/
theorem code_word {y : MethodName} {bytes : ByteArray} {mx : Nat} {rt : Option FieldType} {a : Array Value} {s : State} {m : MethodId} {meth : Method} {c : Code} (h1 : s.methodNamed? y = some m) (h2 : s.vm.method? m = some meth) (h3 : meth.code = some c) (h4 : c.code = bytes)
    (h5 : (c.maxLocals == mx && c.exceptionTable.isEmpty && decide (c.maxStack ≤ mostOperands) && decide (meth.sig.returnType = rt) && !meth.locks && decide (parseMethodDescriptor y.desc = some meth.sig)) = true) : (Jvm.Cond.code y bytes mx rt).before a s = true := by
  simp only [Bool.and_eq_true, beq_iff_eq, Bool.not_eq_true', decide_eq_true_eq] at h5
  obtain ⟨⟨⟨⟨⟨g1, g2⟩, g3⟩, g4⟩, g5⟩, g6⟩ := h5
  simp [Cond.before, Cond.holds, Cond.value, h1, h2, h3, h4, g1, g2, g3, g4, g5, g6]
def isCode : Jvm.Cond → Bool
  | .code _ _ _ _ => true
  | _ => false
theorem all_split {L : List Jvm.Cond} {P : Jvm.Cond → Bool} (h1 : L.all (fun c => isCode c || P c) = true) (h2 : ∀ c ∈ L.filter isCode, P c = true) : L.all P = true := by
  refine List.all_eq_true.mpr fun c hc => ?_
  have h := List.all_eq_true.mp h1 c hc
  rcases Bool.eq_false_or_eq_true (isCode c) with hi | hi
  · exact h2 c (List.mem_filter.mpr ⟨hc, hi⟩)
  · simpa [hi] using h
set_option maxRecDepth 65536 in
theorem w_c0 : (Jvm.Cond.code x code maxLocals ret).before args0 about1 = true := code_word (m := ⟨1, 2⟩) (meth := k1m2) (c := k1c2) (by decide +kernel) rfl rfl rfl (by decide +kernel)
set_option maxRecDepth 65536 in
theorem w_c1 : (Jvm.Cond.code ({ cls := "com/example/trusswork/trusswork/schema/TokenIsPinLaw", name := "kindOf", desc := "(I)Lcom/example/trusswork/trusswork/schema/Token$Kind;" } : Jvm.MethodName) method_2_code (1 : Nat) (Option.some (Jvm.ClassFile.FieldType.object "com/example/trusswork/trusswork/schema/Token$Kind"))).before args0 about1 = true := code_word (m := ⟨1, 1⟩) (meth := k1m1) (c := k1c1) (by decide +kernel) rfl rfl rfl (by decide +kernel)
set_option maxRecDepth 65536 in
theorem w_c2 : (Jvm.Cond.code ({ cls := "java/lang/String", name := "<init>", desc := "([C)V" } : Jvm.MethodName) jdk_42_method_3_code (2 : Nat) (Option.none : Option Jvm.ClassFile.FieldType)).before args0 about1 = true := code_word (m := ⟨11, 1⟩) (meth := k11m1) (c := k11c1) (by decide +kernel) rfl rfl rfl (by decide +kernel)
set_option maxRecDepth 65536 in
theorem w_c3 : (Jvm.Cond.code ({ cls := "java/lang/String", name := "<init>", desc := "([CIILjava/lang/Void;)V" } : Jvm.MethodName) jdk_42_method_149_code (6 : Nat) (Option.none : Option Jvm.ClassFile.FieldType)).before args0 about1 = true := code_word (m := ⟨11, 2⟩) (meth := k11m2) (c := k11c2) (by decide +kernel) rfl rfl rfl (by decide +kernel)
set_option maxRecDepth 65536 in
theorem w_c4 : (Jvm.Cond.code ({ cls := "java/lang/Object", name := "<init>", desc := "()V" } : Jvm.MethodName) object_method_1_code (1 : Nat) (Option.none : Option Jvm.ClassFile.FieldType)).before args0 about1 = true := code_word (m := ⟨0, 0⟩) (meth := k0m0) (c := k0c0) (by decide +kernel) rfl rfl rfl (by decide +kernel)
set_option maxRecDepth 65536 in
theorem w_c5 : (Jvm.Cond.code ({ cls := "java/lang/StringUTF16", name := "compress", desc := "([CII)[B" } : Jvm.MethodName) jdk_52_method_16_code (6 : Nat) (Option.some (Jvm.ClassFile.FieldType.array Jvm.ClassFile.FieldType.byte))).before args0 about1 = true := code_word (m := ⟨12, 2⟩) (meth := k12m2) (c := k12c2) (by decide +kernel) rfl rfl rfl (by decide +kernel)
set_option maxRecDepth 65536 in
theorem w_c6 : (Jvm.Cond.code ({ cls := "java/lang/StringUTF16", name := "compress", desc := "([CI[BII)I" } : Jvm.MethodName) jdk_52_method_21_code (7 : Nat) (Option.some Jvm.ClassFile.FieldType.int)).before args0 about1 = true := code_word (m := ⟨12, 3⟩) (meth := k12m3) (c := k12c3) (by decide +kernel) rfl rfl rfl (by decide +kernel)
set_option maxRecDepth 65536 in
theorem w_c7 : (Jvm.Cond.code ({ cls := "java/lang/StringUTF16", name := "coderFromArrayLen", desc := "([BI)B" } : Jvm.MethodName) jdk_52_method_15_code (2 : Nat) (Option.some Jvm.ClassFile.FieldType.byte)).before args0 about1 = true := code_word (m := ⟨12, 1⟩) (meth := k12m1) (c := k12c1) (by decide +kernel) rfl rfl rfl (by decide +kernel)
set_option maxRecDepth 65536 in
theorem w_c8 : (Jvm.Cond.code ({ cls := "com/example/trusswork/trusswork/schema/Token", name := "<init>", desc := "(Lcom/example/trusswork/trusswork/schema/Token$Kind;Ljava/lang/String;II)V" } : Jvm.MethodName) prog_45_method_1_code (5 : Nat) (Option.none : Option Jvm.ClassFile.FieldType)).before args0 about1 = true := code_word (m := ⟨8, 0⟩) (meth := k8m0) (c := k8c0) (by decide +kernel) rfl rfl rfl (by decide +kernel)
set_option maxRecDepth 65536 in
theorem w_c9 : (Jvm.Cond.code ({ cls := "java/lang/Record", name := "<init>", desc := "()V" } : Jvm.MethodName) jdk_30_method_1_code (1 : Nat) (Option.none : Option Jvm.ClassFile.FieldType)).before args0 about1 = true := code_word (m := ⟨7, 0⟩) (meth := k7m0) (c := k7c0) (by decide +kernel) rfl rfl rfl (by decide +kernel)
set_option maxRecDepth 65536 in
theorem w_c10 : (Jvm.Cond.code ({ cls := "com/example/trusswork/trusswork/schema/Token", name := "is", desc := "(Lcom/example/trusswork/trusswork/schema/Token$Kind;)Z" } : Jvm.MethodName) prog_45_method_3_code (2 : Nat) (Option.some Jvm.ClassFile.FieldType.boolean)).before args0 about1 = true := code_word (m := ⟨8, 1⟩) (meth := k8m1) (c := k8c1) (by decide +kernel) rfl rfl rfl (by decide +kernel)
def codes1 : List Jvm.Cond := [Jvm.Cond.code x code maxLocals ret, Jvm.Cond.code ({ cls := "com/example/trusswork/trusswork/schema/TokenIsPinLaw", name := "kindOf", desc := "(I)Lcom/example/trusswork/trusswork/schema/Token$Kind;" } : Jvm.MethodName) method_2_code (1 : Nat) (Option.some (Jvm.ClassFile.FieldType.object "com/example/trusswork/trusswork/schema/Token$Kind")), Jvm.Cond.code ({ cls := "java/lang/String", name := "<init>", desc := "([C)V" } : Jvm.MethodName) jdk_42_method_3_code (2 : Nat) (Option.none : Option Jvm.ClassFile.FieldType), Jvm.Cond.code ({ cls := "java/lang/String", name := "<init>", desc := "([CIILjava/lang/Void;)V" } : Jvm.MethodName) jdk_42_method_149_code (6 : Nat) (Option.none : Option Jvm.ClassFile.FieldType), Jvm.Cond.code ({ cls := "java/lang/Object", name := "<init>", desc := "()V" } : Jvm.MethodName) object_method_1_code (1 : Nat) (Option.none : Option Jvm.ClassFile.FieldType), Jvm.Cond.code ({ cls := "java/lang/StringUTF16", name := "compress", desc := "([CII)[B" } : Jvm.MethodName) jdk_52_method_16_code (6 : Nat) (Option.some (Jvm.ClassFile.FieldType.array Jvm.ClassFile.FieldType.byte)), Jvm.Cond.code ({ cls := "java/lang/StringUTF16", name := "compress", desc := "([CI[BII)I" } : Jvm.MethodName) jdk_52_method_21_code (7 : Nat) (Option.some Jvm.ClassFile.FieldType.int), Jvm.Cond.code ({ cls := "java/lang/StringUTF16", name := "coderFromArrayLen", desc := "([BI)B" } : Jvm.MethodName) jdk_52_method_15_code (2 : Nat) (Option.some Jvm.ClassFile.FieldType.byte), Jvm.Cond.code ({ cls := "com/example/trusswork/trusswork/schema/Token", name := "<init>", desc := "(Lcom/example/trusswork/trusswork/schema/Token$Kind;Ljava/lang/String;II)V" } : Jvm.MethodName) prog_45_method_1_code (5 : Nat) (Option.none : Option Jvm.ClassFile.FieldType), Jvm.Cond.code ({ cls := "java/lang/Record", name := "<init>", desc := "()V" } : Jvm.MethodName) jdk_30_method_1_code (1 : Nat) (Option.none : Option Jvm.ClassFile.FieldType), Jvm.Cond.code ({ cls := "com/example/trusswork/trusswork/schema/Token", name := "is", desc := "(Lcom/example/trusswork/trusswork/schema/Token$Kind;)Z" } : Jvm.MethodName) prog_45_method_3_code (2 : Nat) (Option.some Jvm.ClassFile.FieldType.boolean)]
set_option maxRecDepth 65536 in
theorem codes_eq : words1.filter isCode = codes1 := rfl
theorem w_codes : ∀ c ∈ words1.filter isCode, c.before args0 about1 = true := by
  rw [codes_eq]
  intro c hc
  simp only [codes1, List.mem_cons, List.not_mem_nil, or_false] at hc
  rcases hc with rfl | rfl | rfl | rfl | rfl | rfl | rfl | rfl | rfl | rfl | rfl
  · exact w_c0
  · exact w_c1
  · exact w_c2
  · exact w_c3
  · exact w_c4
  · exact w_c5
  · exact w_c6
  · exact w_c7
  · exact w_c8
  · exact w_c9
  · exact w_c10
set_option maxRecDepth 65536 in
theorem w_t1 : (words1.take 24).all (fun c => isCode c || c.before args0 about1) = true := by decide +kernel
set_option maxRecDepth 65536 in
theorem w_t2 : ((words1.drop 24).take 24).all (fun c => isCode c || c.before args0 about1) = true := by decide +kernel
set_option maxRecDepth 65536 in
theorem w_t3 : (((words1.drop 24).drop 24).take 24).all (fun c => isCode c || c.before args0 about1) = true := by decide +kernel
set_option maxRecDepth 65536 in
theorem w_t4 : ((((words1.drop 24).drop 24).drop 24).take 24).all (fun c => isCode c || c.before args0 about1) = true := by decide +kernel
set_option maxRecDepth 65536 in
theorem w_t5 : ((((words1.drop 24).drop 24).drop 24).drop 24).all (fun c => isCode c || c.before args0 about1) = true := by decide +kernel
theorem w_tables : (allAtoms (Jvm.Cond.code x code maxLocals ret :: tables_1)).before args0 about1 = true := by
  rw [allAtoms_all]
  show words1.all (fun c => c.before args0 about1) = true
  refine all_split ?_ w_codes
  rw [← List.take_append_drop 24 words1, List.all_append, w_t1, ← List.take_append_drop 24 (words1.drop 24), List.all_append, w_t2, ← List.take_append_drop 24 ((words1.drop 24).drop 24), List.all_append, w_t3, ← List.take_append_drop 24 (((words1.drop 24).drop 24).drop 24), List.all_append, w_t4, w_t5]
  rfl
set_option maxRecDepth 65536 in
theorem w_rest : rest_1_c.before args0 about1 = true := by decide +kernel
set_option maxRecDepth 65536 in
theorem w_case : (Jvm.Cond.and given_1 narrow_1).before args0 about1 = true := by decide +kernel
theorem w_applies : (headSpec (Jvm.Cond.code x code maxLocals ret :: tables_1) room_1).applies x e0.platform about1 = true :=
  (Spec.applies_iff w_frames).mpr ⟨w_running, w_runnable, w_alone, w_named, w_hears, w_ripe, w_room, w_tables⟩
theorem atStart : AtStart classFile x code maxLocals ret World_1 tables_1 room_1 Calls_1 rest_1 Pre_1 launch0 p0 e0 about1 theMethod args0 below0 :=
  ⟨lists_1, trivial, launch0.admits_env _ _ _, launch0.least_env, fairChoices_fair.cas, fairChoices_fair.clock, w_frames, w_args, w_heap, w_applies, trivial, w_rest, w_case⟩
end start1
theorem witness_1 : WitnessClaimed_1 := ⟨start1.p0, start1.e0, start1.about1, start1.theMethod, start1.args0, start1.below0, start1.atStart⟩
end Jvm.Pilot.@@N@@
