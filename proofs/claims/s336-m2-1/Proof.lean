import JvmDerived
import JvmDerived.Pilot.@@N@@Statement
import JvmDerived.Pilot.@@N@@Code
set_option linter.unusedVariables false
set_option linter.unusedSimpArgs false
namespace Jvm.RoadKit
open Sem ClassFile Op Lib Jvm.Stand Jvm.Free Jvm.LawKit
section New
variable {p : Program} {l : Launch} {e : Env} {R : Room} {s : State} {m : MethodId} {args : Array Value} {below : List Frame} {meth : Method} {c : Code} {T : State} {locs : List Loc} {cells slots : Nat}
theorem retI (X : Stand p l e R s m args below meth c T locs cells slots) (hx : p.tables.exec = Jvm.exec) {pc : Nat} {Ls : Array Slot} {z : Int32} {rest : List Value} (hret : meth.sig.returnType = some .int) (hd : decode c.code pc = .ok (.ireturn, 1)) {fs : List Frame}
    (hl : ∀ (f : JFrame) (acts : List Action), f.method = m → f.locked = none → f.entered = [] → (doReturn e (T.setTop f) acts (some (.int z))).1 = T.setFrames fs) : Steps p.tables e below (T.setTop (mkF m pc Ls (.int z :: rest))) (T.setFrames fs) := by
  have hm' : T.vm.method? m = some meth := X.method'
  have hn : narrow .int (.int z) = .int z := rfl
  show Steps p.tables e below (T.setTop { method := m, pc := pc, locals := Ls, stack := _ :: rest, locked := none }) _
  jvm_step X.here [X.here.top, hx, hd, hm', hret, hn]
  first | (intro acts; rw [hl _ acts rfl rfl rfl]) | rw [hl _ _ rfl rfl rfl]
  exact Steps.refl _
end New
end Jvm.RoadKit
/- laws to paste: Road.backV, Road.eqW (cut by pick.py; bodies as the Statement names them) -/
namespace Jvm.Pilot.@@N@@
namespace StrChars
open Jvm Sem ClassFile Op Lib Jvm.Stand Jvm.Free.XT Jvm.Free.ALB Jvm.Free.JM Jvm.Free
open Jvm.Lib.Cold (StaticIs)
/-- a char array whose places are chars -/
def Ch (a : Addr) (A : Cell) (U : State) : Prop := Arr .char a A U ∧ Typed .char A
theorem Ch.mv {a : Addr} {A : Cell} {U U' : State} (h : Ch a A U) (hal : U.vm.Alike U'.vm) (hh : U'.heap = U.heap) : Ch a A U' := ⟨h.1.mv hal hh, h.2⟩
theorem Ch.keep {a : Addr} {A : Cell} {U U' : State} (h : Ch a A U) (hal : U.vm.Alike U'.vm) (hk : U'.heap[a]? = some A) : Ch a A U' := ⟨h.1.keep hal hk, h.2⟩
/-- what place i of a char[]'s cell holds -/
def cv (A : Cell) (i : Nat) : Int32 := match A.slots[i]? with | some (.int x) => x | _ => 0
theorem Ch.get {a : Addr} {A : Cell} {U : State} (h : Ch a A U) {i : Nat} (hi : i < A.slots.size) : A.slots[i]? = some (.int (cv A i)) := by
  have e := Array.getElem?_eq_getElem hi
  have f := h.2 i _ e
  unfold cv; rw [e]
  generalize A.slots[i] = v at f
  cases v <;> simp [fits] at f ⊢
/-- the byte that i2b leaves of a char -/
def lo8 (x : Int32) : Int32 := x.toInt8.toInt32
theorem fits_lo8 (y : Int32) : fits .byte (.int (lo8 y)) = true := by
  have h1 := y.toInt8.le_toInt
  have h2 := y.toInt8.toInt_lt
  simp only [lo8, fits, Bool.and_eq_true, decide_eq_true_eq, Int32.le_iff_toInt_le, Int8.toInt_toInt32, show (-128 : Int32).toInt = -128 from by decide, show (127 : Int32).toInt = 127 from by decide]
  omega
/-- A' is A but that each place j of lo .. hi - 1 holds f j -/
def Laid (A A' : Cell) (lo hi : Nat) (f : Nat → Value) : Prop := A'.cls = A.cls ∧ A'.vm = A.vm ∧ A'.slots.size = A.slots.size ∧ ∀ i, A'.slots[i]? = if lo ≤ i ∧ i < hi then some (f i) else A.slots[i]?
theorem Laid.zero (A : Cell) (lo : Nat) (f : Nat → Value) : Laid A A lo (lo + 0) f := ⟨rfl, rfl, rfl, fun i => by rw [if_neg (by omega)]⟩
theorem Laid.step {A Ak : Cell} {lo k : Nat} {f : Nat → Value} {v : Value} (h : Laid A Ak lo k f) (hlo : lo ≤ k) (hk : k < Ak.slots.size) (hv : v = f k) : Laid A (Ak.setSlot k v) lo (k + 1) f := by
  refine ⟨h.1, h.2.1, by simpa [Cell.setSlot] using h.2.2.1, fun i => ?_⟩
  by_cases e : k = i
  · subst e; rw [Cell.slots_setSlot_self v hk, if_pos (by omega), hv]
  · rw [Cell.slots_setSlot_ne v e, h.2.2.2 i]
    by_cases q : lo ≤ i ∧ i < k
    · rw [if_pos q, if_pos (by omega)]
    · rw [if_neg q, if_neg (by omega)]
def U16 : String := "java/lang/StringUTF16"
namespace Cmp5
def yN : MethodName := ⟨"java/lang/StringUTF16", "compress", "([CI[BII)I"⟩
abbrev yB : ByteArray := jdk_52_method_21_code
theorem d0 : decode yB 0 = .ok (.iconst 0, 1) := by decide +kernel
theorem d1 : decode yB 1 = .ok (.istore 5, 2) := by decide +kernel
theorem d3 : decode yB 3 = .ok (.iload 5, 2) := by decide +kernel
theorem d5 : decode yB 5 = .ok (.iload 4, 2) := by decide +kernel
theorem d7 : decode yB 7 = .ok (.if_icmp (.ge) 37, 3) := by decide +kernel
theorem d10 : decode yB 10 = .ok (.aload_n 0, 1) := by decide +kernel
theorem d11 : decode yB 11 = .ok (.iload_n 1, 1) := by decide +kernel
theorem d12 : decode yB 12 = .ok (.caload, 1) := by decide +kernel
theorem d13 : decode yB 13 = .ok (.istore 6, 2) := by decide +kernel
theorem d15 : decode yB 15 = .ok (.iload 6, 2) := by decide +kernel
theorem d17 : decode yB 17 = .ok (.sipush 255, 3) := by decide +kernel
theorem d20 : decode yB 20 = .ok (.if_icmp (.le) 6, 3) := by decide +kernel
theorem d26 : decode yB 26 = .ok (.aload_n 2, 1) := by decide +kernel
theorem d27 : decode yB 27 = .ok (.iload_n 3, 1) := by decide +kernel
theorem d28 : decode yB 28 = .ok (.iload 6, 2) := by decide +kernel
theorem d30 : decode yB 30 = .ok (.i2b, 1) := by decide +kernel
theorem d31 : decode yB 31 = .ok (.bastore, 1) := by decide +kernel
theorem d32 : decode yB 32 = .ok (.iinc 1 1, 3) := by decide +kernel
theorem d35 : decode yB 35 = .ok (.iinc 3 1, 3) := by decide +kernel
theorem d38 : decode yB 38 = .ok (.iinc 5 1, 3) := by decide +kernel
theorem d41 : decode yB 41 = .ok (.goto (-38), 3) := by decide +kernel
theorem d44 : decode yB 44 = .ok (.iload 4, 2) := by decide +kernel
theorem d46 : decode yB 46 = .ok (.ireturn, 1) := by decide +kernel
def site : List Cond := []
def tab : Cond := tabOf yN yB 7 (some .int) site
def P (b : Addr) (A : Cell) (d : Addr) (B : Cell) (o q len : Nat) (args : Array Value) (s : State) : Prop := args = #[.ref b, .int (Int32.ofNat o), .ref d, .int (Int32.ofNat q), .int (Int32.ofNat len)] ∧ Ch b A s ∧ Arr .byte d B s ∧ b ≠ d ∧ o + len ≤ A.slots.size ∧ q + len ≤ B.slots.size ∧ ∀ i, i < len → ¬ 255 < cv A (o + i)
def E (b : Addr) (A : Cell) (d : Addr) (B : Cell) (o q len : Nat) (r : Option Value) (s u : State) : Prop := r = some (.int (Int32.ofNat len)) ∧ ∃ B', Put d B' s u ∧ Laid B B' q (q + len) (fun j => Value.int (lo8 (cv A (o + (j - q)))))
/-- no char of the range above 255: len; the places written hold each char's low byte -/
theorem law (l : Launch) (b : Addr) (A : Cell) (d : Addr) (B : Cell) (o q len : Nat) : Law l yN 5 5 0 0 yB 7 (some .int) site (P b A d B o q len) (E b A d B o q len) (copyLocs d q len) 0 0 := by
  refine Law.of_walk (plainFor_of_name (by decide +kernel)) (by decide +kernel) (by decide +kernel) (by decide) (fun _ _ h => by rw [h.1]; rfl) (fun _ U U' hal hh h => ⟨h.1, h.2.1.mv hal hh, h.2.2.1.mv hal hh, h.2.2.2⟩) (fun r U U' V V' h1 hal h2 h => ⟨h.1, h.2.elim fun B' q => ⟨B', q.1.mv h1 h2, q.2⟩⟩) ?_
  intro p e s m args below meth c s₁ X0 hexec hbytes hml hret hlk hnm hown hh0 W hP
  obtain ⟨rfl, hA, hB, hne, l1, l2, hp⟩ := hP
  have c1 : Steps p.tables e below (s₁.setTop (entryFrame m #[.ref b, .int (Int32.ofNat o), .ref d, .int (Int32.ofNat q), .int (Int32.ofNat len)] 7)) (s₁.setTop (mkF m 0 #[.val (.ref b), .val (.int (Int32.ofNat o)), .val (.ref d), .val (.int (Int32.ofNat q)), .val (.int (Int32.ofNat len)), .unset, .unset] [])) := entry rfl
  have hA0 := hA.1.mv X0.warmed.alike hh0
  have hB0 := hB.mv X0.warmed.alike hh0
  have a31 := hA.1.2.2.2
  have c2 : Steps p.tables e below (s₁.setTop (entryFrame m #[.ref b, .int (Int32.ofNat o), .ref d, .int (Int32.ofNat q), .int (Int32.ofNat len)] 7)) (s₁.setTop (mkF m 3 #[.val (.ref b), .val (.int (Int32.ofNat o)), .val (.ref d), .val (.int (Int32.ofNat q)), .val (.int (Int32.ofNat len)), .val (.int 0), .unset] [])) := c1.trans (by
    refine iconstV X0.here hexec rfl 0 (hb hbytes d0) (by decide) ?_
    refine XS.istore X0.here hexec rfl (hb hbytes d1) rfl rfl ?_
    exact Steps.refl _)
  have loop : ∀ (r i : Nat), i + r = len → ∀ (z : Slot), (z = .unset ∨ ∃ w, z = .val w ∧ w.category = 1) → ∀ (Tl : State) (Bk : Cell), Stand p l e { frames := 0, locals := 0, cells := 0, slots := 0 } s m #[.ref b, .int (Int32.ofNat o), .ref d, .int (Int32.ofNat q), .int (Int32.ofNat len)] below meth c Tl ([] ++ copyLocs d q i) 0 0 → Put d Bk s₁ Tl → Laid B Bk q (q + i) (fun j => Value.int (lo8 (cv A (o + (j - q))))) →
      Steps p.tables e below (s₁.setTop (entryFrame m #[.ref b, .int (Int32.ofNat o), .ref d, .int (Int32.ofNat q), .int (Int32.ofNat len)] 7)) (Tl.setTop (mkF m 3 #[.val (.ref b), .val (.int (Int32.ofNat (o + i))), .val (.ref d), .val (.int (Int32.ofNat (q + i))), .val (.int (Int32.ofNat len)), .val (.int (Int32.ofNat i)), z] [])) → ∃ (T' : State) (B' : Cell) (z' : Slot), Stand p l e { frames := 0, locals := 0, cells := 0, slots := 0 } s m #[.ref b, .int (Int32.ofNat o), .ref d, .int (Int32.ofNat q), .int (Int32.ofNat len)] below meth c T' ([] ++ copyLocs d q len) 0 0 ∧ Put d B' s₁ T' ∧ Laid B B' q (q + len) (fun j => Value.int (lo8 (cv A (o + (j - q))))) ∧
      Steps p.tables e below (s₁.setTop (entryFrame m #[.ref b, .int (Int32.ofNat o), .ref d, .int (Int32.ofNat q), .int (Int32.ofNat len)] 7)) (T'.setTop (mkF m 3 #[.val (.ref b), .val (.int (Int32.ofNat (o + len))), .val (.ref d), .val (.int (Int32.ofNat (q + len))), .val (.int (Int32.ofNat len)), .val (.int (Int32.ofNat len)), z'] [])) := by
    intro r
    induction r with
    | zero =>
      intro i hi z hz Tl Bk Xl pl fl cl
      have hil : i = len := by omega
      rw [hil] at Xl fl cl
      exact ⟨Tl, Bk, z, Xl, pl, fl, cl⟩
    | succ r ih =>
      intro i hi z hz Tl Bk Xl pl fl cl
      have all := X0.warmed.alike.symm.trans Xl.warmed.alike
      have hAl := hA0.keep all (pl.other hne hA0.1)
      have hBk := hB0.like all pl.1 fl.1 fl.2.1 fl.2.2.1
      have hlt : q + i < Bk.slots.size := by rw [fl.2.2.1]; omega
      have c3 : Steps p.tables e below (s₁.setTop (entryFrame m #[.ref b, .int (Int32.ofNat o), .ref d, .int (Int32.ofNat q), .int (Int32.ofNat len)] 7)) (Tl.setTop (mkF m 12 #[.val (.ref b), .val (.int (Int32.ofNat (o + i))), .val (.ref d), .val (.int (Int32.ofNat (q + i))), .val (.int (Int32.ofNat len)), .val (.int (Int32.ofNat i)), z] [.int (Int32.ofNat (o + i)), .ref b])) := cl.trans (by
        refine XS.iload Xl.here hexec rfl (hb hbytes d3) rfl ?_
        refine XS.iload Xl.here hexec rfl (hb hbytes d5) rfl ?_
        refine XS.icmpNo Xl.here hexec rfl (hb hbytes d7) rfl (ii_ge_f (lt32 (by omega) (by omega))) ?_
        refine XS.aloadN Xl.here hexec rfl (hb hbytes d10) rfl rfl ?_
        refine XS.iloadN Xl.here hexec rfl (hb hbytes d11) rfl ?_
        exact Steps.refl _)
      have c4 : Steps p.tables e below (s₁.setTop (entryFrame m #[.ref b, .int (Int32.ofNat o), .ref d, .int (Int32.ofNat q), .int (Int32.ofNat len)] 7)) (Tl.setTop (mkF m 13 #[.val (.ref b), .val (.int (Int32.ofNat (o + i))), .val (.ref d), .val (.int (Int32.ofNat (q + i))), .val (.int (Int32.ofNat len)), .val (.int (Int32.ofNat i)), z] [.int (cv A (o + i))])) := c3.trans (by
        refine Xl.aget hexec hAl rfl (hA.get (i := o + i) (by omega)) rfl rfl (hb hbytes d12) ?_
        exact Steps.refl _)
      have c5 : Steps p.tables e below (s₁.setTop (entryFrame m #[.ref b, .int (Int32.ofNat o), .ref d, .int (Int32.ofNat q), .int (Int32.ofNat len)] 7)) (Tl.setTop (mkF m 15 #[.val (.ref b), .val (.int (Int32.ofNat (o + i))), .val (.ref d), .val (.int (Int32.ofNat (q + i))), .val (.int (Int32.ofNat len)), .val (.int (Int32.ofNat i)), .val (.int (cv A (o + i)))] [])) := c4.trans (by
        refine XS.istoreS Xl.here hexec rfl (hb hbytes d13) rfl rfl hz ?_
        exact Steps.refl _)
      have c6 : Steps p.tables e below (s₁.setTop (entryFrame m #[.ref b, .int (Int32.ofNat o), .ref d, .int (Int32.ofNat q), .int (Int32.ofNat len)] 7)) (Tl.setTop (mkF m 31 #[.val (.ref b), .val (.int (Int32.ofNat (o + i))), .val (.ref d), .val (.int (Int32.ofNat (q + i))), .val (.int (Int32.ofNat len)), .val (.int (Int32.ofNat i)), .val (.int (cv A (o + i)))] [.int (lo8 (cv A (o + i))), .int (Int32.ofNat (q + i)), .ref d])) := c5.trans (by
        refine XS.iload Xl.here hexec rfl (hb hbytes d15) rfl ?_
        refine sipushV Xl.here hexec rfl 255 (hb hbytes d17) (by decide) ?_
        refine XS.icmpYes Xl.here hexec rfl (pc0 := 20) rfl (hb hbytes d20) rfl (ii_le_t (hp i (by omega))) (by decide) rfl ?_
        refine XS.aloadN Xl.here hexec rfl (hb hbytes d26) rfl rfl ?_
        refine XS.iloadN Xl.here hexec rfl (hb hbytes d27) rfl ?_
        refine XS.iload Xl.here hexec rfl (hb hbytes d28) rfl ?_
        refine i2b Xl.here hexec rfl (hb hbytes d30) rfl ?_
        exact Steps.refl _)
      obtain ⟨T7, X7, p7, st7⟩ := Xl.aput hexec hBk rfl hlt rfl (fits_lo8 (cv A (o + i))) (g := (mkF m 31 #[.val (.ref b), .val (.int (Int32.ofNat (o + i))), .val (.ref d), .val (.int (Int32.ofNat (q + i))), .val (.int (Int32.ofNat len)), .val (.int (Int32.ofNat i)), .val (.int (cv A (o + i)))] [.int (lo8 (cv A (o + i))), .int (Int32.ofNat (q + i)), .ref d])) rfl (rest := []) rfl (hb hbytes d31)
      have c8 : Steps p.tables e below (s₁.setTop (entryFrame m #[.ref b, .int (Int32.ofNat o), .ref d, .int (Int32.ofNat q), .int (Int32.ofNat len)] 7)) (T7.setTop (mkF m 32 #[.val (.ref b), .val (.int (Int32.ofNat (o + i))), .val (.ref d), .val (.int (Int32.ofNat (q + i))), .val (.int (Int32.ofNat len)), .val (.int (Int32.ofNat i)), .val (.int (cv A (o + i)))] [])) := c6.trans (st7 _ (Steps.refl _))
      have c9 : Steps p.tables e below (s₁.setTop (entryFrame m #[.ref b, .int (Int32.ofNat o), .ref d, .int (Int32.ofNat q), .int (Int32.ofNat len)] 7)) (T7.setTop (mkF m 3 #[.val (.ref b), .val (.int (Int32.ofNat (o + i) + 1)), .val (.ref d), .val (.int (Int32.ofNat (q + i) + 1)), .val (.int (Int32.ofNat len)), .val (.int (Int32.ofNat i + 1)), .val (.int (cv A (o + i)))] [])) := c8.trans (by
        refine iincV X7.here hexec rfl 1 (hb hbytes d32) (by decide) rfl rfl ?_
        refine iincV X7.here hexec rfl 1 (hb hbytes d35) (by decide) rfl rfl ?_
        refine iincV X7.here hexec rfl 1 (hb hbytes d38) (by decide) rfl rfl ?_
        refine XS.goto X7.here hexec rfl (pc0 := 41) rfl (hb hbytes d41) (by decide) rfl ?_
        exact Steps.refl _)
      have c10 : Steps p.tables e below (s₁.setTop (entryFrame m #[.ref b, .int (Int32.ofNat o), .ref d, .int (Int32.ofNat q), .int (Int32.ofNat len)] 7)) (T7.setTop (mkF m 3 #[.val (.ref b), .val (.int (Int32.ofNat (o + (i + 1)))), .val (.ref d), .val (.int (Int32.ofNat (q + (i + 1)))), .val (.int (Int32.ofNat len)), .val (.int (Int32.ofNat (i + 1))), .val (.int (cv A (o + i)))] [])) := by
        have := c9
        rw [succ32, succ32, succ32] at this
        exact this
      exact ih (i + 1) (by omega) _ (Or.inr ⟨_, rfl, rfl⟩) T7 _ (by rw [copyLocs_step, ← List.append_assoc]; exact X7) (pl.trans p7) (fl.step (by omega) hlt (by simp)) c10
  obtain ⟨T9, B9, z9, X9, p9, f9, g9⟩ := loop len 0 (by omega) .unset (Or.inl rfl) s₁ B (by simpa [copyLocs] using X0) ⟨hB0.1, fun _ _ => rfl, rfl⟩ (Laid.zero _ _ _) c2
  have c11 : Steps p.tables e below (s₁.setTop (entryFrame m #[.ref b, .int (Int32.ofNat o), .ref d, .int (Int32.ofNat q), .int (Int32.ofNat len)] 7)) (T9.setTop (mkF m 46 #[.val (.ref b), .val (.int (Int32.ofNat (o + len))), .val (.ref d), .val (.int (Int32.ofNat (q + len))), .val (.int (Int32.ofNat len)), .val (.int (Int32.ofNat len)), z9] [.int (Int32.ofNat len)])) := g9.trans (by
    refine XS.iload X9.here hexec rfl (hb hbytes d3) rfl ?_
    refine XS.iload X9.here hexec rfl (hb hbytes d5) rfl ?_
    refine XS.icmpYes X9.here hexec rfl (pc0 := 7) rfl (hb hbytes d7) rfl (ii_ge_t (nlt32 (by omega) (Nat.le_refl _))) (by decide) rfl ?_
    refine XS.iload X9.here hexec rfl (hb hbytes d44) rfl ?_
    exact Steps.refl _)
  exact ⟨T9, some (.int (Int32.ofNat len)), _, _, _, X9, by simp, rfl, rfl, (fun h => by cases h), ⟨rfl, B9, p9.from hh0, f9⟩, fun fs hl => c11.trans (X9.ireturnOut hexec hret rfl (Or.inl rfl) (hb hbytes d46) hl)⟩
end Cmp5
namespace Cmp3
def yN : MethodName := ⟨"java/lang/StringUTF16", "compress", "([CII)[B"⟩
abbrev yB : ByteArray := jdk_52_method_16_code
theorem d0 : decode yB 0 = .ok (.iload_n 2, 1) := by decide +kernel
theorem d1 : decode yB 1 = .ok (.newarray .byte, 2) := by decide +kernel
theorem d3 : decode yB 3 = .ok (.astore_n 3, 1) := by decide +kernel
theorem d4 : decode yB 4 = .ok (.aload_n 0, 1) := by decide +kernel
theorem d5 : decode yB 5 = .ok (.iload_n 1, 1) := by decide +kernel
theorem d6 : decode yB 6 = .ok (.aload_n 3, 1) := by decide +kernel
theorem d7 : decode yB 7 = .ok (.iconst 0, 1) := by decide +kernel
theorem d8 : decode yB 8 = .ok (.iload_n 2, 1) := by decide +kernel
theorem d9 : decode yB 9 = .ok (.invokestatic 115, 3) := by decide +kernel
theorem d12 : decode yB 12 = .ok (.istore 4, 2) := by decide +kernel
theorem d14 : decode yB 14 = .ok (.iload 4, 2) := by decide +kernel
theorem d16 : decode yB 16 = .ok (.iload_n 2, 1) := by decide +kernel
theorem d17 : decode yB 17 = .ok (.if_icmp (.eq) 40, 3) := by decide +kernel
theorem d57 : decode yB 57 = .ok (.aload_n 3, 1) := by decide +kernel
theorem d58 : decode yB 58 = .ok (.areturn, 1) := by decide +kernel
def site : List Cond := [.arrayClass .byte, Cmp5.tab] ++ staticW U16 115 Cmp5.yN
def tab : Cond := tabOf yN yB 6 (some (.array .byte)) site
def P (b : Addr) (A : Cell) (o len : Nat) (args : Array Value) (s : State) : Prop := args = #[.ref b, .int (Int32.ofNat o), .int (Int32.ofNat len)] ∧ Ch b A s ∧ o + len ≤ A.slots.size ∧ len ≤ 536870912 ∧ ∀ i, i < len → ¬ 255 < cv A (o + i)
def E (b : Addr) (A : Cell) (o len : Nat) (r : Option Value) (s u : State) : Prop := NewArr .byte "[B" len (fun j => .int (lo8 (cv A (o + j)))) r s u ∧ u.heap.size = s.heap.size + 1
/-- no char of the range above 255: a new byte[] of their low bytes -/
theorem law (l : Launch) (b : Addr) (A : Cell) (o len : Nat) : Law l yN 3 3 1 18 yB 6 (some (.array .byte)) site (P b A o len) (E b A o len) [] 1 len := by
  refine Law.of_walk (plainFor_of_name (by decide +kernel)) (by decide +kernel) (by decide +kernel) (by decide) (fun _ _ h => by rw [h.1]; rfl) (fun _ U U' hal hh h => ⟨h.1, h.2.1.mv hal hh, h.2.2⟩) (fun r U U' V V' h1 hal h2 h => ⟨NewArr.mv r U U' V V' h1 hal h2 h.1, by rw [h1, h2]; exact h.2⟩) ?_
  intro p e s m args below meth c s₁ X0 hexec hbytes hml hret hlk hnm hown hh0 W hP
  obtain ⟨rfl, hA, l1, l2, hp⟩ := hP
  have a31 := hA.1.2.2.2
  have c1 : Steps p.tables e below (s₁.setTop (entryFrame m #[.ref b, .int (Int32.ofNat o), .int (Int32.ofNat len)] 6)) (s₁.setTop (mkF m 0 #[.val (.ref b), .val (.int (Int32.ofNat o)), .val (.int (Int32.ofNat len)), .unset, .unset, .unset] [])) := entry rfl
  have c2 : Steps p.tables e below (s₁.setTop (entryFrame m #[.ref b, .int (Int32.ofNat o), .int (Int32.ofNat len)] 6)) (s₁.setTop (mkF m 1 #[.val (.ref b), .val (.int (Int32.ofNat o)), .val (.int (Int32.ofNat len)), .unset, .unset, .unset] [.int (Int32.ofNat len)])) := c1.trans (by
    refine XS.iloadN X0.here hexec rfl (hb hbytes d0) rfl ?_
    exact Steps.refl _)
  obtain ⟨T3, B3, X3, ba3, bs3, bv3, bh3, bf3, st3⟩ := X0.anew hexec (atype := .byte) (wk W (.arrayClass .byte)) rfl (by show len * 1 ≤ _; omega) (by omega) (g := (mkF m 1 #[.val (.ref b), .val (.int (Int32.ofNat o)), .val (.int (Int32.ofNat len)), .unset, .unset, .unset] [.int (Int32.ofNat len)])) rfl (hb hbytes d1) (rest := []) rfl (Nat.le_refl _) (by show 0 + len ≤ len; omega)
  rw [hh0] at ba3 st3
  have kp3 : XT.Kept s T3 := (XT.Kept.of_eq hh0).push bh3
  have hA3 := hA.keep X3.warmed.alike (kp3 _ _ hA.1.1)
  have hne : b ≠ s.heap.size := hA.1.ne
  have c4 : Steps p.tables e below (s₁.setTop (entryFrame m #[.ref b, .int (Int32.ofNat o), .int (Int32.ofNat len)] 6)) (T3.setTop (mkF m 3 #[.val (.ref b), .val (.int (Int32.ofNat o)), .val (.int (Int32.ofNat len)), .unset, .unset, .unset] [.ref s.heap.size])) := c2.trans (st3 _ (Steps.refl _))
  have c5 : Steps p.tables e below (s₁.setTop (entryFrame m #[.ref b, .int (Int32.ofNat o), .int (Int32.ofNat len)] 6)) (T3.setTop (mkF m 9 #[.val (.ref b), .val (.int (Int32.ofNat o)), .val (.int (Int32.ofNat len)), .val (.ref s.heap.size), .unset, .unset] [.int (Int32.ofNat len), .int 0, .ref s.heap.size, .int (Int32.ofNat o), .ref b])) := c4.trans (by
    refine XS.astoreN X3.here hexec rfl (hb hbytes d3) rfl rfl rfl ?_
    refine XS.aloadN X3.here hexec rfl (hb hbytes d4) rfl rfl ?_
    refine XS.iloadN X3.here hexec rfl (hb hbytes d5) rfl ?_
    refine XS.aloadN X3.here hexec rfl (hb hbytes d6) rfl rfl ?_
    refine iconstV X3.here hexec rfl 0 (hb hbytes d7) (by decide) ?_
    refine XS.iloadN X3.here hexec rfl (hb hbytes d8) rfl ?_
    exact Steps.refl _)
  obtain ⟨v6, T6, X6, E6, g6⟩ := X3.callS hexec (Cmp5.law l b A s.heap.size B3 o 0 len) hown (wks W (staticW U16 115 Cmp5.yN)) (wk W Cmp5.tab) (W := 0) (Nat.le_of_ble_eq_true rfl) (Nat.le_of_ble_eq_true rfl) (Nat.le_refl _) (by show 0 + len + 0 ≤ len; omega) (g := (mkF m 9 #[.val (.ref b), .val (.int (Int32.ofNat o)), .val (.int (Int32.ofNat len)), .val (.ref s.heap.size), .unset, .unset] [.int (Int32.ofNat len), .int (Int32.ofNat 0), .ref s.heap.size, .int (Int32.ofNat o), .ref b])) rfl (by rw [hml]; rfl) c5 (argsL := [.ref b, .int (Int32.ofNat o), .ref s.heap.size, .int (Int32.ofNat 0), .int (Int32.ofNat len)]) (rest := []) rfl rfl (by show 2 * 0 + 0 ≤ _; decide) (hb hbytes d9) (⟨rfl, hA3, ba3, hne, l1, by rw [bs3]; simp, hp⟩)
  obtain ⟨rfl, B6, p6, f6⟩ := E6
  have c7 : Steps p.tables e below (s₁.setTop (entryFrame m #[.ref b, .int (Int32.ofNat o), .int (Int32.ofNat len)] 6)) (T6.setTop (mkF m 12 #[.val (.ref b), .val (.int (Int32.ofNat o)), .val (.int (Int32.ofNat len)), .val (.ref s.heap.size), .unset, .unset] [.int (Int32.ofNat len)])) := g6
  have c8 : Steps p.tables e below (s₁.setTop (entryFrame m #[.ref b, .int (Int32.ofNat o), .int (Int32.ofNat len)] 6)) (T6.setTop (mkF m 58 #[.val (.ref b), .val (.int (Int32.ofNat o)), .val (.int (Int32.ofNat len)), .val (.ref s.heap.size), .val (.int (Int32.ofNat len)), .unset] [.ref s.heap.size])) := c7.trans (by
    refine XS.istore X6.here hexec rfl (hb hbytes d12) rfl rfl ?_
    refine XS.iload X6.here hexec rfl (hb hbytes d14) rfl ?_
    refine XS.iloadN X6.here hexec rfl (hb hbytes d16) rfl ?_
    refine XS.icmpYes X6.here hexec rfl (pc0 := 17) rfl (hb hbytes d17) rfl (ii_eq_t rfl) (by decide) rfl ?_
    refine XS.aloadN X6.here hexec rfl (hb hbytes d57) rfl rfl ?_
    exact Steps.refl _)
  have X8 := X6.wide (L' := []) (cells' := 1) (slots' := len) (fun x hx hlt => by
    simp only [List.nil_append, copyLocs, List.mem_map, List.mem_range] at hx
    obtain ⟨i, -, rfl⟩ := hx
    exact absurd hlt (Nat.lt_irrefl _)) (Nat.le_refl _) (by omega)
  exact ⟨T6, some (.ref s.heap.size), _, _, _, X8, rfl, rfl, rfl, (fun h => by cases h), ⟨⟨rfl, B6, ba3.like (X3.warmed.alike.symm.trans X6.warmed.alike) p6.1 f6.1 f6.2.1 f6.2.2.1, f6.2.1.trans bv3, by rw [X6.warmed.alike.findClass, f6.1]; exact bf3, by rw [f6.2.2.1, bs3]; simp, fun j hj => by rw [f6.2.2.2 j, if_pos (by omega)]; rfl, kp3.put p6 (Nat.le_refl _)⟩, by rw [p6.2.2, bh3, hh0]; simp⟩, fun fs hl => c8.trans (X8.areturnOut hexec rfl hret rfl (hb hbytes d58) hl)⟩
end Cmp3
namespace CodL
def yN : MethodName := ⟨"java/lang/StringUTF16", "coderFromArrayLen", "([BI)B"⟩
abbrev yB : ByteArray := jdk_52_method_15_code
theorem d0 : decode yB 0 = .ok (.iload_n 1, 1) := by decide +kernel
theorem d1 : decode yB 1 = .ok (.aload_n 0, 1) := by decide +kernel
theorem d2 : decode yB 2 = .ok (.arraylength, 1) := by decide +kernel
theorem d3 : decode yB 3 = .ok (.isub, 1) := by decide +kernel
theorem d4 : decode yB 4 = .ok (.bipush 31, 2) := by decide +kernel
theorem d6 : decode yB 6 = .ok (.iushr, 1) := by decide +kernel
theorem d7 : decode yB 7 = .ok (.i2b, 1) := by decide +kernel
theorem d8 : decode yB 8 = .ok (.ireturn, 1) := by decide +kernel
def site : List Cond := []
def tab : Cond := tabOf yN yB 2 (some .byte) site
def P (d : Addr) (B : Cell) (args : Array Value) (s : State) : Prop := args = #[.ref d, .int (Int32.ofNat B.slots.size)] ∧ Arr .byte d B s
def E (r : Option Value) (s u : State) : Prop := XT.PureE (some (.int 0)) r s u
/-- an array as long as the number of chars: LATIN1 -/
theorem law (l : Launch) (d : Addr) (B : Cell) : Law l yN 2 2 0 0 yB 2 (some .byte) site (P d B) E [] 0 0 := by
  refine Law.of_walk (plainFor_of_name (by decide +kernel)) (by decide +kernel) (by decide +kernel) (by decide) (fun _ _ h => by rw [h.1]; rfl) (fun _ U U' hal hh h => ⟨h.1, h.2.mv hal hh⟩) (fun r U U' V V' h1 hal h2 h => XT.PureE.mv r U U' V V' h1 hal h2 h) ?_
  intro p e s m args below meth c s₁ X0 hexec hbytes hml hret hlk hnm hown hh0 W hP
  obtain ⟨rfl, hB⟩ := hP
  have hB0 := hB.mv X0.warmed.alike hh0
  have c1 : Steps p.tables e below (s₁.setTop (entryFrame m #[.ref d, .int (Int32.ofNat B.slots.size)] 2)) (s₁.setTop (mkF m 0 #[.val (.ref d), .val (.int (Int32.ofNat B.slots.size))] [])) := entry rfl
  have c2 : Steps p.tables e below (s₁.setTop (entryFrame m #[.ref d, .int (Int32.ofNat B.slots.size)] 2)) (s₁.setTop (mkF m 2 #[.val (.ref d), .val (.int (Int32.ofNat B.slots.size))] [.ref d, .int (Int32.ofNat B.slots.size)])) := c1.trans (by
    refine XS.iloadN X0.here hexec rfl (hb hbytes d0) rfl ?_
    refine XS.aloadN X0.here hexec rfl (hb hbytes d1) rfl rfl ?_
    exact Steps.refl _)
  have c3 : Steps p.tables e below (s₁.setTop (entryFrame m #[.ref d, .int (Int32.ofNat B.slots.size)] 2)) (s₁.setTop (mkF m 8 #[.val (.ref d), .val (.int (Int32.ofNat B.slots.size))] [.int (lo8 (ushr (Int32.ofNat B.slots.size - Int32.ofNat B.slots.size) 31))])) := c2.trans (by
    refine X0.alen hexec hB0 rfl rfl (hb hbytes d2) ?_
    refine XS.isub X0.here hexec rfl (hb hbytes d3) rfl ?_
    refine bipushV X0.here hexec rfl 31 (hb hbytes d4) (by decide) ?_
    refine iushr X0.here hexec rfl (hb hbytes d6) rfl ?_
    refine i2b X0.here hexec rfl (hb hbytes d7) rfl ?_
    exact Steps.refl _)
  have e0 : lo8 (ushr (Int32.ofNat B.slots.size - Int32.ofNat B.slots.size) 31) = 0 := by rw [Int32.sub_self]; decide
  rw [e0] at c3
  exact ⟨s₁, some (.int 0), _, _, _, X0, rfl, rfl, rfl, (fun h => by cases h), ⟨rfl, hh0⟩, fun fs hl => c3.trans (X0.ireturnOut hexec hret rfl (Or.inr (Or.inr (Or.inl rfl))) (hb hbytes d8) hl)⟩
end CodL
/-- the String at a is Latin-1 over a new byte[] (the heap's one new cell): the low bytes of the len chars of A from o on; every cell but a is kept -/
def Got (a : Addr) (D : Cell) (fV fC : Field) (A : Cell) (o len : Nat) (r : Option Value) (s u : State) : Prop := r = none ∧ ∃ D' V : Cell, Blank "java/lang/String" a D' u ∧ Same D D' [fV.slot, fC.slot] ∧ D'.slots[fV.slot]? = some (.ref s.heap.size) ∧ D'.slots[fC.slot]? = some (.int 0) ∧ Arr .byte s.heap.size V u ∧ V.vm = .none ∧ u.vm.findClass "[B" = some V.cls ∧ V.slots.size = len ∧ (∀ j, j < len → V.slots[j]? = some (.int (lo8 (cv A (o + j))))) ∧ (∀ (y : Addr) (c : Cell), y ≠ a → s.heap[y]? = some c → u.heap[y]? = some c) ∧ u.heap.size = s.heap.size + 1
theorem Got.mv {a : Addr} {D A : Cell} {fV fC : Field} {o len : Nat} : ∀ r (U U' V V' : State), U'.heap = U.heap → V.vm.Alike V'.vm → V'.heap = V.heap → Got a D fV fC A o len r U V → Got a D fV fC A o len r U' V' :=
  fun r U U' V V' h1 hal h2 ⟨e0, D', X, a1, a2, a3, a4, a5, a6, a7, a8, a9, a10, a11⟩ => ⟨e0, D', X, a1.mv hal h2, a2, by rw [h1]; exact a3, a4, by rw [h1]; exact a5.mv hal h2, a6, by rw [hal.findClass]; exact a7, a8, a9, by rw [h1, h2]; exact a10, by rw [h1, h2]; exact a11⟩
namespace New4
def yN : MethodName := ⟨"java/lang/String", "<init>", "([CIILjava/lang/Void;)V"⟩
abbrev yB : ByteArray := jdk_42_method_149_code
theorem d0 : decode yB 0 = .ok (.aload_n 0, 1) := by decide +kernel
theorem d1 : decode yB 1 = .ok (.invokespecial 1, 3) := by decide +kernel
theorem d4 : decode yB 4 = .ok (.iload_n 3, 1) := by decide +kernel
theorem d5 : decode yB 5 = .ok (.ifCond (.ne) 22, 3) := by decide +kernel
theorem d27 : decode yB 27 = .ok (.getstatic 38, 3) := by decide +kernel
theorem d30 : decode yB 30 = .ok (.ifCond (.eq) 28, 3) := by decide +kernel
theorem d33 : decode yB 33 = .ok (.aload_n 1, 1) := by decide +kernel
theorem d34 : decode yB 34 = .ok (.iload_n 2, 1) := by decide +kernel
theorem d35 : decode yB 35 = .ok (.iload_n 3, 1) := by decide +kernel
theorem d36 : decode yB 36 = .ok (.invokestatic 177, 3) := by decide +kernel
theorem d39 : decode yB 39 = .ok (.astore 5, 2) := by decide +kernel
theorem d41 : decode yB 41 = .ok (.aload_n 0, 1) := by decide +kernel
theorem d42 : decode yB 42 = .ok (.aload 5, 2) := by decide +kernel
theorem d44 : decode yB 44 = .ok (.iload_n 3, 1) := by decide +kernel
theorem d45 : decode yB 45 = .ok (.invokestatic 47, 3) := by decide +kernel
theorem d48 : decode yB 48 = .ok (.putfield 15, 3) := by decide +kernel
theorem d51 : decode yB 51 = .ok (.aload_n 0, 1) := by decide +kernel
theorem d52 : decode yB 52 = .ok (.aload 5, 2) := by decide +kernel
theorem d54 : decode yB 54 = .ok (.putfield 9, 3) := by decide +kernel
theorem d57 : decode yB 57 = .ok (.return_, 1) := by decide +kernel
def site : List Cond := [.fieldLink "java/lang/String" 38 "java/lang/String" "COMPACT_STRINGS" "Z", Cmp3.tab, CodL.tab, .laysFinal "java/lang/String" "java/lang/String" "value" "[B", .fieldLink "java/lang/String" 9 "java/lang/String" "value" "[B", .laysFinal "java/lang/String" "java/lang/String" "coder" "B", .fieldLink "java/lang/String" 15 "java/lang/String" "coder" "B"] ++ objW "java/lang/String" 1 ++ staticW "java/lang/String" 177 Cmp3.yN ++ staticW "java/lang/String" 47 CodL.yN
def tab : Cond := tabOf yN yB 6 none site
def P (a : Addr) (D : Cell) (fV fC : Field) (b : Addr) (A : Cell) (z : Int32) (o len : Nat) (args : Array Value) (s : State) : Prop := args = #[.ref a, .ref b, .int (Int32.ofNat o), .int (Int32.ofNat len), .null] ∧ Blank "java/lang/String" a D s ∧ Found "java/lang/String" "value" "[B" fV s ∧ Found "java/lang/String" "coder" "B" fC s ∧ Ch b A s ∧ StaticIs s "java/lang/String" "COMPACT_STRINGS" "Z" (.int z) ∧ ¬ z = 0 ∧ 0 < len ∧ o + len ≤ A.slots.size ∧ len ≤ 536870912 ∧ ∀ i, i < len → ¬ 255 < cv A (o + i)
def E (a : Addr) (D : Cell) (fV fC : Field) (A : Cell) (o len : Nat) (r : Option Value) (s u : State) : Prop := Got a D fV fC A o len r s u
/-- len > 0, no char of the range above 255: a Latin-1 String of their low bytes -/
theorem law (l : Launch) (a : Addr) (D : Cell) (fV fC : Field) (b : Addr) (A : Cell) (z : Int32) (o len : Nat) : Law l yN 5 4 2 35 yB 6 none site (P a D fV fC b A z o len) (E a D fV fC A o len) [⟨a, fC.slot⟩, ⟨a, fV.slot⟩] 1 len := by
  refine Law.of_walk (plainFor_of_name (by decide +kernel)) (by decide +kernel) (by decide +kernel) (by decide) (fun _ _ h => by rw [h.1]; rfl) (fun _ U U' hal hh h => ⟨h.1, h.2.1.mv hal hh, h.2.2.1.al hal, h.2.2.2.1.al hal, h.2.2.2.2.1.mv hal hh, h.2.2.2.2.2.1.there hal hh, h.2.2.2.2.2.2⟩) (fun r U U' V V' h1 hal h2 h => Got.mv r U U' V V' h1 hal h2 h) ?_
  intro p e s m args below meth c s₁ X0 hexec hbytes hml hret hlk hnm hown hh0 W hP
  obtain ⟨rfl, hB, f1, f2, hA, s1, hz, l0, l1, l2, hp⟩ := hP
  have a31 := hA.1.2.2.2
  have c1 : Steps p.tables e below (s₁.setTop (entryFrame m #[.ref a, .ref b, .int (Int32.ofNat o), .int (Int32.ofNat len), .null] 6)) (s₁.setTop (mkF m 0 #[.val (.ref a), .val (.ref b), .val (.int (Int32.ofNat o)), .val (.int (Int32.ofNat len)), .val .null, .unset] [])) := entry rfl
  have c2 : Steps p.tables e below (s₁.setTop (entryFrame m #[.ref a, .ref b, .int (Int32.ofNat o), .int (Int32.ofNat len), .null] 6)) (s₁.setTop (mkF m 1 #[.val (.ref a), .val (.ref b), .val (.int (Int32.ofNat o)), .val (.int (Int32.ofNat len)), .val .null, .unset] [.ref a])) := c1.trans (by
    refine XS.aloadN X0.here hexec rfl (hb hbytes d0) rfl rfl ?_
    exact Steps.refl _)
  obtain ⟨T3, X3, q3, st3⟩ := X0.oinit hexec hown (wks W (objW "java/lang/String" 1)) (g := (mkF m 1 #[.val (.ref a), .val (.ref b), .val (.int (Int32.ofNat o)), .val (.int (Int32.ofNat len)), .val .null, .unset] [.ref a])) rfl (by rw [hml]; rfl) (rest := []) rfl (hb hbytes d1) (W := 0) (by show 2 * 0 + 0 ≤ _; decide) (Nat.le_of_ble_eq_true rfl) (Nat.le_of_ble_eq_true rfl)
  have hh3 := q3.trans hh0
  have c4 : Steps p.tables e below (s₁.setTop (entryFrame m #[.ref a, .ref b, .int (Int32.ofNat o), .int (Int32.ofNat len), .null] 6)) (T3.setTop (mkF m 27 #[.val (.ref a), .val (.ref b), .val (.int (Int32.ofNat o)), .val (.int (Int32.ofNat len)), .val .null, .unset] [])) := (c2.trans (st3 _ (Steps.refl _))).trans (by
    refine XS.iloadN X3.here hexec rfl (hb hbytes d4) rfl ?_
    refine XS.ifYes X3.here hexec rfl (pc0 := 5) rfl (hb hbytes d5) rfl (i0_ne_t (nz32 (by omega) l0)) (by decide) rfl ?_
    exact Steps.refl _)
  obtain ⟨T5, X5, q5, st5⟩ := X3.sget hexec hown (wk W (.fieldLink "java/lang/String" 38 "java/lang/String" "COMPACT_STRINGS" "Z")) s1 (fun _ _ h => by rw [hh3]; exact h) (g := (mkF m 27 #[.val (.ref a), .val (.ref b), .val (.int (Int32.ofNat o)), .val (.int (Int32.ofNat len)), .val .null, .unset] [])) rfl (hb hbytes d27)
  have hh5 := q5.trans hh3
  have c6 : Steps p.tables e below (s₁.setTop (entryFrame m #[.ref a, .ref b, .int (Int32.ofNat o), .int (Int32.ofNat len), .null] 6)) (T5.setTop (mkF m 30 #[.val (.ref a), .val (.ref b), .val (.int (Int32.ofNat o)), .val (.int (Int32.ofNat len)), .val .null, .unset] [.int z])) := c4.trans (st5 _ (Steps.refl _))
  have c7 : Steps p.tables e below (s₁.setTop (entryFrame m #[.ref a, .ref b, .int (Int32.ofNat o), .int (Int32.ofNat len), .null] 6)) (T5.setTop (mkF m 36 #[.val (.ref a), .val (.ref b), .val (.int (Int32.ofNat o)), .val (.int (Int32.ofNat len)), .val .null, .unset] [.int (Int32.ofNat len), .int (Int32.ofNat o), .ref b])) := c6.trans (by
    refine XS.ifNo X5.here hexec rfl (hb hbytes d30) rfl (i0_eq_f hz) ?_
    refine XS.aloadN X5.here hexec rfl (hb hbytes d33) rfl rfl ?_
    refine XS.iloadN X5.here hexec rfl (hb hbytes d34) rfl ?_
    refine XS.iloadN X5.here hexec rfl (hb hbytes d35) rfl ?_
    exact Steps.refl _)
  obtain ⟨v8, T8, X8, E8, g8⟩ := X5.callS hexec (Cmp3.law l b A o len) hown (wks W (staticW "java/lang/String" 177 Cmp3.yN)) (wk W Cmp3.tab) (W := 0) (Nat.le_of_ble_eq_true rfl) (Nat.le_of_ble_eq_true rfl) (Nat.le_refl _) (by show 0 + len ≤ len; omega) (g := (mkF m 36 #[.val (.ref a), .val (.ref b), .val (.int (Int32.ofNat o)), .val (.int (Int32.ofNat len)), .val .null, .unset] [.int (Int32.ofNat len), .int (Int32.ofNat o), .ref b])) rfl (by rw [hml]; rfl) c7 (argsL := [.ref b, .int (Int32.ofNat o), .int (Int32.ofNat len)]) (rest := []) rfl rfl (by show 2 * 0 + 0 ≤ _; decide) (hb hbytes d36) (⟨rfl, hA.mv X5.warmed.alike hh5, l1, l2, hp⟩)
  obtain ⟨e8, z8⟩ := E8
  obtain ⟨rfl, N, n1, n2, n3, n4, n5, n6⟩ := NewArr.mv _ T5 s _ _ hh5.symm (Vm.Alike.refl _) rfl e8
  rw [hh5] at z8
  have hB1 := hB.keep X8.warmed.alike (n6 _ _ hB.1)
  have hne : s.heap.size ≠ a := (Nat.ne_of_lt (Array.getElem?_eq_some_iff.mp hB.1).1).symm
  have c9 : Steps p.tables e below (s₁.setTop (entryFrame m #[.ref a, .ref b, .int (Int32.ofNat o), .int (Int32.ofNat len), .null] 6)) (T8.setTop (mkF m 39 #[.val (.ref a), .val (.ref b), .val (.int (Int32.ofNat o)), .val (.int (Int32.ofNat len)), .val .null, .unset] [.ref s.heap.size])) := g8
  have c10 : Steps p.tables e below (s₁.setTop (entryFrame m #[.ref a, .ref b, .int (Int32.ofNat o), .int (Int32.ofNat len), .null] 6)) (T8.setTop (mkF m 45 #[.val (.ref a), .val (.ref b), .val (.int (Int32.ofNat o)), .val (.int (Int32.ofNat len)), .val .null, .val (.ref s.heap.size)] [.int (Int32.ofNat N.slots.size), .ref s.heap.size, .ref a])) := by
    have hc : Steps p.tables e below (s₁.setTop (entryFrame m #[.ref a, .ref b, .int (Int32.ofNat o), .int (Int32.ofNat len), .null] 6)) (T8.setTop (mkF m 45 #[.val (.ref a), .val (.ref b), .val (.int (Int32.ofNat o)), .val (.int (Int32.ofNat len)), .val .null, .val (.ref s.heap.size)] [.int (Int32.ofNat len), .ref s.heap.size, .ref a])) := c9.trans (by
      refine XS.astore X8.here hexec rfl (hb hbytes d39) rfl rfl rfl ?_
      refine XS.aloadN X8.here hexec rfl (hb hbytes d41) rfl rfl ?_
      refine XS.aload X8.here hexec rfl (hb hbytes d42) rfl rfl ?_
      refine XS.iloadN X8.here hexec rfl (hb hbytes d44) rfl ?_
      exact Steps.refl _)
    rw [n4]; exact hc
  obtain ⟨v11, T11, X11, E11, g11⟩ := X8.callS hexec (CodL.law l s.heap.size N) hown (wks W (staticW "java/lang/String" 47 CodL.yN)) (wk W CodL.tab) (W := 1) (Nat.le_of_ble_eq_true rfl) (Nat.le_of_ble_eq_true rfl) (Nat.le_refl _) (by show 0 + len + 0 ≤ len; omega) (g := (mkF m 45 #[.val (.ref a), .val (.ref b), .val (.int (Int32.ofNat o)), .val (.int (Int32.ofNat len)), .val .null, .val (.ref s.heap.size)] [.int (Int32.ofNat N.slots.size), .ref s.heap.size, .ref a])) rfl (by rw [hml]; rfl) c10 (argsL := [.ref s.heap.size, .int (Int32.ofNat N.slots.size)]) (rest := [.ref a]) rfl rfl (by show 2 * 0 + (1 + 0) ≤ _; decide) (hb hbytes d45) (⟨rfl, n1⟩)
  obtain ⟨rfl, q11⟩ := E11
  have hB11 := hB1.mv (X8.warmed.alike.symm.trans X11.warmed.alike) q11
  have c12 : Steps p.tables e below (s₁.setTop (entryFrame m #[.ref a, .ref b, .int (Int32.ofNat o), .int (Int32.ofNat len), .null] 6)) (T11.setTop (mkF m 48 #[.val (.ref a), .val (.ref b), .val (.int (Int32.ofNat o)), .val (.int (Int32.ofNat len)), .val .null, .val (.ref s.heap.size)] [.int 0, .ref a])) := g11
  obtain ⟨T13, X13, p13, bl13, sl13, st13⟩ := X11.finit hexec hown (wk W (.fieldLink "java/lang/String" 15 "java/lang/String" "coder" "B")) (Or.inr ⟨_, (wk W (.laysFinal "java/lang/String" "java/lang/String" "coder" "B"))⟩) (Or.inl ⟨rfl, hnm⟩) f2 (Or.inl rfl) hB11 (t := .byte) (by decide +kernel) rfl (g := (mkF m 48 #[.val (.ref a), .val (.ref b), .val (.int (Int32.ofNat o)), .val (.int (Int32.ofNat len)), .val .null, .val (.ref s.heap.size)] [.int 0, .ref a])) rfl (rest := []) rfl (hb hbytes d48)
  have c14 : Steps p.tables e below (s₁.setTop (entryFrame m #[.ref a, .ref b, .int (Int32.ofNat o), .int (Int32.ofNat len), .null] 6)) (T13.setTop (mkF m 54 #[.val (.ref a), .val (.ref b), .val (.int (Int32.ofNat o)), .val (.int (Int32.ofNat len)), .val .null, .val (.ref s.heap.size)] [.ref s.heap.size, .ref a])) := (c12.trans (st13 _ (Steps.refl _))).trans (by
    refine XS.aloadN X13.here hexec rfl (hb hbytes d51) rfl rfl ?_
    refine XS.aload X13.here hexec rfl (hb hbytes d52) rfl rfl ?_
    exact Steps.refl _)
  obtain ⟨T15, X15, p15, bl15, sl15, st15⟩ := X13.finit hexec hown (wk W (.fieldLink "java/lang/String" 9 "java/lang/String" "value" "[B")) (Or.inr ⟨_, (wk W (.laysFinal "java/lang/String" "java/lang/String" "value" "[B"))⟩) (Or.inl ⟨rfl, hnm⟩) f1 (Or.inl rfl) bl13 (t := (.array .byte)) (by decide +kernel) rfl (g := (mkF m 54 #[.val (.ref a), .val (.ref b), .val (.int (Int32.ofNat o)), .val (.int (Int32.ofNat len)), .val .null, .val (.ref s.heap.size)] [.ref s.heap.size, .ref a])) rfl (rest := []) rfl (hb hbytes d54)
  have c16 : Steps p.tables e below (s₁.setTop (entryFrame m #[.ref a, .ref b, .int (Int32.ofNat o), .int (Int32.ofNat len), .null] 6)) (T15.setTop (mkF m 57 #[.val (.ref a), .val (.ref b), .val (.int (Int32.ofNat o)), .val (.int (Int32.ofNat len)), .val .null, .val (.ref s.heap.size)] [])) := c14.trans (st15 _ (Steps.refl _))
  have ap := apart (Or.inr ⟨_, (wk W (.laysFinal "java/lang/String" "java/lang/String" "value" "[B"))⟩) (Or.inr ⟨_, (wk W (.laysFinal "java/lang/String" "java/lang/String" "coder" "B"))⟩) f1 f2 (t₁ := .array .byte) (t₂ := .byte) (by decide +kernel) (by decide +kernel) (by decide)
  have al := X8.warmed.alike.symm.trans X15.warmed.alike
  have n7 : T11.heap[s.heap.size]? = some N := by rw [q11]; exact n1.1
  exact ⟨T15, none, _, _, _, X15, by simp, rfl, by omega, (fun _ => rfl), ⟨rfl, _, N, bl15, ((Same.refl D _).set _ (by simp)).set _ (by simp), sl15, (Cell.slots_setSlot_ne _ ap).trans sl13, n1.keep al (p15.other hne (p13.other hne n7)), n2, by rw [al.findClass]; exact n3, n4, n5, fun y c h1 h2 => p15.other h1 (p13.other h1 (by rw [q11]; exact n6 y c h2)), by rw [p15.2.2, p13.2.2, q11]; exact z8⟩, fun fs hl => c16.trans (X15.returnOut hexec hret (hb hbytes d57) hl)⟩
end New4
namespace New1
def yN : MethodName := ⟨"java/lang/String", "<init>", "([C)V"⟩
abbrev yB : ByteArray := jdk_42_method_3_code
theorem d0 : decode yB 0 = .ok (.aload_n 0, 1) := by decide +kernel
theorem d1 : decode yB 1 = .ok (.aload_n 1, 1) := by decide +kernel
theorem d2 : decode yB 2 = .ok (.iconst 0, 1) := by decide +kernel
theorem d3 : decode yB 3 = .ok (.aload_n 1, 1) := by decide +kernel
theorem d4 : decode yB 4 = .ok (.arraylength, 1) := by decide +kernel
theorem d5 : decode yB 5 = .ok (.aconst_null, 1) := by decide +kernel
theorem d6 : decode yB 6 = .ok (.invokespecial 27, 3) := by decide +kernel
theorem d9 : decode yB 9 = .ok (.return_, 1) := by decide +kernel
def site : List Cond := [New4.tab] ++ initW "java/lang/String" 27 New4.yN
def tab : Cond := tabOf yN yB 2 none site
def P (a : Addr) (D : Cell) (fV fC : Field) (b : Addr) (A : Cell) (z : Int32) (args : Array Value) (s : State) : Prop := args = #[.ref a, .ref b] ∧ Blank "java/lang/String" a D s ∧ Found "java/lang/String" "value" "[B" fV s ∧ Found "java/lang/String" "coder" "B" fC s ∧ Ch b A s ∧ StaticIs s "java/lang/String" "COMPACT_STRINGS" "Z" (.int z) ∧ ¬ z = 0 ∧ 0 < A.slots.size ∧ A.slots.size ≤ 536870912 ∧ ∀ i, i < A.slots.size → ¬ 255 < cv A i
def E (a : Addr) (D : Cell) (fV fC : Field) (A : Cell) (r : Option Value) (s u : State) : Prop := Got a D fV fC A 0 A.slots.size r s u
/-- new String(chars), not empty, no char above 255: a Latin-1 String of their low bytes -/
theorem law (l : Launch) (a : Addr) (D : Cell) (fV fC : Field) (b : Addr) (A : Cell) (z : Int32) : Law l yN 2 1 3 52 yB 2 none site (P a D fV fC b A z) (E a D fV fC A) [⟨a, fC.slot⟩, ⟨a, fV.slot⟩] 1 A.slots.size := by
  refine Law.of_walk (plainFor_of_name (by decide +kernel)) (by decide +kernel) (by decide +kernel) (by decide) (fun _ _ h => by rw [h.1]; rfl) (fun _ U U' hal hh h => ⟨h.1, h.2.1.mv hal hh, h.2.2.1.al hal, h.2.2.2.1.al hal, h.2.2.2.2.1.mv hal hh, h.2.2.2.2.2.1.there hal hh, h.2.2.2.2.2.2⟩) (fun r U U' V V' h1 hal h2 h => Got.mv r U U' V V' h1 hal h2 h) ?_
  intro p e s m args below meth c s₁ X0 hexec hbytes hml hret hlk hnm hown hh0 W hP
  obtain ⟨rfl, hB, f1, f2, hA, s1, hz, l0, l2, hp⟩ := hP
  have c1 : Steps p.tables e below (s₁.setTop (entryFrame m #[.ref a, .ref b] 2)) (s₁.setTop (mkF m 0 #[.val (.ref a), .val (.ref b)] [])) := entry rfl
  have c2 : Steps p.tables e below (s₁.setTop (entryFrame m #[.ref a, .ref b] 2)) (s₁.setTop (mkF m 6 #[.val (.ref a), .val (.ref b)] [.null, .int (Int32.ofNat A.slots.size), .int 0, .ref b, .ref a])) := c1.trans (by
    refine XS.aloadN X0.here hexec rfl (hb hbytes d0) rfl rfl ?_
    refine XS.aloadN X0.here hexec rfl (hb hbytes d1) rfl rfl ?_
    refine iconstV X0.here hexec rfl 0 (hb hbytes d2) (by decide) ?_
    refine XS.aloadN X0.here hexec rfl (hb hbytes d3) rfl rfl ?_
    refine X0.alen hexec (hA.1.mv X0.warmed.alike hh0) rfl rfl (hb hbytes d4) ?_
    refine XS.aconstNull X0.here hexec rfl (hb hbytes d5) ?_
    exact Steps.refl _)
  obtain ⟨v3, T3, X3, E3, g3⟩ := X0.callN hexec (New4.law l a D fV fC b A z 0 A.slots.size) rfl hown (wks W (initW "java/lang/String" 27 New4.yN)) (W New4.tab (by simp only [site, List.mem_cons, List.mem_append, true_or, or_true])) (W := 0) (Nat.le_of_ble_eq_true rfl) (Nat.le_of_ble_eq_true rfl) (Nat.le_refl _) (by show 0 + A.slots.size ≤ A.slots.size; omega) (g := (mkF m 6 #[.val (.ref a), .val (.ref b)] [.null, .int (Int32.ofNat A.slots.size), .int (Int32.ofNat 0), .ref b, .ref a])) rfl (by rw [hml]; rfl) c2 (argsL := [.ref b, .int (Int32.ofNat 0), .int (Int32.ofNat A.slots.size), .null]) (rest := []) rfl rfl (by show 2 * 0 + 0 ≤ _; decide) (hb hbytes d6) (⟨rfl, hB.mv X0.warmed.alike hh0, f1.al X0.warmed.alike, f2.al X0.warmed.alike, hA.mv X0.warmed.alike hh0, s1.there X0.warmed.alike hh0, hz, l0, by omega, l2, fun i hi => by rw [Nat.zero_add]; exact hp i hi⟩)
  have e0 := Got.mv _ s₁ s _ _ hh0.symm (Vm.Alike.refl _) rfl E3
  obtain rfl := e0.1
  have c4 : Steps p.tables e below (s₁.setTop (entryFrame m #[.ref a, .ref b] 2)) (T3.setTop (mkF m 9 #[.val (.ref a), .val (.ref b)] [])) := g3
  exact ⟨T3, none, _, _, _, X3, by simp, rfl, by omega, (fun _ => rfl), e0, fun fs hl => c4.trans (X3.returnOut hexec hret (hb hbytes d9) hl)⟩
theorem pays {l : Launch} {R : Room} {p : Program} {e : Env} {below : List Frame} {s : State} {sargs : Array Value} {len W : Nat} (a : Addr) (D : Cell) (fV fC : Field) (b : Addr) (A : Cell) (z : Int32) (htab : tab.before sargs s = true) (hfr : 4 ≤ R.frames) (hlo : W + 65 ≤ R.locals) :
    Back l R p e below s sargs yN len W (fun A₁ a₁ => A₁.cells + 1 ≤ R.cells ∧ A₁.slots + A.slots.size ≤ R.slots ∧ P a D fV fC b A z a₁ A₁.U) (fun A₁ _ v₁ B₁ => E a D fV fC A v₁ A₁.U B₁.U ∧ B₁.locs = A₁.locs ++ [⟨a, fC.slot⟩, ⟨a, fV.slot⟩] ∧ B₁.cells = A₁.cells + 1 ∧ B₁.slots = A₁.slots + A.slots.size) :=
  (law l a D fV fC b A z).pays htab hfr (by omega)
end New1
/-- the byte, read back as charAt reads it, is the char -/
theorem lo8_mask {x : Int32} (h0 : ¬ x < 0) (h1 : ¬ 255 < x) : lo8 x &&& 255 = x := by
  have t : ∀ k : Fin 256, lo8 (Int32.ofNat k.val) &&& 255 = Int32.ofNat k.val := by decide +kernel
  rw [Int32.lt_iff_toInt_lt] at h0 h1
  have e0 : (0 : Int32).toInt = 0 := rfl
  have e1 : (255 : Int32).toInt = 255 := rfl
  obtain ⟨k, hk⟩ : ∃ k : Nat, x.toInt = k := ⟨x.toInt.toNat, by omega⟩
  have hx : x = Int32.ofNat k := Int32.toInt_inj.mp (by rw [hk, Int32.toInt_ofNat_small (by omega)])
  rw [hx]
  exact t ⟨k, by omega⟩
end StrChars
namespace StrChars.Road
open Jvm Sem ClassFile Op Lib Jvm.Stand Jvm.Free Jvm.Free.XT
open Jvm.Lib.Cold (StaticIs)
abbrev ST : String := "java/lang/String"
/-- every table word that New1's law asks, flat -/
abbrev words : List Jvm.Cond := [.code New1.yN New1.yB 2 none, .initialized ST, .methodLink ST 27 New4.yN, .instanceMethod New4.yN,
  .code New4.yN New4.yB 6 none, .fieldLink ST 38 ST "COMPACT_STRINGS" "Z", .laysFinal ST ST "value" "[B", .fieldLink ST 9 ST "value" "[B", .laysFinal ST ST "coder" "B", .fieldLink ST 15 ST "coder" "B",
  .methodLink ST 1 Lib.objectInit, .instanceMethod Lib.objectInit, .code Lib.objectInit ⟨#[0xb1]⟩ 1 none, .methodLink ST 177 Cmp3.yN, .static Cmp3.yN, .methodLink ST 47 CodL.yN, .static CodL.yN,
  .code Cmp3.yN Cmp3.yB 6 (some (.array .byte)), .initialized U16, .arrayClass .byte, .methodLink U16 115 Cmp5.yN, .static Cmp5.yN, .code Cmp5.yN Cmp5.yB 7 (some .int), .code CodL.yN CodL.yB 2 (some .byte)]
theorem tab_of {a : Array Value} {s : State} (h : ∀ w ∈ words, w.before a s = true) : New1.tab.before a s = true := by
  have h5 : Cmp5.tab.before a s = true := unparts (wk h (.code Cmp5.yN Cmp5.yB 7 (some .int))) (wks h (.initialized Cmp5.yN.cls :: Cmp5.site))
  have hc : CodL.tab.before a s = true := unparts (wk h (.code CodL.yN CodL.yB 2 (some .byte))) (wks h (.initialized CodL.yN.cls :: CodL.site))
  have q5 : ∀ w ∈ Cmp5.tab :: words, w.before a s = true := fun w hw => (List.mem_cons.mp hw).elim (fun e => e ▸ h5) (h w)
  have h3 : Cmp3.tab.before a s = true := unparts (wk q5 (.code Cmp3.yN Cmp3.yB 6 (some (.array .byte)))) (wks q5 (.initialized Cmp3.yN.cls :: Cmp3.site))
  have q3 : ∀ w ∈ Cmp3.tab :: CodL.tab :: words, w.before a s = true := fun w hw => (List.mem_cons.mp hw).elim (fun e => e ▸ h3) fun hw => (List.mem_cons.mp hw).elim (fun e => e ▸ hc) (h w)
  have h4 : New4.tab.before a s = true := unparts (wk q3 (.code New4.yN New4.yB 6 none)) (wks q3 (.initialized New4.yN.cls :: New4.site))
  have q4 : ∀ w ∈ New4.tab :: words, w.before a s = true := fun w hw => (List.mem_cons.mp hw).elim (fun e => e ▸ h4) (h w)
  exact unparts (wk q4 (.code New1.yN New1.yB 2 none)) (wks q4 (.initialized New1.yN.cls :: New1.site))
/-- the words ride from the start Z to the walk's own state -/
theorem moved {Z s : State} {a0 args : Array Value} (hZ : Z.Warmed39 s.vm) (hw : ∀ d ∈ words, d.before a0 Z = true) : ∀ d ∈ words, d.before args s = true := fun d hd => by
  have q := hw d hd
  have t : ∀ d ∈ words, d = .arrayClass .byte ∨ (d.onTables && d.keepsFace) = true := by decide +kernel
  rcases t d hd with rfl | t
  · exact RoadKit.mvA hZ q
  · exact RoadKit.mv hZ q t
/-- WHAT COMES BACK, over the tables of the start Z: h the heap at the call, h' behind it -/
def Q (Z : State) (x : Addr) (A : Cell) (h : Heap) (v : Option Value) (h' : Heap) (L : List Loc) : Prop := v = none ∧ (∀ y ∈ L, y.base = x) ∧ RoadKit.Keep h h' [x] ∧ h'.size = h.size + 1 ∧ RoadKit.Exa Z h' x ST ∧ RoadKit.Fld Z h' x ST "value" "[B" (.ref h.size) ∧ RoadKit.Fld Z h' x ST "coder" "B" (.int 0) ∧
  (∃ V : Cell, RoadKit.Arr Z h' h.size V .byte ∧ V.vm = .none ∧ Z.vm.findClass "[B" = some V.cls ∧ V.slots.size = A.slots.size ∧ ∀ j, j < A.slots.size → V.slots[j]? = some (.int (lo8 (cv A j)))) ∧
  ∀ (O n d : String) (w : Value), RoadKit.Fld Z h x O n d w → RoadKit.slotOf Z O n d ≠ RoadKit.slotOf Z ST "value" "[B" → RoadKit.slotOf Z O n d ≠ RoadKit.slotOf Z ST "coder" "B" → RoadKit.Fld Z h' x O n d w
/-- **new String(chars) AT A CALL, IN THE ROAD'S FORM**: for specialBack behind newO: x the fresh String, b the char[] with the cell A -/
theorem back {p : Program} {l : Launch} {e : Env} {R : Room} {s : State} {args : Array Value} {below : List Frame} {len W : Nat} {Z : State} {a0 : Array Value} {h : Heap} (hZ : Z.Warmed39 s.vm) (hw : ∀ d ∈ words, d.before a0 Z = true) {kI : Nat} (wi : (Jvm.Cond.instantiable ST kI).before a0 Z = true)
    {x b : Addr} {A : Cell} {z : Int32} {v0 c0 : Value} (E : RoadKit.Exa Z h x ST) (V : RoadKit.Fld Z h x ST "value" "[B" v0) (C : RoadKit.Fld Z h x ST "coder" "B" c0) (K : RoadKit.Arr Z h b A .char) (hty : Typed .char A) (S : RoadKit.Sta Z h ST "COMPACT_STRINGS" "Z" (.int z)) (hz : ¬ z = 0)
    (l0 : 0 < A.slots.size) (l2 : A.slots.size ≤ 536870912) (hp : ∀ i, i < A.slots.size → ¬ 255 < cv A i) (hfr : 4 ≤ R.frames) (hlo : W + 65 ≤ R.locals) :
    Back l R p e below s args New1.yN len W (fun P a => a = #[.ref x, .ref b] ∧ P.U.heap = h ∧ P.cells + 1 ≤ R.cells ∧ P.slots + A.slots.size ≤ R.slots)
      (fun P _ v B => ∃ L, Q Z x A h v B.U.heap L ∧ B.locs = P.locs ++ L ∧ B.cells = P.cells + 1 ∧ B.slots = P.slots + A.slots.size) := by
  intro m meth c P g ig mk a X hg hsize hdg hW hn hp'
  obtain ⟨rfl, rfl, r1, r2⟩ := hp'
  have al : Z.vm.Alike P.U.vm := hZ.alike.trans X.warmed.alike
  obtain ⟨D, cfV, kV, iV, fV, hD, gV, stV, knV, obV, asV, slV⟩ := id V
  obtain ⟨D', cfC, kC, iC, fC, hD', gC, stC, -, -, asC, slC⟩ := id C
  cases hD.symm.trans hD'
  obtain ⟨D2, kD, e1, e2, e3, e4, e5⟩ := id E
  cases hD.symm.trans e1
  obtain ⟨c2, k2, i1, i2, i3, -⟩ := Cond.instantiable_spec wi
  cases e2.symm.trans i1
  cases e3.symm.trans i2
  obtain ⟨kU, u1, u2⟩ := al.2.2 _ _ e3
  have hB : Blank ST x D P.U := ⟨hD, ⟨knV, fun q hq => by rw [hq] at obV; cases obV⟩, by rw [al.findClass]; exact e2, kU, u1, by rw [u2]; exact i3, by rw [u2]; exact e5 i3⟩
  have F1 : Found ST "value" "[B" fV P.U := ⟨SBG.found_only al ⟨cfV, kV, iV, gV⟩, stV⟩
  have F2 : Found ST "coder" "B" fC P.U := ⟨SBG.found_only al ⟨cfC, kC, iC, gC⟩, stC⟩
  have hA : Ch b A P.U := ⟨⟨K.1, State.isArrayOf_alike al K.2.1, K.2.2, by omega⟩, hty⟩
  have hS : StaticIs P.U ST "COMPACT_STRINGS" "Z" (.int z) := by
    obtain ⟨cfS, iS, kS, fS, st, cS, t1, t2, t3, t4, t5, t6, t7⟩ := S
    exact StaticIs.there (s := { Z with heap := P.U.heap }) ⟨cfS, iS, kS, fS, st, cS, t1, t2, t3, t4, t5, (fun q => by rw [q] at t6; cases t6), t7⟩ al rfl
  obtain ⟨v, B, X', ⟨⟨hv, E', V', q1, q2, q3, q4, q5, q6, q7, q8, q9, q10, q11⟩, hl, hc, hs⟩, st⟩ := New1.pays x D fV fC b A z (tab_of (moved hZ hw)) hfr hlo m meth c P g ig mk _ X hg hsize hdg hW hn ⟨r1, r2, rfl, hB, F1, F2, hA, hS, hz, l0, l2, hp⟩
  have al' : Z.vm.Alike B.U.vm := hZ.alike.trans X'.warmed.alike
  have hsz : E'.slots.size = D.slots.size := by
    obtain ⟨-, -, -, kB, w1, w2, w3⟩ := q1
    obtain ⟨kB', y1, y2⟩ := al'.2.2 _ _ e3
    rw [q2.2.1] at w1
    cases w1.symm.trans y1
    rw [w3, e5 i3, y2]
  refine ⟨v, B, X', ⟨_, ⟨hv, ?_, ⟨by omega, fun y cy hy hn' => q10 y cy (by simpa using hn') hy, fun y cy hy => ?_⟩, q11, ⟨E', _, q1.1, by rw [q2.2.1]; exact e2, by rw [q2.2.1]; exact e3, by rw [q2.1]; exact obV, fun _ => by rw [hsz]; exact e5 i3⟩,
    ⟨E', cfV, kV, iV, fV, q1.1, gV, stV, by rw [q2.1]; exact knV, by rw [q2.1]; exact obV, by rw [q2.2.1]; exact asV, q3⟩, ⟨E', cfC, kC, iC, fC, q1.1, gC, stC, by rw [q2.1]; exact knV, by rw [q2.1]; exact obV, by rw [q2.2.1]; exact asC, q4⟩,
    ⟨V', ⟨q5.1, State.isArrayOf_alike al'.symm q5.2.1, q5.2.2.1⟩, q6, by rw [← al'.findClass]; exact q7, q8, fun j hj => by have := q9 j hj; rwa [Nat.zero_add] at this⟩, fun O n d w F n1 n2 => ?_⟩, hl, hc, hs⟩, st⟩
  · intro y hy
    simp only [List.mem_cons, List.not_mem_nil, or_false] at hy
    rcases hy with rfl | rfl <;> rfl
  · by_cases q : y = x
    · subst q
      cases hD.symm.trans hy
      exact ⟨E', q1.1, q2.2.1, q2.1, hsz⟩
    · exact ⟨cy, q10 y cy q hy, rfl, rfl, rfl⟩
  · obtain ⟨D3, cf, k, i, f, g1, g2, g3, g4, g5, g6, g7⟩ := F
    cases hD.symm.trans g1
    simp only [RoadKit.slotOf, g2, gV, gC, Option.map_some, Option.getD_some] at n1 n2
    exact ⟨E', cf, k, i, f, q1.1, g2, g3, by rw [q2.1]; exact g4, by rw [q2.1]; exact g5, by rw [q2.2.1]; exact g6, by rw [q2.2.2 f.slot (by simp [n1, n2])]; exact g7⟩
end StrChars.Road
namespace StrChars.Road
open Jvm Sem ClassFile Op Lib Jvm.Stand Jvm.Free Jvm.Free.XT
/-- WHAT COMES BACK, the byte[] as a list of values -/
def QA (Z : State) (x : Addr) (zn : Int32) (cs : List Int32) (h : Heap) (v : Option Value) (h' : Heap) (L : List Loc) : Prop := v = none ∧ (∀ y ∈ L, y.base = x) ∧ RoadKit.Keep h h' [x] ∧ h'.size = h.size + 1 ∧ RoadKit.Exa Z h' x ST ∧ RoadKit.Fld Z h' x ST "value" "[B" (.ref h.size) ∧ RoadKit.Fld Z h' x ST "coder" "B" (.int 0) ∧
  (∃ kb, Z.vm.findClass "[B" = some kb ∧ RoadKit.Arv Z h' h.size kb .byte zn (cs.map fun c => .int (lo8 c)) (.int 0)) ∧
  ∀ (O n d : String) (w : Value), RoadKit.Fld Z h x O n d w → RoadKit.slotOf Z O n d ≠ RoadKit.slotOf Z ST "value" "[B" → RoadKit.slotOf Z O n d ≠ RoadKit.slotOf Z ST "coder" "B" → RoadKit.Fld Z h' x O n d w
/-- **new String(chars) AT A CALL, THE ARRAYS AS LISTS**: the char[] at b holds cs, not empty, no char above 255 -/
theorem backArv {p : Program} {l : Launch} {e : Env} {R : Room} {s : State} {args : Array Value} {below : List Frame} {len W : Nat} {Z : State} {a0 : Array Value} {h : Heap} (hZ : Z.Warmed39 s.vm) (hw : ∀ d ∈ words, d.before a0 Z = true) {kI : Nat} (wi : (Jvm.Cond.instantiable ST kI).before a0 Z = true)
    {x b : Addr} {k : ClassId} {zn z : Int32} {cs : List Int32} {dv v0 c0 : Value} (E : RoadKit.Exa Z h x ST) (V : RoadKit.Fld Z h x ST "value" "[B" v0) (C : RoadKit.Fld Z h x ST "coder" "B" c0) (K : RoadKit.Arv Z h b k .char zn (cs.map Value.int) dv) (S : RoadKit.Sta Z h ST "COMPACT_STRINGS" "Z" (.int z)) (hz : ¬ z = 0)
    (hlen : zn.toNatClampNeg = cs.length) (h0 : 0 < cs.length) (hbig : cs.length ≤ 536870912) (hall : ∀ c ∈ cs, ¬ 255 < c) (hfr : 4 ≤ R.frames) (hlo : W + 65 ≤ R.locals) :
    Back l R p e below s args New1.yN len W (fun P a => a = #[.ref x, .ref b] ∧ P.U.heap = h ∧ P.cells + 1 ≤ R.cells ∧ P.slots + cs.length ≤ R.slots)
      (fun P _ v B => ∃ L, QA Z x zn cs h v B.U.heap L ∧ B.locs = P.locs ++ L ∧ B.cells = P.cells + 1 ∧ B.slots = P.slots + cs.length) := by
  obtain ⟨A, K1, K2, K3, K4, K5, K6⟩ := K
  have e : A.slots.size = cs.length := K3.trans hlen
  have hat : ∀ (i : Nat) (hi : i < cs.length), A.slots[i]? = some (.int cs[i]) := fun i hi => by rw [K5 i (by omega)]; simp [List.getD_eq_getElem?_getD, hi]
  have hcv : ∀ (i : Nat) (hi : i < cs.length), cv A i = cs[i] := fun i hi => by unfold cv; rw [hat i hi]
  have hty : Typed .char A := fun i v hv => by
    have hi : i < A.slots.size := (Array.getElem?_eq_some_iff.mp hv).1
    have q := K5 i hi
    rw [hv] at q
    rw [Option.some.inj q]
    exact K6 i hi
  refine Back.mono (back hZ hw wi E V C K1 hty S hz (by omega) (by omega) (fun i hi => by rw [hcv i (by omega)]; exact hall _ (List.getElem_mem _)) hfr hlo) (fun P a hp => ⟨hp.1, hp.2.1, hp.2.2.1, by rw [e]; exact hp.2.2.2⟩) (fun P a v B hp hq => ?_)
  obtain ⟨L, ⟨q1, q2, q3, q4, q5, q6, q7, ⟨V', v1, v2, v3, v4, v5⟩, q9⟩, hl, hc, hs⟩ := hq
  refine ⟨L, ⟨q1, q2, q3, q4, q5, q6, q7, ⟨V'.cls, v3, V', v1, rfl, by rw [v4, e, hlen], K4, fun i hi => ?_, fun i hi => ?_⟩, q9⟩, hl, hc, by rw [hs, e]⟩
  · have hi' : i < cs.length := by omega
    rw [v5 i (by omega), hcv i hi']; simp [List.getD_eq_getElem?_getD, hi']
  · have hi' : i < cs.length := by omega
    simp only [List.getD_eq_getElem?_getD, List.getElem?_map, List.getElem?_eq_getElem hi', Option.map_some, Option.getD_some]
    exact fits_lo8 _
end StrChars.Road
namespace StrChars.Road
open Jvm Sem ClassFile Op Lib Jvm.Stand Jvm.Free Jvm.Free.XT
/-- WHAT COMES BACK, in the writer's own shape -/
def QV (Z : State) (x : Addr) (N : Int32) (bs : List Int32) (h : Heap) (n0 : Nat) (v : Option Value) (h' : Heap) (L : List Loc) : Prop := v = none ∧ RoadKit.Fr n0 L ∧ RoadKit.Keep h h' [x] ∧ RoadKit.Exa Z h' x ST ∧ RoadKit.Fld Z h' x ST "coder" "B" (.int 0) ∧
  ∃ (t : Addr) (kb : ClassId), n0 ≤ t ∧ h.size ≤ t ∧ ¬ t = x ∧ RoadKit.Fld Z h' x ST "value" "[B" (.ref t) ∧ RoadKit.Arv Z h' t kb .byte N (bs.map Value.int) (.int 0)
/-- **new String(chars) AT A CALL, FOR THE WRITER**: a char[] of n known ints, each 0 to 255 -/
theorem backV {p : Program} {l : Launch} {e : Env} {R : Room} {s : State} {args : Array Value} {below : List Frame} {len W : Nat} {Z : State} {a0 : Array Value} {h : Heap} (hZ : Z.Warmed39 s.vm) (hw : ∀ d ∈ words, d.before a0 Z = true) {kI : Nat} (wi : (Jvm.Cond.instantiable ST kI).before a0 Z = true)
    {x b : Addr} {kC : ClassId} {cs bs : List Int32} {d v0 c0 : Value} {z N : Int32} {n n0 : Nat} (hx0 : n0 ≤ x) (hh0 : n0 ≤ h.size) (E : RoadKit.Exa Z h x ST) (V : RoadKit.Fld Z h x ST "value" "[B" v0) (C : RoadKit.Fld Z h x ST "coder" "B" c0) (K : RoadKit.Arv Z h b kC .char N (cs.map Value.int) d) (S : RoadKit.Sta Z h ST "COMPACT_STRINGS" "Z" (.int z)) (hz : ¬ z = 0)
    (hn : cs.length = n) (hN : N = Int32.ofNat n) (l0 : 0 < n) (l2 : n ≤ 4000) (hp : ∀ c ∈ cs, ¬ c < 0 ∧ ¬ (255 : Int32) < c) (hb : bs = cs.map (fun c => c.toInt8.toInt32)) (hfr : 4 ≤ R.frames) (hlo : W + 65 ≤ R.locals) :
    Back l R p e below s args (⟨"java/lang/String", "<init>", "([C)V"⟩ : MethodName) len W (fun P a => a = #[.ref x, .ref b] ∧ P.U.heap = h ∧ P.cells + 1 ≤ R.cells ∧ P.slots + n ≤ R.slots)
      (fun P _ v B => ∃ L, QV Z x N bs h n0 v B.U.heap L ∧ B.locs = P.locs ++ L ∧ B.cells = P.cells + 1 ∧ B.slots = P.slots + n) := by
  subst hn hN hb
  refine Back.mono (backArv hZ hw wi E V C K S hz (n32 (by omega)) l0 (by omega) (fun c hc => (hp c hc).2) hfr hlo) (fun P a hp => hp) (fun P a v B hp hq => ?_)
  obtain ⟨L, ⟨q1, q2, q3, q4, q5, q6, q7, ⟨kb, v1, v2⟩, q9⟩, hl, hc, hs⟩ := hq
  exact ⟨L, ⟨q1, fun y hy => by rw [q2 y hy]; exact hx0, q3, q5, q7, h.size, kb, hh0, Nat.le_refl _, Nat.ne_of_gt E.lt, q6, by rw [List.map_map]; exact v2⟩, hl, hc, hs⟩
end StrChars.Road
namespace StrChars
open Jvm Sem ClassFile Op Lib Jvm.Stand Jvm.Free.XT Jvm.Free.ALB Jvm.Free.JM Jvm.Free
open Jvm.Lib.Cold (StaticIs)
def hi8 (x : Int32) : Int32 := lo8 (x >>> ((8 : Int32) &&& 31))
/-- what StringUTF16.getChar makes of two bytes -/
def pairCh (u v : Int32) : Int32 := (((u &&& 255) <<< ((0 : Int32) &&& 31)) ||| ((v &&& 255) <<< ((8 : Int32) &&& 31))).toUInt32.toUInt16.toUInt32.toInt32
theorem lo8_and (x : Int32) : (lo8 x &&& 255).toBitVec.toNat = x.toBitVec.toNat % 256 := by
  have h : (lo8 x).toBitVec = (x.toBitVec.signExtend 8).signExtend 32 := by rw [lo8, Int8.toBitVec_toInt32, Int32.toBitVec_toInt8]
  rw [Int32.toBitVec_and, BitVec.toNat_and, h]
  have e : ((x.toBitVec.signExtend 8).signExtend 32).toNat % 256 = x.toBitVec.toNat % 256 := by
    rw [BitVec.toNat_signExtend]
    have hlt := x.toBitVec.isLt
    simp only [BitVec.toNat_setWidth, BitVec.toNat_signExtend]
    split <;> split <;> omega
  rw [← e]
  exact Nat.and_two_pow_sub_one_eq_mod _ 8
theorem pair_says {c : Int32} (h0 : ¬ c < 0) (h1 : ¬ 65535 < c) : pairCh (lo8 c) (hi8 c) = c := by
  rw [Int32.lt_iff_toInt_lt] at h0 h1
  have e0 : (0 : Int32).toInt = 0 := rfl
  have e1 : (65535 : Int32).toInt = 65535 := rfl
  have hc : c.toInt = c.toBitVec.toNat := by
    have := c.toBitVec.isLt
    have e : c.toInt = c.toBitVec.toInt := rfl
    rw [e] at h0 h1
    rw [e]
    rw [BitVec.toInt_eq_toNat_cond] at h0 h1 ⊢
    split at h0 <;> split <;> omega
  have hn : c.toBitVec.toNat < 65536 := by omega
  have a1 := lo8_and c
  have a2 : (hi8 c &&& 255).toBitVec.toNat = c.toBitVec.toNat / 256 := by
    rw [hi8, lo8_and]
    have e : ((8 : Int32) &&& 31) = 8 := by decide
    rw [e, Int32.toBitVec_shiftRight]
    have e2 : ((8 : Int32).toBitVec.smod 32) = 8#32 := by decide
    rw [e2, BitVec.sshiftRight_eq', BitVec.toNat_sshiftRight_of_msb_false (by rw [BitVec.msb_eq_false_iff_two_mul_lt]; omega)]
    show c.toBitVec.toNat >>> 8 % 256 = _
    rw [Nat.shiftRight_eq_div_pow]
    omega
  unfold pairCh
  apply Int32.toBitVec_inj.mp
  apply BitVec.eq_of_toNat_eq
  have f0 : ((0 : Int32) &&& 31) = 0 := by decide
  have f8 : ((8 : Int32) &&& 31) = 8 := by decide
  rw [f0, f8]
  have g : (((lo8 c &&& 255) <<< (0 : Int32)) ||| ((hi8 c &&& 255) <<< (8 : Int32))).toBitVec.toNat = c.toBitVec.toNat := by
    rw [Int32.toBitVec_or, Int32.toBitVec_shiftLeft, Int32.toBitVec_shiftLeft]
    have s0 : ((0 : Int32).toBitVec.smod 32) = 0#32 := by decide
    have s8 : ((8 : Int32).toBitVec.smod 32) = 8#32 := by decide
    rw [s0, s8, BitVec.toNat_or]
    simp only [BitVec.shiftLeft_eq', BitVec.toNat_shiftLeft, a1, a2]
    show (c.toBitVec.toNat % 256) <<< 0 % 2 ^ 32 ||| (c.toBitVec.toNat / 256) <<< 8 % 2 ^ 32 = _
    rw [Nat.shiftLeft_zero, Nat.mod_eq_of_lt (show c.toBitVec.toNat % 256 < 2 ^ 32 by omega), Nat.mod_eq_of_lt (show (c.toBitVec.toNat / 256) <<< 8 < 2 ^ 32 by rw [Nat.shiftLeft_eq]; omega), Nat.or_comm, ← Nat.shiftLeft_add_eq_or_of_lt (by omega), Nat.shiftLeft_eq]
    omega
  show BitVec.toNat (((((lo8 c &&& 255) <<< (0 : Int32)) ||| ((hi8 c &&& 255) <<< (8 : Int32))).toBitVec.setWidth 16).setWidth 32) = _
  rw [BitVec.toNat_setWidth, BitVec.toNat_setWidth, g]
  omega
end StrChars
namespace StrChars
open Jvm Sem ClassFile Op Lib Jvm.Stand Jvm.Free.XT Jvm.Free.ALB Jvm.Free.JM Jvm.Free
open Jvm.Lib.Cold (StaticIs)
/-- the array's cell V codes the n chars f 0 .. f (n - 1) by the coder cd, as the JDK does: coder 1 just where some char is above 255 -/
def Cod (cd : Int32) (n : Nat) (f : Nat → Int32) (V : Cell) : Prop := (cd = 0 ∧ V.slots.size = n ∧ ∀ j, j < n → V.slots[j]? = some (.int (lo8 (f j))) ∧ ¬ 255 < f j) ∨ (cd = 1 ∧ V.slots.size = 2 * n ∧ (∀ j, j < n → V.slots[2 * j]? = some (.int (lo8 (f j))) ∧ V.slots[2 * j + 1]? = some (.int (hi8 (f j)))) ∧ ∃ j, j < n ∧ 255 < f j)
/-- **x is a String of the n chars f 0 .. f (n - 1)**, Latin-1 or UTF-16; its array at t has the cell V -/
def Txt (x t : Addr) (V : Cell) (cd : Int32) (n : Nat) (f : Nat → Int32) (U : State) : Prop := Exact "java/lang/String" x U ∧ Has x "java/lang/String" "value" "[B" (.ref t) U ∧ Has x "java/lang/String" "coder" "B" (.int cd) U ∧ XT.Arr .byte t V U ∧ Cod cd n f V ∧ ∀ j, j < n → ¬ f j < 0 ∧ ¬ 65535 < f j
theorem Txt.mv {x t : Addr} {V : Cell} {cd : Int32} {n : Nat} {f : Nat → Int32} {U U' : State} (h : Txt x t V cd n f U) (hal : U.vm.Alike U'.vm) (hh : U'.heap = U.heap) : Txt x t V cd n f U' := ⟨h.1.mv hal hh, h.2.1.mv hal hh, h.2.2.1.mv hal hh, h.2.2.2.1.mv hal hh, h.2.2.2.2⟩
end StrChars
namespace StrChars.Road
open Jvm Sem ClassFile Op Lib Jvm.Stand Jvm.Free Jvm.Free.XT
open Jvm.Lib.Cold (StaticIs)
theorem consq {a : Array Value} {s : State} {c : Jvm.Cond} {L : List Jvm.Cond} (h0 : c.before a s = true) (h : ∀ w ∈ L, w.before a s = true) : ∀ w ∈ c :: L, w.before a s = true := fun w hw => (List.mem_cons.mp hw).elim (fun e => e ▸ h0) (h w)
/-- the bytes of the chars cs, low before high -/
def wideBytes : List Int32 → List Value
  | [] => []
  | c :: cs => .int (lo8 c) :: .int (hi8 c) :: wideBytes cs
theorem wide_lo (d : Value) : ∀ (cs : List Int32) (j : Nat), j < cs.length → (wideBytes cs).getD (2 * j) d = .int (lo8 (cs.getD j 0))
  | [], j, h => absurd h (Nat.not_lt_zero j)
  | c :: cs, 0, _ => rfl
  | c :: cs, j + 1, h => by
    have q := wide_lo d cs j (by simpa using h)
    rw [show 2 * (j + 1) = 2 * j + 1 + 1 from by omega]
    simpa [wideBytes] using q
theorem wide_hi (d : Value) : ∀ (cs : List Int32) (j : Nat), j < cs.length → (wideBytes cs).getD (2 * j + 1) d = .int (hi8 (cs.getD j 0))
  | [], j, h => absurd h (Nat.not_lt_zero j)
  | c :: cs, 0, _ => rfl
  | c :: cs, j + 1, h => by
    have q := wide_hi d cs j (by simpa using h)
    rw [show 2 * (j + 1) + 1 = 2 * j + 1 + 1 + 1 from by omega]
    simpa [wideBytes] using q
theorem low_at (d : Value) (cs : List Int32) (j : Nat) (h : j < cs.length) : (cs.map fun c => Value.int (lo8 c)).getD j d = .int (lo8 (cs.getD j 0)) := by
  simp [List.getD_eq_getElem?_getD, h]
/-- an array of N2 bytes vs codes the chars cs by the coder cd -/
def CodA (cs : List Int32) (cd N2 : Int32) (vs : List Value) : Prop := (cd = 0 ∧ N2 = Int32.ofNat cs.length ∧ vs = (cs.map fun c => Value.int (lo8 c)) ∧ ∀ c ∈ cs, ¬ 255 < c) ∨ (cd = 1 ∧ N2 = Int32.ofNat (2 * cs.length) ∧ vs = wideBytes cs ∧ ∃ c ∈ cs, 255 < c)
theorem CodA.cod {cs : List Int32} {cd N2 : Int32} {vs : List Value} {V : Cell} (h : CodA cs cd N2 vs) (hn : 2 * cs.length < 2 ^ 31) (hs : V.slots.size = N2.toNatClampNeg) (hv : RoadKit.Has V vs (.int 0)) : Cod cd cs.length (fun j => cs.getD j 0) V := by
  rcases h with ⟨rfl, rfl, rfl, h⟩ | ⟨rfl, rfl, rfl, c, hc, hw⟩
  · rw [n32 (by omega)] at hs
    exact Or.inl ⟨rfl, hs, fun j hj => ⟨by rw [hv j (by omega), low_at _ _ _ hj], by
      have e : cs.getD j 0 = cs[j] := by simp [List.getD_eq_getElem?_getD, hj]
      show ¬ 255 < cs.getD j 0
      rw [e]; exact h _ (List.getElem_mem _)⟩⟩
  · rw [n32 (by omega)] at hs
    obtain ⟨j, hj, rfl⟩ := List.getElem_of_mem hc
    exact Or.inr ⟨rfl, hs, fun j hj => ⟨by rw [hv _ (by omega), wide_lo _ _ _ hj], by rw [hv _ (by omega), wide_hi _ _ _ hj]⟩, j, hj, by
      have e : cs.getD j 0 = cs[j] := by simp [List.getD_eq_getElem?_getD, hj]
      show 255 < cs.getD j 0
      rw [e]; exact hw⟩
/-- an object of exactly java/lang/String, its two fields found: as the laws ask it -/
theorem strObj {Z U : State} {a0 : Array Value} {kI : Nat} (wi : (Jvm.Cond.instantiable ST kI).before a0 Z = true) (al : Z.vm.Alike U.vm) {x : Addr} {v0 c0 : Value} (E : RoadKit.Exa Z U.heap x ST) (V : RoadKit.Fld Z U.heap x ST "value" "[B" v0) (C : RoadKit.Fld Z U.heap x ST "coder" "B" c0) :
    ∃ (D : Cell) (fV fC : Field), Blank ST x D U ∧ Found ST "value" "[B" fV U ∧ Found ST "coder" "B" fC U ∧ D.slots[fV.slot]? = some v0 ∧ D.slots[fC.slot]? = some c0 ∧ RoadKit.slotOf Z ST "value" "[B" = fV.slot ∧ RoadKit.slotOf Z ST "coder" "B" = fC.slot := by
  obtain ⟨D, cfV, kV, iV, fV, hD, gV, stV, knV, obV, asV, slV⟩ := V
  obtain ⟨D', cfC, kC, iC, fC, hD', gC, stC, -, -, asC, slC⟩ := C
  cases hD.symm.trans hD'
  obtain ⟨D2, kD, e1, e2, e3, e4, e5⟩ := E
  cases hD.symm.trans e1
  obtain ⟨c2, k2, i1, i2, i3, -⟩ := Cond.instantiable_spec wi
  cases e2.symm.trans i1
  cases e3.symm.trans i2
  obtain ⟨kU, u1, u2⟩ := al.2.2 _ _ e3
  exact ⟨D, fV, fC, ⟨hD, ⟨knV, fun q hq => by rw [hq] at obV; cases obV⟩, by rw [al.findClass]; exact e2, kU, u1, by rw [u2]; exact i3, by rw [u2]; exact e5 i3⟩, ⟨SBG.found_only al ⟨cfV, kV, iV, gV⟩, stV⟩, ⟨SBG.found_only al ⟨cfC, kC, iC, gC⟩, stC⟩, slV, slC, by simp [RoadKit.slotOf, gV], by simp [RoadKit.slotOf, gC]⟩
theorem sta_is {Z U : State} (al : Z.vm.Alike U.vm) {C n d : String} {v : Value} (S : RoadKit.Sta Z U.heap C n d v) : StaticIs U C n d v := by
  obtain ⟨cfS, iS, kS, fS, st, cS, t1, t2, t3, t4, t5, t6, t7⟩ := S
  exact StaticIs.there (s := { Z with heap := U.heap }) ⟨cfS, iS, kS, fS, st, cS, t1, t2, t3, t4, t5, (fun q => by rw [q] at t6; cases t6), t7⟩ al rfl
end StrChars.Road
namespace StrChars
open Jvm Sem ClassFile Op Lib Jvm.Stand Jvm.Free.XT Jvm.Free.ALB Jvm.Free.JM Jvm.Free
open Jvm.Lib.Cold (StaticIs)
/-- what place i of a byte[]'s cell holds -/
def yv (A : Cell) (i : Nat) : Int32 := match A.slots[i]? with | some (.int x) => x | _ => 0
theorem yv_get {a : Addr} {A : Cell} {U : State} (h : XT.Arr .byte a A U) (ht : Typed .byte A) {i : Nat} (hi : i < A.slots.size) : A.slots[i]? = some (.int (yv A i)) := by
  have e := Array.getElem?_eq_getElem hi
  have f := ht i _ e
  unfold yv; rw [e]
  generalize A.slots[i] = v at f
  cases v <;> simp [fits] at f ⊢
/-- the two arrays are equal, place for place -/
def EqC (A B : Cell) : Prop := A.slots.size = B.slots.size ∧ ∀ i, i < A.slots.size → yv A i = yv B i
/-- a boolean that says whether p -/
def Says01 (q : Prop) (r : Option Value) (s u : State) : Prop := ∃ v : Int32, r = some (.int v) ∧ u.heap = s.heap ∧ ((v = 1 ∧ q) ∨ (v = 0 ∧ ¬ q))
theorem Says01.mv {q : Prop} : ∀ r (U U' V V' : State), U'.heap = U.heap → V.vm.Alike V'.vm → V'.heap = V.heap → Says01 q r U V → Says01 q r U' V' :=
  fun r U U' V V' h1 _ h2 ⟨v, a, b, c⟩ => ⟨v, a, by rw [h1, h2]; exact b, c⟩
namespace LEq
def yN : MethodName := ⟨"java/lang/StringLatin1", "equals", "([B[B)Z"⟩
abbrev yB : ByteArray := jdk_43_method_13_code
theorem d0 : decode yB 0 = .ok (.aload_n 0, 1) := by decide +kernel
theorem d1 : decode yB 1 = .ok (.arraylength, 1) := by decide +kernel
theorem d2 : decode yB 2 = .ok (.aload_n 1, 1) := by decide +kernel
theorem d3 : decode yB 3 = .ok (.arraylength, 1) := by decide +kernel
theorem d4 : decode yB 4 = .ok (.if_icmp (.ne) 30, 3) := by decide +kernel
theorem d7 : decode yB 7 = .ok (.iconst 0, 1) := by decide +kernel
theorem d8 : decode yB 8 = .ok (.istore_n 2, 1) := by decide +kernel
theorem d9 : decode yB 9 = .ok (.iload_n 2, 1) := by decide +kernel
theorem d10 : decode yB 10 = .ok (.aload_n 0, 1) := by decide +kernel
theorem d11 : decode yB 11 = .ok (.arraylength, 1) := by decide +kernel
theorem d12 : decode yB 12 = .ok (.if_icmp (.ge) 20, 3) := by decide +kernel
theorem d15 : decode yB 15 = .ok (.aload_n 0, 1) := by decide +kernel
theorem d16 : decode yB 16 = .ok (.iload_n 2, 1) := by decide +kernel
theorem d17 : decode yB 17 = .ok (.baload, 1) := by decide +kernel
theorem d18 : decode yB 18 = .ok (.aload_n 1, 1) := by decide +kernel
theorem d19 : decode yB 19 = .ok (.iload_n 2, 1) := by decide +kernel
theorem d20 : decode yB 20 = .ok (.baload, 1) := by decide +kernel
theorem d21 : decode yB 21 = .ok (.if_icmp (.eq) 5, 3) := by decide +kernel
theorem d24 : decode yB 24 = .ok (.iconst 0, 1) := by decide +kernel
theorem d25 : decode yB 25 = .ok (.ireturn, 1) := by decide +kernel
theorem d26 : decode yB 26 = .ok (.iinc 2 1, 3) := by decide +kernel
theorem d29 : decode yB 29 = .ok (.goto (-20), 3) := by decide +kernel
theorem d32 : decode yB 32 = .ok (.iconst 1, 1) := by decide +kernel
theorem d33 : decode yB 33 = .ok (.ireturn, 1) := by decide +kernel
theorem d34 : decode yB 34 = .ok (.iconst 0, 1) := by decide +kernel
theorem d35 : decode yB 35 = .ok (.ireturn, 1) := by decide +kernel
def site : List Cond := []
def tab : Cond := tabOf yN yB 3 (some .boolean) site
def P (a : Addr) (A : Cell) (b : Addr) (B : Cell) (args : Array Value) (s : State) : Prop := args = #[.ref a, .ref b] ∧ XT.Arr .byte a A s ∧ Typed .byte A ∧ XT.Arr .byte b B s ∧ Typed .byte B
/-- whether two byte[] are equal, place for place -/
theorem law (l : Launch) (a : Addr) (A : Cell) (b : Addr) (B : Cell) : Law l yN 2 2 0 0 yB 3 (some .boolean) site (P a A b B) (Says01 (EqC A B)) [] 0 0 := by
  refine Law.of_walk (plainFor_of_name (by decide +kernel)) (by decide +kernel) (by decide +kernel) (by decide) (fun _ _ h => by rw [h.1]; rfl) (fun _ U U' hal hh h => ⟨h.1, h.2.1.mv hal hh, h.2.2.1, h.2.2.2.1.mv hal hh, h.2.2.2.2⟩) (fun r U U' V V' h1 hal h2 h => Says01.mv r U U' V V' h1 hal h2 h) ?_
  intro p e s m args below meth c s₁ X0 hexec hbytes hml hret hlk hnm hown hh0 W hP
  obtain ⟨rfl, hA, tA, hB, tB⟩ := hP
  have a31 := hA.2.2.2
  have b31 := hB.2.2.2
  have hA0 := hA.mv X0.warmed.alike hh0
  have hB0 := hB.mv X0.warmed.alike hh0
  have c1 : Steps p.tables e below (s₁.setTop (entryFrame m #[.ref a, .ref b] 3)) (s₁.setTop (mkF m 0 #[.val (.ref a), .val (.ref b), .unset] [])) := entry rfl
  have c2 : Steps p.tables e below (s₁.setTop (entryFrame m #[.ref a, .ref b] 3)) (s₁.setTop (mkF m 4 #[.val (.ref a), .val (.ref b), .unset] [.int (Int32.ofNat B.slots.size), .int (Int32.ofNat A.slots.size)])) := c1.trans (by
    refine XS.aloadN X0.here hexec rfl (hb hbytes d0) rfl rfl ?_
    refine X0.alen hexec hA0 rfl rfl (hb hbytes d1) ?_
    refine XS.aloadN X0.here hexec rfl (hb hbytes d2) rfl rfl ?_
    refine X0.alen hexec hB0 rfl rfl (hb hbytes d3) ?_
    exact Steps.refl _)
  by_cases hs : A.slots.size = B.slots.size
  · have c3 : Steps p.tables e below (s₁.setTop (entryFrame m #[.ref a, .ref b] 3)) (s₁.setTop (mkF m 9 #[.val (.ref a), .val (.ref b), .val (.int 0)] [])) := c2.trans (by
      refine XS.icmpNo X0.here hexec rfl (hb hbytes d4) rfl (ii_ne_f (by rw [hs])) ?_
      refine iconstV X0.here hexec rfl 0 (hb hbytes d7) (by decide) ?_
      refine XS.istoreN X0.here hexec rfl (hb hbytes d8) rfl rfl ?_
      exact Steps.refl _)
    have loop : ∀ (r i : Nat), i + r = A.slots.size → (∀ j, j < i → yv A j = yv B j) → Steps p.tables e below (s₁.setTop (entryFrame m #[.ref a, .ref b] 3)) (s₁.setTop (mkF m 9 #[.val (.ref a), .val (.ref b), .val (.int (Int32.ofNat i))] [])) → ∃ (pc : Nat) (Ls : Array Slot) (v : Int32), (pc = 25 ∨ pc = 33) ∧ ((v = 1 ∧ EqC A B) ∨ (v = 0 ∧ ¬ EqC A B)) ∧ Steps p.tables e below (s₁.setTop (entryFrame m #[.ref a, .ref b] 3)) (s₁.setTop (mkF m pc Ls [.int v])) := by
      intro r
      induction r with
      | zero =>
        intro i hi he cl
        exact ⟨33, _, 1, Or.inr rfl, Or.inl ⟨rfl, hs, fun j hj => he j (by omega)⟩, cl.trans (by
          refine XS.iloadN X0.here hexec rfl (hb hbytes d9) rfl ?_
          refine XS.aloadN X0.here hexec rfl (hb hbytes d10) rfl rfl ?_
          refine X0.alen hexec hA0 rfl rfl (hb hbytes d11) ?_
          refine XS.icmpYes X0.here hexec rfl (pc0 := 12) rfl (hb hbytes d12) rfl (ii_ge_t (nlt32 (by omega) (by omega))) (by decide) rfl ?_
          refine iconstV X0.here hexec rfl 1 (hb hbytes d32) (by decide) ?_
          exact Steps.refl _)⟩
      | succ r ih =>
        intro i hi he cl
        have c4 : Steps p.tables e below (s₁.setTop (entryFrame m #[.ref a, .ref b] 3)) (s₁.setTop (mkF m 21 #[.val (.ref a), .val (.ref b), .val (.int (Int32.ofNat i))] [.int (yv B i), .int (yv A i)])) := cl.trans (by
          refine XS.iloadN X0.here hexec rfl (hb hbytes d9) rfl ?_
          refine XS.aloadN X0.here hexec rfl (hb hbytes d10) rfl rfl ?_
          refine X0.alen hexec hA0 rfl rfl (hb hbytes d11) ?_
          refine XS.icmpNo X0.here hexec rfl (hb hbytes d12) rfl (ii_ge_f (lt32 (by omega) (by omega))) ?_
          refine XS.aloadN X0.here hexec rfl (hb hbytes d15) rfl rfl ?_
          refine XS.iloadN X0.here hexec rfl (hb hbytes d16) rfl ?_
          refine X0.aget hexec hA0 rfl (yv_get hA tA (i := i) (by omega)) rfl rfl (hb hbytes d17) ?_
          refine XS.aloadN X0.here hexec rfl (hb hbytes d18) rfl rfl ?_
          refine XS.iloadN X0.here hexec rfl (hb hbytes d19) rfl ?_
          refine X0.aget hexec hB0 rfl (yv_get hB tB (i := i) (by omega)) rfl rfl (hb hbytes d20) ?_
          exact Steps.refl _)
        by_cases hv : yv A i = yv B i
        · have c5 : Steps p.tables e below (s₁.setTop (entryFrame m #[.ref a, .ref b] 3)) (s₁.setTop (mkF m 9 #[.val (.ref a), .val (.ref b), .val (.int (Int32.ofNat i + 1))] [])) := c4.trans (by
            refine XS.icmpYes X0.here hexec rfl (pc0 := 21) rfl (hb hbytes d21) rfl (ii_eq_t hv) (by decide) rfl ?_
            refine iincV X0.here hexec rfl 1 (hb hbytes d26) (by decide) rfl rfl ?_
            refine XS.goto X0.here hexec rfl (pc0 := 29) rfl (hb hbytes d29) (by decide) rfl ?_
            exact Steps.refl _)
          rw [succ32] at c5
          exact ih (i + 1) (by omega) (fun j hj => by
            by_cases e : j = i
            · rw [e]; exact hv
            · exact he j (by omega)) c5
        · exact ⟨25, _, 0, Or.inl rfl, Or.inr ⟨rfl, fun q => hv (q.2 i (by omega))⟩, c4.trans (by
            refine XS.icmpNo X0.here hexec rfl (hb hbytes d21) rfl (ii_eq_f hv) ?_
            refine iconstV X0.here hexec rfl 0 (hb hbytes d24) (by decide) ?_
            exact Steps.refl _)⟩
    obtain ⟨pc, Ls, v, hpc, hv, cz⟩ := loop A.slots.size 0 (by omega) (fun j hj => absurd hj (Nat.not_lt_zero j)) c3
    have nv : narrow .boolean (.int v) = .int v := by rcases hv with ⟨rfl, -⟩ | ⟨rfl, -⟩ <;> rfl
    rcases hpc with rfl | rfl
    · exact ⟨s₁, some (.int v), _, _, _, X0, rfl, rfl, rfl, (fun h => by cases h), ⟨v, rfl, hh0, hv⟩, fun fs hl => cz.trans (X0.ireturnOut hexec hret nv (Or.inr (Or.inl rfl)) (hb hbytes d25) hl)⟩
    · exact ⟨s₁, some (.int v), _, _, _, X0, rfl, rfl, rfl, (fun h => by cases h), ⟨v, rfl, hh0, hv⟩, fun fs hl => cz.trans (X0.ireturnOut hexec hret nv (Or.inr (Or.inl rfl)) (hb hbytes d33) hl)⟩
  · have c3 : Steps p.tables e below (s₁.setTop (entryFrame m #[.ref a, .ref b] 3)) (s₁.setTop (mkF m 35 #[.val (.ref a), .val (.ref b), .unset] [.int 0])) := c2.trans (by
      refine XS.icmpYes X0.here hexec rfl (pc0 := 4) rfl (hb hbytes d4) rfl (ii_ne_t (ne32 a31 b31 hs)) (by decide) rfl ?_
      refine iconstV X0.here hexec rfl 0 (hb hbytes d34) (by decide) ?_
      exact Steps.refl _)
    exact ⟨s₁, some (.int 0), _, _, _, X0, rfl, rfl, rfl, (fun h => by cases h), ⟨0, rfl, hh0, Or.inr ⟨rfl, fun q => hs q.1⟩⟩, fun fs hl => c3.trans (X0.ireturnOut hexec hret rfl (Or.inr (Or.inl rfl)) (hb hbytes d35) hl)⟩
end LEq
theorem Cod.ty {cd : Int32} {n : Nat} {f : Nat → Int32} {V : Cell} (h : Cod cd n f V) : Typed .byte V := fun i v hv => by
  have hi : i < V.slots.size := (Array.getElem?_eq_some_iff.mp hv).1
  rcases h with ⟨-, k1, k2⟩ | ⟨-, k1, k2, -⟩
  · rw [(k2 i (by omega)).1] at hv; cases hv; exact fits_lo8 _
  · rcases Nat.mod_two_eq_zero_or_one i with e | e
    · obtain ⟨j, rfl⟩ : ∃ j, i = 2 * j := ⟨i / 2, by omega⟩
      rw [(k2 j (by omega)).1] at hv; cases hv; exact fits_lo8 _
    · obtain ⟨j, rfl⟩ : ∃ j, i = 2 * j + 1 := ⟨i / 2, by omega⟩
      rw [(k2 j (by omega)).2] at hv; cases hv; exact fits_lo8 _
/-- the same text -/
def SameT (n : Nat) (f : Nat → Int32) (k : Nat) (g : Nat → Int32) : Prop := n = k ∧ ∀ j, j < n → f j = g j
theorem lo8_inj {x y : Int32} (h0 : ¬ x < 0) (h1 : ¬ 255 < x) (k0 : ¬ y < 0) (k1 : ¬ 255 < y) (h : lo8 x = lo8 y) : x = y := by
  rw [← lo8_mask h0 h1, ← lo8_mask k0 k1, h]
/-- arrays coded by one coder are equal just where the texts are -/
theorem Cod.eqv {cd : Int32} {n k : Nat} {f g : Nat → Int32} {V V' : Cell} (h : Cod cd n f V) (h' : Cod cd k g V') (hf : ∀ j, j < n → ¬ f j < 0 ∧ ¬ 65535 < f j) (hg : ∀ j, j < k → ¬ g j < 0 ∧ ¬ 65535 < g j) : EqC V V' ↔ SameT n f k g := by
  have yvv : ∀ {W : Cell} {i : Nat} {x : Int32}, W.slots[i]? = some (.int x) → yv W i = x := fun q => by unfold yv; rw [q]
  rcases h with ⟨rfl, k1, k2⟩ | ⟨rfl, k1, k2, -⟩
  · rcases h' with ⟨-, m1, m2⟩ | ⟨e, -⟩
    · constructor
      · rintro ⟨e1, e2⟩
        refine ⟨by omega, fun j hj => ?_⟩
        have q := e2 j (by omega)
        rw [yvv (k2 j hj).1, yvv (m2 j (by omega)).1] at q
        exact lo8_inj (hf j hj).1 (k2 j hj).2 (hg j (by omega)).1 (m2 j (by omega)).2 q
      · rintro ⟨rfl, e2⟩
        refine ⟨by omega, fun j hj => ?_⟩
        rw [yvv (k2 j (by omega)).1, yvv (m2 j (by omega)).1, e2 j (by omega)]
    · exact absurd e (by decide)
  · rcases h' with ⟨e, -⟩ | ⟨-, m1, m2, -⟩
    · exact absurd e (by decide)
    · constructor
      · rintro ⟨e1, e2⟩
        refine ⟨by omega, fun j hj => ?_⟩
        have q1 := e2 (2 * j) (by omega)
        have q2 := e2 (2 * j + 1) (by omega)
        rw [yvv (k2 j hj).1, yvv (m2 j (by omega)).1] at q1
        rw [yvv (k2 j hj).2, yvv (m2 j (by omega)).2] at q2
        rw [← pair_says (hf j hj).1 (hf j hj).2, ← pair_says (hg j (by omega)).1 (hg j (by omega)).2, q1, q2]
      · rintro ⟨rfl, e2⟩
        refine ⟨by omega, fun i hi => ?_⟩
        rcases Nat.mod_two_eq_zero_or_one i with e | e
        · obtain ⟨j, rfl⟩ : ∃ j, i = 2 * j := ⟨i / 2, by omega⟩
          rw [yvv (k2 j (by omega)).1, yvv (m2 j (by omega)).1, e2 j (by omega)]
        · obtain ⟨j, rfl⟩ : ∃ j, i = 2 * j + 1 := ⟨i / 2, by omega⟩
          rw [yvv (k2 j (by omega)).2, yvv (m2 j (by omega)).2, e2 j (by omega)]
/-- two codings differ: so do the texts -/
theorem Cod.dif {cd cd' : Int32} {n k : Nat} {f g : Nat → Int32} {V V' : Cell} (h : Cod cd n f V) (h' : Cod cd' k g V') (hne : ¬ cd = cd') : ¬ SameT n f k g := by
  rintro ⟨rfl, e⟩
  rcases h with ⟨rfl, -, k2⟩ | ⟨rfl, -, -, j, hj, hw⟩
  · rcases h' with ⟨rfl, -⟩ | ⟨-, -, -, j, hj, hw⟩
    · exact hne rfl
    · exact (k2 j hj).2 (by rw [e j hj]; exact hw)
  · rcases h' with ⟨-, -, m2⟩ | ⟨rfl, -⟩
    · exact (m2 j hj).2 (by rw [← e j hj]; exact hw)
    · exact hne rfl
/-- an object of exactly C is an instance of C -/
theorem cinst {p : Program} {l : Launch} {e : Env} {R : Room} {s : State} {m : MethodId} {args : Array Value} {below : List Frame} {meth : Method} {c : Code} {T : State} {locs : List Loc} {cells slots : Nat} (X : Stand p l e R s m args below meth c T locs cells slots) (hexec : p.tables.exec = Jvm.exec) {own C : String} {index : Nat} (hown : s.vm.findClass own = some m.cls) (hlink : (Cond.classLink own index C).before args s = true) {a : Addr} (hE : Exact C a T)
    {g : JFrame} (hg : g.method = m) {rest : List Value} (hstack : g.stack = .ref a :: rest) (hdg : decode c.code g.pc = .ok (.instanceof index, 3)) :
    ∃ T', Stand p l e R s m args below meth c T' locs cells slots ∧ T'.heap = T.heap ∧ ∀ target, Steps p.tables e below (T'.setTop { g with pc := g.pc + 3, stack := .int 1 :: rest }) target → Steps p.tables e below (T.setTop g) target := by
  obtain ⟨cB, h1, D, h2, h3, h4⟩ := hE
  have h1' : s.vm.findClass C = some cB := by rw [← X.warmed.alike.findClass]; exact h1
  obtain ⟨vm', X', st⟩ := X.instanceofYes hexec hown hlink h2 h4 h1' (by rw [h3]; exact Jvm.Free.SB.assignable_self _ _) hg hstack hdg
  exact ⟨_, X', rfl, st⟩
theorem cself {p : Program} {l : Launch} {e : Env} {R : Room} {s : State} {m : MethodId} {args : Array Value} {below : List Frame} {meth : Method} {c : Code} {T : State} {locs : List Loc} {cells slots : Nat} (X : Stand p l e R s m args below meth c T locs cells slots) (hexec : p.tables.exec = Jvm.exec) {own C : String} {index : Nat} (hown : s.vm.findClass own = some m.cls) (hlink : (Cond.classLink own index C).before args s = true) {a : Addr} (hE : Exact C a T)
    {g : JFrame} (hg : g.method = m) {rest : List Value} (hstack : g.stack = .ref a :: rest) (hdg : decode c.code g.pc = .ok (.checkcast index, 3)) :
    ∃ T', Stand p l e R s m args below meth c T' locs cells slots ∧ T'.heap = T.heap ∧ ∀ target, Steps p.tables e below (T'.setTop { g with pc := g.pc + 3, stack := .ref a :: rest }) target → Steps p.tables e below (T.setTop g) target := by
  obtain ⟨cB, h1, D, h2, h3, h4⟩ := hE
  have h1' : s.vm.findClass C = some cB := by rw [← X.warmed.alike.findClass]; exact h1
  obtain ⟨vm', X', st⟩ := X.checkcastYes hexec hown hlink h2 h4 h1' (by rw [h3]; exact Jvm.Free.SB.assignable_self _ _) hg hstack hdg
  exact ⟨_, X', rfl, fun t h => st t (by rw [← hstack] at h; exact h)⟩
namespace SEq
def yN : MethodName := ⟨"java/lang/String", "equals", "(Ljava/lang/Object;)Z"⟩
abbrev yB : ByteArray := jdk_42_method_66_code
theorem d0 : decode yB 0 = .ok (.aload_n 0, 1) := by decide +kernel
theorem d1 : decode yB 1 = .ok (.aload_n 1, 1) := by decide +kernel
theorem d2 : decode yB 2 = .ok (.if_acmp (.ne) 5, 3) := by decide +kernel
theorem d5 : decode yB 5 = .ok (.iconst 1, 1) := by decide +kernel
theorem d6 : decode yB 6 = .ok (.ireturn, 1) := by decide +kernel
theorem d7 : decode yB 7 = .ok (.aload_n 1, 1) := by decide +kernel
theorem d8 : decode yB 8 = .ok (.instanceof 10, 3) := by decide +kernel
theorem d11 : decode yB 11 = .ok (.ifCond (.eq) 43, 3) := by decide +kernel
theorem d14 : decode yB 14 = .ok (.aload_n 1, 1) := by decide +kernel
theorem d15 : decode yB 15 = .ok (.checkcast 10, 3) := by decide +kernel
theorem d18 : decode yB 18 = .ok (.astore_n 2, 1) := by decide +kernel
theorem d19 : decode yB 19 = .ok (.getstatic 38, 3) := by decide +kernel
theorem d22 : decode yB 22 = .ok (.ifCond (.eq) 14, 3) := by decide +kernel
theorem d25 : decode yB 25 = .ok (.aload_n 0, 1) := by decide +kernel
theorem d26 : decode yB 26 = .ok (.getfield 15, 3) := by decide +kernel
theorem d29 : decode yB 29 = .ok (.aload_n 2, 1) := by decide +kernel
theorem d30 : decode yB 30 = .ok (.getfield 15, 3) := by decide +kernel
theorem d33 : decode yB 33 = .ok (.if_icmp (.ne) 21, 3) := by decide +kernel
theorem d36 : decode yB 36 = .ok (.aload_n 0, 1) := by decide +kernel
theorem d37 : decode yB 37 = .ok (.getfield 9, 3) := by decide +kernel
theorem d40 : decode yB 40 = .ok (.aload_n 2, 1) := by decide +kernel
theorem d41 : decode yB 41 = .ok (.getfield 9, 3) := by decide +kernel
theorem d44 : decode yB 44 = .ok (.invokestatic 541, 3) := by decide +kernel
theorem d47 : decode yB 47 = .ok (.ifCond (.eq) 7, 3) := by decide +kernel
theorem d50 : decode yB 50 = .ok (.iconst 1, 1) := by decide +kernel
theorem d51 : decode yB 51 = .ok (.goto 4, 3) := by decide +kernel
theorem d54 : decode yB 54 = .ok (.iconst 0, 1) := by decide +kernel
theorem d55 : decode yB 55 = .ok (.ireturn, 1) := by decide +kernel
def site : List Cond := [.classLink "java/lang/String" 10 "java/lang/String", .fieldLink "java/lang/String" 38 "java/lang/String" "COMPACT_STRINGS" "Z", .fieldLink "java/lang/String" 15 "java/lang/String" "coder" "B", .fieldLink "java/lang/String" 9 "java/lang/String" "value" "[B", LEq.tab] ++ staticW "java/lang/String" 541 LEq.yN
def tab : Cond := tabOf yN yB 3 (some .boolean) site
def P (x t : Addr) (V : Cell) (cd : Int32) (n : Nat) (f : Nat → Int32) (y t' : Addr) (V' : Cell) (cd' : Int32) (k : Nat) (g : Nat → Int32) (z : Int32) (args : Array Value) (s : State) : Prop := args = #[.ref x, .ref y] ∧ Txt x t V cd n f s ∧ Txt y t' V' cd' k g s ∧ StaticIs s "java/lang/String" "COMPACT_STRINGS" "Z" (.int z) ∧ ¬ z = 0
/-- equals(Object) of two Strings: whether the texts are the same -/
theorem law (l : Launch) (x t : Addr) (V : Cell) (cd : Int32) (n : Nat) (f : Nat → Int32) (y t' : Addr) (V' : Cell) (cd' : Int32) (k : Nat) (g : Nat → Int32) (z : Int32) : Law l yN 2 1 1 14 yB 3 (some .boolean) site (P x t V cd n f y t' V' cd' k g z) (Says01 (SameT n f k g)) [] 0 0 := by
  refine Law.of_walk (plainFor_of_name (by decide +kernel)) (by decide +kernel) (by decide +kernel) (by decide) (fun _ _ h => by rw [h.1]; rfl) (fun _ U U' hal hh h => ⟨h.1, h.2.1.mv hal hh, h.2.2.1.mv hal hh, h.2.2.2.1.there hal hh, h.2.2.2.2⟩) (fun r U U' V V' h1 hal h2 h => Says01.mv r U U' V V' h1 hal h2 h) ?_
  intro p e s m args below meth c s₁ X0 hexec hbytes hml hret hlk hnm hown hh0 W hP
  obtain ⟨rfl, hx, hy, s1, hz⟩ := hP
  have c1 : Steps p.tables e below (s₁.setTop (entryFrame m #[.ref x, .ref y] 3)) (s₁.setTop (mkF m 2 #[.val (.ref x), .val (.ref y), .unset] [.ref y, .ref x])) := Steps.trans (entry rfl) (by
    show Steps p.tables e below (s₁.setTop (mkF m 0 #[.val (.ref x), .val (.ref y), .unset] [])) _
    refine XS.aloadN X0.here hexec rfl (hb hbytes d0) rfl rfl ?_
    refine XS.aloadN X0.here hexec rfl (hb hbytes d1) rfl rfl ?_
    exact Steps.refl _)
  by_cases hxy : x = y
  · have c2 : Steps p.tables e below (s₁.setTop (entryFrame m #[.ref x, .ref y] 3)) (s₁.setTop (mkF m 6 #[.val (.ref x), .val (.ref y), .unset] [.int 1])) := c1.trans (by
      refine acmpNo X0.here hexec rfl (hb hbytes d2) rfl rfl rfl (by simp [acmp, hxy]) ?_
      refine iconstV X0.here hexec rfl 1 (hb hbytes d5) (by decide) ?_
      exact Steps.refl _)
    subst hxy
    have ec : cd = cd' := by
      obtain ⟨D, fd, a1, a2, a3⟩ := hx.2.2.1
      obtain ⟨D', fd', b1, b2, b3⟩ := hy.2.2.1
      cases a1.symm.trans b1
      obtain ⟨q1, q2, q3, q4⟩ := a2.1
      obtain ⟨r1, r2, r3, r4⟩ := b2.1
      cases q4.symm.trans r4
      cases a3.symm.trans b3; rfl
    have et : t = t' := by
      obtain ⟨D, fd, a1, a2, a3⟩ := hx.2.1
      obtain ⟨D', fd', b1, b2, b3⟩ := hy.2.1
      cases a1.symm.trans b1
      obtain ⟨q1, q2, q3, q4⟩ := a2.1
      obtain ⟨r1, r2, r3, r4⟩ := b2.1
      cases q4.symm.trans r4
      cases a3.symm.trans b3; rfl
    subst ec et
    have ev : V = V' := by cases hx.2.2.2.1.1.symm.trans hy.2.2.2.1.1; rfl
    subst ev
    have hs : SameT n f k g := (Cod.eqv hx.2.2.2.2.1 hy.2.2.2.2.1 hx.2.2.2.2.2 hy.2.2.2.2.2).mp ⟨rfl, fun _ _ => rfl⟩
    exact ⟨s₁, some (.int 1), _, _, _, X0, rfl, rfl, rfl, (fun h => by cases h), ⟨1, rfl, hh0, Or.inl ⟨rfl, hs⟩⟩, fun fs hl => c2.trans (X0.ireturnOut hexec hret rfl (Or.inr (Or.inl rfl)) (hb hbytes d6) hl)⟩
  · have c2 : Steps p.tables e below (s₁.setTop (entryFrame m #[.ref x, .ref y] 3)) (s₁.setTop (mkF m 8 #[.val (.ref x), .val (.ref y), .unset] [.ref y])) := c1.trans (by
      refine acmpYes X0.here hexec rfl (pc0 := 2) rfl (hb hbytes d2) rfl rfl rfl (by simp [acmp, hxy]) (by decide) rfl ?_
      refine XS.aloadN X0.here hexec rfl (hb hbytes d7) rfl rfl ?_
      exact Steps.refl _)
    obtain ⟨T3, X3, q3, st3⟩ := cinst X0 hexec hown (wk W (.classLink "java/lang/String" 10 "java/lang/String")) (hy.mv X0.warmed.alike hh0).1 (g := (mkF m 8 #[.val (.ref x), .val (.ref y), .unset] [.ref y])) rfl (rest := []) rfl (hb hbytes d8)
    have hh3 := q3.trans hh0
    have c4 : Steps p.tables e below (s₁.setTop (entryFrame m #[.ref x, .ref y] 3)) (T3.setTop (mkF m 15 #[.val (.ref x), .val (.ref y), .unset] [.ref y])) := (c2.trans (st3 _ (Steps.refl _))).trans (by
      refine XS.ifNo X3.here hexec rfl (hb hbytes d11) rfl (i0_eq_f (by decide)) ?_
      refine XS.aloadN X3.here hexec rfl (hb hbytes d14) rfl rfl ?_
      exact Steps.refl _)
    obtain ⟨T5, X5, q5, st5⟩ := cself X3 hexec hown (wk W (.classLink "java/lang/String" 10 "java/lang/String")) (hy.mv X3.warmed.alike hh3).1 (g := (mkF m 15 #[.val (.ref x), .val (.ref y), .unset] [.ref y])) rfl (rest := []) rfl (hb hbytes d15)
    have hh5 := q5.trans hh3
    have c6 : Steps p.tables e below (s₁.setTop (entryFrame m #[.ref x, .ref y] 3)) (T5.setTop (mkF m 19 #[.val (.ref x), .val (.ref y), .val (.ref y)] [])) := (c4.trans (st5 _ (Steps.refl _))).trans (by
      refine XS.astoreN X5.here hexec rfl (hb hbytes d18) rfl rfl rfl ?_
      exact Steps.refl _)
    obtain ⟨T7, X7, q7, st7⟩ := X5.sget hexec hown (wk W (.fieldLink "java/lang/String" 38 "java/lang/String" "COMPACT_STRINGS" "Z")) s1 (fun _ _ h => by rw [hh5]; exact h) (g := (mkF m 19 #[.val (.ref x), .val (.ref y), .val (.ref y)] [])) rfl (hb hbytes d19)
    have hh7 := q7.trans hh5
    have c8 : Steps p.tables e below (s₁.setTop (entryFrame m #[.ref x, .ref y] 3)) (T7.setTop (mkF m 26 #[.val (.ref x), .val (.ref y), .val (.ref y)] [.ref x])) := (c6.trans (st7 _ (Steps.refl _))).trans (by
      refine XS.ifNo X7.here hexec rfl (hb hbytes d22) rfl (i0_eq_f hz) ?_
      refine XS.aloadN X7.here hexec rfl (hb hbytes d25) rfl rfl ?_
      exact Steps.refl _)
    obtain ⟨T9, X9, q9, st9⟩ := X7.hget hexec hown (wk W (.fieldLink "java/lang/String" 15 "java/lang/String" "coder" "B")) (hx.mv X7.warmed.alike hh7).2.2.1 (g := (mkF m 26 #[.val (.ref x), .val (.ref y), .val (.ref y)] [.ref x])) rfl (rest := []) rfl (hb hbytes d26)
    have hh9 := q9.trans hh7
    have c10 : Steps p.tables e below (s₁.setTop (entryFrame m #[.ref x, .ref y] 3)) (T9.setTop (mkF m 30 #[.val (.ref x), .val (.ref y), .val (.ref y)] [.ref y, .int cd])) := (c8.trans (st9 _ (Steps.refl _))).trans (by
      refine XS.aloadN X9.here hexec rfl (hb hbytes d29) rfl rfl ?_
      exact Steps.refl _)
    obtain ⟨T11, X11, q11, st11⟩ := X9.hget hexec hown (wk W (.fieldLink "java/lang/String" 15 "java/lang/String" "coder" "B")) (hy.mv X9.warmed.alike hh9).2.2.1 (g := (mkF m 30 #[.val (.ref x), .val (.ref y), .val (.ref y)] [.ref y, .int cd])) rfl (rest := [.int cd]) rfl (hb hbytes d30)
    have hh11 := q11.trans hh9
    have c12 : Steps p.tables e below (s₁.setTop (entryFrame m #[.ref x, .ref y] 3)) (T11.setTop (mkF m 33 #[.val (.ref x), .val (.ref y), .val (.ref y)] [.int cd', .int cd])) := c10.trans (st11 _ (Steps.refl _))
    by_cases hcd : cd = cd'
    · subst hcd
      have c13 : Steps p.tables e below (s₁.setTop (entryFrame m #[.ref x, .ref y] 3)) (T11.setTop (mkF m 37 #[.val (.ref x), .val (.ref y), .val (.ref y)] [.ref x])) := c12.trans (by
        refine XS.icmpNo X11.here hexec rfl (hb hbytes d33) rfl (ii_ne_f rfl) ?_
        refine XS.aloadN X11.here hexec rfl (hb hbytes d36) rfl rfl ?_
        exact Steps.refl _)
      obtain ⟨T14, X14, q14, st14⟩ := X11.hget hexec hown (wk W (.fieldLink "java/lang/String" 9 "java/lang/String" "value" "[B")) (hx.mv X11.warmed.alike hh11).2.1 (g := (mkF m 37 #[.val (.ref x), .val (.ref y), .val (.ref y)] [.ref x])) rfl (rest := []) rfl (hb hbytes d37)
      have hh14 := q14.trans hh11
      have c15 : Steps p.tables e below (s₁.setTop (entryFrame m #[.ref x, .ref y] 3)) (T14.setTop (mkF m 41 #[.val (.ref x), .val (.ref y), .val (.ref y)] [.ref y, .ref t])) := (c13.trans (st14 _ (Steps.refl _))).trans (by
        refine XS.aloadN X14.here hexec rfl (hb hbytes d40) rfl rfl ?_
        exact Steps.refl _)
      obtain ⟨T16, X16, q16, st16⟩ := X14.hget hexec hown (wk W (.fieldLink "java/lang/String" 9 "java/lang/String" "value" "[B")) (hy.mv X14.warmed.alike hh14).2.1 (g := (mkF m 41 #[.val (.ref x), .val (.ref y), .val (.ref y)] [.ref y, .ref t])) rfl (rest := [.ref t]) rfl (hb hbytes d41)
      have hh16 := q16.trans hh14
      have c17 : Steps p.tables e below (s₁.setTop (entryFrame m #[.ref x, .ref y] 3)) (T16.setTop (mkF m 44 #[.val (.ref x), .val (.ref y), .val (.ref y)] [.ref t', .ref t])) := c15.trans (st16 _ (Steps.refl _))
      obtain ⟨v18, T18, X18, E18, g18⟩ := X16.callS hexec (LEq.law l t V t' V') hown (wks W (staticW "java/lang/String" 541 LEq.yN)) (wk W LEq.tab) (W := 0) (Nat.le_of_ble_eq_true rfl) (Nat.le_of_ble_eq_true rfl) (Nat.le_refl _) (Nat.le_refl _) (g := (mkF m 44 #[.val (.ref x), .val (.ref y), .val (.ref y)] [.ref t', .ref t])) rfl (by rw [hml]; rfl) c17 (argsL := [.ref t, .ref t']) (rest := []) rfl rfl (by show 2 * 0 + 0 ≤ _; decide) (hb hbytes d44) (⟨rfl, hx.2.2.2.1.mv X16.warmed.alike hh16, hx.2.2.2.2.1.ty, hy.2.2.2.1.mv X16.warmed.alike hh16, hy.2.2.2.2.1.ty⟩)
      obtain ⟨v, rfl, q18, hv⟩ := E18
      have iff := Cod.eqv hx.2.2.2.2.1 hy.2.2.2.2.1 hx.2.2.2.2.2 hy.2.2.2.2.2
      rcases hv with ⟨rfl, he⟩ | ⟨rfl, he⟩
      · have c19 : Steps p.tables e below (s₁.setTop (entryFrame m #[.ref x, .ref y] 3)) (T18.setTop (mkF m 55 #[.val (.ref x), .val (.ref y), .val (.ref y)] [.int 1])) := Steps.trans g18 (by
          refine XS.ifNo X18.here hexec rfl (hb hbytes d47) rfl (i0_eq_f (by decide)) ?_
          refine iconstV X18.here hexec rfl 1 (hb hbytes d50) (by decide) ?_
          refine XS.goto X18.here hexec rfl (pc0 := 51) rfl (hb hbytes d51) (by decide) rfl ?_
          exact Steps.refl _)
        exact ⟨T18, some (.int 1), _, _, _, X18, rfl, rfl, rfl, (fun h => by cases h), ⟨1, rfl, q18.trans hh16, Or.inl ⟨rfl, iff.mp he⟩⟩, fun fs hl => c19.trans (X18.ireturnOut hexec hret rfl (Or.inr (Or.inl rfl)) (hb hbytes d55) hl)⟩
      · have c19 : Steps p.tables e below (s₁.setTop (entryFrame m #[.ref x, .ref y] 3)) (T18.setTop (mkF m 55 #[.val (.ref x), .val (.ref y), .val (.ref y)] [.int 0])) := Steps.trans g18 (by
          refine XS.ifYes X18.here hexec rfl (pc0 := 47) rfl (hb hbytes d47) rfl (i0_eq_t rfl) (by decide) rfl ?_
          refine iconstV X18.here hexec rfl 0 (hb hbytes d54) (by decide) ?_
          exact Steps.refl _)
        exact ⟨T18, some (.int 0), _, _, _, X18, rfl, rfl, rfl, (fun h => by cases h), ⟨0, rfl, q18.trans hh16, Or.inr ⟨rfl, fun q => he (iff.mpr q)⟩⟩, fun fs hl => c19.trans (X18.ireturnOut hexec hret rfl (Or.inr (Or.inl rfl)) (hb hbytes d55) hl)⟩
    · have c13 : Steps p.tables e below (s₁.setTop (entryFrame m #[.ref x, .ref y] 3)) (T11.setTop (mkF m 55 #[.val (.ref x), .val (.ref y), .val (.ref y)] [.int 0])) := c12.trans (by
        refine XS.icmpYes X11.here hexec rfl (pc0 := 33) rfl (hb hbytes d33) rfl (ii_ne_t hcd) (by decide) rfl ?_
        refine iconstV X11.here hexec rfl 0 (hb hbytes d54) (by decide) ?_
        exact Steps.refl _)
      exact ⟨T11, some (.int 0), _, _, _, X11, rfl, rfl, rfl, (fun h => by cases h), ⟨0, rfl, hh11, Or.inr ⟨rfl, Cod.dif hx.2.2.2.2.1 hy.2.2.2.2.1 hcd⟩⟩, fun fs hl => c13.trans (X11.ireturnOut hexec hret rfl (Or.inr (Or.inl rfl)) (hb hbytes d55) hl)⟩
theorem pays {l : Launch} {R : Room} {p : Program} {e : Env} {below : List Frame} {s : State} {sargs : Array Value} {len W : Nat} (x t : Addr) (V : Cell) (cd : Int32) (n : Nat) (f : Nat → Int32) (y t' : Addr) (V' : Cell) (cd' : Int32) (k : Nat) (g : Nat → Int32) (z : Int32) (htab : tab.before sargs s = true) (hfr : 2 ≤ R.frames) (hlo : W + 28 ≤ R.locals) :
    Back l R p e below s sargs yN len W (fun A₁ a₁ => A₁.cells + 0 ≤ R.cells ∧ A₁.slots + 0 ≤ R.slots ∧ P x t V cd n f y t' V' cd' k g z a₁ A₁.U) (fun A₁ _ v₁ B₁ => Says01 (SameT n f k g) v₁ A₁.U B₁.U ∧ B₁.locs = A₁.locs ++ [] ∧ B₁.cells = A₁.cells + 0 ∧ B₁.slots = A₁.slots + 0) :=
  (law l x t V cd n f y t' V' cd' k g z).pays htab hfr (by omega)
end SEq
end StrChars
namespace StrChars.Road
open Jvm Sem ClassFile Op Lib Jvm.Stand Jvm.Free Jvm.Free.XT
open Jvm.Lib.Cold (StaticIs)
/-- the words of String.equals(Object) -/
abbrev wordsEq : List Jvm.Cond := [.code SEq.yN SEq.yB 3 (some .boolean), .initialized ST, .classLink ST 10 ST, .fieldLink ST 38 ST "COMPACT_STRINGS" "Z", .fieldLink ST 15 ST "coder" "B", .fieldLink ST 9 ST "value" "[B", .methodLink ST 541 LEq.yN, .static LEq.yN, .code LEq.yN LEq.yB 3 (some .boolean), .initialized "java/lang/StringLatin1"]
theorem tabEq_of {a : Array Value} {s : State} (h : ∀ w ∈ wordsEq, w.before a s = true) : SEq.tab.before a s = true := by
  have hl : LEq.tab.before a s = true := unparts (wk h (.code LEq.yN LEq.yB 3 (some .boolean))) (wks h (.initialized LEq.yN.cls :: LEq.site))
  have q := consq hl h
  exact unparts (wk q (.code SEq.yN SEq.yB 3 (some .boolean))) (wks q (.initialized SEq.yN.cls :: SEq.site))
theorem movedEq {Z s : State} {a0 args : Array Value} (hZ : Z.Warmed39 s.vm) (hw : ∀ d ∈ wordsEq, d.before a0 Z = true) : ∀ d ∈ wordsEq, d.before args s = true := fun d hd => by
  have t : ∀ d ∈ wordsEq, (d.onTables && d.keepsFace) = true := by decide +kernel
  exact RoadKit.mv hZ (hw d hd) (t d hd)
/-- the road's facts of a String, as the laws ask it -/
theorem txt_of {Z U : State} {a0 : Array Value} {kI : Nat} (wi : (Jvm.Cond.instantiable ST kI).before a0 Z = true) (al : Z.vm.Alike U.vm) {x t : Addr} {kb : ClassId} {cs : List Int32} {cd N2 : Int32} {vs : List Value} (E : RoadKit.Exa Z U.heap x ST) (V : RoadKit.Fld Z U.heap x ST "value" "[B" (.ref t)) (C : RoadKit.Fld Z U.heap x ST "coder" "B" (.int cd)) (K : RoadKit.Arv Z U.heap t kb .byte N2 vs (.int 0)) (hc : CodA cs cd N2 vs) (hb : ∀ c ∈ cs, ¬ c < 0 ∧ ¬ (65535 : Int32) < c) (l2 : cs.length ≤ 4000) :
    ∃ A, Txt x t A cd cs.length (fun j => cs.getD j 0) U := by
  obtain ⟨A, K1, K2, K3, K4, K5, K6⟩ := K
  have hcod := hc.cod (by omega) K3 K5
  obtain ⟨D, fV, fC, hB, F1, F2, g1, g2, -, -⟩ := strObj wi al E V C
  exact ⟨A, ⟨_, hB.2.2.1, D, hB.1, rfl, by cases q : D.vm <;> first | rfl | exact absurd q (hB.2.1.2 _)⟩, Has.of hB F1 g1, Has.of hB F2 g2, ⟨K1.1, State.isArrayOf_alike al K1.2.1, K1.2.2, by rcases hcod with ⟨-, q, -⟩ | ⟨-, q, -⟩ <;> omega⟩, hcod, fun j hj => by
    have e : cs.getD j 0 = cs[j] := by simp [List.getD_eq_getElem?_getD, hj]
    show ¬ cs.getD j 0 < 0 ∧ ¬ 65535 < cs.getD j 0
    rw [e]; exact hb _ (List.getElem_mem _)⟩
theorem same_list (cs ds : List Int32) : SameT cs.length (fun j => cs.getD j 0) ds.length (fun j => ds.getD j 0) ↔ cs = ds := by
  constructor
  · rintro ⟨e, q⟩
    refine List.ext_getElem e fun j h1 h2 => ?_
    have := q j h1
    simpa [List.getD_eq_getElem?_getD, h1, h2] using this
  · rintro rfl
    exact ⟨rfl, fun _ _ => rfl⟩
/-- **equals(Object) OF TWO SUCH STRINGS**: 1 just where the chars are the same -/
theorem eqW {p : Program} {l : Launch} {e : Env} {R : Room} {s : State} {args : Array Value} {below : List Frame} {len W : Nat} {Z : State} {a0 : Array Value} {h : Heap} (hZ : Z.Warmed39 s.vm) (hw : ∀ d ∈ wordsEq, d.before a0 Z = true) {kI : Nat} (wi : (Jvm.Cond.instantiable ST kI).before a0 Z = true)
    {x t : Addr} {kb : ClassId} {cs : List Int32} {cd N2 : Int32} {vs : List Value} (E : RoadKit.Exa Z h x ST) (V : RoadKit.Fld Z h x ST "value" "[B" (.ref t)) (C : RoadKit.Fld Z h x ST "coder" "B" (.int cd)) (K : RoadKit.Arv Z h t kb .byte N2 vs (.int 0)) (hc : CodA cs cd N2 vs) (hb : ∀ c ∈ cs, ¬ c < 0 ∧ ¬ (65535 : Int32) < c) (l2 : cs.length ≤ 4000)
    {y t' : Addr} {kb' : ClassId} {ds : List Int32} {cd' N2' : Int32} {vs' : List Value} (E' : RoadKit.Exa Z h y ST) (V' : RoadKit.Fld Z h y ST "value" "[B" (.ref t')) (C' : RoadKit.Fld Z h y ST "coder" "B" (.int cd')) (K' : RoadKit.Arv Z h t' kb' .byte N2' vs' (.int 0)) (hc' : CodA ds cd' N2' vs') (hb' : ∀ c ∈ ds, ¬ c < 0 ∧ ¬ (65535 : Int32) < c) (l2' : ds.length ≤ 4000)
    {z : Int32} (S : RoadKit.Sta Z h ST "COMPACT_STRINGS" "Z" (.int z)) (hz : ¬ z = 0) (hfr : 2 ≤ R.frames) (hlo : W + 28 ≤ R.locals) :
    Back l R p e below s args (⟨"java/lang/String", "equals", "(Ljava/lang/Object;)Z"⟩ : MethodName) len W (fun P a => a = #[.ref x, .ref y] ∧ P.U.heap = h ∧ P.cells + 0 ≤ R.cells ∧ P.slots + 0 ≤ R.slots)
      (fun P _ v B => ∃ L, (((v = some (.int 1) ∧ cs = ds) ∨ (v = some (.int 0) ∧ ¬ cs = ds)) ∧ L = [] ∧ B.U.heap = h) ∧ B.locs = P.locs ++ L ∧ B.cells = P.cells + 0 ∧ B.slots = P.slots + 0) := by
  intro m meth c P g ig mk a X hg hsize hdg hW hn hp'
  obtain ⟨rfl, rfl, r1, r2⟩ := hp'
  have al : Z.vm.Alike P.U.vm := hZ.alike.trans X.warmed.alike
  obtain ⟨A, hx⟩ := txt_of wi al E V C K hc hb l2
  obtain ⟨A', hy⟩ := txt_of wi al E' V' C' K' hc' hb' l2'
  obtain ⟨v, B, X', ⟨⟨w, hv, hh, hq⟩, hl, hk, hs⟩, st⟩ := SEq.pays x t A cd cs.length (fun j => cs.getD j 0) y t' A' cd' ds.length (fun j => ds.getD j 0) z (tabEq_of (movedEq hZ hw)) hfr hlo m meth c P g ig mk _ X hg hsize hdg hW hn ⟨r1, r2, rfl, hx, hy, sta_is al S, hz⟩
  refine ⟨v, B, X', ⟨[], ⟨?_, rfl, hh⟩, hl, hk, hs⟩, st⟩
  rcases hq with ⟨rfl, q⟩ | ⟨rfl, q⟩
  · exact Or.inl ⟨hv, (same_list cs ds).mp q⟩
  · exact Or.inr ⟨hv, fun e => q ((same_list cs ds).mpr e)⟩
end StrChars.Road
end Jvm.Pilot.@@N@@
namespace Jvm.Pilot.@@N@@
open Jvm Jvm.ClassFile Sem Op Lib Jvm.Free Jvm.Stand Jvm.LawKit Jvm.RoadKit Bundle Jvm.Pilot.@@N@@.Jvm.D
section Own
variable {p : Program} {l : Launch} {e : Env} {R : Room} {s : State} {m : MethodId} {args : Array Value} {below : List Frame} {meth : Method} {c : Code} {T : State} {locs : List Loc} {cells slots : Nat}
/-- from here the method ends as Post says -/
def Wp (p : Program) (e : Env) (below : List Frame) (Post : Outcome → State → Prop) (S : State) : Prop := ∃ s₂ o, Steps p.tables e below S s₂ ∧ s₂.status = .running ∧ Ended s₂ below o ∧ Post o s₂
theorem Wp.goal {Post : Outcome → State → Prop} {S : State} (w : Wp p e below Post S) : ∃ s₂ o, Steps p.tables e below S s₂ ∧ s₂.status = .running ∧ Ended s₂ below o ∧ Post o s₂ := w
theorem Wp.st {Post : Outcome → State → Prop} {S S' : State} (h : ∀ t, Steps p.tables e below S' t → Steps p.tables e below S t) (w : Wp p e below Post S') : Wp p e below Post S := by
  obtain ⟨t, o, h1, h2⟩ := w
  exact ⟨t, o, h t h1, h2⟩
theorem Wp.tr {Post : Outcome → State → Prop} {S S' : State} (h : Steps p.tables e below S S') (w : Wp p e below Post S') : Wp p e below Post S := by
  obtain ⟨t, o, h1, h2⟩ := w
  exact ⟨t, o, h.trans h1, h2⟩
theorem Wp.ret (X : Stand p l e R s m args below meth c T locs cells slots) (hlk : meth.locks = false) {v : Option Value} (hv : meth.sig.returnType = none → v = none) {g : JFrame}
    (hst : ∀ fs, (∀ (f : JFrame) (acts : List Action), f.method = m → f.locked = none → f.entered = [] → (doReturn e (T.setTop f) acts v).1 = T.setFrames fs) → Steps p.tables e below (T.setTop g) (T.setFrames fs))
    {Q : Option Value → Heap → List Loc → Prop} {k n : Nat} (hk : cells ≤ k) (hn : slots ≤ n) (q : Q v T.heap locs) :
    Wp p e below (fun o U' => ∃ v L, o = .returned v ∧ Q v U'.heap L ∧ FrameEnd s o U' L k n) (T.setTop g) := by
  obtain ⟨fs, hr, hrun, hended, hW, hsame⟩ := X.leave (v := v) hv
  exact ⟨_, _, hst fs hr, hrun, hended, v, locs, rfl, q, ⟨v, rfl⟩, hW, hsame.mono hk hn⟩
theorem Wp.retW {vm₁ : Vm} (X : Stand p l e R (s.setVm vm₁) m args below meth c T locs cells slots) (hlk : meth.locks = false) {k0 : Nat} (hS : s.Since vm₁ k0) (hk0 : k0 ≤ T.heap.size) {v : Option Value} (hv : meth.sig.returnType = none → v = none) {g : JFrame}
    (hst : ∀ fs, (∀ (f : JFrame) (acts : List Action), f.method = m → f.locked = none → f.entered = [] → (doReturn e (T.setTop f) acts v).1 = T.setFrames fs) → Steps p.tables e below (T.setTop g) (T.setFrames fs))
    {Q : Option Value → Heap → List Loc → Prop} {k n : Nat} (hk : cells ≤ k) (hn : slots ≤ n) (q : Q v T.heap locs) :
    Wp p e below (fun o U' => ∃ v L, o = .returned v ∧ Q v U'.heap L ∧ ReturnedEndW s o U' L k n) (T.setTop g) := by
  obtain ⟨fs, hr, hrun, hended, ⟨h1, h2, h3, h4⟩⟩ := X.leaveW hS hk0 (v := v) hv
  exact ⟨_, _, hst fs hr, hrun, hended, v, locs, rfl, q, h1, h2, h3, h4.mono hk hn⟩
theorem Wp.retH {vm₁ : Vm} (X : Stand p l e R (s.setVm vm₁) m args below meth c T locs cells slots) (hlk : meth.locks = false) {k0 : Nat} (hS : s.Since vm₁ k0) (hk0 : k0 ≤ T.heap.size) {v : Option Value} (hv : meth.sig.returnType = none → v = none) {g : JFrame}
    (hst : ∀ fs, (∀ (f : JFrame) (acts : List Action), f.method = m → f.locked = none → f.entered = [] → (doReturn e (T.setTop f) acts v).1 = T.setFrames fs) → Steps p.tables e below (T.setTop g) (T.setFrames fs))
    {Q : Option Value → Heap → List Loc → Prop} {Z : State} {EL : List (String × Nat)} {k n : Nat} (hk : cells ≤ k) (hn : slots ≤ n) (q : Q v T.heap locs) (cr : CHr Z EL s.vm s.heap T.vm T.heap) :
    Wp p e below (fun o U' => ∃ v L, o = .returned v ∧ Q v U'.heap L ∧ CHr Z EL s.vm s.heap U'.vm U'.heap ∧ ReturnedEndW s o U' L k n) (T.setTop g) := by
  obtain ⟨fs, hr, hrun, hended, ⟨h1, h2, h3, h4⟩⟩ := X.leaveW hS hk0 (v := v) hv
  exact ⟨_, _, hst fs hr, hrun, hended, v, locs, rfl, q, cr, h1, h2, h3, h4.mono hk hn⟩
theorem own_narZ {q : Int32} (h : nar .boolean q = q) : narrow .boolean (.int q) = .int q := by show Value.int (nar .boolean q) = _; rw [h]
theorem own_fitZ {q : Int32} (h : nar .boolean q = q) : fits .boolean (.int q) = true := by rw [← h]; exact fits_nar_bool q
theorem own_nn {v : Value} (h : v.isRef = true) (h' : ¬ v = .null) : ∃ a, v = .ref a := (ref_cases h).resolve_left h'
theorem own_cat1 {v : Value} (h : v.isRef = true) : v.category = 1 := by rcases ref_cases h with rfl | ⟨a, rfl⟩ <;> rfl
theorem own_iteR {c : Prop} [Decidable c] {v w : Value} (hv : v.isRef = true) (hw : w.isRef = true) : (if c then v else w).isRef = true := by by_cases h : c <;> simp [h, hv, hw]
theorem own_fits {v : Value} {C : String} (h : v.isRef = true) : fits (.object C) v = true := by rcases ref_cases h with rfl | ⟨a, rfl⟩ <;> rfl
theorem own_narrow {v : Value} {C : String} (h : v.isRef = true) : narrow (.object C) v = v := by rcases ref_cases h with rfl | ⟨a, rfl⟩ <;> rfl
end Own
theorem own_ch255 (x : Int32) : ¬ nar .char ((x &&& (255 : Int32)).toUInt32.toUInt16.toUInt32.toInt32) < 0 ∧ ¬ (255 : Int32) < nar .char ((x &&& (255 : Int32)).toUInt32.toUInt16.toUInt32.toInt32) := by
  have t : ∀ k : Fin 256, ¬ nar .char ((Int32.ofNat k.val).toUInt32.toUInt16.toUInt32.toInt32) < 0 ∧ ¬ (255 : Int32) < nar .char ((Int32.ofNat k.val).toUInt32.toUInt16.toUInt32.toInt32) := by decide +kernel
  have h : (x &&& 255).toBitVec.toNat < 256 := by
    simp only [Int32.toBitVec_and, BitVec.toNat_and]
    exact Nat.lt_succ_of_le Nat.and_le_right
  have e : (x &&& 255) = Int32.ofNat (x &&& 255).toBitVec.toNat := by
    apply Int32.toBitVec_inj.mp
    show _ = BitVec.ofNat 32 _
    rw [BitVec.ofNat_toNat]; simp
  rw [e]
  exact t ⟨_, h⟩
def own_bytes (cs : List Int32) : List Value := (cs.map (fun c => c.toInt8.toInt32)).map Value.int
theorem own_cod {cs : List Int32} (hp : ∀ c ∈ cs, ¬ c < 0 ∧ ¬ (255 : Int32) < c) : StrChars.Road.CodA cs 0 (Int32.ofNat cs.length) (own_bytes cs) := Or.inl ⟨rfl, rfl, by unfold own_bytes; rw [List.map_map]; rfl, fun c hc => (hp c hc).2⟩
theorem own_up {cs : List Int32} (h : ∀ c ∈ cs, ¬ c < 0 ∧ ¬ (255 : Int32) < c) : ∀ c ∈ cs, ¬ c < 0 ∧ ¬ (65535 : Int32) < c := fun c hc => ⟨(h c hc).1, fun q => (h c hc).2 (by rw [Int32.lt_iff_toInt_lt] at q ⊢; have e1 : (65535 : Int32).toInt = 65535 := rfl; have e2 : (255 : Int32).toInt = 255 := rfl; omega)⟩
def own_EL : List (String × Nat) := [("java/lang/String", 7)]
theorem own_EW {Z : State} {a0 : Array Value} (hw : ∀ d ∈ tables_1, d.before a0 Z = true) : EW Z a0 own_EL := (EW.cons (hw _ (List.mem_of_getElem? (i := 18) rfl)) (by decide) EW.nil)
theorem own_fld_fun {Z : State} {h : Heap} {a : Addr} {C n d : String} {v w : Value} (F : Fld Z h a C n d v) (G : Fld Z h a C n d w) : v = w := by
  by_cases q : v = w
  · exact q
  · exact absurd rfl (Fld.ne F G q)
theorem own_safe {Z : State} {EL : List (String × Nat)} {vm : Vm} {h : Heap} {x : Addr} {a0 : Array Value} (hal : Z.vm.Alike vm) (E : Exa Z h x "java/lang/String") (F : Fld Z h x "java/lang/String" "value" "[B" .null) (wi : (Jvm.Cond.instantiable "java/lang/String" 4).before a0 Z = true) : Safe Z EL vm h x := fun B => by
  obtain ⟨p, -, u, a, -, q, -, S, hq⟩ := B
  have ha := S.ha
  have hd := S.hd
  obtain ⟨cS, ⟨⟨s1, s2, s3, ⟨c1, k1, i1, f1, f1'⟩, s5, s6, s7, s8, s9, s10, s11, s12, s13, s14, s15, s16⟩, hfS, hcS⟩, -⟩ := S
  rcases hq with rfl | rfl
  · obtain ⟨cell, cf, k, i, f, h1, h2, -, -, -, -, h7⟩ := F
    obtain ⟨k3, e3, -⟩ := State.fieldFound?_setVm (s := Z) hal h2
    have e4 := (show (Z.setVm vm).fieldFound? _ _ _ = _ from f1).symm.trans e3
    simp only [Option.some.injEq, Prod.mk.injEq] at e4
    cases h1.symm.trans ha
    rw [← e4.2.2.2] at h7
    rw [h7] at s8
    cases s8
  · obtain ⟨cell, k, e1, e2, e3, -, -⟩ := E
    cases e1.symm.trans hd
    obtain ⟨c2, k2, i1, i2, i3, -⟩ := Cond.instantiable_spec wi
    cases e2.symm.trans i1
    obtain ⟨-, kk, hk, comp, hkind⟩ := s11
    obtain ⟨k', hk', ek⟩ := hal.2.2 _ _ i2
    cases (show vm.classes[_]? = some kk from hk).symm.trans hk'
    rw [ek, i3] at hkind; cases hkind
theorem own_chr (x : Int32) : nar .char ((x &&& (255 : Int32)).toUInt32.toUInt16.toUInt32.toInt32) = x &&& (255 : Int32) := by
  have t : ∀ k : Fin 256, nar .char ((Int32.ofNat k.val).toUInt32.toUInt16.toUInt32.toInt32) = Int32.ofNat k.val := by decide +kernel
  have h : (x &&& 255).toBitVec.toNat < 256 := by
    simp only [Int32.toBitVec_and, BitVec.toNat_and]
    exact Nat.lt_succ_of_le Nat.and_le_right
  have e : (x &&& 255) = Int32.ofNat (x &&& 255).toBitVec.toNat := by
    apply Int32.toBitVec_inj.mp
    show _ = BitVec.ofNat 32 _
    rw [BitVec.ofNat_toNat]; simp
  rw [e]
  exact t ⟨_, h⟩
theorem own_rng (x : Int32) : ¬ x &&& (255 : Int32) < 0 ∧ ¬ (255 : Int32) < x &&& (255 : Int32) := by
  have q := own_ch255 x
  rw [own_chr] at q; exact q
def own_c0 (x : Int32) : Int32 := (x &&& (255 : Int32))
def own_c1 (x : Int32) : Int32 := (((x).toUInt32 >>> ((8 : Int32) &&& 31).toUInt32).toInt32 &&& (255 : Int32))
def own_c2 (x : Int32) : Int32 := (((x).toUInt32 >>> ((16 : Int32) &&& 31).toUInt32).toInt32 &&& (255 : Int32))
def own_cs (x l : Int32) : List Int32 := if l = (0 : Int32) then [] else if l = (1 : Int32) then [own_c0 x] else if l = (2 : Int32) then [own_c0 x, own_c1 x] else [own_c0 x, own_c1 x, own_c2 x]
theorem own_cs0 (x : Int32) : own_cs x 0 = [] := rfl
theorem own_cs1 (x : Int32) : own_cs x 1 = [own_c0 x] := rfl
theorem own_cs2 (x : Int32) : own_cs x 2 = [own_c0 x, own_c1 x] := rfl
theorem own_cs3 (x : Int32) : own_cs x 3 = [own_c0 x, own_c1 x, own_c2 x] := rfl
theorem own_hp (x l : Int32) : ∀ c ∈ own_cs x l, ¬ c < 0 ∧ ¬ (255 : Int32) < c := by
  intro c hc
  have h : c = own_c0 x ∨ c = own_c1 x ∨ c = own_c2 x := by
    unfold own_cs at hc
    split at hc
    · cases hc
    · split at hc
      · simp only [List.mem_cons, List.not_mem_nil, or_false] at hc; exact Or.inl hc
      · split at hc
        · simp only [List.mem_cons, List.not_mem_nil, or_false] at hc; exact hc.imp id Or.inl
        · simp only [List.mem_cons, List.not_mem_nil, or_false] at hc; exact hc
  rcases h with rfl | rfl | rfl
  · exact own_rng _
  · exact own_rng _
  · exact own_rng _
theorem own_hl (x l : Int32) : (own_cs x l).length ≤ 4000 := by
  unfold own_cs
  split
  · exact Nat.le_of_ble_eq_true rfl
  · split
    · exact Nat.le_of_ble_eq_true rfl
    · split <;> exact Nat.le_of_ble_eq_true rfl
theorem own_len_ne {x y l k : Int32} (hl : l = (0 : Int32) ∨ l = (1 : Int32) ∨ l = (2 : Int32) ∨ l = (3 : Int32)) (hk : k = (0 : Int32) ∨ k = (1 : Int32) ∨ k = (2 : Int32) ∨ k = (3 : Int32)) (h : ¬ l = k) : ¬ own_cs x l = own_cs y k := by
  intro e
  have q := congrArg List.length e
  rcases hl with rfl | rfl | rfl | rfl <;> rcases hk with rfl | rfl | rfl | rfl <;> first | exact h rfl | (simp [own_cs0, own_cs1, own_cs2, own_cs3] at q)
theorem own_and3 (x : Int32) : x &&& (3 : Int32) = (0 : Int32) ∨ x &&& (3 : Int32) = (1 : Int32) ∨ x &&& (3 : Int32) = (2 : Int32) ∨ x &&& (3 : Int32) = (3 : Int32) := by
  have h := c_and x 3 (by decide)
  have e : (3 : Int32).toInt = 3 := by decide
  rw [e] at h
  have q : ∀ n : Int32, (x &&& 3).toInt = n.toInt → x &&& 3 = n := fun n hn => Int32.toInt_inj.mp hn
  have c : (x &&& 3).toInt = 0 ∨ (x &&& 3).toInt = 1 ∨ (x &&& 3).toInt = 2 ∨ (x &&& 3).toInt = 3 := by omega
  rcases c with h | h | h | h
  · exact Or.inl (q 0 h)
  · exact Or.inr (Or.inl (q 1 h))
  · exact Or.inr (Or.inr (Or.inl (q 2 h)))
  · exact Or.inr (Or.inr (Or.inr (q 3 h)))
theorem pn_3 : plainName "java/lang/String" = true := by first | (simp [plainName, overriddenIn]; done) | decide +kernel
theorem d3_0 : decode jdk_42_method_149_code 0 = .ok (.aload_n 0, 1) := by decide +kernel
theorem d3_1 : decode jdk_42_method_149_code 1 = .ok (.invokespecial 1, 3) := by decide +kernel
theorem d3_4 : decode jdk_42_method_149_code 4 = .ok (.iload_n 3, 1) := by decide +kernel
theorem d3_5 : decode jdk_42_method_149_code 5 = .ok (.ifCond .ne 22, 3) := by decide +kernel
theorem d3_8 : decode jdk_42_method_149_code 8 = .ok (.aload_n 0, 1) := by decide +kernel
theorem d3_9 : decode jdk_42_method_149_code 9 = .ok (.ldc 7, 2) := by decide +kernel
theorem d3_11 : decode jdk_42_method_149_code 11 = .ok (.getfield 9, 3) := by decide +kernel
theorem d3_14 : decode jdk_42_method_149_code 14 = .ok (.putfield 9, 3) := by decide +kernel
theorem d3_17 : decode jdk_42_method_149_code 17 = .ok (.aload_n 0, 1) := by decide +kernel
theorem d3_18 : decode jdk_42_method_149_code 18 = .ok (.ldc 7, 2) := by decide +kernel
theorem d3_20 : decode jdk_42_method_149_code 20 = .ok (.getfield 15, 3) := by decide +kernel
theorem d3_23 : decode jdk_42_method_149_code 23 = .ok (.putfield 15, 3) := by decide +kernel
theorem d3_26 : decode jdk_42_method_149_code 26 = .ok (.return_, 1) := by decide +kernel
theorem ef_rmE4 (m : MethodId) (a1 : Addr) (a2 : Addr) : entryFrame m #[(.ref a1), (.ref a2), (.int (0 : Int32)), (.int (0 : Int32)), .null] 6 = mkF m 0 #[.val (.ref a1), .val (.ref a2), .val (.int (0 : Int32)), .val (.int (0 : Int32)), .val .null, .unset] [] := by first | (simp [entryFrame, mkF, argsToLocals, Value.category]; done) | rfl
def Q_rmE4 (Z : State) (a1 : Addr) (a2 : Addr) (h0 : Heap) (n0 : Nat) (v : Option Value) (h : Heap) (L : List Loc) : Prop := ∃ tb : Addr, ∃ kb : ClassId, (v = none) ∧ (Fr n0 L) ∧ (Keep h0 h [a1]) ∧ (Exa Z h a1 "java/lang/String") ∧ (Fld Z h a1 "java/lang/String" "value" "[B" (.ref tb)) ∧ (Fld Z h a1 "java/lang/String" "coder" "B" (.int (0 : Int32))) ∧ (Arv Z h tb kb .byte (0 : Int32) [] (.int (0 : Int32)))
set_option maxRecDepth 65536 in
set_option maxHeartbeats 40000000 in
theorem rmE4 (l : Launch) (Z : State) (a0 : Array Value) (hw : ∀ d ∈ tables_1, d.before a0 Z = true) (ws : List Jvm.Cond) (a1 : Addr) (a2 : Addr) (h0 : Heap) (n0 : Nat) (Z0 : n0 ≤ h0.size) (g_a1 : n0 ≤ a1) (P1 : Exa Z h0 a1 "java/lang/String") (P2 : Fld Z h0 a1 "java/lang/String" "value" "[B" .null) (P3 : Fld Z h0 a1 "java/lang/String" "coder" "B" (.int (0 : Int32))) :
    MetFree l (⟨"java/lang/String", "<init>", "([CIILjava/lang/Void;)V"⟩ : MethodName) (head1 (Jvm.Cond.code (⟨"java/lang/String", "<init>", "([CIILjava/lang/Void;)V"⟩ : MethodName) jdk_42_method_149_code 6 none :: ws) ({ frames := 1, cells := 4, slots := 8, locals := 12 } : Room)) (fun a U => a = #[(.ref a1), (.ref a2), (.int (0 : Int32)), (.int (0 : Int32)), .null] ∧ Z.Warmed39 U.vm ∧ U.heap = h0 ∧ CHv Z own_EL U.vm h0) (fun _ _ _ _ _ => True) (fun _ U o U' => ∃ v L, o = .returned v ∧ Q_rmE4 Z a1 a2 h0 n0 v U'.heap L ∧ CHr Z own_EL U.vm U.heap U'.vm U'.heap ∧ ReturnedEndW U o U' L ({ frames := 1, cells := 4, slots := 8, locals := 12 } : Room).cells ({ frames := 1, cells := 4, slots := 8, locals := 12 } : Room).slots) := by
  refine MetFree.of_bodySF (plainFor_of_name pn_3) hisR ?_
  intro p e s m args below meth c s₁ Bd hml0 hP hK
  obtain ⟨rfl, hZ, hh, CH0⟩ := hP
  have hx := Bd.exec
  have hby := Bd.bytes
  have hml : c.maxLocals = 6 := hml0
  have hown : s.vm.findClass "java/lang/String" = some m.cls := findClass_of_methodNamed Bd.named
  have hnm := (name_of_methodNamed Bd.named Bd.method).1
  have hlk := Bd.notSynchronized
  have X0 : Stand p l e ({ frames := 1, cells := 4, slots := 8, locals := 12 } : Room) (s.setVm s.vm) m #[(.ref a1), (.ref a2), (.int (0 : Int32)), (.int (0 : Int32)), .null] below meth c s₁ [] 0 0 := Stand.of_body Bd
  have e0 : s₁.heap = h0 := by rw [← hh, Bd.state]; rfl
  have N0 := Fr.nil n0
  refine Wp.goal (Post := (fun o U' => ∃ v L, o = .returned v ∧ Q_rmE4 Z a1 a2 h0 n0 v U'.heap L ∧ CHr Z own_EL s.vm s.heap U'.vm U'.heap ∧ ReturnedEndW s o U' L ({ frames := 1, cells := 4, slots := 8, locals := 12 } : Room).cells ({ frames := 1, cells := 4, slots := 8, locals := 12 } : Room).slots)) (Wp.st (S' := s₁.setTop (mkF m 0 #[.val (.ref a1), .val (.ref a2), .val (.int (0 : Int32)), .val (.int (0 : Int32)), .val .null, .unset] [])) (fun tt_ kk_ => castTop (ef_rmE4 m a1 a2 ) kk_) ?_)
  have hS0 : s.Since s.vm h0.size := (State.WarmedH.refl s).since _
  have wS : ∀ d ∈ Bundle.stringAtoms, d.before a0 Z = true := fun d hd => hw d ((by decide +kernel : ∀ d ∈ Bundle.stringAtoms, d ∈ tables_1) d hd)
  have hEL := own_EW hw
  have CC0 := CHr.refl CH0
  have Sf1 : Safe Z own_EL s.vm h0 a1 := own_safe hZ.alike P1 P2 (hw _ (List.mem_of_getElem? (i := 6) rfl))
  refine Wp.st (S' := s₁.setTop (mkF m 1 #[.val (.ref a1), .val (.ref a2), .val (.int (0 : Int32)), .val (.int (0 : Int32)), .val .null, .unset] [(.ref a1)])) (fun tt_ kk_ => XS.aloadN X0.here hx rfl (hb hby d3_0) rfl rfl kk_) ?_
  obtain ⟨T2, X2, e2, st2⟩ := initO X0 hx hZ hown (hw _ (List.mem_of_getElem? (i := 15) rfl)) (hw _ (List.mem_of_getElem? (i := 16) rfl)) (hw _ (List.mem_of_getElem? (i := 17) rfl)) e0 (g := (mkF m 1 #[.val (.ref a1), .val (.ref a2), .val (.int (0 : Int32)), .val (.int (0 : Int32)), .val .null, .unset] [(.ref a1)])) rfl (by rw [hml]; rfl) rfl (hb hby d3_1) (by decide) (W := 0) (by show 2 * 0 + _ ≤ _; exact Nat.le_of_eq rfl) (by decide)
  refine Wp.st (S' := T2.setTop (mkF m 4 #[.val (.ref a1), .val (.ref a2), .val (.int (0 : Int32)), .val (.int (0 : Int32)), .val .null, .unset] [])) st2 ?_
  refine Wp.st (S' := T2.setTop (mkF m 5 #[.val (.ref a1), .val (.ref a2), .val (.int (0 : Int32)), .val (.int (0 : Int32)), .val .null, .unset] [(.int (0 : Int32))])) (fun tt_ kk_ => XS.iloadN X2.here hx rfl (hb hby d3_4) rfl  kk_) ?_
  refine Wp.st (S' := T2.setTop (mkF m 8 #[.val (.ref a1), .val (.ref a2), .val (.int (0 : Int32)), .val (.int (0 : Int32)), .val .null, .unset] [])) (fun tt_ kk_ => XS.ifNo X2.here hx rfl (hb hby d3_5) rfl ((if0 _ _).trans (teq ((by decide) : (0 : Int32) = (0 : Int32))).2) kk_) ?_
  refine Wp.st (S' := T2.setTop (mkF m 9 #[.val (.ref a1), .val (.ref a2), .val (.int (0 : Int32)), .val (.int (0 : Int32)), .val .null, .unset] [(.ref a1)])) (fun tt_ kk_ => XS.aloadN X2.here hx rfl (hb hby d3_8) rfl rfl kk_) ?_
  obtain ⟨a3, T3, h3, k3, b3, kb3, X3, e3, E3, hS3, hk3, hZ3, how3, Ex3, Co3, Va3, Av3, la3, lb3, cr3, li3, sn3, st3⟩ := ldcCH X2 hx hZ hown (hw _ (List.mem_of_getElem? (i := 18) rfl)) wS e2 hS0 (Nat.le_refl _) hEL (by decide) CC0.1 (vs := []) (z := (0 : Int32)) ⟨by decide, by decide⟩ (by decide) rfl (g := (mkF m 9 #[.val (.ref a1), .val (.ref a2), .val (.int (0 : Int32)), .val (.int (0 : Int32)), .val .null, .unset] [(.ref a1)])) rfl (hb hby d3_9) (n := 0) (by decide +kernel) (by decide) (by decide) (by decide)
  have z4 := E3.1
  have Sf5 := cr3.safe P1.lt Sf1
  have CC6 := CC0.trans cr3
  have ne7 := sn3 _ Sf5
  refine Wp.st (S' := T3.setTop (mkF m 11 #[.val (.ref a1), .val (.ref a2), .val (.int (0 : Int32)), .val (.int (0 : Int32)), .val .null, .unset] [(.ref a3), (.ref a1)])) st3 ?_
  obtain ⟨T8, X8, e8, st8⟩ := getF X3 hx hZ3 how3 (host := "") (Or.inl (hw _ (List.mem_of_getElem? (i := 24) rfl))) Via.refl e3 Va3 (g := (mkF m 11 #[.val (.ref a1), .val (.ref a2), .val (.int (0 : Int32)), .val (.int (0 : Int32)), .val .null, .unset] [(.ref a3), (.ref a1)])) rfl rfl (hb hby d3_11)
  refine Wp.st (S' := T8.setTop (mkF m 14 #[.val (.ref a1), .val (.ref a2), .val (.int (0 : Int32)), .val (.int (0 : Int32)), .val .null, .unset] [(.ref b3), (.ref a1)])) st8 ?_
  have F10 := P2.ext E3
  have F11 := P1.ext E3
  obtain ⟨T9, h9, X9, e9, W9, st9⟩ := putF X8 hx hZ3 how3 (host := "") (Or.inl (hw _ (List.mem_of_getElem? (i := 24) rfl))) Via.refl e8 F10 F11 (Or.inr ⟨(hw _ (List.mem_of_getElem? (i := 20) rfl)), rfl, hnm⟩) (hw _ (List.mem_of_getElem? (i := 6) rfl)) (ty := (.array .byte)) (by decide) rfl rfl (g := (mkF m 14 #[.val (.ref a1), .val (.ref a2), .val (.int (0 : Int32)), .val (.int (0 : Int32)), .val .null, .unset] [(.ref b3), (.ref a1)])) rfl rfl (hb hby d3_14)
  have z12 := Nat.le_of_eq W9.size.symm
  have Sf13 := Safe.wr W9 Sf5 CC6.1 Sf5
  have CC14 := CC6.trans (CHr.wr W9 Sf5 CC6.1)
  have Fw9 : Fld Z h9 a1 "java/lang/String" "value" "[B" (.ref b3) := F10.same W9
  have N9 := Fr.snoc X9 N0 g_a1
  refine Wp.st (S' := T9.setTop (mkF m 17 #[.val (.ref a1), .val (.ref a2), .val (.int (0 : Int32)), .val (.int (0 : Int32)), .val .null, .unset] [])) st9 ?_
  refine Wp.st (S' := T9.setTop (mkF m 18 #[.val (.ref a1), .val (.ref a2), .val (.int (0 : Int32)), .val (.int (0 : Int32)), .val .null, .unset] [(.ref a1)])) (fun tt_ kk_ => XS.aloadN X9.here hx rfl (hb hby d3_17) rfl rfl kk_) ?_
  obtain ⟨a15, T15, h15, k15, b15, kb15, X15, e15, E15, hS15, hk15, hZ15, how15, Ex15, Co15, Va15, Av15, la15, lb15, cr15, li15, sn15, st15⟩ := ldcCH X9 hx hZ3 how3 (hw _ (List.mem_of_getElem? (i := 18) rfl)) wS e9 hS3 (Nat.le_trans hk3 z12) hEL (by decide) CC14.1 (vs := []) (z := (0 : Int32)) ⟨by decide, by decide⟩ (by decide) rfl (g := (mkF m 18 #[.val (.ref a1), .val (.ref a2), .val (.int (0 : Int32)), .val (.int (0 : Int32)), .val .null, .unset] [(.ref a1)])) rfl (hb hby d3_18) (n := 0) (by decide +kernel) (by decide) (by decide) (by decide)
  have z16 := E15.1
  have Sf17 := cr15.safe (Nat.lt_of_lt_of_le P1.lt (Nat.le_trans z4 z12)) Sf13
  have CC18 := CC14.trans cr15
  have ne19 := sn15 _ Sf17
  refine Wp.st (S' := T15.setTop (mkF m 20 #[.val (.ref a1), .val (.ref a2), .val (.int (0 : Int32)), .val (.int (0 : Int32)), .val .null, .unset] [(.ref a15), (.ref a1)])) st15 ?_
  obtain ⟨T20, X20, e20, st20⟩ := getF X15 hx hZ15 how15 (host := "") (Or.inl (hw _ (List.mem_of_getElem? (i := 25) rfl))) Via.refl e15 Co15 (g := (mkF m 20 #[.val (.ref a1), .val (.ref a2), .val (.int (0 : Int32)), .val (.int (0 : Int32)), .val .null, .unset] [(.ref a15), (.ref a1)])) rfl rfl (hb hby d3_20)
  refine Wp.st (S' := T20.setTop (mkF m 23 #[.val (.ref a1), .val (.ref a2), .val (.int (0 : Int32)), .val (.int (0 : Int32)), .val .null, .unset] [(.int (0 : Int32)), (.ref a1)])) st20 ?_
  have F22 := P3.ext E3
  have F23 := F22.other W9 (Or.inr (slot_ne (Or.inr (hw _ (List.mem_of_getElem? (i := 21) rfl))) (Or.inr (hw _ (List.mem_of_getElem? (i := 20) rfl))) (by decide) (t := .byte) (t' := (.array .byte)) (by decide) (by decide)))
  have F24 := F23.ext E15
  have F25 := F11.wr W9
  have F26 := F25.ext E15
  obtain ⟨T21, h21, X21, e21, W21, st21⟩ := putFN X20 hx hZ15 how15 (hw _ (List.mem_of_getElem? (i := 25) rfl)) Via.refl e20 F24 F26 (Or.inr ⟨(hw _ (List.mem_of_getElem? (i := 21) rfl)), rfl, hnm⟩) (hw _ (List.mem_of_getElem? (i := 6) rfl)) (ty := .byte) (v' := (.int (0 : Int32))) (by decide) rfl rfl (g := (mkF m 23 #[.val (.ref a1), .val (.ref a2), .val (.int (0 : Int32)), .val (.int (0 : Int32)), .val .null, .unset] [(.int (0 : Int32)), (.ref a1)])) rfl rfl (hb hby d3_23)
  have z27 := Nat.le_of_eq W21.size.symm
  have Sf28 := Safe.wr W21 Sf17 CC18.1 Sf17
  have CC29 := CC18.trans (CHr.wr W21 Sf17 CC18.1)
  have Fw21 : Fld Z h21 a1 "java/lang/String" "coder" "B" (.int (0 : Int32)) := F24.same W21
  have N21 := Fr.snoc X21 N9 g_a1
  refine Wp.st (S' := T21.setTop (mkF m 26 #[.val (.ref a1), .val (.ref a2), .val (.int (0 : Int32)), .val (.int (0 : Int32)), .val .null, .unset] [])) st21 ?_
  have K30 := Keep.refl h0 [a1]
  have K31 := K30.ext E3
  have K32 := K31.wr W9 (Or.inl (List.mem_of_getElem? (i := 0) rfl))
  have K33 := K32.ext E15
  have K34 := K33.wr W21 (Or.inl (List.mem_of_getElem? (i := 0) rfl))
  have F35 := F26.wr W21
  have F36 := Fw9.ext E15
  have F37 := F36.other W21 (Or.inr (slot_ne (Or.inr (hw _ (List.mem_of_getElem? (i := 20) rfl))) (Or.inr (hw _ (List.mem_of_getElem? (i := 21) rfl))) (by decide) (t := (.array .byte)) (t' := .byte) (by decide) (by decide)))
  have F38 := Av3.other W9 (Ne.symm ne7.2)
  have F39 := F38.ext E15
  have F40 := F39.other W21 (Ne.symm ne7.2)
  exact Wp.retH X21 hlk hS15 (by rw [e21]; exact (Nat.le_trans hk15 z27)) (v := none) (fun _ => rfl) (fun fs hr => X21.returnOut hx Bd.returns (hb hby d3_26) hr) (by decide) (by decide) (show Q_rmE4 Z a1 a2 h0 n0 _ T21.heap _ by rw [e21]; exact ⟨b3, kb3, rfl, N21, K34, F35, F37, Fw21, F40⟩) (by rw [hh, e21]; exact CC29.trans (CHv.at X21 hZ15 hEL CC29.1))
theorem pn_2 : plainName "java/lang/String" = true := by first | (simp [plainName, overriddenIn]; done) | decide +kernel
theorem d2_0 : decode jdk_42_method_3_code 0 = .ok (.aload_n 0, 1) := by decide +kernel
theorem d2_1 : decode jdk_42_method_3_code 1 = .ok (.aload_n 1, 1) := by decide +kernel
theorem d2_2 : decode jdk_42_method_3_code 2 = .ok (.iconst 0, 1) := by decide +kernel
theorem d2_3 : decode jdk_42_method_3_code 3 = .ok (.aload_n 1, 1) := by decide +kernel
theorem d2_4 : decode jdk_42_method_3_code 4 = .ok (.arraylength, 1) := by decide +kernel
theorem d2_5 : decode jdk_42_method_3_code 5 = .ok (.aconst_null, 1) := by decide +kernel
theorem d2_6 : decode jdk_42_method_3_code 6 = .ok (.invokespecial 27, 3) := by decide +kernel
theorem pd_0 : parseMethodDescriptor "([CIILjava/lang/Void;)V" = some ⟨[(.array .char), .int, .int, (.object "java/lang/Void")], none⟩ := by decide +kernel
theorem d2_9 : decode jdk_42_method_3_code 9 = .ok (.return_, 1) := by decide +kernel
theorem ef_rmE1 (m : MethodId) (a1 : Addr) (a2 : Addr) : entryFrame m #[(.ref a1), (.ref a2)] 2 = mkF m 0 #[.val (.ref a1), .val (.ref a2)] [] := by first | (simp [entryFrame, mkF, argsToLocals, Value.category]; done) | rfl
def Q_rmE1 (Z : State) (a1 : Addr) (a2 : Addr) (kc : ClassId) (h0 : Heap) (n0 : Nat) (v : Option Value) (h : Heap) (L : List Loc) : Prop := ∃ tb : Addr, ∃ kb : ClassId, (v = none) ∧ (Fr n0 L) ∧ (Keep h0 h [a1]) ∧ (Exa Z h a1 "java/lang/String") ∧ (Fld Z h a1 "java/lang/String" "value" "[B" (.ref tb)) ∧ (Fld Z h a1 "java/lang/String" "coder" "B" (.int (0 : Int32))) ∧ (Arv Z h tb kb .byte (0 : Int32) [] (.int (0 : Int32)))
set_option maxRecDepth 65536 in
set_option maxHeartbeats 40000000 in
theorem rmE1 (l : Launch) (Z : State) (a0 : Array Value) (hw : ∀ d ∈ tables_1, d.before a0 Z = true) (ws : List Jvm.Cond) (a1 : Addr) (a2 : Addr) (kc : ClassId) (h0 : Heap) (n0 : Nat) (Z0 : n0 ≤ h0.size) (g_a1 : n0 ≤ a1) (P1 : Exa Z h0 a1 "java/lang/String") (P2 : Fld Z h0 a1 "java/lang/String" "value" "[B" .null) (P3 : Fld Z h0 a1 "java/lang/String" "coder" "B" (.int (0 : Int32))) (PAr : Arv Z h0 a2 kc .char (0 : Int32) [] (.int (0 : Int32))) :
    MetFree l (⟨"java/lang/String", "<init>", "([C)V"⟩ : MethodName) (head1 (Jvm.Cond.code (⟨"java/lang/String", "<init>", "([C)V"⟩ : MethodName) jdk_42_method_3_code 2 none :: ws) ({ frames := 2, cells := 4, slots := 8, locals := 29 } : Room)) (fun a U => a = #[(.ref a1), (.ref a2)] ∧ Z.Warmed39 U.vm ∧ U.heap = h0 ∧ CHv Z own_EL U.vm h0) (fun _ _ _ _ _ => True) (fun _ U o U' => ∃ v L, o = .returned v ∧ Q_rmE1 Z a1 a2 kc h0 n0 v U'.heap L ∧ CHr Z own_EL U.vm U.heap U'.vm U'.heap ∧ ReturnedEndW U o U' L ({ frames := 2, cells := 4, slots := 8, locals := 29 } : Room).cells ({ frames := 2, cells := 4, slots := 8, locals := 29 } : Room).slots) := by
  refine MetFree.of_bodySF (plainFor_of_name pn_2) hisR ?_
  intro p e s m args below meth c s₁ Bd hml0 hP hK
  obtain ⟨rfl, hZ, hh, CH0⟩ := hP
  have hx := Bd.exec
  have hby := Bd.bytes
  have hml : c.maxLocals = 2 := hml0
  have hown : s.vm.findClass "java/lang/String" = some m.cls := findClass_of_methodNamed Bd.named
  have hnm := (name_of_methodNamed Bd.named Bd.method).1
  have hlk := Bd.notSynchronized
  have X0 : Stand p l e ({ frames := 2, cells := 4, slots := 8, locals := 29 } : Room) (s.setVm s.vm) m #[(.ref a1), (.ref a2)] below meth c s₁ [] 0 0 := Stand.of_body Bd
  have e0 : s₁.heap = h0 := by rw [← hh, Bd.state]; rfl
  have N0 := Fr.nil n0
  refine Wp.goal (Post := (fun o U' => ∃ v L, o = .returned v ∧ Q_rmE1 Z a1 a2 kc h0 n0 v U'.heap L ∧ CHr Z own_EL s.vm s.heap U'.vm U'.heap ∧ ReturnedEndW s o U' L ({ frames := 2, cells := 4, slots := 8, locals := 29 } : Room).cells ({ frames := 2, cells := 4, slots := 8, locals := 29 } : Room).slots)) (Wp.st (S' := s₁.setTop (mkF m 0 #[.val (.ref a1), .val (.ref a2)] [])) (fun tt_ kk_ => castTop (ef_rmE1 m a1 a2 ) kk_) ?_)
  have hS0 : s.Since s.vm h0.size := (State.WarmedH.refl s).since _
  have wS : ∀ d ∈ Bundle.stringAtoms, d.before a0 Z = true := fun d hd => hw d ((by decide +kernel : ∀ d ∈ Bundle.stringAtoms, d ∈ tables_1) d hd)
  have hEL := own_EW hw
  have CC0 := CHr.refl CH0
  have Sf1 : Safe Z own_EL s.vm h0 a1 := own_safe hZ.alike P1 P2 (hw _ (List.mem_of_getElem? (i := 6) rfl))
  refine Wp.st (S' := s₁.setTop (mkF m 1 #[.val (.ref a1), .val (.ref a2)] [(.ref a1)])) (fun tt_ kk_ => XS.aloadN X0.here hx rfl (hb hby d2_0) rfl rfl kk_) ?_
  refine Wp.st (S' := s₁.setTop (mkF m 2 #[.val (.ref a1), .val (.ref a2)] [(.ref a2), (.ref a1)])) (fun tt_ kk_ => XS.aloadN X0.here hx rfl (hb hby d2_1) rfl rfl kk_) ?_
  refine Wp.st (S' := s₁.setTop (mkF m 3 #[.val (.ref a1), .val (.ref a2)] [(.int (0 : Int32)), (.ref a2), (.ref a1)])) (fun tt_ kk_ => XS.iconst X0.here hx rfl (hb hby d2_2) kk_) ?_
  refine Wp.st (S' := s₁.setTop (mkF m 4 #[.val (.ref a1), .val (.ref a2)] [(.ref a2), (.int (0 : Int32)), (.ref a2), (.ref a1)])) (fun tt_ kk_ => XS.aloadN X0.here hx rfl (hb hby d2_3) rfl rfl kk_) ?_
  obtain ⟨cl2, Ar2, q2, S2, N2, H2, G2⟩ := id PAr
  refine Wp.st (S' := s₁.setTop (mkF m 5 #[.val (.ref a1), .val (.ref a2)] [(.int (0 : Int32)), (.int (0 : Int32)), (.ref a2), (.ref a1)])) (fun tt_ kk_ => X0.arraylength hx (by rw [e0]; exact Ar2.1) (State.isArrayOf_alike hZ.alike Ar2.2.1) (g := (mkF m 4 #[.val (.ref a1), .val (.ref a2)] [(.ref a2), (.int (0 : Int32)), (.ref a2), (.ref a1)])) rfl rfl (hb hby d2_4) tt_ (by rw [len_of S2 N2]; exact kk_)) ?_
  refine Wp.st (S' := s₁.setTop (mkF m 6 #[.val (.ref a1), .val (.ref a2)] [.null, (.int (0 : Int32)), (.int (0 : Int32)), (.ref a2), (.ref a1)])) (fun tt_ kk_ => XS.aconstNull X0.here hx rfl (hb hby d2_5) kk_) ?_
  obtain ⟨vv3, _, ⟨T3, L3, k3, n3⟩, -, Xq3, sn3, gr3, ⟨Lc3, hQ3, l3, y3, z3, cr3⟩, st3⟩ := X0.specialBackS hx (y := (⟨"java/lang/String", "<init>", "([CIILjava/lang/Void;)V"⟩ : MethodName)) rfl hown (mvT hZ (hw _ (List.mem_of_getElem? (i := 11) rfl))) (mvT hZ (hw _ (List.mem_of_getElem? (i := 12) rfl))) (mvT hZ (hw _ (List.mem_of_getElem? (i := 14) rfl))) (by decide) (backOfSH (W := 0) (rmE4 l Z a0 hw [] a1 a2 h0 n0 Z0 g_a1 P1 P2 P3) hZ (hw _ (List.mem_of_getElem? (i := 14) rfl)) (hw _ (List.mem_of_getElem? (i := 7) rfl)) (by decide) (by decide) hEL CC0.1) (g := (mkF m 6 #[.val (.ref a1), .val (.ref a2)] [.null, (.int (0 : Int32)), (.int (0 : Int32)), (.ref a2), (.ref a1)])) rfl (by rw [hml]; rfl) (Steps.refl _) (a := a1) (argsL := [(.ref a2), (.int (0 : Int32)), (.int (0 : Int32)), .null]) (rest := []) (lenOf pd_0 rfl) rfl (by show 2 * 0 + _ ≤ _; exact Nat.le_of_eq rfl) (hb hby d2_6) (fun _ _ => ⟨rfl, e0, (by decide : 0 + 4 ≤ _), (by decide : 0 + 8 ≤ _)⟩)
  dsimp only [Pt.U, Pt.locs, Pt.cells, Pt.slots] at Xq3 sn3 gr3 l3 y3 z3 st3 hQ3 cr3
  subst l3 y3 z3
  obtain ⟨X3, hS3, hZ3, how3⟩ := rebS hS0 (by rw [e0]; exact (Nat.le_refl _)) Xq3 sn3 gr3 hZ hown
  obtain ⟨b4, c5, rfl, Nq3, K3, P3_0, P3_1, P3_2, P3_3⟩ := hQ3
  have N3 := Fr.app N0 Nq3
  have z6 := K3.1
  have Sf7 := cr3.safe P1.lt Sf1
  have CC8 := CC0.trans cr3
  have e3 : T3.heap = T3.heap := rfl
  refine Wp.tr (S' := T3.setTop (mkF m 9 #[.val (.ref a1), .val (.ref a2)] [])) st3 ?_
  have K9 := Keep.refl h0 [a1]
  have K10 := K9.trans K3 (allS (Or.inl (List.mem_of_getElem? (i := 0) rfl)) all0)
  exact Wp.retH X3 hlk hS3 (by rw [e3]; exact (Nat.le_refl _)) (v := none) (fun _ => rfl) (fun fs hr => X3.returnOut hx Bd.returns (hb hby d2_9) hr) (by decide) (by decide) (show Q_rmE1 Z a1 a2 kc h0 n0 _ T3.heap _ by rw [e3]; exact ⟨b4, c5, rfl, N3, K10, P3_0, P3_1, P3_2, P3_3⟩) (by rw [hh, e3]; exact CC8.trans (CHv.at X3 hZ3 hEL CC8.1))
theorem pn_1 : plainName "com/example/clients_by_rule/clientsbyrule/profile/SuppressionCoversPinLaw" = true := by first | (simp [plainName, overriddenIn]; done) | decide +kernel
theorem d1_0 : decode method_2_code 0 = .ok (.iload_n 1, 1) := by decide +kernel
theorem d1_1 : decode method_2_code 1 = .ok (.newarray .char, 2) := by decide +kernel
theorem d1_3 : decode method_2_code 3 = .ok (.astore_n 2, 1) := by decide +kernel
theorem d1_4 : decode method_2_code 4 = .ok (.iload_n 1, 1) := by decide +kernel
theorem d1_5 : decode method_2_code 5 = .ok (.ifCond .le 12, 3) := by decide +kernel
theorem d1_17 : decode method_2_code 17 = .ok (.iload_n 1, 1) := by decide +kernel
theorem d1_18 : decode method_2_code 18 = .ok (.iconst 1, 1) := by decide +kernel
theorem d1_19 : decode method_2_code 19 = .ok (.if_icmp .le 15, 3) := by decide +kernel
theorem d1_34 : decode method_2_code 34 = .ok (.iload_n 1, 1) := by decide +kernel
theorem d1_35 : decode method_2_code 35 = .ok (.iconst 2, 1) := by decide +kernel
theorem d1_36 : decode method_2_code 36 = .ok (.if_icmp .le 15, 3) := by decide +kernel
theorem d1_51 : decode method_2_code 51 = .ok (.new 7, 3) := by decide +kernel
theorem d1_54 : decode method_2_code 54 = .ok (.dup, 1) := by decide +kernel
theorem d1_55 : decode method_2_code 55 = .ok (.aload_n 2, 1) := by decide +kernel
theorem d1_56 : decode method_2_code 56 = .ok (.invokespecial 9, 3) := by decide +kernel
theorem pd_1 : parseMethodDescriptor "([C)V" = some ⟨[(.array .char)], none⟩ := by decide +kernel
theorem d1_59 : decode method_2_code 59 = .ok (.areturn, 1) := by decide +kernel
theorem d1_8 : decode method_2_code 8 = .ok (.aload_n 2, 1) := by decide +kernel
theorem d1_9 : decode method_2_code 9 = .ok (.iconst 0, 1) := by decide +kernel
theorem d1_10 : decode method_2_code 10 = .ok (.iload_n 0, 1) := by decide +kernel
theorem d1_11 : decode method_2_code 11 = .ok (.sipush 255, 3) := by decide +kernel
theorem d1_14 : decode method_2_code 14 = .ok (.iand, 1) := by decide +kernel
theorem d1_15 : decode method_2_code 15 = .ok (.i2c, 1) := by decide +kernel
theorem d1_16 : decode method_2_code 16 = .ok (.castore, 1) := by decide +kernel
theorem d1_22 : decode method_2_code 22 = .ok (.aload_n 2, 1) := by decide +kernel
theorem d1_23 : decode method_2_code 23 = .ok (.iconst 1, 1) := by decide +kernel
theorem d1_24 : decode method_2_code 24 = .ok (.iload_n 0, 1) := by decide +kernel
theorem d1_25 : decode method_2_code 25 = .ok (.bipush 8, 2) := by decide +kernel
theorem d1_27 : decode method_2_code 27 = .ok (.iushr, 1) := by decide +kernel
theorem d1_28 : decode method_2_code 28 = .ok (.sipush 255, 3) := by decide +kernel
theorem d1_31 : decode method_2_code 31 = .ok (.iand, 1) := by decide +kernel
theorem d1_32 : decode method_2_code 32 = .ok (.i2c, 1) := by decide +kernel
theorem d1_33 : decode method_2_code 33 = .ok (.castore, 1) := by decide +kernel
theorem d1_39 : decode method_2_code 39 = .ok (.aload_n 2, 1) := by decide +kernel
theorem d1_40 : decode method_2_code 40 = .ok (.iconst 2, 1) := by decide +kernel
theorem d1_41 : decode method_2_code 41 = .ok (.iload_n 0, 1) := by decide +kernel
theorem d1_42 : decode method_2_code 42 = .ok (.bipush 16, 2) := by decide +kernel
theorem d1_44 : decode method_2_code 44 = .ok (.iushr, 1) := by decide +kernel
theorem d1_45 : decode method_2_code 45 = .ok (.sipush 255, 3) := by decide +kernel
theorem d1_48 : decode method_2_code 48 = .ok (.iand, 1) := by decide +kernel
theorem d1_49 : decode method_2_code 49 = .ok (.i2c, 1) := by decide +kernel
theorem d1_50 : decode method_2_code 50 = .ok (.castore, 1) := by decide +kernel
theorem ef_rm1 (m : MethodId) (p1 : Int32) (p2 : Int32) : entryFrame m #[(.int p1), (.int p2)] 3 = mkF m 0 #[.val (.int p1), .val (.int p2), .unset] [] := by first | (simp [entryFrame, mkF, argsToLocals, Value.category]; done) | rfl
def Q_rm1 (Z : State) (p1 : Int32) (p2 : Int32) (zcs : Int32) (h0 : Heap) (n0 : Nat) (v : Option Value) (h : Heap) (L : List Loc) : Prop := ∃ b : Addr, ∃ tb : Addr, ∃ kb : ClassId, (v = some (.ref b)) ∧ (Fr n0 L) ∧ (Keep h0 h []) ∧ (Exa Z h b "java/lang/String") ∧ (Fld Z h b "java/lang/String" "value" "[B" (.ref tb)) ∧ (Fld Z h b "java/lang/String" "coder" "B" (.int (0 : Int32))) ∧ (Arv Z h tb kb .byte (Int32.ofNat ((own_cs p1 p2)).length) (own_bytes (own_cs p1 p2)) (.int (0 : Int32)))
set_option maxRecDepth 65536 in
set_option maxHeartbeats 40000000 in
theorem rm1 (l : Launch) (Z : State) (a0 : Array Value) (hw : ∀ d ∈ tables_1, d.before a0 Z = true) (ws : List Jvm.Cond) (p1 : Int32) (p2 : Int32) (zcs : Int32) (h0 : Heap) (n0 : Nat) (Z0 : n0 ≤ h0.size) (O0 : Jvm.RoadKit.Old Z n0 h0) (SCompact : Sta Z Z.heap "java/lang/String" "COMPACT_STRINGS" "Z" (.int zcs)) (hCS : ¬ zcs = 0) (h4 : p2 = (0 : Int32) ∨ p2 = (1 : Int32) ∨ p2 = (2 : Int32) ∨ p2 = (3 : Int32)) :
    MetFree l (⟨"com/example/clients_by_rule/clientsbyrule/profile/SuppressionCoversPinLaw", "mk", "(II)Ljava/lang/String;"⟩ : MethodName) (head1 (Jvm.Cond.code (⟨"com/example/clients_by_rule/clientsbyrule/profile/SuppressionCoversPinLaw", "mk", "(II)Ljava/lang/String;"⟩ : MethodName) method_2_code 3 (some (.object "java/lang/String")) :: ws) ({ frames := 4, cells := 6, slots := 12, locals := 66 } : Room)) (fun a U => a = #[(.int p1), (.int p2)] ∧ Z.Warmed39 U.vm ∧ U.heap = h0 ∧ CHv Z own_EL U.vm h0) (fun _ _ _ _ _ => True) (fun _ U o U' => ∃ v L, o = .returned v ∧ Q_rm1 Z p1 p2 zcs h0 n0 v U'.heap L ∧ CHr Z own_EL U.vm U.heap U'.vm U'.heap ∧ ReturnedEndW U o U' L ({ frames := 4, cells := 6, slots := 12, locals := 66 } : Room).cells ({ frames := 4, cells := 6, slots := 12, locals := 66 } : Room).slots) := by
  refine MetFree.of_bodySF (plainFor_of_name pn_1) hisR ?_
  intro p e s m args below meth c s₁ Bd hml0 hP hK
  obtain ⟨rfl, hZ, hh, CH0⟩ := hP
  have hx := Bd.exec
  have hby := Bd.bytes
  have hml : c.maxLocals = 3 := hml0
  have hown : s.vm.findClass "com/example/clients_by_rule/clientsbyrule/profile/SuppressionCoversPinLaw" = some m.cls := findClass_of_methodNamed Bd.named
  have hnm := (name_of_methodNamed Bd.named Bd.method).1
  have hlk := Bd.notSynchronized
  have X0 : Stand p l e ({ frames := 4, cells := 6, slots := 12, locals := 66 } : Room) (s.setVm s.vm) m #[(.int p1), (.int p2)] below meth c s₁ [] 0 0 := Stand.of_body Bd
  have e0 : s₁.heap = h0 := by rw [← hh, Bd.state]; rfl
  have N0 := Fr.nil n0
  refine Wp.goal (Post := (fun o U' => ∃ v L, o = .returned v ∧ Q_rm1 Z p1 p2 zcs h0 n0 v U'.heap L ∧ CHr Z own_EL s.vm s.heap U'.vm U'.heap ∧ ReturnedEndW s o U' L ({ frames := 4, cells := 6, slots := 12, locals := 66 } : Room).cells ({ frames := 4, cells := 6, slots := 12, locals := 66 } : Room).slots)) (Wp.st (S' := s₁.setTop (mkF m 0 #[.val (.int p1), .val (.int p2), .unset] [])) (fun tt_ kk_ => castTop (ef_rm1 m p1 p2 ) kk_) ?_)
  have hS0 : s.Since s.vm h0.size := (State.WarmedH.refl s).since _
  have wS : ∀ d ∈ Bundle.stringAtoms, d.before a0 Z = true := fun d hd => hw d ((by decide +kernel : ∀ d ∈ Bundle.stringAtoms, d ∈ tables_1) d hd)
  have hEL := own_EW hw
  have CC0 := CHr.refl CH0
  rcases h4 with rfl | rfl | rfl | rfl
  · have _u := True.intro
    refine Wp.st (S' := s₁.setTop (mkF m 1 #[.val (.int p1), .val (.int (0 : Int32)), .unset] [(.int (0 : Int32))])) (fun tt_ kk_ => XS.iloadN X0.here hx rfl (hb hby d1_0) rfl  kk_) ?_
    obtain ⟨T1, h1, k1, X1, e1, E1, A1, st1⟩ := newP X0 hx hZ (hw _ (List.mem_of_getElem? (i := 4) rfl)) e0 (g := (mkF m 1 #[.val (.int p1), .val (.int (0 : Int32)), .unset] [(.int (0 : Int32))])) rfl (hb hby d1_1) rfl (by decide) (cap := 0) (by decide) (by decide) (by decide) (by decide)
    obtain ⟨b1, g1⟩ : ∃ z, z = h0.size := ⟨_, rfl⟩
    rw [← g1] at A1 st1
    have z2 := E1.1
    have CC3 := CC0.trans (CHr.ext E1 CC0.1)
    have V1 : Arv Z h1 b1 k1 .char (0 : Int32) [] (.int (0 : Int32)) := (Arv.new A1 (by decide)).pad (pad_rep [] (.int (0 : Int32)) 0)
    have g4 : n0 ≤ b1 := Nat.le_trans (Nat.le_trans Z0 (Nat.le_refl _)) (Nat.le_of_eq g1.symm)
    have Sf5 := Safe.ext E1 CC0.1 (Safe.new (x := b1) (Nat.le_of_eq g1.symm))
    refine Wp.st (S' := T1.setTop (mkF m 3 #[.val (.int p1), .val (.int (0 : Int32)), .unset] [(.ref b1)])) st1 ?_
    refine Wp.st (S' := T1.setTop (mkF m 4 #[.val (.int p1), .val (.int (0 : Int32)), .val (.ref b1)] [])) (fun tt_ kk_ => XS.astoreN X1.here hx rfl (hb hby d1_3) rfl rfl (l' := #[.val (.int p1), .val (.int (0 : Int32)), .val (.ref b1)]) rfl kk_) ?_
    refine Wp.st (S' := T1.setTop (mkF m 5 #[.val (.int p1), .val (.int (0 : Int32)), .val (.ref b1)] [(.int (0 : Int32))])) (fun tt_ kk_ => XS.iloadN X1.here hx rfl (hb hby d1_4) rfl  kk_) ?_
    refine Wp.st (S' := T1.setTop (mkF m 17 #[.val (.int p1), .val (.int (0 : Int32)), .val (.ref b1)] [])) (fun tt_ kk_ => XS.ifYes X1.here hx rfl (pc0 := 5) (pc' := 17) rfl (hb hby d1_5) rfl ((if0 _ _).trans (flt ((by decide) : ¬ ((0 : Int32) < (0 : Int32)))).2.2.2) (by decide) (by decide) kk_) ?_
    refine Wp.st (S' := T1.setTop (mkF m 18 #[.val (.int p1), .val (.int (0 : Int32)), .val (.ref b1)] [(.int (0 : Int32))])) (fun tt_ kk_ => XS.iloadN X1.here hx rfl (hb hby d1_17) rfl  kk_) ?_
    refine Wp.st (S' := T1.setTop (mkF m 19 #[.val (.int p1), .val (.int (0 : Int32)), .val (.ref b1)] [(.int (1 : Int32)), (.int (0 : Int32))])) (fun tt_ kk_ => XS.iconst X1.here hx rfl (hb hby d1_18) kk_) ?_
    refine Wp.st (S' := T1.setTop (mkF m 34 #[.val (.int p1), .val (.int (0 : Int32)), .val (.ref b1)] [])) (fun tt_ kk_ => XS.icmpYes X1.here hx rfl (pc0 := 19) (pc' := 34) rfl (hb hby d1_19) rfl (flt ((by decide) : ¬ ((1 : Int32) < (0 : Int32)))).2.2.2 (by decide) (by decide) kk_) ?_
    refine Wp.st (S' := T1.setTop (mkF m 35 #[.val (.int p1), .val (.int (0 : Int32)), .val (.ref b1)] [(.int (0 : Int32))])) (fun tt_ kk_ => XS.iloadN X1.here hx rfl (hb hby d1_34) rfl  kk_) ?_
    refine Wp.st (S' := T1.setTop (mkF m 36 #[.val (.int p1), .val (.int (0 : Int32)), .val (.ref b1)] [(.int (2 : Int32)), (.int (0 : Int32))])) (fun tt_ kk_ => XS.iconst X1.here hx rfl (hb hby d1_35) kk_) ?_
    refine Wp.st (S' := T1.setTop (mkF m 51 #[.val (.int p1), .val (.int (0 : Int32)), .val (.ref b1)] [])) (fun tt_ kk_ => XS.icmpYes X1.here hx rfl (pc0 := 36) (pc' := 51) rfl (hb hby d1_36) rfl (flt ((by decide) : ¬ ((2 : Int32) < (0 : Int32)))).2.2.2 (by decide) (by decide) kk_) ?_
    obtain ⟨T6, h6, X6, e6, E6, A6, D6, U6, st6⟩ := newO X1 hx hZ hown (hw _ (List.mem_of_getElem? (i := 5) rfl)) (hw _ (List.mem_of_getElem? (i := 6) rfl)) (hw _ (List.mem_of_getElem? (i := 7) rfl)) e1 (g := (mkF m 51 #[.val (.int p1), .val (.int (0 : Int32)), .val (.ref b1)] [])) rfl (hb hby d1_51) (by decide) (by decide)
    obtain ⟨b6, g6⟩ : ∃ z, z = h1.size := ⟨_, rfl⟩
    rw [← g6] at A6 D6 U6 st6
    have z7 := E6.1
    have Sf8 := Safe.ext E6 CC3.1 Sf5
    have CC9 := CC3.trans (CHr.ext E6 CC3.1)
    have g10 : n0 ≤ b6 := Nat.le_trans (Nat.le_trans Z0 z2) (Nat.le_of_eq g6.symm)
    have Sf11 := Safe.ext E6 CC3.1 (Safe.new (x := b6) (Nat.le_of_eq g6.symm))
    have F12 : Fld Z h6 b6 "java/lang/String" "value" "[B" .null := D6 (Or.inr (hw _ (List.mem_of_getElem? (i := 20) rfl))) (ty := (.array .byte)) (by decide)
    have F13 : Fld Z h6 b6 "java/lang/String" "coder" "B" (.int (0 : Int32)) := D6 (Or.inr (hw _ (List.mem_of_getElem? (i := 21) rfl))) (ty := .byte) (by decide)
    refine Wp.st (S' := T6.setTop (mkF m 54 #[.val (.int p1), .val (.int (0 : Int32)), .val (.ref b1)] [(.ref b6)])) st6 ?_
    refine Wp.st (S' := T6.setTop (mkF m 55 #[.val (.int p1), .val (.int (0 : Int32)), .val (.ref b1)] [(.ref b6), (.ref b6)])) (fun tt_ kk_ => XS.dup X6.here hx rfl (hb hby d1_54) rfl rfl kk_) ?_
    refine Wp.st (S' := T6.setTop (mkF m 56 #[.val (.int p1), .val (.int (0 : Int32)), .val (.ref b1)] [(.ref b1), (.ref b6), (.ref b6)])) (fun tt_ kk_ => XS.aloadN X6.here hx rfl (hb hby d1_55) rfl rfl kk_) ?_
    have F15 := V1.ext E6
    obtain ⟨vv14, _, ⟨T14, L14, k14, n14⟩, -, Xq14, sn14, gr14, ⟨Lc14, hQ14, l14, y14, z14, cr14⟩, st14⟩ := X6.specialBackS hx (y := (⟨"java/lang/String", "<init>", "([C)V"⟩ : MethodName)) rfl hown (mvT hZ (hw _ (List.mem_of_getElem? (i := 8) rfl))) (mvT hZ (hw _ (List.mem_of_getElem? (i := 9) rfl))) (mvT hZ (hw _ (List.mem_of_getElem? (i := 10) rfl))) (by decide) (backOfSH (W := 1) (rmE1 l Z a0 hw [] b6 b1 k1 h6 n0 (Nat.le_trans Z0 (Nat.le_trans z2 z7)) g10 A6 F12 F13 F15) hZ (hw _ (List.mem_of_getElem? (i := 10) rfl)) (hw _ (List.mem_of_getElem? (i := 7) rfl)) (by decide) (by decide) hEL CC9.1) (g := (mkF m 56 #[.val (.int p1), .val (.int (0 : Int32)), .val (.ref b1)] [(.ref b1), (.ref b6), (.ref b6)])) rfl (by rw [hml]; rfl) (Steps.refl _) (a := b6) (argsL := [(.ref b1)]) (rest := [(.ref b6)]) (lenOf pd_1 rfl) rfl (by show 2 * 0 + _ ≤ _; exact Nat.le_of_eq rfl) (hb hby d1_56) (fun _ _ => ⟨rfl, e6, (by decide : 2 + 4 ≤ _), (by decide : 4 + 8 ≤ _)⟩)
    dsimp only [Pt.U, Pt.locs, Pt.cells, Pt.slots] at Xq14 sn14 gr14 l14 y14 z14 st14 hQ14 cr14
    subst l14 y14 z14
    obtain ⟨X14, hS14, hZ14, how14⟩ := rebS hS0 (by rw [e6]; exact (Nat.le_trans (Nat.le_refl _) (Nat.le_trans z2 z7))) Xq14 sn14 gr14 hZ hown
    obtain ⟨b16, c17, rfl, Nq14, K14, P14_0, P14_1, P14_2, P14_3⟩ := hQ14
    have N14 := Fr.app N0 Nq14
    have z18 := K14.1
    have Sf19 := cr14.safe (Nat.lt_of_lt_of_le V1.lt z7) Sf8
    have Sf20 := cr14.safe A6.lt Sf11
    have CC21 := CC9.trans cr14
    have e14 : T14.heap = T14.heap := rfl
    refine Wp.tr (S' := T14.setTop (mkF m 59 #[.val (.int p1), .val (.int (0 : Int32)), .val (.ref b1)] [(.ref b6)])) st14 ?_
    have AvQ : Arv Z T14.heap b16 c17 .byte (Int32.ofNat ((own_cs p1 (0 : Int32))).length) (own_bytes (own_cs p1 (0 : Int32))) (.int (0 : Int32)) := P14_3
    have K22 := Keep.refl h0 []
    have K23 := K22.ext E1
    have K24 := K23.ext E6
    have K25 := K24.trans K14 (allS (Or.inr (Nat.le_trans z2 (Nat.le_of_eq g6.symm))) all0)
    exact Wp.retH X14 hlk hS14 (by rw [e14]; exact (Nat.le_refl _)) (v := (some (.ref b6))) (fun h => by rw [Bd.returns] at h; cases h) (fun fs hr => retOut X14 hx Bd.returns rfl (Or.inr (Or.inr (Or.inr (Or.inr ⟨rfl, rfl, rfl⟩)))) (hb hby d1_59) hr) (by decide) (by decide) (show Q_rm1 Z p1 (0 : Int32) zcs h0 n0 _ T14.heap _ by rw [e14]; exact ⟨b6, b16, c17, rfl, N14, K25, P14_0, P14_1, P14_2, AvQ⟩) (by rw [hh, e14]; exact CC21.trans (CHv.at X14 hZ14 hEL CC21.1))
  · have _u := True.intro
    refine Wp.st (S' := s₁.setTop (mkF m 1 #[.val (.int p1), .val (.int (1 : Int32)), .unset] [(.int (1 : Int32))])) (fun tt_ kk_ => XS.iloadN X0.here hx rfl (hb hby d1_0) rfl  kk_) ?_
    obtain ⟨T26, h26, k26, X26, e26, E26, A26, st26⟩ := newP X0 hx hZ (hw _ (List.mem_of_getElem? (i := 4) rfl)) e0 (g := (mkF m 1 #[.val (.int p1), .val (.int (1 : Int32)), .unset] [(.int (1 : Int32))])) rfl (hb hby d1_1) rfl (by decide) (cap := 1) (by decide) (by decide) (by decide) (by decide)
    obtain ⟨b26, g26⟩ : ∃ z, z = h0.size := ⟨_, rfl⟩
    rw [← g26] at A26 st26
    have z27 := E26.1
    have CC28 := CC0.trans (CHr.ext E26 CC0.1)
    have V26 : Arv Z h26 b26 k26 .char (1 : Int32) [(.int (0 : Int32))] (.int (0 : Int32)) := (Arv.new A26 (by decide)).pad (pad_rep [] (.int (0 : Int32)) 1)
    have g29 : n0 ≤ b26 := Nat.le_trans (Nat.le_trans Z0 (Nat.le_refl _)) (Nat.le_of_eq g26.symm)
    have Sf30 := Safe.ext E26 CC0.1 (Safe.new (x := b26) (Nat.le_of_eq g26.symm))
    refine Wp.st (S' := T26.setTop (mkF m 3 #[.val (.int p1), .val (.int (1 : Int32)), .unset] [(.ref b26)])) st26 ?_
    refine Wp.st (S' := T26.setTop (mkF m 4 #[.val (.int p1), .val (.int (1 : Int32)), .val (.ref b26)] [])) (fun tt_ kk_ => XS.astoreN X26.here hx rfl (hb hby d1_3) rfl rfl (l' := #[.val (.int p1), .val (.int (1 : Int32)), .val (.ref b26)]) rfl kk_) ?_
    refine Wp.st (S' := T26.setTop (mkF m 5 #[.val (.int p1), .val (.int (1 : Int32)), .val (.ref b26)] [(.int (1 : Int32))])) (fun tt_ kk_ => XS.iloadN X26.here hx rfl (hb hby d1_4) rfl  kk_) ?_
    refine Wp.st (S' := T26.setTop (mkF m 8 #[.val (.int p1), .val (.int (1 : Int32)), .val (.ref b26)] [])) (fun tt_ kk_ => XS.ifNo X26.here hx rfl (hb hby d1_5) rfl ((if0 _ _).trans (tlt ((by decide) : (0 : Int32) < (1 : Int32))).2.2.2) kk_) ?_
    refine Wp.st (S' := T26.setTop (mkF m 9 #[.val (.int p1), .val (.int (1 : Int32)), .val (.ref b26)] [(.ref b26)])) (fun tt_ kk_ => XS.aloadN X26.here hx rfl (hb hby d1_8) rfl rfl kk_) ?_
    refine Wp.st (S' := T26.setTop (mkF m 10 #[.val (.int p1), .val (.int (1 : Int32)), .val (.ref b26)] [(.int (0 : Int32)), (.ref b26)])) (fun tt_ kk_ => XS.iconst X26.here hx rfl (hb hby d1_9) kk_) ?_
    refine Wp.st (S' := T26.setTop (mkF m 11 #[.val (.int p1), .val (.int (1 : Int32)), .val (.ref b26)] [(.int p1), (.int (0 : Int32)), (.ref b26)])) (fun tt_ kk_ => XS.iloadN X26.here hx rfl (hb hby d1_10) rfl  kk_) ?_
    refine Wp.st (S' := T26.setTop (mkF m 14 #[.val (.int p1), .val (.int (1 : Int32)), .val (.ref b26)] [(.int (255 : Int32)), (.int p1), (.int (0 : Int32)), (.ref b26)])) (fun tt_ kk_ => XS.sipush X26.here hx rfl (hb hby d1_11) kk_) ?_
    refine Wp.st (S' := T26.setTop (mkF m 15 #[.val (.int p1), .val (.int (1 : Int32)), .val (.ref b26)] [(.int (p1 &&& (255 : Int32))), (.int (0 : Int32)), (.ref b26)])) (fun tt_ kk_ => XS.iand X26.here hx rfl (hb hby d1_14) rfl kk_) ?_
    refine Wp.st (S' := T26.setTop (mkF m 16 #[.val (.int p1), .val (.int (1 : Int32)), .val (.ref b26)] [(.int ((p1 &&& (255 : Int32)).toUInt32.toUInt16.toUInt32.toInt32)), (.int (0 : Int32)), (.ref b26)])) (fun tt_ kk_ => XS.i2c X26.here hx rfl (hb hby d1_15) rfl kk_) ?_
    obtain ⟨cl31, Ar31, q31, S31, N31, H31, G31⟩ := id V26
    have hin31 := inb_of (j := (0 : Int32)) S31 ⟨by decide, by decide⟩
    obtain ⟨T31, h31, X31, e31, W31, st31⟩ := stC X26 hx hZ e26 Ar31 (j := (0 : Int32)) hin31 (g := (mkF m 16 #[.val (.int p1), .val (.int (1 : Int32)), .val (.ref b26)] [(.int ((p1 &&& (255 : Int32)).toUInt32.toUInt16.toUInt32.toInt32)), (.int (0 : Int32)), (.ref b26)])) rfl rfl (hb hby d1_16)
    have z32 := Nat.le_of_eq W31.size.symm
    have Sf33 := Safe.wr W31 (Safe.arv hZ.alike V26 (by decide)) CC28.1 Sf30
    have CC34 := CC28.trans (CHr.wr W31 (Safe.arv hZ.alike V26 (by decide)) CC28.1)
    have V31 : Arv Z h31 b26 k26 .char (1 : Int32) [(.int (nar .char ((p1 &&& (255 : Int32)).toUInt32.toUInt16.toUInt32.toInt32)))] (.int (0 : Int32)) := Arv.set Ar31 q31 S31 N31 H31 G31 (fits_nar_char _) W31 0 rfl (Nat.le_of_ble_eq_true rfl)
    have Nf31 := Fr.snoc X31 N0 g29
    refine Wp.st (S' := T31.setTop (mkF m 17 #[.val (.int p1), .val (.int (1 : Int32)), .val (.ref b26)] [])) st31 ?_
    refine Wp.st (S' := T31.setTop (mkF m 18 #[.val (.int p1), .val (.int (1 : Int32)), .val (.ref b26)] [(.int (1 : Int32))])) (fun tt_ kk_ => XS.iloadN X31.here hx rfl (hb hby d1_17) rfl  kk_) ?_
    refine Wp.st (S' := T31.setTop (mkF m 19 #[.val (.int p1), .val (.int (1 : Int32)), .val (.ref b26)] [(.int (1 : Int32)), (.int (1 : Int32))])) (fun tt_ kk_ => XS.iconst X31.here hx rfl (hb hby d1_18) kk_) ?_
    refine Wp.st (S' := T31.setTop (mkF m 34 #[.val (.int p1), .val (.int (1 : Int32)), .val (.ref b26)] [])) (fun tt_ kk_ => XS.icmpYes X31.here hx rfl (pc0 := 19) (pc' := 34) rfl (hb hby d1_19) rfl (flt ((by decide) : ¬ ((1 : Int32) < (1 : Int32)))).2.2.2 (by decide) (by decide) kk_) ?_
    refine Wp.st (S' := T31.setTop (mkF m 35 #[.val (.int p1), .val (.int (1 : Int32)), .val (.ref b26)] [(.int (1 : Int32))])) (fun tt_ kk_ => XS.iloadN X31.here hx rfl (hb hby d1_34) rfl  kk_) ?_
    refine Wp.st (S' := T31.setTop (mkF m 36 #[.val (.int p1), .val (.int (1 : Int32)), .val (.ref b26)] [(.int (2 : Int32)), (.int (1 : Int32))])) (fun tt_ kk_ => XS.iconst X31.here hx rfl (hb hby d1_35) kk_) ?_
    refine Wp.st (S' := T31.setTop (mkF m 51 #[.val (.int p1), .val (.int (1 : Int32)), .val (.ref b26)] [])) (fun tt_ kk_ => XS.icmpYes X31.here hx rfl (pc0 := 36) (pc' := 51) rfl (hb hby d1_36) rfl (flt ((by decide) : ¬ ((2 : Int32) < (1 : Int32)))).2.2.2 (by decide) (by decide) kk_) ?_
    obtain ⟨T35, h35, X35, e35, E35, A35, D35, U35, st35⟩ := newO X31 hx hZ hown (hw _ (List.mem_of_getElem? (i := 5) rfl)) (hw _ (List.mem_of_getElem? (i := 6) rfl)) (hw _ (List.mem_of_getElem? (i := 7) rfl)) e31 (g := (mkF m 51 #[.val (.int p1), .val (.int (1 : Int32)), .val (.ref b26)] [])) rfl (hb hby d1_51) (by decide) (by decide)
    obtain ⟨b35, g35⟩ : ∃ z, z = h31.size := ⟨_, rfl⟩
    rw [← g35] at A35 D35 U35 st35
    have z36 := E35.1
    have Sf37 := Safe.ext E35 CC34.1 Sf33
    have CC38 := CC34.trans (CHr.ext E35 CC34.1)
    have g39 : n0 ≤ b35 := Nat.le_trans (Nat.le_trans Z0 (Nat.le_trans z27 z32)) (Nat.le_of_eq g35.symm)
    have Sf40 := Safe.ext E35 CC34.1 (Safe.new (x := b35) (Nat.le_of_eq g35.symm))
    have F41 : Fld Z h35 b35 "java/lang/String" "value" "[B" .null := D35 (Or.inr (hw _ (List.mem_of_getElem? (i := 20) rfl))) (ty := (.array .byte)) (by decide)
    have F42 : Fld Z h35 b35 "java/lang/String" "coder" "B" (.int (0 : Int32)) := D35 (Or.inr (hw _ (List.mem_of_getElem? (i := 21) rfl))) (ty := .byte) (by decide)
    refine Wp.st (S' := T35.setTop (mkF m 54 #[.val (.int p1), .val (.int (1 : Int32)), .val (.ref b26)] [(.ref b35)])) st35 ?_
    refine Wp.st (S' := T35.setTop (mkF m 55 #[.val (.int p1), .val (.int (1 : Int32)), .val (.ref b26)] [(.ref b35), (.ref b35)])) (fun tt_ kk_ => XS.dup X35.here hx rfl (hb hby d1_54) rfl rfl kk_) ?_
    refine Wp.st (S' := T35.setTop (mkF m 56 #[.val (.int p1), .val (.int (1 : Int32)), .val (.ref b26)] [(.ref b26), (.ref b35), (.ref b35)])) (fun tt_ kk_ => XS.aloadN X35.here hx rfl (hb hby d1_55) rfl rfl kk_) ?_
    have hp44 : ∀ c ∈ ([(nar .char ((p1 &&& (255 : Int32)).toUInt32.toUInt16.toUInt32.toInt32))] : List Int32), ¬ c < 0 ∧ ¬ (255 : Int32) < c := (by
          intro c hc
          simp only [List.mem_cons, List.not_mem_nil, or_false] at hc
          subst hc
          all_goals first | exact own_ch255 _ | decide)
    have F45 := V31.ext E35
    have O46 := O0.ext E26
    have O47 := O46.wr W31 g29
    have O48 := O47.ext E35
    obtain ⟨vv43, _, ⟨T43, L43, k43, n43⟩, -, X43, ⟨Lc43, hQ43, l43, y43, z43⟩, st43⟩ := X35.specialBack hx (y := (⟨"java/lang/String", "<init>", "([C)V"⟩ : MethodName)) rfl hown (mvT hZ (hw _ (List.mem_of_getElem? (i := 8) rfl))) (mvT hZ (hw _ (List.mem_of_getElem? (i := 9) rfl))) (mvT hZ (hw _ (List.mem_of_getElem? (i := 10) rfl))) (by decide) (StrChars.Road.backV (W := 1) hZ (fun d hd => hw d ((by decide +kernel : ∀ d ∈ StrChars.Road.words, d ∈ tables_1) d hd)) (kI := 4) (hw _ (List.mem_of_getElem? (i := 6) rfl)) (cs := ([(nar .char ((p1 &&& (255 : Int32)).toUInt32.toUInt16.toUInt32.toInt32))] : List Int32)) (bs := (([(nar .char ((p1 &&& (255 : Int32)).toUInt32.toUInt16.toUInt32.toInt32))] : List Int32).map (fun c => c.toInt8.toInt32))) (n := 1) g39 (Nat.le_trans Z0 (Nat.le_trans (Nat.le_trans z27 z32) z36)) A35 F41 F42 F45 (SCompact.ext O48.2) hCS rfl rfl (by decide) (by decide) hp44 rfl (by decide) (by decide)) (g := (mkF m 56 #[.val (.int p1), .val (.int (1 : Int32)), .val (.ref b26)] [(.ref b26), (.ref b35), (.ref b35)])) rfl (by rw [hml]; rfl) (Steps.refl _) (a := b35) (argsL := [(.ref b26)]) (rest := [(.ref b35)]) (lenOf pd_1 rfl) rfl (by show 2 * 0 + _ ≤ _; exact Nat.le_of_eq rfl) (hb hby d1_56) (fun _ _ => ⟨rfl, e35, (by decide : 2 + 1 ≤ _), (by decide : 5 + 1 ≤ _)⟩)
    dsimp only [Pt.U, Pt.locs, Pt.cells, Pt.slots] at X43 l43 y43 z43 st43 hQ43
    subst l43 y43 z43
    obtain ⟨rfl, Nq43, K43, Ex43, Co43, t43, kb43, ga43, gb43, gn43, Va43, Av43⟩ := hQ43
    have N43 := Fr.app Nf31 Nq43
    have z49 := K43.1
    have Sf50 := Safe.keep K43 (sfS Sf40 sf0) CC38.1 Sf37
    have Sf51 := Safe.keep K43 (sfS Sf40 sf0) CC38.1 Sf40
    have CC52 := CC38.trans (CHr.keep K43 (sfS Sf40 sf0) CC38.1)
    have g53 : n0 ≤ t43 := Nat.le_trans (Nat.le_trans Z0 (Nat.le_trans (Nat.le_trans z27 z32) z36)) gb43
    have e43 : T43.heap = T43.heap := rfl
    refine Wp.tr (S' := T43.setTop (mkF m 59 #[.val (.int p1), .val (.int (1 : Int32)), .val (.ref b26)] [(.ref b35)])) st43 ?_
    have eL : own_cs p1 (1 : Int32) = [nar .char ((p1 &&& (255 : Int32))).toUInt32.toUInt16.toUInt32.toInt32] := by rw [own_cs1]; simp only [own_chr]; rfl
    have AvQ : Arv Z T43.heap t43 kb43 .byte (Int32.ofNat ((own_cs p1 (1 : Int32))).length) (own_bytes (own_cs p1 (1 : Int32))) (.int (0 : Int32)) := by rw [eL]; exact Av43
    have K54 := Keep.refl h0 []
    have K55 := K54.ext E26
    have K56 := K55.wr W31 (Or.inr (Nat.le_trans (Nat.le_refl _) (Nat.le_of_eq g26.symm)))
    have K57 := K56.ext E35
    have K58 := K57.trans K43 (allS (Or.inr (Nat.le_trans (Nat.le_trans z27 z32) (Nat.le_of_eq g35.symm))) all0)
    exact Wp.retH X43 hlk hS0 (by rw [e43]; exact (Nat.le_trans (Nat.le_refl _) (Nat.le_trans (Nat.le_trans (Nat.le_trans z27 z32) z36) z49))) (v := (some (.ref b35))) (fun h => by rw [Bd.returns] at h; cases h) (fun fs hr => retOut X43 hx Bd.returns rfl (Or.inr (Or.inr (Or.inr (Or.inr ⟨rfl, rfl, rfl⟩)))) (hb hby d1_59) hr) (by decide) (by decide) (show Q_rm1 Z p1 (1 : Int32) zcs h0 n0 _ T43.heap _ by rw [e43]; exact ⟨b35, t43, kb43, rfl, N43, K58, Ex43, Va43, Co43, AvQ⟩) (by rw [hh, e43]; exact CC52.trans (CHv.at X43 hZ hEL CC52.1))
  · have _u := True.intro
    refine Wp.st (S' := s₁.setTop (mkF m 1 #[.val (.int p1), .val (.int (2 : Int32)), .unset] [(.int (2 : Int32))])) (fun tt_ kk_ => XS.iloadN X0.here hx rfl (hb hby d1_0) rfl  kk_) ?_
    obtain ⟨T59, h59, k59, X59, e59, E59, A59, st59⟩ := newP X0 hx hZ (hw _ (List.mem_of_getElem? (i := 4) rfl)) e0 (g := (mkF m 1 #[.val (.int p1), .val (.int (2 : Int32)), .unset] [(.int (2 : Int32))])) rfl (hb hby d1_1) rfl (by decide) (cap := 2) (by decide) (by decide) (by decide) (by decide)
    obtain ⟨b59, g59⟩ : ∃ z, z = h0.size := ⟨_, rfl⟩
    rw [← g59] at A59 st59
    have z60 := E59.1
    have CC61 := CC0.trans (CHr.ext E59 CC0.1)
    have V59 : Arv Z h59 b59 k59 .char (2 : Int32) [(.int (0 : Int32)), (.int (0 : Int32))] (.int (0 : Int32)) := (Arv.new A59 (by decide)).pad (pad_rep [] (.int (0 : Int32)) 2)
    have g62 : n0 ≤ b59 := Nat.le_trans (Nat.le_trans Z0 (Nat.le_refl _)) (Nat.le_of_eq g59.symm)
    have Sf63 := Safe.ext E59 CC0.1 (Safe.new (x := b59) (Nat.le_of_eq g59.symm))
    refine Wp.st (S' := T59.setTop (mkF m 3 #[.val (.int p1), .val (.int (2 : Int32)), .unset] [(.ref b59)])) st59 ?_
    refine Wp.st (S' := T59.setTop (mkF m 4 #[.val (.int p1), .val (.int (2 : Int32)), .val (.ref b59)] [])) (fun tt_ kk_ => XS.astoreN X59.here hx rfl (hb hby d1_3) rfl rfl (l' := #[.val (.int p1), .val (.int (2 : Int32)), .val (.ref b59)]) rfl kk_) ?_
    refine Wp.st (S' := T59.setTop (mkF m 5 #[.val (.int p1), .val (.int (2 : Int32)), .val (.ref b59)] [(.int (2 : Int32))])) (fun tt_ kk_ => XS.iloadN X59.here hx rfl (hb hby d1_4) rfl  kk_) ?_
    refine Wp.st (S' := T59.setTop (mkF m 8 #[.val (.int p1), .val (.int (2 : Int32)), .val (.ref b59)] [])) (fun tt_ kk_ => XS.ifNo X59.here hx rfl (hb hby d1_5) rfl ((if0 _ _).trans (tlt ((by decide) : (0 : Int32) < (2 : Int32))).2.2.2) kk_) ?_
    refine Wp.st (S' := T59.setTop (mkF m 9 #[.val (.int p1), .val (.int (2 : Int32)), .val (.ref b59)] [(.ref b59)])) (fun tt_ kk_ => XS.aloadN X59.here hx rfl (hb hby d1_8) rfl rfl kk_) ?_
    refine Wp.st (S' := T59.setTop (mkF m 10 #[.val (.int p1), .val (.int (2 : Int32)), .val (.ref b59)] [(.int (0 : Int32)), (.ref b59)])) (fun tt_ kk_ => XS.iconst X59.here hx rfl (hb hby d1_9) kk_) ?_
    refine Wp.st (S' := T59.setTop (mkF m 11 #[.val (.int p1), .val (.int (2 : Int32)), .val (.ref b59)] [(.int p1), (.int (0 : Int32)), (.ref b59)])) (fun tt_ kk_ => XS.iloadN X59.here hx rfl (hb hby d1_10) rfl  kk_) ?_
    refine Wp.st (S' := T59.setTop (mkF m 14 #[.val (.int p1), .val (.int (2 : Int32)), .val (.ref b59)] [(.int (255 : Int32)), (.int p1), (.int (0 : Int32)), (.ref b59)])) (fun tt_ kk_ => XS.sipush X59.here hx rfl (hb hby d1_11) kk_) ?_
    refine Wp.st (S' := T59.setTop (mkF m 15 #[.val (.int p1), .val (.int (2 : Int32)), .val (.ref b59)] [(.int (p1 &&& (255 : Int32))), (.int (0 : Int32)), (.ref b59)])) (fun tt_ kk_ => XS.iand X59.here hx rfl (hb hby d1_14) rfl kk_) ?_
    refine Wp.st (S' := T59.setTop (mkF m 16 #[.val (.int p1), .val (.int (2 : Int32)), .val (.ref b59)] [(.int ((p1 &&& (255 : Int32)).toUInt32.toUInt16.toUInt32.toInt32)), (.int (0 : Int32)), (.ref b59)])) (fun tt_ kk_ => XS.i2c X59.here hx rfl (hb hby d1_15) rfl kk_) ?_
    obtain ⟨cl64, Ar64, q64, S64, N64, H64, G64⟩ := id V59
    have hin64 := inb_of (j := (0 : Int32)) S64 ⟨by decide, by decide⟩
    obtain ⟨T64, h64, X64, e64, W64, st64⟩ := stC X59 hx hZ e59 Ar64 (j := (0 : Int32)) hin64 (g := (mkF m 16 #[.val (.int p1), .val (.int (2 : Int32)), .val (.ref b59)] [(.int ((p1 &&& (255 : Int32)).toUInt32.toUInt16.toUInt32.toInt32)), (.int (0 : Int32)), (.ref b59)])) rfl rfl (hb hby d1_16)
    have z65 := Nat.le_of_eq W64.size.symm
    have Sf66 := Safe.wr W64 (Safe.arv hZ.alike V59 (by decide)) CC61.1 Sf63
    have CC67 := CC61.trans (CHr.wr W64 (Safe.arv hZ.alike V59 (by decide)) CC61.1)
    have V64 : Arv Z h64 b59 k59 .char (2 : Int32) [(.int (nar .char ((p1 &&& (255 : Int32)).toUInt32.toUInt16.toUInt32.toInt32))), (.int (0 : Int32))] (.int (0 : Int32)) := Arv.set Ar64 q64 S64 N64 H64 G64 (fits_nar_char _) W64 0 rfl (Nat.le_of_ble_eq_true rfl)
    have Nf64 := Fr.snoc X64 N0 g62
    refine Wp.st (S' := T64.setTop (mkF m 17 #[.val (.int p1), .val (.int (2 : Int32)), .val (.ref b59)] [])) st64 ?_
    refine Wp.st (S' := T64.setTop (mkF m 18 #[.val (.int p1), .val (.int (2 : Int32)), .val (.ref b59)] [(.int (2 : Int32))])) (fun tt_ kk_ => XS.iloadN X64.here hx rfl (hb hby d1_17) rfl  kk_) ?_
    refine Wp.st (S' := T64.setTop (mkF m 19 #[.val (.int p1), .val (.int (2 : Int32)), .val (.ref b59)] [(.int (1 : Int32)), (.int (2 : Int32))])) (fun tt_ kk_ => XS.iconst X64.here hx rfl (hb hby d1_18) kk_) ?_
    refine Wp.st (S' := T64.setTop (mkF m 22 #[.val (.int p1), .val (.int (2 : Int32)), .val (.ref b59)] [])) (fun tt_ kk_ => XS.icmpNo X64.here hx rfl (hb hby d1_19) rfl (tlt ((by decide) : (1 : Int32) < (2 : Int32))).2.2.2 kk_) ?_
    refine Wp.st (S' := T64.setTop (mkF m 23 #[.val (.int p1), .val (.int (2 : Int32)), .val (.ref b59)] [(.ref b59)])) (fun tt_ kk_ => XS.aloadN X64.here hx rfl (hb hby d1_22) rfl rfl kk_) ?_
    refine Wp.st (S' := T64.setTop (mkF m 24 #[.val (.int p1), .val (.int (2 : Int32)), .val (.ref b59)] [(.int (1 : Int32)), (.ref b59)])) (fun tt_ kk_ => XS.iconst X64.here hx rfl (hb hby d1_23) kk_) ?_
    refine Wp.st (S' := T64.setTop (mkF m 25 #[.val (.int p1), .val (.int (2 : Int32)), .val (.ref b59)] [(.int p1), (.int (1 : Int32)), (.ref b59)])) (fun tt_ kk_ => XS.iloadN X64.here hx rfl (hb hby d1_24) rfl  kk_) ?_
    refine Wp.st (S' := T64.setTop (mkF m 27 #[.val (.int p1), .val (.int (2 : Int32)), .val (.ref b59)] [(.int (8 : Int32)), (.int p1), (.int (1 : Int32)), (.ref b59)])) (fun tt_ kk_ => XS.bipush X64.here hx rfl (hb hby d1_25) kk_) ?_
    refine Wp.st (S' := T64.setTop (mkF m 28 #[.val (.int p1), .val (.int (2 : Int32)), .val (.ref b59)] [(.int ((p1.toUInt32 >>> ((8 : Int32) &&& 31).toUInt32).toInt32)), (.int (1 : Int32)), (.ref b59)])) (fun tt_ kk_ => XS.iushr X64.here hx rfl (hb hby d1_27) rfl kk_) ?_
    refine Wp.st (S' := T64.setTop (mkF m 31 #[.val (.int p1), .val (.int (2 : Int32)), .val (.ref b59)] [(.int (255 : Int32)), (.int ((p1.toUInt32 >>> ((8 : Int32) &&& 31).toUInt32).toInt32)), (.int (1 : Int32)), (.ref b59)])) (fun tt_ kk_ => XS.sipush X64.here hx rfl (hb hby d1_28) kk_) ?_
    refine Wp.st (S' := T64.setTop (mkF m 32 #[.val (.int p1), .val (.int (2 : Int32)), .val (.ref b59)] [(.int (((p1.toUInt32 >>> ((8 : Int32) &&& 31).toUInt32).toInt32) &&& (255 : Int32))), (.int (1 : Int32)), (.ref b59)])) (fun tt_ kk_ => XS.iand X64.here hx rfl (hb hby d1_31) rfl kk_) ?_
    refine Wp.st (S' := T64.setTop (mkF m 33 #[.val (.int p1), .val (.int (2 : Int32)), .val (.ref b59)] [(.int ((((p1.toUInt32 >>> ((8 : Int32) &&& 31).toUInt32).toInt32) &&& (255 : Int32)).toUInt32.toUInt16.toUInt32.toInt32)), (.int (1 : Int32)), (.ref b59)])) (fun tt_ kk_ => XS.i2c X64.here hx rfl (hb hby d1_32) rfl kk_) ?_
    obtain ⟨cl68, Ar68, q68, S68, N68, H68, G68⟩ := id V64
    have hin68 := inb_of (j := (1 : Int32)) S68 ⟨by decide, by decide⟩
    obtain ⟨T68, h68, X68, e68, W68, st68⟩ := stC X64 hx hZ e64 Ar68 (j := (1 : Int32)) hin68 (g := (mkF m 33 #[.val (.int p1), .val (.int (2 : Int32)), .val (.ref b59)] [(.int ((((p1.toUInt32 >>> ((8 : Int32) &&& 31).toUInt32).toInt32) &&& (255 : Int32)).toUInt32.toUInt16.toUInt32.toInt32)), (.int (1 : Int32)), (.ref b59)])) rfl rfl (hb hby d1_33)
    have z69 := Nat.le_of_eq W68.size.symm
    have Sf70 := Safe.wr W68 (Safe.arv hZ.alike V64 (by decide)) CC67.1 Sf66
    have CC71 := CC67.trans (CHr.wr W68 (Safe.arv hZ.alike V64 (by decide)) CC67.1)
    have V68 : Arv Z h68 b59 k59 .char (2 : Int32) [(.int (nar .char ((p1 &&& (255 : Int32)).toUInt32.toUInt16.toUInt32.toInt32))), (.int (nar .char ((((p1.toUInt32 >>> ((8 : Int32) &&& 31).toUInt32).toInt32) &&& (255 : Int32)).toUInt32.toUInt16.toUInt32.toInt32)))] (.int (0 : Int32)) := Arv.set Ar68 q68 S68 N68 H68 G68 (fits_nar_char _) W68 1 rfl (Nat.le_of_ble_eq_true rfl)
    have Nf68 := Fr.snoc X68 Nf64 g62
    refine Wp.st (S' := T68.setTop (mkF m 34 #[.val (.int p1), .val (.int (2 : Int32)), .val (.ref b59)] [])) st68 ?_
    refine Wp.st (S' := T68.setTop (mkF m 35 #[.val (.int p1), .val (.int (2 : Int32)), .val (.ref b59)] [(.int (2 : Int32))])) (fun tt_ kk_ => XS.iloadN X68.here hx rfl (hb hby d1_34) rfl  kk_) ?_
    refine Wp.st (S' := T68.setTop (mkF m 36 #[.val (.int p1), .val (.int (2 : Int32)), .val (.ref b59)] [(.int (2 : Int32)), (.int (2 : Int32))])) (fun tt_ kk_ => XS.iconst X68.here hx rfl (hb hby d1_35) kk_) ?_
    refine Wp.st (S' := T68.setTop (mkF m 51 #[.val (.int p1), .val (.int (2 : Int32)), .val (.ref b59)] [])) (fun tt_ kk_ => XS.icmpYes X68.here hx rfl (pc0 := 36) (pc' := 51) rfl (hb hby d1_36) rfl (flt ((by decide) : ¬ ((2 : Int32) < (2 : Int32)))).2.2.2 (by decide) (by decide) kk_) ?_
    obtain ⟨T72, h72, X72, e72, E72, A72, D72, U72, st72⟩ := newO X68 hx hZ hown (hw _ (List.mem_of_getElem? (i := 5) rfl)) (hw _ (List.mem_of_getElem? (i := 6) rfl)) (hw _ (List.mem_of_getElem? (i := 7) rfl)) e68 (g := (mkF m 51 #[.val (.int p1), .val (.int (2 : Int32)), .val (.ref b59)] [])) rfl (hb hby d1_51) (by decide) (by decide)
    obtain ⟨b72, g72⟩ : ∃ z, z = h68.size := ⟨_, rfl⟩
    rw [← g72] at A72 D72 U72 st72
    have z73 := E72.1
    have Sf74 := Safe.ext E72 CC71.1 Sf70
    have CC75 := CC71.trans (CHr.ext E72 CC71.1)
    have g76 : n0 ≤ b72 := Nat.le_trans (Nat.le_trans Z0 (Nat.le_trans (Nat.le_trans z60 z65) z69)) (Nat.le_of_eq g72.symm)
    have Sf77 := Safe.ext E72 CC71.1 (Safe.new (x := b72) (Nat.le_of_eq g72.symm))
    have F78 : Fld Z h72 b72 "java/lang/String" "value" "[B" .null := D72 (Or.inr (hw _ (List.mem_of_getElem? (i := 20) rfl))) (ty := (.array .byte)) (by decide)
    have F79 : Fld Z h72 b72 "java/lang/String" "coder" "B" (.int (0 : Int32)) := D72 (Or.inr (hw _ (List.mem_of_getElem? (i := 21) rfl))) (ty := .byte) (by decide)
    refine Wp.st (S' := T72.setTop (mkF m 54 #[.val (.int p1), .val (.int (2 : Int32)), .val (.ref b59)] [(.ref b72)])) st72 ?_
    refine Wp.st (S' := T72.setTop (mkF m 55 #[.val (.int p1), .val (.int (2 : Int32)), .val (.ref b59)] [(.ref b72), (.ref b72)])) (fun tt_ kk_ => XS.dup X72.here hx rfl (hb hby d1_54) rfl rfl kk_) ?_
    refine Wp.st (S' := T72.setTop (mkF m 56 #[.val (.int p1), .val (.int (2 : Int32)), .val (.ref b59)] [(.ref b59), (.ref b72), (.ref b72)])) (fun tt_ kk_ => XS.aloadN X72.here hx rfl (hb hby d1_55) rfl rfl kk_) ?_
    have hp81 : ∀ c ∈ ([(nar .char ((p1 &&& (255 : Int32)).toUInt32.toUInt16.toUInt32.toInt32)), (nar .char ((((p1.toUInt32 >>> ((8 : Int32) &&& 31).toUInt32).toInt32) &&& (255 : Int32)).toUInt32.toUInt16.toUInt32.toInt32))] : List Int32), ¬ c < 0 ∧ ¬ (255 : Int32) < c := (by
          intro c hc
          simp only [List.mem_cons, List.not_mem_nil, or_false] at hc
          rcases hc with rfl | rfl
          all_goals first | exact own_ch255 _ | decide)
    have F82 := V68.ext E72
    have O83 := O0.ext E59
    have O84 := O83.wr W64 g62
    have O85 := O84.wr W68 g62
    have O86 := O85.ext E72
    obtain ⟨vv80, _, ⟨T80, L80, k80, n80⟩, -, X80, ⟨Lc80, hQ80, l80, y80, z80⟩, st80⟩ := X72.specialBack hx (y := (⟨"java/lang/String", "<init>", "([C)V"⟩ : MethodName)) rfl hown (mvT hZ (hw _ (List.mem_of_getElem? (i := 8) rfl))) (mvT hZ (hw _ (List.mem_of_getElem? (i := 9) rfl))) (mvT hZ (hw _ (List.mem_of_getElem? (i := 10) rfl))) (by decide) (StrChars.Road.backV (W := 1) hZ (fun d hd => hw d ((by decide +kernel : ∀ d ∈ StrChars.Road.words, d ∈ tables_1) d hd)) (kI := 4) (hw _ (List.mem_of_getElem? (i := 6) rfl)) (cs := ([(nar .char ((p1 &&& (255 : Int32)).toUInt32.toUInt16.toUInt32.toInt32)), (nar .char ((((p1.toUInt32 >>> ((8 : Int32) &&& 31).toUInt32).toInt32) &&& (255 : Int32)).toUInt32.toUInt16.toUInt32.toInt32))] : List Int32)) (bs := (([(nar .char ((p1 &&& (255 : Int32)).toUInt32.toUInt16.toUInt32.toInt32)), (nar .char ((((p1.toUInt32 >>> ((8 : Int32) &&& 31).toUInt32).toInt32) &&& (255 : Int32)).toUInt32.toUInt16.toUInt32.toInt32))] : List Int32).map (fun c => c.toInt8.toInt32))) (n := 2) g76 (Nat.le_trans Z0 (Nat.le_trans (Nat.le_trans (Nat.le_trans z60 z65) z69) z73)) A72 F78 F79 F82 (SCompact.ext O86.2) hCS rfl rfl (by decide) (by decide) hp81 rfl (by decide) (by decide)) (g := (mkF m 56 #[.val (.int p1), .val (.int (2 : Int32)), .val (.ref b59)] [(.ref b59), (.ref b72), (.ref b72)])) rfl (by rw [hml]; rfl) (Steps.refl _) (a := b72) (argsL := [(.ref b59)]) (rest := [(.ref b72)]) (lenOf pd_1 rfl) rfl (by show 2 * 0 + _ ≤ _; exact Nat.le_of_eq rfl) (hb hby d1_56) (fun _ _ => ⟨rfl, e72, (by decide : 2 + 1 ≤ _), (by decide : 6 + 2 ≤ _)⟩)
    dsimp only [Pt.U, Pt.locs, Pt.cells, Pt.slots] at X80 l80 y80 z80 st80 hQ80
    subst l80 y80 z80
    obtain ⟨rfl, Nq80, K80, Ex80, Co80, t80, kb80, ga80, gb80, gn80, Va80, Av80⟩ := hQ80
    have N80 := Fr.app Nf68 Nq80
    have z87 := K80.1
    have Sf88 := Safe.keep K80 (sfS Sf77 sf0) CC75.1 Sf74
    have Sf89 := Safe.keep K80 (sfS Sf77 sf0) CC75.1 Sf77
    have CC90 := CC75.trans (CHr.keep K80 (sfS Sf77 sf0) CC75.1)
    have g91 : n0 ≤ t80 := Nat.le_trans (Nat.le_trans Z0 (Nat.le_trans (Nat.le_trans (Nat.le_trans z60 z65) z69) z73)) gb80
    have e80 : T80.heap = T80.heap := rfl
    refine Wp.tr (S' := T80.setTop (mkF m 59 #[.val (.int p1), .val (.int (2 : Int32)), .val (.ref b59)] [(.ref b72)])) st80 ?_
    have eL : own_cs p1 (2 : Int32) = [nar .char ((p1 &&& (255 : Int32))).toUInt32.toUInt16.toUInt32.toInt32, nar .char ((((p1).toUInt32 >>> ((8 : Int32) &&& 31).toUInt32).toInt32 &&& (255 : Int32))).toUInt32.toUInt16.toUInt32.toInt32] := by rw [own_cs2]; simp only [own_chr]; rfl
    have AvQ : Arv Z T80.heap t80 kb80 .byte (Int32.ofNat ((own_cs p1 (2 : Int32))).length) (own_bytes (own_cs p1 (2 : Int32))) (.int (0 : Int32)) := by rw [eL]; exact Av80
    have K92 := Keep.refl h0 []
    have K93 := K92.ext E59
    have K94 := K93.wr W64 (Or.inr (Nat.le_trans (Nat.le_refl _) (Nat.le_of_eq g59.symm)))
    have K95 := K94.wr W68 (Or.inr (Nat.le_trans (Nat.le_refl _) (Nat.le_of_eq g59.symm)))
    have K96 := K95.ext E72
    have K97 := K96.trans K80 (allS (Or.inr (Nat.le_trans (Nat.le_trans (Nat.le_trans z60 z65) z69) (Nat.le_of_eq g72.symm))) all0)
    exact Wp.retH X80 hlk hS0 (by rw [e80]; exact (Nat.le_trans (Nat.le_refl _) (Nat.le_trans (Nat.le_trans (Nat.le_trans (Nat.le_trans z60 z65) z69) z73) z87))) (v := (some (.ref b72))) (fun h => by rw [Bd.returns] at h; cases h) (fun fs hr => retOut X80 hx Bd.returns rfl (Or.inr (Or.inr (Or.inr (Or.inr ⟨rfl, rfl, rfl⟩)))) (hb hby d1_59) hr) (by decide) (by decide) (show Q_rm1 Z p1 (2 : Int32) zcs h0 n0 _ T80.heap _ by rw [e80]; exact ⟨b72, t80, kb80, rfl, N80, K97, Ex80, Va80, Co80, AvQ⟩) (by rw [hh, e80]; exact CC90.trans (CHv.at X80 hZ hEL CC90.1))
  · have _u := True.intro
    refine Wp.st (S' := s₁.setTop (mkF m 1 #[.val (.int p1), .val (.int (3 : Int32)), .unset] [(.int (3 : Int32))])) (fun tt_ kk_ => XS.iloadN X0.here hx rfl (hb hby d1_0) rfl  kk_) ?_
    obtain ⟨T98, h98, k98, X98, e98, E98, A98, st98⟩ := newP X0 hx hZ (hw _ (List.mem_of_getElem? (i := 4) rfl)) e0 (g := (mkF m 1 #[.val (.int p1), .val (.int (3 : Int32)), .unset] [(.int (3 : Int32))])) rfl (hb hby d1_1) rfl (by decide) (cap := 3) (by decide) (by decide) (by decide) (by decide)
    obtain ⟨b98, g98⟩ : ∃ z, z = h0.size := ⟨_, rfl⟩
    rw [← g98] at A98 st98
    have z99 := E98.1
    have CC100 := CC0.trans (CHr.ext E98 CC0.1)
    have V98 : Arv Z h98 b98 k98 .char (3 : Int32) [(.int (0 : Int32)), (.int (0 : Int32)), (.int (0 : Int32))] (.int (0 : Int32)) := (Arv.new A98 (by decide)).pad (pad_rep [] (.int (0 : Int32)) 3)
    have g101 : n0 ≤ b98 := Nat.le_trans (Nat.le_trans Z0 (Nat.le_refl _)) (Nat.le_of_eq g98.symm)
    have Sf102 := Safe.ext E98 CC0.1 (Safe.new (x := b98) (Nat.le_of_eq g98.symm))
    refine Wp.st (S' := T98.setTop (mkF m 3 #[.val (.int p1), .val (.int (3 : Int32)), .unset] [(.ref b98)])) st98 ?_
    refine Wp.st (S' := T98.setTop (mkF m 4 #[.val (.int p1), .val (.int (3 : Int32)), .val (.ref b98)] [])) (fun tt_ kk_ => XS.astoreN X98.here hx rfl (hb hby d1_3) rfl rfl (l' := #[.val (.int p1), .val (.int (3 : Int32)), .val (.ref b98)]) rfl kk_) ?_
    refine Wp.st (S' := T98.setTop (mkF m 5 #[.val (.int p1), .val (.int (3 : Int32)), .val (.ref b98)] [(.int (3 : Int32))])) (fun tt_ kk_ => XS.iloadN X98.here hx rfl (hb hby d1_4) rfl  kk_) ?_
    refine Wp.st (S' := T98.setTop (mkF m 8 #[.val (.int p1), .val (.int (3 : Int32)), .val (.ref b98)] [])) (fun tt_ kk_ => XS.ifNo X98.here hx rfl (hb hby d1_5) rfl ((if0 _ _).trans (tlt ((by decide) : (0 : Int32) < (3 : Int32))).2.2.2) kk_) ?_
    refine Wp.st (S' := T98.setTop (mkF m 9 #[.val (.int p1), .val (.int (3 : Int32)), .val (.ref b98)] [(.ref b98)])) (fun tt_ kk_ => XS.aloadN X98.here hx rfl (hb hby d1_8) rfl rfl kk_) ?_
    refine Wp.st (S' := T98.setTop (mkF m 10 #[.val (.int p1), .val (.int (3 : Int32)), .val (.ref b98)] [(.int (0 : Int32)), (.ref b98)])) (fun tt_ kk_ => XS.iconst X98.here hx rfl (hb hby d1_9) kk_) ?_
    refine Wp.st (S' := T98.setTop (mkF m 11 #[.val (.int p1), .val (.int (3 : Int32)), .val (.ref b98)] [(.int p1), (.int (0 : Int32)), (.ref b98)])) (fun tt_ kk_ => XS.iloadN X98.here hx rfl (hb hby d1_10) rfl  kk_) ?_
    refine Wp.st (S' := T98.setTop (mkF m 14 #[.val (.int p1), .val (.int (3 : Int32)), .val (.ref b98)] [(.int (255 : Int32)), (.int p1), (.int (0 : Int32)), (.ref b98)])) (fun tt_ kk_ => XS.sipush X98.here hx rfl (hb hby d1_11) kk_) ?_
    refine Wp.st (S' := T98.setTop (mkF m 15 #[.val (.int p1), .val (.int (3 : Int32)), .val (.ref b98)] [(.int (p1 &&& (255 : Int32))), (.int (0 : Int32)), (.ref b98)])) (fun tt_ kk_ => XS.iand X98.here hx rfl (hb hby d1_14) rfl kk_) ?_
    refine Wp.st (S' := T98.setTop (mkF m 16 #[.val (.int p1), .val (.int (3 : Int32)), .val (.ref b98)] [(.int ((p1 &&& (255 : Int32)).toUInt32.toUInt16.toUInt32.toInt32)), (.int (0 : Int32)), (.ref b98)])) (fun tt_ kk_ => XS.i2c X98.here hx rfl (hb hby d1_15) rfl kk_) ?_
    obtain ⟨cl103, Ar103, q103, S103, N103, H103, G103⟩ := id V98
    have hin103 := inb_of (j := (0 : Int32)) S103 ⟨by decide, by decide⟩
    obtain ⟨T103, h103, X103, e103, W103, st103⟩ := stC X98 hx hZ e98 Ar103 (j := (0 : Int32)) hin103 (g := (mkF m 16 #[.val (.int p1), .val (.int (3 : Int32)), .val (.ref b98)] [(.int ((p1 &&& (255 : Int32)).toUInt32.toUInt16.toUInt32.toInt32)), (.int (0 : Int32)), (.ref b98)])) rfl rfl (hb hby d1_16)
    have z104 := Nat.le_of_eq W103.size.symm
    have Sf105 := Safe.wr W103 (Safe.arv hZ.alike V98 (by decide)) CC100.1 Sf102
    have CC106 := CC100.trans (CHr.wr W103 (Safe.arv hZ.alike V98 (by decide)) CC100.1)
    have V103 : Arv Z h103 b98 k98 .char (3 : Int32) [(.int (nar .char ((p1 &&& (255 : Int32)).toUInt32.toUInt16.toUInt32.toInt32))), (.int (0 : Int32)), (.int (0 : Int32))] (.int (0 : Int32)) := Arv.set Ar103 q103 S103 N103 H103 G103 (fits_nar_char _) W103 0 rfl (Nat.le_of_ble_eq_true rfl)
    have Nf103 := Fr.snoc X103 N0 g101
    refine Wp.st (S' := T103.setTop (mkF m 17 #[.val (.int p1), .val (.int (3 : Int32)), .val (.ref b98)] [])) st103 ?_
    refine Wp.st (S' := T103.setTop (mkF m 18 #[.val (.int p1), .val (.int (3 : Int32)), .val (.ref b98)] [(.int (3 : Int32))])) (fun tt_ kk_ => XS.iloadN X103.here hx rfl (hb hby d1_17) rfl  kk_) ?_
    refine Wp.st (S' := T103.setTop (mkF m 19 #[.val (.int p1), .val (.int (3 : Int32)), .val (.ref b98)] [(.int (1 : Int32)), (.int (3 : Int32))])) (fun tt_ kk_ => XS.iconst X103.here hx rfl (hb hby d1_18) kk_) ?_
    refine Wp.st (S' := T103.setTop (mkF m 22 #[.val (.int p1), .val (.int (3 : Int32)), .val (.ref b98)] [])) (fun tt_ kk_ => XS.icmpNo X103.here hx rfl (hb hby d1_19) rfl (tlt ((by decide) : (1 : Int32) < (3 : Int32))).2.2.2 kk_) ?_
    refine Wp.st (S' := T103.setTop (mkF m 23 #[.val (.int p1), .val (.int (3 : Int32)), .val (.ref b98)] [(.ref b98)])) (fun tt_ kk_ => XS.aloadN X103.here hx rfl (hb hby d1_22) rfl rfl kk_) ?_
    refine Wp.st (S' := T103.setTop (mkF m 24 #[.val (.int p1), .val (.int (3 : Int32)), .val (.ref b98)] [(.int (1 : Int32)), (.ref b98)])) (fun tt_ kk_ => XS.iconst X103.here hx rfl (hb hby d1_23) kk_) ?_
    refine Wp.st (S' := T103.setTop (mkF m 25 #[.val (.int p1), .val (.int (3 : Int32)), .val (.ref b98)] [(.int p1), (.int (1 : Int32)), (.ref b98)])) (fun tt_ kk_ => XS.iloadN X103.here hx rfl (hb hby d1_24) rfl  kk_) ?_
    refine Wp.st (S' := T103.setTop (mkF m 27 #[.val (.int p1), .val (.int (3 : Int32)), .val (.ref b98)] [(.int (8 : Int32)), (.int p1), (.int (1 : Int32)), (.ref b98)])) (fun tt_ kk_ => XS.bipush X103.here hx rfl (hb hby d1_25) kk_) ?_
    refine Wp.st (S' := T103.setTop (mkF m 28 #[.val (.int p1), .val (.int (3 : Int32)), .val (.ref b98)] [(.int ((p1.toUInt32 >>> ((8 : Int32) &&& 31).toUInt32).toInt32)), (.int (1 : Int32)), (.ref b98)])) (fun tt_ kk_ => XS.iushr X103.here hx rfl (hb hby d1_27) rfl kk_) ?_
    refine Wp.st (S' := T103.setTop (mkF m 31 #[.val (.int p1), .val (.int (3 : Int32)), .val (.ref b98)] [(.int (255 : Int32)), (.int ((p1.toUInt32 >>> ((8 : Int32) &&& 31).toUInt32).toInt32)), (.int (1 : Int32)), (.ref b98)])) (fun tt_ kk_ => XS.sipush X103.here hx rfl (hb hby d1_28) kk_) ?_
    refine Wp.st (S' := T103.setTop (mkF m 32 #[.val (.int p1), .val (.int (3 : Int32)), .val (.ref b98)] [(.int (((p1.toUInt32 >>> ((8 : Int32) &&& 31).toUInt32).toInt32) &&& (255 : Int32))), (.int (1 : Int32)), (.ref b98)])) (fun tt_ kk_ => XS.iand X103.here hx rfl (hb hby d1_31) rfl kk_) ?_
    refine Wp.st (S' := T103.setTop (mkF m 33 #[.val (.int p1), .val (.int (3 : Int32)), .val (.ref b98)] [(.int ((((p1.toUInt32 >>> ((8 : Int32) &&& 31).toUInt32).toInt32) &&& (255 : Int32)).toUInt32.toUInt16.toUInt32.toInt32)), (.int (1 : Int32)), (.ref b98)])) (fun tt_ kk_ => XS.i2c X103.here hx rfl (hb hby d1_32) rfl kk_) ?_
    obtain ⟨cl107, Ar107, q107, S107, N107, H107, G107⟩ := id V103
    have hin107 := inb_of (j := (1 : Int32)) S107 ⟨by decide, by decide⟩
    obtain ⟨T107, h107, X107, e107, W107, st107⟩ := stC X103 hx hZ e103 Ar107 (j := (1 : Int32)) hin107 (g := (mkF m 33 #[.val (.int p1), .val (.int (3 : Int32)), .val (.ref b98)] [(.int ((((p1.toUInt32 >>> ((8 : Int32) &&& 31).toUInt32).toInt32) &&& (255 : Int32)).toUInt32.toUInt16.toUInt32.toInt32)), (.int (1 : Int32)), (.ref b98)])) rfl rfl (hb hby d1_33)
    have z108 := Nat.le_of_eq W107.size.symm
    have Sf109 := Safe.wr W107 (Safe.arv hZ.alike V103 (by decide)) CC106.1 Sf105
    have CC110 := CC106.trans (CHr.wr W107 (Safe.arv hZ.alike V103 (by decide)) CC106.1)
    have V107 : Arv Z h107 b98 k98 .char (3 : Int32) [(.int (nar .char ((p1 &&& (255 : Int32)).toUInt32.toUInt16.toUInt32.toInt32))), (.int (nar .char ((((p1.toUInt32 >>> ((8 : Int32) &&& 31).toUInt32).toInt32) &&& (255 : Int32)).toUInt32.toUInt16.toUInt32.toInt32))), (.int (0 : Int32))] (.int (0 : Int32)) := Arv.set Ar107 q107 S107 N107 H107 G107 (fits_nar_char _) W107 1 rfl (Nat.le_of_ble_eq_true rfl)
    have Nf107 := Fr.snoc X107 Nf103 g101
    refine Wp.st (S' := T107.setTop (mkF m 34 #[.val (.int p1), .val (.int (3 : Int32)), .val (.ref b98)] [])) st107 ?_
    refine Wp.st (S' := T107.setTop (mkF m 35 #[.val (.int p1), .val (.int (3 : Int32)), .val (.ref b98)] [(.int (3 : Int32))])) (fun tt_ kk_ => XS.iloadN X107.here hx rfl (hb hby d1_34) rfl  kk_) ?_
    refine Wp.st (S' := T107.setTop (mkF m 36 #[.val (.int p1), .val (.int (3 : Int32)), .val (.ref b98)] [(.int (2 : Int32)), (.int (3 : Int32))])) (fun tt_ kk_ => XS.iconst X107.here hx rfl (hb hby d1_35) kk_) ?_
    refine Wp.st (S' := T107.setTop (mkF m 39 #[.val (.int p1), .val (.int (3 : Int32)), .val (.ref b98)] [])) (fun tt_ kk_ => XS.icmpNo X107.here hx rfl (hb hby d1_36) rfl (tlt ((by decide) : (2 : Int32) < (3 : Int32))).2.2.2 kk_) ?_
    refine Wp.st (S' := T107.setTop (mkF m 40 #[.val (.int p1), .val (.int (3 : Int32)), .val (.ref b98)] [(.ref b98)])) (fun tt_ kk_ => XS.aloadN X107.here hx rfl (hb hby d1_39) rfl rfl kk_) ?_
    refine Wp.st (S' := T107.setTop (mkF m 41 #[.val (.int p1), .val (.int (3 : Int32)), .val (.ref b98)] [(.int (2 : Int32)), (.ref b98)])) (fun tt_ kk_ => XS.iconst X107.here hx rfl (hb hby d1_40) kk_) ?_
    refine Wp.st (S' := T107.setTop (mkF m 42 #[.val (.int p1), .val (.int (3 : Int32)), .val (.ref b98)] [(.int p1), (.int (2 : Int32)), (.ref b98)])) (fun tt_ kk_ => XS.iloadN X107.here hx rfl (hb hby d1_41) rfl  kk_) ?_
    refine Wp.st (S' := T107.setTop (mkF m 44 #[.val (.int p1), .val (.int (3 : Int32)), .val (.ref b98)] [(.int (16 : Int32)), (.int p1), (.int (2 : Int32)), (.ref b98)])) (fun tt_ kk_ => XS.bipush X107.here hx rfl (hb hby d1_42) kk_) ?_
    refine Wp.st (S' := T107.setTop (mkF m 45 #[.val (.int p1), .val (.int (3 : Int32)), .val (.ref b98)] [(.int ((p1.toUInt32 >>> ((16 : Int32) &&& 31).toUInt32).toInt32)), (.int (2 : Int32)), (.ref b98)])) (fun tt_ kk_ => XS.iushr X107.here hx rfl (hb hby d1_44) rfl kk_) ?_
    refine Wp.st (S' := T107.setTop (mkF m 48 #[.val (.int p1), .val (.int (3 : Int32)), .val (.ref b98)] [(.int (255 : Int32)), (.int ((p1.toUInt32 >>> ((16 : Int32) &&& 31).toUInt32).toInt32)), (.int (2 : Int32)), (.ref b98)])) (fun tt_ kk_ => XS.sipush X107.here hx rfl (hb hby d1_45) kk_) ?_
    refine Wp.st (S' := T107.setTop (mkF m 49 #[.val (.int p1), .val (.int (3 : Int32)), .val (.ref b98)] [(.int (((p1.toUInt32 >>> ((16 : Int32) &&& 31).toUInt32).toInt32) &&& (255 : Int32))), (.int (2 : Int32)), (.ref b98)])) (fun tt_ kk_ => XS.iand X107.here hx rfl (hb hby d1_48) rfl kk_) ?_
    refine Wp.st (S' := T107.setTop (mkF m 50 #[.val (.int p1), .val (.int (3 : Int32)), .val (.ref b98)] [(.int ((((p1.toUInt32 >>> ((16 : Int32) &&& 31).toUInt32).toInt32) &&& (255 : Int32)).toUInt32.toUInt16.toUInt32.toInt32)), (.int (2 : Int32)), (.ref b98)])) (fun tt_ kk_ => XS.i2c X107.here hx rfl (hb hby d1_49) rfl kk_) ?_
    obtain ⟨cl111, Ar111, q111, S111, N111, H111, G111⟩ := id V107
    have hin111 := inb_of (j := (2 : Int32)) S111 ⟨by decide, by decide⟩
    obtain ⟨T111, h111, X111, e111, W111, st111⟩ := stC X107 hx hZ e107 Ar111 (j := (2 : Int32)) hin111 (g := (mkF m 50 #[.val (.int p1), .val (.int (3 : Int32)), .val (.ref b98)] [(.int ((((p1.toUInt32 >>> ((16 : Int32) &&& 31).toUInt32).toInt32) &&& (255 : Int32)).toUInt32.toUInt16.toUInt32.toInt32)), (.int (2 : Int32)), (.ref b98)])) rfl rfl (hb hby d1_50)
    have z112 := Nat.le_of_eq W111.size.symm
    have Sf113 := Safe.wr W111 (Safe.arv hZ.alike V107 (by decide)) CC110.1 Sf109
    have CC114 := CC110.trans (CHr.wr W111 (Safe.arv hZ.alike V107 (by decide)) CC110.1)
    have V111 : Arv Z h111 b98 k98 .char (3 : Int32) [(.int (nar .char ((p1 &&& (255 : Int32)).toUInt32.toUInt16.toUInt32.toInt32))), (.int (nar .char ((((p1.toUInt32 >>> ((8 : Int32) &&& 31).toUInt32).toInt32) &&& (255 : Int32)).toUInt32.toUInt16.toUInt32.toInt32))), (.int (nar .char ((((p1.toUInt32 >>> ((16 : Int32) &&& 31).toUInt32).toInt32) &&& (255 : Int32)).toUInt32.toUInt16.toUInt32.toInt32)))] (.int (0 : Int32)) := Arv.set Ar111 q111 S111 N111 H111 G111 (fits_nar_char _) W111 2 rfl (Nat.le_of_ble_eq_true rfl)
    have Nf111 := Fr.snoc X111 Nf107 g101
    refine Wp.st (S' := T111.setTop (mkF m 51 #[.val (.int p1), .val (.int (3 : Int32)), .val (.ref b98)] [])) st111 ?_
    obtain ⟨T115, h115, X115, e115, E115, A115, D115, U115, st115⟩ := newO X111 hx hZ hown (hw _ (List.mem_of_getElem? (i := 5) rfl)) (hw _ (List.mem_of_getElem? (i := 6) rfl)) (hw _ (List.mem_of_getElem? (i := 7) rfl)) e111 (g := (mkF m 51 #[.val (.int p1), .val (.int (3 : Int32)), .val (.ref b98)] [])) rfl (hb hby d1_51) (by decide) (by decide)
    obtain ⟨b115, g115⟩ : ∃ z, z = h111.size := ⟨_, rfl⟩
    rw [← g115] at A115 D115 U115 st115
    have z116 := E115.1
    have Sf117 := Safe.ext E115 CC114.1 Sf113
    have CC118 := CC114.trans (CHr.ext E115 CC114.1)
    have g119 : n0 ≤ b115 := Nat.le_trans (Nat.le_trans Z0 (Nat.le_trans (Nat.le_trans (Nat.le_trans z99 z104) z108) z112)) (Nat.le_of_eq g115.symm)
    have Sf120 := Safe.ext E115 CC114.1 (Safe.new (x := b115) (Nat.le_of_eq g115.symm))
    have F121 : Fld Z h115 b115 "java/lang/String" "value" "[B" .null := D115 (Or.inr (hw _ (List.mem_of_getElem? (i := 20) rfl))) (ty := (.array .byte)) (by decide)
    have F122 : Fld Z h115 b115 "java/lang/String" "coder" "B" (.int (0 : Int32)) := D115 (Or.inr (hw _ (List.mem_of_getElem? (i := 21) rfl))) (ty := .byte) (by decide)
    refine Wp.st (S' := T115.setTop (mkF m 54 #[.val (.int p1), .val (.int (3 : Int32)), .val (.ref b98)] [(.ref b115)])) st115 ?_
    refine Wp.st (S' := T115.setTop (mkF m 55 #[.val (.int p1), .val (.int (3 : Int32)), .val (.ref b98)] [(.ref b115), (.ref b115)])) (fun tt_ kk_ => XS.dup X115.here hx rfl (hb hby d1_54) rfl rfl kk_) ?_
    refine Wp.st (S' := T115.setTop (mkF m 56 #[.val (.int p1), .val (.int (3 : Int32)), .val (.ref b98)] [(.ref b98), (.ref b115), (.ref b115)])) (fun tt_ kk_ => XS.aloadN X115.here hx rfl (hb hby d1_55) rfl rfl kk_) ?_
    have hp124 : ∀ c ∈ ([(nar .char ((p1 &&& (255 : Int32)).toUInt32.toUInt16.toUInt32.toInt32)), (nar .char ((((p1.toUInt32 >>> ((8 : Int32) &&& 31).toUInt32).toInt32) &&& (255 : Int32)).toUInt32.toUInt16.toUInt32.toInt32)), (nar .char ((((p1.toUInt32 >>> ((16 : Int32) &&& 31).toUInt32).toInt32) &&& (255 : Int32)).toUInt32.toUInt16.toUInt32.toInt32))] : List Int32), ¬ c < 0 ∧ ¬ (255 : Int32) < c := (by
          intro c hc
          simp only [List.mem_cons, List.not_mem_nil, or_false] at hc
          rcases hc with rfl | rfl | rfl
          all_goals first | exact own_ch255 _ | decide)
    have F125 := V111.ext E115
    have O126 := O0.ext E98
    have O127 := O126.wr W103 g101
    have O128 := O127.wr W107 g101
    have O129 := O128.wr W111 g101
    have O130 := O129.ext E115
    obtain ⟨vv123, _, ⟨T123, L123, k123, n123⟩, -, X123, ⟨Lc123, hQ123, l123, y123, z123⟩, st123⟩ := X115.specialBack hx (y := (⟨"java/lang/String", "<init>", "([C)V"⟩ : MethodName)) rfl hown (mvT hZ (hw _ (List.mem_of_getElem? (i := 8) rfl))) (mvT hZ (hw _ (List.mem_of_getElem? (i := 9) rfl))) (mvT hZ (hw _ (List.mem_of_getElem? (i := 10) rfl))) (by decide) (StrChars.Road.backV (W := 1) hZ (fun d hd => hw d ((by decide +kernel : ∀ d ∈ StrChars.Road.words, d ∈ tables_1) d hd)) (kI := 4) (hw _ (List.mem_of_getElem? (i := 6) rfl)) (cs := ([(nar .char ((p1 &&& (255 : Int32)).toUInt32.toUInt16.toUInt32.toInt32)), (nar .char ((((p1.toUInt32 >>> ((8 : Int32) &&& 31).toUInt32).toInt32) &&& (255 : Int32)).toUInt32.toUInt16.toUInt32.toInt32)), (nar .char ((((p1.toUInt32 >>> ((16 : Int32) &&& 31).toUInt32).toInt32) &&& (255 : Int32)).toUInt32.toUInt16.toUInt32.toInt32))] : List Int32)) (bs := (([(nar .char ((p1 &&& (255 : Int32)).toUInt32.toUInt16.toUInt32.toInt32)), (nar .char ((((p1.toUInt32 >>> ((8 : Int32) &&& 31).toUInt32).toInt32) &&& (255 : Int32)).toUInt32.toUInt16.toUInt32.toInt32)), (nar .char ((((p1.toUInt32 >>> ((16 : Int32) &&& 31).toUInt32).toInt32) &&& (255 : Int32)).toUInt32.toUInt16.toUInt32.toInt32))] : List Int32).map (fun c => c.toInt8.toInt32))) (n := 3) g119 (Nat.le_trans Z0 (Nat.le_trans (Nat.le_trans (Nat.le_trans (Nat.le_trans z99 z104) z108) z112) z116)) A115 F121 F122 F125 (SCompact.ext O130.2) hCS rfl rfl (by decide) (by decide) hp124 rfl (by decide) (by decide)) (g := (mkF m 56 #[.val (.int p1), .val (.int (3 : Int32)), .val (.ref b98)] [(.ref b98), (.ref b115), (.ref b115)])) rfl (by rw [hml]; rfl) (Steps.refl _) (a := b115) (argsL := [(.ref b98)]) (rest := [(.ref b115)]) (lenOf pd_1 rfl) rfl (by show 2 * 0 + _ ≤ _; exact Nat.le_of_eq rfl) (hb hby d1_56) (fun _ _ => ⟨rfl, e115, (by decide : 2 + 1 ≤ _), (by decide : 7 + 3 ≤ _)⟩)
    dsimp only [Pt.U, Pt.locs, Pt.cells, Pt.slots] at X123 l123 y123 z123 st123 hQ123
    subst l123 y123 z123
    obtain ⟨rfl, Nq123, K123, Ex123, Co123, t123, kb123, ga123, gb123, gn123, Va123, Av123⟩ := hQ123
    have N123 := Fr.app Nf111 Nq123
    have z131 := K123.1
    have Sf132 := Safe.keep K123 (sfS Sf120 sf0) CC118.1 Sf117
    have Sf133 := Safe.keep K123 (sfS Sf120 sf0) CC118.1 Sf120
    have CC134 := CC118.trans (CHr.keep K123 (sfS Sf120 sf0) CC118.1)
    have g135 : n0 ≤ t123 := Nat.le_trans (Nat.le_trans Z0 (Nat.le_trans (Nat.le_trans (Nat.le_trans (Nat.le_trans z99 z104) z108) z112) z116)) gb123
    have e123 : T123.heap = T123.heap := rfl
    refine Wp.tr (S' := T123.setTop (mkF m 59 #[.val (.int p1), .val (.int (3 : Int32)), .val (.ref b98)] [(.ref b115)])) st123 ?_
    have eL : own_cs p1 (3 : Int32) = [nar .char ((p1 &&& (255 : Int32))).toUInt32.toUInt16.toUInt32.toInt32, nar .char ((((p1).toUInt32 >>> ((8 : Int32) &&& 31).toUInt32).toInt32 &&& (255 : Int32))).toUInt32.toUInt16.toUInt32.toInt32, nar .char ((((p1).toUInt32 >>> ((16 : Int32) &&& 31).toUInt32).toInt32 &&& (255 : Int32))).toUInt32.toUInt16.toUInt32.toInt32] := by rw [own_cs3]; simp only [own_chr]; rfl
    have AvQ : Arv Z T123.heap t123 kb123 .byte (Int32.ofNat ((own_cs p1 (3 : Int32))).length) (own_bytes (own_cs p1 (3 : Int32))) (.int (0 : Int32)) := by rw [eL]; exact Av123
    have K136 := Keep.refl h0 []
    have K137 := K136.ext E98
    have K138 := K137.wr W103 (Or.inr (Nat.le_trans (Nat.le_refl _) (Nat.le_of_eq g98.symm)))
    have K139 := K138.wr W107 (Or.inr (Nat.le_trans (Nat.le_refl _) (Nat.le_of_eq g98.symm)))
    have K140 := K139.wr W111 (Or.inr (Nat.le_trans (Nat.le_refl _) (Nat.le_of_eq g98.symm)))
    have K141 := K140.ext E115
    have K142 := K141.trans K123 (allS (Or.inr (Nat.le_trans (Nat.le_trans (Nat.le_trans (Nat.le_trans z99 z104) z108) z112) (Nat.le_of_eq g115.symm))) all0)
    exact Wp.retH X123 hlk hS0 (by rw [e123]; exact (Nat.le_trans (Nat.le_refl _) (Nat.le_trans (Nat.le_trans (Nat.le_trans (Nat.le_trans (Nat.le_trans z99 z104) z108) z112) z116) z131))) (v := (some (.ref b115))) (fun h => by rw [Bd.returns] at h; cases h) (fun fs hr => retOut X123 hx Bd.returns rfl (Or.inr (Or.inr (Or.inr (Or.inr ⟨rfl, rfl, rfl⟩)))) (hb hby d1_59) hr) (by decide) (by decide) (show Q_rm1 Z p1 (3 : Int32) zcs h0 n0 _ T123.heap _ by rw [e123]; exact ⟨b115, t123, kb123, rfl, N123, K142, Ex123, Va123, Co123, AvQ⟩) (by rw [hh, e123]; exact CC134.trans (CHv.at X123 hZ hEL CC134.1))
theorem pn_6 : plainName "com/example/clients_by_rule/clientsbyrule/profile/SuppressionCoversPinLaw" = true := by first | (simp [plainName, overriddenIn]; done) | decide +kernel
theorem d6_0 : decode method_3_code 0 = .ok (.iload_n 1, 1) := by decide +kernel
theorem d6_1 : decode method_3_code 1 = .ok (.iload_n 3, 1) := by decide +kernel
theorem d6_2 : decode method_3_code 2 = .ok (.if_icmp .eq 5, 3) := by decide +kernel
theorem d6_7 : decode method_3_code 7 = .ok (.iload_n 1, 1) := by decide +kernel
theorem d6_8 : decode method_3_code 8 = .ok (.ifCond .le 18, 3) := by decide +kernel
theorem d6_26 : decode method_3_code 26 = .ok (.iload_n 1, 1) := by decide +kernel
theorem d6_27 : decode method_3_code 27 = .ok (.iconst 1, 1) := by decide +kernel
theorem d6_28 : decode method_3_code 28 = .ok (.if_icmp .le 24, 3) := by decide +kernel
theorem d6_52 : decode method_3_code 52 = .ok (.iload_n 1, 1) := by decide +kernel
theorem d6_53 : decode method_3_code 53 = .ok (.iconst 2, 1) := by decide +kernel
theorem d6_54 : decode method_3_code 54 = .ok (.if_icmp .le 24, 3) := by decide +kernel
theorem d6_78 : decode method_3_code 78 = .ok (.iconst 1, 1) := by decide +kernel
theorem d6_79 : decode method_3_code 79 = .ok (.ireturn, 1) := by decide +kernel
theorem d6_11 : decode method_3_code 11 = .ok (.iload_n 0, 1) := by decide +kernel
theorem d6_12 : decode method_3_code 12 = .ok (.sipush 255, 3) := by decide +kernel
theorem d6_15 : decode method_3_code 15 = .ok (.iand, 1) := by decide +kernel
theorem d6_16 : decode method_3_code 16 = .ok (.iload_n 2, 1) := by decide +kernel
theorem d6_17 : decode method_3_code 17 = .ok (.sipush 255, 3) := by decide +kernel
theorem d6_20 : decode method_3_code 20 = .ok (.iand, 1) := by decide +kernel
theorem d6_21 : decode method_3_code 21 = .ok (.if_icmp .eq 5, 3) := by decide +kernel
theorem d6_24 : decode method_3_code 24 = .ok (.iconst 0, 1) := by decide +kernel
theorem d6_25 : decode method_3_code 25 = .ok (.ireturn, 1) := by decide +kernel
theorem d6_31 : decode method_3_code 31 = .ok (.iload_n 0, 1) := by decide +kernel
theorem d6_32 : decode method_3_code 32 = .ok (.bipush 8, 2) := by decide +kernel
theorem d6_34 : decode method_3_code 34 = .ok (.iushr, 1) := by decide +kernel
theorem d6_35 : decode method_3_code 35 = .ok (.sipush 255, 3) := by decide +kernel
theorem d6_38 : decode method_3_code 38 = .ok (.iand, 1) := by decide +kernel
theorem d6_39 : decode method_3_code 39 = .ok (.iload_n 2, 1) := by decide +kernel
theorem d6_40 : decode method_3_code 40 = .ok (.bipush 8, 2) := by decide +kernel
theorem d6_42 : decode method_3_code 42 = .ok (.iushr, 1) := by decide +kernel
theorem d6_43 : decode method_3_code 43 = .ok (.sipush 255, 3) := by decide +kernel
theorem d6_46 : decode method_3_code 46 = .ok (.iand, 1) := by decide +kernel
theorem d6_47 : decode method_3_code 47 = .ok (.if_icmp .eq 5, 3) := by decide +kernel
theorem d6_50 : decode method_3_code 50 = .ok (.iconst 0, 1) := by decide +kernel
theorem d6_51 : decode method_3_code 51 = .ok (.ireturn, 1) := by decide +kernel
theorem d6_57 : decode method_3_code 57 = .ok (.iload_n 0, 1) := by decide +kernel
theorem d6_58 : decode method_3_code 58 = .ok (.bipush 16, 2) := by decide +kernel
theorem d6_60 : decode method_3_code 60 = .ok (.iushr, 1) := by decide +kernel
theorem d6_61 : decode method_3_code 61 = .ok (.sipush 255, 3) := by decide +kernel
theorem d6_64 : decode method_3_code 64 = .ok (.iand, 1) := by decide +kernel
theorem d6_65 : decode method_3_code 65 = .ok (.iload_n 2, 1) := by decide +kernel
theorem d6_66 : decode method_3_code 66 = .ok (.bipush 16, 2) := by decide +kernel
theorem d6_68 : decode method_3_code 68 = .ok (.iushr, 1) := by decide +kernel
theorem d6_69 : decode method_3_code 69 = .ok (.sipush 255, 3) := by decide +kernel
theorem d6_72 : decode method_3_code 72 = .ok (.iand, 1) := by decide +kernel
theorem d6_73 : decode method_3_code 73 = .ok (.if_icmp .eq 5, 3) := by decide +kernel
theorem d6_76 : decode method_3_code 76 = .ok (.iconst 0, 1) := by decide +kernel
theorem d6_77 : decode method_3_code 77 = .ok (.ireturn, 1) := by decide +kernel
theorem d6_5 : decode method_3_code 5 = .ok (.iconst 0, 1) := by decide +kernel
theorem d6_6 : decode method_3_code 6 = .ok (.ireturn, 1) := by decide +kernel
theorem ef_rm6 (m : MethodId) (p1 : Int32) (p2 : Int32) (p3 : Int32) (p4 : Int32) : entryFrame m #[(.int p1), (.int p2), (.int p3), (.int p4)] 4 = mkF m 0 #[.val (.int p1), .val (.int p2), .val (.int p3), .val (.int p4)] [] := by first | (simp [entryFrame, mkF, argsToLocals, Value.category]; done) | rfl
def Q_rm6 (Z : State) (p1 : Int32) (p2 : Int32) (p3 : Int32) (p4 : Int32) (h0 : Heap) (n0 : Nat) (v : Option Value) (h : Heap) (L : List Loc) : Prop := (v = some (.int (if own_cs p1 p2 = own_cs p3 p4 then (1 : Int32) else (0 : Int32)))) ∧ (Fr n0 L) ∧ (h = h0)
set_option maxRecDepth 65536 in
set_option maxHeartbeats 40000000 in
theorem rm6 (l : Launch) (Z : State) (a0 : Array Value) (hw : ∀ d ∈ tables_1, d.before a0 Z = true) (ws : List Jvm.Cond) (p1 : Int32) (p2 : Int32) (p3 : Int32) (p4 : Int32) (h0 : Heap) (n0 : Nat) (Z0 : n0 ≤ h0.size) (h4 : p2 = (0 : Int32) ∨ p2 = (1 : Int32) ∨ p2 = (2 : Int32) ∨ p2 = (3 : Int32)) (k4 : p4 = (0 : Int32) ∨ p4 = (1 : Int32) ∨ p4 = (2 : Int32) ∨ p4 = (3 : Int32)) :
    MetFree l (⟨"com/example/clients_by_rule/clientsbyrule/profile/SuppressionCoversPinLaw", "same", "(IIII)Z"⟩ : MethodName) (head1 (Jvm.Cond.code (⟨"com/example/clients_by_rule/clientsbyrule/profile/SuppressionCoversPinLaw", "same", "(IIII)Z"⟩ : MethodName) method_3_code 4 (some .boolean) :: ws) ({ frames := 0, cells := 0, slots := 0, locals := 0 } : Room)) (fun a U => a = #[(.int p1), (.int p2), (.int p3), (.int p4)] ∧ Z.Warmed39 U.vm ∧ U.heap = h0) (fun _ _ _ _ _ => True) (fun _ U o U' => ∃ v L, o = .returned v ∧ Q_rm6 Z p1 p2 p3 p4 h0 n0 v U'.heap L ∧ FrameEnd U o U' L ({ frames := 0, cells := 0, slots := 0, locals := 0 } : Room).cells ({ frames := 0, cells := 0, slots := 0, locals := 0 } : Room).slots) := by
  refine MetFree.of_bodySF (plainFor_of_name pn_6) hisR ?_
  intro p e s m args below meth c s₁ Bd hml0 hP hK
  obtain ⟨rfl, hZ, hh⟩ := hP
  have hx := Bd.exec
  have hby := Bd.bytes
  have hml : c.maxLocals = 4 := hml0
  have hown : s.vm.findClass "com/example/clients_by_rule/clientsbyrule/profile/SuppressionCoversPinLaw" = some m.cls := findClass_of_methodNamed Bd.named
  have hnm := (name_of_methodNamed Bd.named Bd.method).1
  have hlk := Bd.notSynchronized
  have X0 : Stand p l e ({ frames := 0, cells := 0, slots := 0, locals := 0 } : Room) s m #[(.int p1), (.int p2), (.int p3), (.int p4)] below meth c s₁ [] 0 0 := Stand.of_body Bd
  have e0 : s₁.heap = h0 := by rw [← hh, Bd.state]; rfl
  have N0 := Fr.nil n0
  refine Wp.goal (Post := (fun o U' => ∃ v L, o = .returned v ∧ Q_rm6 Z p1 p2 p3 p4 h0 n0 v U'.heap L ∧ FrameEnd s o U' L ({ frames := 0, cells := 0, slots := 0, locals := 0 } : Room).cells ({ frames := 0, cells := 0, slots := 0, locals := 0 } : Room).slots)) (Wp.st (S' := s₁.setTop (mkF m 0 #[.val (.int p1), .val (.int p2), .val (.int p3), .val (.int p4)] [])) (fun tt_ kk_ => castTop (ef_rm6 m p1 p2 p3 p4 ) kk_) ?_)
  refine Wp.st (S' := s₁.setTop (mkF m 1 #[.val (.int p1), .val (.int p2), .val (.int p3), .val (.int p4)] [(.int p2)])) (fun tt_ kk_ => XS.iloadN X0.here hx rfl (hb hby d6_0) rfl  kk_) ?_
  refine Wp.st (S' := s₁.setTop (mkF m 2 #[.val (.int p1), .val (.int p2), .val (.int p3), .val (.int p4)] [(.int p4), (.int p2)])) (fun tt_ kk_ => XS.iloadN X0.here hx rfl (hb hby d6_1) rfl  kk_) ?_
  by_cases hl : p2 = p4
  case pos =>
    refine Wp.st (S' := s₁.setTop (mkF m 7 #[.val (.int p1), .val (.int p2), .val (.int p3), .val (.int p4)] [])) (fun tt_ kk_ => XS.icmpYes X0.here hx rfl (pc0 := 2) (pc' := 7) rfl (hb hby d6_2) rfl (teq (hl : p2 = p4)).1 (by decide) (by decide) kk_) ?_
    subst hl
    rcases h4 with rfl | rfl | rfl | rfl
    · have _u := True.intro
      refine Wp.st (S' := s₁.setTop (mkF m 8 #[.val (.int p1), .val (.int (0 : Int32)), .val (.int p3), .val (.int (0 : Int32))] [(.int (0 : Int32))])) (fun tt_ kk_ => XS.iloadN X0.here hx rfl (hb hby d6_7) rfl  kk_) ?_
      refine Wp.st (S' := s₁.setTop (mkF m 26 #[.val (.int p1), .val (.int (0 : Int32)), .val (.int p3), .val (.int (0 : Int32))] [])) (fun tt_ kk_ => XS.ifYes X0.here hx rfl (pc0 := 8) (pc' := 26) rfl (hb hby d6_8) rfl ((if0 _ _).trans (flt ((by decide) : ¬ ((0 : Int32) < (0 : Int32)))).2.2.2) (by decide) (by decide) kk_) ?_
      refine Wp.st (S' := s₁.setTop (mkF m 27 #[.val (.int p1), .val (.int (0 : Int32)), .val (.int p3), .val (.int (0 : Int32))] [(.int (0 : Int32))])) (fun tt_ kk_ => XS.iloadN X0.here hx rfl (hb hby d6_26) rfl  kk_) ?_
      refine Wp.st (S' := s₁.setTop (mkF m 28 #[.val (.int p1), .val (.int (0 : Int32)), .val (.int p3), .val (.int (0 : Int32))] [(.int (1 : Int32)), (.int (0 : Int32))])) (fun tt_ kk_ => XS.iconst X0.here hx rfl (hb hby d6_27) kk_) ?_
      refine Wp.st (S' := s₁.setTop (mkF m 52 #[.val (.int p1), .val (.int (0 : Int32)), .val (.int p3), .val (.int (0 : Int32))] [])) (fun tt_ kk_ => XS.icmpYes X0.here hx rfl (pc0 := 28) (pc' := 52) rfl (hb hby d6_28) rfl (flt ((by decide) : ¬ ((1 : Int32) < (0 : Int32)))).2.2.2 (by decide) (by decide) kk_) ?_
      refine Wp.st (S' := s₁.setTop (mkF m 53 #[.val (.int p1), .val (.int (0 : Int32)), .val (.int p3), .val (.int (0 : Int32))] [(.int (0 : Int32))])) (fun tt_ kk_ => XS.iloadN X0.here hx rfl (hb hby d6_52) rfl  kk_) ?_
      refine Wp.st (S' := s₁.setTop (mkF m 54 #[.val (.int p1), .val (.int (0 : Int32)), .val (.int p3), .val (.int (0 : Int32))] [(.int (2 : Int32)), (.int (0 : Int32))])) (fun tt_ kk_ => XS.iconst X0.here hx rfl (hb hby d6_53) kk_) ?_
      refine Wp.st (S' := s₁.setTop (mkF m 78 #[.val (.int p1), .val (.int (0 : Int32)), .val (.int p3), .val (.int (0 : Int32))] [])) (fun tt_ kk_ => XS.icmpYes X0.here hx rfl (pc0 := 54) (pc' := 78) rfl (hb hby d6_54) rfl (flt ((by decide) : ¬ ((2 : Int32) < (0 : Int32)))).2.2.2 (by decide) (by decide) kk_) ?_
      refine Wp.st (S' := s₁.setTop (mkF m 79 #[.val (.int p1), .val (.int (0 : Int32)), .val (.int p3), .val (.int (0 : Int32))] [(.int (1 : Int32))])) (fun tt_ kk_ => XS.iconst X0.here hx rfl (hb hby d6_78) kk_) ?_
      exact Wp.ret X0 hlk (v := (some (.int (1 : Int32)))) (fun h => by rw [Bd.returns] at h; cases h) (fun fs hr => retN (z := (1 : Int32)) X0 hx (t := .boolean) Bd.returns (by simp) (hb hby d6_79) hr) (by decide) (by decide) (show Q_rm6 Z p1 (0 : Int32) p3 (0 : Int32) h0 n0 _ s₁.heap _ by rw [e0]; exact ⟨(by rw [if_pos (by simp only [own_cs0])]), N0, rfl⟩)
    · have _u := True.intro
      refine Wp.st (S' := s₁.setTop (mkF m 8 #[.val (.int p1), .val (.int (1 : Int32)), .val (.int p3), .val (.int (1 : Int32))] [(.int (1 : Int32))])) (fun tt_ kk_ => XS.iloadN X0.here hx rfl (hb hby d6_7) rfl  kk_) ?_
      refine Wp.st (S' := s₁.setTop (mkF m 11 #[.val (.int p1), .val (.int (1 : Int32)), .val (.int p3), .val (.int (1 : Int32))] [])) (fun tt_ kk_ => XS.ifNo X0.here hx rfl (hb hby d6_8) rfl ((if0 _ _).trans (tlt ((by decide) : (0 : Int32) < (1 : Int32))).2.2.2) kk_) ?_
      refine Wp.st (S' := s₁.setTop (mkF m 12 #[.val (.int p1), .val (.int (1 : Int32)), .val (.int p3), .val (.int (1 : Int32))] [(.int p1)])) (fun tt_ kk_ => XS.iloadN X0.here hx rfl (hb hby d6_11) rfl  kk_) ?_
      refine Wp.st (S' := s₁.setTop (mkF m 15 #[.val (.int p1), .val (.int (1 : Int32)), .val (.int p3), .val (.int (1 : Int32))] [(.int (255 : Int32)), (.int p1)])) (fun tt_ kk_ => XS.sipush X0.here hx rfl (hb hby d6_12) kk_) ?_
      refine Wp.st (S' := s₁.setTop (mkF m 16 #[.val (.int p1), .val (.int (1 : Int32)), .val (.int p3), .val (.int (1 : Int32))] [(.int (p1 &&& (255 : Int32)))])) (fun tt_ kk_ => XS.iand X0.here hx rfl (hb hby d6_15) rfl kk_) ?_
      refine Wp.st (S' := s₁.setTop (mkF m 17 #[.val (.int p1), .val (.int (1 : Int32)), .val (.int p3), .val (.int (1 : Int32))] [(.int p3), (.int (p1 &&& (255 : Int32)))])) (fun tt_ kk_ => XS.iloadN X0.here hx rfl (hb hby d6_16) rfl  kk_) ?_
      refine Wp.st (S' := s₁.setTop (mkF m 20 #[.val (.int p1), .val (.int (1 : Int32)), .val (.int p3), .val (.int (1 : Int32))] [(.int (255 : Int32)), (.int p3), (.int (p1 &&& (255 : Int32)))])) (fun tt_ kk_ => XS.sipush X0.here hx rfl (hb hby d6_17) kk_) ?_
      refine Wp.st (S' := s₁.setTop (mkF m 21 #[.val (.int p1), .val (.int (1 : Int32)), .val (.int p3), .val (.int (1 : Int32))] [(.int (p3 &&& (255 : Int32))), (.int (p1 &&& (255 : Int32)))])) (fun tt_ kk_ => XS.iand X0.here hx rfl (hb hby d6_20) rfl kk_) ?_
      by_cases hc0 : (p1 &&& (255 : Int32)) = (p3 &&& (255 : Int32))
      case pos =>
        refine Wp.st (S' := s₁.setTop (mkF m 26 #[.val (.int p1), .val (.int (1 : Int32)), .val (.int p3), .val (.int (1 : Int32))] [])) (fun tt_ kk_ => XS.icmpYes X0.here hx rfl (pc0 := 21) (pc' := 26) rfl (hb hby d6_21) rfl (teq (hc0 : (p1 &&& (255 : Int32)) = (p3 &&& (255 : Int32)))).1 (by decide) (by decide) kk_) ?_
        have ec0 : own_c0 p1 = own_c0 p3 := hc0
        refine Wp.st (S' := s₁.setTop (mkF m 27 #[.val (.int p1), .val (.int (1 : Int32)), .val (.int p3), .val (.int (1 : Int32))] [(.int (1 : Int32))])) (fun tt_ kk_ => XS.iloadN X0.here hx rfl (hb hby d6_26) rfl  kk_) ?_
        refine Wp.st (S' := s₁.setTop (mkF m 28 #[.val (.int p1), .val (.int (1 : Int32)), .val (.int p3), .val (.int (1 : Int32))] [(.int (1 : Int32)), (.int (1 : Int32))])) (fun tt_ kk_ => XS.iconst X0.here hx rfl (hb hby d6_27) kk_) ?_
        refine Wp.st (S' := s₁.setTop (mkF m 52 #[.val (.int p1), .val (.int (1 : Int32)), .val (.int p3), .val (.int (1 : Int32))] [])) (fun tt_ kk_ => XS.icmpYes X0.here hx rfl (pc0 := 28) (pc' := 52) rfl (hb hby d6_28) rfl (flt ((by decide) : ¬ ((1 : Int32) < (1 : Int32)))).2.2.2 (by decide) (by decide) kk_) ?_
        refine Wp.st (S' := s₁.setTop (mkF m 53 #[.val (.int p1), .val (.int (1 : Int32)), .val (.int p3), .val (.int (1 : Int32))] [(.int (1 : Int32))])) (fun tt_ kk_ => XS.iloadN X0.here hx rfl (hb hby d6_52) rfl  kk_) ?_
        refine Wp.st (S' := s₁.setTop (mkF m 54 #[.val (.int p1), .val (.int (1 : Int32)), .val (.int p3), .val (.int (1 : Int32))] [(.int (2 : Int32)), (.int (1 : Int32))])) (fun tt_ kk_ => XS.iconst X0.here hx rfl (hb hby d6_53) kk_) ?_
        refine Wp.st (S' := s₁.setTop (mkF m 78 #[.val (.int p1), .val (.int (1 : Int32)), .val (.int p3), .val (.int (1 : Int32))] [])) (fun tt_ kk_ => XS.icmpYes X0.here hx rfl (pc0 := 54) (pc' := 78) rfl (hb hby d6_54) rfl (flt ((by decide) : ¬ ((2 : Int32) < (1 : Int32)))).2.2.2 (by decide) (by decide) kk_) ?_
        refine Wp.st (S' := s₁.setTop (mkF m 79 #[.val (.int p1), .val (.int (1 : Int32)), .val (.int p3), .val (.int (1 : Int32))] [(.int (1 : Int32))])) (fun tt_ kk_ => XS.iconst X0.here hx rfl (hb hby d6_78) kk_) ?_
        exact Wp.ret X0 hlk (v := (some (.int (1 : Int32)))) (fun h => by rw [Bd.returns] at h; cases h) (fun fs hr => retN (z := (1 : Int32)) X0 hx (t := .boolean) Bd.returns (by simp) (hb hby d6_79) hr) (by decide) (by decide) (show Q_rm6 Z p1 (1 : Int32) p3 (1 : Int32) h0 n0 _ s₁.heap _ by rw [e0]; exact ⟨(by rw [if_pos (by simp only [own_cs1, ec0])]), N0, rfl⟩)
      case neg =>
        refine Wp.st (S' := s₁.setTop (mkF m 24 #[.val (.int p1), .val (.int (1 : Int32)), .val (.int p3), .val (.int (1 : Int32))] [])) (fun tt_ kk_ => XS.icmpNo X0.here hx rfl (hb hby d6_21) rfl (feq (hc0 : ¬ ((p1 &&& (255 : Int32)) = (p3 &&& (255 : Int32))))).1 kk_) ?_
        refine Wp.st (S' := s₁.setTop (mkF m 25 #[.val (.int p1), .val (.int (1 : Int32)), .val (.int p3), .val (.int (1 : Int32))] [(.int (0 : Int32))])) (fun tt_ kk_ => XS.iconst X0.here hx rfl (hb hby d6_24) kk_) ?_
        exact Wp.ret X0 hlk (v := (some (.int (0 : Int32)))) (fun h => by rw [Bd.returns] at h; cases h) (fun fs hr => retN (z := (0 : Int32)) X0 hx (t := .boolean) Bd.returns (by simp) (hb hby d6_25) hr) (by decide) (by decide) (show Q_rm6 Z p1 (1 : Int32) p3 (1 : Int32) h0 n0 _ s₁.heap _ by rw [e0]; exact ⟨(by rw [if_neg (fun q => by simp only [own_cs1, List.cons.injEq, and_true] at q; exact hc0 q)]), N0, rfl⟩)
    · have _u := True.intro
      refine Wp.st (S' := s₁.setTop (mkF m 8 #[.val (.int p1), .val (.int (2 : Int32)), .val (.int p3), .val (.int (2 : Int32))] [(.int (2 : Int32))])) (fun tt_ kk_ => XS.iloadN X0.here hx rfl (hb hby d6_7) rfl  kk_) ?_
      refine Wp.st (S' := s₁.setTop (mkF m 11 #[.val (.int p1), .val (.int (2 : Int32)), .val (.int p3), .val (.int (2 : Int32))] [])) (fun tt_ kk_ => XS.ifNo X0.here hx rfl (hb hby d6_8) rfl ((if0 _ _).trans (tlt ((by decide) : (0 : Int32) < (2 : Int32))).2.2.2) kk_) ?_
      refine Wp.st (S' := s₁.setTop (mkF m 12 #[.val (.int p1), .val (.int (2 : Int32)), .val (.int p3), .val (.int (2 : Int32))] [(.int p1)])) (fun tt_ kk_ => XS.iloadN X0.here hx rfl (hb hby d6_11) rfl  kk_) ?_
      refine Wp.st (S' := s₁.setTop (mkF m 15 #[.val (.int p1), .val (.int (2 : Int32)), .val (.int p3), .val (.int (2 : Int32))] [(.int (255 : Int32)), (.int p1)])) (fun tt_ kk_ => XS.sipush X0.here hx rfl (hb hby d6_12) kk_) ?_
      refine Wp.st (S' := s₁.setTop (mkF m 16 #[.val (.int p1), .val (.int (2 : Int32)), .val (.int p3), .val (.int (2 : Int32))] [(.int (p1 &&& (255 : Int32)))])) (fun tt_ kk_ => XS.iand X0.here hx rfl (hb hby d6_15) rfl kk_) ?_
      refine Wp.st (S' := s₁.setTop (mkF m 17 #[.val (.int p1), .val (.int (2 : Int32)), .val (.int p3), .val (.int (2 : Int32))] [(.int p3), (.int (p1 &&& (255 : Int32)))])) (fun tt_ kk_ => XS.iloadN X0.here hx rfl (hb hby d6_16) rfl  kk_) ?_
      refine Wp.st (S' := s₁.setTop (mkF m 20 #[.val (.int p1), .val (.int (2 : Int32)), .val (.int p3), .val (.int (2 : Int32))] [(.int (255 : Int32)), (.int p3), (.int (p1 &&& (255 : Int32)))])) (fun tt_ kk_ => XS.sipush X0.here hx rfl (hb hby d6_17) kk_) ?_
      refine Wp.st (S' := s₁.setTop (mkF m 21 #[.val (.int p1), .val (.int (2 : Int32)), .val (.int p3), .val (.int (2 : Int32))] [(.int (p3 &&& (255 : Int32))), (.int (p1 &&& (255 : Int32)))])) (fun tt_ kk_ => XS.iand X0.here hx rfl (hb hby d6_20) rfl kk_) ?_
      by_cases hc0 : (p1 &&& (255 : Int32)) = (p3 &&& (255 : Int32))
      case pos =>
        refine Wp.st (S' := s₁.setTop (mkF m 26 #[.val (.int p1), .val (.int (2 : Int32)), .val (.int p3), .val (.int (2 : Int32))] [])) (fun tt_ kk_ => XS.icmpYes X0.here hx rfl (pc0 := 21) (pc' := 26) rfl (hb hby d6_21) rfl (teq (hc0 : (p1 &&& (255 : Int32)) = (p3 &&& (255 : Int32)))).1 (by decide) (by decide) kk_) ?_
        have ec0 : own_c0 p1 = own_c0 p3 := hc0
        refine Wp.st (S' := s₁.setTop (mkF m 27 #[.val (.int p1), .val (.int (2 : Int32)), .val (.int p3), .val (.int (2 : Int32))] [(.int (2 : Int32))])) (fun tt_ kk_ => XS.iloadN X0.here hx rfl (hb hby d6_26) rfl  kk_) ?_
        refine Wp.st (S' := s₁.setTop (mkF m 28 #[.val (.int p1), .val (.int (2 : Int32)), .val (.int p3), .val (.int (2 : Int32))] [(.int (1 : Int32)), (.int (2 : Int32))])) (fun tt_ kk_ => XS.iconst X0.here hx rfl (hb hby d6_27) kk_) ?_
        refine Wp.st (S' := s₁.setTop (mkF m 31 #[.val (.int p1), .val (.int (2 : Int32)), .val (.int p3), .val (.int (2 : Int32))] [])) (fun tt_ kk_ => XS.icmpNo X0.here hx rfl (hb hby d6_28) rfl (tlt ((by decide) : (1 : Int32) < (2 : Int32))).2.2.2 kk_) ?_
        refine Wp.st (S' := s₁.setTop (mkF m 32 #[.val (.int p1), .val (.int (2 : Int32)), .val (.int p3), .val (.int (2 : Int32))] [(.int p1)])) (fun tt_ kk_ => XS.iloadN X0.here hx rfl (hb hby d6_31) rfl  kk_) ?_
        refine Wp.st (S' := s₁.setTop (mkF m 34 #[.val (.int p1), .val (.int (2 : Int32)), .val (.int p3), .val (.int (2 : Int32))] [(.int (8 : Int32)), (.int p1)])) (fun tt_ kk_ => XS.bipush X0.here hx rfl (hb hby d6_32) kk_) ?_
        refine Wp.st (S' := s₁.setTop (mkF m 35 #[.val (.int p1), .val (.int (2 : Int32)), .val (.int p3), .val (.int (2 : Int32))] [(.int ((p1.toUInt32 >>> ((8 : Int32) &&& 31).toUInt32).toInt32))])) (fun tt_ kk_ => XS.iushr X0.here hx rfl (hb hby d6_34) rfl kk_) ?_
        refine Wp.st (S' := s₁.setTop (mkF m 38 #[.val (.int p1), .val (.int (2 : Int32)), .val (.int p3), .val (.int (2 : Int32))] [(.int (255 : Int32)), (.int ((p1.toUInt32 >>> ((8 : Int32) &&& 31).toUInt32).toInt32))])) (fun tt_ kk_ => XS.sipush X0.here hx rfl (hb hby d6_35) kk_) ?_
        refine Wp.st (S' := s₁.setTop (mkF m 39 #[.val (.int p1), .val (.int (2 : Int32)), .val (.int p3), .val (.int (2 : Int32))] [(.int (((p1.toUInt32 >>> ((8 : Int32) &&& 31).toUInt32).toInt32) &&& (255 : Int32)))])) (fun tt_ kk_ => XS.iand X0.here hx rfl (hb hby d6_38) rfl kk_) ?_
        refine Wp.st (S' := s₁.setTop (mkF m 40 #[.val (.int p1), .val (.int (2 : Int32)), .val (.int p3), .val (.int (2 : Int32))] [(.int p3), (.int (((p1.toUInt32 >>> ((8 : Int32) &&& 31).toUInt32).toInt32) &&& (255 : Int32)))])) (fun tt_ kk_ => XS.iloadN X0.here hx rfl (hb hby d6_39) rfl  kk_) ?_
        refine Wp.st (S' := s₁.setTop (mkF m 42 #[.val (.int p1), .val (.int (2 : Int32)), .val (.int p3), .val (.int (2 : Int32))] [(.int (8 : Int32)), (.int p3), (.int (((p1.toUInt32 >>> ((8 : Int32) &&& 31).toUInt32).toInt32) &&& (255 : Int32)))])) (fun tt_ kk_ => XS.bipush X0.here hx rfl (hb hby d6_40) kk_) ?_
        refine Wp.st (S' := s₁.setTop (mkF m 43 #[.val (.int p1), .val (.int (2 : Int32)), .val (.int p3), .val (.int (2 : Int32))] [(.int ((p3.toUInt32 >>> ((8 : Int32) &&& 31).toUInt32).toInt32)), (.int (((p1.toUInt32 >>> ((8 : Int32) &&& 31).toUInt32).toInt32) &&& (255 : Int32)))])) (fun tt_ kk_ => XS.iushr X0.here hx rfl (hb hby d6_42) rfl kk_) ?_
        refine Wp.st (S' := s₁.setTop (mkF m 46 #[.val (.int p1), .val (.int (2 : Int32)), .val (.int p3), .val (.int (2 : Int32))] [(.int (255 : Int32)), (.int ((p3.toUInt32 >>> ((8 : Int32) &&& 31).toUInt32).toInt32)), (.int (((p1.toUInt32 >>> ((8 : Int32) &&& 31).toUInt32).toInt32) &&& (255 : Int32)))])) (fun tt_ kk_ => XS.sipush X0.here hx rfl (hb hby d6_43) kk_) ?_
        refine Wp.st (S' := s₁.setTop (mkF m 47 #[.val (.int p1), .val (.int (2 : Int32)), .val (.int p3), .val (.int (2 : Int32))] [(.int (((p3.toUInt32 >>> ((8 : Int32) &&& 31).toUInt32).toInt32) &&& (255 : Int32))), (.int (((p1.toUInt32 >>> ((8 : Int32) &&& 31).toUInt32).toInt32) &&& (255 : Int32)))])) (fun tt_ kk_ => XS.iand X0.here hx rfl (hb hby d6_46) rfl kk_) ?_
        by_cases hc1 : (((p1.toUInt32 >>> ((8 : Int32) &&& 31).toUInt32).toInt32) &&& (255 : Int32)) = (((p3.toUInt32 >>> ((8 : Int32) &&& 31).toUInt32).toInt32) &&& (255 : Int32))
        case pos =>
          refine Wp.st (S' := s₁.setTop (mkF m 52 #[.val (.int p1), .val (.int (2 : Int32)), .val (.int p3), .val (.int (2 : Int32))] [])) (fun tt_ kk_ => XS.icmpYes X0.here hx rfl (pc0 := 47) (pc' := 52) rfl (hb hby d6_47) rfl (teq (hc1 : (((p1.toUInt32 >>> ((8 : Int32) &&& 31).toUInt32).toInt32) &&& (255 : Int32)) = (((p3.toUInt32 >>> ((8 : Int32) &&& 31).toUInt32).toInt32) &&& (255 : Int32)))).1 (by decide) (by decide) kk_) ?_
          have ec1 : own_c1 p1 = own_c1 p3 := hc1
          refine Wp.st (S' := s₁.setTop (mkF m 53 #[.val (.int p1), .val (.int (2 : Int32)), .val (.int p3), .val (.int (2 : Int32))] [(.int (2 : Int32))])) (fun tt_ kk_ => XS.iloadN X0.here hx rfl (hb hby d6_52) rfl  kk_) ?_
          refine Wp.st (S' := s₁.setTop (mkF m 54 #[.val (.int p1), .val (.int (2 : Int32)), .val (.int p3), .val (.int (2 : Int32))] [(.int (2 : Int32)), (.int (2 : Int32))])) (fun tt_ kk_ => XS.iconst X0.here hx rfl (hb hby d6_53) kk_) ?_
          refine Wp.st (S' := s₁.setTop (mkF m 78 #[.val (.int p1), .val (.int (2 : Int32)), .val (.int p3), .val (.int (2 : Int32))] [])) (fun tt_ kk_ => XS.icmpYes X0.here hx rfl (pc0 := 54) (pc' := 78) rfl (hb hby d6_54) rfl (flt ((by decide) : ¬ ((2 : Int32) < (2 : Int32)))).2.2.2 (by decide) (by decide) kk_) ?_
          refine Wp.st (S' := s₁.setTop (mkF m 79 #[.val (.int p1), .val (.int (2 : Int32)), .val (.int p3), .val (.int (2 : Int32))] [(.int (1 : Int32))])) (fun tt_ kk_ => XS.iconst X0.here hx rfl (hb hby d6_78) kk_) ?_
          exact Wp.ret X0 hlk (v := (some (.int (1 : Int32)))) (fun h => by rw [Bd.returns] at h; cases h) (fun fs hr => retN (z := (1 : Int32)) X0 hx (t := .boolean) Bd.returns (by simp) (hb hby d6_79) hr) (by decide) (by decide) (show Q_rm6 Z p1 (2 : Int32) p3 (2 : Int32) h0 n0 _ s₁.heap _ by rw [e0]; exact ⟨(by rw [if_pos (by simp only [own_cs2, ec0, ec1])]), N0, rfl⟩)
        case neg =>
          refine Wp.st (S' := s₁.setTop (mkF m 50 #[.val (.int p1), .val (.int (2 : Int32)), .val (.int p3), .val (.int (2 : Int32))] [])) (fun tt_ kk_ => XS.icmpNo X0.here hx rfl (hb hby d6_47) rfl (feq (hc1 : ¬ ((((p1.toUInt32 >>> ((8 : Int32) &&& 31).toUInt32).toInt32) &&& (255 : Int32)) = (((p3.toUInt32 >>> ((8 : Int32) &&& 31).toUInt32).toInt32) &&& (255 : Int32))))).1 kk_) ?_
          refine Wp.st (S' := s₁.setTop (mkF m 51 #[.val (.int p1), .val (.int (2 : Int32)), .val (.int p3), .val (.int (2 : Int32))] [(.int (0 : Int32))])) (fun tt_ kk_ => XS.iconst X0.here hx rfl (hb hby d6_50) kk_) ?_
          exact Wp.ret X0 hlk (v := (some (.int (0 : Int32)))) (fun h => by rw [Bd.returns] at h; cases h) (fun fs hr => retN (z := (0 : Int32)) X0 hx (t := .boolean) Bd.returns (by simp) (hb hby d6_51) hr) (by decide) (by decide) (show Q_rm6 Z p1 (2 : Int32) p3 (2 : Int32) h0 n0 _ s₁.heap _ by rw [e0]; exact ⟨(by rw [if_neg (fun q => by simp only [own_cs2, List.cons.injEq, and_true] at q; exact hc1 q.2)]), N0, rfl⟩)
      case neg =>
        refine Wp.st (S' := s₁.setTop (mkF m 24 #[.val (.int p1), .val (.int (2 : Int32)), .val (.int p3), .val (.int (2 : Int32))] [])) (fun tt_ kk_ => XS.icmpNo X0.here hx rfl (hb hby d6_21) rfl (feq (hc0 : ¬ ((p1 &&& (255 : Int32)) = (p3 &&& (255 : Int32))))).1 kk_) ?_
        refine Wp.st (S' := s₁.setTop (mkF m 25 #[.val (.int p1), .val (.int (2 : Int32)), .val (.int p3), .val (.int (2 : Int32))] [(.int (0 : Int32))])) (fun tt_ kk_ => XS.iconst X0.here hx rfl (hb hby d6_24) kk_) ?_
        exact Wp.ret X0 hlk (v := (some (.int (0 : Int32)))) (fun h => by rw [Bd.returns] at h; cases h) (fun fs hr => retN (z := (0 : Int32)) X0 hx (t := .boolean) Bd.returns (by simp) (hb hby d6_25) hr) (by decide) (by decide) (show Q_rm6 Z p1 (2 : Int32) p3 (2 : Int32) h0 n0 _ s₁.heap _ by rw [e0]; exact ⟨(by rw [if_neg (fun q => by simp only [own_cs2, List.cons.injEq, and_true] at q; exact hc0 q.1)]), N0, rfl⟩)
    · have _u := True.intro
      refine Wp.st (S' := s₁.setTop (mkF m 8 #[.val (.int p1), .val (.int (3 : Int32)), .val (.int p3), .val (.int (3 : Int32))] [(.int (3 : Int32))])) (fun tt_ kk_ => XS.iloadN X0.here hx rfl (hb hby d6_7) rfl  kk_) ?_
      refine Wp.st (S' := s₁.setTop (mkF m 11 #[.val (.int p1), .val (.int (3 : Int32)), .val (.int p3), .val (.int (3 : Int32))] [])) (fun tt_ kk_ => XS.ifNo X0.here hx rfl (hb hby d6_8) rfl ((if0 _ _).trans (tlt ((by decide) : (0 : Int32) < (3 : Int32))).2.2.2) kk_) ?_
      refine Wp.st (S' := s₁.setTop (mkF m 12 #[.val (.int p1), .val (.int (3 : Int32)), .val (.int p3), .val (.int (3 : Int32))] [(.int p1)])) (fun tt_ kk_ => XS.iloadN X0.here hx rfl (hb hby d6_11) rfl  kk_) ?_
      refine Wp.st (S' := s₁.setTop (mkF m 15 #[.val (.int p1), .val (.int (3 : Int32)), .val (.int p3), .val (.int (3 : Int32))] [(.int (255 : Int32)), (.int p1)])) (fun tt_ kk_ => XS.sipush X0.here hx rfl (hb hby d6_12) kk_) ?_
      refine Wp.st (S' := s₁.setTop (mkF m 16 #[.val (.int p1), .val (.int (3 : Int32)), .val (.int p3), .val (.int (3 : Int32))] [(.int (p1 &&& (255 : Int32)))])) (fun tt_ kk_ => XS.iand X0.here hx rfl (hb hby d6_15) rfl kk_) ?_
      refine Wp.st (S' := s₁.setTop (mkF m 17 #[.val (.int p1), .val (.int (3 : Int32)), .val (.int p3), .val (.int (3 : Int32))] [(.int p3), (.int (p1 &&& (255 : Int32)))])) (fun tt_ kk_ => XS.iloadN X0.here hx rfl (hb hby d6_16) rfl  kk_) ?_
      refine Wp.st (S' := s₁.setTop (mkF m 20 #[.val (.int p1), .val (.int (3 : Int32)), .val (.int p3), .val (.int (3 : Int32))] [(.int (255 : Int32)), (.int p3), (.int (p1 &&& (255 : Int32)))])) (fun tt_ kk_ => XS.sipush X0.here hx rfl (hb hby d6_17) kk_) ?_
      refine Wp.st (S' := s₁.setTop (mkF m 21 #[.val (.int p1), .val (.int (3 : Int32)), .val (.int p3), .val (.int (3 : Int32))] [(.int (p3 &&& (255 : Int32))), (.int (p1 &&& (255 : Int32)))])) (fun tt_ kk_ => XS.iand X0.here hx rfl (hb hby d6_20) rfl kk_) ?_
      by_cases hc0 : (p1 &&& (255 : Int32)) = (p3 &&& (255 : Int32))
      case pos =>
        refine Wp.st (S' := s₁.setTop (mkF m 26 #[.val (.int p1), .val (.int (3 : Int32)), .val (.int p3), .val (.int (3 : Int32))] [])) (fun tt_ kk_ => XS.icmpYes X0.here hx rfl (pc0 := 21) (pc' := 26) rfl (hb hby d6_21) rfl (teq (hc0 : (p1 &&& (255 : Int32)) = (p3 &&& (255 : Int32)))).1 (by decide) (by decide) kk_) ?_
        have ec0 : own_c0 p1 = own_c0 p3 := hc0
        refine Wp.st (S' := s₁.setTop (mkF m 27 #[.val (.int p1), .val (.int (3 : Int32)), .val (.int p3), .val (.int (3 : Int32))] [(.int (3 : Int32))])) (fun tt_ kk_ => XS.iloadN X0.here hx rfl (hb hby d6_26) rfl  kk_) ?_
        refine Wp.st (S' := s₁.setTop (mkF m 28 #[.val (.int p1), .val (.int (3 : Int32)), .val (.int p3), .val (.int (3 : Int32))] [(.int (1 : Int32)), (.int (3 : Int32))])) (fun tt_ kk_ => XS.iconst X0.here hx rfl (hb hby d6_27) kk_) ?_
        refine Wp.st (S' := s₁.setTop (mkF m 31 #[.val (.int p1), .val (.int (3 : Int32)), .val (.int p3), .val (.int (3 : Int32))] [])) (fun tt_ kk_ => XS.icmpNo X0.here hx rfl (hb hby d6_28) rfl (tlt ((by decide) : (1 : Int32) < (3 : Int32))).2.2.2 kk_) ?_
        refine Wp.st (S' := s₁.setTop (mkF m 32 #[.val (.int p1), .val (.int (3 : Int32)), .val (.int p3), .val (.int (3 : Int32))] [(.int p1)])) (fun tt_ kk_ => XS.iloadN X0.here hx rfl (hb hby d6_31) rfl  kk_) ?_
        refine Wp.st (S' := s₁.setTop (mkF m 34 #[.val (.int p1), .val (.int (3 : Int32)), .val (.int p3), .val (.int (3 : Int32))] [(.int (8 : Int32)), (.int p1)])) (fun tt_ kk_ => XS.bipush X0.here hx rfl (hb hby d6_32) kk_) ?_
        refine Wp.st (S' := s₁.setTop (mkF m 35 #[.val (.int p1), .val (.int (3 : Int32)), .val (.int p3), .val (.int (3 : Int32))] [(.int ((p1.toUInt32 >>> ((8 : Int32) &&& 31).toUInt32).toInt32))])) (fun tt_ kk_ => XS.iushr X0.here hx rfl (hb hby d6_34) rfl kk_) ?_
        refine Wp.st (S' := s₁.setTop (mkF m 38 #[.val (.int p1), .val (.int (3 : Int32)), .val (.int p3), .val (.int (3 : Int32))] [(.int (255 : Int32)), (.int ((p1.toUInt32 >>> ((8 : Int32) &&& 31).toUInt32).toInt32))])) (fun tt_ kk_ => XS.sipush X0.here hx rfl (hb hby d6_35) kk_) ?_
        refine Wp.st (S' := s₁.setTop (mkF m 39 #[.val (.int p1), .val (.int (3 : Int32)), .val (.int p3), .val (.int (3 : Int32))] [(.int (((p1.toUInt32 >>> ((8 : Int32) &&& 31).toUInt32).toInt32) &&& (255 : Int32)))])) (fun tt_ kk_ => XS.iand X0.here hx rfl (hb hby d6_38) rfl kk_) ?_
        refine Wp.st (S' := s₁.setTop (mkF m 40 #[.val (.int p1), .val (.int (3 : Int32)), .val (.int p3), .val (.int (3 : Int32))] [(.int p3), (.int (((p1.toUInt32 >>> ((8 : Int32) &&& 31).toUInt32).toInt32) &&& (255 : Int32)))])) (fun tt_ kk_ => XS.iloadN X0.here hx rfl (hb hby d6_39) rfl  kk_) ?_
        refine Wp.st (S' := s₁.setTop (mkF m 42 #[.val (.int p1), .val (.int (3 : Int32)), .val (.int p3), .val (.int (3 : Int32))] [(.int (8 : Int32)), (.int p3), (.int (((p1.toUInt32 >>> ((8 : Int32) &&& 31).toUInt32).toInt32) &&& (255 : Int32)))])) (fun tt_ kk_ => XS.bipush X0.here hx rfl (hb hby d6_40) kk_) ?_
        refine Wp.st (S' := s₁.setTop (mkF m 43 #[.val (.int p1), .val (.int (3 : Int32)), .val (.int p3), .val (.int (3 : Int32))] [(.int ((p3.toUInt32 >>> ((8 : Int32) &&& 31).toUInt32).toInt32)), (.int (((p1.toUInt32 >>> ((8 : Int32) &&& 31).toUInt32).toInt32) &&& (255 : Int32)))])) (fun tt_ kk_ => XS.iushr X0.here hx rfl (hb hby d6_42) rfl kk_) ?_
        refine Wp.st (S' := s₁.setTop (mkF m 46 #[.val (.int p1), .val (.int (3 : Int32)), .val (.int p3), .val (.int (3 : Int32))] [(.int (255 : Int32)), (.int ((p3.toUInt32 >>> ((8 : Int32) &&& 31).toUInt32).toInt32)), (.int (((p1.toUInt32 >>> ((8 : Int32) &&& 31).toUInt32).toInt32) &&& (255 : Int32)))])) (fun tt_ kk_ => XS.sipush X0.here hx rfl (hb hby d6_43) kk_) ?_
        refine Wp.st (S' := s₁.setTop (mkF m 47 #[.val (.int p1), .val (.int (3 : Int32)), .val (.int p3), .val (.int (3 : Int32))] [(.int (((p3.toUInt32 >>> ((8 : Int32) &&& 31).toUInt32).toInt32) &&& (255 : Int32))), (.int (((p1.toUInt32 >>> ((8 : Int32) &&& 31).toUInt32).toInt32) &&& (255 : Int32)))])) (fun tt_ kk_ => XS.iand X0.here hx rfl (hb hby d6_46) rfl kk_) ?_
        by_cases hc1 : (((p1.toUInt32 >>> ((8 : Int32) &&& 31).toUInt32).toInt32) &&& (255 : Int32)) = (((p3.toUInt32 >>> ((8 : Int32) &&& 31).toUInt32).toInt32) &&& (255 : Int32))
        case pos =>
          refine Wp.st (S' := s₁.setTop (mkF m 52 #[.val (.int p1), .val (.int (3 : Int32)), .val (.int p3), .val (.int (3 : Int32))] [])) (fun tt_ kk_ => XS.icmpYes X0.here hx rfl (pc0 := 47) (pc' := 52) rfl (hb hby d6_47) rfl (teq (hc1 : (((p1.toUInt32 >>> ((8 : Int32) &&& 31).toUInt32).toInt32) &&& (255 : Int32)) = (((p3.toUInt32 >>> ((8 : Int32) &&& 31).toUInt32).toInt32) &&& (255 : Int32)))).1 (by decide) (by decide) kk_) ?_
          have ec1 : own_c1 p1 = own_c1 p3 := hc1
          refine Wp.st (S' := s₁.setTop (mkF m 53 #[.val (.int p1), .val (.int (3 : Int32)), .val (.int p3), .val (.int (3 : Int32))] [(.int (3 : Int32))])) (fun tt_ kk_ => XS.iloadN X0.here hx rfl (hb hby d6_52) rfl  kk_) ?_
          refine Wp.st (S' := s₁.setTop (mkF m 54 #[.val (.int p1), .val (.int (3 : Int32)), .val (.int p3), .val (.int (3 : Int32))] [(.int (2 : Int32)), (.int (3 : Int32))])) (fun tt_ kk_ => XS.iconst X0.here hx rfl (hb hby d6_53) kk_) ?_
          refine Wp.st (S' := s₁.setTop (mkF m 57 #[.val (.int p1), .val (.int (3 : Int32)), .val (.int p3), .val (.int (3 : Int32))] [])) (fun tt_ kk_ => XS.icmpNo X0.here hx rfl (hb hby d6_54) rfl (tlt ((by decide) : (2 : Int32) < (3 : Int32))).2.2.2 kk_) ?_
          refine Wp.st (S' := s₁.setTop (mkF m 58 #[.val (.int p1), .val (.int (3 : Int32)), .val (.int p3), .val (.int (3 : Int32))] [(.int p1)])) (fun tt_ kk_ => XS.iloadN X0.here hx rfl (hb hby d6_57) rfl  kk_) ?_
          refine Wp.st (S' := s₁.setTop (mkF m 60 #[.val (.int p1), .val (.int (3 : Int32)), .val (.int p3), .val (.int (3 : Int32))] [(.int (16 : Int32)), (.int p1)])) (fun tt_ kk_ => XS.bipush X0.here hx rfl (hb hby d6_58) kk_) ?_
          refine Wp.st (S' := s₁.setTop (mkF m 61 #[.val (.int p1), .val (.int (3 : Int32)), .val (.int p3), .val (.int (3 : Int32))] [(.int ((p1.toUInt32 >>> ((16 : Int32) &&& 31).toUInt32).toInt32))])) (fun tt_ kk_ => XS.iushr X0.here hx rfl (hb hby d6_60) rfl kk_) ?_
          refine Wp.st (S' := s₁.setTop (mkF m 64 #[.val (.int p1), .val (.int (3 : Int32)), .val (.int p3), .val (.int (3 : Int32))] [(.int (255 : Int32)), (.int ((p1.toUInt32 >>> ((16 : Int32) &&& 31).toUInt32).toInt32))])) (fun tt_ kk_ => XS.sipush X0.here hx rfl (hb hby d6_61) kk_) ?_
          refine Wp.st (S' := s₁.setTop (mkF m 65 #[.val (.int p1), .val (.int (3 : Int32)), .val (.int p3), .val (.int (3 : Int32))] [(.int (((p1.toUInt32 >>> ((16 : Int32) &&& 31).toUInt32).toInt32) &&& (255 : Int32)))])) (fun tt_ kk_ => XS.iand X0.here hx rfl (hb hby d6_64) rfl kk_) ?_
          refine Wp.st (S' := s₁.setTop (mkF m 66 #[.val (.int p1), .val (.int (3 : Int32)), .val (.int p3), .val (.int (3 : Int32))] [(.int p3), (.int (((p1.toUInt32 >>> ((16 : Int32) &&& 31).toUInt32).toInt32) &&& (255 : Int32)))])) (fun tt_ kk_ => XS.iloadN X0.here hx rfl (hb hby d6_65) rfl  kk_) ?_
          refine Wp.st (S' := s₁.setTop (mkF m 68 #[.val (.int p1), .val (.int (3 : Int32)), .val (.int p3), .val (.int (3 : Int32))] [(.int (16 : Int32)), (.int p3), (.int (((p1.toUInt32 >>> ((16 : Int32) &&& 31).toUInt32).toInt32) &&& (255 : Int32)))])) (fun tt_ kk_ => XS.bipush X0.here hx rfl (hb hby d6_66) kk_) ?_
          refine Wp.st (S' := s₁.setTop (mkF m 69 #[.val (.int p1), .val (.int (3 : Int32)), .val (.int p3), .val (.int (3 : Int32))] [(.int ((p3.toUInt32 >>> ((16 : Int32) &&& 31).toUInt32).toInt32)), (.int (((p1.toUInt32 >>> ((16 : Int32) &&& 31).toUInt32).toInt32) &&& (255 : Int32)))])) (fun tt_ kk_ => XS.iushr X0.here hx rfl (hb hby d6_68) rfl kk_) ?_
          refine Wp.st (S' := s₁.setTop (mkF m 72 #[.val (.int p1), .val (.int (3 : Int32)), .val (.int p3), .val (.int (3 : Int32))] [(.int (255 : Int32)), (.int ((p3.toUInt32 >>> ((16 : Int32) &&& 31).toUInt32).toInt32)), (.int (((p1.toUInt32 >>> ((16 : Int32) &&& 31).toUInt32).toInt32) &&& (255 : Int32)))])) (fun tt_ kk_ => XS.sipush X0.here hx rfl (hb hby d6_69) kk_) ?_
          refine Wp.st (S' := s₁.setTop (mkF m 73 #[.val (.int p1), .val (.int (3 : Int32)), .val (.int p3), .val (.int (3 : Int32))] [(.int (((p3.toUInt32 >>> ((16 : Int32) &&& 31).toUInt32).toInt32) &&& (255 : Int32))), (.int (((p1.toUInt32 >>> ((16 : Int32) &&& 31).toUInt32).toInt32) &&& (255 : Int32)))])) (fun tt_ kk_ => XS.iand X0.here hx rfl (hb hby d6_72) rfl kk_) ?_
          by_cases hc2 : (((p1.toUInt32 >>> ((16 : Int32) &&& 31).toUInt32).toInt32) &&& (255 : Int32)) = (((p3.toUInt32 >>> ((16 : Int32) &&& 31).toUInt32).toInt32) &&& (255 : Int32))
          case pos =>
            refine Wp.st (S' := s₁.setTop (mkF m 78 #[.val (.int p1), .val (.int (3 : Int32)), .val (.int p3), .val (.int (3 : Int32))] [])) (fun tt_ kk_ => XS.icmpYes X0.here hx rfl (pc0 := 73) (pc' := 78) rfl (hb hby d6_73) rfl (teq (hc2 : (((p1.toUInt32 >>> ((16 : Int32) &&& 31).toUInt32).toInt32) &&& (255 : Int32)) = (((p3.toUInt32 >>> ((16 : Int32) &&& 31).toUInt32).toInt32) &&& (255 : Int32)))).1 (by decide) (by decide) kk_) ?_
            have ec2 : own_c2 p1 = own_c2 p3 := hc2
            refine Wp.st (S' := s₁.setTop (mkF m 79 #[.val (.int p1), .val (.int (3 : Int32)), .val (.int p3), .val (.int (3 : Int32))] [(.int (1 : Int32))])) (fun tt_ kk_ => XS.iconst X0.here hx rfl (hb hby d6_78) kk_) ?_
            exact Wp.ret X0 hlk (v := (some (.int (1 : Int32)))) (fun h => by rw [Bd.returns] at h; cases h) (fun fs hr => retN (z := (1 : Int32)) X0 hx (t := .boolean) Bd.returns (by simp) (hb hby d6_79) hr) (by decide) (by decide) (show Q_rm6 Z p1 (3 : Int32) p3 (3 : Int32) h0 n0 _ s₁.heap _ by rw [e0]; exact ⟨(by rw [if_pos (by simp only [own_cs3, ec0, ec1, ec2])]), N0, rfl⟩)
          case neg =>
            refine Wp.st (S' := s₁.setTop (mkF m 76 #[.val (.int p1), .val (.int (3 : Int32)), .val (.int p3), .val (.int (3 : Int32))] [])) (fun tt_ kk_ => XS.icmpNo X0.here hx rfl (hb hby d6_73) rfl (feq (hc2 : ¬ ((((p1.toUInt32 >>> ((16 : Int32) &&& 31).toUInt32).toInt32) &&& (255 : Int32)) = (((p3.toUInt32 >>> ((16 : Int32) &&& 31).toUInt32).toInt32) &&& (255 : Int32))))).1 kk_) ?_
            refine Wp.st (S' := s₁.setTop (mkF m 77 #[.val (.int p1), .val (.int (3 : Int32)), .val (.int p3), .val (.int (3 : Int32))] [(.int (0 : Int32))])) (fun tt_ kk_ => XS.iconst X0.here hx rfl (hb hby d6_76) kk_) ?_
            exact Wp.ret X0 hlk (v := (some (.int (0 : Int32)))) (fun h => by rw [Bd.returns] at h; cases h) (fun fs hr => retN (z := (0 : Int32)) X0 hx (t := .boolean) Bd.returns (by simp) (hb hby d6_77) hr) (by decide) (by decide) (show Q_rm6 Z p1 (3 : Int32) p3 (3 : Int32) h0 n0 _ s₁.heap _ by rw [e0]; exact ⟨(by rw [if_neg (fun q => by simp only [own_cs3, List.cons.injEq, and_true] at q; exact hc2 q.2.2)]), N0, rfl⟩)
        case neg =>
          refine Wp.st (S' := s₁.setTop (mkF m 50 #[.val (.int p1), .val (.int (3 : Int32)), .val (.int p3), .val (.int (3 : Int32))] [])) (fun tt_ kk_ => XS.icmpNo X0.here hx rfl (hb hby d6_47) rfl (feq (hc1 : ¬ ((((p1.toUInt32 >>> ((8 : Int32) &&& 31).toUInt32).toInt32) &&& (255 : Int32)) = (((p3.toUInt32 >>> ((8 : Int32) &&& 31).toUInt32).toInt32) &&& (255 : Int32))))).1 kk_) ?_
          refine Wp.st (S' := s₁.setTop (mkF m 51 #[.val (.int p1), .val (.int (3 : Int32)), .val (.int p3), .val (.int (3 : Int32))] [(.int (0 : Int32))])) (fun tt_ kk_ => XS.iconst X0.here hx rfl (hb hby d6_50) kk_) ?_
          exact Wp.ret X0 hlk (v := (some (.int (0 : Int32)))) (fun h => by rw [Bd.returns] at h; cases h) (fun fs hr => retN (z := (0 : Int32)) X0 hx (t := .boolean) Bd.returns (by simp) (hb hby d6_51) hr) (by decide) (by decide) (show Q_rm6 Z p1 (3 : Int32) p3 (3 : Int32) h0 n0 _ s₁.heap _ by rw [e0]; exact ⟨(by rw [if_neg (fun q => by simp only [own_cs3, List.cons.injEq, and_true] at q; exact hc1 q.2.1)]), N0, rfl⟩)
      case neg =>
        refine Wp.st (S' := s₁.setTop (mkF m 24 #[.val (.int p1), .val (.int (3 : Int32)), .val (.int p3), .val (.int (3 : Int32))] [])) (fun tt_ kk_ => XS.icmpNo X0.here hx rfl (hb hby d6_21) rfl (feq (hc0 : ¬ ((p1 &&& (255 : Int32)) = (p3 &&& (255 : Int32))))).1 kk_) ?_
        refine Wp.st (S' := s₁.setTop (mkF m 25 #[.val (.int p1), .val (.int (3 : Int32)), .val (.int p3), .val (.int (3 : Int32))] [(.int (0 : Int32))])) (fun tt_ kk_ => XS.iconst X0.here hx rfl (hb hby d6_24) kk_) ?_
        exact Wp.ret X0 hlk (v := (some (.int (0 : Int32)))) (fun h => by rw [Bd.returns] at h; cases h) (fun fs hr => retN (z := (0 : Int32)) X0 hx (t := .boolean) Bd.returns (by simp) (hb hby d6_25) hr) (by decide) (by decide) (show Q_rm6 Z p1 (3 : Int32) p3 (3 : Int32) h0 n0 _ s₁.heap _ by rw [e0]; exact ⟨(by rw [if_neg (fun q => by simp only [own_cs3, List.cons.injEq, and_true] at q; exact hc0 q.1)]), N0, rfl⟩)
  case neg =>
    refine Wp.st (S' := s₁.setTop (mkF m 5 #[.val (.int p1), .val (.int p2), .val (.int p3), .val (.int p4)] [])) (fun tt_ kk_ => XS.icmpNo X0.here hx rfl (hb hby d6_2) rfl (feq (hl : ¬ (p2 = p4))).1 kk_) ?_
    refine Wp.st (S' := s₁.setTop (mkF m 6 #[.val (.int p1), .val (.int p2), .val (.int p3), .val (.int p4)] [(.int (0 : Int32))])) (fun tt_ kk_ => XS.iconst X0.here hx rfl (hb hby d6_5) kk_) ?_
    exact Wp.ret X0 hlk (v := (some (.int (0 : Int32)))) (fun h => by rw [Bd.returns] at h; cases h) (fun fs hr => retN (z := (0 : Int32)) X0 hx (t := .boolean) Bd.returns (by simp) (hb hby d6_6) hr) (by decide) (by decide) (show Q_rm6 Z p1 p2 p3 p4 h0 n0 _ s₁.heap _ by rw [e0]; exact ⟨(by rw [if_neg (own_len_ne h4 k4 hl)]), N0, rfl⟩)
theorem pn_5 : plainName "com/example/clients_by_rule/clientsbyrule/profile/Suppression" = true := by first | (simp [plainName, overriddenIn]; done) | decide +kernel
theorem d5_0 : decode prog_20_method_1_code 0 = .ok (.aload_n 0, 1) := by decide +kernel
theorem d5_1 : decode prog_20_method_1_code 1 = .ok (.invokespecial 1, 3) := by decide +kernel
theorem d5_4 : decode prog_20_method_1_code 4 = .ok (.aload_n 0, 1) := by decide +kernel
theorem d5_5 : decode prog_20_method_1_code 5 = .ok (.iload_n 1, 1) := by decide +kernel
theorem d5_6 : decode prog_20_method_1_code 6 = .ok (.putfield 7, 3) := by decide +kernel
theorem d5_9 : decode prog_20_method_1_code 9 = .ok (.aload_n 0, 1) := by decide +kernel
theorem d5_10 : decode prog_20_method_1_code 10 = .ok (.aload_n 2, 1) := by decide +kernel
theorem d5_11 : decode prog_20_method_1_code 11 = .ok (.putfield 13, 3) := by decide +kernel
theorem d5_14 : decode prog_20_method_1_code 14 = .ok (.aload_n 0, 1) := by decide +kernel
theorem d5_15 : decode prog_20_method_1_code 15 = .ok (.aload_n 3, 1) := by decide +kernel
theorem d5_16 : decode prog_20_method_1_code 16 = .ok (.putfield 17, 3) := by decide +kernel
theorem d5_19 : decode prog_20_method_1_code 19 = .ok (.aload_n 0, 1) := by decide +kernel
theorem d5_20 : decode prog_20_method_1_code 20 = .ok (.aload 4, 2) := by decide +kernel
theorem d5_22 : decode prog_20_method_1_code 22 = .ok (.putfield 20, 3) := by decide +kernel
theorem d5_25 : decode prog_20_method_1_code 25 = .ok (.aload_n 0, 1) := by decide +kernel
theorem d5_26 : decode prog_20_method_1_code 26 = .ok (.aload 5, 2) := by decide +kernel
theorem d5_28 : decode prog_20_method_1_code 28 = .ok (.putfield 23, 3) := by decide +kernel
theorem d5_31 : decode prog_20_method_1_code 31 = .ok (.return_, 1) := by decide +kernel
theorem ef_rm5 (m : MethodId) (a1 : Addr) (p2 : Int32) (a3 : Addr) (a4 : Addr) (a5 : Addr) (a6 : Addr) : entryFrame m #[(.ref a1), (.int p2), (.ref a3), (.ref a4), (.ref a5), (.ref a6)] 6 = mkF m 0 #[.val (.ref a1), .val (.int p2), .val (.ref a3), .val (.ref a4), .val (.ref a5), .val (.ref a6)] [] := by first | (simp [entryFrame, mkF, argsToLocals, Value.category]; done) | rfl
def Q_rm5 (Z : State) (a1 : Addr) (p2 : Int32) (a3 : Addr) (a4 : Addr) (a5 : Addr) (a6 : Addr) (h0 : Heap) (n0 : Nat) (v : Option Value) (h : Heap) (L : List Loc) : Prop := (v = none) ∧ (Fr n0 L) ∧ (Keep h0 h [a1]) ∧ (Exa Z h a1 "com/example/clients_by_rule/clientsbyrule/profile/Suppression") ∧ (Fld Z h a1 "com/example/clients_by_rule/clientsbyrule/profile/Suppression" "ruleId" "Ljava/lang/String;" (.ref a4)) ∧ (Fld Z h a1 "com/example/clients_by_rule/clientsbyrule/profile/Suppression" "path" "Ljava/lang/String;" (.ref a5))
set_option maxRecDepth 65536 in
set_option maxHeartbeats 40000000 in
theorem rm5 (l : Launch) (Z : State) (a0 : Array Value) (hw : ∀ d ∈ tables_1, d.before a0 Z = true) (ws : List Jvm.Cond) (a1 : Addr) (p2 : Int32) (a3 : Addr) (a4 : Addr) (a5 : Addr) (a6 : Addr) (h0 : Heap) (n0 : Nat) (Z0 : n0 ≤ h0.size) (g_a1 : n0 ≤ a1) (P1 : Exa Z h0 a1 "com/example/clients_by_rule/clientsbyrule/profile/Suppression") (P2 : Fld Z h0 a1 "com/example/clients_by_rule/clientsbyrule/profile/Suppression" "index" "I" (.int (0 : Int32))) (P3 : Fld Z h0 a1 "com/example/clients_by_rule/clientsbyrule/profile/Suppression" "place" "Ljava/lang/String;" .null) (P4 : Fld Z h0 a1 "com/example/clients_by_rule/clientsbyrule/profile/Suppression" "ruleId" "Ljava/lang/String;" .null) (P5 : Fld Z h0 a1 "com/example/clients_by_rule/clientsbyrule/profile/Suppression" "path" "Ljava/lang/String;" .null) (P6 : Fld Z h0 a1 "com/example/clients_by_rule/clientsbyrule/profile/Suppression" "reason" "Ljava/lang/String;" .null) :
    MetFree l (⟨"com/example/clients_by_rule/clientsbyrule/profile/Suppression", "<init>", "(ILjava/lang/String;Ljava/lang/String;Ljava/lang/String;Ljava/lang/String;)V"⟩ : MethodName) (head1 (Jvm.Cond.code (⟨"com/example/clients_by_rule/clientsbyrule/profile/Suppression", "<init>", "(ILjava/lang/String;Ljava/lang/String;Ljava/lang/String;Ljava/lang/String;)V"⟩ : MethodName) prog_20_method_1_code 6 none :: ws) ({ frames := 1, cells := 0, slots := 0, locals := 12 } : Room)) (fun a U => a = #[(.ref a1), (.int p2), (.ref a3), (.ref a4), (.ref a5), (.ref a6)] ∧ Z.Warmed39 U.vm ∧ U.heap = h0) (fun _ _ _ _ _ => True) (fun _ U o U' => ∃ v L, o = .returned v ∧ Q_rm5 Z a1 p2 a3 a4 a5 a6 h0 n0 v U'.heap L ∧ FrameEnd U o U' L ({ frames := 1, cells := 0, slots := 0, locals := 12 } : Room).cells ({ frames := 1, cells := 0, slots := 0, locals := 12 } : Room).slots) := by
  refine MetFree.of_bodySF (plainFor_of_name pn_5) hisR ?_
  intro p e s m args below meth c s₁ Bd hml0 hP hK
  obtain ⟨rfl, hZ, hh⟩ := hP
  have hx := Bd.exec
  have hby := Bd.bytes
  have hml : c.maxLocals = 6 := hml0
  have hown : s.vm.findClass "com/example/clients_by_rule/clientsbyrule/profile/Suppression" = some m.cls := findClass_of_methodNamed Bd.named
  have hnm := (name_of_methodNamed Bd.named Bd.method).1
  have hlk := Bd.notSynchronized
  have X0 : Stand p l e ({ frames := 1, cells := 0, slots := 0, locals := 12 } : Room) s m #[(.ref a1), (.int p2), (.ref a3), (.ref a4), (.ref a5), (.ref a6)] below meth c s₁ [] 0 0 := Stand.of_body Bd
  have e0 : s₁.heap = h0 := by rw [← hh, Bd.state]; rfl
  have N0 := Fr.nil n0
  refine Wp.goal (Post := (fun o U' => ∃ v L, o = .returned v ∧ Q_rm5 Z a1 p2 a3 a4 a5 a6 h0 n0 v U'.heap L ∧ FrameEnd s o U' L ({ frames := 1, cells := 0, slots := 0, locals := 12 } : Room).cells ({ frames := 1, cells := 0, slots := 0, locals := 12 } : Room).slots)) (Wp.st (S' := s₁.setTop (mkF m 0 #[.val (.ref a1), .val (.int p2), .val (.ref a3), .val (.ref a4), .val (.ref a5), .val (.ref a6)] [])) (fun tt_ kk_ => castTop (ef_rm5 m a1 p2 a3 a4 a5 a6 ) kk_) ?_)
  refine Wp.st (S' := s₁.setTop (mkF m 1 #[.val (.ref a1), .val (.int p2), .val (.ref a3), .val (.ref a4), .val (.ref a5), .val (.ref a6)] [(.ref a1)])) (fun tt_ kk_ => XS.aloadN X0.here hx rfl (hb hby d5_0) rfl rfl kk_) ?_
  obtain ⟨T1, X1, e1, st1⟩ := initO X0 hx hZ hown (hw _ (List.mem_of_getElem? (i := 34) rfl)) (hw _ (List.mem_of_getElem? (i := 16) rfl)) (hw _ (List.mem_of_getElem? (i := 17) rfl)) e0 (g := (mkF m 1 #[.val (.ref a1), .val (.int p2), .val (.ref a3), .val (.ref a4), .val (.ref a5), .val (.ref a6)] [(.ref a1)])) rfl (by rw [hml]; rfl) rfl (hb hby d5_1) (by decide) (W := 0) (by show 2 * 0 + _ ≤ _; exact Nat.le_of_eq rfl) (by decide)
  refine Wp.st (S' := T1.setTop (mkF m 4 #[.val (.ref a1), .val (.int p2), .val (.ref a3), .val (.ref a4), .val (.ref a5), .val (.ref a6)] [])) st1 ?_
  refine Wp.st (S' := T1.setTop (mkF m 5 #[.val (.ref a1), .val (.int p2), .val (.ref a3), .val (.ref a4), .val (.ref a5), .val (.ref a6)] [(.ref a1)])) (fun tt_ kk_ => XS.aloadN X1.here hx rfl (hb hby d5_4) rfl rfl kk_) ?_
  refine Wp.st (S' := T1.setTop (mkF m 6 #[.val (.ref a1), .val (.int p2), .val (.ref a3), .val (.ref a4), .val (.ref a5), .val (.ref a6)] [(.int p2), (.ref a1)])) (fun tt_ kk_ => XS.iloadN X1.here hx rfl (hb hby d5_5) rfl  kk_) ?_
  obtain ⟨T2, h2, X2, e2, W2, st2⟩ := putF X1 hx hZ hown (host := "") (Or.inl (hw _ (List.mem_of_getElem? (i := 35) rfl))) Via.refl e1 P2 P1 (Or.inr ⟨(hw _ (List.mem_of_getElem? (i := 36) rfl)), rfl, hnm⟩) (hw _ (List.mem_of_getElem? (i := 27) rfl)) (ty := .int) (by decide) rfl rfl (g := (mkF m 6 #[.val (.ref a1), .val (.int p2), .val (.ref a3), .val (.ref a4), .val (.ref a5), .val (.ref a6)] [(.int p2), (.ref a1)])) rfl rfl (hb hby d5_6)
  have z3 := Nat.le_of_eq W2.size.symm
  have Fw2 : Fld Z h2 a1 "com/example/clients_by_rule/clientsbyrule/profile/Suppression" "index" "I" (.int p2) := P2.same W2
  have N2 := Fr.snoc X2 N0 g_a1
  refine Wp.st (S' := T2.setTop (mkF m 9 #[.val (.ref a1), .val (.int p2), .val (.ref a3), .val (.ref a4), .val (.ref a5), .val (.ref a6)] [])) st2 ?_
  refine Wp.st (S' := T2.setTop (mkF m 10 #[.val (.ref a1), .val (.int p2), .val (.ref a3), .val (.ref a4), .val (.ref a5), .val (.ref a6)] [(.ref a1)])) (fun tt_ kk_ => XS.aloadN X2.here hx rfl (hb hby d5_9) rfl rfl kk_) ?_
  refine Wp.st (S' := T2.setTop (mkF m 11 #[.val (.ref a1), .val (.int p2), .val (.ref a3), .val (.ref a4), .val (.ref a5), .val (.ref a6)] [(.ref a3), (.ref a1)])) (fun tt_ kk_ => XS.aloadN X2.here hx rfl (hb hby d5_10) rfl rfl kk_) ?_
  have F5 := P3.other W2 (Or.inr (slot_ne (Or.inr (hw _ (List.mem_of_getElem? (i := 38) rfl))) (Or.inr (hw _ (List.mem_of_getElem? (i := 36) rfl))) (by decide) (t := (.object "java/lang/String")) (t' := .int) (by decide) (by decide)))
  have F6 := P1.wr W2
  obtain ⟨T4, h4, X4, e4, W4, st4⟩ := putF X2 hx hZ hown (host := "") (Or.inl (hw _ (List.mem_of_getElem? (i := 37) rfl))) Via.refl e2 F5 F6 (Or.inr ⟨(hw _ (List.mem_of_getElem? (i := 38) rfl)), rfl, hnm⟩) (hw _ (List.mem_of_getElem? (i := 27) rfl)) (ty := (.object "java/lang/String")) (by decide) rfl rfl (g := (mkF m 11 #[.val (.ref a1), .val (.int p2), .val (.ref a3), .val (.ref a4), .val (.ref a5), .val (.ref a6)] [(.ref a3), (.ref a1)])) rfl rfl (hb hby d5_11)
  have z7 := Nat.le_of_eq W4.size.symm
  have Fw4 : Fld Z h4 a1 "com/example/clients_by_rule/clientsbyrule/profile/Suppression" "place" "Ljava/lang/String;" (.ref a3) := F5.same W4
  have N4 := Fr.snoc X4 N2 g_a1
  refine Wp.st (S' := T4.setTop (mkF m 14 #[.val (.ref a1), .val (.int p2), .val (.ref a3), .val (.ref a4), .val (.ref a5), .val (.ref a6)] [])) st4 ?_
  refine Wp.st (S' := T4.setTop (mkF m 15 #[.val (.ref a1), .val (.int p2), .val (.ref a3), .val (.ref a4), .val (.ref a5), .val (.ref a6)] [(.ref a1)])) (fun tt_ kk_ => XS.aloadN X4.here hx rfl (hb hby d5_14) rfl rfl kk_) ?_
  refine Wp.st (S' := T4.setTop (mkF m 16 #[.val (.ref a1), .val (.int p2), .val (.ref a3), .val (.ref a4), .val (.ref a5), .val (.ref a6)] [(.ref a4), (.ref a1)])) (fun tt_ kk_ => XS.aloadN X4.here hx rfl (hb hby d5_15) rfl rfl kk_) ?_
  have F9 := P4.other W2 (Or.inr (slot_ne (Or.inr (hw _ (List.mem_of_getElem? (i := 40) rfl))) (Or.inr (hw _ (List.mem_of_getElem? (i := 36) rfl))) (by decide) (t := (.object "java/lang/String")) (t' := .int) (by decide) (by decide)))
  have F10 := F9.other W4 (Or.inr (slot_ne (Or.inr (hw _ (List.mem_of_getElem? (i := 40) rfl))) (Or.inr (hw _ (List.mem_of_getElem? (i := 38) rfl))) (by decide) (t := (.object "java/lang/String")) (t' := (.object "java/lang/String")) (by decide) (by decide)))
  have F11 := F6.wr W4
  obtain ⟨T8, h8, X8, e8, W8, st8⟩ := putF X4 hx hZ hown (host := "") (Or.inl (hw _ (List.mem_of_getElem? (i := 39) rfl))) Via.refl e4 F10 F11 (Or.inr ⟨(hw _ (List.mem_of_getElem? (i := 40) rfl)), rfl, hnm⟩) (hw _ (List.mem_of_getElem? (i := 27) rfl)) (ty := (.object "java/lang/String")) (by decide) rfl rfl (g := (mkF m 16 #[.val (.ref a1), .val (.int p2), .val (.ref a3), .val (.ref a4), .val (.ref a5), .val (.ref a6)] [(.ref a4), (.ref a1)])) rfl rfl (hb hby d5_16)
  have z12 := Nat.le_of_eq W8.size.symm
  have Fw8 : Fld Z h8 a1 "com/example/clients_by_rule/clientsbyrule/profile/Suppression" "ruleId" "Ljava/lang/String;" (.ref a4) := F10.same W8
  have N8 := Fr.snoc X8 N4 g_a1
  refine Wp.st (S' := T8.setTop (mkF m 19 #[.val (.ref a1), .val (.int p2), .val (.ref a3), .val (.ref a4), .val (.ref a5), .val (.ref a6)] [])) st8 ?_
  refine Wp.st (S' := T8.setTop (mkF m 20 #[.val (.ref a1), .val (.int p2), .val (.ref a3), .val (.ref a4), .val (.ref a5), .val (.ref a6)] [(.ref a1)])) (fun tt_ kk_ => XS.aloadN X8.here hx rfl (hb hby d5_19) rfl rfl kk_) ?_
  refine Wp.st (S' := T8.setTop (mkF m 22 #[.val (.ref a1), .val (.int p2), .val (.ref a3), .val (.ref a4), .val (.ref a5), .val (.ref a6)] [(.ref a5), (.ref a1)])) (fun tt_ kk_ => XS.aload X8.here hx rfl (hb hby d5_20) rfl rfl kk_) ?_
  have F14 := P5.other W2 (Or.inr (slot_ne (Or.inr (hw _ (List.mem_of_getElem? (i := 42) rfl))) (Or.inr (hw _ (List.mem_of_getElem? (i := 36) rfl))) (by decide) (t := (.object "java/lang/String")) (t' := .int) (by decide) (by decide)))
  have F15 := F14.other W4 (Or.inr (slot_ne (Or.inr (hw _ (List.mem_of_getElem? (i := 42) rfl))) (Or.inr (hw _ (List.mem_of_getElem? (i := 38) rfl))) (by decide) (t := (.object "java/lang/String")) (t' := (.object "java/lang/String")) (by decide) (by decide)))
  have F16 := F15.other W8 (Or.inr (slot_ne (Or.inr (hw _ (List.mem_of_getElem? (i := 42) rfl))) (Or.inr (hw _ (List.mem_of_getElem? (i := 40) rfl))) (by decide) (t := (.object "java/lang/String")) (t' := (.object "java/lang/String")) (by decide) (by decide)))
  have F17 := F11.wr W8
  obtain ⟨T13, h13, X13, e13, W13, st13⟩ := putF X8 hx hZ hown (host := "") (Or.inl (hw _ (List.mem_of_getElem? (i := 41) rfl))) Via.refl e8 F16 F17 (Or.inr ⟨(hw _ (List.mem_of_getElem? (i := 42) rfl)), rfl, hnm⟩) (hw _ (List.mem_of_getElem? (i := 27) rfl)) (ty := (.object "java/lang/String")) (by decide) rfl rfl (g := (mkF m 22 #[.val (.ref a1), .val (.int p2), .val (.ref a3), .val (.ref a4), .val (.ref a5), .val (.ref a6)] [(.ref a5), (.ref a1)])) rfl rfl (hb hby d5_22)
  have z18 := Nat.le_of_eq W13.size.symm
  have Fw13 : Fld Z h13 a1 "com/example/clients_by_rule/clientsbyrule/profile/Suppression" "path" "Ljava/lang/String;" (.ref a5) := F16.same W13
  have N13 := Fr.snoc X13 N8 g_a1
  refine Wp.st (S' := T13.setTop (mkF m 25 #[.val (.ref a1), .val (.int p2), .val (.ref a3), .val (.ref a4), .val (.ref a5), .val (.ref a6)] [])) st13 ?_
  refine Wp.st (S' := T13.setTop (mkF m 26 #[.val (.ref a1), .val (.int p2), .val (.ref a3), .val (.ref a4), .val (.ref a5), .val (.ref a6)] [(.ref a1)])) (fun tt_ kk_ => XS.aloadN X13.here hx rfl (hb hby d5_25) rfl rfl kk_) ?_
  refine Wp.st (S' := T13.setTop (mkF m 28 #[.val (.ref a1), .val (.int p2), .val (.ref a3), .val (.ref a4), .val (.ref a5), .val (.ref a6)] [(.ref a6), (.ref a1)])) (fun tt_ kk_ => XS.aload X13.here hx rfl (hb hby d5_26) rfl rfl kk_) ?_
  have F20 := P6.other W2 (Or.inr (slot_ne (Or.inr (hw _ (List.mem_of_getElem? (i := 44) rfl))) (Or.inr (hw _ (List.mem_of_getElem? (i := 36) rfl))) (by decide) (t := (.object "java/lang/String")) (t' := .int) (by decide) (by decide)))
  have F21 := F20.other W4 (Or.inr (slot_ne (Or.inr (hw _ (List.mem_of_getElem? (i := 44) rfl))) (Or.inr (hw _ (List.mem_of_getElem? (i := 38) rfl))) (by decide) (t := (.object "java/lang/String")) (t' := (.object "java/lang/String")) (by decide) (by decide)))
  have F22 := F21.other W8 (Or.inr (slot_ne (Or.inr (hw _ (List.mem_of_getElem? (i := 44) rfl))) (Or.inr (hw _ (List.mem_of_getElem? (i := 40) rfl))) (by decide) (t := (.object "java/lang/String")) (t' := (.object "java/lang/String")) (by decide) (by decide)))
  have F23 := F22.other W13 (Or.inr (slot_ne (Or.inr (hw _ (List.mem_of_getElem? (i := 44) rfl))) (Or.inr (hw _ (List.mem_of_getElem? (i := 42) rfl))) (by decide) (t := (.object "java/lang/String")) (t' := (.object "java/lang/String")) (by decide) (by decide)))
  have F24 := F17.wr W13
  obtain ⟨T19, h19, X19, e19, W19, st19⟩ := putF X13 hx hZ hown (host := "") (Or.inl (hw _ (List.mem_of_getElem? (i := 43) rfl))) Via.refl e13 F23 F24 (Or.inr ⟨(hw _ (List.mem_of_getElem? (i := 44) rfl)), rfl, hnm⟩) (hw _ (List.mem_of_getElem? (i := 27) rfl)) (ty := (.object "java/lang/String")) (by decide) rfl rfl (g := (mkF m 28 #[.val (.ref a1), .val (.int p2), .val (.ref a3), .val (.ref a4), .val (.ref a5), .val (.ref a6)] [(.ref a6), (.ref a1)])) rfl rfl (hb hby d5_28)
  have z25 := Nat.le_of_eq W19.size.symm
  have Fw19 : Fld Z h19 a1 "com/example/clients_by_rule/clientsbyrule/profile/Suppression" "reason" "Ljava/lang/String;" (.ref a6) := F23.same W19
  have N19 := Fr.snoc X19 N13 g_a1
  refine Wp.st (S' := T19.setTop (mkF m 31 #[.val (.ref a1), .val (.int p2), .val (.ref a3), .val (.ref a4), .val (.ref a5), .val (.ref a6)] [])) st19 ?_
  have K26 := Keep.refl h0 [a1]
  have K27 := K26.wr W2 (Or.inl (List.mem_of_getElem? (i := 0) rfl))
  have K28 := K27.wr W4 (Or.inl (List.mem_of_getElem? (i := 0) rfl))
  have K29 := K28.wr W8 (Or.inl (List.mem_of_getElem? (i := 0) rfl))
  have K30 := K29.wr W13 (Or.inl (List.mem_of_getElem? (i := 0) rfl))
  have K31 := K30.wr W19 (Or.inl (List.mem_of_getElem? (i := 0) rfl))
  have F32 := F24.wr W19
  have F33 := Fw8.other W13 (Or.inr (slot_ne (Or.inr (hw _ (List.mem_of_getElem? (i := 40) rfl))) (Or.inr (hw _ (List.mem_of_getElem? (i := 42) rfl))) (by decide) (t := (.object "java/lang/String")) (t' := (.object "java/lang/String")) (by decide) (by decide)))
  have F34 := F33.other W19 (Or.inr (slot_ne (Or.inr (hw _ (List.mem_of_getElem? (i := 40) rfl))) (Or.inr (hw _ (List.mem_of_getElem? (i := 44) rfl))) (by decide) (t := (.object "java/lang/String")) (t' := (.object "java/lang/String")) (by decide) (by decide)))
  have F35 := Fw13.other W19 (Or.inr (slot_ne (Or.inr (hw _ (List.mem_of_getElem? (i := 42) rfl))) (Or.inr (hw _ (List.mem_of_getElem? (i := 44) rfl))) (by decide) (t := (.object "java/lang/String")) (t' := (.object "java/lang/String")) (by decide) (by decide)))
  exact Wp.ret X19 hlk (v := none) (fun _ => rfl) (fun fs hr => X19.returnOut hx Bd.returns (hb hby d5_31) hr) (by decide) (by decide) (show Q_rm5 Z a1 p2 a3 a4 a5 a6 h0 n0 _ T19.heap _ by rw [e19]; exact ⟨rfl, N19, K31, F32, F34, F35⟩)
theorem pn_7 : plainName "com/example/clients_by_rule/clientsbyrule/profile/Suppression" = true := by first | (simp [plainName, overriddenIn]; done) | decide +kernel
theorem d7_0 : decode prog_20_method_7_code 0 = .ok (.aload_n 0, 1) := by decide +kernel
theorem d7_1 : decode prog_20_method_7_code 1 = .ok (.getfield 17, 3) := by decide +kernel
theorem d7_4 : decode prog_20_method_7_code 4 = .ok (.aload_n 1, 1) := by decide +kernel
theorem d7_5 : decode prog_20_method_7_code 5 = .ok (.invokevirtual 26, 3) := by decide +kernel
theorem pd_2 : parseMethodDescriptor "(Ljava/lang/Object;)Z" = some ⟨[(.object "java/lang/Object")], some .boolean⟩ := by decide +kernel
theorem d7_8 : decode prog_20_method_7_code 8 = .ok (.ifCond .eq 18, 3) := by decide +kernel
theorem d7_11 : decode prog_20_method_7_code 11 = .ok (.aload_n 0, 1) := by decide +kernel
theorem d7_12 : decode prog_20_method_7_code 12 = .ok (.getfield 20, 3) := by decide +kernel
theorem d7_15 : decode prog_20_method_7_code 15 = .ok (.aload_n 2, 1) := by decide +kernel
theorem d7_16 : decode prog_20_method_7_code 16 = .ok (.invokevirtual 26, 3) := by decide +kernel
theorem d7_19 : decode prog_20_method_7_code 19 = .ok (.ifCond .eq 7, 3) := by decide +kernel
theorem d7_22 : decode prog_20_method_7_code 22 = .ok (.iconst 1, 1) := by decide +kernel
theorem d7_23 : decode prog_20_method_7_code 23 = .ok (.goto 4, 3) := by decide +kernel
theorem d7_27 : decode prog_20_method_7_code 27 = .ok (.ireturn, 1) := by decide +kernel
theorem d7_26 : decode prog_20_method_7_code 26 = .ok (.iconst 0, 1) := by decide +kernel
theorem ef_rm7 (m : MethodId) (a1 : Addr) (a2 : Addr) (a3 : Addr) : entryFrame m #[(.ref a1), (.ref a2), (.ref a3)] 3 = mkF m 0 #[.val (.ref a1), .val (.ref a2), .val (.ref a3)] [] := by first | (simp [entryFrame, mkF, argsToLocals, Value.category]; done) | rfl
def Q_rm7 (Z : State) (a1 : Addr) (a2 : Addr) (a3 : Addr) (a4 : Addr) (a5 : Addr) (zcs : Int32) (cA : List Int32) (tcA : Addr) (kcA : ClassId) (cB : List Int32) (tcB : Addr) (kcB : ClassId) (cC : List Int32) (tcC : Addr) (kcC : ClassId) (cD : List Int32) (tcD : Addr) (kcD : ClassId) (h0 : Heap) (n0 : Nat) (v : Option Value) (h : Heap) (L : List Loc) : Prop := (v = some (.int (if cA = cC ∧ cB = cD then (1 : Int32) else (0 : Int32)))) ∧ (Fr n0 L) ∧ (h = h0)
set_option maxRecDepth 65536 in
set_option maxHeartbeats 40000000 in
theorem rm7 (l : Launch) (Z : State) (a0 : Array Value) (hw : ∀ d ∈ tables_1, d.before a0 Z = true) (ws : List Jvm.Cond) (a1 : Addr) (a2 : Addr) (a3 : Addr) (a4 : Addr) (a5 : Addr) (zcs : Int32) (cA : List Int32) (tcA : Addr) (kcA : ClassId) (cB : List Int32) (tcB : Addr) (kcB : ClassId) (cC : List Int32) (tcC : Addr) (kcC : ClassId) (cD : List Int32) (tcD : Addr) (kcD : ClassId) (h0 : Heap) (n0 : Nat) (Z0 : n0 ≤ h0.size) (O0 : Jvm.RoadKit.Old Z n0 h0) (SCompact : Sta Z Z.heap "java/lang/String" "COMPACT_STRINGS" "Z" (.int zcs)) (hCS : ¬ zcs = 0) (P3 : Fld Z h0 a1 "com/example/clients_by_rule/clientsbyrule/profile/Suppression" "ruleId" "Ljava/lang/String;" (.ref a4)) (P4 : Fld Z h0 a1 "com/example/clients_by_rule/clientsbyrule/profile/Suppression" "path" "Ljava/lang/String;" (.ref a5)) (P5 : Exa Z h0 a4 "java/lang/String") (P6 : Fld Z h0 a4 "java/lang/String" "value" "[B" (.ref tcA)) (P7 : Fld Z h0 a4 "java/lang/String" "coder" "B" (.int (0 : Int32))) (P8 : Arv Z h0 tcA kcA .byte (Int32.ofNat (cA).length) (own_bytes cA) (.int (0 : Int32))) (hpA : ∀ c ∈ cA, ¬ c < 0 ∧ ¬ (255 : Int32) < c) (hlA : cA.length ≤ 4000) (P11 : Exa Z h0 a5 "java/lang/String") (P12 : Fld Z h0 a5 "java/lang/String" "value" "[B" (.ref tcB)) (P13 : Fld Z h0 a5 "java/lang/String" "coder" "B" (.int (0 : Int32))) (P14 : Arv Z h0 tcB kcB .byte (Int32.ofNat (cB).length) (own_bytes cB) (.int (0 : Int32))) (hpB : ∀ c ∈ cB, ¬ c < 0 ∧ ¬ (255 : Int32) < c) (hlB : cB.length ≤ 4000) (P17 : Exa Z h0 a2 "java/lang/String") (P18 : Fld Z h0 a2 "java/lang/String" "value" "[B" (.ref tcC)) (P19 : Fld Z h0 a2 "java/lang/String" "coder" "B" (.int (0 : Int32))) (P20 : Arv Z h0 tcC kcC .byte (Int32.ofNat (cC).length) (own_bytes cC) (.int (0 : Int32))) (hpC : ∀ c ∈ cC, ¬ c < 0 ∧ ¬ (255 : Int32) < c) (hlC : cC.length ≤ 4000) (P23 : Exa Z h0 a3 "java/lang/String") (P24 : Fld Z h0 a3 "java/lang/String" "value" "[B" (.ref tcD)) (P25 : Fld Z h0 a3 "java/lang/String" "coder" "B" (.int (0 : Int32))) (P26 : Arv Z h0 tcD kcD .byte (Int32.ofNat (cD).length) (own_bytes cD) (.int (0 : Int32))) (hpD : ∀ c ∈ cD, ¬ c < 0 ∧ ¬ (255 : Int32) < c) (hlD : cD.length ≤ 4000) :
    MetFree l (⟨"com/example/clients_by_rule/clientsbyrule/profile/Suppression", "covers", "(Ljava/lang/String;Ljava/lang/String;)Z"⟩ : MethodName) (head1 (Jvm.Cond.code (⟨"com/example/clients_by_rule/clientsbyrule/profile/Suppression", "covers", "(Ljava/lang/String;Ljava/lang/String;)Z"⟩ : MethodName) prog_20_method_7_code 3 (some .boolean) :: ws) ({ frames := 2, cells := 0, slots := 0, locals := 28 } : Room)) (fun a U => a = #[(.ref a1), (.ref a2), (.ref a3)] ∧ Z.Warmed39 U.vm ∧ U.heap = h0) (fun _ _ _ _ _ => True) (fun _ U o U' => ∃ v L, o = .returned v ∧ Q_rm7 Z a1 a2 a3 a4 a5 zcs cA tcA kcA cB tcB kcB cC tcC kcC cD tcD kcD h0 n0 v U'.heap L ∧ FrameEnd U o U' L ({ frames := 2, cells := 0, slots := 0, locals := 28 } : Room).cells ({ frames := 2, cells := 0, slots := 0, locals := 28 } : Room).slots) := by
  refine MetFree.of_bodySF (plainFor_of_name pn_7) hisR ?_
  intro p e s m args below meth c s₁ Bd hml0 hP hK
  obtain ⟨rfl, hZ, hh⟩ := hP
  have hx := Bd.exec
  have hby := Bd.bytes
  have hml : c.maxLocals = 3 := hml0
  have hown : s.vm.findClass "com/example/clients_by_rule/clientsbyrule/profile/Suppression" = some m.cls := findClass_of_methodNamed Bd.named
  have hnm := (name_of_methodNamed Bd.named Bd.method).1
  have hlk := Bd.notSynchronized
  have X0 : Stand p l e ({ frames := 2, cells := 0, slots := 0, locals := 28 } : Room) s m #[(.ref a1), (.ref a2), (.ref a3)] below meth c s₁ [] 0 0 := Stand.of_body Bd
  have e0 : s₁.heap = h0 := by rw [← hh, Bd.state]; rfl
  have N0 := Fr.nil n0
  refine Wp.goal (Post := (fun o U' => ∃ v L, o = .returned v ∧ Q_rm7 Z a1 a2 a3 a4 a5 zcs cA tcA kcA cB tcB kcB cC tcC kcC cD tcD kcD h0 n0 v U'.heap L ∧ FrameEnd s o U' L ({ frames := 2, cells := 0, slots := 0, locals := 28 } : Room).cells ({ frames := 2, cells := 0, slots := 0, locals := 28 } : Room).slots)) (Wp.st (S' := s₁.setTop (mkF m 0 #[.val (.ref a1), .val (.ref a2), .val (.ref a3)] [])) (fun tt_ kk_ => castTop (ef_rm7 m a1 a2 a3 ) kk_) ?_)
  refine Wp.st (S' := s₁.setTop (mkF m 1 #[.val (.ref a1), .val (.ref a2), .val (.ref a3)] [(.ref a1)])) (fun tt_ kk_ => XS.aloadN X0.here hx rfl (hb hby d7_0) rfl rfl kk_) ?_
  obtain ⟨T1, X1, e1, st1⟩ := getF X0 hx hZ hown (host := "") (Or.inl (hw _ (List.mem_of_getElem? (i := 39) rfl))) Via.refl e0 P3 (g := (mkF m 1 #[.val (.ref a1), .val (.ref a2), .val (.ref a3)] [(.ref a1)])) rfl rfl (hb hby d7_1)
  refine Wp.st (S' := T1.setTop (mkF m 4 #[.val (.ref a1), .val (.ref a2), .val (.ref a3)] [(.ref a4)])) st1 ?_
  refine Wp.st (S' := T1.setTop (mkF m 5 #[.val (.ref a1), .val (.ref a2), .val (.ref a3)] [(.ref a2), (.ref a4)])) (fun tt_ kk_ => XS.aloadN X1.here hx rfl (hb hby d7_4) rfl rfl kk_) ?_
  obtain ⟨cq2, kq2, q2a, q2b, q2c⟩ := isOf hZ e1 P5
  obtain ⟨vv2, _, ⟨T2, L2, k2, n2⟩, -, X2, ⟨Lc2, hQ2, l2, y2, z2⟩, st2⟩ := X1.virtualBack hx (y := (⟨"java/lang/String", "equals", "(Ljava/lang/Object;)Z"⟩ : MethodName)) (z := (⟨"java/lang/String", "equals", "(Ljava/lang/Object;)Z"⟩ : MethodName)) hown (mvT hZ (hw _ (List.mem_of_getElem? (i := 53) rfl))) (mvT hZ (hw _ (List.mem_of_getElem? (i := 54) rfl))) (notFace_of_selects (args := #[]) (mvT hZ (hw _ (List.mem_of_getElem? (i := 56) rfl)))) (mvT hZ (hw _ (List.mem_of_getElem? (i := 56) rfl))) (mvT hZ (hw _ (List.mem_of_getElem? (i := 55) rfl))) (by decide) (StrChars.Road.eqW (W := 0) hZ (fun d hd => hw d ((by decide +kernel : ∀ d ∈ StrChars.Road.wordsEq, d ∈ tables_1) d hd)) (kI := 4) (hw _ (List.mem_of_getElem? (i := 6) rfl)) P5 P6 P7 P8 (own_cod hpA) (own_up hpA) hlA P17 P18 P19 P20 (own_cod hpC) (own_up hpC) hlC (SCompact.ext O0.2) hCS (by decide) (by decide)) q2a q2c (g := (mkF m 5 #[.val (.ref a1), .val (.ref a2), .val (.ref a3)] [(.ref a2), (.ref a4)])) rfl (by rw [hml]; rfl) (Steps.refl _) (argsL := [(.ref a2)]) (rest := []) (lenOf pd_2 rfl) rfl (by show 2 * 0 + _ ≤ _; exact Nat.le_of_eq rfl) (hb hby d7_5) (fun _ _ => ⟨rfl, e1, (by decide : 0 + 0 ≤ _), (by decide : 0 + 0 ≤ _)⟩)
  dsimp only [Pt.U, Pt.locs, Pt.cells, Pt.slots] at X2 l2 y2 z2 st2 hQ2
  subst l2 y2 z2
  obtain ⟨hcase2, rfl, e2⟩ := hQ2
  have hv2 : vv2 = some (.int (if cA = cC then (1 : Int32) else (0 : Int32))) := by
    rcases hcase2 with ⟨q, r⟩ | ⟨q, r⟩
    · rw [q, if_pos r]
    · rw [q, if_neg r]
  subst hv2
  have N2 := Fr.app N0 (Fr.nil n0)
  refine Wp.tr (S' := T2.setTop (mkF m 8 #[.val (.ref a1), .val (.ref a2), .val (.ref a3)] [(.int (if cA = cC then (1 : Int32) else (0 : Int32)))])) st2 ?_
  by_cases g1 : cA = cC
  case pos =>
    rw [(if_pos g1 : (if cA = cC then (1 : Int32) else (0 : Int32)) = (1 : Int32))]
    refine Wp.st (S' := T2.setTop (mkF m 11 #[.val (.ref a1), .val (.ref a2), .val (.ref a3)] [])) (fun tt_ kk_ => XS.ifNo X2.here hx rfl (hb hby d7_8) rfl ((if0 _ _).trans (feq ((by decide) : ¬ ((1 : Int32) = (0 : Int32)))).1) kk_) ?_
    refine Wp.st (S' := T2.setTop (mkF m 12 #[.val (.ref a1), .val (.ref a2), .val (.ref a3)] [(.ref a1)])) (fun tt_ kk_ => XS.aloadN X2.here hx rfl (hb hby d7_11) rfl rfl kk_) ?_
    obtain ⟨T3, X3, e3, st3⟩ := getF X2 hx hZ hown (host := "") (Or.inl (hw _ (List.mem_of_getElem? (i := 41) rfl))) Via.refl e2 P4 (g := (mkF m 12 #[.val (.ref a1), .val (.ref a2), .val (.ref a3)] [(.ref a1)])) rfl rfl (hb hby d7_12)
    refine Wp.st (S' := T3.setTop (mkF m 15 #[.val (.ref a1), .val (.ref a2), .val (.ref a3)] [(.ref a5)])) st3 ?_
    refine Wp.st (S' := T3.setTop (mkF m 16 #[.val (.ref a1), .val (.ref a2), .val (.ref a3)] [(.ref a3), (.ref a5)])) (fun tt_ kk_ => XS.aloadN X3.here hx rfl (hb hby d7_15) rfl rfl kk_) ?_
    obtain ⟨cq4, kq4, q4a, q4b, q4c⟩ := isOf hZ e3 P11
    obtain ⟨vv4, _, ⟨T4, L4, k4, n4⟩, -, X4, ⟨Lc4, hQ4, l4, y4, z4⟩, st4⟩ := X3.virtualBack hx (y := (⟨"java/lang/String", "equals", "(Ljava/lang/Object;)Z"⟩ : MethodName)) (z := (⟨"java/lang/String", "equals", "(Ljava/lang/Object;)Z"⟩ : MethodName)) hown (mvT hZ (hw _ (List.mem_of_getElem? (i := 53) rfl))) (mvT hZ (hw _ (List.mem_of_getElem? (i := 54) rfl))) (notFace_of_selects (args := #[]) (mvT hZ (hw _ (List.mem_of_getElem? (i := 56) rfl)))) (mvT hZ (hw _ (List.mem_of_getElem? (i := 56) rfl))) (mvT hZ (hw _ (List.mem_of_getElem? (i := 55) rfl))) (by decide) (StrChars.Road.eqW (W := 0) hZ (fun d hd => hw d ((by decide +kernel : ∀ d ∈ StrChars.Road.wordsEq, d ∈ tables_1) d hd)) (kI := 4) (hw _ (List.mem_of_getElem? (i := 6) rfl)) P11 P12 P13 P14 (own_cod hpB) (own_up hpB) hlB P23 P24 P25 P26 (own_cod hpD) (own_up hpD) hlD (SCompact.ext O0.2) hCS (by decide) (by decide)) q4a q4c (g := (mkF m 16 #[.val (.ref a1), .val (.ref a2), .val (.ref a3)] [(.ref a3), (.ref a5)])) rfl (by rw [hml]; rfl) (Steps.refl _) (argsL := [(.ref a3)]) (rest := []) (lenOf pd_2 rfl) rfl (by show 2 * 0 + _ ≤ _; exact Nat.le_of_eq rfl) (hb hby d7_16) (fun _ _ => ⟨rfl, e3, (by decide : 0 + 0 ≤ _), (by decide : 0 + 0 ≤ _)⟩)
    dsimp only [Pt.U, Pt.locs, Pt.cells, Pt.slots] at X4 l4 y4 z4 st4 hQ4
    subst l4 y4 z4
    obtain ⟨hcase4, rfl, e4⟩ := hQ4
    have hv4 : vv4 = some (.int (if cB = cD then (1 : Int32) else (0 : Int32))) := by
      rcases hcase4 with ⟨q, r⟩ | ⟨q, r⟩
      · rw [q, if_pos r]
      · rw [q, if_neg r]
    subst hv4
    have N4 := Fr.app N2 (Fr.nil n0)
    refine Wp.tr (S' := T4.setTop (mkF m 19 #[.val (.ref a1), .val (.ref a2), .val (.ref a3)] [(.int (if cB = cD then (1 : Int32) else (0 : Int32)))])) st4 ?_
    by_cases g2 : cB = cD
    case pos =>
      rw [(if_pos g2 : (if cB = cD then (1 : Int32) else (0 : Int32)) = (1 : Int32))]
      refine Wp.st (S' := T4.setTop (mkF m 22 #[.val (.ref a1), .val (.ref a2), .val (.ref a3)] [])) (fun tt_ kk_ => XS.ifNo X4.here hx rfl (hb hby d7_19) rfl ((if0 _ _).trans (feq ((by decide) : ¬ ((1 : Int32) = (0 : Int32)))).1) kk_) ?_
      refine Wp.st (S' := T4.setTop (mkF m 23 #[.val (.ref a1), .val (.ref a2), .val (.ref a3)] [(.int (1 : Int32))])) (fun tt_ kk_ => XS.iconst X4.here hx rfl (hb hby d7_22) kk_) ?_
      refine Wp.st (S' := T4.setTop (mkF m 27 #[.val (.ref a1), .val (.ref a2), .val (.ref a3)] [(.int (1 : Int32))])) (fun tt_ kk_ => XS.goto X4.here hx rfl (pc0 := 23) (pc' := 27) rfl (hb hby d7_23) (by decide) (by decide) kk_) ?_
      exact Wp.ret X4 hlk (v := (some (.int (1 : Int32)))) (fun h => by rw [Bd.returns] at h; cases h) (fun fs hr => retN (z := (1 : Int32)) X4 hx (t := .boolean) Bd.returns (by simp) (hb hby d7_27) hr) (by decide) (by decide) (show Q_rm7 Z a1 a2 a3 a4 a5 zcs cA tcA kcA cB tcB kcB cC tcC kcC cD tcD kcD h0 n0 _ T4.heap _ by rw [e4]; exact ⟨(by rw [if_pos ⟨g1, g2⟩]), N4, rfl⟩)
    case neg =>
      rw [(if_neg g2 : (if cB = cD then (1 : Int32) else (0 : Int32)) = (0 : Int32))]
      refine Wp.st (S' := T4.setTop (mkF m 26 #[.val (.ref a1), .val (.ref a2), .val (.ref a3)] [])) (fun tt_ kk_ => XS.ifYes X4.here hx rfl (pc0 := 19) (pc' := 26) rfl (hb hby d7_19) rfl ((if0 _ _).trans (teq ((by decide) : (0 : Int32) = (0 : Int32))).1) (by decide) (by decide) kk_) ?_
      refine Wp.st (S' := T4.setTop (mkF m 27 #[.val (.ref a1), .val (.ref a2), .val (.ref a3)] [(.int (0 : Int32))])) (fun tt_ kk_ => XS.iconst X4.here hx rfl (hb hby d7_26) kk_) ?_
      exact Wp.ret X4 hlk (v := (some (.int (0 : Int32)))) (fun h => by rw [Bd.returns] at h; cases h) (fun fs hr => retN (z := (0 : Int32)) X4 hx (t := .boolean) Bd.returns (by simp) (hb hby d7_27) hr) (by decide) (by decide) (show Q_rm7 Z a1 a2 a3 a4 a5 zcs cA tcA kcA cB tcB kcB cC tcC kcC cD tcD kcD h0 n0 _ T4.heap _ by rw [e4]; exact ⟨(by rw [if_neg (fun z => g2 z.2)]), N4, rfl⟩)
  case neg =>
    rw [(if_neg g1 : (if cA = cC then (1 : Int32) else (0 : Int32)) = (0 : Int32))]
    refine Wp.st (S' := T2.setTop (mkF m 26 #[.val (.ref a1), .val (.ref a2), .val (.ref a3)] [])) (fun tt_ kk_ => XS.ifYes X2.here hx rfl (pc0 := 8) (pc' := 26) rfl (hb hby d7_8) rfl ((if0 _ _).trans (teq ((by decide) : (0 : Int32) = (0 : Int32))).1) (by decide) (by decide) kk_) ?_
    refine Wp.st (S' := T2.setTop (mkF m 27 #[.val (.ref a1), .val (.ref a2), .val (.ref a3)] [(.int (0 : Int32))])) (fun tt_ kk_ => XS.iconst X2.here hx rfl (hb hby d7_26) kk_) ?_
    exact Wp.ret X2 hlk (v := (some (.int (0 : Int32)))) (fun h => by rw [Bd.returns] at h; cases h) (fun fs hr => retN (z := (0 : Int32)) X2 hx (t := .boolean) Bd.returns (by simp) (hb hby d7_27) hr) (by decide) (by decide) (show Q_rm7 Z a1 a2 a3 a4 a5 zcs cA tcA kcA cB tcB kcB cC tcC kcC cD tcD kcD h0 n0 _ T2.heap _ by rw [e2]; exact ⟨(by rw [if_neg (fun z => g1 z.1)]), N2, rfl⟩)
theorem pn_0 : plainName "com/example/clients_by_rule/clientsbyrule/profile/SuppressionCoversPinLaw" = true := by first | (simp [plainName, overriddenIn]; done) | decide +kernel
theorem pd_3 : parseMethodDescriptor "(II)Ljava/lang/String;" = some ⟨[.int, .int], some (.object "java/lang/String")⟩ := by decide +kernel
theorem pd_4 : parseMethodDescriptor "(ILjava/lang/String;Ljava/lang/String;Ljava/lang/String;Ljava/lang/String;)V" = some ⟨[.int, (.object "java/lang/String"), (.object "java/lang/String"), (.object "java/lang/String"), (.object "java/lang/String")], none⟩ := by decide +kernel
theorem pd_5 : parseMethodDescriptor "(Ljava/lang/String;Ljava/lang/String;)Z" = some ⟨[(.object "java/lang/String"), (.object "java/lang/String")], some .boolean⟩ := by decide +kernel
theorem pd_6 : parseMethodDescriptor "(IIII)Z" = some ⟨[.int, .int, .int, .int], some .boolean⟩ := by decide +kernel
theorem ef_rm0 (m : MethodId) (x1 : Int32) (x2 : Int32) (x3 : Int32) (x4 : Int32) (x5 : Int32) : entryFrame m #[(.int x1), (.int x2), (.int x3), (.int x4), (.int x5)] maxLocals = mkF m 0 #[.val (.int x1), .val (.int x2), .val (.int x3), .val (.int x4), .val (.int x5), .unset, .unset, .unset, .unset, .unset, .unset, .unset, .unset, .unset, .unset, .unset, .unset] [] := by first | (simp [entryFrame, mkF, argsToLocals, Value.category, maxLocals]; done) | rfl
def Q_rm0 (Z : State) (x1 : Int32) (x2 : Int32) (x3 : Int32) (x4 : Int32) (x5 : Int32) (zcs : Int32) (h0 : Heap) (n0 : Nat) (v : Option Value) (h : Heap) (L : List Loc) : Prop := (v = some (.int (1 : Int32))) ∧ (Fr n0 L) ∧ (Keep h0 h [])
set_option maxRecDepth 65536 in
set_option maxHeartbeats 40000000 in
theorem rm0 (l : Launch) (Z : State) (a0 : Array Value) (hw : ∀ d ∈ tables_1, d.before a0 Z = true) (ws : List Jvm.Cond) (x1 : Int32) (x2 : Int32) (x3 : Int32) (x4 : Int32) (x5 : Int32) (zcs : Int32) (h0 : Heap) (n0 : Nat) (Z0 : n0 ≤ h0.size) (OZ : Jvm.RoadKit.Old Z n0 h0) (SCompact : Sta Z Z.heap "java/lang/String" "COMPACT_STRINGS" "Z" (.int zcs)) (hCS : ¬ zcs = 0) :
    MetFree l x (head1 (Jvm.Cond.code x code maxLocals ret :: ws) room_1) (fun a U => a = #[(.int x1), (.int x2), (.int x3), (.int x4), (.int x5)] ∧ Z.Warmed39 U.vm ∧ U.heap = h0 ∧ CHv Z own_EL U.vm h0) (fun _ _ _ _ _ => True) (fun _ U o U' => ∃ v L, o = .returned v ∧ Q_rm0 Z x1 x2 x3 x4 x5 zcs h0 n0 v U'.heap L ∧ ReturnedEndW U o U' L room_1.cells room_1.slots) := by
  refine MetFree.of_bodySF (plainFor_of_name pn_0) hisR ?_
  intro p e s m args below meth c s₁ Bd hml0 hP hK
  obtain ⟨rfl, hZ, hh, CH0⟩ := hP
  have hx := Bd.exec
  have hby := Bd.bytes
  have hml : c.maxLocals = 17 := hml0
  have hown : s.vm.findClass "com/example/clients_by_rule/clientsbyrule/profile/SuppressionCoversPinLaw" = some m.cls := findClass_of_methodNamed Bd.named
  have hnm := (name_of_methodNamed Bd.named Bd.method).1
  have hlk := Bd.notSynchronized
  have X0 : Stand p l e room_1 (s.setVm s.vm) m #[(.int x1), (.int x2), (.int x3), (.int x4), (.int x5)] below meth c s₁ [] 0 0 := Stand.of_body Bd
  have e0 : s₁.heap = h0 := by rw [← hh, Bd.state]; rfl
  have N0 := Fr.nil n0
  refine Wp.goal (Post := (fun o U' => ∃ v L, o = .returned v ∧ Q_rm0 Z x1 x2 x3 x4 x5 zcs h0 n0 v U'.heap L ∧ ReturnedEndW s o U' L room_1.cells room_1.slots)) (Wp.st (S' := s₁.setTop (mkF m 0 #[.val (.int x1), .val (.int x2), .val (.int x3), .val (.int x4), .val (.int x5), .unset, .unset, .unset, .unset, .unset, .unset, .unset, .unset, .unset, .unset, .unset, .unset] [])) (fun tt_ kk_ => castTop (ef_rm0 m x1 x2 x3 x4 x5 ) kk_) ?_)
  have O0 : Jvm.RoadKit.Old Z n0 h0 := OZ
  have hS0 : s.Since s.vm h0.size := (State.WarmedH.refl s).since _
  have wS : ∀ d ∈ Bundle.stringAtoms, d.before a0 Z = true := fun d hd => hw d ((by decide +kernel : ∀ d ∈ Bundle.stringAtoms, d ∈ tables_1) d hd)
  have hEL := own_EW hw
  have CC0 := CHr.refl CH0
  refine Wp.st (S' := s₁.setTop (mkF m 2 #[.val (.int x1), .val (.int x2), .val (.int x3), .val (.int x4), .val (.int x5), .unset, .unset, .unset, .unset, .unset, .unset, .unset, .unset, .unset, .unset, .unset, .unset] [(.int x5)])) (fun tt_ kk_ => XS.iload X0.here hx rfl (hb hby at_0) rfl  kk_) ?_
  refine Wp.st (S' := s₁.setTop (mkF m 3 #[.val (.int x1), .val (.int x2), .val (.int x3), .val (.int x4), .val (.int x5), .unset, .unset, .unset, .unset, .unset, .unset, .unset, .unset, .unset, .unset, .unset, .unset] [(.int (3 : Int32)), (.int x5)])) (fun tt_ kk_ => XS.iconst X0.here hx rfl (hb hby at_2) kk_) ?_
  refine Wp.st (S' := s₁.setTop (mkF m 4 #[.val (.int x1), .val (.int x2), .val (.int x3), .val (.int x4), .val (.int x5), .unset, .unset, .unset, .unset, .unset, .unset, .unset, .unset, .unset, .unset, .unset, .unset] [(.int (x5 &&& (3 : Int32)))])) (fun tt_ kk_ => XS.iand X0.here hx rfl (hb hby at_3) rfl kk_) ?_
  refine Wp.st (S' := s₁.setTop (mkF m 6 #[.val (.int x1), .val (.int x2), .val (.int x3), .val (.int x4), .val (.int x5), .val (.int (x5 &&& (3 : Int32))), .unset, .unset, .unset, .unset, .unset, .unset, .unset, .unset, .unset, .unset, .unset] [])) (fun tt_ kk_ => XS.istore X0.here hx rfl (hb hby at_4) rfl (l' := #[.val (.int x1), .val (.int x2), .val (.int x3), .val (.int x4), .val (.int x5), .val (.int (x5 &&& (3 : Int32))), .unset, .unset, .unset, .unset, .unset, .unset, .unset, .unset, .unset, .unset, .unset]) rfl kk_) ?_
  have hlr := own_and3 x5
  generalize hv_lr : (x5 &&& (3 : Int32)) = lr
  rw [hv_lr] at hlr
  refine Wp.st (S' := s₁.setTop (mkF m 8 #[.val (.int x1), .val (.int x2), .val (.int x3), .val (.int x4), .val (.int x5), .val (.int lr), .unset, .unset, .unset, .unset, .unset, .unset, .unset, .unset, .unset, .unset, .unset] [(.int x5)])) (fun tt_ kk_ => XS.iload X0.here hx rfl (hb hby at_6) rfl  kk_) ?_
  refine Wp.st (S' := s₁.setTop (mkF m 9 #[.val (.int x1), .val (.int x2), .val (.int x3), .val (.int x4), .val (.int x5), .val (.int lr), .unset, .unset, .unset, .unset, .unset, .unset, .unset, .unset, .unset, .unset, .unset] [(.int (2 : Int32)), (.int x5)])) (fun tt_ kk_ => XS.iconst X0.here hx rfl (hb hby at_8) kk_) ?_
  refine Wp.st (S' := s₁.setTop (mkF m 10 #[.val (.int x1), .val (.int x2), .val (.int x3), .val (.int x4), .val (.int x5), .val (.int lr), .unset, .unset, .unset, .unset, .unset, .unset, .unset, .unset, .unset, .unset, .unset] [(.int ((x5.toUInt32 >>> ((2 : Int32) &&& 31).toUInt32).toInt32))])) (fun tt_ kk_ => XS.iushr X0.here hx rfl (hb hby at_9) rfl kk_) ?_
  refine Wp.st (S' := s₁.setTop (mkF m 11 #[.val (.int x1), .val (.int x2), .val (.int x3), .val (.int x4), .val (.int x5), .val (.int lr), .unset, .unset, .unset, .unset, .unset, .unset, .unset, .unset, .unset, .unset, .unset] [(.int (3 : Int32)), (.int ((x5.toUInt32 >>> ((2 : Int32) &&& 31).toUInt32).toInt32))])) (fun tt_ kk_ => XS.iconst X0.here hx rfl (hb hby at_10) kk_) ?_
  refine Wp.st (S' := s₁.setTop (mkF m 12 #[.val (.int x1), .val (.int x2), .val (.int x3), .val (.int x4), .val (.int x5), .val (.int lr), .unset, .unset, .unset, .unset, .unset, .unset, .unset, .unset, .unset, .unset, .unset] [(.int (((x5.toUInt32 >>> ((2 : Int32) &&& 31).toUInt32).toInt32) &&& (3 : Int32)))])) (fun tt_ kk_ => XS.iand X0.here hx rfl (hb hby at_11) rfl kk_) ?_
  refine Wp.st (S' := s₁.setTop (mkF m 14 #[.val (.int x1), .val (.int x2), .val (.int x3), .val (.int x4), .val (.int x5), .val (.int lr), .val (.int (((x5.toUInt32 >>> ((2 : Int32) &&& 31).toUInt32).toInt32) &&& (3 : Int32))), .unset, .unset, .unset, .unset, .unset, .unset, .unset, .unset, .unset, .unset] [])) (fun tt_ kk_ => XS.istore X0.here hx rfl (hb hby at_12) rfl (l' := #[.val (.int x1), .val (.int x2), .val (.int x3), .val (.int x4), .val (.int x5), .val (.int lr), .val (.int (((x5.toUInt32 >>> ((2 : Int32) &&& 31).toUInt32).toInt32) &&& (3 : Int32))), .unset, .unset, .unset, .unset, .unset, .unset, .unset, .unset, .unset, .unset]) rfl kk_) ?_
  have hlq := own_and3 ((x5.toUInt32 >>> ((2 : Int32) &&& 31).toUInt32).toInt32)
  generalize hv_lq : (((x5.toUInt32 >>> ((2 : Int32) &&& 31).toUInt32).toInt32) &&& (3 : Int32)) = lq
  rw [hv_lq] at hlq
  refine Wp.st (S' := s₁.setTop (mkF m 16 #[.val (.int x1), .val (.int x2), .val (.int x3), .val (.int x4), .val (.int x5), .val (.int lr), .val (.int lq), .unset, .unset, .unset, .unset, .unset, .unset, .unset, .unset, .unset, .unset] [(.int x5)])) (fun tt_ kk_ => XS.iload X0.here hx rfl (hb hby at_14) rfl  kk_) ?_
  refine Wp.st (S' := s₁.setTop (mkF m 17 #[.val (.int x1), .val (.int x2), .val (.int x3), .val (.int x4), .val (.int x5), .val (.int lr), .val (.int lq), .unset, .unset, .unset, .unset, .unset, .unset, .unset, .unset, .unset, .unset] [(.int (4 : Int32)), (.int x5)])) (fun tt_ kk_ => XS.iconst X0.here hx rfl (hb hby at_16) kk_) ?_
  refine Wp.st (S' := s₁.setTop (mkF m 18 #[.val (.int x1), .val (.int x2), .val (.int x3), .val (.int x4), .val (.int x5), .val (.int lr), .val (.int lq), .unset, .unset, .unset, .unset, .unset, .unset, .unset, .unset, .unset, .unset] [(.int ((x5.toUInt32 >>> ((4 : Int32) &&& 31).toUInt32).toInt32))])) (fun tt_ kk_ => XS.iushr X0.here hx rfl (hb hby at_17) rfl kk_) ?_
  refine Wp.st (S' := s₁.setTop (mkF m 19 #[.val (.int x1), .val (.int x2), .val (.int x3), .val (.int x4), .val (.int x5), .val (.int lr), .val (.int lq), .unset, .unset, .unset, .unset, .unset, .unset, .unset, .unset, .unset, .unset] [(.int (3 : Int32)), (.int ((x5.toUInt32 >>> ((4 : Int32) &&& 31).toUInt32).toInt32))])) (fun tt_ kk_ => XS.iconst X0.here hx rfl (hb hby at_18) kk_) ?_
  refine Wp.st (S' := s₁.setTop (mkF m 20 #[.val (.int x1), .val (.int x2), .val (.int x3), .val (.int x4), .val (.int x5), .val (.int lr), .val (.int lq), .unset, .unset, .unset, .unset, .unset, .unset, .unset, .unset, .unset, .unset] [(.int (((x5.toUInt32 >>> ((4 : Int32) &&& 31).toUInt32).toInt32) &&& (3 : Int32)))])) (fun tt_ kk_ => XS.iand X0.here hx rfl (hb hby at_19) rfl kk_) ?_
  refine Wp.st (S' := s₁.setTop (mkF m 22 #[.val (.int x1), .val (.int x2), .val (.int x3), .val (.int x4), .val (.int x5), .val (.int lr), .val (.int lq), .val (.int (((x5.toUInt32 >>> ((4 : Int32) &&& 31).toUInt32).toInt32) &&& (3 : Int32))), .unset, .unset, .unset, .unset, .unset, .unset, .unset, .unset, .unset] [])) (fun tt_ kk_ => XS.istore X0.here hx rfl (hb hby at_20) rfl (l' := #[.val (.int x1), .val (.int x2), .val (.int x3), .val (.int x4), .val (.int x5), .val (.int lr), .val (.int lq), .val (.int (((x5.toUInt32 >>> ((4 : Int32) &&& 31).toUInt32).toInt32) &&& (3 : Int32))), .unset, .unset, .unset, .unset, .unset, .unset, .unset, .unset, .unset]) rfl kk_) ?_
  have hlp := own_and3 ((x5.toUInt32 >>> ((4 : Int32) &&& 31).toUInt32).toInt32)
  generalize hv_lp : (((x5.toUInt32 >>> ((4 : Int32) &&& 31).toUInt32).toInt32) &&& (3 : Int32)) = lp
  rw [hv_lp] at hlp
  refine Wp.st (S' := s₁.setTop (mkF m 24 #[.val (.int x1), .val (.int x2), .val (.int x3), .val (.int x4), .val (.int x5), .val (.int lr), .val (.int lq), .val (.int lp), .unset, .unset, .unset, .unset, .unset, .unset, .unset, .unset, .unset] [(.int x5)])) (fun tt_ kk_ => XS.iload X0.here hx rfl (hb hby at_22) rfl  kk_) ?_
  refine Wp.st (S' := s₁.setTop (mkF m 26 #[.val (.int x1), .val (.int x2), .val (.int x3), .val (.int x4), .val (.int x5), .val (.int lr), .val (.int lq), .val (.int lp), .unset, .unset, .unset, .unset, .unset, .unset, .unset, .unset, .unset] [(.int (6 : Int32)), (.int x5)])) (fun tt_ kk_ => XS.bipush X0.here hx rfl (hb hby at_24) kk_) ?_
  refine Wp.st (S' := s₁.setTop (mkF m 27 #[.val (.int x1), .val (.int x2), .val (.int x3), .val (.int x4), .val (.int x5), .val (.int lr), .val (.int lq), .val (.int lp), .unset, .unset, .unset, .unset, .unset, .unset, .unset, .unset, .unset] [(.int ((x5.toUInt32 >>> ((6 : Int32) &&& 31).toUInt32).toInt32))])) (fun tt_ kk_ => XS.iushr X0.here hx rfl (hb hby at_26) rfl kk_) ?_
  refine Wp.st (S' := s₁.setTop (mkF m 28 #[.val (.int x1), .val (.int x2), .val (.int x3), .val (.int x4), .val (.int x5), .val (.int lr), .val (.int lq), .val (.int lp), .unset, .unset, .unset, .unset, .unset, .unset, .unset, .unset, .unset] [(.int (3 : Int32)), (.int ((x5.toUInt32 >>> ((6 : Int32) &&& 31).toUInt32).toInt32))])) (fun tt_ kk_ => XS.iconst X0.here hx rfl (hb hby at_27) kk_) ?_
  refine Wp.st (S' := s₁.setTop (mkF m 29 #[.val (.int x1), .val (.int x2), .val (.int x3), .val (.int x4), .val (.int x5), .val (.int lr), .val (.int lq), .val (.int lp), .unset, .unset, .unset, .unset, .unset, .unset, .unset, .unset, .unset] [(.int (((x5.toUInt32 >>> ((6 : Int32) &&& 31).toUInt32).toInt32) &&& (3 : Int32)))])) (fun tt_ kk_ => XS.iand X0.here hx rfl (hb hby at_28) rfl kk_) ?_
  refine Wp.st (S' := s₁.setTop (mkF m 31 #[.val (.int x1), .val (.int x2), .val (.int x3), .val (.int x4), .val (.int x5), .val (.int lr), .val (.int lq), .val (.int lp), .val (.int (((x5.toUInt32 >>> ((6 : Int32) &&& 31).toUInt32).toInt32) &&& (3 : Int32))), .unset, .unset, .unset, .unset, .unset, .unset, .unset, .unset] [])) (fun tt_ kk_ => XS.istore X0.here hx rfl (hb hby at_29) rfl (l' := #[.val (.int x1), .val (.int x2), .val (.int x3), .val (.int x4), .val (.int x5), .val (.int lr), .val (.int lq), .val (.int lp), .val (.int (((x5.toUInt32 >>> ((6 : Int32) &&& 31).toUInt32).toInt32) &&& (3 : Int32))), .unset, .unset, .unset, .unset, .unset, .unset, .unset, .unset]) rfl kk_) ?_
  have hls := own_and3 ((x5.toUInt32 >>> ((6 : Int32) &&& 31).toUInt32).toInt32)
  generalize hv_ls : (((x5.toUInt32 >>> ((6 : Int32) &&& 31).toUInt32).toInt32) &&& (3 : Int32)) = ls
  rw [hv_ls] at hls
  refine Wp.st (S' := s₁.setTop (mkF m 32 #[.val (.int x1), .val (.int x2), .val (.int x3), .val (.int x4), .val (.int x5), .val (.int lr), .val (.int lq), .val (.int lp), .val (.int ls), .unset, .unset, .unset, .unset, .unset, .unset, .unset, .unset] [(.int x1)])) (fun tt_ kk_ => XS.iloadN X0.here hx rfl (hb hby at_31) rfl  kk_) ?_
  refine Wp.st (S' := s₁.setTop (mkF m 34 #[.val (.int x1), .val (.int x2), .val (.int x3), .val (.int x4), .val (.int x5), .val (.int lr), .val (.int lq), .val (.int lp), .val (.int ls), .unset, .unset, .unset, .unset, .unset, .unset, .unset, .unset] [(.int lr), (.int x1)])) (fun tt_ kk_ => XS.iload X0.here hx rfl (hb hby at_32) rfl  kk_) ?_
  obtain ⟨vv1, _, ⟨T1, L1, k1, n1⟩, -, Xq1, sn1, gr1, ⟨Lc1, hQ1, l1, y1, z1, cr1⟩, st1⟩ := callSS X0 hx (y := (⟨"com/example/clients_by_rule/clientsbyrule/profile/SuppressionCoversPinLaw", "mk", "(II)Ljava/lang/String;"⟩ : MethodName)) hown (mvT hZ (hw _ (List.mem_of_getElem? (i := 0) rfl))) (mvT hZ (hw _ (List.mem_of_getElem? (i := 1) rfl))) (mvT hZ (hw _ (List.mem_of_getElem? (i := 2) rfl))) (mvT hZ (hw _ (List.mem_of_getElem? (i := 3) rfl))) (by decide) (backOfSH (W := 0) (rm1 l Z a0 hw [] x1 lr zcs h0 n0 Z0 O0 SCompact (hCS : ¬ zcs = 0) ((by assumption) : lr = (0 : Int32) ∨ lr = (1 : Int32) ∨ lr = (2 : Int32) ∨ lr = (3 : Int32))) hZ (hw _ (List.mem_of_getElem? (i := 3) rfl)) (hw _ (List.mem_of_getElem? (i := 2) rfl)) (by decide) (by decide) hEL CC0.1) (g := (mkF m 34 #[.val (.int x1), .val (.int x2), .val (.int x3), .val (.int x4), .val (.int x5), .val (.int lr), .val (.int lq), .val (.int lp), .val (.int ls), .unset, .unset, .unset, .unset, .unset, .unset, .unset, .unset] [(.int lr), (.int x1)])) rfl (by rw [hml]; rfl) (argsL := [(.int x1), (.int lr)]) (rest := []) (lenOf pd_3 rfl) rfl (by show 2 * 0 + _ ≤ _; exact Nat.le_of_eq rfl) (hb hby at_34) (fun _ _ => ⟨rfl, e0, (by decide : 0 + 6 ≤ _), (by decide : 0 + 12 ≤ _)⟩)
  dsimp only [Pt.U, Pt.locs, Pt.cells, Pt.slots] at Xq1 sn1 gr1 l1 y1 z1 st1 hQ1 cr1
  subst l1 y1 z1
  obtain ⟨X1, hS1, hZ1, how1⟩ := rebS hS0 (by rw [e0]; exact (Nat.le_refl _)) Xq1 sn1 gr1 hZ hown
  obtain ⟨b2, b3, c4, rfl, Nq1, K1, P1_0, P1_1, P1_2, P1_3⟩ := hQ1
  have N1 := Fr.app N0 Nq1
  have z5 := K1.1
  have CC6 := CC0.trans cr1
  have e1 : T1.heap = T1.heap := rfl
  refine Wp.tr (S' := T1.setTop (mkF m 37 #[.val (.int x1), .val (.int x2), .val (.int x3), .val (.int x4), .val (.int x5), .val (.int lr), .val (.int lq), .val (.int lp), .val (.int ls), .unset, .unset, .unset, .unset, .unset, .unset, .unset, .unset] [(.ref b2)])) st1 ?_
  refine Wp.st (S' := T1.setTop (mkF m 39 #[.val (.int x1), .val (.int x2), .val (.int x3), .val (.int x4), .val (.int x5), .val (.int lr), .val (.int lq), .val (.int lp), .val (.int ls), .val (.ref b2), .unset, .unset, .unset, .unset, .unset, .unset, .unset] [])) (fun tt_ kk_ => XS.astore X1.here hx rfl (hb hby at_37) rfl rfl (l' := #[.val (.int x1), .val (.int x2), .val (.int x3), .val (.int x4), .val (.int x5), .val (.int lr), .val (.int lq), .val (.int lp), .val (.int ls), .val (.ref b2), .unset, .unset, .unset, .unset, .unset, .unset, .unset]) rfl kk_) ?_
  refine Wp.st (S' := T1.setTop (mkF m 40 #[.val (.int x1), .val (.int x2), .val (.int x3), .val (.int x4), .val (.int x5), .val (.int lr), .val (.int lq), .val (.int lp), .val (.int ls), .val (.ref b2), .unset, .unset, .unset, .unset, .unset, .unset, .unset] [(.int x2)])) (fun tt_ kk_ => XS.iloadN X1.here hx rfl (hb hby at_39) rfl  kk_) ?_
  refine Wp.st (S' := T1.setTop (mkF m 42 #[.val (.int x1), .val (.int x2), .val (.int x3), .val (.int x4), .val (.int x5), .val (.int lr), .val (.int lq), .val (.int lp), .val (.int ls), .val (.ref b2), .unset, .unset, .unset, .unset, .unset, .unset, .unset] [(.int lq), (.int x2)])) (fun tt_ kk_ => XS.iload X1.here hx rfl (hb hby at_40) rfl  kk_) ?_
  have O8 := O0.keep K1 all0
  obtain ⟨vv7, _, ⟨T7, L7, k7, n7⟩, -, Xq7, sn7, gr7, ⟨Lc7, hQ7, l7, y7, z7, cr7⟩, st7⟩ := callSS X1 hx (y := (⟨"com/example/clients_by_rule/clientsbyrule/profile/SuppressionCoversPinLaw", "mk", "(II)Ljava/lang/String;"⟩ : MethodName)) how1 (mvT hZ1 (hw _ (List.mem_of_getElem? (i := 0) rfl))) (mvT hZ1 (hw _ (List.mem_of_getElem? (i := 1) rfl))) (mvT hZ1 (hw _ (List.mem_of_getElem? (i := 2) rfl))) (mvT hZ1 (hw _ (List.mem_of_getElem? (i := 3) rfl))) (by decide) (backOfSH (W := 0) (rm1 l Z a0 hw [] x2 lq zcs T1.heap n0 (Nat.le_trans Z0 z5) O8 SCompact (hCS : ¬ zcs = 0) ((by assumption) : lq = (0 : Int32) ∨ lq = (1 : Int32) ∨ lq = (2 : Int32) ∨ lq = (3 : Int32))) hZ1 (hw _ (List.mem_of_getElem? (i := 3) rfl)) (hw _ (List.mem_of_getElem? (i := 2) rfl)) (by decide) (by decide) hEL CC6.1) (g := (mkF m 42 #[.val (.int x1), .val (.int x2), .val (.int x3), .val (.int x4), .val (.int x5), .val (.int lr), .val (.int lq), .val (.int lp), .val (.int ls), .val (.ref b2), .unset, .unset, .unset, .unset, .unset, .unset, .unset] [(.int lq), (.int x2)])) rfl (by rw [hml]; rfl) (argsL := [(.int x2), (.int lq)]) (rest := []) (lenOf pd_3 rfl) rfl (by show 2 * 0 + _ ≤ _; exact Nat.le_of_eq rfl) (hb hby at_42) (fun _ _ => ⟨rfl, e1, (by decide : 6 + 6 ≤ _), (by decide : 12 + 12 ≤ _)⟩)
  dsimp only [Pt.U, Pt.locs, Pt.cells, Pt.slots] at Xq7 sn7 gr7 l7 y7 z7 st7 hQ7 cr7
  subst l7 y7 z7
  obtain ⟨X7, hS7, hZ7, how7⟩ := rebS hS1 (by rw [e1]; exact (Nat.le_refl _)) Xq7 sn7 gr7 hZ1 how1
  obtain ⟨b9, b10, c11, rfl, Nq7, K7, P7_0, P7_1, P7_2, P7_3⟩ := hQ7
  have N7 := Fr.app N1 Nq7
  have z12 := K7.1
  have CC13 := CC6.trans cr7
  have e7 : T7.heap = T7.heap := rfl
  refine Wp.tr (S' := T7.setTop (mkF m 45 #[.val (.int x1), .val (.int x2), .val (.int x3), .val (.int x4), .val (.int x5), .val (.int lr), .val (.int lq), .val (.int lp), .val (.int ls), .val (.ref b2), .unset, .unset, .unset, .unset, .unset, .unset, .unset] [(.ref b9)])) st7 ?_
  refine Wp.st (S' := T7.setTop (mkF m 47 #[.val (.int x1), .val (.int x2), .val (.int x3), .val (.int x4), .val (.int x5), .val (.int lr), .val (.int lq), .val (.int lp), .val (.int ls), .val (.ref b2), .val (.ref b9), .unset, .unset, .unset, .unset, .unset, .unset] [])) (fun tt_ kk_ => XS.astore X7.here hx rfl (hb hby at_45) rfl rfl (l' := #[.val (.int x1), .val (.int x2), .val (.int x3), .val (.int x4), .val (.int x5), .val (.int lr), .val (.int lq), .val (.int lp), .val (.int ls), .val (.ref b2), .val (.ref b9), .unset, .unset, .unset, .unset, .unset, .unset]) rfl kk_) ?_
  refine Wp.st (S' := T7.setTop (mkF m 48 #[.val (.int x1), .val (.int x2), .val (.int x3), .val (.int x4), .val (.int x5), .val (.int lr), .val (.int lq), .val (.int lp), .val (.int ls), .val (.ref b2), .val (.ref b9), .unset, .unset, .unset, .unset, .unset, .unset] [(.int x3)])) (fun tt_ kk_ => XS.iloadN X7.here hx rfl (hb hby at_47) rfl  kk_) ?_
  refine Wp.st (S' := T7.setTop (mkF m 50 #[.val (.int x1), .val (.int x2), .val (.int x3), .val (.int x4), .val (.int x5), .val (.int lr), .val (.int lq), .val (.int lp), .val (.int ls), .val (.ref b2), .val (.ref b9), .unset, .unset, .unset, .unset, .unset, .unset] [(.int lp), (.int x3)])) (fun tt_ kk_ => XS.iload X7.here hx rfl (hb hby at_48) rfl  kk_) ?_
  have O15 := O8.keep K7 all0
  obtain ⟨vv14, _, ⟨T14, L14, k14, n14⟩, -, Xq14, sn14, gr14, ⟨Lc14, hQ14, l14, y14, z14, cr14⟩, st14⟩ := callSS X7 hx (y := (⟨"com/example/clients_by_rule/clientsbyrule/profile/SuppressionCoversPinLaw", "mk", "(II)Ljava/lang/String;"⟩ : MethodName)) how7 (mvT hZ7 (hw _ (List.mem_of_getElem? (i := 0) rfl))) (mvT hZ7 (hw _ (List.mem_of_getElem? (i := 1) rfl))) (mvT hZ7 (hw _ (List.mem_of_getElem? (i := 2) rfl))) (mvT hZ7 (hw _ (List.mem_of_getElem? (i := 3) rfl))) (by decide) (backOfSH (W := 0) (rm1 l Z a0 hw [] x3 lp zcs T7.heap n0 (Nat.le_trans Z0 (Nat.le_trans z5 z12)) O15 SCompact (hCS : ¬ zcs = 0) ((by assumption) : lp = (0 : Int32) ∨ lp = (1 : Int32) ∨ lp = (2 : Int32) ∨ lp = (3 : Int32))) hZ7 (hw _ (List.mem_of_getElem? (i := 3) rfl)) (hw _ (List.mem_of_getElem? (i := 2) rfl)) (by decide) (by decide) hEL CC13.1) (g := (mkF m 50 #[.val (.int x1), .val (.int x2), .val (.int x3), .val (.int x4), .val (.int x5), .val (.int lr), .val (.int lq), .val (.int lp), .val (.int ls), .val (.ref b2), .val (.ref b9), .unset, .unset, .unset, .unset, .unset, .unset] [(.int lp), (.int x3)])) rfl (by rw [hml]; rfl) (argsL := [(.int x3), (.int lp)]) (rest := []) (lenOf pd_3 rfl) rfl (by show 2 * 0 + _ ≤ _; exact Nat.le_of_eq rfl) (hb hby at_50) (fun _ _ => ⟨rfl, e7, (by decide : 12 + 6 ≤ _), (by decide : 24 + 12 ≤ _)⟩)
  dsimp only [Pt.U, Pt.locs, Pt.cells, Pt.slots] at Xq14 sn14 gr14 l14 y14 z14 st14 hQ14 cr14
  subst l14 y14 z14
  obtain ⟨X14, hS14, hZ14, how14⟩ := rebS hS7 (by rw [e7]; exact (Nat.le_refl _)) Xq14 sn14 gr14 hZ7 how7
  obtain ⟨b16, b17, c18, rfl, Nq14, K14, P14_0, P14_1, P14_2, P14_3⟩ := hQ14
  have N14 := Fr.app N7 Nq14
  have z19 := K14.1
  have CC20 := CC13.trans cr14
  have e14 : T14.heap = T14.heap := rfl
  refine Wp.tr (S' := T14.setTop (mkF m 53 #[.val (.int x1), .val (.int x2), .val (.int x3), .val (.int x4), .val (.int x5), .val (.int lr), .val (.int lq), .val (.int lp), .val (.int ls), .val (.ref b2), .val (.ref b9), .unset, .unset, .unset, .unset, .unset, .unset] [(.ref b16)])) st14 ?_
  refine Wp.st (S' := T14.setTop (mkF m 55 #[.val (.int x1), .val (.int x2), .val (.int x3), .val (.int x4), .val (.int x5), .val (.int lr), .val (.int lq), .val (.int lp), .val (.int ls), .val (.ref b2), .val (.ref b9), .val (.ref b16), .unset, .unset, .unset, .unset, .unset] [])) (fun tt_ kk_ => XS.astore X14.here hx rfl (hb hby at_53) rfl rfl (l' := #[.val (.int x1), .val (.int x2), .val (.int x3), .val (.int x4), .val (.int x5), .val (.int lr), .val (.int lq), .val (.int lp), .val (.int ls), .val (.ref b2), .val (.ref b9), .val (.ref b16), .unset, .unset, .unset, .unset, .unset]) rfl kk_) ?_
  refine Wp.st (S' := T14.setTop (mkF m 56 #[.val (.int x1), .val (.int x2), .val (.int x3), .val (.int x4), .val (.int x5), .val (.int lr), .val (.int lq), .val (.int lp), .val (.int ls), .val (.ref b2), .val (.ref b9), .val (.ref b16), .unset, .unset, .unset, .unset, .unset] [(.int x4)])) (fun tt_ kk_ => XS.iloadN X14.here hx rfl (hb hby at_55) rfl  kk_) ?_
  refine Wp.st (S' := T14.setTop (mkF m 58 #[.val (.int x1), .val (.int x2), .val (.int x3), .val (.int x4), .val (.int x5), .val (.int lr), .val (.int lq), .val (.int lp), .val (.int ls), .val (.ref b2), .val (.ref b9), .val (.ref b16), .unset, .unset, .unset, .unset, .unset] [(.int ls), (.int x4)])) (fun tt_ kk_ => XS.iload X14.here hx rfl (hb hby at_56) rfl  kk_) ?_
  have O22 := O15.keep K14 all0
  obtain ⟨vv21, _, ⟨T21, L21, k21, n21⟩, -, Xq21, sn21, gr21, ⟨Lc21, hQ21, l21, y21, z21, cr21⟩, st21⟩ := callSS X14 hx (y := (⟨"com/example/clients_by_rule/clientsbyrule/profile/SuppressionCoversPinLaw", "mk", "(II)Ljava/lang/String;"⟩ : MethodName)) how14 (mvT hZ14 (hw _ (List.mem_of_getElem? (i := 0) rfl))) (mvT hZ14 (hw _ (List.mem_of_getElem? (i := 1) rfl))) (mvT hZ14 (hw _ (List.mem_of_getElem? (i := 2) rfl))) (mvT hZ14 (hw _ (List.mem_of_getElem? (i := 3) rfl))) (by decide) (backOfSH (W := 0) (rm1 l Z a0 hw [] x4 ls zcs T14.heap n0 (Nat.le_trans Z0 (Nat.le_trans (Nat.le_trans z5 z12) z19)) O22 SCompact (hCS : ¬ zcs = 0) ((by assumption) : ls = (0 : Int32) ∨ ls = (1 : Int32) ∨ ls = (2 : Int32) ∨ ls = (3 : Int32))) hZ14 (hw _ (List.mem_of_getElem? (i := 3) rfl)) (hw _ (List.mem_of_getElem? (i := 2) rfl)) (by decide) (by decide) hEL CC20.1) (g := (mkF m 58 #[.val (.int x1), .val (.int x2), .val (.int x3), .val (.int x4), .val (.int x5), .val (.int lr), .val (.int lq), .val (.int lp), .val (.int ls), .val (.ref b2), .val (.ref b9), .val (.ref b16), .unset, .unset, .unset, .unset, .unset] [(.int ls), (.int x4)])) rfl (by rw [hml]; rfl) (argsL := [(.int x4), (.int ls)]) (rest := []) (lenOf pd_3 rfl) rfl (by show 2 * 0 + _ ≤ _; exact Nat.le_of_eq rfl) (hb hby at_58) (fun _ _ => ⟨rfl, e14, (by decide : 18 + 6 ≤ _), (by decide : 36 + 12 ≤ _)⟩)
  dsimp only [Pt.U, Pt.locs, Pt.cells, Pt.slots] at Xq21 sn21 gr21 l21 y21 z21 st21 hQ21 cr21
  subst l21 y21 z21
  obtain ⟨X21, hS21, hZ21, how21⟩ := rebS hS14 (by rw [e14]; exact (Nat.le_refl _)) Xq21 sn21 gr21 hZ14 how14
  obtain ⟨b23, b24, c25, rfl, Nq21, K21, P21_0, P21_1, P21_2, P21_3⟩ := hQ21
  have N21 := Fr.app N14 Nq21
  have z26 := K21.1
  have CC27 := CC20.trans cr21
  have e21 : T21.heap = T21.heap := rfl
  refine Wp.tr (S' := T21.setTop (mkF m 61 #[.val (.int x1), .val (.int x2), .val (.int x3), .val (.int x4), .val (.int x5), .val (.int lr), .val (.int lq), .val (.int lp), .val (.int ls), .val (.ref b2), .val (.ref b9), .val (.ref b16), .unset, .unset, .unset, .unset, .unset] [(.ref b23)])) st21 ?_
  refine Wp.st (S' := T21.setTop (mkF m 63 #[.val (.int x1), .val (.int x2), .val (.int x3), .val (.int x4), .val (.int x5), .val (.int lr), .val (.int lq), .val (.int lp), .val (.int ls), .val (.ref b2), .val (.ref b9), .val (.ref b16), .val (.ref b23), .unset, .unset, .unset, .unset] [])) (fun tt_ kk_ => XS.astore X21.here hx rfl (hb hby at_61) rfl rfl (l' := #[.val (.int x1), .val (.int x2), .val (.int x3), .val (.int x4), .val (.int x5), .val (.int lr), .val (.int lq), .val (.int lp), .val (.int ls), .val (.ref b2), .val (.ref b9), .val (.ref b16), .val (.ref b23), .unset, .unset, .unset, .unset]) rfl kk_) ?_
  obtain ⟨T28, h28, X28, e28, E28, A28, D28, U28, st28⟩ := newO X21 hx hZ21 how21 (hw _ (List.mem_of_getElem? (i := 26) rfl)) (hw _ (List.mem_of_getElem? (i := 27) rfl)) (hw _ (List.mem_of_getElem? (i := 28) rfl)) e21 (g := (mkF m 63 #[.val (.int x1), .val (.int x2), .val (.int x3), .val (.int x4), .val (.int x5), .val (.int lr), .val (.int lq), .val (.int lp), .val (.int ls), .val (.ref b2), .val (.ref b9), .val (.ref b16), .val (.ref b23), .unset, .unset, .unset, .unset] [])) rfl (hb hby at_63) (by decide) (by decide)
  obtain ⟨b28, g28⟩ : ∃ z, z = T21.heap.size := ⟨_, rfl⟩
  rw [← g28] at A28 D28 U28 st28
  have z29 := E28.1
  have CC30 := CC27.trans (CHr.ext E28 CC27.1)
  have g31 : n0 ≤ b28 := Nat.le_trans (Nat.le_trans Z0 (Nat.le_trans (Nat.le_trans (Nat.le_trans z5 z12) z19) z26)) (Nat.le_of_eq g28.symm)
  have Sf32 := Safe.ext E28 CC27.1 (Safe.new (x := b28) (Nat.le_of_eq g28.symm))
  have F33 : Fld Z h28 b28 "com/example/clients_by_rule/clientsbyrule/profile/Suppression" "index" "I" (.int (0 : Int32)) := D28 (Or.inr (hw _ (List.mem_of_getElem? (i := 36) rfl))) (ty := .int) (by decide)
  have F34 : Fld Z h28 b28 "com/example/clients_by_rule/clientsbyrule/profile/Suppression" "place" "Ljava/lang/String;" .null := D28 (Or.inr (hw _ (List.mem_of_getElem? (i := 38) rfl))) (ty := (.object "java/lang/String")) (by decide)
  have F35 : Fld Z h28 b28 "com/example/clients_by_rule/clientsbyrule/profile/Suppression" "ruleId" "Ljava/lang/String;" .null := D28 (Or.inr (hw _ (List.mem_of_getElem? (i := 40) rfl))) (ty := (.object "java/lang/String")) (by decide)
  have F36 : Fld Z h28 b28 "com/example/clients_by_rule/clientsbyrule/profile/Suppression" "path" "Ljava/lang/String;" .null := D28 (Or.inr (hw _ (List.mem_of_getElem? (i := 42) rfl))) (ty := (.object "java/lang/String")) (by decide)
  have F37 : Fld Z h28 b28 "com/example/clients_by_rule/clientsbyrule/profile/Suppression" "reason" "Ljava/lang/String;" .null := D28 (Or.inr (hw _ (List.mem_of_getElem? (i := 44) rfl))) (ty := (.object "java/lang/String")) (by decide)
  refine Wp.st (S' := T28.setTop (mkF m 66 #[.val (.int x1), .val (.int x2), .val (.int x3), .val (.int x4), .val (.int x5), .val (.int lr), .val (.int lq), .val (.int lp), .val (.int ls), .val (.ref b2), .val (.ref b9), .val (.ref b16), .val (.ref b23), .unset, .unset, .unset, .unset] [(.ref b28)])) st28 ?_
  refine Wp.st (S' := T28.setTop (mkF m 67 #[.val (.int x1), .val (.int x2), .val (.int x3), .val (.int x4), .val (.int x5), .val (.int lr), .val (.int lq), .val (.int lp), .val (.int ls), .val (.ref b2), .val (.ref b9), .val (.ref b16), .val (.ref b23), .unset, .unset, .unset, .unset] [(.ref b28), (.ref b28)])) (fun tt_ kk_ => XS.dup X28.here hx rfl (hb hby at_66) rfl rfl kk_) ?_
  refine Wp.st (S' := T28.setTop (mkF m 68 #[.val (.int x1), .val (.int x2), .val (.int x3), .val (.int x4), .val (.int x5), .val (.int lr), .val (.int lq), .val (.int lp), .val (.int ls), .val (.ref b2), .val (.ref b9), .val (.ref b16), .val (.ref b23), .unset, .unset, .unset, .unset] [(.int (0 : Int32)), (.ref b28), (.ref b28)])) (fun tt_ kk_ => XS.iconst X28.here hx rfl (hb hby at_67) kk_) ?_
  obtain ⟨a38, T38, h38, k38, X38, e38, E38, hS38, hk38, hZ38, how38, cr38, li38, st38⟩ := ldcOH X28 hx hZ21 how21 (hw _ (List.mem_of_getElem? (i := 29) rfl)) wS e28 hS21 (Nat.le_trans (Nat.le_refl _) z29) hEL CC30.1 (g := (mkF m 68 #[.val (.int x1), .val (.int x2), .val (.int x3), .val (.int x4), .val (.int x5), .val (.int lr), .val (.int lq), .val (.int lp), .val (.int ls), .val (.ref b2), .val (.ref b9), .val (.ref b16), .val (.ref b23), .unset, .unset, .unset, .unset] [(.int (0 : Int32)), (.ref b28), (.ref b28)])) rfl (hb hby at_68) (n := 60) (by decide +kernel) (by decide) (by decide) (by decide)
  have z39 := E38.1
  have Sf40 := cr38.safe A28.lt Sf32
  have CC41 := CC30.trans cr38
  refine Wp.st (S' := T38.setTop (mkF m 70 #[.val (.int x1), .val (.int x2), .val (.int x3), .val (.int x4), .val (.int x5), .val (.int lr), .val (.int lq), .val (.int lp), .val (.int ls), .val (.ref b2), .val (.ref b9), .val (.ref b16), .val (.ref b23), .unset, .unset, .unset, .unset] [(.ref a38), (.int (0 : Int32)), (.ref b28), (.ref b28)])) st38 ?_
  refine Wp.st (S' := T38.setTop (mkF m 72 #[.val (.int x1), .val (.int x2), .val (.int x3), .val (.int x4), .val (.int x5), .val (.int lr), .val (.int lq), .val (.int lp), .val (.int ls), .val (.ref b2), .val (.ref b9), .val (.ref b16), .val (.ref b23), .unset, .unset, .unset, .unset] [(.ref b2), (.ref a38), (.int (0 : Int32)), (.ref b28), (.ref b28)])) (fun tt_ kk_ => XS.aload X38.here hx rfl (hb hby at_70) rfl rfl kk_) ?_
  refine Wp.st (S' := T38.setTop (mkF m 74 #[.val (.int x1), .val (.int x2), .val (.int x3), .val (.int x4), .val (.int x5), .val (.int lr), .val (.int lq), .val (.int lp), .val (.int ls), .val (.ref b2), .val (.ref b9), .val (.ref b16), .val (.ref b23), .unset, .unset, .unset, .unset] [(.ref b16), (.ref b2), (.ref a38), (.int (0 : Int32)), (.ref b28), (.ref b28)])) (fun tt_ kk_ => XS.aload X38.here hx rfl (hb hby at_72) rfl rfl kk_) ?_
  obtain ⟨a42, T42, h42, k42, X42, e42, E42, hS42, hk42, hZ42, how42, cr42, li42, st42⟩ := ldcOH X38 hx hZ38 how38 (hw _ (List.mem_of_getElem? (i := 30) rfl)) wS e38 hS38 hk38 hEL CC41.1 (g := (mkF m 74 #[.val (.int x1), .val (.int x2), .val (.int x3), .val (.int x4), .val (.int x5), .val (.int lr), .val (.int lq), .val (.int lp), .val (.int ls), .val (.ref b2), .val (.ref b9), .val (.ref b16), .val (.ref b23), .unset, .unset, .unset, .unset] [(.ref b16), (.ref b2), (.ref a38), (.int (0 : Int32)), (.ref b28), (.ref b28)])) rfl (hb hby at_74) (n := 16) (by decide +kernel) (by decide) (by decide) (by decide)
  have z43 := E42.1
  have Sf44 := cr42.safe (Nat.lt_of_lt_of_le A28.lt z39) Sf40
  have CC45 := CC41.trans cr42
  refine Wp.st (S' := T42.setTop (mkF m 76 #[.val (.int x1), .val (.int x2), .val (.int x3), .val (.int x4), .val (.int x5), .val (.int lr), .val (.int lq), .val (.int lp), .val (.int ls), .val (.ref b2), .val (.ref b9), .val (.ref b16), .val (.ref b23), .unset, .unset, .unset, .unset] [(.ref a42), (.ref b16), (.ref b2), (.ref a38), (.int (0 : Int32)), (.ref b28), (.ref b28)])) st42 ?_
  have F47 := A28.ext E38
  have F48 := F47.ext E42
  have F49 := F33.ext E38
  have F50 := F49.ext E42
  have F51 := F34.ext E38
  have F52 := F51.ext E42
  have F53 := F35.ext E38
  have F54 := F53.ext E42
  have F55 := F36.ext E38
  have F56 := F55.ext E42
  have F57 := F37.ext E38
  have F58 := F57.ext E42
  obtain ⟨vv46, _, ⟨T46, L46, k46, n46⟩, -, X46, ⟨Lc46, hQ46, l46, y46, z46⟩, st46⟩ := X42.specialBack hx (y := (⟨"com/example/clients_by_rule/clientsbyrule/profile/Suppression", "<init>", "(ILjava/lang/String;Ljava/lang/String;Ljava/lang/String;Ljava/lang/String;)V"⟩ : MethodName)) rfl how42 (mvT hZ42 (hw _ (List.mem_of_getElem? (i := 31) rfl))) (mvT hZ42 (hw _ (List.mem_of_getElem? (i := 32) rfl))) (mvT hZ42 (hw _ (List.mem_of_getElem? (i := 33) rfl))) (by decide) (backOf (W := 1) (rm5 l Z a0 hw [] b28 (0 : Int32) a38 b2 b16 a42 h42 n0 (Nat.le_trans Z0 (Nat.le_trans (Nat.le_trans (Nat.le_trans (Nat.le_trans (Nat.le_trans (Nat.le_trans z5 z12) z19) z26) z29) z39) z43)) g31 F48 F50 F52 F54 F56 F58) hZ42 (hw _ (List.mem_of_getElem? (i := 33) rfl)) (hw _ (List.mem_of_getElem? (i := 28) rfl)) (by decide) (by decide)) (g := (mkF m 76 #[.val (.int x1), .val (.int x2), .val (.int x3), .val (.int x4), .val (.int x5), .val (.int lr), .val (.int lq), .val (.int lp), .val (.int ls), .val (.ref b2), .val (.ref b9), .val (.ref b16), .val (.ref b23), .unset, .unset, .unset, .unset] [(.ref a42), (.ref b16), (.ref b2), (.ref a38), (.int (0 : Int32)), (.ref b28), (.ref b28)])) rfl (by rw [hml]; rfl) (Steps.refl _) (a := b28) (argsL := [(.int (0 : Int32)), (.ref a38), (.ref b2), (.ref b16), (.ref a42)]) (rest := [(.ref b28)]) (lenOf pd_4 rfl) rfl (by show 2 * 0 + _ ≤ _; exact Nat.le_of_eq rfl) (hb hby at_76) (fun _ _ => ⟨rfl, e42, (by decide : 29 + 0 ≤ _), (by decide : 137 + 0 ≤ _)⟩)
  dsimp only [Pt.U, Pt.locs, Pt.cells, Pt.slots] at X46 l46 y46 z46 st46 hQ46
  subst l46 y46 z46
  obtain ⟨rfl, Nq46, K46, P46_0, P46_1, P46_2⟩ := hQ46
  have N46 := Fr.app N21 Nq46
  have z59 := K46.1
  have Sf60 := Safe.keep K46 (sfS (Safe.exa hZ42.alike F48 (by decide) (by decide)) sf0) CC45.1 Sf44
  have CC61 := CC45.trans (CHr.keep K46 (sfS (Safe.exa hZ42.alike F48 (by decide) (by decide)) sf0) CC45.1)
  have e46 : T46.heap = T46.heap := rfl
  refine Wp.tr (S' := T46.setTop (mkF m 79 #[.val (.int x1), .val (.int x2), .val (.int x3), .val (.int x4), .val (.int x5), .val (.int lr), .val (.int lq), .val (.int lp), .val (.int ls), .val (.ref b2), .val (.ref b9), .val (.ref b16), .val (.ref b23), .unset, .unset, .unset, .unset] [(.ref b28)])) st46 ?_
  refine Wp.st (S' := T46.setTop (mkF m 81 #[.val (.int x1), .val (.int x2), .val (.int x3), .val (.int x4), .val (.int x5), .val (.int lr), .val (.int lq), .val (.int lp), .val (.int ls), .val (.ref b2), .val (.ref b9), .val (.ref b16), .val (.ref b23), .val (.ref b28), .unset, .unset, .unset] [])) (fun tt_ kk_ => XS.astore X46.here hx rfl (hb hby at_79) rfl rfl (l' := #[.val (.int x1), .val (.int x2), .val (.int x3), .val (.int x4), .val (.int x5), .val (.int lr), .val (.int lq), .val (.int lp), .val (.int ls), .val (.ref b2), .val (.ref b9), .val (.ref b16), .val (.ref b23), .val (.ref b28), .unset, .unset, .unset]) rfl kk_) ?_
  have J62 : ∀ (TJ62 : State) (loJ62 : List Loc) (ex : Int32) (NJ62 : Fr n0 loJ62) (XJ62 : Stand p l e room_1 (s.setVm T42.vm) m #[(.int x1), (.int x2), (.int x3), (.int x4), (.int x5)] below meth c TJ62 loJ62 29 137) (eJ62 : TJ62.heap = T46.heap) (hex : ex = (if (own_cs x1 lr) = (own_cs x2 lq) ∧ (own_cs x3 lp) = (own_cs x4 ls) then (1 : Int32) else (0 : Int32))), Wp p e below (fun o U' => ∃ v L, o = .returned v ∧ Q_rm0 Z x1 x2 x3 x4 x5 zcs h0 n0 v U'.heap L ∧ ReturnedEndW s o U' L room_1.cells room_1.slots) (TJ62.setTop (mkF m 110 #[.val (.int x1), .val (.int x2), .val (.int x3), .val (.int x4), .val (.int x5), .val (.int lr), .val (.int lq), .val (.int lp), .val (.int ls), .val (.ref b2), .val (.ref b9), .val (.ref b16), .val (.ref b23), .val (.ref b28), .unset, .unset, .unset] [(.int ex)])) := by
    intro TJ62 loJ62 ex NJ62 XJ62 eJ62 hex
    subst hex
    refine Wp.st (S' := TJ62.setTop (mkF m 112 #[.val (.int x1), .val (.int x2), .val (.int x3), .val (.int x4), .val (.int x5), .val (.int lr), .val (.int lq), .val (.int lp), .val (.int ls), .val (.ref b2), .val (.ref b9), .val (.ref b16), .val (.ref b23), .val (.ref b28), .val (.int (if (own_cs x1 lr) = (own_cs x2 lq) ∧ (own_cs x3 lp) = (own_cs x4 ls) then (1 : Int32) else (0 : Int32))), .unset, .unset] [])) (fun tt_ kk_ => XS.istore XJ62.here hx rfl (hb hby at_110) rfl (l' := #[.val (.int x1), .val (.int x2), .val (.int x3), .val (.int x4), .val (.int x5), .val (.int lr), .val (.int lq), .val (.int lp), .val (.int ls), .val (.ref b2), .val (.ref b9), .val (.ref b16), .val (.ref b23), .val (.ref b28), .val (.int (if (own_cs x1 lr) = (own_cs x2 lq) ∧ (own_cs x3 lp) = (own_cs x4 ls) then (1 : Int32) else (0 : Int32))), .unset, .unset]) rfl kk_) ?_
    refine Wp.st (S' := TJ62.setTop (mkF m 114 #[.val (.int x1), .val (.int x2), .val (.int x3), .val (.int x4), .val (.int x5), .val (.int lr), .val (.int lq), .val (.int lp), .val (.int ls), .val (.ref b2), .val (.ref b9), .val (.ref b16), .val (.ref b23), .val (.ref b28), .val (.int (if (own_cs x1 lr) = (own_cs x2 lq) ∧ (own_cs x3 lp) = (own_cs x4 ls) then (1 : Int32) else (0 : Int32))), .unset, .unset] [(.ref b28)])) (fun tt_ kk_ => XS.aload XJ62.here hx rfl (hb hby at_112) rfl rfl kk_) ?_
    refine Wp.st (S' := TJ62.setTop (mkF m 116 #[.val (.int x1), .val (.int x2), .val (.int x3), .val (.int x4), .val (.int x5), .val (.int lr), .val (.int lq), .val (.int lp), .val (.int ls), .val (.ref b2), .val (.ref b9), .val (.ref b16), .val (.ref b23), .val (.ref b28), .val (.int (if (own_cs x1 lr) = (own_cs x2 lq) ∧ (own_cs x3 lp) = (own_cs x4 ls) then (1 : Int32) else (0 : Int32))), .unset, .unset] [(.ref b9), (.ref b28)])) (fun tt_ kk_ => XS.aload XJ62.here hx rfl (hb hby at_114) rfl rfl kk_) ?_
    refine Wp.st (S' := TJ62.setTop (mkF m 118 #[.val (.int x1), .val (.int x2), .val (.int x3), .val (.int x4), .val (.int x5), .val (.int lr), .val (.int lq), .val (.int lp), .val (.int ls), .val (.ref b2), .val (.ref b9), .val (.ref b16), .val (.ref b23), .val (.ref b28), .val (.int (if (own_cs x1 lr) = (own_cs x2 lq) ∧ (own_cs x3 lp) = (own_cs x4 ls) then (1 : Int32) else (0 : Int32))), .unset, .unset] [(.ref b23), (.ref b9), (.ref b28)])) (fun tt_ kk_ => XS.aload XJ62.here hx rfl (hb hby at_116) rfl rfl kk_) ?_
    have O64 := O22.keep K21 all0
    have O65 := O64.ext E28
    have O66 := O65.ext E38
    have O67 := O66.ext E42
    have O68 := O67.keep K46 (allS g31 all0)
    have F69 := P1_0.keep K7
    have F70 := F69.keep K14
    have F71 := F70.keep K21
    have F72 := F71.ext E28
    have F73 := F72.ext E38
    have F74 := F73.ext E42
    have F75 := F74.keep K46
    have F76 := P1_1.keep K7 nin0
    have F77 := F76.keep K14 nin0
    have F78 := F77.keep K21 nin0
    have F79 := F78.ext E28
    have F80 := F79.ext E38
    have F81 := F80.ext E42
    have F82 := F81.keep K46 (ninS (Nat.ne_of_lt (Nat.lt_of_lt_of_le P1_0.lt (Nat.le_trans (Nat.le_trans (Nat.le_trans z12 z19) z26) (Nat.le_of_eq g28.symm)))) nin0)
    have F83 := P1_2.keep K7 nin0
    have F84 := F83.keep K14 nin0
    have F85 := F84.keep K21 nin0
    have F86 := F85.ext E28
    have F87 := F86.ext E38
    have F88 := F87.ext E42
    have F89 := F88.keep K46 (ninS (Nat.ne_of_lt (Nat.lt_of_lt_of_le P1_0.lt (Nat.le_trans (Nat.le_trans (Nat.le_trans z12 z19) z26) (Nat.le_of_eq g28.symm)))) nin0)
    have F90 := P1_3.keep K7 nin0
    have F91 := F90.keep K14 nin0
    have F92 := F91.keep K21 nin0
    have F93 := F92.ext E28
    have F94 := F93.ext E38
    have F95 := F94.ext E42
    have F96 := F95.keep K46 (ninS (Nat.ne_of_lt (Nat.lt_of_lt_of_le P1_3.lt (Nat.le_trans (Nat.le_trans (Nat.le_trans z12 z19) z26) (Nat.le_of_eq g28.symm)))) nin0)
    have F97 := P14_0.keep K21
    have F98 := F97.ext E28
    have F99 := F98.ext E38
    have F100 := F99.ext E42
    have F101 := F100.keep K46
    have F102 := P14_1.keep K21 nin0
    have F103 := F102.ext E28
    have F104 := F103.ext E38
    have F105 := F104.ext E42
    have F106 := F105.keep K46 (ninS (Nat.ne_of_lt (Nat.lt_of_lt_of_le P14_0.lt (Nat.le_trans z26 (Nat.le_of_eq g28.symm)))) nin0)
    have F107 := P14_2.keep K21 nin0
    have F108 := F107.ext E28
    have F109 := F108.ext E38
    have F110 := F109.ext E42
    have F111 := F110.keep K46 (ninS (Nat.ne_of_lt (Nat.lt_of_lt_of_le P14_0.lt (Nat.le_trans z26 (Nat.le_of_eq g28.symm)))) nin0)
    have F112 := P14_3.keep K21 nin0
    have F113 := F112.ext E28
    have F114 := F113.ext E38
    have F115 := F114.ext E42
    have F116 := F115.keep K46 (ninS (Nat.ne_of_lt (Nat.lt_of_lt_of_le P14_3.lt (Nat.le_trans z26 (Nat.le_of_eq g28.symm)))) nin0)
    have F117 := P7_0.keep K14
    have F118 := F117.keep K21
    have F119 := F118.ext E28
    have F120 := F119.ext E38
    have F121 := F120.ext E42
    have F122 := F121.keep K46
    have F123 := P7_1.keep K14 nin0
    have F124 := F123.keep K21 nin0
    have F125 := F124.ext E28
    have F126 := F125.ext E38
    have F127 := F126.ext E42
    have F128 := F127.keep K46 (ninS (Nat.ne_of_lt (Nat.lt_of_lt_of_le P7_0.lt (Nat.le_trans (Nat.le_trans z19 z26) (Nat.le_of_eq g28.symm)))) nin0)
    have F129 := P7_2.keep K14 nin0
    have F130 := F129.keep K21 nin0
    have F131 := F130.ext E28
    have F132 := F131.ext E38
    have F133 := F132.ext E42
    have F134 := F133.keep K46 (ninS (Nat.ne_of_lt (Nat.lt_of_lt_of_le P7_0.lt (Nat.le_trans (Nat.le_trans z19 z26) (Nat.le_of_eq g28.symm)))) nin0)
    have F135 := P7_3.keep K14 nin0
    have F136 := F135.keep K21 nin0
    have F137 := F136.ext E28
    have F138 := F137.ext E38
    have F139 := F138.ext E42
    have F140 := F139.keep K46 (ninS (Nat.ne_of_lt (Nat.lt_of_lt_of_le P7_3.lt (Nat.le_trans (Nat.le_trans z19 z26) (Nat.le_of_eq g28.symm)))) nin0)
    have F141 := P21_0.ext E28
    have F142 := F141.ext E38
    have F143 := F142.ext E42
    have F144 := F143.keep K46
    have F145 := P21_1.ext E28
    have F146 := F145.ext E38
    have F147 := F146.ext E42
    have F148 := F147.keep K46 (ninS (Nat.ne_of_lt (Nat.lt_of_lt_of_le P21_0.lt (Nat.le_trans (Nat.le_refl _) (Nat.le_of_eq g28.symm)))) nin0)
    have F149 := P21_2.ext E28
    have F150 := F149.ext E38
    have F151 := F150.ext E42
    have F152 := F151.keep K46 (ninS (Nat.ne_of_lt (Nat.lt_of_lt_of_le P21_0.lt (Nat.le_trans (Nat.le_refl _) (Nat.le_of_eq g28.symm)))) nin0)
    have F153 := P21_3.ext E28
    have F154 := F153.ext E38
    have F155 := F154.ext E42
    have F156 := F155.keep K46 (ninS (Nat.ne_of_lt (Nat.lt_of_lt_of_le P21_3.lt (Nat.le_trans (Nat.le_refl _) (Nat.le_of_eq g28.symm)))) nin0)
    obtain ⟨cq63, kq63, q63a, q63b, q63c⟩ := isOf hZ42 eJ62 P46_0
    obtain ⟨vv63, _, ⟨T63, L63, k63, n63⟩, -, X63, ⟨Lc63, hQ63, l63, y63, z63⟩, st63⟩ := XJ62.virtualBack hx (y := (⟨"com/example/clients_by_rule/clientsbyrule/profile/Suppression", "covers", "(Ljava/lang/String;Ljava/lang/String;)Z"⟩ : MethodName)) (z := (⟨"com/example/clients_by_rule/clientsbyrule/profile/Suppression", "covers", "(Ljava/lang/String;Ljava/lang/String;)Z"⟩ : MethodName)) how42 (mvT hZ42 (hw _ (List.mem_of_getElem? (i := 48) rfl))) (mvT hZ42 (hw _ (List.mem_of_getElem? (i := 49) rfl))) (notFace_of_selects (args := #[]) (mvT hZ42 (hw _ (List.mem_of_getElem? (i := 51) rfl)))) (mvT hZ42 (hw _ (List.mem_of_getElem? (i := 51) rfl))) (mvT hZ42 (hw _ (List.mem_of_getElem? (i := 50) rfl))) (by decide) (backOf (W := 0) (rm7 l Z a0 hw [] b28 b9 b23 b2 b16 zcs (own_cs x1 lr) b3 c4 (own_cs x3 lp) b17 c18 (own_cs x2 lq) b10 c11 (own_cs x4 ls) b24 c25 T46.heap n0 (Nat.le_trans Z0 (Nat.le_trans (Nat.le_trans (Nat.le_trans (Nat.le_trans (Nat.le_trans (Nat.le_trans (Nat.le_trans z5 z12) z19) z26) z29) z39) z43) z59)) O68 SCompact (hCS : ¬ zcs = 0) P46_1 P46_2 F75 F82 F89 F96 ((own_hp _ _) : ∀ c ∈ (own_cs x1 lr), ¬ c < 0 ∧ ¬ (255 : Int32) < c) ((own_hl _ _) : (own_cs x1 lr).length ≤ 4000) F101 F106 F111 F116 ((own_hp _ _) : ∀ c ∈ (own_cs x3 lp), ¬ c < 0 ∧ ¬ (255 : Int32) < c) ((own_hl _ _) : (own_cs x3 lp).length ≤ 4000) F122 F128 F134 F140 ((own_hp _ _) : ∀ c ∈ (own_cs x2 lq), ¬ c < 0 ∧ ¬ (255 : Int32) < c) ((own_hl _ _) : (own_cs x2 lq).length ≤ 4000) F144 F148 F152 F156 ((own_hp _ _) : ∀ c ∈ (own_cs x4 ls), ¬ c < 0 ∧ ¬ (255 : Int32) < c) ((own_hl _ _) : (own_cs x4 ls).length ≤ 4000)) hZ42 (hw _ (List.mem_of_getElem? (i := 52) rfl)) (hw _ (List.mem_of_getElem? (i := 28) rfl)) (by decide) (by decide)) q63a q63c (g := (mkF m 118 #[.val (.int x1), .val (.int x2), .val (.int x3), .val (.int x4), .val (.int x5), .val (.int lr), .val (.int lq), .val (.int lp), .val (.int ls), .val (.ref b2), .val (.ref b9), .val (.ref b16), .val (.ref b23), .val (.ref b28), .val (.int (if (own_cs x1 lr) = (own_cs x2 lq) ∧ (own_cs x3 lp) = (own_cs x4 ls) then (1 : Int32) else (0 : Int32))), .unset, .unset] [(.ref b23), (.ref b9), (.ref b28)])) rfl (by rw [hml]; rfl) (Steps.refl _) (argsL := [(.ref b9), (.ref b23)]) (rest := []) (lenOf pd_5 rfl) rfl (by show 2 * 0 + _ ≤ _; exact Nat.le_of_eq rfl) (hb hby at_118) (fun _ _ => ⟨rfl, eJ62, (by decide : 29 + 0 ≤ _), (by decide : 137 + 0 ≤ _)⟩)
    dsimp only [Pt.U, Pt.locs, Pt.cells, Pt.slots] at X63 l63 y63 z63 st63 hQ63
    subst l63 y63 z63
    obtain ⟨rfl, Nq63, e63⟩ := hQ63
    have N63 := Fr.app NJ62 Nq63
    refine Wp.tr (S' := T63.setTop (mkF m 121 #[.val (.int x1), .val (.int x2), .val (.int x3), .val (.int x4), .val (.int x5), .val (.int lr), .val (.int lq), .val (.int lp), .val (.int ls), .val (.ref b2), .val (.ref b9), .val (.ref b16), .val (.ref b23), .val (.ref b28), .val (.int (if (own_cs x1 lr) = (own_cs x2 lq) ∧ (own_cs x3 lp) = (own_cs x4 ls) then (1 : Int32) else (0 : Int32))), .unset, .unset] [(.int (if (own_cs x1 lr) = (own_cs x2 lq) ∧ (own_cs x3 lp) = (own_cs x4 ls) then (1 : Int32) else (0 : Int32)))])) st63 ?_
    refine Wp.st (S' := T63.setTop (mkF m 123 #[.val (.int x1), .val (.int x2), .val (.int x3), .val (.int x4), .val (.int x5), .val (.int lr), .val (.int lq), .val (.int lp), .val (.int ls), .val (.ref b2), .val (.ref b9), .val (.ref b16), .val (.ref b23), .val (.ref b28), .val (.int (if (own_cs x1 lr) = (own_cs x2 lq) ∧ (own_cs x3 lp) = (own_cs x4 ls) then (1 : Int32) else (0 : Int32))), .val (.int (if (own_cs x1 lr) = (own_cs x2 lq) ∧ (own_cs x3 lp) = (own_cs x4 ls) then (1 : Int32) else (0 : Int32))), .unset] [])) (fun tt_ kk_ => XS.istore X63.here hx rfl (hb hby at_121) rfl (l' := #[.val (.int x1), .val (.int x2), .val (.int x3), .val (.int x4), .val (.int x5), .val (.int lr), .val (.int lq), .val (.int lp), .val (.int ls), .val (.ref b2), .val (.ref b9), .val (.ref b16), .val (.ref b23), .val (.ref b28), .val (.int (if (own_cs x1 lr) = (own_cs x2 lq) ∧ (own_cs x3 lp) = (own_cs x4 ls) then (1 : Int32) else (0 : Int32))), .val (.int (if (own_cs x1 lr) = (own_cs x2 lq) ∧ (own_cs x3 lp) = (own_cs x4 ls) then (1 : Int32) else (0 : Int32))), .unset]) rfl kk_) ?_
    refine Wp.st (S' := T63.setTop (mkF m 125 #[.val (.int x1), .val (.int x2), .val (.int x3), .val (.int x4), .val (.int x5), .val (.int lr), .val (.int lq), .val (.int lp), .val (.int ls), .val (.ref b2), .val (.ref b9), .val (.ref b16), .val (.ref b23), .val (.ref b28), .val (.int (if (own_cs x1 lr) = (own_cs x2 lq) ∧ (own_cs x3 lp) = (own_cs x4 ls) then (1 : Int32) else (0 : Int32))), .val (.int (if (own_cs x1 lr) = (own_cs x2 lq) ∧ (own_cs x3 lp) = (own_cs x4 ls) then (1 : Int32) else (0 : Int32))), .unset] [(.ref b28)])) (fun tt_ kk_ => XS.aload X63.here hx rfl (hb hby at_123) rfl rfl kk_) ?_
    refine Wp.st (S' := T63.setTop (mkF m 126 #[.val (.int x1), .val (.int x2), .val (.int x3), .val (.int x4), .val (.int x5), .val (.int lr), .val (.int lq), .val (.int lp), .val (.int ls), .val (.ref b2), .val (.ref b9), .val (.ref b16), .val (.ref b23), .val (.ref b28), .val (.int (if (own_cs x1 lr) = (own_cs x2 lq) ∧ (own_cs x3 lp) = (own_cs x4 ls) then (1 : Int32) else (0 : Int32))), .val (.int (if (own_cs x1 lr) = (own_cs x2 lq) ∧ (own_cs x3 lp) = (own_cs x4 ls) then (1 : Int32) else (0 : Int32))), .unset] [(.int x1), (.ref b28)])) (fun tt_ kk_ => XS.iloadN X63.here hx rfl (hb hby at_125) rfl  kk_) ?_
    refine Wp.st (S' := T63.setTop (mkF m 128 #[.val (.int x1), .val (.int x2), .val (.int x3), .val (.int x4), .val (.int x5), .val (.int lr), .val (.int lq), .val (.int lp), .val (.int ls), .val (.ref b2), .val (.ref b9), .val (.ref b16), .val (.ref b23), .val (.ref b28), .val (.int (if (own_cs x1 lr) = (own_cs x2 lq) ∧ (own_cs x3 lp) = (own_cs x4 ls) then (1 : Int32) else (0 : Int32))), .val (.int (if (own_cs x1 lr) = (own_cs x2 lq) ∧ (own_cs x3 lp) = (own_cs x4 ls) then (1 : Int32) else (0 : Int32))), .unset] [(.int lr), (.int x1), (.ref b28)])) (fun tt_ kk_ => XS.iload X63.here hx rfl (hb hby at_126) rfl  kk_) ?_
    obtain ⟨vv157, _, ⟨T157, L157, k157, n157⟩, -, Xq157, sn157, gr157, ⟨Lc157, hQ157, l157, y157, z157, cr157⟩, st157⟩ := callSS X63 hx (y := (⟨"com/example/clients_by_rule/clientsbyrule/profile/SuppressionCoversPinLaw", "mk", "(II)Ljava/lang/String;"⟩ : MethodName)) how42 (mvT hZ42 (hw _ (List.mem_of_getElem? (i := 0) rfl))) (mvT hZ42 (hw _ (List.mem_of_getElem? (i := 1) rfl))) (mvT hZ42 (hw _ (List.mem_of_getElem? (i := 2) rfl))) (mvT hZ42 (hw _ (List.mem_of_getElem? (i := 3) rfl))) (by decide) (backOfSH (W := 1) (rm1 l Z a0 hw [] x1 lr zcs T46.heap n0 (Nat.le_trans Z0 (Nat.le_trans (Nat.le_trans (Nat.le_trans (Nat.le_trans (Nat.le_trans (Nat.le_trans (Nat.le_trans z5 z12) z19) z26) z29) z39) z43) z59)) O68 SCompact (hCS : ¬ zcs = 0) ((by assumption) : lr = (0 : Int32) ∨ lr = (1 : Int32) ∨ lr = (2 : Int32) ∨ lr = (3 : Int32))) hZ42 (hw _ (List.mem_of_getElem? (i := 3) rfl)) (hw _ (List.mem_of_getElem? (i := 2) rfl)) (by decide) (by decide) hEL CC61.1) (g := (mkF m 128 #[.val (.int x1), .val (.int x2), .val (.int x3), .val (.int x4), .val (.int x5), .val (.int lr), .val (.int lq), .val (.int lp), .val (.int ls), .val (.ref b2), .val (.ref b9), .val (.ref b16), .val (.ref b23), .val (.ref b28), .val (.int (if (own_cs x1 lr) = (own_cs x2 lq) ∧ (own_cs x3 lp) = (own_cs x4 ls) then (1 : Int32) else (0 : Int32))), .val (.int (if (own_cs x1 lr) = (own_cs x2 lq) ∧ (own_cs x3 lp) = (own_cs x4 ls) then (1 : Int32) else (0 : Int32))), .unset] [(.int lr), (.int x1), (.ref b28)])) rfl (by rw [hml]; rfl) (argsL := [(.int x1), (.int lr)]) (rest := [(.ref b28)]) (lenOf pd_3 rfl) rfl (by show 2 * 0 + _ ≤ _; exact Nat.le_of_eq rfl) (hb hby at_128) (fun _ _ => ⟨rfl, e63, (by decide : 29 + 6 ≤ _), (by decide : 137 + 12 ≤ _)⟩)
    dsimp only [Pt.U, Pt.locs, Pt.cells, Pt.slots] at Xq157 sn157 gr157 l157 y157 z157 st157 hQ157 cr157
    subst l157 y157 z157
    obtain ⟨X157, hS157, hZ157, how157⟩ := rebS hS42 (by rw [e63]; exact (Nat.le_trans hk42 z59)) Xq157 sn157 gr157 hZ42 how42
    obtain ⟨b158, b159, c160, rfl, Nq157, K157, P157_0, P157_1, P157_2, P157_3⟩ := hQ157
    have N157 := Fr.app N63 Nq157
    have z161 := K157.1
    have Sf162 := cr157.safe (Nat.lt_of_lt_of_le A28.lt (Nat.le_trans (Nat.le_trans z39 z43) z59)) Sf60
    have CC163 := CC61.trans cr157
    have e157 : T157.heap = T157.heap := rfl
    refine Wp.tr (S' := T157.setTop (mkF m 131 #[.val (.int x1), .val (.int x2), .val (.int x3), .val (.int x4), .val (.int x5), .val (.int lr), .val (.int lq), .val (.int lp), .val (.int ls), .val (.ref b2), .val (.ref b9), .val (.ref b16), .val (.ref b23), .val (.ref b28), .val (.int (if (own_cs x1 lr) = (own_cs x2 lq) ∧ (own_cs x3 lp) = (own_cs x4 ls) then (1 : Int32) else (0 : Int32))), .val (.int (if (own_cs x1 lr) = (own_cs x2 lq) ∧ (own_cs x3 lp) = (own_cs x4 ls) then (1 : Int32) else (0 : Int32))), .unset] [(.ref b158), (.ref b28)])) st157 ?_
    refine Wp.st (S' := T157.setTop (mkF m 132 #[.val (.int x1), .val (.int x2), .val (.int x3), .val (.int x4), .val (.int x5), .val (.int lr), .val (.int lq), .val (.int lp), .val (.int ls), .val (.ref b2), .val (.ref b9), .val (.ref b16), .val (.ref b23), .val (.ref b28), .val (.int (if (own_cs x1 lr) = (own_cs x2 lq) ∧ (own_cs x3 lp) = (own_cs x4 ls) then (1 : Int32) else (0 : Int32))), .val (.int (if (own_cs x1 lr) = (own_cs x2 lq) ∧ (own_cs x3 lp) = (own_cs x4 ls) then (1 : Int32) else (0 : Int32))), .unset] [(.int x3), (.ref b158), (.ref b28)])) (fun tt_ kk_ => XS.iloadN X157.here hx rfl (hb hby at_131) rfl  kk_) ?_
    refine Wp.st (S' := T157.setTop (mkF m 134 #[.val (.int x1), .val (.int x2), .val (.int x3), .val (.int x4), .val (.int x5), .val (.int lr), .val (.int lq), .val (.int lp), .val (.int ls), .val (.ref b2), .val (.ref b9), .val (.ref b16), .val (.ref b23), .val (.ref b28), .val (.int (if (own_cs x1 lr) = (own_cs x2 lq) ∧ (own_cs x3 lp) = (own_cs x4 ls) then (1 : Int32) else (0 : Int32))), .val (.int (if (own_cs x1 lr) = (own_cs x2 lq) ∧ (own_cs x3 lp) = (own_cs x4 ls) then (1 : Int32) else (0 : Int32))), .unset] [(.int lp), (.int x3), (.ref b158), (.ref b28)])) (fun tt_ kk_ => XS.iload X157.here hx rfl (hb hby at_132) rfl  kk_) ?_
    have O165 := O68.keep K157 all0
    obtain ⟨vv164, _, ⟨T164, L164, k164, n164⟩, -, Xq164, sn164, gr164, ⟨Lc164, hQ164, l164, y164, z164, cr164⟩, st164⟩ := callSS X157 hx (y := (⟨"com/example/clients_by_rule/clientsbyrule/profile/SuppressionCoversPinLaw", "mk", "(II)Ljava/lang/String;"⟩ : MethodName)) how157 (mvT hZ157 (hw _ (List.mem_of_getElem? (i := 0) rfl))) (mvT hZ157 (hw _ (List.mem_of_getElem? (i := 1) rfl))) (mvT hZ157 (hw _ (List.mem_of_getElem? (i := 2) rfl))) (mvT hZ157 (hw _ (List.mem_of_getElem? (i := 3) rfl))) (by decide) (backOfSH (W := 2) (rm1 l Z a0 hw [] x3 lp zcs T157.heap n0 (Nat.le_trans Z0 (Nat.le_trans (Nat.le_trans (Nat.le_trans (Nat.le_trans (Nat.le_trans (Nat.le_trans (Nat.le_trans (Nat.le_trans z5 z12) z19) z26) z29) z39) z43) z59) z161)) O165 SCompact (hCS : ¬ zcs = 0) ((by assumption) : lp = (0 : Int32) ∨ lp = (1 : Int32) ∨ lp = (2 : Int32) ∨ lp = (3 : Int32))) hZ157 (hw _ (List.mem_of_getElem? (i := 3) rfl)) (hw _ (List.mem_of_getElem? (i := 2) rfl)) (by decide) (by decide) hEL CC163.1) (g := (mkF m 134 #[.val (.int x1), .val (.int x2), .val (.int x3), .val (.int x4), .val (.int x5), .val (.int lr), .val (.int lq), .val (.int lp), .val (.int ls), .val (.ref b2), .val (.ref b9), .val (.ref b16), .val (.ref b23), .val (.ref b28), .val (.int (if (own_cs x1 lr) = (own_cs x2 lq) ∧ (own_cs x3 lp) = (own_cs x4 ls) then (1 : Int32) else (0 : Int32))), .val (.int (if (own_cs x1 lr) = (own_cs x2 lq) ∧ (own_cs x3 lp) = (own_cs x4 ls) then (1 : Int32) else (0 : Int32))), .unset] [(.int lp), (.int x3), (.ref b158), (.ref b28)])) rfl (by rw [hml]; rfl) (argsL := [(.int x3), (.int lp)]) (rest := [(.ref b158), (.ref b28)]) (lenOf pd_3 rfl) rfl (by show 2 * 0 + _ ≤ _; exact Nat.le_of_eq rfl) (hb hby at_134) (fun _ _ => ⟨rfl, e157, (by decide : 35 + 6 ≤ _), (by decide : 149 + 12 ≤ _)⟩)
    dsimp only [Pt.U, Pt.locs, Pt.cells, Pt.slots] at Xq164 sn164 gr164 l164 y164 z164 st164 hQ164 cr164
    subst l164 y164 z164
    obtain ⟨X164, hS164, hZ164, how164⟩ := rebS hS157 (by rw [e157]; exact (Nat.le_refl _)) Xq164 sn164 gr164 hZ157 how157
    obtain ⟨b166, b167, c168, rfl, Nq164, K164, P164_0, P164_1, P164_2, P164_3⟩ := hQ164
    have N164 := Fr.app N157 Nq164
    have z169 := K164.1
    have Sf170 := cr164.safe (Nat.lt_of_lt_of_le A28.lt (Nat.le_trans (Nat.le_trans (Nat.le_trans z39 z43) z59) z161)) Sf162
    have CC171 := CC163.trans cr164
    have e164 : T164.heap = T164.heap := rfl
    refine Wp.tr (S' := T164.setTop (mkF m 137 #[.val (.int x1), .val (.int x2), .val (.int x3), .val (.int x4), .val (.int x5), .val (.int lr), .val (.int lq), .val (.int lp), .val (.int ls), .val (.ref b2), .val (.ref b9), .val (.ref b16), .val (.ref b23), .val (.ref b28), .val (.int (if (own_cs x1 lr) = (own_cs x2 lq) ∧ (own_cs x3 lp) = (own_cs x4 ls) then (1 : Int32) else (0 : Int32))), .val (.int (if (own_cs x1 lr) = (own_cs x2 lq) ∧ (own_cs x3 lp) = (own_cs x4 ls) then (1 : Int32) else (0 : Int32))), .unset] [(.ref b166), (.ref b158), (.ref b28)])) st164 ?_
    have O173 := O165.keep K164 all0
    have F174 := P46_1.keep K157 nin0
    have F175 := F174.keep K164 nin0
    have F176 := P46_2.keep K157 nin0
    have F177 := F176.keep K164 nin0
    have F178 := F75.keep K157
    have F179 := F178.keep K164
    have F180 := F82.keep K157 nin0
    have F181 := F180.keep K164 nin0
    have F182 := F89.keep K157 nin0
    have F183 := F182.keep K164 nin0
    have F184 := F96.keep K157 nin0
    have F185 := F184.keep K164 nin0
    have F186 := F101.keep K157
    have F187 := F186.keep K164
    have F188 := F106.keep K157 nin0
    have F189 := F188.keep K164 nin0
    have F190 := F111.keep K157 nin0
    have F191 := F190.keep K164 nin0
    have F192 := F116.keep K157 nin0
    have F193 := F192.keep K164 nin0
    have F194 := P157_0.keep K164
    have F195 := P157_1.keep K164 nin0
    have F196 := P157_2.keep K164 nin0
    have F197 := P157_3.keep K164 nin0
    have F198 := P46_0.keep K157
    have F199 := F198.keep K164
    obtain ⟨cq172, kq172, q172a, q172b, q172c⟩ := isOf hZ164 e164 F199
    obtain ⟨vv172, _, ⟨T172, L172, k172, n172⟩, -, X172, ⟨Lc172, hQ172, l172, y172, z172⟩, st172⟩ := X164.virtualBack hx (y := (⟨"com/example/clients_by_rule/clientsbyrule/profile/Suppression", "covers", "(Ljava/lang/String;Ljava/lang/String;)Z"⟩ : MethodName)) (z := (⟨"com/example/clients_by_rule/clientsbyrule/profile/Suppression", "covers", "(Ljava/lang/String;Ljava/lang/String;)Z"⟩ : MethodName)) how164 (mvT hZ164 (hw _ (List.mem_of_getElem? (i := 48) rfl))) (mvT hZ164 (hw _ (List.mem_of_getElem? (i := 49) rfl))) (notFace_of_selects (args := #[]) (mvT hZ164 (hw _ (List.mem_of_getElem? (i := 51) rfl)))) (mvT hZ164 (hw _ (List.mem_of_getElem? (i := 51) rfl))) (mvT hZ164 (hw _ (List.mem_of_getElem? (i := 50) rfl))) (by decide) (backOf (W := 0) (rm7 l Z a0 hw [] b28 b158 b166 b2 b16 zcs (own_cs x1 lr) b3 c4 (own_cs x3 lp) b17 c18 (own_cs x1 lr) b159 c160 (own_cs x3 lp) b167 c168 T164.heap n0 (Nat.le_trans Z0 (Nat.le_trans (Nat.le_trans (Nat.le_trans (Nat.le_trans (Nat.le_trans (Nat.le_trans (Nat.le_trans (Nat.le_trans (Nat.le_trans z5 z12) z19) z26) z29) z39) z43) z59) z161) z169)) O173 SCompact (hCS : ¬ zcs = 0) F175 F177 F179 F181 F183 F185 ((own_hp _ _) : ∀ c ∈ (own_cs x1 lr), ¬ c < 0 ∧ ¬ (255 : Int32) < c) ((own_hl _ _) : (own_cs x1 lr).length ≤ 4000) F187 F189 F191 F193 ((own_hp _ _) : ∀ c ∈ (own_cs x3 lp), ¬ c < 0 ∧ ¬ (255 : Int32) < c) ((own_hl _ _) : (own_cs x3 lp).length ≤ 4000) F194 F195 F196 F197 ((own_hp _ _) : ∀ c ∈ (own_cs x1 lr), ¬ c < 0 ∧ ¬ (255 : Int32) < c) ((own_hl _ _) : (own_cs x1 lr).length ≤ 4000) P164_0 P164_1 P164_2 P164_3 ((own_hp _ _) : ∀ c ∈ (own_cs x3 lp), ¬ c < 0 ∧ ¬ (255 : Int32) < c) ((own_hl _ _) : (own_cs x3 lp).length ≤ 4000)) hZ164 (hw _ (List.mem_of_getElem? (i := 52) rfl)) (hw _ (List.mem_of_getElem? (i := 28) rfl)) (by decide) (by decide)) q172a q172c (g := (mkF m 137 #[.val (.int x1), .val (.int x2), .val (.int x3), .val (.int x4), .val (.int x5), .val (.int lr), .val (.int lq), .val (.int lp), .val (.int ls), .val (.ref b2), .val (.ref b9), .val (.ref b16), .val (.ref b23), .val (.ref b28), .val (.int (if (own_cs x1 lr) = (own_cs x2 lq) ∧ (own_cs x3 lp) = (own_cs x4 ls) then (1 : Int32) else (0 : Int32))), .val (.int (if (own_cs x1 lr) = (own_cs x2 lq) ∧ (own_cs x3 lp) = (own_cs x4 ls) then (1 : Int32) else (0 : Int32))), .unset] [(.ref b166), (.ref b158), (.ref b28)])) rfl (by rw [hml]; rfl) (Steps.refl _) (argsL := [(.ref b158), (.ref b166)]) (rest := []) (lenOf pd_5 rfl) rfl (by show 2 * 0 + _ ≤ _; exact Nat.le_of_eq rfl) (hb hby at_137) (fun _ _ => ⟨rfl, e164, (by decide : 41 + 0 ≤ _), (by decide : 161 + 0 ≤ _)⟩)
    dsimp only [Pt.U, Pt.locs, Pt.cells, Pt.slots] at X172 l172 y172 z172 st172 hQ172
    subst l172 y172 z172
    obtain ⟨rfl, Nq172, e172⟩ := hQ172
    have N172 := Fr.app N164 Nq172
    refine Wp.tr (S' := T172.setTop (mkF m 140 #[.val (.int x1), .val (.int x2), .val (.int x3), .val (.int x4), .val (.int x5), .val (.int lr), .val (.int lq), .val (.int lp), .val (.int ls), .val (.ref b2), .val (.ref b9), .val (.ref b16), .val (.ref b23), .val (.ref b28), .val (.int (if (own_cs x1 lr) = (own_cs x2 lq) ∧ (own_cs x3 lp) = (own_cs x4 ls) then (1 : Int32) else (0 : Int32))), .val (.int (if (own_cs x1 lr) = (own_cs x2 lq) ∧ (own_cs x3 lp) = (own_cs x4 ls) then (1 : Int32) else (0 : Int32))), .unset] [(.int (if (own_cs x1 lr) = (own_cs x1 lr) ∧ (own_cs x3 lp) = (own_cs x3 lp) then (1 : Int32) else (0 : Int32)))])) st172 ?_
    refine Wp.st (S' := T172.setTop (mkF m 142 #[.val (.int x1), .val (.int x2), .val (.int x3), .val (.int x4), .val (.int x5), .val (.int lr), .val (.int lq), .val (.int lp), .val (.int ls), .val (.ref b2), .val (.ref b9), .val (.ref b16), .val (.ref b23), .val (.ref b28), .val (.int (if (own_cs x1 lr) = (own_cs x2 lq) ∧ (own_cs x3 lp) = (own_cs x4 ls) then (1 : Int32) else (0 : Int32))), .val (.int (if (own_cs x1 lr) = (own_cs x2 lq) ∧ (own_cs x3 lp) = (own_cs x4 ls) then (1 : Int32) else (0 : Int32))), .val (.int (if (own_cs x1 lr) = (own_cs x1 lr) ∧ (own_cs x3 lp) = (own_cs x3 lp) then (1 : Int32) else (0 : Int32)))] [])) (fun tt_ kk_ => XS.istore X172.here hx rfl (hb hby at_140) rfl (l' := #[.val (.int x1), .val (.int x2), .val (.int x3), .val (.int x4), .val (.int x5), .val (.int lr), .val (.int lq), .val (.int lp), .val (.int ls), .val (.ref b2), .val (.ref b9), .val (.ref b16), .val (.ref b23), .val (.ref b28), .val (.int (if (own_cs x1 lr) = (own_cs x2 lq) ∧ (own_cs x3 lp) = (own_cs x4 ls) then (1 : Int32) else (0 : Int32))), .val (.int (if (own_cs x1 lr) = (own_cs x2 lq) ∧ (own_cs x3 lp) = (own_cs x4 ls) then (1 : Int32) else (0 : Int32))), .val (.int (if (own_cs x1 lr) = (own_cs x1 lr) ∧ (own_cs x3 lp) = (own_cs x3 lp) then (1 : Int32) else (0 : Int32)))]) rfl kk_) ?_
    refine Wp.st (S' := T172.setTop (mkF m 144 #[.val (.int x1), .val (.int x2), .val (.int x3), .val (.int x4), .val (.int x5), .val (.int lr), .val (.int lq), .val (.int lp), .val (.int ls), .val (.ref b2), .val (.ref b9), .val (.ref b16), .val (.ref b23), .val (.ref b28), .val (.int (if (own_cs x1 lr) = (own_cs x2 lq) ∧ (own_cs x3 lp) = (own_cs x4 ls) then (1 : Int32) else (0 : Int32))), .val (.int (if (own_cs x1 lr) = (own_cs x2 lq) ∧ (own_cs x3 lp) = (own_cs x4 ls) then (1 : Int32) else (0 : Int32))), .val (.int (if (own_cs x1 lr) = (own_cs x1 lr) ∧ (own_cs x3 lp) = (own_cs x3 lp) then (1 : Int32) else (0 : Int32)))] [(.int (if (own_cs x1 lr) = (own_cs x2 lq) ∧ (own_cs x3 lp) = (own_cs x4 ls) then (1 : Int32) else (0 : Int32)))])) (fun tt_ kk_ => XS.iload X172.here hx rfl (hb hby at_142) rfl  kk_) ?_
    refine Wp.st (S' := T172.setTop (mkF m 146 #[.val (.int x1), .val (.int x2), .val (.int x3), .val (.int x4), .val (.int x5), .val (.int lr), .val (.int lq), .val (.int lp), .val (.int ls), .val (.ref b2), .val (.ref b9), .val (.ref b16), .val (.ref b23), .val (.ref b28), .val (.int (if (own_cs x1 lr) = (own_cs x2 lq) ∧ (own_cs x3 lp) = (own_cs x4 ls) then (1 : Int32) else (0 : Int32))), .val (.int (if (own_cs x1 lr) = (own_cs x2 lq) ∧ (own_cs x3 lp) = (own_cs x4 ls) then (1 : Int32) else (0 : Int32))), .val (.int (if (own_cs x1 lr) = (own_cs x1 lr) ∧ (own_cs x3 lp) = (own_cs x3 lp) then (1 : Int32) else (0 : Int32)))] [(.int (if (own_cs x1 lr) = (own_cs x2 lq) ∧ (own_cs x3 lp) = (own_cs x4 ls) then (1 : Int32) else (0 : Int32))), (.int (if (own_cs x1 lr) = (own_cs x2 lq) ∧ (own_cs x3 lp) = (own_cs x4 ls) then (1 : Int32) else (0 : Int32)))])) (fun tt_ kk_ => XS.iload X172.here hx rfl (hb hby at_144) rfl  kk_) ?_
    refine Wp.st (S' := T172.setTop (mkF m 149 #[.val (.int x1), .val (.int x2), .val (.int x3), .val (.int x4), .val (.int x5), .val (.int lr), .val (.int lq), .val (.int lp), .val (.int ls), .val (.ref b2), .val (.ref b9), .val (.ref b16), .val (.ref b23), .val (.ref b28), .val (.int (if (own_cs x1 lr) = (own_cs x2 lq) ∧ (own_cs x3 lp) = (own_cs x4 ls) then (1 : Int32) else (0 : Int32))), .val (.int (if (own_cs x1 lr) = (own_cs x2 lq) ∧ (own_cs x3 lp) = (own_cs x4 ls) then (1 : Int32) else (0 : Int32))), .val (.int (if (own_cs x1 lr) = (own_cs x1 lr) ∧ (own_cs x3 lp) = (own_cs x3 lp) then (1 : Int32) else (0 : Int32)))] [])) (fun tt_ kk_ => XS.icmpNo X172.here hx rfl (hb hby at_146) rfl (teq (rfl : (if (own_cs x1 lr) = (own_cs x2 lq) ∧ (own_cs x3 lp) = (own_cs x4 ls) then (1 : Int32) else (0 : Int32)) = (if (own_cs x1 lr) = (own_cs x2 lq) ∧ (own_cs x3 lp) = (own_cs x4 ls) then (1 : Int32) else (0 : Int32)))).2 kk_) ?_
    refine Wp.st (S' := T172.setTop (mkF m 151 #[.val (.int x1), .val (.int x2), .val (.int x3), .val (.int x4), .val (.int x5), .val (.int lr), .val (.int lq), .val (.int lp), .val (.int ls), .val (.ref b2), .val (.ref b9), .val (.ref b16), .val (.ref b23), .val (.ref b28), .val (.int (if (own_cs x1 lr) = (own_cs x2 lq) ∧ (own_cs x3 lp) = (own_cs x4 ls) then (1 : Int32) else (0 : Int32))), .val (.int (if (own_cs x1 lr) = (own_cs x2 lq) ∧ (own_cs x3 lp) = (own_cs x4 ls) then (1 : Int32) else (0 : Int32))), .val (.int (if (own_cs x1 lr) = (own_cs x1 lr) ∧ (own_cs x3 lp) = (own_cs x3 lp) then (1 : Int32) else (0 : Int32)))] [(.int (if (own_cs x1 lr) = (own_cs x1 lr) ∧ (own_cs x3 lp) = (own_cs x3 lp) then (1 : Int32) else (0 : Int32)))])) (fun tt_ kk_ => XS.iload X172.here hx rfl (hb hby at_149) rfl  kk_) ?_
    rw [(if_pos ⟨rfl, rfl⟩ : (if (own_cs x1 lr) = (own_cs x1 lr) ∧ (own_cs x3 lp) = (own_cs x3 lp) then (1 : Int32) else (0 : Int32)) = (1 : Int32))]
    refine Wp.st (S' := T172.setTop (mkF m 154 #[.val (.int x1), .val (.int x2), .val (.int x3), .val (.int x4), .val (.int x5), .val (.int lr), .val (.int lq), .val (.int lp), .val (.int ls), .val (.ref b2), .val (.ref b9), .val (.ref b16), .val (.ref b23), .val (.ref b28), .val (.int (if (own_cs x1 lr) = (own_cs x2 lq) ∧ (own_cs x3 lp) = (own_cs x4 ls) then (1 : Int32) else (0 : Int32))), .val (.int (if (own_cs x1 lr) = (own_cs x2 lq) ∧ (own_cs x3 lp) = (own_cs x4 ls) then (1 : Int32) else (0 : Int32))), .val (.int (1 : Int32))] [])) (fun tt_ kk_ => XS.ifNo X172.here hx rfl (hb hby at_151) rfl ((if0 _ _).trans (feq ((by decide) : ¬ ((1 : Int32) = (0 : Int32)))).1) kk_) ?_
    refine Wp.st (S' := T172.setTop (mkF m 155 #[.val (.int x1), .val (.int x2), .val (.int x3), .val (.int x4), .val (.int x5), .val (.int lr), .val (.int lq), .val (.int lp), .val (.int ls), .val (.ref b2), .val (.ref b9), .val (.ref b16), .val (.ref b23), .val (.ref b28), .val (.int (if (own_cs x1 lr) = (own_cs x2 lq) ∧ (own_cs x3 lp) = (own_cs x4 ls) then (1 : Int32) else (0 : Int32))), .val (.int (if (own_cs x1 lr) = (own_cs x2 lq) ∧ (own_cs x3 lp) = (own_cs x4 ls) then (1 : Int32) else (0 : Int32))), .val (.int (1 : Int32))] [(.int (1 : Int32))])) (fun tt_ kk_ => XS.iconst X172.here hx rfl (hb hby at_154) kk_) ?_
    refine Wp.st (S' := T172.setTop (mkF m 159 #[.val (.int x1), .val (.int x2), .val (.int x3), .val (.int x4), .val (.int x5), .val (.int lr), .val (.int lq), .val (.int lp), .val (.int ls), .val (.ref b2), .val (.ref b9), .val (.ref b16), .val (.ref b23), .val (.ref b28), .val (.int (if (own_cs x1 lr) = (own_cs x2 lq) ∧ (own_cs x3 lp) = (own_cs x4 ls) then (1 : Int32) else (0 : Int32))), .val (.int (if (own_cs x1 lr) = (own_cs x2 lq) ∧ (own_cs x3 lp) = (own_cs x4 ls) then (1 : Int32) else (0 : Int32))), .val (.int (1 : Int32))] [(.int (1 : Int32))])) (fun tt_ kk_ => XS.goto X172.here hx rfl (pc0 := 155) (pc' := 159) rfl (hb hby at_155) (by decide) (by decide) kk_) ?_
    have K200 := Keep.refl h0 []
    have K201 := K200.trans K1 all0
    have K202 := K201.trans K7 all0
    have K203 := K202.trans K14 all0
    have K204 := K203.trans K21 all0
    have K205 := K204.ext E28
    have K206 := K205.ext E38
    have K207 := K206.ext E42
    have K208 := K207.trans K46 (allS (Or.inr (Nat.le_trans (Nat.le_trans (Nat.le_trans (Nat.le_trans z5 z12) z19) z26) (Nat.le_of_eq g28.symm))) all0)
    have K209 := K208.trans K157 all0
    have K210 := K209.trans K164 all0
    exact Wp.retW X172 hlk hS164 (by rw [e172]; exact (Nat.le_refl _)) (v := (some (.int (1 : Int32)))) (fun h => by rw [Bd.returns] at h; cases h) (fun fs hr => retN (z := (1 : Int32)) X172 hx (t := .boolean) Bd.returns (by simp) (hb hby at_159) hr) (by decide) (by decide) (show Q_rm0 Z x1 x2 x3 x4 x5 zcs h0 n0 _ T172.heap _ by rw [e172]; exact ⟨rfl, N172, K210⟩)
  refine Wp.st (S' := T46.setTop (mkF m 82 #[.val (.int x1), .val (.int x2), .val (.int x3), .val (.int x4), .val (.int x5), .val (.int lr), .val (.int lq), .val (.int lp), .val (.int ls), .val (.ref b2), .val (.ref b9), .val (.ref b16), .val (.ref b23), .val (.ref b28), .unset, .unset, .unset] [(.int x1)])) (fun tt_ kk_ => XS.iloadN X46.here hx rfl (hb hby at_81) rfl  kk_) ?_
  refine Wp.st (S' := T46.setTop (mkF m 84 #[.val (.int x1), .val (.int x2), .val (.int x3), .val (.int x4), .val (.int x5), .val (.int lr), .val (.int lq), .val (.int lp), .val (.int ls), .val (.ref b2), .val (.ref b9), .val (.ref b16), .val (.ref b23), .val (.ref b28), .unset, .unset, .unset] [(.int lr), (.int x1)])) (fun tt_ kk_ => XS.iload X46.here hx rfl (hb hby at_82) rfl  kk_) ?_
  refine Wp.st (S' := T46.setTop (mkF m 85 #[.val (.int x1), .val (.int x2), .val (.int x3), .val (.int x4), .val (.int x5), .val (.int lr), .val (.int lq), .val (.int lp), .val (.int ls), .val (.ref b2), .val (.ref b9), .val (.ref b16), .val (.ref b23), .val (.ref b28), .unset, .unset, .unset] [(.int x2), (.int lr), (.int x1)])) (fun tt_ kk_ => XS.iloadN X46.here hx rfl (hb hby at_84) rfl  kk_) ?_
  refine Wp.st (S' := T46.setTop (mkF m 87 #[.val (.int x1), .val (.int x2), .val (.int x3), .val (.int x4), .val (.int x5), .val (.int lr), .val (.int lq), .val (.int lp), .val (.int ls), .val (.ref b2), .val (.ref b9), .val (.ref b16), .val (.ref b23), .val (.ref b28), .unset, .unset, .unset] [(.int lq), (.int x2), (.int lr), (.int x1)])) (fun tt_ kk_ => XS.iload X46.here hx rfl (hb hby at_85) rfl  kk_) ?_
  obtain ⟨vv211, _, ⟨T211, L211, k211, n211⟩, -, X211, ⟨Lc211, hQ211, l211, y211, z211⟩, st211⟩ := Jvm.LawKit.callS X46 hx (y := (⟨"com/example/clients_by_rule/clientsbyrule/profile/SuppressionCoversPinLaw", "same", "(IIII)Z"⟩ : MethodName)) how42 (mvT hZ42 (hw _ (List.mem_of_getElem? (i := 45) rfl))) (mvT hZ42 (hw _ (List.mem_of_getElem? (i := 46) rfl))) (mvT hZ42 (hw _ (List.mem_of_getElem? (i := 2) rfl))) (mvT hZ42 (hw _ (List.mem_of_getElem? (i := 47) rfl))) (by decide) (backOf (W := 0) (rm6 l Z a0 hw [] x1 lr x2 lq T46.heap n0 (Nat.le_trans Z0 (Nat.le_trans (Nat.le_trans (Nat.le_trans (Nat.le_trans (Nat.le_trans (Nat.le_trans (Nat.le_trans z5 z12) z19) z26) z29) z39) z43) z59)) ((by assumption) : lr = (0 : Int32) ∨ lr = (1 : Int32) ∨ lr = (2 : Int32) ∨ lr = (3 : Int32)) ((by assumption) : lq = (0 : Int32) ∨ lq = (1 : Int32) ∨ lq = (2 : Int32) ∨ lq = (3 : Int32))) hZ42 (hw _ (List.mem_of_getElem? (i := 47) rfl)) (hw _ (List.mem_of_getElem? (i := 2) rfl)) (by decide) (by decide)) (g := (mkF m 87 #[.val (.int x1), .val (.int x2), .val (.int x3), .val (.int x4), .val (.int x5), .val (.int lr), .val (.int lq), .val (.int lp), .val (.int ls), .val (.ref b2), .val (.ref b9), .val (.ref b16), .val (.ref b23), .val (.ref b28), .unset, .unset, .unset] [(.int lq), (.int x2), (.int lr), (.int x1)])) rfl (by rw [hml]; rfl) (argsL := [(.int x1), (.int lr), (.int x2), (.int lq)]) (rest := []) (lenOf pd_6 rfl) rfl (by show 2 * 0 + _ ≤ _; exact Nat.le_of_eq rfl) (hb hby at_87) (fun _ _ => ⟨rfl, e46, (by decide : 29 + 0 ≤ _), (by decide : 137 + 0 ≤ _)⟩)
  dsimp only [Pt.U, Pt.locs, Pt.cells, Pt.slots] at X211 l211 y211 z211 st211 hQ211
  subst l211 y211 z211
  obtain ⟨rfl, Nq211, e211⟩ := hQ211
  have N211 := Fr.app N46 Nq211
  refine Wp.st (S' := T211.setTop (mkF m 90 #[.val (.int x1), .val (.int x2), .val (.int x3), .val (.int x4), .val (.int x5), .val (.int lr), .val (.int lq), .val (.int lp), .val (.int ls), .val (.ref b2), .val (.ref b9), .val (.ref b16), .val (.ref b23), .val (.ref b28), .unset, .unset, .unset] [(.int (if own_cs x1 lr = own_cs x2 lq then (1 : Int32) else (0 : Int32)))])) st211 ?_
  by_cases hA : own_cs x1 lr = own_cs x2 lq
  case pos =>
    rw [(if_pos hA : (if own_cs x1 lr = own_cs x2 lq then (1 : Int32) else (0 : Int32)) = (1 : Int32))]
    refine Wp.st (S' := T211.setTop (mkF m 93 #[.val (.int x1), .val (.int x2), .val (.int x3), .val (.int x4), .val (.int x5), .val (.int lr), .val (.int lq), .val (.int lp), .val (.int ls), .val (.ref b2), .val (.ref b9), .val (.ref b16), .val (.ref b23), .val (.ref b28), .unset, .unset, .unset] [])) (fun tt_ kk_ => XS.ifNo X211.here hx rfl (hb hby at_90) rfl ((if0 _ _).trans (feq ((by decide) : ¬ ((1 : Int32) = (0 : Int32)))).1) kk_) ?_
    refine Wp.st (S' := T211.setTop (mkF m 94 #[.val (.int x1), .val (.int x2), .val (.int x3), .val (.int x4), .val (.int x5), .val (.int lr), .val (.int lq), .val (.int lp), .val (.int ls), .val (.ref b2), .val (.ref b9), .val (.ref b16), .val (.ref b23), .val (.ref b28), .unset, .unset, .unset] [(.int x3)])) (fun tt_ kk_ => XS.iloadN X211.here hx rfl (hb hby at_93) rfl  kk_) ?_
    refine Wp.st (S' := T211.setTop (mkF m 96 #[.val (.int x1), .val (.int x2), .val (.int x3), .val (.int x4), .val (.int x5), .val (.int lr), .val (.int lq), .val (.int lp), .val (.int ls), .val (.ref b2), .val (.ref b9), .val (.ref b16), .val (.ref b23), .val (.ref b28), .unset, .unset, .unset] [(.int lp), (.int x3)])) (fun tt_ kk_ => XS.iload X211.here hx rfl (hb hby at_94) rfl  kk_) ?_
    refine Wp.st (S' := T211.setTop (mkF m 97 #[.val (.int x1), .val (.int x2), .val (.int x3), .val (.int x4), .val (.int x5), .val (.int lr), .val (.int lq), .val (.int lp), .val (.int ls), .val (.ref b2), .val (.ref b9), .val (.ref b16), .val (.ref b23), .val (.ref b28), .unset, .unset, .unset] [(.int x4), (.int lp), (.int x3)])) (fun tt_ kk_ => XS.iloadN X211.here hx rfl (hb hby at_96) rfl  kk_) ?_
    refine Wp.st (S' := T211.setTop (mkF m 99 #[.val (.int x1), .val (.int x2), .val (.int x3), .val (.int x4), .val (.int x5), .val (.int lr), .val (.int lq), .val (.int lp), .val (.int ls), .val (.ref b2), .val (.ref b9), .val (.ref b16), .val (.ref b23), .val (.ref b28), .unset, .unset, .unset] [(.int ls), (.int x4), (.int lp), (.int x3)])) (fun tt_ kk_ => XS.iload X211.here hx rfl (hb hby at_97) rfl  kk_) ?_
    obtain ⟨vv212, _, ⟨T212, L212, k212, n212⟩, -, X212, ⟨Lc212, hQ212, l212, y212, z212⟩, st212⟩ := Jvm.LawKit.callS X211 hx (y := (⟨"com/example/clients_by_rule/clientsbyrule/profile/SuppressionCoversPinLaw", "same", "(IIII)Z"⟩ : MethodName)) how42 (mvT hZ42 (hw _ (List.mem_of_getElem? (i := 45) rfl))) (mvT hZ42 (hw _ (List.mem_of_getElem? (i := 46) rfl))) (mvT hZ42 (hw _ (List.mem_of_getElem? (i := 2) rfl))) (mvT hZ42 (hw _ (List.mem_of_getElem? (i := 47) rfl))) (by decide) (backOf (W := 0) (rm6 l Z a0 hw [] x3 lp x4 ls T46.heap n0 (Nat.le_trans Z0 (Nat.le_trans (Nat.le_trans (Nat.le_trans (Nat.le_trans (Nat.le_trans (Nat.le_trans (Nat.le_trans z5 z12) z19) z26) z29) z39) z43) z59)) ((by assumption) : lp = (0 : Int32) ∨ lp = (1 : Int32) ∨ lp = (2 : Int32) ∨ lp = (3 : Int32)) ((by assumption) : ls = (0 : Int32) ∨ ls = (1 : Int32) ∨ ls = (2 : Int32) ∨ ls = (3 : Int32))) hZ42 (hw _ (List.mem_of_getElem? (i := 47) rfl)) (hw _ (List.mem_of_getElem? (i := 2) rfl)) (by decide) (by decide)) (g := (mkF m 99 #[.val (.int x1), .val (.int x2), .val (.int x3), .val (.int x4), .val (.int x5), .val (.int lr), .val (.int lq), .val (.int lp), .val (.int ls), .val (.ref b2), .val (.ref b9), .val (.ref b16), .val (.ref b23), .val (.ref b28), .unset, .unset, .unset] [(.int ls), (.int x4), (.int lp), (.int x3)])) rfl (by rw [hml]; rfl) (argsL := [(.int x3), (.int lp), (.int x4), (.int ls)]) (rest := []) (lenOf pd_6 rfl) rfl (by show 2 * 0 + _ ≤ _; exact Nat.le_of_eq rfl) (hb hby at_99) (fun _ _ => ⟨rfl, e211, (by decide : 29 + 0 ≤ _), (by decide : 137 + 0 ≤ _)⟩)
    dsimp only [Pt.U, Pt.locs, Pt.cells, Pt.slots] at X212 l212 y212 z212 st212 hQ212
    subst l212 y212 z212
    obtain ⟨rfl, Nq212, e212⟩ := hQ212
    have N212 := Fr.app N211 Nq212
    refine Wp.st (S' := T212.setTop (mkF m 102 #[.val (.int x1), .val (.int x2), .val (.int x3), .val (.int x4), .val (.int x5), .val (.int lr), .val (.int lq), .val (.int lp), .val (.int ls), .val (.ref b2), .val (.ref b9), .val (.ref b16), .val (.ref b23), .val (.ref b28), .unset, .unset, .unset] [(.int (if own_cs x3 lp = own_cs x4 ls then (1 : Int32) else (0 : Int32)))])) st212 ?_
    by_cases hB : own_cs x3 lp = own_cs x4 ls
    case pos =>
      rw [(if_pos hB : (if own_cs x3 lp = own_cs x4 ls then (1 : Int32) else (0 : Int32)) = (1 : Int32))]
      refine Wp.st (S' := T212.setTop (mkF m 105 #[.val (.int x1), .val (.int x2), .val (.int x3), .val (.int x4), .val (.int x5), .val (.int lr), .val (.int lq), .val (.int lp), .val (.int ls), .val (.ref b2), .val (.ref b9), .val (.ref b16), .val (.ref b23), .val (.ref b28), .unset, .unset, .unset] [])) (fun tt_ kk_ => XS.ifNo X212.here hx rfl (hb hby at_102) rfl ((if0 _ _).trans (feq ((by decide) : ¬ ((1 : Int32) = (0 : Int32)))).1) kk_) ?_
      refine Wp.st (S' := T212.setTop (mkF m 106 #[.val (.int x1), .val (.int x2), .val (.int x3), .val (.int x4), .val (.int x5), .val (.int lr), .val (.int lq), .val (.int lp), .val (.int ls), .val (.ref b2), .val (.ref b9), .val (.ref b16), .val (.ref b23), .val (.ref b28), .unset, .unset, .unset] [(.int (1 : Int32))])) (fun tt_ kk_ => XS.iconst X212.here hx rfl (hb hby at_105) kk_) ?_
      refine Wp.st (S' := T212.setTop (mkF m 110 #[.val (.int x1), .val (.int x2), .val (.int x3), .val (.int x4), .val (.int x5), .val (.int lr), .val (.int lq), .val (.int lp), .val (.int ls), .val (.ref b2), .val (.ref b9), .val (.ref b16), .val (.ref b23), .val (.ref b28), .unset, .unset, .unset] [(.int (1 : Int32))])) (fun tt_ kk_ => XS.goto X212.here hx rfl (pc0 := 106) (pc' := 110) rfl (hb hby at_106) (by decide) (by decide) kk_) ?_
      exact J62 _ _ (1 : Int32) N212 X212 e212 (by rw [if_pos ⟨hA, hB⟩])
    case neg =>
      rw [(if_neg hB : (if own_cs x3 lp = own_cs x4 ls then (1 : Int32) else (0 : Int32)) = (0 : Int32))]
      refine Wp.st (S' := T212.setTop (mkF m 109 #[.val (.int x1), .val (.int x2), .val (.int x3), .val (.int x4), .val (.int x5), .val (.int lr), .val (.int lq), .val (.int lp), .val (.int ls), .val (.ref b2), .val (.ref b9), .val (.ref b16), .val (.ref b23), .val (.ref b28), .unset, .unset, .unset] [])) (fun tt_ kk_ => XS.ifYes X212.here hx rfl (pc0 := 102) (pc' := 109) rfl (hb hby at_102) rfl ((if0 _ _).trans (teq ((by decide) : (0 : Int32) = (0 : Int32))).1) (by decide) (by decide) kk_) ?_
      refine Wp.st (S' := T212.setTop (mkF m 110 #[.val (.int x1), .val (.int x2), .val (.int x3), .val (.int x4), .val (.int x5), .val (.int lr), .val (.int lq), .val (.int lp), .val (.int ls), .val (.ref b2), .val (.ref b9), .val (.ref b16), .val (.ref b23), .val (.ref b28), .unset, .unset, .unset] [(.int (0 : Int32))])) (fun tt_ kk_ => XS.iconst X212.here hx rfl (hb hby at_109) kk_) ?_
      exact J62 _ _ (0 : Int32) N212 X212 e212 (by rw [if_neg (fun z => hB z.2)])
  case neg =>
    rw [(if_neg hA : (if own_cs x1 lr = own_cs x2 lq then (1 : Int32) else (0 : Int32)) = (0 : Int32))]
    refine Wp.st (S' := T211.setTop (mkF m 109 #[.val (.int x1), .val (.int x2), .val (.int x3), .val (.int x4), .val (.int x5), .val (.int lr), .val (.int lq), .val (.int lp), .val (.int ls), .val (.ref b2), .val (.ref b9), .val (.ref b16), .val (.ref b23), .val (.ref b28), .unset, .unset, .unset] [])) (fun tt_ kk_ => XS.ifYes X211.here hx rfl (pc0 := 90) (pc' := 109) rfl (hb hby at_90) rfl ((if0 _ _).trans (teq ((by decide) : (0 : Int32) = (0 : Int32))).1) (by decide) (by decide) kk_) ?_
    refine Wp.st (S' := T211.setTop (mkF m 110 #[.val (.int x1), .val (.int x2), .val (.int x3), .val (.int x4), .val (.int x5), .val (.int lr), .val (.int lq), .val (.int lp), .val (.int ls), .val (.ref b2), .val (.ref b9), .val (.ref b16), .val (.ref b23), .val (.ref b28), .unset, .unset, .unset] [(.int (0 : Int32))])) (fun tt_ kk_ => XS.iconst X211.here hx rfl (hb hby at_109) kk_) ?_
    exact J62 _ _ (0 : Int32) N211 X211 e211 (by rw [if_neg (fun z => hA z.1)])
set_option maxRecDepth 65536 in
set_option maxHeartbeats 40000000 in
theorem comes_1 {Post : Tables → Env → Array Value → State → Outcome → State → Prop} (hpost : ∀ tb e args s v u, (limb_1_1.after args s (.returned v) u = true ∧ limb_1_2.after args s (.returned v) u = true ∧ True) → ReturnedEndW s (.returned v) u (Jvm.fieldLocs frame_1_writes args s ++ Jvm.arrayLocs frame_1_arrays args s ++ Jvm.staticLocs frame_1_statics s) 56 3328 → Post tb e args s (.returned v) u) :
    ArmFor flags0 classFile x code maxLocals ret World_1 tables_1 room_1 Calls_1 rest_1 Pre_1 Post := by
  intro l hfl _ _ p e ha hc hk s m args below hf hA hF happ hP
  obtain ⟨hcalls, hrest, hpre⟩ := hP
  obtain ⟨-, -, -, hnamed, -, -, -, hat⟩ := (Spec.applies_iff hf).mp happ
  obtain ⟨hg, hn⟩ := and_e (Cond.before_iff.mp (show (Jvm.Cond.and given_1 narrow_1).before args s = true from hpre))
  obtain ⟨q1, q2⟩ := and_e hg
  obtain ⟨w0, w1, w2, w3, w4, rfl⟩ : ∃ w0 w1 w2 w3 w4 : Value, args = #[w0, w1, w2, w3, w4] := by
    have hs : args.size = 5 := by simpa [Cond.value, given_1] using q1
    obtain ⟨L⟩ := args
    match L, hs with
    | [w0, w1, w2, w3, w4], _ => exact ⟨w0, w1, w2, w3, w4, rfl⟩
  obtain ⟨q3, q4⟩ := and_e q2
  obtain ⟨q5, q6⟩ := and_e q4
  obtain ⟨q7, q8⟩ := and_e q6
  obtain ⟨q9, q10⟩ := and_e q8
  have hw := fun d (hd : d ∈ tables_1) => atoms_spec (ws := Jvm.Cond.code x code maxLocals ret :: tables_1) hat d (List.mem_cons_of_mem _ hd)
  have hfit : Fit s := fun {y c} hc i hi => by
    obtain ⟨ha, rfl⟩ := Array.getElem?_eq_some_iff.mp hc
    have q := List.all_eq_true.mp ((Array.all_eq_true_iff_forall_mem.mp hF) _ (Array.getElem_mem ha)) i (List.mem_range.mpr hi)
    simpa [Array.getElem?_eq_getElem hi] using q
  obtain ⟨hsets, hown0⟩ := atoms_of _ (rest_1_c_eq ▸ (show rest_1_c.before _ s = true from hrest))
  have hr0 := Cond.before_iff.mp hown0
  obtain ⟨zcs, evcs⟩ := is_v (Cond.before_iff.mp (hsets _ (List.mem_of_getElem? (i := 1) rfl)))
  have SCompact := Sta.start evcs (Or.inl (hsets _ (List.mem_of_getElem? (i := 0) rfl)))
  have hCS := gotF (Cond.eq_ints evcs (Term.int_eval (0))) (not_v (Cond.before_iff.mp (hsets _ (List.mem_of_getElem? (i := 2) rfl))))
  have CH0 : CHv s own_EL s.vm s.heap := CHv.start (own_EW hw) (fun p hp => hcalls.1 p ((by decide : ∀ p ∈ own_EL, p ∈ consts_1) p hp)) (hsets _ (List.mem_of_getElem? (i := 2) rfl)) (hw _ (List.mem_of_getElem? (i := 19) rfl)) (hw _ (List.mem_of_getElem? (i := 6) rfl))
  obtain ⟨i0, ei0⟩ := is_v q3
  obtain rfl : w0 = (.int i0) := Option.some.inj ei0
  obtain ⟨i1, ei1⟩ := is_v q5
  obtain rfl : w1 = (.int i1) := Option.some.inj ei1
  obtain ⟨i2, ei2⟩ := is_v q7
  obtain rfl : w2 = (.int i2) := Option.some.inj ei2
  obtain ⟨i3, ei3⟩ := is_v q9
  obtain rfl : w3 = (.int i3) := Option.some.inj ei3
  obtain ⟨i4, ei4⟩ := is_v q10
  obtain rfl : w4 = (.int i4) := Option.some.inj ei4
  obtain ⟨n, o, h1, h2, h3, _, L, rfl, ⟨rfl, N, -⟩, hq⟩ := rm0 l s _ hw tables_1 i0 i1 i2 i3 i4 zcs s.heap s.heap.size (Nat.le_refl _) (Old.start s) SCompact hCS p e ha hc hk s m _ below hf ((Spec.applies_iff_loose hf).mp happ).1 ⟨rfl, State.Warmed39.refl s, rfl, CH0⟩ trivial
  refine ⟨n, _, h1, h2, h3, hpost _ _ _ _ _ _ ⟨Cond.after_iff.mpr rfl, Cond.after_iff.mpr (eq_i res_at (Term.int_eval (1)) rfl), trivial⟩ ⟨hq.1, hq.2.1, hq.2.2.1, (hq.2.2.2.sift fun y hy => Or.inr (N y hy)).mono (by decide) (by decide)⟩⟩
theorem main_1_1 : Claimed_1_1 := comes_1 fun _ _ _ _ _ _ h hF => ⟨h.1, hF⟩
theorem main_1_2 : Claimed_1_2 := comes_1 fun _ _ _ _ _ _ h hF => ⟨h.2.1, hF⟩
end Jvm.Pilot.@@N@@
namespace Jvm.Pilot.@@N@@
open Jvm Jvm.ClassFile Sem Op Lib Jvm.Free Jvm.Stand Jvm.Pilot.@@N@@.Jvm.D
/-! MADE BY PROGRAM (witnessworld.py) out of the Statement's table words and the real class files: 20 classes; the members and pool entries that the words name. The judged class is class 1, her method 3. -/
namespace start1
open Jvm.ClassFile
def u (s : String) : CpInfo := .utf8 (stringToUtf16 s)
/-- a pool by its gaps: so many unusable entries, then the entry; so many at the end -/
def gap : Nat → List CpInfo → List CpInfo
  | 0, r => r
  | n + 1, r => .unusable :: gap n r
def poolList (es : List (Nat × CpInfo)) (last : Nat) : List CpInfo := es.foldr (fun e r => gap e.1 (e.2 :: r)) (gap last [])
def pool (es : List (Nat × CpInfo)) (last : Nat) : Array CpInfo := ⟨poolList es last⟩
def fileOf (pool : Array CpInfo) (this : Nat) (attrs : Array Attribute := #[]) (ms : Array MethodInfo := #[]) (fl : Nat := 33) (sup : Nat := 0) (ifs : Array Nat := #[]) (fds : Array FieldInfo := #[]) : ClassFile where
  minorVersion := 0
  majorVersion := 65
  constantPool := pool
  accessFlags := fl
  thisClass := this
  superClass := sup
  interfaces := ifs
  fields := fds
  methods := ms
  attributes := attrs
def plain (name : String) (sup : Option ClassId) : Class where
  name := name
  kind := .ordinary
  loader := none
  accessFlags := 33
  super := sup
  interfaces := #[]
  cf := none
  fields := #[]
  methods := #[]
  instanceTypes := #[]
  staticTypes := #[]
  resolved := #[]
  callSites := []
  init := .initialized
  statics := none
  mirror := none

def pool0 : Array CpInfo := pool [(5, u "<init>"), (0, u "()V"), (1, .class_ 10), (1, u "java/lang/Object")] 113

def k0c0 : Code := { maxStack := 0, maxLocals := 1, code := object_method_1_code, exceptionTable := #[], attributes := #[] }
def k0m0 : Method := { name := "<init>", desc := "()V", sig := { parameters := [], returnType := none }, accessFlags := 1, code := some k0c0 }
/-- java/lang/Object -/
def k0 : Class := { plain "java/lang/Object" none with
  accessFlags := 33
  interfaces := #[]
  cf := some (fileOf pool0 8 #[] #[{ accessFlags := 1, nameIndex := 5, descriptorIndex := 6, attributes := #[] }] 33 0 #[] #[])
  fields := #[]
  methods := #[k0m0]
  instanceTypes := #[]
  staticTypes := #[]
  resolved := Array.replicate 124 none
  statics := none }

def pool1 : Array CpInfo := pool [(2, .class_ 4), (1, u "java/lang/Object"), (0, u "<init>"), (0, u "()V"), (0, .class_ 8), (0, u "java/lang/String"), (0, .methodref 7 10), (0, .nameAndType 5 11), (0, u "([C)V"), (0, .methodref 13 14), (0, .class_ 15), (0, .nameAndType 16 17), (0, u "com/example/clients_by_rule/clientsbyrule/profile/SuppressionCoversPinLaw"), (0, u "mk"), (0, u "(II)Ljava/lang/String;"), (0, .class_ 19), (0, u "com/example/clients_by_rule/clientsbyrule/profile/Suppression"), (0, .string 21), (0, u "suppressions[0]"), (0, .string 23), (0, u "kept"), (0, .methodref 18 25), (0, .nameAndType 5 26), (0, u "(ILjava/lang/String;Ljava/lang/String;Ljava/lang/String;Ljava/lang/String;)V"), (0, .methodref 13 28), (0, .nameAndType 29 30), (0, u "same"), (0, u "(IIII)Z"), (0, .methodref 18 32), (0, .nameAndType 33 34), (0, u "covers"), (0, u "(Ljava/lang/String;Ljava/lang/String;)Z"), (5, u "law"), (0, u "(IIIII)Z")] 2

def k1m0 : Method := { name := "<init>", desc := "()V", sig := { parameters := [], returnType := none }, accessFlags := 1, code := none }
def k1c1 : Code := { maxStack := 4, maxLocals := 3, code := method_2_code, exceptionTable := #[], attributes := #[] }
def k1m1 : Method := { name := "mk", desc := "(II)Ljava/lang/String;", sig := { parameters := [.int, .int], returnType := some (.object "java/lang/String") }, accessFlags := 10, code := some k1c1 }
def k1c2 : Code := { maxStack := 3, maxLocals := 4, code := method_3_code, exceptionTable := #[], attributes := #[] }
def k1m2 : Method := { name := "same", desc := "(IIII)Z", sig := { parameters := [.int, .int, .int, .int], returnType := some .boolean }, accessFlags := 10, code := some k1c2 }
def k1c3 : Code := { maxStack := 7, maxLocals := 17, code := code, exceptionTable := #[], attributes := #[] }
def k1m3 : Method := { name := "law", desc := "(IIIII)Z", sig := { parameters := [.int, .int, .int, .int, .int], returnType := some .boolean }, accessFlags := 9, code := some k1c3 }
/-- com/example/clients_by_rule/clientsbyrule/profile/SuppressionCoversPinLaw -/
def k1 : Class := { plain "com/example/clients_by_rule/clientsbyrule/profile/SuppressionCoversPinLaw" (some 0) with
  accessFlags := 49
  interfaces := #[]
  cf := some (fileOf pool1 13 #[] #[{ accessFlags := 1, nameIndex := 5, descriptorIndex := 6, attributes := #[] }, { accessFlags := 10, nameIndex := 16, descriptorIndex := 17, attributes := #[] }, { accessFlags := 10, nameIndex := 29, descriptorIndex := 30, attributes := #[] }, { accessFlags := 9, nameIndex := 40, descriptorIndex := 41, attributes := #[] }] 49 2 #[] #[])
  fields := #[]
  methods := #[k1m0, k1m1, k1m2, k1m3]
  instanceTypes := #[]
  staticTypes := #[]
  resolved := Array.replicate 44 none
  statics := none }

def pool2 : Array CpInfo := pool [(1, .class_ 2), (0, u "java/io/Serializable"), (0, .class_ 4), (0, u "java/lang/Object")] 2

/-- java/io/Serializable -/
def k2 : Class := { plain "java/io/Serializable" (some 0) with
  accessFlags := 1537
  interfaces := #[]
  cf := some (fileOf pool2 1 #[] #[] 1537 3 #[] #[])
  fields := #[]
  methods := #[]
  instanceTypes := #[]
  staticTypes := #[]
  resolved := Array.replicate 7 none
  statics := none }

def pool3 : Array CpInfo := pool [(1, .class_ 2), (0, u "java/lang/Comparable"), (0, .class_ 4), (0, u "java/lang/Object")] 7

/-- java/lang/Comparable -/
def k3 : Class := { plain "java/lang/Comparable" (some 0) with
  accessFlags := 1537
  interfaces := #[]
  cf := some (fileOf pool3 1 #[] #[] 1537 3 #[] #[])
  fields := #[]
  methods := #[]
  instanceTypes := #[]
  staticTypes := #[]
  resolved := Array.replicate 12 none
  statics := none }

def pool4 : Array CpInfo := pool [(2, .class_ 4), (1, u "java/lang/CharSequence"), (42, .class_ 48), (0, u "java/lang/CharSequence$1CodePointIterator"), (10, .class_ 60), (0, u "java/lang/CharSequence$1CharIterator"), (5, .class_ 67), (0, u "java/lang/Object")] 63

/-- java/lang/CharSequence -/
def k4 : Class := { plain "java/lang/CharSequence" (some 0) with
  accessFlags := 1537
  interfaces := #[]
  cf := some (fileOf pool4 2 #[.nestMembers #[47, 59]] #[] 1537 66 #[] #[])
  fields := #[]
  methods := #[]
  instanceTypes := #[]
  staticTypes := #[]
  resolved := Array.replicate 131 none
  statics := none }

def pool5 : Array CpInfo := pool [(1, .class_ 2), (0, u "java/lang/constant/Constable"), (0, .class_ 4), (0, u "java/lang/Object")] 6

/-- java/lang/constant/Constable -/
def k5 : Class := { plain "java/lang/constant/Constable" (some 0) with
  accessFlags := 1537
  interfaces := #[]
  cf := some (fileOf pool5 1 #[] #[] 1537 3 #[] #[])
  fields := #[]
  methods := #[]
  instanceTypes := #[]
  staticTypes := #[]
  resolved := Array.replicate 11 none
  statics := none }

def pool6 : Array CpInfo := pool [(1, .class_ 2), (0, u "java/lang/constant/ConstantDesc"), (0, .class_ 4), (0, u "java/lang/Object")] 32

/-- java/lang/constant/ConstantDesc -/
def k6 : Class := { plain "java/lang/constant/ConstantDesc" (some 0) with
  accessFlags := 1537
  interfaces := #[]
  cf := some (fileOf pool6 1 #[] #[] 1537 3 #[] #[])
  fields := #[]
  methods := #[]
  instanceTypes := #[]
  staticTypes := #[]
  resolved := Array.replicate 37 none
  statics := none }

def pool7 : Array CpInfo := pool [(1, .methodref 2 3), (0, .class_ 4), (0, .nameAndType 5 6), (0, u "java/lang/Object"), (0, u "<init>"), (0, u "()V"), (0, .string 8), (0, u ""), (0, .fieldref 10 11), (0, .class_ 12), (0, .nameAndType 13 14), (0, u "java/lang/String"), (0, u "value"), (0, u "[B"), (0, .fieldref 10 16), (0, .nameAndType 17 18), (0, u "coder"), (0, u "B"), (2, u "hash"), (0, u "I"), (2, u "hashIsZero"), (0, u "Z"), (0, .methodref 10 28), (0, .nameAndType 5 29), (0, u "([CIILjava/lang/Void;)V"), (8, .fieldref 10 39), (0, .nameAndType 40 26), (0, u "COMPACT_STRINGS"), (1, .class_ 44), (1, u "java/lang/StringUTF16"), (0, u "compress"), (1, .methodref 42 48), (0, .nameAndType 49 50), (0, u "coderFromArrayLen"), (0, u "([BI)B"), (56, .class_ 109), (1, u "java/lang/StringLatin1"), (67, .methodref 42 178), (0, .nameAndType 45 179), (0, u "([CII)[B"), (361, .methodref 107 542), (0, .nameAndType 543 544), (0, u "equals"), (0, u "([B[B)Z"), (28, u "(Ljava/lang/Object;)Z"), (1, .class_ 576), (0, u "java/lang/CharSequence"), (22, u "CASE_INSENSITIVE_ORDER"), (0, u "Ljava/util/Comparator;"), (409, u "([C)V"), (90, u "serialPersistentFields"), (0, u "[Ljava/io/ObjectStreamField;"), (0, .class_ 1104), (0, u "java/lang/String$CaseInsensitiveComparator"), (1, .class_ 1107), (0, u "java/io/Serializable"), (0, .class_ 1109), (0, u "java/lang/Comparable"), (0, .class_ 1111), (0, u "java/lang/constant/Constable"), (0, .class_ 1113), (0, u "java/lang/constant/ConstantDesc"), (2, u "serialVersionUID"), (0, u "J"), (3, u "REPL"), (0, u "C"), (2, u "LATIN1"), (1, u "UTF16")] 323

def k7m0 : Method := { name := "<init>", desc := "()V", sig := { parameters := [], returnType := none }, accessFlags := 1, code := none }
def k7c1 : Code := { maxStack := 5, maxLocals := 2, code := jdk_42_method_3_code, exceptionTable := #[], attributes := #[] }
def k7m1 : Method := { name := "<init>", desc := "([C)V", sig := { parameters := [(.array .char)], returnType := none }, accessFlags := 1, code := some k7c1 }
def k7c2 : Code := { maxStack := 2, maxLocals := 3, code := jdk_42_method_66_code, exceptionTable := #[], attributes := #[] }
def k7m2 : Method := { name := "equals", desc := "(Ljava/lang/Object;)Z", sig := { parameters := [(.object "java/lang/Object")], returnType := some .boolean }, accessFlags := 1, code := some k7c2 }
def k7c3 : Code := { maxStack := 4, maxLocals := 6, code := jdk_42_method_149_code, exceptionTable := #[], attributes := #[] }
def k7m3 : Method := { name := "<init>", desc := "([CIILjava/lang/Void;)V", sig := { parameters := [(.array .char), .int, .int, (.object "java/lang/Void")], returnType := none }, accessFlags := 2, code := some k7c3 }
/-- java/lang/String -/
def k7 : Class := { plain "java/lang/String" (some 0) with
  accessFlags := 49
  interfaces := #[2, 3, 4, 5, 6]
  cf := some (fileOf pool7 10 #[.nestMembers #[1103]] #[{ accessFlags := 1, nameIndex := 5, descriptorIndex := 6, attributes := #[] }, { accessFlags := 1, nameIndex := 5, descriptorIndex := 1010, attributes := #[] }, { accessFlags := 1, nameIndex := 543, descriptorIndex := 573, attributes := #[] }, { accessFlags := 2, nameIndex := 5, descriptorIndex := 29, attributes := #[] }] 49 2 #[1106, 1108, 575, 1110, 1112] #[{ accessFlags := 18, nameIndex := 13, descriptorIndex := 14, attributes := #[] }, { accessFlags := 18, nameIndex := 17, descriptorIndex := 18, attributes := #[] }, { accessFlags := 2, nameIndex := 21, descriptorIndex := 22, attributes := #[] }, { accessFlags := 2, nameIndex := 25, descriptorIndex := 26, attributes := #[] }, { accessFlags := 26, nameIndex := 1116, descriptorIndex := 1117, attributes := #[] }, { accessFlags := 24, nameIndex := 40, descriptorIndex := 26, attributes := #[] }, { accessFlags := 26, nameIndex := 1101, descriptorIndex := 1102, attributes := #[] }, { accessFlags := 26, nameIndex := 1121, descriptorIndex := 1122, attributes := #[] }, { accessFlags := 25, nameIndex := 599, descriptorIndex := 600, attributes := #[] }, { accessFlags := 24, nameIndex := 1125, descriptorIndex := 18, attributes := #[] }, { accessFlags := 24, nameIndex := 1127, descriptorIndex := 18, attributes := #[] }])
  fields := #[{ name := "value", type := (.array .byte), accessFlags := 18, slot := 0, constantValue := 0 }, { name := "coder", type := .byte, accessFlags := 18, slot := 1, constantValue := 0 }, { name := "hash", type := .int, accessFlags := 2, slot := 2, constantValue := 0 }, { name := "hashIsZero", type := .boolean, accessFlags := 2, slot := 3, constantValue := 0 }, { name := "serialVersionUID", type := .long, accessFlags := 26, slot := 0, constantValue := 0 }, { name := "COMPACT_STRINGS", type := .boolean, accessFlags := 24, slot := 1, constantValue := 0 }, { name := "serialPersistentFields", type := (.array (.object "java/io/ObjectStreamField")), accessFlags := 26, slot := 2, constantValue := 0 }, { name := "REPL", type := .char, accessFlags := 26, slot := 3, constantValue := 0 }, { name := "CASE_INSENSITIVE_ORDER", type := (.object "java/util/Comparator"), accessFlags := 25, slot := 4, constantValue := 0 }, { name := "LATIN1", type := .byte, accessFlags := 24, slot := 5, constantValue := 0 }, { name := "UTF16", type := .byte, accessFlags := 24, slot := 6, constantValue := 0 }]
  methods := #[k7m0, k7m1, k7m2, k7m3]
  instanceTypes := #[(.array .byte), .byte, .int, .boolean]
  staticTypes := #[.long, .boolean, (.array (.object "java/io/ObjectStreamField")), .char, (.object "java/util/Comparator"), .byte, .byte]
  resolved := Array.replicate 1451 none
  statics := some 0 }

def pool8 : Array CpInfo := pool [(1, .methodref 2 3), (0, .class_ 4), (0, .nameAndType 5 6), (0, u "java/lang/Object"), (0, u "<init>"), (0, u "()V"), (0, .fieldref 8 9), (0, .class_ 10), (0, .nameAndType 11 12), (0, u "com/example/clients_by_rule/clientsbyrule/profile/Suppression"), (0, u "index"), (0, u "I"), (0, .fieldref 8 14), (0, .nameAndType 15 16), (0, u "place"), (0, u "Ljava/lang/String;"), (0, .fieldref 8 18), (0, .nameAndType 19 16), (0, u "ruleId"), (0, .fieldref 8 21), (0, .nameAndType 22 16), (0, u "path"), (0, .fieldref 8 24), (0, .nameAndType 25 16), (0, u "reason"), (0, .methodref 27 28), (0, .class_ 29), (0, .nameAndType 30 31), (0, u "java/lang/String"), (0, u "equals"), (0, u "(Ljava/lang/Object;)Z"), (0, u "(ILjava/lang/String;Ljava/lang/String;Ljava/lang/String;Ljava/lang/String;)V"), (4, u "covers"), (0, u "(Ljava/lang/String;Ljava/lang/String;)Z")] 3

def k8c0 : Code := { maxStack := 2, maxLocals := 6, code := prog_20_method_1_code, exceptionTable := #[], attributes := #[] }
def k8m0 : Method := { name := "<init>", desc := "(ILjava/lang/String;Ljava/lang/String;Ljava/lang/String;Ljava/lang/String;)V", sig := { parameters := [.int, (.object "java/lang/String"), (.object "java/lang/String"), (.object "java/lang/String"), (.object "java/lang/String")], returnType := none }, accessFlags := 0, code := some k8c0 }
def k8c1 : Code := { maxStack := 2, maxLocals := 3, code := prog_20_method_7_code, exceptionTable := #[], attributes := #[] }
def k8m1 : Method := { name := "covers", desc := "(Ljava/lang/String;Ljava/lang/String;)Z", sig := { parameters := [(.object "java/lang/String"), (.object "java/lang/String")], returnType := some .boolean }, accessFlags := 1, code := some k8c1 }
/-- com/example/clients_by_rule/clientsbyrule/profile/Suppression -/
def k8 : Class := { plain "com/example/clients_by_rule/clientsbyrule/profile/Suppression" (some 0) with
  accessFlags := 49
  interfaces := #[]
  cf := some (fileOf pool8 8 #[] #[{ accessFlags := 0, nameIndex := 5, descriptorIndex := 32, attributes := #[] }, { accessFlags := 1, nameIndex := 37, descriptorIndex := 38, attributes := #[] }] 49 2 #[] #[{ accessFlags := 18, nameIndex := 11, descriptorIndex := 12, attributes := #[] }, { accessFlags := 18, nameIndex := 15, descriptorIndex := 16, attributes := #[] }, { accessFlags := 18, nameIndex := 19, descriptorIndex := 16, attributes := #[] }, { accessFlags := 18, nameIndex := 22, descriptorIndex := 16, attributes := #[] }, { accessFlags := 18, nameIndex := 25, descriptorIndex := 16, attributes := #[] }])
  fields := #[{ name := "index", type := .int, accessFlags := 18, slot := 0, constantValue := 0 }, { name := "place", type := (.object "java/lang/String"), accessFlags := 18, slot := 1, constantValue := 0 }, { name := "ruleId", type := (.object "java/lang/String"), accessFlags := 18, slot := 2, constantValue := 0 }, { name := "path", type := (.object "java/lang/String"), accessFlags := 18, slot := 3, constantValue := 0 }, { name := "reason", type := (.object "java/lang/String"), accessFlags := 18, slot := 4, constantValue := 0 }]
  methods := #[k8m0, k8m1]
  instanceTypes := #[.int, (.object "java/lang/String"), (.object "java/lang/String"), (.object "java/lang/String"), (.object "java/lang/String")]
  staticTypes := #[]
  resolved := Array.replicate 42 none
  statics := none }

def pool9 : Array CpInfo := pool [(4, .class_ 6), (1, u "java/lang/Object"), (0, u "<init>"), (0, u "()V"), (5, .class_ 16), (1, u "java/lang/StringLatin1"), (104, u "$assertionsDisabled"), (0, u "Z"), (98, .class_ 223), (1, u "java/lang/StringLatin1$LinesSpliterator"), (57, u "equals"), (0, u "([B[B)Z"), (107, .class_ 391), (0, u "java/lang/StringLatin1$CharsSpliterator")] 3

def k9m0 : Method := { name := "<init>", desc := "()V", sig := { parameters := [], returnType := none }, accessFlags := 0, code := none }
def k9c1 : Code := { maxStack := 3, maxLocals := 3, code := jdk_43_method_13_code, exceptionTable := #[], attributes := #[] }
def k9m1 : Method := { name := "equals", desc := "([B[B)Z", sig := { parameters := [(.array .byte), (.array .byte)], returnType := some .boolean }, accessFlags := 9, code := some k9c1 }
/-- java/lang/StringLatin1 -/
def k9 : Class := { plain "java/lang/StringLatin1" (some 0) with
  accessFlags := 48
  interfaces := #[]
  cf := some (fileOf pool9 14 #[.nestMembers #[390, 221]] #[{ accessFlags := 0, nameIndex := 7, descriptorIndex := 8, attributes := #[] }, { accessFlags := 9, nameIndex := 281, descriptorIndex := 282, attributes := #[] }] 48 4 #[] #[{ accessFlags := 4120, nameIndex := 121, descriptorIndex := 122, attributes := #[] }])
  fields := #[{ name := "$assertionsDisabled", type := .boolean, accessFlags := 4120, slot := 0, constantValue := 0 }]
  methods := #[k9m0, k9m1]
  instanceTypes := #[]
  staticTypes := #[.boolean]
  resolved := Array.replicate 395 none
  statics := none }

def pool10 : Array CpInfo := pool [(6, .class_ 8), (1, u "java/lang/Object"), (0, u "<init>"), (0, u "()V"), (1, .class_ 14), (1, u "java/lang/StringUTF16"), (31, u "$assertionsDisabled"), (0, u "Z"), (13, u "HI_BYTE_SHIFT"), (0, u "I"), (2, u "LO_BYTE_SHIFT"), (49, .methodref 12 116), (0, .nameAndType 117 118), (0, u "compress"), (0, u "([CI[BII)I"), (3, u "([CII)[B"), (138, u "coderFromArrayLen"), (0, u "([BI)B"), (106, .class_ 371), (1, u "java/lang/StringUTF16$LinesSpliterator"), (58, u "MAX_LENGTH"), (196, .class_ 628), (0, u "java/lang/StringUTF16$CodePointsSpliterator"), (0, .class_ 630), (0, u "java/lang/StringUTF16$CharsSpliterator")] 4

def k10m0 : Method := { name := "<init>", desc := "()V", sig := { parameters := [], returnType := none }, accessFlags := 0, code := none }
def k10c1 : Code := { maxStack := 2, maxLocals := 2, code := jdk_52_method_15_code, exceptionTable := #[], attributes := #[] }
def k10m1 : Method := { name := "coderFromArrayLen", desc := "([BI)B", sig := { parameters := [(.array .byte), .int], returnType := some .byte }, accessFlags := 8, code := some k10c1 }
def k10c2 : Code := { maxStack := 5, maxLocals := 6, code := jdk_52_method_16_code, exceptionTable := #[], attributes := #[] }
def k10m2 : Method := { name := "compress", desc := "([CII)[B", sig := { parameters := [(.array .char), .int, .int], returnType := some (.array .byte) }, accessFlags := 9, code := some k10c2 }
def k10c3 : Code := { maxStack := 3, maxLocals := 7, code := jdk_52_method_21_code, exceptionTable := #[], attributes := #[] }
def k10m3 : Method := { name := "compress", desc := "([CI[BII)I", sig := { parameters := [(.array .char), .int, (.array .byte), .int, .int], returnType := some .int }, accessFlags := 9, code := some k10c3 }
/-- java/lang/StringUTF16 -/
def k10 : Class := { plain "java/lang/StringUTF16" (some 0) with
  accessFlags := 48
  interfaces := #[]
  cf := some (fileOf pool10 12 #[.nestMembers #[627, 629, 369]] #[{ accessFlags := 0, nameIndex := 9, descriptorIndex := 10, attributes := #[] }, { accessFlags := 8, nameIndex := 261, descriptorIndex := 262, attributes := #[] }, { accessFlags := 9, nameIndex := 117, descriptorIndex := 122, attributes := #[] }, { accessFlags := 9, nameIndex := 117, descriptorIndex := 118, attributes := #[] }] 48 6 #[] #[{ accessFlags := 26, nameIndex := 61, descriptorIndex := 62, attributes := #[] }, { accessFlags := 26, nameIndex := 65, descriptorIndex := 62, attributes := #[] }, { accessFlags := 24, nameIndex := 430, descriptorIndex := 62, attributes := #[] }, { accessFlags := 4120, nameIndex := 46, descriptorIndex := 47, attributes := #[] }])
  fields := #[{ name := "HI_BYTE_SHIFT", type := .int, accessFlags := 26, slot := 0, constantValue := 0 }, { name := "LO_BYTE_SHIFT", type := .int, accessFlags := 26, slot := 1, constantValue := 0 }, { name := "MAX_LENGTH", type := .int, accessFlags := 24, slot := 2, constantValue := 0 }, { name := "$assertionsDisabled", type := .boolean, accessFlags := 4120, slot := 3, constantValue := 0 }]
  methods := #[k10m0, k10m1, k10m2, k10m3]
  instanceTypes := #[]
  staticTypes := #[.int, .int, .int, .boolean]
  resolved := Array.replicate 635 none
  statics := none }

def pool11 : Array CpInfo := pool [(2, .class_ 4), (1, u "java/lang/Object"), (0, u "<init>"), (0, u "()V"), (17, .class_ 26), (1, u "jdk/internal/util/Preconditions"), (28, .class_ 56), (0, u "jdk/internal/util/Preconditions$4"), (57, .class_ 115), (0, u "jdk/internal/util/Preconditions$1"), (7, u "SIOOBE_FORMATTER"), (0, u "Ljava/util/function/BiFunction;"), (0, .class_ 126), (0, u "jdk/internal/util/Preconditions$2"), (3, u "AIOOBE_FORMATTER"), (0, .class_ 132), (0, u "jdk/internal/util/Preconditions$3"), (3, u "IOOBE_FORMATTER")] 57

def k11m0 : Method := { name := "<init>", desc := "()V", sig := { parameters := [], returnType := none }, accessFlags := 1, code := none }
/-- jdk/internal/util/Preconditions -/
def k11 : Class := { plain "jdk/internal/util/Preconditions" (some 0) with
  accessFlags := 33
  interfaces := #[]
  cf := some (fileOf pool11 24 #[.nestMembers #[55, 131, 125, 114]] #[{ accessFlags := 1, nameIndex := 5, descriptorIndex := 6, attributes := #[] }] 33 2 #[] #[{ accessFlags := 25, nameIndex := 123, descriptorIndex := 124, attributes := #[] }, { accessFlags := 25, nameIndex := 130, descriptorIndex := 124, attributes := #[] }, { accessFlags := 25, nameIndex := 136, descriptorIndex := 124, attributes := #[] }])
  fields := #[{ name := "SIOOBE_FORMATTER", type := (.object "java/util/function/BiFunction"), accessFlags := 25, slot := 0, constantValue := 0 }, { name := "AIOOBE_FORMATTER", type := (.object "java/util/function/BiFunction"), accessFlags := 25, slot := 1, constantValue := 0 }, { name := "IOOBE_FORMATTER", type := (.object "java/util/function/BiFunction"), accessFlags := 25, slot := 2, constantValue := 0 }]
  methods := #[k11m0]
  instanceTypes := #[]
  staticTypes := #[(.object "java/util/function/BiFunction"), (.object "java/util/function/BiFunction"), (.object "java/util/function/BiFunction")]
  resolved := Array.replicate 194 none
  statics := some 1 }

def pool12 : Array CpInfo := pool [(9, u "<init>"), (6, .class_ 18), (1, u "java/lang/Object"), (0, u "()V"), (1, .class_ 23), (1, u "jdk/internal/util/ArraysSupport"), (0, u "LOG2_ARRAY_LONG_INDEX_SCALE"), (0, u "I"), (2, u "U"), (0, u "Ljdk/internal/misc/Unsafe;"), (8, u "BIG_ENDIAN"), (0, u "Z"), (8, u "LOG2_BYTE_BIT_SIZE"), (4, u "LOG2_ARRAY_INT_INDEX_SCALE"), (54, u "JLA"), (0, u "Ljdk/internal/access/JavaLangAccess;"), (11, u "LOG2_ARRAY_BOOLEAN_INDEX_SCALE"), (9, u "LOG2_ARRAY_BYTE_INDEX_SCALE"), (5, u "LOG2_ARRAY_CHAR_INDEX_SCALE"), (5, u "LOG2_ARRAY_SHORT_INDEX_SCALE"), (18, u "LOG2_ARRAY_FLOAT_INDEX_SCALE"), (24, u "LOG2_ARRAY_DOUBLE_INDEX_SCALE"), (89, u "T_BOOLEAN"), (2, u "T_CHAR"), (1, u "T_FLOAT"), (1, u "T_DOUBLE"), (1, u "T_BYTE"), (1, u "T_SHORT"), (1, u "T_INT"), (1, u "T_LONG"), (1, u "SOFT_MAX_ARRAY_LENGTH")] 83

def k12m0 : Method := { name := "<init>", desc := "()V", sig := { parameters := [], returnType := none }, accessFlags := 2, code := none }
/-- jdk/internal/util/ArraysSupport -/
def k12 : Class := { plain "jdk/internal/util/ArraysSupport" (some 0) with
  accessFlags := 33
  interfaces := #[]
  cf := some (fileOf pool12 21 #[] #[{ accessFlags := 2, nameIndex := 9, descriptorIndex := 19, attributes := #[] }] 33 16 #[] #[{ accessFlags := 24, nameIndex := 28, descriptorIndex := 29, attributes := #[] }, { accessFlags := 26, nameIndex := 38, descriptorIndex := 39, attributes := #[] }, { accessFlags := 25, nameIndex := 121, descriptorIndex := 25, attributes := #[] }, { accessFlags := 25, nameIndex := 131, descriptorIndex := 25, attributes := #[] }, { accessFlags := 25, nameIndex := 137, descriptorIndex := 25, attributes := #[] }, { accessFlags := 25, nameIndex := 143, descriptorIndex := 25, attributes := #[] }, { accessFlags := 25, nameIndex := 53, descriptorIndex := 25, attributes := #[] }, { accessFlags := 25, nameIndex := 24, descriptorIndex := 25, attributes := #[] }, { accessFlags := 25, nameIndex := 162, descriptorIndex := 25, attributes := #[] }, { accessFlags := 25, nameIndex := 187, descriptorIndex := 25, attributes := #[] }, { accessFlags := 26, nameIndex := 48, descriptorIndex := 25, attributes := #[] }, { accessFlags := 25, nameIndex := 277, descriptorIndex := 25, attributes := #[] }, { accessFlags := 25, nameIndex := 280, descriptorIndex := 25, attributes := #[] }, { accessFlags := 25, nameIndex := 282, descriptorIndex := 25, attributes := #[] }, { accessFlags := 25, nameIndex := 284, descriptorIndex := 25, attributes := #[] }, { accessFlags := 25, nameIndex := 286, descriptorIndex := 25, attributes := #[] }, { accessFlags := 25, nameIndex := 288, descriptorIndex := 25, attributes := #[] }, { accessFlags := 25, nameIndex := 290, descriptorIndex := 25, attributes := #[] }, { accessFlags := 25, nameIndex := 292, descriptorIndex := 25, attributes := #[] }, { accessFlags := 26, nameIndex := 108, descriptorIndex := 109, attributes := #[] }, { accessFlags := 25, nameIndex := 294, descriptorIndex := 25, attributes := #[] }])
  fields := #[{ name := "U", type := (.object "jdk/internal/misc/Unsafe"), accessFlags := 24, slot := 0, constantValue := 0 }, { name := "BIG_ENDIAN", type := .boolean, accessFlags := 26, slot := 1, constantValue := 0 }, { name := "LOG2_ARRAY_BOOLEAN_INDEX_SCALE", type := .int, accessFlags := 25, slot := 2, constantValue := 0 }, { name := "LOG2_ARRAY_BYTE_INDEX_SCALE", type := .int, accessFlags := 25, slot := 3, constantValue := 0 }, { name := "LOG2_ARRAY_CHAR_INDEX_SCALE", type := .int, accessFlags := 25, slot := 4, constantValue := 0 }, { name := "LOG2_ARRAY_SHORT_INDEX_SCALE", type := .int, accessFlags := 25, slot := 5, constantValue := 0 }, { name := "LOG2_ARRAY_INT_INDEX_SCALE", type := .int, accessFlags := 25, slot := 6, constantValue := 0 }, { name := "LOG2_ARRAY_LONG_INDEX_SCALE", type := .int, accessFlags := 25, slot := 7, constantValue := 0 }, { name := "LOG2_ARRAY_FLOAT_INDEX_SCALE", type := .int, accessFlags := 25, slot := 8, constantValue := 0 }, { name := "LOG2_ARRAY_DOUBLE_INDEX_SCALE", type := .int, accessFlags := 25, slot := 9, constantValue := 0 }, { name := "LOG2_BYTE_BIT_SIZE", type := .int, accessFlags := 26, slot := 10, constantValue := 0 }, { name := "T_BOOLEAN", type := .int, accessFlags := 25, slot := 11, constantValue := 0 }, { name := "T_CHAR", type := .int, accessFlags := 25, slot := 12, constantValue := 0 }, { name := "T_FLOAT", type := .int, accessFlags := 25, slot := 13, constantValue := 0 }, { name := "T_DOUBLE", type := .int, accessFlags := 25, slot := 14, constantValue := 0 }, { name := "T_BYTE", type := .int, accessFlags := 25, slot := 15, constantValue := 0 }, { name := "T_SHORT", type := .int, accessFlags := 25, slot := 16, constantValue := 0 }, { name := "T_INT", type := .int, accessFlags := 25, slot := 17, constantValue := 0 }, { name := "T_LONG", type := .int, accessFlags := 25, slot := 18, constantValue := 0 }, { name := "JLA", type := (.object "jdk/internal/access/JavaLangAccess"), accessFlags := 26, slot := 19, constantValue := 0 }, { name := "SOFT_MAX_ARRAY_LENGTH", type := .int, accessFlags := 25, slot := 20, constantValue := 0 }]
  methods := #[k12m0]
  instanceTypes := #[]
  staticTypes := #[(.object "jdk/internal/misc/Unsafe"), .boolean, .int, .int, .int, .int, .int, .int, .int, .int, .int, .int, .int, .int, .int, .int, .int, .int, .int, (.object "jdk/internal/access/JavaLangAccess"), .int]
  resolved := Array.replicate 378 none
  statics := none }

def pool13 : Array CpInfo := pool [(1, u "java/lang/Cloneable"), (0, .class_ 1), (0, u "java/lang/Object"), (0, .class_ 3)] 3

/-- java/lang/Cloneable -/
def k13 : Class := { plain "java/lang/Cloneable" (some 0) with
  accessFlags := 1537
  interfaces := #[]
  cf := some (fileOf pool13 2 #[] #[] 1537 4 #[] #[])
  fields := #[]
  methods := #[]
  instanceTypes := #[]
  staticTypes := #[]
  resolved := Array.replicate 8 none
  statics := none }

/-- the primitive byte -/
def k14 : Class := { plain "byte" none with kind := .primitive 'B', accessFlags := 0x411 }
/-- [B -/
def k15 : Class := { plain "[B" (some 0) with kind := .array 14 .byte, interfaces := #[13, 2], accessFlags := 1041 }

/-- the primitive char -/
def k16 : Class := { plain "char" none with kind := .primitive 'C', accessFlags := 0x411 }
/-- [C -/
def k17 : Class := { plain "[C" (some 0) with kind := .array 16 .char, interfaces := #[13, 2], accessFlags := 1041 }

/-- the primitive int -/
def k18 : Class := { plain "int" none with kind := .primitive 'I', accessFlags := 0x411 }
/-- [I -/
def k19 : Class := { plain "[I" (some 0) with kind := .array 18 .int, interfaces := #[13, 2], accessFlags := 1041 }

def heap : Heap := #[{ cls := 7, slots := #[.long 0, .int 1, .null, .int 0, .null, .int 0, .int 0], vm := .statics 7 },
  { cls := 11, slots := #[.null, .null, .null], vm := .statics 11 }]
def classes : Array Class := #[k0, k1, k2, k3, k4, k5, k6, k7, k8, k9, k10, k11, k12, k13, k14, k15, k16, k17, k18, k19]
def interned : List (Array UInt16 × Addr) := []
def slotsUsed : Nat := 10
def theMethod : MethodId := ⟨1, 3⟩
def args0 : Array Value := #[.int 5, .int 5, .int 5, .int 5, .int 5]
def aboutOver (below : List Frame) : State where
  vm := { classes := classes, interned := interned.toArray }
  heap := heap
  slotsUsed := slotsUsed
  threads := #[{ frames := .invoking theMethod args0 :: below }]
def below0 : List Frame := [.native { method := ⟨0, 0⟩, args := #[] }]
def about1 : State := aboutOver below0
def p0 : Program := .bare "" "" ""
def e0 : Env := launch0.env 0 0 0
theorem w_frames : about1.frames = Frame.invoking theMethod args0 :: below0 := rfl
set_option maxRecDepth 65536 in
theorem w_args : argsFit about1.vm theMethod args0 = true := by decide +kernel
set_option maxRecDepth 65536 in
theorem w_heap : heapFits about1 = true := by decide +kernel
set_option maxRecDepth 65536 in
theorem w_runnable : about1.curStatus? = some .runnable := by decide +kernel
set_option maxRecDepth 65536 in
theorem w_alone : about1.alone = true := by decide +kernel
set_option maxRecDepth 65536 in
theorem w_named : about1.methodNamed? x = some theMethod := by decide +kernel
set_option maxRecDepth 65536 in
theorem w_hears : about1.hears theMethod below0 = true := by decide +kernel
set_option maxRecDepth 65536 in
theorem w_ripe : about1.ripe theMethod args0 below0 = true := by decide +kernel
theorem w_running : about1.status = .running := rfl
set_option maxRecDepth 65536 in
theorem w_room : about1.hasRoom e0.platform room_1 = true :=
  launch0.hasRoom_least _ room_1 (by decide +kernel) (by decide +kernel) (by decide +kernel) (by decide +kernel) (by decide +kernel) (by decide +kernel)
theorem allAtoms_all (ts : List Jvm.Cond) (a : Array Jvm.Value) (st : Jvm.State) : (allAtoms ts).before a st = ts.all (fun c => c.before a st) := by
  induction ts with
  | nil => rfl
  | cons c t ih =>
    show (Jvm.Cond.and c (allAtoms t)).before a st = _
    rw [Jvm.Cond.before_and, ih, List.all_cons]
def words1 : List Jvm.Cond := Jvm.Cond.code x code maxLocals ret :: tables_1
/-- a 'code' word, met by the world's own term for the bytes: nothing is compared byte by byte -/
theorem code_word {y : MethodName} {bytes : ByteArray} {mx : Nat} {rt : Option FieldType} {a : Array Value} {s : State} {m : MethodId} {meth : Method} {c : Code} (h1 : s.methodNamed? y = some m) (h2 : s.vm.method? m = some meth) (h3 : meth.code = some c) (h4 : c.code = bytes)
    (h5 : (c.maxLocals == mx && c.exceptionTable.isEmpty && decide (c.maxStack ≤ mostOperands) && decide (meth.sig.returnType = rt) && !meth.locks && decide (parseMethodDescriptor y.desc = some meth.sig)) = true) : (Jvm.Cond.code y bytes mx rt).before a s = true := by
  simp only [Bool.and_eq_true, beq_iff_eq, Bool.not_eq_true', decide_eq_true_eq] at h5
  obtain ⟨⟨⟨⟨⟨g1, g2⟩, g3⟩, g4⟩, g5⟩, g6⟩ := h5
  simp [Cond.before, Cond.holds, Cond.value, h1, h2, h3, h4, g1, g2, g3, g4, g5, g6]
def isCode : Jvm.Cond → Bool
  | .code _ _ _ _ => true
  | _ => false
theorem all_split {L : List Jvm.Cond} {P : Jvm.Cond → Bool} (h1 : L.all (fun c => isCode c || P c) = true) (h2 : ∀ c ∈ L.filter isCode, P c = true) : L.all P = true := by
  refine List.all_eq_true.mpr fun c hc => ?_
  have h := List.all_eq_true.mp h1 c hc
  rcases Bool.eq_false_or_eq_true (isCode c) with hi | hi
  · exact h2 c (List.mem_filter.mpr ⟨hc, hi⟩)
  · simpa [hi] using h
set_option maxRecDepth 65536 in
theorem w_c0 : (Jvm.Cond.code x code maxLocals ret).before args0 about1 = true := code_word (m := ⟨1, 3⟩) (meth := k1m3) (c := k1c3) (by decide +kernel) rfl rfl rfl (by decide +kernel)
set_option maxRecDepth 65536 in
theorem w_c1 : (Jvm.Cond.code ({ cls := "com/example/clients_by_rule/clientsbyrule/profile/SuppressionCoversPinLaw", name := "mk", desc := "(II)Ljava/lang/String;" } : Jvm.MethodName) method_2_code (3 : Nat) (Option.some (Jvm.ClassFile.FieldType.object "java/lang/String"))).before args0 about1 = true := code_word (m := ⟨1, 1⟩) (meth := k1m1) (c := k1c1) (by decide +kernel) rfl rfl rfl (by decide +kernel)
set_option maxRecDepth 65536 in
theorem w_c2 : (Jvm.Cond.code ({ cls := "java/lang/String", name := "<init>", desc := "([C)V" } : Jvm.MethodName) jdk_42_method_3_code (2 : Nat) (Option.none : Option Jvm.ClassFile.FieldType)).before args0 about1 = true := code_word (m := ⟨7, 1⟩) (meth := k7m1) (c := k7c1) (by decide +kernel) rfl rfl rfl (by decide +kernel)
set_option maxRecDepth 65536 in
theorem w_c3 : (Jvm.Cond.code ({ cls := "java/lang/String", name := "<init>", desc := "([CIILjava/lang/Void;)V" } : Jvm.MethodName) jdk_42_method_149_code (6 : Nat) (Option.none : Option Jvm.ClassFile.FieldType)).before args0 about1 = true := code_word (m := ⟨7, 3⟩) (meth := k7m3) (c := k7c3) (by decide +kernel) rfl rfl rfl (by decide +kernel)
set_option maxRecDepth 65536 in
theorem w_c4 : (Jvm.Cond.code ({ cls := "java/lang/Object", name := "<init>", desc := "()V" } : Jvm.MethodName) object_method_1_code (1 : Nat) (Option.none : Option Jvm.ClassFile.FieldType)).before args0 about1 = true := code_word (m := ⟨0, 0⟩) (meth := k0m0) (c := k0c0) (by decide +kernel) rfl rfl rfl (by decide +kernel)
set_option maxRecDepth 65536 in
theorem w_c5 : (Jvm.Cond.code ({ cls := "com/example/clients_by_rule/clientsbyrule/profile/Suppression", name := "<init>", desc := "(ILjava/lang/String;Ljava/lang/String;Ljava/lang/String;Ljava/lang/String;)V" } : Jvm.MethodName) prog_20_method_1_code (6 : Nat) (Option.none : Option Jvm.ClassFile.FieldType)).before args0 about1 = true := code_word (m := ⟨8, 0⟩) (meth := k8m0) (c := k8c0) (by decide +kernel) rfl rfl rfl (by decide +kernel)
set_option maxRecDepth 65536 in
theorem w_c6 : (Jvm.Cond.code ({ cls := "com/example/clients_by_rule/clientsbyrule/profile/SuppressionCoversPinLaw", name := "same", desc := "(IIII)Z" } : Jvm.MethodName) method_3_code (4 : Nat) (Option.some Jvm.ClassFile.FieldType.boolean)).before args0 about1 = true := code_word (m := ⟨1, 2⟩) (meth := k1m2) (c := k1c2) (by decide +kernel) rfl rfl rfl (by decide +kernel)
set_option maxRecDepth 65536 in
theorem w_c7 : (Jvm.Cond.code ({ cls := "com/example/clients_by_rule/clientsbyrule/profile/Suppression", name := "covers", desc := "(Ljava/lang/String;Ljava/lang/String;)Z" } : Jvm.MethodName) prog_20_method_7_code (3 : Nat) (Option.some Jvm.ClassFile.FieldType.boolean)).before args0 about1 = true := code_word (m := ⟨8, 1⟩) (meth := k8m1) (c := k8c1) (by decide +kernel) rfl rfl rfl (by decide +kernel)
set_option maxRecDepth 65536 in
theorem w_c8 : (Jvm.Cond.code ({ cls := "java/lang/String", name := "equals", desc := "(Ljava/lang/Object;)Z" } : Jvm.MethodName) jdk_42_method_66_code (3 : Nat) (Option.some Jvm.ClassFile.FieldType.boolean)).before args0 about1 = true := code_word (m := ⟨7, 2⟩) (meth := k7m2) (c := k7c2) (by decide +kernel) rfl rfl rfl (by decide +kernel)
set_option maxRecDepth 65536 in
theorem w_c9 : (Jvm.Cond.code ({ cls := "java/lang/StringLatin1", name := "equals", desc := "([B[B)Z" } : Jvm.MethodName) jdk_43_method_13_code (3 : Nat) (Option.some Jvm.ClassFile.FieldType.boolean)).before args0 about1 = true := code_word (m := ⟨9, 1⟩) (meth := k9m1) (c := k9c1) (by decide +kernel) rfl rfl rfl (by decide +kernel)
set_option maxRecDepth 65536 in
theorem w_c10 : (Jvm.Cond.code ({ cls := "java/lang/StringUTF16", name := "compress", desc := "([CII)[B" } : Jvm.MethodName) jdk_52_method_16_code (6 : Nat) (Option.some (Jvm.ClassFile.FieldType.array Jvm.ClassFile.FieldType.byte))).before args0 about1 = true := code_word (m := ⟨10, 2⟩) (meth := k10m2) (c := k10c2) (by decide +kernel) rfl rfl rfl (by decide +kernel)
set_option maxRecDepth 65536 in
theorem w_c11 : (Jvm.Cond.code ({ cls := "java/lang/StringUTF16", name := "compress", desc := "([CI[BII)I" } : Jvm.MethodName) jdk_52_method_21_code (7 : Nat) (Option.some Jvm.ClassFile.FieldType.int)).before args0 about1 = true := code_word (m := ⟨10, 3⟩) (meth := k10m3) (c := k10c3) (by decide +kernel) rfl rfl rfl (by decide +kernel)
set_option maxRecDepth 65536 in
theorem w_c12 : (Jvm.Cond.code ({ cls := "java/lang/StringUTF16", name := "coderFromArrayLen", desc := "([BI)B" } : Jvm.MethodName) jdk_52_method_15_code (2 : Nat) (Option.some Jvm.ClassFile.FieldType.byte)).before args0 about1 = true := code_word (m := ⟨10, 1⟩) (meth := k10m1) (c := k10c1) (by decide +kernel) rfl rfl rfl (by decide +kernel)
def codes1 : List Jvm.Cond := [Jvm.Cond.code x code maxLocals ret, Jvm.Cond.code ({ cls := "com/example/clients_by_rule/clientsbyrule/profile/SuppressionCoversPinLaw", name := "mk", desc := "(II)Ljava/lang/String;" } : Jvm.MethodName) method_2_code (3 : Nat) (Option.some (Jvm.ClassFile.FieldType.object "java/lang/String")), Jvm.Cond.code ({ cls := "java/lang/String", name := "<init>", desc := "([C)V" } : Jvm.MethodName) jdk_42_method_3_code (2 : Nat) (Option.none : Option Jvm.ClassFile.FieldType), Jvm.Cond.code ({ cls := "java/lang/String", name := "<init>", desc := "([CIILjava/lang/Void;)V" } : Jvm.MethodName) jdk_42_method_149_code (6 : Nat) (Option.none : Option Jvm.ClassFile.FieldType), Jvm.Cond.code ({ cls := "java/lang/Object", name := "<init>", desc := "()V" } : Jvm.MethodName) object_method_1_code (1 : Nat) (Option.none : Option Jvm.ClassFile.FieldType), Jvm.Cond.code ({ cls := "com/example/clients_by_rule/clientsbyrule/profile/Suppression", name := "<init>", desc := "(ILjava/lang/String;Ljava/lang/String;Ljava/lang/String;Ljava/lang/String;)V" } : Jvm.MethodName) prog_20_method_1_code (6 : Nat) (Option.none : Option Jvm.ClassFile.FieldType), Jvm.Cond.code ({ cls := "com/example/clients_by_rule/clientsbyrule/profile/SuppressionCoversPinLaw", name := "same", desc := "(IIII)Z" } : Jvm.MethodName) method_3_code (4 : Nat) (Option.some Jvm.ClassFile.FieldType.boolean), Jvm.Cond.code ({ cls := "com/example/clients_by_rule/clientsbyrule/profile/Suppression", name := "covers", desc := "(Ljava/lang/String;Ljava/lang/String;)Z" } : Jvm.MethodName) prog_20_method_7_code (3 : Nat) (Option.some Jvm.ClassFile.FieldType.boolean), Jvm.Cond.code ({ cls := "java/lang/String", name := "equals", desc := "(Ljava/lang/Object;)Z" } : Jvm.MethodName) jdk_42_method_66_code (3 : Nat) (Option.some Jvm.ClassFile.FieldType.boolean), Jvm.Cond.code ({ cls := "java/lang/StringLatin1", name := "equals", desc := "([B[B)Z" } : Jvm.MethodName) jdk_43_method_13_code (3 : Nat) (Option.some Jvm.ClassFile.FieldType.boolean), Jvm.Cond.code ({ cls := "java/lang/StringUTF16", name := "compress", desc := "([CII)[B" } : Jvm.MethodName) jdk_52_method_16_code (6 : Nat) (Option.some (Jvm.ClassFile.FieldType.array Jvm.ClassFile.FieldType.byte)), Jvm.Cond.code ({ cls := "java/lang/StringUTF16", name := "compress", desc := "([CI[BII)I" } : Jvm.MethodName) jdk_52_method_21_code (7 : Nat) (Option.some Jvm.ClassFile.FieldType.int), Jvm.Cond.code ({ cls := "java/lang/StringUTF16", name := "coderFromArrayLen", desc := "([BI)B" } : Jvm.MethodName) jdk_52_method_15_code (2 : Nat) (Option.some Jvm.ClassFile.FieldType.byte)]
set_option maxRecDepth 65536 in
theorem codes_eq : words1.filter isCode = codes1 := rfl
theorem w_codes : ∀ c ∈ words1.filter isCode, c.before args0 about1 = true := by
  rw [codes_eq]
  intro c hc
  simp only [codes1, List.mem_cons, List.not_mem_nil, or_false] at hc
  rcases hc with rfl | rfl | rfl | rfl | rfl | rfl | rfl | rfl | rfl | rfl | rfl | rfl | rfl
  · exact w_c0
  · exact w_c1
  · exact w_c2
  · exact w_c3
  · exact w_c4
  · exact w_c5
  · exact w_c6
  · exact w_c7
  · exact w_c8
  · exact w_c9
  · exact w_c10
  · exact w_c11
  · exact w_c12
set_option maxRecDepth 65536 in
theorem w_t1 : (words1.take 24).all (fun c => isCode c || c.before args0 about1) = true := by decide +kernel
set_option maxRecDepth 65536 in
theorem w_t2 : ((words1.drop 24).take 24).all (fun c => isCode c || c.before args0 about1) = true := by decide +kernel
set_option maxRecDepth 65536 in
theorem w_t3 : (((words1.drop 24).drop 24).take 24).all (fun c => isCode c || c.before args0 about1) = true := by decide +kernel
set_option maxRecDepth 65536 in
theorem w_t4 : (((words1.drop 24).drop 24).drop 24).all (fun c => isCode c || c.before args0 about1) = true := by decide +kernel
theorem w_tables : (allAtoms (Jvm.Cond.code x code maxLocals ret :: tables_1)).before args0 about1 = true := by
  rw [allAtoms_all]
  show words1.all (fun c => c.before args0 about1) = true
  refine all_split ?_ w_codes
  rw [← List.take_append_drop 24 words1, List.all_append, w_t1, ← List.take_append_drop 24 (words1.drop 24), List.all_append, w_t2, ← List.take_append_drop 24 ((words1.drop 24).drop 24), List.all_append, w_t3, w_t4]
  rfl
set_option maxRecDepth 65536 in
theorem w_rest : rest_1_c.before args0 about1 = true := by decide +kernel
set_option maxRecDepth 65536 in
theorem w_case : (Jvm.Cond.and given_1 narrow_1).before args0 about1 = true := by decide +kernel
set_option maxRecDepth 65536 in
theorem w_consts : constsHeld consts_1 about1 := Jvm.Lit.constsHeldB_iff.mp (by decide +kernel)
theorem w_applies : (headSpec (Jvm.Cond.code x code maxLocals ret :: tables_1) room_1).applies x e0.platform about1 = true :=
  (Spec.applies_iff w_frames).mpr ⟨w_running, w_runnable, w_alone, w_named, w_hears, w_ripe, w_room, w_tables⟩
theorem atStart : AtStart classFile x code maxLocals ret World_1 tables_1 room_1 Calls_1 rest_1 Pre_1 launch0 p0 e0 about1 theMethod args0 below0 :=
  ⟨lists_1, trivial, launch0.admits_env _ _ _, launch0.least_env, fairChoices_fair.cas, fairChoices_fair.clock, w_frames, w_args, w_heap, w_applies, ⟨w_consts, trivial⟩, w_rest, w_case⟩
end start1
theorem witness_1 : WitnessClaimed_1 := ⟨start1.p0, start1.e0, start1.about1, start1.theMethod, start1.args0, start1.below0, start1.atStart⟩
end Jvm.Pilot.@@N@@
