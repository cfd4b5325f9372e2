import JvmDerived
import JvmDerived.Pilot.@@N@@Statement
import JvmDerived.Pilot.@@N@@Code
set_option linter.unusedVariables false
set_option linter.unusedSimpArgs false
namespace Jvm.RoadKit
open Sem ClassFile Op Lib Jvm.Stand Jvm.Free Jvm.LawKit
section New
variable {p : Program} {l : Launch} {e : Env} {R : Room} {s : State} {m : MethodId} {args : Array Value} {below : List Frame} {meth : Method} {c : Code} {T : State} {locs : List Loc} {cells slots : Nat}
theorem retI (X : Stand p l e R s m args below meth c T locs cells slots) (hx : p.tables.exec = Jvm.exec) {pc : Nat} {Ls : Array Slot} {z : Int32} {rest : List Value} (hret : meth.sig.returnType = some .int) (hd : decode c.code pc = .ok (.ireturn, 1)) {fs : List Frame}
    (hl : ∀ (f : JFrame) (acts : List Action), f.method = m → f.locked = none → f.entered = [] → (doReturn e (T.setTop f) acts (some (.int z))).1 = T.setFrames fs) : Steps p.tables e below (T.setTop (mkF m pc Ls (.int z :: rest))) (T.setFrames fs) := by
  have hm' : T.vm.method? m = some meth := X.method'
  have hn : narrow .int (.int z) = .int z := rfl
  show Steps p.tables e below (T.setTop { method := m, pc := pc, locals := Ls, stack := _ :: rest, locked := none }) _
  jvm_step X.here [X.here.top, hx, hd, hm', hret, hn]
  first | (intro acts; rw [hl _ acts rfl rfl rfl]) | rw [hl _ _ rfl rfl rfl]
  exact Steps.refl _
end New
end Jvm.RoadKit
/- laws to paste: Road.backV, Road.lenW, Road.empW, Road.codOf, Road.wide_lo, Road.wide_hi, pair_says, shr1, shr0, chr8_lo8, Road.low_at (cut by pick.py; bodies as the Statement names them) -/
namespace Jvm.Pilot.@@N@@
namespace StrChars
open Jvm Sem ClassFile Op Lib Jvm.Stand Jvm.Free.XT Jvm.Free.ALB Jvm.Free.JM Jvm.Free
open Jvm.Lib.Cold (StaticIs)
/-- a char array whose places are chars -/
def Ch (a : Addr) (A : Cell) (U : State) : Prop := Arr .char a A U ∧ Typed .char A
theorem Ch.mv {a : Addr} {A : Cell} {U U' : State} (h : Ch a A U) (hal : U.vm.Alike U'.vm) (hh : U'.heap = U.heap) : Ch a A U' := ⟨h.1.mv hal hh, h.2⟩
theorem Ch.keep {a : Addr} {A : Cell} {U U' : State} (h : Ch a A U) (hal : U.vm.Alike U'.vm) (hk : U'.heap[a]? = some A) : Ch a A U' := ⟨h.1.keep hal hk, h.2⟩
/-- what place i of a char[]'s cell holds -/
def cv (A : Cell) (i : Nat) : Int32 := match A.slots[i]? with | some (.int x) => x | _ => 0
theorem Ch.get {a : Addr} {A : Cell} {U : State} (h : Ch a A U) {i : Nat} (hi : i < A.slots.size) : A.slots[i]? = some (.int (cv A i)) := by
  have e := Array.getElem?_eq_getElem hi
  have f := h.2 i _ e
  unfold cv; rw [e]
  generalize A.slots[i] = v at f
  cases v <;> simp [fits] at f ⊢
/-- the byte that i2b leaves of a char -/
def lo8 (x : Int32) : Int32 := x.toInt8.toInt32
theorem fits_lo8 (y : Int32) : fits .byte (.int (lo8 y)) = true := by
  have h1 := y.toInt8.le_toInt
  have h2 := y.toInt8.toInt_lt
  simp only [lo8, fits, Bool.and_eq_true, decide_eq_true_eq, Int32.le_iff_toInt_le, Int8.toInt_toInt32, show (-128 : Int32).toInt = -128 from by decide, show (127 : Int32).toInt = 127 from by decide]
  omega
/-- A' is A but that each place j of lo .. hi - 1 holds f j -/
def Laid (A A' : Cell) (lo hi : Nat) (f : Nat → Value) : Prop := A'.cls = A.cls ∧ A'.vm = A.vm ∧ A'.slots.size = A.slots.size ∧ ∀ i, A'.slots[i]? = if lo ≤ i ∧ i < hi then some (f i) else A.slots[i]?
theorem Laid.zero (A : Cell) (lo : Nat) (f : Nat → Value) : Laid A A lo (lo + 0) f := ⟨rfl, rfl, rfl, fun i => by rw [if_neg (by omega)]⟩
theorem Laid.step {A Ak : Cell} {lo k : Nat} {f : Nat → Value} {v : Value} (h : Laid A Ak lo k f) (hlo : lo ≤ k) (hk : k < Ak.slots.size) (hv : v = f k) : Laid A (Ak.setSlot k v) lo (k + 1) f := by
  refine ⟨h.1, h.2.1, by simpa [Cell.setSlot] using h.2.2.1, fun i => ?_⟩
  by_cases e : k = i
  · subst e; rw [Cell.slots_setSlot_self v hk, if_pos (by omega), hv]
  · rw [Cell.slots_setSlot_ne v e, h.2.2.2 i]
    by_cases q : lo ≤ i ∧ i < k
    · rw [if_pos q, if_pos (by omega)]
    · rw [if_neg q, if_neg (by omega)]
def U16 : String := "java/lang/StringUTF16"
namespace Cmp5
def yN : MethodName := ⟨"java/lang/StringUTF16", "compress", "([CI[BII)I"⟩
abbrev yB : ByteArray := jdk_52_method_21_code
theorem d0 : decode yB 0 = .ok (.iconst 0, 1) := by decide +kernel
theorem d1 : decode yB 1 = .ok (.istore 5, 2) := by decide +kernel
theorem d3 : decode yB 3 = .ok (.iload 5, 2) := by decide +kernel
theorem d5 : decode yB 5 = .ok (.iload 4, 2) := by decide +kernel
theorem d7 : decode yB 7 = .ok (.if_icmp (.ge) 37, 3) := by decide +kernel
theorem d10 : decode yB 10 = .ok (.aload_n 0, 1) := by decide +kernel
theorem d11 : decode yB 11 = .ok (.iload_n 1, 1) := by decide +kernel
theorem d12 : decode yB 12 = .ok (.caload, 1) := by decide +kernel
theorem d13 : decode yB 13 = .ok (.istore 6, 2) := by decide +kernel
theorem d15 : decode yB 15 = .ok (.iload 6, 2) := by decide +kernel
theorem d17 : decode yB 17 = .ok (.sipush 255, 3) := by decide +kernel
theorem d20 : decode yB 20 = .ok (.if_icmp (.le) 6, 3) := by decide +kernel
theorem d26 : decode yB 26 = .ok (.aload_n 2, 1) := by decide +kernel
theorem d27 : decode yB 27 = .ok (.iload_n 3, 1) := by decide +kernel
theorem d28 : decode yB 28 = .ok (.iload 6, 2) := by decide +kernel
theorem d30 : decode yB 30 = .ok (.i2b, 1) := by decide +kernel
theorem d31 : decode yB 31 = .ok (.bastore, 1) := by decide +kernel
theorem d32 : decode yB 32 = .ok (.iinc 1 1, 3) := by decide +kernel
theorem d35 : decode yB 35 = .ok (.iinc 3 1, 3) := by decide +kernel
theorem d38 : decode yB 38 = .ok (.iinc 5 1, 3) := by decide +kernel
theorem d41 : decode yB 41 = .ok (.goto (-38), 3) := by decide +kernel
theorem d44 : decode yB 44 = .ok (.iload 4, 2) := by decide +kernel
theorem d46 : decode yB 46 = .ok (.ireturn, 1) := by decide +kernel
def site : List Cond := []
def tab : Cond := tabOf yN yB 7 (some .int) site
def P (b : Addr) (A : Cell) (d : Addr) (B : Cell) (o q len : Nat) (args : Array Value) (s : State) : Prop := args = #[.ref b, .int (Int32.ofNat o), .ref d, .int (Int32.ofNat q), .int (Int32.ofNat len)] ∧ Ch b A s ∧ Arr .byte d B s ∧ b ≠ d ∧ o + len ≤ A.slots.size ∧ q + len ≤ B.slots.size ∧ ∀ i, i < len → ¬ 255 < cv A (o + i)
def E (b : Addr) (A : Cell) (d : Addr) (B : Cell) (o q len : Nat) (r : Option Value) (s u : State) : Prop := r = some (.int (Int32.ofNat len)) ∧ ∃ B', Put d B' s u ∧ Laid B B' q (q + len) (fun j => Value.int (lo8 (cv A (o + (j - q)))))
/-- no char of the range above 255: len; the places written hold each char's low byte -/
theorem law (l : Launch) (b : Addr) (A : Cell) (d : Addr) (B : Cell) (o q len : Nat) : Law l yN 5 5 0 0 yB 7 (some .int) site (P b A d B o q len) (E b A d B o q len) (copyLocs d q len) 0 0 := by
  refine Law.of_walk (plainFor_of_name (by decide +kernel)) (by decide +kernel) (by decide +kernel) (by decide) (fun _ _ h => by rw [h.1]; rfl) (fun _ U U' hal hh h => ⟨h.1, h.2.1.mv hal hh, h.2.2.1.mv hal hh, h.2.2.2⟩) (fun r U U' V V' h1 hal h2 h => ⟨h.1, h.2.elim fun B' q => ⟨B', q.1.mv h1 h2, q.2⟩⟩) ?_
  intro p e s m args below meth c s₁ X0 hexec hbytes hml hret hlk hnm hown hh0 W hP
  obtain ⟨rfl, hA, hB, hne, l1, l2, hp⟩ := hP
  have c1 : Steps p.tables e below (s₁.setTop (entryFrame m #[.ref b, .int (Int32.ofNat o), .ref d, .int (Int32.ofNat q), .int (Int32.ofNat len)] 7)) (s₁.setTop (mkF m 0 #[.val (.ref b), .val (.int (Int32.ofNat o)), .val (.ref d), .val (.int (Int32.ofNat q)), .val (.int (Int32.ofNat len)), .unset, .unset] [])) := entry rfl
  have hA0 := hA.1.mv X0.warmed.alike hh0
  have hB0 := hB.mv X0.warmed.alike hh0
  have a31 := hA.1.2.2.2
  have c2 : Steps p.tables e below (s₁.setTop (entryFrame m #[.ref b, .int (Int32.ofNat o), .ref d, .int (Int32.ofNat q), .int (Int32.ofNat len)] 7)) (s₁.setTop (mkF m 3 #[.val (.ref b), .val (.int (Int32.ofNat o)), .val (.ref d), .val (.int (Int32.ofNat q)), .val (.int (Int32.ofNat len)), .val (.int 0), .unset] [])) := c1.trans (by
    refine iconstV X0.here hexec rfl 0 (hb hbytes d0) (by decide) ?_
    refine XS.istore X0.here hexec rfl (hb hbytes d1) rfl rfl ?_
    exact Steps.refl _)
  have loop : ∀ (r i : Nat), i + r = len → ∀ (z : Slot), (z = .unset ∨ ∃ w, z = .val w ∧ w.category = 1) → ∀ (Tl : State) (Bk : Cell), Stand p l e { frames := 0, locals := 0, cells := 0, slots := 0 } s m #[.ref b, .int (Int32.ofNat o), .ref d, .int (Int32.ofNat q), .int (Int32.ofNat len)] below meth c Tl ([] ++ copyLocs d q i) 0 0 → Put d Bk s₁ Tl → Laid B Bk q (q + i) (fun j => Value.int (lo8 (cv A (o + (j - q))))) →
      Steps p.tables e below (s₁.setTop (entryFrame m #[.ref b, .int (Int32.ofNat o), .ref d, .int (Int32.ofNat q), .int (Int32.ofNat len)] 7)) (Tl.setTop (mkF m 3 #[.val (.ref b), .val (.int (Int32.ofNat (o + i))), .val (.ref d), .val (.int (Int32.ofNat (q + i))), .val (.int (Int32.ofNat len)), .val (.int (Int32.ofNat i)), z] [])) → ∃ (T' : State) (B' : Cell) (z' : Slot), Stand p l e { frames := 0, locals := 0, cells := 0, slots := 0 } s m #[.ref b, .int (Int32.ofNat o), .ref d, .int (Int32.ofNat q), .int (Int32.ofNat len)] below meth c T' ([] ++ copyLocs d q len) 0 0 ∧ Put d B' s₁ T' ∧ Laid B B' q (q + len) (fun j => Value.int (lo8 (cv A (o + (j - q))))) ∧
      Steps p.tables e below (s₁.setTop (entryFrame m #[.ref b, .int (Int32.ofNat o), .ref d, .int (Int32.ofNat q), .int (Int32.ofNat len)] 7)) (T'.setTop (mkF m 3 #[.val (.ref b), .val (.int (Int32.ofNat (o + len))), .val (.ref d), .val (.int (Int32.ofNat (q + len))), .val (.int (Int32.ofNat len)), .val (.int (Int32.ofNat len)), z'] [])) := by
    intro r
    induction r with
    | zero =>
      intro i hi z hz Tl Bk Xl pl fl cl
      have hil : i = len := by omega
      rw [hil] at Xl fl cl
      exact ⟨Tl, Bk, z, Xl, pl, fl, cl⟩
    | succ r ih =>
      intro i hi z hz Tl Bk Xl pl fl cl
      have all := X0.warmed.alike.symm.trans Xl.warmed.alike
      have hAl := hA0.keep all (pl.other hne hA0.1)
      have hBk := hB0.like all pl.1 fl.1 fl.2.1 fl.2.2.1
      have hlt : q + i < Bk.slots.size := by rw [fl.2.2.1]; omega
      have c3 : Steps p.tables e below (s₁.setTop (entryFrame m #[.ref b, .int (Int32.ofNat o), .ref d, .int (Int32.ofNat q), .int (Int32.ofNat len)] 7)) (Tl.setTop (mkF m 12 #[.val (.ref b), .val (.int (Int32.ofNat (o + i))), .val (.ref d), .val (.int (Int32.ofNat (q + i))), .val (.int (Int32.ofNat len)), .val (.int (Int32.ofNat i)), z] [.int (Int32.ofNat (o + i)), .ref b])) := cl.trans (by
        refine XS.iload Xl.here hexec rfl (hb hbytes d3) rfl ?_
        refine XS.iload Xl.here hexec rfl (hb hbytes d5) rfl ?_
        refine XS.icmpNo Xl.here hexec rfl (hb hbytes d7) rfl (ii_ge_f (lt32 (by omega) (by omega))) ?_
        refine XS.aloadN Xl.here hexec rfl (hb hbytes d10) rfl rfl ?_
        refine XS.iloadN Xl.here hexec rfl (hb hbytes d11) rfl ?_
        exact Steps.refl _)
      have c4 : Steps p.tables e below (s₁.setTop (entryFrame m #[.ref b, .int (Int32.ofNat o), .ref d, .int (Int32.ofNat q), .int (Int32.ofNat len)] 7)) (Tl.setTop (mkF m 13 #[.val (.ref b), .val (.int (Int32.ofNat (o + i))), .val (.ref d), .val (.int (Int32.ofNat (q + i))), .val (.int (Int32.ofNat len)), .val (.int (Int32.ofNat i)), z] [.int (cv A (o + i))])) := c3.trans (by
        refine Xl.aget hexec hAl rfl (hA.get (i := o + i) (by omega)) rfl rfl (hb hbytes d12) ?_
        exact Steps.refl _)
      have c5 : Steps p.tables e below (s₁.setTop (entryFrame m #[.ref b, .int (Int32.ofNat o), .ref d, .int (Int32.ofNat q), .int (Int32.ofNat len)] 7)) (Tl.setTop (mkF m 15 #[.val (.ref b), .val (.int (Int32.ofNat (o + i))), .val (.ref d), .val (.int (Int32.ofNat (q + i))), .val (.int (Int32.ofNat len)), .val (.int (Int32.ofNat i)), .val (.int (cv A (o + i)))] [])) := c4.trans (by
        refine XS.istoreS Xl.here hexec rfl (hb hbytes d13) rfl rfl hz ?_
        exact Steps.refl _)
      have c6 : Steps p.tables e below (s₁.setTop (entryFrame m #[.ref b, .int (Int32.ofNat o), .ref d, .int (Int32.ofNat q), .int (Int32.ofNat len)] 7)) (Tl.setTop (mkF m 31 #[.val (.ref b), .val (.int (Int32.ofNat (o + i))), .val (.ref d), .val (.int (Int32.ofNat (q + i))), .val (.int (Int32.ofNat len)), .val (.int (Int32.ofNat i)), .val (.int (cv A (o + i)))] [.int (lo8 (cv A (o + i))), .int (Int32.ofNat (q + i)), .ref d])) := c5.trans (by
        refine XS.iload Xl.here hexec rfl (hb hbytes d15) rfl ?_
        refine sipushV Xl.here hexec rfl 255 (hb hbytes d17) (by decide) ?_
        refine XS.icmpYes Xl.here hexec rfl (pc0 := 20) rfl (hb hbytes d20) rfl (ii_le_t (hp i (by omega))) (by decide) rfl ?_
        refine XS.aloadN Xl.here hexec rfl (hb hbytes d26) rfl rfl ?_
        refine XS.iloadN Xl.here hexec rfl (hb hbytes d27) rfl ?_
        refine XS.iload Xl.here hexec rfl (hb hbytes d28) rfl ?_
        refine i2b Xl.here hexec rfl (hb hbytes d30) rfl ?_
        exact Steps.refl _)
      obtain ⟨T7, X7, p7, st7⟩ := Xl.aput hexec hBk rfl hlt rfl (fits_lo8 (cv A (o + i))) (g := (mkF m 31 #[.val (.ref b), .val (.int (Int32.ofNat (o + i))), .val (.ref d), .val (.int (Int32.ofNat (q + i))), .val (.int (Int32.ofNat len)), .val (.int (Int32.ofNat i)), .val (.int (cv A (o + i)))] [.int (lo8 (cv A (o + i))), .int (Int32.ofNat (q + i)), .ref d])) rfl (rest := []) rfl (hb hbytes d31)
      have c8 : Steps p.tables e below (s₁.setTop (entryFrame m #[.ref b, .int (Int32.ofNat o), .ref d, .int (Int32.ofNat q), .int (Int32.ofNat len)] 7)) (T7.setTop (mkF m 32 #[.val (.ref b), .val (.int (Int32.ofNat (o + i))), .val (.ref d), .val (.int (Int32.ofNat (q + i))), .val (.int (Int32.ofNat len)), .val (.int (Int32.ofNat i)), .val (.int (cv A (o + i)))] [])) := c6.trans (st7 _ (Steps.refl _))
      have c9 : Steps p.tables e below (s₁.setTop (entryFrame m #[.ref b, .int (Int32.ofNat o), .ref d, .int (Int32.ofNat q), .int (Int32.ofNat len)] 7)) (T7.setTop (mkF m 3 #[.val (.ref b), .val (.int (Int32.ofNat (o + i) + 1)), .val (.ref d), .val (.int (Int32.ofNat (q + i) + 1)), .val (.int (Int32.ofNat len)), .val (.int (Int32.ofNat i + 1)), .val (.int (cv A (o + i)))] [])) := c8.trans (by
        refine iincV X7.here hexec rfl 1 (hb hbytes d32) (by decide) rfl rfl ?_
        refine iincV X7.here hexec rfl 1 (hb hbytes d35) (by decide) rfl rfl ?_
        refine iincV X7.here hexec rfl 1 (hb hbytes d38) (by decide) rfl rfl ?_
        refine XS.goto X7.here hexec rfl (pc0 := 41) rfl (hb hbytes d41) (by decide) rfl ?_
        exact Steps.refl _)
      have c10 : Steps p.tables e below (s₁.setTop (entryFrame m #[.ref b, .int (Int32.ofNat o), .ref d, .int (Int32.ofNat q), .int (Int32.ofNat len)] 7)) (T7.setTop (mkF m 3 #[.val (.ref b), .val (.int (Int32.ofNat (o + (i + 1)))), .val (.ref d), .val (.int (Int32.ofNat (q + (i + 1)))), .val (.int (Int32.ofNat len)), .val (.int (Int32.ofNat (i + 1))), .val (.int (cv A (o + i)))] [])) := by
        have := c9
        rw [succ32, succ32, succ32] at this
        exact this
      exact ih (i + 1) (by omega) _ (Or.inr ⟨_, rfl, rfl⟩) T7 _ (by rw [copyLocs_step, ← List.append_assoc]; exact X7) (pl.trans p7) (fl.step (by omega) hlt (by simp)) c10
  obtain ⟨T9, B9, z9, X9, p9, f9, g9⟩ := loop len 0 (by omega) .unset (Or.inl rfl) s₁ B (by simpa [copyLocs] using X0) ⟨hB0.1, fun _ _ => rfl, rfl⟩ (Laid.zero _ _ _) c2
  have c11 : Steps p.tables e below (s₁.setTop (entryFrame m #[.ref b, .int (Int32.ofNat o), .ref d, .int (Int32.ofNat q), .int (Int32.ofNat len)] 7)) (T9.setTop (mkF m 46 #[.val (.ref b), .val (.int (Int32.ofNat (o + len))), .val (.ref d), .val (.int (Int32.ofNat (q + len))), .val (.int (Int32.ofNat len)), .val (.int (Int32.ofNat len)), z9] [.int (Int32.ofNat len)])) := g9.trans (by
    refine XS.iload X9.here hexec rfl (hb hbytes d3) rfl ?_
    refine XS.iload X9.here hexec rfl (hb hbytes d5) rfl ?_
    refine XS.icmpYes X9.here hexec rfl (pc0 := 7) rfl (hb hbytes d7) rfl (ii_ge_t (nlt32 (by omega) (Nat.le_refl _))) (by decide) rfl ?_
    refine XS.iload X9.here hexec rfl (hb hbytes d44) rfl ?_
    exact Steps.refl _)
  exact ⟨T9, some (.int (Int32.ofNat len)), _, _, _, X9, by simp, rfl, rfl, (fun h => by cases h), ⟨rfl, B9, p9.from hh0, f9⟩, fun fs hl => c11.trans (X9.ireturnOut hexec hret rfl (Or.inl rfl) (hb hbytes d46) hl)⟩
end Cmp5
namespace Cmp3
def yN : MethodName := ⟨"java/lang/StringUTF16", "compress", "([CII)[B"⟩
abbrev yB : ByteArray := jdk_52_method_16_code
theorem d0 : decode yB 0 = .ok (.iload_n 2, 1) := by decide +kernel
theorem d1 : decode yB 1 = .ok (.newarray .byte, 2) := by decide +kernel
theorem d3 : decode yB 3 = .ok (.astore_n 3, 1) := by decide +kernel
theorem d4 : decode yB 4 = .ok (.aload_n 0, 1) := by decide +kernel
theorem d5 : decode yB 5 = .ok (.iload_n 1, 1) := by decide +kernel
theorem d6 : decode yB 6 = .ok (.aload_n 3, 1) := by decide +kernel
theorem d7 : decode yB 7 = .ok (.iconst 0, 1) := by decide +kernel
theorem d8 : decode yB 8 = .ok (.iload_n 2, 1) := by decide +kernel
theorem d9 : decode yB 9 = .ok (.invokestatic 115, 3) := by decide +kernel
theorem d12 : decode yB 12 = .ok (.istore 4, 2) := by decide +kernel
theorem d14 : decode yB 14 = .ok (.iload 4, 2) := by decide +kernel
theorem d16 : decode yB 16 = .ok (.iload_n 2, 1) := by decide +kernel
theorem d17 : decode yB 17 = .ok (.if_icmp (.eq) 40, 3) := by decide +kernel
theorem d57 : decode yB 57 = .ok (.aload_n 3, 1) := by decide +kernel
theorem d58 : decode yB 58 = .ok (.areturn, 1) := by decide +kernel
def site : List Cond := [.arrayClass .byte, Cmp5.tab] ++ staticW U16 115 Cmp5.yN
def tab : Cond := tabOf yN yB 6 (some (.array .byte)) site
def P (b : Addr) (A : Cell) (o len : Nat) (args : Array Value) (s : State) : Prop := args = #[.ref b, .int (Int32.ofNat o), .int (Int32.ofNat len)] ∧ Ch b A s ∧ o + len ≤ A.slots.size ∧ len ≤ 536870912 ∧ ∀ i, i < len → ¬ 255 < cv A (o + i)
def E (b : Addr) (A : Cell) (o len : Nat) (r : Option Value) (s u : State) : Prop := NewArr .byte "[B" len (fun j => .int (lo8 (cv A (o + j)))) r s u ∧ u.heap.size = s.heap.size + 1
/-- no char of the range above 255: a new byte[] of their low bytes -/
theorem law (l : Launch) (b : Addr) (A : Cell) (o len : Nat) : Law l yN 3 3 1 18 yB 6 (some (.array .byte)) site (P b A o len) (E b A o len) [] 1 len := by
  refine Law.of_walk (plainFor_of_name (by decide +kernel)) (by decide +kernel) (by decide +kernel) (by decide) (fun _ _ h => by rw [h.1]; rfl) (fun _ U U' hal hh h => ⟨h.1, h.2.1.mv hal hh, h.2.2⟩) (fun r U U' V V' h1 hal h2 h => ⟨NewArr.mv r U U' V V' h1 hal h2 h.1, by rw [h1, h2]; exact h.2⟩) ?_
  intro p e s m args below meth c s₁ X0 hexec hbytes hml hret hlk hnm hown hh0 W hP
  obtain ⟨rfl, hA, l1, l2, hp⟩ := hP
  have a31 := hA.1.2.2.2
  have c1 : Steps p.tables e below (s₁.setTop (entryFrame m #[.ref b, .int (Int32.ofNat o), .int (Int32.ofNat len)] 6)) (s₁.setTop (mkF m 0 #[.val (.ref b), .val (.int (Int32.ofNat o)), .val (.int (Int32.ofNat len)), .unset, .unset, .unset] [])) := entry rfl
  have c2 : Steps p.tables e below (s₁.setTop (entryFrame m #[.ref b, .int (Int32.ofNat o), .int (Int32.ofNat len)] 6)) (s₁.setTop (mkF m 1 #[.val (.ref b), .val (.int (Int32.ofNat o)), .val (.int (Int32.ofNat len)), .unset, .unset, .unset] [.int (Int32.ofNat len)])) := c1.trans (by
    refine XS.iloadN X0.here hexec rfl (hb hbytes d0) rfl ?_
    exact Steps.refl _)
  obtain ⟨T3, B3, X3, ba3, bs3, bv3, bh3, bf3, st3⟩ := X0.anew hexec (atype := .byte) (wk W (.arrayClass .byte)) rfl (by show len * 1 ≤ _; omega) (by omega) (g := (mkF m 1 #[.val (.ref b), .val (.int (Int32.ofNat o)), .val (.int (Int32.ofNat len)), .unset, .unset, .unset] [.int (Int32.ofNat len)])) rfl (hb hbytes d1) (rest := []) rfl (Nat.le_refl _) (by show 0 + len ≤ len; omega)
  rw [hh0] at ba3 st3
  have kp3 : XT.Kept s T3 := (XT.Kept.of_eq hh0).push bh3
  have hA3 := hA.keep X3.warmed.alike (kp3 _ _ hA.1.1)
  have hne : b ≠ s.heap.size := hA.1.ne
  have c4 : Steps p.tables e below (s₁.setTop (entryFrame m #[.ref b, .int (Int32.ofNat o), .int (Int32.ofNat len)] 6)) (T3.setTop (mkF m 3 #[.val (.ref b), .val (.int (Int32.ofNat o)), .val (.int (Int32.ofNat len)), .unset, .unset, .unset] [.ref s.heap.size])) := c2.trans (st3 _ (Steps.refl _))
  have c5 : Steps p.tables e below (s₁.setTop (entryFrame m #[.ref b, .int (Int32.ofNat o), .int (Int32.ofNat len)] 6)) (T3.setTop (mkF m 9 #[.val (.ref b), .val (.int (Int32.ofNat o)), .val (.int (Int32.ofNat len)), .val (.ref s.heap.size), .unset, .unset] [.int (Int32.ofNat len), .int 0, .ref s.heap.size, .int (Int32.ofNat o), .ref b])) := c4.trans (by
    refine XS.astoreN X3.here hexec rfl (hb hbytes d3) rfl rfl rfl ?_
    refine XS.aloadN X3.here hexec rfl (hb hbytes d4) rfl rfl ?_
    refine XS.iloadN X3.here hexec rfl (hb hbytes d5) rfl ?_
    refine XS.aloadN X3.here hexec rfl (hb hbytes d6) rfl rfl ?_
    refine iconstV X3.here hexec rfl 0 (hb hbytes d7) (by decide) ?_
    refine XS.iloadN X3.here hexec rfl (hb hbytes d8) rfl ?_
    exact Steps.refl _)
  obtain ⟨v6, T6, X6, E6, g6⟩ := X3.callS hexec (Cmp5.law l b A s.heap.size B3 o 0 len) hown (wks W (staticW U16 115 Cmp5.yN)) (wk W Cmp5.tab) (W := 0) (Nat.le_of_ble_eq_true rfl) (Nat.le_of_ble_eq_true rfl) (Nat.le_refl _) (by show 0 + len + 0 ≤ len; omega) (g := (mkF m 9 #[.val (.ref b), .val (.int (Int32.ofNat o)), .val (.int (Int32.ofNat len)), .val (.ref s.heap.size), .unset, .unset] [.int (Int32.ofNat len), .int (Int32.ofNat 0), .ref s.heap.size, .int (Int32.ofNat o), .ref b])) rfl (by rw [hml]; rfl) c5 (argsL := [.ref b, .int (Int32.ofNat o), .ref s.heap.size, .int (Int32.ofNat 0), .int (Int32.ofNat len)]) (rest := []) rfl rfl (by show 2 * 0 + 0 ≤ _; decide) (hb hbytes d9) (⟨rfl, hA3, ba3, hne, l1, by rw [bs3]; simp, hp⟩)
  obtain ⟨rfl, B6, p6, f6⟩ := E6
  have c7 : Steps p.tables e below (s₁.setTop (entryFrame m #[.ref b, .int (Int32.ofNat o), .int (Int32.ofNat len)] 6)) (T6.setTop (mkF m 12 #[.val (.ref b), .val (.int (Int32.ofNat o)), .val (.int (Int32.ofNat len)), .val (.ref s.heap.size), .unset, .unset] [.int (Int32.ofNat len)])) := g6
  have c8 : Steps p.tables e below (s₁.setTop (entryFrame m #[.ref b, .int (Int32.ofNat o), .int (Int32.ofNat len)] 6)) (T6.setTop (mkF m 58 #[.val (.ref b), .val (.int (Int32.ofNat o)), .val (.int (Int32.ofNat len)), .val (.ref s.heap.size), .val (.int (Int32.ofNat len)), .unset] [.ref s.heap.size])) := c7.trans (by
    refine XS.istore X6.here hexec rfl (hb hbytes d12) rfl rfl ?_
    refine XS.iload X6.here hexec rfl (hb hbytes d14) rfl ?_
    refine XS.iloadN X6.here hexec rfl (hb hbytes d16) rfl ?_
    refine XS.icmpYes X6.here hexec rfl (pc0 := 17) rfl (hb hbytes d17) rfl (ii_eq_t rfl) (by decide) rfl ?_
    refine XS.aloadN X6.here hexec rfl (hb hbytes d57) rfl rfl ?_
    exact Steps.refl _)
  have X8 := X6.wide (L' := []) (cells' := 1) (slots' := len) (fun x hx hlt => by
    simp only [List.nil_append, copyLocs, List.mem_map, List.mem_range] at hx
    obtain ⟨i, -, rfl⟩ := hx
    exact absurd hlt (Nat.lt_irrefl _)) (Nat.le_refl _) (by omega)
  exact ⟨T6, some (.ref s.heap.size), _, _, _, X8, rfl, rfl, rfl, (fun h => by cases h), ⟨⟨rfl, B6, ba3.like (X3.warmed.alike.symm.trans X6.warmed.alike) p6.1 f6.1 f6.2.1 f6.2.2.1, f6.2.1.trans bv3, by rw [X6.warmed.alike.findClass, f6.1]; exact bf3, by rw [f6.2.2.1, bs3]; simp, fun j hj => by rw [f6.2.2.2 j, if_pos (by omega)]; rfl, kp3.put p6 (Nat.le_refl _)⟩, by rw [p6.2.2, bh3, hh0]; simp⟩, fun fs hl => c8.trans (X8.areturnOut hexec rfl hret rfl (hb hbytes d58) hl)⟩
end Cmp3
namespace CodL
def yN : MethodName := ⟨"java/lang/StringUTF16", "coderFromArrayLen", "([BI)B"⟩
abbrev yB : ByteArray := jdk_52_method_15_code
theorem d0 : decode yB 0 = .ok (.iload_n 1, 1) := by decide +kernel
theorem d1 : decode yB 1 = .ok (.aload_n 0, 1) := by decide +kernel
theorem d2 : decode yB 2 = .ok (.arraylength, 1) := by decide +kernel
theorem d3 : decode yB 3 = .ok (.isub, 1) := by decide +kernel
theorem d4 : decode yB 4 = .ok (.bipush 31, 2) := by decide +kernel
theorem d6 : decode yB 6 = .ok (.iushr, 1) := by decide +kernel
theorem d7 : decode yB 7 = .ok (.i2b, 1) := by decide +kernel
theorem d8 : decode yB 8 = .ok (.ireturn, 1) := by decide +kernel
def site : List Cond := []
def tab : Cond := tabOf yN yB 2 (some .byte) site
def P (d : Addr) (B : Cell) (args : Array Value) (s : State) : Prop := args = #[.ref d, .int (Int32.ofNat B.slots.size)] ∧ Arr .byte d B s
def E (r : Option Value) (s u : State) : Prop := XT.PureE (some (.int 0)) r s u
/-- an array as long as the number of chars: LATIN1 -/
theorem law (l : Launch) (d : Addr) (B : Cell) : Law l yN 2 2 0 0 yB 2 (some .byte) site (P d B) E [] 0 0 := by
  refine Law.of_walk (plainFor_of_name (by decide +kernel)) (by decide +kernel) (by decide +kernel) (by decide) (fun _ _ h => by rw [h.1]; rfl) (fun _ U U' hal hh h => ⟨h.1, h.2.mv hal hh⟩) (fun r U U' V V' h1 hal h2 h => XT.PureE.mv r U U' V V' h1 hal h2 h) ?_
  intro p e s m args below meth c s₁ X0 hexec hbytes hml hret hlk hnm hown hh0 W hP
  obtain ⟨rfl, hB⟩ := hP
  have hB0 := hB.mv X0.warmed.alike hh0
  have c1 : Steps p.tables e below (s₁.setTop (entryFrame m #[.ref d, .int (Int32.ofNat B.slots.size)] 2)) (s₁.setTop (mkF m 0 #[.val (.ref d), .val (.int (Int32.ofNat B.slots.size))] [])) := entry rfl
  have c2 : Steps p.tables e below (s₁.setTop (entryFrame m #[.ref d, .int (Int32.ofNat B.slots.size)] 2)) (s₁.setTop (mkF m 2 #[.val (.ref d), .val (.int (Int32.ofNat B.slots.size))] [.ref d, .int (Int32.ofNat B.slots.size)])) := c1.trans (by
    refine XS.iloadN X0.here hexec rfl (hb hbytes d0) rfl ?_
    refine XS.aloadN X0.here hexec rfl (hb hbytes d1) rfl rfl ?_
    exact Steps.refl _)
  have c3 : Steps p.tables e below (s₁.setTop (entryFrame m #[.ref d, .int (Int32.ofNat B.slots.size)] 2)) (s₁.setTop (mkF m 8 #[.val (.ref d), .val (.int (Int32.ofNat B.slots.size))] [.int (lo8 (ushr (Int32.ofNat B.slots.size - Int32.ofNat B.slots.size) 31))])) := c2.trans (by
    refine X0.alen hexec hB0 rfl rfl (hb hbytes d2) ?_
    refine XS.isub X0.here hexec rfl (hb hbytes d3) rfl ?_
    refine bipushV X0.here hexec rfl 31 (hb hbytes d4) (by decide) ?_
    refine iushr X0.here hexec rfl (hb hbytes d6) rfl ?_
    refine i2b X0.here hexec rfl (hb hbytes d7) rfl ?_
    exact Steps.refl _)
  have e0 : lo8 (ushr (Int32.ofNat B.slots.size - Int32.ofNat B.slots.size) 31) = 0 := by rw [Int32.sub_self]; decide
  rw [e0] at c3
  exact ⟨s₁, some (.int 0), _, _, _, X0, rfl, rfl, rfl, (fun h => by cases h), ⟨rfl, hh0⟩, fun fs hl => c3.trans (X0.ireturnOut hexec hret rfl (Or.inr (Or.inr (Or.inl rfl))) (hb hbytes d8) hl)⟩
end CodL
/-- the String at a is Latin-1 over a new byte[] (the heap's one new cell): the low bytes of the len chars of A from o on; every cell but a is kept -/
def Got (a : Addr) (D : Cell) (fV fC : Field) (A : Cell) (o len : Nat) (r : Option Value) (s u : State) : Prop := r = none ∧ ∃ D' V : Cell, Blank "java/lang/String" a D' u ∧ Same D D' [fV.slot, fC.slot] ∧ D'.slots[fV.slot]? = some (.ref s.heap.size) ∧ D'.slots[fC.slot]? = some (.int 0) ∧ Arr .byte s.heap.size V u ∧ V.vm = .none ∧ u.vm.findClass "[B" = some V.cls ∧ V.slots.size = len ∧ (∀ j, j < len → V.slots[j]? = some (.int (lo8 (cv A (o + j))))) ∧ (∀ (y : Addr) (c : Cell), y ≠ a → s.heap[y]? = some c → u.heap[y]? = some c) ∧ u.heap.size = s.heap.size + 1
theorem Got.mv {a : Addr} {D A : Cell} {fV fC : Field} {o len : Nat} : ∀ r (U U' V V' : State), U'.heap = U.heap → V.vm.Alike V'.vm → V'.heap = V.heap → Got a D fV fC A o len r U V → Got a D fV fC A o len r U' V' :=
  fun r U U' V V' h1 hal h2 ⟨e0, D', X, a1, a2, a3, a4, a5, a6, a7, a8, a9, a10, a11⟩ => ⟨e0, D', X, a1.mv hal h2, a2, by rw [h1]; exact a3, a4, by rw [h1]; exact a5.mv hal h2, a6, by rw [hal.findClass]; exact a7, a8, a9, by rw [h1, h2]; exact a10, by rw [h1, h2]; exact a11⟩
namespace New4
def yN : MethodName := ⟨"java/lang/String", "<init>", "([CIILjava/lang/Void;)V"⟩
abbrev yB : ByteArray := jdk_42_method_149_code
theorem d0 : decode yB 0 = .ok (.aload_n 0, 1) := by decide +kernel
theorem d1 : decode yB 1 = .ok (.invokespecial 1, 3) := by decide +kernel
theorem d4 : decode yB 4 = .ok (.iload_n 3, 1) := by decide +kernel
theorem d5 : decode yB 5 = .ok (.ifCond (.ne) 22, 3) := by decide +kernel
theorem d27 : decode yB 27 = .ok (.getstatic 38, 3) := by decide +kernel
theorem d30 : decode yB 30 = .ok (.ifCond (.eq) 28, 3) := by decide +kernel
theorem d33 : decode yB 33 = .ok (.aload_n 1, 1) := by decide +kernel
theorem d34 : decode yB 34 = .ok (.iload_n 2, 1) := by decide +kernel
theorem d35 : decode yB 35 = .ok (.iload_n 3, 1) := by decide +kernel
theorem d36 : decode yB 36 = .ok (.invokestatic 177, 3) := by decide +kernel
theorem d39 : decode yB 39 = .ok (.astore 5, 2) := by decide +kernel
theorem d41 : decode yB 41 = .ok (.aload_n 0, 1) := by decide +kernel
theorem d42 : decode yB 42 = .ok (.aload 5, 2) := by decide +kernel
theorem d44 : decode yB 44 = .ok (.iload_n 3, 1) := by decide +kernel
theorem d45 : decode yB 45 = .ok (.invokestatic 47, 3) := by decide +kernel
theorem d48 : decode yB 48 = .ok (.putfield 15, 3) := by decide +kernel
theorem d51 : decode yB 51 = .ok (.aload_n 0, 1) := by decide +kernel
theorem d52 : decode yB 52 = .ok (.aload 5, 2) := by decide +kernel
theorem d54 : decode yB 54 = .ok (.putfield 9, 3) := by decide +kernel
theorem d57 : decode yB 57 = .ok (.return_, 1) := by decide +kernel
def site : List Cond := [.fieldLink "java/lang/String" 38 "java/lang/String" "COMPACT_STRINGS" "Z", Cmp3.tab, CodL.tab, .laysFinal "java/lang/String" "java/lang/String" "value" "[B", .fieldLink "java/lang/String" 9 "java/lang/String" "value" "[B", .laysFinal "java/lang/String" "java/lang/String" "coder" "B", .fieldLink "java/lang/String" 15 "java/lang/String" "coder" "B"] ++ objW "java/lang/String" 1 ++ staticW "java/lang/String" 177 Cmp3.yN ++ staticW "java/lang/String" 47 CodL.yN
def tab : Cond := tabOf yN yB 6 none site
def P (a : Addr) (D : Cell) (fV fC : Field) (b : Addr) (A : Cell) (z : Int32) (o len : Nat) (args : Array Value) (s : State) : Prop := args = #[.ref a, .ref b, .int (Int32.ofNat o), .int (Int32.ofNat len), .null] ∧ Blank "java/lang/String" a D s ∧ Found "java/lang/String" "value" "[B" fV s ∧ Found "java/lang/String" "coder" "B" fC s ∧ Ch b A s ∧ StaticIs s "java/lang/String" "COMPACT_STRINGS" "Z" (.int z) ∧ ¬ z = 0 ∧ 0 < len ∧ o + len ≤ A.slots.size ∧ len ≤ 536870912 ∧ ∀ i, i < len → ¬ 255 < cv A (o + i)
def E (a : Addr) (D : Cell) (fV fC : Field) (A : Cell) (o len : Nat) (r : Option Value) (s u : State) : Prop := Got a D fV fC A o len r s u
/-- len > 0, no char of the range above 255: a Latin-1 String of their low bytes -/
theorem law (l : Launch) (a : Addr) (D : Cell) (fV fC : Field) (b : Addr) (A : Cell) (z : Int32) (o len : Nat) : Law l yN 5 4 2 35 yB 6 none site (P a D fV fC b A z o len) (E a D fV fC A o len) [⟨a, fC.slot⟩, ⟨a, fV.slot⟩] 1 len := by
  refine Law.of_walk (plainFor_of_name (by decide +kernel)) (by decide +kernel) (by decide +kernel) (by decide) (fun _ _ h => by rw [h.1]; rfl) (fun _ U U' hal hh h => ⟨h.1, h.2.1.mv hal hh, h.2.2.1.al hal, h.2.2.2.1.al hal, h.2.2.2.2.1.mv hal hh, h.2.2.2.2.2.1.there hal hh, h.2.2.2.2.2.2⟩) (fun r U U' V V' h1 hal h2 h => Got.mv r U U' V V' h1 hal h2 h) ?_
  intro p e s m args below meth c s₁ X0 hexec hbytes hml hret hlk hnm hown hh0 W hP
  obtain ⟨rfl, hB, f1, f2, hA, s1, hz, l0, l1, l2, hp⟩ := hP
  have a31 := hA.1.2.2.2
  have c1 : Steps p.tables e below (s₁.setTop (entryFrame m #[.ref a, .ref b, .int (Int32.ofNat o), .int (Int32.ofNat len), .null] 6)) (s₁.setTop (mkF m 0 #[.val (.ref a), .val (.ref b), .val (.int (Int32.ofNat o)), .val (.int (Int32.ofNat len)), .val .null, .unset] [])) := entry rfl
  have c2 : Steps p.tables e below (s₁.setTop (entryFrame m #[.ref a, .ref b, .int (Int32.ofNat o), .int (Int32.ofNat len), .null] 6)) (s₁.setTop (mkF m 1 #[.val (.ref a), .val (.ref b), .val (.int (Int32.ofNat o)), .val (.int (Int32.ofNat len)), .val .null, .unset] [.ref a])) := c1.trans (by
    refine XS.aloadN X0.here hexec rfl (hb hbytes d0) rfl rfl ?_
    exact Steps.refl _)
  obtain ⟨T3, X3, q3, st3⟩ := X0.oinit hexec hown (wks W (objW "java/lang/String" 1)) (g := (mkF m 1 #[.val (.ref a), .val (.ref b), .val (.int (Int32.ofNat o)), .val (.int (Int32.ofNat len)), .val .null, .unset] [.ref a])) rfl (by rw [hml]; rfl) (rest := []) rfl (hb hbytes d1) (W := 0) (by show 2 * 0 + 0 ≤ _; decide) (Nat.le_of_ble_eq_true rfl) (Nat.le_of_ble_eq_true rfl)
  have hh3 := q3.trans hh0
  have c4 : Steps p.tables e below (s₁.setTop (entryFrame m #[.ref a, .ref b, .int (Int32.ofNat o), .int (Int32.ofNat len), .null] 6)) (T3.setTop (mkF m 27 #[.val (.ref a), .val (.ref b), .val (.int (Int32.ofNat o)), .val (.int (Int32.ofNat len)), .val .null, .unset] [])) := (c2.trans (st3 _ (Steps.refl _))).trans (by
    refine XS.iloadN X3.here hexec rfl (hb hbytes d4) rfl ?_
    refine XS.ifYes X3.here hexec rfl (pc0 := 5) rfl (hb hbytes d5) rfl (i0_ne_t (nz32 (by omega) l0)) (by decide) rfl ?_
    exact Steps.refl _)
  obtain ⟨T5, X5, q5, st5⟩ := X3.sget hexec hown (wk W (.fieldLink "java/lang/String" 38 "java/lang/String" "COMPACT_STRINGS" "Z")) s1 (fun _ _ h => by rw [hh3]; exact h) (g := (mkF m 27 #[.val (.ref a), .val (.ref b), .val (.int (Int32.ofNat o)), .val (.int (Int32.ofNat len)), .val .null, .unset] [])) rfl (hb hbytes d27)
  have hh5 := q5.trans hh3
  have c6 : Steps p.tables e below (s₁.setTop (entryFrame m #[.ref a, .ref b, .int (Int32.ofNat o), .int (Int32.ofNat len), .null] 6)) (T5.setTop (mkF m 30 #[.val (.ref a), .val (.ref b), .val (.int (Int32.ofNat o)), .val (.int (Int32.ofNat len)), .val .null, .unset] [.int z])) := c4.trans (st5 _ (Steps.refl _))
  have c7 : Steps p.tables e below (s₁.setTop (entryFrame m #[.ref a, .ref b, .int (Int32.ofNat o), .int (Int32.ofNat len), .null] 6)) (T5.setTop (mkF m 36 #[.val (.ref a), .val (.ref b), .val (.int (Int32.ofNat o)), .val (.int (Int32.ofNat len)), .val .null, .unset] [.int (Int32.ofNat len), .int (Int32.ofNat o), .ref b])) := c6.trans (by
    refine XS.ifNo X5.here hexec rfl (hb hbytes d30) rfl (i0_eq_f hz) ?_
    refine XS.aloadN X5.here hexec rfl (hb hbytes d33) rfl rfl ?_
    refine XS.iloadN X5.here hexec rfl (hb hbytes d34) rfl ?_
    refine XS.iloadN X5.here hexec rfl (hb hbytes d35) rfl ?_
    exact Steps.refl _)
  obtain ⟨v8, T8, X8, E8, g8⟩ := X5.callS hexec (Cmp3.law l b A o len) hown (wks W (staticW "java/lang/String" 177 Cmp3.yN)) (wk W Cmp3.tab) (W := 0) (Nat.le_of_ble_eq_true rfl) (Nat.le_of_ble_eq_true rfl) (Nat.le_refl _) (by show 0 + len ≤ len; omega) (g := (mkF m 36 #[.val (.ref a), .val (.ref b), .val (.int (Int32.ofNat o)), .val (.int (Int32.ofNat len)), .val .null, .unset] [.int (Int32.ofNat len), .int (Int32.ofNat o), .ref b])) rfl (by rw [hml]; rfl) c7 (argsL := [.ref b, .int (Int32.ofNat o), .int (Int32.ofNat len)]) (rest := []) rfl rfl (by show 2 * 0 + 0 ≤ _; decide) (hb hbytes d36) (⟨rfl, hA.mv X5.warmed.alike hh5, l1, l2, hp⟩)
  obtain ⟨e8, z8⟩ := E8
  obtain ⟨rfl, N, n1, n2, n3, n4, n5, n6⟩ := NewArr.mv _ T5 s _ _ hh5.symm (Vm.Alike.refl _) rfl e8
  rw [hh5] at z8
  have hB1 := hB.keep X8.warmed.alike (n6 _ _ hB.1)
  have hne : s.heap.size ≠ a := (Nat.ne_of_lt (Array.getElem?_eq_some_iff.mp hB.1).1).symm
  have c9 : Steps p.tables e below (s₁.setTop (entryFrame m #[.ref a, .ref b, .int (Int32.ofNat o), .int (Int32.ofNat len), .null] 6)) (T8.setTop (mkF m 39 #[.val (.ref a), .val (.ref b), .val (.int (Int32.ofNat o)), .val (.int (Int32.ofNat len)), .val .null, .unset] [.ref s.heap.size])) := g8
  have c10 : Steps p.tables e below (s₁.setTop (entryFrame m #[.ref a, .ref b, .int (Int32.ofNat o), .int (Int32.ofNat len), .null] 6)) (T8.setTop (mkF m 45 #[.val (.ref a), .val (.ref b), .val (.int (Int32.ofNat o)), .val (.int (Int32.ofNat len)), .val .null, .val (.ref s.heap.size)] [.int (Int32.ofNat N.slots.size), .ref s.heap.size, .ref a])) := by
    have hc : Steps p.tables e below (s₁.setTop (entryFrame m #[.ref a, .ref b, .int (Int32.ofNat o), .int (Int32.ofNat len), .null] 6)) (T8.setTop (mkF m 45 #[.val (.ref a), .val (.ref b), .val (.int (Int32.ofNat o)), .val (.int (Int32.ofNat len)), .val .null, .val (.ref s.heap.size)] [.int (Int32.ofNat len), .ref s.heap.size, .ref a])) := c9.trans (by
      refine XS.astore X8.here hexec rfl (hb hbytes d39) rfl rfl rfl ?_
      refine XS.aloadN X8.here hexec rfl (hb hbytes d41) rfl rfl ?_
      refine XS.aload X8.here hexec rfl (hb hbytes d42) rfl rfl ?_
      refine XS.iloadN X8.here hexec rfl (hb hbytes d44) rfl ?_
      exact Steps.refl _)
    rw [n4]; exact hc
  obtain ⟨v11, T11, X11, E11, g11⟩ := X8.callS hexec (CodL.law l s.heap.size N) hown (wks W (staticW "java/lang/String" 47 CodL.yN)) (wk W CodL.tab) (W := 1) (Nat.le_of_ble_eq_true rfl) (Nat.le_of_ble_eq_true rfl) (Nat.le_refl _) (by show 0 + len + 0 ≤ len; omega) (g := (mkF m 45 #[.val (.ref a), .val (.ref b), .val (.int (Int32.ofNat o)), .val (.int (Int32.ofNat len)), .val .null, .val (.ref s.heap.size)] [.int (Int32.ofNat N.slots.size), .ref s.heap.size, .ref a])) rfl (by rw [hml]; rfl) c10 (argsL := [.ref s.heap.size, .int (Int32.ofNat N.slots.size)]) (rest := [.ref a]) rfl rfl (by show 2 * 0 + (1 + 0) ≤ _; decide) (hb hbytes d45) (⟨rfl, n1⟩)
  obtain ⟨rfl, q11⟩ := E11
  have hB11 := hB1.mv (X8.warmed.alike.symm.trans X11.warmed.alike) q11
  have c12 : Steps p.tables e below (s₁.setTop (entryFrame m #[.ref a, .ref b, .int (Int32.ofNat o), .int (Int32.ofNat len), .null] 6)) (T11.setTop (mkF m 48 #[.val (.ref a), .val (.ref b), .val (.int (Int32.ofNat o)), .val (.int (Int32.ofNat len)), .val .null, .val (.ref s.heap.size)] [.int 0, .ref a])) := g11
  obtain ⟨T13, X13, p13, bl13, sl13, st13⟩ := X11.finit hexec hown (wk W (.fieldLink "java/lang/String" 15 "java/lang/String" "coder" "B")) (Or.inr ⟨_, (wk W (.laysFinal "java/lang/String" "java/lang/String" "coder" "B"))⟩) (Or.inl ⟨rfl, hnm⟩) f2 (Or.inl rfl) hB11 (t := .byte) (by decide +kernel) rfl (g := (mkF m 48 #[.val (.ref a), .val (.ref b), .val (.int (Int32.ofNat o)), .val (.int (Int32.ofNat len)), .val .null, .val (.ref s.heap.size)] [.int 0, .ref a])) rfl (rest := []) rfl (hb hbytes d48)
  have c14 : Steps p.tables e below (s₁.setTop (entryFrame m #[.ref a, .ref b, .int (Int32.ofNat o), .int (Int32.ofNat len), .null] 6)) (T13.setTop (mkF m 54 #[.val (.ref a), .val (.ref b), .val (.int (Int32.ofNat o)), .val (.int (Int32.ofNat len)), .val .null, .val (.ref s.heap.size)] [.ref s.heap.size, .ref a])) := (c12.trans (st13 _ (Steps.refl _))).trans (by
    refine XS.aloadN X13.here hexec rfl (hb hbytes d51) rfl rfl ?_
    refine XS.aload X13.here hexec rfl (hb hbytes d52) rfl rfl ?_
    exact Steps.refl _)
  obtain ⟨T15, X15, p15, bl15, sl15, st15⟩ := X13.finit hexec hown (wk W (.fieldLink "java/lang/String" 9 "java/lang/String" "value" "[B")) (Or.inr ⟨_, (wk W (.laysFinal "java/lang/String" "java/lang/String" "value" "[B"))⟩) (Or.inl ⟨rfl, hnm⟩) f1 (Or.inl rfl) bl13 (t := (.array .byte)) (by decide +kernel) rfl (g := (mkF m 54 #[.val (.ref a), .val (.ref b), .val (.int (Int32.ofNat o)), .val (.int (Int32.ofNat len)), .val .null, .val (.ref s.heap.size)] [.ref s.heap.size, .ref a])) rfl (rest := []) rfl (hb hbytes d54)
  have c16 : Steps p.tables e below (s₁.setTop (entryFrame m #[.ref a, .ref b, .int (Int32.ofNat o), .int (Int32.ofNat len), .null] 6)) (T15.setTop (mkF m 57 #[.val (.ref a), .val (.ref b), .val (.int (Int32.ofNat o)), .val (.int (Int32.ofNat len)), .val .null, .val (.ref s.heap.size)] [])) := c14.trans (st15 _ (Steps.refl _))
  have ap := apart (Or.inr ⟨_, (wk W (.laysFinal "java/lang/String" "java/lang/String" "value" "[B"))⟩) (Or.inr ⟨_, (wk W (.laysFinal "java/lang/String" "java/lang/String" "coder" "B"))⟩) f1 f2 (t₁ := .array .byte) (t₂ := .byte) (by decide +kernel) (by decide +kernel) (by decide)
  have al := X8.warmed.alike.symm.trans X15.warmed.alike
  have n7 : T11.heap[s.heap.size]? = some N := by rw [q11]; exact n1.1
  exact ⟨T15, none, _, _, _, X15, by simp, rfl, by omega, (fun _ => rfl), ⟨rfl, _, N, bl15, ((Same.refl D _).set _ (by simp)).set _ (by simp), sl15, (Cell.slots_setSlot_ne _ ap).trans sl13, n1.keep al (p15.other hne (p13.other hne n7)), n2, by rw [al.findClass]; exact n3, n4, n5, fun y c h1 h2 => p15.other h1 (p13.other h1 (by rw [q11]; exact n6 y c h2)), by rw [p15.2.2, p13.2.2, q11]; exact z8⟩, fun fs hl => c16.trans (X15.returnOut hexec hret (hb hbytes d57) hl)⟩
end New4
namespace New1
def yN : MethodName := ⟨"java/lang/String", "<init>", "([C)V"⟩
abbrev yB : ByteArray := jdk_42_method_3_code
theorem d0 : decode yB 0 = .ok (.aload_n 0, 1) := by decide +kernel
theorem d1 : decode yB 1 = .ok (.aload_n 1, 1) := by decide +kernel
theorem d2 : decode yB 2 = .ok (.iconst 0, 1) := by decide +kernel
theorem d3 : decode yB 3 = .ok (.aload_n 1, 1) := by decide +kernel
theorem d4 : decode yB 4 = .ok (.arraylength, 1) := by decide +kernel
theorem d5 : decode yB 5 = .ok (.aconst_null, 1) := by decide +kernel
theorem d6 : decode yB 6 = .ok (.invokespecial 27, 3) := by decide +kernel
theorem d9 : decode yB 9 = .ok (.return_, 1) := by decide +kernel
def site : List Cond := [New4.tab] ++ initW "java/lang/String" 27 New4.yN
def tab : Cond := tabOf yN yB 2 none site
def P (a : Addr) (D : Cell) (fV fC : Field) (b : Addr) (A : Cell) (z : Int32) (args : Array Value) (s : State) : Prop := args = #[.ref a, .ref b] ∧ Blank "java/lang/String" a D s ∧ Found "java/lang/String" "value" "[B" fV s ∧ Found "java/lang/String" "coder" "B" fC s ∧ Ch b A s ∧ StaticIs s "java/lang/String" "COMPACT_STRINGS" "Z" (.int z) ∧ ¬ z = 0 ∧ 0 < A.slots.size ∧ A.slots.size ≤ 536870912 ∧ ∀ i, i < A.slots.size → ¬ 255 < cv A i
def E (a : Addr) (D : Cell) (fV fC : Field) (A : Cell) (r : Option Value) (s u : State) : Prop := Got a D fV fC A 0 A.slots.size r s u
/-- new String(chars), not empty, no char above 255: a Latin-1 String of their low bytes -/
theorem law (l : Launch) (a : Addr) (D : Cell) (fV fC : Field) (b : Addr) (A : Cell) (z : Int32) : Law l yN 2 1 3 52 yB 2 none site (P a D fV fC b A z) (E a D fV fC A) [⟨a, fC.slot⟩, ⟨a, fV.slot⟩] 1 A.slots.size := by
  refine Law.of_walk (plainFor_of_name (by decide +kernel)) (by decide +kernel) (by decide +kernel) (by decide) (fun _ _ h => by rw [h.1]; rfl) (fun _ U U' hal hh h => ⟨h.1, h.2.1.mv hal hh, h.2.2.1.al hal, h.2.2.2.1.al hal, h.2.2.2.2.1.mv hal hh, h.2.2.2.2.2.1.there hal hh, h.2.2.2.2.2.2⟩) (fun r U U' V V' h1 hal h2 h => Got.mv r U U' V V' h1 hal h2 h) ?_
  intro p e s m args below meth c s₁ X0 hexec hbytes hml hret hlk hnm hown hh0 W hP
  obtain ⟨rfl, hB, f1, f2, hA, s1, hz, l0, l2, hp⟩ := hP
  have c1 : Steps p.tables e below (s₁.setTop (entryFrame m #[.ref a, .ref b] 2)) (s₁.setTop (mkF m 0 #[.val (.ref a), .val (.ref b)] [])) := entry rfl
  have c2 : Steps p.tables e below (s₁.setTop (entryFrame m #[.ref a, .ref b] 2)) (s₁.setTop (mkF m 6 #[.val (.ref a), .val (.ref b)] [.null, .int (Int32.ofNat A.slots.size), .int 0, .ref b, .ref a])) := c1.trans (by
    refine XS.aloadN X0.here hexec rfl (hb hbytes d0) rfl rfl ?_
    refine XS.aloadN X0.here hexec rfl (hb hbytes d1) rfl rfl ?_
    refine iconstV X0.here hexec rfl 0 (hb hbytes d2) (by decide) ?_
    refine XS.aloadN X0.here hexec rfl (hb hbytes d3) rfl rfl ?_
    refine X0.alen hexec (hA.1.mv X0.warmed.alike hh0) rfl rfl (hb hbytes d4) ?_
    refine XS.aconstNull X0.here hexec rfl (hb hbytes d5) ?_
    exact Steps.refl _)
  obtain ⟨v3, T3, X3, E3, g3⟩ := X0.callN hexec (New4.law l a D fV fC b A z 0 A.slots.size) rfl hown (wks W (initW "java/lang/String" 27 New4.yN)) (W New4.tab (by simp only [site, List.mem_cons, List.mem_append, true_or, or_true])) (W := 0) (Nat.le_of_ble_eq_true rfl) (Nat.le_of_ble_eq_true rfl) (Nat.le_refl _) (by show 0 + A.slots.size ≤ A.slots.size; omega) (g := (mkF m 6 #[.val (.ref a), .val (.ref b)] [.null, .int (Int32.ofNat A.slots.size), .int (Int32.ofNat 0), .ref b, .ref a])) rfl (by rw [hml]; rfl) c2 (argsL := [.ref b, .int (Int32.ofNat 0), .int (Int32.ofNat A.slots.size), .null]) (rest := []) rfl rfl (by show 2 * 0 + 0 ≤ _; decide) (hb hbytes d6) (⟨rfl, hB.mv X0.warmed.alike hh0, f1.al X0.warmed.alike, f2.al X0.warmed.alike, hA.mv X0.warmed.alike hh0, s1.there X0.warmed.alike hh0, hz, l0, by omega, l2, fun i hi => by rw [Nat.zero_add]; exact hp i hi⟩)
  have e0 := Got.mv _ s₁ s _ _ hh0.symm (Vm.Alike.refl _) rfl E3
  obtain rfl := e0.1
  have c4 : Steps p.tables e below (s₁.setTop (entryFrame m #[.ref a, .ref b] 2)) (T3.setTop (mkF m 9 #[.val (.ref a), .val (.ref b)] [])) := g3
  exact ⟨T3, none, _, _, _, X3, by simp, rfl, by omega, (fun _ => rfl), e0, fun fs hl => c4.trans (X3.returnOut hexec hret (hb hbytes d9) hl)⟩
theorem pays {l : Launch} {R : Room} {p : Program} {e : Env} {below : List Frame} {s : State} {sargs : Array Value} {len W : Nat} (a : Addr) (D : Cell) (fV fC : Field) (b : Addr) (A : Cell) (z : Int32) (htab : tab.before sargs s = true) (hfr : 4 ≤ R.frames) (hlo : W + 65 ≤ R.locals) :
    Back l R p e below s sargs yN len W (fun A₁ a₁ => A₁.cells + 1 ≤ R.cells ∧ A₁.slots + A.slots.size ≤ R.slots ∧ P a D fV fC b A z a₁ A₁.U) (fun A₁ _ v₁ B₁ => E a D fV fC A v₁ A₁.U B₁.U ∧ B₁.locs = A₁.locs ++ [⟨a, fC.slot⟩, ⟨a, fV.slot⟩] ∧ B₁.cells = A₁.cells + 1 ∧ B₁.slots = A₁.slots + A.slots.size) :=
  (law l a D fV fC b A z).pays htab hfr (by omega)
end New1
/-- the byte, read back as charAt reads it, is the char -/
theorem lo8_mask {x : Int32} (h0 : ¬ x < 0) (h1 : ¬ 255 < x) : lo8 x &&& 255 = x := by
  have t : ∀ k : Fin 256, lo8 (Int32.ofNat k.val) &&& 255 = Int32.ofNat k.val := by decide +kernel
  rw [Int32.lt_iff_toInt_lt] at h0 h1
  have e0 : (0 : Int32).toInt = 0 := rfl
  have e1 : (255 : Int32).toInt = 255 := rfl
  obtain ⟨k, hk⟩ : ∃ k : Nat, x.toInt = k := ⟨x.toInt.toNat, by omega⟩
  have hx : x = Int32.ofNat k := Int32.toInt_inj.mp (by rw [hk, Int32.toInt_ofNat_small (by omega)])
  rw [hx]
  exact t ⟨k, by omega⟩
end StrChars
namespace StrChars.Road
open Jvm Sem ClassFile Op Lib Jvm.Stand Jvm.Free Jvm.Free.XT
open Jvm.Lib.Cold (StaticIs)
abbrev ST : String := "java/lang/String"
/-- every table word that New1's law asks, flat -/
abbrev words : List Jvm.Cond := [.code New1.yN New1.yB 2 none, .initialized ST, .methodLink ST 27 New4.yN, .instanceMethod New4.yN,
  .code New4.yN New4.yB 6 none, .fieldLink ST 38 ST "COMPACT_STRINGS" "Z", .laysFinal ST ST "value" "[B", .fieldLink ST 9 ST "value" "[B", .laysFinal ST ST "coder" "B", .fieldLink ST 15 ST "coder" "B",
  .methodLink ST 1 Lib.objectInit, .instanceMethod Lib.objectInit, .code Lib.objectInit ⟨#[0xb1]⟩ 1 none, .methodLink ST 177 Cmp3.yN, .static Cmp3.yN, .methodLink ST 47 CodL.yN, .static CodL.yN,
  .code Cmp3.yN Cmp3.yB 6 (some (.array .byte)), .initialized U16, .arrayClass .byte, .methodLink U16 115 Cmp5.yN, .static Cmp5.yN, .code Cmp5.yN Cmp5.yB 7 (some .int), .code CodL.yN CodL.yB 2 (some .byte)]
theorem tab_of {a : Array Value} {s : State} (h : ∀ w ∈ words, w.before a s = true) : New1.tab.before a s = true := by
  have h5 : Cmp5.tab.before a s = true := unparts (wk h (.code Cmp5.yN Cmp5.yB 7 (some .int))) (wks h (.initialized Cmp5.yN.cls :: Cmp5.site))
  have hc : CodL.tab.before a s = true := unparts (wk h (.code CodL.yN CodL.yB 2 (some .byte))) (wks h (.initialized CodL.yN.cls :: CodL.site))
  have q5 : ∀ w ∈ Cmp5.tab :: words, w.before a s = true := fun w hw => (List.mem_cons.mp hw).elim (fun e => e ▸ h5) (h w)
  have h3 : Cmp3.tab.before a s = true := unparts (wk q5 (.code Cmp3.yN Cmp3.yB 6 (some (.array .byte)))) (wks q5 (.initialized Cmp3.yN.cls :: Cmp3.site))
  have q3 : ∀ w ∈ Cmp3.tab :: CodL.tab :: words, w.before a s = true := fun w hw => (List.mem_cons.mp hw).elim (fun e => e ▸ h3) fun hw => (List.mem_cons.mp hw).elim (fun e => e ▸ hc) (h w)
  have h4 : New4.tab.before a s = true := unparts (wk q3 (.code New4.yN New4.yB 6 none)) (wks q3 (.initialized New4.yN.cls :: New4.site))
  have q4 : ∀ w ∈ New4.tab :: words, w.before a s = true := fun w hw => (List.mem_cons.mp hw).elim (fun e => e ▸ h4) (h w)
  exact unparts (wk q4 (.code New1.yN New1.yB 2 none)) (wks q4 (.initialized New1.yN.cls :: New1.site))
/-- the words ride from the start Z to the walk's own state -/
theorem moved {Z s : State} {a0 args : Array Value} (hZ : Z.Warmed39 s.vm) (hw : ∀ d ∈ words, d.before a0 Z = true) : ∀ d ∈ words, d.before args s = true := fun d hd => by
  have q := hw d hd
  have t : ∀ d ∈ words, d = .arrayClass .byte ∨ (d.onTables && d.keepsFace) = true := by decide +kernel
  rcases t d hd with rfl | t
  · exact RoadKit.mvA hZ q
  · exact RoadKit.mv hZ q t
/-- WHAT COMES BACK, over the tables of the start Z: h the heap at the call, h' behind it -/
def Q (Z : State) (x : Addr) (A : Cell) (h : Heap) (v : Option Value) (h' : Heap) (L : List Loc) : Prop := v = none ∧ (∀ y ∈ L, y.base = x) ∧ RoadKit.Keep h h' [x] ∧ h'.size = h.size + 1 ∧ RoadKit.Exa Z h' x ST ∧ RoadKit.Fld Z h' x ST "value" "[B" (.ref h.size) ∧ RoadKit.Fld Z h' x ST "coder" "B" (.int 0) ∧
  (∃ V : Cell, RoadKit.Arr Z h' h.size V .byte ∧ V.vm = .none ∧ Z.vm.findClass "[B" = some V.cls ∧ V.slots.size = A.slots.size ∧ ∀ j, j < A.slots.size → V.slots[j]? = some (.int (lo8 (cv A j)))) ∧
  ∀ (O n d : String) (w : Value), RoadKit.Fld Z h x O n d w → RoadKit.slotOf Z O n d ≠ RoadKit.slotOf Z ST "value" "[B" → RoadKit.slotOf Z O n d ≠ RoadKit.slotOf Z ST "coder" "B" → RoadKit.Fld Z h' x O n d w
/-- **new String(chars) AT A CALL, IN THE ROAD'S FORM**: for specialBack behind newO: x the fresh String, b the char[] with the cell A -/
theorem back {p : Program} {l : Launch} {e : Env} {R : Room} {s : State} {args : Array Value} {below : List Frame} {len W : Nat} {Z : State} {a0 : Array Value} {h : Heap} (hZ : Z.Warmed39 s.vm) (hw : ∀ d ∈ words, d.before a0 Z = true) {kI : Nat} (wi : (Jvm.Cond.instantiable ST kI).before a0 Z = true)
    {x b : Addr} {A : Cell} {z : Int32} {v0 c0 : Value} (E : RoadKit.Exa Z h x ST) (V : RoadKit.Fld Z h x ST "value" "[B" v0) (C : RoadKit.Fld Z h x ST "coder" "B" c0) (K : RoadKit.Arr Z h b A .char) (hty : Typed .char A) (S : RoadKit.Sta Z h ST "COMPACT_STRINGS" "Z" (.int z)) (hz : ¬ z = 0)
    (l0 : 0 < A.slots.size) (l2 : A.slots.size ≤ 536870912) (hp : ∀ i, i < A.slots.size → ¬ 255 < cv A i) (hfr : 4 ≤ R.frames) (hlo : W + 65 ≤ R.locals) :
    Back l R p e below s args New1.yN len W (fun P a => a = #[.ref x, .ref b] ∧ P.U.heap = h ∧ P.cells + 1 ≤ R.cells ∧ P.slots + A.slots.size ≤ R.slots)
      (fun P _ v B => ∃ L, Q Z x A h v B.U.heap L ∧ B.locs = P.locs ++ L ∧ B.cells = P.cells + 1 ∧ B.slots = P.slots + A.slots.size) := by
  intro m meth c P g ig mk a X hg hsize hdg hW hn hp'
  obtain ⟨rfl, rfl, r1, r2⟩ := hp'
  have al : Z.vm.Alike P.U.vm := hZ.alike.trans X.warmed.alike
  obtain ⟨D, cfV, kV, iV, fV, hD, gV, stV, knV, obV, asV, slV⟩ := id V
  obtain ⟨D', cfC, kC, iC, fC, hD', gC, stC, -, -, asC, slC⟩ := id C
  cases hD.symm.trans hD'
  obtain ⟨D2, kD, e1, e2, e3, e4, e5⟩ := id E
  cases hD.symm.trans e1
  obtain ⟨c2, k2, i1, i2, i3, -⟩ := Cond.instantiable_spec wi
  cases e2.symm.trans i1
  cases e3.symm.trans i2
  obtain ⟨kU, u1, u2⟩ := al.2.2 _ _ e3
  have hB : Blank ST x D P.U := ⟨hD, ⟨knV, fun q hq => by rw [hq] at obV; cases obV⟩, by rw [al.findClass]; exact e2, kU, u1, by rw [u2]; exact i3, by rw [u2]; exact e5 i3⟩
  have F1 : Found ST "value" "[B" fV P.U := ⟨SBG.found_only al ⟨cfV, kV, iV, gV⟩, stV⟩
  have F2 : Found ST "coder" "B" fC P.U := ⟨SBG.found_only al ⟨cfC, kC, iC, gC⟩, stC⟩
  have hA : Ch b A P.U := ⟨⟨K.1, State.isArrayOf_alike al K.2.1, K.2.2, by omega⟩, hty⟩
  have hS : StaticIs P.U ST "COMPACT_STRINGS" "Z" (.int z) := by
    obtain ⟨cfS, iS, kS, fS, st, cS, t1, t2, t3, t4, t5, t6, t7⟩ := S
    exact StaticIs.there (s := { Z with heap := P.U.heap }) ⟨cfS, iS, kS, fS, st, cS, t1, t2, t3, t4, t5, (fun q => by rw [q] at t6; cases t6), t7⟩ al rfl
  obtain ⟨v, B, X', ⟨⟨hv, E', V', q1, q2, q3, q4, q5, q6, q7, q8, q9, q10, q11⟩, hl, hc, hs⟩, st⟩ := New1.pays x D fV fC b A z (tab_of (moved hZ hw)) hfr hlo m meth c P g ig mk _ X hg hsize hdg hW hn ⟨r1, r2, rfl, hB, F1, F2, hA, hS, hz, l0, l2, hp⟩
  have al' : Z.vm.Alike B.U.vm := hZ.alike.trans X'.warmed.alike
  have hsz : E'.slots.size = D.slots.size := by
    obtain ⟨-, -, -, kB, w1, w2, w3⟩ := q1
    obtain ⟨kB', y1, y2⟩ := al'.2.2 _ _ e3
    rw [q2.2.1] at w1
    cases w1.symm.trans y1
    rw [w3, e5 i3, y2]
  refine ⟨v, B, X', ⟨_, ⟨hv, ?_, ⟨by omega, fun y cy hy hn' => q10 y cy (by simpa using hn') hy, fun y cy hy => ?_⟩, q11, ⟨E', _, q1.1, by rw [q2.2.1]; exact e2, by rw [q2.2.1]; exact e3, by rw [q2.1]; exact obV, fun _ => by rw [hsz]; exact e5 i3⟩,
    ⟨E', cfV, kV, iV, fV, q1.1, gV, stV, by rw [q2.1]; exact knV, by rw [q2.1]; exact obV, by rw [q2.2.1]; exact asV, q3⟩, ⟨E', cfC, kC, iC, fC, q1.1, gC, stC, by rw [q2.1]; exact knV, by rw [q2.1]; exact obV, by rw [q2.2.1]; exact asC, q4⟩,
    ⟨V', ⟨q5.1, State.isArrayOf_alike al'.symm q5.2.1, q5.2.2.1⟩, q6, by rw [← al'.findClass]; exact q7, q8, fun j hj => by have := q9 j hj; rwa [Nat.zero_add] at this⟩, fun O n d w F n1 n2 => ?_⟩, hl, hc, hs⟩, st⟩
  · intro y hy
    simp only [List.mem_cons, List.not_mem_nil, or_false] at hy
    rcases hy with rfl | rfl <;> rfl
  · by_cases q : y = x
    · subst q
      cases hD.symm.trans hy
      exact ⟨E', q1.1, q2.2.1, q2.1, hsz⟩
    · exact ⟨cy, q10 y cy q hy, rfl, rfl, rfl⟩
  · obtain ⟨D3, cf, k, i, f, g1, g2, g3, g4, g5, g6, g7⟩ := F
    cases hD.symm.trans g1
    simp only [RoadKit.slotOf, g2, gV, gC, Option.map_some, Option.getD_some] at n1 n2
    exact ⟨E', cf, k, i, f, q1.1, g2, g3, by rw [q2.1]; exact g4, by rw [q2.1]; exact g5, by rw [q2.2.1]; exact g6, by rw [q2.2.2 f.slot (by simp [n1, n2])]; exact g7⟩
end StrChars.Road
namespace StrChars.Road
open Jvm Sem ClassFile Op Lib Jvm.Stand Jvm.Free Jvm.Free.XT
/-- WHAT COMES BACK, the byte[] as a list of values -/
def QA (Z : State) (x : Addr) (zn : Int32) (cs : List Int32) (h : Heap) (v : Option Value) (h' : Heap) (L : List Loc) : Prop := v = none ∧ (∀ y ∈ L, y.base = x) ∧ RoadKit.Keep h h' [x] ∧ h'.size = h.size + 1 ∧ RoadKit.Exa Z h' x ST ∧ RoadKit.Fld Z h' x ST "value" "[B" (.ref h.size) ∧ RoadKit.Fld Z h' x ST "coder" "B" (.int 0) ∧
  (∃ kb, Z.vm.findClass "[B" = some kb ∧ RoadKit.Arv Z h' h.size kb .byte zn (cs.map fun c => .int (lo8 c)) (.int 0)) ∧
  ∀ (O n d : String) (w : Value), RoadKit.Fld Z h x O n d w → RoadKit.slotOf Z O n d ≠ RoadKit.slotOf Z ST "value" "[B" → RoadKit.slotOf Z O n d ≠ RoadKit.slotOf Z ST "coder" "B" → RoadKit.Fld Z h' x O n d w
/-- **new String(chars) AT A CALL, THE ARRAYS AS LISTS**: the char[] at b holds cs, not empty, no char above 255 -/
theorem backArv {p : Program} {l : Launch} {e : Env} {R : Room} {s : State} {args : Array Value} {below : List Frame} {len W : Nat} {Z : State} {a0 : Array Value} {h : Heap} (hZ : Z.Warmed39 s.vm) (hw : ∀ d ∈ words, d.before a0 Z = true) {kI : Nat} (wi : (Jvm.Cond.instantiable ST kI).before a0 Z = true)
    {x b : Addr} {k : ClassId} {zn z : Int32} {cs : List Int32} {dv v0 c0 : Value} (E : RoadKit.Exa Z h x ST) (V : RoadKit.Fld Z h x ST "value" "[B" v0) (C : RoadKit.Fld Z h x ST "coder" "B" c0) (K : RoadKit.Arv Z h b k .char zn (cs.map Value.int) dv) (S : RoadKit.Sta Z h ST "COMPACT_STRINGS" "Z" (.int z)) (hz : ¬ z = 0)
    (hlen : zn.toNatClampNeg = cs.length) (h0 : 0 < cs.length) (hbig : cs.length ≤ 536870912) (hall : ∀ c ∈ cs, ¬ 255 < c) (hfr : 4 ≤ R.frames) (hlo : W + 65 ≤ R.locals) :
    Back l R p e below s args New1.yN len W (fun P a => a = #[.ref x, .ref b] ∧ P.U.heap = h ∧ P.cells + 1 ≤ R.cells ∧ P.slots + cs.length ≤ R.slots)
      (fun P _ v B => ∃ L, QA Z x zn cs h v B.U.heap L ∧ B.locs = P.locs ++ L ∧ B.cells = P.cells + 1 ∧ B.slots = P.slots + cs.length) := by
  obtain ⟨A, K1, K2, K3, K4, K5, K6⟩ := K
  have e : A.slots.size = cs.length := K3.trans hlen
  have hat : ∀ (i : Nat) (hi : i < cs.length), A.slots[i]? = some (.int cs[i]) := fun i hi => by rw [K5 i (by omega)]; simp [List.getD_eq_getElem?_getD, hi]
  have hcv : ∀ (i : Nat) (hi : i < cs.length), cv A i = cs[i] := fun i hi => by unfold cv; rw [hat i hi]
  have hty : Typed .char A := fun i v hv => by
    have hi : i < A.slots.size := (Array.getElem?_eq_some_iff.mp hv).1
    have q := K5 i hi
    rw [hv] at q
    rw [Option.some.inj q]
    exact K6 i hi
  refine Back.mono (back hZ hw wi E V C K1 hty S hz (by omega) (by omega) (fun i hi => by rw [hcv i (by omega)]; exact hall _ (List.getElem_mem _)) hfr hlo) (fun P a hp => ⟨hp.1, hp.2.1, hp.2.2.1, by rw [e]; exact hp.2.2.2⟩) (fun P a v B hp hq => ?_)
  obtain ⟨L, ⟨q1, q2, q3, q4, q5, q6, q7, ⟨V', v1, v2, v3, v4, v5⟩, q9⟩, hl, hc, hs⟩ := hq
  refine ⟨L, ⟨q1, q2, q3, q4, q5, q6, q7, ⟨V'.cls, v3, V', v1, rfl, by rw [v4, e, hlen], K4, fun i hi => ?_, fun i hi => ?_⟩, q9⟩, hl, hc, by rw [hs, e]⟩
  · have hi' : i < cs.length := by omega
    rw [v5 i (by omega), hcv i hi']; simp [List.getD_eq_getElem?_getD, hi']
  · have hi' : i < cs.length := by omega
    simp only [List.getD_eq_getElem?_getD, List.getElem?_map, List.getElem?_eq_getElem hi', Option.map_some, Option.getD_some]
    exact fits_lo8 _
end StrChars.Road
namespace StrChars.Road
open Jvm Sem ClassFile Op Lib Jvm.Stand Jvm.Free Jvm.Free.XT
/-- WHAT COMES BACK, in the writer's own shape -/
def QV (Z : State) (x : Addr) (N : Int32) (bs : List Int32) (h : Heap) (n0 : Nat) (v : Option Value) (h' : Heap) (L : List Loc) : Prop := v = none ∧ RoadKit.Fr n0 L ∧ RoadKit.Keep h h' [x] ∧ RoadKit.Exa Z h' x ST ∧ RoadKit.Fld Z h' x ST "coder" "B" (.int 0) ∧
  ∃ (t : Addr) (kb : ClassId), n0 ≤ t ∧ h.size ≤ t ∧ ¬ t = x ∧ RoadKit.Fld Z h' x ST "value" "[B" (.ref t) ∧ RoadKit.Arv Z h' t kb .byte N (bs.map Value.int) (.int 0)
/-- **new String(chars) AT A CALL, FOR THE WRITER**: a char[] of n known ints, each 0 to 255 -/
theorem backV {p : Program} {l : Launch} {e : Env} {R : Room} {s : State} {args : Array Value} {below : List Frame} {len W : Nat} {Z : State} {a0 : Array Value} {h : Heap} (hZ : Z.Warmed39 s.vm) (hw : ∀ d ∈ words, d.before a0 Z = true) {kI : Nat} (wi : (Jvm.Cond.instantiable ST kI).before a0 Z = true)
    {x b : Addr} {kC : ClassId} {cs bs : List Int32} {d v0 c0 : Value} {z N : Int32} {n n0 : Nat} (hx0 : n0 ≤ x) (hh0 : n0 ≤ h.size) (E : RoadKit.Exa Z h x ST) (V : RoadKit.Fld Z h x ST "value" "[B" v0) (C : RoadKit.Fld Z h x ST "coder" "B" c0) (K : RoadKit.Arv Z h b kC .char N (cs.map Value.int) d) (S : RoadKit.Sta Z h ST "COMPACT_STRINGS" "Z" (.int z)) (hz : ¬ z = 0)
    (hn : cs.length = n) (hN : N = Int32.ofNat n) (l0 : 0 < n) (l2 : n ≤ 4000) (hp : ∀ c ∈ cs, ¬ c < 0 ∧ ¬ (255 : Int32) < c) (hb : bs = cs.map (fun c => c.toInt8.toInt32)) (hfr : 4 ≤ R.frames) (hlo : W + 65 ≤ R.locals) :
    Back l R p e below s args (⟨"java/lang/String", "<init>", "([C)V"⟩ : MethodName) len W (fun P a => a = #[.ref x, .ref b] ∧ P.U.heap = h ∧ P.cells + 1 ≤ R.cells ∧ P.slots + n ≤ R.slots)
      (fun P _ v B => ∃ L, QV Z x N bs h n0 v B.U.heap L ∧ B.locs = P.locs ++ L ∧ B.cells = P.cells + 1 ∧ B.slots = P.slots + n) := by
  subst hn hN hb
  refine Back.mono (backArv hZ hw wi E V C K S hz (n32 (by omega)) l0 (by omega) (fun c hc => (hp c hc).2) hfr hlo) (fun P a hp => hp) (fun P a v B hp hq => ?_)
  obtain ⟨L, ⟨q1, q2, q3, q4, q5, q6, q7, ⟨kb, v1, v2⟩, q9⟩, hl, hc, hs⟩ := hq
  exact ⟨L, ⟨q1, fun y hy => by rw [q2 y hy]; exact hx0, q3, q5, q7, h.size, kb, hh0, Nat.le_refl _, Nat.ne_of_gt E.lt, q6, by rw [List.map_map]; exact v2⟩, hl, hc, hs⟩
end StrChars.Road
namespace StrChars
open Jvm Sem ClassFile Op Lib Jvm.Stand Jvm.Free.XT Jvm.Free.ALB Jvm.Free.JM Jvm.Free
open Jvm.Lib.Cold (StaticIs)
def hi8 (x : Int32) : Int32 := lo8 (x >>> ((8 : Int32) &&& 31))
/-- what StringUTF16.getChar makes of two bytes -/
def pairCh (u v : Int32) : Int32 := (((u &&& 255) <<< ((0 : Int32) &&& 31)) ||| ((v &&& 255) <<< ((8 : Int32) &&& 31))).toUInt32.toUInt16.toUInt32.toInt32
theorem shr0 (c : Int32) : c >>> ((0 : Int32) &&& 31) = c := by
  have e : ((0 : Int32) &&& 31) = 0 := by decide
  rw [e]
  apply Int32.toBitVec_inj.mp
  rw [Int32.toBitVec_shiftRight]
  have e1 : ((0 : Int32).toBitVec.smod 32) = 0#32 := by decide
  rw [e1, BitVec.sshiftRight_eq']
  exact BitVec.sshiftRight_zero
theorem lo8_and (x : Int32) : (lo8 x &&& 255).toBitVec.toNat = x.toBitVec.toNat % 256 := by
  have h : (lo8 x).toBitVec = (x.toBitVec.signExtend 8).signExtend 32 := by rw [lo8, Int8.toBitVec_toInt32, Int32.toBitVec_toInt8]
  rw [Int32.toBitVec_and, BitVec.toNat_and, h]
  have e : ((x.toBitVec.signExtend 8).signExtend 32).toNat % 256 = x.toBitVec.toNat % 256 := by
    rw [BitVec.toNat_signExtend]
    have hlt := x.toBitVec.isLt
    simp only [BitVec.toNat_setWidth, BitVec.toNat_signExtend]
    split <;> split <;> omega
  rw [← e]
  exact Nat.and_two_pow_sub_one_eq_mod _ 8
theorem pair_says {c : Int32} (h0 : ¬ c < 0) (h1 : ¬ 65535 < c) : pairCh (lo8 c) (hi8 c) = c := by
  rw [Int32.lt_iff_toInt_lt] at h0 h1
  have e0 : (0 : Int32).toInt = 0 := rfl
  have e1 : (65535 : Int32).toInt = 65535 := rfl
  have hc : c.toInt = c.toBitVec.toNat := by
    have := c.toBitVec.isLt
    have e : c.toInt = c.toBitVec.toInt := rfl
    rw [e] at h0 h1
    rw [e]
    rw [BitVec.toInt_eq_toNat_cond] at h0 h1 ⊢
    split at h0 <;> split <;> omega
  have hn : c.toBitVec.toNat < 65536 := by omega
  have a1 := lo8_and c
  have a2 : (hi8 c &&& 255).toBitVec.toNat = c.toBitVec.toNat / 256 := by
    rw [hi8, lo8_and]
    have e : ((8 : Int32) &&& 31) = 8 := by decide
    rw [e, Int32.toBitVec_shiftRight]
    have e2 : ((8 : Int32).toBitVec.smod 32) = 8#32 := by decide
    rw [e2, BitVec.sshiftRight_eq', BitVec.toNat_sshiftRight_of_msb_false (by rw [BitVec.msb_eq_false_iff_two_mul_lt]; omega)]
    show c.toBitVec.toNat >>> 8 % 256 = _
    rw [Nat.shiftRight_eq_div_pow]
    omega
  unfold pairCh
  apply Int32.toBitVec_inj.mp
  apply BitVec.eq_of_toNat_eq
  have f0 : ((0 : Int32) &&& 31) = 0 := by decide
  have f8 : ((8 : Int32) &&& 31) = 8 := by decide
  rw [f0, f8]
  have g : (((lo8 c &&& 255) <<< (0 : Int32)) ||| ((hi8 c &&& 255) <<< (8 : Int32))).toBitVec.toNat = c.toBitVec.toNat := by
    rw [Int32.toBitVec_or, Int32.toBitVec_shiftLeft, Int32.toBitVec_shiftLeft]
    have s0 : ((0 : Int32).toBitVec.smod 32) = 0#32 := by decide
    have s8 : ((8 : Int32).toBitVec.smod 32) = 8#32 := by decide
    rw [s0, s8, BitVec.toNat_or]
    simp only [BitVec.shiftLeft_eq', BitVec.toNat_shiftLeft, a1, a2]
    show (c.toBitVec.toNat % 256) <<< 0 % 2 ^ 32 ||| (c.toBitVec.toNat / 256) <<< 8 % 2 ^ 32 = _
    rw [Nat.shiftLeft_zero, Nat.mod_eq_of_lt (show c.toBitVec.toNat % 256 < 2 ^ 32 by omega), Nat.mod_eq_of_lt (show (c.toBitVec.toNat / 256) <<< 8 < 2 ^ 32 by rw [Nat.shiftLeft_eq]; omega), Nat.or_comm, ← Nat.shiftLeft_add_eq_or_of_lt (by omega), Nat.shiftLeft_eq]
    omega
  show BitVec.toNat (((((lo8 c &&& 255) <<< (0 : Int32)) ||| ((hi8 c &&& 255) <<< (8 : Int32))).toBitVec.setWidth 16).setWidth 32) = _
  rw [BitVec.toNat_setWidth, BitVec.toNat_setWidth, g]
  omega
end StrChars
namespace StrChars
open Jvm Sem ClassFile Op Lib Jvm.Stand Jvm.Free.XT Jvm.Free.ALB Jvm.Free.JM Jvm.Free
open Jvm.Lib.Cold (StaticIs)
theorem shr1 {n : Nat} (h : 2 * n < 2 ^ 31) : Int32.ofNat (2 * n) >>> ((1 : Int32) &&& 31) = Int32.ofNat n := by
  have e : ((1 : Int32) &&& 31) = 1 := by decide
  rw [e]
  apply Int32.toBitVec_inj.mp
  rw [Int32.toBitVec_shiftRight]
  have e1 : ((1 : Int32).toBitVec.smod 32) = 1#32 := by decide
  have hm : (BitVec.ofNat 32 (2 * n)).toNat = 2 * n := by rw [BitVec.toNat_ofNat, Nat.mod_eq_of_lt (by omega)]
  rw [e1, BitVec.sshiftRight_eq']
  apply BitVec.eq_of_toNat_eq
  show ((BitVec.ofNat 32 (2 * n)).sshiftRight 1).toNat = (BitVec.ofNat 32 n).toNat
  rw [BitVec.toNat_sshiftRight_of_msb_false (by rw [BitVec.msb_eq_false_iff_two_mul_lt, hm]; omega), hm, BitVec.toNat_ofNat, Nat.shiftRight_eq_div_pow]
  omega
/-- charAt's cast of a byte read back -/
def chr8 (u : Int32) : Int32 := (u &&& 255).toUInt32.toUInt16.toUInt32.toInt32
theorem chr8_lo8 {c : Int32} (h0 : ¬ c < 0) (h1 : ¬ 255 < c) : chr8 (lo8 c) = c := by
  have t : ∀ k : Fin 256, (Int32.ofNat k.val).toUInt32.toUInt16.toUInt32.toInt32 = Int32.ofNat k.val := by decide +kernel
  unfold chr8
  rw [lo8_mask h0 h1]
  rw [Int32.lt_iff_toInt_lt] at h0 h1
  have e0 : (0 : Int32).toInt = 0 := rfl
  have e1 : (255 : Int32).toInt = 255 := rfl
  obtain ⟨k, hk⟩ : ∃ k : Nat, c.toInt = k := ⟨c.toInt.toNat, by omega⟩
  have hx : c = Int32.ofNat k := Int32.toInt_inj.mp (by rw [hk, Int32.toInt_ofNat_small (by omega)])
  rw [hx]
  exact t ⟨k, by omega⟩
/-- the array's cell V codes the n chars f 0 .. f (n - 1) by the coder cd, as the JDK does: coder 1 just where some char is above 255 -/
def Cod (cd : Int32) (n : Nat) (f : Nat → Int32) (V : Cell) : Prop := (cd = 0 ∧ V.slots.size = n ∧ ∀ j, j < n → V.slots[j]? = some (.int (lo8 (f j))) ∧ ¬ 255 < f j) ∨ (cd = 1 ∧ V.slots.size = 2 * n ∧ (∀ j, j < n → V.slots[2 * j]? = some (.int (lo8 (f j))) ∧ V.slots[2 * j + 1]? = some (.int (hi8 (f j)))) ∧ ∃ j, j < n ∧ 255 < f j)
theorem Cod.cd {cd : Int32} {n : Nat} {f : Nat → Int32} {V : Cell} (h : Cod cd n f V) : cd = 0 ∨ cd = 1 := h.imp (fun q => q.1) fun q => q.1
theorem Cod.len {cd : Int32} {n : Nat} {f : Nat → Int32} {V : Cell} (h : Cod cd n f V) (hs : V.slots.size < 2 ^ 31) : Int32.ofNat V.slots.size >>> (cd &&& 31) = Int32.ofNat n := by
  rcases h with ⟨rfl, h, -⟩ | ⟨rfl, h, -⟩
  · rw [shr0, h]
  · rw [h, shr1 (by omega)]
/-- **x is a String of the n chars f 0 .. f (n - 1)**, Latin-1 or UTF-16; its array at t has the cell V -/
def Txt (x t : Addr) (V : Cell) (cd : Int32) (n : Nat) (f : Nat → Int32) (U : State) : Prop := Exact "java/lang/String" x U ∧ Has x "java/lang/String" "value" "[B" (.ref t) U ∧ Has x "java/lang/String" "coder" "B" (.int cd) U ∧ XT.Arr .byte t V U ∧ Cod cd n f V ∧ ∀ j, j < n → ¬ f j < 0 ∧ ¬ 65535 < f j
theorem Txt.mv {x t : Addr} {V : Cell} {cd : Int32} {n : Nat} {f : Nat → Int32} {U U' : State} (h : Txt x t V cd n f U) (hal : U.vm.Alike U'.vm) (hh : U'.heap = U.heap) : Txt x t V cd n f U' := ⟨h.1.mv hal hh, h.2.1.mv hal hh, h.2.2.1.mv hal hh, h.2.2.2.1.mv hal hh, h.2.2.2.2⟩
namespace Cdr
def yN : MethodName := ⟨"java/lang/String", "coder", "()B"⟩
abbrev yB : ByteArray := jdk_42_method_152_code
theorem d0 : decode yB 0 = .ok (.getstatic 38, 3) := by decide +kernel
theorem d3 : decode yB 3 = .ok (.ifCond (.eq) 10, 3) := by decide +kernel
theorem d6 : decode yB 6 = .ok (.aload_n 0, 1) := by decide +kernel
theorem d7 : decode yB 7 = .ok (.getfield 15, 3) := by decide +kernel
theorem d10 : decode yB 10 = .ok (.goto 4, 3) := by decide +kernel
theorem d14 : decode yB 14 = .ok (.ireturn, 1) := by decide +kernel
def site : List Cond := [.fieldLink "java/lang/String" 38 "java/lang/String" "COMPACT_STRINGS" "Z", .fieldLink "java/lang/String" 15 "java/lang/String" "coder" "B"]
def tab : Cond := tabOf yN yB 1 (some .byte) site
def P (x : Addr) (cd z : Int32) (args : Array Value) (s : State) : Prop := args = #[.ref x] ∧ Has x "java/lang/String" "coder" "B" (.int cd) s ∧ (cd = 0 ∨ cd = 1) ∧ StaticIs s "java/lang/String" "COMPACT_STRINGS" "Z" (.int z) ∧ ¬ z = 0
def E (cd : Int32) (r : Option Value) (s u : State) : Prop := XT.PureE (some (.int cd)) r s u
theorem law (l : Launch) (x : Addr) (cd z : Int32) : Law l yN 1 0 0 0 yB 1 (some .byte) site (P x cd z) (E cd) [] 0 0 := by
  refine Law.of_walk (plainFor_of_name (by decide +kernel)) (by decide +kernel) (by decide +kernel) (by decide) (fun _ _ h => by rw [h.1]; rfl) (fun _ U U' hal hh h => ⟨h.1, h.2.1.mv hal hh, h.2.2.1, h.2.2.2.1.there hal hh, h.2.2.2.2⟩) (fun r U U' V V' h1 hal h2 h => XT.PureE.mv r U U' V V' h1 hal h2 h) ?_
  intro p e s m args below meth c s₁ X0 hexec hbytes hml hret hlk hnm hown hh0 W hP
  obtain ⟨rfl, hx, hc, s1, hz⟩ := hP
  have c1 : Steps p.tables e below (s₁.setTop (entryFrame m #[.ref x] 1)) (s₁.setTop (mkF m 0 #[.val (.ref x)] [])) := entry rfl
  obtain ⟨T2, X2, q2, st2⟩ := X0.sget hexec hown (wk W (.fieldLink "java/lang/String" 38 "java/lang/String" "COMPACT_STRINGS" "Z")) s1 (fun _ _ h => by rw [hh0]; exact h) (g := (mkF m 0 #[.val (.ref x)] [])) rfl (hb hbytes d0)
  have hh2 := q2.trans hh0
  have c3 : Steps p.tables e below (s₁.setTop (entryFrame m #[.ref x] 1)) (T2.setTop (mkF m 7 #[.val (.ref x)] [.ref x])) := (c1.trans (st2 _ (Steps.refl _))).trans (by
    refine XS.ifNo X2.here hexec rfl (hb hbytes d3) rfl (i0_eq_f hz) ?_
    refine XS.aloadN X2.here hexec rfl (hb hbytes d6) rfl rfl ?_
    exact Steps.refl _)
  obtain ⟨T4, X4, q4, st4⟩ := X2.hget hexec hown (wk W (.fieldLink "java/lang/String" 15 "java/lang/String" "coder" "B")) (hx.mv X2.warmed.alike hh2) (g := (mkF m 7 #[.val (.ref x)] [.ref x])) rfl (rest := []) rfl (hb hbytes d7)
  have c5 : Steps p.tables e below (s₁.setTop (entryFrame m #[.ref x] 1)) (T4.setTop (mkF m 14 #[.val (.ref x)] [.int cd])) := (c3.trans (st4 _ (Steps.refl _))).trans (by
    refine XS.goto X4.here hexec rfl (pc0 := 10) rfl (hb hbytes d10) (by decide) rfl ?_
    exact Steps.refl _)
  exact ⟨T4, some (.int cd), _, _, _, X4, rfl, rfl, rfl, (fun h => by cases h), ⟨rfl, q4.trans hh2⟩, fun fs hl => c5.trans (X4.ireturnOut hexec hret (by rcases hc with rfl | rfl <;> rfl) (Or.inr (Or.inr (Or.inl rfl))) (hb hbytes d14) hl)⟩
end Cdr
namespace Len
def yN : MethodName := ⟨"java/lang/String", "length", "()I"⟩
abbrev yB : ByteArray := jdk_42_method_54_code
theorem d0 : decode yB 0 = .ok (.aload_n 0, 1) := by decide +kernel
theorem d1 : decode yB 1 = .ok (.getfield 9, 3) := by decide +kernel
theorem d4 : decode yB 4 = .ok (.arraylength, 1) := by decide +kernel
theorem d5 : decode yB 5 = .ok (.aload_n 0, 1) := by decide +kernel
theorem d6 : decode yB 6 = .ok (.invokevirtual 335, 3) := by decide +kernel
theorem d9 : decode yB 9 = .ok (.ishr, 1) := by decide +kernel
theorem d10 : decode yB 10 = .ok (.ireturn, 1) := by decide +kernel
def site : List Cond := [.fieldLink "java/lang/String" 9 "java/lang/String" "value" "[B", Cdr.tab] ++ virtW "java/lang/String" 335 "java/lang/String" Cdr.yN Cdr.yN
def tab : Cond := tabOf yN yB 1 (some .int) site
def P (x t : Addr) (V : Cell) (cd : Int32) (n : Nat) (f : Nat → Int32) (z : Int32) (args : Array Value) (s : State) : Prop := args = #[.ref x] ∧ Txt x t V cd n f s ∧ StaticIs s "java/lang/String" "COMPACT_STRINGS" "Z" (.int z) ∧ ¬ z = 0
def E (n : Nat) (r : Option Value) (s u : State) : Prop := XT.PureE (some (.int (Int32.ofNat n))) r s u
/-- length() of a String of n chars, in either coding -/
theorem law (l : Launch) (x t : Addr) (V : Cell) (cd : Int32) (n : Nat) (f : Nat → Int32) (z : Int32) : Law l yN 1 0 1 13 yB 1 (some .int) site (P x t V cd n f z) (E n) [] 0 0 := by
  refine Law.of_walk (plainFor_of_name (by decide +kernel)) (by decide +kernel) (by decide +kernel) (by decide) (fun _ _ h => by rw [h.1]; rfl) (fun _ U U' hal hh h => ⟨h.1, h.2.1.mv hal hh, h.2.2.1.there hal hh, h.2.2.2⟩) (fun r U U' V V' h1 hal h2 h => XT.PureE.mv r U U' V V' h1 hal h2 h) ?_
  intro p e s m args below meth c s₁ X0 hexec hbytes hml hret hlk hnm hown hh0 W hP
  obtain ⟨rfl, hx, s1, hz⟩ := hP
  have v31 := hx.2.2.2.1.2.2.2
  have c1 : Steps p.tables e below (s₁.setTop (entryFrame m #[.ref x] 1)) (s₁.setTop (mkF m 1 #[.val (.ref x)] [.ref x])) := Steps.trans (entry rfl) (by
    show Steps p.tables e below (s₁.setTop (mkF m 0 #[.val (.ref x)] [])) _
    refine XS.aloadN X0.here hexec rfl (hb hbytes d0) rfl rfl ?_
    exact Steps.refl _)
  obtain ⟨T2, X2, q2, st2⟩ := X0.hget hexec hown (wk W (.fieldLink "java/lang/String" 9 "java/lang/String" "value" "[B")) (hx.mv X0.warmed.alike hh0).2.1 (g := (mkF m 1 #[.val (.ref x)] [.ref x])) rfl (rest := []) rfl (hb hbytes d1)
  have hh2 := q2.trans hh0
  have hx2 := hx.mv X2.warmed.alike hh2
  have c3 : Steps p.tables e below (s₁.setTop (entryFrame m #[.ref x] 1)) (T2.setTop (mkF m 6 #[.val (.ref x)] [.ref x, .int (Int32.ofNat V.slots.size)])) := (c1.trans (st2 _ (Steps.refl _))).trans (by
    refine X2.alen hexec hx2.2.2.2.1 rfl rfl (hb hbytes d4) ?_
    refine XS.aloadN X2.here hexec rfl (hb hbytes d5) rfl rfl ?_
    exact Steps.refl _)
  obtain ⟨v4, T4, X4, E4, g4⟩ := X2.callV hexec (Cdr.law l x cd z) hown (wks W (virtW "java/lang/String" 335 "java/lang/String" Cdr.yN Cdr.yN)) rfl (by decide) (wk W Cdr.tab) (W := 1) (Nat.le_of_ble_eq_true rfl) (Nat.le_of_ble_eq_true rfl) (Nat.le_refl _) (Nat.le_refl _) (hx2.1.fc X2.warmed.alike) hx2.1.is (g := (mkF m 6 #[.val (.ref x)] [.ref x, .int (Int32.ofNat V.slots.size)])) rfl (by rw [hml]; rfl) c3 (argsL := []) (rest := [.int (Int32.ofNat V.slots.size)]) rfl rfl (by show 2 * 0 + (1 + 0) ≤ _; decide) (hb hbytes d6) (⟨rfl, hx2.2.2.1, hx.2.2.2.2.1.cd, s1.there X2.warmed.alike hh2, hz⟩)
  obtain ⟨rfl, q4⟩ := E4
  have c5 : Steps p.tables e below (s₁.setTop (entryFrame m #[.ref x] 1)) (T4.setTop (mkF m 10 #[.val (.ref x)] [.int (Int32.ofNat V.slots.size >>> (cd &&& 31))])) := Steps.trans g4 (by
    refine ishr X4.here hexec rfl (hb hbytes d9) rfl ?_
    exact Steps.refl _)
  rw [hx.2.2.2.2.1.len v31] at c5
  exact ⟨T4, some (.int (Int32.ofNat n)), _, _, _, X4, rfl, rfl, rfl, (fun h => by cases h), ⟨rfl, q4.trans hh2⟩, fun fs hl => c5.trans (X4.ireturnOut hexec hret rfl (Or.inl rfl) (hb hbytes d10) hl)⟩
theorem pays {l : Launch} {R : Room} {p : Program} {e : Env} {below : List Frame} {s : State} {sargs : Array Value} {len W : Nat} (x t : Addr) (V : Cell) (cd : Int32) (n : Nat) (f : Nat → Int32) (z : Int32) (htab : tab.before sargs s = true) (hfr : 2 ≤ R.frames) (hlo : W + 25 ≤ R.locals) :
    Back l R p e below s sargs yN len W (fun A₁ a₁ => A₁.cells + 0 ≤ R.cells ∧ A₁.slots + 0 ≤ R.slots ∧ P x t V cd n f z a₁ A₁.U) (fun A₁ _ v₁ B₁ => E n v₁ A₁.U B₁.U ∧ B₁.locs = A₁.locs ++ [] ∧ B₁.cells = A₁.cells + 0 ∧ B₁.slots = A₁.slots + 0) :=
  (law l x t V cd n f z).pays htab hfr (by omega)
end Len
end StrChars
namespace StrChars.Road
open Jvm Sem ClassFile Op Lib Jvm.Stand Jvm.Free Jvm.Free.XT
open Jvm.Lib.Cold (StaticIs)
theorem consq {a : Array Value} {s : State} {c : Jvm.Cond} {L : List Jvm.Cond} (h0 : c.before a s = true) (h : ∀ w ∈ L, w.before a s = true) : ∀ w ∈ c :: L, w.before a s = true := fun w hw => (List.mem_cons.mp hw).elim (fun e => e ▸ h0) (h w)
/-- the words of String.length(), either coding -/
abbrev wordsLen : List Jvm.Cond := [.code Len.yN Len.yB 1 (some .int), .initialized ST, .fieldLink ST 9 ST "value" "[B", .fieldLink ST 38 ST "COMPACT_STRINGS" "Z", .fieldLink ST 15 ST "coder" "B", .code Cdr.yN Cdr.yB 1 (some .byte), .methodLink ST 335 Cdr.yN, .declares Cdr.yN, .selects ST Cdr.yN Cdr.yN, .instanceMethod Cdr.yN]
theorem tabLen_of {a : Array Value} {s : State} (h : ∀ w ∈ wordsLen, w.before a s = true) : Len.tab.before a s = true := by
  have hc : Cdr.tab.before a s = true := unparts (wk h (.code Cdr.yN Cdr.yB 1 (some .byte))) (wks h (.initialized Cdr.yN.cls :: Cdr.site))
  have q := consq hc h
  exact unparts (wk q (.code Len.yN Len.yB 1 (some .int))) (wks q (.initialized Len.yN.cls :: Len.site))
theorem movedLen {Z s : State} {a0 args : Array Value} (hZ : Z.Warmed39 s.vm) (hw : ∀ d ∈ wordsLen, d.before a0 Z = true) : ∀ d ∈ wordsLen, d.before args s = true := fun d hd => by
  have q := hw d hd
  have t : ∀ d ∈ wordsLen, d = .arrayClass .byte ∨ (d.onTables && d.keepsFace) = true := by decide +kernel
  rcases t d hd with rfl | t
  · exact RoadKit.mvA hZ q
  · exact RoadKit.mv hZ q t
/-- the bytes of the chars cs, low before high -/
def wideBytes : List Int32 → List Value
  | [] => []
  | c :: cs => .int (lo8 c) :: .int (hi8 c) :: wideBytes cs
theorem wide_lo (d : Value) : ∀ (cs : List Int32) (j : Nat), j < cs.length → (wideBytes cs).getD (2 * j) d = .int (lo8 (cs.getD j 0))
  | [], j, h => absurd h (Nat.not_lt_zero j)
  | c :: cs, 0, _ => rfl
  | c :: cs, j + 1, h => by
    have q := wide_lo d cs j (by simpa using h)
    rw [show 2 * (j + 1) = 2 * j + 1 + 1 from by omega]
    simpa [wideBytes] using q
theorem wide_hi (d : Value) : ∀ (cs : List Int32) (j : Nat), j < cs.length → (wideBytes cs).getD (2 * j + 1) d = .int (hi8 (cs.getD j 0))
  | [], j, h => absurd h (Nat.not_lt_zero j)
  | c :: cs, 0, _ => rfl
  | c :: cs, j + 1, h => by
    have q := wide_hi d cs j (by simpa using h)
    rw [show 2 * (j + 1) + 1 = 2 * j + 1 + 1 + 1 from by omega]
    simpa [wideBytes] using q
theorem low_at (d : Value) (cs : List Int32) (j : Nat) (h : j < cs.length) : (cs.map fun c => Value.int (lo8 c)).getD j d = .int (lo8 (cs.getD j 0)) := by
  simp [List.getD_eq_getElem?_getD, h]
/-- an array of N2 bytes vs codes the chars cs by the coder cd -/
def CodA (cs : List Int32) (cd N2 : Int32) (vs : List Value) : Prop := (cd = 0 ∧ N2 = Int32.ofNat cs.length ∧ vs = (cs.map fun c => Value.int (lo8 c)) ∧ ∀ c ∈ cs, ¬ 255 < c) ∨ (cd = 1 ∧ N2 = Int32.ofNat (2 * cs.length) ∧ vs = wideBytes cs ∧ ∃ c ∈ cs, 255 < c)
theorem CodA.cod {cs : List Int32} {cd N2 : Int32} {vs : List Value} {V : Cell} (h : CodA cs cd N2 vs) (hn : 2 * cs.length < 2 ^ 31) (hs : V.slots.size = N2.toNatClampNeg) (hv : RoadKit.Has V vs (.int 0)) : Cod cd cs.length (fun j => cs.getD j 0) V := by
  rcases h with ⟨rfl, rfl, rfl, h⟩ | ⟨rfl, rfl, rfl, c, hc, hw⟩
  · rw [n32 (by omega)] at hs
    exact Or.inl ⟨rfl, hs, fun j hj => ⟨by rw [hv j (by omega), low_at _ _ _ hj], by
      have e : cs.getD j 0 = cs[j] := by simp [List.getD_eq_getElem?_getD, hj]
      show ¬ 255 < cs.getD j 0
      rw [e]; exact h _ (List.getElem_mem _)⟩⟩
  · rw [n32 (by omega)] at hs
    obtain ⟨j, hj, rfl⟩ := List.getElem_of_mem hc
    exact Or.inr ⟨rfl, hs, fun j hj => ⟨by rw [hv _ (by omega), wide_lo _ _ _ hj], by rw [hv _ (by omega), wide_hi _ _ _ hj]⟩, j, hj, by
      have e : cs.getD j 0 = cs[j] := by simp [List.getD_eq_getElem?_getD, hj]
      show 255 < cs.getD j 0
      rw [e]; exact hw⟩
/-- an object of exactly java/lang/String, its two fields found: as the laws ask it -/
theorem strObj {Z U : State} {a0 : Array Value} {kI : Nat} (wi : (Jvm.Cond.instantiable ST kI).before a0 Z = true) (al : Z.vm.Alike U.vm) {x : Addr} {v0 c0 : Value} (E : RoadKit.Exa Z U.heap x ST) (V : RoadKit.Fld Z U.heap x ST "value" "[B" v0) (C : RoadKit.Fld Z U.heap x ST "coder" "B" c0) :
    ∃ (D : Cell) (fV fC : Field), Blank ST x D U ∧ Found ST "value" "[B" fV U ∧ Found ST "coder" "B" fC U ∧ D.slots[fV.slot]? = some v0 ∧ D.slots[fC.slot]? = some c0 ∧ RoadKit.slotOf Z ST "value" "[B" = fV.slot ∧ RoadKit.slotOf Z ST "coder" "B" = fC.slot := by
  obtain ⟨D, cfV, kV, iV, fV, hD, gV, stV, knV, obV, asV, slV⟩ := V
  obtain ⟨D', cfC, kC, iC, fC, hD', gC, stC, -, -, asC, slC⟩ := C
  cases hD.symm.trans hD'
  obtain ⟨D2, kD, e1, e2, e3, e4, e5⟩ := E
  cases hD.symm.trans e1
  obtain ⟨c2, k2, i1, i2, i3, -⟩ := Cond.instantiable_spec wi
  cases e2.symm.trans i1
  cases e3.symm.trans i2
  obtain ⟨kU, u1, u2⟩ := al.2.2 _ _ e3
  exact ⟨D, fV, fC, ⟨hD, ⟨knV, fun q hq => by rw [hq] at obV; cases obV⟩, by rw [al.findClass]; exact e2, kU, u1, by rw [u2]; exact i3, by rw [u2]; exact e5 i3⟩, ⟨SBG.found_only al ⟨cfV, kV, iV, gV⟩, stV⟩, ⟨SBG.found_only al ⟨cfC, kC, iC, gC⟩, stC⟩, slV, slC, by simp [RoadKit.slotOf, gV], by simp [RoadKit.slotOf, gC]⟩
theorem sta_is {Z U : State} (al : Z.vm.Alike U.vm) {C n d : String} {v : Value} (S : RoadKit.Sta Z U.heap C n d v) : StaticIs U C n d v := by
  obtain ⟨cfS, iS, kS, fS, st, cS, t1, t2, t3, t4, t5, t6, t7⟩ := S
  exact StaticIs.there (s := { Z with heap := U.heap }) ⟨cfS, iS, kS, fS, st, cS, t1, t2, t3, t4, t5, (fun q => by rw [q] at t6; cases t6), t7⟩ al rfl
/-- **length() OF SUCH A STRING** -/
theorem lenW {p : Program} {l : Launch} {e : Env} {R : Room} {s : State} {args : Array Value} {below : List Frame} {len W : Nat} {Z : State} {a0 : Array Value} {h : Heap} (hZ : Z.Warmed39 s.vm) (hw : ∀ d ∈ wordsLen, d.before a0 Z = true) {kI : Nat} (wi : (Jvm.Cond.instantiable ST kI).before a0 Z = true)
    {x t : Addr} {kb : ClassId} {cs : List Int32} {cd N2 z : Int32} {vs : List Value} (E : RoadKit.Exa Z h x ST) (V : RoadKit.Fld Z h x ST "value" "[B" (.ref t)) (C : RoadKit.Fld Z h x ST "coder" "B" (.int cd)) (K : RoadKit.Arv Z h t kb .byte N2 vs (.int 0)) (hc : CodA cs cd N2 vs) (hb : ∀ c ∈ cs, ¬ c < 0 ∧ ¬ (65535 : Int32) < c)
    (S : RoadKit.Sta Z h ST "COMPACT_STRINGS" "Z" (.int z)) (hz : ¬ z = 0) (l2 : cs.length ≤ 4000) (hfr : 2 ≤ R.frames) (hlo : W + 25 ≤ R.locals) :
    Back l R p e below s args (⟨"java/lang/String", "length", "()I"⟩ : MethodName) len W (fun P a => a = #[.ref x] ∧ P.U.heap = h ∧ P.cells + 0 ≤ R.cells ∧ P.slots + 0 ≤ R.slots)
      (fun P _ v B => ∃ L, (v = some (.int (Int32.ofNat cs.length)) ∧ L = [] ∧ B.U.heap = h) ∧ B.locs = P.locs ++ L ∧ B.cells = P.cells + 0 ∧ B.slots = P.slots + 0) := by
  obtain ⟨A, K1, K2, K3, K4, K5, K6⟩ := K
  have hcod := hc.cod (by omega) K3 K5
  intro m meth c P g ig mk a X hg hsize hdg hW hn hp'
  obtain ⟨rfl, rfl, r1, r2⟩ := hp'
  have al : Z.vm.Alike P.U.vm := hZ.alike.trans X.warmed.alike
  obtain ⟨D, fV, fC, hB, F1, F2, g1, g2, -, -⟩ := strObj wi al E V C
  have hx : Txt x t A cd cs.length (fun j => cs.getD j 0) P.U := ⟨⟨_, hB.2.2.1, D, hB.1, rfl, by cases q : D.vm <;> first | rfl | exact absurd q (hB.2.1.2 _)⟩, Has.of hB F1 g1, Has.of hB F2 g2, ⟨K1.1, State.isArrayOf_alike al K1.2.1, K1.2.2, by rcases hcod with ⟨-, q, -⟩ | ⟨-, q, -⟩ <;> omega⟩, hcod, fun j hj => by
    have e : cs.getD j 0 = cs[j] := by simp [List.getD_eq_getElem?_getD, hj]
    show ¬ cs.getD j 0 < 0 ∧ ¬ 65535 < cs.getD j 0
    rw [e]; exact hb _ (List.getElem_mem _)⟩
  obtain ⟨v, B, X', ⟨⟨hv, hh⟩, hl, hk, hs⟩, st⟩ := Len.pays x t A cd cs.length (fun j => cs.getD j 0) z (tabLen_of (movedLen hZ hw)) hfr hlo m meth c P g ig mk _ X hg hsize hdg hW hn ⟨r1, r2, rfl, hx, sta_is al S, hz⟩
  exact ⟨v, B, X', ⟨[], ⟨hv, rfl, hh⟩, hl, hk, hs⟩, st⟩
end StrChars.Road
namespace StrChars
open Jvm Sem ClassFile Op Lib Jvm.Stand Jvm.Free.XT Jvm.Free.ALB Jvm.Free.JM Jvm.Free
open Jvm.Lib.Cold (StaticIs)
namespace Emp
def yN : MethodName := ⟨"java/lang/String", "isEmpty", "()Z"⟩
abbrev yB : ByteArray := jdk_42_method_55_code
theorem d0 : decode yB 0 = .ok (.aload_n 0, 1) := by decide +kernel
theorem d1 : decode yB 1 = .ok (.getfield 9, 3) := by decide +kernel
theorem d4 : decode yB 4 = .ok (.arraylength, 1) := by decide +kernel
theorem d5 : decode yB 5 = .ok (.ifCond (.ne) 7, 3) := by decide +kernel
theorem d8 : decode yB 8 = .ok (.iconst 1, 1) := by decide +kernel
theorem d9 : decode yB 9 = .ok (.goto 4, 3) := by decide +kernel
theorem d12 : decode yB 12 = .ok (.iconst 0, 1) := by decide +kernel
theorem d13 : decode yB 13 = .ok (.ireturn, 1) := by decide +kernel
def site : List Cond := [.fieldLink "java/lang/String" 9 "java/lang/String" "value" "[B"]
def tab : Cond := tabOf yN yB 1 (some .boolean) site
def P (x t : Addr) (V : Cell) (cd : Int32) (n : Nat) (f : Nat → Int32) (args : Array Value) (s : State) : Prop := args = #[.ref x] ∧ Txt x t V cd n f s
def E (n : Nat) (r : Option Value) (s u : State) : Prop := XT.PureE (some (.int (if n = 0 then 1 else 0))) r s u
/-- isEmpty() of a String of n chars -/
theorem law (l : Launch) (x t : Addr) (V : Cell) (cd : Int32) (n : Nat) (f : Nat → Int32) : Law l yN 1 0 0 0 yB 1 (some .boolean) site (P x t V cd n f) (E n) [] 0 0 := by
  refine Law.of_walk (plainFor_of_name (by decide +kernel)) (by decide +kernel) (by decide +kernel) (by decide) (fun _ _ h => by rw [h.1]; rfl) (fun _ U U' hal hh h => ⟨h.1, h.2.mv hal hh⟩) (fun r U U' V V' h1 hal h2 h => XT.PureE.mv r U U' V V' h1 hal h2 h) ?_
  intro p e s m args below meth c s₁ X0 hexec hbytes hml hret hlk hnm hown hh0 W hP
  obtain ⟨rfl, hx⟩ := hP
  have v31 := hx.2.2.2.1.2.2.2
  have c1 : Steps p.tables e below (s₁.setTop (entryFrame m #[.ref x] 1)) (s₁.setTop (mkF m 1 #[.val (.ref x)] [.ref x])) := Steps.trans (entry rfl) (by
    show Steps p.tables e below (s₁.setTop (mkF m 0 #[.val (.ref x)] [])) _
    refine XS.aloadN X0.here hexec rfl (hb hbytes d0) rfl rfl ?_
    exact Steps.refl _)
  obtain ⟨T2, X2, q2, st2⟩ := X0.hget hexec hown (wk W (.fieldLink "java/lang/String" 9 "java/lang/String" "value" "[B")) (hx.mv X0.warmed.alike hh0).2.1 (g := (mkF m 1 #[.val (.ref x)] [.ref x])) rfl (rest := []) rfl (hb hbytes d1)
  have hh2 := q2.trans hh0
  have hx2 := hx.mv X2.warmed.alike hh2
  have c3 : Steps p.tables e below (s₁.setTop (entryFrame m #[.ref x] 1)) (T2.setTop (mkF m 5 #[.val (.ref x)] [.int (Int32.ofNat V.slots.size)])) := (c1.trans (st2 _ (Steps.refl _))).trans (by
    refine X2.alen hexec hx2.2.2.2.1 rfl rfl (hb hbytes d4) ?_
    exact Steps.refl _)
  have hz : V.slots.size = 0 ↔ n = 0 := by
    rcases hx.2.2.2.2.1 with ⟨-, q, -⟩ | ⟨-, q, -⟩ <;> omega
  by_cases h0 : n = 0
  · have c4 : Steps p.tables e below (s₁.setTop (entryFrame m #[.ref x] 1)) (T2.setTop (mkF m 13 #[.val (.ref x)] [.int 1])) := c3.trans (by
      refine XS.ifNo X2.here hexec rfl (hb hbytes d5) rfl (i0_ne_f (by rw [hz.mpr h0]; rfl)) ?_
      refine iconstV X2.here hexec rfl 1 (hb hbytes d8) (by decide) ?_
      refine XS.goto X2.here hexec rfl (pc0 := 9) rfl (hb hbytes d9) (by decide) rfl ?_
      exact Steps.refl _)
    exact ⟨T2, some (.int 1), _, _, _, X2, rfl, rfl, rfl, (fun h => by cases h), ⟨by rw [if_pos h0], hh2⟩, fun fs hl => c4.trans (X2.ireturnOut hexec hret rfl (Or.inr (Or.inl rfl)) (hb hbytes d13) hl)⟩
  · have c4 : Steps p.tables e below (s₁.setTop (entryFrame m #[.ref x] 1)) (T2.setTop (mkF m 13 #[.val (.ref x)] [.int 0])) := c3.trans (by
      refine XS.ifYes X2.here hexec rfl (pc0 := 5) rfl (hb hbytes d5) rfl (i0_ne_t (nz32 v31 (by omega))) (by decide) rfl ?_
      refine iconstV X2.here hexec rfl 0 (hb hbytes d12) (by decide) ?_
      exact Steps.refl _)
    exact ⟨T2, some (.int 0), _, _, _, X2, rfl, rfl, rfl, (fun h => by cases h), ⟨by rw [if_neg h0], hh2⟩, fun fs hl => c4.trans (X2.ireturnOut hexec hret rfl (Or.inr (Or.inl rfl)) (hb hbytes d13) hl)⟩
theorem pays {l : Launch} {R : Room} {p : Program} {e : Env} {below : List Frame} {s : State} {sargs : Array Value} {len W : Nat} (x t : Addr) (V : Cell) (cd : Int32) (n : Nat) (f : Nat → Int32) (htab : tab.before sargs s = true) (hfr : 1 ≤ R.frames) (hlo : W + 12 ≤ R.locals) :
    Back l R p e below s sargs yN len W (fun A₁ a₁ => A₁.cells + 0 ≤ R.cells ∧ A₁.slots + 0 ≤ R.slots ∧ P x t V cd n f a₁ A₁.U) (fun A₁ _ v₁ B₁ => E n v₁ A₁.U B₁.U ∧ B₁.locs = A₁.locs ++ [] ∧ B₁.cells = A₁.cells + 0 ∧ B₁.slots = A₁.slots + 0) :=
  (law l x t V cd n f).pays htab hfr (by omega)
end Emp
end StrChars
namespace StrChars.Road
open Jvm Sem ClassFile Op Lib Jvm.Stand Jvm.Free Jvm.Free.XT
open Jvm.Lib.Cold (StaticIs)
/-- the words of String.isEmpty() -/
abbrev wordsEmp : List Jvm.Cond := [.code Emp.yN Emp.yB 1 (some .boolean), .initialized ST, .fieldLink ST 9 ST "value" "[B"]
theorem tabEmp_of {a : Array Value} {s : State} (h : ∀ w ∈ wordsEmp, w.before a s = true) : Emp.tab.before a s = true := unparts (wk h (.code Emp.yN Emp.yB 1 (some .boolean))) (wks h (.initialized Emp.yN.cls :: Emp.site))
theorem movedEmp {Z s : State} {a0 args : Array Value} (hZ : Z.Warmed39 s.vm) (hw : ∀ d ∈ wordsEmp, d.before a0 Z = true) : ∀ d ∈ wordsEmp, d.before args s = true := fun d hd => by
  have t : ∀ d ∈ wordsEmp, (d.onTables && d.keepsFace) = true := by decide +kernel
  exact RoadKit.mv hZ (hw d hd) (t d hd)
/-- the road's facts of a String, as the laws ask it -/
theorem txt_of {Z U : State} {a0 : Array Value} {kI : Nat} (wi : (Jvm.Cond.instantiable ST kI).before a0 Z = true) (al : Z.vm.Alike U.vm) {x t : Addr} {kb : ClassId} {cs : List Int32} {cd N2 : Int32} {vs : List Value} (E : RoadKit.Exa Z U.heap x ST) (V : RoadKit.Fld Z U.heap x ST "value" "[B" (.ref t)) (C : RoadKit.Fld Z U.heap x ST "coder" "B" (.int cd)) (K : RoadKit.Arv Z U.heap t kb .byte N2 vs (.int 0)) (hc : CodA cs cd N2 vs) (hb : ∀ c ∈ cs, ¬ c < 0 ∧ ¬ (65535 : Int32) < c) (l2 : cs.length ≤ 4000) :
    ∃ A, Txt x t A cd cs.length (fun j => cs.getD j 0) U := by
  obtain ⟨A, K1, K2, K3, K4, K5, K6⟩ := K
  have hcod := hc.cod (by omega) K3 K5
  obtain ⟨D, fV, fC, hB, F1, F2, g1, g2, -, -⟩ := strObj wi al E V C
  exact ⟨A, ⟨_, hB.2.2.1, D, hB.1, rfl, by cases q : D.vm <;> first | rfl | exact absurd q (hB.2.1.2 _)⟩, Has.of hB F1 g1, Has.of hB F2 g2, ⟨K1.1, State.isArrayOf_alike al K1.2.1, K1.2.2, by rcases hcod with ⟨-, q, -⟩ | ⟨-, q, -⟩ <;> omega⟩, hcod, fun j hj => by
    have e : cs.getD j 0 = cs[j] := by simp [List.getD_eq_getElem?_getD, hj]
    show ¬ cs.getD j 0 < 0 ∧ ¬ 65535 < cs.getD j 0
    rw [e]; exact hb _ (List.getElem_mem _)⟩
/-- **isEmpty() OF SUCH A STRING** -/
theorem empW {p : Program} {l : Launch} {e : Env} {R : Room} {s : State} {args : Array Value} {below : List Frame} {len W : Nat} {Z : State} {a0 : Array Value} {h : Heap} (hZ : Z.Warmed39 s.vm) (hw : ∀ d ∈ wordsEmp, d.before a0 Z = true) {kI : Nat} (wi : (Jvm.Cond.instantiable ST kI).before a0 Z = true)
    {x t : Addr} {kb : ClassId} {cs : List Int32} {cd N2 : Int32} {vs : List Value} (E : RoadKit.Exa Z h x ST) (V : RoadKit.Fld Z h x ST "value" "[B" (.ref t)) (C : RoadKit.Fld Z h x ST "coder" "B" (.int cd)) (K : RoadKit.Arv Z h t kb .byte N2 vs (.int 0)) (hc : CodA cs cd N2 vs) (hb : ∀ c ∈ cs, ¬ c < 0 ∧ ¬ (65535 : Int32) < c) (l2 : cs.length ≤ 4000) (hfr : 1 ≤ R.frames) (hlo : W + 12 ≤ R.locals) :
    Back l R p e below s args (⟨"java/lang/String", "isEmpty", "()Z"⟩ : MethodName) len W (fun P a => a = #[.ref x] ∧ P.U.heap = h ∧ P.cells + 0 ≤ R.cells ∧ P.slots + 0 ≤ R.slots)
      (fun P _ v B => ∃ L, (v = some (.int (if cs.length = 0 then 1 else 0)) ∧ L = [] ∧ B.U.heap = h) ∧ B.locs = P.locs ++ L ∧ B.cells = P.cells + 0 ∧ B.slots = P.slots + 0) := by
  intro m meth c P g ig mk a X hg hsize hdg hW hn hp'
  obtain ⟨rfl, rfl, r1, r2⟩ := hp'
  have al : Z.vm.Alike P.U.vm := hZ.alike.trans X.warmed.alike
  obtain ⟨A, hx⟩ := txt_of wi al E V C K hc hb l2
  obtain ⟨v, B, X', ⟨⟨hv, hh⟩, hl, hk, hs⟩, st⟩ := Emp.pays x t A cd cs.length (fun j => cs.getD j 0) (tabEmp_of (movedEmp hZ hw)) hfr hlo m meth c P g ig mk _ X hg hsize hdg hW hn ⟨r1, r2, rfl, hx⟩
  exact ⟨v, B, X', ⟨[], ⟨hv, rfl, hh⟩, hl, hk, hs⟩, st⟩
end StrChars.Road
namespace StrChars.Road
open Jvm Sem ClassFile Op Lib Jvm.Stand Jvm.Free Jvm.Free.XT
open Jvm.Lib.Cold (StaticIs)
/-- what backV says of its String, as the contracts of this text ask it: cs's low bytes, coder 0 -/
theorem codOf {cs : List Int32} {n : Nat} (hn : cs.length = n) (hb : ∀ c ∈ cs, ¬ 255 < c) : CodA cs 0 (Int32.ofNat n) ((cs.map lo8).map Value.int) := Or.inl ⟨rfl, by rw [hn], by simp [List.map_map, Function.comp_def], hb⟩
end StrChars.Road
end Jvm.Pilot.@@N@@

namespace Jvm.Pilot.@@N@@
open Jvm Jvm.ClassFile Sem Op Lib Jvm.Free Jvm.Stand Jvm.LawKit Jvm.RoadKit Bundle
theorem ow {a0 : Array Value} {Z : State} (hw : ∀ d ∈ tables_1, d.before a0 Z = true) (i : Nat) {d : Jvm.Cond} (q : tables_1[i]? = some d) : d.before a0 Z = true := hw _ (List.mem_of_getElem? q)
theorem own_acEt {x y : Value} (h : x = y) : Jvm.Free.XT.acmp .eq x y = true := by simp [Jvm.Free.XT.acmp, h]
theorem own_acEf {x y : Value} (h : ¬ x = y) : Jvm.Free.XT.acmp .eq x y = false := by simp [Jvm.Free.XT.acmp, h]
theorem own_acNt {x y : Value} (h : ¬ x = y) : Jvm.Free.XT.acmp .ne x y = true := by simp [Jvm.Free.XT.acmp, h]
theorem own_acNf {x y : Value} (h : x = y) : Jvm.Free.XT.acmp .ne x y = false := by simp [Jvm.Free.XT.acmp, h]
theorem own_rem (x y : Int32) : x - (x / y) * y = x % y := by
  apply Int32.toInt_inj.mp
  have h1 := Int32.le_toInt (x % y)
  have h2 := Int32.toInt_lt (x % y)
  have e1 : (x - (x / y) * y).toInt = (x.toInt - (x / y).toInt * y.toInt).bmod (2 ^ 32) := by rw [Int32.toInt_sub, Int32.toInt_mul, Int.sub_bmod_bmod]
  rw [e1, Int32.toInt_div]
  have e2 : (x.toInt - (x.toInt.tdiv y.toInt).bmod (2 ^ 32) * y.toInt).bmod (2 ^ 32) = (x.toInt.tmod y.toInt).bmod (2 ^ 32) := by
    rw [← Int.sub_bmod_bmod, Int.bmod_mul_bmod, Int.sub_bmod_bmod, Int.tmod_def, Int.mul_comm]
  rw [e2, ← Int32.toInt_mod]
  exact Int.bmod_eq_of_le_mul_two (by omega) (by omega)
theorem own_cat {x : Value} (h : x.isRef = true) : x.category = 1 := by rcases ref_cases h with rfl | ⟨a, rfl⟩ <;> rfl
theorem own_nar {x : Value} {C : String} (h : x.isRef = true) : narrow (.object C) x = x := by rcases ref_cases h with rfl | ⟨a, rfl⟩ <;> rfl
theorem own_fit {x : Value} {C : String} (h : x.isRef = true) : fits (.object C) x = true := by rcases ref_cases h with rfl | ⟨a, rfl⟩ <;> rfl
theorem own_pure {Z : State} {h : Heap} {P : Option Value → Prop} : ∀ (v : Option Value) (h' : Heap) (L : List Loc), (Fr Z.heap.size L ∧ Ext Z.heap h' ∧ P v ∧ h = h') → Fr Z.heap.size L ∧ Keep h h' [] := fun v h' L q => ⟨q.1, q.2.2.2 ▸ Keep.refl _ _⟩
section OwnLayer
variable {p : Program} {l : Launch} {e : Env} {R : Room} {s : State} {m : MethodId} {args : Array Value} {below : List Frame} {meth : Method} {c : Code} {Z : State} {EL : List (String × Nat)} {a0 : Array Value} {T : State} {h : Heap} {k n : Nat} {sf : List Addr} {w : Bool}
/-- the tables since the start: wide (w): literals may have been interned; narrow: the Stand's own start -/
def own_rel : Bool → State → Vm → Nat → Prop
  | true, s, v0, k => s.Since v0 k
  | false, s, v0, _ => v0 = s.vm
def own_end : Bool → State → Outcome → State → List Loc → Nat → Nat → Prop
  | true, s, o, t, L, k, n => ReturnedEndW s o t L k n
  | false, s, o, t, L, k, n => FrameEnd s o t L k n
theorem own_alike {vm : Vm} {k0 : Nat} (r : own_rel w s vm k0) : s.vm.Alike vm := by
  cases w
  · cases r; exact Vm.Alike.refl _
  · exact r.1.alike
theorem own_found {vm : Vm} {k0 : Nat} {own : String} {c0 : ClassId} (r : own_rel w s vm k0) (q : s.vm.findClass own = some c0) : (s.setVm vm).vm.findClass own = some c0 := by
  show vm.findClass own = _
  rw [(own_alike r).findClass]; exact q
/-- where a walk stands: the Stand over the start with the tables at hand, the heap, nothing old written, the constants held, sf: cells that no constant stands for -/
def Wk (p : Program) (l : Launch) (e : Env) (R : Room) (s : State) (m : MethodId) (args : Array Value) (below : List Frame) (meth : Method) (c : Code) (Z : State) (EL : List (String × Nat)) (a0 : Array Value) (w : Bool) (T : State) (h : Heap) (k n : Nat) (sf : List Addr) : Prop :=
  EW Z a0 EL ∧ ∃ (vm0 : Vm) (locs : List Loc) (k0 : Nat), Stand p l e R (s.setVm vm0) m args below meth c T locs k n ∧ T.heap = h ∧ own_rel w s vm0 k0 ∧ k0 ≤ h.size ∧ Z.Warmed39 vm0 ∧ Fr Z.heap.size locs ∧ Ext Z.heap h ∧ CHr Z EL s.vm s.heap vm0 h ∧ ∀ x ∈ sf, x < h.size ∧ Safe Z EL vm0 h x
theorem Wk.here (H : Wk p l e R s m args below meth c Z EL a0 w T h k n sf) : At T m c below := by obtain ⟨-, _, _, _, X, -⟩ := H; exact X.here
theorem Wk.old (H : Wk p l e R s m args below meth c Z EL a0 w T h k n sf) : Ext Z.heap h := by obtain ⟨-, _, _, _, -, -, -, -, -, -, O, -⟩ := H; exact O
theorem Wk.more (H : Wk p l e R s m args below meth c Z EL a0 w T h k n sf) {k' n' : Nat} (hk : k ≤ k') (hn : n ≤ n') : Wk p l e R s m args below meth c Z EL a0 w T h k' n' sf := by
  obtain ⟨q, vm0, locs, k0, X, r⟩ := H; exact ⟨q, vm0, locs, k0, X.more hk hn, r⟩
theorem Wk.less (H : Wk p l e R s m args below meth c Z EL a0 w T h k n sf) {sf' : List Addr} (q : ∀ x ∈ sf', x ∈ sf) : Wk p l e R s m args below meth c Z EL a0 w T h k n sf' := by
  obtain ⟨q0, vm0, locs, k0, X, eT, r, hk, hZ, N, O, C, S⟩ := H; exact ⟨q0, vm0, locs, k0, X, eT, r, hk, hZ, N, O, C, fun x hx => S x (q x hx)⟩
def Go (p : Program) (e : Env) (below : List Frame) (Φ : State → Prop) (T : State) (g : JFrame) : Prop := ∃ U, Steps p.tables e below (T.setTop g) U ∧ Φ U
variable {Φ : State → Prop}
theorem Go.of {T' : State} {g g' : JFrame} (st : ∀ t, Steps p.tables e below (T'.setTop g') t → Steps p.tables e below (T.setTop g) t) (K : Go p e below Φ T' g') : Go p e below Φ T g := by
  obtain ⟨U, a, b⟩ := K; exact ⟨U, st U a, b⟩
theorem Go.by {T' : State} {g g' : JFrame} (st : Steps p.tables e below (T.setTop g) (T'.setTop g')) (K : Go p e below Φ T' g') : Go p e below Φ T g := by
  obtain ⟨U, a, b⟩ := K; exact ⟨U, st.trans a, b⟩
theorem Go.eq {g g' : JFrame} (q : g = g') (K : Go p e below Φ T g') : Go p e below Φ T g := q ▸ K
def own_fin (Z : State) (EL : List (String × Nat)) (w : Bool) (s : State) (below : List Frame) (Q : Option Value → Heap → Prop) (kc kn : Nat) (gs : Option Value → List Addr) (U : State) : Prop :=
  ∃ o, U.status = .running ∧ Ended U below o ∧ ∃ v L, o = .returned v ∧ (Fr Z.heap.size L ∧ Ext Z.heap U.heap ∧ (∀ x ∈ gs v, x < U.heap.size ∧ Safe Z EL U.vm U.heap x) ∧ Q v U.heap) ∧ CHr Z EL s.vm s.heap U.vm U.heap ∧ own_end w s o U L kc kn
/-- a method's contract -/
def Ct (l : Launch) (Z : State) (EL : List (String × Nat)) (a0 : Array Value) (w : Bool) (y : MethodName) (bytes : ByteArray) (maxL : Nat) (ret : Option FieldType) (ws : List Jvm.Cond) (rm : Room) (as' : Array Value) (h0 : Heap) (sf : List Addr) (gs : Option Value → List Addr) (Q : Option Value → Heap → Prop) : Prop :=
  MetFree l y (head1 (Jvm.Cond.code y bytes maxL ret :: ws) rm) (fun a U => a = as' ∧ Z.Warmed39 U.vm ∧ U.heap = h0 ∧ CHv Z EL U.vm h0 ∧ ∀ x ∈ sf, x < h0.size ∧ Safe Z EL U.vm h0 x) (fun _ _ _ _ _ => True)
    (fun _ U o U' => ∃ v L, o = .returned v ∧ (Fr Z.heap.size L ∧ Ext Z.heap U'.heap ∧ (∀ x ∈ gs v, x < U'.heap.size ∧ Safe Z EL U'.vm U'.heap x) ∧ Q v U'.heap) ∧ CHr Z EL U.vm U.heap U'.vm U'.heap ∧ own_end w U o U' L rm.cells rm.slots)
theorem own_enter {y : MethodName} {bytes : ByteArray} {maxL : Nat} {ret : Option FieldType} {ws : List Jvm.Cond} {rm : Room} {as' : Array Value} {h0 : Heap} {gs : Option Value → List Addr} {Q : Option Value → Heap → Prop} (hp : plainFor y = true) (hE : EW Z a0 EL) (O : Ext Z.heap h0)
    (B : ∀ (p : Program) (e : Env) (s : State) (m : MethodId) (below : List Frame) (meth : Method) (c : Code) (s₁ : State), p.tables.exec = Jvm.exec → c.code = bytes → c.maxLocals = maxL → s.vm.findClass y.cls = some m.cls → meth.name = y.name → meth.sig.returnType = ret → meth.locks = false →
      Wk p l e rm s m as' below meth c Z EL a0 w s₁ h0 0 0 sf → Go p e below (own_fin Z EL w s below Q rm.cells rm.slots gs) s₁ (entryFrame m as' maxL)) :
    Ct l Z EL a0 w y bytes maxL ret ws rm as' h0 sf gs Q := by
  refine MetFree.of_bodySF hp hisR ?_
  intro p e s m args below meth c s₁ Bd hml0 hP hK
  obtain ⟨rfl, hZ, hh, hC, hS⟩ := hP
  have X0 : Stand p l e rm s m args below meth c s₁ [] 0 0 := Stand.of_body Bd
  have e0 : s₁.heap = h0 := by rw [← hh, Bd.state]; rfl
  obtain ⟨U, st, o, r1, r2, v, L, rfl, r3, r4, r5⟩ := B p e s m below meth c s₁ Bd.exec Bd.bytes hml0 (findClass_of_methodNamed Bd.named) (name_of_methodNamed Bd.named Bd.method).1 Bd.returns Bd.notSynchronized
    ⟨hE, s.vm, [], 0, X0, e0, by cases w; exact rfl; exact (State.WarmedH.refl s).since _, Nat.zero_le _, hZ, Fr.nil _, O, by rw [hh]; exact CHr.refl hC, hS⟩
  exact ⟨U, _, st, r1, r2, v, L, rfl, r3, r4, r5⟩
def own_sw (Z : State) (EL : List (String × Nat)) (sf : List Addr) (h : Heap) (a : Addr) : Prop := a ∈ sf ∨ (∃ C, Exa Z h a C ∧ C ≠ "java/lang/String" ∧ C ≠ "[B") ∨ (∃ cl ty, Arr Z h a cl ty ∧ ty ≠ .byte)
theorem own_sw.safe {vm0 : Vm} {a : Addr} (q : own_sw Z EL sf h a) (hal : Z.vm.Alike vm0) (S : ∀ x ∈ sf, x < h.size ∧ Safe Z EL vm0 h x) : Safe Z EL vm0 h a := by
  rcases q with q | ⟨C, E, h1, h2⟩ | ⟨cl, ty, A, ht⟩
  · exact (S a q).2
  · exact Safe.exa hal E h1 h2
  · exact Safe.arr hal A ht
theorem own_mem {a : Addr} (q : a ∈ sf) : own_sw Z EL sf h a := Or.inl q
theorem own_exa {a : Addr} {C : String} (E : Exa Z h a C) (h1 : C ≠ "java/lang/String" := by decide) (h2 : C ≠ "[B" := by decide) : own_sw Z EL sf h a := Or.inr (Or.inl ⟨C, E, h1, h2⟩)
theorem own_arr {a : Addr} {k0 : ClassId} {ty : FieldType} {z : Int32} {vs : List Value} {d : Value} (V : Arv Z h a k0 ty z vs d) (q : ty ≠ .byte := by decide) : own_sw Z EL sf h a := by
  obtain ⟨cl, A, -⟩ := V; exact Or.inr (Or.inr ⟨cl, ty, A, q⟩)
theorem own_wrote {vm0 : Vm} {locs : List Loc} {k0 : Nat} {T' : State} {h' : Heap} {a : Addr} {sl : Nat} {v : Value} (hE : EW Z a0 EL) (X' : Stand p l e R (s.setVm vm0) m args below meth c T' (locs ++ [⟨a, sl⟩]) k n) (e' : T'.heap = h') (W : Wr h h' a sl v) (r : own_rel w s vm0 k0) (hk : k0 ≤ h.size) (hZ : Z.Warmed39 vm0) (N : Fr Z.heap.size locs) (O : Ext Z.heap h) (C : CHr Z EL s.vm s.heap vm0 h) (S : ∀ x ∈ sf, x < h.size ∧ Safe Z EL vm0 h x) (ha : Z.heap.size ≤ a) (hs : own_sw Z EL sf h a) :
    Wk p l e R s m args below meth c Z EL a0 w T' h' k n sf := by
  have sa := hs.safe hZ.alike S
  have sz := W.size
  exact ⟨hE, vm0, _, k0, X', e', r, by rw [sz]; exact hk, hZ, Fr.snoc X' N ha, (Old.wr ⟨rfl, O⟩ W ha).2, C.trans (CHr.wr W sa C.1), fun x hx => ⟨by rw [sz]; exact (S x hx).1, Safe.wr W sa C.1 (S x hx).2⟩⟩
theorem own_irem (H : Wk p l e R s m args below meth c Z EL a0 w T h k n sf) (hx : p.tables.exec = Jvm.exec) {g : JFrame} (hg : g.method = m) {x y : Int32} {rest : List Value} (hd : decode c.code g.pc = .ok (.irem, 1)) (hs : g.stack = .int y :: .int x :: rest) (hy : y ≠ 0)
    (K : Go p e below Φ T { g with pc := g.pc + 1, stack := .int (x % y) :: rest }) : Go p e below Φ T g := by
  rw [← own_rem] at K
  exact Go.of (fun _ => XS.irem H.here hx hg hd hs hy) K
theorem own_getF (H : Wk p l e R s m args below meth c Z EL a0 w T h k n sf) (hx : p.tables.exec = Jvm.exec) {own R0 O nn d host : String} {index : Nat} (hown : s.vm.findClass own = some m.cls) (wd : (Cond.fieldLink own index R0 nn d).before a0 Z = true ∨ (Cond.fieldLinkNest own index R0 nn d host).before a0 Z = true) (via : Via Z R0 O nn d) {a : Addr} {v : Value} (F : Fld Z h a O nn d v) {g : JFrame} (hg : g.method = m) {rest : List Value} (hs : g.stack = .ref a :: rest) (hd : decode c.code g.pc = .ok (.getfield index, 3))
    (K : ∀ T', Wk p l e R s m args below meth c Z EL a0 w T' h k n sf → Go p e below Φ T' { g with pc := g.pc + 3, stack := v :: rest }) : Go p e below Φ T g := by
  obtain ⟨hE, vm0, locs, k0, X, eT, r, hk, hZ, N, O, C, S⟩ := H
  obtain ⟨T', X', e', st⟩ := getF X hx hZ (own_found r hown) wd via eT F hg hs hd
  exact Go.of st (K T' ⟨hE, vm0, locs, k0, X', e', r, hk, hZ, N, O, C, S⟩)
theorem own_getS (H : Wk p l e R s m args below meth c Z EL a0 w T h k n sf) (hx : p.tables.exec = Jvm.exec) {own R0 O nn d host : String} {index : Nat} (hown : s.vm.findClass own = some m.cls) (wd : (Cond.fieldLink own index R0 nn d).before a0 Z = true ∨ (Cond.fieldLinkNest own index R0 nn d host).before a0 Z = true) (via : Via Z R0 O nn d) {v : Value} (F : Sta Z Z.heap O nn d v) {g : JFrame} (hg : g.method = m) (hd : decode c.code g.pc = .ok (.getstatic index, 3))
    (K : ∀ T', Wk p l e R s m args below meth c Z EL a0 w T' h k n sf → Go p e below Φ T' { g with pc := g.pc + 3, stack := v :: g.stack }) : Go p e below Φ T g := by
  obtain ⟨hE, vm0, locs, k0, X, eT, r, hk, hZ, N, O, C, S⟩ := H
  obtain ⟨T', X', e', st⟩ := getS2 X hx hZ (own_found r hown) wd via eT (F.ext O) hg hd
  exact Go.of st (K T' ⟨hE, vm0, locs, k0, X', e', r, hk, hZ, N, O, C, S⟩)
theorem own_putF (H : Wk p l e R s m args below meth c Z EL a0 w T h k n sf) (hx : p.tables.exec = Jvm.exec) {own R0 O nn d host C : String} {index kk : Nat} {ty : FieldType} (hown : s.vm.findClass own = some m.cls) (wd : (Cond.fieldLink own index R0 nn d).before a0 Z = true ∨ (Cond.fieldLinkNest own index R0 nn d host).before a0 Z = true) (via : Via Z R0 O nn d)
    {a : Addr} {v old : Value} (F : Fld Z h a O nn d old) (E : Exa Z h a C) (L : (Cond.lays C O nn d).before a0 Z = true ∨ ((Cond.laysFinal C O nn d).before a0 Z = true ∧ own = O ∧ meth.name = "<init>")) (wi : (Cond.instantiable C kk).before a0 Z = true)
    (hty : parseFieldDescriptor d = some ty) (hn : narrow ty v = v) (hf : fits ty v = true) (ha : Z.heap.size ≤ a) (hsw : own_sw Z EL sf h a) {g : JFrame} (hg : g.method = m) {rest : List Value} (hs : g.stack = v :: .ref a :: rest) (hd : decode c.code g.pc = .ok (.putfield index, 3))
    (K : ∀ T' h', Wk p l e R s m args below meth c Z EL a0 w T' h' k n sf → Wr h h' a (Jvm.RoadKit.slotOf Z O nn d) v → Go p e below Φ T' { g with pc := g.pc + 3, stack := rest }) : Go p e below Φ T g := by
  obtain ⟨hE, vm0, locs, k0, X, eT, r, hk, hZ, N, Od, C, S⟩ := H
  obtain ⟨T', h', X', e', W, st⟩ := putF X hx hZ (own_found r hown) wd via eT F E L wi hty hn hf hg hs hd
  exact Go.of st (K T' h' (own_wrote hE X' e' W r hk hZ N Od C S ha hsw) W)
theorem own_putFN (H : Wk p l e R s m args below meth c Z EL a0 w T h k n sf) (hx : p.tables.exec = Jvm.exec) {own R0 O nn d C : String} {index kk : Nat} {ty : FieldType} (hown : s.vm.findClass own = some m.cls) (wd : (Cond.fieldLink own index R0 nn d).before a0 Z = true) (via : Via Z R0 O nn d)
    {a : Addr} {v v' old : Value} (F : Fld Z h a O nn d old) (E : Exa Z h a C) (L : (Cond.lays C O nn d).before a0 Z = true ∨ ((Cond.laysFinal C O nn d).before a0 Z = true ∧ own = O ∧ meth.name = "<init>")) (wi : (Cond.instantiable C kk).before a0 Z = true)
    (hty : parseFieldDescriptor d = some ty) (hn : narrow ty v = v') (hf : fits ty v' = true) (ha : Z.heap.size ≤ a) (hsw : own_sw Z EL sf h a) {g : JFrame} (hg : g.method = m) {rest : List Value} (hs : g.stack = v :: .ref a :: rest) (hd : decode c.code g.pc = .ok (.putfield index, 3))
    (K : ∀ T' h', Wk p l e R s m args below meth c Z EL a0 w T' h' k n sf → Wr h h' a (Jvm.RoadKit.slotOf Z O nn d) v' → Go p e below Φ T' { g with pc := g.pc + 3, stack := rest }) : Go p e below Φ T g := by
  obtain ⟨hE, vm0, locs, k0, X, eT, r, hk, hZ, N, Od, C, S⟩ := H
  obtain ⟨T', h', X', e', W, st⟩ := putFN X hx hZ (own_found r hown) wd via eT F E L wi hty hn hf hg hs hd
  exact Go.of st (K T' h' (own_wrote hE X' e' W r hk hZ N Od C S ha hsw) W)
theorem own_grew {vm0 : Vm} {locs : List Loc} {k0 : Nat} {T' : State} {h' : Heap} {k' n' : Nat} (hE : EW Z a0 EL) (X' : Stand p l e R (s.setVm vm0) m args below meth c T' locs k' n') (e' : T'.heap = h') (E : Ext h h') (hlt : h.size < h'.size) (r : own_rel w s vm0 k0) (hk : k0 ≤ h.size) (hZ : Z.Warmed39 vm0) (N : Fr Z.heap.size locs) (O : Ext Z.heap h) (C : CHr Z EL s.vm s.heap vm0 h) (S : ∀ x ∈ sf, x < h.size ∧ Safe Z EL vm0 h x) :
    Wk p l e R s m args below meth c Z EL a0 w T' h' k' n' (h.size :: sf) := by
  refine ⟨hE, vm0, _, k0, X', e', r, Nat.le_trans hk E.1, hZ, N, (Old.ext ⟨rfl, O⟩ E).2, C.trans (CHr.ext E C.1), fun x hx => ?_⟩
  rcases List.mem_cons.mp hx with rfl | hx
  · exact ⟨hlt, (Safe.new (Nat.le_refl _)).ext E C.1⟩
  · exact ⟨Nat.lt_of_lt_of_le (S x hx).1 E.1, (S x hx).2.ext E C.1⟩
theorem own_new (H : Wk p l e R s m args below meth c Z EL a0 w T h k n sf) (hx : p.tables.exec = Jvm.exec) {own C : String} {index nf : Nat} (hown : s.vm.findClass own = some m.cls) (w1 : (Cond.classLink own index C).before a0 Z = true) (wi : (Cond.instantiable C nf).before a0 Z = true) (wz : (Cond.initialized C).before a0 Z = true)
    {g : JFrame} (hg : g.method = m) (hd : decode c.code g.pc = .ok (.new index, 3)) (hc : k + 1 ≤ R.cells) (hl : n + nf ≤ R.slots)
    (K : ∀ T' h' b, b = h.size → Wk p l e R s m args below meth c Z EL a0 w T' h' (k + 1) (n + nf) (b :: sf) → Ext h h' → Exa Z h' b C → (∀ {O nm d : String} {ty : FieldType}, Laid Z a0 C O nm d → parseFieldDescriptor d = some ty → Fld Z h' b O nm d (defaultValue ty)) → Go p e below Φ T' { g with pc := g.pc + 3, stack := .ref b :: g.stack }) : Go p e below Φ T g := by
  obtain ⟨hE, vm0, locs, k0, X, eT, r, hk, hZ, N, O, C, S⟩ := H
  obtain ⟨T', h', X', e', E, A, D, -, st⟩ := newO X hx hZ (own_found r hown) w1 wi wz eT hg hd hc hl
  exact Go.of st (K T' h' _ rfl (own_grew hE X' e' E A.lt r hk hZ N O C S) E A D)
theorem own_newP (H : Wk p l e R s m args below meth c Z EL a0 w T h k n sf) (hx : p.tables.exec = Jvm.exec) {aty : ArrayType} (w1 : (Cond.arrayClass (newarray.typeOf aty)).before a0 Z = true) {g : JFrame} (hg : g.method = m) (hd : decode c.code g.pc = .ok (.newarray aty, 2)) {z : Int32} {rest : List Value} (hs : g.stack = .int z :: rest)
    (hz : ¬ z < 0) {cap : Nat} (hcap : z.toNatClampNeg ≤ cap) (hb : cap * 8 ≤ 536870912) (hc : k + 1 ≤ R.cells) (hl : n + cap ≤ R.slots)
    (K : ∀ T' h' b kA, b = h.size → Wk p l e R s m args below meth c Z EL a0 w T' h' (k + 1) (n + cap) (b :: sf) → Ext h h' → Arv Z h' b kA (newarray.typeOf aty) z [] (defaultValue (newarray.typeOf aty)) → Go p e below Φ T' { g with pc := g.pc + 2, stack := .ref b :: rest }) : Go p e below Φ T g := by
  obtain ⟨hE, vm0, locs, k0, X, eT, r, hk, hZ, N, O, C, S⟩ := H
  obtain ⟨T', h', kA, X', e', E, A, st⟩ := newP X hx hZ w1 eT hg hd hs hz hcap hb hc hl
  exact Go.of st (K T' h' _ kA rfl (own_grew hE X' e' E A.lt r hk hZ N O C S) E (Arv.new A hz))
theorem own_newR (H : Wk p l e R s m args below meth c Z EL a0 w T h k n sf) (hx : p.tables.exec = Jvm.exec) {own C : String} {index : Nat} (hown : s.vm.findClass own = some m.cls) (w1 : (Cond.classLink own index C).before a0 Z = true) (w2 : (Cond.arrayOver (.object C)).before a0 Z = true) {g : JFrame} (hg : g.method = m) (hd : decode c.code g.pc = .ok (.anewarray index, 3)) {z : Int32} {rest : List Value} (hs : g.stack = .int z :: rest)
    (hz : ¬ z < 0) {cap : Nat} (hcap : z.toNatClampNeg ≤ cap) (hb : cap * 8 ≤ 536870912) (hc : k + 1 ≤ R.cells) (hl : n + cap ≤ R.slots)
    (K : ∀ T' h' b kA, b = h.size → Wk p l e R s m args below meth c Z EL a0 w T' h' (k + 1) (n + cap) (b :: sf) → Ext h h' → Arv Z h' b kA (.object C) z [] .null → Ovr Z kA C → Go p e below Φ T' { g with pc := g.pc + 3, stack := .ref b :: rest }) : Go p e below Φ T g := by
  obtain ⟨hE, vm0, locs, k0, X, eT, r, hk, hZ, N, O, C, S⟩ := H
  obtain ⟨T', h', kA, X', e', E, A, Ov, st⟩ := newR X hx hZ (own_found r hown) w1 w2 eT hg hd hs hz hcap hb hc hl
  exact Go.of st (K T' h' _ kA rfl (own_grew hE X' e' E A.lt r hk hZ N O C S) E (Arv.new A hz) Ov)
theorem own_initO (H : Wk p l e R s m args below meth c Z EL a0 w T h k n sf) (hx : p.tables.exec = Jvm.exec) {own : String} {idx : Nat} (hown : s.vm.findClass own = some m.cls) (w1 : (Cond.methodLink own idx Lib.objectInit).before a0 Z = true) (w2 : (Cond.instanceMethod Lib.objectInit).before a0 Z = true)
    (w3 : (Cond.code Lib.objectInit ⟨#[0xb1]⟩ 1 none).before a0 Z = true) {g : JFrame} (hg : g.method = m) (hsize : g.locals.size = c.maxLocals) {a : Addr} {rest : List Value} (hs : g.stack = .ref a :: rest) (hd : decode c.code g.pc = .ok (.invokespecial idx, 3))
    (hf : 1 ≤ R.frames) {W : Nat} (hW : 2 * g.monitorRoom + (rest.map fun v => v.category).sum ≤ W) (hl : W + 12 ≤ R.locals)
    (K : ∀ T', Wk p l e R s m args below meth c Z EL a0 w T' h k n sf → Go p e below Φ T' { g with pc := g.pc + 3, stack := rest }) : Go p e below Φ T g := by
  obtain ⟨hE, vm0, locs, k0, X, eT, r, hk, hZ, N, O, C, S⟩ := H
  obtain ⟨T', X', e', st⟩ := initO X hx hZ (own_found r hown) w1 w2 w3 eT hg hsize hs hd hf hW hl
  exact Go.of st (K T' ⟨hE, vm0, locs, k0, X', e', r, hk, hZ, N, O, C, S⟩)
theorem own_ldcI (H : Wk p l e R s m args below meth c Z EL a0 w T h k n sf) (hx : p.tables.exec = Jvm.exec) {own : String} {index : Nat} {v : Int32} (hown : s.vm.findClass own = some m.cls) (wc : (Cond.constant own index v).before a0 Z = true) {g : JFrame} (hg : g.method = m) (hd : decode c.code g.pc = .ok (.ldc index, 2))
    (K : Go p e below Φ T { g with pc := g.pc + 2, stack := .int v :: g.stack }) : Go p e below Φ T g := by
  obtain ⟨hE, vm0, locs, k0, X, eT, r, hk, hZ, N, O, C, S⟩ := H
  exact Go.of (X.ldcInt hx (own_found r hown) (mvT hZ wc) hg hd) K
theorem own_len (H : Wk p l e R s m args below meth c Z EL a0 w T h k n sf) (hx : p.tables.exec = Jvm.exec) {a : Addr} {kA : ClassId} {ty : FieldType} {z : Int32} {vs : List Value} {d : Value} (V : Arv Z h a kA ty z vs d) {g : JFrame} (hg : g.method = m) {rest : List Value} (hs : g.stack = .ref a :: rest) (hd : decode c.code g.pc = .ok (.arraylength, 1))
    (K : Go p e below Φ T { g with pc := g.pc + 1, stack := .int z :: rest }) : Go p e below Φ T g := by
  obtain ⟨hE, vm0, locs, k0, X, eT, r, hk, hZ, N, O, C, S⟩ := H
  obtain ⟨cl, A, -, q, nz, -, -⟩ := V
  refine Go.of (fun t ht => X.arraylength hx (by rw [eT]; exact A.1) (State.isArrayOf_alike hZ.alike A.2.1) hg hs hd t ?_) K
  rw [len_of q nz]; exact ht
theorem own_ld {op : Instr} {ty : FieldType} (law : ∀ {s T : State} {locs : List Loc} {a : Addr} {cell : Cell} {j : Int32} {v : Value} {k n : Nat} (X : Stand p l e R s m args below meth c T locs k n) (hcell : T.heap[a]? = some cell) (harr : s.isArrayOf cell ty) (hknown : cell.vm ≠ .unknown) (hin : ¬ (j < 0 ∨ cell.slots.size ≤ j.toNatClampNeg)) (hv : cell.slots[j.toNatClampNeg]? = some v) {g : JFrame} (hg : g.method = m) {rest : List Value} (hs : g.stack = .int j :: .ref a :: rest) (hd : decode c.code g.pc = .ok (op, 1)) (target : State), Steps p.tables e below (T.setTop { g with pc := g.pc + 1, stack := v :: rest }) target → Steps p.tables e below (T.setTop g) target)
    (H : Wk p l e R s m args below meth c Z EL a0 w T h k n sf) {a : Addr} {kA : ClassId} {z j : Int32} {vs : List Value} {d v : Value} (V : Arv Z h a kA ty z vs d) (hj : ¬ j < 0 ∧ j < z) (hv : vs.getD j.toNatClampNeg d = v) {g : JFrame} (hg : g.method = m) {rest : List Value} (hs : g.stack = .int j :: .ref a :: rest) (hd : decode c.code g.pc = .ok (op, 1))
    (K : Go p e below Φ T { g with pc := g.pc + 1, stack := v :: rest }) : Go p e below Φ T g := by
  obtain ⟨hE, vm0, locs, k0, X, eT, r, hk, hZ, N, O, C, S⟩ := H
  obtain ⟨cl, A, -, q, nz, Hs, -⟩ := V
  exact Go.of (law X (by rw [eT]; exact A.1) (State.isArrayOf_alike hZ.alike A.2.1) A.2.2 (inb_of q hj) (Hs.at (inb_of q hj) hv) hg hs hd) K
theorem own_caload (H : Wk p l e R s m args below meth c Z EL a0 w T h k n sf) (hx : p.tables.exec = Jvm.exec) {a : Addr} {kA : ClassId} {z j : Int32} {vs : List Value} {d v : Value} (V : Arv Z h a kA .char z vs d) (hj : ¬ j < 0 ∧ j < z) (hv : vs.getD j.toNatClampNeg d = v) {g : JFrame} (hg : g.method = m) {rest : List Value} (hs : g.stack = .int j :: .ref a :: rest) (hd : decode c.code g.pc = .ok (.caload, 1))
    (K : Go p e below Φ T { g with pc := g.pc + 1, stack := v :: rest }) : Go p e below Φ T g := own_ld (fun {_ _ _ _ _ _ _ _ _} X h1 h2 h3 h4 h5 {_} hg {_} hs hd t k => X.caload hx h1 h2 h3 h4 h5 hg hs hd t k) H V hj hv hg hs hd K
theorem own_baload (H : Wk p l e R s m args below meth c Z EL a0 w T h k n sf) (hx : p.tables.exec = Jvm.exec) {a : Addr} {kA : ClassId} {z j : Int32} {vs : List Value} {d v : Value} (V : Arv Z h a kA .byte z vs d) (hj : ¬ j < 0 ∧ j < z) (hv : vs.getD j.toNatClampNeg d = v) {g : JFrame} (hg : g.method = m) {rest : List Value} (hs : g.stack = .int j :: .ref a :: rest) (hd : decode c.code g.pc = .ok (.baload, 1))
    (K : Go p e below Φ T { g with pc := g.pc + 1, stack := v :: rest }) : Go p e below Φ T g := own_ld (fun {_ _ _ _ _ _ _ _ _} X h1 h2 h3 h4 h5 {_} hg {_} hs hd t k => X.baloadBytes hx h1 h2 h3 h4 h5 hg hs hd t k) H V hj hv hg hs hd K
theorem own_aaload (H : Wk p l e R s m args below meth c Z EL a0 w T h k n sf) (hx : p.tables.exec = Jvm.exec) {a : Addr} {kA : ClassId} {ty : FieldType} {z j : Int32} {vs : List Value} {d v : Value} (V : Arv Z h a kA ty z vs d) (hty : ty.isReference = true) (hj : ¬ j < 0 ∧ j < z) (hv : vs.getD j.toNatClampNeg d = v) {g : JFrame} (hg : g.method = m) {rest : List Value} (hs : g.stack = .int j :: .ref a :: rest) (hd : decode c.code g.pc = .ok (.aaload, 1))
    (K : Go p e below Φ T { g with pc := g.pc + 1, stack := v :: rest }) : Go p e below Φ T g := own_ld (fun {_ _ _ _ _ _ _ _ _} X h1 h2 h3 h4 h5 {_} hg {_} hs hd t k => X.aaload hx h1 h2 hty h3 h4 h5 hg hs hd t k) H V hj hv hg hs hd K
theorem own_castore (H : Wk p l e R s m args below meth c Z EL a0 w T h k n sf) (hx : p.tables.exec = Jvm.exec) {a : Addr} {kA : ClassId} {z j x : Int32} {vs : List Value} {d : Value} (V : Arv Z h a kA .char z vs d) (hj : ¬ j < 0 ∧ j < z) (i : Nat) (hi : j.toNatClampNeg = i) (hl : i < vs.length) (ha : Z.heap.size ≤ a) {g : JFrame} (hg : g.method = m) {rest : List Value} (hs : g.stack = .int x :: .int j :: .ref a :: rest) (hd : decode c.code g.pc = .ok (.castore, 1))
    (K : ∀ T' h', Wk p l e R s m args below meth c Z EL a0 w T' h' k n sf → Wr h h' a j.toNatClampNeg (.int (nar .char x)) → Arv Z h' a kA .char z (vs.set i (.int (nar .char x))) d → Go p e below Φ T' { g with pc := g.pc + 1, stack := rest }) : Go p e below Φ T g := by
  have hsw : own_sw Z EL sf h a := own_arr V (by simp)
  obtain ⟨hE, vm0, locs, k0, X, eT, r, hk, hZ, N, O, C, S⟩ := H
  obtain ⟨cl, A, q1, q, nz, Hs, G⟩ := V
  obtain ⟨T', h', X', e', W, st⟩ := stC X hx hZ eT A (inb_of q hj) hg hs hd
  exact Go.of st (K T' h' (own_wrote hE X' e' W r hk hZ N O C S ha hsw) W (Arv.set A q1 q nz Hs G (fits_nar_char _) W i hi hl))
theorem own_bastore (H : Wk p l e R s m args below meth c Z EL a0 w T h k n sf) (hx : p.tables.exec = Jvm.exec) {a : Addr} {kA : ClassId} {z j x : Int32} {vs : List Value} {d : Value} (V : Arv Z h a kA .byte z vs d) (hj : ¬ j < 0 ∧ j < z) (i : Nat) (hi : j.toNatClampNeg = i) (hl : i < vs.length) (ha : Z.heap.size ≤ a) (hsw : own_sw Z EL sf h a) {g : JFrame} (hg : g.method = m) {rest : List Value} (hs : g.stack = .int x :: .int j :: .ref a :: rest) (hd : decode c.code g.pc = .ok (.bastore, 1))
    (K : ∀ T' h', Wk p l e R s m args below meth c Z EL a0 w T' h' k n sf → Wr h h' a j.toNatClampNeg (.int (nar .byte x)) → Arv Z h' a kA .byte z (vs.set i (.int (nar .byte x))) d → Go p e below Φ T' { g with pc := g.pc + 1, stack := rest }) : Go p e below Φ T g := by
  obtain ⟨hE, vm0, locs, k0, X, eT, r, hk, hZ, N, O, C, S⟩ := H
  obtain ⟨cl, A, q1, q, nz, Hs, G⟩ := V
  obtain ⟨T', h', X', e', W, st⟩ := stB X hx hZ eT A (inb_of q hj) hg hs hd
  exact Go.of st (K T' h' (own_wrote hE X' e' W r hk hZ N O C S ha hsw) W (Arv.set A q1 q nz Hs G (fits_nar_byte _) W i hi hl))
theorem own_aastore (H : Wk p l e R s m args below meth c Z EL a0 w T h k n sf) (hx : p.tables.exec = Jvm.exec) {a : Addr} {kA : ClassId} {C : String} {z j : Int32} {v : Value} {vs : List Value} {d : Value} (V : Arv Z h a kA (.object C) z vs d) (hj : ¬ j < 0 ∧ j < z) (i : Nat) (hi : j.toNatClampNeg = i) (hl : i < vs.length) (F : Sto Z h a v) (hf : v.isRef = true) (ha : Z.heap.size ≤ a) {g : JFrame} (hg : g.method = m) {rest : List Value} (hs : g.stack = v :: .int j :: .ref a :: rest) (hd : decode c.code g.pc = .ok (.aastore, 1))
    (K : ∀ T' h', Wk p l e R s m args below meth c Z EL a0 w T' h' k n sf → Wr h h' a j.toNatClampNeg v → Arv Z h' a kA (.object C) z (vs.set i v) d → Go p e below Φ T' { g with pc := g.pc + 1, stack := rest }) : Go p e below Φ T g := by
  have hsw : own_sw Z EL sf h a := own_arr V (by simp)
  obtain ⟨hE, vm0, locs, k0, X, eT, r, hk, hZ, N, O, C, S⟩ := H
  obtain ⟨cl, A, q1, q, nz, Hs, G⟩ := V
  obtain ⟨T', h', X', e', W, st⟩ := stR X hx hZ eT A (inb_of q hj) rfl F hg hs hd
  exact Go.of st (K T' h' (own_wrote hE X' e' W r hk hZ N O C S ha hsw) W (Arv.set A q1 q nz Hs G (by rcases ref_cases hf with rfl | ⟨_, rfl⟩ <;> rfl) W i hi hl))
theorem own_cast (H : Wk p l e R s m args below meth c Z EL a0 w T h k n sf) (hx : p.tables.exec = Jvm.exec) {own K0 : String} {index : Nat} (hown : s.vm.findClass own = some m.cls) (wd : (Cond.classLink own index K0).before a0 Z = true) {a : Addr} (F : Ins Z h a K0 true) {g : JFrame} (hg : g.method = m) {rest : List Value} (hs : g.stack = .ref a :: rest) (hd : decode c.code g.pc = .ok (.checkcast index, 3))
    (K : ∀ T', Wk p l e R s m args below meth c Z EL a0 w T' h k n sf → Go p e below Φ T' { g with pc := g.pc + 3 }) : Go p e below Φ T g := by
  obtain ⟨hE, vm0, locs, k0, X, eT, r, hk, hZ, N, O, C, S⟩ := H
  obtain ⟨T', X', e', st⟩ := castY X hx hZ (own_found r hown) wd eT F hg hs hd
  exact Go.of st (K T' ⟨hE, vm0, locs, k0, X', e', r, hk, hZ, N, O, C, S⟩)
theorem own_inst (H : Wk p l e R s m args below meth c Z EL a0 w T h k n sf) (hx : p.tables.exec = Jvm.exec) {own K0 : String} {index : Nat} (hown : s.vm.findClass own = some m.cls) (wd : (Cond.classLink own index K0).before a0 Z = true) {a : Addr} (F : Ins Z h a K0 true) {g : JFrame} (hg : g.method = m) {rest : List Value} (hs : g.stack = .ref a :: rest) (hd : decode c.code g.pc = .ok (.instanceof index, 3))
    (K : ∀ T', Wk p l e R s m args below meth c Z EL a0 w T' h k n sf → Go p e below Φ T' { g with pc := g.pc + 3, stack := .int 1 :: rest }) : Go p e below Φ T g := by
  obtain ⟨hE, vm0, locs, k0, X, eT, r, hk, hZ, N, O, C, S⟩ := H
  obtain ⟨T', X', e', st⟩ := instY X hx hZ (own_found r hown) wd eT F hg hs hd
  exact Go.of st (K T' ⟨hE, vm0, locs, k0, X', e', r, hk, hZ, N, O, C, S⟩)
/-- behind a literal or a call that may intern -/
theorem own_past {vm0 : Vm} {k1 : Nat} {T' : State} {h' : Heap} {locs' : List Loc} {k' n' : Nat} (hE : EW Z a0 EL) (X' : Stand p l e R (s.setVm T'.vm) m args below meth c T' locs' k' n') (e' : T'.heap = h') (r : s.Since T'.vm k1) (hk : k1 ≤ h'.size) (hZ : Z.Warmed39 T'.vm) (N : Fr Z.heap.size locs') (O : Ext Z.heap h') (C : CHr Z EL s.vm s.heap vm0 h) (C' : CHr Z EL vm0 h T'.vm h') (S : ∀ x ∈ sf, x < h.size ∧ Safe Z EL vm0 h x) :
    Wk p l e R s m args below meth c Z EL a0 true T' h' k' n' sf :=
  ⟨hE, T'.vm, _, k1, X', e', r, hk, hZ, N, O, C.trans C', fun x hx => ⟨Nat.lt_of_lt_of_le (S x hx).1 C'.2.1, C'.safe (S x hx).1 (S x hx).2⟩⟩
theorem own_pastG {vm0 : Vm} {k1 : Nat} {T' : State} {h' : Heap} {locs' : List Loc} {k' n' : Nat} {gl : List Addr} (GL : ∀ x ∈ gl, x < h'.size ∧ Safe Z EL T'.vm h' x) (hE : EW Z a0 EL) (X' : Stand p l e R (s.setVm T'.vm) m args below meth c T' locs' k' n') (e' : T'.heap = h') (r : s.Since T'.vm k1) (hk : k1 ≤ h'.size) (hZ : Z.Warmed39 T'.vm) (N : Fr Z.heap.size locs') (O : Ext Z.heap h') (C : CHr Z EL s.vm s.heap vm0 h) (C' : CHr Z EL vm0 h T'.vm h') (S : ∀ x ∈ sf, x < h.size ∧ Safe Z EL vm0 h x) :
    Wk p l e R s m args below meth c Z EL a0 true T' h' k' n' (gl ++ sf) :=
  ⟨hE, T'.vm, _, k1, X', e', r, hk, hZ, N, O, C.trans C', fun x hx => (List.mem_append.mp hx).elim (GL x) fun hx => ⟨Nat.lt_of_lt_of_le (S x hx).1 C'.2.1, C'.safe (S x hx).1 (S x hx).2⟩⟩
theorem own_ldcS (H : Wk p l e R s m args below meth c Z EL a0 true T h k n sf) (hx : p.tables.exec = Jvm.exec) {own text : String} {index : Nat} (hown : s.vm.findClass own = some m.cls) (wd : (Cond.stringLink own index text).before a0 Z = true) (wS : ∀ a ∈ Bundle.stringAtoms, a.before a0 Z = true) (hmem : (own, index) ∈ EL)
    {vs : List Value} {z : Int32} (ht : (∀ c ∈ text.toList, c.toNat < 256) ∧ text.toList.map (fun c => Value.int (Jvm.Lit.byteI c.toNat.toUInt16)) = vs) (hz : ¬ z < 0) (hl : z.toNatClampNeg = vs.length)
    {g : JFrame} (hg : g.method = m) (hd : decode c.code g.pc = .ok (.ldc index, 2)) {nn : Nat} (hn : 4 * text.toList.length ≤ nn) (hbig : nn ≤ 536870912) (hc : k + 2 ≤ R.cells) (hl' : n + (nn + 4) ≤ R.slots)
    (K : ∀ T' h' a b kb, Wk p l e R s m args below meth c Z EL a0 true T' h' (k + 2) (n + (nn + 4)) sf → Ext h h' → Exa Z h' a "java/lang/String" → Fld Z h' a "java/lang/String" "coder" "B" (.int 0) → Fld Z h' a "java/lang/String" "value" "[B" (.ref b) → Arv Z h' b kb .byte z vs (.int 0) → (∀ x ∈ sf, x ≠ a ∧ x ≠ b) → Go p e below Φ T' { g with pc := g.pc + 2, stack := .ref a :: g.stack }) : Go p e below Φ T g := by
  obtain ⟨hE, vm0, locs, k0, X, eT, r, hk, hZ, N, O, C, S⟩ := H
  obtain ⟨a, T', h', k1, b, kb, X', e', E, r', hk', hZ', hf', E1, F1, F2, V, -, -, C', -, hne, st⟩ := ldcCH X hx hZ (own_found r hown) wd wS eT r hk hE hmem C.1 ht hz hl hg hd hn hbig hc hl'
  have H' : Wk p l e R s m args below meth c Z EL a0 true T' h' (k + 2) (n + (nn + 4)) sf := own_past hE X' e' r' hk' hZ' N (Old.ext ⟨rfl, O⟩ E).2 C C' S
  exact Go.of st (K T' h' a b kb H' E E1 F1 F2 V fun x hx => hne x (C'.safe (S x hx).1 (S x hx).2))
theorem own_ldcO (H : Wk p l e R s m args below meth c Z EL a0 true T h k n sf) (hx : p.tables.exec = Jvm.exec) {own text : String} {index : Nat} (hown : s.vm.findClass own = some m.cls) (wd : (Cond.stringLink own index text).before a0 Z = true) (wS : ∀ a ∈ Bundle.stringAtoms, a.before a0 Z = true)
    {g : JFrame} (hg : g.method = m) (hd : decode c.code g.pc = .ok (.ldc index, 2)) {nn : Nat} (hn : 4 * text.toList.length ≤ nn) (hbig : nn ≤ 536870912) (hc : k + 2 ≤ R.cells) (hl' : n + (nn + 4) ≤ R.slots)
    (K : ∀ T' h' a, Wk p l e R s m args below meth c Z EL a0 true T' h' (k + 2) (n + (nn + 4)) sf → Ext h h' → Go p e below Φ T' { g with pc := g.pc + 2, stack := .ref a :: g.stack }) : Go p e below Φ T g := by
  obtain ⟨hE, vm0, locs, k0, X, eT, r, hk, hZ, N, O, C, S⟩ := H
  obtain ⟨a, T', h', k1, X', e', E, r', hk', hZ', hf', C', -, st⟩ := ldcOH X hx hZ (own_found r hown) wd wS eT r hk hE C.1 hg hd hn hbig hc hl'
  exact Go.of st (K T' h' a (own_past hE X' e' r' hk' hZ' N (Old.ext ⟨rfl, O⟩ E).2 C C' S) E)
/-! returns -/
theorem own_leave (H : Wk p l e R s m args below meth c Z EL a0 w T h k n sf) {v : Option Value} {gs : Option Value → List Addr} {Q : Option Value → Heap → Prop} (hl : meth.locks = false) (hgs : ∀ x ∈ gs v, x ∈ sf) (hv : meth.sig.returnType = none → v = none) (q : Q v h) (hk : k ≤ R.cells) (hn : n ≤ R.slots) {g : JFrame}
    (st : ∀ {locs : List Loc} {s' : State} (X : Stand p l e R s' m args below meth c T locs k n) {fs : List Frame}, (∀ (f : JFrame) (acts : List Action), f.method = m → f.locked = none → f.entered = [] → (doReturn e (T.setTop f) acts v).1 = T.setFrames fs) → Steps p.tables e below (T.setTop g) (T.setFrames fs)) :
    Go p e below (own_fin Z EL w s below Q R.cells R.slots gs) T g := by
  obtain ⟨hE, vm0, locs, k0, X, eT, r, hk0, hZ, N, O, C, S⟩ := H
  have CA := CHv.at X hZ hE C.1
  have CU : CHr Z EL s.vm s.heap T.vm T.heap := by rw [eT]; exact C.trans CA
  have GS : ∀ x ∈ gs v, x < T.heap.size ∧ Safe Z EL T.vm T.heap x := fun x hx => by rw [eT]; exact ⟨(S x (hgs x hx)).1, CA.safe (S x (hgs x hx)).1 (S x (hgs x hx)).2⟩
  cases w
  · have r : vm0 = s.vm := r
    subst r
    obtain ⟨fs, hr, hrun, hended, hW, hsame⟩ := X.leave hv hl
    exact ⟨_, st X hr, _, hrun, hended, v, locs, rfl, ⟨N, by show Ext Z.heap T.heap; rw [eT]; exact O, GS, by show Q v T.heap; rw [eT]; exact q⟩, CU, ⟨⟨v, rfl⟩, hW, hsame.mono hk hn⟩⟩
  · obtain ⟨fs, hr, hrun, hended, hend⟩ := X.leaveW r (by rw [eT]; exact hk0) hv hl
    exact ⟨_, st X hr, _, hrun, hended, v, locs, rfl, ⟨N, by show Ext Z.heap T.heap; rw [eT]; exact O, GS, by show Q v T.heap; rw [eT]; exact q⟩, CU, ⟨hend.1, hend.2.1, hend.2.2.1, hend.2.2.2.mono hk hn⟩⟩
theorem own_retI (H : Wk p l e R s m args below meth c Z EL a0 w T h k n sf) (hx : p.tables.exec = Jvm.exec) (hl : meth.locks = false) (hret : meth.sig.returnType = some .int) {pc : Nat} {Ls : Array Slot} {z : Int32} {rest : List Value} {gs : Option Value → List Addr} {Q : Option Value → Heap → Prop} (hd : decode c.code pc = .ok (.ireturn, 1)) (hgs : ∀ x ∈ gs (some (.int z)), x ∈ sf) (q : Q (some (.int z)) h) (hk : k ≤ R.cells) (hn : n ≤ R.slots) :
    Go p e below (own_fin Z EL w s below Q R.cells R.slots gs) T (mkF m pc Ls (.int z :: rest)) :=
  own_leave H hl hgs (fun h => by rw [hret] at h; cases h) q hk hn fun {_ _} X {_} hr => retI X hx hret hd hr
theorem own_retN (H : Wk p l e R s m args below meth c Z EL a0 w T h k n sf) (hx : p.tables.exec = Jvm.exec) (hl : meth.locks = false) {t : FieldType} (hret : meth.sig.returnType = some t) (ht : t = .boolean ∨ t = .byte ∨ t = .char ∨ t = .short) {pc : Nat} {Ls : Array Slot} {z : Int32} {rest : List Value} {gs : Option Value → List Addr} {Q : Option Value → Heap → Prop} (hd : decode c.code pc = .ok (.ireturn, 1)) (hgs : ∀ x ∈ gs (some (.int (nar t z))), x ∈ sf) (q : Q (some (.int (nar t z))) h) (hk : k ≤ R.cells) (hn : n ≤ R.slots) :
    Go p e below (own_fin Z EL w s below Q R.cells R.slots gs) T (mkF m pc Ls (.int z :: rest)) :=
  own_leave H hl hgs (fun h => by rw [hret] at h; cases h) q hk hn fun {_ _} X {_} hr => retN X hx hret ht hd hr
theorem own_ret (H : Wk p l e R s m args below meth c Z EL a0 w T h k n sf) (hx : p.tables.exec = Jvm.exec) (hl : meth.locks = false) (hret : meth.sig.returnType = none) {pc : Nat} {Ls : Array Slot} {gs : Option Value → List Addr} {Q : Option Value → Heap → Prop} (hd : decode c.code pc = .ok (.return_, 1)) (hgs : ∀ x ∈ gs none, x ∈ sf) (q : Q none h) (hk : k ≤ R.cells) (hn : n ≤ R.slots) :
    Go p e below (own_fin Z EL w s below Q R.cells R.slots gs) T (mkF m pc Ls []) :=
  own_leave H hl hgs (fun _ => rfl) q hk hn fun {_ _} X {_} hr => X.returnOut hx hret hd hr
theorem own_retA_step {locs : List Loc} (X : Stand p l e R s m args below meth c T locs k n) (hx : p.tables.exec = Jvm.exec) {t : FieldType} (hret : meth.sig.returnType = some t) (ht : t.isReference = true) {pc : Nat} {Ls : Array Slot} {v : Value} (hv : v.isRef = true) {rest : List Value} (hd : decode c.code pc = .ok (.areturn, 1)) {fs : List Frame}
    (hr : ∀ (f : JFrame) (acts : List Action), f.method = m → f.locked = none → f.entered = [] → (doReturn e (T.setTop f) acts (some v)).1 = T.setFrames fs) : Steps p.tables e below (T.setTop (mkF m pc Ls (v :: rest))) (T.setFrames fs) := by
  have hm' : T.vm.method? m = some meth := X.method'
  show Steps p.tables e below (T.setTop { method := m, pc := pc, locals := Ls, stack := _ :: rest, locked := none }) _
  jvm_step X.here [X.here.top, hx, hd, hm', hret, hv, ht]
  first | (intro acts; rw [hr _ acts rfl rfl rfl]) | rw [hr _ _ rfl rfl rfl]
  exact Steps.refl _
theorem own_retA (H : Wk p l e R s m args below meth c Z EL a0 w T h k n sf) (hx : p.tables.exec = Jvm.exec) (hl : meth.locks = false) {t : FieldType} (hret : meth.sig.returnType = some t) (ht : t.isReference = true) {pc : Nat} {Ls : Array Slot} {v : Value} (hv : v.isRef = true) {rest : List Value} {gs : Option Value → List Addr} {Q : Option Value → Heap → Prop} (hd : decode c.code pc = .ok (.areturn, 1)) (hgs : ∀ x ∈ gs (some v), x ∈ sf) (q : Q (some v) h) (hk : k ≤ R.cells) (hn : n ≤ R.slots) :
    Go p e below (own_fin Z EL w s below Q R.cells R.slots gs) T (mkF m pc Ls (v :: rest)) :=
  own_leave H hl hgs (fun h => by rw [hret] at h; cases h) q hk hn fun {_ _} X {_} hr => own_retA_step X hx hret ht hv hd hr
/-! calls that a law of the library pays (Back), or a narrow contract -/
theorem own_kept {vm0 : Vm} {locs L : List Loc} {k0 : Nat} {kc kn : Nat} {B : Pt} {ws : List Addr} (hE : EW Z a0 EL) (X' : Stand p l e R (s.setVm vm0) m args below meth c B.U B.locs B.cells B.slots) (r : own_rel w s vm0 k0) (hk : k0 ≤ h.size) (hZ : Z.Warmed39 vm0) (N : Fr Z.heap.size locs) (O : Ext Z.heap h) (C : CHr Z EL s.vm s.heap vm0 h) (S : ∀ x ∈ sf, x < h.size ∧ Safe Z EL vm0 h x)
    (hL : Fr Z.heap.size L) (Kp : Keep h B.U.heap ws) (hws : ∀ x ∈ ws, Z.heap.size ≤ x ∧ own_sw Z EL sf h x) (el : B.locs = locs ++ L) (ek : B.cells = k + kc) (en : B.slots = n + kn) : Wk p l e R s m args below meth c Z EL a0 w B.U B.U.heap (k + kc) (n + kn) sf := by
  have hs : ∀ x ∈ ws, Safe Z EL vm0 h x := fun x hx => (hws x hx).2.safe hZ.alike S
  refine ⟨hE, vm0, locs ++ L, k0, by rw [← el, ← ek, ← en]; exact X', rfl, r, Nat.le_trans hk Kp.1, hZ, Fr.app N hL, (Old.keep ⟨rfl, O⟩ Kp fun x hx => (hws x hx).1).2, C.trans (CHr.keep Kp hs C.1), fun x hx => ⟨Nat.lt_of_lt_of_le (S x hx).1 Kp.1, (S x hx).2.keep Kp hs C.1⟩⟩
theorem own_staticB (H : Wk p l e R s m args below meth c Z EL a0 w T h k n sf) (hx : p.tables.exec = Jvm.exec) {own : String} {index : Nat} {y : MethodName} {bytes : ByteArray} {maxL : Nat} {ret : Option FieldType} (hown : s.vm.findClass own = some m.cls) (w1 : (Cond.methodLink own index y).before a0 Z = true) (w2 : (Cond.static y).before a0 Z = true) (w3 : (Cond.initialized y.cls).before a0 Z = true) (w4 : (Cond.code y bytes maxL ret).before a0 Z = true)
    (hy : y.cls ≠ "java/lang/invoke/MethodHandle" ∧ y.cls ≠ "java/lang/invoke/VarHandle") {W kc kn : Nat} {as' : Array Value} (Q : Option Value → Heap → List Loc → Prop)
    (hB : ∀ vm0, Z.Warmed39 vm0 → CHv Z EL vm0 h → Back l R p e below (s.setVm vm0) args y 3 W (fun A a => a = as' ∧ A.U.heap = h ∧ A.cells + kc ≤ R.cells ∧ A.slots + kn ≤ R.slots) (fun A _ v B => ∃ L, Q v B.U.heap L ∧ B.locs = A.locs ++ L ∧ B.cells = A.cells + kc ∧ B.slots = A.slots + kn))
    {ws : List Addr} (hq : ∀ v h' L, Q v h' L → Fr Z.heap.size L ∧ Keep h h' ws) (hws : ∀ x ∈ ws, Z.heap.size ≤ x ∧ own_sw Z EL sf h x)
    {g : JFrame} (hg : g.method = m) (hsize : g.locals.size = c.maxLocals) {argsL rest : List Value} (has : argsL.toArray = as') (hlen : ∀ sig, parseMethodDescriptor y.desc = some sig → argsL.length = sig.parameters.length) (hstack : g.stack = argsL.reverse ++ rest) (hW : 2 * g.monitorRoom + (rest.map fun v => v.category).sum ≤ W) (hd : decode c.code g.pc = .ok (.invokestatic index, 3)) (hc : k + kc ≤ R.cells) (hn : n + kn ≤ R.slots)
    (K : ∀ T' h' v L, Wk p l e R s m args below meth c Z EL a0 w T' h' (k + kc) (n + kn) sf → Q v h' L → Go p e below Φ T' { g with pc := g.pc + 3, stack := v.toList ++ rest }) : Go p e below Φ T g := by
  obtain ⟨hE, vm0, locs, k0, X, eT, r, hk, hZ, N, O, C, S⟩ := H
  obtain ⟨v, vm1, B, hWm, X', ⟨L, hQ, el, ek, en⟩, st⟩ := Jvm.LawKit.callS X hx (own_found r hown) (mvT hZ w1) (mvT hZ w2) (mvT hZ w3) (mvT hZ w4) hy (hB vm0 hZ C.1) hg hsize hlen hstack hW hd fun _ _ => ⟨has, eT, hc, hn⟩
  obtain ⟨hL, Kp⟩ := hq _ _ _ hQ
  exact Go.of st (K B.U _ v L (own_kept hE X' r hk hZ N O C S hL Kp hws el ek en) hQ)
theorem own_specialB (H : Wk p l e R s m args below meth c Z EL a0 w T h k n sf) (hx : p.tables.exec = Jvm.exec) {own : String} {index : Nat} {y : MethodName} {bytes : ByteArray} {maxL : Nat} (hy1 : y.name = "<init>") (hown : s.vm.findClass own = some m.cls) (w1 : (Cond.methodLink own index y).before a0 Z = true) (w2 : (Cond.instanceMethod y).before a0 Z = true) (w4 : (Cond.code y bytes maxL none).before a0 Z = true)
    (hy : y.cls ≠ "java/lang/invoke/MethodHandle" ∧ y.cls ≠ "java/lang/invoke/VarHandle") {W kc kn : Nat} {as' : Array Value} (Q : Option Value → Heap → List Loc → Prop)
    (hB : ∀ vm0, Z.Warmed39 vm0 → CHv Z EL vm0 h → Back l R p e below (s.setVm vm0) args y 3 W (fun A a => a = as' ∧ A.U.heap = h ∧ A.cells + kc ≤ R.cells ∧ A.slots + kn ≤ R.slots) (fun A _ v B => ∃ L, Q v B.U.heap L ∧ B.locs = A.locs ++ L ∧ B.cells = A.cells + kc ∧ B.slots = A.slots + kn))
    {ws : List Addr} (hq : ∀ v h' L, Q v h' L → Fr Z.heap.size L ∧ Keep h h' ws) (hws : ∀ x ∈ ws, Z.heap.size ≤ x ∧ own_sw Z EL sf h x)
    {g : JFrame} (hg : g.method = m) (hsize : g.locals.size = c.maxLocals) {a : Addr} {argsL rest : List Value} (has : (.ref a :: argsL).toArray = as') (hlen : ∀ sig, parseMethodDescriptor y.desc = some sig → argsL.length = sig.parameters.length) (hstack : g.stack = argsL.reverse ++ .ref a :: rest) (hW : 2 * g.monitorRoom + (rest.map fun v => v.category).sum ≤ W) (hd : decode c.code g.pc = .ok (.invokespecial index, 3)) (hc : k + kc ≤ R.cells) (hn : n + kn ≤ R.slots)
    (K : ∀ T' h' v L, Wk p l e R s m args below meth c Z EL a0 w T' h' (k + kc) (n + kn) sf → Q v h' L → Go p e below Φ T' { g with pc := g.pc + 3, stack := v.toList ++ rest }) : Go p e below Φ T g := by
  obtain ⟨hE, vm0, locs, k0, X, eT, r, hk, hZ, N, O, C, S⟩ := H
  obtain ⟨v, vm1, B, hWm, X', ⟨L, hQ, el, ek, en⟩, st⟩ := X.specialBack hx hy1 (own_found r hown) (mvT hZ w1) (mvT hZ w2) (mvT hZ w4) hy (hB vm0 hZ C.1) hg hsize (Steps.refl _) hlen hstack hW hd fun _ _ => ⟨has, eT, hc, hn⟩
  obtain ⟨hL, Kp⟩ := hq _ _ _ hQ
  exact Go.by st (K B.U _ v L (own_kept hE X' r hk hZ N O C S hL Kp hws el ek en) hQ)
theorem own_virtualB (H : Wk p l e R s m args below meth c Z EL a0 w T h k n sf) (hx : p.tables.exec = Jvm.exec) {own C : String} {index : Nat} {y z : MethodName} (hown : s.vm.findClass own = some m.cls) (w1 : (Cond.methodLink own index y).before a0 Z = true) (w2 : (Cond.declares y).before a0 Z = true) (w3 : (Cond.selects C y z).before a0 Z = true) (hnf : y = z) (w4 : (Cond.instanceMethod z).before a0 Z = true)
    (hy : y.cls ≠ "java/lang/invoke/MethodHandle" ∧ y.cls ≠ "java/lang/invoke/VarHandle") {W kc kn : Nat} {as' : Array Value} (Q : Option Value → Heap → List Loc → Prop)
    (hB : ∀ vm0, Z.Warmed39 vm0 → CHv Z EL vm0 h → Back l R p e below (s.setVm vm0) args z 3 W (fun A a => a = as' ∧ A.U.heap = h ∧ A.cells + kc ≤ R.cells ∧ A.slots + kn ≤ R.slots) (fun A _ v B => ∃ L, Q v B.U.heap L ∧ B.locs = A.locs ++ L ∧ B.cells = A.cells + kc ∧ B.slots = A.slots + kn))
    {ws : List Addr} (hq : ∀ v h' L, Q v h' L → Fr Z.heap.size L ∧ Keep h h' ws) (hws : ∀ x ∈ ws, Z.heap.size ≤ x ∧ own_sw Z EL sf h x)
    {b : Addr} (E : Exa Z h b C) {g : JFrame} (hg : g.method = m) (hsize : g.locals.size = c.maxLocals) {argsL rest : List Value} (has : (.ref b :: argsL).toArray = as') (hlen : ∀ sig, parseMethodDescriptor y.desc = some sig → argsL.length = sig.parameters.length) (hstack : g.stack = argsL.reverse ++ .ref b :: rest) (hW : 2 * g.monitorRoom + (rest.map fun v => v.category).sum ≤ W) (hd : decode c.code g.pc = .ok (.invokevirtual index, 3)) (hc : k + kc ≤ R.cells) (hn : n + kn ≤ R.slots)
    (K : ∀ T' h' v L, Wk p l e R s m args below meth c Z EL a0 w T' h' (k + kc) (n + kn) sf → Q v h' L → Go p e below Φ T' { g with pc := g.pc + 3, stack := v.toList ++ rest }) : Go p e below Φ T g := by
  subst hnf
  obtain ⟨hE, vm0, locs, k0, X, eT, r, hk, hZ, N, O, C, S⟩ := H
  obtain ⟨cq, kq, qa, qb, qc⟩ := isOf (s := s.setVm vm0) hZ eT E
  obtain ⟨v, vm1, B, hWm, X', ⟨L, hQ, el, ek, en⟩, st⟩ := X.virtualBack hx (own_found r hown) (mvT hZ w1) (mvT hZ w2) (notFace_of_selects (args := #[]) (mvT hZ w3)) (mvT hZ w3) (mvT hZ w4) hy (hB vm0 hZ C.1) qa qc hg hsize (Steps.refl _) hlen hstack hW hd fun _ _ => ⟨has, eT, hc, hn⟩
  obtain ⟨hL, Kp⟩ := hq _ _ _ hQ
  exact Go.by st (K B.U _ v L (own_kept hE X' r hk hZ N O C S hL Kp hws el ek en) hQ)
/-- a narrow contract at a call -/
theorem own_backN {y : MethodName} {bytes : ByteArray} {maxL : Nat} {ret : Option FieldType} {rm : Room} {len W : Nat} {as' : Array Value} {vm0 : Vm} {Q : Option Value → Heap → Prop} (hM : Ct l Z [] a0 false y bytes maxL ret [] rm as' h [] (fun _ => []) Q)
    (wc : (Cond.code y bytes maxL ret).before a0 Z = true) (wz : (Cond.initialized y.cls).before a0 Z = true) (hf : rm.frames + 1 ≤ R.frames) (hl : W + (maxL + 11) + rm.locals ≤ R.locals) (hZ : Z.Warmed39 vm0) :
    Back l R p e below (s.setVm vm0) args y len W (fun A a => a = as' ∧ A.U.heap = h ∧ A.cells + rm.cells ≤ R.cells ∧ A.slots + rm.slots ≤ R.slots) (fun A _ v B => ∃ L, (Fr Z.heap.size L ∧ Ext Z.heap B.U.heap ∧ Q v B.U.heap) ∧ B.locs = A.locs ++ L ∧ B.cells = A.cells + rm.cells ∧ B.slots = A.slots + rm.slots) := by
  refine backOf (s := s.setVm vm0) (Q := fun v h' L => Fr Z.heap.size L ∧ Ext Z.heap h' ∧ Q v h') ?_ hZ wc wz hf hl
  intro p e ha hc hk s m args below hf happ hP hK
  obtain ⟨n, o, h1, h2, h3, v, L, rfl, ⟨r1, r2, -, r3⟩, -, q⟩ := hM p e ha hc hk s m args below hf happ ⟨hP.1, hP.2.1, hP.2.2, (fun _ hq => nomatch hq), (fun _ hq => nomatch hq)⟩ hK
  exact ⟨n, _, h1, h2, h3, v, L, rfl, ⟨r1, r2, r3⟩, q⟩
/-! calls of a callee that may intern -/
theorem own_backW {y : MethodName} {bytes : ByteArray} {maxL : Nat} {ret : Option FieldType} {rm : Room} {len W : Nat} {as' : Array Value} {sfc : List Addr} {vm0 : Vm} {gs : Option Value → List Addr} {Q : Option Value → Heap → Prop} (hM : Ct l Z EL a0 true y bytes maxL ret [] rm as' h sfc gs Q)
    (wc : (Cond.code y bytes maxL ret).before a0 Z = true) (wz : (Cond.initialized y.cls).before a0 Z = true) (hf : rm.frames + 1 ≤ R.frames) (hl : W + (maxL + 11) + rm.locals ≤ R.locals) (hZ : Z.Warmed39 vm0) (hE : EW Z a0 EL) (H : CHv Z EL vm0 h) (S : ∀ x ∈ sfc, x < h.size ∧ Safe Z EL vm0 h x) :
    BackS l R p e below (s.setVm vm0) args y len W (fun A a => a = as' ∧ A.U.heap = h ∧ A.cells + rm.cells ≤ R.cells ∧ A.slots + rm.slots ≤ R.slots)
      (fun A _ v B => ∃ L, (Fr Z.heap.size L ∧ Ext Z.heap B.U.heap ∧ (∀ x ∈ gs v, x < B.U.heap.size ∧ Safe Z EL B.U.vm B.U.heap x) ∧ Q v B.U.heap) ∧ B.locs = A.locs ++ L ∧ B.cells = A.cells + rm.cells ∧ B.slots = A.slots + rm.slots ∧ CHr Z EL vm0 h B.U.vm B.U.heap) :=
  BackS.of_freeW (bytes := bytes) (maxL := maxL) (ret := ret) (E := fun _ first o t L k n => k = rm.cells ∧ n = rm.slots ∧ (∃ v, o = .returned v ∧ Fr Z.heap.size L ∧ Ext Z.heap t.heap ∧ (∀ x ∈ gs v, x < t.heap.size ∧ Safe Z EL t.vm t.heap x) ∧ Q v t.heap) ∧ CHr Z EL first.vm first.heap t.vm t.heap) hM hf hl
    (fun m meth c A a Y hp => have hU : Z.Warmed39 A.U.vm := wtrans (s := s.setVm vm0) hZ Y.warmed
      ⟨by show (Cond.and _ .tt).before a A.U = true; rw [Cond.before_and, mv hU wc]; rfl, mv hU wc, mv hU wz, hp.2.2.1, hp.2.2.2⟩)
    (fun m meth c A a g mk Y hp => have q := CHv.at Y hZ hE H
      ⟨hp.1, wtrans (s := s.setVm vm0) hZ Y.warmed, hp.2.1, q.1, fun x hx => ⟨(S x hx).1, q.safe (S x hx).1 (S x hx).2⟩⟩) (fun _ _ _ _ _ _ _ _ _ => trivial)
    (fun _ _ _ _ ⟨v, L, h1, h2, h3, h4⟩ => ⟨L, _, _, h4, rfl, rfl, ⟨v, h1, h2⟩, h3⟩)
    (fun m meth c A a g mk v t L k n Y hp _ _ ⟨e1, e2, ⟨v', e3, e4⟩, e5⟩ => by
      cases e3; subst e1 e2
      refine ⟨L, e4, rfl, rfl, rfl, (CHv.at Y hZ hE H).trans ?_⟩
      rw [← hp.2.1]; exact e5)
theorem own_wide {vm0 : Vm} {locs L : List Loc} {k0 : Nat} {kc kn : Nat} {B : Pt} (hE : EW Z a0 EL) (X' : Stand p l e R (s.setVm B.U.vm) m args below meth c B.U B.locs B.cells B.slots) (r : s.Since vm0 k0) (hk : k0 ≤ h.size) (eT : T.heap = h) (h2 : (s.setVm vm0).Since B.U.vm B.U.heap.size) (gr : T.heap.size ≤ B.U.heap.size) (hZ : Z.Warmed39 vm0) (N : Fr Z.heap.size locs) (C : CHr Z EL s.vm s.heap vm0 h) (S : ∀ x ∈ sf, x < h.size ∧ Safe Z EL vm0 h x)
    (hL : Fr Z.heap.size L) (O : Ext Z.heap B.U.heap) {gl : List Addr} (GL : ∀ x ∈ gl, x < B.U.heap.size ∧ Safe Z EL B.U.vm B.U.heap x) (el : B.locs = locs ++ L) (ek : B.cells = k + kc) (en : B.slots = n + kn) (C' : CHr Z EL vm0 h B.U.vm B.U.heap) : Wk p l e R s m args below meth c Z EL a0 true B.U B.U.heap (k + kc) (n + kn) (gl ++ sf) := by
  refine own_pastG GL hE (by rw [← ek, ← en]; exact X') rfl (r.trans h2 (Nat.le_trans hk (by rw [← eT]; exact gr))) (Nat.le_refl _) (State.Warmed39.trans (t := s.setVm vm0) hZ h2.1) (by rw [el]; exact Fr.app N hL) O C C' S
theorem own_staticW (H : Wk p l e R s m args below meth c Z EL a0 true T h k n sf) (hx : p.tables.exec = Jvm.exec) {own : String} {index : Nat} {y : MethodName} {bytes : ByteArray} {maxL : Nat} {ret : Option FieldType} (hown : s.vm.findClass own = some m.cls) (w1 : (Cond.methodLink own index y).before a0 Z = true) (w2 : (Cond.static y).before a0 Z = true) (w3 : (Cond.initialized y.cls).before a0 Z = true) (w4 : (Cond.code y bytes maxL ret).before a0 Z = true)
    (hy : y.cls ≠ "java/lang/invoke/MethodHandle" ∧ y.cls ≠ "java/lang/invoke/VarHandle") {W : Nat} {rm : Room} {as' : Array Value} {sfc : List Addr} {gs : Option Value → List Addr} {Q : Option Value → Heap → Prop} (hM : Ct l Z EL a0 true y bytes maxL ret [] rm as' h sfc gs Q) (hsf : ∀ x ∈ sfc, x ∈ sf) (hf : rm.frames + 1 ≤ R.frames) (hl : W + (maxL + 11) + rm.locals ≤ R.locals)
    {g : JFrame} (hg : g.method = m) (hsize : g.locals.size = c.maxLocals) {argsL rest : List Value} (has : argsL.toArray = as') (hlen : ∀ sig, parseMethodDescriptor y.desc = some sig → argsL.length = sig.parameters.length) (hstack : g.stack = argsL.reverse ++ rest) (hW : 2 * g.monitorRoom + (rest.map fun v => v.category).sum ≤ W) (hd : decode c.code g.pc = .ok (.invokestatic index, 3)) (hc : k + rm.cells ≤ R.cells) (hn : n + rm.slots ≤ R.slots)
    (K : ∀ T' h' v, Wk p l e R s m args below meth c Z EL a0 true T' h' (k + rm.cells) (n + rm.slots) (gs v ++ sf) → h.size ≤ h'.size → Q v h' → Go p e below Φ T' { g with pc := g.pc + 3, stack := v.toList ++ rest }) : Go p e below Φ T g := by
  obtain ⟨hE, vm0, locs, k0, X, eT, r, hk, hZ, N, O, C, S⟩ := H
  obtain ⟨v, vm1, B, hWm, X', h2, gr, ⟨L, ⟨hL, O', GL, hQ⟩, el, ek, en, C'⟩, st⟩ := callSS X hx (own_found r hown) (mvT hZ w1) (mvT hZ w2) (mvT hZ w3) (mvT hZ w4) hy (own_backW hM w4 w3 hf hl hZ hE C.1 fun x hx => S x (hsf x hx)) hg hsize hlen hstack hW hd fun _ _ => ⟨has, eT, hc, hn⟩
  exact Go.by st (K B.U _ v (own_wide (s := s) hE X' r hk eT h2 gr hZ N C S hL O' GL el ek en C') C'.2.1 hQ)
theorem own_specialW (H : Wk p l e R s m args below meth c Z EL a0 true T h k n sf) (hx : p.tables.exec = Jvm.exec) {own : String} {index : Nat} {y : MethodName} {bytes : ByteArray} {maxL : Nat} (hy1 : y.name = "<init>") (hown : s.vm.findClass own = some m.cls) (w1 : (Cond.methodLink own index y).before a0 Z = true) (w2 : (Cond.instanceMethod y).before a0 Z = true) (w3 : (Cond.initialized y.cls).before a0 Z = true) (w4 : (Cond.code y bytes maxL none).before a0 Z = true)
    (hy : y.cls ≠ "java/lang/invoke/MethodHandle" ∧ y.cls ≠ "java/lang/invoke/VarHandle") {W : Nat} {rm : Room} {as' : Array Value} {sfc : List Addr} {gs : Option Value → List Addr} {Q : Option Value → Heap → Prop} (hM : Ct l Z EL a0 true y bytes maxL none [] rm as' h sfc gs Q) (hsf : ∀ x ∈ sfc, x ∈ sf) (hf : rm.frames + 1 ≤ R.frames) (hl : W + (maxL + 11) + rm.locals ≤ R.locals)
    {g : JFrame} (hg : g.method = m) (hsize : g.locals.size = c.maxLocals) {a : Addr} {argsL rest : List Value} (has : (.ref a :: argsL).toArray = as') (hlen : ∀ sig, parseMethodDescriptor y.desc = some sig → argsL.length = sig.parameters.length) (hstack : g.stack = argsL.reverse ++ .ref a :: rest) (hW : 2 * g.monitorRoom + (rest.map fun v => v.category).sum ≤ W) (hd : decode c.code g.pc = .ok (.invokespecial index, 3)) (hc : k + rm.cells ≤ R.cells) (hn : n + rm.slots ≤ R.slots)
    (K : ∀ T' h' v, Wk p l e R s m args below meth c Z EL a0 true T' h' (k + rm.cells) (n + rm.slots) (gs v ++ sf) → h.size ≤ h'.size → Q v h' → Go p e below Φ T' { g with pc := g.pc + 3, stack := v.toList ++ rest }) : Go p e below Φ T g := by
  obtain ⟨hE, vm0, locs, k0, X, eT, r, hk, hZ, N, O, C, S⟩ := H
  obtain ⟨v, vm1, B, hWm, X', h2, gr, ⟨L, ⟨hL, O', GL, hQ⟩, el, ek, en, C'⟩, st⟩ := X.specialBackS hx hy1 (own_found r hown) (mvT hZ w1) (mvT hZ w2) (mvT hZ w4) hy (own_backW hM w4 w3 hf hl hZ hE C.1 fun x hx => S x (hsf x hx)) hg hsize (Steps.refl _) hlen hstack hW hd fun _ _ => ⟨has, eT, hc, hn⟩
  exact Go.by st (K B.U _ v (own_wide (s := s) hE X' r hk eT h2 gr hZ N C S hL O' GL el ek en C') C'.2.1 hQ)
theorem own_virtualW (H : Wk p l e R s m args below meth c Z EL a0 true T h k n sf) (hx : p.tables.exec = Jvm.exec) {own C : String} {index : Nat} {y z : MethodName} {bytes : ByteArray} {maxL : Nat} {ret : Option FieldType} (hown : s.vm.findClass own = some m.cls) (w1 : (Cond.methodLink own index y).before a0 Z = true) (w2 : (Cond.declares y).before a0 Z = true) (hnf : ∀ vm0, Z.Warmed39 vm0 → NotFace (s.setVm vm0) y) (w3 : (Cond.selects C y z).before a0 Z = true) (w5 : (Cond.instanceMethod z).before a0 Z = true) (w6 : (Cond.initialized z.cls).before a0 Z = true) (w4 : (Cond.code z bytes maxL ret).before a0 Z = true)
    (hy : y.cls ≠ "java/lang/invoke/MethodHandle" ∧ y.cls ≠ "java/lang/invoke/VarHandle") {W : Nat} {rm : Room} {as' : Array Value} {sfc : List Addr} {gs : Option Value → List Addr} {Q : Option Value → Heap → Prop} (hM : Ct l Z EL a0 true z bytes maxL ret [] rm as' h sfc gs Q) (hsf : ∀ x ∈ sfc, x ∈ sf) (hf : rm.frames + 1 ≤ R.frames) (hl : W + (maxL + 11) + rm.locals ≤ R.locals)
    {b : Addr} (E : Exa Z h b C) {g : JFrame} (hg : g.method = m) (hsize : g.locals.size = c.maxLocals) {argsL rest : List Value} (has : (.ref b :: argsL).toArray = as') (hlen : ∀ sig, parseMethodDescriptor y.desc = some sig → argsL.length = sig.parameters.length) (hstack : g.stack = argsL.reverse ++ .ref b :: rest) (hW : 2 * g.monitorRoom + (rest.map fun v => v.category).sum ≤ W) (hd : decode c.code g.pc = .ok (.invokevirtual index, 3)) (hc : k + rm.cells ≤ R.cells) (hn : n + rm.slots ≤ R.slots)
    (K : ∀ T' h' v, Wk p l e R s m args below meth c Z EL a0 true T' h' (k + rm.cells) (n + rm.slots) (gs v ++ sf) → h.size ≤ h'.size → Q v h' → Go p e below Φ T' { g with pc := g.pc + 3, stack := v.toList ++ rest }) : Go p e below Φ T g := by
  obtain ⟨hE, vm0, locs, k0, X, eT, r, hk, hZ, N, O, C, S⟩ := H
  obtain ⟨cq, kq, qa, qb, qc⟩ := isOf (s := s.setVm vm0) hZ eT E
  obtain ⟨v, vm1, B, hWm, X', h2, gr, ⟨L, ⟨hL, O', GL, hQ⟩, el, ek, en, C'⟩, st⟩ := X.virtualBackS hx (own_found r hown) (mvT hZ w1) (mvT hZ w2) (hnf vm0 hZ) (mvT hZ w3) (mvT hZ w5) hy (own_backW hM w4 w6 hf hl hZ hE C.1 fun x hx => S x (hsf x hx)) qa qc hg hsize (Steps.refl _) hlen hstack hW hd fun _ _ => ⟨has, eT, hc, hn⟩
  exact Go.by st (K B.U _ v (own_wide (s := s) hE X' r hk eT h2 gr hZ N C S hL O' GL el ek en C') C'.2.1 hQ)
theorem own_nf {C : String} {y z : MethodName} (w3 : (Cond.selects C y z).before a0 Z = true) (q : y = z) : ∀ vm0, Z.Warmed39 vm0 → NotFace (s.setVm vm0) y := fun vm0 hZ => by
  subst q; exact notFace_of_selects (args := #[]) (mvT (s := s.setVm vm0) hZ w3)
theorem own_ifaceW (H : Wk p l e R s m args below meth c Z EL a0 true T h k n sf) (hx : p.tables.exec = Jvm.exec) {own C : String} {index count : Nat} {xi y : MethodName} {bytes : ByteArray} {maxL : Nat} {ret : Option FieldType} (hown : s.vm.findClass own = some m.cls) (w1 : (Cond.methodLink own index xi).before a0 Z = true) (w2 : (Cond.declares xi).before a0 Z = true) (w3 : (Cond.interfaceMethod xi.cls xi.cls xi.name xi.desc).before a0 Z = true) (w3f : ((Cond.interfaceMethod xi.cls xi.cls xi.name xi.desc).onTables && (Cond.interfaceMethod xi.cls xi.cls xi.name xi.desc).keepsFace) = true) (w5 : (Cond.selects C xi y).before a0 Z = true) (w6 : (Cond.instanceMethod y).before a0 Z = true) (w7 : (Cond.publicMethod y).before a0 Z = true) (w8 : (Cond.unhidden C xi.name xi.desc).before a0 Z = true) (w9 : (Cond.castable C xi.cls).before a0 Z = true) (w10 : (Cond.initialized y.cls).before a0 Z = true) (w4 : (Cond.code y bytes maxL ret).before a0 Z = true)
    (hy : xi.cls ≠ "java/lang/invoke/MethodHandle" ∧ xi.cls ≠ "java/lang/invoke/VarHandle") {W : Nat} {rm : Room} {as' : Array Value} {sfc : List Addr} {gs : Option Value → List Addr} {Q : Option Value → Heap → Prop} (hM : Ct l Z EL a0 true y bytes maxL ret [] rm as' h sfc gs Q) (hsf : ∀ x ∈ sfc, x ∈ sf) (hf : rm.frames + 1 ≤ R.frames) (hl : W + (maxL + 11) + rm.locals ≤ R.locals)
    {b : Addr} (E : Exa Z h b C) {g : JFrame} (hg : g.method = m) (hsize : g.locals.size = c.maxLocals) {argsL rest : List Value} (has : (.ref b :: argsL).toArray = as') (hlen : ∀ sig, parseMethodDescriptor xi.desc = some sig → argsL.length = sig.parameters.length) (hstack : g.stack = argsL.reverse ++ .ref b :: rest) (hW : 2 * g.monitorRoom + (rest.map fun v => v.category).sum ≤ W) (hd : decode c.code g.pc = .ok (.invokeinterface index count, 5)) (hc : k + rm.cells ≤ R.cells) (hn : n + rm.slots ≤ R.slots)
    (K : ∀ T' h' v, Wk p l e R s m args below meth c Z EL a0 true T' h' (k + rm.cells) (n + rm.slots) (gs v ++ sf) → h.size ≤ h'.size → Q v h' → Go p e below Φ T' { g with pc := g.pc + 5, stack := v.toList ++ rest }) : Go p e below Φ T g := by
  obtain ⟨hE, vm0, locs, k0, X, eT, r, hk, hZ, N, O, C, S⟩ := H
  obtain ⟨cq, kq, qa, qb, qc⟩ := isOf (s := s.setVm vm0) hZ eT E
  obtain ⟨v, vm1, B, hWm, X', h2, gr, ⟨L, ⟨hL, O', GL, hQ⟩, el, ek, en, C'⟩, st⟩ := X.interfaceBackS hx (own_found r hown) (mvT hZ w1) (mvT hZ w2) (mvT hZ w3 w3f) (mvT hZ w5) (mvT hZ w6) (mvT hZ w7) (mvT hZ w8) (mvT hZ w9) hy (own_backW hM w4 w10 hf hl hZ hE C.1 fun x hx => S x (hsf x hx)) qa qb qc hg hsize (Steps.refl _) hlen hstack hW hd fun _ _ => ⟨has, eT, hc, hn⟩
  exact Go.by st (K B.U _ v (own_wide (s := s) hE X' r hk eT h2 gr hZ N C S hL O' GL el ek en C') C'.2.1 hQ)
end OwnLayer
end Jvm.Pilot.@@N@@
namespace Jvm.Pilot.@@N@@
open Jvm Jvm.ClassFile Sem Op Lib Jvm.Free Jvm.Stand Jvm.LawKit Jvm.RoadKit Bundle
section OwnStr
variable {p : Program} {l : Launch} {e : Env} {R : Room} {s : State} {m : MethodId} {args : Array Value} {below : List Frame} {meth : Method} {c : Code} {Z : State} {EL : List (String × Nat)} {a0 : Array Value} {T : State} {h h' : Heap} {k n : Nat} {sf : List Addr} {w : Bool} {Φ : State → Prop} {r : Addr} {cs : List Int32}
/-- in the heap h, r is a String of the chars cs -/
def own_str (Z : State) (h : Heap) (r : Addr) (cs : List Int32) : Prop := ∃ (t : Addr) (kb : ClassId) (cd N2 : Int32) (vs : List Value), Exa Z h r "java/lang/String" ∧ Fld Z h r "java/lang/String" "coder" "B" (.int cd) ∧ Fld Z h r "java/lang/String" "value" "[B" (.ref t) ∧ Arv Z h t kb .byte N2 vs (.int 0) ∧ StrChars.Road.CodA cs cd N2 vs ∧ ∀ c ∈ cs, ¬ c < 0 ∧ ¬ (65535 : Int32) < c
theorem own_str.exa (S : own_str Z h r cs) : Exa Z h r "java/lang/String" := by obtain ⟨t, kb, cd, N2, vs, E, -⟩ := S; exact E
theorem own_str.lt (S : own_str Z h r cs) : r < h.size := S.exa.lt
theorem own_str.ext (S : own_str Z h r cs) (E : Ext h h') : own_str Z h' r cs := by obtain ⟨t, kb, cd, N2, vs, a, b, c, d, e⟩ := S; exact ⟨t, kb, cd, N2, vs, a.ext E, b.ext E, c.ext E, d.ext E, e⟩
def own_nstr (Z : State) (a0 : Array Value) (h : Heap) (x : Addr) : Prop := ∃ C k, Exa Z h x C ∧ C ≠ "java/lang/String" ∧ (Jvm.Cond.instantiable C k).before a0 Z = true
theorem own_str.keep {ws : List Addr} (S : own_str Z h r cs) (K : Keep h h' ws) (q : ∀ x ∈ ws, own_nstr Z a0 h x) : own_str Z h' r cs := by
  obtain ⟨t, kb, cd, N2, vs, a, b, c, d, e⟩ := S
  have n1 : r ∉ ws := fun hm => by obtain ⟨C, k, E, hn, -⟩ := q _ hm; exact ne_exa E a hn rfl
  have n2 : t ∉ ws := fun hm => by
    obtain ⟨C, k, E, hn, wi⟩ := q _ hm
    obtain ⟨cl, A, -⟩ := d
    exact ne_arr E wi A rfl
  exact ⟨t, kb, cd, N2, vs, a.keep K, b.keep K n1, c.keep K n1, d.keep K n2, e⟩
theorem own_str.keep0 (S : own_str Z h r cs) (K : Keep h h' []) : own_str Z h' r cs := S.keep (a0 := #[]) K fun _ hx => nomatch hx
theorem own_str.chars (S : own_str Z h r cs) : ∀ c ∈ cs, ¬ c < 0 ∧ ¬ (65535 : Int32) < c := by obtain ⟨t, kb, cd, N2, vs, a, b, c, d, e, f⟩ := S; exact f
theorem own_up {cs : List Int32} (hp : ∀ c ∈ cs, ¬ c < 0 ∧ ¬ (255 : Int32) < c) : ∀ c ∈ cs, ¬ c < 0 ∧ ¬ (65535 : Int32) < c := fun c hc => ⟨(hp c hc).1, fun q => (hp c hc).2 (by
  have e1 : (255 : Int32).toInt = 255 := by decide
  have e2 : (65535 : Int32).toInt = 65535 := by decide
  rw [Int32.lt_iff_toInt_lt, e2] at q; rw [Int32.lt_iff_toInt_lt, e1]; omega)⟩
theorem own_str.empty {t : Addr} {kb : ClassId} (a : Exa Z h r "java/lang/String") (b : Fld Z h r "java/lang/String" "coder" "B" (.int 0)) (c : Fld Z h r "java/lang/String" "value" "[B" (.ref t)) (d : Arv Z h t kb .byte 0 [] (.int 0)) : own_str Z h r [] :=
  ⟨t, kb, 0, 0, [], a, b, c, d, StrChars.Road.codOf rfl (fun _ hq => nomatch hq), fun _ hq => nomatch hq⟩
theorem own_newS (H : Wk p l e R s m args below meth c Z EL a0 w T h k n sf) (hx : p.tables.exec = Jvm.exec) {own : String} {index : Nat} {bytes : ByteArray} {maxL : Nat} (hown : s.vm.findClass own = some m.cls) (w1 : (Jvm.Cond.methodLink own index (⟨"java/lang/String", "<init>", "([C)V"⟩ : MethodName)).before a0 Z = true) (w2 : (Jvm.Cond.instanceMethod (⟨"java/lang/String", "<init>", "([C)V"⟩ : MethodName)).before a0 Z = true) (w4 : (Jvm.Cond.code (⟨"java/lang/String", "<init>", "([C)V"⟩ : MethodName) bytes maxL none).before a0 Z = true)
    (hws : ∀ d ∈ StrChars.Road.words, d.before a0 Z = true) {kI : Nat} (wi : (Jvm.Cond.instantiable "java/lang/String" kI).before a0 Z = true) {x b : Addr} {kC : ClassId} {N z : Int32} {d v0 c0 : Value} {ln W : Nat} (Ex : Exa Z h x "java/lang/String") (Fv : Fld Z h x "java/lang/String" "value" "[B" v0) (Fc : Fld Z h x "java/lang/String" "coder" "B" c0) (V : Arv Z h b kC .char N (cs.map Value.int) d) (Sc : Sta Z Z.heap "java/lang/String" "COMPACT_STRINGS" "Z" (.int z)) (hz : ¬ z = 0)
    (hn' : cs.length = ln) (hN : N = Int32.ofNat ln) (l0 : 0 < ln) (l2 : ln ≤ 4000) (hp : ∀ c ∈ cs, ¬ c < 0 ∧ ¬ (255 : Int32) < c) (hfr : 4 ≤ R.frames) (hlo : W + 65 ≤ R.locals) (hxs : Z.heap.size ≤ x) (hxm : x ∈ sf)
    {g : JFrame} (hg : g.method = m) (hsize : g.locals.size = c.maxLocals) {rest : List Value} (hstack : g.stack = .ref b :: .ref x :: rest) (hW : 2 * g.monitorRoom + (rest.map fun v => v.category).sum ≤ W) (hd : decode c.code g.pc = .ok (.invokespecial index, 3)) (hc : k + 1 ≤ R.cells) (hn : n + ln ≤ R.slots)
    (K : ∀ T' h', Wk p l e R s m args below meth c Z EL a0 w T' h' (k + 1) (n + ln) sf → Keep h h' [x] → own_str Z h' x cs → Go p e below Φ T' { g with pc := g.pc + 3, stack := rest }) : Go p e below Φ T g := by
  have O := H.old
  refine own_specialB H hx (y := (⟨"java/lang/String", "<init>", "([C)V"⟩ : MethodName)) rfl hown w1 w2 w4 (by decide) (W := W) (kc := 1) (kn := ln) (as' := #[.ref x, .ref b]) (fun v h' L => StrChars.Road.QV Z x N (cs.map fun c => c.toInt8.toInt32) h Z.heap.size v h' L)
    (fun vm0 hZ _ => StrChars.Road.backV (s := s.setVm vm0) hZ hws wi hxs O.1 Ex Fv Fc V (Sc.ext O) hz hn' hN l0 l2 hp rfl hfr hlo) (ws := [x]) (fun v h' L q => ⟨q.2.1, q.2.2.1⟩) (allS ⟨hxs, own_mem hxm⟩ all0) hg hsize (a := x) (argsL := [.ref b]) (rest := rest) rfl (lenOf (by decide : parseMethodDescriptor "([C)V" = some ⟨[.array .char], none⟩) rfl) hstack hW hd hc hn ?_
  intro T' h' v L H' q
  obtain ⟨rfl, -, Kp, E', F', t, kb, -, -, -, Fv', V'⟩ := q
  subst hN
  exact K T' h' H' Kp ⟨t, kb, 0, _, _, E', F', Fv', V', StrChars.Road.codOf hn' fun c hc => (hp c hc).2, own_up hp⟩
end OwnStr
end Jvm.Pilot.@@N@@
namespace Jvm.Pilot.@@N@@
open Jvm Jvm.ClassFile Sem Op Lib Jvm.Free Jvm.Stand Jvm.LawKit Jvm.RoadKit Bundle
section OwnStrLen
variable {p : Program} {l : Launch} {e : Env} {R : Room} {s : State} {m : MethodId} {args : Array Value} {below : List Frame} {meth : Method} {c : Code} {Z : State} {EL : List (String × Nat)} {a0 : Array Value} {T : State} {h h' : Heap} {k n : Nat} {sf : List Addr} {w : Bool} {Φ : State → Prop} {r : Addr} {cs : List Int32}
theorem own_lenS (H : Wk p l e R s m args below meth c Z EL a0 w T h k n sf) (hx : p.tables.exec = Jvm.exec) {own : String} {index : Nat} (hown : s.vm.findClass own = some m.cls) (w1 : (Jvm.Cond.methodLink own index (⟨"java/lang/String", "length", "()I"⟩ : MethodName)).before a0 Z = true) (w2 : (Jvm.Cond.declares (⟨"java/lang/String", "length", "()I"⟩ : MethodName)).before a0 Z = true) (w3 : (Jvm.Cond.selects "java/lang/String" (⟨"java/lang/String", "length", "()I"⟩ : MethodName) (⟨"java/lang/String", "length", "()I"⟩ : MethodName)).before a0 Z = true) (w4 : (Jvm.Cond.instanceMethod (⟨"java/lang/String", "length", "()I"⟩ : MethodName)).before a0 Z = true)
    (hws : ∀ d ∈ StrChars.Road.wordsLen, d.before a0 Z = true) {kI : Nat} (wi : (Jvm.Cond.instantiable "java/lang/String" kI).before a0 Z = true) {x : Addr} {z : Int32} {W : Nat} (Sx : own_str Z h x cs) (lx : cs.length ≤ 4000) (Sc : Sta Z Z.heap "java/lang/String" "COMPACT_STRINGS" "Z" (.int z)) (hz : ¬ z = 0) (hfr : 2 ≤ R.frames) (hlo : W + 25 ≤ R.locals)
    {g : JFrame} (hg : g.method = m) (hsize : g.locals.size = c.maxLocals) {rest : List Value} (hstack : g.stack = .ref x :: rest) (hW : 2 * g.monitorRoom + (rest.map fun v => v.category).sum ≤ W) (hd : decode c.code g.pc = .ok (.invokevirtual index, 3)) (hc : k + 0 ≤ R.cells) (hn : n + 0 ≤ R.slots)
    (K : ∀ T', Wk p l e R s m args below meth c Z EL a0 w T' h k n sf → Go p e below Φ T' { g with pc := g.pc + 3, stack := .int (Int32.ofNat cs.length) :: rest }) : Go p e below Φ T g := by
  have O := H.old
  have Ex := Sx.exa
  obtain ⟨t, kb, cd, N2, vs, a, b, c1, d, e1, f⟩ := Sx
  refine own_virtualB H hx (y := (⟨"java/lang/String", "length", "()I"⟩ : MethodName)) (z := (⟨"java/lang/String", "length", "()I"⟩ : MethodName)) hown w1 w2 w3 rfl w4 (by decide) (W := W) (kc := 0) (kn := 0) (as' := #[.ref x]) (fun v h' L => v = some (.int (Int32.ofNat cs.length)) ∧ L = [] ∧ h' = h)
    (fun vm0 hZ _ => StrChars.Road.lenW (s := s.setVm vm0) hZ hws wi a c1 b d e1 f (Sc.ext O) hz lx hfr hlo) (ws := []) (fun v h' L q => ⟨q.2.1 ▸ Fr.nil _, q.2.2 ▸ Keep.refl _ _⟩) all0 Ex hg hsize (argsL := []) (rest := rest) rfl (lenOf (by decide : parseMethodDescriptor "()I" = some ⟨[], some .int⟩) rfl) hstack hW hd hc hn ?_
  intro T' h' v L H' q
  obtain ⟨rfl, rfl, rfl⟩ := q
  exact K T' H'
end OwnStrLen
end Jvm.Pilot.@@N@@
namespace Jvm.Pilot.@@N@@
open Jvm Jvm.ClassFile Sem Op Lib Jvm.Free Jvm.Stand Jvm.LawKit Jvm.RoadKit Bundle
section OwnStrEm
variable {p : Program} {l : Launch} {e : Env} {R : Room} {s : State} {m : MethodId} {args : Array Value} {below : List Frame} {meth : Method} {c : Code} {Z : State} {EL : List (String × Nat)} {a0 : Array Value} {T : State} {h h' : Heap} {k n : Nat} {sf : List Addr} {w : Bool} {Φ : State → Prop} {r : Addr} {cs : List Int32}
theorem own_emS (H : Wk p l e R s m args below meth c Z EL a0 w T h k n sf) (hx : p.tables.exec = Jvm.exec) {own : String} {index : Nat} (hown : s.vm.findClass own = some m.cls) (w1 : (Jvm.Cond.methodLink own index (⟨"java/lang/String", "isEmpty", "()Z"⟩ : MethodName)).before a0 Z = true) (w2 : (Jvm.Cond.declares (⟨"java/lang/String", "isEmpty", "()Z"⟩ : MethodName)).before a0 Z = true) (w3 : (Jvm.Cond.selects "java/lang/String" (⟨"java/lang/String", "isEmpty", "()Z"⟩ : MethodName) (⟨"java/lang/String", "isEmpty", "()Z"⟩ : MethodName)).before a0 Z = true) (w4 : (Jvm.Cond.instanceMethod (⟨"java/lang/String", "isEmpty", "()Z"⟩ : MethodName)).before a0 Z = true)
    (hws : ∀ d ∈ StrChars.Road.wordsEmp, d.before a0 Z = true) {kI : Nat} (wi : (Jvm.Cond.instantiable "java/lang/String" kI).before a0 Z = true) {x : Addr} {W : Nat} (Sx : own_str Z h x cs) (lx : cs.length ≤ 4000) (hfr : 1 ≤ R.frames) (hlo : W + 12 ≤ R.locals)
    {g : JFrame} (hg : g.method = m) (hsize : g.locals.size = c.maxLocals) {rest : List Value} (hstack : g.stack = .ref x :: rest) (hW : 2 * g.monitorRoom + (rest.map fun v => v.category).sum ≤ W) (hd : decode c.code g.pc = .ok (.invokevirtual index, 3)) (hc : k + 0 ≤ R.cells) (hn : n + 0 ≤ R.slots)
    (K : ∀ T', Wk p l e R s m args below meth c Z EL a0 w T' h k n sf → Go p e below Φ T' { g with pc := g.pc + 3, stack := .int (if cs.length = 0 then 1 else 0) :: rest }) : Go p e below Φ T g := by
  have O := H.old
  have Ex := Sx.exa
  obtain ⟨t, kb, cd, N2, vs, a, b, c1, d, e1, f⟩ := Sx
  refine own_virtualB H hx (y := (⟨"java/lang/String", "isEmpty", "()Z"⟩ : MethodName)) (z := (⟨"java/lang/String", "isEmpty", "()Z"⟩ : MethodName)) hown w1 w2 w3 rfl w4 (by decide) (W := W) (kc := 0) (kn := 0) (as' := #[.ref x]) (fun v h' L => v = some (.int (if cs.length = 0 then 1 else 0)) ∧ L = [] ∧ h' = h)
    (fun vm0 hZ _ => StrChars.Road.empW (s := s.setVm vm0) hZ hws wi a c1 b d e1 f lx hfr hlo) (ws := []) (fun v h' L q => ⟨q.2.1 ▸ Fr.nil _, q.2.2 ▸ Keep.refl _ _⟩) all0 Ex hg hsize (argsL := []) (rest := rest) rfl (lenOf (by decide : parseMethodDescriptor "()Z" = some ⟨[], some .boolean⟩) rfl) hstack hW hd hc hn ?_
  intro T' h' v L H' q
  obtain ⟨rfl, rfl, rfl⟩ := q
  exact K T' H'
end OwnStrEm
end Jvm.Pilot.@@N@@
namespace Jvm.Pilot.@@N@@
open Jvm Jvm.ClassFile Sem Op Lib Jvm.Free Jvm.Stand Jvm.LawKit Jvm.RoadKit Bundle Jvm.Pilot.@@N@@.Jvm.D
theorem ef_rm_ul (m : MethodId) (x0 : Addr) : entryFrame m #[(.ref x0)] 1 = mkF m 0 #[.val (.ref x0)] [] := by first | (simp [entryFrame, mkF, argsToLocals, Value.category]; done) | rfl
theorem pn_0 : plainName "java/lang/StringUTF16" = true := by first | (simp [plainName, overriddenIn]; done) | decide +kernel
theorem d_jdk_52_6_0 : decode jdk_52_method_6_code 0 = .ok (.aload_n 0, 1) := by decide +kernel
theorem d_jdk_52_6_1 : decode jdk_52_method_6_code 1 = .ok (.arraylength, 1) := by decide +kernel
theorem d_jdk_52_6_2 : decode jdk_52_method_6_code 2 = .ok (.iconst 1, 1) := by decide +kernel
theorem d_jdk_52_6_3 : decode jdk_52_method_6_code 3 = .ok (.ishr, 1) := by decide +kernel
theorem d_jdk_52_6_4 : decode jdk_52_method_6_code 4 = .ok (.ireturn, 1) := by decide +kernel
theorem ef_rm_put (m : MethodId) (x0 : Addr) (x1 : Int32) (x2 : Int32) : entryFrame m #[(.ref x0), (.int x1), (.int x2)] 3 = mkF m 0 #[.val (.ref x0), .val (.int x1), .val (.int x2)] [] := by first | (simp [entryFrame, mkF, argsToLocals, Value.category]; done) | rfl
theorem d_jdk_52_4_0 : decode jdk_52_method_4_code 0 = .ok (.getstatic 44, 3) := by decide +kernel
theorem d_jdk_52_4_3 : decode jdk_52_method_4_code 3 = .ok (.ifCond .ne 25, 3) := by decide +kernel
theorem d_jdk_52_4_28 : decode jdk_52_method_4_code 28 = .ok (.iload_n 1, 1) := by decide +kernel
theorem d_jdk_52_4_29 : decode jdk_52_method_4_code 29 = .ok (.iconst 1, 1) := by decide +kernel
theorem d_jdk_52_4_30 : decode jdk_52_method_4_code 30 = .ok (.ishl, 1) := by decide +kernel
theorem d_jdk_52_4_31 : decode jdk_52_method_4_code 31 = .ok (.istore_n 1, 1) := by decide +kernel
theorem d_jdk_52_4_32 : decode jdk_52_method_4_code 32 = .ok (.aload_n 0, 1) := by decide +kernel
theorem d_jdk_52_4_33 : decode jdk_52_method_4_code 33 = .ok (.iload_n 1, 1) := by decide +kernel
theorem d_jdk_52_4_34 : decode jdk_52_method_4_code 34 = .ok (.iinc 1 1, 3) := by decide +kernel
theorem d_jdk_52_4_37 : decode jdk_52_method_4_code 37 = .ok (.iload_n 2, 1) := by decide +kernel
theorem d_jdk_52_4_38 : decode jdk_52_method_4_code 38 = .ok (.getstatic 59, 3) := by decide +kernel
theorem d_jdk_52_4_41 : decode jdk_52_method_4_code 41 = .ok (.ishr, 1) := by decide +kernel
theorem d_jdk_52_4_42 : decode jdk_52_method_4_code 42 = .ok (.i2b, 1) := by decide +kernel
theorem d_jdk_52_4_43 : decode jdk_52_method_4_code 43 = .ok (.bastore, 1) := by decide +kernel
theorem d_jdk_52_4_44 : decode jdk_52_method_4_code 44 = .ok (.aload_n 0, 1) := by decide +kernel
theorem d_jdk_52_4_45 : decode jdk_52_method_4_code 45 = .ok (.iload_n 1, 1) := by decide +kernel
theorem d_jdk_52_4_46 : decode jdk_52_method_4_code 46 = .ok (.iload_n 2, 1) := by decide +kernel
theorem d_jdk_52_4_47 : decode jdk_52_method_4_code 47 = .ok (.getstatic 63, 3) := by decide +kernel
theorem d_jdk_52_4_50 : decode jdk_52_method_4_code 50 = .ok (.ishr, 1) := by decide +kernel
theorem d_jdk_52_4_51 : decode jdk_52_method_4_code 51 = .ok (.i2b, 1) := by decide +kernel
theorem d_jdk_52_4_52 : decode jdk_52_method_4_code 52 = .ok (.bastore, 1) := by decide +kernel
theorem d_jdk_52_4_53 : decode jdk_52_method_4_code 53 = .ok (.return_, 1) := by decide +kernel
theorem ef_rm_get (m : MethodId) (x0 : Addr) (x1 : Int32) : entryFrame m #[(.ref x0), (.int x1)] 2 = mkF m 0 #[.val (.ref x0), .val (.int x1)] [] := by first | (simp [entryFrame, mkF, argsToLocals, Value.category]; done) | rfl
theorem d_jdk_52_5_0 : decode jdk_52_method_5_code 0 = .ok (.getstatic 44, 3) := by decide +kernel
theorem d_jdk_52_5_3 : decode jdk_52_method_5_code 3 = .ok (.ifCond .ne 25, 3) := by decide +kernel
theorem d_jdk_52_5_28 : decode jdk_52_method_5_code 28 = .ok (.iload_n 1, 1) := by decide +kernel
theorem d_jdk_52_5_29 : decode jdk_52_method_5_code 29 = .ok (.iconst 1, 1) := by decide +kernel
theorem d_jdk_52_5_30 : decode jdk_52_method_5_code 30 = .ok (.ishl, 1) := by decide +kernel
theorem d_jdk_52_5_31 : decode jdk_52_method_5_code 31 = .ok (.istore_n 1, 1) := by decide +kernel
theorem d_jdk_52_5_32 : decode jdk_52_method_5_code 32 = .ok (.aload_n 0, 1) := by decide +kernel
theorem d_jdk_52_5_33 : decode jdk_52_method_5_code 33 = .ok (.iload_n 1, 1) := by decide +kernel
theorem d_jdk_52_5_34 : decode jdk_52_method_5_code 34 = .ok (.iinc 1 1, 3) := by decide +kernel
theorem d_jdk_52_5_37 : decode jdk_52_method_5_code 37 = .ok (.baload, 1) := by decide +kernel
theorem d_jdk_52_5_38 : decode jdk_52_method_5_code 38 = .ok (.sipush 255, 3) := by decide +kernel
theorem d_jdk_52_5_41 : decode jdk_52_method_5_code 41 = .ok (.iand, 1) := by decide +kernel
theorem d_jdk_52_5_42 : decode jdk_52_method_5_code 42 = .ok (.getstatic 59, 3) := by decide +kernel
theorem d_jdk_52_5_45 : decode jdk_52_method_5_code 45 = .ok (.ishl, 1) := by decide +kernel
theorem d_jdk_52_5_46 : decode jdk_52_method_5_code 46 = .ok (.aload_n 0, 1) := by decide +kernel
theorem d_jdk_52_5_47 : decode jdk_52_method_5_code 47 = .ok (.iload_n 1, 1) := by decide +kernel
theorem d_jdk_52_5_48 : decode jdk_52_method_5_code 48 = .ok (.baload, 1) := by decide +kernel
theorem d_jdk_52_5_49 : decode jdk_52_method_5_code 49 = .ok (.sipush 255, 3) := by decide +kernel
theorem d_jdk_52_5_52 : decode jdk_52_method_5_code 52 = .ok (.iand, 1) := by decide +kernel
theorem d_jdk_52_5_53 : decode jdk_52_method_5_code 53 = .ok (.getstatic 63, 3) := by decide +kernel
theorem d_jdk_52_5_56 : decode jdk_52_method_5_code 56 = .ok (.ishl, 1) := by decide +kernel
theorem d_jdk_52_5_57 : decode jdk_52_method_5_code 57 = .ok (.ior, 1) := by decide +kernel
theorem d_jdk_52_5_58 : decode jdk_52_method_5_code 58 = .ok (.i2c, 1) := by decide +kernel
theorem d_jdk_52_5_59 : decode jdk_52_method_5_code 59 = .ok (.ireturn, 1) := by decide +kernel
theorem ef_rm_nbl (m : MethodId) (x0 : Int32) : entryFrame m #[(.int x0)] 1 = mkF m 0 #[.val (.int x0)] [] := by first | (simp [entryFrame, mkF, argsToLocals, Value.category]; done) | rfl
theorem d_jdk_52_3_0 : decode jdk_52_method_3_code 0 = .ok (.iload_n 0, 1) := by decide +kernel
theorem d_jdk_52_3_1 : decode jdk_52_method_3_code 1 = .ok (.ifCond .ge 11, 3) := by decide +kernel
theorem d_jdk_52_3_12 : decode jdk_52_method_3_code 12 = .ok (.iload_n 0, 1) := by decide +kernel
theorem d_jdk_52_3_13 : decode jdk_52_method_3_code 13 = .ok (.ldc 20, 2) := by decide +kernel
theorem d_jdk_52_3_15 : decode jdk_52_method_3_code 15 = .ok (.if_icmp .lt 40, 3) := by decide +kernel
theorem d_jdk_52_3_55 : decode jdk_52_method_3_code 55 = .ok (.iload_n 0, 1) := by decide +kernel
theorem d_jdk_52_3_56 : decode jdk_52_method_3_code 56 = .ok (.iconst 1, 1) := by decide +kernel
theorem d_jdk_52_3_57 : decode jdk_52_method_3_code 57 = .ok (.ishl, 1) := by decide +kernel
theorem d_jdk_52_3_58 : decode jdk_52_method_3_code 58 = .ok (.ireturn, 1) := by decide +kernel
theorem ef_rm_nbf (m : MethodId) (x0 : Int32) : entryFrame m #[(.int x0)] 1 = mkF m 0 #[.val (.int x0)] [] := by first | (simp [entryFrame, mkF, argsToLocals, Value.category]; done) | rfl
theorem d_jdk_52_2_0 : decode jdk_52_method_2_code 0 = .ok (.iload_n 0, 1) := by decide +kernel
theorem d_jdk_52_2_1 : decode jdk_52_method_2_code 1 = .ok (.invokestatic 11, 3) := by decide +kernel
theorem pd_0 : parseMethodDescriptor "(I)I" = some ⟨[.int], some .int⟩ := by decide +kernel
theorem d_jdk_52_2_4 : decode jdk_52_method_2_code 4 = .ok (.newarray .byte, 2) := by decide +kernel
theorem d_jdk_52_2_6 : decode jdk_52_method_2_code 6 = .ok (.areturn, 1) := by decide +kernel
theorem ef_rm_tob (m : MethodId) (x0 : Addr) (x1 : Int32) (x2 : Int32) : entryFrame m #[(.ref x0), (.int x1), (.int x2)] 5 = mkF m 0 #[.val (.ref x0), .val (.int x1), .val (.int x2), .unset, .unset] [] := by first | (simp [entryFrame, mkF, argsToLocals, Value.category]; done) | rfl
theorem d_jdk_52_14_0 : decode jdk_52_method_14_code 0 = .ok (.iload_n 2, 1) := by decide +kernel
theorem d_jdk_52_14_1 : decode jdk_52_method_14_code 1 = .ok (.invokestatic 107, 3) := by decide +kernel
theorem pd_1 : parseMethodDescriptor "(I)[B" = some ⟨[.int], some (.array .byte)⟩ := by decide +kernel
theorem d_jdk_52_14_4 : decode jdk_52_method_14_code 4 = .ok (.astore_n 3, 1) := by decide +kernel
theorem d_jdk_52_14_8 : decode jdk_52_method_14_code 8 = .ok (.iload 4, 2) := by decide +kernel
theorem d_jdk_52_14_10 : decode jdk_52_method_14_code 10 = .ok (.iload_n 2, 1) := by decide +kernel
theorem d_jdk_52_14_11 : decode jdk_52_method_14_code 11 = .ok (.if_icmp .ge 21, 3) := by decide +kernel
theorem d_jdk_52_14_32 : decode jdk_52_method_14_code 32 = .ok (.aload_n 3, 1) := by decide +kernel
theorem d_jdk_52_14_33 : decode jdk_52_method_14_code 33 = .ok (.areturn, 1) := by decide +kernel
theorem d_jdk_52_14_14 : decode jdk_52_method_14_code 14 = .ok (.aload_n 3, 1) := by decide +kernel
theorem d_jdk_52_14_15 : decode jdk_52_method_14_code 15 = .ok (.iload 4, 2) := by decide +kernel
theorem d_jdk_52_14_17 : decode jdk_52_method_14_code 17 = .ok (.aload_n 0, 1) := by decide +kernel
theorem d_jdk_52_14_18 : decode jdk_52_method_14_code 18 = .ok (.iload_n 1, 1) := by decide +kernel
theorem d_jdk_52_14_19 : decode jdk_52_method_14_code 19 = .ok (.caload, 1) := by decide +kernel
theorem d_jdk_52_14_20 : decode jdk_52_method_14_code 20 = .ok (.invokestatic 111, 3) := by decide +kernel
theorem pd_2 : parseMethodDescriptor "([BII)V" = some ⟨[(.array .byte), .int, .int], none⟩ := by decide +kernel
theorem d_jdk_52_14_23 : decode jdk_52_method_14_code 23 = .ok (.iinc 1 1, 3) := by decide +kernel
theorem d_jdk_52_14_26 : decode jdk_52_method_14_code 26 = .ok (.iinc 4 1, 3) := by decide +kernel
theorem d_jdk_52_14_29 : decode jdk_52_method_14_code 29 = .ok (.goto (-21), 3) := by decide +kernel
theorem d_jdk_52_14_5 : decode jdk_52_method_14_code 5 = .ok (.iconst 0, 1) := by decide +kernel
theorem d_jdk_52_14_6 : decode jdk_52_method_14_code 6 = .ok (.istore 4, 2) := by decide +kernel
theorem ef_rm_cp2 (m : MethodId) (x0 : Addr) (x1 : Int32) (x2 : Addr) (x3 : Int32) (x4 : Int32) : entryFrame m #[(.ref x0), (.int x1), (.ref x2), (.int x3), (.int x4)] 7 = mkF m 0 #[.val (.ref x0), .val (.int x1), .val (.ref x2), .val (.int x3), .val (.int x4), .unset, .unset] [] := by first | (simp [entryFrame, mkF, argsToLocals, Value.category]; done) | rfl
theorem d_jdk_52_21_3 : decode jdk_52_method_21_code 3 = .ok (.iload 5, 2) := by decide +kernel
theorem d_jdk_52_21_5 : decode jdk_52_method_21_code 5 = .ok (.iload 4, 2) := by decide +kernel
theorem d_jdk_52_21_7 : decode jdk_52_method_21_code 7 = .ok (.if_icmp .ge 37, 3) := by decide +kernel
theorem d_jdk_52_21_44 : decode jdk_52_method_21_code 44 = .ok (.iload 4, 2) := by decide +kernel
theorem d_jdk_52_21_46 : decode jdk_52_method_21_code 46 = .ok (.ireturn, 1) := by decide +kernel
theorem d_jdk_52_21_10 : decode jdk_52_method_21_code 10 = .ok (.aload_n 0, 1) := by decide +kernel
theorem d_jdk_52_21_11 : decode jdk_52_method_21_code 11 = .ok (.iload_n 1, 1) := by decide +kernel
theorem d_jdk_52_21_12 : decode jdk_52_method_21_code 12 = .ok (.caload, 1) := by decide +kernel
theorem d_jdk_52_21_13 : decode jdk_52_method_21_code 13 = .ok (.istore 6, 2) := by decide +kernel
theorem d_jdk_52_21_15 : decode jdk_52_method_21_code 15 = .ok (.iload 6, 2) := by decide +kernel
theorem d_jdk_52_21_17 : decode jdk_52_method_21_code 17 = .ok (.sipush 255, 3) := by decide +kernel
theorem d_jdk_52_21_20 : decode jdk_52_method_21_code 20 = .ok (.if_icmp .le 6, 3) := by decide +kernel
theorem d_jdk_52_21_23 : decode jdk_52_method_21_code 23 = .ok (.iload 5, 2) := by decide +kernel
theorem d_jdk_52_21_25 : decode jdk_52_method_21_code 25 = .ok (.ireturn, 1) := by decide +kernel
theorem d_jdk_52_21_26 : decode jdk_52_method_21_code 26 = .ok (.aload_n 2, 1) := by decide +kernel
theorem d_jdk_52_21_27 : decode jdk_52_method_21_code 27 = .ok (.iload_n 3, 1) := by decide +kernel
theorem d_jdk_52_21_28 : decode jdk_52_method_21_code 28 = .ok (.iload 6, 2) := by decide +kernel
theorem d_jdk_52_21_30 : decode jdk_52_method_21_code 30 = .ok (.i2b, 1) := by decide +kernel
theorem d_jdk_52_21_31 : decode jdk_52_method_21_code 31 = .ok (.bastore, 1) := by decide +kernel
theorem d_jdk_52_21_32 : decode jdk_52_method_21_code 32 = .ok (.iinc 1 1, 3) := by decide +kernel
theorem d_jdk_52_21_35 : decode jdk_52_method_21_code 35 = .ok (.iinc 3 1, 3) := by decide +kernel
theorem d_jdk_52_21_38 : decode jdk_52_method_21_code 38 = .ok (.iinc 5 1, 3) := by decide +kernel
theorem d_jdk_52_21_41 : decode jdk_52_method_21_code 41 = .ok (.goto (-38), 3) := by decide +kernel
theorem d_jdk_52_21_0 : decode jdk_52_method_21_code 0 = .ok (.iconst 0, 1) := by decide +kernel
theorem d_jdk_52_21_1 : decode jdk_52_method_21_code 1 = .ok (.istore 5, 2) := by decide +kernel
theorem ef_rm_cmp (m : MethodId) (x0 : Addr) (x1 : Int32) (x2 : Int32) : entryFrame m #[(.ref x0), (.int x1), (.int x2)] 6 = mkF m 0 #[.val (.ref x0), .val (.int x1), .val (.int x2), .unset, .unset, .unset] [] := by first | (simp [entryFrame, mkF, argsToLocals, Value.category]; done) | rfl
theorem d_jdk_52_16_0 : decode jdk_52_method_16_code 0 = .ok (.iload_n 2, 1) := by decide +kernel
theorem d_jdk_52_16_1 : decode jdk_52_method_16_code 1 = .ok (.newarray .byte, 2) := by decide +kernel
theorem d_jdk_52_16_3 : decode jdk_52_method_16_code 3 = .ok (.astore_n 3, 1) := by decide +kernel
theorem d_jdk_52_16_4 : decode jdk_52_method_16_code 4 = .ok (.aload_n 0, 1) := by decide +kernel
theorem d_jdk_52_16_5 : decode jdk_52_method_16_code 5 = .ok (.iload_n 1, 1) := by decide +kernel
theorem d_jdk_52_16_6 : decode jdk_52_method_16_code 6 = .ok (.aload_n 3, 1) := by decide +kernel
theorem d_jdk_52_16_7 : decode jdk_52_method_16_code 7 = .ok (.iconst 0, 1) := by decide +kernel
theorem d_jdk_52_16_8 : decode jdk_52_method_16_code 8 = .ok (.iload_n 2, 1) := by decide +kernel
theorem d_jdk_52_16_9 : decode jdk_52_method_16_code 9 = .ok (.invokestatic 115, 3) := by decide +kernel
theorem pd_3 : parseMethodDescriptor "([CI[BII)I" = some ⟨[(.array .char), .int, (.array .byte), .int, .int], some .int⟩ := by decide +kernel
theorem d_jdk_52_16_12 : decode jdk_52_method_16_code 12 = .ok (.istore 4, 2) := by decide +kernel
theorem d_jdk_52_16_14 : decode jdk_52_method_16_code 14 = .ok (.iload 4, 2) := by decide +kernel
theorem d_jdk_52_16_16 : decode jdk_52_method_16_code 16 = .ok (.iload_n 2, 1) := by decide +kernel
theorem d_jdk_52_16_17 : decode jdk_52_method_16_code 17 = .ok (.if_icmp .eq 40, 3) := by decide +kernel
theorem d_jdk_52_16_57 : decode jdk_52_method_16_code 57 = .ok (.aload_n 3, 1) := by decide +kernel
theorem d_jdk_52_16_58 : decode jdk_52_method_16_code 58 = .ok (.areturn, 1) := by decide +kernel
theorem d_jdk_52_16_20 : decode jdk_52_method_16_code 20 = .ok (.aload_n 0, 1) := by decide +kernel
theorem d_jdk_52_16_21 : decode jdk_52_method_16_code 21 = .ok (.iload_n 1, 1) := by decide +kernel
theorem d_jdk_52_16_22 : decode jdk_52_method_16_code 22 = .ok (.iload_n 2, 1) := by decide +kernel
theorem d_jdk_52_16_23 : decode jdk_52_method_16_code 23 = .ok (.invokestatic 119, 3) := by decide +kernel
theorem pd_4 : parseMethodDescriptor "([CII)[B" = some ⟨[(.array .char), .int, .int], some (.array .byte)⟩ := by decide +kernel
theorem d_jdk_52_16_26 : decode jdk_52_method_16_code 26 = .ok (.astore 5, 2) := by decide +kernel
theorem d_jdk_52_16_28 : decode jdk_52_method_16_code 28 = .ok (.aload 5, 2) := by decide +kernel
theorem d_jdk_52_16_30 : decode jdk_52_method_16_code 30 = .ok (.iload 4, 2) := by decide +kernel
theorem d_jdk_52_16_32 : decode jdk_52_method_16_code 32 = .ok (.invokestatic 71, 3) := by decide +kernel
theorem pd_5 : parseMethodDescriptor "([BI)C" = some ⟨[(.array .byte), .int], some .char⟩ := by decide +kernel
theorem d_jdk_52_16_35 : decode jdk_52_method_16_code 35 = .ok (.sipush 255, 3) := by decide +kernel
theorem d_jdk_52_16_38 : decode jdk_52_method_16_code 38 = .ok (.if_icmp .gt 16, 3) := by decide +kernel
theorem d_jdk_52_16_54 : decode jdk_52_method_16_code 54 = .ok (.aload 5, 2) := by decide +kernel
theorem d_jdk_52_16_56 : decode jdk_52_method_16_code 56 = .ok (.areturn, 1) := by decide +kernel
theorem ef_rm_cfl (m : MethodId) (x0 : Addr) (x1 : Int32) : entryFrame m #[(.ref x0), (.int x1)] 2 = mkF m 0 #[.val (.ref x0), .val (.int x1)] [] := by first | (simp [entryFrame, mkF, argsToLocals, Value.category]; done) | rfl
theorem d_jdk_52_15_0 : decode jdk_52_method_15_code 0 = .ok (.iload_n 1, 1) := by decide +kernel
theorem d_jdk_52_15_1 : decode jdk_52_method_15_code 1 = .ok (.aload_n 0, 1) := by decide +kernel
theorem d_jdk_52_15_2 : decode jdk_52_method_15_code 2 = .ok (.arraylength, 1) := by decide +kernel
theorem d_jdk_52_15_3 : decode jdk_52_method_15_code 3 = .ok (.isub, 1) := by decide +kernel
theorem d_jdk_52_15_4 : decode jdk_52_method_15_code 4 = .ok (.bipush 31, 2) := by decide +kernel
theorem d_jdk_52_15_6 : decode jdk_52_method_15_code 6 = .ok (.iushr, 1) := by decide +kernel
theorem d_jdk_52_15_7 : decode jdk_52_method_15_code 7 = .ok (.i2b, 1) := by decide +kernel
theorem d_jdk_52_15_8 : decode jdk_52_method_15_code 8 = .ok (.ireturn, 1) := by decide +kernel
theorem ef_rm_s2 (m : MethodId) (x0 : Addr) (x1 : Addr) (x2 : Int32) (x3 : Int32) : entryFrame m #[(.ref x0), (.ref x1), (.int x2), (.int x3), .null] 6 = mkF m 0 #[.val (.ref x0), .val (.ref x1), .val (.int x2), .val (.int x3), .val .null, .unset] [] := by first | (simp [entryFrame, mkF, argsToLocals, Value.category]; done) | rfl
theorem pn_1 : plainName "java/lang/String" = true := by first | (simp [plainName, overriddenIn]; done) | decide +kernel
theorem d_jdk_42_149_0 : decode jdk_42_method_149_code 0 = .ok (.aload_n 0, 1) := by decide +kernel
theorem d_jdk_42_149_1 : decode jdk_42_method_149_code 1 = .ok (.invokespecial 1, 3) := by decide +kernel
theorem d_jdk_42_149_4 : decode jdk_42_method_149_code 4 = .ok (.iload_n 3, 1) := by decide +kernel
theorem d_jdk_42_149_5 : decode jdk_42_method_149_code 5 = .ok (.ifCond .ne 22, 3) := by decide +kernel
theorem d_jdk_42_149_8 : decode jdk_42_method_149_code 8 = .ok (.aload_n 0, 1) := by decide +kernel
theorem d_jdk_42_149_9 : decode jdk_42_method_149_code 9 = .ok (.ldc 7, 2) := by decide +kernel
theorem d_jdk_42_149_11 : decode jdk_42_method_149_code 11 = .ok (.getfield 9, 3) := by decide +kernel
theorem d_jdk_42_149_14 : decode jdk_42_method_149_code 14 = .ok (.putfield 9, 3) := by decide +kernel
theorem d_jdk_42_149_17 : decode jdk_42_method_149_code 17 = .ok (.aload_n 0, 1) := by decide +kernel
theorem d_jdk_42_149_18 : decode jdk_42_method_149_code 18 = .ok (.ldc 7, 2) := by decide +kernel
theorem d_jdk_42_149_20 : decode jdk_42_method_149_code 20 = .ok (.getfield 15, 3) := by decide +kernel
theorem d_jdk_42_149_23 : decode jdk_42_method_149_code 23 = .ok (.putfield 15, 3) := by decide +kernel
theorem d_jdk_42_149_26 : decode jdk_42_method_149_code 26 = .ok (.return_, 1) := by decide +kernel
theorem d_jdk_42_149_27 : decode jdk_42_method_149_code 27 = .ok (.getstatic 38, 3) := by decide +kernel
theorem d_jdk_42_149_30 : decode jdk_42_method_149_code 30 = .ok (.ifCond .eq 28, 3) := by decide +kernel
theorem d_jdk_42_149_33 : decode jdk_42_method_149_code 33 = .ok (.aload_n 1, 1) := by decide +kernel
theorem d_jdk_42_149_34 : decode jdk_42_method_149_code 34 = .ok (.iload_n 2, 1) := by decide +kernel
theorem d_jdk_42_149_35 : decode jdk_42_method_149_code 35 = .ok (.iload_n 3, 1) := by decide +kernel
theorem d_jdk_42_149_36 : decode jdk_42_method_149_code 36 = .ok (.invokestatic 177, 3) := by decide +kernel
theorem d_jdk_42_149_39 : decode jdk_42_method_149_code 39 = .ok (.astore 5, 2) := by decide +kernel
theorem d_jdk_42_149_41 : decode jdk_42_method_149_code 41 = .ok (.aload_n 0, 1) := by decide +kernel
theorem d_jdk_42_149_42 : decode jdk_42_method_149_code 42 = .ok (.aload 5, 2) := by decide +kernel
theorem d_jdk_42_149_44 : decode jdk_42_method_149_code 44 = .ok (.iload_n 3, 1) := by decide +kernel
theorem d_jdk_42_149_45 : decode jdk_42_method_149_code 45 = .ok (.invokestatic 47, 3) := by decide +kernel
theorem pd_6 : parseMethodDescriptor "([BI)B" = some ⟨[(.array .byte), .int], some .byte⟩ := by decide +kernel
theorem d_jdk_42_149_48 : decode jdk_42_method_149_code 48 = .ok (.putfield 15, 3) := by decide +kernel
theorem d_jdk_42_149_51 : decode jdk_42_method_149_code 51 = .ok (.aload_n 0, 1) := by decide +kernel
theorem d_jdk_42_149_52 : decode jdk_42_method_149_code 52 = .ok (.aload 5, 2) := by decide +kernel
theorem d_jdk_42_149_54 : decode jdk_42_method_149_code 54 = .ok (.putfield 9, 3) := by decide +kernel
theorem d_jdk_42_149_57 : decode jdk_42_method_149_code 57 = .ok (.return_, 1) := by decide +kernel
theorem ef_rm_s1 (m : MethodId) (x0 : Addr) (x1 : Addr) : entryFrame m #[(.ref x0), (.ref x1)] 2 = mkF m 0 #[.val (.ref x0), .val (.ref x1)] [] := by first | (simp [entryFrame, mkF, argsToLocals, Value.category]; done) | rfl
theorem d_jdk_42_3_0 : decode jdk_42_method_3_code 0 = .ok (.aload_n 0, 1) := by decide +kernel
theorem d_jdk_42_3_1 : decode jdk_42_method_3_code 1 = .ok (.aload_n 1, 1) := by decide +kernel
theorem d_jdk_42_3_2 : decode jdk_42_method_3_code 2 = .ok (.iconst 0, 1) := by decide +kernel
theorem d_jdk_42_3_3 : decode jdk_42_method_3_code 3 = .ok (.aload_n 1, 1) := by decide +kernel
theorem d_jdk_42_3_4 : decode jdk_42_method_3_code 4 = .ok (.arraylength, 1) := by decide +kernel
theorem d_jdk_42_3_5 : decode jdk_42_method_3_code 5 = .ok (.aconst_null, 1) := by decide +kernel
theorem d_jdk_42_3_6 : decode jdk_42_method_3_code 6 = .ok (.invokespecial 27, 3) := by decide +kernel
theorem pd_7 : parseMethodDescriptor "([CIILjava/lang/Void;)V" = some ⟨[(.array .char), .int, .int, (.object "java/lang/Void")], none⟩ := by decide +kernel
theorem d_jdk_42_3_9 : decode jdk_42_method_3_code 9 = .ok (.return_, 1) := by decide +kernel
theorem ef_rm_pck (m : MethodId) (x0 : Int32) (x1 : Int32) (x2 : Value) (hx2 : x2.isRef = true) : entryFrame m #[(.int x0), (.int x1), x2] 3 = mkF m 0 #[.val (.int x0), .val (.int x1), .val x2] [] := by rcases ref_cases hx2 with rfl | ⟨y2, rfl⟩ <;> first | (simp [entryFrame, mkF, argsToLocals, Value.category]; done) | rfl
theorem pn_2 : plainName "jdk/internal/util/Preconditions" = true := by first | (simp [plainName, overriddenIn]; done) | decide +kernel
theorem d_jdk_41_11_0 : decode jdk_41_method_11_code 0 = .ok (.iload_n 0, 1) := by decide +kernel
theorem d_jdk_41_11_1 : decode jdk_41_method_11_code 1 = .ok (.ifCond .lt 8, 3) := by decide +kernel
theorem d_jdk_41_11_4 : decode jdk_41_method_11_code 4 = .ok (.iload_n 0, 1) := by decide +kernel
theorem d_jdk_41_11_5 : decode jdk_41_method_11_code 5 = .ok (.iload_n 1, 1) := by decide +kernel
theorem d_jdk_41_11_6 : decode jdk_41_method_11_code 6 = .ok (.if_icmp .lt 10, 3) := by decide +kernel
theorem d_jdk_41_11_16 : decode jdk_41_method_11_code 16 = .ok (.iload_n 0, 1) := by decide +kernel
theorem d_jdk_41_11_17 : decode jdk_41_method_11_code 17 = .ok (.ireturn, 1) := by decide +kernel
theorem ef_rm_sck (m : MethodId) (x0 : Int32) (x1 : Int32) : entryFrame m #[(.int x0), (.int x1)] 2 = mkF m 0 #[.val (.int x0), .val (.int x1)] [] := by first | (simp [entryFrame, mkF, argsToLocals, Value.category]; done) | rfl
theorem d_jdk_42_155_0 : decode jdk_42_method_155_code 0 = .ok (.iload_n 0, 1) := by decide +kernel
theorem d_jdk_42_155_1 : decode jdk_42_method_155_code 1 = .ok (.iload_n 1, 1) := by decide +kernel
theorem d_jdk_42_155_2 : decode jdk_42_method_155_code 2 = .ok (.getstatic 1053, 3) := by decide +kernel
theorem d_jdk_42_155_5 : decode jdk_42_method_155_code 5 = .ok (.invokestatic 1059, 3) := by decide +kernel
theorem pd_8 : parseMethodDescriptor "(IILjava/util/function/BiFunction;)I" = some ⟨[.int, .int, (.object "java/util/function/BiFunction")], some .int⟩ := by decide +kernel
theorem d_jdk_42_155_8 : decode jdk_42_method_155_code 8 = .ok (.pop, 1) := by decide +kernel
theorem d_jdk_42_155_9 : decode jdk_42_method_155_code 9 = .ok (.return_, 1) := by decide +kernel
theorem ef_rm_lch (m : MethodId) (x0 : Addr) (x1 : Int32) : entryFrame m #[(.ref x0), (.int x1)] 2 = mkF m 0 #[.val (.ref x0), .val (.int x1)] [] := by first | (simp [entryFrame, mkF, argsToLocals, Value.category]; done) | rfl
theorem pn_3 : plainName "java/lang/StringLatin1" = true := by first | (simp [plainName, overriddenIn]; done) | decide +kernel
theorem d_jdk_43_2_0 : decode jdk_43_method_2_code 0 = .ok (.iload_n 1, 1) := by decide +kernel
theorem d_jdk_43_2_1 : decode jdk_43_method_2_code 1 = .ok (.aload_n 0, 1) := by decide +kernel
theorem d_jdk_43_2_2 : decode jdk_43_method_2_code 2 = .ok (.arraylength, 1) := by decide +kernel
theorem d_jdk_43_2_3 : decode jdk_43_method_2_code 3 = .ok (.invokestatic 9, 3) := by decide +kernel
theorem pd_9 : parseMethodDescriptor "(II)V" = some ⟨[.int, .int], none⟩ := by decide +kernel
theorem d_jdk_43_2_6 : decode jdk_43_method_2_code 6 = .ok (.aload_n 0, 1) := by decide +kernel
theorem d_jdk_43_2_7 : decode jdk_43_method_2_code 7 = .ok (.iload_n 1, 1) := by decide +kernel
theorem d_jdk_43_2_8 : decode jdk_43_method_2_code 8 = .ok (.baload, 1) := by decide +kernel
theorem d_jdk_43_2_9 : decode jdk_43_method_2_code 9 = .ok (.sipush 255, 3) := by decide +kernel
theorem d_jdk_43_2_12 : decode jdk_43_method_2_code 12 = .ok (.iand, 1) := by decide +kernel
theorem d_jdk_43_2_13 : decode jdk_43_method_2_code 13 = .ok (.i2c, 1) := by decide +kernel
theorem d_jdk_43_2_14 : decode jdk_43_method_2_code 14 = .ok (.ireturn, 1) := by decide +kernel
theorem ef_rm_uck (m : MethodId) (x0 : Int32) (x1 : Addr) : entryFrame m #[(.int x0), (.ref x1)] 2 = mkF m 0 #[.val (.int x0), .val (.ref x1)] [] := by first | (simp [entryFrame, mkF, argsToLocals, Value.category]; done) | rfl
theorem d_jdk_52_91_0 : decode jdk_52_method_91_code 0 = .ok (.iload_n 0, 1) := by decide +kernel
theorem d_jdk_52_91_1 : decode jdk_52_method_91_code 1 = .ok (.aload_n 1, 1) := by decide +kernel
theorem d_jdk_52_91_2 : decode jdk_52_method_91_code 2 = .ok (.invokestatic 48, 3) := by decide +kernel
theorem pd_10 : parseMethodDescriptor "([B)I" = some ⟨[(.array .byte)], some .int⟩ := by decide +kernel
theorem d_jdk_52_91_5 : decode jdk_52_method_91_code 5 = .ok (.invokestatic 414, 3) := by decide +kernel
theorem d_jdk_52_91_8 : decode jdk_52_method_91_code 8 = .ok (.return_, 1) := by decide +kernel
theorem ef_rm_uch (m : MethodId) (x0 : Addr) (x1 : Int32) : entryFrame m #[(.ref x0), (.int x1)] 2 = mkF m 0 #[.val (.ref x0), .val (.int x1)] [] := by first | (simp [entryFrame, mkF, argsToLocals, Value.category]; done) | rfl
theorem d_jdk_52_83_0 : decode jdk_52_method_83_code 0 = .ok (.iload_n 1, 1) := by decide +kernel
theorem d_jdk_52_83_1 : decode jdk_52_method_83_code 1 = .ok (.aload_n 0, 1) := by decide +kernel
theorem d_jdk_52_83_2 : decode jdk_52_method_83_code 2 = .ok (.invokestatic 67, 3) := by decide +kernel
theorem pd_11 : parseMethodDescriptor "(I[B)V" = some ⟨[.int, (.array .byte)], none⟩ := by decide +kernel
theorem d_jdk_52_83_5 : decode jdk_52_method_83_code 5 = .ok (.aload_n 0, 1) := by decide +kernel
theorem d_jdk_52_83_6 : decode jdk_52_method_83_code 6 = .ok (.iload_n 1, 1) := by decide +kernel
theorem d_jdk_52_83_7 : decode jdk_52_method_83_code 7 = .ok (.invokestatic 71, 3) := by decide +kernel
theorem d_jdk_52_83_10 : decode jdk_52_method_83_code 10 = .ok (.ireturn, 1) := by decide +kernel
theorem ef_rm_isl0 (m : MethodId) (x0 : Addr) : entryFrame m #[(.ref x0)] 1 = mkF m 0 #[.val (.ref x0)] [] := by first | (simp [entryFrame, mkF, argsToLocals, Value.category]; done) | rfl
theorem d_jdk_42_154_0 : decode jdk_42_method_154_code 0 = .ok (.getstatic 38, 3) := by decide +kernel
theorem d_jdk_42_154_3 : decode jdk_42_method_154_code 3 = .ok (.ifCond .eq 14, 3) := by decide +kernel
theorem d_jdk_42_154_6 : decode jdk_42_method_154_code 6 = .ok (.aload_n 0, 1) := by decide +kernel
theorem d_jdk_42_154_7 : decode jdk_42_method_154_code 7 = .ok (.getfield 15, 3) := by decide +kernel
theorem d_jdk_42_154_10 : decode jdk_42_method_154_code 10 = .ok (.ifCond .ne 7, 3) := by decide +kernel
theorem d_jdk_42_154_13 : decode jdk_42_method_154_code 13 = .ok (.iconst 1, 1) := by decide +kernel
theorem d_jdk_42_154_14 : decode jdk_42_method_154_code 14 = .ok (.goto 4, 3) := by decide +kernel
theorem d_jdk_42_154_18 : decode jdk_42_method_154_code 18 = .ok (.ireturn, 1) := by decide +kernel
theorem ef_rm_isl1 (m : MethodId) (x0 : Addr) : entryFrame m #[(.ref x0)] 1 = mkF m 0 #[.val (.ref x0)] [] := by first | (simp [entryFrame, mkF, argsToLocals, Value.category]; done) | rfl
theorem d_jdk_42_154_17 : decode jdk_42_method_154_code 17 = .ok (.iconst 0, 1) := by decide +kernel
theorem ef_rm_cha (m : MethodId) (x0 : Addr) (x1 : Int32) : entryFrame m #[(.ref x0), (.int x1)] 2 = mkF m 0 #[.val (.ref x0), .val (.int x1)] [] := by first | (simp [entryFrame, mkF, argsToLocals, Value.category]; done) | rfl
theorem d_jdk_42_56_0 : decode jdk_42_method_56_code 0 = .ok (.aload_n 0, 1) := by decide +kernel
theorem d_jdk_42_56_1 : decode jdk_42_method_56_code 1 = .ok (.invokevirtual 492, 3) := by decide +kernel
theorem pd_12 : parseMethodDescriptor "()Z" = some ⟨[], some .boolean⟩ := by decide +kernel
theorem d_jdk_42_56_4 : decode jdk_42_method_56_code 4 = .ok (.ifCond .eq 12, 3) := by decide +kernel
theorem d_jdk_42_56_7 : decode jdk_42_method_56_code 7 = .ok (.aload_n 0, 1) := by decide +kernel
theorem d_jdk_42_56_8 : decode jdk_42_method_56_code 8 = .ok (.getfield 9, 3) := by decide +kernel
theorem d_jdk_42_56_11 : decode jdk_42_method_56_code 11 = .ok (.iload_n 1, 1) := by decide +kernel
theorem d_jdk_42_56_12 : decode jdk_42_method_56_code 12 = .ok (.invokestatic 495, 3) := by decide +kernel
theorem d_jdk_42_56_15 : decode jdk_42_method_56_code 15 = .ok (.ireturn, 1) := by decide +kernel
theorem d_jdk_42_56_16 : decode jdk_42_method_56_code 16 = .ok (.aload_n 0, 1) := by decide +kernel
theorem d_jdk_42_56_17 : decode jdk_42_method_56_code 17 = .ok (.getfield 9, 3) := by decide +kernel
theorem d_jdk_42_56_20 : decode jdk_42_method_56_code 20 = .ok (.iload_n 1, 1) := by decide +kernel
theorem d_jdk_42_56_21 : decode jdk_42_method_56_code 21 = .ok (.invokestatic 498, 3) := by decide +kernel
theorem d_jdk_42_56_24 : decode jdk_42_method_56_code 24 = .ok (.ireturn, 1) := by decide +kernel
theorem ef_rm_let (m : MethodId) (x0 : Int32) : entryFrame m #[(.int x0)] 1 = mkF m 0 #[.val (.int x0)] [] := by first | (simp [entryFrame, mkF, argsToLocals, Value.category]; done) | rfl
theorem pn_4 : plainName "com/example/entitled/entitled/lang/LexerIsNamePinLaw" = true := by first | (simp [plainName, overriddenIn]; done) | decide +kernel
theorem d_2_0 : decode method_2_code 0 = .ok (.iload_n 0, 1) := by decide +kernel
theorem d_2_1 : decode method_2_code 1 = .ok (.bipush 97, 2) := by decide +kernel
theorem d_2_3 : decode method_2_code 3 = .ok (.if_icmp .lt 11, 3) := by decide +kernel
theorem d_2_14 : decode method_2_code 14 = .ok (.iload_n 0, 1) := by decide +kernel
theorem d_2_15 : decode method_2_code 15 = .ok (.bipush 65, 2) := by decide +kernel
theorem d_2_17 : decode method_2_code 17 = .ok (.if_icmp .lt 11, 3) := by decide +kernel
theorem d_2_28 : decode method_2_code 28 = .ok (.iconst 0, 1) := by decide +kernel
theorem d_2_29 : decode method_2_code 29 = .ok (.ireturn, 1) := by decide +kernel
theorem d_2_20 : decode method_2_code 20 = .ok (.iload_n 0, 1) := by decide +kernel
theorem d_2_21 : decode method_2_code 21 = .ok (.bipush 90, 2) := by decide +kernel
theorem d_2_23 : decode method_2_code 23 = .ok (.if_icmp .gt 5, 3) := by decide +kernel
theorem d_2_26 : decode method_2_code 26 = .ok (.iconst 1, 1) := by decide +kernel
theorem d_2_27 : decode method_2_code 27 = .ok (.ireturn, 1) := by decide +kernel
theorem d_2_6 : decode method_2_code 6 = .ok (.iload_n 0, 1) := by decide +kernel
theorem d_2_7 : decode method_2_code 7 = .ok (.bipush 122, 2) := by decide +kernel
theorem d_2_9 : decode method_2_code 9 = .ok (.if_icmp .gt 5, 3) := by decide +kernel
theorem d_2_12 : decode method_2_code 12 = .ok (.iconst 1, 1) := by decide +kernel
theorem d_2_13 : decode method_2_code 13 = .ok (.ireturn, 1) := by decide +kernel
theorem ef_rm_sok (m : MethodId) (x0 : Int32) : entryFrame m #[(.int x0)] 1 = mkF m 0 #[.val (.int x0)] [] := by first | (simp [entryFrame, mkF, argsToLocals, Value.category]; done) | rfl
theorem d_3_0 : decode method_3_code 0 = .ok (.iload_n 0, 1) := by decide +kernel
theorem d_3_1 : decode method_3_code 1 = .ok (.invokestatic 7, 3) := by decide +kernel
theorem pd_13 : parseMethodDescriptor "(I)Z" = some ⟨[.int], some .boolean⟩ := by decide +kernel
theorem d_3_4 : decode method_3_code 4 = .ok (.ifCond .ne 15, 3) := by decide +kernel
theorem d_3_19 : decode method_3_code 19 = .ok (.iconst 1, 1) := by decide +kernel
theorem d_3_20 : decode method_3_code 20 = .ok (.goto 4, 3) := by decide +kernel
theorem d_3_24 : decode method_3_code 24 = .ok (.ireturn, 1) := by decide +kernel
theorem d_3_7 : decode method_3_code 7 = .ok (.iload_n 0, 1) := by decide +kernel
theorem d_3_8 : decode method_3_code 8 = .ok (.bipush 95, 2) := by decide +kernel
theorem d_3_10 : decode method_3_code 10 = .ok (.if_icmp .eq 9, 3) := by decide +kernel
theorem d_3_13 : decode method_3_code 13 = .ok (.iload_n 0, 1) := by decide +kernel
theorem d_3_14 : decode method_3_code 14 = .ok (.bipush 36, 2) := by decide +kernel
theorem d_3_16 : decode method_3_code 16 = .ok (.if_icmp .ne 7, 3) := by decide +kernel
theorem d_3_23 : decode method_3_code 23 = .ok (.iconst 0, 1) := by decide +kernel
theorem ef_rm_pok (m : MethodId) (x0 : Int32) : entryFrame m #[(.int x0)] 1 = mkF m 0 #[.val (.int x0)] [] := by first | (simp [entryFrame, mkF, argsToLocals, Value.category]; done) | rfl
theorem d_4_0 : decode method_4_code 0 = .ok (.iload_n 0, 1) := by decide +kernel
theorem d_4_1 : decode method_4_code 1 = .ok (.invokestatic 13, 3) := by decide +kernel
theorem d_4_4 : decode method_4_code 4 = .ok (.ifCond .ne 15, 3) := by decide +kernel
theorem d_4_19 : decode method_4_code 19 = .ok (.iconst 1, 1) := by decide +kernel
theorem d_4_20 : decode method_4_code 20 = .ok (.goto 4, 3) := by decide +kernel
theorem d_4_24 : decode method_4_code 24 = .ok (.ireturn, 1) := by decide +kernel
theorem d_4_7 : decode method_4_code 7 = .ok (.iload_n 0, 1) := by decide +kernel
theorem d_4_8 : decode method_4_code 8 = .ok (.bipush 48, 2) := by decide +kernel
theorem d_4_10 : decode method_4_code 10 = .ok (.if_icmp .lt 13, 3) := by decide +kernel
theorem d_4_23 : decode method_4_code 23 = .ok (.iconst 0, 1) := by decide +kernel
theorem d_4_13 : decode method_4_code 13 = .ok (.iload_n 0, 1) := by decide +kernel
theorem d_4_14 : decode method_4_code 14 = .ok (.bipush 57, 2) := by decide +kernel
theorem d_4_16 : decode method_4_code 16 = .ok (.if_icmp .gt 7, 3) := by decide +kernel
theorem ef_rm_ins (m : MethodId) (x0 : Int32) : entryFrame m #[(.int x0)] 1 = mkF m 0 #[.val (.int x0)] [] := by first | (simp [entryFrame, mkF, argsToLocals, Value.category]; done) | rfl
theorem pn_5 : plainName "com/example/entitled/entitled/lang/Lexer" = true := by first | (simp [plainName, overriddenIn]; done) | decide +kernel
theorem d_prog_9_16_0 : decode prog_9_method_16_code 0 = .ok (.iload_n 0, 1) := by decide +kernel
theorem d_prog_9_16_1 : decode prog_9_method_16_code 1 = .ok (.bipush 97, 2) := by decide +kernel
theorem d_prog_9_16_3 : decode prog_9_method_16_code 3 = .ok (.if_icmp .lt 9, 3) := by decide +kernel
theorem d_prog_9_16_12 : decode prog_9_method_16_code 12 = .ok (.iload_n 0, 1) := by decide +kernel
theorem d_prog_9_16_13 : decode prog_9_method_16_code 13 = .ok (.bipush 65, 2) := by decide +kernel
theorem d_prog_9_16_15 : decode prog_9_method_16_code 15 = .ok (.if_icmp .lt 9, 3) := by decide +kernel
theorem d_prog_9_16_24 : decode prog_9_method_16_code 24 = .ok (.iload_n 0, 1) := by decide +kernel
theorem d_prog_9_16_25 : decode prog_9_method_16_code 25 = .ok (.bipush 95, 2) := by decide +kernel
theorem d_prog_9_16_27 : decode prog_9_method_16_code 27 = .ok (.if_icmp .eq 9, 3) := by decide +kernel
theorem d_prog_9_16_36 : decode prog_9_method_16_code 36 = .ok (.iconst 1, 1) := by decide +kernel
theorem d_prog_9_16_37 : decode prog_9_method_16_code 37 = .ok (.goto 4, 3) := by decide +kernel
theorem d_prog_9_16_41 : decode prog_9_method_16_code 41 = .ok (.ireturn, 1) := by decide +kernel
theorem d_prog_9_16_30 : decode prog_9_method_16_code 30 = .ok (.iload_n 0, 1) := by decide +kernel
theorem d_prog_9_16_31 : decode prog_9_method_16_code 31 = .ok (.bipush 36, 2) := by decide +kernel
theorem d_prog_9_16_33 : decode prog_9_method_16_code 33 = .ok (.if_icmp .ne 7, 3) := by decide +kernel
theorem d_prog_9_16_40 : decode prog_9_method_16_code 40 = .ok (.iconst 0, 1) := by decide +kernel
theorem d_prog_9_16_18 : decode prog_9_method_16_code 18 = .ok (.iload_n 0, 1) := by decide +kernel
theorem d_prog_9_16_19 : decode prog_9_method_16_code 19 = .ok (.bipush 90, 2) := by decide +kernel
theorem d_prog_9_16_21 : decode prog_9_method_16_code 21 = .ok (.if_icmp .le 15, 3) := by decide +kernel
theorem d_prog_9_16_6 : decode prog_9_method_16_code 6 = .ok (.iload_n 0, 1) := by decide +kernel
theorem d_prog_9_16_7 : decode prog_9_method_16_code 7 = .ok (.bipush 122, 2) := by decide +kernel
theorem d_prog_9_16_9 : decode prog_9_method_16_code 9 = .ok (.if_icmp .le 27, 3) := by decide +kernel
theorem ef_rm_idg (m : MethodId) (x0 : Int32) : entryFrame m #[(.int x0)] 1 = mkF m 0 #[.val (.int x0)] [] := by first | (simp [entryFrame, mkF, argsToLocals, Value.category]; done) | rfl
theorem d_prog_9_14_0 : decode prog_9_method_14_code 0 = .ok (.iload_n 0, 1) := by decide +kernel
theorem d_prog_9_14_1 : decode prog_9_method_14_code 1 = .ok (.bipush 48, 2) := by decide +kernel
theorem d_prog_9_14_3 : decode prog_9_method_14_code 3 = .ok (.if_icmp .lt 13, 3) := by decide +kernel
theorem d_prog_9_14_16 : decode prog_9_method_14_code 16 = .ok (.iconst 0, 1) := by decide +kernel
theorem d_prog_9_14_17 : decode prog_9_method_14_code 17 = .ok (.ireturn, 1) := by decide +kernel
theorem d_prog_9_14_6 : decode prog_9_method_14_code 6 = .ok (.iload_n 0, 1) := by decide +kernel
theorem d_prog_9_14_7 : decode prog_9_method_14_code 7 = .ok (.bipush 57, 2) := by decide +kernel
theorem d_prog_9_14_9 : decode prog_9_method_14_code 9 = .ok (.if_icmp .gt 7, 3) := by decide +kernel
theorem d_prog_9_14_12 : decode prog_9_method_14_code 12 = .ok (.iconst 1, 1) := by decide +kernel
theorem d_prog_9_14_13 : decode prog_9_method_14_code 13 = .ok (.goto 4, 3) := by decide +kernel
theorem ef_rm_inp (m : MethodId) (x0 : Int32) : entryFrame m #[(.int x0)] 1 = mkF m 0 #[.val (.int x0)] [] := by first | (simp [entryFrame, mkF, argsToLocals, Value.category]; done) | rfl
theorem d_prog_9_17_0 : decode prog_9_method_17_code 0 = .ok (.iload_n 0, 1) := by decide +kernel
theorem d_prog_9_17_1 : decode prog_9_method_17_code 1 = .ok (.invokestatic 55, 3) := by decide +kernel
theorem d_prog_9_17_4 : decode prog_9_method_17_code 4 = .ok (.ifCond .ne 10, 3) := by decide +kernel
theorem d_prog_9_17_14 : decode prog_9_method_17_code 14 = .ok (.iconst 1, 1) := by decide +kernel
theorem d_prog_9_17_15 : decode prog_9_method_17_code 15 = .ok (.goto 4, 3) := by decide +kernel
theorem d_prog_9_17_19 : decode prog_9_method_17_code 19 = .ok (.ireturn, 1) := by decide +kernel
theorem d_prog_9_17_7 : decode prog_9_method_17_code 7 = .ok (.iload_n 0, 1) := by decide +kernel
theorem d_prog_9_17_8 : decode prog_9_method_17_code 8 = .ok (.invokestatic 96, 3) := by decide +kernel
theorem d_prog_9_17_11 : decode prog_9_method_17_code 11 = .ok (.ifCond .eq 7, 3) := by decide +kernel
theorem d_prog_9_17_18 : decode prog_9_method_17_code 18 = .ok (.iconst 0, 1) := by decide +kernel
theorem ef_rm_inm (m : MethodId) (x0 : Addr) : entryFrame m #[(.ref x0)] 2 = mkF m 0 #[.val (.ref x0), .unset] [] := by first | (simp [entryFrame, mkF, argsToLocals, Value.category]; done) | rfl
theorem d_prog_9_12_0 : decode prog_9_method_12_code 0 = .ok (.aload_n 0, 1) := by decide +kernel
theorem d_prog_9_12_1 : decode prog_9_method_12_code 1 = .ok (.invokevirtual 208, 3) := by decide +kernel
theorem d_prog_9_12_4 : decode prog_9_method_12_code 4 = .ok (.ifCond .ne 14, 3) := by decide +kernel
theorem d_prog_9_12_18 : decode prog_9_method_12_code 18 = .ok (.iconst 0, 1) := by decide +kernel
theorem d_prog_9_12_19 : decode prog_9_method_12_code 19 = .ok (.ireturn, 1) := by decide +kernel
theorem d_prog_9_12_7 : decode prog_9_method_12_code 7 = .ok (.aload_n 0, 1) := by decide +kernel
theorem d_prog_9_12_8 : decode prog_9_method_12_code 8 = .ok (.iconst 0, 1) := by decide +kernel
theorem d_prog_9_12_9 : decode prog_9_method_12_code 9 = .ok (.invokevirtual 136, 3) := by decide +kernel
theorem pd_14 : parseMethodDescriptor "(I)C" = some ⟨[.int], some .char⟩ := by decide +kernel
theorem d_prog_9_12_12 : decode prog_9_method_12_code 12 = .ok (.invokestatic 55, 3) := by decide +kernel
theorem d_prog_9_12_15 : decode prog_9_method_12_code 15 = .ok (.ifCond .ne 5, 3) := by decide +kernel
theorem d_prog_9_12_22 : decode prog_9_method_12_code 22 = .ok (.iload_n 1, 1) := by decide +kernel
theorem d_prog_9_12_23 : decode prog_9_method_12_code 23 = .ok (.aload_n 0, 1) := by decide +kernel
theorem d_prog_9_12_24 : decode prog_9_method_12_code 24 = .ok (.invokevirtual 34, 3) := by decide +kernel
theorem d_prog_9_12_27 : decode prog_9_method_12_code 27 = .ok (.if_icmp .ge 22, 3) := by decide +kernel
theorem d_prog_9_12_49 : decode prog_9_method_12_code 49 = .ok (.iconst 1, 1) := by decide +kernel
theorem d_prog_9_12_50 : decode prog_9_method_12_code 50 = .ok (.ireturn, 1) := by decide +kernel
theorem d_prog_9_12_30 : decode prog_9_method_12_code 30 = .ok (.aload_n 0, 1) := by decide +kernel
theorem d_prog_9_12_31 : decode prog_9_method_12_code 31 = .ok (.iload_n 1, 1) := by decide +kernel
theorem d_prog_9_12_32 : decode prog_9_method_12_code 32 = .ok (.invokevirtual 136, 3) := by decide +kernel
theorem d_prog_9_12_35 : decode prog_9_method_12_code 35 = .ok (.invokestatic 154, 3) := by decide +kernel
theorem d_prog_9_12_38 : decode prog_9_method_12_code 38 = .ok (.ifCond .ne 5, 3) := by decide +kernel
theorem d_prog_9_12_43 : decode prog_9_method_12_code 43 = .ok (.iinc 1 1, 3) := by decide +kernel
theorem d_prog_9_12_46 : decode prog_9_method_12_code 46 = .ok (.goto (-24), 3) := by decide +kernel
theorem d_prog_9_12_41 : decode prog_9_method_12_code 41 = .ok (.iconst 0, 1) := by decide +kernel
theorem d_prog_9_12_42 : decode prog_9_method_12_code 42 = .ok (.ireturn, 1) := by decide +kernel
theorem d_prog_9_12_20 : decode prog_9_method_12_code 20 = .ok (.iconst 1, 1) := by decide +kernel
theorem d_prog_9_12_21 : decode prog_9_method_12_code 21 = .ok (.istore_n 1, 1) := by decide +kernel
theorem ef_rm_law (m : MethodId) (x0 : Int32) (x1 : Int32) (x2 : Int32) (x3 : Int32) (x4 : Int32) : entryFrame m #[(.int x0), (.int x1), (.int x2), (.int x3), (.int x4)] maxLocals = mkF m 0 #[.val (.int x0), .val (.int x1), .val (.int x2), .val (.int x3), .val (.int x4), .unset, .unset, .unset, .unset, .unset, .unset, .unset, .unset] [] := by first | (simp [entryFrame, mkF, argsToLocals, Value.category, maxLocals]; done) | rfl
theorem pd_15 : parseMethodDescriptor "([C)V" = some ⟨[(.array .char)], none⟩ := by decide +kernel
theorem pd_16 : parseMethodDescriptor "(Ljava/lang/String;)Z" = some ⟨[(.object "java/lang/String")], some .boolean⟩ := by decide +kernel
def ELx : List (String × Nat) := [("java/lang/String", 7)]
theorem own_hE {a0 : Array Value} {Z : State} (hw : ∀ d ∈ tables_1, d.before a0 Z = true) : EW Z a0 ELx := EW.cons (text := "") (ow hw 16 rfl) (by decide) EW.nil
theorem own_hst {a0 : Array Value} {Z : State} (hw : ∀ d ∈ tables_1, d.before a0 Z = true) : ∀ a ∈ Bundle.stringAtoms, a.before a0 Z = true := fun a ha => hw a ((by decide +kernel : ∀ d ∈ Bundle.stringAtoms, d ∈ tables_1) a ha)
theorem own_hws {a0 : Array Value} {Z : State} (hw : ∀ d ∈ tables_1, d.before a0 Z = true) : ∀ d ∈ StrChars.Road.words, d.before a0 Z = true := fun d hd => hw d ((by decide +kernel : ∀ d ∈ StrChars.Road.words, d ∈ tables_1) d hd)
theorem own_start {tb : Tables} {e : Env} {s : State} {a0 : Array Value} (hE : EW s a0 ELx) (hcalls : Calls_1 tb e a0 s) (hc : (Jvm.Cond.not (Jvm.Cond.eq (Jvm.Term.static "java/lang/String" "COMPACT_STRINGS" "Z") (Jvm.Term.int (0 : Int32)))).before a0 s = true) (wa : (Jvm.Cond.arrayClass .byte).before a0 s = true) (wi : (Jvm.Cond.instantiable "java/lang/String" 4).before a0 s = true) : CHv s ELx s.vm s.heap :=
  CHv.start hE (fun p hp => hcalls.1 p hp) hc wa wi
theorem all0c {P : Int32 → Prop} : ∀ x ∈ ([] : List Int32), P x := fun _ q => nomatch q
theorem allC {P : Int32 → Prop} {y : Int32} {L : List Int32} (q : P y) (r : ∀ x ∈ L, P x) : ∀ x ∈ y :: L, P x := fun x z => (List.mem_cons.mp z).elim (fun u => u ▸ q) (r x)
theorem own_i255 : (255 : Int32).toInt = 255 := by decide
theorem own_i0 : (0 : Int32).toInt = 0 := by decide
theorem own_ch (x : Int32) : ¬ ((x &&& (255 : Int32)).toUInt32.toUInt16.toUInt32.toInt32) < 0 ∧ ¬ (255 : Int32) < ((x &&& (255 : Int32)).toUInt32.toUInt16.toUInt32.toInt32) := by
  rw [i2c_mask]
  have h := c_and x (255 : Int32) (by decide)
  simp only [Int32.lt_iff_toInt_lt, own_i255, own_i0] at *; omega
theorem own_narc {x : Int32} (h : ¬ x < 0 ∧ ¬ (255 : Int32) < x) : nar .char x = x := by
  have c := c_i2c x
  have r := rng32 x
  simp only [Int32.lt_iff_toInt_lt, own_i255, own_i0] at h
  apply Int32.toInt_inj.mp
  show (x.toUInt32.toUInt16.toUInt32.toInt32).toInt = x.toInt
  omega
theorem own_rngm (x d : Int32) (h0 : 0 ≤ x.toInt) (hd : 0 < d.toInt) : ¬ (x % d) < 0 ∧ (x % d) < d := by
  have h2 := (c_iremV x d).1 h0 hd
  simp only [Int32.lt_iff_toInt_lt, own_i0]; omega
theorem own_on {n : Nat} (h : n ≤ 4000) : (Int32.ofNat n).toInt = n := Int32.toInt_ofNat_small (by omega)
theorem own_onc {n : Nat} (h : n ≤ 4000) : (Int32.ofNat n).toNatClampNeg = n := by unfold Int32.toNatClampNeg; rw [own_on h]; omega
theorem own_on0 {n : Nat} (h : n ≤ 4000) : ¬ Int32.ofNat n < 0 := by rw [Int32.lt_iff_toInt_lt, own_on h, own_i0]; omega
theorem own_onlt {a b : Nat} (ha : a ≤ 4000) (hb : b ≤ 4000) : Int32.ofNat a < Int32.ofNat b ↔ a < b := by rw [Int32.lt_iff_toInt_lt, own_on ha, own_on hb]; omega
theorem own_oneq {a b : Nat} (ha : a ≤ 4000) (hb : b ≤ 4000) : Int32.ofNat a = Int32.ofNat b ↔ a = b := by rw [← Int32.toInt_inj, own_on ha, own_on hb]; omega
theorem own_onz {a : Nat} (ha : a ≤ 4000) : Int32.ofNat a = (0 : Int32) ↔ a = 0 := by rw [← Int32.toInt_inj, own_on ha, own_i0]; omega
theorem own_onadd (a b : Nat) : Int32.ofNat a + Int32.ofNat b = Int32.ofNat (a + b) := by
  apply Int32.toBitVec_inj.mp
  simp [Int32.toBitVec_add, Int32.toBitVec_ofNat']
theorem own_onsub {a b : Nat} (hb : b ≤ a) (ha : a ≤ 4000) : Int32.ofNat a - Int32.ofNat b = Int32.ofNat (a - b) := by
  apply Int32.toInt_inj.mp
  have c := c_isub (Int32.ofNat a) (Int32.ofNat b)
  have r := rng32 (Int32.ofNat a - Int32.ofNat b)
  rw [own_on ha, own_on (Nat.le_trans hb ha)] at c
  rw [own_on (by omega)]
  omega
theorem own_onm1 {a : Nat} (hb : 1 ≤ a) (ha : a ≤ 4000) : Int32.ofNat a + (-1 : Int32) = Int32.ofNat (a - 1) := by
  apply Int32.toInt_inj.mp
  have c := c_iadd (Int32.ofNat a) (-1)
  have r := rng32 (Int32.ofNat a + (-1))
  have e : (-1 : Int32).toInt = -1 := by decide
  rw [own_on ha, e] at c
  rw [own_on (by omega)]
  omega
theorem own_lo2 (x : Int32) : nar .byte (StrChars.lo8 x) = StrChars.lo8 x := by
  show (x.toInt8.toInt32).toInt8.toInt32 = x.toInt8.toInt32
  simp
theorem own_mapat {cs : List Int32} {i : Nat} {d : Value} (hi : i < cs.length) : (cs.map Value.int).getD i d = .int (cs.getD i 0) := by
  simp [hi]
theorem own_getm {cs : List Int32} {i : Nat} (hi : i < cs.length) : cs.getD i 0 ∈ cs := by
  have : cs.getD i 0 = cs[i] := by simp [hi]
  rw [this]; exact List.getElem_mem hi
theorem own_shl1 {n : Nat} (h : n ≤ 4000) : Int32.ofNat n <<< ((1 : Int32) &&& 31) = Int32.ofNat (2 * n) := by
  apply Int32.toInt_inj.mp
  have c := c_ishl (Int32.ofNat n) 1 1 (by decide)
  have r := rng32 (Int32.ofNat n <<< ((1 : Int32) &&& 31))
  rw [own_on h] at c
  have e : (Int32.ofNat (2 * n)).toInt = ((2 * n : Nat) : Int) := Int32.toInt_ofNat_small (by omega)
  rw [e]
  simp only [Nat.reducePow] at c
  omega
theorem own_on2 {n : Nat} (h : n ≤ 4000) : (Int32.ofNat (2 * n)).toNatClampNeg = 2 * n := by
  have e : (Int32.ofNat (2 * n)).toInt = ((2 * n : Nat) : Int) := Int32.toInt_ofNat_small (by omega)
  unfold Int32.toNatClampNeg; rw [e]; omega
/-- the bytes of the chars that stand so far, the rest 0 -/
def own_wb (cs : List Int32) (i : Nat) : List Value := StrChars.Road.wideBytes (cs.take i) ++ List.replicate (2 * (cs.length - i)) (.int 0)
theorem own_wblen (cs : List Int32) : (StrChars.Road.wideBytes cs).length = 2 * cs.length := by
  induction cs with
  | nil => rfl
  | cons c cs ih => simp [StrChars.Road.wideBytes, ih]; omega
theorem own_wbl {cs : List Int32} {i : Nat} (hi : i ≤ cs.length) : (own_wb cs i).length = 2 * cs.length := by
  unfold own_wb; rw [List.length_append, own_wblen, List.length_replicate, List.length_take]; omega
theorem own_wb0 (cs : List Int32) : own_wb cs 0 = List.replicate (2 * cs.length) (.int 0) := by simp [own_wb, StrChars.Road.wideBytes]
theorem own_wbn (cs : List Int32) : own_wb cs cs.length = StrChars.Road.wideBytes cs := by simp [own_wb]
theorem own_wb_app (a b : List Int32) : StrChars.Road.wideBytes (a ++ b) = StrChars.Road.wideBytes a ++ StrChars.Road.wideBytes b := by
  induction a with
  | nil => rfl
  | cons c a ih => simp [StrChars.Road.wideBytes, ih]
theorem own_wbs {cs : List Int32} {i : Nat} (hi : i < cs.length) : ((own_wb cs i).set (2 * i) (.int (StrChars.lo8 (cs.getD i 0)))).set (2 * i + 1) (.int (StrChars.hi8 (cs.getD i 0))) = own_wb cs (i + 1) := by
  have e1 : (StrChars.Road.wideBytes (cs.take i)).length = 2 * i := by rw [own_wblen, List.length_take]; omega
  have e2 : cs.take (i + 1) = cs.take i ++ [cs.getD i 0] := by
    rw [List.take_add_one]
    have : cs[i]? = some (cs.getD i 0) := by simp [hi]
    rw [this]; rfl
  have e3 : 2 * (cs.length - i) = 2 * (cs.length - (i + 1)) + 1 + 1 := by omega
  unfold own_wb
  rw [e2, own_wb_app, e3, List.replicate_succ, List.replicate_succ, List.set_append_right _ _ (by omega), e1, Nat.sub_self, List.set_cons_zero, List.set_append_right _ _ (by omega), e1]
  rw [show 2 * i + 1 - 2 * i = 1 by omega]
  simp [StrChars.Road.wideBytes]
theorem own_pair {c : Int32} (h : ¬ c < 0 ∧ ¬ (65535 : Int32) < c) : (((StrChars.lo8 c &&& (255 : Int32)) <<< ((0 : Int32) &&& 31)) ||| ((StrChars.hi8 c &&& (255 : Int32)) <<< ((8 : Int32) &&& 31))).toUInt32.toUInt16.toUInt32.toInt32 = c := StrChars.pair_says h.1 h.2
theorem own_narc16 {x : Int32} (h : ¬ x < 0 ∧ ¬ (65535 : Int32) < x) : nar .char x = x := by
  have c := c_i2c x
  have r := rng32 x
  have e : (65535 : Int32).toInt = 65535 := by decide
  simp only [Int32.lt_iff_toInt_lt, e, own_i0] at h
  apply Int32.toInt_inj.mp
  show (x.toUInt32.toUInt16.toUInt32.toInt32).toInt = x.toInt
  omega
theorem own_chr8 {c : Int32} (h0 : ¬ c < 0) (h1 : ¬ (255 : Int32) < c) : (StrChars.lo8 c &&& (255 : Int32)).toUInt32.toUInt16.toUInt32.toInt32 = c := StrChars.chr8_lo8 h0 h1
/-- the coder that two lengths tell -/
theorem own_cod0 (n : Nat) : (((Int32.ofNat n - Int32.ofNat n).toUInt32 >>> ((31 : Int32) &&& 31).toUInt32).toInt32).toInt8.toInt32 = 0 := by
  rw [Int32.sub_self]; decide
theorem own_cod1 {n : Nat} (h0 : 0 < n) (h4 : n ≤ 4) : (((Int32.ofNat n - Int32.ofNat (2 * n)).toUInt32 >>> ((31 : Int32) &&& 31).toUInt32).toInt32).toInt8.toInt32 = 1 := by
  have : n = 1 ∨ n = 2 ∨ n = 3 ∨ n = 4 := by omega
  rcases this with rfl | rfl | rfl | rfl <;> decide
theorem own_hs {cs : List Int32} {i : Nat} {vs : List Value} (hi : i < cs.length) (hl : vs.length = cs.length) (h : vs.take i = (cs.take i).map fun c => Value.int (StrChars.lo8 c)) : (vs.set i (.int (StrChars.lo8 (cs.getD i 0)))).take (i + 1) = (cs.take (i + 1)).map fun c => Value.int (StrChars.lo8 c) := by
  have e1 : cs.take (i + 1) = cs.take i ++ [cs.getD i 0] := by
    rw [List.take_add_one]
    have : cs[i]? = some (cs.getD i 0) := by simp [hi]
    rw [this]; rfl
  have e2 : (vs.set i (.int (StrChars.lo8 (cs.getD i 0))))[i]? = some (.int (StrChars.lo8 (cs.getD i 0))) := by
    rw [List.getElem?_set_self (by omega)]
  rw [List.take_add_one, e2, e1, List.map_append, List.take_set_of_le (Nat.le_refl _), h]; rfl
theorem own_latend {cs : List Int32} {vs : List Value} (hl : vs.length = cs.length) (h : vs.take cs.length = (cs.take cs.length).map fun c => Value.int (StrChars.lo8 c)) : vs = cs.map fun c => Value.int (StrChars.lo8 c) := by
  rw [List.take_of_length_le (by omega), List.take_of_length_le (Nat.le_refl _)] at h; exact h
theorem own_all255 {cs : List Int32} (h : ∀ j, j < cs.length → ¬ (255 : Int32) < cs.getD j 0) : ∀ c ∈ cs, ¬ (255 : Int32) < c := fun c hc => by
  obtain ⟨j, hj, rfl⟩ := List.getElem_of_mem hc
  have := h j hj
  simpa [hj] using this
theorem own_nea {Z : State} {a0 : Array Value} {h : Heap} {a : Addr} {k : ClassId} {z : Int32} {vs : List Value} {d : Value} {kI : Nat} (wi : (Jvm.Cond.instantiable "java/lang/String" kI).before a0 Z = true) (E : Exa Z h a "java/lang/String") (V : Arv Z h a k .byte z vs d) : False := by
  obtain ⟨c1, A, -⟩ := V
  exact ne_arr E wi A rfl
theorem own_cdn {cs : List Int32} {cd M2 : Int32} {vs : List Value} (h : StrChars.Road.CodA cs cd M2 vs) : nar .byte cd = cd := by
  rcases h with ⟨rfl, -⟩ | ⟨rfl, -⟩ <;> rfl
theorem own_cfl {cs : List Int32} {cd M2 : Int32} {vs : List Value} {nN : Nat} (hcd : StrChars.Road.CodA cs cd M2 vs) (hl : cs.length = nN) (h0n : 0 < nN) (hN4 : nN ≤ 4) : some (Value.int (nar .byte (((Int32.ofNat nN - M2).toUInt32 >>> ((31 : Int32) &&& 31).toUInt32).toInt32).toInt8.toInt32)) = some (.int cd) := by
  rcases hcd with ⟨rfl, rfl, -, -⟩ | ⟨rfl, rfl, -, -⟩
  · rw [hl, own_cod0]; rfl
  · rw [hl, own_cod1 h0n hN4]; rfl
theorem own_hwl {a0 : Array Value} {Z : State} (hw : ∀ d ∈ tables_1, d.before a0 Z = true) : ∀ d ∈ StrChars.Road.wordsLen, d.before a0 Z = true := fun d hd => hw d ((by decide +kernel : ∀ d ∈ StrChars.Road.wordsLen, d ∈ tables_1) d hd)
theorem own_hwe {a0 : Array Value} {Z : State} (hw : ∀ d ∈ tables_1, d.before a0 Z = true) : ∀ d ∈ StrChars.Road.wordsEmp, d.before a0 Z = true := fun d hd => hw d ((by decide +kernel : ∀ d ∈ StrChars.Road.wordsEmp, d ∈ tables_1) d hd)
abbrev own_le (c : Int32) : Prop := (¬ c < (97 : Int32) ∧ ¬ (122 : Int32) < c) ∨ (¬ c < (65 : Int32) ∧ ¬ (90 : Int32) < c)
abbrev own_sn (c : Int32) : Prop := own_le c ∨ c = (95 : Int32) ∨ c = (36 : Int32)
abbrev own_dg (c : Int32) : Prop := ¬ c < (48 : Int32) ∧ ¬ (57 : Int32) < c
abbrev own_pt (c : Int32) : Prop := own_sn c ∨ own_dg c
abbrev own_isn (cs : List Int32) : Prop := ¬ cs.length = 0 ∧ own_sn (cs.getD 0 0) ∧ ∀ x ∈ cs.drop 1, own_pt x
theorem own_isnT {cs : List Int32} {n : Nat} (hl : cs.length = n) (h0 : ¬ cs.length = 0) (h1 : own_sn (cs.getD 0 0)) (h : ∀ j, 1 ≤ j → j < n → own_pt (cs.getD j 0)) : own_isn cs := by
  refine ⟨h0, h1, fun x hx => ?_⟩
  obtain ⟨j, hj, rfl⟩ := List.getElem_of_mem hx
  rw [List.length_drop] at hj
  have := h (1 + j) (by omega) (by omega)
  rw [List.getElem_drop]
  simpa [List.getD_eq_getElem?_getD, show 1 + j < cs.length by omega] using this
theorem own_isnF {cs : List Int32} {j : Nat} (hj : j < cs.length) (h1 : 1 ≤ j) (h : ¬ own_pt (cs.getD j 0)) : ¬ own_isn cs := fun q => h (q.2.2 _ (by
  have e : cs.getD j 0 = (cs.drop 1)[j - 1]'(by rw [List.length_drop]; omega) := by
    rw [List.getElem_drop]
    simp [List.getD_eq_getElem?_getD, show 1 + (j - 1) = j by omega, hj]
  rw [e]; exact List.getElem_mem _))
theorem own_rng5 (x : Int32) : ¬ ((x &&& (2147483647 : Int32)) % (5 : Int32)) < 0 ∧ ((x &&& (2147483647 : Int32)) % (5 : Int32)) < 5 := own_rngm _ _ (c_and x (2147483647 : Int32) (by decide)).1 (by decide)
theorem own_five {n : Int32} (h : ¬ n < 0 ∧ n < 5) : n = 0 ∨ n = 1 ∨ n = 2 ∨ n = 3 ∨ n = 4 := by
  have e0 : (0 : Int32).toInt = 0 := by decide
  have e1 : (1 : Int32).toInt = 1 := by decide
  have e2 : (2 : Int32).toInt = 2 := by decide
  have e3 : (3 : Int32).toInt = 3 := by decide
  have e4 : (4 : Int32).toInt = 4 := by decide
  have e5 : (5 : Int32).toInt = 5 := by decide
  simp only [Int32.lt_iff_toInt_lt, ← Int32.toInt_inj, e0, e1, e2, e3, e4, e5] at *
  omega
theorem own_c16 (x : Int32) : ¬ ((x &&& (65535 : Int32)).toUInt32.toUInt16.toUInt32.toInt32) < 0 ∧ ¬ (65535 : Int32) < ((x &&& (65535 : Int32)).toUInt32.toUInt16.toUInt32.toInt32) := by
  have c := c_i2c (x &&& (65535 : Int32))
  have e : (65535 : Int32).toInt = 65535 := by decide
  simp only [Int32.lt_iff_toInt_lt, e, own_i0]
  omega
set_option maxRecDepth 65536 in
set_option maxHeartbeats 40000000 in
theorem rm_ul (l : Launch) (Z : State) (a0 : Array Value) (hw : ∀ d ∈ tables_1, d.before a0 Z = true) (hE : EW Z a0 ELx) (b1 : Addr) (kb : ClassId) (nN : Nat) (vs : List Value) (h0 : Heap) (O0 : Ext Z.heap h0) (V1 : Arv Z h0 b1 kb .byte (Int32.ofNat (2 * nN)) vs (.int 0)) (hN4 : nN ≤ 4) :
    Ct l Z ELx a0 true (⟨"java/lang/StringUTF16", "length", "([B)I"⟩ : MethodName) jdk_52_method_6_code 1 (some .int) [] ({ frames := 0, cells := 0, slots := 0, locals := 0 } : Room) #[(.ref b1)] h0 [] (fun _ => []) (fun v h => v = some (.int (Int32.ofNat nN)) ∧ h0 = h) := by
  refine own_enter (plainFor_of_name pn_0) hE O0 ?_
  intro p e s m below meth c s₁ hx hby hml hown hnm hret hlk H0
  refine Go.eq (ef_rm_ul m b1) ?_
  show Go p e below _ s₁ (mkF m 0 #[.val (.ref b1)] [])
  refine Go.of (fun _ => XS.aloadN H0.here hx rfl (hb hby d_jdk_52_6_0) rfl rfl) ?_
  show Go p e below _ s₁ (mkF m 1 #[.val (.ref b1)] [(.ref b1)])
  refine own_len H0 hx V1 rfl rfl (hb hby d_jdk_52_6_1) ?_
  show Go p e below _ s₁ (mkF m 2 #[.val (.ref b1)] [(.int (Int32.ofNat (2 * nN)))])
  refine Go.of (fun _ => XS.iconst H0.here hx rfl (hb hby d_jdk_52_6_2)) ?_
  show Go p e below _ s₁ (mkF m 3 #[.val (.ref b1)] [(.int (1 : Int32)), (.int (Int32.ofNat (2 * nN)))])
  refine Go.of (fun _ => XS.ishr H0.here hx rfl (hb hby d_jdk_52_6_3) rfl) ?_
  show Go p e below _ s₁ (mkF m 4 #[.val (.ref b1)] [(.int ((Int32.ofNat (2 * nN)) >>> ((1 : Int32) &&& 31)))])
  exact own_retI H0 hx hlk hret (hb hby d_jdk_52_6_4) all0 ⟨by rw [StrChars.shr1 (by omega)], rfl⟩ (by decide) (by decide)
set_option maxRecDepth 65536 in
set_option maxHeartbeats 40000000 in
theorem rm_put (l : Launch) (Z : State) (a0 : Array Value) (hw : ∀ d ∈ tables_1, d.before a0 Z = true) (hE : EW Z a0 ELx) (b1 : Addr) (kb : ClassId) (nN : Nat) (vs : List Value) (iN : Nat) (p2 : Int32) (h0 : Heap) (O0 : Ext Z.heap h0) (V1 : Arv Z h0 b1 kb .byte (Int32.ofNat (2 * nN)) vs (.int 0)) (hN4 : nN ≤ 4) (hv : vs.length = 2 * nN) (hi : iN < nN) (g1 : Z.heap.size ≤ b1) (SA : Sta Z Z.heap "java/lang/StringUTF16" "$assertionsDisabled" "Z" (.int 1)) (SHB : Sta Z Z.heap "java/lang/StringUTF16" "HI_BYTE_SHIFT" "I" (.int 0)) (SLB : Sta Z Z.heap "java/lang/StringUTF16" "LO_BYTE_SHIFT" "I" (.int 8)) :
    Ct l Z ELx a0 true (⟨"java/lang/StringUTF16", "putChar", "([BII)V"⟩ : MethodName) jdk_52_method_4_code 3 none [] ({ frames := 0, cells := 0, slots := 0, locals := 0 } : Room) #[(.ref b1), (.int (Int32.ofNat iN)), (.int p2)] h0 [b1] (fun _ => []) (fun v h => v = none ∧ Keep h0 h [b1] ∧ Arv Z h b1 kb .byte (Int32.ofNat (2 * nN)) ((vs.set (2 * iN) (.int (StrChars.lo8 p2))).set (2 * iN + 1) (.int (StrChars.hi8 p2))) (.int 0)) := by
  refine own_enter (plainFor_of_name pn_0) hE O0 ?_
  intro p e s m below meth c s₁ hx hby hml hown hnm hret hlk H0
  refine Go.eq (ef_rm_put m b1 (Int32.ofNat iN) p2) ?_
  have K1 : Keep h0 h0 [b1] := Keep.refl _ _
  show Go p e below _ s₁ (mkF m 0 #[.val (.ref b1), .val (.int (Int32.ofNat iN)), .val (.int p2)] [])
  refine own_getS H0 hx hown (host := "") (Or.inl (ow hw 89 rfl)) Via.refl SA rfl (hb hby d_jdk_52_4_0) fun T2 H3 => ?_
  show Go p e below _ T2 (mkF m 3 #[.val (.ref b1), .val (.int (Int32.ofNat iN)), .val (.int p2)] [(.int (1 : Int32))])
  refine Go.of (fun _ => XS.ifYes H3.here hx rfl (pc0 := 3) (pc' := 28) rfl (hb hby d_jdk_52_4_3) rfl ((if0 _ _).trans (feq (by decide : ¬ ((1 : Int32) = (0 : Int32)))).2) (by decide) (by decide)) ?_
  show Go p e below _ T2 (mkF m 28 #[.val (.ref b1), .val (.int (Int32.ofNat iN)), .val (.int p2)] [])
  refine Go.of (fun _ => XS.iloadN H3.here hx rfl (hb hby d_jdk_52_4_28) rfl) ?_
  show Go p e below _ T2 (mkF m 29 #[.val (.ref b1), .val (.int (Int32.ofNat iN)), .val (.int p2)] [(.int (Int32.ofNat iN))])
  refine Go.of (fun _ => XS.iconst H3.here hx rfl (hb hby d_jdk_52_4_29)) ?_
  show Go p e below _ T2 (mkF m 30 #[.val (.ref b1), .val (.int (Int32.ofNat iN)), .val (.int p2)] [(.int (1 : Int32)), (.int (Int32.ofNat iN))])
  refine Go.of (fun _ => XS.ishl H3.here hx rfl (hb hby d_jdk_52_4_30) rfl) ?_
  show Go p e below _ T2 (mkF m 31 #[.val (.ref b1), .val (.int (Int32.ofNat iN)), .val (.int p2)] [(.int ((Int32.ofNat iN) <<< ((1 : Int32) &&& 31)))])
  rw [own_shl1 (by omega)]
  show Go p e below _ T2 (mkF m 31 #[.val (.ref b1), .val (.int (Int32.ofNat iN)), .val (.int p2)] [(.int (Int32.ofNat (2 * iN)))])
  refine Go.of (fun _ => XS.istoreN H3.here hx rfl (hb hby d_jdk_52_4_31) rfl (l' := #[.val (.ref b1), .val (.int (Int32.ofNat (2 * iN))), .val (.int p2)]) rfl) ?_
  show Go p e below _ T2 (mkF m 32 #[.val (.ref b1), .val (.int (Int32.ofNat (2 * iN))), .val (.int p2)] [])
  refine Go.of (fun _ => XS.aloadN H3.here hx rfl (hb hby d_jdk_52_4_32) rfl rfl) ?_
  show Go p e below _ T2 (mkF m 33 #[.val (.ref b1), .val (.int (Int32.ofNat (2 * iN))), .val (.int p2)] [(.ref b1)])
  refine Go.of (fun _ => XS.iloadN H3.here hx rfl (hb hby d_jdk_52_4_33) rfl) ?_
  show Go p e below _ T2 (mkF m 34 #[.val (.ref b1), .val (.int (Int32.ofNat (2 * iN))), .val (.int p2)] [(.int (Int32.ofNat (2 * iN))), (.ref b1)])
  refine Go.of (fun _ => XS.iinc H3.here hx rfl (hb hby d_jdk_52_4_34) rfl (l' := #[.val (.ref b1), .val (.int ((Int32.ofNat (2 * iN)) + (1 : Int32))), .val (.int p2)]) rfl) ?_
  show Go p e below _ T2 (mkF m 37 #[.val (.ref b1), .val (.int ((Int32.ofNat (2 * iN)) + (1 : Int32))), .val (.int p2)] [(.int (Int32.ofNat (2 * iN))), (.ref b1)])
  rw [show (Int32.ofNat (2 * iN)) + (1 : Int32) = (Int32.ofNat (2 * iN + 1)) from own_onadd (2 * iN) 1]
  show Go p e below _ T2 (mkF m 37 #[.val (.ref b1), .val (.int (Int32.ofNat (2 * iN + 1))), .val (.int p2)] [(.int (Int32.ofNat (2 * iN))), (.ref b1)])
  refine Go.of (fun _ => XS.iloadN H3.here hx rfl (hb hby d_jdk_52_4_37) rfl) ?_
  show Go p e below _ T2 (mkF m 38 #[.val (.ref b1), .val (.int (Int32.ofNat (2 * iN + 1))), .val (.int p2)] [(.int p2), (.int (Int32.ofNat (2 * iN))), (.ref b1)])
  refine own_getS H3 hx hown (host := "") (Or.inl (ow hw 90 rfl)) Via.refl SHB rfl (hb hby d_jdk_52_4_38) fun T4 H5 => ?_
  show Go p e below _ T4 (mkF m 41 #[.val (.ref b1), .val (.int (Int32.ofNat (2 * iN + 1))), .val (.int p2)] [(.int (0 : Int32)), (.int p2), (.int (Int32.ofNat (2 * iN))), (.ref b1)])
  refine Go.of (fun _ => XS.ishr H5.here hx rfl (hb hby d_jdk_52_4_41) rfl) ?_
  show Go p e below _ T4 (mkF m 42 #[.val (.ref b1), .val (.int (Int32.ofNat (2 * iN + 1))), .val (.int p2)] [(.int (p2 >>> ((0 : Int32) &&& 31))), (.int (Int32.ofNat (2 * iN))), (.ref b1)])
  refine Go.of (fun _ => XS.i2b H5.here hx rfl (hb hby d_jdk_52_4_42) rfl) ?_
  show Go p e below _ T4 (mkF m 43 #[.val (.ref b1), .val (.int (Int32.ofNat (2 * iN + 1))), .val (.int p2)] [(.int ((p2 >>> ((0 : Int32) &&& 31)).toInt8.toInt32)), (.int (Int32.ofNat (2 * iN))), (.ref b1)])
  refine own_bastore H5 hx V1 ⟨own_on0 (by omega), (own_onlt (by omega) (by omega)).mpr (by omega)⟩ (2 * iN) (own_onc (by omega)) (by omega) g1 (own_mem (List.mem_of_getElem? (i := 0) rfl)) rfl rfl (hb hby d_jdk_52_4_43) fun T6 h8 H7 W9 V10 => ?_
  have K11 : Keep h0 h8 [b1] := K1.wr W9 (Or.inl (List.mem_of_getElem? (i := 0) rfl))
  rw [show nar .byte (p2 >>> ((0 : Int32) &&& 31)).toInt8.toInt32 = StrChars.lo8 p2 from by rw [StrChars.shr0]; exact own_lo2 p2] at V10
  show Go p e below _ T6 (mkF m 44 #[.val (.ref b1), .val (.int (Int32.ofNat (2 * iN + 1))), .val (.int p2)] [])
  refine Go.of (fun _ => XS.aloadN H7.here hx rfl (hb hby d_jdk_52_4_44) rfl rfl) ?_
  show Go p e below _ T6 (mkF m 45 #[.val (.ref b1), .val (.int (Int32.ofNat (2 * iN + 1))), .val (.int p2)] [(.ref b1)])
  refine Go.of (fun _ => XS.iloadN H7.here hx rfl (hb hby d_jdk_52_4_45) rfl) ?_
  show Go p e below _ T6 (mkF m 46 #[.val (.ref b1), .val (.int (Int32.ofNat (2 * iN + 1))), .val (.int p2)] [(.int (Int32.ofNat (2 * iN + 1))), (.ref b1)])
  refine Go.of (fun _ => XS.iloadN H7.here hx rfl (hb hby d_jdk_52_4_46) rfl) ?_
  show Go p e below _ T6 (mkF m 47 #[.val (.ref b1), .val (.int (Int32.ofNat (2 * iN + 1))), .val (.int p2)] [(.int p2), (.int (Int32.ofNat (2 * iN + 1))), (.ref b1)])
  refine own_getS H7 hx hown (host := "") (Or.inl (ow hw 91 rfl)) Via.refl SLB rfl (hb hby d_jdk_52_4_47) fun T13 H14 => ?_
  show Go p e below _ T13 (mkF m 50 #[.val (.ref b1), .val (.int (Int32.ofNat (2 * iN + 1))), .val (.int p2)] [(.int (8 : Int32)), (.int p2), (.int (Int32.ofNat (2 * iN + 1))), (.ref b1)])
  refine Go.of (fun _ => XS.ishr H14.here hx rfl (hb hby d_jdk_52_4_50) rfl) ?_
  show Go p e below _ T13 (mkF m 51 #[.val (.ref b1), .val (.int (Int32.ofNat (2 * iN + 1))), .val (.int p2)] [(.int (p2 >>> ((8 : Int32) &&& 31))), (.int (Int32.ofNat (2 * iN + 1))), (.ref b1)])
  refine Go.of (fun _ => XS.i2b H14.here hx rfl (hb hby d_jdk_52_4_51) rfl) ?_
  show Go p e below _ T13 (mkF m 52 #[.val (.ref b1), .val (.int (Int32.ofNat (2 * iN + 1))), .val (.int p2)] [(.int ((p2 >>> ((8 : Int32) &&& 31)).toInt8.toInt32)), (.int (Int32.ofNat (2 * iN + 1))), (.ref b1)])
  refine own_bastore H14 hx V10 ⟨own_on0 (by omega), (own_onlt (by omega) (by omega)).mpr (by omega)⟩ (2 * iN + 1) (own_onc (by omega)) (by rw [List.length_set]; omega) g1 (own_mem (List.mem_of_getElem? (i := 0) rfl)) rfl rfl (hb hby d_jdk_52_4_52) fun T15 h17 H16 W18 V19 => ?_
  have K20 : Keep h0 h17 [b1] := K11.wr W18 (Or.inl (List.mem_of_getElem? (i := 0) rfl))
  rw [show nar .byte (p2 >>> ((8 : Int32) &&& 31)).toInt8.toInt32 = StrChars.hi8 p2 from own_lo2 _] at V19
  show Go p e below _ T15 (mkF m 53 #[.val (.ref b1), .val (.int (Int32.ofNat (2 * iN + 1))), .val (.int p2)] [])
  exact own_ret H16 hx hlk hret (hb hby d_jdk_52_4_53) all0 ⟨rfl, K20, V19⟩ (by decide) (by decide)
set_option maxRecDepth 65536 in
set_option maxHeartbeats 40000000 in
theorem rm_get (l : Launch) (Z : State) (a0 : Array Value) (hw : ∀ d ∈ tables_1, d.before a0 Z = true) (hE : EW Z a0 ELx) (b1 : Addr) (kb : ClassId) (nN : Nat) (vs : List Value) (iN : Nat) (x1 : Int32) (h0 : Heap) (O0 : Ext Z.heap h0) (V1 : Arv Z h0 b1 kb .byte (Int32.ofNat (2 * nN)) vs (.int 0)) (hN4 : nN ≤ 4) (hi : iN < nN) (hlo : vs.getD (2 * iN) (.int 0) = .int (StrChars.lo8 x1)) (hhi : vs.getD (2 * iN + 1) (.int 0) = .int (StrChars.hi8 x1)) (hx1 : ¬ x1 < 0 ∧ ¬ (65535 : Int32) < x1) (SA : Sta Z Z.heap "java/lang/StringUTF16" "$assertionsDisabled" "Z" (.int 1)) (SHB : Sta Z Z.heap "java/lang/StringUTF16" "HI_BYTE_SHIFT" "I" (.int 0)) (SLB : Sta Z Z.heap "java/lang/StringUTF16" "LO_BYTE_SHIFT" "I" (.int 8)) :
    Ct l Z ELx a0 true (⟨"java/lang/StringUTF16", "getChar", "([BI)C"⟩ : MethodName) jdk_52_method_5_code 2 (some .char) [] ({ frames := 0, cells := 0, slots := 0, locals := 0 } : Room) #[(.ref b1), (.int (Int32.ofNat iN))] h0 [] (fun _ => []) (fun v h => v = some (.int x1) ∧ h0 = h) := by
  refine own_enter (plainFor_of_name pn_0) hE O0 ?_
  intro p e s m below meth c s₁ hx hby hml hown hnm hret hlk H0
  refine Go.eq (ef_rm_get m b1 (Int32.ofNat iN)) ?_
  show Go p e below _ s₁ (mkF m 0 #[.val (.ref b1), .val (.int (Int32.ofNat iN))] [])
  refine own_getS H0 hx hown (host := "") (Or.inl (ow hw 89 rfl)) Via.refl SA rfl (hb hby d_jdk_52_5_0) fun T1 H2 => ?_
  show Go p e below _ T1 (mkF m 3 #[.val (.ref b1), .val (.int (Int32.ofNat iN))] [(.int (1 : Int32))])
  refine Go.of (fun _ => XS.ifYes H2.here hx rfl (pc0 := 3) (pc' := 28) rfl (hb hby d_jdk_52_5_3) rfl ((if0 _ _).trans (feq (by decide : ¬ ((1 : Int32) = (0 : Int32)))).2) (by decide) (by decide)) ?_
  show Go p e below _ T1 (mkF m 28 #[.val (.ref b1), .val (.int (Int32.ofNat iN))] [])
  refine Go.of (fun _ => XS.iloadN H2.here hx rfl (hb hby d_jdk_52_5_28) rfl) ?_
  show Go p e below _ T1 (mkF m 29 #[.val (.ref b1), .val (.int (Int32.ofNat iN))] [(.int (Int32.ofNat iN))])
  refine Go.of (fun _ => XS.iconst H2.here hx rfl (hb hby d_jdk_52_5_29)) ?_
  show Go p e below _ T1 (mkF m 30 #[.val (.ref b1), .val (.int (Int32.ofNat iN))] [(.int (1 : Int32)), (.int (Int32.ofNat iN))])
  refine Go.of (fun _ => XS.ishl H2.here hx rfl (hb hby d_jdk_52_5_30) rfl) ?_
  show Go p e below _ T1 (mkF m 31 #[.val (.ref b1), .val (.int (Int32.ofNat iN))] [(.int ((Int32.ofNat iN) <<< ((1 : Int32) &&& 31)))])
  rw [own_shl1 (by omega)]
  show Go p e below _ T1 (mkF m 31 #[.val (.ref b1), .val (.int (Int32.ofNat iN))] [(.int (Int32.ofNat (2 * iN)))])
  refine Go.of (fun _ => XS.istoreN H2.here hx rfl (hb hby d_jdk_52_5_31) rfl (l' := #[.val (.ref b1), .val (.int (Int32.ofNat (2 * iN)))]) rfl) ?_
  show Go p e below _ T1 (mkF m 32 #[.val (.ref b1), .val (.int (Int32.ofNat (2 * iN)))] [])
  refine Go.of (fun _ => XS.aloadN H2.here hx rfl (hb hby d_jdk_52_5_32) rfl rfl) ?_
  show Go p e below _ T1 (mkF m 33 #[.val (.ref b1), .val (.int (Int32.ofNat (2 * iN)))] [(.ref b1)])
  refine Go.of (fun _ => XS.iloadN H2.here hx rfl (hb hby d_jdk_52_5_33) rfl) ?_
  show Go p e below _ T1 (mkF m 34 #[.val (.ref b1), .val (.int (Int32.ofNat (2 * iN)))] [(.int (Int32.ofNat (2 * iN))), (.ref b1)])
  refine Go.of (fun _ => XS.iinc H2.here hx rfl (hb hby d_jdk_52_5_34) rfl (l' := #[.val (.ref b1), .val (.int ((Int32.ofNat (2 * iN)) + (1 : Int32)))]) rfl) ?_
  show Go p e below _ T1 (mkF m 37 #[.val (.ref b1), .val (.int ((Int32.ofNat (2 * iN)) + (1 : Int32)))] [(.int (Int32.ofNat (2 * iN))), (.ref b1)])
  refine own_baload H2 hx V1 ⟨own_on0 (by omega), (own_onlt (by omega) (by omega)).mpr (by omega)⟩ (v := (.int (StrChars.lo8 x1))) (by rw [own_onc (by omega)]; exact hlo) rfl rfl (hb hby d_jdk_52_5_37) ?_
  show Go p e below _ T1 (mkF m 38 #[.val (.ref b1), .val (.int ((Int32.ofNat (2 * iN)) + (1 : Int32)))] [(.int (StrChars.lo8 x1))])
  refine Go.of (fun _ => XS.sipush H2.here hx rfl (hb hby d_jdk_52_5_38)) ?_
  show Go p e below _ T1 (mkF m 41 #[.val (.ref b1), .val (.int ((Int32.ofNat (2 * iN)) + (1 : Int32)))] [(.int (255 : Int32)), (.int (StrChars.lo8 x1))])
  refine Go.of (fun _ => XS.iand H2.here hx rfl (hb hby d_jdk_52_5_41) rfl) ?_
  show Go p e below _ T1 (mkF m 42 #[.val (.ref b1), .val (.int ((Int32.ofNat (2 * iN)) + (1 : Int32)))] [(.int ((StrChars.lo8 x1) &&& (255 : Int32)))])
  refine own_getS H2 hx hown (host := "") (Or.inl (ow hw 90 rfl)) Via.refl SHB rfl (hb hby d_jdk_52_5_42) fun T3 H4 => ?_
  show Go p e below _ T3 (mkF m 45 #[.val (.ref b1), .val (.int ((Int32.ofNat (2 * iN)) + (1 : Int32)))] [(.int (0 : Int32)), (.int ((StrChars.lo8 x1) &&& (255 : Int32)))])
  refine Go.of (fun _ => XS.ishl H4.here hx rfl (hb hby d_jdk_52_5_45) rfl) ?_
  show Go p e below _ T3 (mkF m 46 #[.val (.ref b1), .val (.int ((Int32.ofNat (2 * iN)) + (1 : Int32)))] [(.int (((StrChars.lo8 x1) &&& (255 : Int32)) <<< ((0 : Int32) &&& 31)))])
  rw [show (Int32.ofNat (2 * iN)) + (1 : Int32) = (Int32.ofNat (2 * iN + 1)) from own_onadd (2 * iN) 1]
  show Go p e below _ T3 (mkF m 46 #[.val (.ref b1), .val (.int (Int32.ofNat (2 * iN + 1)))] [(.int (((StrChars.lo8 x1) &&& (255 : Int32)) <<< ((0 : Int32) &&& 31)))])
  refine Go.of (fun _ => XS.aloadN H4.here hx rfl (hb hby d_jdk_52_5_46) rfl rfl) ?_
  show Go p e below _ T3 (mkF m 47 #[.val (.ref b1), .val (.int (Int32.ofNat (2 * iN + 1)))] [(.ref b1), (.int (((StrChars.lo8 x1) &&& (255 : Int32)) <<< ((0 : Int32) &&& 31)))])
  refine Go.of (fun _ => XS.iloadN H4.here hx rfl (hb hby d_jdk_52_5_47) rfl) ?_
  show Go p e below _ T3 (mkF m 48 #[.val (.ref b1), .val (.int (Int32.ofNat (2 * iN + 1)))] [(.int (Int32.ofNat (2 * iN + 1))), (.ref b1), (.int (((StrChars.lo8 x1) &&& (255 : Int32)) <<< ((0 : Int32) &&& 31)))])
  refine own_baload H4 hx V1 ⟨own_on0 (by omega), (own_onlt (by omega) (by omega)).mpr (by omega)⟩ (v := (.int (StrChars.hi8 x1))) (by rw [own_onc (by omega)]; exact hhi) rfl rfl (hb hby d_jdk_52_5_48) ?_
  show Go p e below _ T3 (mkF m 49 #[.val (.ref b1), .val (.int (Int32.ofNat (2 * iN + 1)))] [(.int (StrChars.hi8 x1)), (.int (((StrChars.lo8 x1) &&& (255 : Int32)) <<< ((0 : Int32) &&& 31)))])
  refine Go.of (fun _ => XS.sipush H4.here hx rfl (hb hby d_jdk_52_5_49)) ?_
  show Go p e below _ T3 (mkF m 52 #[.val (.ref b1), .val (.int (Int32.ofNat (2 * iN + 1)))] [(.int (255 : Int32)), (.int (StrChars.hi8 x1)), (.int (((StrChars.lo8 x1) &&& (255 : Int32)) <<< ((0 : Int32) &&& 31)))])
  refine Go.of (fun _ => XS.iand H4.here hx rfl (hb hby d_jdk_52_5_52) rfl) ?_
  show Go p e below _ T3 (mkF m 53 #[.val (.ref b1), .val (.int (Int32.ofNat (2 * iN + 1)))] [(.int ((StrChars.hi8 x1) &&& (255 : Int32))), (.int (((StrChars.lo8 x1) &&& (255 : Int32)) <<< ((0 : Int32) &&& 31)))])
  refine own_getS H4 hx hown (host := "") (Or.inl (ow hw 91 rfl)) Via.refl SLB rfl (hb hby d_jdk_52_5_53) fun T5 H6 => ?_
  show Go p e below _ T5 (mkF m 56 #[.val (.ref b1), .val (.int (Int32.ofNat (2 * iN + 1)))] [(.int (8 : Int32)), (.int ((StrChars.hi8 x1) &&& (255 : Int32))), (.int (((StrChars.lo8 x1) &&& (255 : Int32)) <<< ((0 : Int32) &&& 31)))])
  refine Go.of (fun _ => XS.ishl H6.here hx rfl (hb hby d_jdk_52_5_56) rfl) ?_
  show Go p e below _ T5 (mkF m 57 #[.val (.ref b1), .val (.int (Int32.ofNat (2 * iN + 1)))] [(.int (((StrChars.hi8 x1) &&& (255 : Int32)) <<< ((8 : Int32) &&& 31))), (.int (((StrChars.lo8 x1) &&& (255 : Int32)) <<< ((0 : Int32) &&& 31)))])
  refine Go.of (fun _ => XS.ior H6.here hx rfl (hb hby d_jdk_52_5_57) rfl) ?_
  show Go p e below _ T5 (mkF m 58 #[.val (.ref b1), .val (.int (Int32.ofNat (2 * iN + 1)))] [(.int ((((StrChars.lo8 x1) &&& (255 : Int32)) <<< ((0 : Int32) &&& 31)) ||| (((StrChars.hi8 x1) &&& (255 : Int32)) <<< ((8 : Int32) &&& 31))))])
  refine Go.of (fun _ => XS.i2c H6.here hx rfl (hb hby d_jdk_52_5_58) rfl) ?_
  show Go p e below _ T5 (mkF m 59 #[.val (.ref b1), .val (.int (Int32.ofNat (2 * iN + 1)))] [(.int (((((StrChars.lo8 x1) &&& (255 : Int32)) <<< ((0 : Int32) &&& 31)) ||| (((StrChars.hi8 x1) &&& (255 : Int32)) <<< ((8 : Int32) &&& 31))).toUInt32.toUInt16.toUInt32.toInt32))])
  exact own_retN H6 hx hlk (t := .char) hret (by simp) (hb hby d_jdk_52_5_59) all0 ⟨by rw [own_pair hx1, own_narc16 hx1], rfl⟩ (by decide) (by decide)
set_option maxRecDepth 65536 in
set_option maxHeartbeats 40000000 in
theorem rm_nbl (l : Launch) (Z : State) (a0 : Array Value) (hw : ∀ d ∈ tables_1, d.before a0 Z = true) (hE : EW Z a0 ELx) (nN : Nat) (h0 : Heap) (O0 : Ext Z.heap h0) (hN4 : nN ≤ 4) :
    Ct l Z ELx a0 true (⟨"java/lang/StringUTF16", "newBytesLength", "(I)I"⟩ : MethodName) jdk_52_method_3_code 1 (some .int) [] ({ frames := 0, cells := 0, slots := 0, locals := 0 } : Room) #[(.int (Int32.ofNat nN))] h0 [] (fun _ => []) (fun v h => v = some (.int (Int32.ofNat (2 * nN))) ∧ h0 = h) := by
  refine own_enter (plainFor_of_name pn_0) hE O0 ?_
  intro p e s m below meth c s₁ hx hby hml hown hnm hret hlk H0
  refine Go.eq (ef_rm_nbl m (Int32.ofNat nN)) ?_
  show Go p e below _ s₁ (mkF m 0 #[.val (.int (Int32.ofNat nN))] [])
  refine Go.of (fun _ => XS.iloadN H0.here hx rfl (hb hby d_jdk_52_3_0) rfl) ?_
  show Go p e below _ s₁ (mkF m 1 #[.val (.int (Int32.ofNat nN))] [(.int (Int32.ofNat nN))])
  refine Go.of (fun _ => XS.ifYes H0.here hx rfl (pc0 := 1) (pc' := 12) rfl (hb hby d_jdk_52_3_1) rfl ((if0 _ _).trans (flt (own_on0 (by omega))).2.1) (by decide) (by decide)) ?_
  show Go p e below _ s₁ (mkF m 12 #[.val (.int (Int32.ofNat nN))] [])
  refine Go.of (fun _ => XS.iloadN H0.here hx rfl (hb hby d_jdk_52_3_12) rfl) ?_
  show Go p e below _ s₁ (mkF m 13 #[.val (.int (Int32.ofNat nN))] [(.int (Int32.ofNat nN))])
  refine own_ldcI H0 hx hown (ow hw 85 rfl) rfl (hb hby d_jdk_52_3_13) ?_
  show Go p e below _ s₁ (mkF m 15 #[.val (.int (Int32.ofNat nN))] [(.int (1073741823 : Int32)), (.int (Int32.ofNat nN))])
  refine Go.of (fun _ => XS.icmpYes H0.here hx rfl (pc0 := 15) (pc' := 55) rfl (hb hby d_jdk_52_3_15) rfl (tlt (by rw [Int32.lt_iff_toInt_lt, own_on (by omega), show (1073741823 : Int32).toInt = 1073741823 from by decide]; omega)).1 (by decide) (by decide)) ?_
  show Go p e below _ s₁ (mkF m 55 #[.val (.int (Int32.ofNat nN))] [])
  refine Go.of (fun _ => XS.iloadN H0.here hx rfl (hb hby d_jdk_52_3_55) rfl) ?_
  show Go p e below _ s₁ (mkF m 56 #[.val (.int (Int32.ofNat nN))] [(.int (Int32.ofNat nN))])
  refine Go.of (fun _ => XS.iconst H0.here hx rfl (hb hby d_jdk_52_3_56)) ?_
  show Go p e below _ s₁ (mkF m 57 #[.val (.int (Int32.ofNat nN))] [(.int (1 : Int32)), (.int (Int32.ofNat nN))])
  refine Go.of (fun _ => XS.ishl H0.here hx rfl (hb hby d_jdk_52_3_57) rfl) ?_
  show Go p e below _ s₁ (mkF m 58 #[.val (.int (Int32.ofNat nN))] [(.int ((Int32.ofNat nN) <<< ((1 : Int32) &&& 31)))])
  exact own_retI H0 hx hlk hret (hb hby d_jdk_52_3_58) all0 ⟨by rw [own_shl1 (by omega)], rfl⟩ (by decide) (by decide)
set_option maxRecDepth 65536 in
set_option maxHeartbeats 40000000 in
theorem rm_nbf (l : Launch) (Z : State) (a0 : Array Value) (hw : ∀ d ∈ tables_1, d.before a0 Z = true) (hE : EW Z a0 ELx) (nN : Nat) (h0 : Heap) (O0 : Ext Z.heap h0) (hN4 : nN ≤ 4) :
    Ct l Z ELx a0 true (⟨"java/lang/StringUTF16", "newBytesFor", "(I)[B"⟩ : MethodName) jdk_52_method_2_code 1 (some (.array .byte)) [] ({ frames := 1, cells := 1, slots := 8, locals := 12 } : Room) #[(.int (Int32.ofNat nN))] h0 [] (fun v => match v with | some (.ref r) => [r] | _ => []) (fun v h => ∃ r kr, v = some (.ref r) ∧ Keep h0 h [] ∧ h0.size ≤ r ∧ Z.heap.size ≤ r ∧ Arv Z h r kr .byte (Int32.ofNat (2 * nN)) [] (.int 0)) := by
  refine own_enter (plainFor_of_name pn_0) hE O0 ?_
  intro p e s m below meth c s₁ hx hby hml hown hnm hret hlk H0
  refine Go.eq (ef_rm_nbf m (Int32.ofNat nN)) ?_
  have K1 : Keep h0 h0 [] := Keep.refl _ _
  show Go p e below _ s₁ (mkF m 0 #[.val (.int (Int32.ofNat nN))] [])
  refine Go.of (fun _ => XS.iloadN H0.here hx rfl (hb hby d_jdk_52_2_0) rfl) ?_
  show Go p e below _ s₁ (mkF m 1 #[.val (.int (Int32.ofNat nN))] [(.int (Int32.ofNat nN))])
  refine own_staticW H0 hx (y := (⟨"java/lang/StringUTF16", "newBytesLength", "(I)I"⟩ : MethodName)) hown (ow hw 82 rfl) (ow hw 83 rfl) (ow hw 36 rfl) (ow hw 84 rfl) (by decide) (W := 0) (rm_nbl l Z a0 hw hE nN h0 H0.old hN4) (fun _ hq => nomatch hq) (by decide) (by decide) rfl (by rw [hml]; rfl) (argsL := [(.int (Int32.ofNat nN))]) (rest := []) rfl (lenOf pd_0 rfl) rfl (by show 2 * 0 + _ ≤ _; exact Nat.le_of_eq rfl) (hb hby d_jdk_52_2_1) (by decide) (by decide) fun T2 h4 v6 H3 hs7 q5 => ?_
  obtain ⟨ve9, e8⟩ := q5
  subst e8
  subst ve9
  show Go p e below _ T2 (mkF m 4 #[.val (.int (Int32.ofNat nN))] [(.int (Int32.ofNat (2 * nN)))])
  refine own_newP H3 hx (ow hw 17 rfl) rfl (hb hby d_jdk_52_2_4) rfl (own_on0 (by omega)) (cap := 8) (by rw [own_onc (by omega)]; omega) (by decide) (by decide) (by decide) fun T10 h12 b13 kA16 g14 H11 E15 V17 => ?_
  have fr18 : Z.heap.size ≤ b13 := by rw [g14]; exact H3.old.1
  have sz19 : h0.size ≤ b13 := by rw [g14]; exact K1.1
  have K20 : Keep h0 h12 [] := K1.ext E15
  have V21 : Arv Z h12 b13 kA16 .byte (Int32.ofNat (2 * nN)) [] (.int (0 : Int32)) := V17
  show Go p e below _ T10 (mkF m 6 #[.val (.int (Int32.ofNat nN))] [(.ref b13)])
  exact own_retA H11 hx hlk hret rfl rfl (hb hby d_jdk_52_2_6) (allS (List.mem_of_getElem? (i := 0) rfl) all0) ⟨b13, _, rfl, K20, sz19, fr18, V21⟩ (by decide) (by decide)
set_option maxRecDepth 65536 in
set_option maxHeartbeats 40000000 in
theorem rm_tob (l : Launch) (Z : State) (a0 : Array Value) (hw : ∀ d ∈ tables_1, d.before a0 Z = true) (hE : EW Z a0 ELx) (b1 : Addr) (kc : ClassId) (nN : Nat) (cs : List Int32) (dc : Value) (h0 : Heap) (O0 : Ext Z.heap h0) (V1 : Arv Z h0 b1 kc .char (Int32.ofNat nN) (cs.map Value.int) dc) (hl : cs.length = nN) (hN4 : nN ≤ 4) (hp : ∀ c ∈ cs, ¬ c < 0 ∧ ¬ (65535 : Int32) < c) (SA : Sta Z Z.heap "java/lang/StringUTF16" "$assertionsDisabled" "Z" (.int 1)) (SHB : Sta Z Z.heap "java/lang/StringUTF16" "HI_BYTE_SHIFT" "I" (.int 0)) (SLB : Sta Z Z.heap "java/lang/StringUTF16" "LO_BYTE_SHIFT" "I" (.int 8)) :
    Ct l Z ELx a0 true (⟨"java/lang/StringUTF16", "toBytes", "([CII)[B"⟩ : MethodName) jdk_52_method_14_code 5 (some (.array .byte)) [] ({ frames := 2, cells := 1, slots := 8, locals := 40 } : Room) #[(.ref b1), (.int (0 : Int32)), (.int (Int32.ofNat nN))] h0 [] (fun v => match v with | some (.ref r) => [r] | _ => []) (fun v h => ∃ r kr, v = some (.ref r) ∧ Keep h0 h [] ∧ h0.size ≤ r ∧ Z.heap.size ≤ r ∧ Arv Z h r kr .byte (Int32.ofNat (2 * nN)) (StrChars.Road.wideBytes cs) (.int 0)) := by
  refine own_enter (plainFor_of_name pn_0) hE O0 ?_
  intro p e s m below meth c s₁ hx hby hml hown hnm hret hlk H0
  refine Go.eq (ef_rm_tob m b1 (0 : Int32) (Int32.ofNat nN)) ?_
  have K1 : Keep h0 h0 [] := Keep.refl _ _
  show Go p e below _ s₁ (mkF m 0 #[.val (.ref b1), .val (.int (0 : Int32)), .val (.int (Int32.ofNat nN)), .unset, .unset] [])
  refine Go.of (fun _ => XS.iloadN H0.here hx rfl (hb hby d_jdk_52_14_0) rfl) ?_
  show Go p e below _ s₁ (mkF m 1 #[.val (.ref b1), .val (.int (0 : Int32)), .val (.int (Int32.ofNat nN)), .unset, .unset] [(.int (Int32.ofNat nN))])
  refine own_staticW H0 hx (y := (⟨"java/lang/StringUTF16", "newBytesFor", "(I)[B"⟩ : MethodName)) hown (ow hw 79 rfl) (ow hw 80 rfl) (ow hw 36 rfl) (ow hw 81 rfl) (by decide) (W := 0) (rm_nbf l Z a0 hw hE nN h0 H0.old hN4) (fun _ hq => nomatch hq) (by decide) (by decide) rfl (by rw [hml]; rfl) (argsL := [(.int (Int32.ofNat nN))]) (rest := []) rfl (lenOf pd_1 rfl) rfl (by show 2 * 0 + _ ≤ _; exact Nat.le_of_eq rfl) (hb hby d_jdk_52_14_1) (by decide) (by decide) fun T2 h4 v6 H3 hs7 q5 => ?_
  obtain ⟨r1, kr1, rfl, KN, zr1, gr1, VN⟩ := q5
  have K8 : Keep h0 h4 [] := K1.trans KN all0
  have ne9 : b1 ≠ r1 := Nat.ne_of_lt (Nat.lt_of_lt_of_le V1.lt zr1)
  have f10 := V1.keep KN nin0
  have VW : Arv Z h4 r1 kr1 .byte (Int32.ofNat (2 * nN)) (own_wb cs 0) (.int 0) := VN.pad (by rw [own_wb0]; simpa using pad_rep [] (.int (0 : Int32)) (2 * cs.length))
  show Go p e below _ T2 (mkF m 4 #[.val (.ref b1), .val (.int (0 : Int32)), .val (.int (Int32.ofNat nN)), .unset, .unset] [(.ref r1)])
  refine Go.of (fun _ => XS.astoreN H3.here hx rfl (hb hby d_jdk_52_14_4) rfl rfl (l' := #[.val (.ref b1), .val (.int (0 : Int32)), .val (.int (Int32.ofNat nN)), .val (.ref r1), .unset]) rfl) ?_
  show Go p e below _ T2 (mkF m 5 #[.val (.ref b1), .val (.int (0 : Int32)), .val (.int (Int32.ofNat nN)), .val (.ref r1), .unset] [])
  have LB : ∀ (k1 i1 : Nat) (T : State) (h : Heap), (i1 + k1 = nN) → (Wk p l e ({ frames := 2, cells := 1, slots := 8, locals := 40 } : Room) s m #[(.ref b1), (.int (0 : Int32)), (.int (Int32.ofNat nN))] below meth c Z ELx a0 true T h 1 8 [r1]) → (Keep h0 h []) → (Arv Z h b1 kc .char (Int32.ofNat nN) (cs.map Value.int) dc) → (Arv Z h r1 kr1 .byte (Int32.ofNat (2 * nN)) (own_wb cs i1) (.int 0)) → Go p e below (own_fin Z ELx true s below (fun v h => ∃ r kr, v = some (.ref r) ∧ Keep h0 h [] ∧ h0.size ≤ r ∧ Z.heap.size ≤ r ∧ Arv Z h r kr .byte (Int32.ofNat (2 * nN)) (StrChars.Road.wideBytes cs) (.int 0)) (({ frames := 2, cells := 1, slots := 8, locals := 40 } : Room)).cells (({ frames := 2, cells := 1, slots := 8, locals := 40 } : Room)).slots (fun v => match v with | some (.ref r) => [r] | _ => [])) T (mkF m 8 #[.val (.ref b1), .val (.int (Int32.ofNat i1)), .val (.int (Int32.ofNat nN)), .val (.ref r1), .val (.int (Int32.ofNat i1))] []) := by
    intro k1
    induction k1 with
    | zero =>
      intro i1 T h hk1 H K1 VB VR
      have hlt : ¬ (Int32.ofNat i1) < (Int32.ofNat nN) := by rw [own_onlt (by omega) (by omega)]; omega
      show Go p e below _ T (mkF m 8 #[.val (.ref b1), .val (.int (Int32.ofNat i1)), .val (.int (Int32.ofNat nN)), .val (.ref r1), .val (.int (Int32.ofNat i1))] [])
      refine Go.of (fun _ => XS.iload H.here hx rfl (hb hby d_jdk_52_14_8) rfl) ?_
      show Go p e below _ T (mkF m 10 #[.val (.ref b1), .val (.int (Int32.ofNat i1)), .val (.int (Int32.ofNat nN)), .val (.ref r1), .val (.int (Int32.ofNat i1))] [(.int (Int32.ofNat i1))])
      refine Go.of (fun _ => XS.iloadN H.here hx rfl (hb hby d_jdk_52_14_10) rfl) ?_
      show Go p e below _ T (mkF m 11 #[.val (.ref b1), .val (.int (Int32.ofNat i1)), .val (.int (Int32.ofNat nN)), .val (.ref r1), .val (.int (Int32.ofNat i1))] [(.int (Int32.ofNat nN)), (.int (Int32.ofNat i1))])
      refine Go.of (fun _ => XS.icmpYes H.here hx rfl (pc0 := 11) (pc' := 32) rfl (hb hby d_jdk_52_14_11) rfl (flt hlt).2.1 (by decide) (by decide)) ?_
      show Go p e below _ T (mkF m 32 #[.val (.ref b1), .val (.int (Int32.ofNat i1)), .val (.int (Int32.ofNat nN)), .val (.ref r1), .val (.int (Int32.ofNat i1))] [])
      refine Go.of (fun _ => XS.aloadN H.here hx rfl (hb hby d_jdk_52_14_32) rfl rfl) ?_
      show Go p e below _ T (mkF m 33 #[.val (.ref b1), .val (.int (Int32.ofNat i1)), .val (.int (Int32.ofNat nN)), .val (.ref r1), .val (.int (Int32.ofNat i1))] [(.ref r1)])
      exact own_retA H hx hlk hret rfl rfl (hb hby d_jdk_52_14_33) (allS (List.mem_of_getElem? (i := 0) rfl) all0) ⟨r1, kr1, rfl, K1, zr1, gr1, by have := VR; rw [show i1 = cs.length by omega, own_wbn] at this; exact this⟩ (by decide) (by decide)
    | succ k1 ih =>
      intro i1 T h hk1 H K1 VB VR
      have hlt : (Int32.ofNat i1) < (Int32.ofNat nN) := by rw [own_onlt (by omega) (by omega)]; omega
      show Go p e below _ T (mkF m 8 #[.val (.ref b1), .val (.int (Int32.ofNat i1)), .val (.int (Int32.ofNat nN)), .val (.ref r1), .val (.int (Int32.ofNat i1))] [])
      refine Go.of (fun _ => XS.iload H.here hx rfl (hb hby d_jdk_52_14_8) rfl) ?_
      show Go p e below _ T (mkF m 10 #[.val (.ref b1), .val (.int (Int32.ofNat i1)), .val (.int (Int32.ofNat nN)), .val (.ref r1), .val (.int (Int32.ofNat i1))] [(.int (Int32.ofNat i1))])
      refine Go.of (fun _ => XS.iloadN H.here hx rfl (hb hby d_jdk_52_14_10) rfl) ?_
      show Go p e below _ T (mkF m 11 #[.val (.ref b1), .val (.int (Int32.ofNat i1)), .val (.int (Int32.ofNat nN)), .val (.ref r1), .val (.int (Int32.ofNat i1))] [(.int (Int32.ofNat nN)), (.int (Int32.ofNat i1))])
      refine Go.of (fun _ => XS.icmpNo H.here hx rfl (hb hby d_jdk_52_14_11) rfl (tlt hlt).2.1) ?_
      show Go p e below _ T (mkF m 14 #[.val (.ref b1), .val (.int (Int32.ofNat i1)), .val (.int (Int32.ofNat nN)), .val (.ref r1), .val (.int (Int32.ofNat i1))] [])
      refine Go.of (fun _ => XS.aloadN H.here hx rfl (hb hby d_jdk_52_14_14) rfl rfl) ?_
      show Go p e below _ T (mkF m 15 #[.val (.ref b1), .val (.int (Int32.ofNat i1)), .val (.int (Int32.ofNat nN)), .val (.ref r1), .val (.int (Int32.ofNat i1))] [(.ref r1)])
      refine Go.of (fun _ => XS.iload H.here hx rfl (hb hby d_jdk_52_14_15) rfl) ?_
      show Go p e below _ T (mkF m 17 #[.val (.ref b1), .val (.int (Int32.ofNat i1)), .val (.int (Int32.ofNat nN)), .val (.ref r1), .val (.int (Int32.ofNat i1))] [(.int (Int32.ofNat i1)), (.ref r1)])
      refine Go.of (fun _ => XS.aloadN H.here hx rfl (hb hby d_jdk_52_14_17) rfl rfl) ?_
      show Go p e below _ T (mkF m 18 #[.val (.ref b1), .val (.int (Int32.ofNat i1)), .val (.int (Int32.ofNat nN)), .val (.ref r1), .val (.int (Int32.ofNat i1))] [(.ref b1), (.int (Int32.ofNat i1)), (.ref r1)])
      refine Go.of (fun _ => XS.iloadN H.here hx rfl (hb hby d_jdk_52_14_18) rfl) ?_
      show Go p e below _ T (mkF m 19 #[.val (.ref b1), .val (.int (Int32.ofNat i1)), .val (.int (Int32.ofNat nN)), .val (.ref r1), .val (.int (Int32.ofNat i1))] [(.int (Int32.ofNat i1)), (.ref b1), (.int (Int32.ofNat i1)), (.ref r1)])
      refine own_caload H hx VB ⟨own_on0 (by omega), (own_onlt (by omega) (by omega)).mpr (by omega)⟩ (v := (.int (cs.getD i1 0))) (by rw [own_onc (by omega)]; exact own_mapat (by omega)) rfl rfl (hb hby d_jdk_52_14_19) ?_
      show Go p e below _ T (mkF m 20 #[.val (.ref b1), .val (.int (Int32.ofNat i1)), .val (.int (Int32.ofNat nN)), .val (.ref r1), .val (.int (Int32.ofNat i1))] [(.int (cs.getD i1 0)), (.int (Int32.ofNat i1)), (.ref r1)])
      refine own_staticW H hx (y := (⟨"java/lang/StringUTF16", "putChar", "([BII)V"⟩ : MethodName)) hown (ow hw 86 rfl) (ow hw 87 rfl) (ow hw 36 rfl) (ow hw 88 rfl) (by decide) (W := 0) (rm_put l Z a0 hw hE r1 kr1 nN (own_wb cs i1) i1 (cs.getD i1 0) h H.old VR hN4 (by rw [own_wbl (by omega), hl]) (by omega) gr1 SA SHB SLB) (allS (List.mem_of_getElem? (i := 0) rfl) all0) (by decide) (by decide) rfl (by rw [hml]; rfl) (argsL := [(.ref r1), (.int (Int32.ofNat i1)), (.int (cs.getD i1 0))]) (rest := []) rfl (lenOf pd_2 rfl) rfl (by show 2 * 0 + _ ≤ _; exact Nat.le_of_eq rfl) (hb hby d_jdk_52_14_20) (by decide) (by decide) fun T11 h13 v15 H12 hs16 q14 => ?_
      obtain ⟨rfl, K17, V18⟩ := q14
      rw [own_wbs (by omega)] at V18
      have K19 : Keep h0 h13 [] := K1.trans K17 (allS (Or.inr zr1) all0)
      have f20 := VB.keep K17 (ninS ne9 nin0)
      show Go p e below _ T11 (mkF m 23 #[.val (.ref b1), .val (.int (Int32.ofNat i1)), .val (.int (Int32.ofNat nN)), .val (.ref r1), .val (.int (Int32.ofNat i1))] [])
      refine Go.of (fun _ => XS.iinc H12.here hx rfl (hb hby d_jdk_52_14_23) rfl (l' := #[.val (.ref b1), .val (.int ((Int32.ofNat i1) + (1 : Int32))), .val (.int (Int32.ofNat nN)), .val (.ref r1), .val (.int (Int32.ofNat i1))]) rfl) ?_
      show Go p e below _ T11 (mkF m 26 #[.val (.ref b1), .val (.int ((Int32.ofNat i1) + (1 : Int32))), .val (.int (Int32.ofNat nN)), .val (.ref r1), .val (.int (Int32.ofNat i1))] [])
      refine Go.of (fun _ => XS.iinc H12.here hx rfl (hb hby d_jdk_52_14_26) rfl (l' := #[.val (.ref b1), .val (.int ((Int32.ofNat i1) + (1 : Int32))), .val (.int (Int32.ofNat nN)), .val (.ref r1), .val (.int ((Int32.ofNat i1) + (1 : Int32)))]) rfl) ?_
      show Go p e below _ T11 (mkF m 29 #[.val (.ref b1), .val (.int ((Int32.ofNat i1) + (1 : Int32))), .val (.int (Int32.ofNat nN)), .val (.ref r1), .val (.int ((Int32.ofNat i1) + (1 : Int32)))] [])
      refine Go.of (fun _ => XS.goto H12.here hx rfl (pc0 := 29) (pc' := 8) rfl (hb hby d_jdk_52_14_29) (by decide) (by decide)) ?_
      show Go p e below _ T11 (mkF m 8 #[.val (.ref b1), .val (.int ((Int32.ofNat i1) + (1 : Int32))), .val (.int (Int32.ofNat nN)), .val (.ref r1), .val (.int ((Int32.ofNat i1) + (1 : Int32)))] [])
      rw [show (Int32.ofNat i1) + (1 : Int32) = Int32.ofNat (i1 + 1) from own_onadd i1 1]
      exact ih (i1 + 1) T11 h13 (by omega) H12 K19 f20 V18
  show Go p e below _ T2 (mkF m 5 #[.val (.ref b1), .val (.int (0 : Int32)), .val (.int (Int32.ofNat nN)), .val (.ref r1), .unset] [])
  refine Go.of (fun _ => XS.iconst H3.here hx rfl (hb hby d_jdk_52_14_5)) ?_
  show Go p e below _ T2 (mkF m 6 #[.val (.ref b1), .val (.int (0 : Int32)), .val (.int (Int32.ofNat nN)), .val (.ref r1), .unset] [(.int (0 : Int32))])
  refine Go.of (fun _ => XS.istore H3.here hx rfl (hb hby d_jdk_52_14_6) rfl (l' := #[.val (.ref b1), .val (.int (0 : Int32)), .val (.int (Int32.ofNat nN)), .val (.ref r1), .val (.int (0 : Int32))]) rfl) ?_
  show Go p e below _ T2 (mkF m 8 #[.val (.ref b1), .val (.int (0 : Int32)), .val (.int (Int32.ofNat nN)), .val (.ref r1), .val (.int (0 : Int32))] [])
  exact LB nN 0 T2 h4 (Nat.zero_add _) H3 K8 f10 VW
set_option maxRecDepth 65536 in
set_option maxHeartbeats 40000000 in
theorem rm_cp2 (l : Launch) (Z : State) (a0 : Array Value) (hw : ∀ d ∈ tables_1, d.before a0 Z = true) (hE : EW Z a0 ELx) (b1 : Addr) (kc : ClassId) (nN : Nat) (cs : List Int32) (dc : Value) (t1 : Addr) (kt : ClassId) (h0 : Heap) (O0 : Ext Z.heap h0) (V1 : Arv Z h0 b1 kc .char (Int32.ofNat nN) (cs.map Value.int) dc) (hl : cs.length = nN) (hN4 : nN ≤ 4) (hp : ∀ c ∈ cs, ¬ c < 0 ∧ ¬ (65535 : Int32) < c) (V2 : Arv Z h0 t1 kt .byte (Int32.ofNat nN) [] (.int 0)) (hne : b1 ≠ t1) (g1 : Z.heap.size ≤ t1) :
    Ct l Z ELx a0 true (⟨"java/lang/StringUTF16", "compress", "([CI[BII)I"⟩ : MethodName) jdk_52_method_21_code 7 (some .int) [] ({ frames := 0, cells := 0, slots := 0, locals := 0 } : Room) #[(.ref b1), (.int (0 : Int32)), (.ref t1), (.int (0 : Int32)), (.int (Int32.ofNat nN))] h0 [t1] (fun _ => []) (fun v h => ∃ (jN : Nat) (vs : List Value), v = some (.int (Int32.ofNat jN)) ∧ Keep h0 h [t1] ∧ Arv Z h t1 kt .byte (Int32.ofNat nN) vs (.int 0) ∧ ((jN = nN ∧ vs = (cs.map fun c => Value.int (StrChars.lo8 c)) ∧ ∀ c ∈ cs, ¬ (255 : Int32) < c) ∨ (jN < nN ∧ (255 : Int32) < cs.getD jN 0))) := by
  refine own_enter (plainFor_of_name pn_0) hE O0 ?_
  intro p e s m below meth c s₁ hx hby hml hown hnm hret hlk H0
  refine Go.eq (ef_rm_cp2 m b1 (0 : Int32) t1 (0 : Int32) (Int32.ofNat nN)) ?_
  have K1 : Keep h0 h0 [t1] := Keep.refl _ _
  have LC : ∀ (k1 i1 : Nat) (T : State) (h : Heap) (s6 : Slot) (vs : List Value), (i1 + k1 = nN) → (Wk p l e ({ frames := 0, cells := 0, slots := 0, locals := 0 } : Room) s m #[(.ref b1), (.int (0 : Int32)), (.ref t1), (.int (0 : Int32)), (.int (Int32.ofNat nN))] below meth c Z ELx a0 true T h 0 0 [t1]) → (Keep h0 h [t1]) → (Arv Z h b1 kc .char (Int32.ofNat nN) (cs.map Value.int) dc) → (Arv Z h t1 kt .byte (Int32.ofNat nN) vs (.int 0)) → (s6 = .unset ∨ ∃ y, s6 = .val (.int y)) → (vs.length = nN) → (vs.take i1 = (cs.take i1).map fun c => Value.int (StrChars.lo8 c)) → (∀ j, j < i1 → ¬ (255 : Int32) < cs.getD j 0) → Go p e below (own_fin Z ELx true s below (fun v h => ∃ (jN : Nat) (vs : List Value), v = some (.int (Int32.ofNat jN)) ∧ Keep h0 h [t1] ∧ Arv Z h t1 kt .byte (Int32.ofNat nN) vs (.int 0) ∧ ((jN = nN ∧ vs = (cs.map fun c => Value.int (StrChars.lo8 c)) ∧ ∀ c ∈ cs, ¬ (255 : Int32) < c) ∨ (jN < nN ∧ (255 : Int32) < cs.getD jN 0))) (({ frames := 0, cells := 0, slots := 0, locals := 0 } : Room)).cells (({ frames := 0, cells := 0, slots := 0, locals := 0 } : Room)).slots (fun _ => [])) T (mkF m 3 #[.val (.ref b1), .val (.int (Int32.ofNat i1)), .val (.ref t1), .val (.int (Int32.ofNat i1)), .val (.int (Int32.ofNat nN)), .val (.int (Int32.ofNat i1)), s6] []) := by
    intro k1
    induction k1 with
    | zero =>
      intro i1 T h s6 vs hk1 H K1 VB VR hs6 hvl htk h255
      have hlt : ¬ (Int32.ofNat i1) < (Int32.ofNat nN) := by rw [own_onlt (by omega) (by omega)]; omega
      show Go p e below _ T (mkF m 3 #[.val (.ref b1), .val (.int (Int32.ofNat i1)), .val (.ref t1), .val (.int (Int32.ofNat i1)), .val (.int (Int32.ofNat nN)), .val (.int (Int32.ofNat i1)), s6] [])
      refine Go.of (fun _ => XS.iload H.here hx rfl (hb hby d_jdk_52_21_3) rfl) ?_
      show Go p e below _ T (mkF m 5 #[.val (.ref b1), .val (.int (Int32.ofNat i1)), .val (.ref t1), .val (.int (Int32.ofNat i1)), .val (.int (Int32.ofNat nN)), .val (.int (Int32.ofNat i1)), s6] [(.int (Int32.ofNat i1))])
      refine Go.of (fun _ => XS.iload H.here hx rfl (hb hby d_jdk_52_21_5) rfl) ?_
      show Go p e below _ T (mkF m 7 #[.val (.ref b1), .val (.int (Int32.ofNat i1)), .val (.ref t1), .val (.int (Int32.ofNat i1)), .val (.int (Int32.ofNat nN)), .val (.int (Int32.ofNat i1)), s6] [(.int (Int32.ofNat nN)), (.int (Int32.ofNat i1))])
      refine Go.of (fun _ => XS.icmpYes H.here hx rfl (pc0 := 7) (pc' := 44) rfl (hb hby d_jdk_52_21_7) rfl (flt hlt).2.1 (by decide) (by decide)) ?_
      show Go p e below _ T (mkF m 44 #[.val (.ref b1), .val (.int (Int32.ofNat i1)), .val (.ref t1), .val (.int (Int32.ofNat i1)), .val (.int (Int32.ofNat nN)), .val (.int (Int32.ofNat i1)), s6] [])
      refine Go.of (fun _ => XS.iload H.here hx rfl (hb hby d_jdk_52_21_44) rfl) ?_
      show Go p e below _ T (mkF m 46 #[.val (.ref b1), .val (.int (Int32.ofNat i1)), .val (.ref t1), .val (.int (Int32.ofNat i1)), .val (.int (Int32.ofNat nN)), .val (.int (Int32.ofNat i1)), s6] [(.int (Int32.ofNat nN))])
      exact own_retI H hx hlk hret (hb hby d_jdk_52_21_46) all0 ⟨nN, vs, rfl, K1, VR, Or.inl ⟨rfl, own_latend (by omega) (by have := htk; rw [show i1 = cs.length by omega] at this; exact this), own_all255 (fun j hj => h255 j (by omega))⟩⟩ (by decide) (by decide)
    | succ k1 ih =>
      intro i1 T h s6 vs hk1 H K1 VB VR hs6 hvl htk h255
      have hlt : (Int32.ofNat i1) < (Int32.ofNat nN) := by rw [own_onlt (by omega) (by omega)]; omega
      show Go p e below _ T (mkF m 3 #[.val (.ref b1), .val (.int (Int32.ofNat i1)), .val (.ref t1), .val (.int (Int32.ofNat i1)), .val (.int (Int32.ofNat nN)), .val (.int (Int32.ofNat i1)), s6] [])
      refine Go.of (fun _ => XS.iload H.here hx rfl (hb hby d_jdk_52_21_3) rfl) ?_
      show Go p e below _ T (mkF m 5 #[.val (.ref b1), .val (.int (Int32.ofNat i1)), .val (.ref t1), .val (.int (Int32.ofNat i1)), .val (.int (Int32.ofNat nN)), .val (.int (Int32.ofNat i1)), s6] [(.int (Int32.ofNat i1))])
      refine Go.of (fun _ => XS.iload H.here hx rfl (hb hby d_jdk_52_21_5) rfl) ?_
      show Go p e below _ T (mkF m 7 #[.val (.ref b1), .val (.int (Int32.ofNat i1)), .val (.ref t1), .val (.int (Int32.ofNat i1)), .val (.int (Int32.ofNat nN)), .val (.int (Int32.ofNat i1)), s6] [(.int (Int32.ofNat nN)), (.int (Int32.ofNat i1))])
      refine Go.of (fun _ => XS.icmpNo H.here hx rfl (hb hby d_jdk_52_21_7) rfl (tlt hlt).2.1) ?_
      show Go p e below _ T (mkF m 10 #[.val (.ref b1), .val (.int (Int32.ofNat i1)), .val (.ref t1), .val (.int (Int32.ofNat i1)), .val (.int (Int32.ofNat nN)), .val (.int (Int32.ofNat i1)), s6] [])
      refine Go.of (fun _ => XS.aloadN H.here hx rfl (hb hby d_jdk_52_21_10) rfl rfl) ?_
      show Go p e below _ T (mkF m 11 #[.val (.ref b1), .val (.int (Int32.ofNat i1)), .val (.ref t1), .val (.int (Int32.ofNat i1)), .val (.int (Int32.ofNat nN)), .val (.int (Int32.ofNat i1)), s6] [(.ref b1)])
      refine Go.of (fun _ => XS.iloadN H.here hx rfl (hb hby d_jdk_52_21_11) rfl) ?_
      show Go p e below _ T (mkF m 12 #[.val (.ref b1), .val (.int (Int32.ofNat i1)), .val (.ref t1), .val (.int (Int32.ofNat i1)), .val (.int (Int32.ofNat nN)), .val (.int (Int32.ofNat i1)), s6] [(.int (Int32.ofNat i1)), (.ref b1)])
      refine own_caload H hx VB ⟨own_on0 (by omega), (own_onlt (by omega) (by omega)).mpr (by omega)⟩ (v := (.int (cs.getD i1 0))) (by rw [own_onc (by omega)]; exact own_mapat (by omega)) rfl rfl (hb hby d_jdk_52_21_12) ?_
      show Go p e below _ T (mkF m 13 #[.val (.ref b1), .val (.int (Int32.ofNat i1)), .val (.ref t1), .val (.int (Int32.ofNat i1)), .val (.int (Int32.ofNat nN)), .val (.int (Int32.ofNat i1)), s6] [(.int (cs.getD i1 0))])
      refine Go.of (fun _ => XS.istore H.here hx rfl (hb hby d_jdk_52_21_13) rfl (l' := #[.val (.ref b1), .val (.int (Int32.ofNat i1)), .val (.ref t1), .val (.int (Int32.ofNat i1)), .val (.int (Int32.ofNat nN)), .val (.int (Int32.ofNat i1)), .val (.int (cs.getD i1 0))]) (by rcases hs6 with rfl | ⟨_, rfl⟩ <;> rfl)) ?_
      show Go p e below _ T (mkF m 15 #[.val (.ref b1), .val (.int (Int32.ofNat i1)), .val (.ref t1), .val (.int (Int32.ofNat i1)), .val (.int (Int32.ofNat nN)), .val (.int (Int32.ofNat i1)), .val (.int (cs.getD i1 0))] [])
      refine Go.of (fun _ => XS.iload H.here hx rfl (hb hby d_jdk_52_21_15) rfl) ?_
      show Go p e below _ T (mkF m 17 #[.val (.ref b1), .val (.int (Int32.ofNat i1)), .val (.ref t1), .val (.int (Int32.ofNat i1)), .val (.int (Int32.ofNat nN)), .val (.int (Int32.ofNat i1)), .val (.int (cs.getD i1 0))] [(.int (cs.getD i1 0))])
      refine Go.of (fun _ => XS.sipush H.here hx rfl (hb hby d_jdk_52_21_17)) ?_
      show Go p e below _ T (mkF m 20 #[.val (.ref b1), .val (.int (Int32.ofNat i1)), .val (.ref t1), .val (.int (Int32.ofNat i1)), .val (.int (Int32.ofNat nN)), .val (.int (Int32.ofNat i1)), .val (.int (cs.getD i1 0))] [(.int (255 : Int32)), (.int (cs.getD i1 0))])
      by_cases hbr2 : (255 : Int32) < (cs.getD i1 0)
      · skip
        refine Go.of (fun _ => XS.icmpNo H.here hx rfl (hb hby d_jdk_52_21_20) rfl (tlt hbr2).2.2.2) ?_
        show Go p e below _ T (mkF m 23 #[.val (.ref b1), .val (.int (Int32.ofNat i1)), .val (.ref t1), .val (.int (Int32.ofNat i1)), .val (.int (Int32.ofNat nN)), .val (.int (Int32.ofNat i1)), .val (.int (cs.getD i1 0))] [])
        refine Go.of (fun _ => XS.iload H.here hx rfl (hb hby d_jdk_52_21_23) rfl) ?_
        show Go p e below _ T (mkF m 25 #[.val (.ref b1), .val (.int (Int32.ofNat i1)), .val (.ref t1), .val (.int (Int32.ofNat i1)), .val (.int (Int32.ofNat nN)), .val (.int (Int32.ofNat i1)), .val (.int (cs.getD i1 0))] [(.int (Int32.ofNat i1))])
        exact own_retI H hx hlk hret (hb hby d_jdk_52_21_25) all0 ⟨i1, vs, rfl, K1, VR, Or.inr ⟨by omega, hbr2⟩⟩ (by decide) (by decide)
      · skip
        refine Go.of (fun _ => XS.icmpYes H.here hx rfl (pc0 := 20) (pc' := 26) rfl (hb hby d_jdk_52_21_20) rfl (flt hbr2).2.2.2 (by decide) (by decide)) ?_
        show Go p e below _ T (mkF m 26 #[.val (.ref b1), .val (.int (Int32.ofNat i1)), .val (.ref t1), .val (.int (Int32.ofNat i1)), .val (.int (Int32.ofNat nN)), .val (.int (Int32.ofNat i1)), .val (.int (cs.getD i1 0))] [])
        refine Go.of (fun _ => XS.aloadN H.here hx rfl (hb hby d_jdk_52_21_26) rfl rfl) ?_
        show Go p e below _ T (mkF m 27 #[.val (.ref b1), .val (.int (Int32.ofNat i1)), .val (.ref t1), .val (.int (Int32.ofNat i1)), .val (.int (Int32.ofNat nN)), .val (.int (Int32.ofNat i1)), .val (.int (cs.getD i1 0))] [(.ref t1)])
        refine Go.of (fun _ => XS.iloadN H.here hx rfl (hb hby d_jdk_52_21_27) rfl) ?_
        show Go p e below _ T (mkF m 28 #[.val (.ref b1), .val (.int (Int32.ofNat i1)), .val (.ref t1), .val (.int (Int32.ofNat i1)), .val (.int (Int32.ofNat nN)), .val (.int (Int32.ofNat i1)), .val (.int (cs.getD i1 0))] [(.int (Int32.ofNat i1)), (.ref t1)])
        refine Go.of (fun _ => XS.iload H.here hx rfl (hb hby d_jdk_52_21_28) rfl) ?_
        show Go p e below _ T (mkF m 30 #[.val (.ref b1), .val (.int (Int32.ofNat i1)), .val (.ref t1), .val (.int (Int32.ofNat i1)), .val (.int (Int32.ofNat nN)), .val (.int (Int32.ofNat i1)), .val (.int (cs.getD i1 0))] [(.int (cs.getD i1 0)), (.int (Int32.ofNat i1)), (.ref t1)])
        refine Go.of (fun _ => XS.i2b H.here hx rfl (hb hby d_jdk_52_21_30) rfl) ?_
        show Go p e below _ T (mkF m 31 #[.val (.ref b1), .val (.int (Int32.ofNat i1)), .val (.ref t1), .val (.int (Int32.ofNat i1)), .val (.int (Int32.ofNat nN)), .val (.int (Int32.ofNat i1)), .val (.int (cs.getD i1 0))] [(.int ((cs.getD i1 0).toInt8.toInt32)), (.int (Int32.ofNat i1)), (.ref t1)])
        refine own_bastore H hx VR ⟨own_on0 (by omega), (own_onlt (by omega) (by omega)).mpr (by omega)⟩ i1 (own_onc (by omega)) (by omega) g1 (own_mem (List.mem_of_getElem? (i := 0) rfl)) rfl rfl (hb hby d_jdk_52_21_31) fun T3 h5 H4 W6 V7 => ?_
        have K8 : Keep h0 h5 [t1] := K1.wr W6 (Or.inl (List.mem_of_getElem? (i := 0) rfl))
        have f9 := VB.other W6 hne
        rw [show nar .byte ((cs.getD i1 0).toInt8.toInt32) = StrChars.lo8 (cs.getD i1 0) from own_lo2 _] at V7
        show Go p e below _ T3 (mkF m 32 #[.val (.ref b1), .val (.int (Int32.ofNat i1)), .val (.ref t1), .val (.int (Int32.ofNat i1)), .val (.int (Int32.ofNat nN)), .val (.int (Int32.ofNat i1)), .val (.int (cs.getD i1 0))] [])
        refine Go.of (fun _ => XS.iinc H4.here hx rfl (hb hby d_jdk_52_21_32) rfl (l' := #[.val (.ref b1), .val (.int ((Int32.ofNat i1) + (1 : Int32))), .val (.ref t1), .val (.int (Int32.ofNat i1)), .val (.int (Int32.ofNat nN)), .val (.int (Int32.ofNat i1)), .val (.int (cs.getD i1 0))]) rfl) ?_
        show Go p e below _ T3 (mkF m 35 #[.val (.ref b1), .val (.int ((Int32.ofNat i1) + (1 : Int32))), .val (.ref t1), .val (.int (Int32.ofNat i1)), .val (.int (Int32.ofNat nN)), .val (.int (Int32.ofNat i1)), .val (.int (cs.getD i1 0))] [])
        refine Go.of (fun _ => XS.iinc H4.here hx rfl (hb hby d_jdk_52_21_35) rfl (l' := #[.val (.ref b1), .val (.int ((Int32.ofNat i1) + (1 : Int32))), .val (.ref t1), .val (.int ((Int32.ofNat i1) + (1 : Int32))), .val (.int (Int32.ofNat nN)), .val (.int (Int32.ofNat i1)), .val (.int (cs.getD i1 0))]) rfl) ?_
        show Go p e below _ T3 (mkF m 38 #[.val (.ref b1), .val (.int ((Int32.ofNat i1) + (1 : Int32))), .val (.ref t1), .val (.int ((Int32.ofNat i1) + (1 : Int32))), .val (.int (Int32.ofNat nN)), .val (.int (Int32.ofNat i1)), .val (.int (cs.getD i1 0))] [])
        refine Go.of (fun _ => XS.iinc H4.here hx rfl (hb hby d_jdk_52_21_38) rfl (l' := #[.val (.ref b1), .val (.int ((Int32.ofNat i1) + (1 : Int32))), .val (.ref t1), .val (.int ((Int32.ofNat i1) + (1 : Int32))), .val (.int (Int32.ofNat nN)), .val (.int ((Int32.ofNat i1) + (1 : Int32))), .val (.int (cs.getD i1 0))]) rfl) ?_
        show Go p e below _ T3 (mkF m 41 #[.val (.ref b1), .val (.int ((Int32.ofNat i1) + (1 : Int32))), .val (.ref t1), .val (.int ((Int32.ofNat i1) + (1 : Int32))), .val (.int (Int32.ofNat nN)), .val (.int ((Int32.ofNat i1) + (1 : Int32))), .val (.int (cs.getD i1 0))] [])
        refine Go.of (fun _ => XS.goto H4.here hx rfl (pc0 := 41) (pc' := 3) rfl (hb hby d_jdk_52_21_41) (by decide) (by decide)) ?_
        show Go p e below _ T3 (mkF m 3 #[.val (.ref b1), .val (.int ((Int32.ofNat i1) + (1 : Int32))), .val (.ref t1), .val (.int ((Int32.ofNat i1) + (1 : Int32))), .val (.int (Int32.ofNat nN)), .val (.int ((Int32.ofNat i1) + (1 : Int32))), .val (.int (cs.getD i1 0))] [])
        rw [show (Int32.ofNat i1) + (1 : Int32) = Int32.ofNat (i1 + 1) from own_onadd i1 1]
        exact ih (i1 + 1) T3 h5 (.val (.int (cs.getD i1 0))) _ (by omega) H4 K8 f9 V7 (Or.inr ⟨_, rfl⟩) (by rw [List.length_set]; omega) (own_hs (by omega) (by omega) htk) (fun j hj => if q : j = i1 then q ▸ hbr2 else h255 j (by omega))
  have VP : Arv Z h0 t1 kt .byte (Int32.ofNat nN) (List.replicate nN (.int 0)) (.int 0) := V2.pad (by simpa using pad_rep [] (.int (0 : Int32)) nN)
  show Go p e below _ s₁ (mkF m 0 #[.val (.ref b1), .val (.int (0 : Int32)), .val (.ref t1), .val (.int (0 : Int32)), .val (.int (Int32.ofNat nN)), .unset, .unset] [])
  refine Go.of (fun _ => XS.iconst H0.here hx rfl (hb hby d_jdk_52_21_0)) ?_
  show Go p e below _ s₁ (mkF m 1 #[.val (.ref b1), .val (.int (0 : Int32)), .val (.ref t1), .val (.int (0 : Int32)), .val (.int (Int32.ofNat nN)), .unset, .unset] [(.int (0 : Int32))])
  refine Go.of (fun _ => XS.istore H0.here hx rfl (hb hby d_jdk_52_21_1) rfl (l' := #[.val (.ref b1), .val (.int (0 : Int32)), .val (.ref t1), .val (.int (0 : Int32)), .val (.int (Int32.ofNat nN)), .val (.int (0 : Int32)), .unset]) rfl) ?_
  show Go p e below _ s₁ (mkF m 3 #[.val (.ref b1), .val (.int (0 : Int32)), .val (.ref t1), .val (.int (0 : Int32)), .val (.int (Int32.ofNat nN)), .val (.int (0 : Int32)), .unset] [])
  exact LC nN 0 s₁ h0 .unset (List.replicate nN (.int 0)) (Nat.zero_add _) H0 K1 V1 VP (Or.inl rfl) (by simp) (by simp) (fun j hj => absurd hj (Nat.not_lt_zero j))
set_option maxRecDepth 65536 in
set_option maxHeartbeats 40000000 in
theorem rm_cmp (l : Launch) (Z : State) (a0 : Array Value) (hw : ∀ d ∈ tables_1, d.before a0 Z = true) (hE : EW Z a0 ELx) (b1 : Addr) (kc : ClassId) (nN : Nat) (cs : List Int32) (dc : Value) (h0 : Heap) (O0 : Ext Z.heap h0) (V1 : Arv Z h0 b1 kc .char (Int32.ofNat nN) (cs.map Value.int) dc) (hl : cs.length = nN) (hN4 : nN ≤ 4) (hp : ∀ c ∈ cs, ¬ c < 0 ∧ ¬ (65535 : Int32) < c) (SA : Sta Z Z.heap "java/lang/StringUTF16" "$assertionsDisabled" "Z" (.int 1)) (SHB : Sta Z Z.heap "java/lang/StringUTF16" "HI_BYTE_SHIFT" "I" (.int 0)) (SLB : Sta Z Z.heap "java/lang/StringUTF16" "LO_BYTE_SHIFT" "I" (.int 8)) :
    Ct l Z ELx a0 true (⟨"java/lang/StringUTF16", "compress", "([CII)[B"⟩ : MethodName) jdk_52_method_16_code 6 (some (.array .byte)) [] ({ frames := 3, cells := 2, slots := 12, locals := 60 } : Room) #[(.ref b1), (.int (0 : Int32)), (.int (Int32.ofNat nN))] h0 [] (fun _ => []) (fun v h => ∃ (r : Addr) (kr : ClassId) (cd M2 : Int32) (vs : List Value), v = some (.ref r) ∧ Keep h0 h [] ∧ Z.heap.size ≤ r ∧ Arv Z h r kr .byte M2 vs (.int 0) ∧ StrChars.Road.CodA cs cd M2 vs) := by
  refine own_enter (plainFor_of_name pn_0) hE O0 ?_
  intro p e s m below meth c s₁ hx hby hml hown hnm hret hlk H0
  refine Go.eq (ef_rm_cmp m b1 (0 : Int32) (Int32.ofNat nN)) ?_
  have K1 : Keep h0 h0 [] := Keep.refl _ _
  show Go p e below _ s₁ (mkF m 0 #[.val (.ref b1), .val (.int (0 : Int32)), .val (.int (Int32.ofNat nN)), .unset, .unset, .unset] [])
  refine Go.of (fun _ => XS.iloadN H0.here hx rfl (hb hby d_jdk_52_16_0) rfl) ?_
  show Go p e below _ s₁ (mkF m 1 #[.val (.ref b1), .val (.int (0 : Int32)), .val (.int (Int32.ofNat nN)), .unset, .unset, .unset] [(.int (Int32.ofNat nN))])
  refine own_newP H0 hx (ow hw 17 rfl) rfl (hb hby d_jdk_52_16_1) rfl (own_on0 (by omega)) (cap := 4) (by rw [own_onc (by omega)]; omega) (by decide) (by decide) (by decide) fun T2 h4 b5 kA8 g6 H3 E7 V9 => ?_
  have ne10 : b1 ≠ b5 := by rw [g6]; exact Nat.ne_of_lt V1.lt
  have fr11 : Z.heap.size ≤ b5 := by rw [g6]; exact H0.old.1
  have sz12 : h0.size ≤ b5 := by rw [g6]; exact K1.1
  have K13 : Keep h0 h4 [] := K1.ext E7
  have f14 := V1.ext E7
  have V15 : Arv Z h4 b5 kA8 .byte (Int32.ofNat nN) [] (.int (0 : Int32)) := V9
  show Go p e below _ T2 (mkF m 3 #[.val (.ref b1), .val (.int (0 : Int32)), .val (.int (Int32.ofNat nN)), .unset, .unset, .unset] [(.ref b5)])
  refine Go.of (fun _ => XS.astoreN H3.here hx rfl (hb hby d_jdk_52_16_3) rfl rfl (l' := #[.val (.ref b1), .val (.int (0 : Int32)), .val (.int (Int32.ofNat nN)), .val (.ref b5), .unset, .unset]) rfl) ?_
  show Go p e below _ T2 (mkF m 4 #[.val (.ref b1), .val (.int (0 : Int32)), .val (.int (Int32.ofNat nN)), .val (.ref b5), .unset, .unset] [])
  refine Go.of (fun _ => XS.aloadN H3.here hx rfl (hb hby d_jdk_52_16_4) rfl rfl) ?_
  show Go p e below _ T2 (mkF m 5 #[.val (.ref b1), .val (.int (0 : Int32)), .val (.int (Int32.ofNat nN)), .val (.ref b5), .unset, .unset] [(.ref b1)])
  refine Go.of (fun _ => XS.iloadN H3.here hx rfl (hb hby d_jdk_52_16_5) rfl) ?_
  show Go p e below _ T2 (mkF m 6 #[.val (.ref b1), .val (.int (0 : Int32)), .val (.int (Int32.ofNat nN)), .val (.ref b5), .unset, .unset] [(.int (0 : Int32)), (.ref b1)])
  refine Go.of (fun _ => XS.aloadN H3.here hx rfl (hb hby d_jdk_52_16_6) rfl rfl) ?_
  show Go p e below _ T2 (mkF m 7 #[.val (.ref b1), .val (.int (0 : Int32)), .val (.int (Int32.ofNat nN)), .val (.ref b5), .unset, .unset] [(.ref b5), (.int (0 : Int32)), (.ref b1)])
  refine Go.of (fun _ => XS.iconst H3.here hx rfl (hb hby d_jdk_52_16_7)) ?_
  show Go p e below _ T2 (mkF m 8 #[.val (.ref b1), .val (.int (0 : Int32)), .val (.int (Int32.ofNat nN)), .val (.ref b5), .unset, .unset] [(.int (0 : Int32)), (.ref b5), (.int (0 : Int32)), (.ref b1)])
  refine Go.of (fun _ => XS.iloadN H3.here hx rfl (hb hby d_jdk_52_16_8) rfl) ?_
  show Go p e below _ T2 (mkF m 9 #[.val (.ref b1), .val (.int (0 : Int32)), .val (.int (Int32.ofNat nN)), .val (.ref b5), .unset, .unset] [(.int (Int32.ofNat nN)), (.int (0 : Int32)), (.ref b5), (.int (0 : Int32)), (.ref b1)])
  refine own_staticW H3 hx (y := (⟨"java/lang/StringUTF16", "compress", "([CI[BII)I"⟩ : MethodName)) hown (ow hw 38 rfl) (ow hw 39 rfl) (ow hw 36 rfl) (ow hw 40 rfl) (by decide) (W := 0) (rm_cp2 l Z a0 hw hE b1 kc nN cs dc b5 kA8 h4 H3.old f14 hl hN4 hp V15 ne10 fr11) (allS (List.mem_of_getElem? (i := 0) rfl) all0) (by decide) (by decide) rfl (by rw [hml]; rfl) (argsL := [(.ref b1), (.int (0 : Int32)), (.ref b5), (.int (0 : Int32)), (.int (Int32.ofNat nN))]) (rest := []) rfl (lenOf pd_3 rfl) rfl (by show 2 * 0 + _ ≤ _; exact Nat.le_of_eq rfl) (hb hby d_jdk_52_16_9) (by decide) (by decide) fun T16 h18 v20 H17 hs21 q19 => ?_
  obtain ⟨jN, vs, rfl, KC, VC, hj⟩ := q19
  have K22 : Keep h0 h18 [] := K13.trans KC (allS (Or.inr sz12) all0)
  have f23 := f14.keep KC (ninS ne10 nin0)
  show Go p e below _ T16 (mkF m 12 #[.val (.ref b1), .val (.int (0 : Int32)), .val (.int (Int32.ofNat nN)), .val (.ref b5), .unset, .unset] [(.int (Int32.ofNat jN))])
  rcases hj with ⟨hj, hvs, hlat⟩ | ⟨hj, hbig⟩
  · skip
    refine Go.of (fun _ => XS.istore H17.here hx rfl (hb hby d_jdk_52_16_12) rfl (l' := #[.val (.ref b1), .val (.int (0 : Int32)), .val (.int (Int32.ofNat nN)), .val (.ref b5), .val (.int (Int32.ofNat jN)), .unset]) rfl) ?_
    show Go p e below _ T16 (mkF m 14 #[.val (.ref b1), .val (.int (0 : Int32)), .val (.int (Int32.ofNat nN)), .val (.ref b5), .val (.int (Int32.ofNat jN)), .unset] [])
    refine Go.of (fun _ => XS.iload H17.here hx rfl (hb hby d_jdk_52_16_14) rfl) ?_
    show Go p e below _ T16 (mkF m 16 #[.val (.ref b1), .val (.int (0 : Int32)), .val (.int (Int32.ofNat nN)), .val (.ref b5), .val (.int (Int32.ofNat jN)), .unset] [(.int (Int32.ofNat jN))])
    refine Go.of (fun _ => XS.iloadN H17.here hx rfl (hb hby d_jdk_52_16_16) rfl) ?_
    show Go p e below _ T16 (mkF m 17 #[.val (.ref b1), .val (.int (0 : Int32)), .val (.int (Int32.ofNat nN)), .val (.ref b5), .val (.int (Int32.ofNat jN)), .unset] [(.int (Int32.ofNat nN)), (.int (Int32.ofNat jN))])
    refine Go.of (fun _ => XS.icmpYes H17.here hx rfl (pc0 := 17) (pc' := 57) rfl (hb hby d_jdk_52_16_17) rfl (teq (by rw [hj])).1 (by decide) (by decide)) ?_
    show Go p e below _ T16 (mkF m 57 #[.val (.ref b1), .val (.int (0 : Int32)), .val (.int (Int32.ofNat nN)), .val (.ref b5), .val (.int (Int32.ofNat jN)), .unset] [])
    refine Go.of (fun _ => XS.aloadN H17.here hx rfl (hb hby d_jdk_52_16_57) rfl rfl) ?_
    show Go p e below _ T16 (mkF m 58 #[.val (.ref b1), .val (.int (0 : Int32)), .val (.int (Int32.ofNat nN)), .val (.ref b5), .val (.int (Int32.ofNat jN)), .unset] [(.ref b5)])
    exact own_retA H17 hx hlk hret rfl rfl (hb hby d_jdk_52_16_58) all0 ⟨b5, _, 0, _, _, rfl, K22, fr11, VC, Or.inl ⟨rfl, by rw [hl], hvs, hlat⟩⟩ (by decide) (by decide)
  · skip
    refine Go.of (fun _ => XS.istore H17.here hx rfl (hb hby d_jdk_52_16_12) rfl (l' := #[.val (.ref b1), .val (.int (0 : Int32)), .val (.int (Int32.ofNat nN)), .val (.ref b5), .val (.int (Int32.ofNat jN)), .unset]) rfl) ?_
    show Go p e below _ T16 (mkF m 14 #[.val (.ref b1), .val (.int (0 : Int32)), .val (.int (Int32.ofNat nN)), .val (.ref b5), .val (.int (Int32.ofNat jN)), .unset] [])
    refine Go.of (fun _ => XS.iload H17.here hx rfl (hb hby d_jdk_52_16_14) rfl) ?_
    show Go p e below _ T16 (mkF m 16 #[.val (.ref b1), .val (.int (0 : Int32)), .val (.int (Int32.ofNat nN)), .val (.ref b5), .val (.int (Int32.ofNat jN)), .unset] [(.int (Int32.ofNat jN))])
    refine Go.of (fun _ => XS.iloadN H17.here hx rfl (hb hby d_jdk_52_16_16) rfl) ?_
    show Go p e below _ T16 (mkF m 17 #[.val (.ref b1), .val (.int (0 : Int32)), .val (.int (Int32.ofNat nN)), .val (.ref b5), .val (.int (Int32.ofNat jN)), .unset] [(.int (Int32.ofNat nN)), (.int (Int32.ofNat jN))])
    refine Go.of (fun _ => XS.icmpNo H17.here hx rfl (hb hby d_jdk_52_16_17) rfl (feq (fun q => absurd ((own_oneq (by omega) (by omega)).mp q) (Nat.ne_of_lt hj))).1) ?_
    show Go p e below _ T16 (mkF m 20 #[.val (.ref b1), .val (.int (0 : Int32)), .val (.int (Int32.ofNat nN)), .val (.ref b5), .val (.int (Int32.ofNat jN)), .unset] [])
    refine Go.of (fun _ => XS.aloadN H17.here hx rfl (hb hby d_jdk_52_16_20) rfl rfl) ?_
    show Go p e below _ T16 (mkF m 21 #[.val (.ref b1), .val (.int (0 : Int32)), .val (.int (Int32.ofNat nN)), .val (.ref b5), .val (.int (Int32.ofNat jN)), .unset] [(.ref b1)])
    refine Go.of (fun _ => XS.iloadN H17.here hx rfl (hb hby d_jdk_52_16_21) rfl) ?_
    show Go p e below _ T16 (mkF m 22 #[.val (.ref b1), .val (.int (0 : Int32)), .val (.int (Int32.ofNat nN)), .val (.ref b5), .val (.int (Int32.ofNat jN)), .unset] [(.int (0 : Int32)), (.ref b1)])
    refine Go.of (fun _ => XS.iloadN H17.here hx rfl (hb hby d_jdk_52_16_22) rfl) ?_
    show Go p e below _ T16 (mkF m 23 #[.val (.ref b1), .val (.int (0 : Int32)), .val (.int (Int32.ofNat nN)), .val (.ref b5), .val (.int (Int32.ofNat jN)), .unset] [(.int (Int32.ofNat nN)), (.int (0 : Int32)), (.ref b1)])
    refine own_staticW H17 hx (y := (⟨"java/lang/StringUTF16", "toBytes", "([CII)[B"⟩ : MethodName)) hown (ow hw 76 rfl) (ow hw 77 rfl) (ow hw 36 rfl) (ow hw 78 rfl) (by decide) (W := 0) (rm_tob l Z a0 hw hE b1 kc nN cs dc h18 H17.old f23 hl hN4 hp SA SHB SLB) (fun _ hq => nomatch hq) (by decide) (by decide) rfl (by rw [hml]; rfl) (argsL := [(.ref b1), (.int (0 : Int32)), (.int (Int32.ofNat nN))]) (rest := []) rfl (lenOf pd_4 rfl) rfl (by show 2 * 0 + _ ≤ _; exact Nat.le_of_eq rfl) (hb hby d_jdk_52_16_23) (by decide) (by decide) fun T25 h27 v29 H26 hs30 q28 => ?_
    obtain ⟨r1, kr1, rfl, KT, zr1, gr1, VT⟩ := q28
    have K31 : Keep h0 h27 [] := K22.trans KT all0
    show Go p e below _ T25 (mkF m 26 #[.val (.ref b1), .val (.int (0 : Int32)), .val (.int (Int32.ofNat nN)), .val (.ref b5), .val (.int (Int32.ofNat jN)), .unset] [(.ref r1)])
    refine Go.of (fun _ => XS.astore H26.here hx rfl (hb hby d_jdk_52_16_26) rfl rfl (l' := #[.val (.ref b1), .val (.int (0 : Int32)), .val (.int (Int32.ofNat nN)), .val (.ref b5), .val (.int (Int32.ofNat jN)), .val (.ref r1)]) rfl) ?_
    show Go p e below _ T25 (mkF m 28 #[.val (.ref b1), .val (.int (0 : Int32)), .val (.int (Int32.ofNat nN)), .val (.ref b5), .val (.int (Int32.ofNat jN)), .val (.ref r1)] [])
    refine Go.of (fun _ => XS.aload H26.here hx rfl (hb hby d_jdk_52_16_28) rfl rfl) ?_
    show Go p e below _ T25 (mkF m 30 #[.val (.ref b1), .val (.int (0 : Int32)), .val (.int (Int32.ofNat nN)), .val (.ref b5), .val (.int (Int32.ofNat jN)), .val (.ref r1)] [(.ref r1)])
    refine Go.of (fun _ => XS.iload H26.here hx rfl (hb hby d_jdk_52_16_30) rfl) ?_
    show Go p e below _ T25 (mkF m 32 #[.val (.ref b1), .val (.int (0 : Int32)), .val (.int (Int32.ofNat nN)), .val (.ref b5), .val (.int (Int32.ofNat jN)), .val (.ref r1)] [(.int (Int32.ofNat jN)), (.ref r1)])
    refine own_staticW H26 hx (y := (⟨"java/lang/StringUTF16", "getChar", "([BI)C"⟩ : MethodName)) hown (ow hw 92 rfl) (ow hw 93 rfl) (ow hw 36 rfl) (ow hw 94 rfl) (by decide) (W := 0) (rm_get l Z a0 hw hE r1 kr1 nN _ jN (cs.getD jN 0) h27 H26.old VT hN4 hj (StrChars.Road.wide_lo _ _ _ (by omega)) (StrChars.Road.wide_hi _ _ _ (by omega)) (hp _ (own_getm (by omega))) SA SHB SLB) (fun _ hq => nomatch hq) (by decide) (by decide) rfl (by rw [hml]; rfl) (argsL := [(.ref r1), (.int (Int32.ofNat jN))]) (rest := []) rfl (lenOf pd_5 rfl) rfl (by show 2 * 0 + _ ≤ _; exact Nat.le_of_eq rfl) (hb hby d_jdk_52_16_32) (by decide) (by decide) fun T32 h34 v36 H33 hs37 q35 => ?_
    obtain ⟨ve39, e38⟩ := q35
    subst e38
    subst ve39
    show Go p e below _ T32 (mkF m 35 #[.val (.ref b1), .val (.int (0 : Int32)), .val (.int (Int32.ofNat nN)), .val (.ref b5), .val (.int (Int32.ofNat jN)), .val (.ref r1)] [(.int (cs.getD jN 0))])
    refine Go.of (fun _ => XS.sipush H33.here hx rfl (hb hby d_jdk_52_16_35)) ?_
    show Go p e below _ T32 (mkF m 38 #[.val (.ref b1), .val (.int (0 : Int32)), .val (.int (Int32.ofNat nN)), .val (.ref b5), .val (.int (Int32.ofNat jN)), .val (.ref r1)] [(.int (255 : Int32)), (.int (cs.getD jN 0))])
    refine Go.of (fun _ => XS.icmpYes H33.here hx rfl (pc0 := 38) (pc' := 54) rfl (hb hby d_jdk_52_16_38) rfl (tlt hbig).2.2.1 (by decide) (by decide)) ?_
    show Go p e below _ T32 (mkF m 54 #[.val (.ref b1), .val (.int (0 : Int32)), .val (.int (Int32.ofNat nN)), .val (.ref b5), .val (.int (Int32.ofNat jN)), .val (.ref r1)] [])
    refine Go.of (fun _ => XS.aload H33.here hx rfl (hb hby d_jdk_52_16_54) rfl rfl) ?_
    show Go p e below _ T32 (mkF m 56 #[.val (.ref b1), .val (.int (0 : Int32)), .val (.int (Int32.ofNat nN)), .val (.ref b5), .val (.int (Int32.ofNat jN)), .val (.ref r1)] [(.ref r1)])
    exact own_retA H33 hx hlk hret rfl rfl (hb hby d_jdk_52_16_56) all0 ⟨r1, kr1, 1, _, _, rfl, K31, gr1, VT, Or.inr ⟨rfl, by rw [hl], rfl, _, own_getm (by omega), hbig⟩⟩ (by decide) (by decide)
set_option maxRecDepth 65536 in
set_option maxHeartbeats 40000000 in
theorem rm_cfl (l : Launch) (Z : State) (a0 : Array Value) (hw : ∀ d ∈ tables_1, d.before a0 Z = true) (hE : EW Z a0 ELx) (b1 : Addr) (kb : ClassId) (nN : Nat) (vs : List Value) (cs : List Int32) (cd : Int32) (M2 : Int32) (h0 : Heap) (O0 : Ext Z.heap h0) (V1 : Arv Z h0 b1 kb .byte M2 vs (.int 0)) (hcd : StrChars.Road.CodA cs cd M2 vs) (hl : cs.length = nN) (h0n : 0 < nN) (hN4 : nN ≤ 4) :
    Ct l Z ELx a0 true (⟨"java/lang/StringUTF16", "coderFromArrayLen", "([BI)B"⟩ : MethodName) jdk_52_method_15_code 2 (some .byte) [] ({ frames := 0, cells := 0, slots := 0, locals := 0 } : Room) #[(.ref b1), (.int (Int32.ofNat nN))] h0 [] (fun _ => []) (fun v h => v = some (.int cd) ∧ h0 = h) := by
  refine own_enter (plainFor_of_name pn_0) hE O0 ?_
  intro p e s m below meth c s₁ hx hby hml hown hnm hret hlk H0
  refine Go.eq (ef_rm_cfl m b1 (Int32.ofNat nN)) ?_
  show Go p e below _ s₁ (mkF m 0 #[.val (.ref b1), .val (.int (Int32.ofNat nN))] [])
  refine Go.of (fun _ => XS.iloadN H0.here hx rfl (hb hby d_jdk_52_15_0) rfl) ?_
  show Go p e below _ s₁ (mkF m 1 #[.val (.ref b1), .val (.int (Int32.ofNat nN))] [(.int (Int32.ofNat nN))])
  refine Go.of (fun _ => XS.aloadN H0.here hx rfl (hb hby d_jdk_52_15_1) rfl rfl) ?_
  show Go p e below _ s₁ (mkF m 2 #[.val (.ref b1), .val (.int (Int32.ofNat nN))] [(.ref b1), (.int (Int32.ofNat nN))])
  refine own_len H0 hx V1 rfl rfl (hb hby d_jdk_52_15_2) ?_
  show Go p e below _ s₁ (mkF m 3 #[.val (.ref b1), .val (.int (Int32.ofNat nN))] [(.int M2), (.int (Int32.ofNat nN))])
  refine Go.of (fun _ => XS.isub H0.here hx rfl (hb hby d_jdk_52_15_3) rfl) ?_
  show Go p e below _ s₁ (mkF m 4 #[.val (.ref b1), .val (.int (Int32.ofNat nN))] [(.int ((Int32.ofNat nN) - M2))])
  refine Go.of (fun _ => XS.bipush H0.here hx rfl (hb hby d_jdk_52_15_4)) ?_
  show Go p e below _ s₁ (mkF m 6 #[.val (.ref b1), .val (.int (Int32.ofNat nN))] [(.int (31 : Int32)), (.int ((Int32.ofNat nN) - M2))])
  refine Go.of (fun _ => XS.iushr H0.here hx rfl (hb hby d_jdk_52_15_6) rfl) ?_
  show Go p e below _ s₁ (mkF m 7 #[.val (.ref b1), .val (.int (Int32.ofNat nN))] [(.int ((((Int32.ofNat nN) - M2).toUInt32 >>> ((31 : Int32) &&& 31).toUInt32).toInt32))])
  refine Go.of (fun _ => XS.i2b H0.here hx rfl (hb hby d_jdk_52_15_7) rfl) ?_
  show Go p e below _ s₁ (mkF m 8 #[.val (.ref b1), .val (.int (Int32.ofNat nN))] [(.int (((((Int32.ofNat nN) - M2).toUInt32 >>> ((31 : Int32) &&& 31).toUInt32).toInt32).toInt8.toInt32))])
  exact own_retN H0 hx hlk (t := .byte) hret (by simp) (hb hby d_jdk_52_15_8) all0 ⟨own_cfl hcd hl h0n hN4, rfl⟩ (by decide) (by decide)
set_option maxRecDepth 65536 in
set_option maxHeartbeats 40000000 in
theorem rm_s2 (l : Launch) (Z : State) (a0 : Array Value) (hw : ∀ d ∈ tables_1, d.before a0 Z = true) (hE : EW Z a0 ELx) (a1 : Addr) (b1 : Addr) (kc : ClassId) (nN : Nat) (cs : List Int32) (dc : Value) (zc : Int32) (h0 : Heap) (O0 : Ext Z.heap h0) (E1 : Exa Z h0 a1 "java/lang/String") (F1 : Fld Z h0 a1 "java/lang/String" "value" "[B" .null) (F2 : Fld Z h0 a1 "java/lang/String" "coder" "B" (.int 0)) (g1 : Z.heap.size ≤ a1) (hab : b1 ≠ a1) (V1 : Arv Z h0 b1 kc .char (Int32.ofNat nN) (cs.map Value.int) dc) (hl : cs.length = nN) (hN4 : nN ≤ 4) (hp : ∀ c ∈ cs, ¬ c < 0 ∧ ¬ (65535 : Int32) < c) (SC : Sta Z Z.heap "java/lang/String" "COMPACT_STRINGS" "Z" (.int zc)) (hzc : ¬ zc = 0) (SA : Sta Z Z.heap "java/lang/StringUTF16" "$assertionsDisabled" "Z" (.int 1)) (SHB : Sta Z Z.heap "java/lang/StringUTF16" "HI_BYTE_SHIFT" "I" (.int 0)) (SLB : Sta Z Z.heap "java/lang/StringUTF16" "LO_BYTE_SHIFT" "I" (.int 8)) :
    Ct l Z ELx a0 true (⟨"java/lang/String", "<init>", "([CIILjava/lang/Void;)V"⟩ : MethodName) jdk_42_method_149_code 6 none [] ({ frames := 4, cells := 6, slots := 20, locals := 90 } : Room) #[(.ref a1), (.ref b1), (.int (0 : Int32)), (.int (Int32.ofNat nN)), .null] h0 [a1] (fun _ => []) (fun v h => v = none ∧ Keep h0 h [a1] ∧ own_str Z h a1 cs) := by
  refine own_enter (plainFor_of_name pn_1) hE O0 ?_
  intro p e s m below meth c s₁ hx hby hml hown hnm hret hlk H0
  refine Go.eq (ef_rm_s2 m a1 b1 (0 : Int32) (Int32.ofNat nN)) ?_
  have K1 : Keep h0 h0 [a1] := Keep.refl _ _
  have hst := own_hst hw
  show Go p e below _ s₁ (mkF m 0 #[.val (.ref a1), .val (.ref b1), .val (.int (0 : Int32)), .val (.int (Int32.ofNat nN)), .val .null, .unset] [])
  refine Go.of (fun _ => XS.aloadN H0.here hx rfl (hb hby d_jdk_42_149_0) rfl rfl) ?_
  show Go p e below _ s₁ (mkF m 1 #[.val (.ref a1), .val (.ref b1), .val (.int (0 : Int32)), .val (.int (Int32.ofNat nN)), .val .null, .unset] [(.ref a1)])
  refine own_initO H0 hx hown (ow hw 13 rfl) (ow hw 14 rfl) (ow hw 15 rfl) rfl (by rw [hml]; rfl) rfl (hb hby d_jdk_42_149_1) (by decide) (W := 0) (by show 2 * 0 + _ ≤ _; exact Nat.le_of_eq rfl) (by decide) fun T2 H3 => ?_
  show Go p e below _ T2 (mkF m 4 #[.val (.ref a1), .val (.ref b1), .val (.int (0 : Int32)), .val (.int (Int32.ofNat nN)), .val .null, .unset] [])
  refine Go.of (fun _ => XS.iloadN H3.here hx rfl (hb hby d_jdk_42_149_4) rfl) ?_
  show Go p e below _ T2 (mkF m 5 #[.val (.ref a1), .val (.ref b1), .val (.int (0 : Int32)), .val (.int (Int32.ofNat nN)), .val .null, .unset] [(.int (Int32.ofNat nN))])
  by_cases hbr4 : (Int32.ofNat nN) = (0 : Int32)
  · skip
    refine Go.of (fun _ => XS.ifNo H3.here hx rfl (hb hby d_jdk_42_149_5) rfl ((if0 _ _).trans (teq hbr4).2)) ?_
    show Go p e below _ T2 (mkF m 8 #[.val (.ref a1), .val (.ref b1), .val (.int (0 : Int32)), .val (.int (Int32.ofNat nN)), .val .null, .unset] [])
    refine Go.of (fun _ => XS.aloadN H3.here hx rfl (hb hby d_jdk_42_149_8) rfl rfl) ?_
    show Go p e below _ T2 (mkF m 9 #[.val (.ref a1), .val (.ref b1), .val (.int (0 : Int32)), .val (.int (Int32.ofNat nN)), .val .null, .unset] [(.ref a1)])
    refine own_ldcS H3 hx hown (ow hw 16 rfl) hst (by decide) (vs := []) (z := (0 : Int32)) ⟨by decide, by decide⟩ (by decide) (by decide) rfl (hb hby d_jdk_42_149_9) (nn := 0) (by decide) (by decide) (by decide) (by decide) fun T5 h7 a9 b10 kb11 H6 E8 f12 f13 f14 V15 ne16 => ?_
    have K17 : Keep h0 h7 [a1] := K1.ext E8
    have f18 := E1.ext E8
    have f19 := F1.ext E8
    have f20 := F2.ext E8
    have f21 := V1.ext E8
    show Go p e below _ T5 (mkF m 11 #[.val (.ref a1), .val (.ref b1), .val (.int (0 : Int32)), .val (.int (Int32.ofNat nN)), .val .null, .unset] [(.ref a9), (.ref a1)])
    refine own_getF H6 hx hown (host := "") (Or.inl (ow hw 22 rfl)) Via.refl f14 rfl rfl (hb hby d_jdk_42_149_11) fun T22 H23 => ?_
    show Go p e below _ T22 (mkF m 14 #[.val (.ref a1), .val (.ref b1), .val (.int (0 : Int32)), .val (.int (Int32.ofNat nN)), .val .null, .unset] [(.ref b10), (.ref a1)])
    refine own_putF H23 hx hown (host := "") (Or.inl (ow hw 22 rfl)) Via.refl f19 f18 (Or.inr ⟨(ow hw 18 rfl), rfl, hnm⟩) (ow hw 4 rfl) (ty := (.array .byte)) (by decide) rfl rfl g1 (own_mem (List.mem_of_getElem? (i := 0) rfl)) rfl rfl (hb hby d_jdk_42_149_14) fun T24 h26 H25 W27 => ?_
    have K28 : Keep h0 h26 [a1] := K17.wr W27 (Or.inl (List.mem_of_getElem? (i := 0) rfl))
    have f29 := f18.wr W27
    have f30 := f19.same W27
    have f31 := f20.other W27 (Or.inr (slot_ne (Or.inr (ow hw 19 rfl)) (Or.inr (ow hw 18 rfl)) (by decide) (t := .byte) (t' := (.array .byte)) (by decide) (by decide)))
    have f32 := f21.other W27 hab
    have f33 := f12.wr W27
    have f34 := f13.other W27 (Or.inl (Ne.symm (ne16 a1 (List.mem_of_getElem? (i := 0) rfl)).1))
    have f35 := f14.other W27 (Or.inl (Ne.symm (ne16 a1 (List.mem_of_getElem? (i := 0) rfl)).1))
    have f36 := V15.other W27 (Ne.symm (ne16 a1 (List.mem_of_getElem? (i := 0) rfl)).2)
    show Go p e below _ T24 (mkF m 17 #[.val (.ref a1), .val (.ref b1), .val (.int (0 : Int32)), .val (.int (Int32.ofNat nN)), .val .null, .unset] [])
    refine Go.of (fun _ => XS.aloadN H25.here hx rfl (hb hby d_jdk_42_149_17) rfl rfl) ?_
    show Go p e below _ T24 (mkF m 18 #[.val (.ref a1), .val (.ref b1), .val (.int (0 : Int32)), .val (.int (Int32.ofNat nN)), .val .null, .unset] [(.ref a1)])
    refine own_ldcS H25 hx hown (ow hw 16 rfl) hst (by decide) (vs := []) (z := (0 : Int32)) ⟨by decide, by decide⟩ (by decide) (by decide) rfl (hb hby d_jdk_42_149_18) (nn := 0) (by decide) (by decide) (by decide) (by decide) fun T37 h39 a41 b42 kb43 H38 E40 f44 f45 f46 V47 ne48 => ?_
    have K49 : Keep h0 h39 [a1] := K28.ext E40
    have f50 := f29.ext E40
    have f51 := f30.ext E40
    have f52 := f31.ext E40
    have f53 := f32.ext E40
    have f54 := f33.ext E40
    have f55 := f34.ext E40
    have f56 := f35.ext E40
    have f57 := f36.ext E40
    show Go p e below _ T37 (mkF m 20 #[.val (.ref a1), .val (.ref b1), .val (.int (0 : Int32)), .val (.int (Int32.ofNat nN)), .val .null, .unset] [(.ref a41), (.ref a1)])
    refine own_getF H38 hx hown (host := "") (Or.inl (ow hw 23 rfl)) Via.refl f45 rfl rfl (hb hby d_jdk_42_149_20) fun T58 H59 => ?_
    show Go p e below _ T58 (mkF m 23 #[.val (.ref a1), .val (.ref b1), .val (.int (0 : Int32)), .val (.int (Int32.ofNat nN)), .val .null, .unset] [(.int (0 : Int32)), (.ref a1)])
    refine own_putFN H59 hx hown (ow hw 23 rfl) Via.refl f52 f50 (Or.inr ⟨(ow hw 19 rfl), rfl, hnm⟩) (ow hw 4 rfl) (ty := .byte) (v' := .int (nar .byte (0 : Int32))) (by decide) rfl (fits_nar_byte _) g1 (own_mem (List.mem_of_getElem? (i := 0) rfl)) rfl rfl (hb hby d_jdk_42_149_23) fun T60 h62 H61 W63 => ?_
    have K64 : Keep h0 h62 [a1] := K49.wr W63 (Or.inl (List.mem_of_getElem? (i := 0) rfl))
    have f65 := f50.wr W63
    have f66 := f51.other W63 (Or.inr (slot_ne (Or.inr (ow hw 18 rfl)) (Or.inr (ow hw 19 rfl)) (by decide) (t := (.array .byte)) (t' := .byte) (by decide) (by decide)))
    have f67 := f52.same W63
    have f68 := f53.other W63 hab
    have f69 := f54.wr W63
    have f70 := f55.other W63 (Or.inl (Ne.symm (ne16 a1 (List.mem_of_getElem? (i := 0) rfl)).1))
    have f71 := f56.other W63 (Or.inl (Ne.symm (ne16 a1 (List.mem_of_getElem? (i := 0) rfl)).1))
    have f72 := f57.other W63 (Ne.symm (ne16 a1 (List.mem_of_getElem? (i := 0) rfl)).2)
    have f73 := f44.wr W63
    have f74 := f45.other W63 (Or.inl (Ne.symm (ne48 a1 (List.mem_of_getElem? (i := 0) rfl)).1))
    have f75 := f46.other W63 (Or.inl (Ne.symm (ne48 a1 (List.mem_of_getElem? (i := 0) rfl)).1))
    have f76 := V47.other W63 (Ne.symm (ne48 a1 (List.mem_of_getElem? (i := 0) rfl)).2)
    show Go p e below _ T60 (mkF m 26 #[.val (.ref a1), .val (.ref b1), .val (.int (0 : Int32)), .val (.int (Int32.ofNat nN)), .val .null, .unset] [])
    exact own_ret H61 hx hlk hret (hb hby d_jdk_42_149_26) all0 ⟨rfl, K64, by rw [show cs = [] from List.eq_nil_of_length_eq_zero (hl.trans ((own_onz (by omega)).mp hbr4))]; exact own_str.empty f65 f67 f66 f72⟩ (by decide) (by decide)
  · skip
    refine Go.of (fun _ => XS.ifYes H3.here hx rfl (pc0 := 5) (pc' := 27) rfl (hb hby d_jdk_42_149_5) rfl ((if0 _ _).trans (feq hbr4).2) (by decide) (by decide)) ?_
    show Go p e below _ T2 (mkF m 27 #[.val (.ref a1), .val (.ref b1), .val (.int (0 : Int32)), .val (.int (Int32.ofNat nN)), .val .null, .unset] [])
    refine own_getS H3 hx hown (host := "") (Or.inl (ow hw 33 rfl)) Via.refl SC rfl (hb hby d_jdk_42_149_27) fun T77 H78 => ?_
    show Go p e below _ T77 (mkF m 30 #[.val (.ref a1), .val (.ref b1), .val (.int (0 : Int32)), .val (.int (Int32.ofNat nN)), .val .null, .unset] [(.int zc)])
    refine Go.of (fun _ => XS.ifNo H78.here hx rfl (hb hby d_jdk_42_149_30) rfl ((if0 _ _).trans (feq hzc).1)) ?_
    show Go p e below _ T77 (mkF m 33 #[.val (.ref a1), .val (.ref b1), .val (.int (0 : Int32)), .val (.int (Int32.ofNat nN)), .val .null, .unset] [])
    refine Go.of (fun _ => XS.aloadN H78.here hx rfl (hb hby d_jdk_42_149_33) rfl rfl) ?_
    show Go p e below _ T77 (mkF m 34 #[.val (.ref a1), .val (.ref b1), .val (.int (0 : Int32)), .val (.int (Int32.ofNat nN)), .val .null, .unset] [(.ref b1)])
    refine Go.of (fun _ => XS.iloadN H78.here hx rfl (hb hby d_jdk_42_149_34) rfl) ?_
    show Go p e below _ T77 (mkF m 35 #[.val (.ref a1), .val (.ref b1), .val (.int (0 : Int32)), .val (.int (Int32.ofNat nN)), .val .null, .unset] [(.int (0 : Int32)), (.ref b1)])
    refine Go.of (fun _ => XS.iloadN H78.here hx rfl (hb hby d_jdk_42_149_35) rfl) ?_
    show Go p e below _ T77 (mkF m 36 #[.val (.ref a1), .val (.ref b1), .val (.int (0 : Int32)), .val (.int (Int32.ofNat nN)), .val .null, .unset] [(.int (Int32.ofNat nN)), (.int (0 : Int32)), (.ref b1)])
    refine own_staticW H78 hx (y := (⟨"java/lang/StringUTF16", "compress", "([CII)[B"⟩ : MethodName)) hown (ow hw 34 rfl) (ow hw 35 rfl) (ow hw 36 rfl) (ow hw 37 rfl) (by decide) (W := 0) (rm_cmp l Z a0 hw hE b1 kc nN cs dc h0 H78.old V1 hl hN4 hp SA SHB SLB) (fun _ hq => nomatch hq) (by decide) (by decide) rfl (by rw [hml]; rfl) (argsL := [(.ref b1), (.int (0 : Int32)), (.int (Int32.ofNat nN))]) (rest := []) rfl (lenOf pd_4 rfl) rfl (by show 2 * 0 + _ ≤ _; exact Nat.le_of_eq rfl) (hb hby d_jdk_42_149_36) (by decide) (by decide) fun T79 h81 v83 H80 hs84 q82 => ?_
    obtain ⟨r1, kr1, cd, M2, vs, rfl, KC, gr1, VC, hcd⟩ := q82
    have ner : r1 ≠ a1 := fun q => by subst q; exact own_nea (ow hw 4 rfl) (E1.keep KC) VC
    have K85 : Keep h0 h81 [a1] := K1.trans KC all0
    have f86 := E1.keep KC
    have f87 := F1.keep KC nin0
    have f88 := F2.keep KC nin0
    have f89 := V1.keep KC nin0
    show Go p e below _ T79 (mkF m 39 #[.val (.ref a1), .val (.ref b1), .val (.int (0 : Int32)), .val (.int (Int32.ofNat nN)), .val .null, .unset] [(.ref r1)])
    refine Go.of (fun _ => XS.astore H80.here hx rfl (hb hby d_jdk_42_149_39) rfl rfl (l' := #[.val (.ref a1), .val (.ref b1), .val (.int (0 : Int32)), .val (.int (Int32.ofNat nN)), .val .null, .val (.ref r1)]) rfl) ?_
    show Go p e below _ T79 (mkF m 41 #[.val (.ref a1), .val (.ref b1), .val (.int (0 : Int32)), .val (.int (Int32.ofNat nN)), .val .null, .val (.ref r1)] [])
    refine Go.of (fun _ => XS.aloadN H80.here hx rfl (hb hby d_jdk_42_149_41) rfl rfl) ?_
    show Go p e below _ T79 (mkF m 42 #[.val (.ref a1), .val (.ref b1), .val (.int (0 : Int32)), .val (.int (Int32.ofNat nN)), .val .null, .val (.ref r1)] [(.ref a1)])
    refine Go.of (fun _ => XS.aload H80.here hx rfl (hb hby d_jdk_42_149_42) rfl rfl) ?_
    show Go p e below _ T79 (mkF m 44 #[.val (.ref a1), .val (.ref b1), .val (.int (0 : Int32)), .val (.int (Int32.ofNat nN)), .val .null, .val (.ref r1)] [(.ref r1), (.ref a1)])
    refine Go.of (fun _ => XS.iloadN H80.here hx rfl (hb hby d_jdk_42_149_44) rfl) ?_
    show Go p e below _ T79 (mkF m 45 #[.val (.ref a1), .val (.ref b1), .val (.int (0 : Int32)), .val (.int (Int32.ofNat nN)), .val .null, .val (.ref r1)] [(.int (Int32.ofNat nN)), (.ref r1), (.ref a1)])
    refine own_staticW H80 hx (y := (⟨"java/lang/StringUTF16", "coderFromArrayLen", "([BI)B"⟩ : MethodName)) hown (ow hw 41 rfl) (ow hw 42 rfl) (ow hw 36 rfl) (ow hw 43 rfl) (by decide) (W := 1) (rm_cfl l Z a0 hw hE r1 kr1 nN vs cs cd M2 h81 H80.old VC hcd hl (Nat.pos_of_ne_zero fun q => hbr4 ((own_onz (by omega)).mpr q)) hN4) (fun _ hq => nomatch hq) (by decide) (by decide) rfl (by rw [hml]; rfl) (argsL := [(.ref r1), (.int (Int32.ofNat nN))]) (rest := [(.ref a1)]) rfl (lenOf pd_6 rfl) rfl (by show 2 * 0 + _ ≤ _; exact Nat.le_of_eq rfl) (hb hby d_jdk_42_149_45) (by decide) (by decide) fun T90 h92 v94 H91 hs95 q93 => ?_
    obtain ⟨ve97, e96⟩ := q93
    subst e96
    subst ve97
    show Go p e below _ T90 (mkF m 48 #[.val (.ref a1), .val (.ref b1), .val (.int (0 : Int32)), .val (.int (Int32.ofNat nN)), .val .null, .val (.ref r1)] [(.int cd), (.ref a1)])
    refine own_putFN H91 hx hown (ow hw 23 rfl) Via.refl f88 f86 (Or.inr ⟨(ow hw 19 rfl), rfl, hnm⟩) (ow hw 4 rfl) (ty := .byte) (v' := .int (nar .byte cd)) (by decide) rfl (fits_nar_byte _) g1 (own_mem (List.mem_of_getElem? (i := 0) rfl)) rfl rfl (hb hby d_jdk_42_149_48) fun T98 h100 H99 W101 => ?_
    have K102 : Keep h0 h100 [a1] := K85.wr W101 (Or.inl (List.mem_of_getElem? (i := 0) rfl))
    have f103 := f86.wr W101
    have f104 := f87.other W101 (Or.inr (slot_ne (Or.inr (ow hw 18 rfl)) (Or.inr (ow hw 19 rfl)) (by decide) (t := (.array .byte)) (t' := .byte) (by decide) (by decide)))
    have f105 := f88.same W101
    have f106 := f89.other W101 hab
    have f107 := VC.other W101 ner
    show Go p e below _ T98 (mkF m 51 #[.val (.ref a1), .val (.ref b1), .val (.int (0 : Int32)), .val (.int (Int32.ofNat nN)), .val .null, .val (.ref r1)] [])
    refine Go.of (fun _ => XS.aloadN H99.here hx rfl (hb hby d_jdk_42_149_51) rfl rfl) ?_
    show Go p e below _ T98 (mkF m 52 #[.val (.ref a1), .val (.ref b1), .val (.int (0 : Int32)), .val (.int (Int32.ofNat nN)), .val .null, .val (.ref r1)] [(.ref a1)])
    refine Go.of (fun _ => XS.aload H99.here hx rfl (hb hby d_jdk_42_149_52) rfl rfl) ?_
    show Go p e below _ T98 (mkF m 54 #[.val (.ref a1), .val (.ref b1), .val (.int (0 : Int32)), .val (.int (Int32.ofNat nN)), .val .null, .val (.ref r1)] [(.ref r1), (.ref a1)])
    refine own_putF H99 hx hown (host := "") (Or.inl (ow hw 22 rfl)) Via.refl f104 f103 (Or.inr ⟨(ow hw 18 rfl), rfl, hnm⟩) (ow hw 4 rfl) (ty := (.array .byte)) (by decide) rfl rfl g1 (own_mem (List.mem_of_getElem? (i := 0) rfl)) rfl rfl (hb hby d_jdk_42_149_54) fun T108 h110 H109 W111 => ?_
    have K112 : Keep h0 h110 [a1] := K102.wr W111 (Or.inl (List.mem_of_getElem? (i := 0) rfl))
    have f113 := f103.wr W111
    have f114 := f104.same W111
    have f115 := f105.other W111 (Or.inr (slot_ne (Or.inr (ow hw 19 rfl)) (Or.inr (ow hw 18 rfl)) (by decide) (t := .byte) (t' := (.array .byte)) (by decide) (by decide)))
    have f116 := f106.other W111 hab
    have f117 := f107.other W111 ner
    show Go p e below _ T108 (mkF m 57 #[.val (.ref a1), .val (.ref b1), .val (.int (0 : Int32)), .val (.int (Int32.ofNat nN)), .val .null, .val (.ref r1)] [])
    exact own_ret H109 hx hlk hret (hb hby d_jdk_42_149_57) all0 ⟨rfl, K112, _, _, cd, M2, vs, f113, by have := f115; rw [own_cdn hcd] at this; exact this, f114, f117, hcd, hp⟩ (by decide) (by decide)
set_option maxRecDepth 65536 in
set_option maxHeartbeats 40000000 in
theorem rm_s1 (l : Launch) (Z : State) (a0 : Array Value) (hw : ∀ d ∈ tables_1, d.before a0 Z = true) (hE : EW Z a0 ELx) (a1 : Addr) (b1 : Addr) (kc : ClassId) (nN : Nat) (cs : List Int32) (dc : Value) (zc : Int32) (h0 : Heap) (O0 : Ext Z.heap h0) (E1 : Exa Z h0 a1 "java/lang/String") (F1 : Fld Z h0 a1 "java/lang/String" "value" "[B" .null) (F2 : Fld Z h0 a1 "java/lang/String" "coder" "B" (.int 0)) (g1 : Z.heap.size ≤ a1) (hab : b1 ≠ a1) (V1 : Arv Z h0 b1 kc .char (Int32.ofNat nN) (cs.map Value.int) dc) (hl : cs.length = nN) (hN4 : nN ≤ 4) (hp : ∀ c ∈ cs, ¬ c < 0 ∧ ¬ (65535 : Int32) < c) (SC : Sta Z Z.heap "java/lang/String" "COMPACT_STRINGS" "Z" (.int zc)) (hzc : ¬ zc = 0) (SA : Sta Z Z.heap "java/lang/StringUTF16" "$assertionsDisabled" "Z" (.int 1)) (SHB : Sta Z Z.heap "java/lang/StringUTF16" "HI_BYTE_SHIFT" "I" (.int 0)) (SLB : Sta Z Z.heap "java/lang/StringUTF16" "LO_BYTE_SHIFT" "I" (.int 8)) :
    Ct l Z ELx a0 true (⟨"java/lang/String", "<init>", "([C)V"⟩ : MethodName) jdk_42_method_3_code 2 none [] ({ frames := 5, cells := 6, slots := 20, locals := 110 } : Room) #[(.ref a1), (.ref b1)] h0 [a1] (fun _ => []) (fun v h => v = none ∧ Keep h0 h [a1] ∧ own_str Z h a1 cs) := by
  refine own_enter (plainFor_of_name pn_1) hE O0 ?_
  intro p e s m below meth c s₁ hx hby hml hown hnm hret hlk H0
  refine Go.eq (ef_rm_s1 m a1 b1) ?_
  have K1 : Keep h0 h0 [a1] := Keep.refl _ _
  have hst := own_hst hw
  show Go p e below _ s₁ (mkF m 0 #[.val (.ref a1), .val (.ref b1)] [])
  refine Go.of (fun _ => XS.aloadN H0.here hx rfl (hb hby d_jdk_42_3_0) rfl rfl) ?_
  show Go p e below _ s₁ (mkF m 1 #[.val (.ref a1), .val (.ref b1)] [(.ref a1)])
  refine Go.of (fun _ => XS.aloadN H0.here hx rfl (hb hby d_jdk_42_3_1) rfl rfl) ?_
  show Go p e below _ s₁ (mkF m 2 #[.val (.ref a1), .val (.ref b1)] [(.ref b1), (.ref a1)])
  refine Go.of (fun _ => XS.iconst H0.here hx rfl (hb hby d_jdk_42_3_2)) ?_
  show Go p e below _ s₁ (mkF m 3 #[.val (.ref a1), .val (.ref b1)] [(.int (0 : Int32)), (.ref b1), (.ref a1)])
  refine Go.of (fun _ => XS.aloadN H0.here hx rfl (hb hby d_jdk_42_3_3) rfl rfl) ?_
  show Go p e below _ s₁ (mkF m 4 #[.val (.ref a1), .val (.ref b1)] [(.ref b1), (.int (0 : Int32)), (.ref b1), (.ref a1)])
  refine own_len H0 hx V1 rfl rfl (hb hby d_jdk_42_3_4) ?_
  show Go p e below _ s₁ (mkF m 5 #[.val (.ref a1), .val (.ref b1)] [(.int (Int32.ofNat nN)), (.int (0 : Int32)), (.ref b1), (.ref a1)])
  refine Go.of (fun _ => XS.aconstNull H0.here hx rfl (hb hby d_jdk_42_3_5)) ?_
  show Go p e below _ s₁ (mkF m 6 #[.val (.ref a1), .val (.ref b1)] [.null, (.int (Int32.ofNat nN)), (.int (0 : Int32)), (.ref b1), (.ref a1)])
  refine own_specialW H0 hx (y := (⟨"java/lang/String", "<init>", "([CIILjava/lang/Void;)V"⟩ : MethodName)) rfl hown (ow hw 9 rfl) (ow hw 10 rfl) (ow hw 5 rfl) (ow hw 12 rfl) (by decide) (W := 0) (rm_s2 l Z a0 hw hE a1 b1 kc nN cs dc zc h0 H0.old E1 F1 F2 g1 hab V1 hl hN4 hp SC hzc SA SHB SLB) (allS (List.mem_of_getElem? (i := 0) rfl) all0) (by decide) (by decide) rfl (by rw [hml]; rfl) (a := a1) (argsL := [(.ref b1), (.int (0 : Int32)), (.int (Int32.ofNat nN)), .null]) (rest := []) rfl (lenOf pd_7 rfl) rfl (by show 2 * 0 + _ ≤ _; exact Nat.le_of_eq rfl) (hb hby d_jdk_42_3_6) (by decide) (by decide) fun T2 h4 v6 H3 hs7 q5 => ?_
  obtain ⟨rfl, KK, SS⟩ := q5
  show Go p e below _ T2 (mkF m 9 #[.val (.ref a1), .val (.ref b1)] [])
  exact own_ret H3 hx hlk hret (hb hby d_jdk_42_3_9) all0 ⟨rfl, KK, SS⟩ (by decide) (by decide)
set_option maxRecDepth 65536 in
set_option maxHeartbeats 40000000 in
theorem rm_pck (l : Launch) (Z : State) (a0 : Array Value) (hw : ∀ d ∈ tables_1, d.before a0 Z = true) (hE : EW Z a0 ELx) (p1 : Int32) (p2 : Int32) (fm : Value) (h0 : Heap) (O0 : Ext Z.heap h0) (hfm : fm.isRef = true) (hb1 : ¬ p1 < (0 : Int32)) (hb2 : p1 < p2) :
    Ct l Z ELx a0 true (⟨"jdk/internal/util/Preconditions", "checkIndex", "(IILjava/util/function/BiFunction;)I"⟩ : MethodName) jdk_41_method_11_code 3 (some .int) [] ({ frames := 0, cells := 0, slots := 0, locals := 0 } : Room) #[(.int p1), (.int p2), fm] h0 [] (fun _ => []) (fun v h => v = some (.int p1) ∧ h0 = h) := by
  refine own_enter (plainFor_of_name pn_2) hE O0 ?_
  intro p e s m below meth c s₁ hx hby hml hown hnm hret hlk H0
  refine Go.eq (ef_rm_pck m p1 p2 fm hfm) ?_
  show Go p e below _ s₁ (mkF m 0 #[.val (.int p1), .val (.int p2), .val fm] [])
  refine Go.of (fun _ => XS.iloadN H0.here hx rfl (hb hby d_jdk_41_11_0) rfl) ?_
  show Go p e below _ s₁ (mkF m 1 #[.val (.int p1), .val (.int p2), .val fm] [(.int p1)])
  refine Go.of (fun _ => XS.ifNo H0.here hx rfl (hb hby d_jdk_41_11_1) rfl ((if0 _ _).trans (flt hb1).1)) ?_
  show Go p e below _ s₁ (mkF m 4 #[.val (.int p1), .val (.int p2), .val fm] [])
  refine Go.of (fun _ => XS.iloadN H0.here hx rfl (hb hby d_jdk_41_11_4) rfl) ?_
  show Go p e below _ s₁ (mkF m 5 #[.val (.int p1), .val (.int p2), .val fm] [(.int p1)])
  refine Go.of (fun _ => XS.iloadN H0.here hx rfl (hb hby d_jdk_41_11_5) rfl) ?_
  show Go p e below _ s₁ (mkF m 6 #[.val (.int p1), .val (.int p2), .val fm] [(.int p2), (.int p1)])
  refine Go.of (fun _ => XS.icmpYes H0.here hx rfl (pc0 := 6) (pc' := 16) rfl (hb hby d_jdk_41_11_6) rfl (tlt hb2).1 (by decide) (by decide)) ?_
  show Go p e below _ s₁ (mkF m 16 #[.val (.int p1), .val (.int p2), .val fm] [])
  refine Go.of (fun _ => XS.iloadN H0.here hx rfl (hb hby d_jdk_41_11_16) rfl) ?_
  show Go p e below _ s₁ (mkF m 17 #[.val (.int p1), .val (.int p2), .val fm] [(.int p1)])
  exact own_retI H0 hx hlk hret (hb hby d_jdk_41_11_17) all0 ⟨rfl, rfl⟩ (by decide) (by decide)
set_option maxRecDepth 65536 in
set_option maxHeartbeats 40000000 in
theorem rm_sck (l : Launch) (Z : State) (a0 : Array Value) (hw : ∀ d ∈ tables_1, d.before a0 Z = true) (hE : EW Z a0 ELx) (p1 : Int32) (p2 : Int32) (fm : Value) (h0 : Heap) (O0 : Ext Z.heap h0) (SF : Sta Z Z.heap "jdk/internal/util/Preconditions" "SIOOBE_FORMATTER" "Ljava/util/function/BiFunction;" fm) (hfm : fm.isRef = true) (hb1 : ¬ p1 < (0 : Int32)) (hb2 : p1 < p2) :
    Ct l Z ELx a0 true (⟨"java/lang/String", "checkIndex", "(II)V"⟩ : MethodName) jdk_42_method_155_code 2 none [] ({ frames := 1, cells := 0, slots := 0, locals := 14 } : Room) #[(.int p1), (.int p2)] h0 [] (fun _ => []) (fun v h => v = none ∧ h0 = h) := by
  refine own_enter (plainFor_of_name pn_1) hE O0 ?_
  intro p e s m below meth c s₁ hx hby hml hown hnm hret hlk H0
  refine Go.eq (ef_rm_sck m p1 p2) ?_
  show Go p e below _ s₁ (mkF m 0 #[.val (.int p1), .val (.int p2)] [])
  refine Go.of (fun _ => XS.iloadN H0.here hx rfl (hb hby d_jdk_42_155_0) rfl) ?_
  show Go p e below _ s₁ (mkF m 1 #[.val (.int p1), .val (.int p2)] [(.int p1)])
  refine Go.of (fun _ => XS.iloadN H0.here hx rfl (hb hby d_jdk_42_155_1) rfl) ?_
  show Go p e below _ s₁ (mkF m 2 #[.val (.int p1), .val (.int p2)] [(.int p2), (.int p1)])
  refine own_getS H0 hx hown (host := "") (Or.inl (ow hw 68 rfl)) Via.refl SF rfl (hb hby d_jdk_42_155_2) fun T1 H2 => ?_
  show Go p e below _ T1 (mkF m 5 #[.val (.int p1), .val (.int p2)] [fm, (.int p2), (.int p1)])
  refine own_staticW H2 hx (y := (⟨"jdk/internal/util/Preconditions", "checkIndex", "(IILjava/util/function/BiFunction;)I"⟩ : MethodName)) hown (ow hw 70 rfl) (ow hw 71 rfl) (ow hw 69 rfl) (ow hw 72 rfl) (by decide) (W := 0) (rm_pck l Z a0 hw hE p1 p2 fm h0 H2.old hfm hb1 hb2) (fun _ hq => nomatch hq) (by decide) (by decide) rfl (by rw [hml]; rfl) (argsL := [(.int p1), (.int p2), fm]) (rest := []) rfl (lenOf pd_8 rfl) rfl (by show 2 * 0 + _ ≤ _; exact Nat.le_of_eq rfl) (hb hby d_jdk_42_155_5) (by decide) (by decide) fun T3 h5 v7 H4 hs8 q6 => ?_
  obtain ⟨ve10, e9⟩ := q6
  subst e9
  subst ve10
  show Go p e below _ T3 (mkF m 8 #[.val (.int p1), .val (.int p2)] [(.int p1)])
  refine Go.of (fun _ => XS.pop H4.here hx rfl (hb hby d_jdk_42_155_8) rfl rfl) ?_
  show Go p e below _ T3 (mkF m 9 #[.val (.int p1), .val (.int p2)] [])
  exact own_ret H4 hx hlk hret (hb hby d_jdk_42_155_9) all0 ⟨rfl, rfl⟩ (by decide) (by decide)
set_option maxRecDepth 65536 in
set_option maxHeartbeats 40000000 in
theorem rm_lch (l : Launch) (Z : State) (a0 : Array Value) (hw : ∀ d ∈ tables_1, d.before a0 Z = true) (hE : EW Z a0 ELx) (b1 : Addr) (kb : ClassId) (nN : Nat) (cs : List Int32) (iN : Nat) (fm : Value) (h0 : Heap) (O0 : Ext Z.heap h0) (V1 : Arv Z h0 b1 kb .byte (Int32.ofNat nN) (cs.map fun c => Value.int (StrChars.lo8 c)) (.int 0)) (hl : cs.length = nN) (hN4 : nN ≤ 4) (hp : ∀ c ∈ cs, ¬ c < 0 ∧ ¬ (65535 : Int32) < c) (hlat : ∀ c ∈ cs, ¬ (255 : Int32) < c) (SF : Sta Z Z.heap "jdk/internal/util/Preconditions" "SIOOBE_FORMATTER" "Ljava/util/function/BiFunction;" fm) (hfm : fm.isRef = true) (hi : iN < nN) :
    Ct l Z ELx a0 true (⟨"java/lang/StringLatin1", "charAt", "([BI)C"⟩ : MethodName) jdk_43_method_2_code 2 (some .char) [] ({ frames := 2, cells := 0, slots := 0, locals := 28 } : Room) #[(.ref b1), (.int (Int32.ofNat iN))] h0 [] (fun _ => []) (fun v h => v = some (.int (cs.getD iN 0)) ∧ h0 = h) := by
  refine own_enter (plainFor_of_name pn_3) hE O0 ?_
  intro p e s m below meth c s₁ hx hby hml hown hnm hret hlk H0
  refine Go.eq (ef_rm_lch m b1 (Int32.ofNat iN)) ?_
  show Go p e below _ s₁ (mkF m 0 #[.val (.ref b1), .val (.int (Int32.ofNat iN))] [])
  refine Go.of (fun _ => XS.iloadN H0.here hx rfl (hb hby d_jdk_43_2_0) rfl) ?_
  show Go p e below _ s₁ (mkF m 1 #[.val (.ref b1), .val (.int (Int32.ofNat iN))] [(.int (Int32.ofNat iN))])
  refine Go.of (fun _ => XS.aloadN H0.here hx rfl (hb hby d_jdk_43_2_1) rfl rfl) ?_
  show Go p e below _ s₁ (mkF m 2 #[.val (.ref b1), .val (.int (Int32.ofNat iN))] [(.ref b1), (.int (Int32.ofNat iN))])
  refine own_len H0 hx V1 rfl rfl (hb hby d_jdk_43_2_2) ?_
  show Go p e below _ s₁ (mkF m 3 #[.val (.ref b1), .val (.int (Int32.ofNat iN))] [(.int (Int32.ofNat nN)), (.int (Int32.ofNat iN))])
  refine own_staticW H0 hx (y := (⟨"java/lang/String", "checkIndex", "(II)V"⟩ : MethodName)) hown (ow hw 65 rfl) (ow hw 66 rfl) (ow hw 5 rfl) (ow hw 67 rfl) (by decide) (W := 0) (rm_sck l Z a0 hw hE (Int32.ofNat iN) (Int32.ofNat nN) fm h0 H0.old SF hfm (own_on0 (by omega)) ((own_onlt (by omega) (by omega)).mpr (by omega))) (fun _ hq => nomatch hq) (by decide) (by decide) rfl (by rw [hml]; rfl) (argsL := [(.int (Int32.ofNat iN)), (.int (Int32.ofNat nN))]) (rest := []) rfl (lenOf pd_9 rfl) rfl (by show 2 * 0 + _ ≤ _; exact Nat.le_of_eq rfl) (hb hby d_jdk_43_2_3) (by decide) (by decide) fun T1 h3 v5 H2 hs6 q4 => ?_
  obtain ⟨ve8, e7⟩ := q4
  subst e7
  subst ve8
  show Go p e below _ T1 (mkF m 6 #[.val (.ref b1), .val (.int (Int32.ofNat iN))] [])
  refine Go.of (fun _ => XS.aloadN H2.here hx rfl (hb hby d_jdk_43_2_6) rfl rfl) ?_
  show Go p e below _ T1 (mkF m 7 #[.val (.ref b1), .val (.int (Int32.ofNat iN))] [(.ref b1)])
  refine Go.of (fun _ => XS.iloadN H2.here hx rfl (hb hby d_jdk_43_2_7) rfl) ?_
  show Go p e below _ T1 (mkF m 8 #[.val (.ref b1), .val (.int (Int32.ofNat iN))] [(.int (Int32.ofNat iN)), (.ref b1)])
  refine own_baload H2 hx V1 ⟨own_on0 (by omega), (own_onlt (by omega) (by omega)).mpr (by omega)⟩ (v := (.int (StrChars.lo8 (cs.getD iN 0)))) (by rw [own_onc (by omega)]; exact StrChars.Road.low_at _ _ _ (by omega)) rfl rfl (hb hby d_jdk_43_2_8) ?_
  show Go p e below _ T1 (mkF m 9 #[.val (.ref b1), .val (.int (Int32.ofNat iN))] [(.int (StrChars.lo8 (cs.getD iN 0)))])
  refine Go.of (fun _ => XS.sipush H2.here hx rfl (hb hby d_jdk_43_2_9)) ?_
  show Go p e below _ T1 (mkF m 12 #[.val (.ref b1), .val (.int (Int32.ofNat iN))] [(.int (255 : Int32)), (.int (StrChars.lo8 (cs.getD iN 0)))])
  refine Go.of (fun _ => XS.iand H2.here hx rfl (hb hby d_jdk_43_2_12) rfl) ?_
  show Go p e below _ T1 (mkF m 13 #[.val (.ref b1), .val (.int (Int32.ofNat iN))] [(.int ((StrChars.lo8 (cs.getD iN 0)) &&& (255 : Int32)))])
  refine Go.of (fun _ => XS.i2c H2.here hx rfl (hb hby d_jdk_43_2_13) rfl) ?_
  show Go p e below _ T1 (mkF m 14 #[.val (.ref b1), .val (.int (Int32.ofNat iN))] [(.int (((StrChars.lo8 (cs.getD iN 0)) &&& (255 : Int32)).toUInt32.toUInt16.toUInt32.toInt32))])
  exact own_retN H2 hx hlk (t := .char) hret (by simp) (hb hby d_jdk_43_2_14) all0 ⟨by rw [own_chr8 (hp _ (own_getm (by omega))).1 (hlat _ (own_getm (by omega))), own_narc16 (hp _ (own_getm (by omega)))], rfl⟩ (by decide) (by decide)
set_option maxRecDepth 65536 in
set_option maxHeartbeats 40000000 in
theorem rm_uck (l : Launch) (Z : State) (a0 : Array Value) (hw : ∀ d ∈ tables_1, d.before a0 Z = true) (hE : EW Z a0 ELx) (b1 : Addr) (kb : ClassId) (nN : Nat) (vs : List Value) (iN : Nat) (fm : Value) (h0 : Heap) (O0 : Ext Z.heap h0) (V1 : Arv Z h0 b1 kb .byte (Int32.ofNat (2 * nN)) vs (.int 0)) (hN4 : nN ≤ 4) (SF : Sta Z Z.heap "jdk/internal/util/Preconditions" "SIOOBE_FORMATTER" "Ljava/util/function/BiFunction;" fm) (hfm : fm.isRef = true) (hi : iN < nN) :
    Ct l Z ELx a0 true (⟨"java/lang/StringUTF16", "checkIndex", "(I[B)V"⟩ : MethodName) jdk_52_method_91_code 2 none [] ({ frames := 2, cells := 0, slots := 0, locals := 28 } : Room) #[(.int (Int32.ofNat iN)), (.ref b1)] h0 [] (fun _ => []) (fun v h => v = none ∧ h0 = h) := by
  refine own_enter (plainFor_of_name pn_0) hE O0 ?_
  intro p e s m below meth c s₁ hx hby hml hown hnm hret hlk H0
  refine Go.eq (ef_rm_uck m (Int32.ofNat iN) b1) ?_
  show Go p e below _ s₁ (mkF m 0 #[.val (.int (Int32.ofNat iN)), .val (.ref b1)] [])
  refine Go.of (fun _ => XS.iloadN H0.here hx rfl (hb hby d_jdk_52_91_0) rfl) ?_
  show Go p e below _ s₁ (mkF m 1 #[.val (.int (Int32.ofNat iN)), .val (.ref b1)] [(.int (Int32.ofNat iN))])
  refine Go.of (fun _ => XS.aloadN H0.here hx rfl (hb hby d_jdk_52_91_1) rfl rfl) ?_
  show Go p e below _ s₁ (mkF m 2 #[.val (.int (Int32.ofNat iN)), .val (.ref b1)] [(.ref b1), (.int (Int32.ofNat iN))])
  refine own_staticW H0 hx (y := (⟨"java/lang/StringUTF16", "length", "([B)I"⟩ : MethodName)) hown (ow hw 101 rfl) (ow hw 102 rfl) (ow hw 36 rfl) (ow hw 103 rfl) (by decide) (W := 1) (rm_ul l Z a0 hw hE b1 kb nN _ h0 H0.old V1 hN4) (fun _ hq => nomatch hq) (by decide) (by decide) rfl (by rw [hml]; rfl) (argsL := [(.ref b1)]) (rest := [(.int (Int32.ofNat iN))]) rfl (lenOf pd_10 rfl) rfl (by show 2 * 0 + _ ≤ _; exact Nat.le_of_eq rfl) (hb hby d_jdk_52_91_2) (by decide) (by decide) fun T1 h3 v5 H2 hs6 q4 => ?_
  obtain ⟨ve8, e7⟩ := q4
  subst e7
  subst ve8
  show Go p e below _ T1 (mkF m 5 #[.val (.int (Int32.ofNat iN)), .val (.ref b1)] [(.int (Int32.ofNat nN)), (.int (Int32.ofNat iN))])
  refine own_staticW H2 hx (y := (⟨"java/lang/String", "checkIndex", "(II)V"⟩ : MethodName)) hown (ow hw 104 rfl) (ow hw 66 rfl) (ow hw 5 rfl) (ow hw 67 rfl) (by decide) (W := 0) (rm_sck l Z a0 hw hE (Int32.ofNat iN) (Int32.ofNat nN) fm h0 H2.old SF hfm (own_on0 (by omega)) ((own_onlt (by omega) (by omega)).mpr (by omega))) (fun _ hq => nomatch hq) (by decide) (by decide) rfl (by rw [hml]; rfl) (argsL := [(.int (Int32.ofNat iN)), (.int (Int32.ofNat nN))]) (rest := []) rfl (lenOf pd_9 rfl) rfl (by show 2 * 0 + _ ≤ _; exact Nat.le_of_eq rfl) (hb hby d_jdk_52_91_5) (by decide) (by decide) fun T9 h11 v13 H10 hs14 q12 => ?_
  obtain ⟨ve16, e15⟩ := q12
  subst e15
  subst ve16
  show Go p e below _ T9 (mkF m 8 #[.val (.int (Int32.ofNat iN)), .val (.ref b1)] [])
  exact own_ret H10 hx hlk hret (hb hby d_jdk_52_91_8) all0 ⟨rfl, rfl⟩ (by decide) (by decide)
set_option maxRecDepth 65536 in
set_option maxHeartbeats 40000000 in
theorem rm_uch (l : Launch) (Z : State) (a0 : Array Value) (hw : ∀ d ∈ tables_1, d.before a0 Z = true) (hE : EW Z a0 ELx) (b1 : Addr) (kb : ClassId) (nN : Nat) (cs : List Int32) (iN : Nat) (fm : Value) (h0 : Heap) (O0 : Ext Z.heap h0) (V1 : Arv Z h0 b1 kb .byte (Int32.ofNat (2 * nN)) (StrChars.Road.wideBytes cs) (.int 0)) (hl : cs.length = nN) (hN4 : nN ≤ 4) (hp : ∀ c ∈ cs, ¬ c < 0 ∧ ¬ (65535 : Int32) < c) (SF : Sta Z Z.heap "jdk/internal/util/Preconditions" "SIOOBE_FORMATTER" "Ljava/util/function/BiFunction;" fm) (hfm : fm.isRef = true) (SA : Sta Z Z.heap "java/lang/StringUTF16" "$assertionsDisabled" "Z" (.int 1)) (SHB : Sta Z Z.heap "java/lang/StringUTF16" "HI_BYTE_SHIFT" "I" (.int 0)) (SLB : Sta Z Z.heap "java/lang/StringUTF16" "LO_BYTE_SHIFT" "I" (.int 8)) (hi : iN < nN) :
    Ct l Z ELx a0 true (⟨"java/lang/StringUTF16", "charAt", "([BI)C"⟩ : MethodName) jdk_52_method_83_code 2 (some .char) [] ({ frames := 3, cells := 0, slots := 0, locals := 42 } : Room) #[(.ref b1), (.int (Int32.ofNat iN))] h0 [] (fun _ => []) (fun v h => v = some (.int (cs.getD iN 0)) ∧ h0 = h) := by
  refine own_enter (plainFor_of_name pn_0) hE O0 ?_
  intro p e s m below meth c s₁ hx hby hml hown hnm hret hlk H0
  refine Go.eq (ef_rm_uch m b1 (Int32.ofNat iN)) ?_
  show Go p e below _ s₁ (mkF m 0 #[.val (.ref b1), .val (.int (Int32.ofNat iN))] [])
  refine Go.of (fun _ => XS.iloadN H0.here hx rfl (hb hby d_jdk_52_83_0) rfl) ?_
  show Go p e below _ s₁ (mkF m 1 #[.val (.ref b1), .val (.int (Int32.ofNat iN))] [(.int (Int32.ofNat iN))])
  refine Go.of (fun _ => XS.aloadN H0.here hx rfl (hb hby d_jdk_52_83_1) rfl rfl) ?_
  show Go p e below _ s₁ (mkF m 2 #[.val (.ref b1), .val (.int (Int32.ofNat iN))] [(.ref b1), (.int (Int32.ofNat iN))])
  refine own_staticW H0 hx (y := (⟨"java/lang/StringUTF16", "checkIndex", "(I[B)V"⟩ : MethodName)) hown (ow hw 98 rfl) (ow hw 99 rfl) (ow hw 36 rfl) (ow hw 100 rfl) (by decide) (W := 0) (rm_uck l Z a0 hw hE b1 kb nN _ iN fm h0 H0.old V1 hN4 SF hfm hi) (fun _ hq => nomatch hq) (by decide) (by decide) rfl (by rw [hml]; rfl) (argsL := [(.int (Int32.ofNat iN)), (.ref b1)]) (rest := []) rfl (lenOf pd_11 rfl) rfl (by show 2 * 0 + _ ≤ _; exact Nat.le_of_eq rfl) (hb hby d_jdk_52_83_2) (by decide) (by decide) fun T1 h3 v5 H2 hs6 q4 => ?_
  obtain ⟨ve8, e7⟩ := q4
  subst e7
  subst ve8
  show Go p e below _ T1 (mkF m 5 #[.val (.ref b1), .val (.int (Int32.ofNat iN))] [])
  refine Go.of (fun _ => XS.aloadN H2.here hx rfl (hb hby d_jdk_52_83_5) rfl rfl) ?_
  show Go p e below _ T1 (mkF m 6 #[.val (.ref b1), .val (.int (Int32.ofNat iN))] [(.ref b1)])
  refine Go.of (fun _ => XS.iloadN H2.here hx rfl (hb hby d_jdk_52_83_6) rfl) ?_
  show Go p e below _ T1 (mkF m 7 #[.val (.ref b1), .val (.int (Int32.ofNat iN))] [(.int (Int32.ofNat iN)), (.ref b1)])
  refine own_staticW H2 hx (y := (⟨"java/lang/StringUTF16", "getChar", "([BI)C"⟩ : MethodName)) hown (ow hw 92 rfl) (ow hw 93 rfl) (ow hw 36 rfl) (ow hw 94 rfl) (by decide) (W := 0) (rm_get l Z a0 hw hE b1 kb nN _ iN (cs.getD iN 0) h0 H2.old V1 hN4 hi (StrChars.Road.wide_lo _ _ _ (by omega)) (StrChars.Road.wide_hi _ _ _ (by omega)) (hp _ (own_getm (by omega))) SA SHB SLB) (fun _ hq => nomatch hq) (by decide) (by decide) rfl (by rw [hml]; rfl) (argsL := [(.ref b1), (.int (Int32.ofNat iN))]) (rest := []) rfl (lenOf pd_5 rfl) rfl (by show 2 * 0 + _ ≤ _; exact Nat.le_of_eq rfl) (hb hby d_jdk_52_83_7) (by decide) (by decide) fun T9 h11 v13 H10 hs14 q12 => ?_
  obtain ⟨ve16, e15⟩ := q12
  subst e15
  subst ve16
  show Go p e below _ T9 (mkF m 10 #[.val (.ref b1), .val (.int (Int32.ofNat iN))] [(.int (cs.getD iN 0))])
  exact own_retN H10 hx hlk (t := .char) hret (by simp) (hb hby d_jdk_52_83_10) all0 ⟨by rw [own_narc16 (hp _ (own_getm (by omega)))], rfl⟩ (by decide) (by decide)
set_option maxRecDepth 65536 in
set_option maxHeartbeats 40000000 in
theorem rm_isl0 (l : Launch) (Z : State) (a0 : Array Value) (hw : ∀ d ∈ tables_1, d.before a0 Z = true) (hE : EW Z a0 ELx) (a1 : Addr) (zc : Int32) (h0 : Heap) (O0 : Ext Z.heap h0) (F1 : Fld Z h0 a1 "java/lang/String" "coder" "B" (.int 0)) (SC : Sta Z Z.heap "java/lang/String" "COMPACT_STRINGS" "Z" (.int zc)) (hzc : ¬ zc = 0) :
    Ct l Z ELx a0 true (⟨"java/lang/String", "isLatin1", "()Z"⟩ : MethodName) jdk_42_method_154_code 1 (some .boolean) [] ({ frames := 0, cells := 0, slots := 0, locals := 0 } : Room) #[(.ref a1)] h0 [] (fun _ => []) (fun v h => v = some (.int 1) ∧ h0 = h) := by
  refine own_enter (plainFor_of_name pn_1) hE O0 ?_
  intro p e s m below meth c s₁ hx hby hml hown hnm hret hlk H0
  refine Go.eq (ef_rm_isl0 m a1) ?_
  show Go p e below _ s₁ (mkF m 0 #[.val (.ref a1)] [])
  refine own_getS H0 hx hown (host := "") (Or.inl (ow hw 33 rfl)) Via.refl SC rfl (hb hby d_jdk_42_154_0) fun T1 H2 => ?_
  show Go p e below _ T1 (mkF m 3 #[.val (.ref a1)] [(.int zc)])
  refine Go.of (fun _ => XS.ifNo H2.here hx rfl (hb hby d_jdk_42_154_3) rfl ((if0 _ _).trans (feq hzc).1)) ?_
  show Go p e below _ T1 (mkF m 6 #[.val (.ref a1)] [])
  refine Go.of (fun _ => XS.aloadN H2.here hx rfl (hb hby d_jdk_42_154_6) rfl rfl) ?_
  show Go p e below _ T1 (mkF m 7 #[.val (.ref a1)] [(.ref a1)])
  refine own_getF H2 hx hown (host := "") (Or.inl (ow hw 23 rfl)) Via.refl F1 rfl rfl (hb hby d_jdk_42_154_7) fun T3 H4 => ?_
  show Go p e below _ T3 (mkF m 10 #[.val (.ref a1)] [(.int (0 : Int32))])
  refine Go.of (fun _ => XS.ifNo H4.here hx rfl (hb hby d_jdk_42_154_10) rfl ((if0 _ _).trans (teq (by decide : (0 : Int32) = (0 : Int32))).2)) ?_
  show Go p e below _ T3 (mkF m 13 #[.val (.ref a1)] [])
  refine Go.of (fun _ => XS.iconst H4.here hx rfl (hb hby d_jdk_42_154_13)) ?_
  show Go p e below _ T3 (mkF m 14 #[.val (.ref a1)] [(.int (1 : Int32))])
  refine Go.of (fun _ => XS.goto H4.here hx rfl (pc0 := 14) (pc' := 18) rfl (hb hby d_jdk_42_154_14) (by decide) (by decide)) ?_
  show Go p e below _ T3 (mkF m 18 #[.val (.ref a1)] [(.int (1 : Int32))])
  exact own_retN H4 hx hlk (t := .boolean) hret (by simp) (hb hby d_jdk_42_154_18) all0 ⟨rfl, rfl⟩ (by decide) (by decide)
set_option maxRecDepth 65536 in
set_option maxHeartbeats 40000000 in
theorem rm_isl1 (l : Launch) (Z : State) (a0 : Array Value) (hw : ∀ d ∈ tables_1, d.before a0 Z = true) (hE : EW Z a0 ELx) (a1 : Addr) (zc : Int32) (h0 : Heap) (O0 : Ext Z.heap h0) (F1 : Fld Z h0 a1 "java/lang/String" "coder" "B" (.int 1)) (SC : Sta Z Z.heap "java/lang/String" "COMPACT_STRINGS" "Z" (.int zc)) (hzc : ¬ zc = 0) :
    Ct l Z ELx a0 true (⟨"java/lang/String", "isLatin1", "()Z"⟩ : MethodName) jdk_42_method_154_code 1 (some .boolean) [] ({ frames := 0, cells := 0, slots := 0, locals := 0 } : Room) #[(.ref a1)] h0 [] (fun _ => []) (fun v h => v = some (.int 0) ∧ h0 = h) := by
  refine own_enter (plainFor_of_name pn_1) hE O0 ?_
  intro p e s m below meth c s₁ hx hby hml hown hnm hret hlk H0
  refine Go.eq (ef_rm_isl1 m a1) ?_
  show Go p e below _ s₁ (mkF m 0 #[.val (.ref a1)] [])
  refine own_getS H0 hx hown (host := "") (Or.inl (ow hw 33 rfl)) Via.refl SC rfl (hb hby d_jdk_42_154_0) fun T1 H2 => ?_
  show Go p e below _ T1 (mkF m 3 #[.val (.ref a1)] [(.int zc)])
  refine Go.of (fun _ => XS.ifNo H2.here hx rfl (hb hby d_jdk_42_154_3) rfl ((if0 _ _).trans (feq hzc).1)) ?_
  show Go p e below _ T1 (mkF m 6 #[.val (.ref a1)] [])
  refine Go.of (fun _ => XS.aloadN H2.here hx rfl (hb hby d_jdk_42_154_6) rfl rfl) ?_
  show Go p e below _ T1 (mkF m 7 #[.val (.ref a1)] [(.ref a1)])
  refine own_getF H2 hx hown (host := "") (Or.inl (ow hw 23 rfl)) Via.refl F1 rfl rfl (hb hby d_jdk_42_154_7) fun T3 H4 => ?_
  show Go p e below _ T3 (mkF m 10 #[.val (.ref a1)] [(.int (1 : Int32))])
  refine Go.of (fun _ => XS.ifYes H4.here hx rfl (pc0 := 10) (pc' := 17) rfl (hb hby d_jdk_42_154_10) rfl ((if0 _ _).trans (feq (by decide : ¬ ((1 : Int32) = (0 : Int32)))).2) (by decide) (by decide)) ?_
  show Go p e below _ T3 (mkF m 17 #[.val (.ref a1)] [])
  refine Go.of (fun _ => XS.iconst H4.here hx rfl (hb hby d_jdk_42_154_17)) ?_
  show Go p e below _ T3 (mkF m 18 #[.val (.ref a1)] [(.int (0 : Int32))])
  exact own_retN H4 hx hlk (t := .boolean) hret (by simp) (hb hby d_jdk_42_154_18) all0 ⟨rfl, rfl⟩ (by decide) (by decide)
set_option maxRecDepth 65536 in
set_option maxHeartbeats 40000000 in
theorem rm_cha (l : Launch) (Z : State) (a0 : Array Value) (hw : ∀ d ∈ tables_1, d.before a0 Z = true) (hE : EW Z a0 ELx) (a1 : Addr) (cs : List Int32) (iN : Nat) (zc : Int32) (fm : Value) (h0 : Heap) (O0 : Ext Z.heap h0) (Sx : own_str Z h0 a1 cs) (lx : cs.length ≤ 4) (hi : iN < cs.length) (SC : Sta Z Z.heap "java/lang/String" "COMPACT_STRINGS" "Z" (.int zc)) (hzc : ¬ zc = 0) (SF : Sta Z Z.heap "jdk/internal/util/Preconditions" "SIOOBE_FORMATTER" "Ljava/util/function/BiFunction;" fm) (hfm : fm.isRef = true) (SA : Sta Z Z.heap "java/lang/StringUTF16" "$assertionsDisabled" "Z" (.int 1)) (SHB : Sta Z Z.heap "java/lang/StringUTF16" "HI_BYTE_SHIFT" "I" (.int 0)) (SLB : Sta Z Z.heap "java/lang/StringUTF16" "LO_BYTE_SHIFT" "I" (.int 8)) :
    Ct l Z ELx a0 true (⟨"java/lang/String", "charAt", "(I)C"⟩ : MethodName) jdk_42_method_56_code 2 (some .char) [] ({ frames := 4, cells := 0, slots := 0, locals := 56 } : Room) #[(.ref a1), (.int (Int32.ofNat iN))] h0 [] (fun _ => []) (fun v h => v = some (.int (cs.getD iN 0)) ∧ h0 = h) := by
  refine own_enter (plainFor_of_name pn_1) hE O0 ?_
  intro p e s m below meth c s₁ hx hby hml hown hnm hret hlk H0
  refine Go.eq (ef_rm_cha m a1 (Int32.ofNat iN)) ?_
  have hp := Sx.chars
  obtain ⟨t1, kb1, cd, M2, vs, E1, F1, F2, V2, hcd, -⟩ := Sx
  rcases hcd with ⟨rfl, rfl, rfl, hlat⟩ | ⟨rfl, rfl, rfl, hbig⟩
  · skip
    show Go p e below _ s₁ (mkF m 0 #[.val (.ref a1), .val (.int (Int32.ofNat iN))] [])
    refine Go.of (fun _ => XS.aloadN H0.here hx rfl (hb hby d_jdk_42_56_0) rfl rfl) ?_
    show Go p e below _ s₁ (mkF m 1 #[.val (.ref a1), .val (.int (Int32.ofNat iN))] [(.ref a1)])
    refine own_virtualW H0 hx (y := (⟨"java/lang/String", "isLatin1", "()Z"⟩ : MethodName)) (z := (⟨"java/lang/String", "isLatin1", "()Z"⟩ : MethodName)) hown (ow hw 56 rfl) (ow hw 57 rfl) (own_nf (ow hw 59 rfl) rfl) (ow hw 59 rfl) (ow hw 58 rfl) (ow hw 5 rfl) (ow hw 60 rfl) (by decide) (W := 0) (rm_isl0 l Z a0 hw hE a1 zc h0 H0.old F1 SC hzc) (fun _ hq => nomatch hq) (by decide) (by decide) E1 rfl (by rw [hml]; rfl) (argsL := []) (rest := []) rfl (lenOf pd_12 rfl) rfl (by show 2 * 0 + _ ≤ _; exact Nat.le_of_eq rfl) (hb hby d_jdk_42_56_1) (by decide) (by decide) fun T1 h3 v5 H2 hs6 q4 => ?_
    obtain ⟨ve8, e7⟩ := q4
    subst e7
    subst ve8
    show Go p e below _ T1 (mkF m 4 #[.val (.ref a1), .val (.int (Int32.ofNat iN))] [(.int (1 : Int32))])
    refine Go.of (fun _ => XS.ifNo H2.here hx rfl (hb hby d_jdk_42_56_4) rfl ((if0 _ _).trans (feq (by decide : ¬ ((1 : Int32) = (0 : Int32)))).1)) ?_
    show Go p e below _ T1 (mkF m 7 #[.val (.ref a1), .val (.int (Int32.ofNat iN))] [])
    refine Go.of (fun _ => XS.aloadN H2.here hx rfl (hb hby d_jdk_42_56_7) rfl rfl) ?_
    show Go p e below _ T1 (mkF m 8 #[.val (.ref a1), .val (.int (Int32.ofNat iN))] [(.ref a1)])
    refine own_getF H2 hx hown (host := "") (Or.inl (ow hw 22 rfl)) Via.refl F2 rfl rfl (hb hby d_jdk_42_56_8) fun T9 H10 => ?_
    show Go p e below _ T9 (mkF m 11 #[.val (.ref a1), .val (.int (Int32.ofNat iN))] [(.ref t1)])
    refine Go.of (fun _ => XS.iloadN H10.here hx rfl (hb hby d_jdk_42_56_11) rfl) ?_
    show Go p e below _ T9 (mkF m 12 #[.val (.ref a1), .val (.int (Int32.ofNat iN))] [(.int (Int32.ofNat iN)), (.ref t1)])
    refine own_staticW H10 hx (y := (⟨"java/lang/StringLatin1", "charAt", "([BI)C"⟩ : MethodName)) hown (ow hw 61 rfl) (ow hw 62 rfl) (ow hw 63 rfl) (ow hw 64 rfl) (by decide) (W := 0) (rm_lch l Z a0 hw hE t1 kb1 cs.length cs iN fm h0 H10.old V2 rfl lx hp hlat SF hfm hi) (fun _ hq => nomatch hq) (by decide) (by decide) rfl (by rw [hml]; rfl) (argsL := [(.ref t1), (.int (Int32.ofNat iN))]) (rest := []) rfl (lenOf pd_5 rfl) rfl (by show 2 * 0 + _ ≤ _; exact Nat.le_of_eq rfl) (hb hby d_jdk_42_56_12) (by decide) (by decide) fun T11 h13 v15 H12 hs16 q14 => ?_
    obtain ⟨ve18, e17⟩ := q14
    subst e17
    subst ve18
    show Go p e below _ T11 (mkF m 15 #[.val (.ref a1), .val (.int (Int32.ofNat iN))] [(.int (cs.getD iN 0))])
    exact own_retN H12 hx hlk (t := .char) hret (by simp) (hb hby d_jdk_42_56_15) all0 ⟨by rw [own_narc16 (hp _ (own_getm (by omega)))], rfl⟩ (by decide) (by decide)
  · skip
    show Go p e below _ s₁ (mkF m 0 #[.val (.ref a1), .val (.int (Int32.ofNat iN))] [])
    refine Go.of (fun _ => XS.aloadN H0.here hx rfl (hb hby d_jdk_42_56_0) rfl rfl) ?_
    show Go p e below _ s₁ (mkF m 1 #[.val (.ref a1), .val (.int (Int32.ofNat iN))] [(.ref a1)])
    refine own_virtualW H0 hx (y := (⟨"java/lang/String", "isLatin1", "()Z"⟩ : MethodName)) (z := (⟨"java/lang/String", "isLatin1", "()Z"⟩ : MethodName)) hown (ow hw 56 rfl) (ow hw 57 rfl) (own_nf (ow hw 59 rfl) rfl) (ow hw 59 rfl) (ow hw 58 rfl) (ow hw 5 rfl) (ow hw 60 rfl) (by decide) (W := 0) (rm_isl1 l Z a0 hw hE a1 zc h0 H0.old F1 SC hzc) (fun _ hq => nomatch hq) (by decide) (by decide) E1 rfl (by rw [hml]; rfl) (argsL := []) (rest := []) rfl (lenOf pd_12 rfl) rfl (by show 2 * 0 + _ ≤ _; exact Nat.le_of_eq rfl) (hb hby d_jdk_42_56_1) (by decide) (by decide) fun T19 h21 v23 H20 hs24 q22 => ?_
    obtain ⟨ve26, e25⟩ := q22
    subst e25
    subst ve26
    show Go p e below _ T19 (mkF m 4 #[.val (.ref a1), .val (.int (Int32.ofNat iN))] [(.int (0 : Int32))])
    refine Go.of (fun _ => XS.ifYes H20.here hx rfl (pc0 := 4) (pc' := 16) rfl (hb hby d_jdk_42_56_4) rfl ((if0 _ _).trans (teq (by decide : (0 : Int32) = (0 : Int32))).1) (by decide) (by decide)) ?_
    show Go p e below _ T19 (mkF m 16 #[.val (.ref a1), .val (.int (Int32.ofNat iN))] [])
    refine Go.of (fun _ => XS.aloadN H20.here hx rfl (hb hby d_jdk_42_56_16) rfl rfl) ?_
    show Go p e below _ T19 (mkF m 17 #[.val (.ref a1), .val (.int (Int32.ofNat iN))] [(.ref a1)])
    refine own_getF H20 hx hown (host := "") (Or.inl (ow hw 22 rfl)) Via.refl F2 rfl rfl (hb hby d_jdk_42_56_17) fun T27 H28 => ?_
    show Go p e below _ T27 (mkF m 20 #[.val (.ref a1), .val (.int (Int32.ofNat iN))] [(.ref t1)])
    refine Go.of (fun _ => XS.iloadN H28.here hx rfl (hb hby d_jdk_42_56_20) rfl) ?_
    show Go p e below _ T27 (mkF m 21 #[.val (.ref a1), .val (.int (Int32.ofNat iN))] [(.int (Int32.ofNat iN)), (.ref t1)])
    refine own_staticW H28 hx (y := (⟨"java/lang/StringUTF16", "charAt", "([BI)C"⟩ : MethodName)) hown (ow hw 95 rfl) (ow hw 96 rfl) (ow hw 36 rfl) (ow hw 97 rfl) (by decide) (W := 0) (rm_uch l Z a0 hw hE t1 kb1 cs.length cs iN fm h0 H28.old V2 rfl lx hp SF hfm SA SHB SLB hi) (fun _ hq => nomatch hq) (by decide) (by decide) rfl (by rw [hml]; rfl) (argsL := [(.ref t1), (.int (Int32.ofNat iN))]) (rest := []) rfl (lenOf pd_5 rfl) rfl (by show 2 * 0 + _ ≤ _; exact Nat.le_of_eq rfl) (hb hby d_jdk_42_56_21) (by decide) (by decide) fun T29 h31 v33 H30 hs34 q32 => ?_
    obtain ⟨ve36, e35⟩ := q32
    subst e35
    subst ve36
    show Go p e below _ T29 (mkF m 24 #[.val (.ref a1), .val (.int (Int32.ofNat iN))] [(.int (cs.getD iN 0))])
    exact own_retN H30 hx hlk (t := .char) hret (by simp) (hb hby d_jdk_42_56_24) all0 ⟨by rw [own_narc16 (hp _ (own_getm (by omega)))], rfl⟩ (by decide) (by decide)
set_option maxRecDepth 65536 in
set_option maxHeartbeats 40000000 in
theorem rm_let (l : Launch) (Z : State) (a0 : Array Value) (hw : ∀ d ∈ tables_1, d.before a0 Z = true) (hE : EW Z a0 ELx) (p1 : Int32) (h0 : Heap) (O0 : Ext Z.heap h0) :
    Ct l Z ELx a0 true (⟨"com/example/entitled/entitled/lang/LexerIsNamePinLaw", "letter", "(I)Z"⟩ : MethodName) method_2_code 1 (some .boolean) [] ({ frames := 0, cells := 0, slots := 0, locals := 0 } : Room) #[(.int p1)] h0 [] (fun _ => []) (fun v h => v = some (.int (if own_le p1 then 1 else 0)) ∧ h0 = h) := by
  refine own_enter (plainFor_of_name pn_4) hE O0 ?_
  intro p e s m below meth c s₁ hx hby hml hown hnm hret hlk H0
  refine Go.eq (ef_rm_let m p1) ?_
  show Go p e below _ s₁ (mkF m 0 #[.val (.int p1)] [])
  refine Go.of (fun _ => XS.iloadN H0.here hx rfl (hb hby d_2_0) rfl) ?_
  show Go p e below _ s₁ (mkF m 1 #[.val (.int p1)] [(.int p1)])
  refine Go.of (fun _ => XS.bipush H0.here hx rfl (hb hby d_2_1)) ?_
  show Go p e below _ s₁ (mkF m 3 #[.val (.int p1)] [(.int (97 : Int32)), (.int p1)])
  by_cases hbr1 : p1 < (97 : Int32)
  · skip
    refine Go.of (fun _ => XS.icmpYes H0.here hx rfl (pc0 := 3) (pc' := 14) rfl (hb hby d_2_3) rfl (tlt hbr1).1 (by decide) (by decide)) ?_
    show Go p e below _ s₁ (mkF m 14 #[.val (.int p1)] [])
    refine Go.of (fun _ => XS.iloadN H0.here hx rfl (hb hby d_2_14) rfl) ?_
    show Go p e below _ s₁ (mkF m 15 #[.val (.int p1)] [(.int p1)])
    refine Go.of (fun _ => XS.bipush H0.here hx rfl (hb hby d_2_15)) ?_
    show Go p e below _ s₁ (mkF m 17 #[.val (.int p1)] [(.int (65 : Int32)), (.int p1)])
    by_cases hbr2 : p1 < (65 : Int32)
    · skip
      refine Go.of (fun _ => XS.icmpYes H0.here hx rfl (pc0 := 17) (pc' := 28) rfl (hb hby d_2_17) rfl (tlt hbr2).1 (by decide) (by decide)) ?_
      show Go p e below _ s₁ (mkF m 28 #[.val (.int p1)] [])
      refine Go.of (fun _ => XS.iconst H0.here hx rfl (hb hby d_2_28)) ?_
      show Go p e below _ s₁ (mkF m 29 #[.val (.int p1)] [(.int (0 : Int32))])
      exact own_retN H0 hx hlk (t := .boolean) hret (by simp) (hb hby d_2_29) all0 ⟨by rw [if_neg (fun q => q.elim (fun q => (fun q => q hbr1) q.1) (fun q => (fun q => q hbr2) q.1))]; rfl, rfl⟩ (by decide) (by decide)
    · skip
      refine Go.of (fun _ => XS.icmpNo H0.here hx rfl (hb hby d_2_17) rfl (flt hbr2).1) ?_
      show Go p e below _ s₁ (mkF m 20 #[.val (.int p1)] [])
      refine Go.of (fun _ => XS.iloadN H0.here hx rfl (hb hby d_2_20) rfl) ?_
      show Go p e below _ s₁ (mkF m 21 #[.val (.int p1)] [(.int p1)])
      refine Go.of (fun _ => XS.bipush H0.here hx rfl (hb hby d_2_21)) ?_
      show Go p e below _ s₁ (mkF m 23 #[.val (.int p1)] [(.int (90 : Int32)), (.int p1)])
      by_cases hbr3 : (90 : Int32) < p1
      · skip
        refine Go.of (fun _ => XS.icmpYes H0.here hx rfl (pc0 := 23) (pc' := 28) rfl (hb hby d_2_23) rfl (tlt hbr3).2.2.1 (by decide) (by decide)) ?_
        show Go p e below _ s₁ (mkF m 28 #[.val (.int p1)] [])
        refine Go.of (fun _ => XS.iconst H0.here hx rfl (hb hby d_2_28)) ?_
        show Go p e below _ s₁ (mkF m 29 #[.val (.int p1)] [(.int (0 : Int32))])
        exact own_retN H0 hx hlk (t := .boolean) hret (by simp) (hb hby d_2_29) all0 ⟨by rw [if_neg (fun q => q.elim (fun q => (fun q => q hbr1) q.1) (fun q => (fun q => q hbr3) q.2))]; rfl, rfl⟩ (by decide) (by decide)
      · skip
        refine Go.of (fun _ => XS.icmpNo H0.here hx rfl (hb hby d_2_23) rfl (flt hbr3).2.2.1) ?_
        show Go p e below _ s₁ (mkF m 26 #[.val (.int p1)] [])
        refine Go.of (fun _ => XS.iconst H0.here hx rfl (hb hby d_2_26)) ?_
        show Go p e below _ s₁ (mkF m 27 #[.val (.int p1)] [(.int (1 : Int32))])
        exact own_retN H0 hx hlk (t := .boolean) hret (by simp) (hb hby d_2_27) all0 ⟨by rw [if_pos (Or.inr ⟨hbr2, hbr3⟩)]; rfl, rfl⟩ (by decide) (by decide)
  · skip
    refine Go.of (fun _ => XS.icmpNo H0.here hx rfl (hb hby d_2_3) rfl (flt hbr1).1) ?_
    show Go p e below _ s₁ (mkF m 6 #[.val (.int p1)] [])
    refine Go.of (fun _ => XS.iloadN H0.here hx rfl (hb hby d_2_6) rfl) ?_
    show Go p e below _ s₁ (mkF m 7 #[.val (.int p1)] [(.int p1)])
    refine Go.of (fun _ => XS.bipush H0.here hx rfl (hb hby d_2_7)) ?_
    show Go p e below _ s₁ (mkF m 9 #[.val (.int p1)] [(.int (122 : Int32)), (.int p1)])
    by_cases hbr4 : (122 : Int32) < p1
    · skip
      refine Go.of (fun _ => XS.icmpYes H0.here hx rfl (pc0 := 9) (pc' := 14) rfl (hb hby d_2_9) rfl (tlt hbr4).2.2.1 (by decide) (by decide)) ?_
      show Go p e below _ s₁ (mkF m 14 #[.val (.int p1)] [])
      refine Go.of (fun _ => XS.iloadN H0.here hx rfl (hb hby d_2_14) rfl) ?_
      show Go p e below _ s₁ (mkF m 15 #[.val (.int p1)] [(.int p1)])
      refine Go.of (fun _ => XS.bipush H0.here hx rfl (hb hby d_2_15)) ?_
      show Go p e below _ s₁ (mkF m 17 #[.val (.int p1)] [(.int (65 : Int32)), (.int p1)])
      by_cases hbr5 : p1 < (65 : Int32)
      · skip
        refine Go.of (fun _ => XS.icmpYes H0.here hx rfl (pc0 := 17) (pc' := 28) rfl (hb hby d_2_17) rfl (tlt hbr5).1 (by decide) (by decide)) ?_
        show Go p e below _ s₁ (mkF m 28 #[.val (.int p1)] [])
        refine Go.of (fun _ => XS.iconst H0.here hx rfl (hb hby d_2_28)) ?_
        show Go p e below _ s₁ (mkF m 29 #[.val (.int p1)] [(.int (0 : Int32))])
        exact own_retN H0 hx hlk (t := .boolean) hret (by simp) (hb hby d_2_29) all0 ⟨by rw [if_neg (fun q => q.elim (fun q => (fun q => q hbr4) q.2) (fun q => (fun q => q hbr5) q.1))]; rfl, rfl⟩ (by decide) (by decide)
      · skip
        refine Go.of (fun _ => XS.icmpNo H0.here hx rfl (hb hby d_2_17) rfl (flt hbr5).1) ?_
        show Go p e below _ s₁ (mkF m 20 #[.val (.int p1)] [])
        refine Go.of (fun _ => XS.iloadN H0.here hx rfl (hb hby d_2_20) rfl) ?_
        show Go p e below _ s₁ (mkF m 21 #[.val (.int p1)] [(.int p1)])
        refine Go.of (fun _ => XS.bipush H0.here hx rfl (hb hby d_2_21)) ?_
        show Go p e below _ s₁ (mkF m 23 #[.val (.int p1)] [(.int (90 : Int32)), (.int p1)])
        by_cases hbr6 : (90 : Int32) < p1
        · skip
          refine Go.of (fun _ => XS.icmpYes H0.here hx rfl (pc0 := 23) (pc' := 28) rfl (hb hby d_2_23) rfl (tlt hbr6).2.2.1 (by decide) (by decide)) ?_
          show Go p e below _ s₁ (mkF m 28 #[.val (.int p1)] [])
          refine Go.of (fun _ => XS.iconst H0.here hx rfl (hb hby d_2_28)) ?_
          show Go p e below _ s₁ (mkF m 29 #[.val (.int p1)] [(.int (0 : Int32))])
          exact own_retN H0 hx hlk (t := .boolean) hret (by simp) (hb hby d_2_29) all0 ⟨by rw [if_neg (fun q => q.elim (fun q => (fun q => q hbr4) q.2) (fun q => (fun q => q hbr6) q.2))]; rfl, rfl⟩ (by decide) (by decide)
        · skip
          refine Go.of (fun _ => XS.icmpNo H0.here hx rfl (hb hby d_2_23) rfl (flt hbr6).2.2.1) ?_
          show Go p e below _ s₁ (mkF m 26 #[.val (.int p1)] [])
          refine Go.of (fun _ => XS.iconst H0.here hx rfl (hb hby d_2_26)) ?_
          show Go p e below _ s₁ (mkF m 27 #[.val (.int p1)] [(.int (1 : Int32))])
          exact own_retN H0 hx hlk (t := .boolean) hret (by simp) (hb hby d_2_27) all0 ⟨by rw [if_pos (Or.inr ⟨hbr5, hbr6⟩)]; rfl, rfl⟩ (by decide) (by decide)
    · skip
      refine Go.of (fun _ => XS.icmpNo H0.here hx rfl (hb hby d_2_9) rfl (flt hbr4).2.2.1) ?_
      show Go p e below _ s₁ (mkF m 12 #[.val (.int p1)] [])
      refine Go.of (fun _ => XS.iconst H0.here hx rfl (hb hby d_2_12)) ?_
      show Go p e below _ s₁ (mkF m 13 #[.val (.int p1)] [(.int (1 : Int32))])
      exact own_retN H0 hx hlk (t := .boolean) hret (by simp) (hb hby d_2_13) all0 ⟨by rw [if_pos (Or.inl ⟨hbr1, hbr4⟩)]; rfl, rfl⟩ (by decide) (by decide)
set_option maxRecDepth 65536 in
set_option maxHeartbeats 40000000 in
theorem rm_sok (l : Launch) (Z : State) (a0 : Array Value) (hw : ∀ d ∈ tables_1, d.before a0 Z = true) (hE : EW Z a0 ELx) (p1 : Int32) (h0 : Heap) (O0 : Ext Z.heap h0) :
    Ct l Z ELx a0 true (⟨"com/example/entitled/entitled/lang/LexerIsNamePinLaw", "startOk", "(I)Z"⟩ : MethodName) method_3_code 1 (some .boolean) [] ({ frames := 1, cells := 0, slots := 0, locals := 12 } : Room) #[(.int p1)] h0 [] (fun _ => []) (fun v h => v = some (.int (if own_sn p1 then 1 else 0)) ∧ h0 = h) := by
  refine own_enter (plainFor_of_name pn_4) hE O0 ?_
  intro p e s m below meth c s₁ hx hby hml hown hnm hret hlk H0
  refine Go.eq (ef_rm_sok m p1) ?_
  show Go p e below _ s₁ (mkF m 0 #[.val (.int p1)] [])
  refine Go.of (fun _ => XS.iloadN H0.here hx rfl (hb hby d_3_0) rfl) ?_
  show Go p e below _ s₁ (mkF m 1 #[.val (.int p1)] [(.int p1)])
  refine own_staticW H0 hx (y := (⟨"com/example/entitled/entitled/lang/LexerIsNamePinLaw", "letter", "(I)Z"⟩ : MethodName)) hown (ow hw 48 rfl) (ow hw 49 rfl) (ow hw 46 rfl) (ow hw 50 rfl) (by decide) (W := 0) (rm_let l Z a0 hw hE p1 h0 H0.old ) (fun _ hq => nomatch hq) (by decide) (by decide) rfl (by rw [hml]; rfl) (argsL := [(.int p1)]) (rest := []) rfl (lenOf pd_13 rfl) rfl (by show 2 * 0 + _ ≤ _; exact Nat.le_of_eq rfl) (hb hby d_3_1) (by decide) (by decide) fun T1 h3 v5 H2 hs6 q4 => ?_
  obtain ⟨ve8, e7⟩ := q4
  subst e7
  subst ve8
  show Go p e below _ T1 (mkF m 4 #[.val (.int p1)] [(.int (if own_le p1 then 1 else 0))])
  by_cases hq9 : own_le p1
  · skip
    rw [if_pos hq9]
    show Go p e below _ T1 (mkF m 4 #[.val (.int p1)] [(.int (1 : Int32))])
    refine Go.of (fun _ => XS.ifYes H2.here hx rfl (pc0 := 4) (pc' := 19) rfl (hb hby d_3_4) rfl ((if0 _ _).trans (feq (by decide : ¬ ((1 : Int32) = (0 : Int32)))).2) (by decide) (by decide)) ?_
    show Go p e below _ T1 (mkF m 19 #[.val (.int p1)] [])
    refine Go.of (fun _ => XS.iconst H2.here hx rfl (hb hby d_3_19)) ?_
    show Go p e below _ T1 (mkF m 20 #[.val (.int p1)] [(.int (1 : Int32))])
    refine Go.of (fun _ => XS.goto H2.here hx rfl (pc0 := 20) (pc' := 24) rfl (hb hby d_3_20) (by decide) (by decide)) ?_
    show Go p e below _ T1 (mkF m 24 #[.val (.int p1)] [(.int (1 : Int32))])
    exact own_retN H2 hx hlk (t := .boolean) hret (by simp) (hb hby d_3_24) all0 ⟨by rw [if_pos (Or.inl hq9)]; rfl, rfl⟩ (by decide) (by decide)
  · skip
    rw [if_neg hq9]
    show Go p e below _ T1 (mkF m 4 #[.val (.int p1)] [(.int (0 : Int32))])
    refine Go.of (fun _ => XS.ifNo H2.here hx rfl (hb hby d_3_4) rfl ((if0 _ _).trans (teq (by decide : (0 : Int32) = (0 : Int32))).2)) ?_
    show Go p e below _ T1 (mkF m 7 #[.val (.int p1)] [])
    refine Go.of (fun _ => XS.iloadN H2.here hx rfl (hb hby d_3_7) rfl) ?_
    show Go p e below _ T1 (mkF m 8 #[.val (.int p1)] [(.int p1)])
    refine Go.of (fun _ => XS.bipush H2.here hx rfl (hb hby d_3_8)) ?_
    show Go p e below _ T1 (mkF m 10 #[.val (.int p1)] [(.int (95 : Int32)), (.int p1)])
    by_cases hbr10 : p1 = (95 : Int32)
    · skip
      refine Go.of (fun _ => XS.icmpYes H2.here hx rfl (pc0 := 10) (pc' := 19) rfl (hb hby d_3_10) rfl (teq hbr10).1 (by decide) (by decide)) ?_
      show Go p e below _ T1 (mkF m 19 #[.val (.int p1)] [])
      refine Go.of (fun _ => XS.iconst H2.here hx rfl (hb hby d_3_19)) ?_
      show Go p e below _ T1 (mkF m 20 #[.val (.int p1)] [(.int (1 : Int32))])
      refine Go.of (fun _ => XS.goto H2.here hx rfl (pc0 := 20) (pc' := 24) rfl (hb hby d_3_20) (by decide) (by decide)) ?_
      show Go p e below _ T1 (mkF m 24 #[.val (.int p1)] [(.int (1 : Int32))])
      exact own_retN H2 hx hlk (t := .boolean) hret (by simp) (hb hby d_3_24) all0 ⟨by rw [if_pos (Or.inr (Or.inl hbr10))]; rfl, rfl⟩ (by decide) (by decide)
    · skip
      refine Go.of (fun _ => XS.icmpNo H2.here hx rfl (hb hby d_3_10) rfl (feq hbr10).1) ?_
      show Go p e below _ T1 (mkF m 13 #[.val (.int p1)] [])
      refine Go.of (fun _ => XS.iloadN H2.here hx rfl (hb hby d_3_13) rfl) ?_
      show Go p e below _ T1 (mkF m 14 #[.val (.int p1)] [(.int p1)])
      refine Go.of (fun _ => XS.bipush H2.here hx rfl (hb hby d_3_14)) ?_
      show Go p e below _ T1 (mkF m 16 #[.val (.int p1)] [(.int (36 : Int32)), (.int p1)])
      by_cases hbr11 : p1 = (36 : Int32)
      · skip
        refine Go.of (fun _ => XS.icmpNo H2.here hx rfl (hb hby d_3_16) rfl (teq hbr11).2) ?_
        show Go p e below _ T1 (mkF m 19 #[.val (.int p1)] [])
        refine Go.of (fun _ => XS.iconst H2.here hx rfl (hb hby d_3_19)) ?_
        show Go p e below _ T1 (mkF m 20 #[.val (.int p1)] [(.int (1 : Int32))])
        refine Go.of (fun _ => XS.goto H2.here hx rfl (pc0 := 20) (pc' := 24) rfl (hb hby d_3_20) (by decide) (by decide)) ?_
        show Go p e below _ T1 (mkF m 24 #[.val (.int p1)] [(.int (1 : Int32))])
        exact own_retN H2 hx hlk (t := .boolean) hret (by simp) (hb hby d_3_24) all0 ⟨by rw [if_pos (Or.inr (Or.inr hbr11))]; rfl, rfl⟩ (by decide) (by decide)
      · skip
        refine Go.of (fun _ => XS.icmpYes H2.here hx rfl (pc0 := 16) (pc' := 23) rfl (hb hby d_3_16) rfl (feq hbr11).2 (by decide) (by decide)) ?_
        show Go p e below _ T1 (mkF m 23 #[.val (.int p1)] [])
        refine Go.of (fun _ => XS.iconst H2.here hx rfl (hb hby d_3_23)) ?_
        show Go p e below _ T1 (mkF m 24 #[.val (.int p1)] [(.int (0 : Int32))])
        exact own_retN H2 hx hlk (t := .boolean) hret (by simp) (hb hby d_3_24) all0 ⟨by rw [if_neg (fun q => q.elim hq9 (fun q => q.elim hbr10 hbr11))]; rfl, rfl⟩ (by decide) (by decide)
set_option maxRecDepth 65536 in
set_option maxHeartbeats 40000000 in
theorem rm_pok (l : Launch) (Z : State) (a0 : Array Value) (hw : ∀ d ∈ tables_1, d.before a0 Z = true) (hE : EW Z a0 ELx) (p1 : Int32) (h0 : Heap) (O0 : Ext Z.heap h0) :
    Ct l Z ELx a0 true (⟨"com/example/entitled/entitled/lang/LexerIsNamePinLaw", "partOk", "(I)Z"⟩ : MethodName) method_4_code 1 (some .boolean) [] ({ frames := 2, cells := 0, slots := 0, locals := 24 } : Room) #[(.int p1)] h0 [] (fun _ => []) (fun v h => v = some (.int (if own_pt p1 then 1 else 0)) ∧ h0 = h) := by
  refine own_enter (plainFor_of_name pn_4) hE O0 ?_
  intro p e s m below meth c s₁ hx hby hml hown hnm hret hlk H0
  refine Go.eq (ef_rm_pok m p1) ?_
  show Go p e below _ s₁ (mkF m 0 #[.val (.int p1)] [])
  refine Go.of (fun _ => XS.iloadN H0.here hx rfl (hb hby d_4_0) rfl) ?_
  show Go p e below _ s₁ (mkF m 1 #[.val (.int p1)] [(.int p1)])
  refine own_staticW H0 hx (y := (⟨"com/example/entitled/entitled/lang/LexerIsNamePinLaw", "startOk", "(I)Z"⟩ : MethodName)) hown (ow hw 44 rfl) (ow hw 45 rfl) (ow hw 46 rfl) (ow hw 47 rfl) (by decide) (W := 0) (rm_sok l Z a0 hw hE p1 h0 H0.old ) (fun _ hq => nomatch hq) (by decide) (by decide) rfl (by rw [hml]; rfl) (argsL := [(.int p1)]) (rest := []) rfl (lenOf pd_13 rfl) rfl (by show 2 * 0 + _ ≤ _; exact Nat.le_of_eq rfl) (hb hby d_4_1) (by decide) (by decide) fun T1 h3 v5 H2 hs6 q4 => ?_
  obtain ⟨ve8, e7⟩ := q4
  subst e7
  subst ve8
  show Go p e below _ T1 (mkF m 4 #[.val (.int p1)] [(.int (if own_sn p1 then 1 else 0))])
  by_cases hq9 : own_sn p1
  · skip
    rw [if_pos hq9]
    show Go p e below _ T1 (mkF m 4 #[.val (.int p1)] [(.int (1 : Int32))])
    refine Go.of (fun _ => XS.ifYes H2.here hx rfl (pc0 := 4) (pc' := 19) rfl (hb hby d_4_4) rfl ((if0 _ _).trans (feq (by decide : ¬ ((1 : Int32) = (0 : Int32)))).2) (by decide) (by decide)) ?_
    show Go p e below _ T1 (mkF m 19 #[.val (.int p1)] [])
    refine Go.of (fun _ => XS.iconst H2.here hx rfl (hb hby d_4_19)) ?_
    show Go p e below _ T1 (mkF m 20 #[.val (.int p1)] [(.int (1 : Int32))])
    refine Go.of (fun _ => XS.goto H2.here hx rfl (pc0 := 20) (pc' := 24) rfl (hb hby d_4_20) (by decide) (by decide)) ?_
    show Go p e below _ T1 (mkF m 24 #[.val (.int p1)] [(.int (1 : Int32))])
    exact own_retN H2 hx hlk (t := .boolean) hret (by simp) (hb hby d_4_24) all0 ⟨by rw [if_pos (Or.inl hq9)]; rfl, rfl⟩ (by decide) (by decide)
  · skip
    rw [if_neg hq9]
    show Go p e below _ T1 (mkF m 4 #[.val (.int p1)] [(.int (0 : Int32))])
    refine Go.of (fun _ => XS.ifNo H2.here hx rfl (hb hby d_4_4) rfl ((if0 _ _).trans (teq (by decide : (0 : Int32) = (0 : Int32))).2)) ?_
    show Go p e below _ T1 (mkF m 7 #[.val (.int p1)] [])
    refine Go.of (fun _ => XS.iloadN H2.here hx rfl (hb hby d_4_7) rfl) ?_
    show Go p e below _ T1 (mkF m 8 #[.val (.int p1)] [(.int p1)])
    refine Go.of (fun _ => XS.bipush H2.here hx rfl (hb hby d_4_8)) ?_
    show Go p e below _ T1 (mkF m 10 #[.val (.int p1)] [(.int (48 : Int32)), (.int p1)])
    by_cases hbr10 : p1 < (48 : Int32)
    · skip
      refine Go.of (fun _ => XS.icmpYes H2.here hx rfl (pc0 := 10) (pc' := 23) rfl (hb hby d_4_10) rfl (tlt hbr10).1 (by decide) (by decide)) ?_
      show Go p e below _ T1 (mkF m 23 #[.val (.int p1)] [])
      refine Go.of (fun _ => XS.iconst H2.here hx rfl (hb hby d_4_23)) ?_
      show Go p e below _ T1 (mkF m 24 #[.val (.int p1)] [(.int (0 : Int32))])
      exact own_retN H2 hx hlk (t := .boolean) hret (by simp) (hb hby d_4_24) all0 ⟨by rw [if_neg (fun q => q.elim hq9 (fun q => (fun q => q hbr10) q.1))]; rfl, rfl⟩ (by decide) (by decide)
    · skip
      refine Go.of (fun _ => XS.icmpNo H2.here hx rfl (hb hby d_4_10) rfl (flt hbr10).1) ?_
      show Go p e below _ T1 (mkF m 13 #[.val (.int p1)] [])
      refine Go.of (fun _ => XS.iloadN H2.here hx rfl (hb hby d_4_13) rfl) ?_
      show Go p e below _ T1 (mkF m 14 #[.val (.int p1)] [(.int p1)])
      refine Go.of (fun _ => XS.bipush H2.here hx rfl (hb hby d_4_14)) ?_
      show Go p e below _ T1 (mkF m 16 #[.val (.int p1)] [(.int (57 : Int32)), (.int p1)])
      by_cases hbr11 : (57 : Int32) < p1
      · skip
        refine Go.of (fun _ => XS.icmpYes H2.here hx rfl (pc0 := 16) (pc' := 23) rfl (hb hby d_4_16) rfl (tlt hbr11).2.2.1 (by decide) (by decide)) ?_
        show Go p e below _ T1 (mkF m 23 #[.val (.int p1)] [])
        refine Go.of (fun _ => XS.iconst H2.here hx rfl (hb hby d_4_23)) ?_
        show Go p e below _ T1 (mkF m 24 #[.val (.int p1)] [(.int (0 : Int32))])
        exact own_retN H2 hx hlk (t := .boolean) hret (by simp) (hb hby d_4_24) all0 ⟨by rw [if_neg (fun q => q.elim hq9 (fun q => (fun q => q hbr11) q.2))]; rfl, rfl⟩ (by decide) (by decide)
      · skip
        refine Go.of (fun _ => XS.icmpNo H2.here hx rfl (hb hby d_4_16) rfl (flt hbr11).2.2.1) ?_
        show Go p e below _ T1 (mkF m 19 #[.val (.int p1)] [])
        refine Go.of (fun _ => XS.iconst H2.here hx rfl (hb hby d_4_19)) ?_
        show Go p e below _ T1 (mkF m 20 #[.val (.int p1)] [(.int (1 : Int32))])
        refine Go.of (fun _ => XS.goto H2.here hx rfl (pc0 := 20) (pc' := 24) rfl (hb hby d_4_20) (by decide) (by decide)) ?_
        show Go p e below _ T1 (mkF m 24 #[.val (.int p1)] [(.int (1 : Int32))])
        exact own_retN H2 hx hlk (t := .boolean) hret (by simp) (hb hby d_4_24) all0 ⟨by rw [if_pos (Or.inr ⟨hbr10, hbr11⟩)]; rfl, rfl⟩ (by decide) (by decide)
set_option maxRecDepth 65536 in
set_option maxHeartbeats 40000000 in
theorem rm_ins (l : Launch) (Z : State) (a0 : Array Value) (hw : ∀ d ∈ tables_1, d.before a0 Z = true) (hE : EW Z a0 ELx) (p1 : Int32) (h0 : Heap) (O0 : Ext Z.heap h0) :
    Ct l Z ELx a0 true (⟨"com/example/entitled/entitled/lang/Lexer", "isNameStart", "(I)Z"⟩ : MethodName) prog_9_method_16_code 1 (some .boolean) [] ({ frames := 0, cells := 0, slots := 0, locals := 0 } : Room) #[(.int p1)] h0 [] (fun _ => []) (fun v h => v = some (.int (if own_sn p1 then 1 else 0)) ∧ h0 = h) := by
  refine own_enter (plainFor_of_name pn_5) hE O0 ?_
  intro p e s m below meth c s₁ hx hby hml hown hnm hret hlk H0
  refine Go.eq (ef_rm_ins m p1) ?_
  show Go p e below _ s₁ (mkF m 0 #[.val (.int p1)] [])
  refine Go.of (fun _ => XS.iloadN H0.here hx rfl (hb hby d_prog_9_16_0) rfl) ?_
  show Go p e below _ s₁ (mkF m 1 #[.val (.int p1)] [(.int p1)])
  refine Go.of (fun _ => XS.bipush H0.here hx rfl (hb hby d_prog_9_16_1)) ?_
  show Go p e below _ s₁ (mkF m 3 #[.val (.int p1)] [(.int (97 : Int32)), (.int p1)])
  by_cases hbr1 : p1 < (97 : Int32)
  · skip
    refine Go.of (fun _ => XS.icmpYes H0.here hx rfl (pc0 := 3) (pc' := 12) rfl (hb hby d_prog_9_16_3) rfl (tlt hbr1).1 (by decide) (by decide)) ?_
    show Go p e below _ s₁ (mkF m 12 #[.val (.int p1)] [])
    refine Go.of (fun _ => XS.iloadN H0.here hx rfl (hb hby d_prog_9_16_12) rfl) ?_
    show Go p e below _ s₁ (mkF m 13 #[.val (.int p1)] [(.int p1)])
    refine Go.of (fun _ => XS.bipush H0.here hx rfl (hb hby d_prog_9_16_13)) ?_
    show Go p e below _ s₁ (mkF m 15 #[.val (.int p1)] [(.int (65 : Int32)), (.int p1)])
    by_cases hbr2 : p1 < (65 : Int32)
    · skip
      refine Go.of (fun _ => XS.icmpYes H0.here hx rfl (pc0 := 15) (pc' := 24) rfl (hb hby d_prog_9_16_15) rfl (tlt hbr2).1 (by decide) (by decide)) ?_
      show Go p e below _ s₁ (mkF m 24 #[.val (.int p1)] [])
      refine Go.of (fun _ => XS.iloadN H0.here hx rfl (hb hby d_prog_9_16_24) rfl) ?_
      show Go p e below _ s₁ (mkF m 25 #[.val (.int p1)] [(.int p1)])
      refine Go.of (fun _ => XS.bipush H0.here hx rfl (hb hby d_prog_9_16_25)) ?_
      show Go p e below _ s₁ (mkF m 27 #[.val (.int p1)] [(.int (95 : Int32)), (.int p1)])
      by_cases hbr3 : p1 = (95 : Int32)
      · skip
        refine Go.of (fun _ => XS.icmpYes H0.here hx rfl (pc0 := 27) (pc' := 36) rfl (hb hby d_prog_9_16_27) rfl (teq hbr3).1 (by decide) (by decide)) ?_
        show Go p e below _ s₁ (mkF m 36 #[.val (.int p1)] [])
        refine Go.of (fun _ => XS.iconst H0.here hx rfl (hb hby d_prog_9_16_36)) ?_
        show Go p e below _ s₁ (mkF m 37 #[.val (.int p1)] [(.int (1 : Int32))])
        refine Go.of (fun _ => XS.goto H0.here hx rfl (pc0 := 37) (pc' := 41) rfl (hb hby d_prog_9_16_37) (by decide) (by decide)) ?_
        show Go p e below _ s₁ (mkF m 41 #[.val (.int p1)] [(.int (1 : Int32))])
        exact own_retN H0 hx hlk (t := .boolean) hret (by simp) (hb hby d_prog_9_16_41) all0 ⟨by rw [if_pos (Or.inr (Or.inl hbr3))]; rfl, rfl⟩ (by decide) (by decide)
      · skip
        refine Go.of (fun _ => XS.icmpNo H0.here hx rfl (hb hby d_prog_9_16_27) rfl (feq hbr3).1) ?_
        show Go p e below _ s₁ (mkF m 30 #[.val (.int p1)] [])
        refine Go.of (fun _ => XS.iloadN H0.here hx rfl (hb hby d_prog_9_16_30) rfl) ?_
        show Go p e below _ s₁ (mkF m 31 #[.val (.int p1)] [(.int p1)])
        refine Go.of (fun _ => XS.bipush H0.here hx rfl (hb hby d_prog_9_16_31)) ?_
        show Go p e below _ s₁ (mkF m 33 #[.val (.int p1)] [(.int (36 : Int32)), (.int p1)])
        by_cases hbr4 : p1 = (36 : Int32)
        · skip
          refine Go.of (fun _ => XS.icmpNo H0.here hx rfl (hb hby d_prog_9_16_33) rfl (teq hbr4).2) ?_
          show Go p e below _ s₁ (mkF m 36 #[.val (.int p1)] [])
          refine Go.of (fun _ => XS.iconst H0.here hx rfl (hb hby d_prog_9_16_36)) ?_
          show Go p e below _ s₁ (mkF m 37 #[.val (.int p1)] [(.int (1 : Int32))])
          refine Go.of (fun _ => XS.goto H0.here hx rfl (pc0 := 37) (pc' := 41) rfl (hb hby d_prog_9_16_37) (by decide) (by decide)) ?_
          show Go p e below _ s₁ (mkF m 41 #[.val (.int p1)] [(.int (1 : Int32))])
          exact own_retN H0 hx hlk (t := .boolean) hret (by simp) (hb hby d_prog_9_16_41) all0 ⟨by rw [if_pos (Or.inr (Or.inr hbr4))]; rfl, rfl⟩ (by decide) (by decide)
        · skip
          refine Go.of (fun _ => XS.icmpYes H0.here hx rfl (pc0 := 33) (pc' := 40) rfl (hb hby d_prog_9_16_33) rfl (feq hbr4).2 (by decide) (by decide)) ?_
          show Go p e below _ s₁ (mkF m 40 #[.val (.int p1)] [])
          refine Go.of (fun _ => XS.iconst H0.here hx rfl (hb hby d_prog_9_16_40)) ?_
          show Go p e below _ s₁ (mkF m 41 #[.val (.int p1)] [(.int (0 : Int32))])
          exact own_retN H0 hx hlk (t := .boolean) hret (by simp) (hb hby d_prog_9_16_41) all0 ⟨by rw [if_neg (fun q => q.elim (fun q => q.elim (fun q => (fun q => q hbr1) q.1) (fun q => (fun q => q hbr2) q.1)) (fun q => q.elim hbr3 hbr4))]; rfl, rfl⟩ (by decide) (by decide)
    · skip
      refine Go.of (fun _ => XS.icmpNo H0.here hx rfl (hb hby d_prog_9_16_15) rfl (flt hbr2).1) ?_
      show Go p e below _ s₁ (mkF m 18 #[.val (.int p1)] [])
      refine Go.of (fun _ => XS.iloadN H0.here hx rfl (hb hby d_prog_9_16_18) rfl) ?_
      show Go p e below _ s₁ (mkF m 19 #[.val (.int p1)] [(.int p1)])
      refine Go.of (fun _ => XS.bipush H0.here hx rfl (hb hby d_prog_9_16_19)) ?_
      show Go p e below _ s₁ (mkF m 21 #[.val (.int p1)] [(.int (90 : Int32)), (.int p1)])
      by_cases hbr5 : (90 : Int32) < p1
      · skip
        refine Go.of (fun _ => XS.icmpNo H0.here hx rfl (hb hby d_prog_9_16_21) rfl (tlt hbr5).2.2.2) ?_
        show Go p e below _ s₁ (mkF m 24 #[.val (.int p1)] [])
        refine Go.of (fun _ => XS.iloadN H0.here hx rfl (hb hby d_prog_9_16_24) rfl) ?_
        show Go p e below _ s₁ (mkF m 25 #[.val (.int p1)] [(.int p1)])
        refine Go.of (fun _ => XS.bipush H0.here hx rfl (hb hby d_prog_9_16_25)) ?_
        show Go p e below _ s₁ (mkF m 27 #[.val (.int p1)] [(.int (95 : Int32)), (.int p1)])
        by_cases hbr6 : p1 = (95 : Int32)
        · skip
          refine Go.of (fun _ => XS.icmpYes H0.here hx rfl (pc0 := 27) (pc' := 36) rfl (hb hby d_prog_9_16_27) rfl (teq hbr6).1 (by decide) (by decide)) ?_
          show Go p e below _ s₁ (mkF m 36 #[.val (.int p1)] [])
          refine Go.of (fun _ => XS.iconst H0.here hx rfl (hb hby d_prog_9_16_36)) ?_
          show Go p e below _ s₁ (mkF m 37 #[.val (.int p1)] [(.int (1 : Int32))])
          refine Go.of (fun _ => XS.goto H0.here hx rfl (pc0 := 37) (pc' := 41) rfl (hb hby d_prog_9_16_37) (by decide) (by decide)) ?_
          show Go p e below _ s₁ (mkF m 41 #[.val (.int p1)] [(.int (1 : Int32))])
          exact own_retN H0 hx hlk (t := .boolean) hret (by simp) (hb hby d_prog_9_16_41) all0 ⟨by rw [if_pos (Or.inr (Or.inl hbr6))]; rfl, rfl⟩ (by decide) (by decide)
        · skip
          refine Go.of (fun _ => XS.icmpNo H0.here hx rfl (hb hby d_prog_9_16_27) rfl (feq hbr6).1) ?_
          show Go p e below _ s₁ (mkF m 30 #[.val (.int p1)] [])
          refine Go.of (fun _ => XS.iloadN H0.here hx rfl (hb hby d_prog_9_16_30) rfl) ?_
          show Go p e below _ s₁ (mkF m 31 #[.val (.int p1)] [(.int p1)])
          refine Go.of (fun _ => XS.bipush H0.here hx rfl (hb hby d_prog_9_16_31)) ?_
          show Go p e below _ s₁ (mkF m 33 #[.val (.int p1)] [(.int (36 : Int32)), (.int p1)])
          by_cases hbr7 : p1 = (36 : Int32)
          · skip
            refine Go.of (fun _ => XS.icmpNo H0.here hx rfl (hb hby d_prog_9_16_33) rfl (teq hbr7).2) ?_
            show Go p e below _ s₁ (mkF m 36 #[.val (.int p1)] [])
            refine Go.of (fun _ => XS.iconst H0.here hx rfl (hb hby d_prog_9_16_36)) ?_
            show Go p e below _ s₁ (mkF m 37 #[.val (.int p1)] [(.int (1 : Int32))])
            refine Go.of (fun _ => XS.goto H0.here hx rfl (pc0 := 37) (pc' := 41) rfl (hb hby d_prog_9_16_37) (by decide) (by decide)) ?_
            show Go p e below _ s₁ (mkF m 41 #[.val (.int p1)] [(.int (1 : Int32))])
            exact own_retN H0 hx hlk (t := .boolean) hret (by simp) (hb hby d_prog_9_16_41) all0 ⟨by rw [if_pos (Or.inr (Or.inr hbr7))]; rfl, rfl⟩ (by decide) (by decide)
          · skip
            refine Go.of (fun _ => XS.icmpYes H0.here hx rfl (pc0 := 33) (pc' := 40) rfl (hb hby d_prog_9_16_33) rfl (feq hbr7).2 (by decide) (by decide)) ?_
            show Go p e below _ s₁ (mkF m 40 #[.val (.int p1)] [])
            refine Go.of (fun _ => XS.iconst H0.here hx rfl (hb hby d_prog_9_16_40)) ?_
            show Go p e below _ s₁ (mkF m 41 #[.val (.int p1)] [(.int (0 : Int32))])
            exact own_retN H0 hx hlk (t := .boolean) hret (by simp) (hb hby d_prog_9_16_41) all0 ⟨by rw [if_neg (fun q => q.elim (fun q => q.elim (fun q => (fun q => q hbr1) q.1) (fun q => (fun q => q hbr5) q.2)) (fun q => q.elim hbr6 hbr7))]; rfl, rfl⟩ (by decide) (by decide)
      · skip
        refine Go.of (fun _ => XS.icmpYes H0.here hx rfl (pc0 := 21) (pc' := 36) rfl (hb hby d_prog_9_16_21) rfl (flt hbr5).2.2.2 (by decide) (by decide)) ?_
        show Go p e below _ s₁ (mkF m 36 #[.val (.int p1)] [])
        refine Go.of (fun _ => XS.iconst H0.here hx rfl (hb hby d_prog_9_16_36)) ?_
        show Go p e below _ s₁ (mkF m 37 #[.val (.int p1)] [(.int (1 : Int32))])
        refine Go.of (fun _ => XS.goto H0.here hx rfl (pc0 := 37) (pc' := 41) rfl (hb hby d_prog_9_16_37) (by decide) (by decide)) ?_
        show Go p e below _ s₁ (mkF m 41 #[.val (.int p1)] [(.int (1 : Int32))])
        exact own_retN H0 hx hlk (t := .boolean) hret (by simp) (hb hby d_prog_9_16_41) all0 ⟨by rw [if_pos (Or.inl (Or.inr ⟨hbr2, hbr5⟩))]; rfl, rfl⟩ (by decide) (by decide)
  · skip
    refine Go.of (fun _ => XS.icmpNo H0.here hx rfl (hb hby d_prog_9_16_3) rfl (flt hbr1).1) ?_
    show Go p e below _ s₁ (mkF m 6 #[.val (.int p1)] [])
    refine Go.of (fun _ => XS.iloadN H0.here hx rfl (hb hby d_prog_9_16_6) rfl) ?_
    show Go p e below _ s₁ (mkF m 7 #[.val (.int p1)] [(.int p1)])
    refine Go.of (fun _ => XS.bipush H0.here hx rfl (hb hby d_prog_9_16_7)) ?_
    show Go p e below _ s₁ (mkF m 9 #[.val (.int p1)] [(.int (122 : Int32)), (.int p1)])
    by_cases hbr8 : (122 : Int32) < p1
    · skip
      refine Go.of (fun _ => XS.icmpNo H0.here hx rfl (hb hby d_prog_9_16_9) rfl (tlt hbr8).2.2.2) ?_
      show Go p e below _ s₁ (mkF m 12 #[.val (.int p1)] [])
      refine Go.of (fun _ => XS.iloadN H0.here hx rfl (hb hby d_prog_9_16_12) rfl) ?_
      show Go p e below _ s₁ (mkF m 13 #[.val (.int p1)] [(.int p1)])
      refine Go.of (fun _ => XS.bipush H0.here hx rfl (hb hby d_prog_9_16_13)) ?_
      show Go p e below _ s₁ (mkF m 15 #[.val (.int p1)] [(.int (65 : Int32)), (.int p1)])
      by_cases hbr9 : p1 < (65 : Int32)
      · skip
        refine Go.of (fun _ => XS.icmpYes H0.here hx rfl (pc0 := 15) (pc' := 24) rfl (hb hby d_prog_9_16_15) rfl (tlt hbr9).1 (by decide) (by decide)) ?_
        show Go p e below _ s₁ (mkF m 24 #[.val (.int p1)] [])
        refine Go.of (fun _ => XS.iloadN H0.here hx rfl (hb hby d_prog_9_16_24) rfl) ?_
        show Go p e below _ s₁ (mkF m 25 #[.val (.int p1)] [(.int p1)])
        refine Go.of (fun _ => XS.bipush H0.here hx rfl (hb hby d_prog_9_16_25)) ?_
        show Go p e below _ s₁ (mkF m 27 #[.val (.int p1)] [(.int (95 : Int32)), (.int p1)])
        by_cases hbr10 : p1 = (95 : Int32)
        · skip
          refine Go.of (fun _ => XS.icmpYes H0.here hx rfl (pc0 := 27) (pc' := 36) rfl (hb hby d_prog_9_16_27) rfl (teq hbr10).1 (by decide) (by decide)) ?_
          show Go p e below _ s₁ (mkF m 36 #[.val (.int p1)] [])
          refine Go.of (fun _ => XS.iconst H0.here hx rfl (hb hby d_prog_9_16_36)) ?_
          show Go p e below _ s₁ (mkF m 37 #[.val (.int p1)] [(.int (1 : Int32))])
          refine Go.of (fun _ => XS.goto H0.here hx rfl (pc0 := 37) (pc' := 41) rfl (hb hby d_prog_9_16_37) (by decide) (by decide)) ?_
          show Go p e below _ s₁ (mkF m 41 #[.val (.int p1)] [(.int (1 : Int32))])
          exact own_retN H0 hx hlk (t := .boolean) hret (by simp) (hb hby d_prog_9_16_41) all0 ⟨by rw [if_pos (Or.inr (Or.inl hbr10))]; rfl, rfl⟩ (by decide) (by decide)
        · skip
          refine Go.of (fun _ => XS.icmpNo H0.here hx rfl (hb hby d_prog_9_16_27) rfl (feq hbr10).1) ?_
          show Go p e below _ s₁ (mkF m 30 #[.val (.int p1)] [])
          refine Go.of (fun _ => XS.iloadN H0.here hx rfl (hb hby d_prog_9_16_30) rfl) ?_
          show Go p e below _ s₁ (mkF m 31 #[.val (.int p1)] [(.int p1)])
          refine Go.of (fun _ => XS.bipush H0.here hx rfl (hb hby d_prog_9_16_31)) ?_
          show Go p e below _ s₁ (mkF m 33 #[.val (.int p1)] [(.int (36 : Int32)), (.int p1)])
          by_cases hbr11 : p1 = (36 : Int32)
          · skip
            refine Go.of (fun _ => XS.icmpNo H0.here hx rfl (hb hby d_prog_9_16_33) rfl (teq hbr11).2) ?_
            show Go p e below _ s₁ (mkF m 36 #[.val (.int p1)] [])
            refine Go.of (fun _ => XS.iconst H0.here hx rfl (hb hby d_prog_9_16_36)) ?_
            show Go p e below _ s₁ (mkF m 37 #[.val (.int p1)] [(.int (1 : Int32))])
            refine Go.of (fun _ => XS.goto H0.here hx rfl (pc0 := 37) (pc' := 41) rfl (hb hby d_prog_9_16_37) (by decide) (by decide)) ?_
            show Go p e below _ s₁ (mkF m 41 #[.val (.int p1)] [(.int (1 : Int32))])
            exact own_retN H0 hx hlk (t := .boolean) hret (by simp) (hb hby d_prog_9_16_41) all0 ⟨by rw [if_pos (Or.inr (Or.inr hbr11))]; rfl, rfl⟩ (by decide) (by decide)
          · skip
            refine Go.of (fun _ => XS.icmpYes H0.here hx rfl (pc0 := 33) (pc' := 40) rfl (hb hby d_prog_9_16_33) rfl (feq hbr11).2 (by decide) (by decide)) ?_
            show Go p e below _ s₁ (mkF m 40 #[.val (.int p1)] [])
            refine Go.of (fun _ => XS.iconst H0.here hx rfl (hb hby d_prog_9_16_40)) ?_
            show Go p e below _ s₁ (mkF m 41 #[.val (.int p1)] [(.int (0 : Int32))])
            exact own_retN H0 hx hlk (t := .boolean) hret (by simp) (hb hby d_prog_9_16_41) all0 ⟨by rw [if_neg (fun q => q.elim (fun q => q.elim (fun q => (fun q => q hbr8) q.2) (fun q => (fun q => q hbr9) q.1)) (fun q => q.elim hbr10 hbr11))]; rfl, rfl⟩ (by decide) (by decide)
      · skip
        refine Go.of (fun _ => XS.icmpNo H0.here hx rfl (hb hby d_prog_9_16_15) rfl (flt hbr9).1) ?_
        show Go p e below _ s₁ (mkF m 18 #[.val (.int p1)] [])
        refine Go.of (fun _ => XS.iloadN H0.here hx rfl (hb hby d_prog_9_16_18) rfl) ?_
        show Go p e below _ s₁ (mkF m 19 #[.val (.int p1)] [(.int p1)])
        refine Go.of (fun _ => XS.bipush H0.here hx rfl (hb hby d_prog_9_16_19)) ?_
        show Go p e below _ s₁ (mkF m 21 #[.val (.int p1)] [(.int (90 : Int32)), (.int p1)])
        by_cases hbr12 : (90 : Int32) < p1
        · skip
          refine Go.of (fun _ => XS.icmpNo H0.here hx rfl (hb hby d_prog_9_16_21) rfl (tlt hbr12).2.2.2) ?_
          show Go p e below _ s₁ (mkF m 24 #[.val (.int p1)] [])
          refine Go.of (fun _ => XS.iloadN H0.here hx rfl (hb hby d_prog_9_16_24) rfl) ?_
          show Go p e below _ s₁ (mkF m 25 #[.val (.int p1)] [(.int p1)])
          refine Go.of (fun _ => XS.bipush H0.here hx rfl (hb hby d_prog_9_16_25)) ?_
          show Go p e below _ s₁ (mkF m 27 #[.val (.int p1)] [(.int (95 : Int32)), (.int p1)])
          by_cases hbr13 : p1 = (95 : Int32)
          · skip
            refine Go.of (fun _ => XS.icmpYes H0.here hx rfl (pc0 := 27) (pc' := 36) rfl (hb hby d_prog_9_16_27) rfl (teq hbr13).1 (by decide) (by decide)) ?_
            show Go p e below _ s₁ (mkF m 36 #[.val (.int p1)] [])
            refine Go.of (fun _ => XS.iconst H0.here hx rfl (hb hby d_prog_9_16_36)) ?_
            show Go p e below _ s₁ (mkF m 37 #[.val (.int p1)] [(.int (1 : Int32))])
            refine Go.of (fun _ => XS.goto H0.here hx rfl (pc0 := 37) (pc' := 41) rfl (hb hby d_prog_9_16_37) (by decide) (by decide)) ?_
            show Go p e below _ s₁ (mkF m 41 #[.val (.int p1)] [(.int (1 : Int32))])
            exact own_retN H0 hx hlk (t := .boolean) hret (by simp) (hb hby d_prog_9_16_41) all0 ⟨by rw [if_pos (Or.inr (Or.inl hbr13))]; rfl, rfl⟩ (by decide) (by decide)
          · skip
            refine Go.of (fun _ => XS.icmpNo H0.here hx rfl (hb hby d_prog_9_16_27) rfl (feq hbr13).1) ?_
            show Go p e below _ s₁ (mkF m 30 #[.val (.int p1)] [])
            refine Go.of (fun _ => XS.iloadN H0.here hx rfl (hb hby d_prog_9_16_30) rfl) ?_
            show Go p e below _ s₁ (mkF m 31 #[.val (.int p1)] [(.int p1)])
            refine Go.of (fun _ => XS.bipush H0.here hx rfl (hb hby d_prog_9_16_31)) ?_
            show Go p e below _ s₁ (mkF m 33 #[.val (.int p1)] [(.int (36 : Int32)), (.int p1)])
            by_cases hbr14 : p1 = (36 : Int32)
            · skip
              refine Go.of (fun _ => XS.icmpNo H0.here hx rfl (hb hby d_prog_9_16_33) rfl (teq hbr14).2) ?_
              show Go p e below _ s₁ (mkF m 36 #[.val (.int p1)] [])
              refine Go.of (fun _ => XS.iconst H0.here hx rfl (hb hby d_prog_9_16_36)) ?_
              show Go p e below _ s₁ (mkF m 37 #[.val (.int p1)] [(.int (1 : Int32))])
              refine Go.of (fun _ => XS.goto H0.here hx rfl (pc0 := 37) (pc' := 41) rfl (hb hby d_prog_9_16_37) (by decide) (by decide)) ?_
              show Go p e below _ s₁ (mkF m 41 #[.val (.int p1)] [(.int (1 : Int32))])
              exact own_retN H0 hx hlk (t := .boolean) hret (by simp) (hb hby d_prog_9_16_41) all0 ⟨by rw [if_pos (Or.inr (Or.inr hbr14))]; rfl, rfl⟩ (by decide) (by decide)
            · skip
              refine Go.of (fun _ => XS.icmpYes H0.here hx rfl (pc0 := 33) (pc' := 40) rfl (hb hby d_prog_9_16_33) rfl (feq hbr14).2 (by decide) (by decide)) ?_
              show Go p e below _ s₁ (mkF m 40 #[.val (.int p1)] [])
              refine Go.of (fun _ => XS.iconst H0.here hx rfl (hb hby d_prog_9_16_40)) ?_
              show Go p e below _ s₁ (mkF m 41 #[.val (.int p1)] [(.int (0 : Int32))])
              exact own_retN H0 hx hlk (t := .boolean) hret (by simp) (hb hby d_prog_9_16_41) all0 ⟨by rw [if_neg (fun q => q.elim (fun q => q.elim (fun q => (fun q => q hbr8) q.2) (fun q => (fun q => q hbr12) q.2)) (fun q => q.elim hbr13 hbr14))]; rfl, rfl⟩ (by decide) (by decide)
        · skip
          refine Go.of (fun _ => XS.icmpYes H0.here hx rfl (pc0 := 21) (pc' := 36) rfl (hb hby d_prog_9_16_21) rfl (flt hbr12).2.2.2 (by decide) (by decide)) ?_
          show Go p e below _ s₁ (mkF m 36 #[.val (.int p1)] [])
          refine Go.of (fun _ => XS.iconst H0.here hx rfl (hb hby d_prog_9_16_36)) ?_
          show Go p e below _ s₁ (mkF m 37 #[.val (.int p1)] [(.int (1 : Int32))])
          refine Go.of (fun _ => XS.goto H0.here hx rfl (pc0 := 37) (pc' := 41) rfl (hb hby d_prog_9_16_37) (by decide) (by decide)) ?_
          show Go p e below _ s₁ (mkF m 41 #[.val (.int p1)] [(.int (1 : Int32))])
          exact own_retN H0 hx hlk (t := .boolean) hret (by simp) (hb hby d_prog_9_16_41) all0 ⟨by rw [if_pos (Or.inl (Or.inr ⟨hbr9, hbr12⟩))]; rfl, rfl⟩ (by decide) (by decide)
    · skip
      refine Go.of (fun _ => XS.icmpYes H0.here hx rfl (pc0 := 9) (pc' := 36) rfl (hb hby d_prog_9_16_9) rfl (flt hbr8).2.2.2 (by decide) (by decide)) ?_
      show Go p e below _ s₁ (mkF m 36 #[.val (.int p1)] [])
      refine Go.of (fun _ => XS.iconst H0.here hx rfl (hb hby d_prog_9_16_36)) ?_
      show Go p e below _ s₁ (mkF m 37 #[.val (.int p1)] [(.int (1 : Int32))])
      refine Go.of (fun _ => XS.goto H0.here hx rfl (pc0 := 37) (pc' := 41) rfl (hb hby d_prog_9_16_37) (by decide) (by decide)) ?_
      show Go p e below _ s₁ (mkF m 41 #[.val (.int p1)] [(.int (1 : Int32))])
      exact own_retN H0 hx hlk (t := .boolean) hret (by simp) (hb hby d_prog_9_16_41) all0 ⟨by rw [if_pos (Or.inl (Or.inl ⟨hbr1, hbr8⟩))]; rfl, rfl⟩ (by decide) (by decide)
set_option maxRecDepth 65536 in
set_option maxHeartbeats 40000000 in
theorem rm_idg (l : Launch) (Z : State) (a0 : Array Value) (hw : ∀ d ∈ tables_1, d.before a0 Z = true) (hE : EW Z a0 ELx) (p1 : Int32) (h0 : Heap) (O0 : Ext Z.heap h0) :
    Ct l Z ELx a0 true (⟨"com/example/entitled/entitled/lang/Lexer", "isDigit", "(I)Z"⟩ : MethodName) prog_9_method_14_code 1 (some .boolean) [] ({ frames := 0, cells := 0, slots := 0, locals := 0 } : Room) #[(.int p1)] h0 [] (fun _ => []) (fun v h => v = some (.int (if own_dg p1 then 1 else 0)) ∧ h0 = h) := by
  refine own_enter (plainFor_of_name pn_5) hE O0 ?_
  intro p e s m below meth c s₁ hx hby hml hown hnm hret hlk H0
  refine Go.eq (ef_rm_idg m p1) ?_
  show Go p e below _ s₁ (mkF m 0 #[.val (.int p1)] [])
  refine Go.of (fun _ => XS.iloadN H0.here hx rfl (hb hby d_prog_9_14_0) rfl) ?_
  show Go p e below _ s₁ (mkF m 1 #[.val (.int p1)] [(.int p1)])
  refine Go.of (fun _ => XS.bipush H0.here hx rfl (hb hby d_prog_9_14_1)) ?_
  show Go p e below _ s₁ (mkF m 3 #[.val (.int p1)] [(.int (48 : Int32)), (.int p1)])
  by_cases hbr1 : p1 < (48 : Int32)
  · skip
    refine Go.of (fun _ => XS.icmpYes H0.here hx rfl (pc0 := 3) (pc' := 16) rfl (hb hby d_prog_9_14_3) rfl (tlt hbr1).1 (by decide) (by decide)) ?_
    show Go p e below _ s₁ (mkF m 16 #[.val (.int p1)] [])
    refine Go.of (fun _ => XS.iconst H0.here hx rfl (hb hby d_prog_9_14_16)) ?_
    show Go p e below _ s₁ (mkF m 17 #[.val (.int p1)] [(.int (0 : Int32))])
    exact own_retN H0 hx hlk (t := .boolean) hret (by simp) (hb hby d_prog_9_14_17) all0 ⟨by rw [if_neg (fun q => (fun q => q hbr1) q.1)]; rfl, rfl⟩ (by decide) (by decide)
  · skip
    refine Go.of (fun _ => XS.icmpNo H0.here hx rfl (hb hby d_prog_9_14_3) rfl (flt hbr1).1) ?_
    show Go p e below _ s₁ (mkF m 6 #[.val (.int p1)] [])
    refine Go.of (fun _ => XS.iloadN H0.here hx rfl (hb hby d_prog_9_14_6) rfl) ?_
    show Go p e below _ s₁ (mkF m 7 #[.val (.int p1)] [(.int p1)])
    refine Go.of (fun _ => XS.bipush H0.here hx rfl (hb hby d_prog_9_14_7)) ?_
    show Go p e below _ s₁ (mkF m 9 #[.val (.int p1)] [(.int (57 : Int32)), (.int p1)])
    by_cases hbr2 : (57 : Int32) < p1
    · skip
      refine Go.of (fun _ => XS.icmpYes H0.here hx rfl (pc0 := 9) (pc' := 16) rfl (hb hby d_prog_9_14_9) rfl (tlt hbr2).2.2.1 (by decide) (by decide)) ?_
      show Go p e below _ s₁ (mkF m 16 #[.val (.int p1)] [])
      refine Go.of (fun _ => XS.iconst H0.here hx rfl (hb hby d_prog_9_14_16)) ?_
      show Go p e below _ s₁ (mkF m 17 #[.val (.int p1)] [(.int (0 : Int32))])
      exact own_retN H0 hx hlk (t := .boolean) hret (by simp) (hb hby d_prog_9_14_17) all0 ⟨by rw [if_neg (fun q => (fun q => q hbr2) q.2)]; rfl, rfl⟩ (by decide) (by decide)
    · skip
      refine Go.of (fun _ => XS.icmpNo H0.here hx rfl (hb hby d_prog_9_14_9) rfl (flt hbr2).2.2.1) ?_
      show Go p e below _ s₁ (mkF m 12 #[.val (.int p1)] [])
      refine Go.of (fun _ => XS.iconst H0.here hx rfl (hb hby d_prog_9_14_12)) ?_
      show Go p e below _ s₁ (mkF m 13 #[.val (.int p1)] [(.int (1 : Int32))])
      refine Go.of (fun _ => XS.goto H0.here hx rfl (pc0 := 13) (pc' := 17) rfl (hb hby d_prog_9_14_13) (by decide) (by decide)) ?_
      show Go p e below _ s₁ (mkF m 17 #[.val (.int p1)] [(.int (1 : Int32))])
      exact own_retN H0 hx hlk (t := .boolean) hret (by simp) (hb hby d_prog_9_14_17) all0 ⟨by rw [if_pos ⟨hbr1, hbr2⟩]; rfl, rfl⟩ (by decide) (by decide)
set_option maxRecDepth 65536 in
set_option maxHeartbeats 40000000 in
theorem rm_inp (l : Launch) (Z : State) (a0 : Array Value) (hw : ∀ d ∈ tables_1, d.before a0 Z = true) (hE : EW Z a0 ELx) (p1 : Int32) (h0 : Heap) (O0 : Ext Z.heap h0) :
    Ct l Z ELx a0 true (⟨"com/example/entitled/entitled/lang/Lexer", "isNamePart", "(I)Z"⟩ : MethodName) prog_9_method_17_code 1 (some .boolean) [] ({ frames := 1, cells := 0, slots := 0, locals := 12 } : Room) #[(.int p1)] h0 [] (fun _ => []) (fun v h => v = some (.int (if own_pt p1 then 1 else 0)) ∧ h0 = h) := by
  refine own_enter (plainFor_of_name pn_5) hE O0 ?_
  intro p e s m below meth c s₁ hx hby hml hown hnm hret hlk H0
  refine Go.eq (ef_rm_inp m p1) ?_
  show Go p e below _ s₁ (mkF m 0 #[.val (.int p1)] [])
  refine Go.of (fun _ => XS.iloadN H0.here hx rfl (hb hby d_prog_9_17_0) rfl) ?_
  show Go p e below _ s₁ (mkF m 1 #[.val (.int p1)] [(.int p1)])
  refine own_staticW H0 hx (y := (⟨"com/example/entitled/entitled/lang/Lexer", "isNameStart", "(I)Z"⟩ : MethodName)) hown (ow hw 73 rfl) (ow hw 74 rfl) (ow hw 26 rfl) (ow hw 75 rfl) (by decide) (W := 0) (rm_ins l Z a0 hw hE p1 h0 H0.old ) (fun _ hq => nomatch hq) (by decide) (by decide) rfl (by rw [hml]; rfl) (argsL := [(.int p1)]) (rest := []) rfl (lenOf pd_13 rfl) rfl (by show 2 * 0 + _ ≤ _; exact Nat.le_of_eq rfl) (hb hby d_prog_9_17_1) (by decide) (by decide) fun T1 h3 v5 H2 hs6 q4 => ?_
  obtain ⟨ve8, e7⟩ := q4
  subst e7
  subst ve8
  show Go p e below _ T1 (mkF m 4 #[.val (.int p1)] [(.int (if own_sn p1 then 1 else 0))])
  by_cases hq9 : own_sn p1
  · skip
    rw [if_pos hq9]
    show Go p e below _ T1 (mkF m 4 #[.val (.int p1)] [(.int (1 : Int32))])
    refine Go.of (fun _ => XS.ifYes H2.here hx rfl (pc0 := 4) (pc' := 14) rfl (hb hby d_prog_9_17_4) rfl ((if0 _ _).trans (feq (by decide : ¬ ((1 : Int32) = (0 : Int32)))).2) (by decide) (by decide)) ?_
    show Go p e below _ T1 (mkF m 14 #[.val (.int p1)] [])
    refine Go.of (fun _ => XS.iconst H2.here hx rfl (hb hby d_prog_9_17_14)) ?_
    show Go p e below _ T1 (mkF m 15 #[.val (.int p1)] [(.int (1 : Int32))])
    refine Go.of (fun _ => XS.goto H2.here hx rfl (pc0 := 15) (pc' := 19) rfl (hb hby d_prog_9_17_15) (by decide) (by decide)) ?_
    show Go p e below _ T1 (mkF m 19 #[.val (.int p1)] [(.int (1 : Int32))])
    exact own_retN H2 hx hlk (t := .boolean) hret (by simp) (hb hby d_prog_9_17_19) all0 ⟨by rw [if_pos (Or.inl hq9)]; rfl, rfl⟩ (by decide) (by decide)
  · skip
    rw [if_neg hq9]
    show Go p e below _ T1 (mkF m 4 #[.val (.int p1)] [(.int (0 : Int32))])
    refine Go.of (fun _ => XS.ifNo H2.here hx rfl (hb hby d_prog_9_17_4) rfl ((if0 _ _).trans (teq (by decide : (0 : Int32) = (0 : Int32))).2)) ?_
    show Go p e below _ T1 (mkF m 7 #[.val (.int p1)] [])
    refine Go.of (fun _ => XS.iloadN H2.here hx rfl (hb hby d_prog_9_17_7) rfl) ?_
    show Go p e below _ T1 (mkF m 8 #[.val (.int p1)] [(.int p1)])
    refine own_staticW H2 hx (y := (⟨"com/example/entitled/entitled/lang/Lexer", "isDigit", "(I)Z"⟩ : MethodName)) hown (ow hw 121 rfl) (ow hw 122 rfl) (ow hw 26 rfl) (ow hw 123 rfl) (by decide) (W := 0) (rm_idg l Z a0 hw hE p1 h0 H2.old ) (fun _ hq => nomatch hq) (by decide) (by decide) rfl (by rw [hml]; rfl) (argsL := [(.int p1)]) (rest := []) rfl (lenOf pd_13 rfl) rfl (by show 2 * 0 + _ ≤ _; exact Nat.le_of_eq rfl) (hb hby d_prog_9_17_8) (by decide) (by decide) fun T10 h12 v14 H11 hs15 q13 => ?_
    obtain ⟨ve17, e16⟩ := q13
    subst e16
    subst ve17
    show Go p e below _ T10 (mkF m 11 #[.val (.int p1)] [(.int (if own_dg p1 then 1 else 0))])
    by_cases hq18 : own_dg p1
    · skip
      rw [if_pos hq18]
      show Go p e below _ T10 (mkF m 11 #[.val (.int p1)] [(.int (1 : Int32))])
      refine Go.of (fun _ => XS.ifNo H11.here hx rfl (hb hby d_prog_9_17_11) rfl ((if0 _ _).trans (feq (by decide : ¬ ((1 : Int32) = (0 : Int32)))).1)) ?_
      show Go p e below _ T10 (mkF m 14 #[.val (.int p1)] [])
      refine Go.of (fun _ => XS.iconst H11.here hx rfl (hb hby d_prog_9_17_14)) ?_
      show Go p e below _ T10 (mkF m 15 #[.val (.int p1)] [(.int (1 : Int32))])
      refine Go.of (fun _ => XS.goto H11.here hx rfl (pc0 := 15) (pc' := 19) rfl (hb hby d_prog_9_17_15) (by decide) (by decide)) ?_
      show Go p e below _ T10 (mkF m 19 #[.val (.int p1)] [(.int (1 : Int32))])
      exact own_retN H11 hx hlk (t := .boolean) hret (by simp) (hb hby d_prog_9_17_19) all0 ⟨by rw [if_pos (Or.inr hq18)]; rfl, rfl⟩ (by decide) (by decide)
    · skip
      rw [if_neg hq18]
      show Go p e below _ T10 (mkF m 11 #[.val (.int p1)] [(.int (0 : Int32))])
      refine Go.of (fun _ => XS.ifYes H11.here hx rfl (pc0 := 11) (pc' := 18) rfl (hb hby d_prog_9_17_11) rfl ((if0 _ _).trans (teq (by decide : (0 : Int32) = (0 : Int32))).1) (by decide) (by decide)) ?_
      show Go p e below _ T10 (mkF m 18 #[.val (.int p1)] [])
      refine Go.of (fun _ => XS.iconst H11.here hx rfl (hb hby d_prog_9_17_18)) ?_
      show Go p e below _ T10 (mkF m 19 #[.val (.int p1)] [(.int (0 : Int32))])
      exact own_retN H11 hx hlk (t := .boolean) hret (by simp) (hb hby d_prog_9_17_19) all0 ⟨by rw [if_neg (fun q => q.elim hq9 hq18)]; rfl, rfl⟩ (by decide) (by decide)
set_option maxRecDepth 65536 in
set_option maxHeartbeats 40000000 in
theorem rm_inm (l : Launch) (Z : State) (a0 : Array Value) (hw : ∀ d ∈ tables_1, d.before a0 Z = true) (hE : EW Z a0 ELx) (a1 : Addr) (cs : List Int32) (nN : Nat) (zc : Int32) (fm : Value) (h0 : Heap) (O0 : Ext Z.heap h0) (Sx : own_str Z h0 a1 cs) (lx : cs.length ≤ 4) (hl : cs.length = nN) (SC : Sta Z Z.heap "java/lang/String" "COMPACT_STRINGS" "Z" (.int zc)) (hzc : ¬ zc = 0) (SF : Sta Z Z.heap "jdk/internal/util/Preconditions" "SIOOBE_FORMATTER" "Ljava/util/function/BiFunction;" fm) (hfm : fm.isRef = true) (SA : Sta Z Z.heap "java/lang/StringUTF16" "$assertionsDisabled" "Z" (.int 1)) (SHB : Sta Z Z.heap "java/lang/StringUTF16" "HI_BYTE_SHIFT" "I" (.int 0)) (SLB : Sta Z Z.heap "java/lang/StringUTF16" "LO_BYTE_SHIFT" "I" (.int 8)) :
    Ct l Z ELx a0 true (⟨"com/example/entitled/entitled/lang/Lexer", "isName", "(Ljava/lang/String;)Z"⟩ : MethodName) prog_9_method_12_code 2 (some .boolean) [] ({ frames := 5, cells := 0, slots := 0, locals := 80 } : Room) #[(.ref a1)] h0 [] (fun _ => []) (fun v h => v = some (.int (if own_isn cs then 1 else 0)) ∧ h0 = h) := by
  refine own_enter (plainFor_of_name pn_5) hE O0 ?_
  intro p e s m below meth c s₁ hx hby hml hown hnm hret hlk H0
  refine Go.eq (ef_rm_inm m a1) ?_
  have K1 : Keep h0 h0 [] := Keep.refl _ _
  have hlx : nN ≤ 4 := hl ▸ lx
  show Go p e below _ s₁ (mkF m 0 #[.val (.ref a1), .unset] [])
  refine Go.of (fun _ => XS.aloadN H0.here hx rfl (hb hby d_prog_9_12_0) rfl rfl) ?_
  show Go p e below _ s₁ (mkF m 1 #[.val (.ref a1), .unset] [(.ref a1)])
  refine own_emS H0 hx hown (ow hw 28 rfl) (ow hw 29 rfl) (ow hw 31 rfl) (ow hw 30 rfl) (own_hwe hw) (ow hw 4 rfl) Sx (Nat.le_trans lx (by decide)) (W := 0) (by decide) (by decide) rfl (by rw [hml]; rfl) rfl (by show 2 * 0 + _ ≤ _; exact Nat.le_of_eq rfl) (hb hby d_prog_9_12_1) (by decide) (by decide) fun T2 H3 => ?_
  show Go p e below _ T2 (mkF m 4 #[.val (.ref a1), .unset] [(.int (if (cs).length = 0 then 1 else 0))])
  by_cases hq4 : (cs).length = 0
  · skip
    rw [if_pos hq4]
    show Go p e below _ T2 (mkF m 4 #[.val (.ref a1), .unset] [(.int (1 : Int32))])
    refine Go.of (fun _ => XS.ifYes H3.here hx rfl (pc0 := 4) (pc' := 18) rfl (hb hby d_prog_9_12_4) rfl ((if0 _ _).trans (feq (by decide : ¬ ((1 : Int32) = (0 : Int32)))).2) (by decide) (by decide)) ?_
    show Go p e below _ T2 (mkF m 18 #[.val (.ref a1), .unset] [])
    refine Go.of (fun _ => XS.iconst H3.here hx rfl (hb hby d_prog_9_12_18)) ?_
    show Go p e below _ T2 (mkF m 19 #[.val (.ref a1), .unset] [(.int (0 : Int32))])
    exact own_retN H3 hx hlk (t := .boolean) hret (by simp) (hb hby d_prog_9_12_19) all0 ⟨by rw [if_neg (fun q => q.1 hq4)]; rfl, rfl⟩ (by decide) (by decide)
  · skip
    rw [if_neg hq4]
    show Go p e below _ T2 (mkF m 4 #[.val (.ref a1), .unset] [(.int (0 : Int32))])
    refine Go.of (fun _ => XS.ifNo H3.here hx rfl (hb hby d_prog_9_12_4) rfl ((if0 _ _).trans (teq (by decide : (0 : Int32) = (0 : Int32))).2)) ?_
    show Go p e below _ T2 (mkF m 7 #[.val (.ref a1), .unset] [])
    refine Go.of (fun _ => XS.aloadN H3.here hx rfl (hb hby d_prog_9_12_7) rfl rfl) ?_
    show Go p e below _ T2 (mkF m 8 #[.val (.ref a1), .unset] [(.ref a1)])
    refine Go.of (fun _ => XS.iconst H3.here hx rfl (hb hby d_prog_9_12_8)) ?_
    show Go p e below _ T2 (mkF m 9 #[.val (.ref a1), .unset] [(.int (0 : Int32)), (.ref a1)])
    refine own_virtualW H3 hx (y := (⟨"java/lang/String", "charAt", "(I)C"⟩ : MethodName)) (z := (⟨"java/lang/String", "charAt", "(I)C"⟩ : MethodName)) hown (ow hw 51 rfl) (ow hw 52 rfl) (own_nf (ow hw 54 rfl) rfl) (ow hw 54 rfl) (ow hw 53 rfl) (ow hw 5 rfl) (ow hw 55 rfl) (by decide) (W := 0) (rm_cha l Z a0 hw hE a1 cs 0 zc fm h0 H3.old Sx lx (Nat.pos_of_ne_zero hq4) SC hzc SF hfm SA SHB SLB) (fun _ hq => nomatch hq) (by decide) (by decide) Sx.exa rfl (by rw [hml]; rfl) (argsL := [(.int (0 : Int32))]) (rest := []) rfl (lenOf pd_14 rfl) rfl (by show 2 * 0 + _ ≤ _; exact Nat.le_of_eq rfl) (hb hby d_prog_9_12_9) (by decide) (by decide) fun T5 h7 v9 H6 hs10 q8 => ?_
    obtain ⟨ve12, e11⟩ := q8
    subst e11
    subst ve12
    show Go p e below _ T5 (mkF m 12 #[.val (.ref a1), .unset] [(.int (cs.getD 0 0))])
    refine own_staticW H6 hx (y := (⟨"com/example/entitled/entitled/lang/Lexer", "isNameStart", "(I)Z"⟩ : MethodName)) hown (ow hw 73 rfl) (ow hw 74 rfl) (ow hw 26 rfl) (ow hw 75 rfl) (by decide) (W := 0) (rm_ins l Z a0 hw hE (cs.getD 0 0) h0 H6.old ) (fun _ hq => nomatch hq) (by decide) (by decide) rfl (by rw [hml]; rfl) (argsL := [(.int (cs.getD 0 0))]) (rest := []) rfl (lenOf pd_13 rfl) rfl (by show 2 * 0 + _ ≤ _; exact Nat.le_of_eq rfl) (hb hby d_prog_9_12_12) (by decide) (by decide) fun T13 h15 v17 H14 hs18 q16 => ?_
    obtain ⟨ve20, e19⟩ := q16
    subst e19
    subst ve20
    show Go p e below _ T13 (mkF m 15 #[.val (.ref a1), .unset] [(.int (if own_sn (cs.getD 0 0) then 1 else 0))])
    by_cases hq21 : own_sn (cs.getD 0 0)
    · skip
      rw [if_pos hq21]
      show Go p e below _ T13 (mkF m 15 #[.val (.ref a1), .unset] [(.int (1 : Int32))])
      refine Go.of (fun _ => XS.ifYes H14.here hx rfl (pc0 := 15) (pc' := 20) rfl (hb hby d_prog_9_12_15) rfl ((if0 _ _).trans (feq (by decide : ¬ ((1 : Int32) = (0 : Int32)))).2) (by decide) (by decide)) ?_
      show Go p e below _ T13 (mkF m 20 #[.val (.ref a1), .unset] [])
      have LN : ∀ (k1 i1 : Nat) (T : State) (h : Heap), (i1 + k1 = nN) → (Wk p l e ({ frames := 5, cells := 0, slots := 0, locals := 80 } : Room) s m #[(.ref a1)] below meth c Z ELx a0 true T h 0 0 []) → (Keep h0 h []) → (own_str Z h a1 cs) → (h0 = h) → (1 ≤ i1) → (∀ j, 1 ≤ j → j < i1 → own_pt (cs.getD j 0)) → Go p e below (own_fin Z ELx true s below (fun v h => v = some (.int (if own_isn cs then 1 else 0)) ∧ h0 = h) (({ frames := 5, cells := 0, slots := 0, locals := 80 } : Room)).cells (({ frames := 5, cells := 0, slots := 0, locals := 80 } : Room)).slots (fun _ => [])) T (mkF m 22 #[.val (.ref a1), .val (.int (Int32.ofNat i1))] []) := by
        intro k1
        induction k1 with
        | zero =>
          intro i1 T h hk1 H K1 Sy he hi1 hall
          have hlt : ¬ (Int32.ofNat i1) < (Int32.ofNat nN) := by rw [own_onlt (by omega) (by omega)]; omega
          show Go p e below _ T (mkF m 22 #[.val (.ref a1), .val (.int (Int32.ofNat i1))] [])
          refine Go.of (fun _ => XS.iloadN H.here hx rfl (hb hby d_prog_9_12_22) rfl) ?_
          show Go p e below _ T (mkF m 23 #[.val (.ref a1), .val (.int (Int32.ofNat i1))] [(.int (Int32.ofNat i1))])
          refine Go.of (fun _ => XS.aloadN H.here hx rfl (hb hby d_prog_9_12_23) rfl rfl) ?_
          show Go p e below _ T (mkF m 24 #[.val (.ref a1), .val (.int (Int32.ofNat i1))] [(.ref a1), (.int (Int32.ofNat i1))])
          refine own_lenS H hx hown (ow hw 108 rfl) (ow hw 109 rfl) (ow hw 111 rfl) (ow hw 110 rfl) (own_hwl hw) (ow hw 4 rfl) Sy (Nat.le_trans lx (by decide)) SC hzc (W := 1) (by decide) (by decide) rfl (by rw [hml]; rfl) rfl (by show 2 * 0 + _ ≤ _; exact Nat.le_of_eq rfl) (hb hby d_prog_9_12_24) (by decide) (by decide) fun T22 H23 => ?_
          show Go p e below _ T22 (mkF m 27 #[.val (.ref a1), .val (.int (Int32.ofNat i1))] [(.int (Int32.ofNat (cs).length)), (.int (Int32.ofNat i1))])
          rw [show Int32.ofNat cs.length = Int32.ofNat nN from congrArg _ hl]
          show Go p e below _ T22 (mkF m 27 #[.val (.ref a1), .val (.int (Int32.ofNat i1))] [(.int (Int32.ofNat nN)), (.int (Int32.ofNat i1))])
          refine Go.of (fun _ => XS.icmpYes H23.here hx rfl (pc0 := 27) (pc' := 49) rfl (hb hby d_prog_9_12_27) rfl (flt hlt).2.1 (by decide) (by decide)) ?_
          show Go p e below _ T22 (mkF m 49 #[.val (.ref a1), .val (.int (Int32.ofNat i1))] [])
          refine Go.of (fun _ => XS.iconst H23.here hx rfl (hb hby d_prog_9_12_49)) ?_
          show Go p e below _ T22 (mkF m 50 #[.val (.ref a1), .val (.int (Int32.ofNat i1))] [(.int (1 : Int32))])
          exact own_retN H23 hx hlk (t := .boolean) hret (by simp) (hb hby d_prog_9_12_50) all0 ⟨by rw [if_pos (own_isnT hl hq4 hq21 (fun j h1 hj => hall j h1 (by omega)))]; rfl, he⟩ (by decide) (by decide)
        | succ k1 ih =>
          intro i1 T h hk1 H K1 Sy he hi1 hall
          have hlt : (Int32.ofNat i1) < (Int32.ofNat nN) := by rw [own_onlt (by omega) (by omega)]; omega
          show Go p e below _ T (mkF m 22 #[.val (.ref a1), .val (.int (Int32.ofNat i1))] [])
          refine Go.of (fun _ => XS.iloadN H.here hx rfl (hb hby d_prog_9_12_22) rfl) ?_
          show Go p e below _ T (mkF m 23 #[.val (.ref a1), .val (.int (Int32.ofNat i1))] [(.int (Int32.ofNat i1))])
          refine Go.of (fun _ => XS.aloadN H.here hx rfl (hb hby d_prog_9_12_23) rfl rfl) ?_
          show Go p e below _ T (mkF m 24 #[.val (.ref a1), .val (.int (Int32.ofNat i1))] [(.ref a1), (.int (Int32.ofNat i1))])
          refine own_lenS H hx hown (ow hw 108 rfl) (ow hw 109 rfl) (ow hw 111 rfl) (ow hw 110 rfl) (own_hwl hw) (ow hw 4 rfl) Sy (Nat.le_trans lx (by decide)) SC hzc (W := 1) (by decide) (by decide) rfl (by rw [hml]; rfl) rfl (by show 2 * 0 + _ ≤ _; exact Nat.le_of_eq rfl) (hb hby d_prog_9_12_24) (by decide) (by decide) fun T24 H25 => ?_
          show Go p e below _ T24 (mkF m 27 #[.val (.ref a1), .val (.int (Int32.ofNat i1))] [(.int (Int32.ofNat (cs).length)), (.int (Int32.ofNat i1))])
          rw [show Int32.ofNat cs.length = Int32.ofNat nN from congrArg _ hl]
          show Go p e below _ T24 (mkF m 27 #[.val (.ref a1), .val (.int (Int32.ofNat i1))] [(.int (Int32.ofNat nN)), (.int (Int32.ofNat i1))])
          refine Go.of (fun _ => XS.icmpNo H25.here hx rfl (hb hby d_prog_9_12_27) rfl (tlt hlt).2.1) ?_
          show Go p e below _ T24 (mkF m 30 #[.val (.ref a1), .val (.int (Int32.ofNat i1))] [])
          refine Go.of (fun _ => XS.aloadN H25.here hx rfl (hb hby d_prog_9_12_30) rfl rfl) ?_
          show Go p e below _ T24 (mkF m 31 #[.val (.ref a1), .val (.int (Int32.ofNat i1))] [(.ref a1)])
          refine Go.of (fun _ => XS.iloadN H25.here hx rfl (hb hby d_prog_9_12_31) rfl) ?_
          show Go p e below _ T24 (mkF m 32 #[.val (.ref a1), .val (.int (Int32.ofNat i1))] [(.int (Int32.ofNat i1)), (.ref a1)])
          refine own_virtualW H25 hx (y := (⟨"java/lang/String", "charAt", "(I)C"⟩ : MethodName)) (z := (⟨"java/lang/String", "charAt", "(I)C"⟩ : MethodName)) hown (ow hw 51 rfl) (ow hw 52 rfl) (own_nf (ow hw 54 rfl) rfl) (ow hw 54 rfl) (ow hw 53 rfl) (ow hw 5 rfl) (ow hw 55 rfl) (by decide) (W := 0) (rm_cha l Z a0 hw hE a1 cs i1 zc fm h H25.old Sy lx (by omega) SC hzc SF hfm SA SHB SLB) (fun _ hq => nomatch hq) (by decide) (by decide) Sy.exa rfl (by rw [hml]; rfl) (argsL := [(.int (Int32.ofNat i1))]) (rest := []) rfl (lenOf pd_14 rfl) rfl (by show 2 * 0 + _ ≤ _; exact Nat.le_of_eq rfl) (hb hby d_prog_9_12_32) (by decide) (by decide) fun T26 h28 v30 H27 hs31 q29 => ?_
          obtain ⟨ve33, e32⟩ := q29
          subst e32
          subst ve33
          show Go p e below _ T26 (mkF m 35 #[.val (.ref a1), .val (.int (Int32.ofNat i1))] [(.int (cs.getD i1 0))])
          refine own_staticW H27 hx (y := (⟨"com/example/entitled/entitled/lang/Lexer", "isNamePart", "(I)Z"⟩ : MethodName)) hown (ow hw 118 rfl) (ow hw 119 rfl) (ow hw 26 rfl) (ow hw 120 rfl) (by decide) (W := 0) (rm_inp l Z a0 hw hE (cs.getD i1 0) h H27.old ) (fun _ hq => nomatch hq) (by decide) (by decide) rfl (by rw [hml]; rfl) (argsL := [(.int (cs.getD i1 0))]) (rest := []) rfl (lenOf pd_13 rfl) rfl (by show 2 * 0 + _ ≤ _; exact Nat.le_of_eq rfl) (hb hby d_prog_9_12_35) (by decide) (by decide) fun T34 h36 v38 H35 hs39 q37 => ?_
          obtain ⟨ve41, e40⟩ := q37
          subst e40
          subst ve41
          show Go p e below _ T34 (mkF m 38 #[.val (.ref a1), .val (.int (Int32.ofNat i1))] [(.int (if own_pt (cs.getD i1 0) then 1 else 0))])
          by_cases hq42 : own_pt (cs.getD i1 0)
          · skip
            rw [if_pos hq42]
            show Go p e below _ T34 (mkF m 38 #[.val (.ref a1), .val (.int (Int32.ofNat i1))] [(.int (1 : Int32))])
            refine Go.of (fun _ => XS.ifYes H35.here hx rfl (pc0 := 38) (pc' := 43) rfl (hb hby d_prog_9_12_38) rfl ((if0 _ _).trans (feq (by decide : ¬ ((1 : Int32) = (0 : Int32)))).2) (by decide) (by decide)) ?_
            show Go p e below _ T34 (mkF m 43 #[.val (.ref a1), .val (.int (Int32.ofNat i1))] [])
            refine Go.of (fun _ => XS.iinc H35.here hx rfl (hb hby d_prog_9_12_43) rfl (l' := #[.val (.ref a1), .val (.int ((Int32.ofNat i1) + (1 : Int32)))]) rfl) ?_
            show Go p e below _ T34 (mkF m 46 #[.val (.ref a1), .val (.int ((Int32.ofNat i1) + (1 : Int32)))] [])
            refine Go.of (fun _ => XS.goto H35.here hx rfl (pc0 := 46) (pc' := 22) rfl (hb hby d_prog_9_12_46) (by decide) (by decide)) ?_
            show Go p e below _ T34 (mkF m 22 #[.val (.ref a1), .val (.int ((Int32.ofNat i1) + (1 : Int32)))] [])
            rw [show (Int32.ofNat i1) + (1 : Int32) = Int32.ofNat (i1 + 1) from own_onadd i1 1]
            exact ih (i1 + 1) T34 h (by omega) H35 K1 Sy he (by omega) (fun j h1 hj => if q : j = i1 then q ▸ hq42 else hall j h1 (by omega))
          · skip
            rw [if_neg hq42]
            show Go p e below _ T34 (mkF m 38 #[.val (.ref a1), .val (.int (Int32.ofNat i1))] [(.int (0 : Int32))])
            refine Go.of (fun _ => XS.ifNo H35.here hx rfl (hb hby d_prog_9_12_38) rfl ((if0 _ _).trans (teq (by decide : (0 : Int32) = (0 : Int32))).2)) ?_
            show Go p e below _ T34 (mkF m 41 #[.val (.ref a1), .val (.int (Int32.ofNat i1))] [])
            refine Go.of (fun _ => XS.iconst H35.here hx rfl (hb hby d_prog_9_12_41)) ?_
            show Go p e below _ T34 (mkF m 42 #[.val (.ref a1), .val (.int (Int32.ofNat i1))] [(.int (0 : Int32))])
            exact own_retN H35 hx hlk (t := .boolean) hret (by simp) (hb hby d_prog_9_12_42) all0 ⟨by rw [if_neg (own_isnF (by omega) hi1 hq42)]; rfl, he⟩ (by decide) (by decide)
      show Go p e below _ T13 (mkF m 20 #[.val (.ref a1), .unset] [])
      refine Go.of (fun _ => XS.iconst H14.here hx rfl (hb hby d_prog_9_12_20)) ?_
      show Go p e below _ T13 (mkF m 21 #[.val (.ref a1), .unset] [(.int (1 : Int32))])
      refine Go.of (fun _ => XS.istoreN H14.here hx rfl (hb hby d_prog_9_12_21) rfl (l' := #[.val (.ref a1), .val (.int (1 : Int32))]) rfl) ?_
      show Go p e below _ T13 (mkF m 22 #[.val (.ref a1), .val (.int (1 : Int32))] [])
      exact LN (nN - 1) 1 T13 h0 (by omega) H14 K1 Sx rfl (Nat.le_refl _) (fun j h1 hj => absurd hj (by omega))
    · skip
      rw [if_neg hq21]
      show Go p e below _ T13 (mkF m 15 #[.val (.ref a1), .unset] [(.int (0 : Int32))])
      refine Go.of (fun _ => XS.ifNo H14.here hx rfl (hb hby d_prog_9_12_15) rfl ((if0 _ _).trans (teq (by decide : (0 : Int32) = (0 : Int32))).2)) ?_
      show Go p e below _ T13 (mkF m 18 #[.val (.ref a1), .unset] [])
      refine Go.of (fun _ => XS.iconst H14.here hx rfl (hb hby d_prog_9_12_18)) ?_
      show Go p e below _ T13 (mkF m 19 #[.val (.ref a1), .unset] [(.int (0 : Int32))])
      exact own_retN H14 hx hlk (t := .boolean) hret (by simp) (hb hby d_prog_9_12_19) all0 ⟨by rw [if_neg (fun q => hq21 q.2.1)]; rfl, rfl⟩ (by decide) (by decide)
set_option maxRecDepth 65536 in
set_option maxHeartbeats 40000000 in
theorem rm_law (l : Launch) (Z : State) (a0 : Array Value) (hw : ∀ d ∈ tables_1, d.before a0 Z = true) (hE : EW Z a0 ELx) (p0 : Int32) (p1 : Int32) (p2 : Int32) (p3 : Int32) (p4 : Int32) (zc : Int32) (fm : Value) (h0 : Heap) (O0 : Ext Z.heap h0) (SC : Sta Z Z.heap "java/lang/String" "COMPACT_STRINGS" "Z" (.int zc)) (hzc : ¬ zc = 0) (SF : Sta Z Z.heap "jdk/internal/util/Preconditions" "SIOOBE_FORMATTER" "Ljava/util/function/BiFunction;" fm) (hfm : fm.isRef = true) (SA : Sta Z Z.heap "java/lang/StringUTF16" "$assertionsDisabled" "Z" (.int 1)) (SHB : Sta Z Z.heap "java/lang/StringUTF16" "HI_BYTE_SHIFT" "I" (.int 0)) (SLB : Sta Z Z.heap "java/lang/StringUTF16" "LO_BYTE_SHIFT" "I" (.int 8)) :
    Ct l Z ELx a0 true x code maxLocals ret tables_1 room_1 #[(.int p0), (.int p1), (.int p2), (.int p3), (.int p4)] h0 [] (fun _ => []) (fun v h => v = some (.int 1)) := by
  refine own_enter (plainFor_of_name pn_4) hE O0 ?_
  intro p e s m below meth c s₁ hx hby hml hown hnm hret hlk H0
  have hml : c.maxLocals = 13 := hml
  have hret : meth.sig.returnType = (some .boolean) := hret
  refine Go.eq (ef_rm_law m p0 p1 p2 p3 p4) ?_
  have hst := own_hst hw
  show Go p e below _ s₁ (mkF m 0 #[.val (.int p0), .val (.int p1), .val (.int p2), .val (.int p3), .val (.int p4), .unset, .unset, .unset, .unset, .unset, .unset, .unset, .unset] [])
  refine Go.of (fun _ => XS.iloadN H0.here hx rfl (hb hby at_0) rfl) ?_
  show Go p e below _ s₁ (mkF m 1 #[.val (.int p0), .val (.int p1), .val (.int p2), .val (.int p3), .val (.int p4), .unset, .unset, .unset, .unset, .unset, .unset, .unset, .unset] [(.int p0)])
  refine own_ldcI H0 hx hown (ow hw 0 rfl) rfl (hb hby at_1) ?_
  show Go p e below _ s₁ (mkF m 3 #[.val (.int p0), .val (.int p1), .val (.int p2), .val (.int p3), .val (.int p4), .unset, .unset, .unset, .unset, .unset, .unset, .unset, .unset] [(.int (2147483647 : Int32)), (.int p0)])
  refine Go.of (fun _ => XS.iand H0.here hx rfl (hb hby at_3) rfl) ?_
  show Go p e below _ s₁ (mkF m 4 #[.val (.int p0), .val (.int p1), .val (.int p2), .val (.int p3), .val (.int p4), .unset, .unset, .unset, .unset, .unset, .unset, .unset, .unset] [(.int (p0 &&& (2147483647 : Int32)))])
  refine Go.of (fun _ => XS.iconst H0.here hx rfl (hb hby at_4)) ?_
  show Go p e below _ s₁ (mkF m 5 #[.val (.int p0), .val (.int p1), .val (.int p2), .val (.int p3), .val (.int p4), .unset, .unset, .unset, .unset, .unset, .unset, .unset, .unset] [(.int (5 : Int32)), (.int (p0 &&& (2147483647 : Int32)))])
  refine own_irem H0 hx rfl (hb hby at_5) rfl (by decide) ?_
  show Go p e below _ s₁ (mkF m 6 #[.val (.int p0), .val (.int p1), .val (.int p2), .val (.int p3), .val (.int p4), .unset, .unset, .unset, .unset, .unset, .unset, .unset, .unset] [(.int ((p0 &&& (2147483647 : Int32)) % (5 : Int32)))])
  refine Go.of (fun _ => XS.istore H0.here hx rfl (hb hby at_6) rfl (l' := #[.val (.int p0), .val (.int p1), .val (.int p2), .val (.int p3), .val (.int p4), .val (.int ((p0 &&& (2147483647 : Int32)) % (5 : Int32))), .unset, .unset, .unset, .unset, .unset, .unset, .unset]) rfl) ?_
  show Go p e below _ s₁ (mkF m 8 #[.val (.int p0), .val (.int p1), .val (.int p2), .val (.int p3), .val (.int p4), .val (.int ((p0 &&& (2147483647 : Int32)) % (5 : Int32))), .unset, .unset, .unset, .unset, .unset, .unset, .unset] [])
  refine Go.of (fun _ => XS.iloadN H0.here hx rfl (hb hby at_8) rfl) ?_
  show Go p e below _ s₁ (mkF m 9 #[.val (.int p0), .val (.int p1), .val (.int p2), .val (.int p3), .val (.int p4), .val (.int ((p0 &&& (2147483647 : Int32)) % (5 : Int32))), .unset, .unset, .unset, .unset, .unset, .unset, .unset] [(.int p1)])
  refine own_ldcI H0 hx hown (ow hw 1 rfl) rfl (hb hby at_9) ?_
  show Go p e below _ s₁ (mkF m 11 #[.val (.int p0), .val (.int p1), .val (.int p2), .val (.int p3), .val (.int p4), .val (.int ((p0 &&& (2147483647 : Int32)) % (5 : Int32))), .unset, .unset, .unset, .unset, .unset, .unset, .unset] [(.int (65535 : Int32)), (.int p1)])
  refine Go.of (fun _ => XS.iand H0.here hx rfl (hb hby at_11) rfl) ?_
  show Go p e below _ s₁ (mkF m 12 #[.val (.int p0), .val (.int p1), .val (.int p2), .val (.int p3), .val (.int p4), .val (.int ((p0 &&& (2147483647 : Int32)) % (5 : Int32))), .unset, .unset, .unset, .unset, .unset, .unset, .unset] [(.int (p1 &&& (65535 : Int32)))])
  refine Go.of (fun _ => XS.i2c H0.here hx rfl (hb hby at_12) rfl) ?_
  show Go p e below _ s₁ (mkF m 13 #[.val (.int p0), .val (.int p1), .val (.int p2), .val (.int p3), .val (.int p4), .val (.int ((p0 &&& (2147483647 : Int32)) % (5 : Int32))), .unset, .unset, .unset, .unset, .unset, .unset, .unset] [(.int ((p1 &&& (65535 : Int32)).toUInt32.toUInt16.toUInt32.toInt32))])
  refine Go.of (fun _ => XS.istore H0.here hx rfl (hb hby at_13) rfl (l' := #[.val (.int p0), .val (.int p1), .val (.int p2), .val (.int p3), .val (.int p4), .val (.int ((p0 &&& (2147483647 : Int32)) % (5 : Int32))), .val (.int ((p1 &&& (65535 : Int32)).toUInt32.toUInt16.toUInt32.toInt32)), .unset, .unset, .unset, .unset, .unset, .unset]) rfl) ?_
  show Go p e below _ s₁ (mkF m 15 #[.val (.int p0), .val (.int p1), .val (.int p2), .val (.int p3), .val (.int p4), .val (.int ((p0 &&& (2147483647 : Int32)) % (5 : Int32))), .val (.int ((p1 &&& (65535 : Int32)).toUInt32.toUInt16.toUInt32.toInt32)), .unset, .unset, .unset, .unset, .unset, .unset] [])
  refine Go.of (fun _ => XS.iloadN H0.here hx rfl (hb hby at_15) rfl) ?_
  show Go p e below _ s₁ (mkF m 16 #[.val (.int p0), .val (.int p1), .val (.int p2), .val (.int p3), .val (.int p4), .val (.int ((p0 &&& (2147483647 : Int32)) % (5 : Int32))), .val (.int ((p1 &&& (65535 : Int32)).toUInt32.toUInt16.toUInt32.toInt32)), .unset, .unset, .unset, .unset, .unset, .unset] [(.int p2)])
  refine own_ldcI H0 hx hown (ow hw 1 rfl) rfl (hb hby at_16) ?_
  show Go p e below _ s₁ (mkF m 18 #[.val (.int p0), .val (.int p1), .val (.int p2), .val (.int p3), .val (.int p4), .val (.int ((p0 &&& (2147483647 : Int32)) % (5 : Int32))), .val (.int ((p1 &&& (65535 : Int32)).toUInt32.toUInt16.toUInt32.toInt32)), .unset, .unset, .unset, .unset, .unset, .unset] [(.int (65535 : Int32)), (.int p2)])
  refine Go.of (fun _ => XS.iand H0.here hx rfl (hb hby at_18) rfl) ?_
  show Go p e below _ s₁ (mkF m 19 #[.val (.int p0), .val (.int p1), .val (.int p2), .val (.int p3), .val (.int p4), .val (.int ((p0 &&& (2147483647 : Int32)) % (5 : Int32))), .val (.int ((p1 &&& (65535 : Int32)).toUInt32.toUInt16.toUInt32.toInt32)), .unset, .unset, .unset, .unset, .unset, .unset] [(.int (p2 &&& (65535 : Int32)))])
  refine Go.of (fun _ => XS.i2c H0.here hx rfl (hb hby at_19) rfl) ?_
  show Go p e below _ s₁ (mkF m 20 #[.val (.int p0), .val (.int p1), .val (.int p2), .val (.int p3), .val (.int p4), .val (.int ((p0 &&& (2147483647 : Int32)) % (5 : Int32))), .val (.int ((p1 &&& (65535 : Int32)).toUInt32.toUInt16.toUInt32.toInt32)), .unset, .unset, .unset, .unset, .unset, .unset] [(.int ((p2 &&& (65535 : Int32)).toUInt32.toUInt16.toUInt32.toInt32))])
  refine Go.of (fun _ => XS.istore H0.here hx rfl (hb hby at_20) rfl (l' := #[.val (.int p0), .val (.int p1), .val (.int p2), .val (.int p3), .val (.int p4), .val (.int ((p0 &&& (2147483647 : Int32)) % (5 : Int32))), .val (.int ((p1 &&& (65535 : Int32)).toUInt32.toUInt16.toUInt32.toInt32)), .val (.int ((p2 &&& (65535 : Int32)).toUInt32.toUInt16.toUInt32.toInt32)), .unset, .unset, .unset, .unset, .unset]) rfl) ?_
  show Go p e below _ s₁ (mkF m 22 #[.val (.int p0), .val (.int p1), .val (.int p2), .val (.int p3), .val (.int p4), .val (.int ((p0 &&& (2147483647 : Int32)) % (5 : Int32))), .val (.int ((p1 &&& (65535 : Int32)).toUInt32.toUInt16.toUInt32.toInt32)), .val (.int ((p2 &&& (65535 : Int32)).toUInt32.toUInt16.toUInt32.toInt32)), .unset, .unset, .unset, .unset, .unset] [])
  refine Go.of (fun _ => XS.iloadN H0.here hx rfl (hb hby at_22) rfl) ?_
  show Go p e below _ s₁ (mkF m 23 #[.val (.int p0), .val (.int p1), .val (.int p2), .val (.int p3), .val (.int p4), .val (.int ((p0 &&& (2147483647 : Int32)) % (5 : Int32))), .val (.int ((p1 &&& (65535 : Int32)).toUInt32.toUInt16.toUInt32.toInt32)), .val (.int ((p2 &&& (65535 : Int32)).toUInt32.toUInt16.toUInt32.toInt32)), .unset, .unset, .unset, .unset, .unset] [(.int p3)])
  refine own_ldcI H0 hx hown (ow hw 1 rfl) rfl (hb hby at_23) ?_
  show Go p e below _ s₁ (mkF m 25 #[.val (.int p0), .val (.int p1), .val (.int p2), .val (.int p3), .val (.int p4), .val (.int ((p0 &&& (2147483647 : Int32)) % (5 : Int32))), .val (.int ((p1 &&& (65535 : Int32)).toUInt32.toUInt16.toUInt32.toInt32)), .val (.int ((p2 &&& (65535 : Int32)).toUInt32.toUInt16.toUInt32.toInt32)), .unset, .unset, .unset, .unset, .unset] [(.int (65535 : Int32)), (.int p3)])
  refine Go.of (fun _ => XS.iand H0.here hx rfl (hb hby at_25) rfl) ?_
  show Go p e below _ s₁ (mkF m 26 #[.val (.int p0), .val (.int p1), .val (.int p2), .val (.int p3), .val (.int p4), .val (.int ((p0 &&& (2147483647 : Int32)) % (5 : Int32))), .val (.int ((p1 &&& (65535 : Int32)).toUInt32.toUInt16.toUInt32.toInt32)), .val (.int ((p2 &&& (65535 : Int32)).toUInt32.toUInt16.toUInt32.toInt32)), .unset, .unset, .unset, .unset, .unset] [(.int (p3 &&& (65535 : Int32)))])
  refine Go.of (fun _ => XS.i2c H0.here hx rfl (hb hby at_26) rfl) ?_
  show Go p e below _ s₁ (mkF m 27 #[.val (.int p0), .val (.int p1), .val (.int p2), .val (.int p3), .val (.int p4), .val (.int ((p0 &&& (2147483647 : Int32)) % (5 : Int32))), .val (.int ((p1 &&& (65535 : Int32)).toUInt32.toUInt16.toUInt32.toInt32)), .val (.int ((p2 &&& (65535 : Int32)).toUInt32.toUInt16.toUInt32.toInt32)), .unset, .unset, .unset, .unset, .unset] [(.int ((p3 &&& (65535 : Int32)).toUInt32.toUInt16.toUInt32.toInt32))])
  refine Go.of (fun _ => XS.istore H0.here hx rfl (hb hby at_27) rfl (l' := #[.val (.int p0), .val (.int p1), .val (.int p2), .val (.int p3), .val (.int p4), .val (.int ((p0 &&& (2147483647 : Int32)) % (5 : Int32))), .val (.int ((p1 &&& (65535 : Int32)).toUInt32.toUInt16.toUInt32.toInt32)), .val (.int ((p2 &&& (65535 : Int32)).toUInt32.toUInt16.toUInt32.toInt32)), .val (.int ((p3 &&& (65535 : Int32)).toUInt32.toUInt16.toUInt32.toInt32)), .unset, .unset, .unset, .unset]) rfl) ?_
  show Go p e below _ s₁ (mkF m 29 #[.val (.int p0), .val (.int p1), .val (.int p2), .val (.int p3), .val (.int p4), .val (.int ((p0 &&& (2147483647 : Int32)) % (5 : Int32))), .val (.int ((p1 &&& (65535 : Int32)).toUInt32.toUInt16.toUInt32.toInt32)), .val (.int ((p2 &&& (65535 : Int32)).toUInt32.toUInt16.toUInt32.toInt32)), .val (.int ((p3 &&& (65535 : Int32)).toUInt32.toUInt16.toUInt32.toInt32)), .unset, .unset, .unset, .unset] [])
  refine Go.of (fun _ => XS.iload H0.here hx rfl (hb hby at_29) rfl) ?_
  show Go p e below _ s₁ (mkF m 31 #[.val (.int p0), .val (.int p1), .val (.int p2), .val (.int p3), .val (.int p4), .val (.int ((p0 &&& (2147483647 : Int32)) % (5 : Int32))), .val (.int ((p1 &&& (65535 : Int32)).toUInt32.toUInt16.toUInt32.toInt32)), .val (.int ((p2 &&& (65535 : Int32)).toUInt32.toUInt16.toUInt32.toInt32)), .val (.int ((p3 &&& (65535 : Int32)).toUInt32.toUInt16.toUInt32.toInt32)), .unset, .unset, .unset, .unset] [(.int p4)])
  refine own_ldcI H0 hx hown (ow hw 1 rfl) rfl (hb hby at_31) ?_
  show Go p e below _ s₁ (mkF m 33 #[.val (.int p0), .val (.int p1), .val (.int p2), .val (.int p3), .val (.int p4), .val (.int ((p0 &&& (2147483647 : Int32)) % (5 : Int32))), .val (.int ((p1 &&& (65535 : Int32)).toUInt32.toUInt16.toUInt32.toInt32)), .val (.int ((p2 &&& (65535 : Int32)).toUInt32.toUInt16.toUInt32.toInt32)), .val (.int ((p3 &&& (65535 : Int32)).toUInt32.toUInt16.toUInt32.toInt32)), .unset, .unset, .unset, .unset] [(.int (65535 : Int32)), (.int p4)])
  refine Go.of (fun _ => XS.iand H0.here hx rfl (hb hby at_33) rfl) ?_
  show Go p e below _ s₁ (mkF m 34 #[.val (.int p0), .val (.int p1), .val (.int p2), .val (.int p3), .val (.int p4), .val (.int ((p0 &&& (2147483647 : Int32)) % (5 : Int32))), .val (.int ((p1 &&& (65535 : Int32)).toUInt32.toUInt16.toUInt32.toInt32)), .val (.int ((p2 &&& (65535 : Int32)).toUInt32.toUInt16.toUInt32.toInt32)), .val (.int ((p3 &&& (65535 : Int32)).toUInt32.toUInt16.toUInt32.toInt32)), .unset, .unset, .unset, .unset] [(.int (p4 &&& (65535 : Int32)))])
  refine Go.of (fun _ => XS.i2c H0.here hx rfl (hb hby at_34) rfl) ?_
  show Go p e below _ s₁ (mkF m 35 #[.val (.int p0), .val (.int p1), .val (.int p2), .val (.int p3), .val (.int p4), .val (.int ((p0 &&& (2147483647 : Int32)) % (5 : Int32))), .val (.int ((p1 &&& (65535 : Int32)).toUInt32.toUInt16.toUInt32.toInt32)), .val (.int ((p2 &&& (65535 : Int32)).toUInt32.toUInt16.toUInt32.toInt32)), .val (.int ((p3 &&& (65535 : Int32)).toUInt32.toUInt16.toUInt32.toInt32)), .unset, .unset, .unset, .unset] [(.int ((p4 &&& (65535 : Int32)).toUInt32.toUInt16.toUInt32.toInt32))])
  refine Go.of (fun _ => XS.istore H0.here hx rfl (hb hby at_35) rfl (l' := #[.val (.int p0), .val (.int p1), .val (.int p2), .val (.int p3), .val (.int p4), .val (.int ((p0 &&& (2147483647 : Int32)) % (5 : Int32))), .val (.int ((p1 &&& (65535 : Int32)).toUInt32.toUInt16.toUInt32.toInt32)), .val (.int ((p2 &&& (65535 : Int32)).toUInt32.toUInt16.toUInt32.toInt32)), .val (.int ((p3 &&& (65535 : Int32)).toUInt32.toUInt16.toUInt32.toInt32)), .val (.int ((p4 &&& (65535 : Int32)).toUInt32.toUInt16.toUInt32.toInt32)), .unset, .unset, .unset]) rfl) ?_
  show Go p e below _ s₁ (mkF m 37 #[.val (.int p0), .val (.int p1), .val (.int p2), .val (.int p3), .val (.int p4), .val (.int ((p0 &&& (2147483647 : Int32)) % (5 : Int32))), .val (.int ((p1 &&& (65535 : Int32)).toUInt32.toUInt16.toUInt32.toInt32)), .val (.int ((p2 &&& (65535 : Int32)).toUInt32.toUInt16.toUInt32.toInt32)), .val (.int ((p3 &&& (65535 : Int32)).toUInt32.toUInt16.toUInt32.toInt32)), .val (.int ((p4 &&& (65535 : Int32)).toUInt32.toUInt16.toUInt32.toInt32)), .unset, .unset, .unset] [])
  have J37_1 : ∀ (n1 : Int32) (c0 : Int32) (c1 : Int32) (c2 : Int32) (c3 : Int32), (¬ n1 < 0 ∧ n1 < 5) → (¬ c0 < 0 ∧ ¬ (65535 : Int32) < c0) → (¬ c1 < 0 ∧ ¬ (65535 : Int32) < c1) → (¬ c2 < 0 ∧ ¬ (65535 : Int32) < c2) → (¬ c3 < 0 ∧ ¬ (65535 : Int32) < c3) → Go p e below (own_fin Z ELx true s below (fun v h => v = some (.int 1)) (room_1).cells (room_1).slots (fun _ => [])) s₁ (mkF m 37 #[.val (.int p0), .val (.int p1), .val (.int p2), .val (.int p3), .val (.int p4), .val (.int n1), .val (.int c0), .val (.int c1), .val (.int c2), .val (.int c3), .unset, .unset, .unset] []) := by
    intro n1 c0 c1 c2 c3 hn1 hc0 hc1 hc2 hc3
    show Go p e below _ s₁ (mkF m 37 #[.val (.int p0), .val (.int p1), .val (.int p2), .val (.int p3), .val (.int p4), .val (.int n1), .val (.int c0), .val (.int c1), .val (.int c2), .val (.int c3), .unset, .unset, .unset] [])
    rcases own_five hn1 with rfl | rfl | rfl | rfl | rfl
    · skip
      show Go p e below _ s₁ (mkF m 37 #[.val (.int p0), .val (.int p1), .val (.int p2), .val (.int p3), .val (.int p4), .val (.int (0 : Int32)), .val (.int c0), .val (.int c1), .val (.int c2), .val (.int c3), .unset, .unset, .unset] [])
      refine Go.of (fun _ => XS.iload H0.here hx rfl (hb hby at_37) rfl) ?_
      show Go p e below _ s₁ (mkF m 39 #[.val (.int p0), .val (.int p1), .val (.int p2), .val (.int p3), .val (.int p4), .val (.int (0 : Int32)), .val (.int c0), .val (.int c1), .val (.int c2), .val (.int c3), .unset, .unset, .unset] [(.int (0 : Int32))])
      refine own_newP H0 hx (ow hw 2 rfl) rfl (hb hby at_39) rfl (by decide) (cap := 0) (by decide) (by decide) (by decide) (by decide) fun T2 h4 b5 kA8 g6 H3 E7 V9 => ?_
      have fr10 : Z.heap.size ≤ b5 := by rw [g6]; exact H0.old.1
      have V11 : Arv Z h4 b5 kA8 .char (0 : Int32) [] (.int (0 : Int32)) := V9.pad (pad_rep [] (.int (0 : Int32)) 0)
      show Go p e below _ T2 (mkF m 41 #[.val (.int p0), .val (.int p1), .val (.int p2), .val (.int p3), .val (.int p4), .val (.int (0 : Int32)), .val (.int c0), .val (.int c1), .val (.int c2), .val (.int c3), .unset, .unset, .unset] [(.ref b5)])
      refine Go.of (fun _ => XS.astore H3.here hx rfl (hb hby at_41) rfl rfl (l' := #[.val (.int p0), .val (.int p1), .val (.int p2), .val (.int p3), .val (.int p4), .val (.int (0 : Int32)), .val (.int c0), .val (.int c1), .val (.int c2), .val (.int c3), .val (.ref b5), .unset, .unset]) rfl) ?_
      show Go p e below _ T2 (mkF m 43 #[.val (.int p0), .val (.int p1), .val (.int p2), .val (.int p3), .val (.int p4), .val (.int (0 : Int32)), .val (.int c0), .val (.int c1), .val (.int c2), .val (.int c3), .val (.ref b5), .unset, .unset] [])
      refine Go.of (fun _ => XS.iload H3.here hx rfl (hb hby at_43) rfl) ?_
      show Go p e below _ T2 (mkF m 45 #[.val (.int p0), .val (.int p1), .val (.int p2), .val (.int p3), .val (.int p4), .val (.int (0 : Int32)), .val (.int c0), .val (.int c1), .val (.int c2), .val (.int c3), .val (.ref b5), .unset, .unset] [(.int (0 : Int32))])
      refine Go.of (fun _ => XS.ifYes H3.here hx rfl (pc0 := 45) (pc' := 54) rfl (hb hby at_45) rfl ((if0 _ _).trans (flt (by decide : ¬ ((0 : Int32) < (0 : Int32)))).2.2.2) (by decide) (by decide)) ?_
      show Go p e below _ T2 (mkF m 54 #[.val (.int p0), .val (.int p1), .val (.int p2), .val (.int p3), .val (.int p4), .val (.int (0 : Int32)), .val (.int c0), .val (.int c1), .val (.int c2), .val (.int c3), .val (.ref b5), .unset, .unset] [])
      refine Go.of (fun _ => XS.iload H3.here hx rfl (hb hby at_54) rfl) ?_
      show Go p e below _ T2 (mkF m 56 #[.val (.int p0), .val (.int p1), .val (.int p2), .val (.int p3), .val (.int p4), .val (.int (0 : Int32)), .val (.int c0), .val (.int c1), .val (.int c2), .val (.int c3), .val (.ref b5), .unset, .unset] [(.int (0 : Int32))])
      refine Go.of (fun _ => XS.iconst H3.here hx rfl (hb hby at_56)) ?_
      show Go p e below _ T2 (mkF m 57 #[.val (.int p0), .val (.int p1), .val (.int p2), .val (.int p3), .val (.int p4), .val (.int (0 : Int32)), .val (.int c0), .val (.int c1), .val (.int c2), .val (.int c3), .val (.ref b5), .unset, .unset] [(.int (1 : Int32)), (.int (0 : Int32))])
      refine Go.of (fun _ => XS.icmpYes H3.here hx rfl (pc0 := 57) (pc' := 66) rfl (hb hby at_57) rfl (flt (by decide : ¬ ((1 : Int32) < (0 : Int32)))).2.2.2 (by decide) (by decide)) ?_
      show Go p e below _ T2 (mkF m 66 #[.val (.int p0), .val (.int p1), .val (.int p2), .val (.int p3), .val (.int p4), .val (.int (0 : Int32)), .val (.int c0), .val (.int c1), .val (.int c2), .val (.int c3), .val (.ref b5), .unset, .unset] [])
      refine Go.of (fun _ => XS.iload H3.here hx rfl (hb hby at_66) rfl) ?_
      show Go p e below _ T2 (mkF m 68 #[.val (.int p0), .val (.int p1), .val (.int p2), .val (.int p3), .val (.int p4), .val (.int (0 : Int32)), .val (.int c0), .val (.int c1), .val (.int c2), .val (.int c3), .val (.ref b5), .unset, .unset] [(.int (0 : Int32))])
      refine Go.of (fun _ => XS.iconst H3.here hx rfl (hb hby at_68)) ?_
      show Go p e below _ T2 (mkF m 69 #[.val (.int p0), .val (.int p1), .val (.int p2), .val (.int p3), .val (.int p4), .val (.int (0 : Int32)), .val (.int c0), .val (.int c1), .val (.int c2), .val (.int c3), .val (.ref b5), .unset, .unset] [(.int (2 : Int32)), (.int (0 : Int32))])
      refine Go.of (fun _ => XS.icmpYes H3.here hx rfl (pc0 := 69) (pc' := 78) rfl (hb hby at_69) rfl (flt (by decide : ¬ ((2 : Int32) < (0 : Int32)))).2.2.2 (by decide) (by decide)) ?_
      show Go p e below _ T2 (mkF m 78 #[.val (.int p0), .val (.int p1), .val (.int p2), .val (.int p3), .val (.int p4), .val (.int (0 : Int32)), .val (.int c0), .val (.int c1), .val (.int c2), .val (.int c3), .val (.ref b5), .unset, .unset] [])
      refine Go.of (fun _ => XS.iload H3.here hx rfl (hb hby at_78) rfl) ?_
      show Go p e below _ T2 (mkF m 80 #[.val (.int p0), .val (.int p1), .val (.int p2), .val (.int p3), .val (.int p4), .val (.int (0 : Int32)), .val (.int c0), .val (.int c1), .val (.int c2), .val (.int c3), .val (.ref b5), .unset, .unset] [(.int (0 : Int32))])
      refine Go.of (fun _ => XS.iconst H3.here hx rfl (hb hby at_80)) ?_
      show Go p e below _ T2 (mkF m 81 #[.val (.int p0), .val (.int p1), .val (.int p2), .val (.int p3), .val (.int p4), .val (.int (0 : Int32)), .val (.int c0), .val (.int c1), .val (.int c2), .val (.int c3), .val (.ref b5), .unset, .unset] [(.int (3 : Int32)), (.int (0 : Int32))])
      refine Go.of (fun _ => XS.icmpYes H3.here hx rfl (pc0 := 81) (pc' := 90) rfl (hb hby at_81) rfl (flt (by decide : ¬ ((3 : Int32) < (0 : Int32)))).2.2.2 (by decide) (by decide)) ?_
      show Go p e below _ T2 (mkF m 90 #[.val (.int p0), .val (.int p1), .val (.int p2), .val (.int p3), .val (.int p4), .val (.int (0 : Int32)), .val (.int c0), .val (.int c1), .val (.int c2), .val (.int c3), .val (.ref b5), .unset, .unset] [])
      refine own_new H3 hx hown (ow hw 3 rfl) (ow hw 4 rfl) (ow hw 5 rfl) rfl (hb hby at_90) (by decide) (by decide) fun T12 h14 b15 g16 H13 E17 A18 D19 => ?_
      have ne20 : b5 ≠ b15 := by rw [g16]; exact Nat.ne_of_lt V11.lt
      have fr21 : Z.heap.size ≤ b15 := by rw [g16]; exact H3.old.1
      have f22 := V11.ext E17
      have f23 : Fld Z h14 b15 "java/lang/String" "value" "[B" .null := D19 (Or.inr (ow hw 18 rfl)) (ty := (.array .byte)) (by decide)
      have f24 : Fld Z h14 b15 "java/lang/String" "coder" "B" (.int (0 : Int32)) := D19 (Or.inr (ow hw 19 rfl)) (ty := .byte) (by decide)
      show Go p e below _ T12 (mkF m 93 #[.val (.int p0), .val (.int p1), .val (.int p2), .val (.int p3), .val (.int p4), .val (.int (0 : Int32)), .val (.int c0), .val (.int c1), .val (.int c2), .val (.int c3), .val (.ref b5), .unset, .unset] [(.ref b15)])
      refine Go.of (fun _ => XS.dup H13.here hx rfl (hb hby at_93) rfl rfl) ?_
      show Go p e below _ T12 (mkF m 94 #[.val (.int p0), .val (.int p1), .val (.int p2), .val (.int p3), .val (.int p4), .val (.int (0 : Int32)), .val (.int c0), .val (.int c1), .val (.int c2), .val (.int c3), .val (.ref b5), .unset, .unset] [(.ref b15), (.ref b15)])
      refine Go.of (fun _ => XS.aload H13.here hx rfl (hb hby at_94) rfl rfl) ?_
      show Go p e below _ T12 (mkF m 96 #[.val (.int p0), .val (.int p1), .val (.int p2), .val (.int p3), .val (.int p4), .val (.int (0 : Int32)), .val (.int c0), .val (.int c1), .val (.int c2), .val (.int c3), .val (.ref b5), .unset, .unset] [(.ref b5), (.ref b15), (.ref b15)])
      have hV25 : Arv Z h14 b5 kA8 .char (Int32.ofNat 0) (([] : List Int32).map Value.int) (.int (0 : Int32)) := by have := f22; exact this
      refine own_specialW H13 hx (y := (⟨"java/lang/String", "<init>", "([C)V"⟩ : MethodName)) rfl hown (ow hw 6 rfl) (ow hw 7 rfl) (ow hw 5 rfl) (ow hw 8 rfl) (by decide) (W := 1) (rm_s1 l Z a0 hw hE b15 b5 kA8 0 ([] : List Int32) (.int (0 : Int32)) zc h14 H13.old A18 f23 f24 fr21 ne20 hV25 rfl (by decide) all0c SC hzc SA SHB SLB) (allS (List.mem_of_getElem? (i := 0) rfl) all0) (by decide) (by decide) rfl (by rw [hml]; rfl) (a := b15) (argsL := [(.ref b5)]) (rest := [(.ref b15)]) rfl (lenOf pd_15 rfl) rfl (by show 2 * 0 + _ ≤ _; exact Nat.le_of_eq rfl) (hb hby at_96) (by decide) (by decide) fun T26 h28 v30 H27 hs31 q29 => ?_
      obtain ⟨rfl, KK, SS⟩ := q29
      have f32 := f22.keep KK (ninS ne20 nin0)
      have f33 := A18.keep KK
      show Go p e below _ T26 (mkF m 99 #[.val (.int p0), .val (.int p1), .val (.int p2), .val (.int p3), .val (.int p4), .val (.int (0 : Int32)), .val (.int c0), .val (.int c1), .val (.int c2), .val (.int c3), .val (.ref b5), .unset, .unset] [(.ref b15)])
      refine Go.of (fun _ => XS.astore H27.here hx rfl (hb hby at_99) rfl rfl (l' := #[.val (.int p0), .val (.int p1), .val (.int p2), .val (.int p3), .val (.int p4), .val (.int (0 : Int32)), .val (.int c0), .val (.int c1), .val (.int c2), .val (.int c3), .val (.ref b5), .val (.ref b15), .unset]) rfl) ?_
      show Go p e below _ T26 (mkF m 101 #[.val (.int p0), .val (.int p1), .val (.int p2), .val (.int p3), .val (.int p4), .val (.int (0 : Int32)), .val (.int c0), .val (.int c1), .val (.int c2), .val (.int c3), .val (.ref b5), .val (.ref b15), .unset] [])
      refine Go.of (fun _ => XS.iload H27.here hx rfl (hb hby at_101) rfl) ?_
      show Go p e below _ T26 (mkF m 103 #[.val (.int p0), .val (.int p1), .val (.int p2), .val (.int p3), .val (.int p4), .val (.int (0 : Int32)), .val (.int c0), .val (.int c1), .val (.int c2), .val (.int c3), .val (.ref b5), .val (.ref b15), .unset] [(.int (0 : Int32))])
      refine Go.of (fun _ => XS.ifNo H27.here hx rfl (hb hby at_103) rfl ((if0 _ _).trans (teq (by decide : (0 : Int32) = (0 : Int32))).2)) ?_
      show Go p e below _ T26 (mkF m 106 #[.val (.int p0), .val (.int p1), .val (.int p2), .val (.int p3), .val (.int p4), .val (.int (0 : Int32)), .val (.int c0), .val (.int c1), .val (.int c2), .val (.int c3), .val (.ref b5), .val (.ref b15), .unset] [])
      refine Go.of (fun _ => XS.iconst H27.here hx rfl (hb hby at_106)) ?_
      show Go p e below _ T26 (mkF m 107 #[.val (.int p0), .val (.int p1), .val (.int p2), .val (.int p3), .val (.int p4), .val (.int (0 : Int32)), .val (.int c0), .val (.int c1), .val (.int c2), .val (.int c3), .val (.ref b5), .val (.ref b15), .unset] [(.int (0 : Int32))])
      refine Go.of (fun _ => XS.istore H27.here hx rfl (hb hby at_107) rfl (l' := #[.val (.int p0), .val (.int p1), .val (.int p2), .val (.int p3), .val (.int p4), .val (.int (0 : Int32)), .val (.int c0), .val (.int c1), .val (.int c2), .val (.int c3), .val (.ref b5), .val (.ref b15), .val (.int (0 : Int32))]) rfl) ?_
      show Go p e below _ T26 (mkF m 109 #[.val (.int p0), .val (.int p1), .val (.int p2), .val (.int p3), .val (.int p4), .val (.int (0 : Int32)), .val (.int c0), .val (.int c1), .val (.int c2), .val (.int c3), .val (.ref b5), .val (.ref b15), .val (.int (0 : Int32))] [])
      refine Go.of (fun _ => XS.goto H27.here hx rfl (pc0 := 109) (pc' := 169) rfl (hb hby at_109) (by decide) (by decide)) ?_
      show Go p e below _ T26 (mkF m 169 #[.val (.int p0), .val (.int p1), .val (.int p2), .val (.int p3), .val (.int p4), .val (.int (0 : Int32)), .val (.int c0), .val (.int c1), .val (.int c2), .val (.int c3), .val (.ref b5), .val (.ref b15), .val (.int (0 : Int32))] [])
      refine Go.of (fun _ => XS.aload H27.here hx rfl (hb hby at_169) rfl rfl) ?_
      show Go p e below _ T26 (mkF m 171 #[.val (.int p0), .val (.int p1), .val (.int p2), .val (.int p3), .val (.int p4), .val (.int (0 : Int32)), .val (.int c0), .val (.int c1), .val (.int c2), .val (.int c3), .val (.ref b5), .val (.ref b15), .val (.int (0 : Int32))] [(.ref b15)])
      refine own_staticW H27 hx (y := (⟨"com/example/entitled/entitled/lang/Lexer", "isName", "(Ljava/lang/String;)Z"⟩ : MethodName)) hown (ow hw 24 rfl) (ow hw 25 rfl) (ow hw 26 rfl) (ow hw 27 rfl) (by decide) (W := 0) (rm_inm l Z a0 hw hE b15 ([] : List Int32) 0 zc fm h28 H27.old SS (by simp) rfl SC hzc SF hfm SA SHB SLB) (fun _ hq => nomatch hq) (by decide) (by decide) rfl (by rw [hml]; rfl) (argsL := [(.ref b15)]) (rest := []) rfl (lenOf pd_16 rfl) rfl (by show 2 * 0 + _ ≤ _; exact Nat.le_of_eq rfl) (hb hby at_171) (by decide) (by decide) fun T36 h38 v40 H37 hs41 q39 => ?_
      obtain ⟨ve43, e42⟩ := q39
      subst e42
      subst ve43
      show Go p e below _ T36 (mkF m 174 #[.val (.int p0), .val (.int p1), .val (.int p2), .val (.int p3), .val (.int p4), .val (.int (0 : Int32)), .val (.int c0), .val (.int c1), .val (.int c2), .val (.int c3), .val (.ref b5), .val (.ref b15), .val (.int (0 : Int32))] [(.int (if own_isn ([] : List Int32) then 1 else 0))])
      rw [if_neg (show ¬ own_isn ([] : List Int32) from (fun q => q.1 rfl))]
      show Go p e below _ T36 (mkF m 174 #[.val (.int p0), .val (.int p1), .val (.int p2), .val (.int p3), .val (.int p4), .val (.int (0 : Int32)), .val (.int c0), .val (.int c1), .val (.int c2), .val (.int c3), .val (.ref b5), .val (.ref b15), .val (.int (0 : Int32))] [(.int (0 : Int32))])
      refine Go.of (fun _ => XS.iload H37.here hx rfl (hb hby at_174) rfl) ?_
      show Go p e below _ T36 (mkF m 176 #[.val (.int p0), .val (.int p1), .val (.int p2), .val (.int p3), .val (.int p4), .val (.int (0 : Int32)), .val (.int c0), .val (.int c1), .val (.int c2), .val (.int c3), .val (.ref b5), .val (.ref b15), .val (.int (0 : Int32))] [(.int (0 : Int32)), (.int (0 : Int32))])
      refine Go.of (fun _ => XS.icmpNo H37.here hx rfl (hb hby at_176) rfl (teq (by decide : (0 : Int32) = (0 : Int32))).2) ?_
      show Go p e below _ T36 (mkF m 179 #[.val (.int p0), .val (.int p1), .val (.int p2), .val (.int p3), .val (.int p4), .val (.int (0 : Int32)), .val (.int c0), .val (.int c1), .val (.int c2), .val (.int c3), .val (.ref b5), .val (.ref b15), .val (.int (0 : Int32))] [])
      refine Go.of (fun _ => XS.iconst H37.here hx rfl (hb hby at_179)) ?_
      show Go p e below _ T36 (mkF m 180 #[.val (.int p0), .val (.int p1), .val (.int p2), .val (.int p3), .val (.int p4), .val (.int (0 : Int32)), .val (.int c0), .val (.int c1), .val (.int c2), .val (.int c3), .val (.ref b5), .val (.ref b15), .val (.int (0 : Int32))] [(.int (1 : Int32))])
      refine Go.of (fun _ => XS.goto H37.here hx rfl (pc0 := 180) (pc' := 184) rfl (hb hby at_180) (by decide) (by decide)) ?_
      show Go p e below _ T36 (mkF m 184 #[.val (.int p0), .val (.int p1), .val (.int p2), .val (.int p3), .val (.int p4), .val (.int (0 : Int32)), .val (.int c0), .val (.int c1), .val (.int c2), .val (.int c3), .val (.ref b5), .val (.ref b15), .val (.int (0 : Int32))] [(.int (1 : Int32))])
      exact own_retN H37 hx hlk (t := .boolean) hret (by simp) (hb hby at_184) all0 rfl (by decide) (by decide)
    · skip
      show Go p e below _ s₁ (mkF m 37 #[.val (.int p0), .val (.int p1), .val (.int p2), .val (.int p3), .val (.int p4), .val (.int (1 : Int32)), .val (.int c0), .val (.int c1), .val (.int c2), .val (.int c3), .unset, .unset, .unset] [])
      refine Go.of (fun _ => XS.iload H0.here hx rfl (hb hby at_37) rfl) ?_
      show Go p e below _ s₁ (mkF m 39 #[.val (.int p0), .val (.int p1), .val (.int p2), .val (.int p3), .val (.int p4), .val (.int (1 : Int32)), .val (.int c0), .val (.int c1), .val (.int c2), .val (.int c3), .unset, .unset, .unset] [(.int (1 : Int32))])
      refine own_newP H0 hx (ow hw 2 rfl) rfl (hb hby at_39) rfl (by decide) (cap := 1) (by decide) (by decide) (by decide) (by decide) fun T44 h46 b47 kA50 g48 H45 E49 V51 => ?_
      have fr52 : Z.heap.size ≤ b47 := by rw [g48]; exact H0.old.1
      have V53 : Arv Z h46 b47 kA50 .char (1 : Int32) [(.int (0 : Int32))] (.int (0 : Int32)) := V51.pad (pad_rep [] (.int (0 : Int32)) 1)
      show Go p e below _ T44 (mkF m 41 #[.val (.int p0), .val (.int p1), .val (.int p2), .val (.int p3), .val (.int p4), .val (.int (1 : Int32)), .val (.int c0), .val (.int c1), .val (.int c2), .val (.int c3), .unset, .unset, .unset] [(.ref b47)])
      refine Go.of (fun _ => XS.astore H45.here hx rfl (hb hby at_41) rfl rfl (l' := #[.val (.int p0), .val (.int p1), .val (.int p2), .val (.int p3), .val (.int p4), .val (.int (1 : Int32)), .val (.int c0), .val (.int c1), .val (.int c2), .val (.int c3), .val (.ref b47), .unset, .unset]) rfl) ?_
      show Go p e below _ T44 (mkF m 43 #[.val (.int p0), .val (.int p1), .val (.int p2), .val (.int p3), .val (.int p4), .val (.int (1 : Int32)), .val (.int c0), .val (.int c1), .val (.int c2), .val (.int c3), .val (.ref b47), .unset, .unset] [])
      refine Go.of (fun _ => XS.iload H45.here hx rfl (hb hby at_43) rfl) ?_
      show Go p e below _ T44 (mkF m 45 #[.val (.int p0), .val (.int p1), .val (.int p2), .val (.int p3), .val (.int p4), .val (.int (1 : Int32)), .val (.int c0), .val (.int c1), .val (.int c2), .val (.int c3), .val (.ref b47), .unset, .unset] [(.int (1 : Int32))])
      refine Go.of (fun _ => XS.ifNo H45.here hx rfl (hb hby at_45) rfl ((if0 _ _).trans (tlt (by decide : (0 : Int32) < (1 : Int32))).2.2.2)) ?_
      show Go p e below _ T44 (mkF m 48 #[.val (.int p0), .val (.int p1), .val (.int p2), .val (.int p3), .val (.int p4), .val (.int (1 : Int32)), .val (.int c0), .val (.int c1), .val (.int c2), .val (.int c3), .val (.ref b47), .unset, .unset] [])
      refine Go.of (fun _ => XS.aload H45.here hx rfl (hb hby at_48) rfl rfl) ?_
      show Go p e below _ T44 (mkF m 50 #[.val (.int p0), .val (.int p1), .val (.int p2), .val (.int p3), .val (.int p4), .val (.int (1 : Int32)), .val (.int c0), .val (.int c1), .val (.int c2), .val (.int c3), .val (.ref b47), .unset, .unset] [(.ref b47)])
      refine Go.of (fun _ => XS.iconst H45.here hx rfl (hb hby at_50)) ?_
      show Go p e below _ T44 (mkF m 51 #[.val (.int p0), .val (.int p1), .val (.int p2), .val (.int p3), .val (.int p4), .val (.int (1 : Int32)), .val (.int c0), .val (.int c1), .val (.int c2), .val (.int c3), .val (.ref b47), .unset, .unset] [(.int (0 : Int32)), (.ref b47)])
      refine Go.of (fun _ => XS.iload H45.here hx rfl (hb hby at_51) rfl) ?_
      show Go p e below _ T44 (mkF m 53 #[.val (.int p0), .val (.int p1), .val (.int p2), .val (.int p3), .val (.int p4), .val (.int (1 : Int32)), .val (.int c0), .val (.int c1), .val (.int c2), .val (.int c3), .val (.ref b47), .unset, .unset] [(.int c0), (.int (0 : Int32)), (.ref b47)])
      refine own_castore H45 hx V53 ⟨by decide, by decide⟩ 0 (by decide) (Nat.le_of_ble_eq_true rfl) fr52 rfl rfl (hb hby at_53) fun T54 h56 H55 W57 V58 => ?_
      have V60 : Arv Z h56 b47 kA50 .char (1 : Int32) [(.int (nar .char c0))] (.int (0 : Int32)) := V58
      show Go p e below _ T54 (mkF m 54 #[.val (.int p0), .val (.int p1), .val (.int p2), .val (.int p3), .val (.int p4), .val (.int (1 : Int32)), .val (.int c0), .val (.int c1), .val (.int c2), .val (.int c3), .val (.ref b47), .unset, .unset] [])
      refine Go.of (fun _ => XS.iload H55.here hx rfl (hb hby at_54) rfl) ?_
      show Go p e below _ T54 (mkF m 56 #[.val (.int p0), .val (.int p1), .val (.int p2), .val (.int p3), .val (.int p4), .val (.int (1 : Int32)), .val (.int c0), .val (.int c1), .val (.int c2), .val (.int c3), .val (.ref b47), .unset, .unset] [(.int (1 : Int32))])
      refine Go.of (fun _ => XS.iconst H55.here hx rfl (hb hby at_56)) ?_
      show Go p e below _ T54 (mkF m 57 #[.val (.int p0), .val (.int p1), .val (.int p2), .val (.int p3), .val (.int p4), .val (.int (1 : Int32)), .val (.int c0), .val (.int c1), .val (.int c2), .val (.int c3), .val (.ref b47), .unset, .unset] [(.int (1 : Int32)), (.int (1 : Int32))])
      refine Go.of (fun _ => XS.icmpYes H55.here hx rfl (pc0 := 57) (pc' := 66) rfl (hb hby at_57) rfl (flt (by decide : ¬ ((1 : Int32) < (1 : Int32)))).2.2.2 (by decide) (by decide)) ?_
      show Go p e below _ T54 (mkF m 66 #[.val (.int p0), .val (.int p1), .val (.int p2), .val (.int p3), .val (.int p4), .val (.int (1 : Int32)), .val (.int c0), .val (.int c1), .val (.int c2), .val (.int c3), .val (.ref b47), .unset, .unset] [])
      refine Go.of (fun _ => XS.iload H55.here hx rfl (hb hby at_66) rfl) ?_
      show Go p e below _ T54 (mkF m 68 #[.val (.int p0), .val (.int p1), .val (.int p2), .val (.int p3), .val (.int p4), .val (.int (1 : Int32)), .val (.int c0), .val (.int c1), .val (.int c2), .val (.int c3), .val (.ref b47), .unset, .unset] [(.int (1 : Int32))])
      refine Go.of (fun _ => XS.iconst H55.here hx rfl (hb hby at_68)) ?_
      show Go p e below _ T54 (mkF m 69 #[.val (.int p0), .val (.int p1), .val (.int p2), .val (.int p3), .val (.int p4), .val (.int (1 : Int32)), .val (.int c0), .val (.int c1), .val (.int c2), .val (.int c3), .val (.ref b47), .unset, .unset] [(.int (2 : Int32)), (.int (1 : Int32))])
      refine Go.of (fun _ => XS.icmpYes H55.here hx rfl (pc0 := 69) (pc' := 78) rfl (hb hby at_69) rfl (flt (by decide : ¬ ((2 : Int32) < (1 : Int32)))).2.2.2 (by decide) (by decide)) ?_
      show Go p e below _ T54 (mkF m 78 #[.val (.int p0), .val (.int p1), .val (.int p2), .val (.int p3), .val (.int p4), .val (.int (1 : Int32)), .val (.int c0), .val (.int c1), .val (.int c2), .val (.int c3), .val (.ref b47), .unset, .unset] [])
      refine Go.of (fun _ => XS.iload H55.here hx rfl (hb hby at_78) rfl) ?_
      show Go p e below _ T54 (mkF m 80 #[.val (.int p0), .val (.int p1), .val (.int p2), .val (.int p3), .val (.int p4), .val (.int (1 : Int32)), .val (.int c0), .val (.int c1), .val (.int c2), .val (.int c3), .val (.ref b47), .unset, .unset] [(.int (1 : Int32))])
      refine Go.of (fun _ => XS.iconst H55.here hx rfl (hb hby at_80)) ?_
      show Go p e below _ T54 (mkF m 81 #[.val (.int p0), .val (.int p1), .val (.int p2), .val (.int p3), .val (.int p4), .val (.int (1 : Int32)), .val (.int c0), .val (.int c1), .val (.int c2), .val (.int c3), .val (.ref b47), .unset, .unset] [(.int (3 : Int32)), (.int (1 : Int32))])
      refine Go.of (fun _ => XS.icmpYes H55.here hx rfl (pc0 := 81) (pc' := 90) rfl (hb hby at_81) rfl (flt (by decide : ¬ ((3 : Int32) < (1 : Int32)))).2.2.2 (by decide) (by decide)) ?_
      show Go p e below _ T54 (mkF m 90 #[.val (.int p0), .val (.int p1), .val (.int p2), .val (.int p3), .val (.int p4), .val (.int (1 : Int32)), .val (.int c0), .val (.int c1), .val (.int c2), .val (.int c3), .val (.ref b47), .unset, .unset] [])
      refine own_new H55 hx hown (ow hw 3 rfl) (ow hw 4 rfl) (ow hw 5 rfl) rfl (hb hby at_90) (by decide) (by decide) fun T61 h63 b64 g65 H62 E66 A67 D68 => ?_
      have ne69 : b47 ≠ b64 := by rw [g65]; exact Nat.ne_of_lt V60.lt
      have fr70 : Z.heap.size ≤ b64 := by rw [g65]; exact H55.old.1
      have f71 := V60.ext E66
      have f72 : Fld Z h63 b64 "java/lang/String" "value" "[B" .null := D68 (Or.inr (ow hw 18 rfl)) (ty := (.array .byte)) (by decide)
      have f73 : Fld Z h63 b64 "java/lang/String" "coder" "B" (.int (0 : Int32)) := D68 (Or.inr (ow hw 19 rfl)) (ty := .byte) (by decide)
      show Go p e below _ T61 (mkF m 93 #[.val (.int p0), .val (.int p1), .val (.int p2), .val (.int p3), .val (.int p4), .val (.int (1 : Int32)), .val (.int c0), .val (.int c1), .val (.int c2), .val (.int c3), .val (.ref b47), .unset, .unset] [(.ref b64)])
      refine Go.of (fun _ => XS.dup H62.here hx rfl (hb hby at_93) rfl rfl) ?_
      show Go p e below _ T61 (mkF m 94 #[.val (.int p0), .val (.int p1), .val (.int p2), .val (.int p3), .val (.int p4), .val (.int (1 : Int32)), .val (.int c0), .val (.int c1), .val (.int c2), .val (.int c3), .val (.ref b47), .unset, .unset] [(.ref b64), (.ref b64)])
      refine Go.of (fun _ => XS.aload H62.here hx rfl (hb hby at_94) rfl rfl) ?_
      show Go p e below _ T61 (mkF m 96 #[.val (.int p0), .val (.int p1), .val (.int p2), .val (.int p3), .val (.int p4), .val (.int (1 : Int32)), .val (.int c0), .val (.int c1), .val (.int c2), .val (.int c3), .val (.ref b47), .unset, .unset] [(.ref b47), (.ref b64), (.ref b64)])
      have hV74 : Arv Z h63 b47 kA50 .char (Int32.ofNat 1) (([c0] : List Int32).map Value.int) (.int (0 : Int32)) := by have := f71; rw [own_narc16 hc0] at this; exact this
      refine own_specialW H62 hx (y := (⟨"java/lang/String", "<init>", "([C)V"⟩ : MethodName)) rfl hown (ow hw 6 rfl) (ow hw 7 rfl) (ow hw 5 rfl) (ow hw 8 rfl) (by decide) (W := 1) (rm_s1 l Z a0 hw hE b64 b47 kA50 1 ([c0] : List Int32) (.int (0 : Int32)) zc h63 H62.old A67 f72 f73 fr70 ne69 hV74 rfl (by decide) (allC hc0 all0c) SC hzc SA SHB SLB) (allS (List.mem_of_getElem? (i := 0) rfl) all0) (by decide) (by decide) rfl (by rw [hml]; rfl) (a := b64) (argsL := [(.ref b47)]) (rest := [(.ref b64)]) rfl (lenOf pd_15 rfl) rfl (by show 2 * 0 + _ ≤ _; exact Nat.le_of_eq rfl) (hb hby at_96) (by decide) (by decide) fun T75 h77 v79 H76 hs80 q78 => ?_
      obtain ⟨rfl, KK, SS⟩ := q78
      have f81 := f71.keep KK (ninS ne69 nin0)
      have f82 := A67.keep KK
      show Go p e below _ T75 (mkF m 99 #[.val (.int p0), .val (.int p1), .val (.int p2), .val (.int p3), .val (.int p4), .val (.int (1 : Int32)), .val (.int c0), .val (.int c1), .val (.int c2), .val (.int c3), .val (.ref b47), .unset, .unset] [(.ref b64)])
      refine Go.of (fun _ => XS.astore H76.here hx rfl (hb hby at_99) rfl rfl (l' := #[.val (.int p0), .val (.int p1), .val (.int p2), .val (.int p3), .val (.int p4), .val (.int (1 : Int32)), .val (.int c0), .val (.int c1), .val (.int c2), .val (.int c3), .val (.ref b47), .val (.ref b64), .unset]) rfl) ?_
      show Go p e below _ T75 (mkF m 101 #[.val (.int p0), .val (.int p1), .val (.int p2), .val (.int p3), .val (.int p4), .val (.int (1 : Int32)), .val (.int c0), .val (.int c1), .val (.int c2), .val (.int c3), .val (.ref b47), .val (.ref b64), .unset] [])
      refine Go.of (fun _ => XS.iload H76.here hx rfl (hb hby at_101) rfl) ?_
      show Go p e below _ T75 (mkF m 103 #[.val (.int p0), .val (.int p1), .val (.int p2), .val (.int p3), .val (.int p4), .val (.int (1 : Int32)), .val (.int c0), .val (.int c1), .val (.int c2), .val (.int c3), .val (.ref b47), .val (.ref b64), .unset] [(.int (1 : Int32))])
      refine Go.of (fun _ => XS.ifYes H76.here hx rfl (pc0 := 103) (pc' := 112) rfl (hb hby at_103) rfl ((if0 _ _).trans (feq (by decide : ¬ ((1 : Int32) = (0 : Int32)))).2) (by decide) (by decide)) ?_
      show Go p e below _ T75 (mkF m 112 #[.val (.int p0), .val (.int p1), .val (.int p2), .val (.int p3), .val (.int p4), .val (.int (1 : Int32)), .val (.int c0), .val (.int c1), .val (.int c2), .val (.int c3), .val (.ref b47), .val (.ref b64), .unset] [])
      refine Go.of (fun _ => XS.iload H76.here hx rfl (hb hby at_112) rfl) ?_
      show Go p e below _ T75 (mkF m 114 #[.val (.int p0), .val (.int p1), .val (.int p2), .val (.int p3), .val (.int p4), .val (.int (1 : Int32)), .val (.int c0), .val (.int c1), .val (.int c2), .val (.int c3), .val (.ref b47), .val (.ref b64), .unset] [(.int c0)])
      refine own_staticW H76 hx (y := (⟨"com/example/entitled/entitled/lang/LexerIsNamePinLaw", "startOk", "(I)Z"⟩ : MethodName)) hown (ow hw 44 rfl) (ow hw 45 rfl) (ow hw 46 rfl) (ow hw 47 rfl) (by decide) (W := 0) (rm_sok l Z a0 hw hE c0 h77 H76.old ) (fun _ hq => nomatch hq) (by decide) (by decide) rfl (by rw [hml]; rfl) (argsL := [(.int c0)]) (rest := []) rfl (lenOf pd_13 rfl) rfl (by show 2 * 0 + _ ≤ _; exact Nat.le_of_eq rfl) (hb hby at_114) (by decide) (by decide) fun T85 h87 v89 H86 hs90 q88 => ?_
      obtain ⟨ve92, e91⟩ := q88
      subst e91
      subst ve92
      show Go p e below _ T85 (mkF m 117 #[.val (.int p0), .val (.int p1), .val (.int p2), .val (.int p3), .val (.int p4), .val (.int (1 : Int32)), .val (.int c0), .val (.int c1), .val (.int c2), .val (.int c3), .val (.ref b47), .val (.ref b64), .unset] [(.int (if own_sn c0 then 1 else 0))])
      by_cases hq93 : own_sn c0
      · skip
        rw [if_pos hq93]
        show Go p e below _ T85 (mkF m 117 #[.val (.int p0), .val (.int p1), .val (.int p2), .val (.int p3), .val (.int p4), .val (.int (1 : Int32)), .val (.int c0), .val (.int c1), .val (.int c2), .val (.int c3), .val (.ref b47), .val (.ref b64), .unset] [(.int (1 : Int32))])
        refine Go.of (fun _ => XS.ifNo H86.here hx rfl (hb hby at_117) rfl ((if0 _ _).trans (feq (by decide : ¬ ((1 : Int32) = (0 : Int32)))).1)) ?_
        show Go p e below _ T85 (mkF m 120 #[.val (.int p0), .val (.int p1), .val (.int p2), .val (.int p3), .val (.int p4), .val (.int (1 : Int32)), .val (.int c0), .val (.int c1), .val (.int c2), .val (.int c3), .val (.ref b47), .val (.ref b64), .unset] [])
        refine Go.of (fun _ => XS.iload H86.here hx rfl (hb hby at_120) rfl) ?_
        show Go p e below _ T85 (mkF m 122 #[.val (.int p0), .val (.int p1), .val (.int p2), .val (.int p3), .val (.int p4), .val (.int (1 : Int32)), .val (.int c0), .val (.int c1), .val (.int c2), .val (.int c3), .val (.ref b47), .val (.ref b64), .unset] [(.int (1 : Int32))])
        refine Go.of (fun _ => XS.iconst H86.here hx rfl (hb hby at_122)) ?_
        show Go p e below _ T85 (mkF m 123 #[.val (.int p0), .val (.int p1), .val (.int p2), .val (.int p3), .val (.int p4), .val (.int (1 : Int32)), .val (.int c0), .val (.int c1), .val (.int c2), .val (.int c3), .val (.ref b47), .val (.ref b64), .unset] [(.int (2 : Int32)), (.int (1 : Int32))])
        refine Go.of (fun _ => XS.icmpYes H86.here hx rfl (pc0 := 123) (pc' := 134) rfl (hb hby at_123) rfl (tlt (by decide : (1 : Int32) < (2 : Int32))).1 (by decide) (by decide)) ?_
        show Go p e below _ T85 (mkF m 134 #[.val (.int p0), .val (.int p1), .val (.int p2), .val (.int p3), .val (.int p4), .val (.int (1 : Int32)), .val (.int c0), .val (.int c1), .val (.int c2), .val (.int c3), .val (.ref b47), .val (.ref b64), .unset] [])
        refine Go.of (fun _ => XS.iload H86.here hx rfl (hb hby at_134) rfl) ?_
        show Go p e below _ T85 (mkF m 136 #[.val (.int p0), .val (.int p1), .val (.int p2), .val (.int p3), .val (.int p4), .val (.int (1 : Int32)), .val (.int c0), .val (.int c1), .val (.int c2), .val (.int c3), .val (.ref b47), .val (.ref b64), .unset] [(.int (1 : Int32))])
        refine Go.of (fun _ => XS.iconst H86.here hx rfl (hb hby at_136)) ?_
        show Go p e below _ T85 (mkF m 137 #[.val (.int p0), .val (.int p1), .val (.int p2), .val (.int p3), .val (.int p4), .val (.int (1 : Int32)), .val (.int c0), .val (.int c1), .val (.int c2), .val (.int c3), .val (.ref b47), .val (.ref b64), .unset] [(.int (3 : Int32)), (.int (1 : Int32))])
        refine Go.of (fun _ => XS.icmpYes H86.here hx rfl (pc0 := 137) (pc' := 148) rfl (hb hby at_137) rfl (tlt (by decide : (1 : Int32) < (3 : Int32))).1 (by decide) (by decide)) ?_
        show Go p e below _ T85 (mkF m 148 #[.val (.int p0), .val (.int p1), .val (.int p2), .val (.int p3), .val (.int p4), .val (.int (1 : Int32)), .val (.int c0), .val (.int c1), .val (.int c2), .val (.int c3), .val (.ref b47), .val (.ref b64), .unset] [])
        refine Go.of (fun _ => XS.iload H86.here hx rfl (hb hby at_148) rfl) ?_
        show Go p e below _ T85 (mkF m 150 #[.val (.int p0), .val (.int p1), .val (.int p2), .val (.int p3), .val (.int p4), .val (.int (1 : Int32)), .val (.int c0), .val (.int c1), .val (.int c2), .val (.int c3), .val (.ref b47), .val (.ref b64), .unset] [(.int (1 : Int32))])
        refine Go.of (fun _ => XS.iconst H86.here hx rfl (hb hby at_150)) ?_
        show Go p e below _ T85 (mkF m 151 #[.val (.int p0), .val (.int p1), .val (.int p2), .val (.int p3), .val (.int p4), .val (.int (1 : Int32)), .val (.int c0), .val (.int c1), .val (.int c2), .val (.int c3), .val (.ref b47), .val (.ref b64), .unset] [(.int (4 : Int32)), (.int (1 : Int32))])
        refine Go.of (fun _ => XS.icmpYes H86.here hx rfl (pc0 := 151) (pc' := 162) rfl (hb hby at_151) rfl (tlt (by decide : (1 : Int32) < (4 : Int32))).1 (by decide) (by decide)) ?_
        show Go p e below _ T85 (mkF m 162 #[.val (.int p0), .val (.int p1), .val (.int p2), .val (.int p3), .val (.int p4), .val (.int (1 : Int32)), .val (.int c0), .val (.int c1), .val (.int c2), .val (.int c3), .val (.ref b47), .val (.ref b64), .unset] [])
        refine Go.of (fun _ => XS.iconst H86.here hx rfl (hb hby at_162)) ?_
        show Go p e below _ T85 (mkF m 163 #[.val (.int p0), .val (.int p1), .val (.int p2), .val (.int p3), .val (.int p4), .val (.int (1 : Int32)), .val (.int c0), .val (.int c1), .val (.int c2), .val (.int c3), .val (.ref b47), .val (.ref b64), .unset] [(.int (1 : Int32))])
        refine Go.of (fun _ => XS.goto H86.here hx rfl (pc0 := 163) (pc' := 167) rfl (hb hby at_163) (by decide) (by decide)) ?_
        show Go p e below _ T85 (mkF m 167 #[.val (.int p0), .val (.int p1), .val (.int p2), .val (.int p3), .val (.int p4), .val (.int (1 : Int32)), .val (.int c0), .val (.int c1), .val (.int c2), .val (.int c3), .val (.ref b47), .val (.ref b64), .unset] [(.int (1 : Int32))])
        refine Go.of (fun _ => XS.istore H86.here hx rfl (hb hby at_167) rfl (l' := #[.val (.int p0), .val (.int p1), .val (.int p2), .val (.int p3), .val (.int p4), .val (.int (1 : Int32)), .val (.int c0), .val (.int c1), .val (.int c2), .val (.int c3), .val (.ref b47), .val (.ref b64), .val (.int (1 : Int32))]) rfl) ?_
        show Go p e below _ T85 (mkF m 169 #[.val (.int p0), .val (.int p1), .val (.int p2), .val (.int p3), .val (.int p4), .val (.int (1 : Int32)), .val (.int c0), .val (.int c1), .val (.int c2), .val (.int c3), .val (.ref b47), .val (.ref b64), .val (.int (1 : Int32))] [])
        refine Go.of (fun _ => XS.aload H86.here hx rfl (hb hby at_169) rfl rfl) ?_
        show Go p e below _ T85 (mkF m 171 #[.val (.int p0), .val (.int p1), .val (.int p2), .val (.int p3), .val (.int p4), .val (.int (1 : Int32)), .val (.int c0), .val (.int c1), .val (.int c2), .val (.int c3), .val (.ref b47), .val (.ref b64), .val (.int (1 : Int32))] [(.ref b64)])
        refine own_staticW H86 hx (y := (⟨"com/example/entitled/entitled/lang/Lexer", "isName", "(Ljava/lang/String;)Z"⟩ : MethodName)) hown (ow hw 24 rfl) (ow hw 25 rfl) (ow hw 26 rfl) (ow hw 27 rfl) (by decide) (W := 0) (rm_inm l Z a0 hw hE b64 ([c0] : List Int32) 1 zc fm h77 H86.old SS (by simp) rfl SC hzc SF hfm SA SHB SLB) (fun _ hq => nomatch hq) (by decide) (by decide) rfl (by rw [hml]; rfl) (argsL := [(.ref b64)]) (rest := []) rfl (lenOf pd_16 rfl) rfl (by show 2 * 0 + _ ≤ _; exact Nat.le_of_eq rfl) (hb hby at_171) (by decide) (by decide) fun T94 h96 v98 H95 hs99 q97 => ?_
        obtain ⟨ve101, e100⟩ := q97
        subst e100
        subst ve101
        show Go p e below _ T94 (mkF m 174 #[.val (.int p0), .val (.int p1), .val (.int p2), .val (.int p3), .val (.int p4), .val (.int (1 : Int32)), .val (.int c0), .val (.int c1), .val (.int c2), .val (.int c3), .val (.ref b47), .val (.ref b64), .val (.int (1 : Int32))] [(.int (if own_isn ([c0] : List Int32) then 1 else 0))])
        rw [if_pos (show own_isn ([c0] : List Int32) from ⟨(by simp), hq93, all0c⟩)]
        show Go p e below _ T94 (mkF m 174 #[.val (.int p0), .val (.int p1), .val (.int p2), .val (.int p3), .val (.int p4), .val (.int (1 : Int32)), .val (.int c0), .val (.int c1), .val (.int c2), .val (.int c3), .val (.ref b47), .val (.ref b64), .val (.int (1 : Int32))] [(.int (1 : Int32))])
        refine Go.of (fun _ => XS.iload H95.here hx rfl (hb hby at_174) rfl) ?_
        show Go p e below _ T94 (mkF m 176 #[.val (.int p0), .val (.int p1), .val (.int p2), .val (.int p3), .val (.int p4), .val (.int (1 : Int32)), .val (.int c0), .val (.int c1), .val (.int c2), .val (.int c3), .val (.ref b47), .val (.ref b64), .val (.int (1 : Int32))] [(.int (1 : Int32)), (.int (1 : Int32))])
        refine Go.of (fun _ => XS.icmpNo H95.here hx rfl (hb hby at_176) rfl (teq (by decide : (1 : Int32) = (1 : Int32))).2) ?_
        show Go p e below _ T94 (mkF m 179 #[.val (.int p0), .val (.int p1), .val (.int p2), .val (.int p3), .val (.int p4), .val (.int (1 : Int32)), .val (.int c0), .val (.int c1), .val (.int c2), .val (.int c3), .val (.ref b47), .val (.ref b64), .val (.int (1 : Int32))] [])
        refine Go.of (fun _ => XS.iconst H95.here hx rfl (hb hby at_179)) ?_
        show Go p e below _ T94 (mkF m 180 #[.val (.int p0), .val (.int p1), .val (.int p2), .val (.int p3), .val (.int p4), .val (.int (1 : Int32)), .val (.int c0), .val (.int c1), .val (.int c2), .val (.int c3), .val (.ref b47), .val (.ref b64), .val (.int (1 : Int32))] [(.int (1 : Int32))])
        refine Go.of (fun _ => XS.goto H95.here hx rfl (pc0 := 180) (pc' := 184) rfl (hb hby at_180) (by decide) (by decide)) ?_
        show Go p e below _ T94 (mkF m 184 #[.val (.int p0), .val (.int p1), .val (.int p2), .val (.int p3), .val (.int p4), .val (.int (1 : Int32)), .val (.int c0), .val (.int c1), .val (.int c2), .val (.int c3), .val (.ref b47), .val (.ref b64), .val (.int (1 : Int32))] [(.int (1 : Int32))])
        exact own_retN H95 hx hlk (t := .boolean) hret (by simp) (hb hby at_184) all0 rfl (by decide) (by decide)
      · skip
        rw [if_neg hq93]
        show Go p e below _ T85 (mkF m 117 #[.val (.int p0), .val (.int p1), .val (.int p2), .val (.int p3), .val (.int p4), .val (.int (1 : Int32)), .val (.int c0), .val (.int c1), .val (.int c2), .val (.int c3), .val (.ref b47), .val (.ref b64), .unset] [(.int (0 : Int32))])
        refine Go.of (fun _ => XS.ifYes H86.here hx rfl (pc0 := 117) (pc' := 166) rfl (hb hby at_117) rfl ((if0 _ _).trans (teq (by decide : (0 : Int32) = (0 : Int32))).1) (by decide) (by decide)) ?_
        show Go p e below _ T85 (mkF m 166 #[.val (.int p0), .val (.int p1), .val (.int p2), .val (.int p3), .val (.int p4), .val (.int (1 : Int32)), .val (.int c0), .val (.int c1), .val (.int c2), .val (.int c3), .val (.ref b47), .val (.ref b64), .unset] [])
        refine Go.of (fun _ => XS.iconst H86.here hx rfl (hb hby at_166)) ?_
        show Go p e below _ T85 (mkF m 167 #[.val (.int p0), .val (.int p1), .val (.int p2), .val (.int p3), .val (.int p4), .val (.int (1 : Int32)), .val (.int c0), .val (.int c1), .val (.int c2), .val (.int c3), .val (.ref b47), .val (.ref b64), .unset] [(.int (0 : Int32))])
        refine Go.of (fun _ => XS.istore H86.here hx rfl (hb hby at_167) rfl (l' := #[.val (.int p0), .val (.int p1), .val (.int p2), .val (.int p3), .val (.int p4), .val (.int (1 : Int32)), .val (.int c0), .val (.int c1), .val (.int c2), .val (.int c3), .val (.ref b47), .val (.ref b64), .val (.int (0 : Int32))]) rfl) ?_
        show Go p e below _ T85 (mkF m 169 #[.val (.int p0), .val (.int p1), .val (.int p2), .val (.int p3), .val (.int p4), .val (.int (1 : Int32)), .val (.int c0), .val (.int c1), .val (.int c2), .val (.int c3), .val (.ref b47), .val (.ref b64), .val (.int (0 : Int32))] [])
        refine Go.of (fun _ => XS.aload H86.here hx rfl (hb hby at_169) rfl rfl) ?_
        show Go p e below _ T85 (mkF m 171 #[.val (.int p0), .val (.int p1), .val (.int p2), .val (.int p3), .val (.int p4), .val (.int (1 : Int32)), .val (.int c0), .val (.int c1), .val (.int c2), .val (.int c3), .val (.ref b47), .val (.ref b64), .val (.int (0 : Int32))] [(.ref b64)])
        refine own_staticW H86 hx (y := (⟨"com/example/entitled/entitled/lang/Lexer", "isName", "(Ljava/lang/String;)Z"⟩ : MethodName)) hown (ow hw 24 rfl) (ow hw 25 rfl) (ow hw 26 rfl) (ow hw 27 rfl) (by decide) (W := 0) (rm_inm l Z a0 hw hE b64 ([c0] : List Int32) 1 zc fm h77 H86.old SS (by simp) rfl SC hzc SF hfm SA SHB SLB) (fun _ hq => nomatch hq) (by decide) (by decide) rfl (by rw [hml]; rfl) (argsL := [(.ref b64)]) (rest := []) rfl (lenOf pd_16 rfl) rfl (by show 2 * 0 + _ ≤ _; exact Nat.le_of_eq rfl) (hb hby at_171) (by decide) (by decide) fun T102 h104 v106 H103 hs107 q105 => ?_
        obtain ⟨ve109, e108⟩ := q105
        subst e108
        subst ve109
        show Go p e below _ T102 (mkF m 174 #[.val (.int p0), .val (.int p1), .val (.int p2), .val (.int p3), .val (.int p4), .val (.int (1 : Int32)), .val (.int c0), .val (.int c1), .val (.int c2), .val (.int c3), .val (.ref b47), .val (.ref b64), .val (.int (0 : Int32))] [(.int (if own_isn ([c0] : List Int32) then 1 else 0))])
        rw [if_neg (show ¬ own_isn ([c0] : List Int32) from (fun q => hq93 q.2.1))]
        show Go p e below _ T102 (mkF m 174 #[.val (.int p0), .val (.int p1), .val (.int p2), .val (.int p3), .val (.int p4), .val (.int (1 : Int32)), .val (.int c0), .val (.int c1), .val (.int c2), .val (.int c3), .val (.ref b47), .val (.ref b64), .val (.int (0 : Int32))] [(.int (0 : Int32))])
        refine Go.of (fun _ => XS.iload H103.here hx rfl (hb hby at_174) rfl) ?_
        show Go p e below _ T102 (mkF m 176 #[.val (.int p0), .val (.int p1), .val (.int p2), .val (.int p3), .val (.int p4), .val (.int (1 : Int32)), .val (.int c0), .val (.int c1), .val (.int c2), .val (.int c3), .val (.ref b47), .val (.ref b64), .val (.int (0 : Int32))] [(.int (0 : Int32)), (.int (0 : Int32))])
        refine Go.of (fun _ => XS.icmpNo H103.here hx rfl (hb hby at_176) rfl (teq (by decide : (0 : Int32) = (0 : Int32))).2) ?_
        show Go p e below _ T102 (mkF m 179 #[.val (.int p0), .val (.int p1), .val (.int p2), .val (.int p3), .val (.int p4), .val (.int (1 : Int32)), .val (.int c0), .val (.int c1), .val (.int c2), .val (.int c3), .val (.ref b47), .val (.ref b64), .val (.int (0 : Int32))] [])
        refine Go.of (fun _ => XS.iconst H103.here hx rfl (hb hby at_179)) ?_
        show Go p e below _ T102 (mkF m 180 #[.val (.int p0), .val (.int p1), .val (.int p2), .val (.int p3), .val (.int p4), .val (.int (1 : Int32)), .val (.int c0), .val (.int c1), .val (.int c2), .val (.int c3), .val (.ref b47), .val (.ref b64), .val (.int (0 : Int32))] [(.int (1 : Int32))])
        refine Go.of (fun _ => XS.goto H103.here hx rfl (pc0 := 180) (pc' := 184) rfl (hb hby at_180) (by decide) (by decide)) ?_
        show Go p e below _ T102 (mkF m 184 #[.val (.int p0), .val (.int p1), .val (.int p2), .val (.int p3), .val (.int p4), .val (.int (1 : Int32)), .val (.int c0), .val (.int c1), .val (.int c2), .val (.int c3), .val (.ref b47), .val (.ref b64), .val (.int (0 : Int32))] [(.int (1 : Int32))])
        exact own_retN H103 hx hlk (t := .boolean) hret (by simp) (hb hby at_184) all0 rfl (by decide) (by decide)
    · skip
      show Go p e below _ s₁ (mkF m 37 #[.val (.int p0), .val (.int p1), .val (.int p2), .val (.int p3), .val (.int p4), .val (.int (2 : Int32)), .val (.int c0), .val (.int c1), .val (.int c2), .val (.int c3), .unset, .unset, .unset] [])
      refine Go.of (fun _ => XS.iload H0.here hx rfl (hb hby at_37) rfl) ?_
      show Go p e below _ s₁ (mkF m 39 #[.val (.int p0), .val (.int p1), .val (.int p2), .val (.int p3), .val (.int p4), .val (.int (2 : Int32)), .val (.int c0), .val (.int c1), .val (.int c2), .val (.int c3), .unset, .unset, .unset] [(.int (2 : Int32))])
      refine own_newP H0 hx (ow hw 2 rfl) rfl (hb hby at_39) rfl (by decide) (cap := 2) (by decide) (by decide) (by decide) (by decide) fun T110 h112 b113 kA116 g114 H111 E115 V117 => ?_
      have fr118 : Z.heap.size ≤ b113 := by rw [g114]; exact H0.old.1
      have V119 : Arv Z h112 b113 kA116 .char (2 : Int32) [(.int (0 : Int32)), (.int (0 : Int32))] (.int (0 : Int32)) := V117.pad (pad_rep [] (.int (0 : Int32)) 2)
      show Go p e below _ T110 (mkF m 41 #[.val (.int p0), .val (.int p1), .val (.int p2), .val (.int p3), .val (.int p4), .val (.int (2 : Int32)), .val (.int c0), .val (.int c1), .val (.int c2), .val (.int c3), .unset, .unset, .unset] [(.ref b113)])
      refine Go.of (fun _ => XS.astore H111.here hx rfl (hb hby at_41) rfl rfl (l' := #[.val (.int p0), .val (.int p1), .val (.int p2), .val (.int p3), .val (.int p4), .val (.int (2 : Int32)), .val (.int c0), .val (.int c1), .val (.int c2), .val (.int c3), .val (.ref b113), .unset, .unset]) rfl) ?_
      show Go p e below _ T110 (mkF m 43 #[.val (.int p0), .val (.int p1), .val (.int p2), .val (.int p3), .val (.int p4), .val (.int (2 : Int32)), .val (.int c0), .val (.int c1), .val (.int c2), .val (.int c3), .val (.ref b113), .unset, .unset] [])
      refine Go.of (fun _ => XS.iload H111.here hx rfl (hb hby at_43) rfl) ?_
      show Go p e below _ T110 (mkF m 45 #[.val (.int p0), .val (.int p1), .val (.int p2), .val (.int p3), .val (.int p4), .val (.int (2 : Int32)), .val (.int c0), .val (.int c1), .val (.int c2), .val (.int c3), .val (.ref b113), .unset, .unset] [(.int (2 : Int32))])
      refine Go.of (fun _ => XS.ifNo H111.here hx rfl (hb hby at_45) rfl ((if0 _ _).trans (tlt (by decide : (0 : Int32) < (2 : Int32))).2.2.2)) ?_
      show Go p e below _ T110 (mkF m 48 #[.val (.int p0), .val (.int p1), .val (.int p2), .val (.int p3), .val (.int p4), .val (.int (2 : Int32)), .val (.int c0), .val (.int c1), .val (.int c2), .val (.int c3), .val (.ref b113), .unset, .unset] [])
      refine Go.of (fun _ => XS.aload H111.here hx rfl (hb hby at_48) rfl rfl) ?_
      show Go p e below _ T110 (mkF m 50 #[.val (.int p0), .val (.int p1), .val (.int p2), .val (.int p3), .val (.int p4), .val (.int (2 : Int32)), .val (.int c0), .val (.int c1), .val (.int c2), .val (.int c3), .val (.ref b113), .unset, .unset] [(.ref b113)])
      refine Go.of (fun _ => XS.iconst H111.here hx rfl (hb hby at_50)) ?_
      show Go p e below _ T110 (mkF m 51 #[.val (.int p0), .val (.int p1), .val (.int p2), .val (.int p3), .val (.int p4), .val (.int (2 : Int32)), .val (.int c0), .val (.int c1), .val (.int c2), .val (.int c3), .val (.ref b113), .unset, .unset] [(.int (0 : Int32)), (.ref b113)])
      refine Go.of (fun _ => XS.iload H111.here hx rfl (hb hby at_51) rfl) ?_
      show Go p e below _ T110 (mkF m 53 #[.val (.int p0), .val (.int p1), .val (.int p2), .val (.int p3), .val (.int p4), .val (.int (2 : Int32)), .val (.int c0), .val (.int c1), .val (.int c2), .val (.int c3), .val (.ref b113), .unset, .unset] [(.int c0), (.int (0 : Int32)), (.ref b113)])
      refine own_castore H111 hx V119 ⟨by decide, by decide⟩ 0 (by decide) (Nat.le_of_ble_eq_true rfl) fr118 rfl rfl (hb hby at_53) fun T120 h122 H121 W123 V124 => ?_
      have V126 : Arv Z h122 b113 kA116 .char (2 : Int32) [(.int (nar .char c0)), (.int (0 : Int32))] (.int (0 : Int32)) := V124
      show Go p e below _ T120 (mkF m 54 #[.val (.int p0), .val (.int p1), .val (.int p2), .val (.int p3), .val (.int p4), .val (.int (2 : Int32)), .val (.int c0), .val (.int c1), .val (.int c2), .val (.int c3), .val (.ref b113), .unset, .unset] [])
      refine Go.of (fun _ => XS.iload H121.here hx rfl (hb hby at_54) rfl) ?_
      show Go p e below _ T120 (mkF m 56 #[.val (.int p0), .val (.int p1), .val (.int p2), .val (.int p3), .val (.int p4), .val (.int (2 : Int32)), .val (.int c0), .val (.int c1), .val (.int c2), .val (.int c3), .val (.ref b113), .unset, .unset] [(.int (2 : Int32))])
      refine Go.of (fun _ => XS.iconst H121.here hx rfl (hb hby at_56)) ?_
      show Go p e below _ T120 (mkF m 57 #[.val (.int p0), .val (.int p1), .val (.int p2), .val (.int p3), .val (.int p4), .val (.int (2 : Int32)), .val (.int c0), .val (.int c1), .val (.int c2), .val (.int c3), .val (.ref b113), .unset, .unset] [(.int (1 : Int32)), (.int (2 : Int32))])
      refine Go.of (fun _ => XS.icmpNo H121.here hx rfl (hb hby at_57) rfl (tlt (by decide : (1 : Int32) < (2 : Int32))).2.2.2) ?_
      show Go p e below _ T120 (mkF m 60 #[.val (.int p0), .val (.int p1), .val (.int p2), .val (.int p3), .val (.int p4), .val (.int (2 : Int32)), .val (.int c0), .val (.int c1), .val (.int c2), .val (.int c3), .val (.ref b113), .unset, .unset] [])
      refine Go.of (fun _ => XS.aload H121.here hx rfl (hb hby at_60) rfl rfl) ?_
      show Go p e below _ T120 (mkF m 62 #[.val (.int p0), .val (.int p1), .val (.int p2), .val (.int p3), .val (.int p4), .val (.int (2 : Int32)), .val (.int c0), .val (.int c1), .val (.int c2), .val (.int c3), .val (.ref b113), .unset, .unset] [(.ref b113)])
      refine Go.of (fun _ => XS.iconst H121.here hx rfl (hb hby at_62)) ?_
      show Go p e below _ T120 (mkF m 63 #[.val (.int p0), .val (.int p1), .val (.int p2), .val (.int p3), .val (.int p4), .val (.int (2 : Int32)), .val (.int c0), .val (.int c1), .val (.int c2), .val (.int c3), .val (.ref b113), .unset, .unset] [(.int (1 : Int32)), (.ref b113)])
      refine Go.of (fun _ => XS.iload H121.here hx rfl (hb hby at_63) rfl) ?_
      show Go p e below _ T120 (mkF m 65 #[.val (.int p0), .val (.int p1), .val (.int p2), .val (.int p3), .val (.int p4), .val (.int (2 : Int32)), .val (.int c0), .val (.int c1), .val (.int c2), .val (.int c3), .val (.ref b113), .unset, .unset] [(.int c1), (.int (1 : Int32)), (.ref b113)])
      refine own_castore H121 hx V126 ⟨by decide, by decide⟩ 1 (by decide) (Nat.le_of_ble_eq_true rfl) fr118 rfl rfl (hb hby at_65) fun T127 h129 H128 W130 V131 => ?_
      have V133 : Arv Z h129 b113 kA116 .char (2 : Int32) [(.int (nar .char c0)), (.int (nar .char c1))] (.int (0 : Int32)) := V131
      show Go p e below _ T127 (mkF m 66 #[.val (.int p0), .val (.int p1), .val (.int p2), .val (.int p3), .val (.int p4), .val (.int (2 : Int32)), .val (.int c0), .val (.int c1), .val (.int c2), .val (.int c3), .val (.ref b113), .unset, .unset] [])
      refine Go.of (fun _ => XS.iload H128.here hx rfl (hb hby at_66) rfl) ?_
      show Go p e below _ T127 (mkF m 68 #[.val (.int p0), .val (.int p1), .val (.int p2), .val (.int p3), .val (.int p4), .val (.int (2 : Int32)), .val (.int c0), .val (.int c1), .val (.int c2), .val (.int c3), .val (.ref b113), .unset, .unset] [(.int (2 : Int32))])
      refine Go.of (fun _ => XS.iconst H128.here hx rfl (hb hby at_68)) ?_
      show Go p e below _ T127 (mkF m 69 #[.val (.int p0), .val (.int p1), .val (.int p2), .val (.int p3), .val (.int p4), .val (.int (2 : Int32)), .val (.int c0), .val (.int c1), .val (.int c2), .val (.int c3), .val (.ref b113), .unset, .unset] [(.int (2 : Int32)), (.int (2 : Int32))])
      refine Go.of (fun _ => XS.icmpYes H128.here hx rfl (pc0 := 69) (pc' := 78) rfl (hb hby at_69) rfl (flt (by decide : ¬ ((2 : Int32) < (2 : Int32)))).2.2.2 (by decide) (by decide)) ?_
      show Go p e below _ T127 (mkF m 78 #[.val (.int p0), .val (.int p1), .val (.int p2), .val (.int p3), .val (.int p4), .val (.int (2 : Int32)), .val (.int c0), .val (.int c1), .val (.int c2), .val (.int c3), .val (.ref b113), .unset, .unset] [])
      refine Go.of (fun _ => XS.iload H128.here hx rfl (hb hby at_78) rfl) ?_
      show Go p e below _ T127 (mkF m 80 #[.val (.int p0), .val (.int p1), .val (.int p2), .val (.int p3), .val (.int p4), .val (.int (2 : Int32)), .val (.int c0), .val (.int c1), .val (.int c2), .val (.int c3), .val (.ref b113), .unset, .unset] [(.int (2 : Int32))])
      refine Go.of (fun _ => XS.iconst H128.here hx rfl (hb hby at_80)) ?_
      show Go p e below _ T127 (mkF m 81 #[.val (.int p0), .val (.int p1), .val (.int p2), .val (.int p3), .val (.int p4), .val (.int (2 : Int32)), .val (.int c0), .val (.int c1), .val (.int c2), .val (.int c3), .val (.ref b113), .unset, .unset] [(.int (3 : Int32)), (.int (2 : Int32))])
      refine Go.of (fun _ => XS.icmpYes H128.here hx rfl (pc0 := 81) (pc' := 90) rfl (hb hby at_81) rfl (flt (by decide : ¬ ((3 : Int32) < (2 : Int32)))).2.2.2 (by decide) (by decide)) ?_
      show Go p e below _ T127 (mkF m 90 #[.val (.int p0), .val (.int p1), .val (.int p2), .val (.int p3), .val (.int p4), .val (.int (2 : Int32)), .val (.int c0), .val (.int c1), .val (.int c2), .val (.int c3), .val (.ref b113), .unset, .unset] [])
      refine own_new H128 hx hown (ow hw 3 rfl) (ow hw 4 rfl) (ow hw 5 rfl) rfl (hb hby at_90) (by decide) (by decide) fun T134 h136 b137 g138 H135 E139 A140 D141 => ?_
      have ne142 : b113 ≠ b137 := by rw [g138]; exact Nat.ne_of_lt V133.lt
      have fr143 : Z.heap.size ≤ b137 := by rw [g138]; exact H128.old.1
      have f144 := V133.ext E139
      have f145 : Fld Z h136 b137 "java/lang/String" "value" "[B" .null := D141 (Or.inr (ow hw 18 rfl)) (ty := (.array .byte)) (by decide)
      have f146 : Fld Z h136 b137 "java/lang/String" "coder" "B" (.int (0 : Int32)) := D141 (Or.inr (ow hw 19 rfl)) (ty := .byte) (by decide)
      show Go p e below _ T134 (mkF m 93 #[.val (.int p0), .val (.int p1), .val (.int p2), .val (.int p3), .val (.int p4), .val (.int (2 : Int32)), .val (.int c0), .val (.int c1), .val (.int c2), .val (.int c3), .val (.ref b113), .unset, .unset] [(.ref b137)])
      refine Go.of (fun _ => XS.dup H135.here hx rfl (hb hby at_93) rfl rfl) ?_
      show Go p e below _ T134 (mkF m 94 #[.val (.int p0), .val (.int p1), .val (.int p2), .val (.int p3), .val (.int p4), .val (.int (2 : Int32)), .val (.int c0), .val (.int c1), .val (.int c2), .val (.int c3), .val (.ref b113), .unset, .unset] [(.ref b137), (.ref b137)])
      refine Go.of (fun _ => XS.aload H135.here hx rfl (hb hby at_94) rfl rfl) ?_
      show Go p e below _ T134 (mkF m 96 #[.val (.int p0), .val (.int p1), .val (.int p2), .val (.int p3), .val (.int p4), .val (.int (2 : Int32)), .val (.int c0), .val (.int c1), .val (.int c2), .val (.int c3), .val (.ref b113), .unset, .unset] [(.ref b113), (.ref b137), (.ref b137)])
      have hV147 : Arv Z h136 b113 kA116 .char (Int32.ofNat 2) (([c0, c1] : List Int32).map Value.int) (.int (0 : Int32)) := by have := f144; rw [own_narc16 hc0, own_narc16 hc1] at this; exact this
      refine own_specialW H135 hx (y := (⟨"java/lang/String", "<init>", "([C)V"⟩ : MethodName)) rfl hown (ow hw 6 rfl) (ow hw 7 rfl) (ow hw 5 rfl) (ow hw 8 rfl) (by decide) (W := 1) (rm_s1 l Z a0 hw hE b137 b113 kA116 2 ([c0, c1] : List Int32) (.int (0 : Int32)) zc h136 H135.old A140 f145 f146 fr143 ne142 hV147 rfl (by decide) (allC hc0 (allC hc1 all0c)) SC hzc SA SHB SLB) (allS (List.mem_of_getElem? (i := 0) rfl) all0) (by decide) (by decide) rfl (by rw [hml]; rfl) (a := b137) (argsL := [(.ref b113)]) (rest := [(.ref b137)]) rfl (lenOf pd_15 rfl) rfl (by show 2 * 0 + _ ≤ _; exact Nat.le_of_eq rfl) (hb hby at_96) (by decide) (by decide) fun T148 h150 v152 H149 hs153 q151 => ?_
      obtain ⟨rfl, KK, SS⟩ := q151
      have f154 := f144.keep KK (ninS ne142 nin0)
      have f155 := A140.keep KK
      show Go p e below _ T148 (mkF m 99 #[.val (.int p0), .val (.int p1), .val (.int p2), .val (.int p3), .val (.int p4), .val (.int (2 : Int32)), .val (.int c0), .val (.int c1), .val (.int c2), .val (.int c3), .val (.ref b113), .unset, .unset] [(.ref b137)])
      refine Go.of (fun _ => XS.astore H149.here hx rfl (hb hby at_99) rfl rfl (l' := #[.val (.int p0), .val (.int p1), .val (.int p2), .val (.int p3), .val (.int p4), .val (.int (2 : Int32)), .val (.int c0), .val (.int c1), .val (.int c2), .val (.int c3), .val (.ref b113), .val (.ref b137), .unset]) rfl) ?_
      show Go p e below _ T148 (mkF m 101 #[.val (.int p0), .val (.int p1), .val (.int p2), .val (.int p3), .val (.int p4), .val (.int (2 : Int32)), .val (.int c0), .val (.int c1), .val (.int c2), .val (.int c3), .val (.ref b113), .val (.ref b137), .unset] [])
      refine Go.of (fun _ => XS.iload H149.here hx rfl (hb hby at_101) rfl) ?_
      show Go p e below _ T148 (mkF m 103 #[.val (.int p0), .val (.int p1), .val (.int p2), .val (.int p3), .val (.int p4), .val (.int (2 : Int32)), .val (.int c0), .val (.int c1), .val (.int c2), .val (.int c3), .val (.ref b113), .val (.ref b137), .unset] [(.int (2 : Int32))])
      refine Go.of (fun _ => XS.ifYes H149.here hx rfl (pc0 := 103) (pc' := 112) rfl (hb hby at_103) rfl ((if0 _ _).trans (feq (by decide : ¬ ((2 : Int32) = (0 : Int32)))).2) (by decide) (by decide)) ?_
      show Go p e below _ T148 (mkF m 112 #[.val (.int p0), .val (.int p1), .val (.int p2), .val (.int p3), .val (.int p4), .val (.int (2 : Int32)), .val (.int c0), .val (.int c1), .val (.int c2), .val (.int c3), .val (.ref b113), .val (.ref b137), .unset] [])
      refine Go.of (fun _ => XS.iload H149.here hx rfl (hb hby at_112) rfl) ?_
      show Go p e below _ T148 (mkF m 114 #[.val (.int p0), .val (.int p1), .val (.int p2), .val (.int p3), .val (.int p4), .val (.int (2 : Int32)), .val (.int c0), .val (.int c1), .val (.int c2), .val (.int c3), .val (.ref b113), .val (.ref b137), .unset] [(.int c0)])
      refine own_staticW H149 hx (y := (⟨"com/example/entitled/entitled/lang/LexerIsNamePinLaw", "startOk", "(I)Z"⟩ : MethodName)) hown (ow hw 44 rfl) (ow hw 45 rfl) (ow hw 46 rfl) (ow hw 47 rfl) (by decide) (W := 0) (rm_sok l Z a0 hw hE c0 h150 H149.old ) (fun _ hq => nomatch hq) (by decide) (by decide) rfl (by rw [hml]; rfl) (argsL := [(.int c0)]) (rest := []) rfl (lenOf pd_13 rfl) rfl (by show 2 * 0 + _ ≤ _; exact Nat.le_of_eq rfl) (hb hby at_114) (by decide) (by decide) fun T158 h160 v162 H159 hs163 q161 => ?_
      obtain ⟨ve165, e164⟩ := q161
      subst e164
      subst ve165
      show Go p e below _ T158 (mkF m 117 #[.val (.int p0), .val (.int p1), .val (.int p2), .val (.int p3), .val (.int p4), .val (.int (2 : Int32)), .val (.int c0), .val (.int c1), .val (.int c2), .val (.int c3), .val (.ref b113), .val (.ref b137), .unset] [(.int (if own_sn c0 then 1 else 0))])
      by_cases hq166 : own_sn c0
      · skip
        rw [if_pos hq166]
        show Go p e below _ T158 (mkF m 117 #[.val (.int p0), .val (.int p1), .val (.int p2), .val (.int p3), .val (.int p4), .val (.int (2 : Int32)), .val (.int c0), .val (.int c1), .val (.int c2), .val (.int c3), .val (.ref b113), .val (.ref b137), .unset] [(.int (1 : Int32))])
        refine Go.of (fun _ => XS.ifNo H159.here hx rfl (hb hby at_117) rfl ((if0 _ _).trans (feq (by decide : ¬ ((1 : Int32) = (0 : Int32)))).1)) ?_
        show Go p e below _ T158 (mkF m 120 #[.val (.int p0), .val (.int p1), .val (.int p2), .val (.int p3), .val (.int p4), .val (.int (2 : Int32)), .val (.int c0), .val (.int c1), .val (.int c2), .val (.int c3), .val (.ref b113), .val (.ref b137), .unset] [])
        refine Go.of (fun _ => XS.iload H159.here hx rfl (hb hby at_120) rfl) ?_
        show Go p e below _ T158 (mkF m 122 #[.val (.int p0), .val (.int p1), .val (.int p2), .val (.int p3), .val (.int p4), .val (.int (2 : Int32)), .val (.int c0), .val (.int c1), .val (.int c2), .val (.int c3), .val (.ref b113), .val (.ref b137), .unset] [(.int (2 : Int32))])
        refine Go.of (fun _ => XS.iconst H159.here hx rfl (hb hby at_122)) ?_
        show Go p e below _ T158 (mkF m 123 #[.val (.int p0), .val (.int p1), .val (.int p2), .val (.int p3), .val (.int p4), .val (.int (2 : Int32)), .val (.int c0), .val (.int c1), .val (.int c2), .val (.int c3), .val (.ref b113), .val (.ref b137), .unset] [(.int (2 : Int32)), (.int (2 : Int32))])
        refine Go.of (fun _ => XS.icmpNo H159.here hx rfl (hb hby at_123) rfl (flt (by decide : ¬ ((2 : Int32) < (2 : Int32)))).1) ?_
        show Go p e below _ T158 (mkF m 126 #[.val (.int p0), .val (.int p1), .val (.int p2), .val (.int p3), .val (.int p4), .val (.int (2 : Int32)), .val (.int c0), .val (.int c1), .val (.int c2), .val (.int c3), .val (.ref b113), .val (.ref b137), .unset] [])
        refine Go.of (fun _ => XS.iload H159.here hx rfl (hb hby at_126) rfl) ?_
        show Go p e below _ T158 (mkF m 128 #[.val (.int p0), .val (.int p1), .val (.int p2), .val (.int p3), .val (.int p4), .val (.int (2 : Int32)), .val (.int c0), .val (.int c1), .val (.int c2), .val (.int c3), .val (.ref b113), .val (.ref b137), .unset] [(.int c1)])
        refine own_staticW H159 hx (y := (⟨"com/example/entitled/entitled/lang/LexerIsNamePinLaw", "partOk", "(I)Z"⟩ : MethodName)) hown (ow hw 105 rfl) (ow hw 106 rfl) (ow hw 46 rfl) (ow hw 107 rfl) (by decide) (W := 0) (rm_pok l Z a0 hw hE c1 h150 H159.old ) (fun _ hq => nomatch hq) (by decide) (by decide) rfl (by rw [hml]; rfl) (argsL := [(.int c1)]) (rest := []) rfl (lenOf pd_13 rfl) rfl (by show 2 * 0 + _ ≤ _; exact Nat.le_of_eq rfl) (hb hby at_128) (by decide) (by decide) fun T167 h169 v171 H168 hs172 q170 => ?_
        obtain ⟨ve174, e173⟩ := q170
        subst e173
        subst ve174
        show Go p e below _ T167 (mkF m 131 #[.val (.int p0), .val (.int p1), .val (.int p2), .val (.int p3), .val (.int p4), .val (.int (2 : Int32)), .val (.int c0), .val (.int c1), .val (.int c2), .val (.int c3), .val (.ref b113), .val (.ref b137), .unset] [(.int (if own_pt c1 then 1 else 0))])
        by_cases hq175 : own_pt c1
        · skip
          rw [if_pos hq175]
          show Go p e below _ T167 (mkF m 131 #[.val (.int p0), .val (.int p1), .val (.int p2), .val (.int p3), .val (.int p4), .val (.int (2 : Int32)), .val (.int c0), .val (.int c1), .val (.int c2), .val (.int c3), .val (.ref b113), .val (.ref b137), .unset] [(.int (1 : Int32))])
          refine Go.of (fun _ => XS.ifNo H168.here hx rfl (hb hby at_131) rfl ((if0 _ _).trans (feq (by decide : ¬ ((1 : Int32) = (0 : Int32)))).1)) ?_
          show Go p e below _ T167 (mkF m 134 #[.val (.int p0), .val (.int p1), .val (.int p2), .val (.int p3), .val (.int p4), .val (.int (2 : Int32)), .val (.int c0), .val (.int c1), .val (.int c2), .val (.int c3), .val (.ref b113), .val (.ref b137), .unset] [])
          refine Go.of (fun _ => XS.iload H168.here hx rfl (hb hby at_134) rfl) ?_
          show Go p e below _ T167 (mkF m 136 #[.val (.int p0), .val (.int p1), .val (.int p2), .val (.int p3), .val (.int p4), .val (.int (2 : Int32)), .val (.int c0), .val (.int c1), .val (.int c2), .val (.int c3), .val (.ref b113), .val (.ref b137), .unset] [(.int (2 : Int32))])
          refine Go.of (fun _ => XS.iconst H168.here hx rfl (hb hby at_136)) ?_
          show Go p e below _ T167 (mkF m 137 #[.val (.int p0), .val (.int p1), .val (.int p2), .val (.int p3), .val (.int p4), .val (.int (2 : Int32)), .val (.int c0), .val (.int c1), .val (.int c2), .val (.int c3), .val (.ref b113), .val (.ref b137), .unset] [(.int (3 : Int32)), (.int (2 : Int32))])
          refine Go.of (fun _ => XS.icmpYes H168.here hx rfl (pc0 := 137) (pc' := 148) rfl (hb hby at_137) rfl (tlt (by decide : (2 : Int32) < (3 : Int32))).1 (by decide) (by decide)) ?_
          show Go p e below _ T167 (mkF m 148 #[.val (.int p0), .val (.int p1), .val (.int p2), .val (.int p3), .val (.int p4), .val (.int (2 : Int32)), .val (.int c0), .val (.int c1), .val (.int c2), .val (.int c3), .val (.ref b113), .val (.ref b137), .unset] [])
          refine Go.of (fun _ => XS.iload H168.here hx rfl (hb hby at_148) rfl) ?_
          show Go p e below _ T167 (mkF m 150 #[.val (.int p0), .val (.int p1), .val (.int p2), .val (.int p3), .val (.int p4), .val (.int (2 : Int32)), .val (.int c0), .val (.int c1), .val (.int c2), .val (.int c3), .val (.ref b113), .val (.ref b137), .unset] [(.int (2 : Int32))])
          refine Go.of (fun _ => XS.iconst H168.here hx rfl (hb hby at_150)) ?_
          show Go p e below _ T167 (mkF m 151 #[.val (.int p0), .val (.int p1), .val (.int p2), .val (.int p3), .val (.int p4), .val (.int (2 : Int32)), .val (.int c0), .val (.int c1), .val (.int c2), .val (.int c3), .val (.ref b113), .val (.ref b137), .unset] [(.int (4 : Int32)), (.int (2 : Int32))])
          refine Go.of (fun _ => XS.icmpYes H168.here hx rfl (pc0 := 151) (pc' := 162) rfl (hb hby at_151) rfl (tlt (by decide : (2 : Int32) < (4 : Int32))).1 (by decide) (by decide)) ?_
          show Go p e below _ T167 (mkF m 162 #[.val (.int p0), .val (.int p1), .val (.int p2), .val (.int p3), .val (.int p4), .val (.int (2 : Int32)), .val (.int c0), .val (.int c1), .val (.int c2), .val (.int c3), .val (.ref b113), .val (.ref b137), .unset] [])
          refine Go.of (fun _ => XS.iconst H168.here hx rfl (hb hby at_162)) ?_
          show Go p e below _ T167 (mkF m 163 #[.val (.int p0), .val (.int p1), .val (.int p2), .val (.int p3), .val (.int p4), .val (.int (2 : Int32)), .val (.int c0), .val (.int c1), .val (.int c2), .val (.int c3), .val (.ref b113), .val (.ref b137), .unset] [(.int (1 : Int32))])
          refine Go.of (fun _ => XS.goto H168.here hx rfl (pc0 := 163) (pc' := 167) rfl (hb hby at_163) (by decide) (by decide)) ?_
          show Go p e below _ T167 (mkF m 167 #[.val (.int p0), .val (.int p1), .val (.int p2), .val (.int p3), .val (.int p4), .val (.int (2 : Int32)), .val (.int c0), .val (.int c1), .val (.int c2), .val (.int c3), .val (.ref b113), .val (.ref b137), .unset] [(.int (1 : Int32))])
          refine Go.of (fun _ => XS.istore H168.here hx rfl (hb hby at_167) rfl (l' := #[.val (.int p0), .val (.int p1), .val (.int p2), .val (.int p3), .val (.int p4), .val (.int (2 : Int32)), .val (.int c0), .val (.int c1), .val (.int c2), .val (.int c3), .val (.ref b113), .val (.ref b137), .val (.int (1 : Int32))]) rfl) ?_
          show Go p e below _ T167 (mkF m 169 #[.val (.int p0), .val (.int p1), .val (.int p2), .val (.int p3), .val (.int p4), .val (.int (2 : Int32)), .val (.int c0), .val (.int c1), .val (.int c2), .val (.int c3), .val (.ref b113), .val (.ref b137), .val (.int (1 : Int32))] [])
          refine Go.of (fun _ => XS.aload H168.here hx rfl (hb hby at_169) rfl rfl) ?_
          show Go p e below _ T167 (mkF m 171 #[.val (.int p0), .val (.int p1), .val (.int p2), .val (.int p3), .val (.int p4), .val (.int (2 : Int32)), .val (.int c0), .val (.int c1), .val (.int c2), .val (.int c3), .val (.ref b113), .val (.ref b137), .val (.int (1 : Int32))] [(.ref b137)])
          refine own_staticW H168 hx (y := (⟨"com/example/entitled/entitled/lang/Lexer", "isName", "(Ljava/lang/String;)Z"⟩ : MethodName)) hown (ow hw 24 rfl) (ow hw 25 rfl) (ow hw 26 rfl) (ow hw 27 rfl) (by decide) (W := 0) (rm_inm l Z a0 hw hE b137 ([c0, c1] : List Int32) 2 zc fm h150 H168.old SS (by simp) rfl SC hzc SF hfm SA SHB SLB) (fun _ hq => nomatch hq) (by decide) (by decide) rfl (by rw [hml]; rfl) (argsL := [(.ref b137)]) (rest := []) rfl (lenOf pd_16 rfl) rfl (by show 2 * 0 + _ ≤ _; exact Nat.le_of_eq rfl) (hb hby at_171) (by decide) (by decide) fun T176 h178 v180 H177 hs181 q179 => ?_
          obtain ⟨ve183, e182⟩ := q179
          subst e182
          subst ve183
          show Go p e below _ T176 (mkF m 174 #[.val (.int p0), .val (.int p1), .val (.int p2), .val (.int p3), .val (.int p4), .val (.int (2 : Int32)), .val (.int c0), .val (.int c1), .val (.int c2), .val (.int c3), .val (.ref b113), .val (.ref b137), .val (.int (1 : Int32))] [(.int (if own_isn ([c0, c1] : List Int32) then 1 else 0))])
          rw [if_pos (show own_isn ([c0, c1] : List Int32) from ⟨(by simp), hq166, (allC hq175 all0c)⟩)]
          show Go p e below _ T176 (mkF m 174 #[.val (.int p0), .val (.int p1), .val (.int p2), .val (.int p3), .val (.int p4), .val (.int (2 : Int32)), .val (.int c0), .val (.int c1), .val (.int c2), .val (.int c3), .val (.ref b113), .val (.ref b137), .val (.int (1 : Int32))] [(.int (1 : Int32))])
          refine Go.of (fun _ => XS.iload H177.here hx rfl (hb hby at_174) rfl) ?_
          show Go p e below _ T176 (mkF m 176 #[.val (.int p0), .val (.int p1), .val (.int p2), .val (.int p3), .val (.int p4), .val (.int (2 : Int32)), .val (.int c0), .val (.int c1), .val (.int c2), .val (.int c3), .val (.ref b113), .val (.ref b137), .val (.int (1 : Int32))] [(.int (1 : Int32)), (.int (1 : Int32))])
          refine Go.of (fun _ => XS.icmpNo H177.here hx rfl (hb hby at_176) rfl (teq (by decide : (1 : Int32) = (1 : Int32))).2) ?_
          show Go p e below _ T176 (mkF m 179 #[.val (.int p0), .val (.int p1), .val (.int p2), .val (.int p3), .val (.int p4), .val (.int (2 : Int32)), .val (.int c0), .val (.int c1), .val (.int c2), .val (.int c3), .val (.ref b113), .val (.ref b137), .val (.int (1 : Int32))] [])
          refine Go.of (fun _ => XS.iconst H177.here hx rfl (hb hby at_179)) ?_
          show Go p e below _ T176 (mkF m 180 #[.val (.int p0), .val (.int p1), .val (.int p2), .val (.int p3), .val (.int p4), .val (.int (2 : Int32)), .val (.int c0), .val (.int c1), .val (.int c2), .val (.int c3), .val (.ref b113), .val (.ref b137), .val (.int (1 : Int32))] [(.int (1 : Int32))])
          refine Go.of (fun _ => XS.goto H177.here hx rfl (pc0 := 180) (pc' := 184) rfl (hb hby at_180) (by decide) (by decide)) ?_
          show Go p e below _ T176 (mkF m 184 #[.val (.int p0), .val (.int p1), .val (.int p2), .val (.int p3), .val (.int p4), .val (.int (2 : Int32)), .val (.int c0), .val (.int c1), .val (.int c2), .val (.int c3), .val (.ref b113), .val (.ref b137), .val (.int (1 : Int32))] [(.int (1 : Int32))])
          exact own_retN H177 hx hlk (t := .boolean) hret (by simp) (hb hby at_184) all0 rfl (by decide) (by decide)
        · skip
          rw [if_neg hq175]
          show Go p e below _ T167 (mkF m 131 #[.val (.int p0), .val (.int p1), .val (.int p2), .val (.int p3), .val (.int p4), .val (.int (2 : Int32)), .val (.int c0), .val (.int c1), .val (.int c2), .val (.int c3), .val (.ref b113), .val (.ref b137), .unset] [(.int (0 : Int32))])
          refine Go.of (fun _ => XS.ifYes H168.here hx rfl (pc0 := 131) (pc' := 166) rfl (hb hby at_131) rfl ((if0 _ _).trans (teq (by decide : (0 : Int32) = (0 : Int32))).1) (by decide) (by decide)) ?_
          show Go p e below _ T167 (mkF m 166 #[.val (.int p0), .val (.int p1), .val (.int p2), .val (.int p3), .val (.int p4), .val (.int (2 : Int32)), .val (.int c0), .val (.int c1), .val (.int c2), .val (.int c3), .val (.ref b113), .val (.ref b137), .unset] [])
          refine Go.of (fun _ => XS.iconst H168.here hx rfl (hb hby at_166)) ?_
          show Go p e below _ T167 (mkF m 167 #[.val (.int p0), .val (.int p1), .val (.int p2), .val (.int p3), .val (.int p4), .val (.int (2 : Int32)), .val (.int c0), .val (.int c1), .val (.int c2), .val (.int c3), .val (.ref b113), .val (.ref b137), .unset] [(.int (0 : Int32))])
          refine Go.of (fun _ => XS.istore H168.here hx rfl (hb hby at_167) rfl (l' := #[.val (.int p0), .val (.int p1), .val (.int p2), .val (.int p3), .val (.int p4), .val (.int (2 : Int32)), .val (.int c0), .val (.int c1), .val (.int c2), .val (.int c3), .val (.ref b113), .val (.ref b137), .val (.int (0 : Int32))]) rfl) ?_
          show Go p e below _ T167 (mkF m 169 #[.val (.int p0), .val (.int p1), .val (.int p2), .val (.int p3), .val (.int p4), .val (.int (2 : Int32)), .val (.int c0), .val (.int c1), .val (.int c2), .val (.int c3), .val (.ref b113), .val (.ref b137), .val (.int (0 : Int32))] [])
          refine Go.of (fun _ => XS.aload H168.here hx rfl (hb hby at_169) rfl rfl) ?_
          show Go p e below _ T167 (mkF m 171 #[.val (.int p0), .val (.int p1), .val (.int p2), .val (.int p3), .val (.int p4), .val (.int (2 : Int32)), .val (.int c0), .val (.int c1), .val (.int c2), .val (.int c3), .val (.ref b113), .val (.ref b137), .val (.int (0 : Int32))] [(.ref b137)])
          refine own_staticW H168 hx (y := (⟨"com/example/entitled/entitled/lang/Lexer", "isName", "(Ljava/lang/String;)Z"⟩ : MethodName)) hown (ow hw 24 rfl) (ow hw 25 rfl) (ow hw 26 rfl) (ow hw 27 rfl) (by decide) (W := 0) (rm_inm l Z a0 hw hE b137 ([c0, c1] : List Int32) 2 zc fm h150 H168.old SS (by simp) rfl SC hzc SF hfm SA SHB SLB) (fun _ hq => nomatch hq) (by decide) (by decide) rfl (by rw [hml]; rfl) (argsL := [(.ref b137)]) (rest := []) rfl (lenOf pd_16 rfl) rfl (by show 2 * 0 + _ ≤ _; exact Nat.le_of_eq rfl) (hb hby at_171) (by decide) (by decide) fun T184 h186 v188 H185 hs189 q187 => ?_
          obtain ⟨ve191, e190⟩ := q187
          subst e190
          subst ve191
          show Go p e below _ T184 (mkF m 174 #[.val (.int p0), .val (.int p1), .val (.int p2), .val (.int p3), .val (.int p4), .val (.int (2 : Int32)), .val (.int c0), .val (.int c1), .val (.int c2), .val (.int c3), .val (.ref b113), .val (.ref b137), .val (.int (0 : Int32))] [(.int (if own_isn ([c0, c1] : List Int32) then 1 else 0))])
          rw [if_neg (show ¬ own_isn ([c0, c1] : List Int32) from (fun q => hq175 (q.2.2 _ (List.mem_of_getElem? (i := 0) rfl))))]
          show Go p e below _ T184 (mkF m 174 #[.val (.int p0), .val (.int p1), .val (.int p2), .val (.int p3), .val (.int p4), .val (.int (2 : Int32)), .val (.int c0), .val (.int c1), .val (.int c2), .val (.int c3), .val (.ref b113), .val (.ref b137), .val (.int (0 : Int32))] [(.int (0 : Int32))])
          refine Go.of (fun _ => XS.iload H185.here hx rfl (hb hby at_174) rfl) ?_
          show Go p e below _ T184 (mkF m 176 #[.val (.int p0), .val (.int p1), .val (.int p2), .val (.int p3), .val (.int p4), .val (.int (2 : Int32)), .val (.int c0), .val (.int c1), .val (.int c2), .val (.int c3), .val (.ref b113), .val (.ref b137), .val (.int (0 : Int32))] [(.int (0 : Int32)), (.int (0 : Int32))])
          refine Go.of (fun _ => XS.icmpNo H185.here hx rfl (hb hby at_176) rfl (teq (by decide : (0 : Int32) = (0 : Int32))).2) ?_
          show Go p e below _ T184 (mkF m 179 #[.val (.int p0), .val (.int p1), .val (.int p2), .val (.int p3), .val (.int p4), .val (.int (2 : Int32)), .val (.int c0), .val (.int c1), .val (.int c2), .val (.int c3), .val (.ref b113), .val (.ref b137), .val (.int (0 : Int32))] [])
          refine Go.of (fun _ => XS.iconst H185.here hx rfl (hb hby at_179)) ?_
          show Go p e below _ T184 (mkF m 180 #[.val (.int p0), .val (.int p1), .val (.int p2), .val (.int p3), .val (.int p4), .val (.int (2 : Int32)), .val (.int c0), .val (.int c1), .val (.int c2), .val (.int c3), .val (.ref b113), .val (.ref b137), .val (.int (0 : Int32))] [(.int (1 : Int32))])
          refine Go.of (fun _ => XS.goto H185.here hx rfl (pc0 := 180) (pc' := 184) rfl (hb hby at_180) (by decide) (by decide)) ?_
          show Go p e below _ T184 (mkF m 184 #[.val (.int p0), .val (.int p1), .val (.int p2), .val (.int p3), .val (.int p4), .val (.int (2 : Int32)), .val (.int c0), .val (.int c1), .val (.int c2), .val (.int c3), .val (.ref b113), .val (.ref b137), .val (.int (0 : Int32))] [(.int (1 : Int32))])
          exact own_retN H185 hx hlk (t := .boolean) hret (by simp) (hb hby at_184) all0 rfl (by decide) (by decide)
      · skip
        rw [if_neg hq166]
        show Go p e below _ T158 (mkF m 117 #[.val (.int p0), .val (.int p1), .val (.int p2), .val (.int p3), .val (.int p4), .val (.int (2 : Int32)), .val (.int c0), .val (.int c1), .val (.int c2), .val (.int c3), .val (.ref b113), .val (.ref b137), .unset] [(.int (0 : Int32))])
        refine Go.of (fun _ => XS.ifYes H159.here hx rfl (pc0 := 117) (pc' := 166) rfl (hb hby at_117) rfl ((if0 _ _).trans (teq (by decide : (0 : Int32) = (0 : Int32))).1) (by decide) (by decide)) ?_
        show Go p e below _ T158 (mkF m 166 #[.val (.int p0), .val (.int p1), .val (.int p2), .val (.int p3), .val (.int p4), .val (.int (2 : Int32)), .val (.int c0), .val (.int c1), .val (.int c2), .val (.int c3), .val (.ref b113), .val (.ref b137), .unset] [])
        refine Go.of (fun _ => XS.iconst H159.here hx rfl (hb hby at_166)) ?_
        show Go p e below _ T158 (mkF m 167 #[.val (.int p0), .val (.int p1), .val (.int p2), .val (.int p3), .val (.int p4), .val (.int (2 : Int32)), .val (.int c0), .val (.int c1), .val (.int c2), .val (.int c3), .val (.ref b113), .val (.ref b137), .unset] [(.int (0 : Int32))])
        refine Go.of (fun _ => XS.istore H159.here hx rfl (hb hby at_167) rfl (l' := #[.val (.int p0), .val (.int p1), .val (.int p2), .val (.int p3), .val (.int p4), .val (.int (2 : Int32)), .val (.int c0), .val (.int c1), .val (.int c2), .val (.int c3), .val (.ref b113), .val (.ref b137), .val (.int (0 : Int32))]) rfl) ?_
        show Go p e below _ T158 (mkF m 169 #[.val (.int p0), .val (.int p1), .val (.int p2), .val (.int p3), .val (.int p4), .val (.int (2 : Int32)), .val (.int c0), .val (.int c1), .val (.int c2), .val (.int c3), .val (.ref b113), .val (.ref b137), .val (.int (0 : Int32))] [])
        refine Go.of (fun _ => XS.aload H159.here hx rfl (hb hby at_169) rfl rfl) ?_
        show Go p e below _ T158 (mkF m 171 #[.val (.int p0), .val (.int p1), .val (.int p2), .val (.int p3), .val (.int p4), .val (.int (2 : Int32)), .val (.int c0), .val (.int c1), .val (.int c2), .val (.int c3), .val (.ref b113), .val (.ref b137), .val (.int (0 : Int32))] [(.ref b137)])
        refine own_staticW H159 hx (y := (⟨"com/example/entitled/entitled/lang/Lexer", "isName", "(Ljava/lang/String;)Z"⟩ : MethodName)) hown (ow hw 24 rfl) (ow hw 25 rfl) (ow hw 26 rfl) (ow hw 27 rfl) (by decide) (W := 0) (rm_inm l Z a0 hw hE b137 ([c0, c1] : List Int32) 2 zc fm h150 H159.old SS (by simp) rfl SC hzc SF hfm SA SHB SLB) (fun _ hq => nomatch hq) (by decide) (by decide) rfl (by rw [hml]; rfl) (argsL := [(.ref b137)]) (rest := []) rfl (lenOf pd_16 rfl) rfl (by show 2 * 0 + _ ≤ _; exact Nat.le_of_eq rfl) (hb hby at_171) (by decide) (by decide) fun T192 h194 v196 H193 hs197 q195 => ?_
        obtain ⟨ve199, e198⟩ := q195
        subst e198
        subst ve199
        show Go p e below _ T192 (mkF m 174 #[.val (.int p0), .val (.int p1), .val (.int p2), .val (.int p3), .val (.int p4), .val (.int (2 : Int32)), .val (.int c0), .val (.int c1), .val (.int c2), .val (.int c3), .val (.ref b113), .val (.ref b137), .val (.int (0 : Int32))] [(.int (if own_isn ([c0, c1] : List Int32) then 1 else 0))])
        rw [if_neg (show ¬ own_isn ([c0, c1] : List Int32) from (fun q => hq166 q.2.1))]
        show Go p e below _ T192 (mkF m 174 #[.val (.int p0), .val (.int p1), .val (.int p2), .val (.int p3), .val (.int p4), .val (.int (2 : Int32)), .val (.int c0), .val (.int c1), .val (.int c2), .val (.int c3), .val (.ref b113), .val (.ref b137), .val (.int (0 : Int32))] [(.int (0 : Int32))])
        refine Go.of (fun _ => XS.iload H193.here hx rfl (hb hby at_174) rfl) ?_
        show Go p e below _ T192 (mkF m 176 #[.val (.int p0), .val (.int p1), .val (.int p2), .val (.int p3), .val (.int p4), .val (.int (2 : Int32)), .val (.int c0), .val (.int c1), .val (.int c2), .val (.int c3), .val (.ref b113), .val (.ref b137), .val (.int (0 : Int32))] [(.int (0 : Int32)), (.int (0 : Int32))])
        refine Go.of (fun _ => XS.icmpNo H193.here hx rfl (hb hby at_176) rfl (teq (by decide : (0 : Int32) = (0 : Int32))).2) ?_
        show Go p e below _ T192 (mkF m 179 #[.val (.int p0), .val (.int p1), .val (.int p2), .val (.int p3), .val (.int p4), .val (.int (2 : Int32)), .val (.int c0), .val (.int c1), .val (.int c2), .val (.int c3), .val (.ref b113), .val (.ref b137), .val (.int (0 : Int32))] [])
        refine Go.of (fun _ => XS.iconst H193.here hx rfl (hb hby at_179)) ?_
        show Go p e below _ T192 (mkF m 180 #[.val (.int p0), .val (.int p1), .val (.int p2), .val (.int p3), .val (.int p4), .val (.int (2 : Int32)), .val (.int c0), .val (.int c1), .val (.int c2), .val (.int c3), .val (.ref b113), .val (.ref b137), .val (.int (0 : Int32))] [(.int (1 : Int32))])
        refine Go.of (fun _ => XS.goto H193.here hx rfl (pc0 := 180) (pc' := 184) rfl (hb hby at_180) (by decide) (by decide)) ?_
        show Go p e below _ T192 (mkF m 184 #[.val (.int p0), .val (.int p1), .val (.int p2), .val (.int p3), .val (.int p4), .val (.int (2 : Int32)), .val (.int c0), .val (.int c1), .val (.int c2), .val (.int c3), .val (.ref b113), .val (.ref b137), .val (.int (0 : Int32))] [(.int (1 : Int32))])
        exact own_retN H193 hx hlk (t := .boolean) hret (by simp) (hb hby at_184) all0 rfl (by decide) (by decide)
    · skip
      show Go p e below _ s₁ (mkF m 37 #[.val (.int p0), .val (.int p1), .val (.int p2), .val (.int p3), .val (.int p4), .val (.int (3 : Int32)), .val (.int c0), .val (.int c1), .val (.int c2), .val (.int c3), .unset, .unset, .unset] [])
      refine Go.of (fun _ => XS.iload H0.here hx rfl (hb hby at_37) rfl) ?_
      show Go p e below _ s₁ (mkF m 39 #[.val (.int p0), .val (.int p1), .val (.int p2), .val (.int p3), .val (.int p4), .val (.int (3 : Int32)), .val (.int c0), .val (.int c1), .val (.int c2), .val (.int c3), .unset, .unset, .unset] [(.int (3 : Int32))])
      refine own_newP H0 hx (ow hw 2 rfl) rfl (hb hby at_39) rfl (by decide) (cap := 3) (by decide) (by decide) (by decide) (by decide) fun T200 h202 b203 kA206 g204 H201 E205 V207 => ?_
      have fr208 : Z.heap.size ≤ b203 := by rw [g204]; exact H0.old.1
      have V209 : Arv Z h202 b203 kA206 .char (3 : Int32) [(.int (0 : Int32)), (.int (0 : Int32)), (.int (0 : Int32))] (.int (0 : Int32)) := V207.pad (pad_rep [] (.int (0 : Int32)) 3)
      show Go p e below _ T200 (mkF m 41 #[.val (.int p0), .val (.int p1), .val (.int p2), .val (.int p3), .val (.int p4), .val (.int (3 : Int32)), .val (.int c0), .val (.int c1), .val (.int c2), .val (.int c3), .unset, .unset, .unset] [(.ref b203)])
      refine Go.of (fun _ => XS.astore H201.here hx rfl (hb hby at_41) rfl rfl (l' := #[.val (.int p0), .val (.int p1), .val (.int p2), .val (.int p3), .val (.int p4), .val (.int (3 : Int32)), .val (.int c0), .val (.int c1), .val (.int c2), .val (.int c3), .val (.ref b203), .unset, .unset]) rfl) ?_
      show Go p e below _ T200 (mkF m 43 #[.val (.int p0), .val (.int p1), .val (.int p2), .val (.int p3), .val (.int p4), .val (.int (3 : Int32)), .val (.int c0), .val (.int c1), .val (.int c2), .val (.int c3), .val (.ref b203), .unset, .unset] [])
      refine Go.of (fun _ => XS.iload H201.here hx rfl (hb hby at_43) rfl) ?_
      show Go p e below _ T200 (mkF m 45 #[.val (.int p0), .val (.int p1), .val (.int p2), .val (.int p3), .val (.int p4), .val (.int (3 : Int32)), .val (.int c0), .val (.int c1), .val (.int c2), .val (.int c3), .val (.ref b203), .unset, .unset] [(.int (3 : Int32))])
      refine Go.of (fun _ => XS.ifNo H201.here hx rfl (hb hby at_45) rfl ((if0 _ _).trans (tlt (by decide : (0 : Int32) < (3 : Int32))).2.2.2)) ?_
      show Go p e below _ T200 (mkF m 48 #[.val (.int p0), .val (.int p1), .val (.int p2), .val (.int p3), .val (.int p4), .val (.int (3 : Int32)), .val (.int c0), .val (.int c1), .val (.int c2), .val (.int c3), .val (.ref b203), .unset, .unset] [])
      refine Go.of (fun _ => XS.aload H201.here hx rfl (hb hby at_48) rfl rfl) ?_
      show Go p e below _ T200 (mkF m 50 #[.val (.int p0), .val (.int p1), .val (.int p2), .val (.int p3), .val (.int p4), .val (.int (3 : Int32)), .val (.int c0), .val (.int c1), .val (.int c2), .val (.int c3), .val (.ref b203), .unset, .unset] [(.ref b203)])
      refine Go.of (fun _ => XS.iconst H201.here hx rfl (hb hby at_50)) ?_
      show Go p e below _ T200 (mkF m 51 #[.val (.int p0), .val (.int p1), .val (.int p2), .val (.int p3), .val (.int p4), .val (.int (3 : Int32)), .val (.int c0), .val (.int c1), .val (.int c2), .val (.int c3), .val (.ref b203), .unset, .unset] [(.int (0 : Int32)), (.ref b203)])
      refine Go.of (fun _ => XS.iload H201.here hx rfl (hb hby at_51) rfl) ?_
      show Go p e below _ T200 (mkF m 53 #[.val (.int p0), .val (.int p1), .val (.int p2), .val (.int p3), .val (.int p4), .val (.int (3 : Int32)), .val (.int c0), .val (.int c1), .val (.int c2), .val (.int c3), .val (.ref b203), .unset, .unset] [(.int c0), (.int (0 : Int32)), (.ref b203)])
      refine own_castore H201 hx V209 ⟨by decide, by decide⟩ 0 (by decide) (Nat.le_of_ble_eq_true rfl) fr208 rfl rfl (hb hby at_53) fun T210 h212 H211 W213 V214 => ?_
      have V216 : Arv Z h212 b203 kA206 .char (3 : Int32) [(.int (nar .char c0)), (.int (0 : Int32)), (.int (0 : Int32))] (.int (0 : Int32)) := V214
      show Go p e below _ T210 (mkF m 54 #[.val (.int p0), .val (.int p1), .val (.int p2), .val (.int p3), .val (.int p4), .val (.int (3 : Int32)), .val (.int c0), .val (.int c1), .val (.int c2), .val (.int c3), .val (.ref b203), .unset, .unset] [])
      refine Go.of (fun _ => XS.iload H211.here hx rfl (hb hby at_54) rfl) ?_
      show Go p e below _ T210 (mkF m 56 #[.val (.int p0), .val (.int p1), .val (.int p2), .val (.int p3), .val (.int p4), .val (.int (3 : Int32)), .val (.int c0), .val (.int c1), .val (.int c2), .val (.int c3), .val (.ref b203), .unset, .unset] [(.int (3 : Int32))])
      refine Go.of (fun _ => XS.iconst H211.here hx rfl (hb hby at_56)) ?_
      show Go p e below _ T210 (mkF m 57 #[.val (.int p0), .val (.int p1), .val (.int p2), .val (.int p3), .val (.int p4), .val (.int (3 : Int32)), .val (.int c0), .val (.int c1), .val (.int c2), .val (.int c3), .val (.ref b203), .unset, .unset] [(.int (1 : Int32)), (.int (3 : Int32))])
      refine Go.of (fun _ => XS.icmpNo H211.here hx rfl (hb hby at_57) rfl (tlt (by decide : (1 : Int32) < (3 : Int32))).2.2.2) ?_
      show Go p e below _ T210 (mkF m 60 #[.val (.int p0), .val (.int p1), .val (.int p2), .val (.int p3), .val (.int p4), .val (.int (3 : Int32)), .val (.int c0), .val (.int c1), .val (.int c2), .val (.int c3), .val (.ref b203), .unset, .unset] [])
      refine Go.of (fun _ => XS.aload H211.here hx rfl (hb hby at_60) rfl rfl) ?_
      show Go p e below _ T210 (mkF m 62 #[.val (.int p0), .val (.int p1), .val (.int p2), .val (.int p3), .val (.int p4), .val (.int (3 : Int32)), .val (.int c0), .val (.int c1), .val (.int c2), .val (.int c3), .val (.ref b203), .unset, .unset] [(.ref b203)])
      refine Go.of (fun _ => XS.iconst H211.here hx rfl (hb hby at_62)) ?_
      show Go p e below _ T210 (mkF m 63 #[.val (.int p0), .val (.int p1), .val (.int p2), .val (.int p3), .val (.int p4), .val (.int (3 : Int32)), .val (.int c0), .val (.int c1), .val (.int c2), .val (.int c3), .val (.ref b203), .unset, .unset] [(.int (1 : Int32)), (.ref b203)])
      refine Go.of (fun _ => XS.iload H211.here hx rfl (hb hby at_63) rfl) ?_
      show Go p e below _ T210 (mkF m 65 #[.val (.int p0), .val (.int p1), .val (.int p2), .val (.int p3), .val (.int p4), .val (.int (3 : Int32)), .val (.int c0), .val (.int c1), .val (.int c2), .val (.int c3), .val (.ref b203), .unset, .unset] [(.int c1), (.int (1 : Int32)), (.ref b203)])
      refine own_castore H211 hx V216 ⟨by decide, by decide⟩ 1 (by decide) (Nat.le_of_ble_eq_true rfl) fr208 rfl rfl (hb hby at_65) fun T217 h219 H218 W220 V221 => ?_
      have V223 : Arv Z h219 b203 kA206 .char (3 : Int32) [(.int (nar .char c0)), (.int (nar .char c1)), (.int (0 : Int32))] (.int (0 : Int32)) := V221
      show Go p e below _ T217 (mkF m 66 #[.val (.int p0), .val (.int p1), .val (.int p2), .val (.int p3), .val (.int p4), .val (.int (3 : Int32)), .val (.int c0), .val (.int c1), .val (.int c2), .val (.int c3), .val (.ref b203), .unset, .unset] [])
      refine Go.of (fun _ => XS.iload H218.here hx rfl (hb hby at_66) rfl) ?_
      show Go p e below _ T217 (mkF m 68 #[.val (.int p0), .val (.int p1), .val (.int p2), .val (.int p3), .val (.int p4), .val (.int (3 : Int32)), .val (.int c0), .val (.int c1), .val (.int c2), .val (.int c3), .val (.ref b203), .unset, .unset] [(.int (3 : Int32))])
      refine Go.of (fun _ => XS.iconst H218.here hx rfl (hb hby at_68)) ?_
      show Go p e below _ T217 (mkF m 69 #[.val (.int p0), .val (.int p1), .val (.int p2), .val (.int p3), .val (.int p4), .val (.int (3 : Int32)), .val (.int c0), .val (.int c1), .val (.int c2), .val (.int c3), .val (.ref b203), .unset, .unset] [(.int (2 : Int32)), (.int (3 : Int32))])
      refine Go.of (fun _ => XS.icmpNo H218.here hx rfl (hb hby at_69) rfl (tlt (by decide : (2 : Int32) < (3 : Int32))).2.2.2) ?_
      show Go p e below _ T217 (mkF m 72 #[.val (.int p0), .val (.int p1), .val (.int p2), .val (.int p3), .val (.int p4), .val (.int (3 : Int32)), .val (.int c0), .val (.int c1), .val (.int c2), .val (.int c3), .val (.ref b203), .unset, .unset] [])
      refine Go.of (fun _ => XS.aload H218.here hx rfl (hb hby at_72) rfl rfl) ?_
      show Go p e below _ T217 (mkF m 74 #[.val (.int p0), .val (.int p1), .val (.int p2), .val (.int p3), .val (.int p4), .val (.int (3 : Int32)), .val (.int c0), .val (.int c1), .val (.int c2), .val (.int c3), .val (.ref b203), .unset, .unset] [(.ref b203)])
      refine Go.of (fun _ => XS.iconst H218.here hx rfl (hb hby at_74)) ?_
      show Go p e below _ T217 (mkF m 75 #[.val (.int p0), .val (.int p1), .val (.int p2), .val (.int p3), .val (.int p4), .val (.int (3 : Int32)), .val (.int c0), .val (.int c1), .val (.int c2), .val (.int c3), .val (.ref b203), .unset, .unset] [(.int (2 : Int32)), (.ref b203)])
      refine Go.of (fun _ => XS.iload H218.here hx rfl (hb hby at_75) rfl) ?_
      show Go p e below _ T217 (mkF m 77 #[.val (.int p0), .val (.int p1), .val (.int p2), .val (.int p3), .val (.int p4), .val (.int (3 : Int32)), .val (.int c0), .val (.int c1), .val (.int c2), .val (.int c3), .val (.ref b203), .unset, .unset] [(.int c2), (.int (2 : Int32)), (.ref b203)])
      refine own_castore H218 hx V223 ⟨by decide, by decide⟩ 2 (by decide) (Nat.le_of_ble_eq_true rfl) fr208 rfl rfl (hb hby at_77) fun T224 h226 H225 W227 V228 => ?_
      have V230 : Arv Z h226 b203 kA206 .char (3 : Int32) [(.int (nar .char c0)), (.int (nar .char c1)), (.int (nar .char c2))] (.int (0 : Int32)) := V228
      show Go p e below _ T224 (mkF m 78 #[.val (.int p0), .val (.int p1), .val (.int p2), .val (.int p3), .val (.int p4), .val (.int (3 : Int32)), .val (.int c0), .val (.int c1), .val (.int c2), .val (.int c3), .val (.ref b203), .unset, .unset] [])
      refine Go.of (fun _ => XS.iload H225.here hx rfl (hb hby at_78) rfl) ?_
      show Go p e below _ T224 (mkF m 80 #[.val (.int p0), .val (.int p1), .val (.int p2), .val (.int p3), .val (.int p4), .val (.int (3 : Int32)), .val (.int c0), .val (.int c1), .val (.int c2), .val (.int c3), .val (.ref b203), .unset, .unset] [(.int (3 : Int32))])
      refine Go.of (fun _ => XS.iconst H225.here hx rfl (hb hby at_80)) ?_
      show Go p e below _ T224 (mkF m 81 #[.val (.int p0), .val (.int p1), .val (.int p2), .val (.int p3), .val (.int p4), .val (.int (3 : Int32)), .val (.int c0), .val (.int c1), .val (.int c2), .val (.int c3), .val (.ref b203), .unset, .unset] [(.int (3 : Int32)), (.int (3 : Int32))])
      refine Go.of (fun _ => XS.icmpYes H225.here hx rfl (pc0 := 81) (pc' := 90) rfl (hb hby at_81) rfl (flt (by decide : ¬ ((3 : Int32) < (3 : Int32)))).2.2.2 (by decide) (by decide)) ?_
      show Go p e below _ T224 (mkF m 90 #[.val (.int p0), .val (.int p1), .val (.int p2), .val (.int p3), .val (.int p4), .val (.int (3 : Int32)), .val (.int c0), .val (.int c1), .val (.int c2), .val (.int c3), .val (.ref b203), .unset, .unset] [])
      refine own_new H225 hx hown (ow hw 3 rfl) (ow hw 4 rfl) (ow hw 5 rfl) rfl (hb hby at_90) (by decide) (by decide) fun T231 h233 b234 g235 H232 E236 A237 D238 => ?_
      have ne239 : b203 ≠ b234 := by rw [g235]; exact Nat.ne_of_lt V230.lt
      have fr240 : Z.heap.size ≤ b234 := by rw [g235]; exact H225.old.1
      have f241 := V230.ext E236
      have f242 : Fld Z h233 b234 "java/lang/String" "value" "[B" .null := D238 (Or.inr (ow hw 18 rfl)) (ty := (.array .byte)) (by decide)
      have f243 : Fld Z h233 b234 "java/lang/String" "coder" "B" (.int (0 : Int32)) := D238 (Or.inr (ow hw 19 rfl)) (ty := .byte) (by decide)
      show Go p e below _ T231 (mkF m 93 #[.val (.int p0), .val (.int p1), .val (.int p2), .val (.int p3), .val (.int p4), .val (.int (3 : Int32)), .val (.int c0), .val (.int c1), .val (.int c2), .val (.int c3), .val (.ref b203), .unset, .unset] [(.ref b234)])
      refine Go.of (fun _ => XS.dup H232.here hx rfl (hb hby at_93) rfl rfl) ?_
      show Go p e below _ T231 (mkF m 94 #[.val (.int p0), .val (.int p1), .val (.int p2), .val (.int p3), .val (.int p4), .val (.int (3 : Int32)), .val (.int c0), .val (.int c1), .val (.int c2), .val (.int c3), .val (.ref b203), .unset, .unset] [(.ref b234), (.ref b234)])
      refine Go.of (fun _ => XS.aload H232.here hx rfl (hb hby at_94) rfl rfl) ?_
      show Go p e below _ T231 (mkF m 96 #[.val (.int p0), .val (.int p1), .val (.int p2), .val (.int p3), .val (.int p4), .val (.int (3 : Int32)), .val (.int c0), .val (.int c1), .val (.int c2), .val (.int c3), .val (.ref b203), .unset, .unset] [(.ref b203), (.ref b234), (.ref b234)])
      have hV244 : Arv Z h233 b203 kA206 .char (Int32.ofNat 3) (([c0, c1, c2] : List Int32).map Value.int) (.int (0 : Int32)) := by have := f241; rw [own_narc16 hc0, own_narc16 hc1, own_narc16 hc2] at this; exact this
      refine own_specialW H232 hx (y := (⟨"java/lang/String", "<init>", "([C)V"⟩ : MethodName)) rfl hown (ow hw 6 rfl) (ow hw 7 rfl) (ow hw 5 rfl) (ow hw 8 rfl) (by decide) (W := 1) (rm_s1 l Z a0 hw hE b234 b203 kA206 3 ([c0, c1, c2] : List Int32) (.int (0 : Int32)) zc h233 H232.old A237 f242 f243 fr240 ne239 hV244 rfl (by decide) (allC hc0 (allC hc1 (allC hc2 all0c))) SC hzc SA SHB SLB) (allS (List.mem_of_getElem? (i := 0) rfl) all0) (by decide) (by decide) rfl (by rw [hml]; rfl) (a := b234) (argsL := [(.ref b203)]) (rest := [(.ref b234)]) rfl (lenOf pd_15 rfl) rfl (by show 2 * 0 + _ ≤ _; exact Nat.le_of_eq rfl) (hb hby at_96) (by decide) (by decide) fun T245 h247 v249 H246 hs250 q248 => ?_
      obtain ⟨rfl, KK, SS⟩ := q248
      have f251 := f241.keep KK (ninS ne239 nin0)
      have f252 := A237.keep KK
      show Go p e below _ T245 (mkF m 99 #[.val (.int p0), .val (.int p1), .val (.int p2), .val (.int p3), .val (.int p4), .val (.int (3 : Int32)), .val (.int c0), .val (.int c1), .val (.int c2), .val (.int c3), .val (.ref b203), .unset, .unset] [(.ref b234)])
      refine Go.of (fun _ => XS.astore H246.here hx rfl (hb hby at_99) rfl rfl (l' := #[.val (.int p0), .val (.int p1), .val (.int p2), .val (.int p3), .val (.int p4), .val (.int (3 : Int32)), .val (.int c0), .val (.int c1), .val (.int c2), .val (.int c3), .val (.ref b203), .val (.ref b234), .unset]) rfl) ?_
      show Go p e below _ T245 (mkF m 101 #[.val (.int p0), .val (.int p1), .val (.int p2), .val (.int p3), .val (.int p4), .val (.int (3 : Int32)), .val (.int c0), .val (.int c1), .val (.int c2), .val (.int c3), .val (.ref b203), .val (.ref b234), .unset] [])
      refine Go.of (fun _ => XS.iload H246.here hx rfl (hb hby at_101) rfl) ?_
      show Go p e below _ T245 (mkF m 103 #[.val (.int p0), .val (.int p1), .val (.int p2), .val (.int p3), .val (.int p4), .val (.int (3 : Int32)), .val (.int c0), .val (.int c1), .val (.int c2), .val (.int c3), .val (.ref b203), .val (.ref b234), .unset] [(.int (3 : Int32))])
      refine Go.of (fun _ => XS.ifYes H246.here hx rfl (pc0 := 103) (pc' := 112) rfl (hb hby at_103) rfl ((if0 _ _).trans (feq (by decide : ¬ ((3 : Int32) = (0 : Int32)))).2) (by decide) (by decide)) ?_
      show Go p e below _ T245 (mkF m 112 #[.val (.int p0), .val (.int p1), .val (.int p2), .val (.int p3), .val (.int p4), .val (.int (3 : Int32)), .val (.int c0), .val (.int c1), .val (.int c2), .val (.int c3), .val (.ref b203), .val (.ref b234), .unset] [])
      refine Go.of (fun _ => XS.iload H246.here hx rfl (hb hby at_112) rfl) ?_
      show Go p e below _ T245 (mkF m 114 #[.val (.int p0), .val (.int p1), .val (.int p2), .val (.int p3), .val (.int p4), .val (.int (3 : Int32)), .val (.int c0), .val (.int c1), .val (.int c2), .val (.int c3), .val (.ref b203), .val (.ref b234), .unset] [(.int c0)])
      refine own_staticW H246 hx (y := (⟨"com/example/entitled/entitled/lang/LexerIsNamePinLaw", "startOk", "(I)Z"⟩ : MethodName)) hown (ow hw 44 rfl) (ow hw 45 rfl) (ow hw 46 rfl) (ow hw 47 rfl) (by decide) (W := 0) (rm_sok l Z a0 hw hE c0 h247 H246.old ) (fun _ hq => nomatch hq) (by decide) (by decide) rfl (by rw [hml]; rfl) (argsL := [(.int c0)]) (rest := []) rfl (lenOf pd_13 rfl) rfl (by show 2 * 0 + _ ≤ _; exact Nat.le_of_eq rfl) (hb hby at_114) (by decide) (by decide) fun T255 h257 v259 H256 hs260 q258 => ?_
      obtain ⟨ve262, e261⟩ := q258
      subst e261
      subst ve262
      show Go p e below _ T255 (mkF m 117 #[.val (.int p0), .val (.int p1), .val (.int p2), .val (.int p3), .val (.int p4), .val (.int (3 : Int32)), .val (.int c0), .val (.int c1), .val (.int c2), .val (.int c3), .val (.ref b203), .val (.ref b234), .unset] [(.int (if own_sn c0 then 1 else 0))])
      by_cases hq263 : own_sn c0
      · skip
        rw [if_pos hq263]
        show Go p e below _ T255 (mkF m 117 #[.val (.int p0), .val (.int p1), .val (.int p2), .val (.int p3), .val (.int p4), .val (.int (3 : Int32)), .val (.int c0), .val (.int c1), .val (.int c2), .val (.int c3), .val (.ref b203), .val (.ref b234), .unset] [(.int (1 : Int32))])
        refine Go.of (fun _ => XS.ifNo H256.here hx rfl (hb hby at_117) rfl ((if0 _ _).trans (feq (by decide : ¬ ((1 : Int32) = (0 : Int32)))).1)) ?_
        show Go p e below _ T255 (mkF m 120 #[.val (.int p0), .val (.int p1), .val (.int p2), .val (.int p3), .val (.int p4), .val (.int (3 : Int32)), .val (.int c0), .val (.int c1), .val (.int c2), .val (.int c3), .val (.ref b203), .val (.ref b234), .unset] [])
        refine Go.of (fun _ => XS.iload H256.here hx rfl (hb hby at_120) rfl) ?_
        show Go p e below _ T255 (mkF m 122 #[.val (.int p0), .val (.int p1), .val (.int p2), .val (.int p3), .val (.int p4), .val (.int (3 : Int32)), .val (.int c0), .val (.int c1), .val (.int c2), .val (.int c3), .val (.ref b203), .val (.ref b234), .unset] [(.int (3 : Int32))])
        refine Go.of (fun _ => XS.iconst H256.here hx rfl (hb hby at_122)) ?_
        show Go p e below _ T255 (mkF m 123 #[.val (.int p0), .val (.int p1), .val (.int p2), .val (.int p3), .val (.int p4), .val (.int (3 : Int32)), .val (.int c0), .val (.int c1), .val (.int c2), .val (.int c3), .val (.ref b203), .val (.ref b234), .unset] [(.int (2 : Int32)), (.int (3 : Int32))])
        refine Go.of (fun _ => XS.icmpNo H256.here hx rfl (hb hby at_123) rfl (flt (by decide : ¬ ((3 : Int32) < (2 : Int32)))).1) ?_
        show Go p e below _ T255 (mkF m 126 #[.val (.int p0), .val (.int p1), .val (.int p2), .val (.int p3), .val (.int p4), .val (.int (3 : Int32)), .val (.int c0), .val (.int c1), .val (.int c2), .val (.int c3), .val (.ref b203), .val (.ref b234), .unset] [])
        refine Go.of (fun _ => XS.iload H256.here hx rfl (hb hby at_126) rfl) ?_
        show Go p e below _ T255 (mkF m 128 #[.val (.int p0), .val (.int p1), .val (.int p2), .val (.int p3), .val (.int p4), .val (.int (3 : Int32)), .val (.int c0), .val (.int c1), .val (.int c2), .val (.int c3), .val (.ref b203), .val (.ref b234), .unset] [(.int c1)])
        refine own_staticW H256 hx (y := (⟨"com/example/entitled/entitled/lang/LexerIsNamePinLaw", "partOk", "(I)Z"⟩ : MethodName)) hown (ow hw 105 rfl) (ow hw 106 rfl) (ow hw 46 rfl) (ow hw 107 rfl) (by decide) (W := 0) (rm_pok l Z a0 hw hE c1 h247 H256.old ) (fun _ hq => nomatch hq) (by decide) (by decide) rfl (by rw [hml]; rfl) (argsL := [(.int c1)]) (rest := []) rfl (lenOf pd_13 rfl) rfl (by show 2 * 0 + _ ≤ _; exact Nat.le_of_eq rfl) (hb hby at_128) (by decide) (by decide) fun T264 h266 v268 H265 hs269 q267 => ?_
        obtain ⟨ve271, e270⟩ := q267
        subst e270
        subst ve271
        show Go p e below _ T264 (mkF m 131 #[.val (.int p0), .val (.int p1), .val (.int p2), .val (.int p3), .val (.int p4), .val (.int (3 : Int32)), .val (.int c0), .val (.int c1), .val (.int c2), .val (.int c3), .val (.ref b203), .val (.ref b234), .unset] [(.int (if own_pt c1 then 1 else 0))])
        by_cases hq272 : own_pt c1
        · skip
          rw [if_pos hq272]
          show Go p e below _ T264 (mkF m 131 #[.val (.int p0), .val (.int p1), .val (.int p2), .val (.int p3), .val (.int p4), .val (.int (3 : Int32)), .val (.int c0), .val (.int c1), .val (.int c2), .val (.int c3), .val (.ref b203), .val (.ref b234), .unset] [(.int (1 : Int32))])
          refine Go.of (fun _ => XS.ifNo H265.here hx rfl (hb hby at_131) rfl ((if0 _ _).trans (feq (by decide : ¬ ((1 : Int32) = (0 : Int32)))).1)) ?_
          show Go p e below _ T264 (mkF m 134 #[.val (.int p0), .val (.int p1), .val (.int p2), .val (.int p3), .val (.int p4), .val (.int (3 : Int32)), .val (.int c0), .val (.int c1), .val (.int c2), .val (.int c3), .val (.ref b203), .val (.ref b234), .unset] [])
          refine Go.of (fun _ => XS.iload H265.here hx rfl (hb hby at_134) rfl) ?_
          show Go p e below _ T264 (mkF m 136 #[.val (.int p0), .val (.int p1), .val (.int p2), .val (.int p3), .val (.int p4), .val (.int (3 : Int32)), .val (.int c0), .val (.int c1), .val (.int c2), .val (.int c3), .val (.ref b203), .val (.ref b234), .unset] [(.int (3 : Int32))])
          refine Go.of (fun _ => XS.iconst H265.here hx rfl (hb hby at_136)) ?_
          show Go p e below _ T264 (mkF m 137 #[.val (.int p0), .val (.int p1), .val (.int p2), .val (.int p3), .val (.int p4), .val (.int (3 : Int32)), .val (.int c0), .val (.int c1), .val (.int c2), .val (.int c3), .val (.ref b203), .val (.ref b234), .unset] [(.int (3 : Int32)), (.int (3 : Int32))])
          refine Go.of (fun _ => XS.icmpNo H265.here hx rfl (hb hby at_137) rfl (flt (by decide : ¬ ((3 : Int32) < (3 : Int32)))).1) ?_
          show Go p e below _ T264 (mkF m 140 #[.val (.int p0), .val (.int p1), .val (.int p2), .val (.int p3), .val (.int p4), .val (.int (3 : Int32)), .val (.int c0), .val (.int c1), .val (.int c2), .val (.int c3), .val (.ref b203), .val (.ref b234), .unset] [])
          refine Go.of (fun _ => XS.iload H265.here hx rfl (hb hby at_140) rfl) ?_
          show Go p e below _ T264 (mkF m 142 #[.val (.int p0), .val (.int p1), .val (.int p2), .val (.int p3), .val (.int p4), .val (.int (3 : Int32)), .val (.int c0), .val (.int c1), .val (.int c2), .val (.int c3), .val (.ref b203), .val (.ref b234), .unset] [(.int c2)])
          refine own_staticW H265 hx (y := (⟨"com/example/entitled/entitled/lang/LexerIsNamePinLaw", "partOk", "(I)Z"⟩ : MethodName)) hown (ow hw 105 rfl) (ow hw 106 rfl) (ow hw 46 rfl) (ow hw 107 rfl) (by decide) (W := 0) (rm_pok l Z a0 hw hE c2 h247 H265.old ) (fun _ hq => nomatch hq) (by decide) (by decide) rfl (by rw [hml]; rfl) (argsL := [(.int c2)]) (rest := []) rfl (lenOf pd_13 rfl) rfl (by show 2 * 0 + _ ≤ _; exact Nat.le_of_eq rfl) (hb hby at_142) (by decide) (by decide) fun T273 h275 v277 H274 hs278 q276 => ?_
          obtain ⟨ve280, e279⟩ := q276
          subst e279
          subst ve280
          show Go p e below _ T273 (mkF m 145 #[.val (.int p0), .val (.int p1), .val (.int p2), .val (.int p3), .val (.int p4), .val (.int (3 : Int32)), .val (.int c0), .val (.int c1), .val (.int c2), .val (.int c3), .val (.ref b203), .val (.ref b234), .unset] [(.int (if own_pt c2 then 1 else 0))])
          by_cases hq281 : own_pt c2
          · skip
            rw [if_pos hq281]
            show Go p e below _ T273 (mkF m 145 #[.val (.int p0), .val (.int p1), .val (.int p2), .val (.int p3), .val (.int p4), .val (.int (3 : Int32)), .val (.int c0), .val (.int c1), .val (.int c2), .val (.int c3), .val (.ref b203), .val (.ref b234), .unset] [(.int (1 : Int32))])
            refine Go.of (fun _ => XS.ifNo H274.here hx rfl (hb hby at_145) rfl ((if0 _ _).trans (feq (by decide : ¬ ((1 : Int32) = (0 : Int32)))).1)) ?_
            show Go p e below _ T273 (mkF m 148 #[.val (.int p0), .val (.int p1), .val (.int p2), .val (.int p3), .val (.int p4), .val (.int (3 : Int32)), .val (.int c0), .val (.int c1), .val (.int c2), .val (.int c3), .val (.ref b203), .val (.ref b234), .unset] [])
            refine Go.of (fun _ => XS.iload H274.here hx rfl (hb hby at_148) rfl) ?_
            show Go p e below _ T273 (mkF m 150 #[.val (.int p0), .val (.int p1), .val (.int p2), .val (.int p3), .val (.int p4), .val (.int (3 : Int32)), .val (.int c0), .val (.int c1), .val (.int c2), .val (.int c3), .val (.ref b203), .val (.ref b234), .unset] [(.int (3 : Int32))])
            refine Go.of (fun _ => XS.iconst H274.here hx rfl (hb hby at_150)) ?_
            show Go p e below _ T273 (mkF m 151 #[.val (.int p0), .val (.int p1), .val (.int p2), .val (.int p3), .val (.int p4), .val (.int (3 : Int32)), .val (.int c0), .val (.int c1), .val (.int c2), .val (.int c3), .val (.ref b203), .val (.ref b234), .unset] [(.int (4 : Int32)), (.int (3 : Int32))])
            refine Go.of (fun _ => XS.icmpYes H274.here hx rfl (pc0 := 151) (pc' := 162) rfl (hb hby at_151) rfl (tlt (by decide : (3 : Int32) < (4 : Int32))).1 (by decide) (by decide)) ?_
            show Go p e below _ T273 (mkF m 162 #[.val (.int p0), .val (.int p1), .val (.int p2), .val (.int p3), .val (.int p4), .val (.int (3 : Int32)), .val (.int c0), .val (.int c1), .val (.int c2), .val (.int c3), .val (.ref b203), .val (.ref b234), .unset] [])
            refine Go.of (fun _ => XS.iconst H274.here hx rfl (hb hby at_162)) ?_
            show Go p e below _ T273 (mkF m 163 #[.val (.int p0), .val (.int p1), .val (.int p2), .val (.int p3), .val (.int p4), .val (.int (3 : Int32)), .val (.int c0), .val (.int c1), .val (.int c2), .val (.int c3), .val (.ref b203), .val (.ref b234), .unset] [(.int (1 : Int32))])
            refine Go.of (fun _ => XS.goto H274.here hx rfl (pc0 := 163) (pc' := 167) rfl (hb hby at_163) (by decide) (by decide)) ?_
            show Go p e below _ T273 (mkF m 167 #[.val (.int p0), .val (.int p1), .val (.int p2), .val (.int p3), .val (.int p4), .val (.int (3 : Int32)), .val (.int c0), .val (.int c1), .val (.int c2), .val (.int c3), .val (.ref b203), .val (.ref b234), .unset] [(.int (1 : Int32))])
            refine Go.of (fun _ => XS.istore H274.here hx rfl (hb hby at_167) rfl (l' := #[.val (.int p0), .val (.int p1), .val (.int p2), .val (.int p3), .val (.int p4), .val (.int (3 : Int32)), .val (.int c0), .val (.int c1), .val (.int c2), .val (.int c3), .val (.ref b203), .val (.ref b234), .val (.int (1 : Int32))]) rfl) ?_
            show Go p e below _ T273 (mkF m 169 #[.val (.int p0), .val (.int p1), .val (.int p2), .val (.int p3), .val (.int p4), .val (.int (3 : Int32)), .val (.int c0), .val (.int c1), .val (.int c2), .val (.int c3), .val (.ref b203), .val (.ref b234), .val (.int (1 : Int32))] [])
            refine Go.of (fun _ => XS.aload H274.here hx rfl (hb hby at_169) rfl rfl) ?_
            show Go p e below _ T273 (mkF m 171 #[.val (.int p0), .val (.int p1), .val (.int p2), .val (.int p3), .val (.int p4), .val (.int (3 : Int32)), .val (.int c0), .val (.int c1), .val (.int c2), .val (.int c3), .val (.ref b203), .val (.ref b234), .val (.int (1 : Int32))] [(.ref b234)])
            refine own_staticW H274 hx (y := (⟨"com/example/entitled/entitled/lang/Lexer", "isName", "(Ljava/lang/String;)Z"⟩ : MethodName)) hown (ow hw 24 rfl) (ow hw 25 rfl) (ow hw 26 rfl) (ow hw 27 rfl) (by decide) (W := 0) (rm_inm l Z a0 hw hE b234 ([c0, c1, c2] : List Int32) 3 zc fm h247 H274.old SS (by simp) rfl SC hzc SF hfm SA SHB SLB) (fun _ hq => nomatch hq) (by decide) (by decide) rfl (by rw [hml]; rfl) (argsL := [(.ref b234)]) (rest := []) rfl (lenOf pd_16 rfl) rfl (by show 2 * 0 + _ ≤ _; exact Nat.le_of_eq rfl) (hb hby at_171) (by decide) (by decide) fun T282 h284 v286 H283 hs287 q285 => ?_
            obtain ⟨ve289, e288⟩ := q285
            subst e288
            subst ve289
            show Go p e below _ T282 (mkF m 174 #[.val (.int p0), .val (.int p1), .val (.int p2), .val (.int p3), .val (.int p4), .val (.int (3 : Int32)), .val (.int c0), .val (.int c1), .val (.int c2), .val (.int c3), .val (.ref b203), .val (.ref b234), .val (.int (1 : Int32))] [(.int (if own_isn ([c0, c1, c2] : List Int32) then 1 else 0))])
            rw [if_pos (show own_isn ([c0, c1, c2] : List Int32) from ⟨(by simp), hq263, (allC hq272 (allC hq281 all0c))⟩)]
            show Go p e below _ T282 (mkF m 174 #[.val (.int p0), .val (.int p1), .val (.int p2), .val (.int p3), .val (.int p4), .val (.int (3 : Int32)), .val (.int c0), .val (.int c1), .val (.int c2), .val (.int c3), .val (.ref b203), .val (.ref b234), .val (.int (1 : Int32))] [(.int (1 : Int32))])
            refine Go.of (fun _ => XS.iload H283.here hx rfl (hb hby at_174) rfl) ?_
            show Go p e below _ T282 (mkF m 176 #[.val (.int p0), .val (.int p1), .val (.int p2), .val (.int p3), .val (.int p4), .val (.int (3 : Int32)), .val (.int c0), .val (.int c1), .val (.int c2), .val (.int c3), .val (.ref b203), .val (.ref b234), .val (.int (1 : Int32))] [(.int (1 : Int32)), (.int (1 : Int32))])
            refine Go.of (fun _ => XS.icmpNo H283.here hx rfl (hb hby at_176) rfl (teq (by decide : (1 : Int32) = (1 : Int32))).2) ?_
            show Go p e below _ T282 (mkF m 179 #[.val (.int p0), .val (.int p1), .val (.int p2), .val (.int p3), .val (.int p4), .val (.int (3 : Int32)), .val (.int c0), .val (.int c1), .val (.int c2), .val (.int c3), .val (.ref b203), .val (.ref b234), .val (.int (1 : Int32))] [])
            refine Go.of (fun _ => XS.iconst H283.here hx rfl (hb hby at_179)) ?_
            show Go p e below _ T282 (mkF m 180 #[.val (.int p0), .val (.int p1), .val (.int p2), .val (.int p3), .val (.int p4), .val (.int (3 : Int32)), .val (.int c0), .val (.int c1), .val (.int c2), .val (.int c3), .val (.ref b203), .val (.ref b234), .val (.int (1 : Int32))] [(.int (1 : Int32))])
            refine Go.of (fun _ => XS.goto H283.here hx rfl (pc0 := 180) (pc' := 184) rfl (hb hby at_180) (by decide) (by decide)) ?_
            show Go p e below _ T282 (mkF m 184 #[.val (.int p0), .val (.int p1), .val (.int p2), .val (.int p3), .val (.int p4), .val (.int (3 : Int32)), .val (.int c0), .val (.int c1), .val (.int c2), .val (.int c3), .val (.ref b203), .val (.ref b234), .val (.int (1 : Int32))] [(.int (1 : Int32))])
            exact own_retN H283 hx hlk (t := .boolean) hret (by simp) (hb hby at_184) all0 rfl (by decide) (by decide)
          · skip
            rw [if_neg hq281]
            show Go p e below _ T273 (mkF m 145 #[.val (.int p0), .val (.int p1), .val (.int p2), .val (.int p3), .val (.int p4), .val (.int (3 : Int32)), .val (.int c0), .val (.int c1), .val (.int c2), .val (.int c3), .val (.ref b203), .val (.ref b234), .unset] [(.int (0 : Int32))])
            refine Go.of (fun _ => XS.ifYes H274.here hx rfl (pc0 := 145) (pc' := 166) rfl (hb hby at_145) rfl ((if0 _ _).trans (teq (by decide : (0 : Int32) = (0 : Int32))).1) (by decide) (by decide)) ?_
            show Go p e below _ T273 (mkF m 166 #[.val (.int p0), .val (.int p1), .val (.int p2), .val (.int p3), .val (.int p4), .val (.int (3 : Int32)), .val (.int c0), .val (.int c1), .val (.int c2), .val (.int c3), .val (.ref b203), .val (.ref b234), .unset] [])
            refine Go.of (fun _ => XS.iconst H274.here hx rfl (hb hby at_166)) ?_
            show Go p e below _ T273 (mkF m 167 #[.val (.int p0), .val (.int p1), .val (.int p2), .val (.int p3), .val (.int p4), .val (.int (3 : Int32)), .val (.int c0), .val (.int c1), .val (.int c2), .val (.int c3), .val (.ref b203), .val (.ref b234), .unset] [(.int (0 : Int32))])
            refine Go.of (fun _ => XS.istore H274.here hx rfl (hb hby at_167) rfl (l' := #[.val (.int p0), .val (.int p1), .val (.int p2), .val (.int p3), .val (.int p4), .val (.int (3 : Int32)), .val (.int c0), .val (.int c1), .val (.int c2), .val (.int c3), .val (.ref b203), .val (.ref b234), .val (.int (0 : Int32))]) rfl) ?_
            show Go p e below _ T273 (mkF m 169 #[.val (.int p0), .val (.int p1), .val (.int p2), .val (.int p3), .val (.int p4), .val (.int (3 : Int32)), .val (.int c0), .val (.int c1), .val (.int c2), .val (.int c3), .val (.ref b203), .val (.ref b234), .val (.int (0 : Int32))] [])
            refine Go.of (fun _ => XS.aload H274.here hx rfl (hb hby at_169) rfl rfl) ?_
            show Go p e below _ T273 (mkF m 171 #[.val (.int p0), .val (.int p1), .val (.int p2), .val (.int p3), .val (.int p4), .val (.int (3 : Int32)), .val (.int c0), .val (.int c1), .val (.int c2), .val (.int c3), .val (.ref b203), .val (.ref b234), .val (.int (0 : Int32))] [(.ref b234)])
            refine own_staticW H274 hx (y := (⟨"com/example/entitled/entitled/lang/Lexer", "isName", "(Ljava/lang/String;)Z"⟩ : MethodName)) hown (ow hw 24 rfl) (ow hw 25 rfl) (ow hw 26 rfl) (ow hw 27 rfl) (by decide) (W := 0) (rm_inm l Z a0 hw hE b234 ([c0, c1, c2] : List Int32) 3 zc fm h247 H274.old SS (by simp) rfl SC hzc SF hfm SA SHB SLB) (fun _ hq => nomatch hq) (by decide) (by decide) rfl (by rw [hml]; rfl) (argsL := [(.ref b234)]) (rest := []) rfl (lenOf pd_16 rfl) rfl (by show 2 * 0 + _ ≤ _; exact Nat.le_of_eq rfl) (hb hby at_171) (by decide) (by decide) fun T290 h292 v294 H291 hs295 q293 => ?_
            obtain ⟨ve297, e296⟩ := q293
            subst e296
            subst ve297
            show Go p e below _ T290 (mkF m 174 #[.val (.int p0), .val (.int p1), .val (.int p2), .val (.int p3), .val (.int p4), .val (.int (3 : Int32)), .val (.int c0), .val (.int c1), .val (.int c2), .val (.int c3), .val (.ref b203), .val (.ref b234), .val (.int (0 : Int32))] [(.int (if own_isn ([c0, c1, c2] : List Int32) then 1 else 0))])
            rw [if_neg (show ¬ own_isn ([c0, c1, c2] : List Int32) from (fun q => hq281 (q.2.2 _ (List.mem_of_getElem? (i := 1) rfl))))]
            show Go p e below _ T290 (mkF m 174 #[.val (.int p0), .val (.int p1), .val (.int p2), .val (.int p3), .val (.int p4), .val (.int (3 : Int32)), .val (.int c0), .val (.int c1), .val (.int c2), .val (.int c3), .val (.ref b203), .val (.ref b234), .val (.int (0 : Int32))] [(.int (0 : Int32))])
            refine Go.of (fun _ => XS.iload H291.here hx rfl (hb hby at_174) rfl) ?_
            show Go p e below _ T290 (mkF m 176 #[.val (.int p0), .val (.int p1), .val (.int p2), .val (.int p3), .val (.int p4), .val (.int (3 : Int32)), .val (.int c0), .val (.int c1), .val (.int c2), .val (.int c3), .val (.ref b203), .val (.ref b234), .val (.int (0 : Int32))] [(.int (0 : Int32)), (.int (0 : Int32))])
            refine Go.of (fun _ => XS.icmpNo H291.here hx rfl (hb hby at_176) rfl (teq (by decide : (0 : Int32) = (0 : Int32))).2) ?_
            show Go p e below _ T290 (mkF m 179 #[.val (.int p0), .val (.int p1), .val (.int p2), .val (.int p3), .val (.int p4), .val (.int (3 : Int32)), .val (.int c0), .val (.int c1), .val (.int c2), .val (.int c3), .val (.ref b203), .val (.ref b234), .val (.int (0 : Int32))] [])
            refine Go.of (fun _ => XS.iconst H291.here hx rfl (hb hby at_179)) ?_
            show Go p e below _ T290 (mkF m 180 #[.val (.int p0), .val (.int p1), .val (.int p2), .val (.int p3), .val (.int p4), .val (.int (3 : Int32)), .val (.int c0), .val (.int c1), .val (.int c2), .val (.int c3), .val (.ref b203), .val (.ref b234), .val (.int (0 : Int32))] [(.int (1 : Int32))])
            refine Go.of (fun _ => XS.goto H291.here hx rfl (pc0 := 180) (pc' := 184) rfl (hb hby at_180) (by decide) (by decide)) ?_
            show Go p e below _ T290 (mkF m 184 #[.val (.int p0), .val (.int p1), .val (.int p2), .val (.int p3), .val (.int p4), .val (.int (3 : Int32)), .val (.int c0), .val (.int c1), .val (.int c2), .val (.int c3), .val (.ref b203), .val (.ref b234), .val (.int (0 : Int32))] [(.int (1 : Int32))])
            exact own_retN H291 hx hlk (t := .boolean) hret (by simp) (hb hby at_184) all0 rfl (by decide) (by decide)
        · skip
          rw [if_neg hq272]
          show Go p e below _ T264 (mkF m 131 #[.val (.int p0), .val (.int p1), .val (.int p2), .val (.int p3), .val (.int p4), .val (.int (3 : Int32)), .val (.int c0), .val (.int c1), .val (.int c2), .val (.int c3), .val (.ref b203), .val (.ref b234), .unset] [(.int (0 : Int32))])
          refine Go.of (fun _ => XS.ifYes H265.here hx rfl (pc0 := 131) (pc' := 166) rfl (hb hby at_131) rfl ((if0 _ _).trans (teq (by decide : (0 : Int32) = (0 : Int32))).1) (by decide) (by decide)) ?_
          show Go p e below _ T264 (mkF m 166 #[.val (.int p0), .val (.int p1), .val (.int p2), .val (.int p3), .val (.int p4), .val (.int (3 : Int32)), .val (.int c0), .val (.int c1), .val (.int c2), .val (.int c3), .val (.ref b203), .val (.ref b234), .unset] [])
          refine Go.of (fun _ => XS.iconst H265.here hx rfl (hb hby at_166)) ?_
          show Go p e below _ T264 (mkF m 167 #[.val (.int p0), .val (.int p1), .val (.int p2), .val (.int p3), .val (.int p4), .val (.int (3 : Int32)), .val (.int c0), .val (.int c1), .val (.int c2), .val (.int c3), .val (.ref b203), .val (.ref b234), .unset] [(.int (0 : Int32))])
          refine Go.of (fun _ => XS.istore H265.here hx rfl (hb hby at_167) rfl (l' := #[.val (.int p0), .val (.int p1), .val (.int p2), .val (.int p3), .val (.int p4), .val (.int (3 : Int32)), .val (.int c0), .val (.int c1), .val (.int c2), .val (.int c3), .val (.ref b203), .val (.ref b234), .val (.int (0 : Int32))]) rfl) ?_
          show Go p e below _ T264 (mkF m 169 #[.val (.int p0), .val (.int p1), .val (.int p2), .val (.int p3), .val (.int p4), .val (.int (3 : Int32)), .val (.int c0), .val (.int c1), .val (.int c2), .val (.int c3), .val (.ref b203), .val (.ref b234), .val (.int (0 : Int32))] [])
          refine Go.of (fun _ => XS.aload H265.here hx rfl (hb hby at_169) rfl rfl) ?_
          show Go p e below _ T264 (mkF m 171 #[.val (.int p0), .val (.int p1), .val (.int p2), .val (.int p3), .val (.int p4), .val (.int (3 : Int32)), .val (.int c0), .val (.int c1), .val (.int c2), .val (.int c3), .val (.ref b203), .val (.ref b234), .val (.int (0 : Int32))] [(.ref b234)])
          refine own_staticW H265 hx (y := (⟨"com/example/entitled/entitled/lang/Lexer", "isName", "(Ljava/lang/String;)Z"⟩ : MethodName)) hown (ow hw 24 rfl) (ow hw 25 rfl) (ow hw 26 rfl) (ow hw 27 rfl) (by decide) (W := 0) (rm_inm l Z a0 hw hE b234 ([c0, c1, c2] : List Int32) 3 zc fm h247 H265.old SS (by simp) rfl SC hzc SF hfm SA SHB SLB) (fun _ hq => nomatch hq) (by decide) (by decide) rfl (by rw [hml]; rfl) (argsL := [(.ref b234)]) (rest := []) rfl (lenOf pd_16 rfl) rfl (by show 2 * 0 + _ ≤ _; exact Nat.le_of_eq rfl) (hb hby at_171) (by decide) (by decide) fun T298 h300 v302 H299 hs303 q301 => ?_
          obtain ⟨ve305, e304⟩ := q301
          subst e304
          subst ve305
          show Go p e below _ T298 (mkF m 174 #[.val (.int p0), .val (.int p1), .val (.int p2), .val (.int p3), .val (.int p4), .val (.int (3 : Int32)), .val (.int c0), .val (.int c1), .val (.int c2), .val (.int c3), .val (.ref b203), .val (.ref b234), .val (.int (0 : Int32))] [(.int (if own_isn ([c0, c1, c2] : List Int32) then 1 else 0))])
          rw [if_neg (show ¬ own_isn ([c0, c1, c2] : List Int32) from (fun q => hq272 (q.2.2 _ (List.mem_of_getElem? (i := 0) rfl))))]
          show Go p e below _ T298 (mkF m 174 #[.val (.int p0), .val (.int p1), .val (.int p2), .val (.int p3), .val (.int p4), .val (.int (3 : Int32)), .val (.int c0), .val (.int c1), .val (.int c2), .val (.int c3), .val (.ref b203), .val (.ref b234), .val (.int (0 : Int32))] [(.int (0 : Int32))])
          refine Go.of (fun _ => XS.iload H299.here hx rfl (hb hby at_174) rfl) ?_
          show Go p e below _ T298 (mkF m 176 #[.val (.int p0), .val (.int p1), .val (.int p2), .val (.int p3), .val (.int p4), .val (.int (3 : Int32)), .val (.int c0), .val (.int c1), .val (.int c2), .val (.int c3), .val (.ref b203), .val (.ref b234), .val (.int (0 : Int32))] [(.int (0 : Int32)), (.int (0 : Int32))])
          refine Go.of (fun _ => XS.icmpNo H299.here hx rfl (hb hby at_176) rfl (teq (by decide : (0 : Int32) = (0 : Int32))).2) ?_
          show Go p e below _ T298 (mkF m 179 #[.val (.int p0), .val (.int p1), .val (.int p2), .val (.int p3), .val (.int p4), .val (.int (3 : Int32)), .val (.int c0), .val (.int c1), .val (.int c2), .val (.int c3), .val (.ref b203), .val (.ref b234), .val (.int (0 : Int32))] [])
          refine Go.of (fun _ => XS.iconst H299.here hx rfl (hb hby at_179)) ?_
          show Go p e below _ T298 (mkF m 180 #[.val (.int p0), .val (.int p1), .val (.int p2), .val (.int p3), .val (.int p4), .val (.int (3 : Int32)), .val (.int c0), .val (.int c1), .val (.int c2), .val (.int c3), .val (.ref b203), .val (.ref b234), .val (.int (0 : Int32))] [(.int (1 : Int32))])
          refine Go.of (fun _ => XS.goto H299.here hx rfl (pc0 := 180) (pc' := 184) rfl (hb hby at_180) (by decide) (by decide)) ?_
          show Go p e below _ T298 (mkF m 184 #[.val (.int p0), .val (.int p1), .val (.int p2), .val (.int p3), .val (.int p4), .val (.int (3 : Int32)), .val (.int c0), .val (.int c1), .val (.int c2), .val (.int c3), .val (.ref b203), .val (.ref b234), .val (.int (0 : Int32))] [(.int (1 : Int32))])
          exact own_retN H299 hx hlk (t := .boolean) hret (by simp) (hb hby at_184) all0 rfl (by decide) (by decide)
      · skip
        rw [if_neg hq263]
        show Go p e below _ T255 (mkF m 117 #[.val (.int p0), .val (.int p1), .val (.int p2), .val (.int p3), .val (.int p4), .val (.int (3 : Int32)), .val (.int c0), .val (.int c1), .val (.int c2), .val (.int c3), .val (.ref b203), .val (.ref b234), .unset] [(.int (0 : Int32))])
        refine Go.of (fun _ => XS.ifYes H256.here hx rfl (pc0 := 117) (pc' := 166) rfl (hb hby at_117) rfl ((if0 _ _).trans (teq (by decide : (0 : Int32) = (0 : Int32))).1) (by decide) (by decide)) ?_
        show Go p e below _ T255 (mkF m 166 #[.val (.int p0), .val (.int p1), .val (.int p2), .val (.int p3), .val (.int p4), .val (.int (3 : Int32)), .val (.int c0), .val (.int c1), .val (.int c2), .val (.int c3), .val (.ref b203), .val (.ref b234), .unset] [])
        refine Go.of (fun _ => XS.iconst H256.here hx rfl (hb hby at_166)) ?_
        show Go p e below _ T255 (mkF m 167 #[.val (.int p0), .val (.int p1), .val (.int p2), .val (.int p3), .val (.int p4), .val (.int (3 : Int32)), .val (.int c0), .val (.int c1), .val (.int c2), .val (.int c3), .val (.ref b203), .val (.ref b234), .unset] [(.int (0 : Int32))])
        refine Go.of (fun _ => XS.istore H256.here hx rfl (hb hby at_167) rfl (l' := #[.val (.int p0), .val (.int p1), .val (.int p2), .val (.int p3), .val (.int p4), .val (.int (3 : Int32)), .val (.int c0), .val (.int c1), .val (.int c2), .val (.int c3), .val (.ref b203), .val (.ref b234), .val (.int (0 : Int32))]) rfl) ?_
        show Go p e below _ T255 (mkF m 169 #[.val (.int p0), .val (.int p1), .val (.int p2), .val (.int p3), .val (.int p4), .val (.int (3 : Int32)), .val (.int c0), .val (.int c1), .val (.int c2), .val (.int c3), .val (.ref b203), .val (.ref b234), .val (.int (0 : Int32))] [])
        refine Go.of (fun _ => XS.aload H256.here hx rfl (hb hby at_169) rfl rfl) ?_
        show Go p e below _ T255 (mkF m 171 #[.val (.int p0), .val (.int p1), .val (.int p2), .val (.int p3), .val (.int p4), .val (.int (3 : Int32)), .val (.int c0), .val (.int c1), .val (.int c2), .val (.int c3), .val (.ref b203), .val (.ref b234), .val (.int (0 : Int32))] [(.ref b234)])
        refine own_staticW H256 hx (y := (⟨"com/example/entitled/entitled/lang/Lexer", "isName", "(Ljava/lang/String;)Z"⟩ : MethodName)) hown (ow hw 24 rfl) (ow hw 25 rfl) (ow hw 26 rfl) (ow hw 27 rfl) (by decide) (W := 0) (rm_inm l Z a0 hw hE b234 ([c0, c1, c2] : List Int32) 3 zc fm h247 H256.old SS (by simp) rfl SC hzc SF hfm SA SHB SLB) (fun _ hq => nomatch hq) (by decide) (by decide) rfl (by rw [hml]; rfl) (argsL := [(.ref b234)]) (rest := []) rfl (lenOf pd_16 rfl) rfl (by show 2 * 0 + _ ≤ _; exact Nat.le_of_eq rfl) (hb hby at_171) (by decide) (by decide) fun T306 h308 v310 H307 hs311 q309 => ?_
        obtain ⟨ve313, e312⟩ := q309
        subst e312
        subst ve313
        show Go p e below _ T306 (mkF m 174 #[.val (.int p0), .val (.int p1), .val (.int p2), .val (.int p3), .val (.int p4), .val (.int (3 : Int32)), .val (.int c0), .val (.int c1), .val (.int c2), .val (.int c3), .val (.ref b203), .val (.ref b234), .val (.int (0 : Int32))] [(.int (if own_isn ([c0, c1, c2] : List Int32) then 1 else 0))])
        rw [if_neg (show ¬ own_isn ([c0, c1, c2] : List Int32) from (fun q => hq263 q.2.1))]
        show Go p e below _ T306 (mkF m 174 #[.val (.int p0), .val (.int p1), .val (.int p2), .val (.int p3), .val (.int p4), .val (.int (3 : Int32)), .val (.int c0), .val (.int c1), .val (.int c2), .val (.int c3), .val (.ref b203), .val (.ref b234), .val (.int (0 : Int32))] [(.int (0 : Int32))])
        refine Go.of (fun _ => XS.iload H307.here hx rfl (hb hby at_174) rfl) ?_
        show Go p e below _ T306 (mkF m 176 #[.val (.int p0), .val (.int p1), .val (.int p2), .val (.int p3), .val (.int p4), .val (.int (3 : Int32)), .val (.int c0), .val (.int c1), .val (.int c2), .val (.int c3), .val (.ref b203), .val (.ref b234), .val (.int (0 : Int32))] [(.int (0 : Int32)), (.int (0 : Int32))])
        refine Go.of (fun _ => XS.icmpNo H307.here hx rfl (hb hby at_176) rfl (teq (by decide : (0 : Int32) = (0 : Int32))).2) ?_
        show Go p e below _ T306 (mkF m 179 #[.val (.int p0), .val (.int p1), .val (.int p2), .val (.int p3), .val (.int p4), .val (.int (3 : Int32)), .val (.int c0), .val (.int c1), .val (.int c2), .val (.int c3), .val (.ref b203), .val (.ref b234), .val (.int (0 : Int32))] [])
        refine Go.of (fun _ => XS.iconst H307.here hx rfl (hb hby at_179)) ?_
        show Go p e below _ T306 (mkF m 180 #[.val (.int p0), .val (.int p1), .val (.int p2), .val (.int p3), .val (.int p4), .val (.int (3 : Int32)), .val (.int c0), .val (.int c1), .val (.int c2), .val (.int c3), .val (.ref b203), .val (.ref b234), .val (.int (0 : Int32))] [(.int (1 : Int32))])
        refine Go.of (fun _ => XS.goto H307.here hx rfl (pc0 := 180) (pc' := 184) rfl (hb hby at_180) (by decide) (by decide)) ?_
        show Go p e below _ T306 (mkF m 184 #[.val (.int p0), .val (.int p1), .val (.int p2), .val (.int p3), .val (.int p4), .val (.int (3 : Int32)), .val (.int c0), .val (.int c1), .val (.int c2), .val (.int c3), .val (.ref b203), .val (.ref b234), .val (.int (0 : Int32))] [(.int (1 : Int32))])
        exact own_retN H307 hx hlk (t := .boolean) hret (by simp) (hb hby at_184) all0 rfl (by decide) (by decide)
    · skip
      show Go p e below _ s₁ (mkF m 37 #[.val (.int p0), .val (.int p1), .val (.int p2), .val (.int p3), .val (.int p4), .val (.int (4 : Int32)), .val (.int c0), .val (.int c1), .val (.int c2), .val (.int c3), .unset, .unset, .unset] [])
      refine Go.of (fun _ => XS.iload H0.here hx rfl (hb hby at_37) rfl) ?_
      show Go p e below _ s₁ (mkF m 39 #[.val (.int p0), .val (.int p1), .val (.int p2), .val (.int p3), .val (.int p4), .val (.int (4 : Int32)), .val (.int c0), .val (.int c1), .val (.int c2), .val (.int c3), .unset, .unset, .unset] [(.int (4 : Int32))])
      refine own_newP H0 hx (ow hw 2 rfl) rfl (hb hby at_39) rfl (by decide) (cap := 4) (by decide) (by decide) (by decide) (by decide) fun T314 h316 b317 kA320 g318 H315 E319 V321 => ?_
      have fr322 : Z.heap.size ≤ b317 := by rw [g318]; exact H0.old.1
      have V323 : Arv Z h316 b317 kA320 .char (4 : Int32) [(.int (0 : Int32)), (.int (0 : Int32)), (.int (0 : Int32)), (.int (0 : Int32))] (.int (0 : Int32)) := V321.pad (pad_rep [] (.int (0 : Int32)) 4)
      show Go p e below _ T314 (mkF m 41 #[.val (.int p0), .val (.int p1), .val (.int p2), .val (.int p3), .val (.int p4), .val (.int (4 : Int32)), .val (.int c0), .val (.int c1), .val (.int c2), .val (.int c3), .unset, .unset, .unset] [(.ref b317)])
      refine Go.of (fun _ => XS.astore H315.here hx rfl (hb hby at_41) rfl rfl (l' := #[.val (.int p0), .val (.int p1), .val (.int p2), .val (.int p3), .val (.int p4), .val (.int (4 : Int32)), .val (.int c0), .val (.int c1), .val (.int c2), .val (.int c3), .val (.ref b317), .unset, .unset]) rfl) ?_
      show Go p e below _ T314 (mkF m 43 #[.val (.int p0), .val (.int p1), .val (.int p2), .val (.int p3), .val (.int p4), .val (.int (4 : Int32)), .val (.int c0), .val (.int c1), .val (.int c2), .val (.int c3), .val (.ref b317), .unset, .unset] [])
      refine Go.of (fun _ => XS.iload H315.here hx rfl (hb hby at_43) rfl) ?_
      show Go p e below _ T314 (mkF m 45 #[.val (.int p0), .val (.int p1), .val (.int p2), .val (.int p3), .val (.int p4), .val (.int (4 : Int32)), .val (.int c0), .val (.int c1), .val (.int c2), .val (.int c3), .val (.ref b317), .unset, .unset] [(.int (4 : Int32))])
      refine Go.of (fun _ => XS.ifNo H315.here hx rfl (hb hby at_45) rfl ((if0 _ _).trans (tlt (by decide : (0 : Int32) < (4 : Int32))).2.2.2)) ?_
      show Go p e below _ T314 (mkF m 48 #[.val (.int p0), .val (.int p1), .val (.int p2), .val (.int p3), .val (.int p4), .val (.int (4 : Int32)), .val (.int c0), .val (.int c1), .val (.int c2), .val (.int c3), .val (.ref b317), .unset, .unset] [])
      refine Go.of (fun _ => XS.aload H315.here hx rfl (hb hby at_48) rfl rfl) ?_
      show Go p e below _ T314 (mkF m 50 #[.val (.int p0), .val (.int p1), .val (.int p2), .val (.int p3), .val (.int p4), .val (.int (4 : Int32)), .val (.int c0), .val (.int c1), .val (.int c2), .val (.int c3), .val (.ref b317), .unset, .unset] [(.ref b317)])
      refine Go.of (fun _ => XS.iconst H315.here hx rfl (hb hby at_50)) ?_
      show Go p e below _ T314 (mkF m 51 #[.val (.int p0), .val (.int p1), .val (.int p2), .val (.int p3), .val (.int p4), .val (.int (4 : Int32)), .val (.int c0), .val (.int c1), .val (.int c2), .val (.int c3), .val (.ref b317), .unset, .unset] [(.int (0 : Int32)), (.ref b317)])
      refine Go.of (fun _ => XS.iload H315.here hx rfl (hb hby at_51) rfl) ?_
      show Go p e below _ T314 (mkF m 53 #[.val (.int p0), .val (.int p1), .val (.int p2), .val (.int p3), .val (.int p4), .val (.int (4 : Int32)), .val (.int c0), .val (.int c1), .val (.int c2), .val (.int c3), .val (.ref b317), .unset, .unset] [(.int c0), (.int (0 : Int32)), (.ref b317)])
      refine own_castore H315 hx V323 ⟨by decide, by decide⟩ 0 (by decide) (Nat.le_of_ble_eq_true rfl) fr322 rfl rfl (hb hby at_53) fun T324 h326 H325 W327 V328 => ?_
      have V330 : Arv Z h326 b317 kA320 .char (4 : Int32) [(.int (nar .char c0)), (.int (0 : Int32)), (.int (0 : Int32)), (.int (0 : Int32))] (.int (0 : Int32)) := V328
      show Go p e below _ T324 (mkF m 54 #[.val (.int p0), .val (.int p1), .val (.int p2), .val (.int p3), .val (.int p4), .val (.int (4 : Int32)), .val (.int c0), .val (.int c1), .val (.int c2), .val (.int c3), .val (.ref b317), .unset, .unset] [])
      refine Go.of (fun _ => XS.iload H325.here hx rfl (hb hby at_54) rfl) ?_
      show Go p e below _ T324 (mkF m 56 #[.val (.int p0), .val (.int p1), .val (.int p2), .val (.int p3), .val (.int p4), .val (.int (4 : Int32)), .val (.int c0), .val (.int c1), .val (.int c2), .val (.int c3), .val (.ref b317), .unset, .unset] [(.int (4 : Int32))])
      refine Go.of (fun _ => XS.iconst H325.here hx rfl (hb hby at_56)) ?_
      show Go p e below _ T324 (mkF m 57 #[.val (.int p0), .val (.int p1), .val (.int p2), .val (.int p3), .val (.int p4), .val (.int (4 : Int32)), .val (.int c0), .val (.int c1), .val (.int c2), .val (.int c3), .val (.ref b317), .unset, .unset] [(.int (1 : Int32)), (.int (4 : Int32))])
      refine Go.of (fun _ => XS.icmpNo H325.here hx rfl (hb hby at_57) rfl (tlt (by decide : (1 : Int32) < (4 : Int32))).2.2.2) ?_
      show Go p e below _ T324 (mkF m 60 #[.val (.int p0), .val (.int p1), .val (.int p2), .val (.int p3), .val (.int p4), .val (.int (4 : Int32)), .val (.int c0), .val (.int c1), .val (.int c2), .val (.int c3), .val (.ref b317), .unset, .unset] [])
      refine Go.of (fun _ => XS.aload H325.here hx rfl (hb hby at_60) rfl rfl) ?_
      show Go p e below _ T324 (mkF m 62 #[.val (.int p0), .val (.int p1), .val (.int p2), .val (.int p3), .val (.int p4), .val (.int (4 : Int32)), .val (.int c0), .val (.int c1), .val (.int c2), .val (.int c3), .val (.ref b317), .unset, .unset] [(.ref b317)])
      refine Go.of (fun _ => XS.iconst H325.here hx rfl (hb hby at_62)) ?_
      show Go p e below _ T324 (mkF m 63 #[.val (.int p0), .val (.int p1), .val (.int p2), .val (.int p3), .val (.int p4), .val (.int (4 : Int32)), .val (.int c0), .val (.int c1), .val (.int c2), .val (.int c3), .val (.ref b317), .unset, .unset] [(.int (1 : Int32)), (.ref b317)])
      refine Go.of (fun _ => XS.iload H325.here hx rfl (hb hby at_63) rfl) ?_
      show Go p e below _ T324 (mkF m 65 #[.val (.int p0), .val (.int p1), .val (.int p2), .val (.int p3), .val (.int p4), .val (.int (4 : Int32)), .val (.int c0), .val (.int c1), .val (.int c2), .val (.int c3), .val (.ref b317), .unset, .unset] [(.int c1), (.int (1 : Int32)), (.ref b317)])
      refine own_castore H325 hx V330 ⟨by decide, by decide⟩ 1 (by decide) (Nat.le_of_ble_eq_true rfl) fr322 rfl rfl (hb hby at_65) fun T331 h333 H332 W334 V335 => ?_
      have V337 : Arv Z h333 b317 kA320 .char (4 : Int32) [(.int (nar .char c0)), (.int (nar .char c1)), (.int (0 : Int32)), (.int (0 : Int32))] (.int (0 : Int32)) := V335
      show Go p e below _ T331 (mkF m 66 #[.val (.int p0), .val (.int p1), .val (.int p2), .val (.int p3), .val (.int p4), .val (.int (4 : Int32)), .val (.int c0), .val (.int c1), .val (.int c2), .val (.int c3), .val (.ref b317), .unset, .unset] [])
      refine Go.of (fun _ => XS.iload H332.here hx rfl (hb hby at_66) rfl) ?_
      show Go p e below _ T331 (mkF m 68 #[.val (.int p0), .val (.int p1), .val (.int p2), .val (.int p3), .val (.int p4), .val (.int (4 : Int32)), .val (.int c0), .val (.int c1), .val (.int c2), .val (.int c3), .val (.ref b317), .unset, .unset] [(.int (4 : Int32))])
      refine Go.of (fun _ => XS.iconst H332.here hx rfl (hb hby at_68)) ?_
      show Go p e below _ T331 (mkF m 69 #[.val (.int p0), .val (.int p1), .val (.int p2), .val (.int p3), .val (.int p4), .val (.int (4 : Int32)), .val (.int c0), .val (.int c1), .val (.int c2), .val (.int c3), .val (.ref b317), .unset, .unset] [(.int (2 : Int32)), (.int (4 : Int32))])
      refine Go.of (fun _ => XS.icmpNo H332.here hx rfl (hb hby at_69) rfl (tlt (by decide : (2 : Int32) < (4 : Int32))).2.2.2) ?_
      show Go p e below _ T331 (mkF m 72 #[.val (.int p0), .val (.int p1), .val (.int p2), .val (.int p3), .val (.int p4), .val (.int (4 : Int32)), .val (.int c0), .val (.int c1), .val (.int c2), .val (.int c3), .val (.ref b317), .unset, .unset] [])
      refine Go.of (fun _ => XS.aload H332.here hx rfl (hb hby at_72) rfl rfl) ?_
      show Go p e below _ T331 (mkF m 74 #[.val (.int p0), .val (.int p1), .val (.int p2), .val (.int p3), .val (.int p4), .val (.int (4 : Int32)), .val (.int c0), .val (.int c1), .val (.int c2), .val (.int c3), .val (.ref b317), .unset, .unset] [(.ref b317)])
      refine Go.of (fun _ => XS.iconst H332.here hx rfl (hb hby at_74)) ?_
      show Go p e below _ T331 (mkF m 75 #[.val (.int p0), .val (.int p1), .val (.int p2), .val (.int p3), .val (.int p4), .val (.int (4 : Int32)), .val (.int c0), .val (.int c1), .val (.int c2), .val (.int c3), .val (.ref b317), .unset, .unset] [(.int (2 : Int32)), (.ref b317)])
      refine Go.of (fun _ => XS.iload H332.here hx rfl (hb hby at_75) rfl) ?_
      show Go p e below _ T331 (mkF m 77 #[.val (.int p0), .val (.int p1), .val (.int p2), .val (.int p3), .val (.int p4), .val (.int (4 : Int32)), .val (.int c0), .val (.int c1), .val (.int c2), .val (.int c3), .val (.ref b317), .unset, .unset] [(.int c2), (.int (2 : Int32)), (.ref b317)])
      refine own_castore H332 hx V337 ⟨by decide, by decide⟩ 2 (by decide) (Nat.le_of_ble_eq_true rfl) fr322 rfl rfl (hb hby at_77) fun T338 h340 H339 W341 V342 => ?_
      have V344 : Arv Z h340 b317 kA320 .char (4 : Int32) [(.int (nar .char c0)), (.int (nar .char c1)), (.int (nar .char c2)), (.int (0 : Int32))] (.int (0 : Int32)) := V342
      show Go p e below _ T338 (mkF m 78 #[.val (.int p0), .val (.int p1), .val (.int p2), .val (.int p3), .val (.int p4), .val (.int (4 : Int32)), .val (.int c0), .val (.int c1), .val (.int c2), .val (.int c3), .val (.ref b317), .unset, .unset] [])
      refine Go.of (fun _ => XS.iload H339.here hx rfl (hb hby at_78) rfl) ?_
      show Go p e below _ T338 (mkF m 80 #[.val (.int p0), .val (.int p1), .val (.int p2), .val (.int p3), .val (.int p4), .val (.int (4 : Int32)), .val (.int c0), .val (.int c1), .val (.int c2), .val (.int c3), .val (.ref b317), .unset, .unset] [(.int (4 : Int32))])
      refine Go.of (fun _ => XS.iconst H339.here hx rfl (hb hby at_80)) ?_
      show Go p e below _ T338 (mkF m 81 #[.val (.int p0), .val (.int p1), .val (.int p2), .val (.int p3), .val (.int p4), .val (.int (4 : Int32)), .val (.int c0), .val (.int c1), .val (.int c2), .val (.int c3), .val (.ref b317), .unset, .unset] [(.int (3 : Int32)), (.int (4 : Int32))])
      refine Go.of (fun _ => XS.icmpNo H339.here hx rfl (hb hby at_81) rfl (tlt (by decide : (3 : Int32) < (4 : Int32))).2.2.2) ?_
      show Go p e below _ T338 (mkF m 84 #[.val (.int p0), .val (.int p1), .val (.int p2), .val (.int p3), .val (.int p4), .val (.int (4 : Int32)), .val (.int c0), .val (.int c1), .val (.int c2), .val (.int c3), .val (.ref b317), .unset, .unset] [])
      refine Go.of (fun _ => XS.aload H339.here hx rfl (hb hby at_84) rfl rfl) ?_
      show Go p e below _ T338 (mkF m 86 #[.val (.int p0), .val (.int p1), .val (.int p2), .val (.int p3), .val (.int p4), .val (.int (4 : Int32)), .val (.int c0), .val (.int c1), .val (.int c2), .val (.int c3), .val (.ref b317), .unset, .unset] [(.ref b317)])
      refine Go.of (fun _ => XS.iconst H339.here hx rfl (hb hby at_86)) ?_
      show Go p e below _ T338 (mkF m 87 #[.val (.int p0), .val (.int p1), .val (.int p2), .val (.int p3), .val (.int p4), .val (.int (4 : Int32)), .val (.int c0), .val (.int c1), .val (.int c2), .val (.int c3), .val (.ref b317), .unset, .unset] [(.int (3 : Int32)), (.ref b317)])
      refine Go.of (fun _ => XS.iload H339.here hx rfl (hb hby at_87) rfl) ?_
      show Go p e below _ T338 (mkF m 89 #[.val (.int p0), .val (.int p1), .val (.int p2), .val (.int p3), .val (.int p4), .val (.int (4 : Int32)), .val (.int c0), .val (.int c1), .val (.int c2), .val (.int c3), .val (.ref b317), .unset, .unset] [(.int c3), (.int (3 : Int32)), (.ref b317)])
      refine own_castore H339 hx V344 ⟨by decide, by decide⟩ 3 (by decide) (Nat.le_of_ble_eq_true rfl) fr322 rfl rfl (hb hby at_89) fun T345 h347 H346 W348 V349 => ?_
      have V351 : Arv Z h347 b317 kA320 .char (4 : Int32) [(.int (nar .char c0)), (.int (nar .char c1)), (.int (nar .char c2)), (.int (nar .char c3))] (.int (0 : Int32)) := V349
      show Go p e below _ T345 (mkF m 90 #[.val (.int p0), .val (.int p1), .val (.int p2), .val (.int p3), .val (.int p4), .val (.int (4 : Int32)), .val (.int c0), .val (.int c1), .val (.int c2), .val (.int c3), .val (.ref b317), .unset, .unset] [])
      refine own_new H346 hx hown (ow hw 3 rfl) (ow hw 4 rfl) (ow hw 5 rfl) rfl (hb hby at_90) (by decide) (by decide) fun T352 h354 b355 g356 H353 E357 A358 D359 => ?_
      have ne360 : b317 ≠ b355 := by rw [g356]; exact Nat.ne_of_lt V351.lt
      have fr361 : Z.heap.size ≤ b355 := by rw [g356]; exact H346.old.1
      have f362 := V351.ext E357
      have f363 : Fld Z h354 b355 "java/lang/String" "value" "[B" .null := D359 (Or.inr (ow hw 18 rfl)) (ty := (.array .byte)) (by decide)
      have f364 : Fld Z h354 b355 "java/lang/String" "coder" "B" (.int (0 : Int32)) := D359 (Or.inr (ow hw 19 rfl)) (ty := .byte) (by decide)
      show Go p e below _ T352 (mkF m 93 #[.val (.int p0), .val (.int p1), .val (.int p2), .val (.int p3), .val (.int p4), .val (.int (4 : Int32)), .val (.int c0), .val (.int c1), .val (.int c2), .val (.int c3), .val (.ref b317), .unset, .unset] [(.ref b355)])
      refine Go.of (fun _ => XS.dup H353.here hx rfl (hb hby at_93) rfl rfl) ?_
      show Go p e below _ T352 (mkF m 94 #[.val (.int p0), .val (.int p1), .val (.int p2), .val (.int p3), .val (.int p4), .val (.int (4 : Int32)), .val (.int c0), .val (.int c1), .val (.int c2), .val (.int c3), .val (.ref b317), .unset, .unset] [(.ref b355), (.ref b355)])
      refine Go.of (fun _ => XS.aload H353.here hx rfl (hb hby at_94) rfl rfl) ?_
      show Go p e below _ T352 (mkF m 96 #[.val (.int p0), .val (.int p1), .val (.int p2), .val (.int p3), .val (.int p4), .val (.int (4 : Int32)), .val (.int c0), .val (.int c1), .val (.int c2), .val (.int c3), .val (.ref b317), .unset, .unset] [(.ref b317), (.ref b355), (.ref b355)])
      have hV365 : Arv Z h354 b317 kA320 .char (Int32.ofNat 4) (([c0, c1, c2, c3] : List Int32).map Value.int) (.int (0 : Int32)) := by have := f362; rw [own_narc16 hc0, own_narc16 hc1, own_narc16 hc2, own_narc16 hc3] at this; exact this
      refine own_specialW H353 hx (y := (⟨"java/lang/String", "<init>", "([C)V"⟩ : MethodName)) rfl hown (ow hw 6 rfl) (ow hw 7 rfl) (ow hw 5 rfl) (ow hw 8 rfl) (by decide) (W := 1) (rm_s1 l Z a0 hw hE b355 b317 kA320 4 ([c0, c1, c2, c3] : List Int32) (.int (0 : Int32)) zc h354 H353.old A358 f363 f364 fr361 ne360 hV365 rfl (by decide) (allC hc0 (allC hc1 (allC hc2 (allC hc3 all0c)))) SC hzc SA SHB SLB) (allS (List.mem_of_getElem? (i := 0) rfl) all0) (by decide) (by decide) rfl (by rw [hml]; rfl) (a := b355) (argsL := [(.ref b317)]) (rest := [(.ref b355)]) rfl (lenOf pd_15 rfl) rfl (by show 2 * 0 + _ ≤ _; exact Nat.le_of_eq rfl) (hb hby at_96) (by decide) (by decide) fun T366 h368 v370 H367 hs371 q369 => ?_
      obtain ⟨rfl, KK, SS⟩ := q369
      have f372 := f362.keep KK (ninS ne360 nin0)
      have f373 := A358.keep KK
      show Go p e below _ T366 (mkF m 99 #[.val (.int p0), .val (.int p1), .val (.int p2), .val (.int p3), .val (.int p4), .val (.int (4 : Int32)), .val (.int c0), .val (.int c1), .val (.int c2), .val (.int c3), .val (.ref b317), .unset, .unset] [(.ref b355)])
      refine Go.of (fun _ => XS.astore H367.here hx rfl (hb hby at_99) rfl rfl (l' := #[.val (.int p0), .val (.int p1), .val (.int p2), .val (.int p3), .val (.int p4), .val (.int (4 : Int32)), .val (.int c0), .val (.int c1), .val (.int c2), .val (.int c3), .val (.ref b317), .val (.ref b355), .unset]) rfl) ?_
      show Go p e below _ T366 (mkF m 101 #[.val (.int p0), .val (.int p1), .val (.int p2), .val (.int p3), .val (.int p4), .val (.int (4 : Int32)), .val (.int c0), .val (.int c1), .val (.int c2), .val (.int c3), .val (.ref b317), .val (.ref b355), .unset] [])
      refine Go.of (fun _ => XS.iload H367.here hx rfl (hb hby at_101) rfl) ?_
      show Go p e below _ T366 (mkF m 103 #[.val (.int p0), .val (.int p1), .val (.int p2), .val (.int p3), .val (.int p4), .val (.int (4 : Int32)), .val (.int c0), .val (.int c1), .val (.int c2), .val (.int c3), .val (.ref b317), .val (.ref b355), .unset] [(.int (4 : Int32))])
      refine Go.of (fun _ => XS.ifYes H367.here hx rfl (pc0 := 103) (pc' := 112) rfl (hb hby at_103) rfl ((if0 _ _).trans (feq (by decide : ¬ ((4 : Int32) = (0 : Int32)))).2) (by decide) (by decide)) ?_
      show Go p e below _ T366 (mkF m 112 #[.val (.int p0), .val (.int p1), .val (.int p2), .val (.int p3), .val (.int p4), .val (.int (4 : Int32)), .val (.int c0), .val (.int c1), .val (.int c2), .val (.int c3), .val (.ref b317), .val (.ref b355), .unset] [])
      refine Go.of (fun _ => XS.iload H367.here hx rfl (hb hby at_112) rfl) ?_
      show Go p e below _ T366 (mkF m 114 #[.val (.int p0), .val (.int p1), .val (.int p2), .val (.int p3), .val (.int p4), .val (.int (4 : Int32)), .val (.int c0), .val (.int c1), .val (.int c2), .val (.int c3), .val (.ref b317), .val (.ref b355), .unset] [(.int c0)])
      refine own_staticW H367 hx (y := (⟨"com/example/entitled/entitled/lang/LexerIsNamePinLaw", "startOk", "(I)Z"⟩ : MethodName)) hown (ow hw 44 rfl) (ow hw 45 rfl) (ow hw 46 rfl) (ow hw 47 rfl) (by decide) (W := 0) (rm_sok l Z a0 hw hE c0 h368 H367.old ) (fun _ hq => nomatch hq) (by decide) (by decide) rfl (by rw [hml]; rfl) (argsL := [(.int c0)]) (rest := []) rfl (lenOf pd_13 rfl) rfl (by show 2 * 0 + _ ≤ _; exact Nat.le_of_eq rfl) (hb hby at_114) (by decide) (by decide) fun T376 h378 v380 H377 hs381 q379 => ?_
      obtain ⟨ve383, e382⟩ := q379
      subst e382
      subst ve383
      show Go p e below _ T376 (mkF m 117 #[.val (.int p0), .val (.int p1), .val (.int p2), .val (.int p3), .val (.int p4), .val (.int (4 : Int32)), .val (.int c0), .val (.int c1), .val (.int c2), .val (.int c3), .val (.ref b317), .val (.ref b355), .unset] [(.int (if own_sn c0 then 1 else 0))])
      by_cases hq384 : own_sn c0
      · skip
        rw [if_pos hq384]
        show Go p e below _ T376 (mkF m 117 #[.val (.int p0), .val (.int p1), .val (.int p2), .val (.int p3), .val (.int p4), .val (.int (4 : Int32)), .val (.int c0), .val (.int c1), .val (.int c2), .val (.int c3), .val (.ref b317), .val (.ref b355), .unset] [(.int (1 : Int32))])
        refine Go.of (fun _ => XS.ifNo H377.here hx rfl (hb hby at_117) rfl ((if0 _ _).trans (feq (by decide : ¬ ((1 : Int32) = (0 : Int32)))).1)) ?_
        show Go p e below _ T376 (mkF m 120 #[.val (.int p0), .val (.int p1), .val (.int p2), .val (.int p3), .val (.int p4), .val (.int (4 : Int32)), .val (.int c0), .val (.int c1), .val (.int c2), .val (.int c3), .val (.ref b317), .val (.ref b355), .unset] [])
        refine Go.of (fun _ => XS.iload H377.here hx rfl (hb hby at_120) rfl) ?_
        show Go p e below _ T376 (mkF m 122 #[.val (.int p0), .val (.int p1), .val (.int p2), .val (.int p3), .val (.int p4), .val (.int (4 : Int32)), .val (.int c0), .val (.int c1), .val (.int c2), .val (.int c3), .val (.ref b317), .val (.ref b355), .unset] [(.int (4 : Int32))])
        refine Go.of (fun _ => XS.iconst H377.here hx rfl (hb hby at_122)) ?_
        show Go p e below _ T376 (mkF m 123 #[.val (.int p0), .val (.int p1), .val (.int p2), .val (.int p3), .val (.int p4), .val (.int (4 : Int32)), .val (.int c0), .val (.int c1), .val (.int c2), .val (.int c3), .val (.ref b317), .val (.ref b355), .unset] [(.int (2 : Int32)), (.int (4 : Int32))])
        refine Go.of (fun _ => XS.icmpNo H377.here hx rfl (hb hby at_123) rfl (flt (by decide : ¬ ((4 : Int32) < (2 : Int32)))).1) ?_
        show Go p e below _ T376 (mkF m 126 #[.val (.int p0), .val (.int p1), .val (.int p2), .val (.int p3), .val (.int p4), .val (.int (4 : Int32)), .val (.int c0), .val (.int c1), .val (.int c2), .val (.int c3), .val (.ref b317), .val (.ref b355), .unset] [])
        refine Go.of (fun _ => XS.iload H377.here hx rfl (hb hby at_126) rfl) ?_
        show Go p e below _ T376 (mkF m 128 #[.val (.int p0), .val (.int p1), .val (.int p2), .val (.int p3), .val (.int p4), .val (.int (4 : Int32)), .val (.int c0), .val (.int c1), .val (.int c2), .val (.int c3), .val (.ref b317), .val (.ref b355), .unset] [(.int c1)])
        refine own_staticW H377 hx (y := (⟨"com/example/entitled/entitled/lang/LexerIsNamePinLaw", "partOk", "(I)Z"⟩ : MethodName)) hown (ow hw 105 rfl) (ow hw 106 rfl) (ow hw 46 rfl) (ow hw 107 rfl) (by decide) (W := 0) (rm_pok l Z a0 hw hE c1 h368 H377.old ) (fun _ hq => nomatch hq) (by decide) (by decide) rfl (by rw [hml]; rfl) (argsL := [(.int c1)]) (rest := []) rfl (lenOf pd_13 rfl) rfl (by show 2 * 0 + _ ≤ _; exact Nat.le_of_eq rfl) (hb hby at_128) (by decide) (by decide) fun T385 h387 v389 H386 hs390 q388 => ?_
        obtain ⟨ve392, e391⟩ := q388
        subst e391
        subst ve392
        show Go p e below _ T385 (mkF m 131 #[.val (.int p0), .val (.int p1), .val (.int p2), .val (.int p3), .val (.int p4), .val (.int (4 : Int32)), .val (.int c0), .val (.int c1), .val (.int c2), .val (.int c3), .val (.ref b317), .val (.ref b355), .unset] [(.int (if own_pt c1 then 1 else 0))])
        by_cases hq393 : own_pt c1
        · skip
          rw [if_pos hq393]
          show Go p e below _ T385 (mkF m 131 #[.val (.int p0), .val (.int p1), .val (.int p2), .val (.int p3), .val (.int p4), .val (.int (4 : Int32)), .val (.int c0), .val (.int c1), .val (.int c2), .val (.int c3), .val (.ref b317), .val (.ref b355), .unset] [(.int (1 : Int32))])
          refine Go.of (fun _ => XS.ifNo H386.here hx rfl (hb hby at_131) rfl ((if0 _ _).trans (feq (by decide : ¬ ((1 : Int32) = (0 : Int32)))).1)) ?_
          show Go p e below _ T385 (mkF m 134 #[.val (.int p0), .val (.int p1), .val (.int p2), .val (.int p3), .val (.int p4), .val (.int (4 : Int32)), .val (.int c0), .val (.int c1), .val (.int c2), .val (.int c3), .val (.ref b317), .val (.ref b355), .unset] [])
          refine Go.of (fun _ => XS.iload H386.here hx rfl (hb hby at_134) rfl) ?_
          show Go p e below _ T385 (mkF m 136 #[.val (.int p0), .val (.int p1), .val (.int p2), .val (.int p3), .val (.int p4), .val (.int (4 : Int32)), .val (.int c0), .val (.int c1), .val (.int c2), .val (.int c3), .val (.ref b317), .val (.ref b355), .unset] [(.int (4 : Int32))])
          refine Go.of (fun _ => XS.iconst H386.here hx rfl (hb hby at_136)) ?_
          show Go p e below _ T385 (mkF m 137 #[.val (.int p0), .val (.int p1), .val (.int p2), .val (.int p3), .val (.int p4), .val (.int (4 : Int32)), .val (.int c0), .val (.int c1), .val (.int c2), .val (.int c3), .val (.ref b317), .val (.ref b355), .unset] [(.int (3 : Int32)), (.int (4 : Int32))])
          refine Go.of (fun _ => XS.icmpNo H386.here hx rfl (hb hby at_137) rfl (flt (by decide : ¬ ((4 : Int32) < (3 : Int32)))).1) ?_
          show Go p e below _ T385 (mkF m 140 #[.val (.int p0), .val (.int p1), .val (.int p2), .val (.int p3), .val (.int p4), .val (.int (4 : Int32)), .val (.int c0), .val (.int c1), .val (.int c2), .val (.int c3), .val (.ref b317), .val (.ref b355), .unset] [])
          refine Go.of (fun _ => XS.iload H386.here hx rfl (hb hby at_140) rfl) ?_
          show Go p e below _ T385 (mkF m 142 #[.val (.int p0), .val (.int p1), .val (.int p2), .val (.int p3), .val (.int p4), .val (.int (4 : Int32)), .val (.int c0), .val (.int c1), .val (.int c2), .val (.int c3), .val (.ref b317), .val (.ref b355), .unset] [(.int c2)])
          refine own_staticW H386 hx (y := (⟨"com/example/entitled/entitled/lang/LexerIsNamePinLaw", "partOk", "(I)Z"⟩ : MethodName)) hown (ow hw 105 rfl) (ow hw 106 rfl) (ow hw 46 rfl) (ow hw 107 rfl) (by decide) (W := 0) (rm_pok l Z a0 hw hE c2 h368 H386.old ) (fun _ hq => nomatch hq) (by decide) (by decide) rfl (by rw [hml]; rfl) (argsL := [(.int c2)]) (rest := []) rfl (lenOf pd_13 rfl) rfl (by show 2 * 0 + _ ≤ _; exact Nat.le_of_eq rfl) (hb hby at_142) (by decide) (by decide) fun T394 h396 v398 H395 hs399 q397 => ?_
          obtain ⟨ve401, e400⟩ := q397
          subst e400
          subst ve401
          show Go p e below _ T394 (mkF m 145 #[.val (.int p0), .val (.int p1), .val (.int p2), .val (.int p3), .val (.int p4), .val (.int (4 : Int32)), .val (.int c0), .val (.int c1), .val (.int c2), .val (.int c3), .val (.ref b317), .val (.ref b355), .unset] [(.int (if own_pt c2 then 1 else 0))])
          by_cases hq402 : own_pt c2
          · skip
            rw [if_pos hq402]
            show Go p e below _ T394 (mkF m 145 #[.val (.int p0), .val (.int p1), .val (.int p2), .val (.int p3), .val (.int p4), .val (.int (4 : Int32)), .val (.int c0), .val (.int c1), .val (.int c2), .val (.int c3), .val (.ref b317), .val (.ref b355), .unset] [(.int (1 : Int32))])
            refine Go.of (fun _ => XS.ifNo H395.here hx rfl (hb hby at_145) rfl ((if0 _ _).trans (feq (by decide : ¬ ((1 : Int32) = (0 : Int32)))).1)) ?_
            show Go p e below _ T394 (mkF m 148 #[.val (.int p0), .val (.int p1), .val (.int p2), .val (.int p3), .val (.int p4), .val (.int (4 : Int32)), .val (.int c0), .val (.int c1), .val (.int c2), .val (.int c3), .val (.ref b317), .val (.ref b355), .unset] [])
            refine Go.of (fun _ => XS.iload H395.here hx rfl (hb hby at_148) rfl) ?_
            show Go p e below _ T394 (mkF m 150 #[.val (.int p0), .val (.int p1), .val (.int p2), .val (.int p3), .val (.int p4), .val (.int (4 : Int32)), .val (.int c0), .val (.int c1), .val (.int c2), .val (.int c3), .val (.ref b317), .val (.ref b355), .unset] [(.int (4 : Int32))])
            refine Go.of (fun _ => XS.iconst H395.here hx rfl (hb hby at_150)) ?_
            show Go p e below _ T394 (mkF m 151 #[.val (.int p0), .val (.int p1), .val (.int p2), .val (.int p3), .val (.int p4), .val (.int (4 : Int32)), .val (.int c0), .val (.int c1), .val (.int c2), .val (.int c3), .val (.ref b317), .val (.ref b355), .unset] [(.int (4 : Int32)), (.int (4 : Int32))])
            refine Go.of (fun _ => XS.icmpNo H395.here hx rfl (hb hby at_151) rfl (flt (by decide : ¬ ((4 : Int32) < (4 : Int32)))).1) ?_
            show Go p e below _ T394 (mkF m 154 #[.val (.int p0), .val (.int p1), .val (.int p2), .val (.int p3), .val (.int p4), .val (.int (4 : Int32)), .val (.int c0), .val (.int c1), .val (.int c2), .val (.int c3), .val (.ref b317), .val (.ref b355), .unset] [])
            refine Go.of (fun _ => XS.iload H395.here hx rfl (hb hby at_154) rfl) ?_
            show Go p e below _ T394 (mkF m 156 #[.val (.int p0), .val (.int p1), .val (.int p2), .val (.int p3), .val (.int p4), .val (.int (4 : Int32)), .val (.int c0), .val (.int c1), .val (.int c2), .val (.int c3), .val (.ref b317), .val (.ref b355), .unset] [(.int c3)])
            refine own_staticW H395 hx (y := (⟨"com/example/entitled/entitled/lang/LexerIsNamePinLaw", "partOk", "(I)Z"⟩ : MethodName)) hown (ow hw 105 rfl) (ow hw 106 rfl) (ow hw 46 rfl) (ow hw 107 rfl) (by decide) (W := 0) (rm_pok l Z a0 hw hE c3 h368 H395.old ) (fun _ hq => nomatch hq) (by decide) (by decide) rfl (by rw [hml]; rfl) (argsL := [(.int c3)]) (rest := []) rfl (lenOf pd_13 rfl) rfl (by show 2 * 0 + _ ≤ _; exact Nat.le_of_eq rfl) (hb hby at_156) (by decide) (by decide) fun T403 h405 v407 H404 hs408 q406 => ?_
            obtain ⟨ve410, e409⟩ := q406
            subst e409
            subst ve410
            show Go p e below _ T403 (mkF m 159 #[.val (.int p0), .val (.int p1), .val (.int p2), .val (.int p3), .val (.int p4), .val (.int (4 : Int32)), .val (.int c0), .val (.int c1), .val (.int c2), .val (.int c3), .val (.ref b317), .val (.ref b355), .unset] [(.int (if own_pt c3 then 1 else 0))])
            by_cases hq411 : own_pt c3
            · skip
              rw [if_pos hq411]
              show Go p e below _ T403 (mkF m 159 #[.val (.int p0), .val (.int p1), .val (.int p2), .val (.int p3), .val (.int p4), .val (.int (4 : Int32)), .val (.int c0), .val (.int c1), .val (.int c2), .val (.int c3), .val (.ref b317), .val (.ref b355), .unset] [(.int (1 : Int32))])
              refine Go.of (fun _ => XS.ifNo H404.here hx rfl (hb hby at_159) rfl ((if0 _ _).trans (feq (by decide : ¬ ((1 : Int32) = (0 : Int32)))).1)) ?_
              show Go p e below _ T403 (mkF m 162 #[.val (.int p0), .val (.int p1), .val (.int p2), .val (.int p3), .val (.int p4), .val (.int (4 : Int32)), .val (.int c0), .val (.int c1), .val (.int c2), .val (.int c3), .val (.ref b317), .val (.ref b355), .unset] [])
              refine Go.of (fun _ => XS.iconst H404.here hx rfl (hb hby at_162)) ?_
              show Go p e below _ T403 (mkF m 163 #[.val (.int p0), .val (.int p1), .val (.int p2), .val (.int p3), .val (.int p4), .val (.int (4 : Int32)), .val (.int c0), .val (.int c1), .val (.int c2), .val (.int c3), .val (.ref b317), .val (.ref b355), .unset] [(.int (1 : Int32))])
              refine Go.of (fun _ => XS.goto H404.here hx rfl (pc0 := 163) (pc' := 167) rfl (hb hby at_163) (by decide) (by decide)) ?_
              show Go p e below _ T403 (mkF m 167 #[.val (.int p0), .val (.int p1), .val (.int p2), .val (.int p3), .val (.int p4), .val (.int (4 : Int32)), .val (.int c0), .val (.int c1), .val (.int c2), .val (.int c3), .val (.ref b317), .val (.ref b355), .unset] [(.int (1 : Int32))])
              refine Go.of (fun _ => XS.istore H404.here hx rfl (hb hby at_167) rfl (l' := #[.val (.int p0), .val (.int p1), .val (.int p2), .val (.int p3), .val (.int p4), .val (.int (4 : Int32)), .val (.int c0), .val (.int c1), .val (.int c2), .val (.int c3), .val (.ref b317), .val (.ref b355), .val (.int (1 : Int32))]) rfl) ?_
              show Go p e below _ T403 (mkF m 169 #[.val (.int p0), .val (.int p1), .val (.int p2), .val (.int p3), .val (.int p4), .val (.int (4 : Int32)), .val (.int c0), .val (.int c1), .val (.int c2), .val (.int c3), .val (.ref b317), .val (.ref b355), .val (.int (1 : Int32))] [])
              refine Go.of (fun _ => XS.aload H404.here hx rfl (hb hby at_169) rfl rfl) ?_
              show Go p e below _ T403 (mkF m 171 #[.val (.int p0), .val (.int p1), .val (.int p2), .val (.int p3), .val (.int p4), .val (.int (4 : Int32)), .val (.int c0), .val (.int c1), .val (.int c2), .val (.int c3), .val (.ref b317), .val (.ref b355), .val (.int (1 : Int32))] [(.ref b355)])
              refine own_staticW H404 hx (y := (⟨"com/example/entitled/entitled/lang/Lexer", "isName", "(Ljava/lang/String;)Z"⟩ : MethodName)) hown (ow hw 24 rfl) (ow hw 25 rfl) (ow hw 26 rfl) (ow hw 27 rfl) (by decide) (W := 0) (rm_inm l Z a0 hw hE b355 ([c0, c1, c2, c3] : List Int32) 4 zc fm h368 H404.old SS (by simp) rfl SC hzc SF hfm SA SHB SLB) (fun _ hq => nomatch hq) (by decide) (by decide) rfl (by rw [hml]; rfl) (argsL := [(.ref b355)]) (rest := []) rfl (lenOf pd_16 rfl) rfl (by show 2 * 0 + _ ≤ _; exact Nat.le_of_eq rfl) (hb hby at_171) (by decide) (by decide) fun T412 h414 v416 H413 hs417 q415 => ?_
              obtain ⟨ve419, e418⟩ := q415
              subst e418
              subst ve419
              show Go p e below _ T412 (mkF m 174 #[.val (.int p0), .val (.int p1), .val (.int p2), .val (.int p3), .val (.int p4), .val (.int (4 : Int32)), .val (.int c0), .val (.int c1), .val (.int c2), .val (.int c3), .val (.ref b317), .val (.ref b355), .val (.int (1 : Int32))] [(.int (if own_isn ([c0, c1, c2, c3] : List Int32) then 1 else 0))])
              rw [if_pos (show own_isn ([c0, c1, c2, c3] : List Int32) from ⟨(by simp), hq384, (allC hq393 (allC hq402 (allC hq411 all0c)))⟩)]
              show Go p e below _ T412 (mkF m 174 #[.val (.int p0), .val (.int p1), .val (.int p2), .val (.int p3), .val (.int p4), .val (.int (4 : Int32)), .val (.int c0), .val (.int c1), .val (.int c2), .val (.int c3), .val (.ref b317), .val (.ref b355), .val (.int (1 : Int32))] [(.int (1 : Int32))])
              refine Go.of (fun _ => XS.iload H413.here hx rfl (hb hby at_174) rfl) ?_
              show Go p e below _ T412 (mkF m 176 #[.val (.int p0), .val (.int p1), .val (.int p2), .val (.int p3), .val (.int p4), .val (.int (4 : Int32)), .val (.int c0), .val (.int c1), .val (.int c2), .val (.int c3), .val (.ref b317), .val (.ref b355), .val (.int (1 : Int32))] [(.int (1 : Int32)), (.int (1 : Int32))])
              refine Go.of (fun _ => XS.icmpNo H413.here hx rfl (hb hby at_176) rfl (teq (by decide : (1 : Int32) = (1 : Int32))).2) ?_
              show Go p e below _ T412 (mkF m 179 #[.val (.int p0), .val (.int p1), .val (.int p2), .val (.int p3), .val (.int p4), .val (.int (4 : Int32)), .val (.int c0), .val (.int c1), .val (.int c2), .val (.int c3), .val (.ref b317), .val (.ref b355), .val (.int (1 : Int32))] [])
              refine Go.of (fun _ => XS.iconst H413.here hx rfl (hb hby at_179)) ?_
              show Go p e below _ T412 (mkF m 180 #[.val (.int p0), .val (.int p1), .val (.int p2), .val (.int p3), .val (.int p4), .val (.int (4 : Int32)), .val (.int c0), .val (.int c1), .val (.int c2), .val (.int c3), .val (.ref b317), .val (.ref b355), .val (.int (1 : Int32))] [(.int (1 : Int32))])
              refine Go.of (fun _ => XS.goto H413.here hx rfl (pc0 := 180) (pc' := 184) rfl (hb hby at_180) (by decide) (by decide)) ?_
              show Go p e below _ T412 (mkF m 184 #[.val (.int p0), .val (.int p1), .val (.int p2), .val (.int p3), .val (.int p4), .val (.int (4 : Int32)), .val (.int c0), .val (.int c1), .val (.int c2), .val (.int c3), .val (.ref b317), .val (.ref b355), .val (.int (1 : Int32))] [(.int (1 : Int32))])
              exact own_retN H413 hx hlk (t := .boolean) hret (by simp) (hb hby at_184) all0 rfl (by decide) (by decide)
            · skip
              rw [if_neg hq411]
              show Go p e below _ T403 (mkF m 159 #[.val (.int p0), .val (.int p1), .val (.int p2), .val (.int p3), .val (.int p4), .val (.int (4 : Int32)), .val (.int c0), .val (.int c1), .val (.int c2), .val (.int c3), .val (.ref b317), .val (.ref b355), .unset] [(.int (0 : Int32))])
              refine Go.of (fun _ => XS.ifYes H404.here hx rfl (pc0 := 159) (pc' := 166) rfl (hb hby at_159) rfl ((if0 _ _).trans (teq (by decide : (0 : Int32) = (0 : Int32))).1) (by decide) (by decide)) ?_
              show Go p e below _ T403 (mkF m 166 #[.val (.int p0), .val (.int p1), .val (.int p2), .val (.int p3), .val (.int p4), .val (.int (4 : Int32)), .val (.int c0), .val (.int c1), .val (.int c2), .val (.int c3), .val (.ref b317), .val (.ref b355), .unset] [])
              refine Go.of (fun _ => XS.iconst H404.here hx rfl (hb hby at_166)) ?_
              show Go p e below _ T403 (mkF m 167 #[.val (.int p0), .val (.int p1), .val (.int p2), .val (.int p3), .val (.int p4), .val (.int (4 : Int32)), .val (.int c0), .val (.int c1), .val (.int c2), .val (.int c3), .val (.ref b317), .val (.ref b355), .unset] [(.int (0 : Int32))])
              refine Go.of (fun _ => XS.istore H404.here hx rfl (hb hby at_167) rfl (l' := #[.val (.int p0), .val (.int p1), .val (.int p2), .val (.int p3), .val (.int p4), .val (.int (4 : Int32)), .val (.int c0), .val (.int c1), .val (.int c2), .val (.int c3), .val (.ref b317), .val (.ref b355), .val (.int (0 : Int32))]) rfl) ?_
              show Go p e below _ T403 (mkF m 169 #[.val (.int p0), .val (.int p1), .val (.int p2), .val (.int p3), .val (.int p4), .val (.int (4 : Int32)), .val (.int c0), .val (.int c1), .val (.int c2), .val (.int c3), .val (.ref b317), .val (.ref b355), .val (.int (0 : Int32))] [])
              refine Go.of (fun _ => XS.aload H404.here hx rfl (hb hby at_169) rfl rfl) ?_
              show Go p e below _ T403 (mkF m 171 #[.val (.int p0), .val (.int p1), .val (.int p2), .val (.int p3), .val (.int p4), .val (.int (4 : Int32)), .val (.int c0), .val (.int c1), .val (.int c2), .val (.int c3), .val (.ref b317), .val (.ref b355), .val (.int (0 : Int32))] [(.ref b355)])
              refine own_staticW H404 hx (y := (⟨"com/example/entitled/entitled/lang/Lexer", "isName", "(Ljava/lang/String;)Z"⟩ : MethodName)) hown (ow hw 24 rfl) (ow hw 25 rfl) (ow hw 26 rfl) (ow hw 27 rfl) (by decide) (W := 0) (rm_inm l Z a0 hw hE b355 ([c0, c1, c2, c3] : List Int32) 4 zc fm h368 H404.old SS (by simp) rfl SC hzc SF hfm SA SHB SLB) (fun _ hq => nomatch hq) (by decide) (by decide) rfl (by rw [hml]; rfl) (argsL := [(.ref b355)]) (rest := []) rfl (lenOf pd_16 rfl) rfl (by show 2 * 0 + _ ≤ _; exact Nat.le_of_eq rfl) (hb hby at_171) (by decide) (by decide) fun T420 h422 v424 H421 hs425 q423 => ?_
              obtain ⟨ve427, e426⟩ := q423
              subst e426
              subst ve427
              show Go p e below _ T420 (mkF m 174 #[.val (.int p0), .val (.int p1), .val (.int p2), .val (.int p3), .val (.int p4), .val (.int (4 : Int32)), .val (.int c0), .val (.int c1), .val (.int c2), .val (.int c3), .val (.ref b317), .val (.ref b355), .val (.int (0 : Int32))] [(.int (if own_isn ([c0, c1, c2, c3] : List Int32) then 1 else 0))])
              rw [if_neg (show ¬ own_isn ([c0, c1, c2, c3] : List Int32) from (fun q => hq411 (q.2.2 _ (List.mem_of_getElem? (i := 2) rfl))))]
              show Go p e below _ T420 (mkF m 174 #[.val (.int p0), .val (.int p1), .val (.int p2), .val (.int p3), .val (.int p4), .val (.int (4 : Int32)), .val (.int c0), .val (.int c1), .val (.int c2), .val (.int c3), .val (.ref b317), .val (.ref b355), .val (.int (0 : Int32))] [(.int (0 : Int32))])
              refine Go.of (fun _ => XS.iload H421.here hx rfl (hb hby at_174) rfl) ?_
              show Go p e below _ T420 (mkF m 176 #[.val (.int p0), .val (.int p1), .val (.int p2), .val (.int p3), .val (.int p4), .val (.int (4 : Int32)), .val (.int c0), .val (.int c1), .val (.int c2), .val (.int c3), .val (.ref b317), .val (.ref b355), .val (.int (0 : Int32))] [(.int (0 : Int32)), (.int (0 : Int32))])
              refine Go.of (fun _ => XS.icmpNo H421.here hx rfl (hb hby at_176) rfl (teq (by decide : (0 : Int32) = (0 : Int32))).2) ?_
              show Go p e below _ T420 (mkF m 179 #[.val (.int p0), .val (.int p1), .val (.int p2), .val (.int p3), .val (.int p4), .val (.int (4 : Int32)), .val (.int c0), .val (.int c1), .val (.int c2), .val (.int c3), .val (.ref b317), .val (.ref b355), .val (.int (0 : Int32))] [])
              refine Go.of (fun _ => XS.iconst H421.here hx rfl (hb hby at_179)) ?_
              show Go p e below _ T420 (mkF m 180 #[.val (.int p0), .val (.int p1), .val (.int p2), .val (.int p3), .val (.int p4), .val (.int (4 : Int32)), .val (.int c0), .val (.int c1), .val (.int c2), .val (.int c3), .val (.ref b317), .val (.ref b355), .val (.int (0 : Int32))] [(.int (1 : Int32))])
              refine Go.of (fun _ => XS.goto H421.here hx rfl (pc0 := 180) (pc' := 184) rfl (hb hby at_180) (by decide) (by decide)) ?_
              show Go p e below _ T420 (mkF m 184 #[.val (.int p0), .val (.int p1), .val (.int p2), .val (.int p3), .val (.int p4), .val (.int (4 : Int32)), .val (.int c0), .val (.int c1), .val (.int c2), .val (.int c3), .val (.ref b317), .val (.ref b355), .val (.int (0 : Int32))] [(.int (1 : Int32))])
              exact own_retN H421 hx hlk (t := .boolean) hret (by simp) (hb hby at_184) all0 rfl (by decide) (by decide)
          · skip
            rw [if_neg hq402]
            show Go p e below _ T394 (mkF m 145 #[.val (.int p0), .val (.int p1), .val (.int p2), .val (.int p3), .val (.int p4), .val (.int (4 : Int32)), .val (.int c0), .val (.int c1), .val (.int c2), .val (.int c3), .val (.ref b317), .val (.ref b355), .unset] [(.int (0 : Int32))])
            refine Go.of (fun _ => XS.ifYes H395.here hx rfl (pc0 := 145) (pc' := 166) rfl (hb hby at_145) rfl ((if0 _ _).trans (teq (by decide : (0 : Int32) = (0 : Int32))).1) (by decide) (by decide)) ?_
            show Go p e below _ T394 (mkF m 166 #[.val (.int p0), .val (.int p1), .val (.int p2), .val (.int p3), .val (.int p4), .val (.int (4 : Int32)), .val (.int c0), .val (.int c1), .val (.int c2), .val (.int c3), .val (.ref b317), .val (.ref b355), .unset] [])
            refine Go.of (fun _ => XS.iconst H395.here hx rfl (hb hby at_166)) ?_
            show Go p e below _ T394 (mkF m 167 #[.val (.int p0), .val (.int p1), .val (.int p2), .val (.int p3), .val (.int p4), .val (.int (4 : Int32)), .val (.int c0), .val (.int c1), .val (.int c2), .val (.int c3), .val (.ref b317), .val (.ref b355), .unset] [(.int (0 : Int32))])
            refine Go.of (fun _ => XS.istore H395.here hx rfl (hb hby at_167) rfl (l' := #[.val (.int p0), .val (.int p1), .val (.int p2), .val (.int p3), .val (.int p4), .val (.int (4 : Int32)), .val (.int c0), .val (.int c1), .val (.int c2), .val (.int c3), .val (.ref b317), .val (.ref b355), .val (.int (0 : Int32))]) rfl) ?_
            show Go p e below _ T394 (mkF m 169 #[.val (.int p0), .val (.int p1), .val (.int p2), .val (.int p3), .val (.int p4), .val (.int (4 : Int32)), .val (.int c0), .val (.int c1), .val (.int c2), .val (.int c3), .val (.ref b317), .val (.ref b355), .val (.int (0 : Int32))] [])
            refine Go.of (fun _ => XS.aload H395.here hx rfl (hb hby at_169) rfl rfl) ?_
            show Go p e below _ T394 (mkF m 171 #[.val (.int p0), .val (.int p1), .val (.int p2), .val (.int p3), .val (.int p4), .val (.int (4 : Int32)), .val (.int c0), .val (.int c1), .val (.int c2), .val (.int c3), .val (.ref b317), .val (.ref b355), .val (.int (0 : Int32))] [(.ref b355)])
            refine own_staticW H395 hx (y := (⟨"com/example/entitled/entitled/lang/Lexer", "isName", "(Ljava/lang/String;)Z"⟩ : MethodName)) hown (ow hw 24 rfl) (ow hw 25 rfl) (ow hw 26 rfl) (ow hw 27 rfl) (by decide) (W := 0) (rm_inm l Z a0 hw hE b355 ([c0, c1, c2, c3] : List Int32) 4 zc fm h368 H395.old SS (by simp) rfl SC hzc SF hfm SA SHB SLB) (fun _ hq => nomatch hq) (by decide) (by decide) rfl (by rw [hml]; rfl) (argsL := [(.ref b355)]) (rest := []) rfl (lenOf pd_16 rfl) rfl (by show 2 * 0 + _ ≤ _; exact Nat.le_of_eq rfl) (hb hby at_171) (by decide) (by decide) fun T428 h430 v432 H429 hs433 q431 => ?_
            obtain ⟨ve435, e434⟩ := q431
            subst e434
            subst ve435
            show Go p e below _ T428 (mkF m 174 #[.val (.int p0), .val (.int p1), .val (.int p2), .val (.int p3), .val (.int p4), .val (.int (4 : Int32)), .val (.int c0), .val (.int c1), .val (.int c2), .val (.int c3), .val (.ref b317), .val (.ref b355), .val (.int (0 : Int32))] [(.int (if own_isn ([c0, c1, c2, c3] : List Int32) then 1 else 0))])
            rw [if_neg (show ¬ own_isn ([c0, c1, c2, c3] : List Int32) from (fun q => hq402 (q.2.2 _ (List.mem_of_getElem? (i := 1) rfl))))]
            show Go p e below _ T428 (mkF m 174 #[.val (.int p0), .val (.int p1), .val (.int p2), .val (.int p3), .val (.int p4), .val (.int (4 : Int32)), .val (.int c0), .val (.int c1), .val (.int c2), .val (.int c3), .val (.ref b317), .val (.ref b355), .val (.int (0 : Int32))] [(.int (0 : Int32))])
            refine Go.of (fun _ => XS.iload H429.here hx rfl (hb hby at_174) rfl) ?_
            show Go p e below _ T428 (mkF m 176 #[.val (.int p0), .val (.int p1), .val (.int p2), .val (.int p3), .val (.int p4), .val (.int (4 : Int32)), .val (.int c0), .val (.int c1), .val (.int c2), .val (.int c3), .val (.ref b317), .val (.ref b355), .val (.int (0 : Int32))] [(.int (0 : Int32)), (.int (0 : Int32))])
            refine Go.of (fun _ => XS.icmpNo H429.here hx rfl (hb hby at_176) rfl (teq (by decide : (0 : Int32) = (0 : Int32))).2) ?_
            show Go p e below _ T428 (mkF m 179 #[.val (.int p0), .val (.int p1), .val (.int p2), .val (.int p3), .val (.int p4), .val (.int (4 : Int32)), .val (.int c0), .val (.int c1), .val (.int c2), .val (.int c3), .val (.ref b317), .val (.ref b355), .val (.int (0 : Int32))] [])
            refine Go.of (fun _ => XS.iconst H429.here hx rfl (hb hby at_179)) ?_
            show Go p e below _ T428 (mkF m 180 #[.val (.int p0), .val (.int p1), .val (.int p2), .val (.int p3), .val (.int p4), .val (.int (4 : Int32)), .val (.int c0), .val (.int c1), .val (.int c2), .val (.int c3), .val (.ref b317), .val (.ref b355), .val (.int (0 : Int32))] [(.int (1 : Int32))])
            refine Go.of (fun _ => XS.goto H429.here hx rfl (pc0 := 180) (pc' := 184) rfl (hb hby at_180) (by decide) (by decide)) ?_
            show Go p e below _ T428 (mkF m 184 #[.val (.int p0), .val (.int p1), .val (.int p2), .val (.int p3), .val (.int p4), .val (.int (4 : Int32)), .val (.int c0), .val (.int c1), .val (.int c2), .val (.int c3), .val (.ref b317), .val (.ref b355), .val (.int (0 : Int32))] [(.int (1 : Int32))])
            exact own_retN H429 hx hlk (t := .boolean) hret (by simp) (hb hby at_184) all0 rfl (by decide) (by decide)
        · skip
          rw [if_neg hq393]
          show Go p e below _ T385 (mkF m 131 #[.val (.int p0), .val (.int p1), .val (.int p2), .val (.int p3), .val (.int p4), .val (.int (4 : Int32)), .val (.int c0), .val (.int c1), .val (.int c2), .val (.int c3), .val (.ref b317), .val (.ref b355), .unset] [(.int (0 : Int32))])
          refine Go.of (fun _ => XS.ifYes H386.here hx rfl (pc0 := 131) (pc' := 166) rfl (hb hby at_131) rfl ((if0 _ _).trans (teq (by decide : (0 : Int32) = (0 : Int32))).1) (by decide) (by decide)) ?_
          show Go p e below _ T385 (mkF m 166 #[.val (.int p0), .val (.int p1), .val (.int p2), .val (.int p3), .val (.int p4), .val (.int (4 : Int32)), .val (.int c0), .val (.int c1), .val (.int c2), .val (.int c3), .val (.ref b317), .val (.ref b355), .unset] [])
          refine Go.of (fun _ => XS.iconst H386.here hx rfl (hb hby at_166)) ?_
          show Go p e below _ T385 (mkF m 167 #[.val (.int p0), .val (.int p1), .val (.int p2), .val (.int p3), .val (.int p4), .val (.int (4 : Int32)), .val (.int c0), .val (.int c1), .val (.int c2), .val (.int c3), .val (.ref b317), .val (.ref b355), .unset] [(.int (0 : Int32))])
          refine Go.of (fun _ => XS.istore H386.here hx rfl (hb hby at_167) rfl (l' := #[.val (.int p0), .val (.int p1), .val (.int p2), .val (.int p3), .val (.int p4), .val (.int (4 : Int32)), .val (.int c0), .val (.int c1), .val (.int c2), .val (.int c3), .val (.ref b317), .val (.ref b355), .val (.int (0 : Int32))]) rfl) ?_
          show Go p e below _ T385 (mkF m 169 #[.val (.int p0), .val (.int p1), .val (.int p2), .val (.int p3), .val (.int p4), .val (.int (4 : Int32)), .val (.int c0), .val (.int c1), .val (.int c2), .val (.int c3), .val (.ref b317), .val (.ref b355), .val (.int (0 : Int32))] [])
          refine Go.of (fun _ => XS.aload H386.here hx rfl (hb hby at_169) rfl rfl) ?_
          show Go p e below _ T385 (mkF m 171 #[.val (.int p0), .val (.int p1), .val (.int p2), .val (.int p3), .val (.int p4), .val (.int (4 : Int32)), .val (.int c0), .val (.int c1), .val (.int c2), .val (.int c3), .val (.ref b317), .val (.ref b355), .val (.int (0 : Int32))] [(.ref b355)])
          refine own_staticW H386 hx (y := (⟨"com/example/entitled/entitled/lang/Lexer", "isName", "(Ljava/lang/String;)Z"⟩ : MethodName)) hown (ow hw 24 rfl) (ow hw 25 rfl) (ow hw 26 rfl) (ow hw 27 rfl) (by decide) (W := 0) (rm_inm l Z a0 hw hE b355 ([c0, c1, c2, c3] : List Int32) 4 zc fm h368 H386.old SS (by simp) rfl SC hzc SF hfm SA SHB SLB) (fun _ hq => nomatch hq) (by decide) (by decide) rfl (by rw [hml]; rfl) (argsL := [(.ref b355)]) (rest := []) rfl (lenOf pd_16 rfl) rfl (by show 2 * 0 + _ ≤ _; exact Nat.le_of_eq rfl) (hb hby at_171) (by decide) (by decide) fun T436 h438 v440 H437 hs441 q439 => ?_
          obtain ⟨ve443, e442⟩ := q439
          subst e442
          subst ve443
          show Go p e below _ T436 (mkF m 174 #[.val (.int p0), .val (.int p1), .val (.int p2), .val (.int p3), .val (.int p4), .val (.int (4 : Int32)), .val (.int c0), .val (.int c1), .val (.int c2), .val (.int c3), .val (.ref b317), .val (.ref b355), .val (.int (0 : Int32))] [(.int (if own_isn ([c0, c1, c2, c3] : List Int32) then 1 else 0))])
          rw [if_neg (show ¬ own_isn ([c0, c1, c2, c3] : List Int32) from (fun q => hq393 (q.2.2 _ (List.mem_of_getElem? (i := 0) rfl))))]
          show Go p e below _ T436 (mkF m 174 #[.val (.int p0), .val (.int p1), .val (.int p2), .val (.int p3), .val (.int p4), .val (.int (4 : Int32)), .val (.int c0), .val (.int c1), .val (.int c2), .val (.int c3), .val (.ref b317), .val (.ref b355), .val (.int (0 : Int32))] [(.int (0 : Int32))])
          refine Go.of (fun _ => XS.iload H437.here hx rfl (hb hby at_174) rfl) ?_
          show Go p e below _ T436 (mkF m 176 #[.val (.int p0), .val (.int p1), .val (.int p2), .val (.int p3), .val (.int p4), .val (.int (4 : Int32)), .val (.int c0), .val (.int c1), .val (.int c2), .val (.int c3), .val (.ref b317), .val (.ref b355), .val (.int (0 : Int32))] [(.int (0 : Int32)), (.int (0 : Int32))])
          refine Go.of (fun _ => XS.icmpNo H437.here hx rfl (hb hby at_176) rfl (teq (by decide : (0 : Int32) = (0 : Int32))).2) ?_
          show Go p e below _ T436 (mkF m 179 #[.val (.int p0), .val (.int p1), .val (.int p2), .val (.int p3), .val (.int p4), .val (.int (4 : Int32)), .val (.int c0), .val (.int c1), .val (.int c2), .val (.int c3), .val (.ref b317), .val (.ref b355), .val (.int (0 : Int32))] [])
          refine Go.of (fun _ => XS.iconst H437.here hx rfl (hb hby at_179)) ?_
          show Go p e below _ T436 (mkF m 180 #[.val (.int p0), .val (.int p1), .val (.int p2), .val (.int p3), .val (.int p4), .val (.int (4 : Int32)), .val (.int c0), .val (.int c1), .val (.int c2), .val (.int c3), .val (.ref b317), .val (.ref b355), .val (.int (0 : Int32))] [(.int (1 : Int32))])
          refine Go.of (fun _ => XS.goto H437.here hx rfl (pc0 := 180) (pc' := 184) rfl (hb hby at_180) (by decide) (by decide)) ?_
          show Go p e below _ T436 (mkF m 184 #[.val (.int p0), .val (.int p1), .val (.int p2), .val (.int p3), .val (.int p4), .val (.int (4 : Int32)), .val (.int c0), .val (.int c1), .val (.int c2), .val (.int c3), .val (.ref b317), .val (.ref b355), .val (.int (0 : Int32))] [(.int (1 : Int32))])
          exact own_retN H437 hx hlk (t := .boolean) hret (by simp) (hb hby at_184) all0 rfl (by decide) (by decide)
      · skip
        rw [if_neg hq384]
        show Go p e below _ T376 (mkF m 117 #[.val (.int p0), .val (.int p1), .val (.int p2), .val (.int p3), .val (.int p4), .val (.int (4 : Int32)), .val (.int c0), .val (.int c1), .val (.int c2), .val (.int c3), .val (.ref b317), .val (.ref b355), .unset] [(.int (0 : Int32))])
        refine Go.of (fun _ => XS.ifYes H377.here hx rfl (pc0 := 117) (pc' := 166) rfl (hb hby at_117) rfl ((if0 _ _).trans (teq (by decide : (0 : Int32) = (0 : Int32))).1) (by decide) (by decide)) ?_
        show Go p e below _ T376 (mkF m 166 #[.val (.int p0), .val (.int p1), .val (.int p2), .val (.int p3), .val (.int p4), .val (.int (4 : Int32)), .val (.int c0), .val (.int c1), .val (.int c2), .val (.int c3), .val (.ref b317), .val (.ref b355), .unset] [])
        refine Go.of (fun _ => XS.iconst H377.here hx rfl (hb hby at_166)) ?_
        show Go p e below _ T376 (mkF m 167 #[.val (.int p0), .val (.int p1), .val (.int p2), .val (.int p3), .val (.int p4), .val (.int (4 : Int32)), .val (.int c0), .val (.int c1), .val (.int c2), .val (.int c3), .val (.ref b317), .val (.ref b355), .unset] [(.int (0 : Int32))])
        refine Go.of (fun _ => XS.istore H377.here hx rfl (hb hby at_167) rfl (l' := #[.val (.int p0), .val (.int p1), .val (.int p2), .val (.int p3), .val (.int p4), .val (.int (4 : Int32)), .val (.int c0), .val (.int c1), .val (.int c2), .val (.int c3), .val (.ref b317), .val (.ref b355), .val (.int (0 : Int32))]) rfl) ?_
        show Go p e below _ T376 (mkF m 169 #[.val (.int p0), .val (.int p1), .val (.int p2), .val (.int p3), .val (.int p4), .val (.int (4 : Int32)), .val (.int c0), .val (.int c1), .val (.int c2), .val (.int c3), .val (.ref b317), .val (.ref b355), .val (.int (0 : Int32))] [])
        refine Go.of (fun _ => XS.aload H377.here hx rfl (hb hby at_169) rfl rfl) ?_
        show Go p e below _ T376 (mkF m 171 #[.val (.int p0), .val (.int p1), .val (.int p2), .val (.int p3), .val (.int p4), .val (.int (4 : Int32)), .val (.int c0), .val (.int c1), .val (.int c2), .val (.int c3), .val (.ref b317), .val (.ref b355), .val (.int (0 : Int32))] [(.ref b355)])
        refine own_staticW H377 hx (y := (⟨"com/example/entitled/entitled/lang/Lexer", "isName", "(Ljava/lang/String;)Z"⟩ : MethodName)) hown (ow hw 24 rfl) (ow hw 25 rfl) (ow hw 26 rfl) (ow hw 27 rfl) (by decide) (W := 0) (rm_inm l Z a0 hw hE b355 ([c0, c1, c2, c3] : List Int32) 4 zc fm h368 H377.old SS (by simp) rfl SC hzc SF hfm SA SHB SLB) (fun _ hq => nomatch hq) (by decide) (by decide) rfl (by rw [hml]; rfl) (argsL := [(.ref b355)]) (rest := []) rfl (lenOf pd_16 rfl) rfl (by show 2 * 0 + _ ≤ _; exact Nat.le_of_eq rfl) (hb hby at_171) (by decide) (by decide) fun T444 h446 v448 H445 hs449 q447 => ?_
        obtain ⟨ve451, e450⟩ := q447
        subst e450
        subst ve451
        show Go p e below _ T444 (mkF m 174 #[.val (.int p0), .val (.int p1), .val (.int p2), .val (.int p3), .val (.int p4), .val (.int (4 : Int32)), .val (.int c0), .val (.int c1), .val (.int c2), .val (.int c3), .val (.ref b317), .val (.ref b355), .val (.int (0 : Int32))] [(.int (if own_isn ([c0, c1, c2, c3] : List Int32) then 1 else 0))])
        rw [if_neg (show ¬ own_isn ([c0, c1, c2, c3] : List Int32) from (fun q => hq384 q.2.1))]
        show Go p e below _ T444 (mkF m 174 #[.val (.int p0), .val (.int p1), .val (.int p2), .val (.int p3), .val (.int p4), .val (.int (4 : Int32)), .val (.int c0), .val (.int c1), .val (.int c2), .val (.int c3), .val (.ref b317), .val (.ref b355), .val (.int (0 : Int32))] [(.int (0 : Int32))])
        refine Go.of (fun _ => XS.iload H445.here hx rfl (hb hby at_174) rfl) ?_
        show Go p e below _ T444 (mkF m 176 #[.val (.int p0), .val (.int p1), .val (.int p2), .val (.int p3), .val (.int p4), .val (.int (4 : Int32)), .val (.int c0), .val (.int c1), .val (.int c2), .val (.int c3), .val (.ref b317), .val (.ref b355), .val (.int (0 : Int32))] [(.int (0 : Int32)), (.int (0 : Int32))])
        refine Go.of (fun _ => XS.icmpNo H445.here hx rfl (hb hby at_176) rfl (teq (by decide : (0 : Int32) = (0 : Int32))).2) ?_
        show Go p e below _ T444 (mkF m 179 #[.val (.int p0), .val (.int p1), .val (.int p2), .val (.int p3), .val (.int p4), .val (.int (4 : Int32)), .val (.int c0), .val (.int c1), .val (.int c2), .val (.int c3), .val (.ref b317), .val (.ref b355), .val (.int (0 : Int32))] [])
        refine Go.of (fun _ => XS.iconst H445.here hx rfl (hb hby at_179)) ?_
        show Go p e below _ T444 (mkF m 180 #[.val (.int p0), .val (.int p1), .val (.int p2), .val (.int p3), .val (.int p4), .val (.int (4 : Int32)), .val (.int c0), .val (.int c1), .val (.int c2), .val (.int c3), .val (.ref b317), .val (.ref b355), .val (.int (0 : Int32))] [(.int (1 : Int32))])
        refine Go.of (fun _ => XS.goto H445.here hx rfl (pc0 := 180) (pc' := 184) rfl (hb hby at_180) (by decide) (by decide)) ?_
        show Go p e below _ T444 (mkF m 184 #[.val (.int p0), .val (.int p1), .val (.int p2), .val (.int p3), .val (.int p4), .val (.int (4 : Int32)), .val (.int c0), .val (.int c1), .val (.int c2), .val (.int c3), .val (.ref b317), .val (.ref b355), .val (.int (0 : Int32))] [(.int (1 : Int32))])
        exact own_retN H445 hx hlk (t := .boolean) hret (by simp) (hb hby at_184) all0 rfl (by decide) (by decide)
  exact J37_1 ((p0 &&& (2147483647 : Int32)) % (5 : Int32)) ((p1 &&& (65535 : Int32)).toUInt32.toUInt16.toUInt32.toInt32) ((p2 &&& (65535 : Int32)).toUInt32.toUInt16.toUInt32.toInt32) ((p3 &&& (65535 : Int32)).toUInt32.toUInt16.toUInt32.toInt32) ((p4 &&& (65535 : Int32)).toUInt32.toUInt16.toUInt32.toInt32) (own_rng5 _) (own_c16 _) (own_c16 _) (own_c16 _) (own_c16 _)
set_option maxRecDepth 65536 in
set_option maxHeartbeats 40000000 in
theorem comes_1 {Post : Tables → Env → Array Value → State → Outcome → State → Prop} (hpost : ∀ tb e args s v u, (limb_1_1.after args s (.returned v) u = true ∧ limb_1_2.after args s (.returned v) u = true ∧ True) → ReturnedEndW s (.returned v) u (Jvm.fieldLocs frame_1_writes args s ++ Jvm.arrayLocs frame_1_arrays args s ++ Jvm.staticLocs frame_1_statics s) 24 1152 → Post tb e args s (.returned v) u) :
    ArmFor flags0 classFile x code maxLocals ret World_1 tables_1 room_1 Calls_1 rest_1 Pre_1 Post := by
  intro l hfl _ _ p e ha hc hk s m args below hf hA hF happ hP
  obtain ⟨hcalls, hrest, hpre⟩ := hP
  obtain ⟨-, -, -, hnamed, -, -, -, hat⟩ := (Spec.applies_iff hf).mp happ
  obtain ⟨hg, hn⟩ := and_e (Cond.before_iff.mp (show (Jvm.Cond.and given_1 narrow_1).before args s = true from hpre))
  obtain ⟨g0, gg0⟩ := and_e hg
  obtain ⟨g1, gg1⟩ := and_e gg0
  obtain ⟨g2, gg2⟩ := and_e gg1
  obtain ⟨g3, gg3⟩ := and_e gg2
  obtain ⟨g4, gg4⟩ := and_e gg3
  obtain ⟨u0, u1, u2, u3, u4, rfl⟩ : ∃ u0 u1 u2 u3 u4 : Value, args = #[u0, u1, u2, u3, u4] := by
    have hs : args.size = 5 := by simpa [Cond.value, given_1] using g0
    obtain ⟨L⟩ := args
    match L, hs with
    | [u0, u1, u2, u3, u4], _ => exact ⟨u0, u1, u2, u3, u4, rfl⟩
  have hw := fun d (hd : d ∈ tables_1) => atoms_spec (ws := Jvm.Cond.code x code maxLocals ret :: tables_1) hat d (List.mem_cons_of_mem _ hd)
  obtain ⟨i0, ei0⟩ := is_v g1
  obtain rfl : u0 = (.int i0) := Option.some.inj ei0
  obtain ⟨i1, ei1⟩ := is_v g2
  obtain rfl : u1 = (.int i1) := Option.some.inj ei1
  obtain ⟨i2, ei2⟩ := is_v g3
  obtain rfl : u2 = (.int i2) := Option.some.inj ei2
  obtain ⟨i3, ei3⟩ := is_v g4
  obtain rfl : u3 = (.int i3) := Option.some.inj ei3
  obtain ⟨i4, ei4⟩ := is_v gg4
  obtain rfl : u4 = (.int i4) := Option.some.inj ei4
  obtain ⟨hsets, hown0⟩ := atoms_of _ (rest_1_c_eq ▸ (show rest_1_c.before _ s = true from hrest))
  have n5 := not_v (Cond.before_iff.mp (hsets _ (List.mem_of_getElem? (i := 2) rfl)))
  obtain ⟨zc, ezc⟩ := is_v (Cond.before_iff.mp (hsets _ (List.mem_of_getElem? (i := 1) rfl)))
  have SC := Sta.start ezc (Or.inl (hsets _ (List.mem_of_getElem? (i := 0) rfl)))
  have hzc : ¬ (zc = (0 : Int32)) := gotF (Cond.eq_ints ezc (Term.int_eval (0))) n5
  obtain ⟨fm, efm, hfm⟩ := isR_v (Cond.before_iff.mp (hsets _ (List.mem_of_getElem? (i := 8) rfl)))
  have SF := Sta.start efm (Or.inl (hsets _ (List.mem_of_getElem? (i := 7) rfl)))
  have SA := Sta.start (eqv_i (Term.int_eval (1)) (Cond.before_iff.mp (hsets _ (List.mem_of_getElem? (i := 12) rfl)))) (Or.inl (hsets _ (List.mem_of_getElem? (i := 11) rfl)))
  have SHB := Sta.start (eqv_i (Term.int_eval (0)) (Cond.before_iff.mp (hsets _ (List.mem_of_getElem? (i := 15) rfl)))) (Or.inl (hsets _ (List.mem_of_getElem? (i := 14) rfl)))
  have SLB := Sta.start (eqv_i (Term.int_eval (8)) (Cond.before_iff.mp (hsets _ (List.mem_of_getElem? (i := 18) rfl)))) (Or.inl (hsets _ (List.mem_of_getElem? (i := 17) rfl)))
  have hE : EW s #[.int i0, .int i1, .int i2, .int i3, .int i4] ELx := own_hE hw
  have hC : CHv s ELx s.vm s.heap := own_start hE hcalls (hsets _ (List.mem_of_getElem? (i := 2) rfl)) (ow hw 17 rfl) (ow hw 4 rfl)
  obtain ⟨n, o, h1, h2, h3, _, L, rfl, ⟨N, -, -, rfl⟩, -, hq⟩ := rm_law l s _ hw hE i0 i1 i2 i3 i4 zc fm s.heap ⟨Nat.le_refl _, fun _ _ q => q⟩ SC hzc SF hfm SA SHB SLB p e ha hc hk s m _ below hf ((Spec.applies_iff_loose hf).mp happ).1 ⟨rfl, State.Warmed39.refl s, rfl, hC, (fun _ hq => nomatch hq)⟩ trivial
  have hq : ReturnedEndW s _ _ L room_1.cells room_1.slots := hq
  exact ⟨n, _, h1, h2, h3, hpost _ _ _ _ _ _ ⟨Cond.after_iff.mpr rfl, Cond.after_iff.mpr (eq_i res_at (Term.int_eval (1)) rfl), trivial⟩ ⟨hq.1, hq.2.1, hq.2.2.1, (hq.2.2.2.sift fun y hy => Or.inr (N y hy)).mono (by decide) (by decide)⟩⟩
theorem main_1_1 : Claimed_1_1 := comes_1 fun _ _ _ _ _ _ h hF => ⟨h.1, hF⟩
theorem main_1_2 : Claimed_1_2 := comes_1 fun _ _ _ _ _ _ h hF => ⟨h.2.1, hF⟩
end Jvm.Pilot.@@N@@
namespace Jvm.Pilot.@@N@@
open Jvm Jvm.ClassFile Sem Op Lib Jvm.Free Jvm.Stand Jvm.Pilot.@@N@@.Jvm.D
/-! MADE BY PROGRAM (witnessworld.py) out of the Statement's table words and the real class files: 20 classes; the members and pool entries that the words name. The judged class is class 1, her method 4. -/
namespace start1
open Jvm.ClassFile
def u (s : String) : CpInfo := .utf8 (stringToUtf16 s)
/-- a pool by its gaps: so many unusable entries, then the entry; so many at the end -/
def gap : Nat → List CpInfo → List CpInfo
  | 0, r => r
  | n + 1, r => .unusable :: gap n r
def poolList (es : List (Nat × CpInfo)) (last : Nat) : List CpInfo := es.foldr (fun e r => gap e.1 (e.2 :: r)) (gap last [])
def pool (es : List (Nat × CpInfo)) (last : Nat) : Array CpInfo := ⟨poolList es last⟩
def fileOf (pool : Array CpInfo) (this : Nat) (attrs : Array Attribute := #[]) (ms : Array MethodInfo := #[]) (fl : Nat := 33) (sup : Nat := 0) (ifs : Array Nat := #[]) (fds : Array FieldInfo := #[]) : ClassFile where
  minorVersion := 0
  majorVersion := 65
  constantPool := pool
  accessFlags := fl
  thisClass := this
  superClass := sup
  interfaces := ifs
  fields := fds
  methods := ms
  attributes := attrs
def plain (name : String) (sup : Option ClassId) : Class where
  name := name
  kind := .ordinary
  loader := none
  accessFlags := 33
  super := sup
  interfaces := #[]
  cf := none
  fields := #[]
  methods := #[]
  instanceTypes := #[]
  staticTypes := #[]
  resolved := #[]
  callSites := []
  init := .initialized
  statics := none
  mirror := none

def pool0 : Array CpInfo := pool [(5, u "<init>"), (0, u "()V"), (1, .class_ 10), (1, u "java/lang/Object")] 113

def k0c0 : Code := { maxStack := 0, maxLocals := 1, code := object_method_1_code, exceptionTable := #[], attributes := #[] }
def k0m0 : Method := { name := "<init>", desc := "()V", sig := { parameters := [], returnType := none }, accessFlags := 1, code := some k0c0 }
/-- java/lang/Object -/
def k0 : Class := { plain "java/lang/Object" none with
  accessFlags := 33
  interfaces := #[]
  cf := some (fileOf pool0 8 #[] #[{ accessFlags := 1, nameIndex := 5, descriptorIndex := 6, attributes := #[] }] 33 0 #[] #[])
  fields := #[]
  methods := #[k0m0]
  instanceTypes := #[]
  staticTypes := #[]
  resolved := Array.replicate 124 none
  statics := none }

def pool1 : Array CpInfo := pool [(2, .class_ 4), (1, u "java/lang/Object"), (0, u "<init>"), (0, u "()V"), (0, .methodref 8 9), (0, .class_ 10), (0, .nameAndType 11 12), (0, u "com/example/entitled/entitled/lang/LexerIsNamePinLaw"), (0, u "letter"), (0, u "(I)Z"), (0, .methodref 8 14), (0, .nameAndType 15 12), (0, u "startOk"), (0, .integer 2147483647), (0, .integer 65535), (0, .class_ 19), (0, u "java/lang/String"), (0, .methodref 18 21), (0, .nameAndType 5 22), (0, u "([C)V"), (0, .methodref 8 24), (0, .nameAndType 25 12), (0, u "partOk"), (0, .methodref 27 28), (0, .class_ 29), (0, .nameAndType 30 31), (0, u "com/example/entitled/entitled/lang/Lexer"), (0, u "isName"), (0, u "(Ljava/lang/String;)Z"), (3, u "law"), (0, u "(IIIII)Z")] 4

def k1m0 : Method := { name := "<init>", desc := "()V", sig := { parameters := [], returnType := none }, accessFlags := 1, code := none }
def k1c1 : Code := { maxStack := 2, maxLocals := 1, code := method_2_code, exceptionTable := #[], attributes := #[] }
def k1m1 : Method := { name := "letter", desc := "(I)Z", sig := { parameters := [.int], returnType := some .boolean }, accessFlags := 10, code := some k1c1 }
def k1c2 : Code := { maxStack := 2, maxLocals := 1, code := method_3_code, exceptionTable := #[], attributes := #[] }
def k1m2 : Method := { name := "startOk", desc := "(I)Z", sig := { parameters := [.int], returnType := some .boolean }, accessFlags := 10, code := some k1c2 }
def k1c3 : Code := { maxStack := 2, maxLocals := 1, code := method_4_code, exceptionTable := #[], attributes := #[] }
def k1m3 : Method := { name := "partOk", desc := "(I)Z", sig := { parameters := [.int], returnType := some .boolean }, accessFlags := 10, code := some k1c3 }
def k1c4 : Code := { maxStack := 3, maxLocals := 13, code := code, exceptionTable := #[], attributes := #[] }
def k1m4 : Method := { name := "law", desc := "(IIIII)Z", sig := { parameters := [.int, .int, .int, .int, .int], returnType := some .boolean }, accessFlags := 9, code := some k1c4 }
/-- com/example/entitled/entitled/lang/LexerIsNamePinLaw -/
def k1 : Class := { plain "com/example/entitled/entitled/lang/LexerIsNamePinLaw" (some 0) with
  accessFlags := 49
  interfaces := #[]
  cf := some (fileOf pool1 8 #[] #[{ accessFlags := 1, nameIndex := 5, descriptorIndex := 6, attributes := #[] }, { accessFlags := 10, nameIndex := 11, descriptorIndex := 12, attributes := #[] }, { accessFlags := 10, nameIndex := 15, descriptorIndex := 12, attributes := #[] }, { accessFlags := 10, nameIndex := 25, descriptorIndex := 12, attributes := #[] }, { accessFlags := 9, nameIndex := 35, descriptorIndex := 36, attributes := #[] }] 49 2 #[] #[])
  fields := #[]
  methods := #[k1m0, k1m1, k1m2, k1m3, k1m4]
  instanceTypes := #[]
  staticTypes := #[]
  resolved := Array.replicate 41 none
  statics := none }

def pool2 : Array CpInfo := pool [(1, .class_ 2), (0, u "java/io/Serializable"), (0, .class_ 4), (0, u "java/lang/Object")] 2

/-- java/io/Serializable -/
def k2 : Class := { plain "java/io/Serializable" (some 0) with
  accessFlags := 1537
  interfaces := #[]
  cf := some (fileOf pool2 1 #[] #[] 1537 3 #[] #[])
  fields := #[]
  methods := #[]
  instanceTypes := #[]
  staticTypes := #[]
  resolved := Array.replicate 7 none
  statics := none }

def pool3 : Array CpInfo := pool [(1, .class_ 2), (0, u "java/lang/Comparable"), (0, .class_ 4), (0, u "java/lang/Object")] 7

/-- java/lang/Comparable -/
def k3 : Class := { plain "java/lang/Comparable" (some 0) with
  accessFlags := 1537
  interfaces := #[]
  cf := some (fileOf pool3 1 #[] #[] 1537 3 #[] #[])
  fields := #[]
  methods := #[]
  instanceTypes := #[]
  staticTypes := #[]
  resolved := Array.replicate 12 none
  statics := none }

def pool4 : Array CpInfo := pool [(2, .class_ 4), (1, u "java/lang/CharSequence"), (42, .class_ 48), (0, u "java/lang/CharSequence$1CodePointIterator"), (10, .class_ 60), (0, u "java/lang/CharSequence$1CharIterator"), (5, .class_ 67), (0, u "java/lang/Object")] 63

/-- java/lang/CharSequence -/
def k4 : Class := { plain "java/lang/CharSequence" (some 0) with
  accessFlags := 1537
  interfaces := #[]
  cf := some (fileOf pool4 2 #[.nestMembers #[47, 59]] #[] 1537 66 #[] #[])
  fields := #[]
  methods := #[]
  instanceTypes := #[]
  staticTypes := #[]
  resolved := Array.replicate 131 none
  statics := none }

def pool5 : Array CpInfo := pool [(1, .class_ 2), (0, u "java/lang/constant/Constable"), (0, .class_ 4), (0, u "java/lang/Object")] 6

/-- java/lang/constant/Constable -/
def k5 : Class := { plain "java/lang/constant/Constable" (some 0) with
  accessFlags := 1537
  interfaces := #[]
  cf := some (fileOf pool5 1 #[] #[] 1537 3 #[] #[])
  fields := #[]
  methods := #[]
  instanceTypes := #[]
  staticTypes := #[]
  resolved := Array.replicate 11 none
  statics := none }

def pool6 : Array CpInfo := pool [(1, .class_ 2), (0, u "java/lang/constant/ConstantDesc"), (0, .class_ 4), (0, u "java/lang/Object")] 32

/-- java/lang/constant/ConstantDesc -/
def k6 : Class := { plain "java/lang/constant/ConstantDesc" (some 0) with
  accessFlags := 1537
  interfaces := #[]
  cf := some (fileOf pool6 1 #[] #[] 1537 3 #[] #[])
  fields := #[]
  methods := #[]
  instanceTypes := #[]
  staticTypes := #[]
  resolved := Array.replicate 37 none
  statics := none }

def pool7 : Array CpInfo := pool [(1, .methodref 2 3), (0, .class_ 4), (0, .nameAndType 5 6), (0, u "java/lang/Object"), (0, u "<init>"), (0, u "()V"), (0, .string 8), (0, u ""), (0, .fieldref 10 11), (0, .class_ 12), (0, .nameAndType 13 14), (0, u "java/lang/String"), (0, u "value"), (0, u "[B"), (0, .fieldref 10 16), (0, .nameAndType 17 18), (0, u "coder"), (0, u "B"), (2, u "hash"), (0, u "I"), (2, u "hashIsZero"), (0, u "Z"), (0, .methodref 10 28), (0, .nameAndType 5 29), (0, u "([CIILjava/lang/Void;)V"), (8, .fieldref 10 39), (0, .nameAndType 40 26), (0, u "COMPACT_STRINGS"), (1, .class_ 44), (1, u "java/lang/StringUTF16"), (0, u "compress"), (1, .methodref 42 48), (0, .nameAndType 49 50), (0, u "coderFromArrayLen"), (0, u "([BI)B"), (56, .class_ 109), (1, u "java/lang/StringLatin1"), (32, u "()Z"), (34, .methodref 42 178), (0, .nameAndType 45 179), (0, u "([CII)[B"), (154, u "()I"), (0, .methodref 10 336), (0, .nameAndType 17 337), (0, u "()B"), (25, u "([BI)C"), (27, u "(II)V"), (35, u "(I)C"), (64, .methodref 10 493), (0, .nameAndType 494 142), (0, u "isLatin1"), (0, .methodref 107 496), (0, .nameAndType 497 363), (0, u "charAt"), (0, .methodref 42 496), (2, u "checkIndex"), (5, u "length"), (67, .class_ 576), (0, u "java/lang/CharSequence"), (22, u "CASE_INSENSITIVE_ORDER"), (0, u "Ljava/util/Comparator;"), (91, u "isEmpty"), (317, u "([C)V"), (42, .fieldref 1054 1055), (0, .class_ 1056), (0, .nameAndType 1057 1058), (0, u "jdk/internal/util/Preconditions"), (0, u "SIOOBE_FORMATTER"), (0, u "Ljava/util/function/BiFunction;"), (0, .methodref 1054 1060), (0, .nameAndType 501 1061), (0, u "(IILjava/util/function/BiFunction;)I"), (39, u "serialPersistentFields"), (0, u "[Ljava/io/ObjectStreamField;"), (0, .class_ 1104), (0, u "java/lang/String$CaseInsensitiveComparator"), (1, .class_ 1107), (0, u "java/io/Serializable"), (0, .class_ 1109), (0, u "java/lang/Comparable"), (0, .class_ 1111), (0, u "java/lang/constant/Constable"), (0, .class_ 1113), (0, u "java/lang/constant/ConstantDesc"), (2, u "serialVersionUID"), (0, u "J"), (3, u "REPL"), (0, u "C"), (2, u "LATIN1"), (1, u "UTF16")] 323

def k7m0 : Method := { name := "<init>", desc := "()V", sig := { parameters := [], returnType := none }, accessFlags := 1, code := none }
def k7c1 : Code := { maxStack := 5, maxLocals := 2, code := jdk_42_method_3_code, exceptionTable := #[], attributes := #[] }
def k7m1 : Method := { name := "<init>", desc := "([C)V", sig := { parameters := [(.array .char)], returnType := none }, accessFlags := 1, code := some k7c1 }
def k7c2 : Code := { maxStack := 2, maxLocals := 1, code := jdk_42_method_54_code, exceptionTable := #[], attributes := #[] }
def k7m2 : Method := { name := "length", desc := "()I", sig := { parameters := [], returnType := some .int }, accessFlags := 1, code := some k7c2 }
def k7c3 : Code := { maxStack := 1, maxLocals := 1, code := jdk_42_method_55_code, exceptionTable := #[], attributes := #[] }
def k7m3 : Method := { name := "isEmpty", desc := "()Z", sig := { parameters := [], returnType := some .boolean }, accessFlags := 1, code := some k7c3 }
def k7c4 : Code := { maxStack := 2, maxLocals := 2, code := jdk_42_method_56_code, exceptionTable := #[], attributes := #[] }
def k7m4 : Method := { name := "charAt", desc := "(I)C", sig := { parameters := [.int], returnType := some .char }, accessFlags := 1, code := some k7c4 }
def k7c5 : Code := { maxStack := 4, maxLocals := 6, code := jdk_42_method_149_code, exceptionTable := #[], attributes := #[] }
def k7m5 : Method := { name := "<init>", desc := "([CIILjava/lang/Void;)V", sig := { parameters := [(.array .char), .int, .int, (.object "java/lang/Void")], returnType := none }, accessFlags := 2, code := some k7c5 }
def k7c6 : Code := { maxStack := 1, maxLocals := 1, code := jdk_42_method_152_code, exceptionTable := #[], attributes := #[] }
def k7m6 : Method := { name := "coder", desc := "()B", sig := { parameters := [], returnType := some .byte }, accessFlags := 0, code := some k7c6 }
def k7c7 : Code := { maxStack := 1, maxLocals := 1, code := jdk_42_method_154_code, exceptionTable := #[], attributes := #[] }
def k7m7 : Method := { name := "isLatin1", desc := "()Z", sig := { parameters := [], returnType := some .boolean }, accessFlags := 0, code := some k7c7 }
def k7c8 : Code := { maxStack := 3, maxLocals := 2, code := jdk_42_method_155_code, exceptionTable := #[], attributes := #[] }
def k7m8 : Method := { name := "checkIndex", desc := "(II)V", sig := { parameters := [.int, .int], returnType := none }, accessFlags := 8, code := some k7c8 }
/-- java/lang/String -/
def k7 : Class := { plain "java/lang/String" (some 0) with
  accessFlags := 49
  interfaces := #[2, 3, 4, 5, 6]
  cf := some (fileOf pool7 10 #[.nestMembers #[1103]] #[{ accessFlags := 1, nameIndex := 5, descriptorIndex := 6, attributes := #[] }, { accessFlags := 1, nameIndex := 5, descriptorIndex := 1010, attributes := #[] }, { accessFlags := 1, nameIndex := 507, descriptorIndex := 334, attributes := #[] }, { accessFlags := 1, nameIndex := 692, descriptorIndex := 142, attributes := #[] }, { accessFlags := 1, nameIndex := 497, descriptorIndex := 427, attributes := #[] }, { accessFlags := 2, nameIndex := 5, descriptorIndex := 29, attributes := #[] }, { accessFlags := 0, nameIndex := 17, descriptorIndex := 337, attributes := #[] }, { accessFlags := 0, nameIndex := 494, descriptorIndex := 142, attributes := #[] }, { accessFlags := 8, nameIndex := 501, descriptorIndex := 391, attributes := #[] }] 49 2 #[1106, 1108, 575, 1110, 1112] #[{ accessFlags := 18, nameIndex := 13, descriptorIndex := 14, attributes := #[] }, { accessFlags := 18, nameIndex := 17, descriptorIndex := 18, attributes := #[] }, { accessFlags := 2, nameIndex := 21, descriptorIndex := 22, attributes := #[] }, { accessFlags := 2, nameIndex := 25, descriptorIndex := 26, attributes := #[] }, { accessFlags := 26, nameIndex := 1116, descriptorIndex := 1117, attributes := #[] }, { accessFlags := 24, nameIndex := 40, descriptorIndex := 26, attributes := #[] }, { accessFlags := 26, nameIndex := 1101, descriptorIndex := 1102, attributes := #[] }, { accessFlags := 26, nameIndex := 1121, descriptorIndex := 1122, attributes := #[] }, { accessFlags := 25, nameIndex := 599, descriptorIndex := 600, attributes := #[] }, { accessFlags := 24, nameIndex := 1125, descriptorIndex := 18, attributes := #[] }, { accessFlags := 24, nameIndex := 1127, descriptorIndex := 18, attributes := #[] }])
  fields := #[{ name := "value", type := (.array .byte), accessFlags := 18, slot := 0, constantValue := 0 }, { name := "coder", type := .byte, accessFlags := 18, slot := 1, constantValue := 0 }, { name := "hash", type := .int, accessFlags := 2, slot := 2, constantValue := 0 }, { name := "hashIsZero", type := .boolean, accessFlags := 2, slot := 3, constantValue := 0 }, { name := "serialVersionUID", type := .long, accessFlags := 26, slot := 0, constantValue := 0 }, { name := "COMPACT_STRINGS", type := .boolean, accessFlags := 24, slot := 1, constantValue := 0 }, { name := "serialPersistentFields", type := (.array (.object "java/io/ObjectStreamField")), accessFlags := 26, slot := 2, constantValue := 0 }, { name := "REPL", type := .char, accessFlags := 26, slot := 3, constantValue := 0 }, { name := "CASE_INSENSITIVE_ORDER", type := (.object "java/util/Comparator"), accessFlags := 25, slot := 4, constantValue := 0 }, { name := "LATIN1", type := .byte, accessFlags := 24, slot := 5, constantValue := 0 }, { name := "UTF16", type := .byte, accessFlags := 24, slot := 6, constantValue := 0 }]
  methods := #[k7m0, k7m1, k7m2, k7m3, k7m4, k7m5, k7m6, k7m7, k7m8]
  instanceTypes := #[(.array .byte), .byte, .int, .boolean]
  staticTypes := #[.long, .boolean, (.array (.object "java/io/ObjectStreamField")), .char, (.object "java/util/Comparator"), .byte, .byte]
  resolved := Array.replicate 1451 none
  statics := some 0 }

def pool8 : Array CpInfo := pool [(2, .class_ 4), (1, u "java/lang/Object"), (3, .class_ 10), (1, u "com/example/entitled/entitled/lang/Lexer"), (0, u "line"), (0, u "I"), (2, u "column"), (2, u "text"), (0, u "Ljava/lang/String;"), (3, .class_ 25), (1, u "java/lang/String"), (1, u "(Ljava/lang/String;)Z"), (2, u "index"), (3, .methodref 23 35), (0, .nameAndType 36 37), (0, u "length"), (0, u "()I"), (17, .methodref 8 56), (0, .nameAndType 57 58), (0, u "isNameStart"), (0, u "(I)Z"), (6, u "KEYWORDS"), (0, u "Ljava/util/Set;"), (17, u "charAt"), (11, .methodref 8 97), (0, .nameAndType 98 58), (0, u "isDigit"), (5, u "SYMBOLS"), (0, u "Ljava/util/List;"), (11, u "()Z"), (18, .methodref 23 137), (0, .nameAndType 84 138), (0, u "(I)C"), (15, .methodref 8 155), (0, .nameAndType 156 58), (0, u "isNamePart"), (51, .methodref 23 209), (0, .nameAndType 210 117), (0, u "isEmpty"), (99, u "STRING_NOT_CLOSED"), (7, u "isName")] 23

def k8c0 : Code := { maxStack := 2, maxLocals := 2, code := prog_9_method_12_code, exceptionTable := #[], attributes := #[] }
def k8m0 : Method := { name := "isName", desc := "(Ljava/lang/String;)Z", sig := { parameters := [(.object "java/lang/String")], returnType := some .boolean }, accessFlags := 8, code := some k8c0 }
def k8c1 : Code := { maxStack := 2, maxLocals := 1, code := prog_9_method_14_code, exceptionTable := #[], attributes := #[] }
def k8m1 : Method := { name := "isDigit", desc := "(I)Z", sig := { parameters := [.int], returnType := some .boolean }, accessFlags := 10, code := some k8c1 }
def k8c2 : Code := { maxStack := 2, maxLocals := 1, code := prog_9_method_16_code, exceptionTable := #[], attributes := #[] }
def k8m2 : Method := { name := "isNameStart", desc := "(I)Z", sig := { parameters := [.int], returnType := some .boolean }, accessFlags := 10, code := some k8c2 }
def k8c3 : Code := { maxStack := 1, maxLocals := 1, code := prog_9_method_17_code, exceptionTable := #[], attributes := #[] }
def k8m3 : Method := { name := "isNamePart", desc := "(I)Z", sig := { parameters := [.int], returnType := some .boolean }, accessFlags := 10, code := some k8c3 }
/-- com/example/entitled/entitled/lang/Lexer -/
def k8 : Class := { plain "com/example/entitled/entitled/lang/Lexer" (some 0) with
  accessFlags := 32
  interfaces := #[]
  cf := some (fileOf pool8 8 #[] #[{ accessFlags := 8, nameIndex := 318, descriptorIndex := 27, attributes := #[] }, { accessFlags := 10, nameIndex := 98, descriptorIndex := 58, attributes := #[] }, { accessFlags := 10, nameIndex := 57, descriptorIndex := 58, attributes := #[] }, { accessFlags := 10, nameIndex := 156, descriptorIndex := 58, attributes := #[] }] 32 2 #[] #[{ accessFlags := 26, nameIndex := 65, descriptorIndex := 66, attributes := #[] }, { accessFlags := 26, nameIndex := 104, descriptorIndex := 105, attributes := #[] }, { accessFlags := 26, nameIndex := 310, descriptorIndex := 19, attributes := #[] }, { accessFlags := 18, nameIndex := 18, descriptorIndex := 19, attributes := #[] }, { accessFlags := 2, nameIndex := 30, descriptorIndex := 12, attributes := #[] }, { accessFlags := 2, nameIndex := 11, descriptorIndex := 12, attributes := #[] }, { accessFlags := 2, nameIndex := 15, descriptorIndex := 12, attributes := #[] }])
  fields := #[{ name := "KEYWORDS", type := (.object "java/util/Set"), accessFlags := 26, slot := 0, constantValue := 0 }, { name := "SYMBOLS", type := (.object "java/util/List"), accessFlags := 26, slot := 1, constantValue := 0 }, { name := "STRING_NOT_CLOSED", type := (.object "java/lang/String"), accessFlags := 26, slot := 2, constantValue := 0 }, { name := "text", type := (.object "java/lang/String"), accessFlags := 18, slot := 0, constantValue := 0 }, { name := "index", type := .int, accessFlags := 2, slot := 1, constantValue := 0 }, { name := "line", type := .int, accessFlags := 2, slot := 2, constantValue := 0 }, { name := "column", type := .int, accessFlags := 2, slot := 3, constantValue := 0 }]
  methods := #[k8m0, k8m1, k8m2, k8m3]
  instanceTypes := #[(.object "java/lang/String"), .int, .int, .int]
  staticTypes := #[(.object "java/util/Set"), (.object "java/util/List"), (.object "java/lang/String")]
  resolved := Array.replicate 342 none
  statics := none }

def pool9 : Array CpInfo := pool [(3, .class_ 4), (0, u "java/lang/String"), (1, .class_ 8), (1, u "java/lang/Object"), (0, u "<init>"), (0, u "()V"), (0, .methodref 12 13), (0, .class_ 14), (0, .nameAndType 15 16), (0, u "java/lang/StringUTF16"), (0, u "newBytesLength"), (0, u "(I)I"), (3, .integer 1073741823), (23, .fieldref 12 45), (0, .nameAndType 46 47), (0, u "$assertionsDisabled"), (0, u "Z"), (0, .methodref 12 49), (0, .nameAndType 50 51), (0, u "length"), (0, u "([B)I"), (7, .fieldref 12 60), (0, .nameAndType 61 62), (0, u "HI_BYTE_SHIFT"), (0, u "I"), (0, .fieldref 12 64), (0, .nameAndType 65 62), (0, u "LO_BYTE_SHIFT"), (1, .methodref 12 68), (0, .nameAndType 69 70), (0, u "checkIndex"), (0, u "(I[B)V"), (0, .methodref 12 72), (0, .nameAndType 73 74), (0, u "getChar"), (0, u "([BI)C"), (32, .methodref 12 108), (0, .nameAndType 109 110), (0, u "newBytesFor"), (0, u "(I)[B"), (0, .methodref 12 112), (0, .nameAndType 113 114), (0, u "putChar"), (0, u "([BII)V"), (0, .methodref 12 116), (0, .nameAndType 117 118), (0, u "compress"), (0, u "([CI[BII)I"), (0, .methodref 12 120), (0, .nameAndType 121 122), (0, u "toBytes"), (0, u "([CII)[B"), (138, u "coderFromArrayLen"), (0, u "([BI)B"), (106, .class_ 371), (1, u "java/lang/StringUTF16$LinesSpliterator"), (20, u "charAt"), (21, .methodref 3 415), (0, .nameAndType 69 416), (0, u "(II)V"), (13, u "MAX_LENGTH"), (196, .class_ 628), (0, u "java/lang/StringUTF16$CodePointsSpliterator"), (0, .class_ 630), (0, u "java/lang/StringUTF16$CharsSpliterator")] 4

def k9m0 : Method := { name := "<init>", desc := "()V", sig := { parameters := [], returnType := none }, accessFlags := 0, code := none }
def k9c1 : Code := { maxStack := 1, maxLocals := 1, code := jdk_52_method_2_code, exceptionTable := #[], attributes := #[] }
def k9m1 : Method := { name := "newBytesFor", desc := "(I)[B", sig := { parameters := [.int], returnType := some (.array .byte) }, accessFlags := 9, code := some k9c1 }
def k9c2 : Code := { maxStack := 4, maxLocals := 1, code := jdk_52_method_3_code, exceptionTable := #[], attributes := #[] }
def k9m2 : Method := { name := "newBytesLength", desc := "(I)I", sig := { parameters := [.int], returnType := some .int }, accessFlags := 9, code := some k9c2 }
def k9c3 : Code := { maxStack := 4, maxLocals := 3, code := jdk_52_method_4_code, exceptionTable := #[], attributes := #[] }
def k9m3 : Method := { name := "putChar", desc := "([BII)V", sig := { parameters := [(.array .byte), .int, .int], returnType := none }, accessFlags := 8, code := some k9c3 }
def k9c4 : Code := { maxStack := 3, maxLocals := 2, code := jdk_52_method_5_code, exceptionTable := #[], attributes := #[] }
def k9m4 : Method := { name := "getChar", desc := "([BI)C", sig := { parameters := [(.array .byte), .int], returnType := some .char }, accessFlags := 8, code := some k9c4 }
def k9c5 : Code := { maxStack := 2, maxLocals := 1, code := jdk_52_method_6_code, exceptionTable := #[], attributes := #[] }
def k9m5 : Method := { name := "length", desc := "([B)I", sig := { parameters := [(.array .byte)], returnType := some .int }, accessFlags := 9, code := some k9c5 }
def k9c6 : Code := { maxStack := 4, maxLocals := 5, code := jdk_52_method_14_code, exceptionTable := #[], attributes := #[] }
def k9m6 : Method := { name := "toBytes", desc := "([CII)[B", sig := { parameters := [(.array .char), .int, .int], returnType := some (.array .byte) }, accessFlags := 9, code := some k9c6 }
def k9c7 : Code := { maxStack := 2, maxLocals := 2, code := jdk_52_method_15_code, exceptionTable := #[], attributes := #[] }
def k9m7 : Method := { name := "coderFromArrayLen", desc := "([BI)B", sig := { parameters := [(.array .byte), .int], returnType := some .byte }, accessFlags := 8, code := some k9c7 }
def k9c8 : Code := { maxStack := 5, maxLocals := 6, code := jdk_52_method_16_code, exceptionTable := #[], attributes := #[] }
def k9m8 : Method := { name := "compress", desc := "([CII)[B", sig := { parameters := [(.array .char), .int, .int], returnType := some (.array .byte) }, accessFlags := 9, code := some k9c8 }
def k9c9 : Code := { maxStack := 3, maxLocals := 7, code := jdk_52_method_21_code, exceptionTable := #[], attributes := #[] }
def k9m9 : Method := { name := "compress", desc := "([CI[BII)I", sig := { parameters := [(.array .char), .int, (.array .byte), .int, .int], returnType := some .int }, accessFlags := 9, code := some k9c9 }
def k9c10 : Code := { maxStack := 2, maxLocals := 2, code := jdk_52_method_83_code, exceptionTable := #[], attributes := #[] }
def k9m10 : Method := { name := "charAt", desc := "([BI)C", sig := { parameters := [(.array .byte), .int], returnType := some .char }, accessFlags := 9, code := some k9c10 }
def k9c11 : Code := { maxStack := 2, maxLocals := 2, code := jdk_52_method_91_code, exceptionTable := #[], attributes := #[] }
def k9m11 : Method := { name := "checkIndex", desc := "(I[B)V", sig := { parameters := [.int, (.array .byte)], returnType := none }, accessFlags := 9, code := some k9c11 }
/-- java/lang/StringUTF16 -/
def k9 : Class := { plain "java/lang/StringUTF16" (some 0) with
  accessFlags := 48
  interfaces := #[]
  cf := some (fileOf pool9 12 #[.nestMembers #[627, 629, 369]] #[{ accessFlags := 0, nameIndex := 9, descriptorIndex := 10, attributes := #[] }, { accessFlags := 9, nameIndex := 109, descriptorIndex := 110, attributes := #[] }, { accessFlags := 9, nameIndex := 15, descriptorIndex := 16, attributes := #[] }, { accessFlags := 8, nameIndex := 113, descriptorIndex := 114, attributes := #[] }, { accessFlags := 8, nameIndex := 73, descriptorIndex := 74, attributes := #[] }, { accessFlags := 9, nameIndex := 50, descriptorIndex := 51, attributes := #[] }, { accessFlags := 9, nameIndex := 121, descriptorIndex := 122, attributes := #[] }, { accessFlags := 8, nameIndex := 261, descriptorIndex := 262, attributes := #[] }, { accessFlags := 9, nameIndex := 117, descriptorIndex := 122, attributes := #[] }, { accessFlags := 9, nameIndex := 117, descriptorIndex := 118, attributes := #[] }, { accessFlags := 9, nameIndex := 392, descriptorIndex := 74, attributes := #[] }, { accessFlags := 9, nameIndex := 69, descriptorIndex := 70, attributes := #[] }] 48 6 #[] #[{ accessFlags := 26, nameIndex := 61, descriptorIndex := 62, attributes := #[] }, { accessFlags := 26, nameIndex := 65, descriptorIndex := 62, attributes := #[] }, { accessFlags := 24, nameIndex := 430, descriptorIndex := 62, attributes := #[] }, { accessFlags := 4120, nameIndex := 46, descriptorIndex := 47, attributes := #[] }])
  fields := #[{ name := "HI_BYTE_SHIFT", type := .int, accessFlags := 26, slot := 0, constantValue := 0 }, { name := "LO_BYTE_SHIFT", type := .int, accessFlags := 26, slot := 1, constantValue := 0 }, { name := "MAX_LENGTH", type := .int, accessFlags := 24, slot := 2, constantValue := 0 }, { name := "$assertionsDisabled", type := .boolean, accessFlags := 4120, slot := 3, constantValue := 0 }]
  methods := #[k9m0, k9m1, k9m2, k9m3, k9m4, k9m5, k9m6, k9m7, k9m8, k9m9, k9m10, k9m11]
  instanceTypes := #[]
  staticTypes := #[.int, .int, .int, .boolean]
  resolved := Array.replicate 635 none
  statics := some 1 }

def pool10 : Array CpInfo := pool [(1, .class_ 2), (0, u "java/lang/String"), (1, .class_ 6), (1, u "java/lang/Object"), (0, u "<init>"), (0, u "()V"), (0, .methodref 1 10), (0, .nameAndType 11 12), (0, u "checkIndex"), (0, u "(II)V"), (1, .class_ 16), (1, u "java/lang/StringLatin1"), (36, u "([BI)C"), (67, u "$assertionsDisabled"), (0, u "Z"), (98, .class_ 223), (1, u "java/lang/StringLatin1$LinesSpliterator"), (28, u "charAt"), (137, .class_ 391), (0, u "java/lang/StringLatin1$CharsSpliterator")] 3

def k10m0 : Method := { name := "<init>", desc := "()V", sig := { parameters := [], returnType := none }, accessFlags := 0, code := none }
def k10c1 : Code := { maxStack := 2, maxLocals := 2, code := jdk_43_method_2_code, exceptionTable := #[], attributes := #[] }
def k10m1 : Method := { name := "charAt", desc := "([BI)C", sig := { parameters := [(.array .byte), .int], returnType := some .char }, accessFlags := 9, code := some k10c1 }
/-- java/lang/StringLatin1 -/
def k10 : Class := { plain "java/lang/StringLatin1" (some 0) with
  accessFlags := 48
  interfaces := #[]
  cf := some (fileOf pool10 14 #[.nestMembers #[390, 221]] #[{ accessFlags := 0, nameIndex := 7, descriptorIndex := 8, attributes := #[] }, { accessFlags := 9, nameIndex := 252, descriptorIndex := 53, attributes := #[] }] 48 4 #[] #[{ accessFlags := 4120, nameIndex := 121, descriptorIndex := 122, attributes := #[] }])
  fields := #[{ name := "$assertionsDisabled", type := .boolean, accessFlags := 4120, slot := 0, constantValue := 0 }]
  methods := #[k10m0, k10m1]
  instanceTypes := #[]
  staticTypes := #[.boolean]
  resolved := Array.replicate 395 none
  statics := none }

def pool11 : Array CpInfo := pool [(2, .class_ 4), (1, u "java/lang/Object"), (0, u "<init>"), (0, u "()V"), (17, .class_ 26), (1, u "jdk/internal/util/Preconditions"), (6, u "checkIndex"), (21, .class_ 56), (0, u "jdk/internal/util/Preconditions$4"), (57, .class_ 115), (0, u "jdk/internal/util/Preconditions$1"), (7, u "SIOOBE_FORMATTER"), (0, u "Ljava/util/function/BiFunction;"), (0, .class_ 126), (0, u "jdk/internal/util/Preconditions$2"), (3, u "AIOOBE_FORMATTER"), (0, .class_ 132), (0, u "jdk/internal/util/Preconditions$3"), (3, u "IOOBE_FORMATTER"), (41, u "(IILjava/util/function/BiFunction;)I")] 15

def k11m0 : Method := { name := "<init>", desc := "()V", sig := { parameters := [], returnType := none }, accessFlags := 1, code := none }
def k11c1 : Code := { maxStack := 3, maxLocals := 3, code := jdk_41_method_11_code, exceptionTable := #[], attributes := #[] }
def k11m1 : Method := { name := "checkIndex", desc := "(IILjava/util/function/BiFunction;)I", sig := { parameters := [.int, .int, (.object "java/util/function/BiFunction")], returnType := some .int }, accessFlags := 9, code := some k11c1 }
/-- jdk/internal/util/Preconditions -/
def k11 : Class := { plain "jdk/internal/util/Preconditions" (some 0) with
  accessFlags := 33
  interfaces := #[]
  cf := some (fileOf pool11 24 #[.nestMembers #[55, 131, 125, 114]] #[{ accessFlags := 1, nameIndex := 5, descriptorIndex := 6, attributes := #[] }, { accessFlags := 9, nameIndex := 33, descriptorIndex := 178, attributes := #[] }] 33 2 #[] #[{ accessFlags := 25, nameIndex := 123, descriptorIndex := 124, attributes := #[] }, { accessFlags := 25, nameIndex := 130, descriptorIndex := 124, attributes := #[] }, { accessFlags := 25, nameIndex := 136, descriptorIndex := 124, attributes := #[] }])
  fields := #[{ name := "SIOOBE_FORMATTER", type := (.object "java/util/function/BiFunction"), accessFlags := 25, slot := 0, constantValue := 0 }, { name := "AIOOBE_FORMATTER", type := (.object "java/util/function/BiFunction"), accessFlags := 25, slot := 1, constantValue := 0 }, { name := "IOOBE_FORMATTER", type := (.object "java/util/function/BiFunction"), accessFlags := 25, slot := 2, constantValue := 0 }]
  methods := #[k11m0, k11m1]
  instanceTypes := #[]
  staticTypes := #[(.object "java/util/function/BiFunction"), (.object "java/util/function/BiFunction"), (.object "java/util/function/BiFunction")]
  resolved := Array.replicate 194 none
  statics := some 2 }

def pool12 : Array CpInfo := pool [(9, u "<init>"), (6, .class_ 18), (1, u "java/lang/Object"), (0, u "()V"), (1, .class_ 23), (1, u "jdk/internal/util/ArraysSupport"), (0, u "LOG2_ARRAY_LONG_INDEX_SCALE"), (0, u "I"), (2, u "U"), (0, u "Ljdk/internal/misc/Unsafe;"), (8, u "BIG_ENDIAN"), (0, u "Z"), (8, u "LOG2_BYTE_BIT_SIZE"), (4, u "LOG2_ARRAY_INT_INDEX_SCALE"), (54, u "JLA"), (0, u "Ljdk/internal/access/JavaLangAccess;"), (11, u "LOG2_ARRAY_BOOLEAN_INDEX_SCALE"), (9, u "LOG2_ARRAY_BYTE_INDEX_SCALE"), (5, u "LOG2_ARRAY_CHAR_INDEX_SCALE"), (5, u "LOG2_ARRAY_SHORT_INDEX_SCALE"), (18, u "LOG2_ARRAY_FLOAT_INDEX_SCALE"), (24, u "LOG2_ARRAY_DOUBLE_INDEX_SCALE"), (89, u "T_BOOLEAN"), (2, u "T_CHAR"), (1, u "T_FLOAT"), (1, u "T_DOUBLE"), (1, u "T_BYTE"), (1, u "T_SHORT"), (1, u "T_INT"), (1, u "T_LONG"), (1, u "SOFT_MAX_ARRAY_LENGTH")] 83

def k12m0 : Method := { name := "<init>", desc := "()V", sig := { parameters := [], returnType := none }, accessFlags := 2, code := none }
/-- jdk/internal/util/ArraysSupport -/
def k12 : Class := { plain "jdk/internal/util/ArraysSupport" (some 0) with
  accessFlags := 33
  interfaces := #[]
  cf := some (fileOf pool12 21 #[] #[{ accessFlags := 2, nameIndex := 9, descriptorIndex := 19, attributes := #[] }] 33 16 #[] #[{ accessFlags := 24, nameIndex := 28, descriptorIndex := 29, attributes := #[] }, { accessFlags := 26, nameIndex := 38, descriptorIndex := 39, attributes := #[] }, { accessFlags := 25, nameIndex := 121, descriptorIndex := 25, attributes := #[] }, { accessFlags := 25, nameIndex := 131, descriptorIndex := 25, attributes := #[] }, { accessFlags := 25, nameIndex := 137, descriptorIndex := 25, attributes := #[] }, { accessFlags := 25, nameIndex := 143, descriptorIndex := 25, attributes := #[] }, { accessFlags := 25, nameIndex := 53, descriptorIndex := 25, attributes := #[] }, { accessFlags := 25, nameIndex := 24, descriptorIndex := 25, attributes := #[] }, { accessFlags := 25, nameIndex := 162, descriptorIndex := 25, attributes := #[] }, { accessFlags := 25, nameIndex := 187, descriptorIndex := 25, attributes := #[] }, { accessFlags := 26, nameIndex := 48, descriptorIndex := 25, attributes := #[] }, { accessFlags := 25, nameIndex := 277, descriptorIndex := 25, attributes := #[] }, { accessFlags := 25, nameIndex := 280, descriptorIndex := 25, attributes := #[] }, { accessFlags := 25, nameIndex := 282, descriptorIndex := 25, attributes := #[] }, { accessFlags := 25, nameIndex := 284, descriptorIndex := 25, attributes := #[] }, { accessFlags := 25, nameIndex := 286, descriptorIndex := 25, attributes := #[] }, { accessFlags := 25, nameIndex := 288, descriptorIndex := 25, attributes := #[] }, { accessFlags := 25, nameIndex := 290, descriptorIndex := 25, attributes := #[] }, { accessFlags := 25, nameIndex := 292, descriptorIndex := 25, attributes := #[] }, { accessFlags := 26, nameIndex := 108, descriptorIndex := 109, attributes := #[] }, { accessFlags := 25, nameIndex := 294, descriptorIndex := 25, attributes := #[] }])
  fields := #[{ name := "U", type := (.object "jdk/internal/misc/Unsafe"), accessFlags := 24, slot := 0, constantValue := 0 }, { name := "BIG_ENDIAN", type := .boolean, accessFlags := 26, slot := 1, constantValue := 0 }, { name := "LOG2_ARRAY_BOOLEAN_INDEX_SCALE", type := .int, accessFlags := 25, slot := 2, constantValue := 0 }, { name := "LOG2_ARRAY_BYTE_INDEX_SCALE", type := .int, accessFlags := 25, slot := 3, constantValue := 0 }, { name := "LOG2_ARRAY_CHAR_INDEX_SCALE", type := .int, accessFlags := 25, slot := 4, constantValue := 0 }, { name := "LOG2_ARRAY_SHORT_INDEX_SCALE", type := .int, accessFlags := 25, slot := 5, constantValue := 0 }, { name := "LOG2_ARRAY_INT_INDEX_SCALE", type := .int, accessFlags := 25, slot := 6, constantValue := 0 }, { name := "LOG2_ARRAY_LONG_INDEX_SCALE", type := .int, accessFlags := 25, slot := 7, constantValue := 0 }, { name := "LOG2_ARRAY_FLOAT_INDEX_SCALE", type := .int, accessFlags := 25, slot := 8, constantValue := 0 }, { name := "LOG2_ARRAY_DOUBLE_INDEX_SCALE", type := .int, accessFlags := 25, slot := 9, constantValue := 0 }, { name := "LOG2_BYTE_BIT_SIZE", type := .int, accessFlags := 26, slot := 10, constantValue := 0 }, { name := "T_BOOLEAN", type := .int, accessFlags := 25, slot := 11, constantValue := 0 }, { name := "T_CHAR", type := .int, accessFlags := 25, slot := 12, constantValue := 0 }, { name := "T_FLOAT", type := .int, accessFlags := 25, slot := 13, constantValue := 0 }, { name := "T_DOUBLE", type := .int, accessFlags := 25, slot := 14, constantValue := 0 }, { name := "T_BYTE", type := .int, accessFlags := 25, slot := 15, constantValue := 0 }, { name := "T_SHORT", type := .int, accessFlags := 25, slot := 16, constantValue := 0 }, { name := "T_INT", type := .int, accessFlags := 25, slot := 17, constantValue := 0 }, { name := "T_LONG", type := .int, accessFlags := 25, slot := 18, constantValue := 0 }, { name := "JLA", type := (.object "jdk/internal/access/JavaLangAccess"), accessFlags := 26, slot := 19, constantValue := 0 }, { name := "SOFT_MAX_ARRAY_LENGTH", type := .int, accessFlags := 25, slot := 20, constantValue := 0 }]
  methods := #[k12m0]
  instanceTypes := #[]
  staticTypes := #[(.object "jdk/internal/misc/Unsafe"), .boolean, .int, .int, .int, .int, .int, .int, .int, .int, .int, .int, .int, .int, .int, .int, .int, .int, .int, (.object "jdk/internal/access/JavaLangAccess"), .int]
  resolved := Array.replicate 378 none
  statics := none }

def pool13 : Array CpInfo := pool [(1, u "java/lang/Cloneable"), (0, .class_ 1), (0, u "java/lang/Object"), (0, .class_ 3)] 3

/-- java/lang/Cloneable -/
def k13 : Class := { plain "java/lang/Cloneable" (some 0) with
  accessFlags := 1537
  interfaces := #[]
  cf := some (fileOf pool13 2 #[] #[] 1537 4 #[] #[])
  fields := #[]
  methods := #[]
  instanceTypes := #[]
  staticTypes := #[]
  resolved := Array.replicate 8 none
  statics := none }

/-- the primitive byte -/
def k14 : Class := { plain "byte" none with kind := .primitive 'B', accessFlags := 0x411 }
/-- [B -/
def k15 : Class := { plain "[B" (some 0) with kind := .array 14 .byte, interfaces := #[13, 2], accessFlags := 1041 }

/-- the primitive char -/
def k16 : Class := { plain "char" none with kind := .primitive 'C', accessFlags := 0x411 }
/-- [C -/
def k17 : Class := { plain "[C" (some 0) with kind := .array 16 .char, interfaces := #[13, 2], accessFlags := 1041 }

/-- the primitive int -/
def k18 : Class := { plain "int" none with kind := .primitive 'I', accessFlags := 0x411 }
/-- [I -/
def k19 : Class := { plain "[I" (some 0) with kind := .array 18 .int, interfaces := #[13, 2], accessFlags := 1041 }

def heap : Heap := #[{ cls := 7, slots := #[.long 0, .int 1, .null, .int 0, .null, .int 0, .int 0], vm := .statics 7 },
  { cls := 9, slots := #[.int 0, .int 8, .int 0, .int 1], vm := .statics 9 },
  { cls := 11, slots := #[.null, .null, .null], vm := .statics 11 }]
def classes : Array Class := #[k0, k1, k2, k3, k4, k5, k6, k7, k8, k9, k10, k11, k12, k13, k14, k15, k16, k17, k18, k19]
def interned : List (Array UInt16 × Addr) := []
def slotsUsed : Nat := 14
def theMethod : MethodId := ⟨1, 4⟩
def args0 : Array Value := #[.int 3, .int 4, .int 5, .int 6, .int 7]
def aboutOver (below : List Frame) : State where
  vm := { classes := classes, interned := interned.toArray }
  heap := heap
  slotsUsed := slotsUsed
  threads := #[{ frames := .invoking theMethod args0 :: below }]
def below0 : List Frame := [.native { method := ⟨0, 0⟩, args := #[] }]
def about1 : State := aboutOver below0
def p0 : Program := .bare "" "" ""
def e0 : Env := launch0.env 0 0 0
theorem w_frames : about1.frames = Frame.invoking theMethod args0 :: below0 := rfl
set_option maxRecDepth 65536 in
theorem w_args : argsFit about1.vm theMethod args0 = true := by decide +kernel
set_option maxRecDepth 65536 in
theorem w_heap : heapFits about1 = true := by decide +kernel
set_option maxRecDepth 65536 in
theorem w_runnable : about1.curStatus? = some .runnable := by decide +kernel
set_option maxRecDepth 65536 in
theorem w_alone : about1.alone = true := by decide +kernel
set_option maxRecDepth 65536 in
theorem w_named : about1.methodNamed? x = some theMethod := by decide +kernel
set_option maxRecDepth 65536 in
theorem w_hears : about1.hears theMethod below0 = true := by decide +kernel
set_option maxRecDepth 65536 in
theorem w_ripe : about1.ripe theMethod args0 below0 = true := by decide +kernel
theorem w_running : about1.status = .running := rfl
set_option maxRecDepth 65536 in
theorem w_room : about1.hasRoom e0.platform room_1 = true :=
  launch0.hasRoom_least _ room_1 (by decide +kernel) (by decide +kernel) (by decide +kernel) (by decide +kernel) (by decide +kernel) (by decide +kernel)
theorem allAtoms_all (ts : List Jvm.Cond) (a : Array Jvm.Value) (st : Jvm.State) : (allAtoms ts).before a st = ts.all (fun c => c.before a st) := by
  induction ts with
  | nil => rfl
  | cons c t ih =>
    show (Jvm.Cond.and c (allAtoms t)).before a st = _
    rw [Jvm.Cond.before_and, ih, List.all_cons]
def words1 : List Jvm.Cond := Jvm.Cond.code x code maxLocals ret :: tables_1
/-- a 'code' word, met by the world's own term for the bytes: nothing is compared byte by byte -/
theorem code_word {y : MethodName} {bytes : ByteArray} {mx : Nat} {rt : Option FieldType} {a : Array Value} {s : State} {m : MethodId} {meth : Method} {c : Code} (h1 : s.methodNamed? y = some m) (h2 : s.vm.method? m = some meth) (h3 : meth.code = some c) (h4 : c.code = bytes)
    (h5 : (c.maxLocals == mx && c.exceptionTable.isEmpty && decide (c.maxStack ≤ mostOperands) && decide (meth.sig.returnType = rt) && !meth.locks && decide (parseMethodDescriptor y.desc = some meth.sig)) = true) : (Jvm.Cond.code y bytes mx rt).before a s = true := by
  simp only [Bool.and_eq_true, beq_iff_eq, Bool.not_eq_true', decide_eq_true_eq] at h5
  obtain ⟨⟨⟨⟨⟨g1, g2⟩, g3⟩, g4⟩, g5⟩, g6⟩ := h5
  simp [Cond.before, Cond.holds, Cond.value, h1, h2, h3, h4, g1, g2, g3, g4, g5, g6]
def isCode : Jvm.Cond → Bool
  | .code _ _ _ _ => true
  | _ => false
theorem all_split {L : List Jvm.Cond} {P : Jvm.Cond → Bool} (h1 : L.all (fun c => isCode c || P c) = true) (h2 : ∀ c ∈ L.filter isCode, P c = true) : L.all P = true := by
  refine List.all_eq_true.mpr fun c hc => ?_
  have h := List.all_eq_true.mp h1 c hc
  rcases Bool.eq_false_or_eq_true (isCode c) with hi | hi
  · exact h2 c (List.mem_filter.mpr ⟨hc, hi⟩)
  · simpa [hi] using h
set_option maxRecDepth 65536 in
theorem w_c0 : (Jvm.Cond.code x code maxLocals ret).before args0 about1 = true := code_word (m := ⟨1, 4⟩) (meth := k1m4) (c := k1c4) (by decide +kernel) rfl rfl rfl (by decide +kernel)
set_option maxRecDepth 65536 in
theorem w_c1 : (Jvm.Cond.code ({ cls := "java/lang/String", name := "<init>", desc := "([C)V" } : Jvm.MethodName) jdk_42_method_3_code (2 : Nat) (Option.none : Option Jvm.ClassFile.FieldType)).before args0 about1 = true := code_word (m := ⟨7, 1⟩) (meth := k7m1) (c := k7c1) (by decide +kernel) rfl rfl rfl (by decide +kernel)
set_option maxRecDepth 65536 in
theorem w_c2 : (Jvm.Cond.code ({ cls := "java/lang/String", name := "<init>", desc := "([CIILjava/lang/Void;)V" } : Jvm.MethodName) jdk_42_method_149_code (6 : Nat) (Option.none : Option Jvm.ClassFile.FieldType)).before args0 about1 = true := code_word (m := ⟨7, 5⟩) (meth := k7m5) (c := k7c5) (by decide +kernel) rfl rfl rfl (by decide +kernel)
set_option maxRecDepth 65536 in
theorem w_c3 : (Jvm.Cond.code ({ cls := "java/lang/Object", name := "<init>", desc := "()V" } : Jvm.MethodName) object_method_1_code (1 : Nat) (Option.none : Option Jvm.ClassFile.FieldType)).before args0 about1 = true := code_word (m := ⟨0, 0⟩) (meth := k0m0) (c := k0c0) (by decide +kernel) rfl rfl rfl (by decide +kernel)
set_option maxRecDepth 65536 in
theorem w_c4 : (Jvm.Cond.code ({ cls := "com/example/entitled/entitled/lang/Lexer", name := "isName", desc := "(Ljava/lang/String;)Z" } : Jvm.MethodName) prog_9_method_12_code (2 : Nat) (Option.some Jvm.ClassFile.FieldType.boolean)).before args0 about1 = true := code_word (m := ⟨8, 0⟩) (meth := k8m0) (c := k8c0) (by decide +kernel) rfl rfl rfl (by decide +kernel)
set_option maxRecDepth 65536 in
theorem w_c5 : (Jvm.Cond.code ({ cls := "java/lang/String", name := "isEmpty", desc := "()Z" } : Jvm.MethodName) jdk_42_method_55_code (1 : Nat) (Option.some Jvm.ClassFile.FieldType.boolean)).before args0 about1 = true := code_word (m := ⟨7, 3⟩) (meth := k7m3) (c := k7c3) (by decide +kernel) rfl rfl rfl (by decide +kernel)
set_option maxRecDepth 65536 in
theorem w_c6 : (Jvm.Cond.code ({ cls := "java/lang/StringUTF16", name := "compress", desc := "([CII)[B" } : Jvm.MethodName) jdk_52_method_16_code (6 : Nat) (Option.some (Jvm.ClassFile.FieldType.array Jvm.ClassFile.FieldType.byte))).before args0 about1 = true := code_word (m := ⟨9, 8⟩) (meth := k9m8) (c := k9c8) (by decide +kernel) rfl rfl rfl (by decide +kernel)
set_option maxRecDepth 65536 in
theorem w_c7 : (Jvm.Cond.code ({ cls := "java/lang/StringUTF16", name := "compress", desc := "([CI[BII)I" } : Jvm.MethodName) jdk_52_method_21_code (7 : Nat) (Option.some Jvm.ClassFile.FieldType.int)).before args0 about1 = true := code_word (m := ⟨9, 9⟩) (meth := k9m9) (c := k9c9) (by decide +kernel) rfl rfl rfl (by decide +kernel)
set_option maxRecDepth 65536 in
theorem w_c8 : (Jvm.Cond.code ({ cls := "java/lang/StringUTF16", name := "coderFromArrayLen", desc := "([BI)B" } : Jvm.MethodName) jdk_52_method_15_code (2 : Nat) (Option.some Jvm.ClassFile.FieldType.byte)).before args0 about1 = true := code_word (m := ⟨9, 7⟩) (meth := k9m7) (c := k9c7) (by decide +kernel) rfl rfl rfl (by decide +kernel)
set_option maxRecDepth 65536 in
theorem w_c9 : (Jvm.Cond.code ({ cls := "com/example/entitled/entitled/lang/LexerIsNamePinLaw", name := "startOk", desc := "(I)Z" } : Jvm.MethodName) method_3_code (1 : Nat) (Option.some Jvm.ClassFile.FieldType.boolean)).before args0 about1 = true := code_word (m := ⟨1, 2⟩) (meth := k1m2) (c := k1c2) (by decide +kernel) rfl rfl rfl (by decide +kernel)
set_option maxRecDepth 65536 in
theorem w_c10 : (Jvm.Cond.code ({ cls := "com/example/entitled/entitled/lang/LexerIsNamePinLaw", name := "letter", desc := "(I)Z" } : Jvm.MethodName) method_2_code (1 : Nat) (Option.some Jvm.ClassFile.FieldType.boolean)).before args0 about1 = true := code_word (m := ⟨1, 1⟩) (meth := k1m1) (c := k1c1) (by decide +kernel) rfl rfl rfl (by decide +kernel)
set_option maxRecDepth 65536 in
theorem w_c11 : (Jvm.Cond.code ({ cls := "java/lang/String", name := "charAt", desc := "(I)C" } : Jvm.MethodName) jdk_42_method_56_code (2 : Nat) (Option.some Jvm.ClassFile.FieldType.char)).before args0 about1 = true := code_word (m := ⟨7, 4⟩) (meth := k7m4) (c := k7c4) (by decide +kernel) rfl rfl rfl (by decide +kernel)
set_option maxRecDepth 65536 in
theorem w_c12 : (Jvm.Cond.code ({ cls := "java/lang/String", name := "isLatin1", desc := "()Z" } : Jvm.MethodName) jdk_42_method_154_code (1 : Nat) (Option.some Jvm.ClassFile.FieldType.boolean)).before args0 about1 = true := code_word (m := ⟨7, 7⟩) (meth := k7m7) (c := k7c7) (by decide +kernel) rfl rfl rfl (by decide +kernel)
set_option maxRecDepth 65536 in
theorem w_c13 : (Jvm.Cond.code ({ cls := "java/lang/StringLatin1", name := "charAt", desc := "([BI)C" } : Jvm.MethodName) jdk_43_method_2_code (2 : Nat) (Option.some Jvm.ClassFile.FieldType.char)).before args0 about1 = true := code_word (m := ⟨10, 1⟩) (meth := k10m1) (c := k10c1) (by decide +kernel) rfl rfl rfl (by decide +kernel)
set_option maxRecDepth 65536 in
theorem w_c14 : (Jvm.Cond.code ({ cls := "java/lang/String", name := "checkIndex", desc := "(II)V" } : Jvm.MethodName) jdk_42_method_155_code (2 : Nat) (Option.none : Option Jvm.ClassFile.FieldType)).before args0 about1 = true := code_word (m := ⟨7, 8⟩) (meth := k7m8) (c := k7c8) (by decide +kernel) rfl rfl rfl (by decide +kernel)
set_option maxRecDepth 65536 in
theorem w_c15 : (Jvm.Cond.code ({ cls := "jdk/internal/util/Preconditions", name := "checkIndex", desc := "(IILjava/util/function/BiFunction;)I" } : Jvm.MethodName) jdk_41_method_11_code (3 : Nat) (Option.some Jvm.ClassFile.FieldType.int)).before args0 about1 = true := code_word (m := ⟨11, 1⟩) (meth := k11m1) (c := k11c1) (by decide +kernel) rfl rfl rfl (by decide +kernel)
set_option maxRecDepth 65536 in
theorem w_c16 : (Jvm.Cond.code ({ cls := "com/example/entitled/entitled/lang/Lexer", name := "isNameStart", desc := "(I)Z" } : Jvm.MethodName) prog_9_method_16_code (1 : Nat) (Option.some Jvm.ClassFile.FieldType.boolean)).before args0 about1 = true := code_word (m := ⟨8, 2⟩) (meth := k8m2) (c := k8c2) (by decide +kernel) rfl rfl rfl (by decide +kernel)
set_option maxRecDepth 65536 in
theorem w_c17 : (Jvm.Cond.code ({ cls := "java/lang/StringUTF16", name := "toBytes", desc := "([CII)[B" } : Jvm.MethodName) jdk_52_method_14_code (5 : Nat) (Option.some (Jvm.ClassFile.FieldType.array Jvm.ClassFile.FieldType.byte))).before args0 about1 = true := code_word (m := ⟨9, 6⟩) (meth := k9m6) (c := k9c6) (by decide +kernel) rfl rfl rfl (by decide +kernel)
set_option maxRecDepth 65536 in
theorem w_c18 : (Jvm.Cond.code ({ cls := "java/lang/StringUTF16", name := "newBytesFor", desc := "(I)[B" } : Jvm.MethodName) jdk_52_method_2_code (1 : Nat) (Option.some (Jvm.ClassFile.FieldType.array Jvm.ClassFile.FieldType.byte))).before args0 about1 = true := code_word (m := ⟨9, 1⟩) (meth := k9m1) (c := k9c1) (by decide +kernel) rfl rfl rfl (by decide +kernel)
set_option maxRecDepth 65536 in
theorem w_c19 : (Jvm.Cond.code ({ cls := "java/lang/StringUTF16", name := "newBytesLength", desc := "(I)I" } : Jvm.MethodName) jdk_52_method_3_code (1 : Nat) (Option.some Jvm.ClassFile.FieldType.int)).before args0 about1 = true := code_word (m := ⟨9, 2⟩) (meth := k9m2) (c := k9c2) (by decide +kernel) rfl rfl rfl (by decide +kernel)
set_option maxRecDepth 65536 in
theorem w_c20 : (Jvm.Cond.code ({ cls := "java/lang/StringUTF16", name := "putChar", desc := "([BII)V" } : Jvm.MethodName) jdk_52_method_4_code (3 : Nat) (Option.none : Option Jvm.ClassFile.FieldType)).before args0 about1 = true := code_word (m := ⟨9, 3⟩) (meth := k9m3) (c := k9c3) (by decide +kernel) rfl rfl rfl (by decide +kernel)
set_option maxRecDepth 65536 in
theorem w_c21 : (Jvm.Cond.code ({ cls := "java/lang/StringUTF16", name := "getChar", desc := "([BI)C" } : Jvm.MethodName) jdk_52_method_5_code (2 : Nat) (Option.some Jvm.ClassFile.FieldType.char)).before args0 about1 = true := code_word (m := ⟨9, 4⟩) (meth := k9m4) (c := k9c4) (by decide +kernel) rfl rfl rfl (by decide +kernel)
set_option maxRecDepth 65536 in
theorem w_c22 : (Jvm.Cond.code ({ cls := "java/lang/StringUTF16", name := "charAt", desc := "([BI)C" } : Jvm.MethodName) jdk_52_method_83_code (2 : Nat) (Option.some Jvm.ClassFile.FieldType.char)).before args0 about1 = true := code_word (m := ⟨9, 10⟩) (meth := k9m10) (c := k9c10) (by decide +kernel) rfl rfl rfl (by decide +kernel)
set_option maxRecDepth 65536 in
theorem w_c23 : (Jvm.Cond.code ({ cls := "java/lang/StringUTF16", name := "checkIndex", desc := "(I[B)V" } : Jvm.MethodName) jdk_52_method_91_code (2 : Nat) (Option.none : Option Jvm.ClassFile.FieldType)).before args0 about1 = true := code_word (m := ⟨9, 11⟩) (meth := k9m11) (c := k9c11) (by decide +kernel) rfl rfl rfl (by decide +kernel)
set_option maxRecDepth 65536 in
theorem w_c24 : (Jvm.Cond.code ({ cls := "java/lang/StringUTF16", name := "length", desc := "([B)I" } : Jvm.MethodName) jdk_52_method_6_code (1 : Nat) (Option.some Jvm.ClassFile.FieldType.int)).before args0 about1 = true := code_word (m := ⟨9, 5⟩) (meth := k9m5) (c := k9c5) (by decide +kernel) rfl rfl rfl (by decide +kernel)
set_option maxRecDepth 65536 in
theorem w_c25 : (Jvm.Cond.code ({ cls := "com/example/entitled/entitled/lang/LexerIsNamePinLaw", name := "partOk", desc := "(I)Z" } : Jvm.MethodName) method_4_code (1 : Nat) (Option.some Jvm.ClassFile.FieldType.boolean)).before args0 about1 = true := code_word (m := ⟨1, 3⟩) (meth := k1m3) (c := k1c3) (by decide +kernel) rfl rfl rfl (by decide +kernel)
set_option maxRecDepth 65536 in
theorem w_c26 : (Jvm.Cond.code ({ cls := "java/lang/String", name := "length", desc := "()I" } : Jvm.MethodName) jdk_42_method_54_code (1 : Nat) (Option.some Jvm.ClassFile.FieldType.int)).before args0 about1 = true := code_word (m := ⟨7, 2⟩) (meth := k7m2) (c := k7c2) (by decide +kernel) rfl rfl rfl (by decide +kernel)
set_option maxRecDepth 65536 in
theorem w_c27 : (Jvm.Cond.code ({ cls := "java/lang/String", name := "coder", desc := "()B" } : Jvm.MethodName) jdk_42_method_152_code (1 : Nat) (Option.some Jvm.ClassFile.FieldType.byte)).before args0 about1 = true := code_word (m := ⟨7, 6⟩) (meth := k7m6) (c := k7c6) (by decide +kernel) rfl rfl rfl (by decide +kernel)
set_option maxRecDepth 65536 in
theorem w_c28 : (Jvm.Cond.code ({ cls := "com/example/entitled/entitled/lang/Lexer", name := "isNamePart", desc := "(I)Z" } : Jvm.MethodName) prog_9_method_17_code (1 : Nat) (Option.some Jvm.ClassFile.FieldType.boolean)).before args0 about1 = true := code_word (m := ⟨8, 3⟩) (meth := k8m3) (c := k8c3) (by decide +kernel) rfl rfl rfl (by decide +kernel)
set_option maxRecDepth 65536 in
theorem w_c29 : (Jvm.Cond.code ({ cls := "com/example/entitled/entitled/lang/Lexer", name := "isDigit", desc := "(I)Z" } : Jvm.MethodName) prog_9_method_14_code (1 : Nat) (Option.some Jvm.ClassFile.FieldType.boolean)).before args0 about1 = true := code_word (m := ⟨8, 1⟩) (meth := k8m1) (c := k8c1) (by decide +kernel) rfl rfl rfl (by decide +kernel)
def codes1 : List Jvm.Cond := [Jvm.Cond.code x code maxLocals ret, Jvm.Cond.code ({ cls := "java/lang/String", name := "<init>", desc := "([C)V" } : Jvm.MethodName) jdk_42_method_3_code (2 : Nat) (Option.none : Option Jvm.ClassFile.FieldType), Jvm.Cond.code ({ cls := "java/lang/String", name := "<init>", desc := "([CIILjava/lang/Void;)V" } : Jvm.MethodName) jdk_42_method_149_code (6 : Nat) (Option.none : Option Jvm.ClassFile.FieldType), Jvm.Cond.code ({ cls := "java/lang/Object", name := "<init>", desc := "()V" } : Jvm.MethodName) object_method_1_code (1 : Nat) (Option.none : Option Jvm.ClassFile.FieldType), Jvm.Cond.code ({ cls := "com/example/entitled/entitled/lang/Lexer", name := "isName", desc := "(Ljava/lang/String;)Z" } : Jvm.MethodName) prog_9_method_12_code (2 : Nat) (Option.some Jvm.ClassFile.FieldType.boolean), Jvm.Cond.code ({ cls := "java/lang/String", name := "isEmpty", desc := "()Z" } : Jvm.MethodName) jdk_42_method_55_code (1 : Nat) (Option.some Jvm.ClassFile.FieldType.boolean), Jvm.Cond.code ({ cls := "java/lang/StringUTF16", name := "compress", desc := "([CII)[B" } : Jvm.MethodName) jdk_52_method_16_code (6 : Nat) (Option.some (Jvm.ClassFile.FieldType.array Jvm.ClassFile.FieldType.byte)), Jvm.Cond.code ({ cls := "java/lang/StringUTF16", name := "compress", desc := "([CI[BII)I" } : Jvm.MethodName) jdk_52_method_21_code (7 : Nat) (Option.some Jvm.ClassFile.FieldType.int), Jvm.Cond.code ({ cls := "java/lang/StringUTF16", name := "coderFromArrayLen", desc := "([BI)B" } : Jvm.MethodName) jdk_52_method_15_code (2 : Nat) (Option.some Jvm.ClassFile.FieldType.byte), Jvm.Cond.code ({ cls := "com/example/entitled/entitled/lang/LexerIsNamePinLaw", name := "startOk", desc := "(I)Z" } : Jvm.MethodName) method_3_code (1 : Nat) (Option.some Jvm.ClassFile.FieldType.boolean), Jvm.Cond.code ({ cls := "com/example/entitled/entitled/lang/LexerIsNamePinLaw", name := "letter", desc := "(I)Z" } : Jvm.MethodName) method_2_code (1 : Nat) (Option.some Jvm.ClassFile.FieldType.boolean), Jvm.Cond.code ({ cls := "java/lang/String", name := "charAt", desc := "(I)C" } : Jvm.MethodName) jdk_42_method_56_code (2 : Nat) (Option.some Jvm.ClassFile.FieldType.char), Jvm.Cond.code ({ cls := "java/lang/String", name := "isLatin1", desc := "()Z" } : Jvm.MethodName) jdk_42_method_154_code (1 : Nat) (Option.some Jvm.ClassFile.FieldType.boolean), Jvm.Cond.code ({ cls := "java/lang/StringLatin1", name := "charAt", desc := "([BI)C" } : Jvm.MethodName) jdk_43_method_2_code (2 : Nat) (Option.some Jvm.ClassFile.FieldType.char), Jvm.Cond.code ({ cls := "java/lang/String", name := "checkIndex", desc := "(II)V" } : Jvm.MethodName) jdk_42_method_155_code (2 : Nat) (Option.none : Option Jvm.ClassFile.FieldType), Jvm.Cond.code ({ cls := "jdk/internal/util/Preconditions", name := "checkIndex", desc := "(IILjava/util/function/BiFunction;)I" } : Jvm.MethodName) jdk_41_method_11_code (3 : Nat) (Option.some Jvm.ClassFile.FieldType.int), Jvm.Cond.code ({ cls := "com/example/entitled/entitled/lang/Lexer", name := "isNameStart", desc := "(I)Z" } : Jvm.MethodName) prog_9_method_16_code (1 : Nat) (Option.some Jvm.ClassFile.FieldType.boolean), Jvm.Cond.code ({ cls := "java/lang/StringUTF16", name := "toBytes", desc := "([CII)[B" } : Jvm.MethodName) jdk_52_method_14_code (5 : Nat) (Option.some (Jvm.ClassFile.FieldType.array Jvm.ClassFile.FieldType.byte)), Jvm.Cond.code ({ cls := "java/lang/StringUTF16", name := "newBytesFor", desc := "(I)[B" } : Jvm.MethodName) jdk_52_method_2_code (1 : Nat) (Option.some (Jvm.ClassFile.FieldType.array Jvm.ClassFile.FieldType.byte)), Jvm.Cond.code ({ cls := "java/lang/StringUTF16", name := "newBytesLength", desc := "(I)I" } : Jvm.MethodName) jdk_52_method_3_code (1 : Nat) (Option.some Jvm.ClassFile.FieldType.int), Jvm.Cond.code ({ cls := "java/lang/StringUTF16", name := "putChar", desc := "([BII)V" } : Jvm.MethodName) jdk_52_method_4_code (3 : Nat) (Option.none : Option Jvm.ClassFile.FieldType), Jvm.Cond.code ({ cls := "java/lang/StringUTF16", name := "getChar", desc := "([BI)C" } : Jvm.MethodName) jdk_52_method_5_code (2 : Nat) (Option.some Jvm.ClassFile.FieldType.char), Jvm.Cond.code ({ cls := "java/lang/StringUTF16", name := "charAt", desc := "([BI)C" } : Jvm.MethodName) jdk_52_method_83_code (2 : Nat) (Option.some Jvm.ClassFile.FieldType.char), Jvm.Cond.code ({ cls := "java/lang/StringUTF16", name := "checkIndex", desc := "(I[B)V" } : Jvm.MethodName) jdk_52_method_91_code (2 : Nat) (Option.none : Option Jvm.ClassFile.FieldType), Jvm.Cond.code ({ cls := "java/lang/StringUTF16", name := "length", desc := "([B)I" } : Jvm.MethodName) jdk_52_method_6_code (1 : Nat) (Option.some Jvm.ClassFile.FieldType.int), Jvm.Cond.code ({ cls := "com/example/entitled/entitled/lang/LexerIsNamePinLaw", name := "partOk", desc := "(I)Z" } : Jvm.MethodName) method_4_code (1 : Nat) (Option.some Jvm.ClassFile.FieldType.boolean), Jvm.Cond.code ({ cls := "java/lang/String", name := "length", desc := "()I" } : Jvm.MethodName) jdk_42_method_54_code (1 : Nat) (Option.some Jvm.ClassFile.FieldType.int), Jvm.Cond.code ({ cls := "java/lang/String", name := "coder", desc := "()B" } : Jvm.MethodName) jdk_42_method_152_code (1 : Nat) (Option.some Jvm.ClassFile.FieldType.byte), Jvm.Cond.code ({ cls := "com/example/entitled/entitled/lang/Lexer", name := "isNamePart", desc := "(I)Z" } : Jvm.MethodName) prog_9_method_17_code (1 : Nat) (Option.some Jvm.ClassFile.FieldType.boolean), Jvm.Cond.code ({ cls := "com/example/entitled/entitled/lang/Lexer", name := "isDigit", desc := "(I)Z" } : Jvm.MethodName) prog_9_method_14_code (1 : Nat) (Option.some Jvm.ClassFile.FieldType.boolean)]
set_option maxRecDepth 65536 in
theorem codes_eq : words1.filter isCode = codes1 := rfl
theorem w_codes : ∀ c ∈ words1.filter isCode, c.before args0 about1 = true := by
  rw [codes_eq]
  intro c hc
  simp only [codes1, List.mem_cons, List.not_mem_nil, or_false] at hc
  rcases hc with rfl | rfl | rfl | rfl | rfl | rfl | rfl | rfl | rfl | rfl | rfl | rfl | rfl | rfl | rfl | rfl | rfl | rfl | rfl | rfl | rfl | rfl | rfl | rfl | rfl | rfl | rfl | rfl | rfl | rfl
  · exact w_c0
  · exact w_c1
  · exact w_c2
  · exact w_c3
  · exact w_c4
  · exact w_c5
  · exact w_c6
  · exact w_c7
  · exact w_c8
  · exact w_c9
  · exact w_c10
  · exact w_c11
  · exact w_c12
  · exact w_c13
  · exact w_c14
  · exact w_c15
  · exact w_c16
  · exact w_c17
  · exact w_c18
  · exact w_c19
  · exact w_c20
  · exact w_c21
  · exact w_c22
  · exact w_c23
  · exact w_c24
  · exact w_c25
  · exact w_c26
  · exact w_c27
  · exact w_c28
  · exact w_c29
set_option maxRecDepth 65536 in
theorem w_t1 : (words1.take 24).all (fun c => isCode c || c.before args0 about1) = true := by decide +kernel
set_option maxRecDepth 65536 in
theorem w_t2 : ((words1.drop 24).take 24).all (fun c => isCode c || c.before args0 about1) = true := by decide +kernel
set_option maxRecDepth 65536 in
theorem w_t3 : (((words1.drop 24).drop 24).take 24).all (fun c => isCode c || c.before args0 about1) = true := by decide +kernel
set_option maxRecDepth 65536 in
theorem w_t4 : ((((words1.drop 24).drop 24).drop 24).take 24).all (fun c => isCode c || c.before args0 about1) = true := by decide +kernel
set_option maxRecDepth 65536 in
theorem w_t5 : (((((words1.drop 24).drop 24).drop 24).drop 24).take 24).all (fun c => isCode c || c.before args0 about1) = true := by decide +kernel
set_option maxRecDepth 65536 in
theorem w_t6 : (((((words1.drop 24).drop 24).drop 24).drop 24).drop 24).all (fun c => isCode c || c.before args0 about1) = true := by decide +kernel
theorem w_tables : (allAtoms (Jvm.Cond.code x code maxLocals ret :: tables_1)).before args0 about1 = true := by
  rw [allAtoms_all]
  show words1.all (fun c => c.before args0 about1) = true
  refine all_split ?_ w_codes
  rw [← List.take_append_drop 24 words1, List.all_append, w_t1, ← List.take_append_drop 24 (words1.drop 24), List.all_append, w_t2, ← List.take_append_drop 24 ((words1.drop 24).drop 24), List.all_append, w_t3, ← List.take_append_drop 24 (((words1.drop 24).drop 24).drop 24), List.all_append, w_t4, ← List.take_append_drop 24 ((((words1.drop 24).drop 24).drop 24).drop 24), List.all_append, w_t5, w_t6]
  rfl
set_option maxRecDepth 65536 in
theorem w_rest : rest_1_c.before args0 about1 = true := by decide +kernel
set_option maxRecDepth 65536 in
theorem w_case : (Jvm.Cond.and given_1 narrow_1).before args0 about1 = true := by decide +kernel
set_option maxRecDepth 65536 in
theorem w_consts : constsHeld consts_1 about1 := Jvm.Lit.constsHeldB_iff.mp (by decide +kernel)
theorem w_applies : (headSpec (Jvm.Cond.code x code maxLocals ret :: tables_1) room_1).applies x e0.platform about1 = true :=
  (Spec.applies_iff w_frames).mpr ⟨w_running, w_runnable, w_alone, w_named, w_hears, w_ripe, w_room, w_tables⟩
theorem atStart : AtStart classFile x code maxLocals ret World_1 tables_1 room_1 Calls_1 rest_1 Pre_1 launch0 p0 e0 about1 theMethod args0 below0 :=
  ⟨lists_1, trivial, launch0.admits_env _ _ _, launch0.least_env, fairChoices_fair.cas, fairChoices_fair.clock, w_frames, w_args, w_heap, w_applies, ⟨w_consts, trivial⟩, w_rest, w_case⟩
end start1
theorem witness_1 : WitnessClaimed_1 := ⟨start1.p0, start1.e0, start1.about1, start1.theMethod, start1.args0, start1.below0, start1.atStart⟩
end Jvm.Pilot.@@N@@
